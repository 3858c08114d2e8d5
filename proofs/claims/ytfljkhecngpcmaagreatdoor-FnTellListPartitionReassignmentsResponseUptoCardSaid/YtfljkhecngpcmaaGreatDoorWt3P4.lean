/- The texts of a claim, put together: the engine, the contracts, the law. Own work. -/
import Derived.Test.YtfljkhecngpcmaaGreatDoorWt3P3
import Derived.Lib.ConvBytes
namespace Go.Proofs.YtfljkhecngpcmaaGreatDoor.ME
open Go
open Go.RowKit
set_option linter.unusedVariables false
set_option linter.unusedSimpArgs false
set_option maxRecDepth 20000
def qaA (v:Int) (T:Tree):Bs:=(be 4 ((IntKind.i32.wrap (T.at_ 0).N))) ++ (((if (decide (v ≥ 0)) = true then (uv ((lst (T.at_ 1)).length + 1)) else (be 4 (lst (T.at_ 1)).length)) ++ ((lst (T.at_ 1)).flatMap (fun E=>be 4 (IntKind.i32.wrap E.N)))) ++ (((if (decide (v ≥ 0)) = true then (uv ((lst (T.at_ 2)).length + 1)) else (be 4 (lst (T.at_ 2)).length)) ++ ((lst (T.at_ 2)).flatMap (fun E=>be 4 (IntKind.i32.wrap E.N)))) ++ (((if (decide (v ≥ 0)) = true then (uv ((lst (T.at_ 3)).length + 1)) else (be 4 (lst (T.at_ 3)).length)) ++ ((lst (T.at_ 3)).flatMap (fun E=>be 4 (IntKind.i32.wrap E.N)))) ++ (if (decide (v ≥ 0)) = true then (uv T.U.length) ++ (qcK T.U) else []))))
theorem qbo (v:Int) (T:Tree):0 < (qaA v T).length:=qkf (qe3 (by decide))
def qaH (v:Int) (T:Tree):Bs:=(if (decide (v ≥ 0)) = true then (uv ((T.at_ 0).S.length + 1) ++ (T.at_ 0).S) else (be 2 (T.at_ 0).S.length ++ (T.at_ 0).S)) ++ (((if (decide (v ≥ 0)) = true then (uv ((lst (T.at_ 1)).length + 1)) else (be 4 (lst (T.at_ 1)).length)) ++ ((lst (T.at_ 1)).flatMap (qaA v))) ++ (if (decide (v ≥ 0)) = true then (uv T.U.length) ++ (qcK T.U) else []))
theorem qbw (v:Int) (T:Tree):0 < (qaH v T).length:=qkf (qlE (qkf (qlr _)) (qkf (qe3 (by decide))))
def qbF (v:Int) (T:Tree):Bs:=(be 4 ((IntKind.i32.wrap (T.at_ 0).N))) ++ ((be 2 ((IntKind.i16.wrap (T.at_ 1).N))) ++ ((if (decide (v ≥ 0)) = true then (if (T.at_ 2).null = true then uv 0 else uv ((qcN (T.at_ 2)).length + 1) ++ (qcN (T.at_ 2))) else (if (T.at_ 2).null = true then be 2 (-1) else be 2 (qcN (T.at_ 2)).length ++ (qcN (T.at_ 2)))) ++ (((if (decide (v ≥ 0)) = true then (uv ((lst (T.at_ 3)).length + 1)) else (be 4 (lst (T.at_ 3)).length)) ++ ((lst (T.at_ 3)).flatMap (qaH v))) ++ ((if (decide (v ≥ 0)) = true then (uv T.U.length) ++ (qcK T.U) else []) ++ (([]:Bs))))))
theorem qcm (v:Int) (T:Tree):qag v T = qbF v T:=rfl
def qbp (d:DV):List Value:=[.int .i32 ((d.f 0).n),.slice ((d.f 1).A) ((d.f 1).l) ((d.f 1).c),.slice ((d.f 2).A) ((d.f 2).l) ((d.f 2).c),.slice ((d.f 3).A) ((d.f 3).l) ((d.f 3).c),.map d.m]
theorem qaK:qgq qaF:=by
 intro w w' F F' M d hs hM hF h
 unfold qaF at h ⊢
 obtain ⟨g0,⟨g1,g1l,g1e⟩,⟨g2,g2l,g2e⟩,⟨g3,g3l,g3e⟩,t1,t2,t3,_⟩:=h
 exact ⟨g0,⟨g1.move hs hM hF,g1l,g1e⟩,⟨g2.move hs hM hF,g2l,g2e⟩,⟨g3.move hs hM hF,g3l,g3e⟩,t1.move hs hM hF,t2,t3,trivial⟩
def qby (d:DV):List Value:=[.string ((d.f 0).s),.slice ((d.f 1).A) ((d.f 1).l) ((d.f 1).c),.map d.m]
theorem qaV:qgq qaN:=by
 intro w w' F F' M d hs hM hF h
 unfold qaN at h ⊢
 obtain ⟨g0,⟨g1,g1l,g1e⟩,t1,t2,t3,_⟩:=h
 exact ⟨g0,⟨g1.move hs hM hF,g1l,fun i hi=>qaK _ hs hM hF (g1e i hi)⟩,t1.move hs hM hF,t2,t3,trivial⟩
def qaR (v:Int) (D:DV) (T:Tree):Prop:=((D.f 0).n = IntKind.i32.wrap (T.at_ 0).N) ∧ (((D.f 1).l = (lst (T.at_ 1)).length ∧ ∀ i,i < (D.f 1).l → ((D.f 1).f i).n = IntKind.i32.wrap ((lst (T.at_ 1)).getD i .zero).N)) ∧ (((D.f 2).l = (lst (T.at_ 2)).length ∧ ∀ i,i < (D.f 2).l → ((D.f 2).f i).n = IntKind.i32.wrap ((lst (T.at_ 2)).getD i .zero).N)) ∧ (((D.f 3).l = (lst (T.at_ 3)).length ∧ ∀ i,i < (D.f 3).l → ((D.f 3).f i).n = IntKind.i32.wrap ((lst (T.at_ 3)).getD i .zero).N)) ∧ (((decide (v ≥ 0)) = true → D.u = T.U) ∧ ((decide (v ≥ 0)) = false → D.u = [])) ∧ True
def qaY (v:Int) (D:DV) (T:Tree):Prop:=((D.f 0).s = bs (T.at_ 0).S) ∧ (((D.f 1).l = (lst (T.at_ 1)).length ∧ ∀ i,i < (D.f 1).l → qaR v ((D.f 1).f i) ((lst (T.at_ 1)).getD i .zero))) ∧ (((decide (v ≥ 0)) = true → D.u = T.U) ∧ ((decide (v ≥ 0)) = false → D.u = [])) ∧ True
def qaZ (v:Int) (D:DV) (T:Tree):Prop:=((D.f 0).n = IntKind.i32.wrap (T.at_ 0).N) ∧ ((D.f 1).n = IntKind.i16.wrap (T.at_ 1).N) ∧ (((D.f 2).s = bs (qcN (T.at_ 2)) ∧ (D.f 2).A.isNone = (T.at_ 2).null)) ∧ (((D.f 3).l = (lst (T.at_ 3)).length ∧ ∀ i,i < (D.f 3).l → qaY v ((D.f 3).f i) ((lst (T.at_ 3)).getD i .zero))) ∧ (((decide (v ≥ 0)) = true → D.u = T.U) ∧ ((decide (v ≥ 0)) = false → D.u = [])) ∧ True
theorem qlJ (b o:Nat) (w:World):Calls Tryz.prog 112 #[.pointer (some ⟨b,o,none⟩)] w (fun e w'=>e = .returned (.tuple #[]) ∧ w' = w):=by
 refine enter (n:=2) (vs:=[.pointer (some ⟨b,o,none⟩)]) Tryz.func112 rfl Tryz.ntmps112 kz fun a hE=>?_
 refine wp_skip ?_
 exact qbT hE (WOk.start w Nil).cells (v:=.tuple #[]) kz ⟨rfl,rfl⟩
theorem qlK (b o:Nat) (w:World):Calls Tryz.prog 117 #[.pointer (some ⟨b,o,none⟩)] w (fun e w'=>e = .returned (.tuple #[]) ∧ w' = w):=by
 refine enter (n:=2) (vs:=[.pointer (some ⟨b,o,none⟩)]) Tryz.func117 rfl Tryz.ntmps117 kz fun a hE=>?_
 refine wp_skip ?_
 exact qbT hE (WOk.start w Nil).cells (v:=.tuple #[]) kz ⟨rfl,rfl⟩
abbrev z1 (x0) (x1:Tree) (x2):=([.int .i16 x0,.int .i32 (IntKind.i32.wrap (x1.at_ 0).N),.int .i16 (IntKind.i16.wrap (x1.at_ 1).N),.pointer x2,.slice none 0 0,.map none]:List Value)
abbrev z12 (x0:Tree):=([.string (bs (x0.at_ 0).S),.slice none 0 0,.map none]:List Value)
abbrev z29 (x0:Tree):=([.int .i32 (IntKind.i32.wrap (x0.at_ 0).N),.slice none 0 0,.slice none 0 0,.slice none 0 0,.map none]:List Value)
set_option maxHeartbeats 4000000 in
theorem qcn (v:Int) (T:Tree) {bv:Nat} {A:Option Addr} {c:Nat} {w:World} {F:Nat → Nat → Prop} (hst:Str w bv [.int .i16 v,.int .i32 0,.int .i16 0,.pointer none,.slice none 0 0,.map none]) (ho:Octs w F A c (qag v T)) (hFd:∀ b o,F b o → ¬ (b = bv ∧ o < 6)) (hc:qaW T) (hR:T.ranged) :
  Calls Tryz.prog 77 #[.pointer (some ⟨bv,0,none⟩),.slice A (qag v T).length c,.bool false] w (fun e w'=>∃ D:DV,e = .returned .nilIface ∧ Str w' bv [.int .i16 v,.int .i32 ((D.f 0).n),.int .i16 ((D.f 1).n),.pointer ((D.f 2).A),.slice ((D.f 3).A) ((D.f 3).l) ((D.f 3).c),.map D.m] ∧ qa5 w' (Fp F w) D ∧ qaZ v D T ∧ Step w w' (fun b o=>b = bv ∧ o < 6)):=by
 refine enter (n:=276) Tryz.func77 rfl Tryz.ntmps77 kz fun a hE=>?_
 have hW:=WOk.startStr hst
 have hE1:=(hE.grow ⟨bv,0,[.int .i16 v,.int .i32 0,.int .i16 0,.pointer none,.slice none 0 0,.map none],true⟩).recast 0 (.v (.pointer (some ⟨bv,0,none⟩))) (.p 0 0) rfl rfl (Nat.le_of_ble_eq_true (n:=1) rfl)
 refine qar [(0,.p 0 0),(1,.v (.slice A ((qag v T).length) c)),(2,.v (.bool false))] hW hE1 fun a1 hE2=>?_
 refine qae [0,1] kz ?_
 refine qaj [0] [1] [(0,.p 0 0),(1,.v (.slice A ((qag v T).length) c)),(2,.v (.bool false)),(43,.p 0 0)] hW hE2 fun a3 hE4=>?_
 refine qal (qbQ hE4 (f:=75) (vs:=[.pointer (some ⟨bv,0,none⟩)]) (d:=44) (n':=2) kz Tryz.call75 Tryz.func75 rfl Tryz.ntmps75 kz fun a5 hE6=>?_)
 have hE7:=hE6.recast 0 (.v (.pointer (some ⟨bv,0,none⟩))) (.p 0 0) rfl rfl (Nat.le_of_ble_eq_true (n:=1) rfl)
 refine wp_skip (qbT hE7 hW.cells (v:=.tuple #[]) kz ?_)
 refine ⟨_,rfl,fun a8 hE9=>?_⟩
 have iH:EnvOk 276 [⟨bv,0,[.int .i16 v,.int .i32 0,.int .i16 0,.pointer none,.slice none 0 0,.map none],true⟩] [(44,.v (.tuple #[])),(0,.p 0 0),(1,.v (.slice A ((qag v T).length) c)),(2,.v (.bool false)),(43,.p 0 0)] _:=hE9.places (⟨rfl,rfl,trivial⟩)
 refine qaf (qab ?_)
 refine qae [0,1,2,3] kz ?_
 refine qaj [0,1] [2,3] [(0,.p 0 0),(2,.v (.bool false)),(46,.v (.agg #[.slice A ((qag v T).length) c,.bool false]))] hW iH fun jr iI=>?_
 refine qal (qaS hW iI (d:=7) (cs:=[.slice none 0 0,.bool false]) kz fun bd js jt ja jb jc iJ iK=>?_)
 refine qal (qap iJ iK (oi:=1) (cs:=[.slice A ((qag v T).length) c,.bool false]) kz fun ju jd fW iL=>?_)
 refine qaf (qab ?_)
 have gc:=RS.start (F:=F) (s:=qag v T) fW iL (ho.move fW.step (fun b_ o_ h_ _=>hFd b_ o_ h_) (fW.immM hFd)) [(0,.p 1 0),(2,.v (.bool false)),(7,.p 0 0)]
 have i6:=hc
 have e26r:=hR
 unfold qaW at i6
 obtain ⟨e26_0,e26_1,e26_2,⟨e26_3,e26_3e⟩,e26_U,_⟩:=i6
 obtain ⟨bT,gd⟩:∃ R,R = (if (decide (v ≥ 0)) = true then (uv T.U.length) ++ (qcK T.U) else []) ++ ([]:Bs):=⟨_,rfl⟩
 obtain ⟨iE,ge⟩:∃ R,R = ((if (decide (v ≥ 0)) = true then (uv ((lst (T.at_ 3)).length + 1)) else (be 4 (lst (T.at_ 3)).length)) ++ ((lst (T.at_ 3)).flatMap (qaH v))) ++ bT:=⟨_,rfl⟩
 obtain ⟨je,gg⟩:∃ R,R = (if (decide (v ≥ 0)) = true then (if (T.at_ 2).null = true then uv 0 else uv ((qcN (T.at_ 2)).length + 1) ++ (qcN (T.at_ 2))) else (if (T.at_ 2).null = true then be 2 (-1) else be 2 (qcN (T.at_ 2)).length ++ (qcN (T.at_ 2)))) ++ iE:=⟨_,rfl⟩
 obtain ⟨jf,gh⟩:∃ R,R = (be 2 ((IntKind.i16.wrap (T.at_ 1).N))) ++ je:=⟨_,rfl⟩
 obtain ⟨jg,gi⟩:∃ R,R = (be 4 ((IntKind.i32.wrap (T.at_ 0).N))) ++ jf:=⟨_,rfl⟩
 have gj:=gc.cast (t:=jg) (by rw [qcm,gi,gh,gg,ge,gd]; unfold qbF; simp only [List.append_assoc])
 clear gc
 refine wp_seq (qbl [(0,.p 1 0),(2,.v (.bool false)),(7,.p 0 0),(8,.v (.int .i16 v))] gj fun _ gk=>?_)
 clear gj
 refine qab (wp_seq (qbl [(0,.p 1 0),(2,.v (.bool false)),(7,.p 0 0),(8,.v (.int .i16 v))] gk fun _ gl=>?_))
 clear gk
 refine qab (wp_seq (qbl [(0,.p 1 0),(2,.v (.bool false)),(7,.p 0 0),(9,.v (.bool (decide (v ≥ 0))))] gl fun _ gm=>?_))
 clear gl
 refine qab (wp_seq (qbl [(0,.p 1 0),(2,.v (.bool false)),(7,.p 0 0),(9,.v (.bool (decide (v ≥ 0))))] gm fun _ gn=>?_))
 clear gm
 refine qab (wp_seq (qbl [(2,.v (.bool false)),(7,.p 0 0),(9,.v (.bool (decide (v ≥ 0)))),(10,.p 1 0)] gn fun _ gp=>?_))
 clear gn
 refine qab (wp_seq (wp_seq ?_))
 have gq:=gp.cast gi
 clear gp
 refine qeA (d:=56) [(2,.v (.bool false)),(7,.p 0 0),(9,.v (.bool (decide (v ≥ 0)))),(10,.p 1 0),(11,.v (.int .i32 (IntKind.i32.wrap (T.at_ 0).N)))] gq (qg9 _ _) Tryz.call91 fun _ _ gt=>?_
 clear gq
 refine qab (qd9 [⟨bv,0,[.int .i16 v,.int .i32 (IntKind.i32.wrap (T.at_ 0).N),.int .i16 0,.pointer none,.slice none 0 0,.map none],true⟩] 0 [(2,.v (.bool false)),(7,.p 0 0),(9,.v (.bool (decide (v ≥ 0)))),(10,.p 1 0)] gt fun _ _ gv=>?_)
 clear gt
 refine qab (wp_seq (wp_seq ?_))
 have gw:=gv.cast gh
 clear gv
 refine qeA (d:=61) [(2,.v (.bool false)),(7,.p 0 0),(9,.v (.bool (decide (v ≥ 0)))),(10,.p 1 0),(12,.v (.int .i16 (IntKind.i16.wrap (T.at_ 1).N)))] gw (qlF _ _) Tryz.call92 fun _ _ gx=>?_
 clear gw
 refine qab (qd9 [⟨bv,0,[.int .i16 v,.int .i32 (IntKind.i32.wrap (T.at_ 0).N),.int .i16 (IntKind.i16.wrap (T.at_ 1).N),.pointer none,.slice none 0 0,.map none],true⟩] 0 [(2,.v (.bool false)),(7,.p 0 0),(9,.v (.bool (decide (v ≥ 0)))),(10,.p 1 0)] gx fun _ _ gy=>?_)
 clear gx
 refine qab (wp_seq (wp_seq (qbl [(2,.v (.bool false)),(7,.p 0 0),(9,.v (.bool (decide (v ≥ 0)))),(10,.p 1 0)] gy fun _ gz=>?_)))
 clear gy
 refine qab (wp_seq ?_)
 have gA:=gz.cast gg
 clear gz
 refine qfh (Mid:=fun a_ w_=>∃ (am:Option Addr) (P':qcw),(∀ w F,P' w F → noF w F ∧ qkc am (qcN (T.at_ 2)) w F ∧ am.isNone = (T.at_ 2).null) ∧ RS w (fun b o=>b = bv ∧ o < 6) F 276 bd [⟨bv,0,[.int .i16 v,.int .i32 (IntKind.i32.wrap (T.at_ 0).N),.int .i16 (IntKind.i16.wrap (T.at_ 1).N),.pointer none,.slice none 0 0,.map none],true⟩] [(2,.v (.bool false)),(7,.p 0 0),(9,.v (.bool (decide (v ≥ 0)))),(10,.p 1 0),(13,.v (.pointer am))] P' iE a_ w_) ?_ ?_
 ·
  refine wp_seq (qbl [(2,.v (.bool false)),(7,.p 0 0),(9,.v (.bool (decide (v ≥ 0)))),(10,.p 1 0),(66,.v (.bool (decide (v ≥ 0))))] gA fun _ bn=>qab ?_)
  clear gA
  refine qaw bn.env_ (b:=decide (v ≥ 0)) kz (fun fX=>?_) (fun fX=>?_)
  ·
   have gB:=bn.cast (t:=(if (T.at_ 2).null = true then uv 0 else uv ((qcN (T.at_ 2)).length + 1) ++ (qcN (T.at_ 2))) ++ iE) (by rw [if_pos fX])
   clear bn
   refine wp_seq (qbl [(2,.v (.bool false)),(7,.p 0 0),(9,.v (.bool (decide (v ≥ 0)))),(10,.p 1 0),(67,.v (.bool false))] gB fun _ fY=>qab ?_)
   clear gB
   refine qam fY.env_ (b:=false) kz (rfl) ?_
   refine qlD (d:=69) (fun iF=>[(2,.v (.bool false)),(7,.p 0 0),(9,.v (.bool (decide (v ≥ 0)))),(10,.p 1 0),(13,.v (.pointer iF))]) fY (qdv (T.at_ 2).null (qcN (T.at_ 2)) e26_2 _) (fun _=>(MvF.text _ _).and (MvF.is _)) Tryz.call109 fun iF jv _ _ gC iM=>?_
   clear fY
   refine qab ?_
   exact ⟨iF,_,fun w F h_=>⟨(gC _ _ h_).1,(gC _ _ h_).2⟩,iM.pk (env':=[(2,.v (.bool false)),(7,.p 0 0),(9,.v (.bool (decide (v ≥ 0)))),(10,.p 1 0),(13,.v (.pointer iF))])⟩
  have gD:=bn.cast (t:=(if (T.at_ 2).null = true then be 2 (-1) else be 2 (qcN (T.at_ 2)).length ++ (qcN (T.at_ 2))) ++ iE) (by rw [if_neg (by rw [fX]; decide)])
  clear bn
  refine wp_seq (qbl [(2,.v (.bool false)),(7,.p 0 0),(9,.v (.bool (decide (v ≥ 0)))),(10,.p 1 0),(70,.v (.bool false))] gD fun _ fZ=>qab ?_)
  clear gD
  refine qam fZ.env_ (b:=false) kz (rfl) ?_
  refine qlD (d:=72) (fun iG=>[(2,.v (.bool false)),(7,.p 0 0),(9,.v (.bool (decide (v ≥ 0)))),(10,.p 1 0),(13,.v (.pointer iG))]) fZ (qfI (T.at_ 2).null (qcN (T.at_ 2)) e26_2 _) (fun _=>(MvF.text _ _).and (MvF.is _)) Tryz.call111 fun iG jw _ _ gE iN=>?_
  clear fZ
  refine qab ?_
  exact ⟨iG,_,fun w F h_=>⟨(gE _ _ h_).1,(gE _ _ h_).2⟩,iN.pk (env':=[(2,.v (.bool false)),(7,.p 0 0),(9,.v (.bool (decide (v ≥ 0)))),(10,.p 1 0),(13,.v (.pointer iG))])⟩
 rintro _ _ ⟨am,i7,gF,gG⟩
 refine qab (qd9 [⟨bv,0,(z1 v T am),true⟩] 0 [(2,.v (.bool false)),(7,.p 0 0),(9,.v (.bool (decide (v ≥ 0)))),(10,.p 1 0)] gG fun _ _ gH=>?_)
 clear gG
 refine qab (wp_seq (wp_seq (qbl [(2,.v (.bool false)),(7,.p 0 0),(9,.v (.bool (decide (v ≥ 0)))),(10,.p 1 0),(14,.v (.slice none 0 0))] gH fun _ gI=>?_)))
 clear gH
 refine qab (wp_seq (qbl [(2,.v (.bool false)),(7,.p 0 0),(9,.v (.bool (decide (v ≥ 0)))),(10,.p 1 0),(15,.v (.slice none 0 0))] gI fun _ gJ=>?_))
 clear gI
 refine qab (wp_seq (qbl [(2,.v (.bool false)),(7,.p 0 0),(9,.v (.bool (decide (v ≥ 0)))),(10,.p 1 0),(15,.v (.slice none 0 0))] gJ fun _ gK=>?_))
 clear gJ
 refine qab (wp_seq ?_)
 have gL:=gK.cast ge
 clear gK
 have gM:=gL.cast (t:=(if (decide (v ≥ 0)) = true then (uv ((lst (T.at_ 3)).length + 1)) else (be 4 (lst (T.at_ 3)).length)) ++ (((lst (T.at_ 3)).flatMap (qaH v)) ++ bT)) (by rw [List.append_assoc])
 clear gL
 refine qeW (d1:=83) (d2:=84) [(2,.v (.bool false)),(7,.p 0 0),(9,.v (.bool (decide (v ≥ 0)))),(10,.p 1 0),(15,.v (.slice none 0 0)),(82,.v (.bool (decide (v ≥ 0))))] [(2,.v (.bool false)),(7,.p 0 0),(9,.v (.bool (decide (v ≥ 0)))),(10,.p 1 0),(15,.v (.slice none 0 0)),(16,.v (.int .i32 (((lst (T.at_ 3)).length:Nat):Int)))] gM (qb3 ((lst (T.at_ 3)).length) e26_3 _ (flat_ge' (qbw v) _)) Tryz.call93 (qdF ((lst (T.at_ 3)).length) e26_3 _ (flat_ge' (qbw v) _)) Tryz.call94 fun _ _ gN=>?_
 clear gM
 refine qab (wp_seq (wp_seq (qjD (d:=85) [(2,.v (.bool false)),(7,.p 0 0),(9,.v (.bool (decide (v ≥ 0)))),(10,.p 1 0),(15,.v (.slice none 0 0)),(16,.v (.int .i32 (((lst (T.at_ 3)).length:Nat):Int))),(86,.v (.bool false))] gN (pOk _) Tryz.call95 fun _ _ f5=>?_)))
 clear gN
 refine qab (qam f5.env_ (b:=false) kz (rfl) ?_)
 refine wp_skip (qab (wp_seq (qfH (t:=106) (e:=114) (size:=3) (bytes:=48) (d:=89) (A0:=none) (m:=0) (cp:=0) [(2,.v (.bool false)),(7,.p 0 0),(9,.v (.bool (decide (v ≥ 0)))),(10,.p 1 0),(16,.v (.int .i32 (((lst (T.at_ 3)).length:Nat):Int))),(88,.v (.slice none 0 0))] [(2,.v (.bool false)),(7,.p 0 0),(9,.v (.bool (decide (v ≥ 0)))),(10,.p 1 0),(15,.v (.slice none 0 0)),(16,.v (.int .i32 (((lst (T.at_ 3)).length:Nat):Int)))] 1 f5 fun _ gO=>?_)))
 clear f5
 refine qab (qeB (Mid:=fun a_ w_=>∃ (aC:DV) (P':qcw),(∀ w F,P' w F → i7 w F ∧ (Slots w F 3 aC.A aC.c aC.l (fun i=>[.string (((aC.f i).f 0).s),.slice (((aC.f i).f 1).A) (((aC.f i).f 1).l) (((aC.f i).f 1).c),.map ((aC.f i).m)]) ∧ aC.l ≤ 1000000 ∧ ∀ i,i < aC.l → qaN w F (aC.f i)) ∧ (aC.l = (lst (T.at_ 3)).length ∧ ∀ i,i < aC.l → qaY v (aC.f i) ((lst (T.at_ 3)).getD i .zero))) ∧ RS w (fun b o=>b = bv ∧ o < 6) F 276 bd [⟨bv,0,[.int .i16 v,.int .i32 (IntKind.i32.wrap (T.at_ 0).N),.int .i16 (IntKind.i16.wrap (T.at_ 1).N),.pointer am,.slice none 0 0,.map none],true⟩] [(7,.p 0 0),(9,.v (.bool (decide (v ≥ 0)))),(10,.p 1 0),(15,.v (.slice aC.A aC.l aC.c))] P' bT a_ w_) ?_ ?_)
 ·
  refine wp_seq (qbl [(2,.v (.bool false)),(7,.p 0 0),(9,.v (.bool (decide (v ≥ 0)))),(10,.p 1 0),(15,.v (.slice none 0 0)),(16,.v (.int .i32 (((lst (T.at_ 3)).length:Nat):Int))),(91,.v (.bool (decide ((((lst (T.at_ 3)).length:Nat):Int) > 0))))] gO fun _ bo=>qab ?_)
  clear gO
  refine qaw bo.env_ (b:=decide ((((lst (T.at_ 3)).length:Nat):Int) > 0)) kz (fun bO=>?_) (fun bO=>?_)
  ·
   have hn_g88:0 < (lst (T.at_ 3)).length:=by have h_:=of_decide_eq_true bO; omega
   refine qaq [0,1,2,3] kz ?_
   refine qcG [0,1] [2,3] [(2,.v (.bool false)),(7,.p 0 0),(9,.v (.bool (decide (v ≥ 0)))),(10,.p 1 0),(16,.v (.int .i32 (((lst (T.at_ 3)).length:Nat):Int))),(92,.v (.slice none 0 0)),(93,.v (.int .i32 (((lst (T.at_ 3)).length:Nat):Int)))] bo fun _ gP=>?_
   clear bo
   refine qal (qdg (A0:=none) (d:=94) (t:=106) (tn:=21) (e:=114) (size:=3) (bytes:=48) (k:=.i32) (kn:=.i32) (q:=(((lst (T.at_ 3)).length:Nat):Int)) (j:=(lst (T.at_ 3)).length) (.agg #[.string ByteArray.empty,.slice none 0 0,.map none]) gP (fun af ai _ _ hg_g88 hcap_g88 gQ=>?_) rfl hn_g88 (by have:=e26_3; omega))
   clear gP
   refine qcG [3] [] [(2,.v (.bool false)),(7,.p 0 0),(9,.v (.bool (decide (v ≥ 0)))),(10,.p 1 0),(15,.v (.slice (some ⟨af,0,none⟩) ((lst (T.at_ 3)).length) ai)),(16,.v (.int .i32 (((lst (T.at_ 3)).length:Nat):Int)))] gQ fun _ gR=>qaf ?_
   clear gQ
   refine qab (wp_seq (qbl [(2,.v (.bool false)),(7,.p 0 0),(9,.v (.bool (decide (v ≥ 0)))),(10,.p 1 0),(15,.v (.slice (some ⟨af,0,none⟩) ((lst (T.at_ 3)).length) ai)),(16,.v (.int .i32 (((lst (T.at_ 3)).length:Nat):Int))),(17,.v (.int .i32 0))] gR fun _ f7=>?_))
   clear gR
   refine qab (wp_block ?_)
   have bU:=f7.mv
   have gS:=(f7.cast (t:=(lst (T.at_ 3)).flatMap (qaH v) ++ bT) rfl).pk (env':=[(2,.v (.bool false)),(7,.p 0 0),(9,.v (.bool (decide (v ≥ 0)))),(10,.p 1 0),(15,.v (.slice (some ⟨af,0,none⟩) ((lst (T.at_ 3)).length) ai)),(16,.v (.int .i32 (((lst (T.at_ 3)).length:Nat):Int))),(17,.v (.int .i32 ((0:Nat):Int)))])
   clear f7
   refine qfF (tb:=[⟨bv,0,(z1 v T am),true⟩]) (z:=.agg #[.string ByteArray.empty,.slice none 0 0,.map none]) (cl:=qby) (ok:=qaN) (rel:=(qaY v)) (L:=lst (T.at_ 3)) (size:=3) (qaH v) bT (fun k=>[(2,.v (.bool false)),(7,.p 0 0),(9,.v (.bool (decide (v ≥ 0)))),(10,.p 1 0),(15,.v (.slice (some ⟨af,0,none⟩) ((lst (T.at_ 3)).length) ai)),(16,.v (.int .i32 (((lst (T.at_ 3)).length:Nat):Int))),(17,.v (.int .i32 ((k:Nat):Int)))]) gS qaV (fun ag ab _ _ f8 iO gT=>?_) (fun _ _ bV=>?_)
   ·
    obtain ⟨gU,bW,bX⟩:∃ P',(∀ w F,P' w F → (i7 w F ∧ qeX af 3 qby qaN (qaY v) (lst (T.at_ 3)) ag w F)) ∧ RS w (fun b o=>b = bv ∧ o < 6) F 276 bd [⟨bv,0,[.int .i16 v,.int .i32 (IntKind.i32.wrap (T.at_ 0).N),.int .i16 (IntKind.i16.wrap (T.at_ 1).N),.pointer am,.slice none 0 0,.map none],true⟩,qa8 af 3 (.agg #[.string ByteArray.empty,.slice none 0 0,.map none]) ((lst (T.at_ 3)).length) ag] [(2,.v (.bool false)),(7,.p 0 0),(9,.v (.bool (decide (v ≥ 0)))),(10,.p 1 0),(15,.v (.slice (some ⟨af,0,none⟩) ((lst (T.at_ 3)).length) ai)),(16,.v (.int .i32 (((lst (T.at_ 3)).length:Nat):Int))),(17,.v (.int .i32 ((ag:Nat):Int)))] P' ((qaH v) ab ++ (((lst (T.at_ 3)).drop (ag + 1)).flatMap (qaH v) ++ bT)) _ _:=⟨_,fun _ _ h=>h,gT⟩
    clear gT
    obtain ⟨bp,bY⟩:∃ R,R = ((lst (T.at_ 3)).drop (ag + 1)).flatMap (qaH v) ++ bT:=⟨_,rfl⟩
    have gV:=(e26_3e ab (List.mem_of_getElem? f8))
    have e107r:=(qf5 (qfC e26r 3) ab (List.mem_of_getElem? f8))
    unfold qba at gV
    obtain ⟨e107_0,⟨e107_1,e107_1e⟩,e107_U,_⟩:=gV
    obtain ⟨aH,bZ⟩:∃ R,R = (if (decide (v ≥ 0)) = true then (uv ab.U.length) ++ (qcK ab.U) else []) ++ bp:=⟨_,rfl⟩
    obtain ⟨iP,b8⟩:∃ R,R = ((if (decide (v ≥ 0)) = true then (uv ((lst (ab.at_ 1)).length + 1)) else (be 4 (lst (ab.at_ 1)).length)) ++ ((lst (ab.at_ 1)).flatMap (qaA v))) ++ aH:=⟨_,rfl⟩
    obtain ⟨iQ,cd⟩:∃ R,R = (if (decide (v ≥ 0)) = true then (uv ((ab.at_ 0).S.length + 1) ++ (ab.at_ 0).S) else (be 2 (ab.at_ 0).S.length ++ (ab.at_ 0).S)) ++ iP:=⟨_,rfl⟩
    have ce:=bX.cast (t:=iQ) (by rw [cd,b8,bZ,← bY]; unfold qaH; simp only [List.append_assoc])
    clear bX
    refine wp_seq (wp_seq (qbl [(2,.v (.bool false)),(7,.p 0 0),(9,.v (.bool (decide (v ≥ 0)))),(10,.p 1 0),(15,.v (.slice (some ⟨af,0,none⟩) ((lst (T.at_ 3)).length) ai)),(16,.v (.int .i32 (((lst (T.at_ 3)).length:Nat):Int))),(17,.v (.int .i32 ((ag:Nat):Int))),(97,.v (.bool (decide (((ag:Nat):Int) < (((lst (T.at_ 3)).length:Nat):Int)))))] ce fun _ bq=>qab ?_))
    clear ce
    refine qa4 bq.env_ (b:=decide (((ag:Nat):Int) < (((lst (T.at_ 3)).length:Nat):Int))) kz (decide_eq_true (by omega)) ?_
    refine wp_skip (qab (wp_seq (wp_block (wp_seq (qjE (t:=106) (e:=114) (size:=3) (bytes:=48) (d:=102) (tb:=[⟨bv,0,(z1 v T am),true⟩]) (z:=.agg #[.string ByteArray.empty,.slice none 0 0,.map none]) [(2,.v (.bool false)),(7,.p 0 0),(9,.v (.bool (decide (v ≥ 0)))),(10,.p 1 0),(15,.v (.slice (some ⟨af,0,none⟩) ((lst (T.at_ 3)).length) ai)),(16,.v (.int .i32 (((lst (T.at_ 3)).length:Nat):Int))),(17,.v (.int .i32 ((ag:Nat):Int))),(100,.v (.slice (some ⟨af,0,none⟩) ((lst (T.at_ 3)).length) ai)),(101,.v (.int .i32 ((ag:Nat):Int)))] [(2,.v (.bool false)),(7,.p 0 0),(9,.v (.bool (decide (v ≥ 0)))),(10,.p 1 0),(15,.v (.slice (some ⟨af,0,none⟩) ((lst (T.at_ 3)).length) ai)),(16,.v (.int .i32 (((lst (T.at_ 3)).length:Nat):Int))),(17,.v (.int .i32 ((ag:Nat):Int))),(18,.p 3 0)] 2 bq iO rfl kz fun _ cm=>?_)))))
    clear bq
    have cq:=cm.tbEq (tb':=[⟨bv,0,(z1 v T am),true⟩,qa8 af 3 (.agg #[.string ByteArray.empty,.slice none 0 0,.map none]) ((lst (T.at_ 3)).length) (ag + 1),⟨af,ag * 3,[.string ByteArray.empty,.slice none 0 0,.map none],true⟩]) rfl
    clear cm
    refine qab (wp_seq (qaq [0,1] kz ?_))
    refine qcG [0] [1] [(2,.v (.bool false)),(7,.p 0 0),(9,.v (.bool (decide (v ≥ 0)))),(10,.p 1 0),(15,.v (.slice (some ⟨af,0,none⟩) ((lst (T.at_ 3)).length) ai)),(16,.v (.int .i32 (((lst (T.at_ 3)).length:Nat):Int))),(17,.v (.int .i32 ((ag:Nat):Int))),(18,.p 3 0),(103,.p 3 0)] cq fun _ cr=>?_
    clear cq
    refine qal (qkC (d:=104) (vs:=[.pointer (some ⟨af,ag * 3,none⟩)]) cr (fun _=>qlJ _ _ _) Tryz.call112 fun _ cu=>?_)
    clear cr
    refine qaf ?_
    have cw:=cu.pk (env':=[(2,.v (.bool false)),(7,.p 0 0),(9,.v (.bool (decide (v ≥ 0)))),(10,.p 1 0),(15,.v (.slice (some ⟨af,0,none⟩) ((lst (T.at_ 3)).length) ai)),(16,.v (.int .i32 (((lst (T.at_ 3)).length:Nat):Int))),(17,.v (.int .i32 ((ag:Nat):Int))),(18,.p 3 0)])
    clear cu
    refine qab (wp_seq (qbl [(2,.v (.bool false)),(7,.p 0 0),(9,.v (.bool (decide (v ≥ 0)))),(10,.p 1 0),(15,.v (.slice (some ⟨af,0,none⟩) ((lst (T.at_ 3)).length) ai)),(16,.v (.int .i32 (((lst (T.at_ 3)).length:Nat):Int))),(17,.v (.int .i32 ((ag:Nat):Int))),(19,.p 3 0)] cw fun _ cz=>?_))
    clear cw
    refine qab (wp_seq (wp_seq (qbl [(2,.v (.bool false)),(7,.p 0 0),(9,.v (.bool (decide (v ≥ 0)))),(10,.p 1 0),(15,.v (.slice (some ⟨af,0,none⟩) ((lst (T.at_ 3)).length) ai)),(16,.v (.int .i32 (((lst (T.at_ 3)).length:Nat):Int))),(17,.v (.int .i32 ((ag:Nat):Int))),(19,.p 3 0)] cz fun _ cA=>?_)))
    clear cz
    refine qab (wp_seq (wp_seq (qbl [(2,.v (.bool false)),(7,.p 0 0),(9,.v (.bool (decide (v ≥ 0)))),(10,.p 1 0),(15,.v (.slice (some ⟨af,0,none⟩) ((lst (T.at_ 3)).length) ai)),(16,.v (.int .i32 (((lst (T.at_ 3)).length:Nat):Int))),(17,.v (.int .i32 ((ag:Nat):Int))),(19,.p 3 0),(106,.v (.bool false))] cA fun _ bt=>qab ?_)))
    clear cA
    refine qam bt.env_ (b:=false) kz (rfl) ?_
    have cB:=bt.cast cd
    clear bt
    refine qeW (d1:=111) (d2:=112) [(2,.v (.bool false)),(7,.p 0 0),(9,.v (.bool (decide (v ≥ 0)))),(10,.p 1 0),(15,.v (.slice (some ⟨af,0,none⟩) ((lst (T.at_ 3)).length) ai)),(16,.v (.int .i32 (((lst (T.at_ 3)).length:Nat):Int))),(17,.v (.int .i32 ((ag:Nat):Int))),(19,.p 3 0),(110,.v (.bool (decide (v ≥ 0))))] [(2,.v (.bool false)),(7,.p 0 0),(9,.v (.bool (decide (v ≥ 0)))),(10,.p 1 0),(15,.v (.slice (some ⟨af,0,none⟩) ((lst (T.at_ 3)).length) ai)),(16,.v (.int .i32 (((lst (T.at_ 3)).length:Nat):Int))),(17,.v (.int .i32 ((ag:Nat):Int))),(19,.p 3 0),(20,.v (.string (bs (ab.at_ 0).S)))] cB (qfP (ab.at_ 0).S e107_0 _) Tryz.call115 (qlc (ab.at_ 0).S e107_0 _) Tryz.call116 fun _ _ cC=>?_
    clear cB
    refine qab (qd9 [⟨bv,0,(z1 v T am),true⟩,qa8 af 3 (.agg #[.string ByteArray.empty,.slice none 0 0,.map none]) ((lst (T.at_ 3)).length) (ag + 1),⟨af,ag * 3,(z12 ab),true⟩] 2 [(2,.v (.bool false)),(7,.p 0 0),(9,.v (.bool (decide (v ≥ 0)))),(10,.p 1 0),(15,.v (.slice (some ⟨af,0,none⟩) ((lst (T.at_ 3)).length) ai)),(16,.v (.int .i32 (((lst (T.at_ 3)).length:Nat):Int))),(17,.v (.int .i32 ((ag:Nat):Int))),(19,.p 3 0)] cC fun _ _ cD=>?_)
    clear cC
    refine qab (wp_seq (wp_seq (qbl [(2,.v (.bool false)),(7,.p 0 0),(9,.v (.bool (decide (v ≥ 0)))),(10,.p 1 0),(15,.v (.slice (some ⟨af,0,none⟩) ((lst (T.at_ 3)).length) ai)),(16,.v (.int .i32 (((lst (T.at_ 3)).length:Nat):Int))),(17,.v (.int .i32 ((ag:Nat):Int))),(19,.p 3 0),(21,.v (.slice none 0 0))] cD fun _ cE=>?_)))
    clear cD
    refine qab (wp_seq (qbl [(2,.v (.bool false)),(7,.p 0 0),(9,.v (.bool (decide (v ≥ 0)))),(10,.p 1 0),(15,.v (.slice (some ⟨af,0,none⟩) ((lst (T.at_ 3)).length) ai)),(16,.v (.int .i32 (((lst (T.at_ 3)).length:Nat):Int))),(17,.v (.int .i32 ((ag:Nat):Int))),(19,.p 3 0),(22,.v (.slice none 0 0))] cE fun _ cG=>?_))
    clear cE
    refine qab (wp_seq (qbl [(2,.v (.bool false)),(7,.p 0 0),(9,.v (.bool (decide (v ≥ 0)))),(10,.p 1 0),(15,.v (.slice (some ⟨af,0,none⟩) ((lst (T.at_ 3)).length) ai)),(16,.v (.int .i32 (((lst (T.at_ 3)).length:Nat):Int))),(17,.v (.int .i32 ((ag:Nat):Int))),(19,.p 3 0),(22,.v (.slice none 0 0))] cG fun _ cH=>?_))
    clear cG
    refine qab (wp_seq ?_)
    have cI:=cH.cast b8
    clear cH
    have cJ:=cI.cast (t:=(if (decide (v ≥ 0)) = true then (uv ((lst (ab.at_ 1)).length + 1)) else (be 4 (lst (ab.at_ 1)).length)) ++ (((lst (ab.at_ 1)).flatMap (qaA v)) ++ aH)) (by rw [List.append_assoc])
    clear cI
    refine qeW (d1:=123) (d2:=124) [(2,.v (.bool false)),(7,.p 0 0),(9,.v (.bool (decide (v ≥ 0)))),(10,.p 1 0),(15,.v (.slice (some ⟨af,0,none⟩) ((lst (T.at_ 3)).length) ai)),(16,.v (.int .i32 (((lst (T.at_ 3)).length:Nat):Int))),(17,.v (.int .i32 ((ag:Nat):Int))),(19,.p 3 0),(22,.v (.slice none 0 0)),(122,.v (.bool (decide (v ≥ 0))))] [(2,.v (.bool false)),(7,.p 0 0),(9,.v (.bool (decide (v ≥ 0)))),(10,.p 1 0),(15,.v (.slice (some ⟨af,0,none⟩) ((lst (T.at_ 3)).length) ai)),(16,.v (.int .i32 (((lst (T.at_ 3)).length:Nat):Int))),(17,.v (.int .i32 ((ag:Nat):Int))),(19,.p 3 0),(22,.v (.slice none 0 0)),(23,.v (.int .i32 (((lst (ab.at_ 1)).length:Nat):Int)))] cJ (qb3 ((lst (ab.at_ 1)).length) e107_1 _ (flat_ge' (qbo v) _)) Tryz.call93 (qdF ((lst (ab.at_ 1)).length) e107_1 _ (flat_ge' (qbo v) _)) Tryz.call94 fun _ _ cK=>?_
    clear cJ
    refine qab (wp_seq (wp_seq (qjD (d:=125) [(2,.v (.bool false)),(7,.p 0 0),(9,.v (.bool (decide (v ≥ 0)))),(10,.p 1 0),(15,.v (.slice (some ⟨af,0,none⟩) ((lst (T.at_ 3)).length) ai)),(16,.v (.int .i32 (((lst (T.at_ 3)).length:Nat):Int))),(17,.v (.int .i32 ((ag:Nat):Int))),(19,.p 3 0),(22,.v (.slice none 0 0)),(23,.v (.int .i32 (((lst (ab.at_ 1)).length:Nat):Int))),(126,.v (.bool false))] cK (pOk _) Tryz.call95 fun _ _ bu=>?_)))
    clear cK
    refine qab (qam bu.env_ (b:=false) kz (rfl) ?_)
    refine wp_skip (qab (wp_seq (qfH (t:=112) (e:=160) (size:=5) (bytes:=88) (d:=129) (A0:=none) (m:=0) (cp:=0) [(2,.v (.bool false)),(7,.p 0 0),(9,.v (.bool (decide (v ≥ 0)))),(10,.p 1 0),(15,.v (.slice (some ⟨af,0,none⟩) ((lst (T.at_ 3)).length) ai)),(16,.v (.int .i32 (((lst (T.at_ 3)).length:Nat):Int))),(17,.v (.int .i32 ((ag:Nat):Int))),(19,.p 3 0),(23,.v (.int .i32 (((lst (ab.at_ 1)).length:Nat):Int))),(128,.v (.slice none 0 0))] [(2,.v (.bool false)),(7,.p 0 0),(9,.v (.bool (decide (v ≥ 0)))),(10,.p 1 0),(15,.v (.slice (some ⟨af,0,none⟩) ((lst (T.at_ 3)).length) ai)),(16,.v (.int .i32 (((lst (T.at_ 3)).length:Nat):Int))),(17,.v (.int .i32 ((ag:Nat):Int))),(19,.p 3 0),(22,.v (.slice none 0 0)),(23,.v (.int .i32 (((lst (ab.at_ 1)).length:Nat):Int)))] 1 bu fun _ cL=>?_)))
    clear bu
    refine qab (qeB (Mid:=fun a_ w_=>∃ (al:DV) (P':qcw),(∀ w F,P' w F → gU w F ∧ (Slots w F 5 al.A al.c al.l (fun i=>[.int .i32 (((al.f i).f 0).n),.slice (((al.f i).f 1).A) (((al.f i).f 1).l) (((al.f i).f 1).c),.slice (((al.f i).f 2).A) (((al.f i).f 2).l) (((al.f i).f 2).c),.slice (((al.f i).f 3).A) (((al.f i).f 3).l) (((al.f i).f 3).c),.map ((al.f i).m)]) ∧ al.l ≤ 1000000 ∧ ∀ i,i < al.l → qaF w F (al.f i)) ∧ (al.l = (lst (ab.at_ 1)).length ∧ ∀ i,i < al.l → qaR v (al.f i) ((lst (ab.at_ 1)).getD i .zero))) ∧ RS w (fun b o=>b = bv ∧ o < 6) F 276 bd [⟨bv,0,[.int .i16 v,.int .i32 (IntKind.i32.wrap (T.at_ 0).N),.int .i16 (IntKind.i16.wrap (T.at_ 1).N),.pointer am,.slice none 0 0,.map none],true⟩,qa8 af 3 (.agg #[.string ByteArray.empty,.slice none 0 0,.map none]) ((lst (T.at_ 3)).length) (ag + 1),⟨af,ag * 3,[.string (bs (ab.at_ 0).S),.slice none 0 0,.map none],true⟩] [(2,.v (.bool false)),(7,.p 0 0),(9,.v (.bool (decide (v ≥ 0)))),(10,.p 1 0),(15,.v (.slice (some ⟨af,0,none⟩) ((lst (T.at_ 3)).length) ai)),(16,.v (.int .i32 (((lst (T.at_ 3)).length:Nat):Int))),(17,.v (.int .i32 ((ag:Nat):Int))),(19,.p 3 0),(22,.v (.slice al.A al.l al.c))] P' aH a_ w_) ?_ ?_)
    ·
     refine wp_seq (qbl [(2,.v (.bool false)),(7,.p 0 0),(9,.v (.bool (decide (v ≥ 0)))),(10,.p 1 0),(15,.v (.slice (some ⟨af,0,none⟩) ((lst (T.at_ 3)).length) ai)),(16,.v (.int .i32 (((lst (T.at_ 3)).length:Nat):Int))),(17,.v (.int .i32 ((ag:Nat):Int))),(19,.p 3 0),(22,.v (.slice none 0 0)),(23,.v (.int .i32 (((lst (ab.at_ 1)).length:Nat):Int))),(131,.v (.bool (decide ((((lst (ab.at_ 1)).length:Nat):Int) > 0))))] cL fun _ aI=>qab ?_)
     clear cL
     refine qaw aI.env_ (b:=decide ((((lst (ab.at_ 1)).length:Nat):Int) > 0)) kz (fun bf=>?_) (fun bf=>?_)
     ·
      have hn_g144:0 < (lst (ab.at_ 1)).length:=by have h_:=of_decide_eq_true bf; omega
      refine qaq [0,1,2,3] kz ?_
      refine qcG [0,1] [2,3] [(2,.v (.bool false)),(7,.p 0 0),(9,.v (.bool (decide (v ≥ 0)))),(10,.p 1 0),(15,.v (.slice (some ⟨af,0,none⟩) ((lst (T.at_ 3)).length) ai)),(16,.v (.int .i32 (((lst (T.at_ 3)).length:Nat):Int))),(17,.v (.int .i32 ((ag:Nat):Int))),(19,.p 3 0),(23,.v (.int .i32 (((lst (ab.at_ 1)).length:Nat):Int))),(132,.v (.slice none 0 0)),(133,.v (.int .i32 (((lst (ab.at_ 1)).length:Nat):Int)))] aI fun _ cM=>?_
      clear aI
      refine qal (qdg (A0:=none) (d:=134) (t:=112) (tn:=21) (e:=160) (size:=5) (bytes:=88) (k:=.i32) (kn:=.i32) (q:=(((lst (ab.at_ 1)).length:Nat):Int)) (j:=(lst (ab.at_ 1)).length) (.agg #[.int .i32 0,.slice none 0 0,.slice none 0 0,.slice none 0 0,.map none]) cM (fun ac ah _ _ hg_g144 hcap_g144 cN=>?_) rfl hn_g144 (by have:=e107_1; omega))
      clear cM
      refine qcG [3] [] [(2,.v (.bool false)),(7,.p 0 0),(9,.v (.bool (decide (v ≥ 0)))),(10,.p 1 0),(15,.v (.slice (some ⟨af,0,none⟩) ((lst (T.at_ 3)).length) ai)),(16,.v (.int .i32 (((lst (T.at_ 3)).length:Nat):Int))),(17,.v (.int .i32 ((ag:Nat):Int))),(19,.p 3 0),(22,.v (.slice (some ⟨ac,0,none⟩) ((lst (ab.at_ 1)).length) ah)),(23,.v (.int .i32 (((lst (ab.at_ 1)).length:Nat):Int)))] cN fun _ cO=>qaf ?_
      clear cN
      refine qab (wp_seq (qbl [(2,.v (.bool false)),(7,.p 0 0),(9,.v (.bool (decide (v ≥ 0)))),(10,.p 1 0),(15,.v (.slice (some ⟨af,0,none⟩) ((lst (T.at_ 3)).length) ai)),(16,.v (.int .i32 (((lst (T.at_ 3)).length:Nat):Int))),(17,.v (.int .i32 ((ag:Nat):Int))),(19,.p 3 0),(22,.v (.slice (some ⟨ac,0,none⟩) ((lst (ab.at_ 1)).length) ah)),(23,.v (.int .i32 (((lst (ab.at_ 1)).length:Nat):Int))),(24,.v (.int .i32 0))] cO fun _ bw=>?_))
      clear cO
      refine qab (wp_block ?_)
      have bx:=bw.mv
      have gW:=(bw.cast (t:=(lst (ab.at_ 1)).flatMap (qaA v) ++ aH) rfl).pk (env':=[(2,.v (.bool false)),(7,.p 0 0),(9,.v (.bool (decide (v ≥ 0)))),(10,.p 1 0),(15,.v (.slice (some ⟨af,0,none⟩) ((lst (T.at_ 3)).length) ai)),(16,.v (.int .i32 (((lst (T.at_ 3)).length:Nat):Int))),(17,.v (.int .i32 ((ag:Nat):Int))),(19,.p 3 0),(22,.v (.slice (some ⟨ac,0,none⟩) ((lst (ab.at_ 1)).length) ah)),(23,.v (.int .i32 (((lst (ab.at_ 1)).length:Nat):Int))),(24,.v (.int .i32 ((0:Nat):Int)))])
      clear bw
      refine qfF (tb:=[⟨bv,0,(z1 v T am),true⟩,qa8 af 3 (.agg #[.string ByteArray.empty,.slice none 0 0,.map none]) ((lst (T.at_ 3)).length) (ag + 1),⟨af,ag * 3,(z12 ab),true⟩]) (z:=.agg #[.int .i32 0,.slice none 0 0,.slice none 0 0,.slice none 0 0,.map none]) (cl:=qbp) (ok:=qaF) (rel:=(qaR v)) (L:=lst (ab.at_ 1)) (size:=5) (qaA v) aH (fun k=>[(2,.v (.bool false)),(7,.p 0 0),(9,.v (.bool (decide (v ≥ 0)))),(10,.p 1 0),(15,.v (.slice (some ⟨af,0,none⟩) ((lst (T.at_ 3)).length) ai)),(16,.v (.int .i32 (((lst (T.at_ 3)).length:Nat):Int))),(17,.v (.int .i32 ((ag:Nat):Int))),(19,.p 3 0),(22,.v (.slice (some ⟨ac,0,none⟩) ((lst (ab.at_ 1)).length) ah)),(23,.v (.int .i32 (((lst (ab.at_ 1)).length:Nat):Int))),(24,.v (.int .i32 ((k:Nat):Int)))]) gW qaK (fun ae aa _ _ bz gX cP=>?_) (fun _ _ cQ=>?_)
      ·
       obtain ⟨gY,cR,cS⟩:∃ P',(∀ w F,P' w F → (gU w F ∧ qeX ac 5 qbp qaF (qaR v) (lst (ab.at_ 1)) ae w F)) ∧ RS w (fun b o=>b = bv ∧ o < 6) F 276 bd [⟨bv,0,[.int .i16 v,.int .i32 (IntKind.i32.wrap (T.at_ 0).N),.int .i16 (IntKind.i16.wrap (T.at_ 1).N),.pointer am,.slice none 0 0,.map none],true⟩,qa8 af 3 (.agg #[.string ByteArray.empty,.slice none 0 0,.map none]) ((lst (T.at_ 3)).length) (ag + 1),⟨af,ag * 3,[.string (bs (ab.at_ 0).S),.slice none 0 0,.map none],true⟩,qa8 ac 5 (.agg #[.int .i32 0,.slice none 0 0,.slice none 0 0,.slice none 0 0,.map none]) ((lst (ab.at_ 1)).length) ae] [(2,.v (.bool false)),(7,.p 0 0),(9,.v (.bool (decide (v ≥ 0)))),(10,.p 1 0),(15,.v (.slice (some ⟨af,0,none⟩) ((lst (T.at_ 3)).length) ai)),(16,.v (.int .i32 (((lst (T.at_ 3)).length:Nat):Int))),(17,.v (.int .i32 ((ag:Nat):Int))),(19,.p 3 0),(22,.v (.slice (some ⟨ac,0,none⟩) ((lst (ab.at_ 1)).length) ah)),(23,.v (.int .i32 (((lst (ab.at_ 1)).length:Nat):Int))),(24,.v (.int .i32 ((ae:Nat):Int)))] P' ((qaA v) aa ++ (((lst (ab.at_ 1)).drop (ae + 1)).flatMap (qaA v) ++ aH)) _ _:=⟨_,fun _ _ h=>h,cP⟩
       clear cP
       obtain ⟨bA,cT⟩:∃ R,R = ((lst (ab.at_ 1)).drop (ae + 1)).flatMap (qaA v) ++ aH:=⟨_,rfl⟩
       have gZ:=(e107_1e aa (List.mem_of_getElem? bz))
       have e163r:=(qf5 (qfC e107r 1) aa (List.mem_of_getElem? bz))
       unfold qa2 at gZ
       obtain ⟨e163_0,e163_1,e163_2,e163_3,e163_U,_⟩:=gZ
       obtain ⟨aJ,cU⟩:∃ R,R = (if (decide (v ≥ 0)) = true then (uv aa.U.length) ++ (qcK aa.U) else []) ++ bA:=⟨_,rfl⟩
       obtain ⟨aK,cV⟩:∃ R,R = ((if (decide (v ≥ 0)) = true then (uv ((lst (aa.at_ 3)).length + 1)) else (be 4 (lst (aa.at_ 3)).length)) ++ ((lst (aa.at_ 3)).flatMap (fun E=>be 4 (IntKind.i32.wrap E.N)))) ++ aJ:=⟨_,rfl⟩
       obtain ⟨aL,cW⟩:∃ R,R = ((if (decide (v ≥ 0)) = true then (uv ((lst (aa.at_ 2)).length + 1)) else (be 4 (lst (aa.at_ 2)).length)) ++ ((lst (aa.at_ 2)).flatMap (fun E=>be 4 (IntKind.i32.wrap E.N)))) ++ aK:=⟨_,rfl⟩
       obtain ⟨iR,cX⟩:∃ R,R = ((if (decide (v ≥ 0)) = true then (uv ((lst (aa.at_ 1)).length + 1)) else (be 4 (lst (aa.at_ 1)).length)) ++ ((lst (aa.at_ 1)).flatMap (fun E=>be 4 (IntKind.i32.wrap E.N)))) ++ aL:=⟨_,rfl⟩
       obtain ⟨iS,cY⟩:∃ R,R = (be 4 ((IntKind.i32.wrap (aa.at_ 0).N))) ++ iR:=⟨_,rfl⟩
       have cZ:=cS.cast (t:=iS) (by rw [cY,cX,cW,cV,cU,← cT]; unfold qaA; simp only [List.append_assoc])
       clear cS
       refine wp_seq (wp_seq (qbl [(2,.v (.bool false)),(7,.p 0 0),(9,.v (.bool (decide (v ≥ 0)))),(10,.p 1 0),(15,.v (.slice (some ⟨af,0,none⟩) ((lst (T.at_ 3)).length) ai)),(16,.v (.int .i32 (((lst (T.at_ 3)).length:Nat):Int))),(17,.v (.int .i32 ((ag:Nat):Int))),(19,.p 3 0),(22,.v (.slice (some ⟨ac,0,none⟩) ((lst (ab.at_ 1)).length) ah)),(23,.v (.int .i32 (((lst (ab.at_ 1)).length:Nat):Int))),(24,.v (.int .i32 ((ae:Nat):Int))),(137,.v (.bool (decide (((ae:Nat):Int) < (((lst (ab.at_ 1)).length:Nat):Int)))))] cZ fun _ bB=>qab ?_))
       clear cZ
       refine qa4 bB.env_ (b:=decide (((ae:Nat):Int) < (((lst (ab.at_ 1)).length:Nat):Int))) kz (decide_eq_true (by omega)) ?_
       refine wp_skip (qab (wp_seq (wp_block (wp_seq (qjE (t:=112) (e:=160) (size:=5) (bytes:=88) (d:=142) (tb:=[⟨bv,0,(z1 v T am),true⟩,qa8 af 3 (.agg #[.string ByteArray.empty,.slice none 0 0,.map none]) ((lst (T.at_ 3)).length) (ag + 1),⟨af,ag * 3,(z12 ab),true⟩]) (z:=.agg #[.int .i32 0,.slice none 0 0,.slice none 0 0,.slice none 0 0,.map none]) [(2,.v (.bool false)),(7,.p 0 0),(9,.v (.bool (decide (v ≥ 0)))),(10,.p 1 0),(15,.v (.slice (some ⟨af,0,none⟩) ((lst (T.at_ 3)).length) ai)),(16,.v (.int .i32 (((lst (T.at_ 3)).length:Nat):Int))),(17,.v (.int .i32 ((ag:Nat):Int))),(19,.p 3 0),(22,.v (.slice (some ⟨ac,0,none⟩) ((lst (ab.at_ 1)).length) ah)),(23,.v (.int .i32 (((lst (ab.at_ 1)).length:Nat):Int))),(24,.v (.int .i32 ((ae:Nat):Int))),(140,.v (.slice (some ⟨ac,0,none⟩) ((lst (ab.at_ 1)).length) ah)),(141,.v (.int .i32 ((ae:Nat):Int)))] [(2,.v (.bool false)),(7,.p 0 0),(9,.v (.bool (decide (v ≥ 0)))),(10,.p 1 0),(15,.v (.slice (some ⟨af,0,none⟩) ((lst (T.at_ 3)).length) ai)),(16,.v (.int .i32 (((lst (T.at_ 3)).length:Nat):Int))),(17,.v (.int .i32 ((ag:Nat):Int))),(19,.p 3 0),(22,.v (.slice (some ⟨ac,0,none⟩) ((lst (ab.at_ 1)).length) ah)),(23,.v (.int .i32 (((lst (ab.at_ 1)).length:Nat):Int))),(24,.v (.int .i32 ((ae:Nat):Int))),(25,.p 5 0)] 2 bB gX rfl kz fun _ c5=>?_)))))
       clear bB
       have c6:=c5.tbEq (tb':=[⟨bv,0,(z1 v T am),true⟩,qa8 af 3 (.agg #[.string ByteArray.empty,.slice none 0 0,.map none]) ((lst (T.at_ 3)).length) (ag + 1),⟨af,ag * 3,(z12 ab),true⟩,qa8 ac 5 (.agg #[.int .i32 0,.slice none 0 0,.slice none 0 0,.slice none 0 0,.map none]) ((lst (ab.at_ 1)).length) (ae + 1),⟨ac,ae * 5,[.int .i32 0,.slice none 0 0,.slice none 0 0,.slice none 0 0,.map none],true⟩]) rfl
       clear c5
       refine qab (wp_seq (qaq [0,1] kz ?_))
       refine qcG [0] [1] [(2,.v (.bool false)),(7,.p 0 0),(9,.v (.bool (decide (v ≥ 0)))),(10,.p 1 0),(15,.v (.slice (some ⟨af,0,none⟩) ((lst (T.at_ 3)).length) ai)),(16,.v (.int .i32 (((lst (T.at_ 3)).length:Nat):Int))),(17,.v (.int .i32 ((ag:Nat):Int))),(19,.p 3 0),(22,.v (.slice (some ⟨ac,0,none⟩) ((lst (ab.at_ 1)).length) ah)),(23,.v (.int .i32 (((lst (ab.at_ 1)).length:Nat):Int))),(24,.v (.int .i32 ((ae:Nat):Int))),(25,.p 5 0),(143,.p 5 0)] c6 fun _ da=>?_
       clear c6
       refine qal (qkC (d:=144) (vs:=[.pointer (some ⟨ac,ae * 5,none⟩)]) da (fun _=>qlK _ _ _) Tryz.call117 fun _ db=>?_)
       clear da
       refine qaf ?_
       have dc:=db.pk (env':=[(2,.v (.bool false)),(7,.p 0 0),(9,.v (.bool (decide (v ≥ 0)))),(10,.p 1 0),(15,.v (.slice (some ⟨af,0,none⟩) ((lst (T.at_ 3)).length) ai)),(16,.v (.int .i32 (((lst (T.at_ 3)).length:Nat):Int))),(17,.v (.int .i32 ((ag:Nat):Int))),(19,.p 3 0),(22,.v (.slice (some ⟨ac,0,none⟩) ((lst (ab.at_ 1)).length) ah)),(23,.v (.int .i32 (((lst (ab.at_ 1)).length:Nat):Int))),(24,.v (.int .i32 ((ae:Nat):Int))),(25,.p 5 0)])
       clear db
       refine qab (wp_seq (qbl [(2,.v (.bool false)),(7,.p 0 0),(9,.v (.bool (decide (v ≥ 0)))),(10,.p 1 0),(15,.v (.slice (some ⟨af,0,none⟩) ((lst (T.at_ 3)).length) ai)),(16,.v (.int .i32 (((lst (T.at_ 3)).length:Nat):Int))),(17,.v (.int .i32 ((ag:Nat):Int))),(19,.p 3 0),(22,.v (.slice (some ⟨ac,0,none⟩) ((lst (ab.at_ 1)).length) ah)),(23,.v (.int .i32 (((lst (ab.at_ 1)).length:Nat):Int))),(24,.v (.int .i32 ((ae:Nat):Int))),(26,.p 5 0)] dc fun _ de=>?_))
       clear dc
       refine qab (wp_seq (wp_seq ?_))
       have df:=de.cast cY
       clear de
       refine qeA (d:=146) [(2,.v (.bool false)),(7,.p 0 0),(9,.v (.bool (decide (v ≥ 0)))),(10,.p 1 0),(15,.v (.slice (some ⟨af,0,none⟩) ((lst (T.at_ 3)).length) ai)),(16,.v (.int .i32 (((lst (T.at_ 3)).length:Nat):Int))),(17,.v (.int .i32 ((ag:Nat):Int))),(19,.p 3 0),(22,.v (.slice (some ⟨ac,0,none⟩) ((lst (ab.at_ 1)).length) ah)),(23,.v (.int .i32 (((lst (ab.at_ 1)).length:Nat):Int))),(24,.v (.int .i32 ((ae:Nat):Int))),(26,.p 5 0),(27,.v (.int .i32 (IntKind.i32.wrap (aa.at_ 0).N)))] df (qg9 _ _) Tryz.call91 fun _ _ dg=>?_
       clear df
       refine qab (qd9 [⟨bv,0,(z1 v T am),true⟩,qa8 af 3 (.agg #[.string ByteArray.empty,.slice none 0 0,.map none]) ((lst (T.at_ 3)).length) (ag + 1),⟨af,ag * 3,(z12 ab),true⟩,qa8 ac 5 (.agg #[.int .i32 0,.slice none 0 0,.slice none 0 0,.slice none 0 0,.map none]) ((lst (ab.at_ 1)).length) (ae + 1),⟨ac,ae * 5,(z29 aa),true⟩] 4 [(2,.v (.bool false)),(7,.p 0 0),(9,.v (.bool (decide (v ≥ 0)))),(10,.p 1 0),(15,.v (.slice (some ⟨af,0,none⟩) ((lst (T.at_ 3)).length) ai)),(16,.v (.int .i32 (((lst (T.at_ 3)).length:Nat):Int))),(17,.v (.int .i32 ((ag:Nat):Int))),(19,.p 3 0),(22,.v (.slice (some ⟨ac,0,none⟩) ((lst (ab.at_ 1)).length) ah)),(23,.v (.int .i32 (((lst (ab.at_ 1)).length:Nat):Int))),(24,.v (.int .i32 ((ae:Nat):Int))),(26,.p 5 0)] dg fun _ _ dh=>?_)
       clear dg
       refine qab (wp_seq (wp_seq (qbl [(2,.v (.bool false)),(7,.p 0 0),(9,.v (.bool (decide (v ≥ 0)))),(10,.p 1 0),(15,.v (.slice (some ⟨af,0,none⟩) ((lst (T.at_ 3)).length) ai)),(16,.v (.int .i32 (((lst (T.at_ 3)).length:Nat):Int))),(17,.v (.int .i32 ((ag:Nat):Int))),(19,.p 3 0),(22,.v (.slice (some ⟨ac,0,none⟩) ((lst (ab.at_ 1)).length) ah)),(23,.v (.int .i32 (((lst (ab.at_ 1)).length:Nat):Int))),(24,.v (.int .i32 ((ae:Nat):Int))),(26,.p 5 0),(28,.v (.slice none 0 0))] dh fun _ di=>?_)))
       clear dh
       refine qab (wp_seq (qbl [(2,.v (.bool false)),(7,.p 0 0),(9,.v (.bool (decide (v ≥ 0)))),(10,.p 1 0),(15,.v (.slice (some ⟨af,0,none⟩) ((lst (T.at_ 3)).length) ai)),(16,.v (.int .i32 (((lst (T.at_ 3)).length:Nat):Int))),(17,.v (.int .i32 ((ag:Nat):Int))),(19,.p 3 0),(22,.v (.slice (some ⟨ac,0,none⟩) ((lst (ab.at_ 1)).length) ah)),(23,.v (.int .i32 (((lst (ab.at_ 1)).length:Nat):Int))),(24,.v (.int .i32 ((ae:Nat):Int))),(26,.p 5 0),(29,.v (.slice none 0 0))] di fun _ dj=>?_))
       clear di
       refine qab (wp_seq (qbl [(2,.v (.bool false)),(7,.p 0 0),(9,.v (.bool (decide (v ≥ 0)))),(10,.p 1 0),(15,.v (.slice (some ⟨af,0,none⟩) ((lst (T.at_ 3)).length) ai)),(16,.v (.int .i32 (((lst (T.at_ 3)).length:Nat):Int))),(17,.v (.int .i32 ((ag:Nat):Int))),(19,.p 3 0),(22,.v (.slice (some ⟨ac,0,none⟩) ((lst (ab.at_ 1)).length) ah)),(23,.v (.int .i32 (((lst (ab.at_ 1)).length:Nat):Int))),(24,.v (.int .i32 ((ae:Nat):Int))),(26,.p 5 0),(29,.v (.slice none 0 0))] dj fun _ dl=>?_))
       clear dj
       refine qab (wp_seq ?_)
       have dp:=dl.cast cX
       clear dl
       have dq:=dp.cast (t:=(if (decide (v ≥ 0)) = true then (uv ((lst (aa.at_ 1)).length + 1)) else (be 4 (lst (aa.at_ 1)).length)) ++ (((lst (aa.at_ 1)).flatMap (fun E=>be 4 (IntKind.i32.wrap E.N))) ++ aL)) (by rw [List.append_assoc])
       clear dp
       refine qeW (d1:=157) (d2:=158) [(2,.v (.bool false)),(7,.p 0 0),(9,.v (.bool (decide (v ≥ 0)))),(10,.p 1 0),(15,.v (.slice (some ⟨af,0,none⟩) ((lst (T.at_ 3)).length) ai)),(16,.v (.int .i32 (((lst (T.at_ 3)).length:Nat):Int))),(17,.v (.int .i32 ((ag:Nat):Int))),(19,.p 3 0),(22,.v (.slice (some ⟨ac,0,none⟩) ((lst (ab.at_ 1)).length) ah)),(23,.v (.int .i32 (((lst (ab.at_ 1)).length:Nat):Int))),(24,.v (.int .i32 ((ae:Nat):Int))),(26,.p 5 0),(29,.v (.slice none 0 0)),(156,.v (.bool (decide (v ≥ 0))))] [(2,.v (.bool false)),(7,.p 0 0),(9,.v (.bool (decide (v ≥ 0)))),(10,.p 1 0),(15,.v (.slice (some ⟨af,0,none⟩) ((lst (T.at_ 3)).length) ai)),(16,.v (.int .i32 (((lst (T.at_ 3)).length:Nat):Int))),(17,.v (.int .i32 ((ag:Nat):Int))),(19,.p 3 0),(22,.v (.slice (some ⟨ac,0,none⟩) ((lst (ab.at_ 1)).length) ah)),(23,.v (.int .i32 (((lst (ab.at_ 1)).length:Nat):Int))),(24,.v (.int .i32 ((ae:Nat):Int))),(26,.p 5 0),(29,.v (.slice none 0 0)),(30,.v (.int .i32 (((lst (aa.at_ 1)).length:Nat):Int)))] dq (qb3 ((lst (aa.at_ 1)).length) e163_1 _ (flat_ge' (fun E=>qe3 (by decide)) _)) Tryz.call93 (qdF ((lst (aa.at_ 1)).length) e163_1 _ (flat_ge' (fun E=>qe3 (by decide)) _)) Tryz.call94 fun _ _ dr=>?_
       clear dq
       refine qab (wp_seq (wp_seq (qjD (d:=159) [(2,.v (.bool false)),(7,.p 0 0),(9,.v (.bool (decide (v ≥ 0)))),(10,.p 1 0),(15,.v (.slice (some ⟨af,0,none⟩) ((lst (T.at_ 3)).length) ai)),(16,.v (.int .i32 (((lst (T.at_ 3)).length:Nat):Int))),(17,.v (.int .i32 ((ag:Nat):Int))),(19,.p 3 0),(22,.v (.slice (some ⟨ac,0,none⟩) ((lst (ab.at_ 1)).length) ah)),(23,.v (.int .i32 (((lst (ab.at_ 1)).length:Nat):Int))),(24,.v (.int .i32 ((ae:Nat):Int))),(26,.p 5 0),(29,.v (.slice none 0 0)),(30,.v (.int .i32 (((lst (aa.at_ 1)).length:Nat):Int))),(160,.v (.bool false))] dr (pOk _) Tryz.call95 fun _ _ bC=>?_)))
       clear dr
       refine qab (qam bC.env_ (b:=false) kz (rfl) ?_)
       refine wp_skip (qab (wp_seq (qfH (t:=158) (e:=21) (size:=1) (bytes:=4) (d:=163) (A0:=none) (m:=0) (cp:=0) [(2,.v (.bool false)),(7,.p 0 0),(9,.v (.bool (decide (v ≥ 0)))),(10,.p 1 0),(15,.v (.slice (some ⟨af,0,none⟩) ((lst (T.at_ 3)).length) ai)),(16,.v (.int .i32 (((lst (T.at_ 3)).length:Nat):Int))),(17,.v (.int .i32 ((ag:Nat):Int))),(19,.p 3 0),(22,.v (.slice (some ⟨ac,0,none⟩) ((lst (ab.at_ 1)).length) ah)),(23,.v (.int .i32 (((lst (ab.at_ 1)).length:Nat):Int))),(24,.v (.int .i32 ((ae:Nat):Int))),(26,.p 5 0),(30,.v (.int .i32 (((lst (aa.at_ 1)).length:Nat):Int))),(162,.v (.slice none 0 0))] [(2,.v (.bool false)),(7,.p 0 0),(9,.v (.bool (decide (v ≥ 0)))),(10,.p 1 0),(15,.v (.slice (some ⟨af,0,none⟩) ((lst (T.at_ 3)).length) ai)),(16,.v (.int .i32 (((lst (T.at_ 3)).length:Nat):Int))),(17,.v (.int .i32 ((ag:Nat):Int))),(19,.p 3 0),(22,.v (.slice (some ⟨ac,0,none⟩) ((lst (ab.at_ 1)).length) ah)),(23,.v (.int .i32 (((lst (ab.at_ 1)).length:Nat):Int))),(24,.v (.int .i32 ((ae:Nat):Int))),(26,.p 5 0),(29,.v (.slice none 0 0)),(30,.v (.int .i32 (((lst (aa.at_ 1)).length:Nat):Int)))] 1 bC fun _ dt=>?_)))
       clear bC
       refine qab (qeB (Mid:=fun a_ w_=>∃ (aj:DV) (P':qcw),(∀ w F,P' w F → gY w F ∧ (Slots w F 1 aj.A aj.c aj.l (fun i=>[.int .i32 ((aj.f i).n)]) ∧ aj.l ≤ 1000000 ∧ ∀ i,i < aj.l → True) ∧ (aj.l = (lst (aa.at_ 1)).length ∧ ∀ i,i < aj.l → (aj.f i).n = IntKind.i32.wrap ((lst (aa.at_ 1)).getD i .zero).N)) ∧ RS w (fun b o=>b = bv ∧ o < 6) F 276 bd [⟨bv,0,[.int .i16 v,.int .i32 (IntKind.i32.wrap (T.at_ 0).N),.int .i16 (IntKind.i16.wrap (T.at_ 1).N),.pointer am,.slice none 0 0,.map none],true⟩,qa8 af 3 (.agg #[.string ByteArray.empty,.slice none 0 0,.map none]) ((lst (T.at_ 3)).length) (ag + 1),⟨af,ag * 3,[.string (bs (ab.at_ 0).S),.slice none 0 0,.map none],true⟩,qa8 ac 5 (.agg #[.int .i32 0,.slice none 0 0,.slice none 0 0,.slice none 0 0,.map none]) ((lst (ab.at_ 1)).length) (ae + 1),⟨ac,ae * 5,[.int .i32 (IntKind.i32.wrap (aa.at_ 0).N),.slice none 0 0,.slice none 0 0,.slice none 0 0,.map none],true⟩] [(2,.v (.bool false)),(7,.p 0 0),(9,.v (.bool (decide (v ≥ 0)))),(10,.p 1 0),(15,.v (.slice (some ⟨af,0,none⟩) ((lst (T.at_ 3)).length) ai)),(16,.v (.int .i32 (((lst (T.at_ 3)).length:Nat):Int))),(17,.v (.int .i32 ((ag:Nat):Int))),(19,.p 3 0),(22,.v (.slice (some ⟨ac,0,none⟩) ((lst (ab.at_ 1)).length) ah)),(23,.v (.int .i32 (((lst (ab.at_ 1)).length:Nat):Int))),(24,.v (.int .i32 ((ae:Nat):Int))),(26,.p 5 0),(29,.v (.slice aj.A aj.l aj.c))] P' aL a_ w_) ?_ ?_)
       ·
        refine wp_seq (qbl [(2,.v (.bool false)),(7,.p 0 0),(9,.v (.bool (decide (v ≥ 0)))),(10,.p 1 0),(15,.v (.slice (some ⟨af,0,none⟩) ((lst (T.at_ 3)).length) ai)),(16,.v (.int .i32 (((lst (T.at_ 3)).length:Nat):Int))),(17,.v (.int .i32 ((ag:Nat):Int))),(19,.p 3 0),(22,.v (.slice (some ⟨ac,0,none⟩) ((lst (ab.at_ 1)).length) ah)),(23,.v (.int .i32 (((lst (ab.at_ 1)).length:Nat):Int))),(24,.v (.int .i32 ((ae:Nat):Int))),(26,.p 5 0),(29,.v (.slice none 0 0)),(30,.v (.int .i32 (((lst (aa.at_ 1)).length:Nat):Int))),(165,.v (.bool (decide ((((lst (aa.at_ 1)).length:Nat):Int) > 0))))] dt fun _ aM=>qab ?_)
        clear dt
        refine qaw aM.env_ (b:=decide ((((lst (aa.at_ 1)).length:Nat):Int) > 0)) kz (fun bg=>?_) (fun bg=>?_)
        ·
         have hn_g202:0 < (lst (aa.at_ 1)).length:=by have h_:=of_decide_eq_true bg; omega
         refine qaq [0,1,2,3] kz ?_
         refine qcG [0,1] [2,3] [(2,.v (.bool false)),(7,.p 0 0),(9,.v (.bool (decide (v ≥ 0)))),(10,.p 1 0),(15,.v (.slice (some ⟨af,0,none⟩) ((lst (T.at_ 3)).length) ai)),(16,.v (.int .i32 (((lst (T.at_ 3)).length:Nat):Int))),(17,.v (.int .i32 ((ag:Nat):Int))),(19,.p 3 0),(22,.v (.slice (some ⟨ac,0,none⟩) ((lst (ab.at_ 1)).length) ah)),(23,.v (.int .i32 (((lst (ab.at_ 1)).length:Nat):Int))),(24,.v (.int .i32 ((ae:Nat):Int))),(26,.p 5 0),(30,.v (.int .i32 (((lst (aa.at_ 1)).length:Nat):Int))),(166,.v (.slice none 0 0)),(167,.v (.int .i32 (((lst (aa.at_ 1)).length:Nat):Int)))] aM fun _ du=>?_
         clear aM
         refine qal (qdg (A0:=none) (d:=168) (t:=158) (tn:=21) (e:=21) (size:=1) (bytes:=4) (k:=.i32) (kn:=.i32) (q:=(((lst (aa.at_ 1)).length:Nat):Int)) (j:=(lst (aa.at_ 1)).length) (.int .i32 0) du (fun ap aw _ _ hg_g202 hcap_g202 dv=>?_) rfl hn_g202 (by have:=e163_1; omega))
         clear du
         refine qcG [3] [] [(2,.v (.bool false)),(7,.p 0 0),(9,.v (.bool (decide (v ≥ 0)))),(10,.p 1 0),(15,.v (.slice (some ⟨af,0,none⟩) ((lst (T.at_ 3)).length) ai)),(16,.v (.int .i32 (((lst (T.at_ 3)).length:Nat):Int))),(17,.v (.int .i32 ((ag:Nat):Int))),(19,.p 3 0),(22,.v (.slice (some ⟨ac,0,none⟩) ((lst (ab.at_ 1)).length) ah)),(23,.v (.int .i32 (((lst (ab.at_ 1)).length:Nat):Int))),(24,.v (.int .i32 ((ae:Nat):Int))),(26,.p 5 0),(29,.v (.slice (some ⟨ap,0,none⟩) ((lst (aa.at_ 1)).length) aw)),(30,.v (.int .i32 (((lst (aa.at_ 1)).length:Nat):Int)))] dv fun _ dw=>qaf ?_
         clear dv
         refine qab (wp_seq (qbl [(2,.v (.bool false)),(7,.p 0 0),(9,.v (.bool (decide (v ≥ 0)))),(10,.p 1 0),(15,.v (.slice (some ⟨af,0,none⟩) ((lst (T.at_ 3)).length) ai)),(16,.v (.int .i32 (((lst (T.at_ 3)).length:Nat):Int))),(17,.v (.int .i32 ((ag:Nat):Int))),(19,.p 3 0),(22,.v (.slice (some ⟨ac,0,none⟩) ((lst (ab.at_ 1)).length) ah)),(23,.v (.int .i32 (((lst (ab.at_ 1)).length:Nat):Int))),(24,.v (.int .i32 ((ae:Nat):Int))),(26,.p 5 0),(29,.v (.slice (some ⟨ap,0,none⟩) ((lst (aa.at_ 1)).length) aw)),(30,.v (.int .i32 (((lst (aa.at_ 1)).length:Nat):Int))),(31,.v (.int .i32 0))] dw fun _ bD=>?_))
         clear dw
         refine qab (wp_block ?_)
         have bE:=bD.mv
         have g6:=(bD.cast (t:=(lst (aa.at_ 1)).flatMap (fun E=>be 4 (IntKind.i32.wrap E.N)) ++ aL) rfl).pk (env':=[(2,.v (.bool false)),(7,.p 0 0),(9,.v (.bool (decide (v ≥ 0)))),(10,.p 1 0),(15,.v (.slice (some ⟨af,0,none⟩) ((lst (T.at_ 3)).length) ai)),(16,.v (.int .i32 (((lst (T.at_ 3)).length:Nat):Int))),(17,.v (.int .i32 ((ag:Nat):Int))),(19,.p 3 0),(22,.v (.slice (some ⟨ac,0,none⟩) ((lst (ab.at_ 1)).length) ah)),(23,.v (.int .i32 (((lst (ab.at_ 1)).length:Nat):Int))),(24,.v (.int .i32 ((ae:Nat):Int))),(26,.p 5 0),(29,.v (.slice (some ⟨ap,0,none⟩) ((lst (aa.at_ 1)).length) aw)),(30,.v (.int .i32 (((lst (aa.at_ 1)).length:Nat):Int))),(31,.v (.int .i32 ((0:Nat):Int)))])
         clear bD
         refine qfF (tb:=[⟨bv,0,(z1 v T am),true⟩,qa8 af 3 (.agg #[.string ByteArray.empty,.slice none 0 0,.map none]) ((lst (T.at_ 3)).length) (ag + 1),⟨af,ag * 3,(z12 ab),true⟩,qa8 ac 5 (.agg #[.int .i32 0,.slice none 0 0,.slice none 0 0,.slice none 0 0,.map none]) ((lst (ab.at_ 1)).length) (ae + 1),⟨ac,ae * 5,(z29 aa),true⟩]) (z:=.int .i32 0) (cl:=(fun d=>[.int .i32 d.n])) (ok:=qfE) (rel:=(fun d t=>d.n = IntKind.i32.wrap t.N)) (L:=lst (aa.at_ 1)) (size:=1) (fun E=>be 4 (IntKind.i32.wrap E.N)) aL (fun k=>[(2,.v (.bool false)),(7,.p 0 0),(9,.v (.bool (decide (v ≥ 0)))),(10,.p 1 0),(15,.v (.slice (some ⟨af,0,none⟩) ((lst (T.at_ 3)).length) ai)),(16,.v (.int .i32 (((lst (T.at_ 3)).length:Nat):Int))),(17,.v (.int .i32 ((ag:Nat):Int))),(19,.p 3 0),(22,.v (.slice (some ⟨ac,0,none⟩) ((lst (ab.at_ 1)).length) ah)),(23,.v (.int .i32 (((lst (ab.at_ 1)).length:Nat):Int))),(24,.v (.int .i32 ((ae:Nat):Int))),(26,.p 5 0),(29,.v (.slice (some ⟨ap,0,none⟩) ((lst (aa.at_ 1)).length) aw)),(30,.v (.int .i32 (((lst (aa.at_ 1)).length:Nat):Int))),(31,.v (.int .i32 ((k:Nat):Int)))]) g6 qez (fun ax aV _ _ g7 g8 dx=>?_) (fun _ _ dy=>?_)
         ·
          obtain ⟨jh,dz,dA⟩:∃ P',(∀ w F,P' w F → (gY w F ∧ qeX ap 1 (fun d=>[.int .i32 d.n]) qfE (fun d t=>d.n = IntKind.i32.wrap t.N) (lst (aa.at_ 1)) ax w F)) ∧ RS w (fun b o=>b = bv ∧ o < 6) F 276 bd [⟨bv,0,[.int .i16 v,.int .i32 (IntKind.i32.wrap (T.at_ 0).N),.int .i16 (IntKind.i16.wrap (T.at_ 1).N),.pointer am,.slice none 0 0,.map none],true⟩,qa8 af 3 (.agg #[.string ByteArray.empty,.slice none 0 0,.map none]) ((lst (T.at_ 3)).length) (ag + 1),⟨af,ag * 3,[.string (bs (ab.at_ 0).S),.slice none 0 0,.map none],true⟩,qa8 ac 5 (.agg #[.int .i32 0,.slice none 0 0,.slice none 0 0,.slice none 0 0,.map none]) ((lst (ab.at_ 1)).length) (ae + 1),⟨ac,ae * 5,[.int .i32 (IntKind.i32.wrap (aa.at_ 0).N),.slice none 0 0,.slice none 0 0,.slice none 0 0,.map none],true⟩,qa8 ap 1 (.int .i32 0) ((lst (aa.at_ 1)).length) ax] [(2,.v (.bool false)),(7,.p 0 0),(9,.v (.bool (decide (v ≥ 0)))),(10,.p 1 0),(15,.v (.slice (some ⟨af,0,none⟩) ((lst (T.at_ 3)).length) ai)),(16,.v (.int .i32 (((lst (T.at_ 3)).length:Nat):Int))),(17,.v (.int .i32 ((ag:Nat):Int))),(19,.p 3 0),(22,.v (.slice (some ⟨ac,0,none⟩) ((lst (ab.at_ 1)).length) ah)),(23,.v (.int .i32 (((lst (ab.at_ 1)).length:Nat):Int))),(24,.v (.int .i32 ((ae:Nat):Int))),(26,.p 5 0),(29,.v (.slice (some ⟨ap,0,none⟩) ((lst (aa.at_ 1)).length) aw)),(30,.v (.int .i32 (((lst (aa.at_ 1)).length:Nat):Int))),(31,.v (.int .i32 ((ax:Nat):Int)))] P' ((fun E=>be 4 (IntKind.i32.wrap E.N)) aV ++ (((lst (aa.at_ 1)).drop (ax + 1)).flatMap (fun E=>be 4 (IntKind.i32.wrap E.N)) ++ aL)) _ _:=⟨_,fun _ _ h=>h,dx⟩
          clear dx
          obtain ⟨g9,dB⟩:∃ R,R = ((lst (aa.at_ 1)).drop (ax + 1)).flatMap (fun E=>be 4 (IntKind.i32.wrap E.N)) ++ aL:=⟨_,rfl⟩
          have dC:=dA.cast (t:=(fun E=>be 4 (IntKind.i32.wrap E.N)) aV ++ g9) (by rw [dB])
          clear dA
          have dD:=dC.cast (t:=(be 4 (IntKind.i32.wrap aV.N)) ++ g9) rfl
          clear dC
          refine wp_seq (wp_seq (qbl [(2,.v (.bool false)),(7,.p 0 0),(9,.v (.bool (decide (v ≥ 0)))),(10,.p 1 0),(15,.v (.slice (some ⟨af,0,none⟩) ((lst (T.at_ 3)).length) ai)),(16,.v (.int .i32 (((lst (T.at_ 3)).length:Nat):Int))),(17,.v (.int .i32 ((ag:Nat):Int))),(19,.p 3 0),(22,.v (.slice (some ⟨ac,0,none⟩) ((lst (ab.at_ 1)).length) ah)),(23,.v (.int .i32 (((lst (ab.at_ 1)).length:Nat):Int))),(24,.v (.int .i32 ((ae:Nat):Int))),(26,.p 5 0),(29,.v (.slice (some ⟨ap,0,none⟩) ((lst (aa.at_ 1)).length) aw)),(30,.v (.int .i32 (((lst (aa.at_ 1)).length:Nat):Int))),(31,.v (.int .i32 ((ax:Nat):Int))),(171,.v (.bool (decide (((ax:Nat):Int) < (((lst (aa.at_ 1)).length:Nat):Int)))))] dD fun _ bF=>qab ?_))
          clear dD
          refine qa4 bF.env_ (b:=decide (((ax:Nat):Int) < (((lst (aa.at_ 1)).length:Nat):Int))) kz (decide_eq_true (by omega)) ?_
          refine wp_skip (qab (wp_seq (wp_block (wp_seq (qeA (d:=174) [(2,.v (.bool false)),(7,.p 0 0),(9,.v (.bool (decide (v ≥ 0)))),(10,.p 1 0),(15,.v (.slice (some ⟨af,0,none⟩) ((lst (T.at_ 3)).length) ai)),(16,.v (.int .i32 (((lst (T.at_ 3)).length:Nat):Int))),(17,.v (.int .i32 ((ag:Nat):Int))),(19,.p 3 0),(22,.v (.slice (some ⟨ac,0,none⟩) ((lst (ab.at_ 1)).length) ah)),(23,.v (.int .i32 (((lst (ab.at_ 1)).length:Nat):Int))),(24,.v (.int .i32 ((ae:Nat):Int))),(26,.p 5 0),(29,.v (.slice (some ⟨ap,0,none⟩) ((lst (aa.at_ 1)).length) aw)),(30,.v (.int .i32 (((lst (aa.at_ 1)).length:Nat):Int))),(31,.v (.int .i32 ((ax:Nat):Int))),(32,.v (.int .i32 (IntKind.i32.wrap aV.N)))] bF (qg9 _ _) Tryz.call91 fun _ _ dE=>?_)))))
          clear bF
          refine qab (qaq [0,1,2,3,4] kz ?_)
          refine qcG [0,1,2] [3,4] [(2,.v (.bool false)),(7,.p 0 0),(9,.v (.bool (decide (v ≥ 0)))),(10,.p 1 0),(15,.v (.slice (some ⟨af,0,none⟩) ((lst (T.at_ 3)).length) ai)),(16,.v (.int .i32 (((lst (T.at_ 3)).length:Nat):Int))),(17,.v (.int .i32 ((ag:Nat):Int))),(19,.p 3 0),(22,.v (.slice (some ⟨ac,0,none⟩) ((lst (ab.at_ 1)).length) ah)),(23,.v (.int .i32 (((lst (ab.at_ 1)).length:Nat):Int))),(24,.v (.int .i32 ((ae:Nat):Int))),(26,.p 5 0),(29,.v (.slice (some ⟨ap,0,none⟩) ((lst (aa.at_ 1)).length) aw)),(30,.v (.int .i32 (((lst (aa.at_ 1)).length:Nat):Int))),(31,.v (.int .i32 ((ax:Nat):Int))),(175,.v (.slice (some ⟨ap,0,none⟩) ((lst (aa.at_ 1)).length) aw)),(176,.v (.int .i32 ((ax:Nat):Int))),(177,.v (.int .i32 (IntKind.i32.wrap aV.N)))] dE fun _ dF=>?_
          clear dE
          refine qal (qfi (t:=158) (e:=21) (size:=1) (bytes:=4) (d:=178) (tb:=[⟨bv,0,(z1 v T am),true⟩,qa8 af 3 (.agg #[.string ByteArray.empty,.slice none 0 0,.map none]) ((lst (T.at_ 3)).length) (ag + 1),⟨af,ag * 3,(z12 ab),true⟩,qa8 ac 5 (.agg #[.int .i32 0,.slice none 0 0,.slice none 0 0,.slice none 0 0,.map none]) ((lst (ab.at_ 1)).length) (ae + 1),⟨ac,ae * 5,(z29 aa),true⟩]) (z:=.int .i32 0) dF g8 rfl kz fun _ dG=>?_)
          clear dF
          refine qal (qd0 [⟨bv,0,(z1 v T am),true⟩,qa8 af 3 (.agg #[.string ByteArray.empty,.slice none 0 0,.map none]) ((lst (T.at_ 3)).length) (ag + 1),⟨af,ag * 3,(z12 ab),true⟩,qa8 ac 5 (.agg #[.int .i32 0,.slice none 0 0,.slice none 0 0,.slice none 0 0,.map none]) ((lst (ab.at_ 1)).length) (ae + 1),⟨ac,ae * 5,(z29 aa),true⟩,qa8 ap 1 (.int .i32 0) ((lst (aa.at_ 1)).length) (ax + 1),⟨ap,ax * 1,[.int .i32 (IntKind.i32.wrap aV.N)],true⟩] 6 dG fun _ dH=>qaf ?_)
          clear dG
          have dI:=dH.pk (env':=[(2,.v (.bool false)),(7,.p 0 0),(9,.v (.bool (decide (v ≥ 0)))),(10,.p 1 0),(15,.v (.slice (some ⟨af,0,none⟩) ((lst (T.at_ 3)).length) ai)),(16,.v (.int .i32 (((lst (T.at_ 3)).length:Nat):Int))),(17,.v (.int .i32 ((ag:Nat):Int))),(19,.p 3 0),(22,.v (.slice (some ⟨ac,0,none⟩) ((lst (ab.at_ 1)).length) ah)),(23,.v (.int .i32 (((lst (ab.at_ 1)).length:Nat):Int))),(24,.v (.int .i32 ((ae:Nat):Int))),(26,.p 5 0),(29,.v (.slice (some ⟨ap,0,none⟩) ((lst (aa.at_ 1)).length) aw)),(30,.v (.int .i32 (((lst (aa.at_ 1)).length:Nat):Int))),(31,.v (.int .i32 ((ax:Nat):Int)))])
          clear dH
          refine qas (qab (qbl [(2,.v (.bool false)),(7,.p 0 0),(9,.v (.bool (decide (v ≥ 0)))),(10,.p 1 0),(15,.v (.slice (some ⟨af,0,none⟩) ((lst (T.at_ 3)).length) ai)),(16,.v (.int .i32 (((lst (T.at_ 3)).length:Nat):Int))),(17,.v (.int .i32 ((ag:Nat):Int))),(19,.p 3 0),(22,.v (.slice (some ⟨ac,0,none⟩) ((lst (ab.at_ 1)).length) ah)),(23,.v (.int .i32 (((lst (ab.at_ 1)).length:Nat):Int))),(24,.v (.int .i32 ((ae:Nat):Int))),(26,.p 5 0),(29,.v (.slice (some ⟨ap,0,none⟩) ((lst (aa.at_ 1)).length) aw)),(30,.v (.int .i32 (((lst (aa.at_ 1)).length:Nat):Int))),(31,.v (.int .i32 (IntKind.i32.wrap (((ax:Nat):Int) + 1))))] dI fun _ dJ=>?_))
          clear dI
          refine qab ?_
          have hC:=(dJ.envEq (env':=[(2,.v (.bool false)),(7,.p 0 0),(9,.v (.bool (decide (v ≥ 0)))),(10,.p 1 0),(15,.v (.slice (some ⟨af,0,none⟩) ((lst (T.at_ 3)).length) ai)),(16,.v (.int .i32 (((lst (T.at_ 3)).length:Nat):Int))),(17,.v (.int .i32 ((ag:Nat):Int))),(19,.p 3 0),(22,.v (.slice (some ⟨ac,0,none⟩) ((lst (ab.at_ 1)).length) ah)),(23,.v (.int .i32 (((lst (ab.at_ 1)).length:Nat):Int))),(24,.v (.int .i32 ((ae:Nat):Int))),(26,.p 5 0),(29,.v (.slice (some ⟨ap,0,none⟩) ((lst (aa.at_ 1)).length) aw)),(30,.v (.int .i32 (((lst (aa.at_ 1)).length:Nat):Int))),(31,.v (.int .i32 ((ax + 1:Nat):Int)))]) (by rw [qeC (by have:=e163_1; omega)])).pk (env':=[(2,.v (.bool false)),(7,.p 0 0),(9,.v (.bool (decide (v ≥ 0)))),(10,.p 1 0),(15,.v (.slice (some ⟨af,0,none⟩) ((lst (T.at_ 3)).length) ai)),(16,.v (.int .i32 (((lst (T.at_ 3)).length:Nat):Int))),(17,.v (.int .i32 ((ag:Nat):Int))),(19,.p 3 0),(22,.v (.slice (some ⟨ac,0,none⟩) ((lst (ab.at_ 1)).length) ah)),(23,.v (.int .i32 (((lst (ab.at_ 1)).length:Nat):Int))),(24,.v (.int .i32 ((ae:Nat):Int))),(26,.p 5 0),(29,.v (.slice (some ⟨ap,0,none⟩) ((lst (aa.at_ 1)).length) aw)),(30,.v (.int .i32 (((lst (aa.at_ 1)).length:Nat):Int))),(31,.v (.int .i32 ((ax + 1:Nat):Int)))])
          clear dJ
          exact (RS.thing (tb:=[⟨bv,0,[.int .i16 v,.int .i32 (IntKind.i32.wrap (T.at_ 0).N),.int .i16 (IntKind.i16.wrap (T.at_ 1).N),.pointer am,.slice none 0 0,.map none],true⟩,qa8 af 3 (.agg #[.string ByteArray.empty,.slice none 0 0,.map none]) ((lst (T.at_ 3)).length) (ag + 1),⟨af,ag * 3,[.string (bs (ab.at_ 0).S),.slice none 0 0,.map none],true⟩,qa8 ac 5 (.agg #[.int .i32 0,.slice none 0 0,.slice none 0 0,.slice none 0 0,.map none]) ((lst (ab.at_ 1)).length) (ae + 1),⟨ac,ae * 5,[.int .i32 (IntKind.i32.wrap (aa.at_ 0).N),.slice none 0 0,.slice none 0 0,.slice none 0 0,.map none],true⟩]) (z:=.int .i32 0) (D:=dvN (IntKind.i32.wrap aV.N)) (hC.cast dB) hg_g202 g7 qez bE rfl (fun w F h_=>⟨(dz _ _ h_).1,(dz _ _ h_).2,trivial,rfl⟩) kz)
         refine wp_seq (wp_seq (qbl [(2,.v (.bool false)),(7,.p 0 0),(9,.v (.bool (decide (v ≥ 0)))),(10,.p 1 0),(15,.v (.slice (some ⟨af,0,none⟩) ((lst (T.at_ 3)).length) ai)),(16,.v (.int .i32 (((lst (T.at_ 3)).length:Nat):Int))),(17,.v (.int .i32 ((ag:Nat):Int))),(19,.p 3 0),(22,.v (.slice (some ⟨ac,0,none⟩) ((lst (ab.at_ 1)).length) ah)),(23,.v (.int .i32 (((lst (ab.at_ 1)).length:Nat):Int))),(24,.v (.int .i32 ((ae:Nat):Int))),(26,.p 5 0),(29,.v (.slice (some ⟨ap,0,none⟩) ((lst (aa.at_ 1)).length) aw)),(30,.v (.int .i32 (((lst (aa.at_ 1)).length:Nat):Int))),(31,.v (.int .i32 (((lst (aa.at_ 1)).length:Nat):Int))),(171,.v (.bool (decide ((((lst (aa.at_ 1)).length:Nat):Int) < (((lst (aa.at_ 1)).length:Nat):Int)))))] dy fun _ dK=>qab ?_))
         clear dy
         refine qam dK.env_ (b:=decide ((((lst (aa.at_ 1)).length:Nat):Int) < (((lst (aa.at_ 1)).length:Nat):Int))) kz (decide_eq_false (by omega)) ?_
         refine wp_exit (qau (qau (qaL (qab ?_))))
         obtain ⟨iT,hJ⟩:=RS.listEnd (tb:=[⟨bv,0,(z1 v T am),true⟩,qa8 af 3 (.agg #[.string ByteArray.empty,.slice none 0 0,.map none]) ((lst (T.at_ 3)).length) (ag + 1),⟨af,ag * 3,(z12 ab),true⟩,qa8 ac 5 (.agg #[.int .i32 0,.slice none 0 0,.slice none 0 0,.slice none 0 0,.map none]) ((lst (ab.at_ 1)).length) (ae + 1),⟨ac,ae * 5,(z29 aa),true⟩]) (c:=aw) (dK.pk (env':=[(2,.v (.bool false)),(7,.p 0 0),(9,.v (.bool (decide (v ≥ 0)))),(10,.p 1 0),(15,.v (.slice (some ⟨af,0,none⟩) ((lst (T.at_ 3)).length) ai)),(16,.v (.int .i32 (((lst (T.at_ 3)).length:Nat):Int))),(17,.v (.int .i32 ((ag:Nat):Int))),(19,.p 3 0),(22,.v (.slice (some ⟨ac,0,none⟩) ((lst (ab.at_ 1)).length) ah)),(23,.v (.int .i32 (((lst (ab.at_ 1)).length:Nat):Int))),(24,.v (.int .i32 ((ae:Nat):Int))),(26,.p 5 0),(29,.v (.slice (some ⟨ap,0,none⟩) ((lst (aa.at_ 1)).length) aw))])) hg_g202 qez bE hcap_g202 (by have:=e163_1; omega) hn_g202 kz
         exact ⟨dvL (some ⟨ap,0,none⟩) (lst (aa.at_ 1)).length aw iT,_,fun w F h_=>⟨h_.1,⟨h_.2.1,Nat.le_trans e163_1 (by decide),h_.2.2.1⟩,⟨rfl,h_.2.2.2⟩⟩,hJ⟩
        refine wp_skip (qab (wp_seq (qbl [(2,.v (.bool false)),(7,.p 0 0),(9,.v (.bool (decide (v ≥ 0)))),(10,.p 1 0),(15,.v (.slice (some ⟨af,0,none⟩) ((lst (T.at_ 3)).length) ai)),(16,.v (.int .i32 (((lst (T.at_ 3)).length:Nat):Int))),(17,.v (.int .i32 ((ag:Nat):Int))),(19,.p 3 0),(22,.v (.slice (some ⟨ac,0,none⟩) ((lst (ab.at_ 1)).length) ah)),(23,.v (.int .i32 (((lst (ab.at_ 1)).length:Nat):Int))),(24,.v (.int .i32 ((ae:Nat):Int))),(26,.p 5 0),(29,.v (.slice none 0 0)),(30,.v (.int .i32 (((lst (aa.at_ 1)).length:Nat):Int))),(31,.v (.int .i32 0))] aM fun _ dL=>?_)))
        clear aM
        refine qab (wp_block (qd1 (wp_seq (wp_seq (qbl [(2,.v (.bool false)),(7,.p 0 0),(9,.v (.bool (decide (v ≥ 0)))),(10,.p 1 0),(15,.v (.slice (some ⟨af,0,none⟩) ((lst (T.at_ 3)).length) ai)),(16,.v (.int .i32 (((lst (T.at_ 3)).length:Nat):Int))),(17,.v (.int .i32 ((ag:Nat):Int))),(19,.p 3 0),(22,.v (.slice (some ⟨ac,0,none⟩) ((lst (ab.at_ 1)).length) ah)),(23,.v (.int .i32 (((lst (ab.at_ 1)).length:Nat):Int))),(24,.v (.int .i32 ((ae:Nat):Int))),(26,.p 5 0),(29,.v (.slice none 0 0)),(30,.v (.int .i32 (((lst (aa.at_ 1)).length:Nat):Int))),(31,.v (.int .i32 0)),(171,.v (.bool (decide (0 < (((lst (aa.at_ 1)).length:Nat):Int)))))] dL fun _ dM=>qab ?_)))))
        clear dL
        refine qam dM.env_ (b:=decide (0 < (((lst (aa.at_ 1)).length:Nat):Int))) kz (decide_eq_false (by have h_:=of_decide_eq_false bg; omega)) ?_
        refine wp_exit (qau (qau (qaL (qab ?_))))
        have hz_:(lst (aa.at_ 1)).length = 0:=by have h_:=of_decide_eq_false bg; omega
        exact ⟨dvL none 0 0 (fun _=>dv0),_,fun w F h_=>⟨h_,⟨Slots.nil _ _ _ _,Nat.zero_le _,fun _ h=>absurd h (Nat.not_lt_zero _)⟩,⟨hz_.symm,fun _ h=>absurd h (Nat.not_lt_zero _)⟩⟩,(dM.cast (t:=aL) (by rw [List.eq_nil_of_length_eq_zero hz_]; rfl)).pk (env':=[(2,.v (.bool false)),(7,.p 0 0),(9,.v (.bool (decide (v ≥ 0)))),(10,.p 1 0),(15,.v (.slice (some ⟨af,0,none⟩) ((lst (T.at_ 3)).length) ai)),(16,.v (.int .i32 (((lst (T.at_ 3)).length:Nat):Int))),(17,.v (.int .i32 ((ag:Nat):Int))),(19,.p 3 0),(22,.v (.slice (some ⟨ac,0,none⟩) ((lst (ab.at_ 1)).length) ah)),(23,.v (.int .i32 (((lst (ab.at_ 1)).length:Nat):Int))),(24,.v (.int .i32 ((ae:Nat):Int))),(26,.p 5 0),(29,.v (.slice none 0 0))])⟩
       rintro _ _ ⟨aj,hK,bh,dN⟩
       refine wp_seq (qbl [(2,.v (.bool false)),(7,.p 0 0),(9,.v (.bool (decide (v ≥ 0)))),(10,.p 1 0),(15,.v (.slice (some ⟨af,0,none⟩) ((lst (T.at_ 3)).length) ai)),(16,.v (.int .i32 (((lst (T.at_ 3)).length:Nat):Int))),(17,.v (.int .i32 ((ag:Nat):Int))),(19,.p 3 0),(22,.v (.slice (some ⟨ac,0,none⟩) ((lst (ab.at_ 1)).length) ah)),(23,.v (.int .i32 (((lst (ab.at_ 1)).length:Nat):Int))),(24,.v (.int .i32 ((ae:Nat):Int))),(26,.p 5 0),(28,.v (.slice aj.A aj.l aj.c))] dN fun _ dO=>?_)
       clear dN
       refine qab (qd9 [⟨bv,0,(z1 v T am),true⟩,qa8 af 3 (.agg #[.string ByteArray.empty,.slice none 0 0,.map none]) ((lst (T.at_ 3)).length) (ag + 1),⟨af,ag * 3,(z12 ab),true⟩,qa8 ac 5 (.agg #[.int .i32 0,.slice none 0 0,.slice none 0 0,.slice none 0 0,.map none]) ((lst (ab.at_ 1)).length) (ae + 1),⟨ac,ae * 5,[.int .i32 (IntKind.i32.wrap (aa.at_ 0).N),.slice aj.A aj.l aj.c,.slice none 0 0,.slice none 0 0,.map none],true⟩] 4 [(2,.v (.bool false)),(7,.p 0 0),(9,.v (.bool (decide (v ≥ 0)))),(10,.p 1 0),(15,.v (.slice (some ⟨af,0,none⟩) ((lst (T.at_ 3)).length) ai)),(16,.v (.int .i32 (((lst (T.at_ 3)).length:Nat):Int))),(17,.v (.int .i32 ((ag:Nat):Int))),(19,.p 3 0),(22,.v (.slice (some ⟨ac,0,none⟩) ((lst (ab.at_ 1)).length) ah)),(23,.v (.int .i32 (((lst (ab.at_ 1)).length:Nat):Int))),(24,.v (.int .i32 ((ae:Nat):Int))),(26,.p 5 0)] dO fun _ _ dP=>?_)
       clear dO
       refine qab (wp_seq (wp_seq (qbl [(2,.v (.bool false)),(7,.p 0 0),(9,.v (.bool (decide (v ≥ 0)))),(10,.p 1 0),(15,.v (.slice (some ⟨af,0,none⟩) ((lst (T.at_ 3)).length) ai)),(16,.v (.int .i32 (((lst (T.at_ 3)).length:Nat):Int))),(17,.v (.int .i32 ((ag:Nat):Int))),(19,.p 3 0),(22,.v (.slice (some ⟨ac,0,none⟩) ((lst (ab.at_ 1)).length) ah)),(23,.v (.int .i32 (((lst (ab.at_ 1)).length:Nat):Int))),(24,.v (.int .i32 ((ae:Nat):Int))),(26,.p 5 0),(33,.v (.slice none 0 0))] dP fun _ dQ=>?_)))
       clear dP
       refine qab (wp_seq (qbl [(2,.v (.bool false)),(7,.p 0 0),(9,.v (.bool (decide (v ≥ 0)))),(10,.p 1 0),(15,.v (.slice (some ⟨af,0,none⟩) ((lst (T.at_ 3)).length) ai)),(16,.v (.int .i32 (((lst (T.at_ 3)).length:Nat):Int))),(17,.v (.int .i32 ((ag:Nat):Int))),(19,.p 3 0),(22,.v (.slice (some ⟨ac,0,none⟩) ((lst (ab.at_ 1)).length) ah)),(23,.v (.int .i32 (((lst (ab.at_ 1)).length:Nat):Int))),(24,.v (.int .i32 ((ae:Nat):Int))),(26,.p 5 0),(34,.v (.slice none 0 0))] dQ fun _ dR=>?_))
       clear dQ
       refine qab (wp_seq (qbl [(2,.v (.bool false)),(7,.p 0 0),(9,.v (.bool (decide (v ≥ 0)))),(10,.p 1 0),(15,.v (.slice (some ⟨af,0,none⟩) ((lst (T.at_ 3)).length) ai)),(16,.v (.int .i32 (((lst (T.at_ 3)).length:Nat):Int))),(17,.v (.int .i32 ((ag:Nat):Int))),(19,.p 3 0),(22,.v (.slice (some ⟨ac,0,none⟩) ((lst (ab.at_ 1)).length) ah)),(23,.v (.int .i32 (((lst (ab.at_ 1)).length:Nat):Int))),(24,.v (.int .i32 ((ae:Nat):Int))),(26,.p 5 0),(34,.v (.slice none 0 0))] dR fun _ dS=>?_))
       clear dR
       refine qab (wp_seq ?_)
       have dT:=dS.cast cW
       clear dS
       have dU:=dT.cast (t:=(if (decide (v ≥ 0)) = true then (uv ((lst (aa.at_ 2)).length + 1)) else (be 4 (lst (aa.at_ 2)).length)) ++ (((lst (aa.at_ 2)).flatMap (fun E=>be 4 (IntKind.i32.wrap E.N))) ++ aK)) (by rw [List.append_assoc])
       clear dT
       refine qeW (d1:=190) (d2:=191) [(2,.v (.bool false)),(7,.p 0 0),(9,.v (.bool (decide (v ≥ 0)))),(10,.p 1 0),(15,.v (.slice (some ⟨af,0,none⟩) ((lst (T.at_ 3)).length) ai)),(16,.v (.int .i32 (((lst (T.at_ 3)).length:Nat):Int))),(17,.v (.int .i32 ((ag:Nat):Int))),(19,.p 3 0),(22,.v (.slice (some ⟨ac,0,none⟩) ((lst (ab.at_ 1)).length) ah)),(23,.v (.int .i32 (((lst (ab.at_ 1)).length:Nat):Int))),(24,.v (.int .i32 ((ae:Nat):Int))),(26,.p 5 0),(34,.v (.slice none 0 0)),(189,.v (.bool (decide (v ≥ 0))))] [(2,.v (.bool false)),(7,.p 0 0),(9,.v (.bool (decide (v ≥ 0)))),(10,.p 1 0),(15,.v (.slice (some ⟨af,0,none⟩) ((lst (T.at_ 3)).length) ai)),(16,.v (.int .i32 (((lst (T.at_ 3)).length:Nat):Int))),(17,.v (.int .i32 ((ag:Nat):Int))),(19,.p 3 0),(22,.v (.slice (some ⟨ac,0,none⟩) ((lst (ab.at_ 1)).length) ah)),(23,.v (.int .i32 (((lst (ab.at_ 1)).length:Nat):Int))),(24,.v (.int .i32 ((ae:Nat):Int))),(26,.p 5 0),(34,.v (.slice none 0 0)),(35,.v (.int .i32 (((lst (aa.at_ 2)).length:Nat):Int)))] dU (qb3 ((lst (aa.at_ 2)).length) e163_2 _ (flat_ge' (fun E=>qe3 (by decide)) _)) Tryz.call93 (qdF ((lst (aa.at_ 2)).length) e163_2 _ (flat_ge' (fun E=>qe3 (by decide)) _)) Tryz.call94 fun _ _ dV=>?_
       clear dU
       refine qab (wp_seq (wp_seq (qjD (d:=192) [(2,.v (.bool false)),(7,.p 0 0),(9,.v (.bool (decide (v ≥ 0)))),(10,.p 1 0),(15,.v (.slice (some ⟨af,0,none⟩) ((lst (T.at_ 3)).length) ai)),(16,.v (.int .i32 (((lst (T.at_ 3)).length:Nat):Int))),(17,.v (.int .i32 ((ag:Nat):Int))),(19,.p 3 0),(22,.v (.slice (some ⟨ac,0,none⟩) ((lst (ab.at_ 1)).length) ah)),(23,.v (.int .i32 (((lst (ab.at_ 1)).length:Nat):Int))),(24,.v (.int .i32 ((ae:Nat):Int))),(26,.p 5 0),(34,.v (.slice none 0 0)),(35,.v (.int .i32 (((lst (aa.at_ 2)).length:Nat):Int))),(193,.v (.bool false))] dV (pOk _) Tryz.call95 fun _ _ bG=>?_)))
       clear dV
       refine qab (qam bG.env_ (b:=false) kz (rfl) ?_)
       refine wp_skip (qab (wp_seq (qfH (t:=158) (e:=21) (size:=1) (bytes:=4) (d:=196) (A0:=none) (m:=0) (cp:=0) [(2,.v (.bool false)),(7,.p 0 0),(9,.v (.bool (decide (v ≥ 0)))),(10,.p 1 0),(15,.v (.slice (some ⟨af,0,none⟩) ((lst (T.at_ 3)).length) ai)),(16,.v (.int .i32 (((lst (T.at_ 3)).length:Nat):Int))),(17,.v (.int .i32 ((ag:Nat):Int))),(19,.p 3 0),(22,.v (.slice (some ⟨ac,0,none⟩) ((lst (ab.at_ 1)).length) ah)),(23,.v (.int .i32 (((lst (ab.at_ 1)).length:Nat):Int))),(24,.v (.int .i32 ((ae:Nat):Int))),(26,.p 5 0),(35,.v (.int .i32 (((lst (aa.at_ 2)).length:Nat):Int))),(195,.v (.slice none 0 0))] [(2,.v (.bool false)),(7,.p 0 0),(9,.v (.bool (decide (v ≥ 0)))),(10,.p 1 0),(15,.v (.slice (some ⟨af,0,none⟩) ((lst (T.at_ 3)).length) ai)),(16,.v (.int .i32 (((lst (T.at_ 3)).length:Nat):Int))),(17,.v (.int .i32 ((ag:Nat):Int))),(19,.p 3 0),(22,.v (.slice (some ⟨ac,0,none⟩) ((lst (ab.at_ 1)).length) ah)),(23,.v (.int .i32 (((lst (ab.at_ 1)).length:Nat):Int))),(24,.v (.int .i32 ((ae:Nat):Int))),(26,.p 5 0),(34,.v (.slice none 0 0)),(35,.v (.int .i32 (((lst (aa.at_ 2)).length:Nat):Int)))] 1 bG fun _ dW=>?_)))
       clear bG
       refine qab (qeB (Mid:=fun a_ w_=>∃ (ak:DV) (P':qcw),(∀ w F,P' w F → hK w F ∧ (Slots w F 1 ak.A ak.c ak.l (fun i=>[.int .i32 ((ak.f i).n)]) ∧ ak.l ≤ 1000000 ∧ ∀ i,i < ak.l → True) ∧ (ak.l = (lst (aa.at_ 2)).length ∧ ∀ i,i < ak.l → (ak.f i).n = IntKind.i32.wrap ((lst (aa.at_ 2)).getD i .zero).N)) ∧ RS w (fun b o=>b = bv ∧ o < 6) F 276 bd [⟨bv,0,[.int .i16 v,.int .i32 (IntKind.i32.wrap (T.at_ 0).N),.int .i16 (IntKind.i16.wrap (T.at_ 1).N),.pointer am,.slice none 0 0,.map none],true⟩,qa8 af 3 (.agg #[.string ByteArray.empty,.slice none 0 0,.map none]) ((lst (T.at_ 3)).length) (ag + 1),⟨af,ag * 3,[.string (bs (ab.at_ 0).S),.slice none 0 0,.map none],true⟩,qa8 ac 5 (.agg #[.int .i32 0,.slice none 0 0,.slice none 0 0,.slice none 0 0,.map none]) ((lst (ab.at_ 1)).length) (ae + 1),⟨ac,ae * 5,[.int .i32 (IntKind.i32.wrap (aa.at_ 0).N),.slice aj.A aj.l aj.c,.slice none 0 0,.slice none 0 0,.map none],true⟩] [(2,.v (.bool false)),(7,.p 0 0),(9,.v (.bool (decide (v ≥ 0)))),(10,.p 1 0),(15,.v (.slice (some ⟨af,0,none⟩) ((lst (T.at_ 3)).length) ai)),(16,.v (.int .i32 (((lst (T.at_ 3)).length:Nat):Int))),(17,.v (.int .i32 ((ag:Nat):Int))),(19,.p 3 0),(22,.v (.slice (some ⟨ac,0,none⟩) ((lst (ab.at_ 1)).length) ah)),(23,.v (.int .i32 (((lst (ab.at_ 1)).length:Nat):Int))),(24,.v (.int .i32 ((ae:Nat):Int))),(26,.p 5 0),(34,.v (.slice ak.A ak.l ak.c))] P' aK a_ w_) ?_ ?_)
       ·
        refine wp_seq (qbl [(2,.v (.bool false)),(7,.p 0 0),(9,.v (.bool (decide (v ≥ 0)))),(10,.p 1 0),(15,.v (.slice (some ⟨af,0,none⟩) ((lst (T.at_ 3)).length) ai)),(16,.v (.int .i32 (((lst (T.at_ 3)).length:Nat):Int))),(17,.v (.int .i32 ((ag:Nat):Int))),(19,.p 3 0),(22,.v (.slice (some ⟨ac,0,none⟩) ((lst (ab.at_ 1)).length) ah)),(23,.v (.int .i32 (((lst (ab.at_ 1)).length:Nat):Int))),(24,.v (.int .i32 ((ae:Nat):Int))),(26,.p 5 0),(34,.v (.slice none 0 0)),(35,.v (.int .i32 (((lst (aa.at_ 2)).length:Nat):Int))),(198,.v (.bool (decide ((((lst (aa.at_ 2)).length:Nat):Int) > 0))))] dW fun _ aN=>qab ?_)
        clear dW
        refine qaw aN.env_ (b:=decide ((((lst (aa.at_ 2)).length:Nat):Int) > 0)) kz (fun bi=>?_) (fun bi=>?_)
        ·
         have hn_g255:0 < (lst (aa.at_ 2)).length:=by have h_:=of_decide_eq_true bi; omega
         refine qaq [0,1,2,3] kz ?_
         refine qcG [0,1] [2,3] [(2,.v (.bool false)),(7,.p 0 0),(9,.v (.bool (decide (v ≥ 0)))),(10,.p 1 0),(15,.v (.slice (some ⟨af,0,none⟩) ((lst (T.at_ 3)).length) ai)),(16,.v (.int .i32 (((lst (T.at_ 3)).length:Nat):Int))),(17,.v (.int .i32 ((ag:Nat):Int))),(19,.p 3 0),(22,.v (.slice (some ⟨ac,0,none⟩) ((lst (ab.at_ 1)).length) ah)),(23,.v (.int .i32 (((lst (ab.at_ 1)).length:Nat):Int))),(24,.v (.int .i32 ((ae:Nat):Int))),(26,.p 5 0),(35,.v (.int .i32 (((lst (aa.at_ 2)).length:Nat):Int))),(199,.v (.slice none 0 0)),(200,.v (.int .i32 (((lst (aa.at_ 2)).length:Nat):Int)))] aN fun _ dX=>?_
         clear aN
         refine qal (qdg (A0:=none) (d:=201) (t:=158) (tn:=21) (e:=21) (size:=1) (bytes:=4) (k:=.i32) (kn:=.i32) (q:=(((lst (aa.at_ 2)).length:Nat):Int)) (j:=(lst (aa.at_ 2)).length) (.int .i32 0) dX (fun ar ay _ _ hg_g255 hcap_g255 dY=>?_) rfl hn_g255 (by have:=e163_2; omega))
         clear dX
         refine qcG [3] [] [(2,.v (.bool false)),(7,.p 0 0),(9,.v (.bool (decide (v ≥ 0)))),(10,.p 1 0),(15,.v (.slice (some ⟨af,0,none⟩) ((lst (T.at_ 3)).length) ai)),(16,.v (.int .i32 (((lst (T.at_ 3)).length:Nat):Int))),(17,.v (.int .i32 ((ag:Nat):Int))),(19,.p 3 0),(22,.v (.slice (some ⟨ac,0,none⟩) ((lst (ab.at_ 1)).length) ah)),(23,.v (.int .i32 (((lst (ab.at_ 1)).length:Nat):Int))),(24,.v (.int .i32 ((ae:Nat):Int))),(26,.p 5 0),(34,.v (.slice (some ⟨ar,0,none⟩) ((lst (aa.at_ 2)).length) ay)),(35,.v (.int .i32 (((lst (aa.at_ 2)).length:Nat):Int)))] dY fun _ dZ=>qaf ?_
         clear dY
         refine qab (wp_seq (qbl [(2,.v (.bool false)),(7,.p 0 0),(9,.v (.bool (decide (v ≥ 0)))),(10,.p 1 0),(15,.v (.slice (some ⟨af,0,none⟩) ((lst (T.at_ 3)).length) ai)),(16,.v (.int .i32 (((lst (T.at_ 3)).length:Nat):Int))),(17,.v (.int .i32 ((ag:Nat):Int))),(19,.p 3 0),(22,.v (.slice (some ⟨ac,0,none⟩) ((lst (ab.at_ 1)).length) ah)),(23,.v (.int .i32 (((lst (ab.at_ 1)).length:Nat):Int))),(24,.v (.int .i32 ((ae:Nat):Int))),(26,.p 5 0),(34,.v (.slice (some ⟨ar,0,none⟩) ((lst (aa.at_ 2)).length) ay)),(35,.v (.int .i32 (((lst (aa.at_ 2)).length:Nat):Int))),(36,.v (.int .i32 0))] dZ fun _ bH=>?_))
         clear dZ
         refine qab (wp_block ?_)
         have bI:=bH.mv
         have hZ:=(bH.cast (t:=(lst (aa.at_ 2)).flatMap (fun E=>be 4 (IntKind.i32.wrap E.N)) ++ aK) rfl).pk (env':=[(2,.v (.bool false)),(7,.p 0 0),(9,.v (.bool (decide (v ≥ 0)))),(10,.p 1 0),(15,.v (.slice (some ⟨af,0,none⟩) ((lst (T.at_ 3)).length) ai)),(16,.v (.int .i32 (((lst (T.at_ 3)).length:Nat):Int))),(17,.v (.int .i32 ((ag:Nat):Int))),(19,.p 3 0),(22,.v (.slice (some ⟨ac,0,none⟩) ((lst (ab.at_ 1)).length) ah)),(23,.v (.int .i32 (((lst (ab.at_ 1)).length:Nat):Int))),(24,.v (.int .i32 ((ae:Nat):Int))),(26,.p 5 0),(34,.v (.slice (some ⟨ar,0,none⟩) ((lst (aa.at_ 2)).length) ay)),(35,.v (.int .i32 (((lst (aa.at_ 2)).length:Nat):Int))),(36,.v (.int .i32 ((0:Nat):Int)))])
         clear bH
         refine qfF (tb:=[⟨bv,0,(z1 v T am),true⟩,qa8 af 3 (.agg #[.string ByteArray.empty,.slice none 0 0,.map none]) ((lst (T.at_ 3)).length) (ag + 1),⟨af,ag * 3,(z12 ab),true⟩,qa8 ac 5 (.agg #[.int .i32 0,.slice none 0 0,.slice none 0 0,.slice none 0 0,.map none]) ((lst (ab.at_ 1)).length) (ae + 1),⟨ac,ae * 5,[.int .i32 (IntKind.i32.wrap (aa.at_ 0).N),.slice aj.A aj.l aj.c,.slice none 0 0,.slice none 0 0,.map none],true⟩]) (z:=.int .i32 0) (cl:=(fun d=>[.int .i32 d.n])) (ok:=qfE) (rel:=(fun d t=>d.n = IntKind.i32.wrap t.N)) (L:=lst (aa.at_ 2)) (size:=1) (fun E=>be 4 (IntKind.i32.wrap E.N)) aK (fun k=>[(2,.v (.bool false)),(7,.p 0 0),(9,.v (.bool (decide (v ≥ 0)))),(10,.p 1 0),(15,.v (.slice (some ⟨af,0,none⟩) ((lst (T.at_ 3)).length) ai)),(16,.v (.int .i32 (((lst (T.at_ 3)).length:Nat):Int))),(17,.v (.int .i32 ((ag:Nat):Int))),(19,.p 3 0),(22,.v (.slice (some ⟨ac,0,none⟩) ((lst (ab.at_ 1)).length) ah)),(23,.v (.int .i32 (((lst (ab.at_ 1)).length:Nat):Int))),(24,.v (.int .i32 ((ae:Nat):Int))),(26,.p 5 0),(34,.v (.slice (some ⟨ar,0,none⟩) ((lst (aa.at_ 2)).length) ay)),(35,.v (.int .i32 (((lst (aa.at_ 2)).length:Nat):Int))),(36,.v (.int .i32 ((k:Nat):Int)))]) hZ qez (fun az aW _ _ ia ib d5=>?_) (fun _ _ d6=>?_)
         ·
          obtain ⟨ji,d7,d8⟩:∃ P',(∀ w F,P' w F → (hK w F ∧ qeX ar 1 (fun d=>[.int .i32 d.n]) qfE (fun d t=>d.n = IntKind.i32.wrap t.N) (lst (aa.at_ 2)) az w F)) ∧ RS w (fun b o=>b = bv ∧ o < 6) F 276 bd [⟨bv,0,[.int .i16 v,.int .i32 (IntKind.i32.wrap (T.at_ 0).N),.int .i16 (IntKind.i16.wrap (T.at_ 1).N),.pointer am,.slice none 0 0,.map none],true⟩,qa8 af 3 (.agg #[.string ByteArray.empty,.slice none 0 0,.map none]) ((lst (T.at_ 3)).length) (ag + 1),⟨af,ag * 3,[.string (bs (ab.at_ 0).S),.slice none 0 0,.map none],true⟩,qa8 ac 5 (.agg #[.int .i32 0,.slice none 0 0,.slice none 0 0,.slice none 0 0,.map none]) ((lst (ab.at_ 1)).length) (ae + 1),⟨ac,ae * 5,[.int .i32 (IntKind.i32.wrap (aa.at_ 0).N),.slice aj.A aj.l aj.c,.slice none 0 0,.slice none 0 0,.map none],true⟩,qa8 ar 1 (.int .i32 0) ((lst (aa.at_ 2)).length) az] [(2,.v (.bool false)),(7,.p 0 0),(9,.v (.bool (decide (v ≥ 0)))),(10,.p 1 0),(15,.v (.slice (some ⟨af,0,none⟩) ((lst (T.at_ 3)).length) ai)),(16,.v (.int .i32 (((lst (T.at_ 3)).length:Nat):Int))),(17,.v (.int .i32 ((ag:Nat):Int))),(19,.p 3 0),(22,.v (.slice (some ⟨ac,0,none⟩) ((lst (ab.at_ 1)).length) ah)),(23,.v (.int .i32 (((lst (ab.at_ 1)).length:Nat):Int))),(24,.v (.int .i32 ((ae:Nat):Int))),(26,.p 5 0),(34,.v (.slice (some ⟨ar,0,none⟩) ((lst (aa.at_ 2)).length) ay)),(35,.v (.int .i32 (((lst (aa.at_ 2)).length:Nat):Int))),(36,.v (.int .i32 ((az:Nat):Int)))] P' ((fun E=>be 4 (IntKind.i32.wrap E.N)) aW ++ (((lst (aa.at_ 2)).drop (az + 1)).flatMap (fun E=>be 4 (IntKind.i32.wrap E.N)) ++ aK)) _ _:=⟨_,fun _ _ h=>h,d5⟩
          clear d5
          obtain ⟨ic,d9⟩:∃ R,R = ((lst (aa.at_ 2)).drop (az + 1)).flatMap (fun E=>be 4 (IntKind.i32.wrap E.N)) ++ aK:=⟨_,rfl⟩
          have ea:=d8.cast (t:=(fun E=>be 4 (IntKind.i32.wrap E.N)) aW ++ ic) (by rw [d9])
          clear d8
          have eb:=ea.cast (t:=(be 4 (IntKind.i32.wrap aW.N)) ++ ic) rfl
          clear ea
          refine wp_seq (wp_seq (qbl [(2,.v (.bool false)),(7,.p 0 0),(9,.v (.bool (decide (v ≥ 0)))),(10,.p 1 0),(15,.v (.slice (some ⟨af,0,none⟩) ((lst (T.at_ 3)).length) ai)),(16,.v (.int .i32 (((lst (T.at_ 3)).length:Nat):Int))),(17,.v (.int .i32 ((ag:Nat):Int))),(19,.p 3 0),(22,.v (.slice (some ⟨ac,0,none⟩) ((lst (ab.at_ 1)).length) ah)),(23,.v (.int .i32 (((lst (ab.at_ 1)).length:Nat):Int))),(24,.v (.int .i32 ((ae:Nat):Int))),(26,.p 5 0),(34,.v (.slice (some ⟨ar,0,none⟩) ((lst (aa.at_ 2)).length) ay)),(35,.v (.int .i32 (((lst (aa.at_ 2)).length:Nat):Int))),(36,.v (.int .i32 ((az:Nat):Int))),(204,.v (.bool (decide (((az:Nat):Int) < (((lst (aa.at_ 2)).length:Nat):Int)))))] eb fun _ bJ=>qab ?_))
          clear eb
          refine qa4 bJ.env_ (b:=decide (((az:Nat):Int) < (((lst (aa.at_ 2)).length:Nat):Int))) kz (decide_eq_true (by omega)) ?_
          refine wp_skip (qab (wp_seq (wp_block (wp_seq (qeA (d:=207) [(2,.v (.bool false)),(7,.p 0 0),(9,.v (.bool (decide (v ≥ 0)))),(10,.p 1 0),(15,.v (.slice (some ⟨af,0,none⟩) ((lst (T.at_ 3)).length) ai)),(16,.v (.int .i32 (((lst (T.at_ 3)).length:Nat):Int))),(17,.v (.int .i32 ((ag:Nat):Int))),(19,.p 3 0),(22,.v (.slice (some ⟨ac,0,none⟩) ((lst (ab.at_ 1)).length) ah)),(23,.v (.int .i32 (((lst (ab.at_ 1)).length:Nat):Int))),(24,.v (.int .i32 ((ae:Nat):Int))),(26,.p 5 0),(34,.v (.slice (some ⟨ar,0,none⟩) ((lst (aa.at_ 2)).length) ay)),(35,.v (.int .i32 (((lst (aa.at_ 2)).length:Nat):Int))),(36,.v (.int .i32 ((az:Nat):Int))),(37,.v (.int .i32 (IntKind.i32.wrap aW.N)))] bJ (qg9 _ _) Tryz.call91 fun _ _ ec=>?_)))))
          clear bJ
          refine qab (qaq [0,1,2,3,4] kz ?_)
          refine qcG [0,1,2] [3,4] [(2,.v (.bool false)),(7,.p 0 0),(9,.v (.bool (decide (v ≥ 0)))),(10,.p 1 0),(15,.v (.slice (some ⟨af,0,none⟩) ((lst (T.at_ 3)).length) ai)),(16,.v (.int .i32 (((lst (T.at_ 3)).length:Nat):Int))),(17,.v (.int .i32 ((ag:Nat):Int))),(19,.p 3 0),(22,.v (.slice (some ⟨ac,0,none⟩) ((lst (ab.at_ 1)).length) ah)),(23,.v (.int .i32 (((lst (ab.at_ 1)).length:Nat):Int))),(24,.v (.int .i32 ((ae:Nat):Int))),(26,.p 5 0),(34,.v (.slice (some ⟨ar,0,none⟩) ((lst (aa.at_ 2)).length) ay)),(35,.v (.int .i32 (((lst (aa.at_ 2)).length:Nat):Int))),(36,.v (.int .i32 ((az:Nat):Int))),(208,.v (.slice (some ⟨ar,0,none⟩) ((lst (aa.at_ 2)).length) ay)),(209,.v (.int .i32 ((az:Nat):Int))),(210,.v (.int .i32 (IntKind.i32.wrap aW.N)))] ec fun _ ee=>?_
          clear ec
          refine qal (qfi (t:=158) (e:=21) (size:=1) (bytes:=4) (d:=211) (tb:=[⟨bv,0,(z1 v T am),true⟩,qa8 af 3 (.agg #[.string ByteArray.empty,.slice none 0 0,.map none]) ((lst (T.at_ 3)).length) (ag + 1),⟨af,ag * 3,(z12 ab),true⟩,qa8 ac 5 (.agg #[.int .i32 0,.slice none 0 0,.slice none 0 0,.slice none 0 0,.map none]) ((lst (ab.at_ 1)).length) (ae + 1),⟨ac,ae * 5,[.int .i32 (IntKind.i32.wrap (aa.at_ 0).N),.slice aj.A aj.l aj.c,.slice none 0 0,.slice none 0 0,.map none],true⟩]) (z:=.int .i32 0) ee ib rfl kz fun _ ef=>?_)
          clear ee
          refine qal (qd0 [⟨bv,0,(z1 v T am),true⟩,qa8 af 3 (.agg #[.string ByteArray.empty,.slice none 0 0,.map none]) ((lst (T.at_ 3)).length) (ag + 1),⟨af,ag * 3,(z12 ab),true⟩,qa8 ac 5 (.agg #[.int .i32 0,.slice none 0 0,.slice none 0 0,.slice none 0 0,.map none]) ((lst (ab.at_ 1)).length) (ae + 1),⟨ac,ae * 5,[.int .i32 (IntKind.i32.wrap (aa.at_ 0).N),.slice aj.A aj.l aj.c,.slice none 0 0,.slice none 0 0,.map none],true⟩,qa8 ar 1 (.int .i32 0) ((lst (aa.at_ 2)).length) (az + 1),⟨ar,az * 1,[.int .i32 (IntKind.i32.wrap aW.N)],true⟩] 6 ef fun _ eg=>qaf ?_)
          clear ef
          have eh:=eg.pk (env':=[(2,.v (.bool false)),(7,.p 0 0),(9,.v (.bool (decide (v ≥ 0)))),(10,.p 1 0),(15,.v (.slice (some ⟨af,0,none⟩) ((lst (T.at_ 3)).length) ai)),(16,.v (.int .i32 (((lst (T.at_ 3)).length:Nat):Int))),(17,.v (.int .i32 ((ag:Nat):Int))),(19,.p 3 0),(22,.v (.slice (some ⟨ac,0,none⟩) ((lst (ab.at_ 1)).length) ah)),(23,.v (.int .i32 (((lst (ab.at_ 1)).length:Nat):Int))),(24,.v (.int .i32 ((ae:Nat):Int))),(26,.p 5 0),(34,.v (.slice (some ⟨ar,0,none⟩) ((lst (aa.at_ 2)).length) ay)),(35,.v (.int .i32 (((lst (aa.at_ 2)).length:Nat):Int))),(36,.v (.int .i32 ((az:Nat):Int)))])
          clear eg
          refine qas (qab (qbl [(2,.v (.bool false)),(7,.p 0 0),(9,.v (.bool (decide (v ≥ 0)))),(10,.p 1 0),(15,.v (.slice (some ⟨af,0,none⟩) ((lst (T.at_ 3)).length) ai)),(16,.v (.int .i32 (((lst (T.at_ 3)).length:Nat):Int))),(17,.v (.int .i32 ((ag:Nat):Int))),(19,.p 3 0),(22,.v (.slice (some ⟨ac,0,none⟩) ((lst (ab.at_ 1)).length) ah)),(23,.v (.int .i32 (((lst (ab.at_ 1)).length:Nat):Int))),(24,.v (.int .i32 ((ae:Nat):Int))),(26,.p 5 0),(34,.v (.slice (some ⟨ar,0,none⟩) ((lst (aa.at_ 2)).length) ay)),(35,.v (.int .i32 (((lst (aa.at_ 2)).length:Nat):Int))),(36,.v (.int .i32 (IntKind.i32.wrap (((az:Nat):Int) + 1))))] eh fun _ ei=>?_))
          clear eh
          refine qab ?_
          have ig:=(ei.envEq (env':=[(2,.v (.bool false)),(7,.p 0 0),(9,.v (.bool (decide (v ≥ 0)))),(10,.p 1 0),(15,.v (.slice (some ⟨af,0,none⟩) ((lst (T.at_ 3)).length) ai)),(16,.v (.int .i32 (((lst (T.at_ 3)).length:Nat):Int))),(17,.v (.int .i32 ((ag:Nat):Int))),(19,.p 3 0),(22,.v (.slice (some ⟨ac,0,none⟩) ((lst (ab.at_ 1)).length) ah)),(23,.v (.int .i32 (((lst (ab.at_ 1)).length:Nat):Int))),(24,.v (.int .i32 ((ae:Nat):Int))),(26,.p 5 0),(34,.v (.slice (some ⟨ar,0,none⟩) ((lst (aa.at_ 2)).length) ay)),(35,.v (.int .i32 (((lst (aa.at_ 2)).length:Nat):Int))),(36,.v (.int .i32 ((az + 1:Nat):Int)))]) (by rw [qeC (by have:=e163_2; omega)])).pk (env':=[(2,.v (.bool false)),(7,.p 0 0),(9,.v (.bool (decide (v ≥ 0)))),(10,.p 1 0),(15,.v (.slice (some ⟨af,0,none⟩) ((lst (T.at_ 3)).length) ai)),(16,.v (.int .i32 (((lst (T.at_ 3)).length:Nat):Int))),(17,.v (.int .i32 ((ag:Nat):Int))),(19,.p 3 0),(22,.v (.slice (some ⟨ac,0,none⟩) ((lst (ab.at_ 1)).length) ah)),(23,.v (.int .i32 (((lst (ab.at_ 1)).length:Nat):Int))),(24,.v (.int .i32 ((ae:Nat):Int))),(26,.p 5 0),(34,.v (.slice (some ⟨ar,0,none⟩) ((lst (aa.at_ 2)).length) ay)),(35,.v (.int .i32 (((lst (aa.at_ 2)).length:Nat):Int))),(36,.v (.int .i32 ((az + 1:Nat):Int)))])
          clear ei
          exact (RS.thing (tb:=[⟨bv,0,[.int .i16 v,.int .i32 (IntKind.i32.wrap (T.at_ 0).N),.int .i16 (IntKind.i16.wrap (T.at_ 1).N),.pointer am,.slice none 0 0,.map none],true⟩,qa8 af 3 (.agg #[.string ByteArray.empty,.slice none 0 0,.map none]) ((lst (T.at_ 3)).length) (ag + 1),⟨af,ag * 3,[.string (bs (ab.at_ 0).S),.slice none 0 0,.map none],true⟩,qa8 ac 5 (.agg #[.int .i32 0,.slice none 0 0,.slice none 0 0,.slice none 0 0,.map none]) ((lst (ab.at_ 1)).length) (ae + 1),⟨ac,ae * 5,[.int .i32 (IntKind.i32.wrap (aa.at_ 0).N),.slice aj.A aj.l aj.c,.slice none 0 0,.slice none 0 0,.map none],true⟩]) (z:=.int .i32 0) (D:=dvN (IntKind.i32.wrap aW.N)) (ig.cast d9) hg_g255 ia qez bI rfl (fun w F h_=>⟨(d7 _ _ h_).1,(d7 _ _ h_).2,trivial,rfl⟩) kz)
         refine wp_seq (wp_seq (qbl [(2,.v (.bool false)),(7,.p 0 0),(9,.v (.bool (decide (v ≥ 0)))),(10,.p 1 0),(15,.v (.slice (some ⟨af,0,none⟩) ((lst (T.at_ 3)).length) ai)),(16,.v (.int .i32 (((lst (T.at_ 3)).length:Nat):Int))),(17,.v (.int .i32 ((ag:Nat):Int))),(19,.p 3 0),(22,.v (.slice (some ⟨ac,0,none⟩) ((lst (ab.at_ 1)).length) ah)),(23,.v (.int .i32 (((lst (ab.at_ 1)).length:Nat):Int))),(24,.v (.int .i32 ((ae:Nat):Int))),(26,.p 5 0),(34,.v (.slice (some ⟨ar,0,none⟩) ((lst (aa.at_ 2)).length) ay)),(35,.v (.int .i32 (((lst (aa.at_ 2)).length:Nat):Int))),(36,.v (.int .i32 (((lst (aa.at_ 2)).length:Nat):Int))),(204,.v (.bool (decide ((((lst (aa.at_ 2)).length:Nat):Int) < (((lst (aa.at_ 2)).length:Nat):Int)))))] d6 fun _ ej=>qab ?_))
         clear d6
         refine qam ej.env_ (b:=decide ((((lst (aa.at_ 2)).length:Nat):Int) < (((lst (aa.at_ 2)).length:Nat):Int))) kz (decide_eq_false (by omega)) ?_
         refine wp_exit (qau (qau (qaL (qab ?_))))
         obtain ⟨iU,ii⟩:=RS.listEnd (tb:=[⟨bv,0,(z1 v T am),true⟩,qa8 af 3 (.agg #[.string ByteArray.empty,.slice none 0 0,.map none]) ((lst (T.at_ 3)).length) (ag + 1),⟨af,ag * 3,(z12 ab),true⟩,qa8 ac 5 (.agg #[.int .i32 0,.slice none 0 0,.slice none 0 0,.slice none 0 0,.map none]) ((lst (ab.at_ 1)).length) (ae + 1),⟨ac,ae * 5,[.int .i32 (IntKind.i32.wrap (aa.at_ 0).N),.slice aj.A aj.l aj.c,.slice none 0 0,.slice none 0 0,.map none],true⟩]) (c:=ay) (ej.pk (env':=[(2,.v (.bool false)),(7,.p 0 0),(9,.v (.bool (decide (v ≥ 0)))),(10,.p 1 0),(15,.v (.slice (some ⟨af,0,none⟩) ((lst (T.at_ 3)).length) ai)),(16,.v (.int .i32 (((lst (T.at_ 3)).length:Nat):Int))),(17,.v (.int .i32 ((ag:Nat):Int))),(19,.p 3 0),(22,.v (.slice (some ⟨ac,0,none⟩) ((lst (ab.at_ 1)).length) ah)),(23,.v (.int .i32 (((lst (ab.at_ 1)).length:Nat):Int))),(24,.v (.int .i32 ((ae:Nat):Int))),(26,.p 5 0),(34,.v (.slice (some ⟨ar,0,none⟩) ((lst (aa.at_ 2)).length) ay))])) hg_g255 qez bI hcap_g255 (by have:=e163_2; omega) hn_g255 kz
         exact ⟨dvL (some ⟨ar,0,none⟩) (lst (aa.at_ 2)).length ay iU,_,fun w F h_=>⟨h_.1,⟨h_.2.1,Nat.le_trans e163_2 (by decide),h_.2.2.1⟩,⟨rfl,h_.2.2.2⟩⟩,ii⟩
        refine wp_skip (qab (wp_seq (qbl [(2,.v (.bool false)),(7,.p 0 0),(9,.v (.bool (decide (v ≥ 0)))),(10,.p 1 0),(15,.v (.slice (some ⟨af,0,none⟩) ((lst (T.at_ 3)).length) ai)),(16,.v (.int .i32 (((lst (T.at_ 3)).length:Nat):Int))),(17,.v (.int .i32 ((ag:Nat):Int))),(19,.p 3 0),(22,.v (.slice (some ⟨ac,0,none⟩) ((lst (ab.at_ 1)).length) ah)),(23,.v (.int .i32 (((lst (ab.at_ 1)).length:Nat):Int))),(24,.v (.int .i32 ((ae:Nat):Int))),(26,.p 5 0),(34,.v (.slice none 0 0)),(35,.v (.int .i32 (((lst (aa.at_ 2)).length:Nat):Int))),(36,.v (.int .i32 0))] aN fun _ ek=>?_)))
        clear aN
        refine qab (wp_block (qd1 (wp_seq (wp_seq (qbl [(2,.v (.bool false)),(7,.p 0 0),(9,.v (.bool (decide (v ≥ 0)))),(10,.p 1 0),(15,.v (.slice (some ⟨af,0,none⟩) ((lst (T.at_ 3)).length) ai)),(16,.v (.int .i32 (((lst (T.at_ 3)).length:Nat):Int))),(17,.v (.int .i32 ((ag:Nat):Int))),(19,.p 3 0),(22,.v (.slice (some ⟨ac,0,none⟩) ((lst (ab.at_ 1)).length) ah)),(23,.v (.int .i32 (((lst (ab.at_ 1)).length:Nat):Int))),(24,.v (.int .i32 ((ae:Nat):Int))),(26,.p 5 0),(34,.v (.slice none 0 0)),(35,.v (.int .i32 (((lst (aa.at_ 2)).length:Nat):Int))),(36,.v (.int .i32 0)),(204,.v (.bool (decide (0 < (((lst (aa.at_ 2)).length:Nat):Int)))))] ek fun _ em=>qab ?_)))))
        clear ek
        refine qam em.env_ (b:=decide (0 < (((lst (aa.at_ 2)).length:Nat):Int))) kz (decide_eq_false (by have h_:=of_decide_eq_false bi; omega)) ?_
        refine wp_exit (qau (qau (qaL (qab ?_))))
        have hz_:(lst (aa.at_ 2)).length = 0:=by have h_:=of_decide_eq_false bi; omega
        exact ⟨dvL none 0 0 (fun _=>dv0),_,fun w F h_=>⟨h_,⟨Slots.nil _ _ _ _,Nat.zero_le _,fun _ h=>absurd h (Nat.not_lt_zero _)⟩,⟨hz_.symm,fun _ h=>absurd h (Nat.not_lt_zero _)⟩⟩,(em.cast (t:=aK) (by rw [List.eq_nil_of_length_eq_zero hz_]; rfl)).pk (env':=[(2,.v (.bool false)),(7,.p 0 0),(9,.v (.bool (decide (v ≥ 0)))),(10,.p 1 0),(15,.v (.slice (some ⟨af,0,none⟩) ((lst (T.at_ 3)).length) ai)),(16,.v (.int .i32 (((lst (T.at_ 3)).length:Nat):Int))),(17,.v (.int .i32 ((ag:Nat):Int))),(19,.p 3 0),(22,.v (.slice (some ⟨ac,0,none⟩) ((lst (ab.at_ 1)).length) ah)),(23,.v (.int .i32 (((lst (ab.at_ 1)).length:Nat):Int))),(24,.v (.int .i32 ((ae:Nat):Int))),(26,.p 5 0),(34,.v (.slice none 0 0))])⟩
       rintro _ _ ⟨ak,ij,aG,eo⟩
       refine wp_seq (qbl [(2,.v (.bool false)),(7,.p 0 0),(9,.v (.bool (decide (v ≥ 0)))),(10,.p 1 0),(15,.v (.slice (some ⟨af,0,none⟩) ((lst (T.at_ 3)).length) ai)),(16,.v (.int .i32 (((lst (T.at_ 3)).length:Nat):Int))),(17,.v (.int .i32 ((ag:Nat):Int))),(19,.p 3 0),(22,.v (.slice (some ⟨ac,0,none⟩) ((lst (ab.at_ 1)).length) ah)),(23,.v (.int .i32 (((lst (ab.at_ 1)).length:Nat):Int))),(24,.v (.int .i32 ((ae:Nat):Int))),(26,.p 5 0),(33,.v (.slice ak.A ak.l ak.c))] eo fun _ ep=>?_)
       clear eo
       refine qab (qd9 [⟨bv,0,(z1 v T am),true⟩,qa8 af 3 (.agg #[.string ByteArray.empty,.slice none 0 0,.map none]) ((lst (T.at_ 3)).length) (ag + 1),⟨af,ag * 3,(z12 ab),true⟩,qa8 ac 5 (.agg #[.int .i32 0,.slice none 0 0,.slice none 0 0,.slice none 0 0,.map none]) ((lst (ab.at_ 1)).length) (ae + 1),⟨ac,ae * 5,[.int .i32 (IntKind.i32.wrap (aa.at_ 0).N),.slice aj.A aj.l aj.c,.slice ak.A ak.l ak.c,.slice none 0 0,.map none],true⟩] 4 [(2,.v (.bool false)),(7,.p 0 0),(9,.v (.bool (decide (v ≥ 0)))),(10,.p 1 0),(15,.v (.slice (some ⟨af,0,none⟩) ((lst (T.at_ 3)).length) ai)),(16,.v (.int .i32 (((lst (T.at_ 3)).length:Nat):Int))),(17,.v (.int .i32 ((ag:Nat):Int))),(19,.p 3 0),(22,.v (.slice (some ⟨ac,0,none⟩) ((lst (ab.at_ 1)).length) ah)),(23,.v (.int .i32 (((lst (ab.at_ 1)).length:Nat):Int))),(24,.v (.int .i32 ((ae:Nat):Int))),(26,.p 5 0)] ep fun _ _ eu=>?_)
       clear ep
       refine qab (wp_seq (wp_seq (qbl [(2,.v (.bool false)),(7,.p 0 0),(9,.v (.bool (decide (v ≥ 0)))),(10,.p 1 0),(15,.v (.slice (some ⟨af,0,none⟩) ((lst (T.at_ 3)).length) ai)),(16,.v (.int .i32 (((lst (T.at_ 3)).length:Nat):Int))),(17,.v (.int .i32 ((ag:Nat):Int))),(19,.p 3 0),(22,.v (.slice (some ⟨ac,0,none⟩) ((lst (ab.at_ 1)).length) ah)),(23,.v (.int .i32 (((lst (ab.at_ 1)).length:Nat):Int))),(24,.v (.int .i32 ((ae:Nat):Int))),(26,.p 5 0),(38,.v (.slice none 0 0))] eu fun _ ev=>?_)))
       clear eu
       refine qab (wp_seq (qbl [(2,.v (.bool false)),(7,.p 0 0),(9,.v (.bool (decide (v ≥ 0)))),(10,.p 1 0),(15,.v (.slice (some ⟨af,0,none⟩) ((lst (T.at_ 3)).length) ai)),(16,.v (.int .i32 (((lst (T.at_ 3)).length:Nat):Int))),(17,.v (.int .i32 ((ag:Nat):Int))),(19,.p 3 0),(22,.v (.slice (some ⟨ac,0,none⟩) ((lst (ab.at_ 1)).length) ah)),(23,.v (.int .i32 (((lst (ab.at_ 1)).length:Nat):Int))),(24,.v (.int .i32 ((ae:Nat):Int))),(26,.p 5 0),(39,.v (.slice none 0 0))] ev fun _ ew=>?_))
       clear ev
       refine qab (wp_seq (qbl [(2,.v (.bool false)),(7,.p 0 0),(9,.v (.bool (decide (v ≥ 0)))),(10,.p 1 0),(15,.v (.slice (some ⟨af,0,none⟩) ((lst (T.at_ 3)).length) ai)),(16,.v (.int .i32 (((lst (T.at_ 3)).length:Nat):Int))),(17,.v (.int .i32 ((ag:Nat):Int))),(19,.p 3 0),(22,.v (.slice (some ⟨ac,0,none⟩) ((lst (ab.at_ 1)).length) ah)),(23,.v (.int .i32 (((lst (ab.at_ 1)).length:Nat):Int))),(24,.v (.int .i32 ((ae:Nat):Int))),(26,.p 5 0),(39,.v (.slice none 0 0))] ew fun _ ey=>?_))
       clear ew
       refine qab (wp_seq ?_)
       have ez:=ey.cast cV
       clear ey
       have eB:=ez.cast (t:=(if (decide (v ≥ 0)) = true then (uv ((lst (aa.at_ 3)).length + 1)) else (be 4 (lst (aa.at_ 3)).length)) ++ (((lst (aa.at_ 3)).flatMap (fun E=>be 4 (IntKind.i32.wrap E.N))) ++ aJ)) (by rw [List.append_assoc])
       clear ez
       refine qeW (d1:=223) (d2:=224) [(2,.v (.bool false)),(7,.p 0 0),(9,.v (.bool (decide (v ≥ 0)))),(10,.p 1 0),(15,.v (.slice (some ⟨af,0,none⟩) ((lst (T.at_ 3)).length) ai)),(16,.v (.int .i32 (((lst (T.at_ 3)).length:Nat):Int))),(17,.v (.int .i32 ((ag:Nat):Int))),(19,.p 3 0),(22,.v (.slice (some ⟨ac,0,none⟩) ((lst (ab.at_ 1)).length) ah)),(23,.v (.int .i32 (((lst (ab.at_ 1)).length:Nat):Int))),(24,.v (.int .i32 ((ae:Nat):Int))),(26,.p 5 0),(39,.v (.slice none 0 0)),(222,.v (.bool (decide (v ≥ 0))))] [(2,.v (.bool false)),(7,.p 0 0),(9,.v (.bool (decide (v ≥ 0)))),(10,.p 1 0),(15,.v (.slice (some ⟨af,0,none⟩) ((lst (T.at_ 3)).length) ai)),(16,.v (.int .i32 (((lst (T.at_ 3)).length:Nat):Int))),(17,.v (.int .i32 ((ag:Nat):Int))),(19,.p 3 0),(22,.v (.slice (some ⟨ac,0,none⟩) ((lst (ab.at_ 1)).length) ah)),(23,.v (.int .i32 (((lst (ab.at_ 1)).length:Nat):Int))),(24,.v (.int .i32 ((ae:Nat):Int))),(26,.p 5 0),(39,.v (.slice none 0 0)),(40,.v (.int .i32 (((lst (aa.at_ 3)).length:Nat):Int)))] eB (qb3 ((lst (aa.at_ 3)).length) e163_3 _ (flat_ge' (fun E=>qe3 (by decide)) _)) Tryz.call93 (qdF ((lst (aa.at_ 3)).length) e163_3 _ (flat_ge' (fun E=>qe3 (by decide)) _)) Tryz.call94 fun _ _ eC=>?_
       clear eB
       refine qab (wp_seq (wp_seq (qjD (d:=225) [(2,.v (.bool false)),(7,.p 0 0),(9,.v (.bool (decide (v ≥ 0)))),(10,.p 1 0),(15,.v (.slice (some ⟨af,0,none⟩) ((lst (T.at_ 3)).length) ai)),(16,.v (.int .i32 (((lst (T.at_ 3)).length:Nat):Int))),(17,.v (.int .i32 ((ag:Nat):Int))),(19,.p 3 0),(22,.v (.slice (some ⟨ac,0,none⟩) ((lst (ab.at_ 1)).length) ah)),(23,.v (.int .i32 (((lst (ab.at_ 1)).length:Nat):Int))),(24,.v (.int .i32 ((ae:Nat):Int))),(26,.p 5 0),(39,.v (.slice none 0 0)),(40,.v (.int .i32 (((lst (aa.at_ 3)).length:Nat):Int))),(226,.v (.bool false))] eC (pOk _) Tryz.call95 fun _ _ bK=>?_)))
       clear eC
       refine qab (qam bK.env_ (b:=false) kz (rfl) ?_)
       refine wp_skip (qab (wp_seq (qfH (t:=158) (e:=21) (size:=1) (bytes:=4) (d:=229) (A0:=none) (m:=0) (cp:=0) [(2,.v (.bool false)),(7,.p 0 0),(9,.v (.bool (decide (v ≥ 0)))),(10,.p 1 0),(15,.v (.slice (some ⟨af,0,none⟩) ((lst (T.at_ 3)).length) ai)),(16,.v (.int .i32 (((lst (T.at_ 3)).length:Nat):Int))),(17,.v (.int .i32 ((ag:Nat):Int))),(19,.p 3 0),(22,.v (.slice (some ⟨ac,0,none⟩) ((lst (ab.at_ 1)).length) ah)),(23,.v (.int .i32 (((lst (ab.at_ 1)).length:Nat):Int))),(24,.v (.int .i32 ((ae:Nat):Int))),(26,.p 5 0),(40,.v (.int .i32 (((lst (aa.at_ 3)).length:Nat):Int))),(228,.v (.slice none 0 0))] [(2,.v (.bool false)),(7,.p 0 0),(9,.v (.bool (decide (v ≥ 0)))),(10,.p 1 0),(15,.v (.slice (some ⟨af,0,none⟩) ((lst (T.at_ 3)).length) ai)),(16,.v (.int .i32 (((lst (T.at_ 3)).length:Nat):Int))),(17,.v (.int .i32 ((ag:Nat):Int))),(19,.p 3 0),(22,.v (.slice (some ⟨ac,0,none⟩) ((lst (ab.at_ 1)).length) ah)),(23,.v (.int .i32 (((lst (ab.at_ 1)).length:Nat):Int))),(24,.v (.int .i32 ((ae:Nat):Int))),(26,.p 5 0),(39,.v (.slice none 0 0)),(40,.v (.int .i32 (((lst (aa.at_ 3)).length:Nat):Int)))] 1 bK fun _ eD=>?_)))
       clear bK
       refine qab (qeB (Mid:=fun a_ w_=>∃ (ao:DV) (P':qcw),(∀ w F,P' w F → ij w F ∧ (Slots w F 1 ao.A ao.c ao.l (fun i=>[.int .i32 ((ao.f i).n)]) ∧ ao.l ≤ 1000000 ∧ ∀ i,i < ao.l → True) ∧ (ao.l = (lst (aa.at_ 3)).length ∧ ∀ i,i < ao.l → (ao.f i).n = IntKind.i32.wrap ((lst (aa.at_ 3)).getD i .zero).N)) ∧ RS w (fun b o=>b = bv ∧ o < 6) F 276 bd [⟨bv,0,[.int .i16 v,.int .i32 (IntKind.i32.wrap (T.at_ 0).N),.int .i16 (IntKind.i16.wrap (T.at_ 1).N),.pointer am,.slice none 0 0,.map none],true⟩,qa8 af 3 (.agg #[.string ByteArray.empty,.slice none 0 0,.map none]) ((lst (T.at_ 3)).length) (ag + 1),⟨af,ag * 3,[.string (bs (ab.at_ 0).S),.slice none 0 0,.map none],true⟩,qa8 ac 5 (.agg #[.int .i32 0,.slice none 0 0,.slice none 0 0,.slice none 0 0,.map none]) ((lst (ab.at_ 1)).length) (ae + 1),⟨ac,ae * 5,[.int .i32 (IntKind.i32.wrap (aa.at_ 0).N),.slice aj.A aj.l aj.c,.slice ak.A ak.l ak.c,.slice none 0 0,.map none],true⟩] [(2,.v (.bool false)),(7,.p 0 0),(9,.v (.bool (decide (v ≥ 0)))),(10,.p 1 0),(15,.v (.slice (some ⟨af,0,none⟩) ((lst (T.at_ 3)).length) ai)),(16,.v (.int .i32 (((lst (T.at_ 3)).length:Nat):Int))),(17,.v (.int .i32 ((ag:Nat):Int))),(19,.p 3 0),(22,.v (.slice (some ⟨ac,0,none⟩) ((lst (ab.at_ 1)).length) ah)),(23,.v (.int .i32 (((lst (ab.at_ 1)).length:Nat):Int))),(24,.v (.int .i32 ((ae:Nat):Int))),(26,.p 5 0),(39,.v (.slice ao.A ao.l ao.c))] P' aJ a_ w_) ?_ ?_)
       ·
        refine wp_seq (qbl [(2,.v (.bool false)),(7,.p 0 0),(9,.v (.bool (decide (v ≥ 0)))),(10,.p 1 0),(15,.v (.slice (some ⟨af,0,none⟩) ((lst (T.at_ 3)).length) ai)),(16,.v (.int .i32 (((lst (T.at_ 3)).length:Nat):Int))),(17,.v (.int .i32 ((ag:Nat):Int))),(19,.p 3 0),(22,.v (.slice (some ⟨ac,0,none⟩) ((lst (ab.at_ 1)).length) ah)),(23,.v (.int .i32 (((lst (ab.at_ 1)).length:Nat):Int))),(24,.v (.int .i32 ((ae:Nat):Int))),(26,.p 5 0),(39,.v (.slice none 0 0)),(40,.v (.int .i32 (((lst (aa.at_ 3)).length:Nat):Int))),(231,.v (.bool (decide ((((lst (aa.at_ 3)).length:Nat):Int) > 0))))] eD fun _ aO=>qab ?_)
        clear eD
        refine qaw aO.env_ (b:=decide ((((lst (aa.at_ 3)).length:Nat):Int) > 0)) kz (fun bj=>?_) (fun bj=>?_)
        ·
         have hn_g308:0 < (lst (aa.at_ 3)).length:=by have h_:=of_decide_eq_true bj; omega
         refine qaq [0,1,2,3] kz ?_
         refine qcG [0,1] [2,3] [(2,.v (.bool false)),(7,.p 0 0),(9,.v (.bool (decide (v ≥ 0)))),(10,.p 1 0),(15,.v (.slice (some ⟨af,0,none⟩) ((lst (T.at_ 3)).length) ai)),(16,.v (.int .i32 (((lst (T.at_ 3)).length:Nat):Int))),(17,.v (.int .i32 ((ag:Nat):Int))),(19,.p 3 0),(22,.v (.slice (some ⟨ac,0,none⟩) ((lst (ab.at_ 1)).length) ah)),(23,.v (.int .i32 (((lst (ab.at_ 1)).length:Nat):Int))),(24,.v (.int .i32 ((ae:Nat):Int))),(26,.p 5 0),(40,.v (.int .i32 (((lst (aa.at_ 3)).length:Nat):Int))),(232,.v (.slice none 0 0)),(233,.v (.int .i32 (((lst (aa.at_ 3)).length:Nat):Int)))] aO fun _ eE=>?_
         clear aO
         refine qal (qdg (A0:=none) (d:=234) (t:=158) (tn:=21) (e:=21) (size:=1) (bytes:=4) (k:=.i32) (kn:=.i32) (q:=(((lst (aa.at_ 3)).length:Nat):Int)) (j:=(lst (aa.at_ 3)).length) (.int .i32 0) eE (fun au aA _ _ hg_g308 hcap_g308 eF=>?_) rfl hn_g308 (by have:=e163_3; omega))
         clear eE
         refine qcG [3] [] [(2,.v (.bool false)),(7,.p 0 0),(9,.v (.bool (decide (v ≥ 0)))),(10,.p 1 0),(15,.v (.slice (some ⟨af,0,none⟩) ((lst (T.at_ 3)).length) ai)),(16,.v (.int .i32 (((lst (T.at_ 3)).length:Nat):Int))),(17,.v (.int .i32 ((ag:Nat):Int))),(19,.p 3 0),(22,.v (.slice (some ⟨ac,0,none⟩) ((lst (ab.at_ 1)).length) ah)),(23,.v (.int .i32 (((lst (ab.at_ 1)).length:Nat):Int))),(24,.v (.int .i32 ((ae:Nat):Int))),(26,.p 5 0),(39,.v (.slice (some ⟨au,0,none⟩) ((lst (aa.at_ 3)).length) aA)),(40,.v (.int .i32 (((lst (aa.at_ 3)).length:Nat):Int)))] eF fun _ eG=>qaf ?_
         clear eF
         refine qab (wp_seq (qbl [(2,.v (.bool false)),(7,.p 0 0),(9,.v (.bool (decide (v ≥ 0)))),(10,.p 1 0),(15,.v (.slice (some ⟨af,0,none⟩) ((lst (T.at_ 3)).length) ai)),(16,.v (.int .i32 (((lst (T.at_ 3)).length:Nat):Int))),(17,.v (.int .i32 ((ag:Nat):Int))),(19,.p 3 0),(22,.v (.slice (some ⟨ac,0,none⟩) ((lst (ab.at_ 1)).length) ah)),(23,.v (.int .i32 (((lst (ab.at_ 1)).length:Nat):Int))),(24,.v (.int .i32 ((ae:Nat):Int))),(26,.p 5 0),(39,.v (.slice (some ⟨au,0,none⟩) ((lst (aa.at_ 3)).length) aA)),(40,.v (.int .i32 (((lst (aa.at_ 3)).length:Nat):Int))),(41,.v (.int .i32 0))] eG fun _ bL=>?_))
         clear eG
         refine qab (wp_block ?_)
         have bM:=bL.mv
         have ik:=(bL.cast (t:=(lst (aa.at_ 3)).flatMap (fun E=>be 4 (IntKind.i32.wrap E.N)) ++ aJ) rfl).pk (env':=[(2,.v (.bool false)),(7,.p 0 0),(9,.v (.bool (decide (v ≥ 0)))),(10,.p 1 0),(15,.v (.slice (some ⟨af,0,none⟩) ((lst (T.at_ 3)).length) ai)),(16,.v (.int .i32 (((lst (T.at_ 3)).length:Nat):Int))),(17,.v (.int .i32 ((ag:Nat):Int))),(19,.p 3 0),(22,.v (.slice (some ⟨ac,0,none⟩) ((lst (ab.at_ 1)).length) ah)),(23,.v (.int .i32 (((lst (ab.at_ 1)).length:Nat):Int))),(24,.v (.int .i32 ((ae:Nat):Int))),(26,.p 5 0),(39,.v (.slice (some ⟨au,0,none⟩) ((lst (aa.at_ 3)).length) aA)),(40,.v (.int .i32 (((lst (aa.at_ 3)).length:Nat):Int))),(41,.v (.int .i32 ((0:Nat):Int)))])
         clear bL
         refine qfF (tb:=[⟨bv,0,(z1 v T am),true⟩,qa8 af 3 (.agg #[.string ByteArray.empty,.slice none 0 0,.map none]) ((lst (T.at_ 3)).length) (ag + 1),⟨af,ag * 3,(z12 ab),true⟩,qa8 ac 5 (.agg #[.int .i32 0,.slice none 0 0,.slice none 0 0,.slice none 0 0,.map none]) ((lst (ab.at_ 1)).length) (ae + 1),⟨ac,ae * 5,[.int .i32 (IntKind.i32.wrap (aa.at_ 0).N),.slice aj.A aj.l aj.c,.slice ak.A ak.l ak.c,.slice none 0 0,.map none],true⟩]) (z:=.int .i32 0) (cl:=(fun d=>[.int .i32 d.n])) (ok:=qfE) (rel:=(fun d t=>d.n = IntKind.i32.wrap t.N)) (L:=lst (aa.at_ 3)) (size:=1) (fun E=>be 4 (IntKind.i32.wrap E.N)) aJ (fun k=>[(2,.v (.bool false)),(7,.p 0 0),(9,.v (.bool (decide (v ≥ 0)))),(10,.p 1 0),(15,.v (.slice (some ⟨af,0,none⟩) ((lst (T.at_ 3)).length) ai)),(16,.v (.int .i32 (((lst (T.at_ 3)).length:Nat):Int))),(17,.v (.int .i32 ((ag:Nat):Int))),(19,.p 3 0),(22,.v (.slice (some ⟨ac,0,none⟩) ((lst (ab.at_ 1)).length) ah)),(23,.v (.int .i32 (((lst (ab.at_ 1)).length:Nat):Int))),(24,.v (.int .i32 ((ae:Nat):Int))),(26,.p 5 0),(39,.v (.slice (some ⟨au,0,none⟩) ((lst (aa.at_ 3)).length) aA)),(40,.v (.int .i32 (((lst (aa.at_ 3)).length:Nat):Int))),(41,.v (.int .i32 ((k:Nat):Int)))]) ik qez (fun aB aX _ _ il im eH=>?_) (fun _ _ eI=>?_)
         ·
          obtain ⟨jj,eJ,eK⟩:∃ P',(∀ w F,P' w F → (ij w F ∧ qeX au 1 (fun d=>[.int .i32 d.n]) qfE (fun d t=>d.n = IntKind.i32.wrap t.N) (lst (aa.at_ 3)) aB w F)) ∧ RS w (fun b o=>b = bv ∧ o < 6) F 276 bd [⟨bv,0,[.int .i16 v,.int .i32 (IntKind.i32.wrap (T.at_ 0).N),.int .i16 (IntKind.i16.wrap (T.at_ 1).N),.pointer am,.slice none 0 0,.map none],true⟩,qa8 af 3 (.agg #[.string ByteArray.empty,.slice none 0 0,.map none]) ((lst (T.at_ 3)).length) (ag + 1),⟨af,ag * 3,[.string (bs (ab.at_ 0).S),.slice none 0 0,.map none],true⟩,qa8 ac 5 (.agg #[.int .i32 0,.slice none 0 0,.slice none 0 0,.slice none 0 0,.map none]) ((lst (ab.at_ 1)).length) (ae + 1),⟨ac,ae * 5,[.int .i32 (IntKind.i32.wrap (aa.at_ 0).N),.slice aj.A aj.l aj.c,.slice ak.A ak.l ak.c,.slice none 0 0,.map none],true⟩,qa8 au 1 (.int .i32 0) ((lst (aa.at_ 3)).length) aB] [(2,.v (.bool false)),(7,.p 0 0),(9,.v (.bool (decide (v ≥ 0)))),(10,.p 1 0),(15,.v (.slice (some ⟨af,0,none⟩) ((lst (T.at_ 3)).length) ai)),(16,.v (.int .i32 (((lst (T.at_ 3)).length:Nat):Int))),(17,.v (.int .i32 ((ag:Nat):Int))),(19,.p 3 0),(22,.v (.slice (some ⟨ac,0,none⟩) ((lst (ab.at_ 1)).length) ah)),(23,.v (.int .i32 (((lst (ab.at_ 1)).length:Nat):Int))),(24,.v (.int .i32 ((ae:Nat):Int))),(26,.p 5 0),(39,.v (.slice (some ⟨au,0,none⟩) ((lst (aa.at_ 3)).length) aA)),(40,.v (.int .i32 (((lst (aa.at_ 3)).length:Nat):Int))),(41,.v (.int .i32 ((aB:Nat):Int)))] P' ((fun E=>be 4 (IntKind.i32.wrap E.N)) aX ++ (((lst (aa.at_ 3)).drop (aB + 1)).flatMap (fun E=>be 4 (IntKind.i32.wrap E.N)) ++ aJ)) _ _:=⟨_,fun _ _ h=>h,eH⟩
          clear eH
          obtain ⟨io,eL⟩:∃ R,R = ((lst (aa.at_ 3)).drop (aB + 1)).flatMap (fun E=>be 4 (IntKind.i32.wrap E.N)) ++ aJ:=⟨_,rfl⟩
          have eM:=eK.cast (t:=(fun E=>be 4 (IntKind.i32.wrap E.N)) aX ++ io) (by rw [eL])
          clear eK
          have eN:=eM.cast (t:=(be 4 (IntKind.i32.wrap aX.N)) ++ io) rfl
          clear eM
          refine wp_seq (wp_seq (qbl [(2,.v (.bool false)),(7,.p 0 0),(9,.v (.bool (decide (v ≥ 0)))),(10,.p 1 0),(15,.v (.slice (some ⟨af,0,none⟩) ((lst (T.at_ 3)).length) ai)),(16,.v (.int .i32 (((lst (T.at_ 3)).length:Nat):Int))),(17,.v (.int .i32 ((ag:Nat):Int))),(19,.p 3 0),(22,.v (.slice (some ⟨ac,0,none⟩) ((lst (ab.at_ 1)).length) ah)),(23,.v (.int .i32 (((lst (ab.at_ 1)).length:Nat):Int))),(24,.v (.int .i32 ((ae:Nat):Int))),(26,.p 5 0),(39,.v (.slice (some ⟨au,0,none⟩) ((lst (aa.at_ 3)).length) aA)),(40,.v (.int .i32 (((lst (aa.at_ 3)).length:Nat):Int))),(41,.v (.int .i32 ((aB:Nat):Int))),(237,.v (.bool (decide (((aB:Nat):Int) < (((lst (aa.at_ 3)).length:Nat):Int)))))] eN fun _ bN=>qab ?_))
          clear eN
          refine qa4 bN.env_ (b:=decide (((aB:Nat):Int) < (((lst (aa.at_ 3)).length:Nat):Int))) kz (decide_eq_true (by omega)) ?_
          refine wp_skip (qab (wp_seq (wp_block (wp_seq (qeA (d:=240) [(2,.v (.bool false)),(7,.p 0 0),(9,.v (.bool (decide (v ≥ 0)))),(10,.p 1 0),(15,.v (.slice (some ⟨af,0,none⟩) ((lst (T.at_ 3)).length) ai)),(16,.v (.int .i32 (((lst (T.at_ 3)).length:Nat):Int))),(17,.v (.int .i32 ((ag:Nat):Int))),(19,.p 3 0),(22,.v (.slice (some ⟨ac,0,none⟩) ((lst (ab.at_ 1)).length) ah)),(23,.v (.int .i32 (((lst (ab.at_ 1)).length:Nat):Int))),(24,.v (.int .i32 ((ae:Nat):Int))),(26,.p 5 0),(39,.v (.slice (some ⟨au,0,none⟩) ((lst (aa.at_ 3)).length) aA)),(40,.v (.int .i32 (((lst (aa.at_ 3)).length:Nat):Int))),(41,.v (.int .i32 ((aB:Nat):Int))),(42,.v (.int .i32 (IntKind.i32.wrap aX.N)))] bN (qg9 _ _) Tryz.call91 fun _ _ eO=>?_)))))
          clear bN
          refine qab (qaq [0,1,2,3,4] kz ?_)
          refine qcG [0,1,2] [3,4] [(2,.v (.bool false)),(7,.p 0 0),(9,.v (.bool (decide (v ≥ 0)))),(10,.p 1 0),(15,.v (.slice (some ⟨af,0,none⟩) ((lst (T.at_ 3)).length) ai)),(16,.v (.int .i32 (((lst (T.at_ 3)).length:Nat):Int))),(17,.v (.int .i32 ((ag:Nat):Int))),(19,.p 3 0),(22,.v (.slice (some ⟨ac,0,none⟩) ((lst (ab.at_ 1)).length) ah)),(23,.v (.int .i32 (((lst (ab.at_ 1)).length:Nat):Int))),(24,.v (.int .i32 ((ae:Nat):Int))),(26,.p 5 0),(39,.v (.slice (some ⟨au,0,none⟩) ((lst (aa.at_ 3)).length) aA)),(40,.v (.int .i32 (((lst (aa.at_ 3)).length:Nat):Int))),(41,.v (.int .i32 ((aB:Nat):Int))),(241,.v (.slice (some ⟨au,0,none⟩) ((lst (aa.at_ 3)).length) aA)),(242,.v (.int .i32 ((aB:Nat):Int))),(243,.v (.int .i32 (IntKind.i32.wrap aX.N)))] eO fun _ eP=>?_
          clear eO
          refine qal (qfi (t:=158) (e:=21) (size:=1) (bytes:=4) (d:=244) (tb:=[⟨bv,0,(z1 v T am),true⟩,qa8 af 3 (.agg #[.string ByteArray.empty,.slice none 0 0,.map none]) ((lst (T.at_ 3)).length) (ag + 1),⟨af,ag * 3,(z12 ab),true⟩,qa8 ac 5 (.agg #[.int .i32 0,.slice none 0 0,.slice none 0 0,.slice none 0 0,.map none]) ((lst (ab.at_ 1)).length) (ae + 1),⟨ac,ae * 5,[.int .i32 (IntKind.i32.wrap (aa.at_ 0).N),.slice aj.A aj.l aj.c,.slice ak.A ak.l ak.c,.slice none 0 0,.map none],true⟩]) (z:=.int .i32 0) eP im rfl kz fun _ eQ=>?_)
          clear eP
          refine qal (qd0 [⟨bv,0,(z1 v T am),true⟩,qa8 af 3 (.agg #[.string ByteArray.empty,.slice none 0 0,.map none]) ((lst (T.at_ 3)).length) (ag + 1),⟨af,ag * 3,(z12 ab),true⟩,qa8 ac 5 (.agg #[.int .i32 0,.slice none 0 0,.slice none 0 0,.slice none 0 0,.map none]) ((lst (ab.at_ 1)).length) (ae + 1),⟨ac,ae * 5,[.int .i32 (IntKind.i32.wrap (aa.at_ 0).N),.slice aj.A aj.l aj.c,.slice ak.A ak.l ak.c,.slice none 0 0,.map none],true⟩,qa8 au 1 (.int .i32 0) ((lst (aa.at_ 3)).length) (aB + 1),⟨au,aB * 1,[.int .i32 (IntKind.i32.wrap aX.N)],true⟩] 6 eQ fun _ eR=>qaf ?_)
          clear eQ
          have eS:=eR.pk (env':=[(2,.v (.bool false)),(7,.p 0 0),(9,.v (.bool (decide (v ≥ 0)))),(10,.p 1 0),(15,.v (.slice (some ⟨af,0,none⟩) ((lst (T.at_ 3)).length) ai)),(16,.v (.int .i32 (((lst (T.at_ 3)).length:Nat):Int))),(17,.v (.int .i32 ((ag:Nat):Int))),(19,.p 3 0),(22,.v (.slice (some ⟨ac,0,none⟩) ((lst (ab.at_ 1)).length) ah)),(23,.v (.int .i32 (((lst (ab.at_ 1)).length:Nat):Int))),(24,.v (.int .i32 ((ae:Nat):Int))),(26,.p 5 0),(39,.v (.slice (some ⟨au,0,none⟩) ((lst (aa.at_ 3)).length) aA)),(40,.v (.int .i32 (((lst (aa.at_ 3)).length:Nat):Int))),(41,.v (.int .i32 ((aB:Nat):Int)))])
          clear eR
          refine qas (qab (qbl [(2,.v (.bool false)),(7,.p 0 0),(9,.v (.bool (decide (v ≥ 0)))),(10,.p 1 0),(15,.v (.slice (some ⟨af,0,none⟩) ((lst (T.at_ 3)).length) ai)),(16,.v (.int .i32 (((lst (T.at_ 3)).length:Nat):Int))),(17,.v (.int .i32 ((ag:Nat):Int))),(19,.p 3 0),(22,.v (.slice (some ⟨ac,0,none⟩) ((lst (ab.at_ 1)).length) ah)),(23,.v (.int .i32 (((lst (ab.at_ 1)).length:Nat):Int))),(24,.v (.int .i32 ((ae:Nat):Int))),(26,.p 5 0),(39,.v (.slice (some ⟨au,0,none⟩) ((lst (aa.at_ 3)).length) aA)),(40,.v (.int .i32 (((lst (aa.at_ 3)).length:Nat):Int))),(41,.v (.int .i32 (IntKind.i32.wrap (((aB:Nat):Int) + 1))))] eS fun _ eU=>?_))
          clear eS
          refine qab ?_
          have ip:=(eU.envEq (env':=[(2,.v (.bool false)),(7,.p 0 0),(9,.v (.bool (decide (v ≥ 0)))),(10,.p 1 0),(15,.v (.slice (some ⟨af,0,none⟩) ((lst (T.at_ 3)).length) ai)),(16,.v (.int .i32 (((lst (T.at_ 3)).length:Nat):Int))),(17,.v (.int .i32 ((ag:Nat):Int))),(19,.p 3 0),(22,.v (.slice (some ⟨ac,0,none⟩) ((lst (ab.at_ 1)).length) ah)),(23,.v (.int .i32 (((lst (ab.at_ 1)).length:Nat):Int))),(24,.v (.int .i32 ((ae:Nat):Int))),(26,.p 5 0),(39,.v (.slice (some ⟨au,0,none⟩) ((lst (aa.at_ 3)).length) aA)),(40,.v (.int .i32 (((lst (aa.at_ 3)).length:Nat):Int))),(41,.v (.int .i32 ((aB + 1:Nat):Int)))]) (by rw [qeC (by have:=e163_3; omega)])).pk (env':=[(2,.v (.bool false)),(7,.p 0 0),(9,.v (.bool (decide (v ≥ 0)))),(10,.p 1 0),(15,.v (.slice (some ⟨af,0,none⟩) ((lst (T.at_ 3)).length) ai)),(16,.v (.int .i32 (((lst (T.at_ 3)).length:Nat):Int))),(17,.v (.int .i32 ((ag:Nat):Int))),(19,.p 3 0),(22,.v (.slice (some ⟨ac,0,none⟩) ((lst (ab.at_ 1)).length) ah)),(23,.v (.int .i32 (((lst (ab.at_ 1)).length:Nat):Int))),(24,.v (.int .i32 ((ae:Nat):Int))),(26,.p 5 0),(39,.v (.slice (some ⟨au,0,none⟩) ((lst (aa.at_ 3)).length) aA)),(40,.v (.int .i32 (((lst (aa.at_ 3)).length:Nat):Int))),(41,.v (.int .i32 ((aB + 1:Nat):Int)))])
          clear eU
          exact (RS.thing (tb:=[⟨bv,0,[.int .i16 v,.int .i32 (IntKind.i32.wrap (T.at_ 0).N),.int .i16 (IntKind.i16.wrap (T.at_ 1).N),.pointer am,.slice none 0 0,.map none],true⟩,qa8 af 3 (.agg #[.string ByteArray.empty,.slice none 0 0,.map none]) ((lst (T.at_ 3)).length) (ag + 1),⟨af,ag * 3,[.string (bs (ab.at_ 0).S),.slice none 0 0,.map none],true⟩,qa8 ac 5 (.agg #[.int .i32 0,.slice none 0 0,.slice none 0 0,.slice none 0 0,.map none]) ((lst (ab.at_ 1)).length) (ae + 1),⟨ac,ae * 5,[.int .i32 (IntKind.i32.wrap (aa.at_ 0).N),.slice aj.A aj.l aj.c,.slice ak.A ak.l ak.c,.slice none 0 0,.map none],true⟩]) (z:=.int .i32 0) (D:=dvN (IntKind.i32.wrap aX.N)) (ip.cast eL) hg_g308 il qez bM rfl (fun w F h_=>⟨(eJ _ _ h_).1,(eJ _ _ h_).2,trivial,rfl⟩) kz)
         refine wp_seq (wp_seq (qbl [(2,.v (.bool false)),(7,.p 0 0),(9,.v (.bool (decide (v ≥ 0)))),(10,.p 1 0),(15,.v (.slice (some ⟨af,0,none⟩) ((lst (T.at_ 3)).length) ai)),(16,.v (.int .i32 (((lst (T.at_ 3)).length:Nat):Int))),(17,.v (.int .i32 ((ag:Nat):Int))),(19,.p 3 0),(22,.v (.slice (some ⟨ac,0,none⟩) ((lst (ab.at_ 1)).length) ah)),(23,.v (.int .i32 (((lst (ab.at_ 1)).length:Nat):Int))),(24,.v (.int .i32 ((ae:Nat):Int))),(26,.p 5 0),(39,.v (.slice (some ⟨au,0,none⟩) ((lst (aa.at_ 3)).length) aA)),(40,.v (.int .i32 (((lst (aa.at_ 3)).length:Nat):Int))),(41,.v (.int .i32 (((lst (aa.at_ 3)).length:Nat):Int))),(237,.v (.bool (decide ((((lst (aa.at_ 3)).length:Nat):Int) < (((lst (aa.at_ 3)).length:Nat):Int)))))] eI fun _ eV=>qab ?_))
         clear eI
         refine qam eV.env_ (b:=decide ((((lst (aa.at_ 3)).length:Nat):Int) < (((lst (aa.at_ 3)).length:Nat):Int))) kz (decide_eq_false (by omega)) ?_
         refine wp_exit (qau (qau (qaL (qab ?_))))
         obtain ⟨iV,iq⟩:=RS.listEnd (tb:=[⟨bv,0,(z1 v T am),true⟩,qa8 af 3 (.agg #[.string ByteArray.empty,.slice none 0 0,.map none]) ((lst (T.at_ 3)).length) (ag + 1),⟨af,ag * 3,(z12 ab),true⟩,qa8 ac 5 (.agg #[.int .i32 0,.slice none 0 0,.slice none 0 0,.slice none 0 0,.map none]) ((lst (ab.at_ 1)).length) (ae + 1),⟨ac,ae * 5,[.int .i32 (IntKind.i32.wrap (aa.at_ 0).N),.slice aj.A aj.l aj.c,.slice ak.A ak.l ak.c,.slice none 0 0,.map none],true⟩]) (c:=aA) (eV.pk (env':=[(2,.v (.bool false)),(7,.p 0 0),(9,.v (.bool (decide (v ≥ 0)))),(10,.p 1 0),(15,.v (.slice (some ⟨af,0,none⟩) ((lst (T.at_ 3)).length) ai)),(16,.v (.int .i32 (((lst (T.at_ 3)).length:Nat):Int))),(17,.v (.int .i32 ((ag:Nat):Int))),(19,.p 3 0),(22,.v (.slice (some ⟨ac,0,none⟩) ((lst (ab.at_ 1)).length) ah)),(23,.v (.int .i32 (((lst (ab.at_ 1)).length:Nat):Int))),(24,.v (.int .i32 ((ae:Nat):Int))),(26,.p 5 0),(39,.v (.slice (some ⟨au,0,none⟩) ((lst (aa.at_ 3)).length) aA))])) hg_g308 qez bM hcap_g308 (by have:=e163_3; omega) hn_g308 kz
         exact ⟨dvL (some ⟨au,0,none⟩) (lst (aa.at_ 3)).length aA iV,_,fun w F h_=>⟨h_.1,⟨h_.2.1,Nat.le_trans e163_3 (by decide),h_.2.2.1⟩,⟨rfl,h_.2.2.2⟩⟩,iq⟩
        refine wp_skip (qab (wp_seq (qbl [(2,.v (.bool false)),(7,.p 0 0),(9,.v (.bool (decide (v ≥ 0)))),(10,.p 1 0),(15,.v (.slice (some ⟨af,0,none⟩) ((lst (T.at_ 3)).length) ai)),(16,.v (.int .i32 (((lst (T.at_ 3)).length:Nat):Int))),(17,.v (.int .i32 ((ag:Nat):Int))),(19,.p 3 0),(22,.v (.slice (some ⟨ac,0,none⟩) ((lst (ab.at_ 1)).length) ah)),(23,.v (.int .i32 (((lst (ab.at_ 1)).length:Nat):Int))),(24,.v (.int .i32 ((ae:Nat):Int))),(26,.p 5 0),(39,.v (.slice none 0 0)),(40,.v (.int .i32 (((lst (aa.at_ 3)).length:Nat):Int))),(41,.v (.int .i32 0))] aO fun _ eW=>?_)))
        clear aO
        refine qab (wp_block (qd1 (wp_seq (wp_seq (qbl [(2,.v (.bool false)),(7,.p 0 0),(9,.v (.bool (decide (v ≥ 0)))),(10,.p 1 0),(15,.v (.slice (some ⟨af,0,none⟩) ((lst (T.at_ 3)).length) ai)),(16,.v (.int .i32 (((lst (T.at_ 3)).length:Nat):Int))),(17,.v (.int .i32 ((ag:Nat):Int))),(19,.p 3 0),(22,.v (.slice (some ⟨ac,0,none⟩) ((lst (ab.at_ 1)).length) ah)),(23,.v (.int .i32 (((lst (ab.at_ 1)).length:Nat):Int))),(24,.v (.int .i32 ((ae:Nat):Int))),(26,.p 5 0),(39,.v (.slice none 0 0)),(40,.v (.int .i32 (((lst (aa.at_ 3)).length:Nat):Int))),(41,.v (.int .i32 0)),(237,.v (.bool (decide (0 < (((lst (aa.at_ 3)).length:Nat):Int)))))] eW fun _ eX=>qab ?_)))))
        clear eW
        refine qam eX.env_ (b:=decide (0 < (((lst (aa.at_ 3)).length:Nat):Int))) kz (decide_eq_false (by have h_:=of_decide_eq_false bj; omega)) ?_
        refine wp_exit (qau (qau (qaL (qab ?_))))
        have hz_:(lst (aa.at_ 3)).length = 0:=by have h_:=of_decide_eq_false bj; omega
        exact ⟨dvL none 0 0 (fun _=>dv0),_,fun w F h_=>⟨h_,⟨Slots.nil _ _ _ _,Nat.zero_le _,fun _ h=>absurd h (Nat.not_lt_zero _)⟩,⟨hz_.symm,fun _ h=>absurd h (Nat.not_lt_zero _)⟩⟩,(eX.cast (t:=aJ) (by rw [List.eq_nil_of_length_eq_zero hz_]; rfl)).pk (env':=[(2,.v (.bool false)),(7,.p 0 0),(9,.v (.bool (decide (v ≥ 0)))),(10,.p 1 0),(15,.v (.slice (some ⟨af,0,none⟩) ((lst (T.at_ 3)).length) ai)),(16,.v (.int .i32 (((lst (T.at_ 3)).length:Nat):Int))),(17,.v (.int .i32 ((ag:Nat):Int))),(19,.p 3 0),(22,.v (.slice (some ⟨ac,0,none⟩) ((lst (ab.at_ 1)).length) ah)),(23,.v (.int .i32 (((lst (ab.at_ 1)).length:Nat):Int))),(24,.v (.int .i32 ((ae:Nat):Int))),(26,.p 5 0),(39,.v (.slice none 0 0))])⟩
       rintro _ _ ⟨ao,iW,aD,eY⟩
       refine wp_seq (qbl [(2,.v (.bool false)),(7,.p 0 0),(9,.v (.bool (decide (v ≥ 0)))),(10,.p 1 0),(15,.v (.slice (some ⟨af,0,none⟩) ((lst (T.at_ 3)).length) ai)),(16,.v (.int .i32 (((lst (T.at_ 3)).length:Nat):Int))),(17,.v (.int .i32 ((ag:Nat):Int))),(19,.p 3 0),(22,.v (.slice (some ⟨ac,0,none⟩) ((lst (ab.at_ 1)).length) ah)),(23,.v (.int .i32 (((lst (ab.at_ 1)).length:Nat):Int))),(24,.v (.int .i32 ((ae:Nat):Int))),(26,.p 5 0),(38,.v (.slice ao.A ao.l ao.c))] eY fun _ eZ=>?_)
       clear eY
       refine qab (qd9 [⟨bv,0,(z1 v T am),true⟩,qa8 af 3 (.agg #[.string ByteArray.empty,.slice none 0 0,.map none]) ((lst (T.at_ 3)).length) (ag + 1),⟨af,ag * 3,(z12 ab),true⟩,qa8 ac 5 (.agg #[.int .i32 0,.slice none 0 0,.slice none 0 0,.slice none 0 0,.map none]) ((lst (ab.at_ 1)).length) (ae + 1),⟨ac,ae * 5,[.int .i32 (IntKind.i32.wrap (aa.at_ 0).N),.slice aj.A aj.l aj.c,.slice ak.A ak.l ak.c,.slice ao.A ao.l ao.c,.map none],true⟩] 4 [(2,.v (.bool false)),(7,.p 0 0),(9,.v (.bool (decide (v ≥ 0)))),(10,.p 1 0),(15,.v (.slice (some ⟨af,0,none⟩) ((lst (T.at_ 3)).length) ai)),(16,.v (.int .i32 (((lst (T.at_ 3)).length:Nat):Int))),(17,.v (.int .i32 ((ag:Nat):Int))),(19,.p 3 0),(22,.v (.slice (some ⟨ac,0,none⟩) ((lst (ab.at_ 1)).length) ah)),(23,.v (.int .i32 (((lst (ab.at_ 1)).length:Nat):Int))),(24,.v (.int .i32 ((ae:Nat):Int))),(26,.p 5 0)] eZ fun _ _ e9=>?_)
       clear eZ
       refine qab ?_
       have fa:=e9.cast cU
       clear e9
       refine qfh (Mid:=fun a_ w_=>∃ (bP:Option Nat) (aY:List (Int × Bs)) (P':qcw),(∀ w F,P' w F → iW w F ∧ (MapR w F bP aY ∧ aY.length ≤ 1000000 ∧ ∀ x ∈ aY,x.2.length < 4294967296) ∧ ((decide (v ≥ 0)) = true → aY = aa.U) ∧ ((decide (v ≥ 0)) = false → aY = [])) ∧ RS w (fun b o=>b = bv ∧ o < 6) F 276 bd [⟨bv,0,[.int .i16 v,.int .i32 (IntKind.i32.wrap (T.at_ 0).N),.int .i16 (IntKind.i16.wrap (T.at_ 1).N),.pointer am,.slice none 0 0,.map none],true⟩,qa8 af 3 (.agg #[.string ByteArray.empty,.slice none 0 0,.map none]) ((lst (T.at_ 3)).length) (ag + 1),⟨af,ag * 3,[.string (bs (ab.at_ 0).S),.slice none 0 0,.map none],true⟩,qa8 ac 5 (.agg #[.int .i32 0,.slice none 0 0,.slice none 0 0,.slice none 0 0,.map none]) ((lst (ab.at_ 1)).length) (ae + 1),⟨ac,ae * 5,[.int .i32 (IntKind.i32.wrap (aa.at_ 0).N),.slice aj.A aj.l aj.c,.slice ak.A ak.l ak.c,.slice ao.A ao.l ao.c,.map bP],true⟩] [(2,.v (.bool false)),(7,.p 0 0),(9,.v (.bool (decide (v ≥ 0)))),(10,.p 1 0),(15,.v (.slice (some ⟨af,0,none⟩) ((lst (T.at_ 3)).length) ai)),(16,.v (.int .i32 (((lst (T.at_ 3)).length:Nat):Int))),(17,.v (.int .i32 ((ag:Nat):Int))),(19,.p 3 0),(22,.v (.slice (some ⟨ac,0,none⟩) ((lst (ab.at_ 1)).length) ah)),(23,.v (.int .i32 (((lst (ab.at_ 1)).length:Nat):Int))),(24,.v (.int .i32 ((ae:Nat):Int)))] P' bA a_ w_) ?_ ?_
       ·
        refine wp_seq (qbl [(2,.v (.bool false)),(7,.p 0 0),(9,.v (.bool (decide (v ≥ 0)))),(10,.p 1 0),(15,.v (.slice (some ⟨af,0,none⟩) ((lst (T.at_ 3)).length) ai)),(16,.v (.int .i32 (((lst (T.at_ 3)).length:Nat):Int))),(17,.v (.int .i32 ((ag:Nat):Int))),(19,.p 3 0),(22,.v (.slice (some ⟨ac,0,none⟩) ((lst (ab.at_ 1)).length) ah)),(23,.v (.int .i32 (((lst (ab.at_ 1)).length:Nat):Int))),(24,.v (.int .i32 ((ae:Nat):Int))),(26,.p 5 0),(250,.v (.bool (decide (v ≥ 0))))] fa fun _ aP=>qab ?_)
        clear fa
        refine qaw aP.env_ (b:=decide (v ≥ 0)) kz (fun aQ=>?_) (fun aQ=>?_)
        ·
         have fb:=aP.cast (t:=((uv aa.U.length) ++ (qcK aa.U)) ++ bA) (by rw [if_pos aQ])
         clear aP
         refine qaq [0,1,2,3,4] kz ?_
         refine qcG [0] [1,2,3,4] [(2,.v (.bool false)),(7,.p 0 0),(9,.v (.bool (decide (v ≥ 0)))),(10,.p 1 0),(15,.v (.slice (some ⟨af,0,none⟩) ((lst (T.at_ 3)).length) ai)),(16,.v (.int .i32 (((lst (T.at_ 3)).length:Nat):Int))),(17,.v (.int .i32 ((ag:Nat):Int))),(19,.p 3 0),(22,.v (.slice (some ⟨ac,0,none⟩) ((lst (ab.at_ 1)).length) ah)),(23,.v (.int .i32 (((lst (ab.at_ 1)).length:Nat):Int))),(24,.v (.int .i32 ((ae:Nat):Int))),(251,.p 5 0)] fb fun _ fe=>?_
         clear fb
         refine qal (qgt (d:=252) fe (qld aa.U e163_U (qff e163r) _) (fun _=>MvF.tags _ _) Tryz.call101 fun f9 jk _ _ ff fg=>?_)
         clear fe
         refine qcG [2,3] [4] [(2,.v (.bool false)),(7,.p 0 0),(9,.v (.bool (decide (v ≥ 0)))),(10,.p 1 0),(15,.v (.slice (some ⟨af,0,none⟩) ((lst (T.at_ 3)).length) ai)),(16,.v (.int .i32 (((lst (T.at_ 3)).length:Nat):Int))),(17,.v (.int .i32 ((ag:Nat):Int))),(19,.p 3 0),(22,.v (.slice (some ⟨ac,0,none⟩) ((lst (ab.at_ 1)).length) ah)),(23,.v (.int .i32 (((lst (ab.at_ 1)).length:Nat):Int))),(24,.v (.int .i32 ((ae:Nat):Int))),(252,.v (.agg #[.map f9])),(254,.p 5 4)] fg fun _ fh=>?_
         clear fg
         refine qal (qd0 [⟨bv,0,(z1 v T am),true⟩,qa8 af 3 (.agg #[.string ByteArray.empty,.slice none 0 0,.map none]) ((lst (T.at_ 3)).length) (ag + 1),⟨af,ag * 3,(z12 ab),true⟩,qa8 ac 5 (.agg #[.int .i32 0,.slice none 0 0,.slice none 0 0,.slice none 0 0,.map none]) ((lst (ab.at_ 1)).length) (ae + 1),⟨ac,ae * 5,[.int .i32 (IntKind.i32.wrap (aa.at_ 0).N),.slice aj.A aj.l aj.c,.slice ak.A ak.l ak.c,.slice ao.A ao.l ao.c,.map f9],true⟩] 4 fh fun _ fi=>?_)
         clear fh
         refine qaf ?_
         have ir:=fi.pk (env':=[(2,.v (.bool false)),(7,.p 0 0),(9,.v (.bool (decide (v ≥ 0)))),(10,.p 1 0),(15,.v (.slice (some ⟨af,0,none⟩) ((lst (T.at_ 3)).length) ai)),(16,.v (.int .i32 (((lst (T.at_ 3)).length:Nat):Int))),(17,.v (.int .i32 ((ag:Nat):Int))),(19,.p 3 0),(22,.v (.slice (some ⟨ac,0,none⟩) ((lst (ab.at_ 1)).length) ah)),(23,.v (.int .i32 (((lst (ab.at_ 1)).length:Nat):Int))),(24,.v (.int .i32 ((ae:Nat):Int)))])
         clear fi
         refine qab ?_
         exact ⟨f9,aa.U,_,fun w F h_=>⟨(ff _ _ h_).1,⟨(ff _ _ h_).2,e163_U.2.1,e163_U.2.2⟩,⟨fun _=>rfl,(fun e_=>by rw [aQ] at e_; cases e_)⟩⟩,ir.pk (env':=[(2,.v (.bool false)),(7,.p 0 0),(9,.v (.bool (decide (v ≥ 0)))),(10,.p 1 0),(15,.v (.slice (some ⟨af,0,none⟩) ((lst (T.at_ 3)).length) ai)),(16,.v (.int .i32 (((lst (T.at_ 3)).length:Nat):Int))),(17,.v (.int .i32 ((ag:Nat):Int))),(19,.p 3 0),(22,.v (.slice (some ⟨ac,0,none⟩) ((lst (ab.at_ 1)).length) ah)),(23,.v (.int .i32 (((lst (ab.at_ 1)).length:Nat):Int))),(24,.v (.int .i32 ((ae:Nat):Int)))])⟩
        have fj:=aP.cast (t:=[] ++ bA) (by rw [if_neg (by rw [aQ]; decide)])
        clear aP
        have iu:=fj.cast (t:=bA) rfl
        clear fj
        refine wp_skip (qab ?_)
        exact ⟨none,[],_,fun w F h_=>⟨h_,⟨MapR.nil _ _,Nat.zero_le _,fun _ h=>by cases h⟩,⟨(fun e_=>by rw [aQ] at e_; cases e_),fun _=>rfl⟩⟩,iu.pk (env':=[(2,.v (.bool false)),(7,.p 0 0),(9,.v (.bool (decide (v ≥ 0)))),(10,.p 1 0),(15,.v (.slice (some ⟨af,0,none⟩) ((lst (T.at_ 3)).length) ai)),(16,.v (.int .i32 (((lst (T.at_ 3)).length:Nat):Int))),(17,.v (.int .i32 ((ag:Nat):Int))),(19,.p 3 0),(22,.v (.slice (some ⟨ac,0,none⟩) ((lst (ab.at_ 1)).length) ah)),(23,.v (.int .i32 (((lst (ab.at_ 1)).length:Nat):Int))),(24,.v (.int .i32 ((ae:Nat):Int)))])⟩
       rintro _ _ ⟨bP,aY,jl,av,fk⟩
       refine qas (qab (qbl [(2,.v (.bool false)),(7,.p 0 0),(9,.v (.bool (decide (v ≥ 0)))),(10,.p 1 0),(15,.v (.slice (some ⟨af,0,none⟩) ((lst (T.at_ 3)).length) ai)),(16,.v (.int .i32 (((lst (T.at_ 3)).length:Nat):Int))),(17,.v (.int .i32 ((ag:Nat):Int))),(19,.p 3 0),(22,.v (.slice (some ⟨ac,0,none⟩) ((lst (ab.at_ 1)).length) ah)),(23,.v (.int .i32 (((lst (ab.at_ 1)).length:Nat):Int))),(24,.v (.int .i32 (IntKind.i32.wrap (((ae:Nat):Int) + 1))))] fk fun _ fm=>?_))
       clear fk
       refine qab ?_
       have iv:=(fm.envEq (env':=[(2,.v (.bool false)),(7,.p 0 0),(9,.v (.bool (decide (v ≥ 0)))),(10,.p 1 0),(15,.v (.slice (some ⟨af,0,none⟩) ((lst (T.at_ 3)).length) ai)),(16,.v (.int .i32 (((lst (T.at_ 3)).length:Nat):Int))),(17,.v (.int .i32 ((ag:Nat):Int))),(19,.p 3 0),(22,.v (.slice (some ⟨ac,0,none⟩) ((lst (ab.at_ 1)).length) ah)),(23,.v (.int .i32 (((lst (ab.at_ 1)).length:Nat):Int))),(24,.v (.int .i32 ((ae + 1:Nat):Int)))]) (by rw [qeC (by have:=e107_1; omega)])).pk (env':=[(2,.v (.bool false)),(7,.p 0 0),(9,.v (.bool (decide (v ≥ 0)))),(10,.p 1 0),(15,.v (.slice (some ⟨af,0,none⟩) ((lst (T.at_ 3)).length) ai)),(16,.v (.int .i32 (((lst (T.at_ 3)).length:Nat):Int))),(17,.v (.int .i32 ((ag:Nat):Int))),(19,.p 3 0),(22,.v (.slice (some ⟨ac,0,none⟩) ((lst (ab.at_ 1)).length) ah)),(23,.v (.int .i32 (((lst (ab.at_ 1)).length:Nat):Int))),(24,.v (.int .i32 ((ae + 1:Nat):Int)))])
       clear fm
       exact (RS.thing (tb:=[⟨bv,0,[.int .i16 v,.int .i32 (IntKind.i32.wrap (T.at_ 0).N),.int .i16 (IntKind.i16.wrap (T.at_ 1).N),.pointer am,.slice none 0 0,.map none],true⟩,qa8 af 3 (.agg #[.string ByteArray.empty,.slice none 0 0,.map none]) ((lst (T.at_ 3)).length) (ag + 1),⟨af,ag * 3,[.string (bs (ab.at_ 0).S),.slice none 0 0,.map none],true⟩]) (z:=.agg #[.int .i32 0,.slice none 0 0,.slice none 0 0,.slice none 0 0,.map none]) (D:=(dvP bP aY [dvN (IntKind.i32.wrap (aa.at_ 0).N),aj,ak,ao])) (iv.cast cT) hg_g144 bz qaK bx rfl (fun w F h_=>⟨(cR _ _ (bh _ _ (aG _ _ (aD _ _ (av _ _ h_).1).1).1).1).1,(cR _ _ (bh _ _ (aG _ _ (aD _ _ (av _ _ h_).1).1).1).1).2,⟨(trivial),((bh _ _ (aG _ _ (aD _ _ (av _ _ h_).1).1).1).2.1),((aG _ _ (aD _ _ (av _ _ h_).1).1).2.1),((aD _ _ (av _ _ h_).1).2.1),(av _ _ h_).2.1.1,(av _ _ h_).2.1.2.1,(av _ _ h_).2.1.2.2,trivial⟩,⟨(rfl),((bh _ _ (aG _ _ (aD _ _ (av _ _ h_).1).1).1).2.2),((aG _ _ (aD _ _ (av _ _ h_).1).1).2.2),((aD _ _ (av _ _ h_).1).2.2),(av _ _ h_).2.2,trivial⟩⟩) kz)
      refine wp_seq (wp_seq (qbl [(2,.v (.bool false)),(7,.p 0 0),(9,.v (.bool (decide (v ≥ 0)))),(10,.p 1 0),(15,.v (.slice (some ⟨af,0,none⟩) ((lst (T.at_ 3)).length) ai)),(16,.v (.int .i32 (((lst (T.at_ 3)).length:Nat):Int))),(17,.v (.int .i32 ((ag:Nat):Int))),(19,.p 3 0),(22,.v (.slice (some ⟨ac,0,none⟩) ((lst (ab.at_ 1)).length) ah)),(23,.v (.int .i32 (((lst (ab.at_ 1)).length:Nat):Int))),(24,.v (.int .i32 (((lst (ab.at_ 1)).length:Nat):Int))),(137,.v (.bool (decide ((((lst (ab.at_ 1)).length:Nat):Int) < (((lst (ab.at_ 1)).length:Nat):Int)))))] cQ fun _ fo=>qab ?_))
      clear cQ
      refine qam fo.env_ (b:=decide ((((lst (ab.at_ 1)).length:Nat):Int) < (((lst (ab.at_ 1)).length:Nat):Int))) kz (decide_eq_false (by omega)) ?_
      refine wp_exit (qau (qau (qaL (qab ?_))))
      obtain ⟨iX,iw⟩:=RS.listEnd (tb:=[⟨bv,0,(z1 v T am),true⟩,qa8 af 3 (.agg #[.string ByteArray.empty,.slice none 0 0,.map none]) ((lst (T.at_ 3)).length) (ag + 1),⟨af,ag * 3,(z12 ab),true⟩]) (c:=ah) (fo.pk (env':=[(2,.v (.bool false)),(7,.p 0 0),(9,.v (.bool (decide (v ≥ 0)))),(10,.p 1 0),(15,.v (.slice (some ⟨af,0,none⟩) ((lst (T.at_ 3)).length) ai)),(16,.v (.int .i32 (((lst (T.at_ 3)).length:Nat):Int))),(17,.v (.int .i32 ((ag:Nat):Int))),(19,.p 3 0),(22,.v (.slice (some ⟨ac,0,none⟩) ((lst (ab.at_ 1)).length) ah))])) hg_g144 qaK bx hcap_g144 (by have:=e107_1; omega) hn_g144 kz
      exact ⟨dvL (some ⟨ac,0,none⟩) (lst (ab.at_ 1)).length ah iX,_,fun w F h_=>⟨h_.1,⟨h_.2.1,Nat.le_trans e107_1 (by decide),h_.2.2.1⟩,⟨rfl,h_.2.2.2⟩⟩,iw⟩
     refine wp_skip (qab (wp_seq (qbl [(2,.v (.bool false)),(7,.p 0 0),(9,.v (.bool (decide (v ≥ 0)))),(10,.p 1 0),(15,.v (.slice (some ⟨af,0,none⟩) ((lst (T.at_ 3)).length) ai)),(16,.v (.int .i32 (((lst (T.at_ 3)).length:Nat):Int))),(17,.v (.int .i32 ((ag:Nat):Int))),(19,.p 3 0),(22,.v (.slice none 0 0)),(23,.v (.int .i32 (((lst (ab.at_ 1)).length:Nat):Int))),(24,.v (.int .i32 0))] aI fun _ fq=>?_)))
     clear aI
     refine qab (wp_block (qd1 (wp_seq (wp_seq (qbl [(2,.v (.bool false)),(7,.p 0 0),(9,.v (.bool (decide (v ≥ 0)))),(10,.p 1 0),(15,.v (.slice (some ⟨af,0,none⟩) ((lst (T.at_ 3)).length) ai)),(16,.v (.int .i32 (((lst (T.at_ 3)).length:Nat):Int))),(17,.v (.int .i32 ((ag:Nat):Int))),(19,.p 3 0),(22,.v (.slice none 0 0)),(23,.v (.int .i32 (((lst (ab.at_ 1)).length:Nat):Int))),(24,.v (.int .i32 0)),(137,.v (.bool (decide (0 < (((lst (ab.at_ 1)).length:Nat):Int)))))] fq fun _ fr=>qab ?_)))))
     clear fq
     refine qam fr.env_ (b:=decide (0 < (((lst (ab.at_ 1)).length:Nat):Int))) kz (decide_eq_false (by have h_:=of_decide_eq_false bf; omega)) ?_
     refine wp_exit (qau (qau (qaL (qab ?_))))
     have hz_:(lst (ab.at_ 1)).length = 0:=by have h_:=of_decide_eq_false bf; omega
     exact ⟨dvL none 0 0 (fun _=>dv0),_,fun w F h_=>⟨h_,⟨Slots.nil _ _ _ _,Nat.zero_le _,fun _ h=>absurd h (Nat.not_lt_zero _)⟩,⟨hz_.symm,fun _ h=>absurd h (Nat.not_lt_zero _)⟩⟩,(fr.cast (t:=aH) (by rw [List.eq_nil_of_length_eq_zero hz_]; rfl)).pk (env':=[(2,.v (.bool false)),(7,.p 0 0),(9,.v (.bool (decide (v ≥ 0)))),(10,.p 1 0),(15,.v (.slice (some ⟨af,0,none⟩) ((lst (T.at_ 3)).length) ai)),(16,.v (.int .i32 (((lst (T.at_ 3)).length:Nat):Int))),(17,.v (.int .i32 ((ag:Nat):Int))),(19,.p 3 0),(22,.v (.slice none 0 0))])⟩
    rintro _ _ ⟨al,iY,bk,ft⟩
    refine wp_seq (qbl [(2,.v (.bool false)),(7,.p 0 0),(9,.v (.bool (decide (v ≥ 0)))),(10,.p 1 0),(15,.v (.slice (some ⟨af,0,none⟩) ((lst (T.at_ 3)).length) ai)),(16,.v (.int .i32 (((lst (T.at_ 3)).length:Nat):Int))),(17,.v (.int .i32 ((ag:Nat):Int))),(19,.p 3 0),(21,.v (.slice al.A al.l al.c))] ft fun _ fu=>?_)
    clear ft
    refine qab (qd9 [⟨bv,0,(z1 v T am),true⟩,qa8 af 3 (.agg #[.string ByteArray.empty,.slice none 0 0,.map none]) ((lst (T.at_ 3)).length) (ag + 1),⟨af,ag * 3,[.string (bs (ab.at_ 0).S),.slice al.A al.l al.c,.map none],true⟩] 2 [(2,.v (.bool false)),(7,.p 0 0),(9,.v (.bool (decide (v ≥ 0)))),(10,.p 1 0),(15,.v (.slice (some ⟨af,0,none⟩) ((lst (T.at_ 3)).length) ai)),(16,.v (.int .i32 (((lst (T.at_ 3)).length:Nat):Int))),(17,.v (.int .i32 ((ag:Nat):Int))),(19,.p 3 0)] fu fun _ _ fv=>?_)
    clear fu
    refine qab ?_
    have fw:=fv.cast bZ
    clear fv
    refine qfh (Mid:=fun a_ w_=>∃ (bQ:Option Nat) (aZ:List (Int × Bs)) (P':qcw),(∀ w F,P' w F → iY w F ∧ (MapR w F bQ aZ ∧ aZ.length ≤ 1000000 ∧ ∀ x ∈ aZ,x.2.length < 4294967296) ∧ ((decide (v ≥ 0)) = true → aZ = ab.U) ∧ ((decide (v ≥ 0)) = false → aZ = [])) ∧ RS w (fun b o=>b = bv ∧ o < 6) F 276 bd [⟨bv,0,[.int .i16 v,.int .i32 (IntKind.i32.wrap (T.at_ 0).N),.int .i16 (IntKind.i16.wrap (T.at_ 1).N),.pointer am,.slice none 0 0,.map none],true⟩,qa8 af 3 (.agg #[.string ByteArray.empty,.slice none 0 0,.map none]) ((lst (T.at_ 3)).length) (ag + 1),⟨af,ag * 3,[.string (bs (ab.at_ 0).S),.slice al.A al.l al.c,.map bQ],true⟩] [(2,.v (.bool false)),(7,.p 0 0),(9,.v (.bool (decide (v ≥ 0)))),(10,.p 1 0),(15,.v (.slice (some ⟨af,0,none⟩) ((lst (T.at_ 3)).length) ai)),(16,.v (.int .i32 (((lst (T.at_ 3)).length:Nat):Int))),(17,.v (.int .i32 ((ag:Nat):Int)))] P' bp a_ w_) ?_ ?_
    ·
     refine wp_seq (qbl [(2,.v (.bool false)),(7,.p 0 0),(9,.v (.bool (decide (v ≥ 0)))),(10,.p 1 0),(15,.v (.slice (some ⟨af,0,none⟩) ((lst (T.at_ 3)).length) ai)),(16,.v (.int .i32 (((lst (T.at_ 3)).length:Nat):Int))),(17,.v (.int .i32 ((ag:Nat):Int))),(19,.p 3 0),(260,.v (.bool (decide (v ≥ 0))))] fw fun _ aR=>qab ?_)
     clear fw
     refine qaw aR.env_ (b:=decide (v ≥ 0)) kz (fun aS=>?_) (fun aS=>?_)
     ·
      have fx:=aR.cast (t:=((uv ab.U.length) ++ (qcK ab.U)) ++ bp) (by rw [if_pos aS])
      clear aR
      refine qaq [0,1,2,3,4] kz ?_
      refine qcG [0] [1,2,3,4] [(2,.v (.bool false)),(7,.p 0 0),(9,.v (.bool (decide (v ≥ 0)))),(10,.p 1 0),(15,.v (.slice (some ⟨af,0,none⟩) ((lst (T.at_ 3)).length) ai)),(16,.v (.int .i32 (((lst (T.at_ 3)).length:Nat):Int))),(17,.v (.int .i32 ((ag:Nat):Int))),(261,.p 3 0)] fx fun _ fy=>?_
      clear fx
      refine qal (qgt (d:=262) fy (qld ab.U e107_U (qff e107r) _) (fun _=>MvF.tags _ _) Tryz.call101 fun ga jm _ _ fz fA=>?_)
      clear fy
      refine qcG [2,3] [4] [(2,.v (.bool false)),(7,.p 0 0),(9,.v (.bool (decide (v ≥ 0)))),(10,.p 1 0),(15,.v (.slice (some ⟨af,0,none⟩) ((lst (T.at_ 3)).length) ai)),(16,.v (.int .i32 (((lst (T.at_ 3)).length:Nat):Int))),(17,.v (.int .i32 ((ag:Nat):Int))),(262,.v (.agg #[.map ga])),(264,.p 3 2)] fA fun _ fB=>?_
      clear fA
      refine qal (qd0 [⟨bv,0,(z1 v T am),true⟩,qa8 af 3 (.agg #[.string ByteArray.empty,.slice none 0 0,.map none]) ((lst (T.at_ 3)).length) (ag + 1),⟨af,ag * 3,[.string (bs (ab.at_ 0).S),.slice al.A al.l al.c,.map ga],true⟩] 2 fB fun _ fC=>?_)
      clear fB
      refine qaf ?_
      have ix:=fC.pk (env':=[(2,.v (.bool false)),(7,.p 0 0),(9,.v (.bool (decide (v ≥ 0)))),(10,.p 1 0),(15,.v (.slice (some ⟨af,0,none⟩) ((lst (T.at_ 3)).length) ai)),(16,.v (.int .i32 (((lst (T.at_ 3)).length:Nat):Int))),(17,.v (.int .i32 ((ag:Nat):Int)))])
      clear fC
      refine qab ?_
      exact ⟨ga,ab.U,_,fun w F h_=>⟨(fz _ _ h_).1,⟨(fz _ _ h_).2,e107_U.2.1,e107_U.2.2⟩,⟨fun _=>rfl,(fun e_=>by rw [aS] at e_; cases e_)⟩⟩,ix.pk (env':=[(2,.v (.bool false)),(7,.p 0 0),(9,.v (.bool (decide (v ≥ 0)))),(10,.p 1 0),(15,.v (.slice (some ⟨af,0,none⟩) ((lst (T.at_ 3)).length) ai)),(16,.v (.int .i32 (((lst (T.at_ 3)).length:Nat):Int))),(17,.v (.int .i32 ((ag:Nat):Int)))])⟩
     have fD:=aR.cast (t:=[] ++ bp) (by rw [if_neg (by rw [aS]; decide)])
     clear aR
     have iy:=fD.cast (t:=bp) rfl
     clear fD
     refine wp_skip (qab ?_)
     exact ⟨none,[],_,fun w F h_=>⟨h_,⟨MapR.nil _ _,Nat.zero_le _,fun _ h=>by cases h⟩,⟨(fun e_=>by rw [aS] at e_; cases e_),fun _=>rfl⟩⟩,iy.pk (env':=[(2,.v (.bool false)),(7,.p 0 0),(9,.v (.bool (decide (v ≥ 0)))),(10,.p 1 0),(15,.v (.slice (some ⟨af,0,none⟩) ((lst (T.at_ 3)).length) ai)),(16,.v (.int .i32 (((lst (T.at_ 3)).length:Nat):Int))),(17,.v (.int .i32 ((ag:Nat):Int)))])⟩
    rintro _ _ ⟨bQ,aZ,jn,aE,fE⟩
    refine qas (qab (qbl [(2,.v (.bool false)),(7,.p 0 0),(9,.v (.bool (decide (v ≥ 0)))),(10,.p 1 0),(15,.v (.slice (some ⟨af,0,none⟩) ((lst (T.at_ 3)).length) ai)),(16,.v (.int .i32 (((lst (T.at_ 3)).length:Nat):Int))),(17,.v (.int .i32 (IntKind.i32.wrap (((ag:Nat):Int) + 1))))] fE fun _ fF=>?_))
    clear fE
    refine qab ?_
    have iz:=(fF.envEq (env':=[(2,.v (.bool false)),(7,.p 0 0),(9,.v (.bool (decide (v ≥ 0)))),(10,.p 1 0),(15,.v (.slice (some ⟨af,0,none⟩) ((lst (T.at_ 3)).length) ai)),(16,.v (.int .i32 (((lst (T.at_ 3)).length:Nat):Int))),(17,.v (.int .i32 ((ag + 1:Nat):Int)))]) (by rw [qeC (by have:=e26_3; omega)])).pk (env':=[(2,.v (.bool false)),(7,.p 0 0),(9,.v (.bool (decide (v ≥ 0)))),(10,.p 1 0),(15,.v (.slice (some ⟨af,0,none⟩) ((lst (T.at_ 3)).length) ai)),(16,.v (.int .i32 (((lst (T.at_ 3)).length:Nat):Int))),(17,.v (.int .i32 ((ag + 1:Nat):Int)))])
    clear fF
    exact (RS.thing (tb:=[⟨bv,0,[.int .i16 v,.int .i32 (IntKind.i32.wrap (T.at_ 0).N),.int .i16 (IntKind.i16.wrap (T.at_ 1).N),.pointer am,.slice none 0 0,.map none],true⟩]) (z:=.agg #[.string ByteArray.empty,.slice none 0 0,.map none]) (D:=(dvP bQ aZ [dvS (bs (ab.at_ 0).S),al])) (iz.cast bY) hg_g88 f8 qaV bU rfl (fun w F h_=>⟨(bW _ _ (bk _ _ (aE _ _ h_).1).1).1,(bW _ _ (bk _ _ (aE _ _ h_).1).1).2,⟨(by show ByteArray.size (bs _) ≤ 1000000; rw [qjn]; exact Nat.le_trans e107_0 (by decide)),((bk _ _ (aE _ _ h_).1).2.1),(aE _ _ h_).2.1.1,(aE _ _ h_).2.1.2.1,(aE _ _ h_).2.1.2.2,trivial⟩,⟨(rfl),((bk _ _ (aE _ _ h_).1).2.2),(aE _ _ h_).2.2,trivial⟩⟩) kz)
   refine wp_seq (wp_seq (qbl [(2,.v (.bool false)),(7,.p 0 0),(9,.v (.bool (decide (v ≥ 0)))),(10,.p 1 0),(15,.v (.slice (some ⟨af,0,none⟩) ((lst (T.at_ 3)).length) ai)),(16,.v (.int .i32 (((lst (T.at_ 3)).length:Nat):Int))),(17,.v (.int .i32 (((lst (T.at_ 3)).length:Nat):Int))),(97,.v (.bool (decide ((((lst (T.at_ 3)).length:Nat):Int) < (((lst (T.at_ 3)).length:Nat):Int)))))] bV fun _ fG=>qab ?_))
   clear bV
   refine qam fG.env_ (b:=decide ((((lst (T.at_ 3)).length:Nat):Int) < (((lst (T.at_ 3)).length:Nat):Int))) kz (decide_eq_false (by omega)) ?_
   refine wp_exit (qau (qau (qaL (qab ?_))))
   obtain ⟨iZ,iA⟩:=RS.listEnd (tb:=[⟨bv,0,(z1 v T am),true⟩]) (c:=ai) (fG.pk (env':=[(7,.p 0 0),(9,.v (.bool (decide (v ≥ 0)))),(10,.p 1 0),(15,.v (.slice (some ⟨af,0,none⟩) ((lst (T.at_ 3)).length) ai))])) hg_g88 qaV bU hcap_g88 (by have:=e26_3; omega) hn_g88 kz
   exact ⟨dvL (some ⟨af,0,none⟩) (lst (T.at_ 3)).length ai iZ,_,fun w F h_=>⟨h_.1,⟨h_.2.1,Nat.le_trans e26_3 (by decide),h_.2.2.1⟩,⟨rfl,h_.2.2.2⟩⟩,iA⟩
  refine wp_skip (qab (wp_seq (qbl [(2,.v (.bool false)),(7,.p 0 0),(9,.v (.bool (decide (v ≥ 0)))),(10,.p 1 0),(15,.v (.slice none 0 0)),(16,.v (.int .i32 (((lst (T.at_ 3)).length:Nat):Int))),(17,.v (.int .i32 0))] bo fun _ fH=>?_)))
  clear bo
  refine qab (wp_block (qd1 (wp_seq (wp_seq (qbl [(2,.v (.bool false)),(7,.p 0 0),(9,.v (.bool (decide (v ≥ 0)))),(10,.p 1 0),(15,.v (.slice none 0 0)),(16,.v (.int .i32 (((lst (T.at_ 3)).length:Nat):Int))),(17,.v (.int .i32 0)),(97,.v (.bool (decide (0 < (((lst (T.at_ 3)).length:Nat):Int)))))] fH fun _ fI=>qab ?_)))))
  clear fH
  refine qam fI.env_ (b:=decide (0 < (((lst (T.at_ 3)).length:Nat):Int))) kz (decide_eq_false (by have h_:=of_decide_eq_false bO; omega)) ?_
  refine wp_exit (qau (qau (qaL (qab ?_))))
  have hz_:(lst (T.at_ 3)).length = 0:=by have h_:=of_decide_eq_false bO; omega
  exact ⟨dvL none 0 0 (fun _=>dv0),_,fun w F h_=>⟨h_,⟨Slots.nil _ _ _ _,Nat.zero_le _,fun _ h=>absurd h (Nat.not_lt_zero _)⟩,⟨hz_.symm,fun _ h=>absurd h (Nat.not_lt_zero _)⟩⟩,(fI.cast (t:=bT) (by rw [List.eq_nil_of_length_eq_zero hz_]; rfl)).pk (env':=[(7,.p 0 0),(9,.v (.bool (decide (v ≥ 0)))),(10,.p 1 0),(15,.v (.slice none 0 0))])⟩
 rintro _ _ ⟨aC,jo,bR,iB⟩
 refine wp_seq (qbl [(7,.p 0 0),(9,.v (.bool (decide (v ≥ 0)))),(10,.p 1 0),(14,.v (.slice aC.A aC.l aC.c))] iB fun _ fJ=>?_)
 clear iB
 refine qab (qd9 [⟨bv,0,[.int .i16 v,.int .i32 (IntKind.i32.wrap (T.at_ 0).N),.int .i16 (IntKind.i16.wrap (T.at_ 1).N),.pointer am,.slice aC.A aC.l aC.c,.map none],true⟩] 0 [(7,.p 0 0),(9,.v (.bool (decide (v ≥ 0)))),(10,.p 1 0)] fJ fun _ _ fK=>?_)
 clear fJ
 refine qab (wp_seq ?_)
 have fL:=fK.cast gd
 clear fK
 refine qfh (Mid:=fun a_ w_=>∃ (bS:Option Nat) (ba:List (Int × Bs)) (P':qcw),(∀ w F,P' w F → jo w F ∧ (MapR w F bS ba ∧ ba.length ≤ 1000000 ∧ ∀ x ∈ ba,x.2.length < 4294967296) ∧ ((decide (v ≥ 0)) = true → ba = T.U) ∧ ((decide (v ≥ 0)) = false → ba = [])) ∧ RS w (fun b o=>b = bv ∧ o < 6) F 276 bd [⟨bv,0,[.int .i16 v,.int .i32 (IntKind.i32.wrap (T.at_ 0).N),.int .i16 (IntKind.i16.wrap (T.at_ 1).N),.pointer am,.slice aC.A aC.l aC.c,.map bS],true⟩] [(7,.p 0 0)] P' ([]:Bs) a_ w_) ?_ ?_
 ·
  refine wp_seq (qbl [(7,.p 0 0),(10,.p 1 0),(270,.v (.bool (decide (v ≥ 0))))] fL fun _ aT=>qab ?_)
  clear fL
  refine qaw aT.env_ (b:=decide (v ≥ 0)) kz (fun aU=>?_) (fun aU=>?_)
  ·
   have fM:=aT.cast (t:=((uv T.U.length) ++ (qcK T.U)) ++ ([]:Bs)) (by rw [if_pos aU])
   clear aT
   refine qaq [0,1,2,3,4] kz ?_
   refine qcG [0] [1,2,3,4] [(7,.p 0 0),(271,.p 1 0)] fM fun _ fN=>?_
   clear fM
   refine qal (qgt (d:=272) fN (qld T.U e26_U (qff e26r) _) (fun _=>MvF.tags _ _) Tryz.call101 fun gb jp _ _ fO fP=>?_)
   clear fN
   refine qcG [2,3] [4] [(7,.p 0 0),(272,.v (.agg #[.map gb])),(274,.p 1 5)] fP fun _ fQ=>?_
   clear fP
   refine qal (qd0 [⟨bv,0,[.int .i16 v,.int .i32 (IntKind.i32.wrap (T.at_ 0).N),.int .i16 (IntKind.i16.wrap (T.at_ 1).N),.pointer am,.slice aC.A aC.l aC.c,.map gb],true⟩] 0 fQ fun _ fR=>?_)
   clear fQ
   refine qaf ?_
   have iC:=fR.pk (env':=[(7,.p 0 0)])
   clear fR
   refine qab ?_
   exact ⟨gb,T.U,_,fun w F h_=>⟨(fO _ _ h_).1,⟨(fO _ _ h_).2,e26_U.2.1,e26_U.2.2⟩,⟨fun _=>rfl,(fun e_=>by rw [aU] at e_; cases e_)⟩⟩,iC.pk (env':=[(7,.p 0 0)])⟩
  have fS:=aT.cast (t:=[] ++ ([]:Bs)) (by rw [if_neg (by rw [aU]; decide)])
  clear aT
  have iD:=fS.cast (t:=([]:Bs)) rfl
  clear fS
  refine wp_skip (qab ?_)
  exact ⟨none,[],_,fun w F h_=>⟨h_,⟨MapR.nil _ _,Nat.zero_le _,fun _ h=>by cases h⟩,⟨(fun e_=>by rw [aU] at e_; cases e_),fun _=>rfl⟩⟩,iD.pk (env':=[(7,.p 0 0)])⟩
 rintro _ _ ⟨bS,ba,jq,aF,fT⟩
 refine qab (wp_seq (qaq [0,1] kz (qal (qhw (d:=275) fT qjA Tryz.call96 fun _ fU=>?_))))
 clear fT
 refine qcG [1] [] [(6,.v (.nilIface))] fU fun _ fV=>qaf ?_
 clear fU
 refine qab (wp_ret ?_)
 obtain ⟨A_,m_,c_,hW_,hr_,hE_,hP_⟩:=fV.open_
 refine qaM hE_ hW_.cells (v:=.nilIface) kz ?_
 have h_:=fV.mv.mono qb8 hP_
 refine ⟨(dvP bS ba [dvN (IntKind.i32.wrap (T.at_ 0).N),dvN (IntKind.i16.wrap (T.at_ 1).N),dvT am (bs (qcN (T.at_ 2))),aC]),rfl,Str.of hW_ 1 rfl,?_,?_,hW_.step⟩
 ·unfold qa5
  exact ⟨(trivial),(trivial),(⟨(gF _ _ (bR _ _ (aF _ _ h_).1).1).2.1,by show ByteArray.size (bs _) ≤ 1000000; rw [qjn]; exact Nat.le_trans e26_2 (by decide)⟩),((bR _ _ (aF _ _ h_).1).2.1),(aF _ _ h_).2.1.1,(aF _ _ h_).2.1.2.1,(aF _ _ h_).2.1.2.2,trivial⟩
 unfold qaZ
 exact ⟨(rfl),(rfl),(⟨rfl,(gF _ _ (bR _ _ (aF _ _ h_).1).1).2.2⟩),((bR _ _ (aF _ _ h_).1).2.2),(aF _ _ h_).2.2,trivial⟩
theorem qbI:qgq qa5:=by
 intro w w' F F' M d hs hM hF h
 unfold qa5 at h ⊢
 obtain ⟨g0,g1,⟨g2,g2l⟩,⟨g3,g3l,g3e⟩,t1,t2,t3,_⟩:=h
 exact ⟨g0,g1,⟨fun ad hA=>by
  obtain ⟨b,o,h1,h2⟩:=g2 ad hA
  exact ⟨b,o,h1,h2.move hs hM hF⟩,g2l⟩,⟨g3.move hs hM hF,g3l,fun i hi=>qaV _ hs hM hF (g3e i hi)⟩,t1.move hs hM hF,t2,t3,trivial⟩
end Go.Proofs.YtfljkhecngpcmaaGreatDoor.ME
namespace Go.Proofs.YtfljkhecngpcmaaGreatDoor.ME
open Go
open Go.RowKit
open Go.ChangeMaps (setBlock)
set_option linter.unusedVariables false
set_option linter.unusedSimpArgs false
set_option maxRecDepth 20000
abbrev cloV (fc:Nat) (cap:Value):Value:=.func (.func fc) #[] #[cap]
theorem qlL {fc:Nat} {cap:Value} {m:Option Nat} {u:List (Int × Bs)} {b o:Nat} {w:World} {F M:Nat → Nat → Prop} (hcf:∀ args w,(callFunc fc args).run Tryz.prog w = .ok (.enter fc args) w) (I:World → Nat → World → Prop) (hat:AtF w F b o [.map m]) (hm:MapR w F m u) (hMF:∀ b o,F b o → ¬ M b o) (hMlt:∀ b o,M b o → b < w.heap.size)
  (hI0:∀ w7,Step w w7 Nil → I w7 0 w7) (hIs:∀ w7 j w8,I w7 j w8 → Step w7 w8 M)
  (hI1:∀ w7,Step w w7 Nil → ∀ j k x w8 Ax cx,I w7 j w8 → u[j]? = some (k,x) → (0 ≤ k ∧ k < 4294967296) → Octs w8 (fun b o=>F b o ∧ b < w7.heap.size) Ax cx x → Calls Tryz.prog fc [.int .u32 k,.slice Ax x.length cx,cap].toArray w8 (fun e w9=>e = .returned (.tuple #[]) ∧ I w7 (j + 1) w9)) (hul:u.length ≤ 1000000) :
  Calls Tryz.prog 64 [.pointer (some ⟨b,o,none⟩),cloV fc cap].toArray w (fun e w'=>e = .returned (.tuple #[]) ∧ ∃ w7,Step w w7 Nil ∧ I w7 u.length w'):=by
 refine enter (n:=53) Tryz.func64 rfl Tryz.ntmps64 kz fun a hE=>?_
 have hW:WOk w Nil w [⟨b,o,[.map m],false⟩] []:=(WOk.start w Nil).start1 hat rfl rfl
 refine wp_seq (wp_seq ?_)
 refine qaq [0,1,2,3,4,5] kz ?_
 refine qbP [0,1,2,3] [4,5] [0,1,11] hW (EnvOk.ptr0 (cs:=[.map m]) (r:=false) hE) (env':=[(0,.p 0 0),(1,.v (cloV fc cap)),(11,.v (.map m))]) kz rfl fun a1 hE1=>?_
 refine qal (qgM (t:=81) (kt:=64) (et:=22) hE1 (m:=m) (d:=12) kz kz hm fun a2 hE2=>?_)
 refine qbP [5] [] [0,1,13] hW hE2 (env':=[(0,.p 0 0),(1,.v (cloV fc cap)),(13,.v (.bool (((u.length:Nat):Int) == 0)))]) kz rfl fun a3 hE3=>qaf (qab ?_)
 refine qaw hE3 (b:=((u.length:Nat):Int) == 0) kz (fun hb=>?_) (fun hb=>?_)
 ·-- none
  have hu:u = []:=List.eq_nil_of_length_eq_zero (by have:=eq_of_beq hb; omega)
  subst hu
  refine wp_ret (qat ?_)
  exact qaM hE3 hW.cells (v:=.tuple #[]) kz ⟨rfl,w,Step.refl _ _,hI0 w (Step.refl _ _)⟩
 have hu0:0 < u.length:=by have:=ne_of_beq_false hb; omega
 cases m with
 | none=>rw [hm.none_ rfl] at hu0; cases hu0
 | some mb =>
 obtain ⟨hFm,es,clk,hes,hperm,hborn,hnod,hcont⟩:=hm.some_ mb rfl
 have hmlt:mb < w.heap.size:=(Array.getElem?_eq_some_iff.1 hes).1
 have hesz:es.size = u.length:=MapR.size (w:=w) (F:=F) hperm
 refine wp_skip (qab ?_)
 refine qae [0,1,2,3,4,5,6,7] kz ?_
 refine qbP [0,1,2,3] [4,5,6,7] [0,1,17] hW hE3 (env':=[(0,.p 0 0),(1,.v (cloV fc cap)),(17,.v (.map (some mb)))]) kz rfl fun a4 hE4=>?_
 refine qal (qgM (t:=81) (kt:=64) (et:=22) hE4 (m:=some mb) (d:=18) kz kz hm fun a5 hE5=>?_)
 refine qal (qia (e:=64) (size:=1) (bytes:=4) (j:=u.length) (t:=147) (d:=19) hW hE5 (p:=0) (q:=((u.length:Nat):Int)) kz kz rfl rfl (by omega) fun kr a6 w1 hkr hkr0 hF1 hW1 hE6=>?_)
 refine qal (qaS hW1 hE6 (d:=4) (cs:=[.slice none 0 0]) kz fun kb a7 w2 hkb hkb0 hF2 hW2 hE7=>?_)
 refine qal (qap hW2 hE7 (oi:=1) (cs:=[.slice (some ⟨kr,0,none⟩) 0 u.length]) kz fun w3 hF3 hW3 hE8=>qaf (qab ?_))
 refine wp_seq (qae [0,1,2,3,4] kz ?_)
 refine qbP [0,1,2,3] [4] [0,1,4,23] hW3 hE8 (env':=[(0,.p 0 0),(1,.v (cloV fc cap)),(4,.p 1 0),(23,.v (.map (some mb)))]) kz rfl fun a8 hE9=>?_
 have hes3:=hW3.step.heap (fun o h=>h) hes
 refine qal (qid (t:=81) (kt:=64) (et:=22) (d:=24) (r:=mb) hE9 kz kz hes3 fun a9 hE10=>qaf (qab ?_))
 have hW4:=hW3.next_nil (Step.alloc w3 (.mapIter (some mb) clk #[] clk))
 have hr4:(w3.alloc (.mapIter (some mb) clk #[] clk)).heap[w3.heap.size]? = some (.mapIter (some mb) clk #[] clk):=qdh _ _
 have hE11:=hE10.pick (ks:=[0,1,4,24]) (env':=[(0,.p 0 0),(1,.v (cloV fc cap)),(4,.p 1 0),(24,.v (.pointer (some ⟨w3.heap.size,0,none⟩)))]) kz
 have hrlt:w3.heap.size < (w3.alloc (.mapIter (some mb) clk #[] clk)).heap.size:=by rw [qeK]; omega
 have hr0:w.heap.size ≤ w3.heap.size:=hW3.step.size
 have hkbr:kb ≠ w3.heap.size:=by have:=hW3.live 1 _ rfl; show ¬ _; intro e; rw [← e] at this; exact absurd this (Nat.lt_irrefl _)
 have hkrr:kr ≠ w3.heap.size:=by have:=qb0 (hW3.own 0 _ rfl) (g:=kr) rfl; omega
 generalize hR:w3.heap.size = R at hr4 hE11 hrlt hkbr hkrr
 generalize hw4:w3.alloc (.mapIter (some mb) clk #[] clk) = w4 at hW4 hr4 hrlt
 refine wp_block ?_
 refine wp_loop_ghost (fun q a_ w_=>∃ (vis:List MapEntry) (seen:Array Nat) (K:Option Addr) (kc c0:Nat),q = (leftOf es seen).size ∧ Vis es.toList vis seen ∧ vis.length + (leftOf es seen).size ≤ es.size ∧
   EnvOk 53 [⟨b,o,[.map (some mb)],false⟩,⟨kb,0,[.slice K vis.length kc],true⟩] [(0,.p 0 0),(1,.v (cloV fc cap)),(4,.p 1 0),(24,.v (.pointer (some ⟨R,0,none⟩)))] a_ ∧
   WOk w Nil w_ [⟨b,o,[.map (some mb)],false⟩,⟨kb,0,[.slice K vis.length kc],true⟩] [⟨K,kc,64,1,vis.length,(vis.map fun e=>kOf e.key).map (Value.int .u32)⟩] ∧
   w_.heap[R]? = some (.mapIter (some mb) clk seen c0) ∧ clk ≤ c0 ∧ K.map (·.block) ≠ some R) (leftOf es #[]).size
  ⟨[],#[],some ⟨kr,0,none⟩,u.length,clk,rfl,Vis.nil _,by rw [List.length_nil,Nat.zero_add]; exact Array.size_filter_le,by rw [← hw4] at *; exact hE11,hW4,hr4,Nat.le_refl _,by simpa using hkrr⟩ ?_
 rintro q a10 w5 ⟨vis,seen,K,kc,c0,rfl,hv,hvl,hE12,hW5,hr5,hc0,hKR⟩
 have hes5:=hW5.step.heap (fun o h=>h) hes
 refine qae [0,1] kz ?_
 refine qal (qiX hE12 (d:=25) (r:=R) kz hr5 hes5 hborn hc0 (fun h0 a11 hE13=>?_) (fun e he w6 hw6 a11 hE13=>?_))
 ·-- behind it
  refine qbP [1] [] [0,1,4,26] hW5 hE13 (env':=[(0,.p 0 0),(1,.v (cloV fc cap)),(4,.p 1 0),(26,.v (.bool false))]) kz rfl fun a12 hE14=>qaf (qab (wp_seq ?_))
  refine qaw hE14 (b:=false) kz (fun hb=>by cases hb) (fun _=>?_)
  refine wp_exit (qau (qau (qaL (qab ?_))))
  have hpe:=hv.all h0 hnod
  have hvu:vis.length = u.length:=by rw [hpe.length_eq,Array.length_toList,hesz]
  have hkp:(vis.map fun e=>kOf e.key).Perm (u.map Prod.fst):=by
   have h1:=(hpe.map fun e=>kOf e.key)
   have h2:=hperm.map kOf
   rw [List.map_map,List.map_map] at h2
   exact h1.trans h2
  have hkl:(vis.map fun e=>kOf e.key).length = vis.length:=by simp
  generalize (vis.map fun e=>kOf e.key) = ks at hkp hkl hW5
  have hown4:w5.ownsRow 0 64 1 (.slice K vis.length kc) vis.length (ks.map (Value.int .u32)):=hW5.own 0 _ rfl
  obtain ⟨g,rfl⟩:=qbS hown4 (by omega)
  have hown5:w5.ownsRow 0 64 1 (.slice (some ⟨g,0,none⟩) vis.length kc) vis.length (ks.map (Value.int .u32)):=hown4
  have hg0:w.heap.size ≤ g:=by
   rcases hW5.ownM 0 _ rfl g rfl with h | h
   ·exact h
   exact (h 0).elim
  refine qae [0,1,2,3] kz ?_
  refine qbP [0,1] [2,3] [0,1,4,34] hW5 hE14 (env':=[(0,.p 0 0),(1,.v (cloV fc cap)),(4,.p 1 0),(34,.v (.iface 147 (.slice (some ⟨g,0,none⟩) vis.length kc)))]) kz rfl fun a13 hE15=>?_
  refine qal (qfb hE15 (v:=.func (.func 105) #[] #[.pointer (some ⟨kb,0,none⟩)]) (d:=35) kz fun a14 hE16=>?_)
  have hS:=Tryz.sortKeys g kc kb ks.toArray (by simp; omega) (by simp; omega) w5 (by simp only [List.size_toArray,hkl]; exact hW5.cells 1 _ rfl 0 _ rfl) (fun e=>hW5.rtb 0 _ rfl g rfl 1 _ rfl e) (qgO hkl hown5) (qb0 (hW5.own 0 _ rfl) (g:=g) rfl) (hW5.live 1 _ rfl)
  rw [List.size_toArray,hkl] at hS
  refine qal (qak hE16 (f:=104) (vs:=[.iface 147 (.slice (some ⟨g,0,none⟩) vis.length kc),.func (.func 105) #[] #[.pointer (some ⟨kb,0,none⟩)]]) (d:=36) kz Tryz.call104 hS ?_)
  rintro e_ w7 ⟨rfl,d',nd,os,hd1,hd2,hd3,rfl⟩
  refine ⟨_,rfl,fun a15 hE17=>qaf (qab ?_)⟩
  have hus:d'.toList = u.map Prod.fst:=qiY hd2 (by rw [hd1]; exact hd3) hkp (List.pairwise_map.2 hm.sorted)
  obtain ⟨hst7,hown7⟩:=qj1 (n:=nd) (os:=os) hkl hown5 (by rw [hd1,hkl])
  rw [hus] at hown7
  generalize Sort.grow (Sort.putRow (Value.int .u32) (Sort.ahead w5 nd) g 0 d') os = w7 at hst7 hown7
  have hW7:WOk w Nil w7 [⟨b,o,[.map (some mb)],false⟩,⟨kb,0,[.slice (some ⟨g,0,none⟩) vis.length kc],true⟩] [⟨some ⟨g,0,none⟩,kc,64,1,vis.length,(u.map Prod.fst).map (Value.int .u32)⟩] :=
   hW5.grow (k:=0) (r':=⟨some ⟨g,0,none⟩,kc,64,1,vis.length,(u.map Prod.fst).map (Value.int .u32)⟩) rfl (hst7.mono fun b' _ _ hb'=>by rw [hb']; rfl) hown7 (fun g' h=>.inl h)
  refine qae [0,1,2] kz ?_
  refine qbP [0,1,2] [] [0,1,37,38,39] hW7 hE17 (env':=[(0,.p 0 0),(1,.v (cloV fc cap)),(37,.v (.slice (some ⟨g,0,none⟩) vis.length kc)),(38,.v (.int .i64 ((vis.length:Nat):Int))),(39,.v (.int .i64 0))]) kz rfl fun a16 hE18=>qaf (qab ?_)
  have hE19:=EnvOk.cutTb 1 hE18 kz
  have hat7:=hat.move hW7.step nilM qbb
  have hm7:=hm.move hW7.step nilM qbb
  have hg7:g < w7.heap.size:=qb0 (hW7.own 0 _ rfl) (g:=g) rfl
  have hkeys:=qgO (by simpa using hvu.symm) hown7
  rw [hvu] at hE19
  refine wp_block ?_
  refine wp_loop_ghost (fun q a_ w_=>∃ (j:Nat),q = u.length - j ∧ j ≤ u.length ∧ EnvOk 53 [⟨b,o,[.map (some mb)],false⟩] [(0,.p 0 0),(1,.v (cloV fc cap)),(37,.v (.slice (some ⟨g,0,none⟩) u.length kc)),(38,.v (.int .i64 ((u.length:Nat):Int))),(39,.v (.int .i64 ((j:Nat):Int)))] a_ ∧
   I w7 j w_) u.length
   ⟨0,by omega,by omega,hE19,hI0 w7 hW7.step⟩ ?_
  rintro q a17 w8 ⟨j,rfl,hj,hE20,hD⟩
  have hS8:=hIs w7 j w8 hD
  have hat8:=hat7.move hS8 (fun b o hf _=>hMF b o hf) qbb
  have hm8:MapR w8 (fun b' o'=>F b' o' ∧ b' < w7.heap.size) (some mb) u:=hm7.move hS8 (fun b o hf _=>hMF b o hf) (fun b' o' hf hl=>⟨hf,hl⟩)
  have hW8:WOk w8 Nil w8 [⟨b,o,[.map (some mb)],false⟩] []:=(WOk.start w8 Nil).start1 hat8 rfl rfl
  refine qae [0] kz (qbP [0] [] [0,1,37,38,39,40] hW8 hE20 (env':=[(0,.p 0 0),(1,.v (cloV fc cap)),(37,.v (.slice (some ⟨g,0,none⟩) u.length kc)),(38,.v (.int .i64 ((u.length:Nat):Int))),(39,.v (.int .i64 ((j:Nat):Int))),(40,.v (.bool (decide (((j:Nat):Int) < ((u.length:Nat):Int)))))]) kz rfl fun a18 hE21=>qaf (qab (wp_seq ?_)))
  refine qaw hE21 (b:=decide (((j:Nat):Int) < ((u.length:Nat):Int))) kz (fun hc=>?_) (fun hc=>?_)
  ·have hlt:j < u.length:=by have:=of_decide_eq_true hc; omega
   refine wp_skip (qab (wp_seq (wp_block ?_)))
   obtain ⟨⟨k,x⟩,hu⟩:∃ y,u[j]? = some y:=⟨_,List.getElem?_eq_getElem hlt⟩
   have hmem:=List.mem_of_getElem? hu
   have hkr:=hm.range _ hmem
   have hcell:At w8 g (0 + j * 1) [.int .u32 k]:=by
    intro i v hi
    have hi0:i = 0:=by
     have:=(List.getElem?_eq_some_iff.1 hi).1
     simp at this; omega
    subst hi0
    simp only [List.getElem?_cons_zero,Option.some.injEq] at hi
    subst hi
    refine hS8.cell (fun hbm=>?_) ?_
    ·have:=hMlt _ _ hbm; omega
    have h1:=(hkeys j (by simpa using hlt)).1
    have h2:(u.map Prod.fst).toArray[j]! = k:=by
     rw [getElem!_pos _ j (by simpa using hlt)]
     have:(u.map Prod.fst)[j]? = some k:=by rw [List.getElem?_map,hu]; rfl
     simpa using (List.getElem?_eq_some_iff.1 this).2
    rw [h2] at h1
    simpa using h1
   refine qae [0,1,2] kz ?_
   refine qal (qax hE21 (t:=147) (e:=64) (size:=1) (bytes:=4) (d:=41) (b:=g) (o:=0) (m:=u.length) (j:=j) kz kz rfl rfl hlt fun a19 hE22=>?_)
   refine qal (qaU hE22 (t:=64) (d:=42) (cs:=[.int .u32 k]) (v:=.int .u32 k) kz kz hcell fun a20 hE23=>?_)
   refine qbP [2] [] [0,1,37,38,39,7] hW8 hE23 (env':=[(0,.p 0 0),(1,.v (cloV fc cap)),(37,.v (.slice (some ⟨g,0,none⟩) u.length kc)),(38,.v (.int .i64 ((u.length:Nat):Int))),(39,.v (.int .i64 ((j:Nat):Int))),(7,.v (.int .u32 k))]) kz rfl fun a21 hE24=>qaf (qab ?_)
   refine qaq [0,1,2,3,4,5,6,7,8] kz ?_
   refine qbP [0,1,2,3,4,5,6] [7,8] [0,1,37,38,39,43,44,48,49] hW8 hE24 (env':=[(0,.p 0 0),(1,.v (cloV fc cap)),(37,.v (.slice (some ⟨g,0,none⟩) u.length kc)),(38,.v (.int .i64 ((u.length:Nat):Int))),(39,.v (.int .i64 ((j:Nat):Int))),(43,.v (cloV fc cap)),(44,.v (.int .u32 k)),(48,.v (.map (some mb))),(49,.v (.int .u32 k))]) kz rfl fun a22 hE25=>?_
   refine qal (qiV hE25 (t:=81) (kt:=64) (et:=22) (m:=some mb) (k:=k) (s:=x) (d:=50) kz kz kz hm8 hmem fun a23 Ax cx hox hE26=>?_)
   refine qal (qak hE26 (f:=fc) (vs:=[.int .u32 k,.slice Ax x.length cx,cap]) (d:=51) kz hcf (hI1 w7 hW7.step j k x w8 Ax cx hD hu hkr hox) ?_)
   rintro e_ w9 ⟨rfl,hD2⟩
   refine ⟨_,rfl,fun a24 hE27=>qaf (qas (qab ?_))⟩
   have hS9:=hIs w7 (j + 1) w9 hD2
   have hat9:=hat7.move hS9 (fun b o hf _=>hMF b o hf) qbb
   have hW9:WOk w9 Nil w9 [⟨b,o,[.map (some mb)],false⟩] []:=(WOk.start w9 Nil).start1 hat9 rfl rfl
   refine qaq [0,1] kz (qbP [0,1] [] [0,1,37,38,39] hW9 hE27 (env':=[(0,.p 0 0),(1,.v (cloV fc cap)),(37,.v (.slice (some ⟨g,0,none⟩) u.length kc)),(38,.v (.int .i64 ((u.length:Nat):Int))),(39,.v (.int .i64 (IntKind.i64.wrap (((j:Nat):Int) + 1))))]) kz rfl fun a25 hE28=>qaf (qab ?_))
   rw [qaP (by omega)] at hE28
   exact ⟨u.length - (j + 1),by omega,j + 1,rfl,by omega,hE28,hD2⟩
  obtain rfl:j = u.length:=by have:=of_decide_eq_false hc; omega
  refine wp_exit (qau (qau (qaL ?_)))
  exact qbT hE21 hW8.cells (v:=.tuple #[]) kz ⟨rfl,w7,hW7.step,hD⟩
 -- one more
 have hst6:Step w5 w6 Nil:=by
  rcases hw6 with rfl | rfl
  ·exact Step.refl _ _
  exact Step.drew _
 have hr6:w6.heap[R]? = some (.mapIter (some mb) clk seen c0):=hst6.heap (fun o h=>h) hr5
 have hW6:=hW5.next_nil hst6
 obtain ⟨hml,_⟩:=mem_left he
 obtain ⟨k,sx,Ax,cx,hk1,hk2,hk3,hk4⟩:=hcont e hml
 have hR6:R < w6.heap.size:=(Array.getElem?_eq_some_iff.1 hr6).1
 have hW7:WOk w Nil (setBlock w6 R (.mapIter (some mb) clk (seen.push e.born) clk)) [⟨b,o,[.map (some mb)],false⟩,⟨kb,0,[.slice K vis.length kc],true⟩] [⟨K,kc,64,1,vis.length,(vis.map fun e=>kOf e.key).map (Value.int .u32)⟩]:=by
  refine hW6.next (Step.setBlock w6 R _) (fun b' o' hb' hN=>by omega) (fun i ob hi j hj hN=>?_) (fun i q hi g' hg' o' hN=>?_)
  ·match i,hi with
   | 0,hi =>
    simp only [List.getElem?_cons_zero,Option.some.injEq] at hi; subst hi
    have:=World.lt_of_cell (hat 0 _ rfl).2
    simp only at hN; omega
   | 1,hi =>
    simp only [List.getElem?_cons_succ,List.getElem?_cons_zero,Option.some.injEq] at hi; subst hi
    exact hkbr hN
   | i + 2,hi=>simp at hi
  match i,hi with
  | 0,hi =>
   simp only [List.getElem?_cons_zero,Option.some.injEq] at hi; subst hi
   exact hKR (by rw [← hN]; exact hg')
  | i + 1,hi=>simp at hi
 have hr7:(setBlock w6 R (.mapIter (some mb) clk (seen.push e.born) clk)).heap[R]? = some (.mapIter (some mb) clk (seen.push e.born) clk):=qet hr6
 generalize hw7:setBlock w6 R (.mapIter (some mb) clk (seen.push e.born) clk) = w7 at hW7 hr7
 refine qbP [1] [] [0,1,4,24,26] hW7 hE13 (env':=[(0,.p 0 0),(1,.v (cloV fc cap)),(4,.p 1 0),(24,.v (.pointer (some ⟨R,0,none⟩))),(26,.v (.bool true))]) kz rfl fun a12 hE14=>qaf (qab (wp_seq ?_))
 refine qaw hE14 (b:=true) kz (fun _=>?_) (fun hb=>by cases hb)
 refine wp_skip (qab (wp_block ?_))
 have hes7:=hW7.step.heap (fun o h=>h) hes
 refine qae [0,1,2] kz ?_
 refine qal (qie hE14 (d:=27) (r:=R) kz hr7 hes7 hml hnod fun a13 hE15=>?_)
 rw [hk1] at hE15
 refine qbP [1,2] [] [0,1,4,24,5] hW7 hE15 (env':=[(0,.p 0 0),(1,.v (cloV fc cap)),(4,.p 1 0),(24,.v (.pointer (some ⟨R,0,none⟩))),(5,.v (.int .u32 k))]) kz rfl fun a14 hE16=>qaf (qab ?_)
 refine qaq [0,1,2,3,4] kz ?_
 refine qbP [0,1] [2,3,4] [0,1,4,24,29,30] hW7 hE16 (env':=[(0,.p 0 0),(1,.v (cloV fc cap)),(4,.p 1 0),(24,.v (.pointer (some ⟨R,0,none⟩))),(29,.v (.slice K vis.length kc)),(30,.v (.int .u32 k))]) kz rfl fun a15 hE17=>?_
 have hsh:=left_shrinks es seen e he
 refine qcI (t:=147) (e:=64) (size:=1) (bytes:=4) (len:=1) (cs:=[.int .u32 k]) (d1:=31) (d:=32) (k:=0) hW7 hE17 kz kz (fun _=>by kernel_rfl) rfl kz (by omega) fun K2 kc2 a16 w8 hF8 hW8 hE18=>?_
 obtain ⟨bl,hE18⟩:=hE18
 have hR7:R < w7.heap.size:=(Array.getElem?_eq_some_iff.1 hr7).1
 have hna:∀ {o'},¬ Act_ [⟨b,o,[.map (some mb)],false⟩,⟨kb,0,[.slice K vis.length kc],true⟩] [⟨K,kc,64,1,vis.length,(vis.map fun e=>kOf e.key).map (Value.int .u32)⟩] R o':=by
  rintro o' (⟨i,ob,hi,hrw,hb,_⟩ | ⟨i,q,hi,hq⟩)
  ·match i,hi with
   | 0,hi =>
    simp only [List.getElem?_cons_zero,Option.some.injEq] at hi; subst hi
    cases hrw
   | 1,hi =>
    simp only [List.getElem?_cons_succ,List.getElem?_cons_zero,Option.some.injEq] at hi; subst hi
    exact hkbr hb
   | i + 2,hi=>simp at hi
  match i,hi with
  | 0,hi =>
   simp only [List.getElem?_cons_zero,Option.some.injEq] at hi; subst hi
   exact hKR hq
  | i + 1,hi=>simp at hi
 have hK2:K2.map (·.block) ≠ some R:=fun hk=>by
  exact hF8.imm R 0 hR7 hna (.inr ⟨0,_,rfl,hk⟩)
 refine qal (qap hW8 hE18 (oi:=1) (cs:=[.slice K2 (vis.length + 1) kc2]) kz fun w9 hF9 hW9 hE19=>qaf (qas (qab ?_)))
 have hr8:w9.heap[R]? = some (.mapIter (some mb) clk (seen.push e.born) clk) :=
  hF9.step.heap (fun o'=>hF8.imm R o' hR7 hna) (hF8.step.heap (fun o'=>hna) hr7)
 refine ⟨(leftOf es (seen.push e.born)).size,hsh,vis ++ [e],seen.push e.born,K2,kc2,clk,rfl,hv.push he,by rw [List.length_append,List.length_singleton]; omega,?_,?_,hr8,Nat.le_refl _,hK2⟩
 ·rw [List.length_append,List.length_singleton]
  exact hE19.pick (ks:=[0,1,4,24]) kz
 rw [List.length_append,List.length_singleton,List.map_append,List.map_append,List.map_cons,List.map_cons,hk1]
 exact hW9
end Go.Proofs.YtfljkhecngpcmaaGreatDoor.ME
namespace Go.Proofs.YtfljkhecngpcmaaGreatDoor.ME
open Go
open Go.RowKit
set_option linter.unusedVariables false
set_option linter.unusedSimpArgs false
set_option maxRecDepth 20000
section
variable {P:Program} {ops:Array Oper} {Q:Exit → Act → World → Prop} {n:Nat} {tb:Tb} {env:Env} {rs:List Rw} {w0:World} {M:Nat → Nat → Prop} {a:Act} {w:World}
theorem qeY {i d j:Nat} {t e:TypeId} {size bytes:Nat} (z:Value) (cs:List Value) {N:Act → World → Prop} (hW:WOk w0 M w tb rs) (hE:EnvOk n tb env a)
  (K:∀ b a' w',b = w.heap.size → w0.heap.size ≤ b → Fr w tb rs w' (tb ++ [⟨b,0,cs,true⟩]) rs → WOk w0 M w' (tb ++ [⟨b,0,cs,true⟩]) rs → EnvOk n (tb ++ [⟨b,0,cs,true⟩]) ((d,.v (.slice (some ⟨b,0,none⟩) j j)) :: env) a' → N a' w')
  (h:qiP env ops n i = some (t,((j:Nat):Int),((j:Nat):Int),d):=by kernel_rfl) (ht:qcQ P t = some (e,size,bytes):=by kernel_rfl) (hz:(P.info? e).bind (·.zero) = some z:=by kernel_rfl) (hcs:(madeCells z.cells (j * size)).toList = cs:=by kernel_rfl) (hb:Nat.ble (bytes * j) 1000000 = true:=by kernel_rfl):wpOp P ops Q i N a w:=by
 obtain ⟨ht',inf,z',hi,hz',hzs,hs1,rfl,hsz,hbp⟩:=qcz ht
 obtain ⟨op,ho,hd,kl,kc,hrun⟩:=qgg (P:=P) (w:=w) hE h
 have hzz:z' = z:=by rw [hi] at hz; simp only [Option.bind_some,hz',Option.some.injEq] at hz; exact hz
 subst hzz
 have hb':=Nat.le_of_ble_eq_true hb
 have hjm:j ≤ 1000000:=by
  have:=Nat.le_mul_of_pos_left j hbp
  omega
 have hr:=run_make (P:=P) w t e inf z' ht' hi hz' kl kc (j:Int) (j:Int) (by omega) (Int.le_refl _) (by
  have:((inf.bytes * j:Nat):Int) ≤ 281474976710656:=by omega
  rwa [Int.natCast_mul] at this) (by omega)
 simp only [Int.toNat_natCast,hs1] at hr
 have hca:madeCells z'.cells (j * size) = cs.toArray:=by rw [← hcs]
 rw [hca] at hr
 refine qbe hE ho (fun o hop=>hrun o _ _ hop hr) ?_
 refine K w.heap.size _ _ rfl hW.step.size (Fr.alloc w tb rs _ cs true) (hW.alloc cs e) ?_
 exact (hE.put hd (.v (.slice (some ⟨w.heap.size,0,none⟩) j j)) trivial).grow _
theorem qf7 {i d:Nat} {src dst e:TypeId} {s:ByteArray} {N:Act → World → Prop} (hW:WOk w0 M w tb rs) (hE:EnvOk n tb env a) (hsm:s.size ≤ 1099511627776)
  (K:∀ b c a' w',Fr w tb rs w' tb rs → WOk w0 M w' tb rs → (∀ G,Octs w' (Imm G w0 w' tb rs) (some ⟨b,0,none⟩) c (sb s)) → EnvOk n tb ((d,.v (.slice (some ⟨b,0,none⟩) (sb s).length c)) :: env) a' → N a' w')
  (h:qj9 tb env ops n i = some (src,dst,.string s,d):=by kernel_rfl) (hs:P.underlying src = some .string:=by kernel_rfl) (hd:P.underlying dst = some (.slice e):=by kernel_rfl) (he:P.underlying e = some (.int .u8):=by kernel_rfl):wpOp P ops Q i N a w:=by
 unfold qj9 at h
 split at h
 ·rename_i src' dst' x d' hop
  split at h
  ·rename_i v hx
   simp only [Option.some.injEq,Prod.mk.injEq] at h
   obtain ⟨rfl,rfl,rfl,rfl⟩:=h
   have hdn:=(qbx hE hop).choose_spec.2.2.2.1
   have hrun:=Lib.run_convert_string_bytes (P:=P) w src' dst' e s hs hd he
   have hst:Step w (Lib.bytesWorld w e s) Nil:=⟨rfl,rfl,by rw [Lib.bytesWorld_size]; omega,fun b hb=>by rw [Lib.bytesWorld_at_old w e s b hb]; exact Keeps.refl _ _⟩
   have hlen:(sb s).length = s.size:=qiM s
   have e1:=(qa9 hE hx).1
   refine qbe hE hop (v:=.slice (some ⟨w.heap.size,0,none⟩) (sb s).length (grownCap w s.size 0 e)) (w':=Lib.bytesWorld w e s) (fun o' ho'=>?_) (K w.heap.size _ _ _ (Fr.nil tb rs hst) (hW.next_nil hst) (fun G=>?_) (hE.put hdn (.v _) trivial))
   ·unfold execOp
    rw [ho']
    simp only [SV.val] at e1
    simp only [e1,Sem.run_bind,hrun,Result.andThen_ok,Sem.run_pure,hlen]
   refine ⟨by rw [hlen]; exact grownCap_ge w s.size 0 e,by rw [hlen]; exact hsm,fun h=>(by cases h),fun ad hA _=>?_⟩
   obtain rfl:=Option.some.inj hA
   refine ⟨w.heap.size,0,rfl,fun q hq=>⟨rfl,fun j v hj=>?_⟩⟩
   have hj0:j = 0:=by
    cases j with
    | zero=>rfl
    | succ j=>simp at hj
   subst hj0
   simp only [List.getElem?_cons_zero,Option.some.injEq] at hj
   subst hj
   have h2:(Lib.bytesWorld w e s).heap.size = w.heap.size + 1:=Lib.bytesWorld_size w e s
   refine ⟨⟨.inr hW.step.size,by rw [h2]; exact Nat.lt_succ_self _,fun ha=>?_⟩,?_⟩
   ·have:=hW.act_live ha
    exact absurd this (Nat.lt_irrefl _)
   rw [Nat.zero_add,Nat.mul_one,Nat.add_zero,Lib.bytesWorld_cell w e s q (by rw [← hlen]; exact hq)]
   rfl
  cases h
 cases h
end
structure TBox (w:World) (B eT:Nat) (A:Option Addr) (cp n:Nat) (x0 x1 x2 x3:Value) (xs:List Value):Prop where
 str:Str w B [x0,x1,x2,x3,.slice A n cp]
 own:w.ownsRow 0 eT 2 (.slice A n cp) n xs
 ne:A.map (·.block) ≠ some B
def TM (B:Nat) (A:Option Addr):Nat → Nat → Prop:=fun b o=>(b = B ∧ o < 5) ∨ Blk A b o
def qkh (w:World) (B eT:Nat) (A:Option Addr) (n:Nat) (x0 x1 x2 x3:Value) (xs:List Value) (k:Int) (x:Bs):Ending → World → Prop:=fun en w' =>
 en = .returned (.tuple #[]) ∧ ∃ A' cp' Av cv,TBox w' B eT A' cp' (n + 1) x0 x1 x2 x3 (xs ++ [.int .u32 k,.slice Av x.length cv]) ∧ Octs w' (fun b o=>(w.heap.size ≤ b ∨ A.map (·.block) = some b) ∧ ¬ TM B A' b o) Av cv x ∧ Near w A A' ∧ Step w w' (TM B A)
def qfJ (P:Program) (fc eT:Nat):Prop:=∀ (w:World) (B cp c n:Nat) (k:Int) (A Av:Option Addr) (x:Bs) (x0 x1 x2 x3:Value) (xs:List Value) (G:Nat → Nat → Prop),TBox w B eT A cp n x0 x1 x2 x3 xs → Octs w G Av c x → (∀ b o,G b o → ¬ TM B A b o) → n ≤ 1000000 →
 Calls P fc [.int .u32 k,.slice Av x.length c,.pointer (some ⟨B,0,none⟩)].toArray w (qkh w B eT A n x0 x1 x2 x3 xs k x)
theorem TBox.wok {w:World} {B eT cp n:Nat} {A:Option Addr} {x0 x1 x2 x3:Value} {xs:List Value} (h:TBox w B eT A cp n x0 x1 x2 x3 xs):WOk w (TM B A) w [⟨B,0,[x0,x1,x2,x3,.slice A n cp],true⟩] [⟨A,cp,eT,2,n,xs⟩]:=by
 have h1:WOk w (TM B A) w [⟨B,0,[x0,x1,x2,x3,.slice A n cp],true⟩] [] :=
  (WOk.start w _).add ⟨B,0,[x0,x1,x2,x3,.slice A n cp],true⟩ (World.lt_of_cell (h.str.at_ 0 _ rfl)) (fun j v hj=>by rw [Nat.zero_add]; exact h.str.at_ j v hj) (fun _ j hj=>⟨.inr (.inl ⟨rfl,by rw [Nat.zero_add]; exact hj⟩),by rw [Nat.zero_add]; exact h.str.frz j hj⟩) (fun i ob hi=>by simp at hi) (fun i r hi=>by simp at hi)
 refine h1.addRow ⟨A,cp,eT,2,n,xs⟩ h.own (fun g hg=>.inr fun o=>.inr hg) (fun i ob hi=>?_) (fun i r hi=>by simp at hi)
 cases i with
 | zero =>
  simp only [List.getElem?_cons_zero,Option.some.injEq] at hi; subst hi
  exact h.ne
 | succ i=>simp at hi
theorem qgu {w0 w:World} {B eT cp n:Nat} {A0 A:Option Addr} {x0 x1 x2 x3:Value} {xs:List Value} {rs:List Rw} (hW:WOk w0 (TM B A0) w [⟨B,0,[x0,x1,x2,x3,.slice A n cp],true⟩] (⟨A,cp,eT,2,n,xs⟩ :: rs)) (hB:B < w0.heap.size):TBox w B eT A cp n x0 x1 x2 x3 xs ∧ Near w0 A0 A ∧ Step w0 w (TM B A0):=by
 refine ⟨⟨Str.of hW 0 rfl,hW.own 0 _ rfl,fun e=>hW.rtb 0 _ rfl B e 0 _ rfl rfl⟩,fun g hg=>?_,hW.step⟩
 rcases hW.ownM 0 _ rfl g hg with h | h
 ·exact .inr h
 rcases h 5 with ⟨_,h⟩ | h
 ·omega
 exact .inl h
theorem qeD {w0 w:World} {B eT cp n c e8:Nat} {A0 A Av:Option Addr} {cs:List Value} {xs:List Value} {s:Bs} (hl:cs.length = 5) (hW:WOk w0 (TM B A0) w [⟨B,0,cs,true⟩] [⟨A,cp,eT,2,n,xs⟩,brow Av c e8 s]) (hsm:s.length ≤ 1099511627776):Octs w (fun b o=>(w0.heap.size ≤ b ∨ A0.map (·.block) = some b) ∧ ¬ TM B A b o) Av c s:=by
 refine qcA (hW.own 1 _ rfl) hsm fun g hg o=>⟨?_,?_⟩
 ·rcases hW.ownM 1 _ rfl g hg with h | h
  ·exact .inl h
  rcases h 5 with ⟨_,h⟩ | h
  ·omega
  exact .inr h
 rintro (⟨rfl,_⟩ | h)
 ·exact hW.rtb 1 _ rfl g hg 0 _ rfl rfl
 exact hW.rr 1 0 _ _ (by decide) rfl rfl g hg h
theorem qfK {fc eT B b o:Nat} {m:Option Nat} {u:List (Int × Bs)} {w:World} {F:Nat → Nat → Prop} {x0 x1 x2 x3:Value} (hcf:∀ args w,(callFunc fc args).run Tryz.prog w = .ok (.enter fc args) w) (hone:qfJ Tryz.prog fc eT) (hat:AtF w F b o [.map m]) (hm:MapR w F m u) (hB:Str w B [x0,x1,x2,x3,.slice none 0 0]) (hF:∀ b o,F b o → ¬ (b = B ∧ o < 5)) (hul:u.length ≤ 1000000) :
  Calls Tryz.prog 64 [.pointer (some ⟨b,o,none⟩),cloV fc (.pointer (some ⟨B,0,none⟩))].toArray w (fun e w'=>e = .returned (.tuple #[]) ∧ ∃ A c,Str w' B [x0,x1,x2,x3,.slice A u.length c] ∧ TagsR w' (fun b o=>w.heap.size ≤ b) A c u ∧ Step w w' (fun b o=>b = B ∧ o < 5)):=by
 have hBl:B < w.heap.size:=World.lt_of_cell (hB.at_ 0 _ rfl)
 refine (qlL (M:=fun b o=>b = B ∧ o < 5) hcf (fun w7 j w8=>∃ A cp xs css,TBox w8 B eT A cp j x0 x1 x2 x3 xs ∧ Tags w8 (fun b o=>w7.heap.size ≤ b ∧ ¬ TM B A b o) xs (u.take j) css ∧ (∀ g,A.map (·.block) = some g → w7.heap.size ≤ g) ∧ Step w7 w8 (fun b o=>b = B ∧ o < 5)) hat hm hF (fun b o h=>by rw [h.1]; exact hBl) (fun w7 hs=>?_) (fun w7 j w8 h=>by obtain ⟨_,_,_,_,_,_,_,h⟩:=h; exact h) (fun w7 hs j k x w8 Ax cx hI hu hk hox=>?_) hul).mono ?_
 ·exact ⟨none,0,[],[],⟨hB.move hs fun _ h=>h,World.ownsRow_nil _ 0 eT 2,fun h=>by cases h⟩,Tags.nil _ _,fun g h=>(by cases h),Step.refl _ _⟩
 ·obtain ⟨A,cp,xs,css,hbx,hT,hA,hs8⟩:=hI
  have hj:j < u.length:=(List.getElem?_eq_some_iff.1 hu).1
  refine (hone w8 B cp cx j k A Ax x x0 x1 x2 x3 xs _ hbx hox (fun b o hf=>?_) (by omega)).mono ?_
  ·rintro (h | h)
   ·exact hF _ _ hf.1 h
   have:=hA b h; have:=hf.2; omega
  rintro e w9 ⟨rfl,A',cp',Av,cv,hbx',ho',hn,hs9⟩
  refine ⟨rfl,A',cp',_,css ++ [[.int .u32 k,.slice Av x.length cv]],hbx',?_,fun g hg=>?_,hs8.trans hs9 fun b o hb h=>?_⟩
  ·rw [qc3 hu]
   have e1:Tags w9 (fun b o=>w7.heap.size ≤ b ∧ ¬ TM B A' b o) xs (u.take j) css:=hT.move hs9 (fun b o h _=>h.2) (fun b o h hb=>⟨h.1,fun h'=>by
    rcases h' with h' | h'
    ·exact h.2 (.inl h')
    rcases hn b h' with h' | h'
    ·exact h.2 (.inr h')
    omega⟩)
   have e2:Octs w9 (fun b o=>w7.heap.size ≤ b ∧ ¬ TM B A' b o) Av cv x:=ho'.move (Step.refl _ Nil) nilM fun b o h _=>⟨by
    rcases h.1 with h' | h'
    ·exact Nat.le_trans hs8.size h'
    exact hA b h',h.2⟩
   exact e1.snoc (c:=[.int .u32 k,.slice Av x.length cv]) (x:=(k,x)) ⟨⟨_,_,rfl,e2⟩,hk.1,hk.2⟩
  ·rcases hn g hg with h | h
   ·exact hA g h
   exact Nat.le_trans hs8.size h
  rcases h with h | h
  ·exact h
  have:=hA b h; omega
 rintro e w' ⟨rfl,w7,hs,A,cp,xs,css,hbx,hT,hA,hs8⟩
 rw [List.take_length] at hT
 refine ⟨rfl,A,cp,hbx.str,?_,(hs.mono (N:=fun b o=>b = B ∧ o < 5) fun _ _ _ f=>f.elim).trans hs8 fun b o _ h=>h⟩
 exact ((hT.move (Step.refl _ Nil) nilM fun b o h _=>Nat.le_trans hs.size h.1).slots (F:=fun b o=>w.heap.size ≤ b) hbx.own rfl (by omega) fun g hg o=>Nat.le_trans hs.size (hA g hg))
def qiu (A:Option Addr) (s:ByteArray):Tree:=.mk 0 (if A.isNone = true then [] else sb s) A.isNone [] []
abbrev NoF:Nat → Nat → Prop:=fun _ _=>False
theorem WOk.strOut {G:Nat → Nat → Prop} {w0 w:World} {tb:Tb} {rs:List Rw} {p:Nat} {cs:List Value} (tb':Tb) (hW:WOk w0 Nil w tb rs) (ht:tb' ++ [⟨p,0,cs,true⟩] = tb:=by rfl):AtF w (Imm G w0 w tb' rs) p 0 cs:=fun j v hj=>by
 subst ht
 have hi:(tb' ++ [(⟨p,0,cs,true⟩:Ob)])[tb'.length]? = some ⟨p,0,cs,true⟩:=by rw [List.getElem?_append_right (Nat.le_refl _),Nat.sub_self]; rfl
 have h1:=hW.cells _ _ hi j v hj
 have hlt:j < cs.length:=(List.getElem?_eq_some_iff.1 hj).1
 refine ⟨⟨?_,hW.live _ _ hi,fun ha=>?_⟩,h1⟩
 ·rcases (hW.rw_ _ _ hi rfl j hlt).1 with h2 | h2
  ·exact .inr h2
  exact h2.elim
 rcases ha with ⟨k,ob,h2,h3,h4,h5,h6⟩ | ⟨k,r,h2,h3⟩
 ·have hk:k < tb'.length:=(List.getElem?_eq_some_iff.1 h2).1
  have h7:(tb' ++ [(⟨p,0,cs,true⟩:Ob)])[k]? = some ob:=by rw [List.getElem?_append_left hk]; exact h2
  rcases hW.apart k _ ob _ (by omega) h7 hi (.inr rfl) with h8 | h8 | h8
  ·exact h8 h4
  ·simp only [Nat.zero_add] at h5 h6; simp only [Nat.le_zero] at h8; omega
  simp only [Nat.zero_add] at h5 h6 h8; omega
 exact hW.rtb k r h2 p h3 _ _ hi rfl
theorem qiv {u:List (Int × Bs)} (h:qdf u) {i j:Nat} {k k':Int} {s s':Bs} (hi:u[i]? = some (k,s)) (hj:u[j]? = some (k',s')) (hij:j < i):¬ k < k':=by
 obtain ⟨h1,h2⟩:=List.getElem?_eq_some_iff.1 hi
 obtain ⟨h3,h4⟩:=List.getElem?_eq_some_iff.1 hj
 have:=List.pairwise_iff_getElem.1 h j i h3 h1 hij
 rw [h2,h4] at this
 simp only at this
 omega
section
variable {w0 w:World} {tb:Tb} {rs:List Rw} {F:Nat → Nat → Prop}
theorem WOk.objFp (hW:WOk w0 Nil w tb rs) (i:Nat) {b:Nat} {cs:List Value} (hi:tb[i]? = some ⟨b,0,cs,true⟩):AtF w (Fp F w0) b 0 cs:=fun j v hj=>by
 have hlt:=(List.getElem?_eq_some_iff.1 hj).1
 refine ⟨?_,hW.cells i _ hi j v hj⟩
 rcases (hW.rw_ i _ hi rfl j hlt).1 with h | h
 ·exact .inr h
 exact h.elim
def TrL (w:World) (F:Nat → Nat → Prop):List (List Value) → List Tree → Prop
 | [],[]=>True
 | c :: cs,x :: xs=>TreeR w F c x ∧ TrL w F cs xs
 | _,_=>False
theorem TrL.move {w w':World} {F F' M:Nat → Nat → Prop} (hs:Step w w' M) (hM:∀ b o,F b o → b < w.heap.size → ¬ M b o) (hF:∀ b o,F b o → b < w.heap.size → F' b o):∀ {cs:List (List Value)} {l:List Tree},TrL w F cs l → TrL w' F' cs l
 | [],[],_=>trivial
 | _ :: _,_ :: _,h=>⟨h.1.move hs hM hF,TrL.move hs hM hF h.2⟩
 | [],_ :: _,h=>h.elim
 | _ :: _,[],h=>h.elim
theorem TrL.len:∀ {cs:List (List Value)} {l:List Tree},TrL w F cs l → cs.length = l.length
 | [],[],_=>rfl
 | _ :: _,_ :: _,h=>congrArg (· + 1) (TrL.len h.2)
 | [],_ :: _,h=>h.elim
 | _ :: _,[],h=>h.elim
theorem TrL.five:∀ {cs:List (List Value)} {l:List Tree},TrL w F cs l → ∀ c ∈ cs,c.length = 5
 | [],[],_=>fun c hc=>by cases hc
 | _ :: _,_ :: _,h=>fun c hc=>by
  rcases List.mem_cons.1 hc with rfl | hc
  ·exact h.1.five
  exact TrL.five h.2 c hc
 | [],_ :: _,h=>h.elim
 | _ :: _,[],h=>h.elim
theorem TrL.get:∀ {cs:List (List Value)} {l:List Tree},TrL w F cs l → ∀ (i:Nat) (x:Tree),l[i]? = some x → TreeR w F (cs.getD i []) x
 | [],[],_,i,x,hx=>by simp at hx
 | _ :: _,_ :: _,h,0,x,hx=>by
  simp only [List.getElem?_cons_zero,Option.some.injEq] at hx
  subst hx
  exact h.1
 | _ :: _,_ :: _,h,i + 1,x,hx=>TrL.get h.2 i x hx
 | [],_ :: _,h,_,_,_=>h.elim
 | _ :: _,[],h,_,_,_=>h.elim
theorem qlM {b:Nat}:∀ (css:List (List Value)) (o:Nat),AtF w F b o css.flatten → (∀ c ∈ css,c.length = 5) → ∀ i,i < css.length → (css.getD i []).length = 5 ∧ AtF w F b (o + i * 5) (css.getD i [])
 | [],o,h,hl,i,hi=>absurd hi (Nat.not_lt_zero _)
 | c :: r,o,h,hl,0,_=>⟨hl c List.mem_cons_self,fun j v hj=>by
   have hj':c[j]? = some v:=hj
   have:=h j v (by rw [List.flatten_cons,List.getElem?_append_left (List.getElem?_eq_some_iff.1 hj').1]; exact hj')
   rw [show o + 0 * 5 + j = o + j by omega]
   exact this⟩
 | c :: r,o,h,hl,i + 1,hi=>by
  have hc:=hl c List.mem_cons_self
  have:=qlM r (o + 5) (fun j v hj=>by
   have:=h (5 + j) v (by rw [List.flatten_cons,List.getElem?_append_right (by omega),show 5 + j - c.length = j by omega]; exact hj)
   rw [show o + 5 + j = o + (5 + j) by omega]
   exact this) (fun d hd=>hl d (List.mem_cons_of_mem _ hd)) i (by simpa using hi)
  rw [show o + (i + 1) * 5 = o + 5 + i * 5 by omega]
  exact this
theorem qiw {b:Nat} {css:List (List Value)} {l:List Tree} (h:AtF w F b 0 css.flatten) (hT:TrL w F css l) (hsm:l.length ≤ 1099511627776):Slots w F 5 (some ⟨b,0,none⟩) l.length l.length (fun i=>css.getD i []) :=
 ⟨Nat.le_refl _,hsm,fun h=>(by cases h),fun ad hA _=>⟨b,0,(Option.some.inj hA).symm,fun i hi=>qlM css 0 h hT.five i (by rw [hT.len]; exact hi)⟩⟩
theorem Trees.xslen {w:World} {xs:List Value} {l:List Tree} {css:List (List Value)} (h:Trees w F xs l css):xs.length = l.length * 5:=by
 have h1:∀ css:List (List Value),(∀ c ∈ css,c.length = 5) → css.flatten.length = css.length * 5:=fun css hc=>by
  induction css with
  | nil=>rfl
  | cons c r ih =>
   rw [List.flatten_cons,List.length_append,hc c List.mem_cons_self,ih fun d hd=>hc d (List.mem_cons_of_mem _ hd),List.length_cons]
   omega
 rw [h.flat.eq,h1 css,h.len]
 intro c hc
 obtain ⟨i,hi,rfl⟩:=List.getElem_of_mem hc
 have hl:=h.len
 exact (h.each i _ _ (List.getElem?_eq_getElem hi) (List.getElem?_eq_getElem (show i < l.length by omega))).five
theorem qcx {xs zs cs:List Value} {k:Nat} (hx:xs.length = k * 5) (hz:zs.length = cs.length:=by rfl):qbn (xs ++ zs) (k * 5) cs = xs ++ cs:=by
 unfold qbn
 rw [List.take_left' hx,List.drop_of_length_le (by rw [List.length_append]; omega),List.append_nil]
theorem qdG (hW:WOk w0 Nil w tb rs) {k:Nat} {A:Option Addr} {c e n:Nat} {xs:List Value} {l:List Tree} {css:List (List Value)} {b:Bool} (hk:rs[k]? = some ⟨A,c,e,5,n,xs⟩) (hT:Trees w (Imm F w0 w tb rs) xs l css) (hn:n = l.length) (hsm:l.length ≤ 1099511627776):TreeR w (Fp F w0) [.int .i64 0,.slice none 0 0,.bool b,.slice A n c,.slice none 0 0] (.mk 0 [] b l []):=by
 have h:=qhG hW hk hT hn hsm
 subst hn
 exact TreeR.mk (s:=[]) (u:=[]) _ (Octs.nil _ _) h.1 h.2 (TagsR.nil _ _)
theorem qbO {L k:Nat} {f:Nat → Tree} (h:k < L):((List.range L).map f).take (k + 1) = ((List.range L).map f).take k ++ [f k] :=
 qc3 (by rw [List.getElem?_map,List.getElem?_range h]; rfl)
theorem qeE {L k:Nat} {f:Nat → Tree} (h:L ≤ k):((List.range L).map f).take k = (List.range L).map f:=List.take_of_length_le (by rw [List.length_map,List.length_range]; exact h)
theorem qbC {L:Nat} {f:Nat → Tree}:((List.range L).map f).length = L:=by rw [List.length_map,List.length_range]
theorem qgv (hW:WOk w0 Nil w tb rs) (i:Nat) {b n2 c3:Nat} {A3:Option Addr} {u:List (Int × Bs)} {css:List (List Value)} {cs:List Value} {l:List Tree} (hi:tb[i]? = some ⟨b,0,cs,true⟩) (hT':TrL w (Fp F w0) css l) (hU:TagsR w (Fp F w0) A3 c3 u) (hf:css.flatten = cs:=by rfl) (hl:l.length = n2:=by rfl) (hn:Nat.ble n2 1000000 = true:=by kernel_rfl) :
  qd4 w0 F (.mk 0 [] false l u) (.returned (.agg #[.int .i64 0,.slice none 0 0,.bool false,.slice (some ⟨b,0,none⟩) n2 n2,.slice A3 u.length c3])) w:=by
 subst hf
 subst hl
 have hn':=Nat.le_of_ble_eq_true hn
 exact ⟨_,rfl,TreeR.mk (s:=[]) _ (Octs.nil _ _) (qiw (hW.objFp i hi) hT' (by omega)) hT'.get hU,hW.step⟩
end
def qlN (m:Nat):Prop:=∀ (ct:List Value) (t:Tree) (w:World) (F:Nat → Nat → Prop),TreeR w F ct t → t.depth ≤ m →
  Calls Tryz.prog 15 #[.agg ct.toArray] w (qd4 w F t)
theorem qjF {m:Nat} (hg:qlN m) (ct:List Value) (t:Tree) (w:World) (F:Nat → Nat → Prop) (ht:TreeR w F ct t) (hd:t.depth ≤ m + 1) :
  Calls Tryz.prog 15 #[.agg ct.toArray] w (qd4 w F t):=by
 obtain ⟨n1,s2,b3,l4,u5,A6,c7,A8,c9,ap,ar,dT,rfl,rfl,dw,dx,dU,dV⟩:=ht.open_
 have dy:=dw.small
 have dz:=dx.small
 obtain ⟨dW,dA,dX⟩:=dV.ex
 have dB:=dA.small
 refine enter (n:=49) Tryz.func15 rfl Tryz.ntmps15 kz fun a hE=>?_
 have hW:=WOk.start w Nil
 refine qae [0,1] kz ?_
 refine qal (qbm hW hE (d:=1) (cs:=(z2 n1 A6 s2.length c7 b3 A8 l4.length c9 ap u5.length ar)) kz fun bF fk fm dY dZ d5 cY cZ=>?_)
 refine qal (qaS cY cZ (d:=2) (cs:=z0) kz fun bG fo fq d6 d7 d8 bI c5=>?_)
 refine qaf (qab ?_)
 refine qae [0,1,2,3,4,5,6,7,8] kz ?_
 refine qaj [0,1,2,3,4,5,6] [7,8] [(1,.p 0 0),(2,.p 1 0),(14,.v (.agg #[.int .i64 n1,.slice A6 s2.length c7,.bool b3,.slice none 0 0,.slice none 0 0]))] bI c5 fun fr c6=>?_
 refine qal (qaS bI c6 (d:=3) (cs:=z0) kz fun bH ft fu d9 ea eb da db=>?_)
 refine qal (qap da db (oi:=2) (cs:=[.int .i64 n1,.slice A6 s2.length c7,.bool b3,.slice none 0 0,.slice none 0 0]) kz fun fv ec bz dc=>?_)
 refine qaf (qab ?_)
 refine wp_seq (qar [(1,.p 0 0),(2,.p 1 0),(3,.p 2 0),(16,.v (.slice A8 l4.length c9)),(17,.v (.int .i64 ((l4.length:Nat):Int))),(18,.v (.int .i64 0))] bz dc fun fw de=>?_)
 refine wp_block ?_
 have bJ:=bz.addNil 26 5
 have ee:=bz.frNil 26 5
 refine wp_loop_ghost (fun n_ a_ w_=>∃ (k:Nat) (A_:Option Addr) (c_:Nat) (xs:List Value) (css:List (List Value)),n_ = l4.length - k ∧ k ≤ l4.length ∧ (Trees w_ (Imm F w w_ [⟨bF,0,[.int .i64 n1,.slice A6 s2.length c7,.bool b3,.slice A8 l4.length c9,.slice ap u5.length ar],true⟩,⟨bG,0,[.int .i64 0,.slice none 0 0,.bool false,.slice none 0 0,.slice none 0 0],true⟩,⟨bH,0,[.int .i64 n1,.slice A6 s2.length c7,.bool b3,.slice A_ k c_,.slice none 0 0],true⟩] [⟨A_,c_,26,5,k,xs⟩]) xs (l4.take k) css) ∧ LInv bJ 49 [⟨bF,0,[.int .i64 n1,.slice A6 s2.length c7,.bool b3,.slice A8 l4.length c9,.slice ap u5.length ar],true⟩,⟨bG,0,[.int .i64 0,.slice none 0 0,.bool false,.slice none 0 0,.slice none 0 0],true⟩,⟨bH,0,[.int .i64 n1,.slice A6 s2.length c7,.bool b3,.slice A_ k c_,.slice none 0 0],true⟩] [⟨A_,c_,26,5,k,xs⟩] [(1,.p 0 0),(2,.p 1 0),(3,.p 2 0),(16,.v (.slice A8 l4.length c9)),(17,.v (.int .i64 ((l4.length:Nat):Int))),(18,.v (.int .i64 ((k:Nat):Int)))] a_ w_) (l4.length) ⟨0,none,0,[],[],by omega,by omega,Trees.nil _ _,de.pk,bJ,Fr.refl _ _ _⟩ ?_
 rintro fx fy fz ⟨k,A_,c_,xs,css,ef,eg,hT,df,aw,dg⟩
 refine qar [(1,.p 0 0),(2,.p 1 0),(3,.p 2 0),(16,.v (.slice A8 l4.length c9)),(17,.v (.int .i64 ((l4.length:Nat):Int))),(18,.v (.int .i64 ((k:Nat):Int))),(19,.v (.bool (decide (((k:Nat):Int) < ((l4.length:Nat):Int)))))] aw df fun fA bA=>?_
 refine wp_seq (qaw bA (b:=decide (((k:Nat):Int) < ((l4.length:Nat):Int))) kz (fun bB=>?_) (fun bB=>?_))
 ·
  have eh:=of_decide_eq_true bB
  refine wp_skip (qab (wp_seq (wp_block (qae [0,1,2,3] kz ?_))))
  obtain ⟨ei,ej,dh,ek,bf⟩:=Slots.get dx (i:=k) (by omega)
  obtain ⟨em,bC⟩:∃ x,l4[k]? = some x:=⟨_,List.getElem?_eq_getElem (by omega)⟩
  have bD:=dU k em bC
  obtain ⟨bK,bL,bM,bN,bO,bP,bQ,bR,bS,bT,bU,eo,rfl,bg,ep,eu,fB,fC⟩:=bD.open_
  rw [bg] at bD
  have dC:=ep.small
  have dD:=eu.small
  rw [bg] at bf
  refine qal (qax bA (t:=34) (A:=A8) (m:=l4.length) (q:=((k:Nat):Int)) (d:=20) kz (e:=37) (size:=5) (bytes:=88) kz dh rfl (by omega) fun fD bV=>?_)
  refine qal (qaU bV (t:=37) (b:=ei) (o:=ej + k * 5) (d:=21) kz (cs:=(z2 bK bP bL.length bQ bM bR bN.length bS bT bO.length bU)) (v:=.agg #[.int .i64 bK,.slice bP bL.length bQ,.bool bM,.slice bR bN.length bS,.slice bT bO.length bU]) kz (AtF.move bf aw.step nilM qbb).at_ fun ev bW=>?_)
  refine qal (qaS aw bW (d:=5) (cs:=z0) kz fun ew ey ez dE dF ax bX bY=>?_)
  refine qal (qap bX bY (oi:=3) (cs:=(z2 bK bP bL.length bQ bM bR bN.length bS bT bO.length bU)) kz fun eB ay bZ b8=>?_)
  refine qaf (qab ?_)
  refine qcr 7 kz bZ fun eC az ag cd=>?_
  refine qaD [0,1,2] [(1,.p 0 0),(2,.p 1 0),(3,.p 2 0),(16,.v (.slice A8 l4.length c9)),(17,.v (.int .i64 ((l4.length:Nat):Int))),(18,.v (.int .i64 ((k:Nat):Int))),(23,.v (.slice A_ k c_)),(24,.v (.agg #[.int .i64 bK,.slice bP bL.length bQ,.bool bM,.slice bR bN.length bS,.slice bT bO.length bU]))] 5 (qac (qaa (qaa (qac (qaa qad))))) (fun _ h=>h.cells) cd b8 fun eD ce=>?_
  refine qan (i:=3) kz (qak ce (f:=15) (vs:=[.agg #[.int .i64 bK,.slice bP bL.length bQ,.bool bM,.slice bR bN.length bS,.slice bT bO.length bU]]) (d:=25) kz Tryz.call15 ( hg _ _ _ _ (bD.move ag.step nilM ag.imm) (by have h_:=qhF bC; rw [qgU] at hd; omega)) ?_)
  rintro e_ eE ⟨dG,rfl,cm,aA⟩
  have aB:=cm.move (Step.refl _ Nil) nilM (ag.laid (G:=F) aA)
  obtain ⟨aC,aD,aE,aF,aG,aH,aI,aJ,aK,aL,aM,dH,dI,aN,di,dj,eF,eG⟩:=aB.open_
  rw [aN] at aB
  have dl:=di.small
  have dp:=dj.small
  rw [aN]
  refine ⟨_,rfl,fun eH cq=>?_⟩
  have bh:=ag.next_nil aA
  have ae:=ag.frN aA
  have cr:=TT.ofW ae bh
  refine ⟨fun _=>cr,?_⟩
  refine qan (i:=4) kz (qbq bh cq (e:=26) (size:=5) (len:=1) (cs:=(z2 aC aH aD.length aI aE aJ aF.length aK aL aG.length aM)) (d:=26) kz kz fun dq eI eJ dJ dK aa au cu=>?_)
  have cw:=TT.ofW (ae.trans aa) au
  refine ⟨fun _=>cw,?_⟩
  refine qan (i:=5) kz (qaT au cu (k:=0) (d:=27) (t:=23) (e:=26) (size:=5) (bytes:=88) (A:=A_) (As:=(some ⟨dq,0,none⟩)) (m0:=k) (c:=c_) (m:=1) (cs:=1) (xs:=xs) (news:=(z2 aC aH aD.length aI aE aJ aF.length aK aL aG.length aM)) kz kz rfl (qbu (au.own 1 _ rfl) (qbr kz)) (qbz (au.own 1 _ rfl)) (by omega) fun aO aP eK eL af bi cz=>?_)
  have bj:=TT.ofW ((ae.trans aa).trans af) bi
  refine ⟨fun _=>bj,?_⟩
  refine qaD [6] [(1,.p 0 0),(2,.p 1 0),(3,.p 2 0),(16,.v (.slice A8 l4.length c9)),(17,.v (.int .i64 ((l4.length:Nat):Int))),(18,.v (.int .i64 ((k:Nat):Int))),(27,.v (.slice aO (k + 1) aP)),(28,.p 2 3)] 1 (qac (qaa (qaa (qac (qaa qad))))) (fun _ h=>h.cells) bj cz fun eM cA=>?_
  refine qan (i:=7) kz (qap bi cA (oi:=2) (cs:=[.int .i64 n1,.slice A6 s2.length c7,.bool b3,.slice aO (k + 1) aP,.slice none 0 0]) kz fun eN ah bk cB=>?_)
  refine ⟨fun h=>absurd rfl h,?_⟩
  refine qaC kz ?_ _
  refine qas (qab (qaq [0,1] kz ?_))
  refine qaj [0,1] [] [(1,.p 0 0),(2,.p 1 0),(3,.p 2 0),(16,.v (.slice A8 l4.length c9)),(17,.v (.int .i64 ((l4.length:Nat):Int))),(18,.v (.int .i64 (IntKind.i64.wrap (((k:Nat):Int) + 1))))] bk cB fun eO cC=>?_
  refine qaf (qab ?_)
  obtain ⟨bn,cD,ai⟩:=bk.cutB cC 3 [⟨bF,0,(z2 n1 A6 s2.length c7 b3 A8 l4.length c9 ap u5.length ar),true⟩,⟨bG,0,z0,true⟩,⟨bH,0,[.int .i64 n1,.slice A6 s2.length c7,.bool b3,.slice aO (k + 1) aP,.slice none 0 0],true⟩] [(1,.p 0 0),(2,.p 1 0),(3,.p 2 0),(16,.v (.slice A8 l4.length c9)),(17,.v (.int .i64 ((l4.length:Nat):Int))),(18,.v (.int .i64 (IntKind.i64.wrap (((k:Nat):Int) + 1))))]
  obtain ⟨cE,aj⟩:=cD.cutR 1 [⟨aO,aP,26,5,k + 1,xs ++ (z2 aC aH aD.length aI aE aJ aF.length aK aL aG.length aM)⟩]
  have cG:IntKind.i64.wrap (((k:Nat):Int) + 1) = ((k + 1:Nat):Int):=qaP (by omega)
  rw [cG] at bn
  exact ⟨l4.length - (k + 1),by omega,k + 1,aO,aP,xs ++ [Value.int .i64 aC,.slice aH aD.length aI,.bool aE,.slice aJ aF.length aK,.slice aL aG.length aM],(css ++ [[Value.int .i64 aC,.slice aH aD.length aI,.bool aE,.slice aJ aF.length aK,.slice aL aG.length aM]]),rfl,by omega,by rw [qc3 bC]; exact (hT.move ((((((((ax.trans ay).trans az).trans ae).trans aa).trans af).trans ah).trans ai).trans aj).step immM ((((((((ax.trans ay).trans az).trans ae).trans aa).trans af).trans ah).trans ai).trans aj).to').snoc (aB.move ((((aa.trans af).trans ah).trans ai).trans aj).step immM ((((aa.trans af).trans ah).trans ai).trans aj).to'),bn.pk,cE,(((((((((dg.trans ax).trans ay).trans az).trans ae).trans aa).trans af).trans ah).trans ai).trans aj)⟩
 have dL:=of_decide_eq_false bB
 refine wp_exit (qau (qau (qaL (qab (wp_seq (qar [(2,.p 1 0),(3,.p 2 0),(31,.v (.slice ap u5.length ar)),(32,.v (.int .i64 ((u5.length:Nat):Int))),(33,.v (.int .i64 0))] aw bA fun eP cH=>?_))))))
 refine wp_block ?_
 have hk0:k = l4.length:=by omega
 have bo:=aw.addNil 66 2
 have bp:=aw.frNil 66 2
 refine wp_loop_ghost (fun n_ a_ w_=>∃ (q:Nat) (A5_:Option Addr) (c5_:Nat) (ys:List Value) (dss:List (List Value)),n_ = u5.length - q ∧ q ≤ u5.length ∧ (Tags w_ (Imm F w w_ [⟨bF,0,[.int .i64 n1,.slice A6 s2.length c7,.bool b3,.slice A8 l4.length c9,.slice ap u5.length ar],true⟩,⟨bG,0,[.int .i64 0,.slice none 0 0,.bool false,.slice none 0 0,.slice none 0 0],true⟩,⟨bH,0,[.int .i64 n1,.slice A6 s2.length c7,.bool b3,.slice A_ k c_,.slice A5_ q c5_],true⟩] [⟨A_,c_,26,5,k,xs⟩,⟨A5_,c5_,66,2,q,ys⟩]) ys (u5.take q) dss) ∧ LInv bo 49 [⟨bF,0,[.int .i64 n1,.slice A6 s2.length c7,.bool b3,.slice A8 l4.length c9,.slice ap u5.length ar],true⟩,⟨bG,0,[.int .i64 0,.slice none 0 0,.bool false,.slice none 0 0,.slice none 0 0],true⟩,⟨bH,0,[.int .i64 n1,.slice A6 s2.length c7,.bool b3,.slice A_ k c_,.slice A5_ q c5_],true⟩] [⟨A_,c_,26,5,k,xs⟩,⟨A5_,c5_,66,2,q,ys⟩] [(2,.p 1 0),(3,.p 2 0),(31,.v (.slice ap u5.length ar)),(32,.v (.int .i64 ((u5.length:Nat):Int))),(33,.v (.int .i64 ((q:Nat):Int)))] a_ w_) (u5.length) ⟨0,none,0,[],[],by omega,by omega,Tags.nil _ _,cH.pk,bo,Fr.refl _ _ _⟩ ?_
 rintro eQ eR eS ⟨q,A5_,c5_,ys,dss,dM,dN,hU,cI,ak,aQ⟩
 refine qar [(2,.p 1 0),(3,.p 2 0),(31,.v (.slice ap u5.length ar)),(32,.v (.int .i64 ((u5.length:Nat):Int))),(33,.v (.int .i64 ((q:Nat):Int))),(34,.v (.bool (decide (((q:Nat):Int) < ((u5.length:Nat):Int)))))] ak cI fun eU aR=>?_
 refine wp_seq (qaw aR (b:=decide (((q:Nat):Int) < ((u5.length:Nat):Int))) kz (fun aS=>?_) (fun aS=>?_))
 ·
  have dO:=of_decide_eq_true aS
  refine wp_skip (qab (wp_seq (wp_block (qae [0,1,2,3] kz ?_))))
  obtain ⟨dr,dt,cJ,dP,aT⟩:=Slots.get dA (i:=q) (by omega)
  obtain ⟨⟨ab,ac⟩,bq⟩:∃ x,u5[q]? = some x:=⟨_,List.getElem?_eq_getElem (by omega)⟩
  obtain ⟨⟨al,am,bE,cK⟩,du,dv⟩:=dX q ab ac bq
  rw [bE] at aT
  refine qal (qax aR (t:=35) (A:=ap) (m:=u5.length) (q:=((q:Nat):Int)) (d:=35) kz (e:=69) (size:=2) (bytes:=32) kz cJ rfl (by omega) fun eV cL=>?_)
  refine qal (qaU cL (t:=69) (b:=dr) (o:=dt + q * 2) (d:=36) kz (cs:=(z61 ab al ac.length am)) (v:=.agg #[.int .u32 ab,.slice al ac.length am]) kz (AtF.move aT ak.step nilM qbb).at_ fun eW cM=>?_)
  refine qal (qaS ak cM (d:=7) (cs:=[.int .u32 0,.slice none 0 0]) kz fun eX eY eZ dQ dR aU cN cO=>?_)
  refine qal (qap cN cO (oi:=3) (cs:=(z61 ab al ac.length am)) kz fun e9 aV bt cP=>?_)
  refine qaf (qab ?_)
  refine qaq [0,1,2,3,4,5,6,7,8,9,10] kz ?_
  refine qaj [0,1,2,3,4,5,6] [7,8,9,10] [(2,.p 1 0),(3,.p 2 0),(31,.v (.slice ap u5.length ar)),(32,.v (.int .i64 ((u5.length:Nat):Int))),(33,.v (.int .i64 ((q:Nat):Int))),(38,.v (.slice A5_ q c5_)),(43,.v (.agg #[.int .u32 ab,.slice al ac.length am]))] bt cP fun fa cQ=>?_
  refine qcI bt cQ (k:=1) (e:=66) (size:=2) (len:=1) (cs:=(z61 ab al ac.length am)) (d1:=44) (d:=45) kz (t:=24) (bytes:=32) kz (fun _=>by kernel_rfl) rfl kz (by omega) fun ba bd fb fe aW bu ⟨_,cR⟩=>?_
  refine qaj [9] [10] [(2,.p 1 0),(3,.p 2 0),(31,.v (.slice ap u5.length ar)),(32,.v (.int .i64 ((u5.length:Nat):Int))),(33,.v (.int .i64 ((q:Nat):Int))),(45,.v (.slice ba (q + 1) bd)),(46,.p 2 4)] bu cR fun ff cS=>?_
  refine qal (qap bu cS (oi:=2) (cs:=[.int .i64 n1,.slice A6 s2.length c7,.bool b3,.slice A_ k c_,.slice ba (q + 1) bd]) kz fun fg aX bw cT=>?_)
  refine qaf (qas (qab (qaq [0,1] kz ?_)))
  refine qaj [0,1] [] [(2,.p 1 0),(3,.p 2 0),(31,.v (.slice ap u5.length ar)),(32,.v (.int .i64 ((u5.length:Nat):Int))),(33,.v (.int .i64 (IntKind.i64.wrap (((q:Nat):Int) + 1))))] bw cT fun fh cU=>?_
  refine qaf (qab ?_)
  obtain ⟨bx,aY,aZ⟩:=bw.cutB cU 3 [⟨bF,0,(z2 n1 A6 s2.length c7 b3 A8 l4.length c9 ap u5.length ar),true⟩,⟨bG,0,z0,true⟩,⟨bH,0,[.int .i64 n1,.slice A6 s2.length c7,.bool b3,.slice A_ k c_,.slice ba (q + 1) bd],true⟩] [(2,.p 1 0),(3,.p 2 0),(31,.v (.slice ap u5.length ar)),(32,.v (.int .i64 ((u5.length:Nat):Int))),(33,.v (.int .i64 (IntKind.i64.wrap (((q:Nat):Int) + 1))))]
  have cV:IntKind.i64.wrap (((q:Nat):Int) + 1) = ((q + 1:Nat):Int):=qaP (by omega)
  rw [cV] at bx
  exact ⟨u5.length - (q + 1),by omega,q + 1,ba,bd,ys ++ [Value.int .u32 ab,.slice al ac.length am],(dss ++ [[Value.int .u32 ab,.slice al ac.length am]]),rfl,by omega,by rw [qc3 bq]; exact (hU.move ((((aU.trans aV).trans aW).trans aX).trans aZ).step immM ((((aU.trans aV).trans aW).trans aX).trans aZ).to').snoc (c:=[.int .u32 ab,.slice al ac.length am]) (x:=(ab,ac)) ⟨⟨_,_,rfl,(cK.move aY.step nilM aY.imm)⟩,du,dv⟩,bx.pk,aY,(((((aQ.trans aU).trans aV).trans aW).trans aX).trans aZ)⟩
 have dS:=of_decide_eq_false aS
 refine wp_exit (qau (qau (qaL (qab (qae [0,1] kz ?_)))))
 refine qaj [0] [1] [(2,.p 1 0),(48,.v (.agg #[.int .i64 n1,.slice A6 s2.length c7,.bool b3,.slice A_ k c_,.slice A5_ q c5_]))] ak aR fun fi cW=>?_
 refine qal (qap ak cW (oi:=1) (cs:=(z2 n1 A6 s2.length c7 b3 A_ k c_ A5_ q c5_)) kz fun fj av ao cX=>?_)
 refine qaf (qab ?_)
 refine wp_ret (qaM cX ao.cells (v:=.agg #[.int .i64 n1,.slice A6 s2.length c7,.bool b3,.slice A_ k c_,.slice A5_ q c5_]) kz ?_)
 have hq0:q = u5.length:=by omega
 have hT':=(hT.move ((bp.trans aQ).trans av).step immM ((bp.trans aQ).trans av).to')
 have hU':=(hU.move av.step immM av.to')
 rw [show l4.take k = l4 by rw [hk0,List.take_length]] at hT'
 rw [show u5.take q = u5 by rw [hq0,List.take_length]] at hU'
 exact qj6 ao rfl (dw.move ao.step nilM qkX) hk0 (qhG ao (k:=0) rfl hT' hk0 (by omega)) hq0 (qkW ao (k:=1) rfl hU' hq0 (by omega)) rfl
theorem lGot:∀ m,qlN m
 | 0=>fun ct t w F ht hd=>by
  obtain ⟨n,s,b,l,u,A1,c1,A2,c2,A3,c3,xs,rfl,_⟩:=ht.open_
  rw [qgU] at hd; omega
 | m + 1=>qjF (lGot m)
theorem qhy {u:List (Int × Bs)} {A:Option Addr} {c:Nat} {w:World} {F:Nat → Nat → Prop} (hu:TagsR w F A c u) (hsrt:qdf u):Calls Tryz.prog 66 #[.slice A u.length c] w (qcu w (.tuple #[])):=by
 obtain ⟨cs1,h2,h3⟩:=hu.ex
 have hsm4:=h2.small
 refine enter (n:=45) Tryz.func66 rfl Tryz.ntmps66 kz fun a hE=>?_
 have hW:=WOk.start w Nil
 refine qar [(0,.v (.slice A u.length c)),(5,.v (.int .i64 ((u.length:Nat):Int))),(6,.v (.int .i64 0))] hW hE fun a5 hE6=>?_
 refine wp_block (wp_loop_ghost (fun n_ a_ w_=>∃ (k:Nat),n_ = u.length - k ∧ k ≤ u.length ∧ LInv hW 45 [] [] [(0,.v (.slice A u.length c)),(5,.v (.int .i64 ((u.length:Nat):Int))),(6,.v (.int .i64 ((k:Nat):Int)))] a_ w_) (u.length) ⟨0,by omega,by omega,hE6.pk,hW,Fr.refl _ _ _⟩ ?_)
 rintro n7 a8 w9 ⟨k,aW,aX,aB,ab,aj⟩
 refine qar [(0,.v (.slice A u.length c)),(5,.v (.int .i64 ((u.length:Nat):Int))),(6,.v (.int .i64 ((k:Nat):Int))),(7,.v (.bool (decide (((k:Nat):Int) < ((u.length:Nat):Int)))))] ab aB fun bn ah=>?_
 refine wp_seq (qaw ah (b:=decide (((k:Nat):Int) < ((u.length:Nat):Int))) kz (fun ai=>?_) (fun ai=>?_))
 ·
  have aY:=of_decide_eq_true ai
  refine wp_skip (qab (wp_seq (wp_block (qar [(0,.v (.slice A u.length c)),(2,.v (.int .i64 ((k:Nat):Int))),(5,.v (.int .i64 ((u.length:Nat):Int))),(6,.v (.int .i64 ((k:Nat):Int)))] ab ah fun bo aC=>?_))))
  refine qar [(0,.v (.slice A u.length c)),(3,.v (.int .i64 ((k:Nat):Int))),(5,.v (.int .i64 ((u.length:Nat):Int))),(6,.v (.int .i64 ((k:Nat):Int)))] ab aC fun bp aD=>?_
  refine wp_block (qd1 (wp_seq (qcb kz ab fun bq ak aa=>?_)))
  refine qaD [0,1,2] [(0,.v (.slice A u.length c)),(3,.v (.int .i64 ((k:Nat):Int))),(5,.v (.int .i64 ((u.length:Nat):Int))),(6,.v (.int .i64 ((k:Nat):Int))),(12,.v (.bool (decide (((k:Nat):Int) > 0))))] 13 (qaa (qaa (qaa (qac (qac (qaa (qaa (qac qad)))))))) (fun _ h=>h ▸ aa.cells) rfl aD fun bt al=>?_
  refine (Bool.eq_false_or_eq_true (decide (((k:Nat):Int) > 0))).elim (fun ac=>?_) (fun ac=>?_)
  ·
   have aZ:=of_decide_eq_true ac
   have aE:=al
   rw [ac] at aE
   refine qaD [3,4,8,9,10] [(0,.v (.slice A u.length c)),(3,.v (.int .i64 ((k:Nat):Int))),(5,.v (.int .i64 ((u.length:Nat):Int))),(6,.v (.int .i64 ((k:Nat):Int))),(12,.v (.bool true)),(13,.v (.slice A u.length c)),(14,.v (.int .i64 ((k:Nat):Int))),(18,.v (.slice A u.length c)),(20,.v (.int .i64 (IntKind.i64.wrap (((k:Nat):Int) - 1))))] 8 (qaa (qaa (qaa (qac (qac (qaa (qaa (qac qad)))))))) (fun _ h=>h ▸ aa.cells) rfl aE fun bu aF=>?_
   obtain ⟨az,aA,aG,ba,ae⟩:=Slots.get h2 (i:=k) (by omega)
   obtain ⟨⟨af,bd⟩,am⟩:∃ x,u[k]? = some x:=⟨_,List.getElem?_eq_getElem (by omega)⟩
   obtain ⟨⟨bw,bx,ao,bf⟩,bz,bA⟩:=h3 k af bd am
   rw [ao] at ae
   refine qaJ aF (i:=5) (t:=35) (A:=A) (m:=u.length) (q:=((k:Nat):Int)) (d:=15) kz (e:=69) (size:=2) (bytes:=32) kz aG rfl (by omega) kz kz (qaa (qaa (qaa (qac (qac (qaa (qaa (qac qad)))))))) rfl fun bB aH=>?_
   refine qaD [6] [(0,.v (.slice A u.length c)),(3,.v (.int .i64 ((k:Nat):Int))),(5,.v (.int .i64 ((u.length:Nat):Int))),(6,.v (.int .i64 ((k:Nat):Int))),(12,.v (.bool true)),(16,.v (.pointer (some ⟨az,aA + k * 2,none⟩))),(18,.v (.slice A u.length c)),(20,.v (.int .i64 (IntKind.i64.wrap (((k:Nat):Int) - 1))))] 6 (qaa (qaa (qaa (qac (qac (qaa (qaa (qac qad)))))))) (fun _ h=>h ▸ aa.cells) rfl aH fun bC aI=>?_
   refine qa6 aI (i:=7) (t:=64) (b:=az) (o:=aA + k * 2) (d:=17) kz (cs:=[.int .u32 af]) (v:=.int .u32 af) kz (fun w' h'=>h' ▸ (At.drop (AtF.move ae aa.step nilM qbb).at_ 0 1)) kz kz (qaa (qaa (qaa (qac (qac (qaa (qaa (qac qad)))))))) rfl fun bD aJ=>?_
   have aK:IntKind.i64.wrap (((k:Nat):Int) - 1) = (((k - 1):Nat):Int):=by simp only [qcR,qaz,qbH,IntKind.wrap_i64,IntKind.wrap_i32]; omega
   have aL:=EnvOk.pick aJ (ks:=[0,3,5,6,12,16,18,20,17]) (env':=[(0,.v (.slice A u.length c)),(3,.v (.int .i64 ((k:Nat):Int))),(5,.v (.int .i64 ((u.length:Nat):Int))),(6,.v (.int .i64 ((k:Nat):Int))),(12,.v (.bool true)),(16,.v (.pointer (some ⟨az,aA + k * 2,none⟩))),(18,.v (.slice A u.length c)),(20,.v (.int .i64 (IntKind.i64.wrap (((k:Nat):Int) - 1)))),(17,.v (.int .u32 af))]) kz
   have aM:=aL
   rw [aK] at aM
   obtain ⟨aU,aV,aN,bg,ag⟩:=Slots.get h2 (i:=(k - 1)) (by omega)
   obtain ⟨⟨ap,bh⟩,ar⟩:∃ x,u[(k - 1)]? = some x:=⟨_,List.getElem?_eq_getElem (by omega)⟩
   obtain ⟨⟨bE,bF,au,bi⟩,bG,bH⟩:=h3 (k - 1) ap bh ar
   rw [au] at ag
   refine qaJ aM (i:=11) (t:=35) (A:=A) (m:=u.length) (q:=(((k - 1):Nat):Int)) (d:=21) kz (e:=69) (size:=2) (bytes:=32) kz aN rfl (by omega) kz kz (qaa (qaa (qaa (qac (qac (qaa (qaa (qac qad)))))))) rfl fun bI aO=>?_
   refine qaD [12] [(0,.v (.slice A u.length c)),(3,.v (.int .i64 ((k:Nat):Int))),(5,.v (.int .i64 ((u.length:Nat):Int))),(6,.v (.int .i64 ((k:Nat):Int))),(12,.v (.bool true)),(17,.v (.int .u32 af)),(22,.v (.pointer (some ⟨aU,aV + (k - 1) * 2,none⟩)))] 3 (qaa (qaa (qaa (qac (qac (qaa (qaa (qac qad)))))))) (fun _ h=>h ▸ aa.cells) rfl aO fun bJ aP=>?_
   refine qa6 aP (i:=13) (t:=64) (b:=aU) (o:=aV + (k - 1) * 2) (d:=23) kz (cs:=[.int .u32 ap]) (v:=.int .u32 ap) kz (fun w' h'=>h' ▸ (At.drop (AtF.move ag aa.step nilM qbb).at_ 0 1)) kz kz (qaa (qaa (qaa (qac (qac (qaa (qaa (qac qad)))))))) rfl fun bK aQ=>?_
   refine qaD [14,15] [(0,.v (.slice A u.length c)),(3,.v (.int .i64 ((k:Nat):Int))),(5,.v (.int .i64 ((u.length:Nat):Int))),(6,.v (.int .i64 ((k:Nat):Int))),(25,.v (.bool (decide (af < ap))))] 0 (qaa (qaa (qaa (qac (qac (qaa (qaa (qac qad)))))))) (fun _ h=>h ▸ aa.cells) rfl aQ fun bL av=>?_
   refine qaC kz ?_ _
   refine qab (qam av (b:=decide (af < ap)) kz (decide_eq_false (qiv hsrt am ar (by omega))) ?_)
   refine wp_exit (qau (qau (qaL (qas (qab (qaq [0,1] kz ?_))))))
   refine qaj [0,1] [] [(0,.v (.slice A u.length c)),(5,.v (.int .i64 ((u.length:Nat):Int))),(6,.v (.int .i64 (IntKind.i64.wrap (((k:Nat):Int) + 1))))] aa av fun bM aw=>?_
   refine qaf (qab ?_)
   have aR:IntKind.i64.wrap (((k:Nat):Int) + 1) = ((k + 1:Nat):Int):=qaP (by omega)
   rw [aR] at aw
   exact ⟨u.length - (k + 1),by omega,k + 1,rfl,by omega,aw.pk,aa,(aj.trans ak)⟩
  have bj:=of_decide_eq_false ac
  have aS:=al
  rw [ac] at aS
  refine qaD [3,4,5,6,7,8,9,10,11,12,13,14,15] [(0,.v (.slice A u.length c)),(3,.v (.int .i64 ((k:Nat):Int))),(5,.v (.int .i64 ((u.length:Nat):Int))),(6,.v (.int .i64 ((k:Nat):Int))),(25,.v (.bool false))] 0 (qaa (qaa (qaa (qac (qac (qaa (qaa (qac qad)))))))) (fun _ h=>h ▸ aa.cells) rfl aS fun bN ax=>?_
  refine qaC kz ?_ _
  refine qab (qam ax (b:=false) kz rfl ?_)
  refine wp_exit (qau (qau (qaL (qas (qab (qaq [0,1] kz ?_))))))
  refine qaj [0,1] [] [(0,.v (.slice A u.length c)),(5,.v (.int .i64 ((u.length:Nat):Int))),(6,.v (.int .i64 (IntKind.i64.wrap (((k:Nat):Int) + 1))))] aa ax fun bO ay=>?_
  refine qaf (qab ?_)
  have aT:IntKind.i64.wrap (((k:Nat):Int) + 1) = ((k + 1:Nat):Int):=qaP (by omega)
  rw [aT] at ay
  exact ⟨u.length - (k + 1),by omega,k + 1,rfl,by omega,ay.pk,aa,(aj.trans ak)⟩
 have bk:=of_decide_eq_false ai
 refine wp_exit (qau (qau (qaL (qbT ah ab.cells (v:=.tuple #[]) kz ?_))))
 exact ⟨rfl,ab.step⟩
theorem qlO (s:ByteArray) (w:World) (F:Nat → Nat → Prop):Calls Tryz.prog 78 #[.pointer none] w (qd4 w F (.mk 0 [] true [] [])):=by
 refine enter (n:=11) Tryz.func78 rfl Tryz.ntmps78 kz fun a hE=>?_
 have hW:=WOk.start w Nil
 refine qae [0] kz ?_
 refine qal (qaS hW hE (d:=2) (cs:=z0) kz fun b1 a2 w3 hb4 hz5 hF6 hW7 hE8=>?_)
 refine qaf (qab ?_)
 refine wp_seq (qar [(0,.v (.pointer none)),(2,.p 0 0),(4,.v (.bool true))] hW7 hE8 fun a9 aa=>?_)
 refine qa4 aa (b:=true) kz rfl ?_
 refine qae [0,1] kz ?_
 refine qaj [0] [1] [(2,.p 0 0),(5,.v (.agg #[.int .i64 0,.slice none 0 0,.bool true,.slice none 0 0,.slice none 0 0]))] hW7 aa fun ah ac=>?_
 refine qal (qap hW7 ac (oi:=0) (cs:=[.int .i64 0,.slice none 0 0,.bool true,.slice none 0 0,.slice none 0 0]) kz fun af ag ab ae=>?_)
 refine qaf (qab ?_)
 refine wp_ret (qat (qaM ae ab.cells (v:=.agg #[.int .i64 0,.slice none 0 0,.bool true,.slice none 0 0,.slice none 0 0]) kz ?_))
 exact ⟨_,rfl,(show TreeR _ (Imm F w af [⟨b1,0,[.int .i64 0,.slice none 0 0,.bool true,.slice none 0 0,.slice none 0 0],true⟩] []) _ (Tree.mk 0 [] true [] []) from (TreeR.mk (n:=0) (b:=true) (s:=[]) (l:=[]) (u:=[]) (fun _=>[]) (Octs.nil _ _) (Slots.nil _ _ _ _) (fun i_ x_ h_=>by simp at h_) (TagsR.nil _ _))).move (Step.refl _ Nil) nilM qb8,ab.step⟩
theorem qlP (b o:Nat) (s:ByteArray) (w:World) (F:Nat → Nat → Prop) (hat:AtF w F b o [.string s]) (hs:s.size ≤ 1000000):Calls Tryz.prog 78 #[.pointer (some ⟨b,o,none⟩)] w (qd4 w F (.mk 0 (sb s) false [] [])):=by
 refine enter (n:=11) Tryz.func78 rfl Tryz.ntmps78 kz fun a hE=>?_
 have hW:=WOk.start w Nil
 refine qae [0] kz ?_
 refine qal (qaS hW hE (d:=2) (cs:=z0) kz fun b1 a2 w3 hb4 hz5 hF6 hW7 hE8=>?_)
 refine qaf (qab ?_)
 refine wp_seq (qar [(0,.v (.pointer (some ⟨b,o,none⟩))),(2,.p 0 0),(4,.v (.bool false))] hW7 hE8 fun a9 aa=>?_)
 refine qam aa (b:=false) kz rfl ?_
 refine wp_skip (qab (qae [0,1,2,3,4,5] kz ?_))
 refine qaj [0,1] [2,3,4,5] [(2,.p 0 0),(7,.v (.pointer (some ⟨b,o,none⟩)))] hW7 aa fun au ah=>?_
 refine qal (qaU ah (t:=9) (b:=b) (o:=o) (d:=8) kz (cs:=[.string s]) (v:=.string s) kz (AtF.move hat hW7.step nilM qbb).at_ fun av ai=>?_)
 refine qal (qf7 (d:=9) (src:=9) (dst:=22) (e:=5) (s:=s) hW7 ai (by omega) fun af ag aw ax ap ab aj ak=>?_)
 have al:=aj F
 refine qaj [4] [5] [(2,.p 0 0),(10,.v (.agg #[.int .i64 0,.slice (some ⟨af,0,none⟩) ((sb s).length) ag,.bool false,.slice none 0 0,.slice none 0 0]))] ab ak fun ay am=>?_
 refine qal (qap ab am (oi:=0) (cs:=[.int .i64 0,.slice (some ⟨af,0,none⟩) ((sb s).length) ag,.bool false,.slice none 0 0,.slice none 0 0]) kz fun ar ac ae ao=>?_)
 refine qaf (qab ?_)
 refine wp_ret (qaM ao ae.cells (v:=.agg #[.int .i64 0,.slice (some ⟨af,0,none⟩) ((sb s).length) ag,.bool false,.slice none 0 0,.slice none 0 0]) kz ?_)
 exact ⟨_,rfl,(show TreeR _ (Imm F w ar [⟨b1,0,[.int .i64 0,.slice (some ⟨af,0,none⟩) ((sb s).length) ag,.bool false,.slice none 0 0,.slice none 0 0],true⟩] []) _ (Tree.mk 0 (sb s) false [] []) from (TreeR.mk (n:=0) (b:=false) (s:=(sb s)) (l:=[]) (u:=[]) (fun _=>[]) (al.move ac.step immM ac.to') (Slots.nil _ _ _ _) (fun i_ x_ h_=>by simp at h_) (TagsR.nil _ _))).move (Step.refl _ Nil) nilM qb8,ae.step⟩
theorem ql0 (A:Option Addr) (s:ByteArray) (w:World) (F:Nat → Nat → Prop) (hO:∀ ad,A = some ad → ∃ b o,ad = ⟨b,o,none⟩ ∧ AtF w F b o [.string s]) (hs:s.size ≤ 1000000):Calls Tryz.prog 78 #[.pointer A] w (qd4 w F (qiu A s)):=by
 cases A with
 | none=>exact qlO s w F
 | some ad =>
  obtain ⟨b,o,rfl,h⟩:=hO ad rfl
  exact qlP b o s w F h hs
theorem qeZ:qfJ Tryz.prog 65 69:=by
 intro w B cp c n k A Av x x0 x1 x2 x3 xs G hbx ho hG hn
 refine enter (n:=14) Tryz.func65 rfl Tryz.ntmps65 kz fun a hE=>?_
 have hW:=hbx.wok
 have hE0:=(hE.grow ⟨B,0,[x0,x1,x2,x3,.slice A n cp],true⟩).recast 2 (.v (.pointer (some ⟨B,0,none⟩))) (.p 0 0) rfl rfl (by simp [SV.ok])
 have hsm:=Slots.small ho
 have ap:=hE0.pk (env':=[(0,.v (.int .u32 k)),(1,.v (.slice Av x.length c)),(2,.p 0 0)])
 refine qcr 9 kz hW fun w1 hF2 hW3 hT4=>?_
 refine qaD [0,1,2,3] [(2,.p 0 0),(6,.v (.slice A n cp)),(7,.v (.int .u32 k)),(8,.v (.slice Av x.length c))] 6 qad (fun _ h=>h.cells) hT4 ap fun a5 hE6=>?_
 have hW7:=hW3.addNil 5 1
 have hF8:=hW3.frNil 5 1
 refine qan (i:=4) kz (qaT hW7 hE6 (k:=1) (d:=9) (t:=22) (e:=5) (size:=1) (bytes:=1) (A:=none) (As:=Av) (m0:=0) (c:=0) (m:=x.length) (cs:=c) (xs:=[]) (news:=bc x) kz kz rfl (ho.move hW7.step (fun b o h _=>hG b o h) qbb).src (ho.move hW7.step (fun b o h _=>hG b o h) qbb).cap (by first | omega | (simp only [List.length_nil]; omega) | (simp; omega)) fun A9 aa aK aL ac ar au=>?_)
 have av:(⟨A9,aa,5,1,0 + x.length,[] ++ bc x⟩:Rw) = brow A9 aa 5 x:=by rw [List.nil_append,Nat.zero_add]
 obtain ⟨af,ae⟩:=ar.rowEq 1 [⟨A,cp,69,2,n,xs⟩,brow A9 aa 5 x] av
 have aw:=EnvOk.pick au (ks:=[2,6,7,8,9]) (env':=[(2,.p 0 0),(6,.v (.slice A n cp)),(7,.v (.int .u32 k)),(8,.v (.slice Av x.length c)),(9,.v (.slice A9 (0 + x.length) aa))]) kz
 have ax:=aw.cast (env':=[(2,.p 0 0),(6,.v (.slice A n cp)),(7,.v (.int .u32 k)),(8,.v (.slice Av x.length c)),(9,.v (.slice A9 x.length aa))]) (by simp only [List.length_append,List.length_cons,List.length_nil,Nat.zero_add])
 have ag:=TT.ofW ((hF8.trans ac).trans ae) af
 refine ⟨fun _=>ag,?_⟩
 refine qaD [5] [(2,.p 0 0),(6,.v (.slice A n cp)),(10,.v (.agg #[.int .u32 k,.slice A9 x.length aa]))] 4 qad (fun _ h=>h.cells) ag ax fun aM ay=>?_
 refine qan (i:=6) kz (qbq af ay (e:=69) (size:=2) (len:=1) (cs:=[.int .u32 k,.slice A9 x.length aa]) (d:=11) kz kz fun aF aN aO aG aH ah ab az=>?_)
 have aA:=TT.ofW (((hF8.trans ac).trans ae).trans ah) ab
 refine ⟨fun _=>aA,?_⟩
 refine qan (i:=7) kz (qaT ab az (k:=0) (d:=12) (t:=35) (e:=69) (size:=2) (bytes:=32) (A:=A) (As:=(some ⟨aF,0,none⟩)) (m0:=n) (c:=cp) (m:=1) (cs:=1) (xs:=xs) (news:=[.int .u32 k,.slice A9 x.length aa]) kz kz rfl (qbu (ab.own 2 _ rfl) (qbr kz)) (qbz (ab.own 2 _ rfl)) (by first | omega | (simp only [List.length_nil]; omega) | (simp; omega)) fun am ao aP aQ aB ai aC=>?_)
 have aj:=TT.ofW ((((hF8.trans ac).trans ae).trans ah).trans aB) ai
 refine ⟨fun _=>aj,?_⟩
 refine qaD [8] [(12,.v (.slice am (n + 1) ao)),(13,.p 0 4)] 1 qad (fun _ h=>h.cells) aj aC fun aR aD=>?_
 refine qan (i:=9) kz (qap ai aD (oi:=0) (cs:=[x0,x1,x2,x3,.slice am (n + 1) ao]) kz fun aS aI ak aE=>?_)
 refine ⟨fun h=>absurd rfl h,?_⟩
 refine qaC kz ?_ _
 refine qbT aE ak.cells (v:=.tuple #[]) kz ?_
 obtain ⟨al,aJ⟩:=ak.cutR 2 [⟨am,ao,69,2,n + 1,xs ++ [.int .u32 k,.slice A9 x.length aa]⟩,brow A9 aa 5 x]
 have hoo:=qeD (s:=x) (Av:=A9) (c:=aa) (e8:=5) rfl al (by omega)
 obtain ⟨hb1,hb2,hb3⟩:=qgu al (World.lt_of_cell (hbx.str.at_ 0 _ rfl))
 exact ⟨rfl,am,ao,A9,aa,hb1,hoo,hb2,hb3⟩
theorem qcj:qfJ Tryz.prog 80 69:=by
 intro w B cp c n k A Av x x0 x1 x2 x3 xs G hbx ho hG hn
 refine enter (n:=14) Tryz.func80 rfl Tryz.ntmps80 kz fun a hE=>?_
 have hW:=hbx.wok
 have hE0:=(hE.grow ⟨B,0,[x0,x1,x2,x3,.slice A n cp],true⟩).recast 2 (.v (.pointer (some ⟨B,0,none⟩))) (.p 0 0) rfl rfl (by simp [SV.ok])
 have hsm:=Slots.small ho
 have ap:=hE0.pk (env':=[(0,.v (.int .u32 k)),(1,.v (.slice Av x.length c)),(2,.p 0 0)])
 refine qcr 9 kz hW fun w1 hF2 hW3 hT4=>?_
 refine qaD [0,1,2,3] [(2,.p 0 0),(6,.v (.slice A n cp)),(7,.v (.int .u32 k)),(8,.v (.slice Av x.length c))] 6 qad (fun _ h=>h.cells) hT4 ap fun a5 hE6=>?_
 have hW7:=hW3.addNil 5 1
 have hF8:=hW3.frNil 5 1
 refine qan (i:=4) kz (qaT hW7 hE6 (k:=1) (d:=9) (t:=22) (e:=5) (size:=1) (bytes:=1) (A:=none) (As:=Av) (m0:=0) (c:=0) (m:=x.length) (cs:=c) (xs:=[]) (news:=bc x) kz kz rfl (ho.move hW7.step (fun b o h _=>hG b o h) qbb).src (ho.move hW7.step (fun b o h _=>hG b o h) qbb).cap (by first | omega | (simp only [List.length_nil]; omega) | (simp; omega)) fun A9 aa aK aL ac ar au=>?_)
 have av:(⟨A9,aa,5,1,0 + x.length,[] ++ bc x⟩:Rw) = brow A9 aa 5 x:=by rw [List.nil_append,Nat.zero_add]
 obtain ⟨af,ae⟩:=ar.rowEq 1 [⟨A,cp,69,2,n,xs⟩,brow A9 aa 5 x] av
 have aw:=EnvOk.pick au (ks:=[2,6,7,8,9]) (env':=[(2,.p 0 0),(6,.v (.slice A n cp)),(7,.v (.int .u32 k)),(8,.v (.slice Av x.length c)),(9,.v (.slice A9 (0 + x.length) aa))]) kz
 have ax:=aw.cast (env':=[(2,.p 0 0),(6,.v (.slice A n cp)),(7,.v (.int .u32 k)),(8,.v (.slice Av x.length c)),(9,.v (.slice A9 x.length aa))]) (by simp only [List.length_append,List.length_cons,List.length_nil,Nat.zero_add])
 have ag:=TT.ofW ((hF8.trans ac).trans ae) af
 refine ⟨fun _=>ag,?_⟩
 refine qaD [5] [(2,.p 0 0),(6,.v (.slice A n cp)),(10,.v (.agg #[.int .u32 k,.slice A9 x.length aa]))] 4 qad (fun _ h=>h.cells) ag ax fun aM ay=>?_
 refine qan (i:=6) kz (qbq af ay (e:=69) (size:=2) (len:=1) (cs:=[.int .u32 k,.slice A9 x.length aa]) (d:=11) kz kz fun aF aN aO aG aH ah ab az=>?_)
 have aA:=TT.ofW (((hF8.trans ac).trans ae).trans ah) ab
 refine ⟨fun _=>aA,?_⟩
 refine qan (i:=7) kz (qaT ab az (k:=0) (d:=12) (t:=35) (e:=69) (size:=2) (bytes:=32) (A:=A) (As:=(some ⟨aF,0,none⟩)) (m0:=n) (c:=cp) (m:=1) (cs:=1) (xs:=xs) (news:=[.int .u32 k,.slice A9 x.length aa]) kz kz rfl (qbu (ab.own 2 _ rfl) (qbr kz)) (qbz (ab.own 2 _ rfl)) (by first | omega | (simp only [List.length_nil]; omega) | (simp; omega)) fun am ao aP aQ aB ai aC=>?_)
 have aj:=TT.ofW ((((hF8.trans ac).trans ae).trans ah).trans aB) ai
 refine ⟨fun _=>aj,?_⟩
 refine qaD [8] [(12,.v (.slice am (n + 1) ao)),(13,.p 0 4)] 1 qad (fun _ h=>h.cells) aj aC fun aR aD=>?_
 refine qan (i:=9) kz (qap ai aD (oi:=0) (cs:=[x0,x1,x2,x3,.slice am (n + 1) ao]) kz fun aS aI ak aE=>?_)
 refine ⟨fun h=>absurd rfl h,?_⟩
 refine qaC kz ?_ _
 refine qbT aE ak.cells (v:=.tuple #[]) kz ?_
 obtain ⟨al,aJ⟩:=ak.cutR 2 [⟨am,ao,69,2,n + 1,xs ++ [.int .u32 k,.slice A9 x.length aa]⟩,brow A9 aa 5 x]
 have hoo:=qeD (s:=x) (Av:=A9) (c:=aa) (e8:=5) rfl al (by omega)
 obtain ⟨hb1,hb2,hb3⟩:=qgu al (World.lt_of_cell (hbx.str.at_ 0 _ rfl))
 exact ⟨rfl,am,ao,A9,aa,hb1,hoo,hb2,hb3⟩
theorem qb4:qfJ Tryz.prog 119 69:=by
 intro w B cp c n k A Av x x0 x1 x2 x3 xs G hbx ho hG hn
 refine enter (n:=14) Tryz.func119 rfl Tryz.ntmps119 kz fun a hE=>?_
 have hW:=hbx.wok
 have hE0:=(hE.grow ⟨B,0,[x0,x1,x2,x3,.slice A n cp],true⟩).recast 2 (.v (.pointer (some ⟨B,0,none⟩))) (.p 0 0) rfl rfl (by simp [SV.ok])
 have hsm:=Slots.small ho
 have ap:=hE0.pk (env':=[(0,.v (.int .u32 k)),(1,.v (.slice Av x.length c)),(2,.p 0 0)])
 refine qcr 9 kz hW fun w1 hF2 hW3 hT4=>?_
 refine qaD [0,1,2,3] [(2,.p 0 0),(6,.v (.slice A n cp)),(7,.v (.int .u32 k)),(8,.v (.slice Av x.length c))] 6 qad (fun _ h=>h.cells) hT4 ap fun a5 hE6=>?_
 have hW7:=hW3.addNil 5 1
 have hF8:=hW3.frNil 5 1
 refine qan (i:=4) kz (qaT hW7 hE6 (k:=1) (d:=9) (t:=22) (e:=5) (size:=1) (bytes:=1) (A:=none) (As:=Av) (m0:=0) (c:=0) (m:=x.length) (cs:=c) (xs:=[]) (news:=bc x) kz kz rfl (ho.move hW7.step (fun b o h _=>hG b o h) qbb).src (ho.move hW7.step (fun b o h _=>hG b o h) qbb).cap (by first | omega | (simp only [List.length_nil]; omega) | (simp; omega)) fun A9 aa aK aL ac ar au=>?_)
 have av:(⟨A9,aa,5,1,0 + x.length,[] ++ bc x⟩:Rw) = brow A9 aa 5 x:=by rw [List.nil_append,Nat.zero_add]
 obtain ⟨af,ae⟩:=ar.rowEq 1 [⟨A,cp,69,2,n,xs⟩,brow A9 aa 5 x] av
 have aw:=EnvOk.pick au (ks:=[2,6,7,8,9]) (env':=[(2,.p 0 0),(6,.v (.slice A n cp)),(7,.v (.int .u32 k)),(8,.v (.slice Av x.length c)),(9,.v (.slice A9 (0 + x.length) aa))]) kz
 have ax:=aw.cast (env':=[(2,.p 0 0),(6,.v (.slice A n cp)),(7,.v (.int .u32 k)),(8,.v (.slice Av x.length c)),(9,.v (.slice A9 x.length aa))]) (by simp only [List.length_append,List.length_cons,List.length_nil,Nat.zero_add])
 have ag:=TT.ofW ((hF8.trans ac).trans ae) af
 refine ⟨fun _=>ag,?_⟩
 refine qaD [5] [(2,.p 0 0),(6,.v (.slice A n cp)),(10,.v (.agg #[.int .u32 k,.slice A9 x.length aa]))] 4 qad (fun _ h=>h.cells) ag ax fun aM ay=>?_
 refine qan (i:=6) kz (qbq af ay (e:=69) (size:=2) (len:=1) (cs:=[.int .u32 k,.slice A9 x.length aa]) (d:=11) kz kz fun aF aN aO aG aH ah ab az=>?_)
 have aA:=TT.ofW (((hF8.trans ac).trans ae).trans ah) ab
 refine ⟨fun _=>aA,?_⟩
 refine qan (i:=7) kz (qaT ab az (k:=0) (d:=12) (t:=35) (e:=69) (size:=2) (bytes:=32) (A:=A) (As:=(some ⟨aF,0,none⟩)) (m0:=n) (c:=cp) (m:=1) (cs:=1) (xs:=xs) (news:=[.int .u32 k,.slice A9 x.length aa]) kz kz rfl (qbu (ab.own 2 _ rfl) (qbr kz)) (qbz (ab.own 2 _ rfl)) (by first | omega | (simp only [List.length_nil]; omega) | (simp; omega)) fun am ao aP aQ aB ai aC=>?_)
 have aj:=TT.ofW ((((hF8.trans ac).trans ae).trans ah).trans aB) ai
 refine ⟨fun _=>aj,?_⟩
 refine qaD [8] [(12,.v (.slice am (n + 1) ao)),(13,.p 0 4)] 1 qad (fun _ h=>h.cells) aj aC fun aR aD=>?_
 refine qan (i:=9) kz (qap ai aD (oi:=0) (cs:=[x0,x1,x2,x3,.slice am (n + 1) ao]) kz fun aS aI ak aE=>?_)
 refine ⟨fun h=>absurd rfl h,?_⟩
 refine qaC kz ?_ _
 refine qbT aE ak.cells (v:=.tuple #[]) kz ?_
 obtain ⟨al,aJ⟩:=ak.cutR 2 [⟨am,ao,69,2,n + 1,xs ++ [.int .u32 k,.slice A9 x.length aa]⟩,brow A9 aa 5 x]
 have hoo:=qeD (s:=x) (Av:=A9) (c:=aa) (e8:=5) rfl al (by omega)
 obtain ⟨hb1,hb2,hb3⟩:=qgu al (World.lt_of_cell (hbx.str.at_ 0 _ rfl))
 exact ⟨rfl,am,ao,A9,aa,hb1,hoo,hb2,hb3⟩
theorem qbM:qfJ Tryz.prog 139 69:=by
 intro w B cp c n k A Av x x0 x1 x2 x3 xs G hbx ho hG hn
 refine enter (n:=14) Tryz.func139 rfl Tryz.ntmps139 kz fun a hE=>?_
 have hW:=hbx.wok
 have hE0:=(hE.grow ⟨B,0,[x0,x1,x2,x3,.slice A n cp],true⟩).recast 2 (.v (.pointer (some ⟨B,0,none⟩))) (.p 0 0) rfl rfl (by simp [SV.ok])
 have hsm:=Slots.small ho
 have ap:=hE0.pk (env':=[(0,.v (.int .u32 k)),(1,.v (.slice Av x.length c)),(2,.p 0 0)])
 refine qcr 9 kz hW fun w1 hF2 hW3 hT4=>?_
 refine qaD [0,1,2,3] [(2,.p 0 0),(6,.v (.slice A n cp)),(7,.v (.int .u32 k)),(8,.v (.slice Av x.length c))] 6 qad (fun _ h=>h.cells) hT4 ap fun a5 hE6=>?_
 have hW7:=hW3.addNil 5 1
 have hF8:=hW3.frNil 5 1
 refine qan (i:=4) kz (qaT hW7 hE6 (k:=1) (d:=9) (t:=22) (e:=5) (size:=1) (bytes:=1) (A:=none) (As:=Av) (m0:=0) (c:=0) (m:=x.length) (cs:=c) (xs:=[]) (news:=bc x) kz kz rfl (ho.move hW7.step (fun b o h _=>hG b o h) qbb).src (ho.move hW7.step (fun b o h _=>hG b o h) qbb).cap (by first | omega | (simp only [List.length_nil]; omega) | (simp; omega)) fun A9 aa aK aL ac ar au=>?_)
 have av:(⟨A9,aa,5,1,0 + x.length,[] ++ bc x⟩:Rw) = brow A9 aa 5 x:=by rw [List.nil_append,Nat.zero_add]
 obtain ⟨af,ae⟩:=ar.rowEq 1 [⟨A,cp,69,2,n,xs⟩,brow A9 aa 5 x] av
 have aw:=EnvOk.pick au (ks:=[2,6,7,8,9]) (env':=[(2,.p 0 0),(6,.v (.slice A n cp)),(7,.v (.int .u32 k)),(8,.v (.slice Av x.length c)),(9,.v (.slice A9 (0 + x.length) aa))]) kz
 have ax:=aw.cast (env':=[(2,.p 0 0),(6,.v (.slice A n cp)),(7,.v (.int .u32 k)),(8,.v (.slice Av x.length c)),(9,.v (.slice A9 x.length aa))]) (by simp only [List.length_append,List.length_cons,List.length_nil,Nat.zero_add])
 have ag:=TT.ofW ((hF8.trans ac).trans ae) af
 refine ⟨fun _=>ag,?_⟩
 refine qaD [5] [(2,.p 0 0),(6,.v (.slice A n cp)),(10,.v (.agg #[.int .u32 k,.slice A9 x.length aa]))] 4 qad (fun _ h=>h.cells) ag ax fun aM ay=>?_
 refine qan (i:=6) kz (qbq af ay (e:=69) (size:=2) (len:=1) (cs:=[.int .u32 k,.slice A9 x.length aa]) (d:=11) kz kz fun aF aN aO aG aH ah ab az=>?_)
 have aA:=TT.ofW (((hF8.trans ac).trans ae).trans ah) ab
 refine ⟨fun _=>aA,?_⟩
 refine qan (i:=7) kz (qaT ab az (k:=0) (d:=12) (t:=35) (e:=69) (size:=2) (bytes:=32) (A:=A) (As:=(some ⟨aF,0,none⟩)) (m0:=n) (c:=cp) (m:=1) (cs:=1) (xs:=xs) (news:=[.int .u32 k,.slice A9 x.length aa]) kz kz rfl (qbu (ab.own 2 _ rfl) (qbr kz)) (qbz (ab.own 2 _ rfl)) (by first | omega | (simp only [List.length_nil]; omega) | (simp; omega)) fun am ao aP aQ aB ai aC=>?_)
 have aj:=TT.ofW ((((hF8.trans ac).trans ae).trans ah).trans aB) ai
 refine ⟨fun _=>aj,?_⟩
 refine qaD [8] [(12,.v (.slice am (n + 1) ao)),(13,.p 0 4)] 1 qad (fun _ h=>h.cells) aj aC fun aR aD=>?_
 refine qan (i:=9) kz (qap ai aD (oi:=0) (cs:=[x0,x1,x2,x3,.slice am (n + 1) ao]) kz fun aS aI ak aE=>?_)
 refine ⟨fun h=>absurd rfl h,?_⟩
 refine qaC kz ?_ _
 refine qbT aE ak.cells (v:=.tuple #[]) kz ?_
 obtain ⟨al,aJ⟩:=ak.cutR 2 [⟨am,ao,69,2,n + 1,xs ++ [.int .u32 k,.slice A9 x.length aa]⟩,brow A9 aa 5 x]
 have hoo:=qeD (s:=x) (Av:=A9) (c:=aa) (e8:=5) rfl al (by omega)
 obtain ⟨hb1,hb2,hb3⟩:=qgu al (World.lt_of_cell (hbx.str.at_ 0 _ rfl))
 exact ⟨rfl,am,ao,A9,aa,hb1,hoo,hb2,hb3⟩
theorem n8w (x:Int):IntKind.i8.wrap x = (x + 128) % 256 - 128:=by simp [IntKind.wrap,IntKind.signed,IntKind.bits]; omega
theorem n16w (x:Int):IntKind.i16.wrap x = (x + 32768) % 65536 - 32768:=by simp [IntKind.wrap,IntKind.signed,IntKind.bits]; omega
theorem n32w (x:Int):IntKind.i32.wrap x = (x + 2147483648) % 4294967296 - 2147483648:=by simp [IntKind.wrap,IntKind.signed,IntKind.bits]; omega
theorem n64w (x:Int):IntKind.i64.wrap x = (x + 9223372036854775808) % 18446744073709551616 - 9223372036854775808:=by simp [IntKind.wrap,IntKind.signed,IntKind.bits]; omega
theorem qix (x:Int):IntKind.i64.wrap (IntKind.i8.wrap x) = IntKind.i8.wrap x:=by rw [n64w,n8w]; omega
theorem qfL (x:Int):IntKind.i64.wrap (IntKind.i16.wrap x) = IntKind.i16.wrap x:=by rw [n64w,n16w]; omega
theorem qdH (x:Int):IntKind.i64.wrap (IntKind.i32.wrap x) = IntKind.i32.wrap x:=by rw [n64w,n32w]; omega
theorem qe0 (x:Int):IntKind.i64.wrap (IntKind.u16.wrap x) = IntKind.u16.wrap x:=by rw [n64w,qbH]; omega
def qbv (k n:Int):Int:=if k = 0 then n % 2 else if k = 1 then IntKind.i8.wrap n else if k = 2 then IntKind.i16.wrap n else if k = 3 then IntKind.i32.wrap n else if k = 5 then IntKind.u16.wrap n else n
structure UsQ (U:List Fld → Tree → Prop) (k x1 x2 x3 x4 x5 x6:Int) (sub:List Fld) (n:Int) (s:Bs) (b:Bool) (l:List Tree) (u:List (Int × Bs)):Prop where
 text:k = 8 → b = decide (x3 ≥ 0) ∧ s = []
 uuid:k = 7 → s = List.replicate 16 0
 octs:k = 9 ∨ k = 11 → s = [] ∧ l = []
 part:k = 10 → (x3 ≥ 0 → b = true) ∧ (x3 < 0 → U sub (.mk n s b l u))
 num:k ≠ 7 → k ≠ 8 → k ≠ 9 → k ≠ 10 → k ≠ 11 → n = qbv k x5
def UsF (U:List Fld → Tree → Prop):Fld → Tree → Prop
 | .mk k x1 x2 x3 x4 x5 x6 sub,.mk n s b l u=>UsQ U k x1 x2 x3 x4 x5 x6 sub n s b l u
def UsP (U:List Fld → Tree → Prop) (l:List Fld) (g:Tree):Prop:=g.U = [] ∧ ∀ (i:Nat) (f:Fld),l[i]? = some f → UsF U f (g.at_ i)
def qjG:Nat → List Fld → Tree → Prop
 | 0=>UsP fun _ _=>False
 | d + 1=>UsP (qjG d)
structure ToQ (T:List Fld → Tree → Tree → Prop) (v:Int) (f:Fld) (k x3:Int) (sub:List Fld) (t:Tree) (tn:Int) (ts:Bs) (n:Int) (s:Bs) (b:Bool) (g:Tree):Prop where
 null:k = 8 ∨ k = 10 ∨ (x3 ≥ 0 ∧ v ≥ x3) → b = f.nul v t
 text:f.nul v t = false → k = 8 ∨ k = 9 → s = qaI ts
 uuid:f.nul v t = false → k = 7 → s = qbs ts
 part:f.nul v t = false → k = 10 → T sub t g
 num:f.nul v t = false → k ≠ 7 → k ≠ 8 → k ≠ 9 → k ≠ 10 → k ≠ 11 → n = qbv k tn
def ToF0 (T:List Fld → Tree → Tree → Prop) (v:Int):Fld → Tree → Tree → Prop
 | .mk k x1 x2 x3 x4 x5 x6 sub,.mk tn ts tb tl tu,.mk n s b l u=>ToQ T v (.mk k x1 x2 x3 x4 x5 x6 sub) k x3 sub (.mk tn ts tb tl tu) tn ts n s b (.mk n s b l u)
def ToF (T:List Fld → Tree → Tree → Prop) (v:Int) (f:Fld) (t g:Tree):Prop :=
 ToF0 T v f t g ∧ (f.kind = 11 → f.nul v t = false → g.L.length = (qao t.L).length ∧ ∀ (i:Nat) (x y:Tree),(qao t.L)[i]? = some x → g.L[i]? = some y → ToF0 T v f.elem x y)
def Fld.pres (f:Fld) (v:Int) (flex:Bool) (x:Tree):Bool:=(decide (f.tag < 0) && f.has v) || (decide (f.tag ≥ 0) && (flex && !f.usual x))
def ToP (T:List Fld → Tree → Tree → Prop) (U:List Fld → Tree → Prop) (l:List Fld) (v:Int) (flex:Bool) (t g:Tree):Prop :=
 g.L.length = l.length ∧ (∀ (i:Nat) (f:Fld) (y:Tree),l[i]? = some f → g.L[i]? = some y → (f.pres v flex (t.at_ i) = true → ToF T v f (t.at_ i) y) ∧ (f.pres v flex (t.at_ i) = false → UsF U f y)) ∧
  g.U = (if flex = true then qcD (qai l t.U) else [])
def qiy (v:Int) (flex:Bool):Nat → List Fld → Tree → Tree → Prop
 | 0=>fun l t g=>ToP (fun _ _ _=>False) (fun _ _=>False) l v flex t g
 | d + 1=>fun l t g=>ToP (qiy v flex d) (qjG d) l v flex t g
theorem qkD {U:List Fld → Tree → Prop} {f:Fld} {y:Tree} (h:UsF U f y):UsP U [f] (.mk 0 [] false [y] []):=by
 refine ⟨rfl,fun i g hg=>?_⟩
 cases i with
 | zero =>
  simp only [List.getElem?_cons_zero,Option.some.injEq] at hg
  subst hg
  exact h
 | succ i=>simp at hg
theorem qjH {w:World} {e:Nat} {A:Option Addr} {c:Nat} {F:Nat → Nat → Prop} (h:w.ownsRow 0 e 1 (.slice A 16 c) 16 (List.replicate 16 (.int .u8 0))) (hF:∀ g,A.map (·.block) = some g → ∀ o,F g o):Octs w F A c (List.replicate 16 0) :=
 qcA (s:=List.replicate 16 0) h (by decide) hF
section
variable {U:List Fld → Tree → Prop} {k x1 x2 x3 x4 x5 x6 n:Int} {sub:List Fld} {s:Bs} {b:Bool} {l:List Tree} {u:List (Int × Bs)}
abbrev UsH (U:List Fld → Tree → Prop) (k x1 x2 x3 x4 x5 x6:Int) (sub:List Fld) (n:Int) (s:Bs) (b:Bool) (l:List Tree) (u:List (Int × Bs)):Prop:=UsF U (.mk k x1 x2 x3 x4 x5 x6 sub) (.mk n s b l u)
theorem us_q (h:UsH U k x1 x2 x3 x4 x5 x6 sub n s b l u):UsQ U k x1 x2 x3 x4 x5 x6 sub n s b l u:=h
theorem qgw (h:UsH U k x1 x2 x3 x4 x5 x6 sub n s b l u) (hk:k = 8) (hc:(b != decide (x3 ≥ 0)) = true):False:=by
 have:=((us_q h).text hk).1
 rw [this] at hc; simp at hc
theorem qgx (h:UsH U k x1 x2 x3 x4 x5 x6 sub n s b l u) (hk:k = 8) (hc:((s.length:Nat):Int) > 0):False:=by
 have:=((us_q h).text hk).2
 rw [this] at hc; simp at hc
theorem us_7 (h:UsH U k x1 x2 x3 x4 x5 x6 sub n s b l u) (hk:k = 7) (hc:(!decide (s = (List.replicate 16 0:Bs))) = true):False:=by
 have:=(us_q h).uuid hk
 rw [this] at hc; simp at hc
theorem qgy (h:UsH U k x1 x2 x3 x4 x5 x6 sub n s b l u) (hk:k = 9) (hc:((s.length:Nat):Int) > 0):False:=by
 have:=((us_q h).octs (.inl hk)).1
 rw [this] at hc; simp at hc
theorem qgz (h:UsH U k x1 x2 x3 x4 x5 x6 sub n s b l u) (hk:k = 9) (hc:((l.length:Nat):Int) > 0):False:=by
 have:=((us_q h).octs (.inl hk)).2
 rw [this] at hc; simp at hc
theorem qeF (h:UsH U k x1 x2 x3 x4 x5 x6 sub n s b l u) (hk:k = 11) (hc:((s.length:Nat):Int) > 0):False:=by
 have:=((us_q h).octs (.inr hk)).1
 rw [this] at hc; simp at hc
theorem qeG (h:UsH U k x1 x2 x3 x4 x5 x6 sub n s b l u) (hk:k = 11) (hc:((l.length:Nat):Int) > 0):False:=by
 have:=((us_q h).octs (.inr hk)).2
 rw [this] at hc; simp at hc
theorem qgA (h:UsH U k x1 x2 x3 x4 x5 x6 sub n s b l u) (hk:k = 10) (h3:x3 ≥ 0) (hc:(!b) = true):False:=by
 have:=((us_q h).part hk).1 h3
 rw [this] at hc; simp at hc
theorem qkE (h:UsH U k x1 x2 x3 x4 x5 x6 sub n s b l u) (hk:k = 10) (h3:x3 < 0):U sub (.mk n s b l u):=((us_q h).part hk).2 h3
theorem us_n (h:UsH U k x1 x2 x3 x4 x5 x6 sub n s b l u) (h7:k ≠ 7) (h8:k ≠ 8) (h9:k ≠ 9) (h10:k ≠ 10) (h11:k ≠ 11) (hc:n ≠ qbv k x5):False:=hc ((us_q h).num h7 h8 h9 h10 h11)
theorem us_u {g:Tree} (h:g.U = []) {u:List (Int × Bs)} (e:g.U = u) (hc:((u.length:Nat):Int) > 0):False:=by
 rw [← e,h] at hc; simp at hc
end
section
variable {T:List Fld → Tree → Tree → Prop} {v k x1 x2 x3 x4 x5 x6 tn n:Int} {sub:List Fld} {ts s:Bs} {tb b:Bool} {tl l:List Tree} {tu u:List (Int × Bs)}
abbrev ToH (T:List Fld → Tree → Tree → Prop) (v k x1 x2 x3 x4 x5 x6:Int) (sub:List Fld) (tn:Int) (ts:Bs) (tb:Bool) (tl:List Tree) (tu:List (Int × Bs)) (n:Int) (s:Bs) (b:Bool) (l:List Tree) (u:List (Int × Bs)):Prop:=ToF0 T v (.mk k x1 x2 x3 x4 x5 x6 sub) (.mk tn ts tb tl tu) (.mk n s b l u)
abbrev NulH (v k x1 x2 x3 x4 x5 x6:Int) (sub:List Fld) (tn:Int) (ts:Bs) (tb:Bool) (tl:List Tree) (tu:List (Int × Bs)):Bool:=Fld.nul (.mk k x1 x2 x3 x4 x5 x6 sub) v (.mk tn ts tb tl tu)
theorem to_q (h:ToH T v k x1 x2 x3 x4 x5 x6 sub tn ts tb tl tu n s b l u):ToQ T v (.mk k x1 x2 x3 x4 x5 x6 sub) k x3 sub (.mk tn ts tb tl tu) tn ts n s b (.mk n s b l u):=h
theorem qjI (h:ToH T v k x1 x2 x3 x4 x5 x6 sub tn ts tb tl tu n s b l u) (hk:k = 8) (hc:(b != NulH v k x1 x2 x3 x4 x5 x6 sub tn ts tb tl tu) = true):False:=by
 rw [(to_q h).null (.inl hk)] at hc; simp at hc
theorem qha (h:ToH T v k x1 x2 x3 x4 x5 x6 sub tn ts tb tl tu n s b l u) (hk:k = 10) (hc:(b != NulH v k x1 x2 x3 x4 x5 x6 sub tn ts tb tl tu) = true):False:=by
 rw [(to_q h).null (.inr (.inl hk))] at hc; simp at hc
theorem qgB (h:ToH T v k x1 x2 x3 x4 x5 x6 sub tn ts tb tl tu n s b l u) (h1:x3 ≥ 0) (h2:v ≥ x3) (hc:(b != NulH v k x1 x2 x3 x4 x5 x6 sub tn ts tb tl tu) = true):False:=by
 rw [(to_q h).null (.inr (.inr ⟨h1,h2⟩))] at hc; simp at hc
theorem qjJ (h:ToH T v k x1 x2 x3 x4 x5 x6 sub tn ts tb tl tu n s b l u) (hn:NulH v k x1 x2 x3 x4 x5 x6 sub tn ts tb tl tu = false) (hk:k = 10):T sub (.mk tn ts tb tl tu) (.mk n s b l u):=(to_q h).part hn hk
theorem qek (h:ToH T v k x1 x2 x3 x4 x5 x6 sub tn ts tb tl tu n s b l u) (hn:NulH v k x1 x2 x3 x4 x5 x6 sub tn ts tb tl tu = false) (hk:k = 8):decide (s = qaI ts) = true:=decide_eq_true ((to_q h).text hn (.inl hk))
theorem qel (h:ToH T v k x1 x2 x3 x4 x5 x6 sub tn ts tb tl tu n s b l u) (hn:NulH v k x1 x2 x3 x4 x5 x6 sub tn ts tb tl tu = false) (hk:k = 9):decide (s = qaI ts) = true:=decide_eq_true ((to_q h).text hn (.inr hk))
theorem to_u (h:ToH T v k x1 x2 x3 x4 x5 x6 sub tn ts tb tl tu n s b l u) (hn:NulH v k x1 x2 x3 x4 x5 x6 sub tn ts tb tl tu = false) (hk:k = 7):decide (s = qbs ts) = true:=decide_eq_true ((to_q h).uuid hn hk)
theorem to_m (h:ToH T v k x1 x2 x3 x4 x5 x6 sub tn ts tb tl tu n s b l u) (hn:NulH v k x1 x2 x3 x4 x5 x6 sub tn ts tb tl tu = false) (h8:k ≠ 8) (h9:k ≠ 9) (h7:k ≠ 7) (h10:k ≠ 10) (h11:k ≠ 11):(n == qbv k tn) = true:=by
 rw [(to_q h).num hn h7 h8 h9 h10 h11]; simp
theorem qhU {a c:Nat} (h:a = c) (hc:((a:Nat):Int) ≠ ((c:Nat):Int)):False:=hc (by rw [h])
end
theorem qc7 {P:Program} {ops:Array Oper} {Q:Exit → Act → World → Prop} {a:Act} {w:World} {T:World → Prop} {c i j fuel:Nat} {listed:Array Bool} (hr:Region.ready .any ops listed = [i,j]) (h:wpOp P ops Q i (fun a' w'=>(i ≠ c → T w') ∧ qbU P ops Q T c fuel (listed.setIfInBounds i true) a' w') a w)
  (h':wpOp P ops Q j (fun a' w'=>(j ≠ c → T w') ∧ qbU P ops Q T c fuel (listed.setIfInBounds j true) a' w') a w):qbU P ops Q T c (fuel + 1) listed a w:=by
 refine ⟨fun h0=>(by rw [hr] at h0; cases h0),fun q hq=>?_⟩
 rw [hr] at hq
 simp only [List.mem_cons,List.not_mem_nil,or_false] at hq
 rcases hq with rfl | rfl
 ·exact h
 exact h'
theorem qlQ {k x1 x2 x3 x4 x5 x6 v:Int} {sub:List Fld} {flex:Bool} {x:Tree} (h:x4 < 0) (h2:Fld.has (.mk k x1 x2 x3 x4 x5 x6 sub) v = true):Fld.pres (.mk k x1 x2 x3 x4 x5 x6 sub) v flex x = true:=by
 simp [Fld.pres,Fld.tag,h,h2]
theorem qlR {k x1 x2 x3 x4 x5 x6 v:Int} {sub:List Fld} {flex:Bool} {x:Tree} (h:x4 ≥ 0) (h2:flex = true) (h3:(!Fld.usual (.mk k x1 x2 x3 x4 x5 x6 sub) x) = true):Fld.pres (.mk k x1 x2 x3 x4 x5 x6 sub) v flex x = true:=by
 subst h2
 simp only [Bool.not_eq_true'] at h3
 simp [Fld.pres,Fld.tag,h,h3]
theorem qhV {k x1 x2 x3 x4 x5 x6 v:Int} {sub:List Fld} {flex:Bool} {x:Tree} (h:x4 < 0) (h2:Fld.has (.mk k x1 x2 x3 x4 x5 x6 sub) v = false):Fld.pres (.mk k x1 x2 x3 x4 x5 x6 sub) v flex x = false:=by
 have:¬ x4 ≥ 0:=by omega
 simp [Fld.pres,Fld.tag,h2,this]
theorem qhW {k x1 x2 x3 x4 x5 x6 v:Int} {sub:List Fld} {flex:Bool} {x:Tree} (h:¬ x4 < 0) (h2:flex = false):Fld.pres (.mk k x1 x2 x3 x4 x5 x6 sub) v flex x = false:=by
 subst h2
 simp [Fld.pres,Fld.tag,h]
theorem qhX {k x1 x2 x3 x4 x5 x6 v:Int} {sub:List Fld} {flex:Bool} {x:Tree} (h:¬ x4 < 0) (h3:(!Fld.usual (.mk k x1 x2 x3 x4 x5 x6 sub) x) = false):Fld.pres (.mk k x1 x2 x3 x4 x5 x6 sub) v flex x = false:=by
 simp only [Bool.not_eq_false'] at h3
 simp [Fld.pres,Fld.tag,h,h3]
theorem qkF {k x1 x2 x3 x4 x5 x6 v:Int} {sub:List Fld} {flex:Bool} {x:Tree} (h:¬ x4 < 0) (h2:flex = true):Fld.pres (.mk k x1 x2 x3 x4 x5 x6 sub) v flex x = !Fld.usual (.mk k x1 x2 x3 x4 x5 x6 sub) x:=by
 subst h2
 have:x4 ≥ 0:=by omega
 simp [Fld.pres,Fld.tag,h,this]
theorem qkG {k x1 x2 x3 x4 x5 x6 v:Int} {sub:List Fld} {flex:Bool} {x:Tree} (h:x4 < 0):Fld.pres (.mk k x1 x2 x3 x4 x5 x6 sub) v flex x = Fld.has (.mk k x1 x2 x3 x4 x5 x6 sub) v:=by
 have:¬ x4 ≥ 0:=by omega
 simp [Fld.pres,Fld.tag,h,this]
section
variable {w:World} {F:Nat → Nat → Prop}
theorem qkH {e size b c:Nat} {xs:List Value} {n:Nat} (h:w.ownsRow 0 e size (.slice (some ⟨b,0,none⟩) n c) n xs):AtF w (fun _ _=>True) b 0 xs:=fun j v hj=>⟨trivial,by
 have:=h.cells (g:=b) rfl j v hj
 rw [qbR] at this
 exact this⟩
theorem qhY {e b c:Nat} {cf:List Value} {f:Fld} (h:w.ownsRow 0 e 8 (.slice (some ⟨b,0,none⟩) 1 c) 1 cf) (hf:FldR w F cf f) (hc:1 ≤ c):FldsR w (fun _ _=>True) (some ⟨b,0,none⟩) c [f]:=by
 refine ⟨fun _=>cf,⟨hc,(by show 1 ≤ 1099511627776; decide),fun h=>(by cases h),fun ad hA _=>?_⟩,fun i x hx=>?_⟩
 ·obtain rfl:=Option.some.inj hA
  refine ⟨b,0,rfl,fun i hi=>⟨hf.eight,?_⟩⟩
  have:i = 0:=by simp at hi; omega
  subst this
  simpa using qkH h
 cases i with
 | zero =>
  simp only [List.getElem?_cons_zero,Option.some.injEq] at hx
  subst hx
  exact hf.move (Step.refl _ Nil) nilM fun _ _ _ _=>trivial
 | succ i=>simp at hx
theorem qhZ {e b c:Nat} {cy:List Value} {y:Tree} (h:w.ownsRow 0 e 5 (.slice (some ⟨b,0,none⟩) 1 c) 1 cy) (hy:TreeR w F cy y) (hc:1 ≤ c):TreeR w (fun _ _=>True) [.int .i64 0,.slice none 0 0,.bool false,.slice (some ⟨b,0,none⟩) 1 c,.slice none 0 0] (.mk 0 [] false [y] []):=by
 refine TreeR.mk (l:=[y]) (s:=[]) (u:=[]) (fun _=>cy) (Octs.nil _ _) ⟨hc,(by show 1 ≤ 1099511627776; decide),fun h=>(by cases h),fun ad hA _=>?_⟩ (fun i x hx=>?_) (TagsR.nil _ _)
 ·obtain rfl:=Option.some.inj hA
  refine ⟨b,0,rfl,fun i hi=>⟨hy.five,?_⟩⟩
  have:i = 0:=by simp at hi; omega
  subst this
  simpa using qkH h
 cases i with
 | zero =>
  simp only [List.getElem?_cons_zero,Option.some.injEq] at hx
  subst hx
  exact hy.move (Step.refl _ Nil) nilM fun _ _ _ _=>trivial
 | succ i=>simp at hx
end
section
variable {gu tu:List (Int × Bs)} {l:List Fld} {flex:Bool} {i:Nat} {k k':Int} {s s':Bs}
theorem qeH (h:gu = if flex = true then qcD (qai l tu) else []) (hf:(!flex) = false) (hc:((gu.length:Nat):Int) ≠ (((qai l tu).length:Nat):Int)):False:=by
 cases flex
 ·cases hf
 rw [if_pos rfl] at h
 rw [h,qcV] at hc
 exact hc rfl
theorem qdI (h:gu = if flex = true then qcD (qai l tu) else []) (hf:(!flex) = true) (hc:((gu.length:Nat):Int) ≠ 0):False:=by
 cases flex
 ·rw [if_neg (by decide)] at h
  rw [h] at hc
  exact hc rfl
 cases hf
theorem qjK (h:gu = if flex = true then qcD (qai l tu) else []) (hf:(!flex) = false) (hu:(qai l tu)[i]? = some (k,s)) (hg:gu[i]? = some (k',s')):k' = k ∧ s' = qaI s:=by
 cases flex
 ·cases hf
 rw [if_pos rfl] at h
 rw [h,qil hu] at hg
 have:=Option.some.inj hg
 exact ⟨(Prod.mk.injEq .. ▸ this).1.symm,(Prod.mk.injEq .. ▸ this).2.symm⟩
theorem qeI (h:gu = if flex = true then qcD (qai l tu) else []) (hf:(!flex) = false) (hu:(qai l tu)[i]? = some (k,s)) (hg:gu[i]? = some (k',s')) (hc:k' ≠ k):False:=hc (qjK h hf hu hg).1
theorem qeJ (h:gu = if flex = true then qcD (qai l tu) else []) (hf:(!flex) = false) (hu:(qai l tu)[i]? = some (k,s)) (hg:gu[i]? = some (k',s')) (hc:(!decide (s' = qaI s)) = true):False:=by
 rw [(qjK h hf hu hg).2] at hc; simp at hc
theorem qcH (h:gu = if flex = true then qcD (qai l tu) else []) (hf:(!flex) = false):gu.length = (qai l tu).length:=by
 cases flex
 ·cases hf
 rw [if_pos rfl] at h
 rw [h,qcV]
end
end Go.Proofs.YtfljkhecngpcmaaGreatDoor.ME