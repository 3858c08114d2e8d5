/- The texts of a claim, put together: the engine, the contracts, the law. Own work. -/
import Derived.Test.YtdlaobdadlmcdaaGreatDoorWt2P3
import Derived.Lib.ConvBytes
namespace Go.Proofs.YtdlaobdadlmcdaaGreatDoor.ME
open Go
open Go.RowKit
set_option linter.unusedVariables false
set_option linter.unusedSimpArgs false
set_option maxRecDepth 20000
def qbc (v:Int) (T:Tree):Bs:=(be 4 ((IntKind.i32.wrap (T.at_ 0).N))) ++ ((be 4 ((IntKind.i32.wrap (T.at_ 1).N))) ++ (if (decide (v ≥ 0)) = true then (uv T.U.length) ++ (qck T.U) else []))
def qaI (v:Int) (T:Tree):Bs:=(be 4 ((IntKind.i32.wrap (T.at_ 0).N))) ++ ((be 2 ((IntKind.i16.wrap (T.at_ 1).N))) ++ ((if (decide (v ≥ 0)) = true then (if (T.at_ 2).null = true then uv 0 else uv ((qbo (T.at_ 2)).length + 1) ++ (qbo (T.at_ 2))) else (if (T.at_ 2).null = true then be 2 (-1) else be 2 (qbo (T.at_ 2)).length ++ (qbo (T.at_ 2)))) ++ (((qbc v (T.at_ 3))) ++ (if (decide (v ≥ 0)) = true then (uv T.U.length) ++ (qck T.U) else []))))
theorem qbJ (v:Int) (T:Tree):0 < (qaI v T).length:=qlF (qk7 (by decide))
def qaV (v:Int) (T:Tree):Bs:=(qah (T.at_ 0).S) ++ (((if (decide (v ≥ 0)) = true then (uv ((lst (T.at_ 1)).length + 1)) else (be 4 (lst (T.at_ 1)).length)) ++ ((lst (T.at_ 1)).flatMap (qaI v))) ++ (if (decide (v ≥ 0)) = true then (uv T.U.length) ++ (qck T.U) else []))
theorem qb8 (v:Int) (T:Tree):0 < (qaV v T).length:=qlF (by rw [qd8]; decide)
def qaJ (v:Int) (T:Tree):Bs:=(be 4 ((IntKind.i32.wrap (T.at_ 0).N))) ++ ((if (decide (v ≥ 0)) = true then (uv ((T.at_ 1).S.length + 1) ++ (T.at_ 1).S) else (be 2 (T.at_ 1).S.length ++ (T.at_ 1).S)) ++ ((be 4 ((IntKind.i32.wrap (T.at_ 2).N))) ++ ((if (decide (v ≥ 0)) = true then (if (T.at_ 3).null = true then uv 0 else uv ((qbo (T.at_ 3)).length + 1) ++ (qbo (T.at_ 3))) else (if (T.at_ 3).null = true then be 2 (-1) else be 2 (qbo (T.at_ 3)).length ++ (qbo (T.at_ 3)))) ++ (if (decide (v ≥ 0)) = true then (uv T.U.length) ++ (qck T.U) else []))))
theorem qbS (v:Int) (T:Tree):0 < (qaJ v T).length:=qlF (qk7 (by decide))
def qcv (v:Int) (T:Tree):Bs:=(be 4 ((IntKind.i32.wrap (T.at_ 0).N))) ++ ((be 2 ((IntKind.i16.wrap (T.at_ 1).N))) ++ ((if (decide (v ≥ 0)) = true then (if (T.at_ 2).null = true then uv 0 else uv ((qbo (T.at_ 2)).length + 1) ++ (qbo (T.at_ 2))) else (if (T.at_ 2).null = true then be 2 (-1) else be 2 (qbo (T.at_ 2)).length ++ (qbo (T.at_ 2)))) ++ ((if (decide (v ≥ 2)) = true then be 4 ((IntKind.i32.wrap (T.at_ 3).N)) else []) ++ (((if (decide (v ≥ 0)) = true then (uv ((lst (T.at_ 4)).length + 1)) else (be 4 (lst (T.at_ 4)).length)) ++ ((lst (T.at_ 4)).flatMap (qaV v))) ++ (((if (decide (v ≥ 0)) = true then (uv ((lst (T.at_ 5)).length + 1)) else (be 4 (lst (T.at_ 5)).length)) ++ ((lst (T.at_ 5)).flatMap (qaJ v))) ++ ((if (decide (v ≥ 0)) = true then (uv T.U.length) ++ (qck T.U) else []) ++ (([]:Bs))))))))
theorem qdn (v:Int) (T:Tree):qam v T = qcv v T:=rfl
theorem qbv:qga qaL:=by
 intro w w' F F' M d hs hM hF h
 unfold qaL at h ⊢
 obtain ⟨g0,g1,t1,t2,t3,_⟩:=h
 exact ⟨g0,g1,t1.move hs hM hF,t2,t3,trivial⟩
def qbO (d:DV):List Value:=[.int .i32 ((d.f 0).n),.int .i16 ((d.f 1).n),.pointer ((d.f 2).A),.int .i32 (((d.f 3).f 0).n),.int .i32 (((d.f 3).f 1).n),.map ((d.f 3).m),.map d.m]
theorem qaX:qga qaO:=by
 intro w w' F F' M d hs hM hF h
 unfold qaO at h ⊢
 obtain ⟨g0,g1,⟨g2,g2l⟩,g3,t1,t2,t3,_⟩:=h
 exact ⟨g0,g1,⟨fun ad hA=>by
  obtain ⟨b,o,h1,h2⟩:=g2 ad hA
  exact ⟨b,o,h1,h2.move hs hM hF⟩,g2l⟩,qbv _ hs hM hF g3,t1.move hs hM hF,t2,t3,trivial⟩
def qcc (d:DV):List Value:=[qad ((d.f 0).o.getD 0 0),qad ((d.f 0).o.getD 1 0),qad ((d.f 0).o.getD 2 0),qad ((d.f 0).o.getD 3 0),qad ((d.f 0).o.getD 4 0),qad ((d.f 0).o.getD 5 0),qad ((d.f 0).o.getD 6 0),qad ((d.f 0).o.getD 7 0),qad ((d.f 0).o.getD 8 0),qad ((d.f 0).o.getD 9 0),qad ((d.f 0).o.getD 10 0),qad ((d.f 0).o.getD 11 0),qad ((d.f 0).o.getD 12 0),qad ((d.f 0).o.getD 13 0),qad ((d.f 0).o.getD 14 0),qad ((d.f 0).o.getD 15 0),.slice ((d.f 1).A) ((d.f 1).l) ((d.f 1).c),.map d.m]
theorem qa7:qga qa2:=by
 intro w w' F F' M d hs hM hF h
 unfold qa2 at h ⊢
 obtain ⟨g0,⟨g1,g1l,g1e⟩,t1,t2,t3,_⟩:=h
 exact ⟨g0,⟨g1.move hs hM hF,g1l,fun i hi=>qaX _ hs hM hF (g1e i hi)⟩,t1.move hs hM hF,t2,t3,trivial⟩
def qbT (d:DV):List Value:=[.int .i32 ((d.f 0).n),.string ((d.f 1).s),.int .i32 ((d.f 2).n),.pointer ((d.f 3).A),.map d.m]
theorem qaY:qga qaT:=by
 intro w w' F F' M d hs hM hF h
 unfold qaT at h ⊢
 obtain ⟨g0,g1,g2,⟨g3,g3l⟩,t1,t2,t3,_⟩:=h
 exact ⟨g0,g1,g2,⟨fun ad hA=>by
  obtain ⟨b,o,h1,h2⟩:=g3 ad hA
  exact ⟨b,o,h1,h2.move hs hM hF⟩,g3l⟩,t1.move hs hM hF,t2,t3,trivial⟩
def qbd (v:Int) (D:DV) (T:Tree):Prop:=((D.f 0).n = IntKind.i32.wrap (T.at_ 0).N) ∧ ((D.f 1).n = IntKind.i32.wrap (T.at_ 1).N) ∧ (((decide (v ≥ 0)) = true → D.u = T.U) ∧ ((decide (v ≥ 0)) = false → D.u = [])) ∧ True
def qa1 (v:Int) (D:DV) (T:Tree):Prop:=((D.f 0).n = IntKind.i32.wrap (T.at_ 0).N) ∧ ((D.f 1).n = IntKind.i16.wrap (T.at_ 1).N) ∧ (((D.f 2).s = bs (qbo (T.at_ 2)) ∧ (D.f 2).A.isNone = (T.at_ 2).null)) ∧ (qbd v (D.f 3) (T.at_ 3)) ∧ (((decide (v ≥ 0)) = true → D.u = T.U) ∧ ((decide (v ≥ 0)) = false → D.u = [])) ∧ True
def qbf (v:Int) (D:DV) (T:Tree):Prop:=((D.f 0).o = qah (T.at_ 0).S) ∧ (((D.f 1).l = (lst (T.at_ 1)).length ∧ ∀ i,i < (D.f 1).l → qa1 v ((D.f 1).f i) ((lst (T.at_ 1)).getD i .zero))) ∧ (((decide (v ≥ 0)) = true → D.u = T.U) ∧ ((decide (v ≥ 0)) = false → D.u = [])) ∧ True
def qa5 (v:Int) (D:DV) (T:Tree):Prop:=((D.f 0).n = IntKind.i32.wrap (T.at_ 0).N) ∧ ((D.f 1).s = bs (T.at_ 1).S) ∧ ((D.f 2).n = IntKind.i32.wrap (T.at_ 2).N) ∧ (((D.f 3).s = bs (qbo (T.at_ 3)) ∧ (D.f 3).A.isNone = (T.at_ 3).null)) ∧ (((decide (v ≥ 0)) = true → D.u = T.U) ∧ ((decide (v ≥ 0)) = false → D.u = [])) ∧ True
def qbj (v:Int) (D:DV) (T:Tree):Prop:=((D.f 0).n = IntKind.i32.wrap (T.at_ 0).N) ∧ ((D.f 1).n = IntKind.i16.wrap (T.at_ 1).N) ∧ (((D.f 2).s = bs (qbo (T.at_ 2)) ∧ (D.f 2).A.isNone = (T.at_ 2).null)) ∧ (((decide (v ≥ 2)) = true → (D.f 3).n = IntKind.i32.wrap (T.at_ 3).N) ∧ ((decide (v ≥ 2)) = false → (D.f 3).n = 0)) ∧ (((D.f 4).l = (lst (T.at_ 4)).length ∧ ∀ i,i < (D.f 4).l → qbf v ((D.f 4).f i) ((lst (T.at_ 4)).getD i .zero))) ∧ (((D.f 5).l = (lst (T.at_ 5)).length ∧ ∀ i,i < (D.f 5).l → qa5 v ((D.f 5).f i) ((lst (T.at_ 5)).getD i .zero))) ∧ (((decide (v ≥ 0)) = true → D.u = T.U) ∧ ((decide (v ≥ 0)) = false → D.u = [])) ∧ True
theorem qmb (b o:Nat) (w:World):Calls Tryz.prog 113 #[.pointer (some ⟨b,o,none⟩)] w (fun e w'=>e = .returned (.tuple #[]) ∧ w' = w):=by
 refine enter (n:=2) (vs:=[.pointer (some ⟨b,o,none⟩)]) Tryz.func113 rfl Tryz.ntmps113 kz fun a hE=>?_
 refine wp_skip ?_
 exact qbV hE (WOk.start w Nil).cells (v:=.tuple #[]) kz ⟨rfl,rfl⟩
theorem qmc (b o:Nat) (w:World):Calls Tryz.prog 116 #[.pointer (some ⟨b,o,none⟩)] w (fun e w'=>e = .returned (.tuple #[]) ∧ w' = w):=by
 refine enter (n:=2) (vs:=[.pointer (some ⟨b,o,none⟩)]) Tryz.func116 rfl Tryz.ntmps116 kz fun a hE=>?_
 refine wp_skip ?_
 exact qbV hE (WOk.start w Nil).cells (v:=.tuple #[]) kz ⟨rfl,rfl⟩
theorem qmd (b o:Nat) (w:World):Calls Tryz.prog 117 #[.pointer (some ⟨b,o,none⟩)] w (fun e w'=>e = .returned (.tuple #[]) ∧ w' = w):=by
 refine enter (n:=2) (vs:=[.pointer (some ⟨b,o,none⟩)]) Tryz.func117 rfl Tryz.ntmps117 kz fun a hE=>?_
 refine wp_skip ?_
 exact qbV hE (WOk.start w Nil).cells (v:=.tuple #[]) kz ⟨rfl,rfl⟩
abbrev z28 :=([.int .u8 0,.int .u8 0,.int .u8 0,.int .u8 0,.int .u8 0,.int .u8 0,.int .u8 0,.int .u8 0,.int .u8 0,.int .u8 0,.int .u8 0,.int .u8 0,.int .u8 0,.int .u8 0,.int .u8 0,.int .u8 0,.slice none 0 0,.map none]:List Value)
abbrev z62 :=([.int .u8 0,.int .u8 0,.int .u8 0,.int .u8 0,.int .u8 0,.int .u8 0,.int .u8 0,.int .u8 0,.int .u8 0,.int .u8 0,.int .u8 0,.int .u8 0,.int .u8 0,.int .u8 0,.int .u8 0,.int .u8 0]:List Value)
abbrev z88 (x0):=([.int .i16 x0,.int .i32 0,.int .i16 0,.pointer none,.int .i32 0,.slice none 0 0,.slice none 0 0,.map none]:List Value)
set_option maxHeartbeats 4000000 in
theorem qdo (v:Int) (T:Tree) {bv:Nat} {A:Option Addr} {c:Nat} {w:World} {F:Nat → Nat → Prop} (hst:Str w bv [.int .i16 v,.int .i32 0,.int .i16 0,.pointer none,.int .i32 0,.slice none 0 0,.slice none 0 0,.map none]) (ho:Octs w F A c (qam v T)) (hFd:∀ b o,F b o → ¬ (b = bv ∧ o < 8)) (hc:qbg T) (hR:T.ranged) :
  Calls Tryz.prog 72 #[.pointer (some ⟨bv,0,none⟩),.slice A (qam v T).length c,.bool false] w (fun e w'=>∃ D:DV,e = .returned .nilIface ∧ Str w' bv [.int .i16 v,.int .i32 ((D.f 0).n),.int .i16 ((D.f 1).n),.pointer ((D.f 2).A),.int .i32 ((D.f 3).n),.slice ((D.f 4).A) ((D.f 4).l) ((D.f 4).c),.slice ((D.f 5).A) ((D.f 5).l) ((D.f 5).c),.map D.m] ∧ qbp w' (Fp F w) D ∧ qbj v D T ∧ Step w w' (fun b o=>b = bv ∧ o < 8)):=by
 refine enter (n:=288) Tryz.func72 rfl Tryz.ntmps72 kz fun a hE=>?_
 have hW:=WOk.startStr hst
 have hE1:=(hE.grow ⟨bv,0,(z88 v),true⟩).recast 0 (.v (.pointer (some ⟨bv,0,none⟩))) (.p 0 0) rfl rfl (zN (n:=1) rfl)
 refine qas [(0,.p 0 0),(1,.v (.slice A ((qam v T).length) c)),(2,.v (.bool false))] hW hE1 fun a1 hE2=>?_
 refine qaf [0,1] kz ?_
 refine qak [0] [1] [(0,.p 0 0),(1,.v (.slice A ((qam v T).length) c)),(2,.v (.bool false)),(45,.p 0 0)] hW hE2 fun a3 hE4=>?_
 refine qan (qbK hE4 (f:=70) (vs:=(z29 bv)) (d:=46) (n':=2) kz Tryz.call70 Tryz.func70 rfl Tryz.ntmps70 kz fun a5 hE6=>?_)
 have hE7:=hE6.recast 0 (.v (.pointer (some ⟨bv,0,none⟩))) (.p 0 0) rfl rfl (zN (n:=1) rfl)
 refine wp_skip (qbV hE7 hW.cells (v:=.tuple #[]) kz ?_)
 refine ⟨_,rfl,fun a8 hE9=>?_⟩
 have js:EnvOk 288 [⟨bv,0,(z88 v),true⟩] [(46,.v (.tuple #[])),(0,.p 0 0),(1,.v (.slice A ((qam v T).length) c)),(2,.v (.bool false)),(45,.p 0 0)] _:=hE9.places (⟨rfl,rfl,trivial⟩)
 refine qag (qab ?_)
 refine qaf [0,1,2,3] kz ?_
 refine qak [0,1] [2,3] [(0,.p 0 0),(2,.v (.bool false)),(48,.v (.agg #[.slice A ((qam v T).length) c,.bool false]))] hW js fun kp jt=>?_
 refine qan (qaM hW jt (d:=7) (cs:=[.slice none 0 0,.bool false]) kz fun aV kq ku jZ j0 j1 ju jv=>?_)
 refine qan (qao ju jv (oi:=1) (cs:=[.slice A ((qam v T).length) c,.bool false]) kz fun kv j2 gI jw=>?_)
 refine qag (qab ?_)
 have gT:=RS.start (F:=F) (s:=qam v T) gI jw (ho.move gI.step (fun b_ o_ h_ _=>hFd b_ o_ h_) (gI.immM hFd)) [(0,.p 1 0),(2,.v (.bool false)),(7,.p 0 0)]
 have jX:=hc
 have e26r:=hR
 unfold qbg at jX
 obtain ⟨e26_0,e26_1,e26_2,e26_3,⟨e26_4,e26_4e⟩,⟨e26_5,e26_5e⟩,e26_U,_⟩:=jX
 obtain ⟨cr,gU⟩:∃ R,R = (if (decide (v ≥ 0)) = true then (uv T.U.length) ++ (qck T.U) else []) ++ ([]:Bs):=⟨_,rfl⟩
 obtain ⟨cu,gV⟩:∃ R,R = ((if (decide (v ≥ 0)) = true then (uv ((lst (T.at_ 5)).length + 1)) else (be 4 (lst (T.at_ 5)).length)) ++ ((lst (T.at_ 5)).flatMap (qaJ v))) ++ cr:=⟨_,rfl⟩
 obtain ⟨gW,gX⟩:∃ R,R = ((if (decide (v ≥ 0)) = true then (uv ((lst (T.at_ 4)).length + 1)) else (be 4 (lst (T.at_ 4)).length)) ++ ((lst (T.at_ 4)).flatMap (qaV v))) ++ cu:=⟨_,rfl⟩
 obtain ⟨jp,gY⟩:∃ R,R = (if (decide (v ≥ 2)) = true then be 4 ((IntKind.i32.wrap (T.at_ 3).N)) else []) ++ gW:=⟨_,rfl⟩
 obtain ⟨j3,gZ⟩:∃ R,R = (if (decide (v ≥ 0)) = true then (if (T.at_ 2).null = true then uv 0 else uv ((qbo (T.at_ 2)).length + 1) ++ (qbo (T.at_ 2))) else (if (T.at_ 2).null = true then be 2 (-1) else be 2 (qbo (T.at_ 2)).length ++ (qbo (T.at_ 2)))) ++ jp:=⟨_,rfl⟩
 obtain ⟨j4,g9⟩:∃ R,R = (be 2 ((IntKind.i16.wrap (T.at_ 1).N))) ++ j3:=⟨_,rfl⟩
 obtain ⟨j5,hC⟩:∃ R,R = (be 4 ((IntKind.i32.wrap (T.at_ 0).N))) ++ j4:=⟨_,rfl⟩
 have hJ:=gT.cast (t:=j5) (by rw [qdn,hC,g9,gZ,gY,gX,gV,gU]; unfold qcv; simp only [List.append_assoc])
 clear gT
 refine wp_seq (qbD [(0,.p 1 0),(2,.v (.bool false)),(7,.p 0 0),(8,.v (.int .i16 v))] hJ fun _ hK=>?_)
 clear hJ
 refine qab (wp_seq (qbD [(0,.p 1 0),(2,.v (.bool false)),(7,.p 0 0),(8,.v (.int .i16 v))] hK fun _ hZ=>?_))
 clear hK
 refine qab (wp_seq (qbD [(0,.p 1 0),(2,.v (.bool false)),(7,.p 0 0),(8,.v (.int .i16 v)),(9,.v (.bool (decide (v ≥ 0))))] hZ fun _ ia=>?_))
 clear hZ
 refine qab (wp_seq (qbD [(0,.p 1 0),(2,.v (.bool false)),(7,.p 0 0),(8,.v (.int .i16 v)),(9,.v (.bool (decide (v ≥ 0))))] ia fun _ ib=>?_))
 clear ia
 refine qab (wp_seq (qbD [(2,.v (.bool false)),(7,.p 0 0),(8,.v (.int .i16 v)),(9,.v (.bool (decide (v ≥ 0)))),(10,.p 1 0)] ib fun _ ic=>?_))
 clear ib
 refine qab (wp_seq (wp_seq ?_))
 have ig:=ic.cast hC
 clear ic
 refine qdY (d:=58) [(2,.v (.bool false)),(7,.p 0 0),(8,.v (.int .i16 v)),(9,.v (.bool (decide (v ≥ 0)))),(10,.p 1 0),(11,.v (.int .i32 (IntKind.i32.wrap (T.at_ 0).N)))] ig (qf3 _ _) Tryz.call95 fun _ _ ii=>?_
 clear ig
 refine qab (qc1 [⟨bv,0,[.int .i16 v,.int .i32 (IntKind.i32.wrap (T.at_ 0).N),.int .i16 0,.pointer none,.int .i32 0,.slice none 0 0,.slice none 0 0,.map none],true⟩] 0 [(2,.v (.bool false)),(7,.p 0 0),(8,.v (.int .i16 v)),(9,.v (.bool (decide (v ≥ 0)))),(10,.p 1 0)] ii fun _ _ ij=>?_)
 clear ii
 refine qab (wp_seq (wp_seq ?_))
 have ik:=ij.cast g9
 clear ij
 refine qdY (d:=63) [(2,.v (.bool false)),(7,.p 0 0),(8,.v (.int .i16 v)),(9,.v (.bool (decide (v ≥ 0)))),(10,.p 1 0),(12,.v (.int .i16 (IntKind.i16.wrap (T.at_ 1).N)))] ik (qk8 _ _) Tryz.call89 fun _ _ il=>?_
 clear ik
 refine qab (qc1 [⟨bv,0,[.int .i16 v,.int .i32 (IntKind.i32.wrap (T.at_ 0).N),.int .i16 (IntKind.i16.wrap (T.at_ 1).N),.pointer none,.int .i32 0,.slice none 0 0,.slice none 0 0,.map none],true⟩] 0 [(2,.v (.bool false)),(7,.p 0 0),(8,.v (.int .i16 v)),(9,.v (.bool (decide (v ≥ 0)))),(10,.p 1 0)] il fun _ _ im=>?_)
 clear il
 refine qab (wp_seq (wp_seq (qbD [(2,.v (.bool false)),(7,.p 0 0),(8,.v (.int .i16 v)),(9,.v (.bool (decide (v ≥ 0)))),(10,.p 1 0)] im fun _ io=>?_)))
 clear im
 refine qab (wp_seq ?_)
 have ip:=io.cast gZ
 clear io
 refine qc8 (Mid:=fun a_ w_=>∃ (au:Option Addr) (P':qcz),(∀ w F,P' w F → noF w F ∧ qi0 au (qbo (T.at_ 2)) w F ∧ au.isNone = (T.at_ 2).null) ∧ RS w (fun b o=>b = bv ∧ o < 8) F 288 aV [⟨bv,0,[.int .i16 v,.int .i32 (IntKind.i32.wrap (T.at_ 0).N),.int .i16 (IntKind.i16.wrap (T.at_ 1).N),.pointer none,.int .i32 0,.slice none 0 0,.slice none 0 0,.map none],true⟩] [(2,.v (.bool false)),(7,.p 0 0),(8,.v (.int .i16 v)),(9,.v (.bool (decide (v ≥ 0)))),(10,.p 1 0),(13,.v (.pointer au))] P' jp a_ w_) ?_ ?_
 ·
  refine wp_seq (qbD [(2,.v (.bool false)),(7,.p 0 0),(8,.v (.int .i16 v)),(9,.v (.bool (decide (v ≥ 0)))),(10,.p 1 0),(68,.v (.bool (decide (v ≥ 0))))] ip fun _ bo=>qab ?_)
  clear ip
  refine qax bo.env_ (b:=decide (v ≥ 0)) kz (fun gJ=>?_) (fun gJ=>?_)
  ·
   have iq:=bo.cast (t:=(if (T.at_ 2).null = true then uv 0 else uv ((qbo (T.at_ 2)).length + 1) ++ (qbo (T.at_ 2))) ++ jp) (by rw [if_pos gJ])
   clear bo
   refine wp_seq (qbD [(2,.v (.bool false)),(7,.p 0 0),(8,.v (.int .i16 v)),(9,.v (.bool (decide (v ≥ 0)))),(10,.p 1 0),(69,.v (.bool false))] iq fun _ gK=>qab ?_)
   clear iq
   refine qaq gK.env_ (b:=false) kz (rfl) ?_
   refine qi1 (d:=71) (fun jq=>[(2,.v (.bool false)),(7,.p 0 0),(8,.v (.int .i16 v)),(9,.v (.bool (decide (v ≥ 0)))),(10,.p 1 0),(13,.v (.pointer jq))]) gK (qco (T.at_ 2).null (qbo (T.at_ 2)) e26_2 _) (fun _=>(MvF.text _ _).and (MvF.is _)) Tryz.call110 fun jq kw _ _ ir jx=>?_
   clear gK
   refine qab ?_
   exact ⟨jq,_,fun w F h_=>⟨(ir _ _ h_).1,(ir _ _ h_).2⟩,jx.pk (env':=[(2,.v (.bool false)),(7,.p 0 0),(8,.v (.int .i16 v)),(9,.v (.bool (decide (v ≥ 0)))),(10,.p 1 0),(13,.v (.pointer jq))])⟩
  have iu:=bo.cast (t:=(if (T.at_ 2).null = true then be 2 (-1) else be 2 (qbo (T.at_ 2)).length ++ (qbo (T.at_ 2))) ++ jp) (by rw [if_neg (by rw [gJ]; decide)])
  clear bo
  refine wp_seq (qbD [(2,.v (.bool false)),(7,.p 0 0),(8,.v (.int .i16 v)),(9,.v (.bool (decide (v ≥ 0)))),(10,.p 1 0),(72,.v (.bool false))] iu fun _ gL=>qab ?_)
  clear iu
  refine qaq gL.env_ (b:=false) kz (rfl) ?_
  refine qi1 (d:=74) (fun jr=>[(2,.v (.bool false)),(7,.p 0 0),(8,.v (.int .i16 v)),(9,.v (.bool (decide (v ≥ 0)))),(10,.p 1 0),(13,.v (.pointer jr))]) gL (qdj (T.at_ 2).null (qbo (T.at_ 2)) e26_2 _) (fun _=>(MvF.text _ _).and (MvF.is _)) Tryz.call112 fun jr kx _ _ iv jy=>?_
  clear gL
  refine qab ?_
  exact ⟨jr,_,fun w F h_=>⟨(iv _ _ h_).1,(iv _ _ h_).2⟩,jy.pk (env':=[(2,.v (.bool false)),(7,.p 0 0),(8,.v (.int .i16 v)),(9,.v (.bool (decide (v ≥ 0)))),(10,.p 1 0),(13,.v (.pointer jr))])⟩
 rintro _ _ ⟨au,j6,iw,ix⟩
 refine qab (qc1 [⟨bv,0,[.int .i16 v,.int .i32 (IntKind.i32.wrap (T.at_ 0).N),.int .i16 (IntKind.i16.wrap (T.at_ 1).N),.pointer au,.int .i32 0,.slice none 0 0,.slice none 0 0,.map none],true⟩] 0 [(2,.v (.bool false)),(7,.p 0 0),(8,.v (.int .i16 v)),(9,.v (.bool (decide (v ≥ 0)))),(10,.p 1 0)] ix fun _ _ iy=>?_)
 clear ix
 refine qab (wp_seq ?_)
 have iz:=iy.cast gY
 clear iy
 refine qc8 (Mid:=fun a_ w_=>∃ (av:DV) (P':qcz),(∀ w F,P' w F → j6 w F ∧ (True) ∧ ((decide (v ≥ 2)) = true → av.n = IntKind.i32.wrap (T.at_ 3).N) ∧ ((decide (v ≥ 2)) = false → av.n = 0)) ∧ RS w (fun b o=>b = bv ∧ o < 8) F 288 aV [⟨bv,0,[.int .i16 v,.int .i32 (IntKind.i32.wrap (T.at_ 0).N),.int .i16 (IntKind.i16.wrap (T.at_ 1).N),.pointer au,.int .i32 av.n,.slice none 0 0,.slice none 0 0,.map none],true⟩] [(2,.v (.bool false)),(7,.p 0 0),(9,.v (.bool (decide (v ≥ 0)))),(10,.p 1 0)] P' gW a_ w_) ?_ ?_
 ·
  refine wp_seq (qbD [(2,.v (.bool false)),(7,.p 0 0),(9,.v (.bool (decide (v ≥ 0)))),(10,.p 1 0),(80,.v (.bool (decide (v ≥ 2))))] iz fun _ bp=>qab ?_)
  clear iz
  refine qax bp.env_ (b:=decide (v ≥ 2)) kz (fun bq=>?_) (fun bq=>?_)
  ·
   have iA:=bp.cast (t:=(be 4 ((IntKind.i32.wrap (T.at_ 3).N))) ++ gW) (by rw [if_pos bq])
   clear bp
   refine wp_seq (qdY (d:=81) [(2,.v (.bool false)),(7,.p 0 0),(9,.v (.bool (decide (v ≥ 0)))),(10,.p 1 0),(14,.v (.int .i32 (IntKind.i32.wrap (T.at_ 3).N)))] iA (qf3 _ _) Tryz.call95 fun _ _ iB=>?_)
   clear iA
   refine qab (qc1 [⟨bv,0,[.int .i16 v,.int .i32 (IntKind.i32.wrap (T.at_ 0).N),.int .i16 (IntKind.i16.wrap (T.at_ 1).N),.pointer au,.int .i32 (IntKind.i32.wrap (T.at_ 3).N),.slice none 0 0,.slice none 0 0,.map none],true⟩] 0 [(2,.v (.bool false)),(7,.p 0 0),(9,.v (.bool (decide (v ≥ 0)))),(10,.p 1 0)] iB fun _ _ jz=>?_)
   clear iB
   refine qab ?_
   exact ⟨dvN (IntKind.i32.wrap (T.at_ 3).N),_,fun w F h_=>⟨h_,trivial,⟨fun _=>rfl,(fun e_=>by rw [bq] at e_; cases e_)⟩⟩,jz.pk (env':=[(2,.v (.bool false)),(7,.p 0 0),(9,.v (.bool (decide (v ≥ 0)))),(10,.p 1 0)])⟩
  have iC:=bp.cast (t:=[] ++ gW) (by rw [if_neg (by rw [bq]; decide)])
  clear bp
  have jA:=iC.cast (t:=gW) rfl
  clear iC
  refine wp_skip (qab ?_)
  exact ⟨dvN (0),_,fun w F h_=>⟨h_,trivial,⟨(fun e_=>by rw [bq] at e_; cases e_),fun _=>rfl⟩⟩,jA.pk (env':=[(2,.v (.bool false)),(7,.p 0 0),(9,.v (.bool (decide (v ≥ 0)))),(10,.p 1 0)])⟩
 rintro _ _ ⟨av,jY,bT,iD⟩
 refine qab (wp_seq (wp_seq (qbD [(2,.v (.bool false)),(7,.p 0 0),(9,.v (.bool (decide (v ≥ 0)))),(10,.p 1 0),(15,.v (.slice none 0 0))] iD fun _ iE=>?_)))
 clear iD
 refine qab (wp_seq (qbD [(2,.v (.bool false)),(7,.p 0 0),(9,.v (.bool (decide (v ≥ 0)))),(10,.p 1 0),(16,.v (.slice none 0 0))] iE fun _ iF=>?_))
 clear iE
 refine qab (wp_seq (qbD [(2,.v (.bool false)),(7,.p 0 0),(9,.v (.bool (decide (v ≥ 0)))),(10,.p 1 0),(16,.v (.slice none 0 0))] iF fun _ iG=>?_))
 clear iF
 refine qab (wp_seq ?_)
 have iH:=iG.cast gX
 clear iG
 have iI:=iH.cast (t:=(if (decide (v ≥ 0)) = true then (uv ((lst (T.at_ 4)).length + 1)) else (be 4 (lst (T.at_ 4)).length)) ++ (((lst (T.at_ 4)).flatMap (qaV v)) ++ cu)) (by rw [List.append_assoc])
 clear iH
 refine qgS (d1:=92) (d2:=93) [(2,.v (.bool false)),(7,.p 0 0),(9,.v (.bool (decide (v ≥ 0)))),(10,.p 1 0),(16,.v (.slice none 0 0)),(91,.v (.bool (decide (v ≥ 0))))] [(2,.v (.bool false)),(7,.p 0 0),(9,.v (.bool (decide (v ≥ 0)))),(10,.p 1 0),(16,.v (.slice none 0 0)),(17,.v (.int .i32 (((lst (T.at_ 4)).length:Nat):Int)))] iI (qc3 ((lst (T.at_ 4)).length) e26_4 _ (flat_ge' (qb8 v) _)) Tryz.call90 (qf4 ((lst (T.at_ 4)).length) e26_4 _ (flat_ge' (qb8 v) _)) Tryz.call91 fun _ _ iJ=>?_
 clear iI
 refine qab (wp_seq (wp_seq (qlG (d:=94) [(2,.v (.bool false)),(7,.p 0 0),(9,.v (.bool (decide (v ≥ 0)))),(10,.p 1 0),(16,.v (.slice none 0 0)),(17,.v (.int .i32 (((lst (T.at_ 4)).length:Nat):Int))),(95,.v (.bool false))] iJ (pOk _) Tryz.call92 fun _ _ gM=>?_)))
 clear iJ
 refine qab (qaq gM.env_ (b:=false) kz (rfl) ?_)
 refine wp_skip (qab (wp_seq (qh2 (t:=108) (e:=118) (size:=18) (bytes:=48) (d:=98) (A0:=none) (m:=0) (cp:=0) [(2,.v (.bool false)),(7,.p 0 0),(9,.v (.bool (decide (v ≥ 0)))),(10,.p 1 0),(17,.v (.int .i32 (((lst (T.at_ 4)).length:Nat):Int))),(97,.v (.slice none 0 0))] [(2,.v (.bool false)),(7,.p 0 0),(9,.v (.bool (decide (v ≥ 0)))),(10,.p 1 0),(16,.v (.slice none 0 0)),(17,.v (.int .i32 (((lst (T.at_ 4)).length:Nat):Int)))] 1 gM fun _ iK=>?_)))
 clear gM
 refine qab (qgT (Mid:=fun a_ w_=>∃ (am:DV) (P':qcz),(∀ w F,P' w F → jY w F ∧ (Slots w F 18 am.A am.c am.l (fun i=>[qad (((am.f i).f 0).o.getD 0 0),qad (((am.f i).f 0).o.getD 1 0),qad (((am.f i).f 0).o.getD 2 0),qad (((am.f i).f 0).o.getD 3 0),qad (((am.f i).f 0).o.getD 4 0),qad (((am.f i).f 0).o.getD 5 0),qad (((am.f i).f 0).o.getD 6 0),qad (((am.f i).f 0).o.getD 7 0),qad (((am.f i).f 0).o.getD 8 0),qad (((am.f i).f 0).o.getD 9 0),qad (((am.f i).f 0).o.getD 10 0),qad (((am.f i).f 0).o.getD 11 0),qad (((am.f i).f 0).o.getD 12 0),qad (((am.f i).f 0).o.getD 13 0),qad (((am.f i).f 0).o.getD 14 0),qad (((am.f i).f 0).o.getD 15 0),.slice (((am.f i).f 1).A) (((am.f i).f 1).l) (((am.f i).f 1).c),.map ((am.f i).m)]) ∧ am.l ≤ 1000000 ∧ ∀ i,i < am.l → qa2 w F (am.f i)) ∧ (am.l = (lst (T.at_ 4)).length ∧ ∀ i,i < am.l → qbf v (am.f i) ((lst (T.at_ 4)).getD i .zero))) ∧ RS w (fun b o=>b = bv ∧ o < 8) F 288 aV [⟨bv,0,[.int .i16 v,.int .i32 (IntKind.i32.wrap (T.at_ 0).N),.int .i16 (IntKind.i16.wrap (T.at_ 1).N),.pointer au,.int .i32 av.n,.slice none 0 0,.slice none 0 0,.map none],true⟩] [(2,.v (.bool false)),(7,.p 0 0),(9,.v (.bool (decide (v ≥ 0)))),(10,.p 1 0),(16,.v (.slice am.A am.l am.c))] P' cu a_ w_) ?_ ?_)
 ·
  refine wp_seq (qbD [(2,.v (.bool false)),(7,.p 0 0),(9,.v (.bool (decide (v ≥ 0)))),(10,.p 1 0),(16,.v (.slice none 0 0)),(17,.v (.int .i32 (((lst (T.at_ 4)).length:Nat):Int))),(100,.v (.bool (decide ((((lst (T.at_ 4)).length:Nat):Int) > 0))))] iK fun _ aE=>qab ?_)
  clear iK
  refine qax aE.env_ (b:=decide ((((lst (T.at_ 4)).length:Nat):Int) > 0)) kz (fun bd=>?_) (fun bd=>?_)
  ·
   have hn_g105:0 < (lst (T.at_ 4)).length:=by have h_:=zD bd; omega
   refine qau [0,1,2,3] kz ?_
   refine qcR [0,1] [2,3] [(2,.v (.bool false)),(7,.p 0 0),(9,.v (.bool (decide (v ≥ 0)))),(10,.p 1 0),(17,.v (.int .i32 (((lst (T.at_ 4)).length:Nat):Int))),(101,.v (.slice none 0 0)),(102,.v (.int .i32 (((lst (T.at_ 4)).length:Nat):Int)))] aE fun _ cw=>?_
   clear aE
   refine qan (qfo (A0:=none) (d:=103) (t:=108) (tn:=21) (e:=118) (size:=18) (bytes:=48) (k:=.i32) (kn:=.i32) (q:=(((lst (T.at_ 4)).length:Nat):Int)) (j:=(lst (T.at_ 4)).length) (.agg #[.int .u8 0,.int .u8 0,.int .u8 0,.int .u8 0,.int .u8 0,.int .u8 0,.int .u8 0,.int .u8 0,.int .u8 0,.int .u8 0,.int .u8 0,.int .u8 0,.int .u8 0,.int .u8 0,.int .u8 0,.int .u8 0,.slice none 0 0,.map none]) cw (fun ab ae _ _ hg_g105 hcap_g105 cz=>?_) rfl hn_g105 (by have:=e26_4; omega))
   clear cw
   refine qcR [3] [] [(2,.v (.bool false)),(7,.p 0 0),(9,.v (.bool (decide (v ≥ 0)))),(10,.p 1 0),(16,.v (.slice (some ⟨ab,0,none⟩) ((lst (T.at_ 4)).length) ae)),(17,.v (.int .i32 (((lst (T.at_ 4)).length:Nat):Int)))] cz fun _ cA=>qag ?_
   clear cz
   refine qab (wp_seq (qbD [(2,.v (.bool false)),(7,.p 0 0),(9,.v (.bool (decide (v ≥ 0)))),(10,.p 1 0),(16,.v (.slice (some ⟨ab,0,none⟩) ((lst (T.at_ 4)).length) ae)),(17,.v (.int .i32 (((lst (T.at_ 4)).length:Nat):Int))),(18,.v (.int .i32 0))] cA fun _ bt=>?_))
   clear cA
   refine qab (wp_block ?_)
   have bu:=bt.mv
   have iL:=(bt.cast (t:=(lst (T.at_ 4)).flatMap (qaV v) ++ cu) rfl).pk (env':=[(2,.v (.bool false)),(7,.p 0 0),(9,.v (.bool (decide (v ≥ 0)))),(10,.p 1 0),(16,.v (.slice (some ⟨ab,0,none⟩) ((lst (T.at_ 4)).length) ae)),(17,.v (.int .i32 (((lst (T.at_ 4)).length:Nat):Int))),(18,.v (.int .i32 ((0:Nat):Int)))])
   clear bt
   refine qh1 (tb:=[⟨bv,0,[.int .i16 v,.int .i32 (IntKind.i32.wrap (T.at_ 0).N),.int .i16 (IntKind.i16.wrap (T.at_ 1).N),.pointer au,.int .i32 av.n,.slice none 0 0,.slice none 0 0,.map none],true⟩]) (z:=.agg #[.int .u8 0,.int .u8 0,.int .u8 0,.int .u8 0,.int .u8 0,.int .u8 0,.int .u8 0,.int .u8 0,.int .u8 0,.int .u8 0,.int .u8 0,.int .u8 0,.int .u8 0,.int .u8 0,.int .u8 0,.int .u8 0,.slice none 0 0,.map none]) (cl:=qcc) (ok:=qa2) (rel:=(qbf v)) (L:=lst (T.at_ 4)) (size:=18) (qaV v) cu (fun k=>[(2,.v (.bool false)),(7,.p 0 0),(9,.v (.bool (decide (v ≥ 0)))),(10,.p 1 0),(16,.v (.slice (some ⟨ab,0,none⟩) ((lst (T.at_ 4)).length) ae)),(17,.v (.int .i32 (((lst (T.at_ 4)).length:Nat):Int))),(18,.v (.int .i32 ((k:Nat):Int)))]) iL qa7 (fun ac aa _ _ bw iM cB=>?_) (fun _ _ cC=>?_)
   ·
    obtain ⟨iN,cD,cE⟩:∃ P',(∀ w F,P' w F → (jY w F ∧ qf1 ab 18 qcc qa2 (qbf v) (lst (T.at_ 4)) ac w F)) ∧ RS w (fun b o=>b = bv ∧ o < 8) F 288 aV [⟨bv,0,[.int .i16 v,.int .i32 (IntKind.i32.wrap (T.at_ 0).N),.int .i16 (IntKind.i16.wrap (T.at_ 1).N),.pointer au,.int .i32 av.n,.slice none 0 0,.slice none 0 0,.map none],true⟩,qbw ab 18 (.agg #[.int .u8 0,.int .u8 0,.int .u8 0,.int .u8 0,.int .u8 0,.int .u8 0,.int .u8 0,.int .u8 0,.int .u8 0,.int .u8 0,.int .u8 0,.int .u8 0,.int .u8 0,.int .u8 0,.int .u8 0,.int .u8 0,.slice none 0 0,.map none]) ((lst (T.at_ 4)).length) ac] [(2,.v (.bool false)),(7,.p 0 0),(9,.v (.bool (decide (v ≥ 0)))),(10,.p 1 0),(16,.v (.slice (some ⟨ab,0,none⟩) ((lst (T.at_ 4)).length) ae)),(17,.v (.int .i32 (((lst (T.at_ 4)).length:Nat):Int))),(18,.v (.int .i32 ((ac:Nat):Int)))] P' ((qaV v) aa ++ (((lst (T.at_ 4)).drop (ac + 1)).flatMap (qaV v) ++ cu)) _ _:=⟨_,fun _ _ h=>h,cB⟩
    clear cB
    obtain ⟨bx,cG⟩:∃ R,R = ((lst (T.at_ 4)).drop (ac + 1)).flatMap (qaV v) ++ cu:=⟨_,rfl⟩
    have iO:=(e26_4e aa (List.mem_of_getElem? bw))
    have e124r:=(qfl (qd9 e26r 4) aa (List.mem_of_getElem? bw))
    unfold qbz at iO
    obtain ⟨e124_0,⟨e124_1,e124_1e⟩,e124_U,_⟩:=iO
    obtain ⟨aF,cH⟩:∃ R,R = (if (decide (v ≥ 0)) = true then (uv aa.U.length) ++ (qck aa.U) else []) ++ bx:=⟨_,rfl⟩
    obtain ⟨jB,cI⟩:∃ R,R = ((if (decide (v ≥ 0)) = true then (uv ((lst (aa.at_ 1)).length + 1)) else (be 4 (lst (aa.at_ 1)).length)) ++ ((lst (aa.at_ 1)).flatMap (qaI v))) ++ aF:=⟨_,rfl⟩
    obtain ⟨jC,cJ⟩:∃ R,R = (qah (aa.at_ 0).S) ++ jB:=⟨_,rfl⟩
    have cK:=cE.cast (t:=jC) (by rw [cJ,cI,cH,← cG]; unfold qaV; simp only [List.append_assoc])
    clear cE
    refine wp_seq (wp_seq (qbD [(2,.v (.bool false)),(7,.p 0 0),(9,.v (.bool (decide (v ≥ 0)))),(10,.p 1 0),(16,.v (.slice (some ⟨ab,0,none⟩) ((lst (T.at_ 4)).length) ae)),(17,.v (.int .i32 (((lst (T.at_ 4)).length:Nat):Int))),(18,.v (.int .i32 ((ac:Nat):Int))),(106,.v (.bool (decide (((ac:Nat):Int) < (((lst (T.at_ 4)).length:Nat):Int)))))] cK fun _ bz=>qab ?_))
    clear cK
    refine qa9 bz.env_ (b:=decide (((ac:Nat):Int) < (((lst (T.at_ 4)).length:Nat):Int))) kz (decide_eq_true (by omega)) ?_
    refine wp_skip (qab (wp_seq (wp_block (wp_seq (qh3 (t:=108) (e:=118) (size:=18) (bytes:=48) (d:=111) (tb:=[⟨bv,0,[.int .i16 v,.int .i32 (IntKind.i32.wrap (T.at_ 0).N),.int .i16 (IntKind.i16.wrap (T.at_ 1).N),.pointer au,.int .i32 av.n,.slice none 0 0,.slice none 0 0,.map none],true⟩]) (z:=.agg #[.int .u8 0,.int .u8 0,.int .u8 0,.int .u8 0,.int .u8 0,.int .u8 0,.int .u8 0,.int .u8 0,.int .u8 0,.int .u8 0,.int .u8 0,.int .u8 0,.int .u8 0,.int .u8 0,.int .u8 0,.int .u8 0,.slice none 0 0,.map none]) [(2,.v (.bool false)),(7,.p 0 0),(9,.v (.bool (decide (v ≥ 0)))),(10,.p 1 0),(16,.v (.slice (some ⟨ab,0,none⟩) ((lst (T.at_ 4)).length) ae)),(17,.v (.int .i32 (((lst (T.at_ 4)).length:Nat):Int))),(18,.v (.int .i32 ((ac:Nat):Int))),(109,.v (.slice (some ⟨ab,0,none⟩) ((lst (T.at_ 4)).length) ae)),(110,.v (.int .i32 ((ac:Nat):Int)))] [(2,.v (.bool false)),(7,.p 0 0),(9,.v (.bool (decide (v ≥ 0)))),(10,.p 1 0),(16,.v (.slice (some ⟨ab,0,none⟩) ((lst (T.at_ 4)).length) ae)),(17,.v (.int .i32 (((lst (T.at_ 4)).length:Nat):Int))),(18,.v (.int .i32 ((ac:Nat):Int))),(19,.p 3 0)] 2 bz iM rfl kz fun _ cL=>?_)))))
    clear bz
    have cM:=cL.tbEq (tb':=[⟨bv,0,[.int .i16 v,.int .i32 (IntKind.i32.wrap (T.at_ 0).N),.int .i16 (IntKind.i16.wrap (T.at_ 1).N),.pointer au,.int .i32 av.n,.slice none 0 0,.slice none 0 0,.map none],true⟩,qbw ab 18 (.agg #[.int .u8 0,.int .u8 0,.int .u8 0,.int .u8 0,.int .u8 0,.int .u8 0,.int .u8 0,.int .u8 0,.int .u8 0,.int .u8 0,.int .u8 0,.int .u8 0,.int .u8 0,.int .u8 0,.int .u8 0,.int .u8 0,.slice none 0 0,.map none]) ((lst (T.at_ 4)).length) (ac + 1),⟨ab,ac * 18,z28,true⟩]) rfl
    clear cL
    refine qab (wp_seq (qau [0,1] kz ?_))
    refine qcR [0] [1] [(2,.v (.bool false)),(7,.p 0 0),(9,.v (.bool (decide (v ≥ 0)))),(10,.p 1 0),(16,.v (.slice (some ⟨ab,0,none⟩) ((lst (T.at_ 4)).length) ae)),(17,.v (.int .i32 (((lst (T.at_ 4)).length:Nat):Int))),(18,.v (.int .i32 ((ac:Nat):Int))),(19,.p 3 0),(112,.p 3 0)] cM fun _ cN=>?_
    clear cM
    refine qan (qka (d:=113) (vs:=[.pointer (some ⟨ab,ac * 18,none⟩)]) cN (fun _=>qmb _ _ _) Tryz.call113 fun _ cO=>?_)
    clear cN
    refine qag ?_
    have cP:=cO.pk (env':=[(2,.v (.bool false)),(7,.p 0 0),(9,.v (.bool (decide (v ≥ 0)))),(10,.p 1 0),(16,.v (.slice (some ⟨ab,0,none⟩) ((lst (T.at_ 4)).length) ae)),(17,.v (.int .i32 (((lst (T.at_ 4)).length:Nat):Int))),(18,.v (.int .i32 ((ac:Nat):Int))),(19,.p 3 0)])
    clear cO
    refine qab (wp_seq (qbD [(2,.v (.bool false)),(7,.p 0 0),(9,.v (.bool (decide (v ≥ 0)))),(10,.p 1 0),(16,.v (.slice (some ⟨ab,0,none⟩) ((lst (T.at_ 4)).length) ae)),(17,.v (.int .i32 (((lst (T.at_ 4)).length:Nat):Int))),(18,.v (.int .i32 ((ac:Nat):Int))),(20,.p 3 0)] cP fun _ cQ=>?_))
    clear cP
    refine qab (wp_seq (wp_seq (qau [0,1,2] kz ?_)))
    have cR:=cQ.cast cJ
    clear cQ
    refine qan (qiq (d:=115) cR (qmw (aa.at_ 0).S _) Tryz.call114 fun _ _ cS=>?_)
    clear cR
    refine qan (qkH (d:=21) z62 cS fun gN _ _ hb_b142 cT=>?_)
    clear cS
    have cU:=(cT.tbEq (tb':=[⟨bv,0,[.int .i16 v,.int .i32 (IntKind.i32.wrap (T.at_ 0).N),.int .i16 (IntKind.i16.wrap (T.at_ 1).N),.pointer au,.int .i32 av.n,.slice none 0 0,.slice none 0 0,.map none],true⟩,qbw ab 18 (.agg #[.int .u8 0,.int .u8 0,.int .u8 0,.int .u8 0,.int .u8 0,.int .u8 0,.int .u8 0,.int .u8 0,.int .u8 0,.int .u8 0,.int .u8 0,.int .u8 0,.int .u8 0,.int .u8 0,.int .u8 0,.int .u8 0,.slice none 0 0,.map none]) ((lst (T.at_ 4)).length) (ac + 1),⟨ab,ac * 18,z28,true⟩,⟨gN,0,z62,true⟩]) rfl).pk (env':=[(2,.v (.bool false)),(7,.p 0 0),(9,.v (.bool (decide (v ≥ 0)))),(10,.p 1 0),(16,.v (.slice (some ⟨ab,0,none⟩) ((lst (T.at_ 4)).length) ae)),(17,.v (.int .i32 (((lst (T.at_ 4)).length:Nat):Int))),(18,.v (.int .i32 ((ac:Nat):Int))),(20,.p 3 0),(115,.v (.agg #[qad ((qah (aa.at_ 0).S).getD 0 0),qad ((qah (aa.at_ 0).S).getD 1 0),qad ((qah (aa.at_ 0).S).getD 2 0),qad ((qah (aa.at_ 0).S).getD 3 0),qad ((qah (aa.at_ 0).S).getD 4 0),qad ((qah (aa.at_ 0).S).getD 5 0),qad ((qah (aa.at_ 0).S).getD 6 0),qad ((qah (aa.at_ 0).S).getD 7 0),qad ((qah (aa.at_ 0).S).getD 8 0),qad ((qah (aa.at_ 0).S).getD 9 0),qad ((qah (aa.at_ 0).S).getD 10 0),qad ((qah (aa.at_ 0).S).getD 11 0),qad ((qah (aa.at_ 0).S).getD 12 0),qad ((qah (aa.at_ 0).S).getD 13 0),qad ((qah (aa.at_ 0).S).getD 14 0),qad ((qah (aa.at_ 0).S).getD 15 0)])),(21,.p 4 0)])
    clear cT
    refine qan (qex [⟨bv,0,[.int .i16 v,.int .i32 (IntKind.i32.wrap (T.at_ 0).N),.int .i16 (IntKind.i16.wrap (T.at_ 1).N),.pointer au,.int .i32 av.n,.slice none 0 0,.slice none 0 0,.map none],true⟩,qbw ab 18 (.agg #[.int .u8 0,.int .u8 0,.int .u8 0,.int .u8 0,.int .u8 0,.int .u8 0,.int .u8 0,.int .u8 0,.int .u8 0,.int .u8 0,.int .u8 0,.int .u8 0,.int .u8 0,.int .u8 0,.int .u8 0,.int .u8 0,.slice none 0 0,.map none]) ((lst (T.at_ 4)).length) (ac + 1),⟨ab,ac * 18,z28,true⟩,⟨gN,0,[qad ((qah (aa.at_ 0).S).getD 0 0),qad ((qah (aa.at_ 0).S).getD 1 0),qad ((qah (aa.at_ 0).S).getD 2 0),qad ((qah (aa.at_ 0).S).getD 3 0),qad ((qah (aa.at_ 0).S).getD 4 0),qad ((qah (aa.at_ 0).S).getD 5 0),qad ((qah (aa.at_ 0).S).getD 6 0),qad ((qah (aa.at_ 0).S).getD 7 0),qad ((qah (aa.at_ 0).S).getD 8 0),qad ((qah (aa.at_ 0).S).getD 9 0),qad ((qah (aa.at_ 0).S).getD 10 0),qad ((qah (aa.at_ 0).S).getD 11 0),qad ((qah (aa.at_ 0).S).getD 12 0),qad ((qah (aa.at_ 0).S).getD 13 0),qad ((qah (aa.at_ 0).S).getD 14 0),qad ((qah (aa.at_ 0).S).getD 15 0)],true⟩] 3 cU fun _ cV=>?_)
    clear cU
    refine qag ?_
    have cW:=cV.pk (env':=[(2,.v (.bool false)),(7,.p 0 0),(9,.v (.bool (decide (v ≥ 0)))),(10,.p 1 0),(16,.v (.slice (some ⟨ab,0,none⟩) ((lst (T.at_ 4)).length) ae)),(17,.v (.int .i32 (((lst (T.at_ 4)).length:Nat):Int))),(18,.v (.int .i32 ((ac:Nat):Int))),(20,.p 3 0),(21,.p 4 0)])
    clear cV
    refine qab (qc1 [⟨bv,0,[.int .i16 v,.int .i32 (IntKind.i32.wrap (T.at_ 0).N),.int .i16 (IntKind.i16.wrap (T.at_ 1).N),.pointer au,.int .i32 av.n,.slice none 0 0,.slice none 0 0,.map none],true⟩,qbw ab 18 (.agg #[.int .u8 0,.int .u8 0,.int .u8 0,.int .u8 0,.int .u8 0,.int .u8 0,.int .u8 0,.int .u8 0,.int .u8 0,.int .u8 0,.int .u8 0,.int .u8 0,.int .u8 0,.int .u8 0,.int .u8 0,.int .u8 0,.slice none 0 0,.map none]) ((lst (T.at_ 4)).length) (ac + 1),⟨ab,ac * 18,[qad ((qah (aa.at_ 0).S).getD 0 0),qad ((qah (aa.at_ 0).S).getD 1 0),qad ((qah (aa.at_ 0).S).getD 2 0),qad ((qah (aa.at_ 0).S).getD 3 0),qad ((qah (aa.at_ 0).S).getD 4 0),qad ((qah (aa.at_ 0).S).getD 5 0),qad ((qah (aa.at_ 0).S).getD 6 0),qad ((qah (aa.at_ 0).S).getD 7 0),qad ((qah (aa.at_ 0).S).getD 8 0),qad ((qah (aa.at_ 0).S).getD 9 0),qad ((qah (aa.at_ 0).S).getD 10 0),qad ((qah (aa.at_ 0).S).getD 11 0),qad ((qah (aa.at_ 0).S).getD 12 0),qad ((qah (aa.at_ 0).S).getD 13 0),qad ((qah (aa.at_ 0).S).getD 14 0),qad ((qah (aa.at_ 0).S).getD 15 0),.slice none 0 0,.map none],true⟩,⟨gN,0,[qad ((qah (aa.at_ 0).S).getD 0 0),qad ((qah (aa.at_ 0).S).getD 1 0),qad ((qah (aa.at_ 0).S).getD 2 0),qad ((qah (aa.at_ 0).S).getD 3 0),qad ((qah (aa.at_ 0).S).getD 4 0),qad ((qah (aa.at_ 0).S).getD 5 0),qad ((qah (aa.at_ 0).S).getD 6 0),qad ((qah (aa.at_ 0).S).getD 7 0),qad ((qah (aa.at_ 0).S).getD 8 0),qad ((qah (aa.at_ 0).S).getD 9 0),qad ((qah (aa.at_ 0).S).getD 10 0),qad ((qah (aa.at_ 0).S).getD 11 0),qad ((qah (aa.at_ 0).S).getD 12 0),qad ((qah (aa.at_ 0).S).getD 13 0),qad ((qah (aa.at_ 0).S).getD 14 0),qad ((qah (aa.at_ 0).S).getD 15 0)],true⟩] 2 [(2,.v (.bool false)),(7,.p 0 0),(9,.v (.bool (decide (v ≥ 0)))),(10,.p 1 0),(16,.v (.slice (some ⟨ab,0,none⟩) ((lst (T.at_ 4)).length) ae)),(17,.v (.int .i32 (((lst (T.at_ 4)).length:Nat):Int))),(18,.v (.int .i32 ((ac:Nat):Int))),(20,.p 3 0)] cW fun _ _ cX=>?_)
    clear cW
    have cY:=RS.dropT (tb:=[⟨bv,0,[.int .i16 v,.int .i32 (IntKind.i32.wrap (T.at_ 0).N),.int .i16 (IntKind.i16.wrap (T.at_ 1).N),.pointer au,.int .i32 av.n,.slice none 0 0,.slice none 0 0,.map none],true⟩,qbw ab 18 (.agg #[.int .u8 0,.int .u8 0,.int .u8 0,.int .u8 0,.int .u8 0,.int .u8 0,.int .u8 0,.int .u8 0,.int .u8 0,.int .u8 0,.int .u8 0,.int .u8 0,.int .u8 0,.int .u8 0,.int .u8 0,.int .u8 0,.slice none 0 0,.map none]) ((lst (T.at_ 4)).length) (ac + 1),⟨ab,ac * 18,[qad ((qah (aa.at_ 0).S).getD 0 0),qad ((qah (aa.at_ 0).S).getD 1 0),qad ((qah (aa.at_ 0).S).getD 2 0),qad ((qah (aa.at_ 0).S).getD 3 0),qad ((qah (aa.at_ 0).S).getD 4 0),qad ((qah (aa.at_ 0).S).getD 5 0),qad ((qah (aa.at_ 0).S).getD 6 0),qad ((qah (aa.at_ 0).S).getD 7 0),qad ((qah (aa.at_ 0).S).getD 8 0),qad ((qah (aa.at_ 0).S).getD 9 0),qad ((qah (aa.at_ 0).S).getD 10 0),qad ((qah (aa.at_ 0).S).getD 11 0),qad ((qah (aa.at_ 0).S).getD 12 0),qad ((qah (aa.at_ 0).S).getD 13 0),qad ((qah (aa.at_ 0).S).getD 14 0),qad ((qah (aa.at_ 0).S).getD 15 0),.slice none 0 0,.map none],true⟩]) cX hb_b142 kz
    clear cX
    refine qab (wp_seq (wp_seq (qbD [(2,.v (.bool false)),(7,.p 0 0),(9,.v (.bool (decide (v ≥ 0)))),(10,.p 1 0),(16,.v (.slice (some ⟨ab,0,none⟩) ((lst (T.at_ 4)).length) ae)),(17,.v (.int .i32 (((lst (T.at_ 4)).length:Nat):Int))),(18,.v (.int .i32 ((ac:Nat):Int))),(20,.p 3 0),(22,.v (.slice none 0 0))] cY fun _ cZ=>?_)))
    clear cY
    refine qab (wp_seq (qbD [(2,.v (.bool false)),(7,.p 0 0),(9,.v (.bool (decide (v ≥ 0)))),(10,.p 1 0),(16,.v (.slice (some ⟨ab,0,none⟩) ((lst (T.at_ 4)).length) ae)),(17,.v (.int .i32 (((lst (T.at_ 4)).length:Nat):Int))),(18,.v (.int .i32 ((ac:Nat):Int))),(20,.p 3 0),(23,.v (.slice none 0 0))] cZ fun _ c5=>?_))
    clear cZ
    refine qab (wp_seq (qbD [(2,.v (.bool false)),(7,.p 0 0),(9,.v (.bool (decide (v ≥ 0)))),(10,.p 1 0),(16,.v (.slice (some ⟨ab,0,none⟩) ((lst (T.at_ 4)).length) ae)),(17,.v (.int .i32 (((lst (T.at_ 4)).length:Nat):Int))),(18,.v (.int .i32 ((ac:Nat):Int))),(20,.p 3 0),(23,.v (.slice none 0 0))] c5 fun _ c6=>?_))
    clear c5
    refine qab (wp_seq ?_)
    have da:=c6.cast cI
    clear c6
    have db:=da.cast (t:=(if (decide (v ≥ 0)) = true then (uv ((lst (aa.at_ 1)).length + 1)) else (be 4 (lst (aa.at_ 1)).length)) ++ (((lst (aa.at_ 1)).flatMap (qaI v)) ++ aF)) (by rw [List.append_assoc])
    clear da
    refine qgS (d1:=126) (d2:=127) [(2,.v (.bool false)),(7,.p 0 0),(9,.v (.bool (decide (v ≥ 0)))),(10,.p 1 0),(16,.v (.slice (some ⟨ab,0,none⟩) ((lst (T.at_ 4)).length) ae)),(17,.v (.int .i32 (((lst (T.at_ 4)).length:Nat):Int))),(18,.v (.int .i32 ((ac:Nat):Int))),(20,.p 3 0),(23,.v (.slice none 0 0)),(125,.v (.bool (decide (v ≥ 0))))] [(2,.v (.bool false)),(7,.p 0 0),(9,.v (.bool (decide (v ≥ 0)))),(10,.p 1 0),(16,.v (.slice (some ⟨ab,0,none⟩) ((lst (T.at_ 4)).length) ae)),(17,.v (.int .i32 (((lst (T.at_ 4)).length:Nat):Int))),(18,.v (.int .i32 ((ac:Nat):Int))),(20,.p 3 0),(23,.v (.slice none 0 0)),(24,.v (.int .i32 (((lst (aa.at_ 1)).length:Nat):Int)))] db (qc3 ((lst (aa.at_ 1)).length) e124_1 _ (flat_ge' (qbJ v) _)) Tryz.call90 (qf4 ((lst (aa.at_ 1)).length) e124_1 _ (flat_ge' (qbJ v) _)) Tryz.call91 fun _ _ dc=>?_
    clear db
    refine qab (wp_seq (wp_seq (qlG (d:=128) [(2,.v (.bool false)),(7,.p 0 0),(9,.v (.bool (decide (v ≥ 0)))),(10,.p 1 0),(16,.v (.slice (some ⟨ab,0,none⟩) ((lst (T.at_ 4)).length) ae)),(17,.v (.int .i32 (((lst (T.at_ 4)).length:Nat):Int))),(18,.v (.int .i32 ((ac:Nat):Int))),(20,.p 3 0),(23,.v (.slice none 0 0)),(24,.v (.int .i32 (((lst (aa.at_ 1)).length:Nat):Int))),(129,.v (.bool false))] dc (pOk _) Tryz.call92 fun _ _ bA=>?_)))
    clear dc
    refine qab (qaq bA.env_ (b:=false) kz (rfl) ?_)
    refine wp_skip (qab (wp_seq (qh2 (t:=116) (e:=168) (size:=7) (bytes:=40) (d:=132) (A0:=none) (m:=0) (cp:=0) [(2,.v (.bool false)),(7,.p 0 0),(9,.v (.bool (decide (v ≥ 0)))),(10,.p 1 0),(16,.v (.slice (some ⟨ab,0,none⟩) ((lst (T.at_ 4)).length) ae)),(17,.v (.int .i32 (((lst (T.at_ 4)).length:Nat):Int))),(18,.v (.int .i32 ((ac:Nat):Int))),(20,.p 3 0),(24,.v (.int .i32 (((lst (aa.at_ 1)).length:Nat):Int))),(131,.v (.slice none 0 0))] [(2,.v (.bool false)),(7,.p 0 0),(9,.v (.bool (decide (v ≥ 0)))),(10,.p 1 0),(16,.v (.slice (some ⟨ab,0,none⟩) ((lst (T.at_ 4)).length) ae)),(17,.v (.int .i32 (((lst (T.at_ 4)).length:Nat):Int))),(18,.v (.int .i32 ((ac:Nat):Int))),(20,.p 3 0),(23,.v (.slice none 0 0)),(24,.v (.int .i32 (((lst (aa.at_ 1)).length:Nat):Int)))] 1 bA fun _ de=>?_)))
    clear bA
    refine qab (qgT (Mid:=fun a_ w_=>∃ (ap:DV) (P':qcz),(∀ w F,P' w F → iN w F ∧ (Slots w F 7 ap.A ap.c ap.l (fun i=>[.int .i32 (((ap.f i).f 0).n),.int .i16 (((ap.f i).f 1).n),.pointer (((ap.f i).f 2).A),.int .i32 ((((ap.f i).f 3).f 0).n),.int .i32 ((((ap.f i).f 3).f 1).n),.map (((ap.f i).f 3).m),.map ((ap.f i).m)]) ∧ ap.l ≤ 1000000 ∧ ∀ i,i < ap.l → qaO w F (ap.f i)) ∧ (ap.l = (lst (aa.at_ 1)).length ∧ ∀ i,i < ap.l → qa1 v (ap.f i) ((lst (aa.at_ 1)).getD i .zero))) ∧ RS w (fun b o=>b = bv ∧ o < 8) F 288 aV [⟨bv,0,[.int .i16 v,.int .i32 (IntKind.i32.wrap (T.at_ 0).N),.int .i16 (IntKind.i16.wrap (T.at_ 1).N),.pointer au,.int .i32 av.n,.slice none 0 0,.slice none 0 0,.map none],true⟩,qbw ab 18 (.agg #[.int .u8 0,.int .u8 0,.int .u8 0,.int .u8 0,.int .u8 0,.int .u8 0,.int .u8 0,.int .u8 0,.int .u8 0,.int .u8 0,.int .u8 0,.int .u8 0,.int .u8 0,.int .u8 0,.int .u8 0,.int .u8 0,.slice none 0 0,.map none]) ((lst (T.at_ 4)).length) (ac + 1),⟨ab,ac * 18,[qad ((qah (aa.at_ 0).S).getD 0 0),qad ((qah (aa.at_ 0).S).getD 1 0),qad ((qah (aa.at_ 0).S).getD 2 0),qad ((qah (aa.at_ 0).S).getD 3 0),qad ((qah (aa.at_ 0).S).getD 4 0),qad ((qah (aa.at_ 0).S).getD 5 0),qad ((qah (aa.at_ 0).S).getD 6 0),qad ((qah (aa.at_ 0).S).getD 7 0),qad ((qah (aa.at_ 0).S).getD 8 0),qad ((qah (aa.at_ 0).S).getD 9 0),qad ((qah (aa.at_ 0).S).getD 10 0),qad ((qah (aa.at_ 0).S).getD 11 0),qad ((qah (aa.at_ 0).S).getD 12 0),qad ((qah (aa.at_ 0).S).getD 13 0),qad ((qah (aa.at_ 0).S).getD 14 0),qad ((qah (aa.at_ 0).S).getD 15 0),.slice none 0 0,.map none],true⟩] [(2,.v (.bool false)),(7,.p 0 0),(9,.v (.bool (decide (v ≥ 0)))),(10,.p 1 0),(16,.v (.slice (some ⟨ab,0,none⟩) ((lst (T.at_ 4)).length) ae)),(17,.v (.int .i32 (((lst (T.at_ 4)).length:Nat):Int))),(18,.v (.int .i32 ((ac:Nat):Int))),(20,.p 3 0),(23,.v (.slice ap.A ap.l ap.c))] P' aF a_ w_) ?_ ?_)
    ·
     refine wp_seq (qbD [(2,.v (.bool false)),(7,.p 0 0),(9,.v (.bool (decide (v ≥ 0)))),(10,.p 1 0),(16,.v (.slice (some ⟨ab,0,none⟩) ((lst (T.at_ 4)).length) ae)),(17,.v (.int .i32 (((lst (T.at_ 4)).length:Nat):Int))),(18,.v (.int .i32 ((ac:Nat):Int))),(20,.p 3 0),(23,.v (.slice none 0 0)),(24,.v (.int .i32 (((lst (aa.at_ 1)).length:Nat):Int))),(134,.v (.bool (decide ((((lst (aa.at_ 1)).length:Nat):Int) > 0))))] de fun _ aG=>qab ?_)
     clear de
     refine qax aG.env_ (b:=decide ((((lst (aa.at_ 1)).length:Nat):Int) > 0)) kz (fun bf=>?_) (fun bf=>?_)
     ·
      have hn_g165:0 < (lst (aa.at_ 1)).length:=by have h_:=zD bf; omega
      refine qau [0,1,2,3] kz ?_
      refine qcR [0,1] [2,3] [(2,.v (.bool false)),(7,.p 0 0),(9,.v (.bool (decide (v ≥ 0)))),(10,.p 1 0),(16,.v (.slice (some ⟨ab,0,none⟩) ((lst (T.at_ 4)).length) ae)),(17,.v (.int .i32 (((lst (T.at_ 4)).length:Nat):Int))),(18,.v (.int .i32 ((ac:Nat):Int))),(20,.p 3 0),(24,.v (.int .i32 (((lst (aa.at_ 1)).length:Nat):Int))),(135,.v (.slice none 0 0)),(136,.v (.int .i32 (((lst (aa.at_ 1)).length:Nat):Int)))] aG fun _ df=>?_
      clear aG
      refine qan (qfo (A0:=none) (d:=137) (t:=116) (tn:=21) (e:=168) (size:=7) (bytes:=40) (k:=.i32) (kn:=.i32) (q:=(((lst (aa.at_ 1)).length:Nat):Int)) (j:=(lst (aa.at_ 1)).length) (.agg #[.int .i32 0,.int .i16 0,.pointer none,.int .i32 0,.int .i32 0,.map none,.map none]) df (fun af al _ _ hg_g165 hcap_g165 dg=>?_) rfl hn_g165 (by have:=e124_1; omega))
      clear df
      refine qcR [3] [] [(2,.v (.bool false)),(7,.p 0 0),(9,.v (.bool (decide (v ≥ 0)))),(10,.p 1 0),(16,.v (.slice (some ⟨ab,0,none⟩) ((lst (T.at_ 4)).length) ae)),(17,.v (.int .i32 (((lst (T.at_ 4)).length:Nat):Int))),(18,.v (.int .i32 ((ac:Nat):Int))),(20,.p 3 0),(23,.v (.slice (some ⟨af,0,none⟩) ((lst (aa.at_ 1)).length) al)),(24,.v (.int .i32 (((lst (aa.at_ 1)).length:Nat):Int)))] dg fun _ dh=>qag ?_
      clear dg
      refine qab (wp_seq (qbD [(2,.v (.bool false)),(7,.p 0 0),(9,.v (.bool (decide (v ≥ 0)))),(10,.p 1 0),(16,.v (.slice (some ⟨ab,0,none⟩) ((lst (T.at_ 4)).length) ae)),(17,.v (.int .i32 (((lst (T.at_ 4)).length:Nat):Int))),(18,.v (.int .i32 ((ac:Nat):Int))),(20,.p 3 0),(23,.v (.slice (some ⟨af,0,none⟩) ((lst (aa.at_ 1)).length) al)),(24,.v (.int .i32 (((lst (aa.at_ 1)).length:Nat):Int))),(25,.v (.int .i32 0))] dh fun _ bB=>?_))
      clear dh
      refine qab (wp_block ?_)
      have bC:=bB.mv
      have iP:=(bB.cast (t:=(lst (aa.at_ 1)).flatMap (qaI v) ++ aF) rfl).pk (env':=[(2,.v (.bool false)),(7,.p 0 0),(9,.v (.bool (decide (v ≥ 0)))),(10,.p 1 0),(16,.v (.slice (some ⟨ab,0,none⟩) ((lst (T.at_ 4)).length) ae)),(17,.v (.int .i32 (((lst (T.at_ 4)).length:Nat):Int))),(18,.v (.int .i32 ((ac:Nat):Int))),(20,.p 3 0),(23,.v (.slice (some ⟨af,0,none⟩) ((lst (aa.at_ 1)).length) al)),(24,.v (.int .i32 (((lst (aa.at_ 1)).length:Nat):Int))),(25,.v (.int .i32 ((0:Nat):Int)))])
      clear bB
      refine qh1 (tb:=[⟨bv,0,[.int .i16 v,.int .i32 (IntKind.i32.wrap (T.at_ 0).N),.int .i16 (IntKind.i16.wrap (T.at_ 1).N),.pointer au,.int .i32 av.n,.slice none 0 0,.slice none 0 0,.map none],true⟩,qbw ab 18 (.agg #[.int .u8 0,.int .u8 0,.int .u8 0,.int .u8 0,.int .u8 0,.int .u8 0,.int .u8 0,.int .u8 0,.int .u8 0,.int .u8 0,.int .u8 0,.int .u8 0,.int .u8 0,.int .u8 0,.int .u8 0,.int .u8 0,.slice none 0 0,.map none]) ((lst (T.at_ 4)).length) (ac + 1),⟨ab,ac * 18,[qad ((qah (aa.at_ 0).S).getD 0 0),qad ((qah (aa.at_ 0).S).getD 1 0),qad ((qah (aa.at_ 0).S).getD 2 0),qad ((qah (aa.at_ 0).S).getD 3 0),qad ((qah (aa.at_ 0).S).getD 4 0),qad ((qah (aa.at_ 0).S).getD 5 0),qad ((qah (aa.at_ 0).S).getD 6 0),qad ((qah (aa.at_ 0).S).getD 7 0),qad ((qah (aa.at_ 0).S).getD 8 0),qad ((qah (aa.at_ 0).S).getD 9 0),qad ((qah (aa.at_ 0).S).getD 10 0),qad ((qah (aa.at_ 0).S).getD 11 0),qad ((qah (aa.at_ 0).S).getD 12 0),qad ((qah (aa.at_ 0).S).getD 13 0),qad ((qah (aa.at_ 0).S).getD 14 0),qad ((qah (aa.at_ 0).S).getD 15 0),.slice none 0 0,.map none],true⟩]) (z:=.agg #[.int .i32 0,.int .i16 0,.pointer none,.int .i32 0,.int .i32 0,.map none,.map none]) (cl:=qbO) (ok:=qaO) (rel:=(qa1 v)) (L:=lst (aa.at_ 1)) (size:=7) (qaI v) aF (fun k=>[(2,.v (.bool false)),(7,.p 0 0),(9,.v (.bool (decide (v ≥ 0)))),(10,.p 1 0),(16,.v (.slice (some ⟨ab,0,none⟩) ((lst (T.at_ 4)).length) ae)),(17,.v (.int .i32 (((lst (T.at_ 4)).length:Nat):Int))),(18,.v (.int .i32 ((ac:Nat):Int))),(20,.p 3 0),(23,.v (.slice (some ⟨af,0,none⟩) ((lst (aa.at_ 1)).length) al)),(24,.v (.int .i32 (((lst (aa.at_ 1)).length:Nat):Int))),(25,.v (.int .i32 ((k:Nat):Int)))]) iP qaX (fun ah ag _ _ bD iQ di=>?_) (fun _ _ dj=>?_)
      ·
       obtain ⟨jD,dl,dp⟩:∃ P',(∀ w F,P' w F → (iN w F ∧ qf1 af 7 qbO qaO (qa1 v) (lst (aa.at_ 1)) ah w F)) ∧ RS w (fun b o=>b = bv ∧ o < 8) F 288 aV [⟨bv,0,[.int .i16 v,.int .i32 (IntKind.i32.wrap (T.at_ 0).N),.int .i16 (IntKind.i16.wrap (T.at_ 1).N),.pointer au,.int .i32 av.n,.slice none 0 0,.slice none 0 0,.map none],true⟩,qbw ab 18 (.agg #[.int .u8 0,.int .u8 0,.int .u8 0,.int .u8 0,.int .u8 0,.int .u8 0,.int .u8 0,.int .u8 0,.int .u8 0,.int .u8 0,.int .u8 0,.int .u8 0,.int .u8 0,.int .u8 0,.int .u8 0,.int .u8 0,.slice none 0 0,.map none]) ((lst (T.at_ 4)).length) (ac + 1),⟨ab,ac * 18,[qad ((qah (aa.at_ 0).S).getD 0 0),qad ((qah (aa.at_ 0).S).getD 1 0),qad ((qah (aa.at_ 0).S).getD 2 0),qad ((qah (aa.at_ 0).S).getD 3 0),qad ((qah (aa.at_ 0).S).getD 4 0),qad ((qah (aa.at_ 0).S).getD 5 0),qad ((qah (aa.at_ 0).S).getD 6 0),qad ((qah (aa.at_ 0).S).getD 7 0),qad ((qah (aa.at_ 0).S).getD 8 0),qad ((qah (aa.at_ 0).S).getD 9 0),qad ((qah (aa.at_ 0).S).getD 10 0),qad ((qah (aa.at_ 0).S).getD 11 0),qad ((qah (aa.at_ 0).S).getD 12 0),qad ((qah (aa.at_ 0).S).getD 13 0),qad ((qah (aa.at_ 0).S).getD 14 0),qad ((qah (aa.at_ 0).S).getD 15 0),.slice none 0 0,.map none],true⟩,qbw af 7 (.agg #[.int .i32 0,.int .i16 0,.pointer none,.int .i32 0,.int .i32 0,.map none,.map none]) ((lst (aa.at_ 1)).length) ah] [(2,.v (.bool false)),(7,.p 0 0),(9,.v (.bool (decide (v ≥ 0)))),(10,.p 1 0),(16,.v (.slice (some ⟨ab,0,none⟩) ((lst (T.at_ 4)).length) ae)),(17,.v (.int .i32 (((lst (T.at_ 4)).length:Nat):Int))),(18,.v (.int .i32 ((ac:Nat):Int))),(20,.p 3 0),(23,.v (.slice (some ⟨af,0,none⟩) ((lst (aa.at_ 1)).length) al)),(24,.v (.int .i32 (((lst (aa.at_ 1)).length:Nat):Int))),(25,.v (.int .i32 ((ah:Nat):Int)))] P' ((qaI v) ag ++ (((lst (aa.at_ 1)).drop (ah + 1)).flatMap (qaI v) ++ aF)) _ _:=⟨_,fun _ _ h=>h,di⟩
       clear di
       obtain ⟨bE,dq⟩:∃ R,R = ((lst (aa.at_ 1)).drop (ah + 1)).flatMap (qaI v) ++ aF:=⟨_,rfl⟩
       have iR:=(e124_1e ag (List.mem_of_getElem? bD))
       have e184r:=(qfl (qd9 e124r 1) ag (List.mem_of_getElem? bD))
       unfold qbh at iR
       obtain ⟨e184_0,e184_1,e184_2,e184_3,e184_U,_⟩:=iR
       obtain ⟨bk,dr⟩:∃ R,R = (if (decide (v ≥ 0)) = true then (uv ag.U.length) ++ (qck ag.U) else []) ++ bE:=⟨_,rfl⟩
       obtain ⟨bU,dt⟩:∃ R,R = (qbc v (ag.at_ 3)) ++ bk:=⟨_,rfl⟩
       obtain ⟨jE,du⟩:∃ R,R = (if (decide (v ≥ 0)) = true then (if (ag.at_ 2).null = true then uv 0 else uv ((qbo (ag.at_ 2)).length + 1) ++ (qbo (ag.at_ 2))) else (if (ag.at_ 2).null = true then be 2 (-1) else be 2 (qbo (ag.at_ 2)).length ++ (qbo (ag.at_ 2)))) ++ bU:=⟨_,rfl⟩
       obtain ⟨jF,dv⟩:∃ R,R = (be 2 ((IntKind.i16.wrap (ag.at_ 1).N))) ++ jE:=⟨_,rfl⟩
       obtain ⟨jG,dw⟩:∃ R,R = (be 4 ((IntKind.i32.wrap (ag.at_ 0).N))) ++ jF:=⟨_,rfl⟩
       have dx:=dp.cast (t:=jG) (by rw [dw,dv,du,dt,dr,← dq]; unfold qaI; simp only [List.append_assoc])
       clear dp
       refine wp_seq (wp_seq (qbD [(2,.v (.bool false)),(7,.p 0 0),(9,.v (.bool (decide (v ≥ 0)))),(10,.p 1 0),(16,.v (.slice (some ⟨ab,0,none⟩) ((lst (T.at_ 4)).length) ae)),(17,.v (.int .i32 (((lst (T.at_ 4)).length:Nat):Int))),(18,.v (.int .i32 ((ac:Nat):Int))),(20,.p 3 0),(23,.v (.slice (some ⟨af,0,none⟩) ((lst (aa.at_ 1)).length) al)),(24,.v (.int .i32 (((lst (aa.at_ 1)).length:Nat):Int))),(25,.v (.int .i32 ((ah:Nat):Int))),(140,.v (.bool (decide (((ah:Nat):Int) < (((lst (aa.at_ 1)).length:Nat):Int)))))] dx fun _ bF=>qab ?_))
       clear dx
       refine qa9 bF.env_ (b:=decide (((ah:Nat):Int) < (((lst (aa.at_ 1)).length:Nat):Int))) kz (decide_eq_true (by omega)) ?_
       refine wp_skip (qab (wp_seq (wp_block (wp_seq (qh3 (t:=116) (e:=168) (size:=7) (bytes:=40) (d:=145) (tb:=[⟨bv,0,[.int .i16 v,.int .i32 (IntKind.i32.wrap (T.at_ 0).N),.int .i16 (IntKind.i16.wrap (T.at_ 1).N),.pointer au,.int .i32 av.n,.slice none 0 0,.slice none 0 0,.map none],true⟩,qbw ab 18 (.agg #[.int .u8 0,.int .u8 0,.int .u8 0,.int .u8 0,.int .u8 0,.int .u8 0,.int .u8 0,.int .u8 0,.int .u8 0,.int .u8 0,.int .u8 0,.int .u8 0,.int .u8 0,.int .u8 0,.int .u8 0,.int .u8 0,.slice none 0 0,.map none]) ((lst (T.at_ 4)).length) (ac + 1),⟨ab,ac * 18,[qad ((qah (aa.at_ 0).S).getD 0 0),qad ((qah (aa.at_ 0).S).getD 1 0),qad ((qah (aa.at_ 0).S).getD 2 0),qad ((qah (aa.at_ 0).S).getD 3 0),qad ((qah (aa.at_ 0).S).getD 4 0),qad ((qah (aa.at_ 0).S).getD 5 0),qad ((qah (aa.at_ 0).S).getD 6 0),qad ((qah (aa.at_ 0).S).getD 7 0),qad ((qah (aa.at_ 0).S).getD 8 0),qad ((qah (aa.at_ 0).S).getD 9 0),qad ((qah (aa.at_ 0).S).getD 10 0),qad ((qah (aa.at_ 0).S).getD 11 0),qad ((qah (aa.at_ 0).S).getD 12 0),qad ((qah (aa.at_ 0).S).getD 13 0),qad ((qah (aa.at_ 0).S).getD 14 0),qad ((qah (aa.at_ 0).S).getD 15 0),.slice none 0 0,.map none],true⟩]) (z:=.agg #[.int .i32 0,.int .i16 0,.pointer none,.int .i32 0,.int .i32 0,.map none,.map none]) [(2,.v (.bool false)),(7,.p 0 0),(9,.v (.bool (decide (v ≥ 0)))),(10,.p 1 0),(16,.v (.slice (some ⟨ab,0,none⟩) ((lst (T.at_ 4)).length) ae)),(17,.v (.int .i32 (((lst (T.at_ 4)).length:Nat):Int))),(18,.v (.int .i32 ((ac:Nat):Int))),(20,.p 3 0),(23,.v (.slice (some ⟨af,0,none⟩) ((lst (aa.at_ 1)).length) al)),(24,.v (.int .i32 (((lst (aa.at_ 1)).length:Nat):Int))),(25,.v (.int .i32 ((ah:Nat):Int))),(143,.v (.slice (some ⟨af,0,none⟩) ((lst (aa.at_ 1)).length) al)),(144,.v (.int .i32 ((ah:Nat):Int)))] [(2,.v (.bool false)),(7,.p 0 0),(9,.v (.bool (decide (v ≥ 0)))),(10,.p 1 0),(16,.v (.slice (some ⟨ab,0,none⟩) ((lst (T.at_ 4)).length) ae)),(17,.v (.int .i32 (((lst (T.at_ 4)).length:Nat):Int))),(18,.v (.int .i32 ((ac:Nat):Int))),(20,.p 3 0),(23,.v (.slice (some ⟨af,0,none⟩) ((lst (aa.at_ 1)).length) al)),(24,.v (.int .i32 (((lst (aa.at_ 1)).length:Nat):Int))),(25,.v (.int .i32 ((ah:Nat):Int))),(26,.p 5 0)] 2 bF iQ rfl kz fun _ dy=>?_)))))
       clear bF
       have dz:=dy.tbEq (tb':=[⟨bv,0,[.int .i16 v,.int .i32 (IntKind.i32.wrap (T.at_ 0).N),.int .i16 (IntKind.i16.wrap (T.at_ 1).N),.pointer au,.int .i32 av.n,.slice none 0 0,.slice none 0 0,.map none],true⟩,qbw ab 18 (.agg #[.int .u8 0,.int .u8 0,.int .u8 0,.int .u8 0,.int .u8 0,.int .u8 0,.int .u8 0,.int .u8 0,.int .u8 0,.int .u8 0,.int .u8 0,.int .u8 0,.int .u8 0,.int .u8 0,.int .u8 0,.int .u8 0,.slice none 0 0,.map none]) ((lst (T.at_ 4)).length) (ac + 1),⟨ab,ac * 18,[qad ((qah (aa.at_ 0).S).getD 0 0),qad ((qah (aa.at_ 0).S).getD 1 0),qad ((qah (aa.at_ 0).S).getD 2 0),qad ((qah (aa.at_ 0).S).getD 3 0),qad ((qah (aa.at_ 0).S).getD 4 0),qad ((qah (aa.at_ 0).S).getD 5 0),qad ((qah (aa.at_ 0).S).getD 6 0),qad ((qah (aa.at_ 0).S).getD 7 0),qad ((qah (aa.at_ 0).S).getD 8 0),qad ((qah (aa.at_ 0).S).getD 9 0),qad ((qah (aa.at_ 0).S).getD 10 0),qad ((qah (aa.at_ 0).S).getD 11 0),qad ((qah (aa.at_ 0).S).getD 12 0),qad ((qah (aa.at_ 0).S).getD 13 0),qad ((qah (aa.at_ 0).S).getD 14 0),qad ((qah (aa.at_ 0).S).getD 15 0),.slice none 0 0,.map none],true⟩,qbw af 7 (.agg #[.int .i32 0,.int .i16 0,.pointer none,.int .i32 0,.int .i32 0,.map none,.map none]) ((lst (aa.at_ 1)).length) (ah + 1),⟨af,ah * 7,[.int .i32 0,.int .i16 0,.pointer none,.int .i32 0,.int .i32 0,.map none,.map none],true⟩]) rfl
       clear dy
       refine qab (wp_seq (qau [0,1] kz ?_))
       refine qcR [0] [1] [(2,.v (.bool false)),(7,.p 0 0),(9,.v (.bool (decide (v ≥ 0)))),(10,.p 1 0),(16,.v (.slice (some ⟨ab,0,none⟩) ((lst (T.at_ 4)).length) ae)),(17,.v (.int .i32 (((lst (T.at_ 4)).length:Nat):Int))),(18,.v (.int .i32 ((ac:Nat):Int))),(20,.p 3 0),(23,.v (.slice (some ⟨af,0,none⟩) ((lst (aa.at_ 1)).length) al)),(24,.v (.int .i32 (((lst (aa.at_ 1)).length:Nat):Int))),(25,.v (.int .i32 ((ah:Nat):Int))),(26,.p 5 0),(146,.p 5 0)] dz fun _ dA=>?_
       clear dz
       refine qan (qj6 (d:=147) (vs:=[.pointer (some ⟨af,ah * 7,none⟩)]) dA Tryz.call115 Tryz.func115 rfl Tryz.ntmps115 (fun _ dB=>?_))
       clear dA
       have dC:=(dB.recast 0 (.v (.pointer (some ⟨af,ah * 7,none⟩))) (.p 5 0) rfl rfl (zN (n:=6) rfl)).pk (env':=[(0,.p 5 0)])
       clear dB
       refine wp_seq (qbD [(2,.p 5 3)] dC fun _ dD=>?_)
       clear dC
       refine qab (qbD [] dD fun _ dE=>?_)
       clear dD
       refine qkI (v:=.tuple #[]) dE (fun _ dF=>?_) (⟨rfl,rfl,⟨rfl,rfl,⟨rfl,rfl,⟨rfl,rfl,⟨rfl,rfl,⟨rfl,rfl,trivial⟩⟩⟩⟩⟩⟩)
       clear dE
       refine qag ?_
       have dG:=dF.pk (env':=[(2,.v (.bool false)),(7,.p 0 0),(9,.v (.bool (decide (v ≥ 0)))),(10,.p 1 0),(16,.v (.slice (some ⟨ab,0,none⟩) ((lst (T.at_ 4)).length) ae)),(17,.v (.int .i32 (((lst (T.at_ 4)).length:Nat):Int))),(18,.v (.int .i32 ((ac:Nat):Int))),(20,.p 3 0),(23,.v (.slice (some ⟨af,0,none⟩) ((lst (aa.at_ 1)).length) al)),(24,.v (.int .i32 (((lst (aa.at_ 1)).length:Nat):Int))),(25,.v (.int .i32 ((ah:Nat):Int))),(26,.p 5 0)])
       clear dF
       refine qab (wp_seq (qbD [(2,.v (.bool false)),(7,.p 0 0),(9,.v (.bool (decide (v ≥ 0)))),(10,.p 1 0),(16,.v (.slice (some ⟨ab,0,none⟩) ((lst (T.at_ 4)).length) ae)),(17,.v (.int .i32 (((lst (T.at_ 4)).length:Nat):Int))),(18,.v (.int .i32 ((ac:Nat):Int))),(20,.p 3 0),(23,.v (.slice (some ⟨af,0,none⟩) ((lst (aa.at_ 1)).length) al)),(24,.v (.int .i32 (((lst (aa.at_ 1)).length:Nat):Int))),(25,.v (.int .i32 ((ah:Nat):Int))),(27,.p 5 0)] dG fun _ dH=>?_))
       clear dG
       refine qab (wp_seq (wp_seq ?_))
       have dI:=dH.cast dw
       clear dH
       refine qdY (d:=149) [(2,.v (.bool false)),(7,.p 0 0),(9,.v (.bool (decide (v ≥ 0)))),(10,.p 1 0),(16,.v (.slice (some ⟨ab,0,none⟩) ((lst (T.at_ 4)).length) ae)),(17,.v (.int .i32 (((lst (T.at_ 4)).length:Nat):Int))),(18,.v (.int .i32 ((ac:Nat):Int))),(20,.p 3 0),(23,.v (.slice (some ⟨af,0,none⟩) ((lst (aa.at_ 1)).length) al)),(24,.v (.int .i32 (((lst (aa.at_ 1)).length:Nat):Int))),(25,.v (.int .i32 ((ah:Nat):Int))),(27,.p 5 0),(28,.v (.int .i32 (IntKind.i32.wrap (ag.at_ 0).N)))] dI (qf3 _ _) Tryz.call95 fun _ _ dJ=>?_
       clear dI
       refine qab (qc1 [⟨bv,0,[.int .i16 v,.int .i32 (IntKind.i32.wrap (T.at_ 0).N),.int .i16 (IntKind.i16.wrap (T.at_ 1).N),.pointer au,.int .i32 av.n,.slice none 0 0,.slice none 0 0,.map none],true⟩,qbw ab 18 (.agg #[.int .u8 0,.int .u8 0,.int .u8 0,.int .u8 0,.int .u8 0,.int .u8 0,.int .u8 0,.int .u8 0,.int .u8 0,.int .u8 0,.int .u8 0,.int .u8 0,.int .u8 0,.int .u8 0,.int .u8 0,.int .u8 0,.slice none 0 0,.map none]) ((lst (T.at_ 4)).length) (ac + 1),⟨ab,ac * 18,[qad ((qah (aa.at_ 0).S).getD 0 0),qad ((qah (aa.at_ 0).S).getD 1 0),qad ((qah (aa.at_ 0).S).getD 2 0),qad ((qah (aa.at_ 0).S).getD 3 0),qad ((qah (aa.at_ 0).S).getD 4 0),qad ((qah (aa.at_ 0).S).getD 5 0),qad ((qah (aa.at_ 0).S).getD 6 0),qad ((qah (aa.at_ 0).S).getD 7 0),qad ((qah (aa.at_ 0).S).getD 8 0),qad ((qah (aa.at_ 0).S).getD 9 0),qad ((qah (aa.at_ 0).S).getD 10 0),qad ((qah (aa.at_ 0).S).getD 11 0),qad ((qah (aa.at_ 0).S).getD 12 0),qad ((qah (aa.at_ 0).S).getD 13 0),qad ((qah (aa.at_ 0).S).getD 14 0),qad ((qah (aa.at_ 0).S).getD 15 0),.slice none 0 0,.map none],true⟩,qbw af 7 (.agg #[.int .i32 0,.int .i16 0,.pointer none,.int .i32 0,.int .i32 0,.map none,.map none]) ((lst (aa.at_ 1)).length) (ah + 1),⟨af,ah * 7,[.int .i32 (IntKind.i32.wrap (ag.at_ 0).N),.int .i16 0,.pointer none,.int .i32 0,.int .i32 0,.map none,.map none],true⟩] 4 [(2,.v (.bool false)),(7,.p 0 0),(9,.v (.bool (decide (v ≥ 0)))),(10,.p 1 0),(16,.v (.slice (some ⟨ab,0,none⟩) ((lst (T.at_ 4)).length) ae)),(17,.v (.int .i32 (((lst (T.at_ 4)).length:Nat):Int))),(18,.v (.int .i32 ((ac:Nat):Int))),(20,.p 3 0),(23,.v (.slice (some ⟨af,0,none⟩) ((lst (aa.at_ 1)).length) al)),(24,.v (.int .i32 (((lst (aa.at_ 1)).length:Nat):Int))),(25,.v (.int .i32 ((ah:Nat):Int))),(27,.p 5 0)] dJ fun _ _ dK=>?_)
       clear dJ
       refine qab (wp_seq (wp_seq ?_))
       have dL:=dK.cast dv
       clear dK
       refine qdY (d:=154) [(2,.v (.bool false)),(7,.p 0 0),(9,.v (.bool (decide (v ≥ 0)))),(10,.p 1 0),(16,.v (.slice (some ⟨ab,0,none⟩) ((lst (T.at_ 4)).length) ae)),(17,.v (.int .i32 (((lst (T.at_ 4)).length:Nat):Int))),(18,.v (.int .i32 ((ac:Nat):Int))),(20,.p 3 0),(23,.v (.slice (some ⟨af,0,none⟩) ((lst (aa.at_ 1)).length) al)),(24,.v (.int .i32 (((lst (aa.at_ 1)).length:Nat):Int))),(25,.v (.int .i32 ((ah:Nat):Int))),(27,.p 5 0),(29,.v (.int .i16 (IntKind.i16.wrap (ag.at_ 1).N)))] dL (qk8 _ _) Tryz.call89 fun _ _ dM=>?_
       clear dL
       refine qab (qc1 [⟨bv,0,[.int .i16 v,.int .i32 (IntKind.i32.wrap (T.at_ 0).N),.int .i16 (IntKind.i16.wrap (T.at_ 1).N),.pointer au,.int .i32 av.n,.slice none 0 0,.slice none 0 0,.map none],true⟩,qbw ab 18 (.agg #[.int .u8 0,.int .u8 0,.int .u8 0,.int .u8 0,.int .u8 0,.int .u8 0,.int .u8 0,.int .u8 0,.int .u8 0,.int .u8 0,.int .u8 0,.int .u8 0,.int .u8 0,.int .u8 0,.int .u8 0,.int .u8 0,.slice none 0 0,.map none]) ((lst (T.at_ 4)).length) (ac + 1),⟨ab,ac * 18,[qad ((qah (aa.at_ 0).S).getD 0 0),qad ((qah (aa.at_ 0).S).getD 1 0),qad ((qah (aa.at_ 0).S).getD 2 0),qad ((qah (aa.at_ 0).S).getD 3 0),qad ((qah (aa.at_ 0).S).getD 4 0),qad ((qah (aa.at_ 0).S).getD 5 0),qad ((qah (aa.at_ 0).S).getD 6 0),qad ((qah (aa.at_ 0).S).getD 7 0),qad ((qah (aa.at_ 0).S).getD 8 0),qad ((qah (aa.at_ 0).S).getD 9 0),qad ((qah (aa.at_ 0).S).getD 10 0),qad ((qah (aa.at_ 0).S).getD 11 0),qad ((qah (aa.at_ 0).S).getD 12 0),qad ((qah (aa.at_ 0).S).getD 13 0),qad ((qah (aa.at_ 0).S).getD 14 0),qad ((qah (aa.at_ 0).S).getD 15 0),.slice none 0 0,.map none],true⟩,qbw af 7 (.agg #[.int .i32 0,.int .i16 0,.pointer none,.int .i32 0,.int .i32 0,.map none,.map none]) ((lst (aa.at_ 1)).length) (ah + 1),⟨af,ah * 7,[.int .i32 (IntKind.i32.wrap (ag.at_ 0).N),.int .i16 (IntKind.i16.wrap (ag.at_ 1).N),.pointer none,.int .i32 0,.int .i32 0,.map none,.map none],true⟩] 4 [(2,.v (.bool false)),(7,.p 0 0),(9,.v (.bool (decide (v ≥ 0)))),(10,.p 1 0),(16,.v (.slice (some ⟨ab,0,none⟩) ((lst (T.at_ 4)).length) ae)),(17,.v (.int .i32 (((lst (T.at_ 4)).length:Nat):Int))),(18,.v (.int .i32 ((ac:Nat):Int))),(20,.p 3 0),(23,.v (.slice (some ⟨af,0,none⟩) ((lst (aa.at_ 1)).length) al)),(24,.v (.int .i32 (((lst (aa.at_ 1)).length:Nat):Int))),(25,.v (.int .i32 ((ah:Nat):Int))),(27,.p 5 0)] dM fun _ _ dN=>?_)
       clear dM
       refine qab (wp_seq (wp_seq (qbD [(2,.v (.bool false)),(7,.p 0 0),(9,.v (.bool (decide (v ≥ 0)))),(10,.p 1 0),(16,.v (.slice (some ⟨ab,0,none⟩) ((lst (T.at_ 4)).length) ae)),(17,.v (.int .i32 (((lst (T.at_ 4)).length:Nat):Int))),(18,.v (.int .i32 ((ac:Nat):Int))),(20,.p 3 0),(23,.v (.slice (some ⟨af,0,none⟩) ((lst (aa.at_ 1)).length) al)),(24,.v (.int .i32 (((lst (aa.at_ 1)).length:Nat):Int))),(25,.v (.int .i32 ((ah:Nat):Int))),(27,.p 5 0)] dN fun _ dO=>?_)))
       clear dN
       refine qab (wp_seq ?_)
       have dP:=dO.cast du
       clear dO
       refine qc8 (Mid:=fun a_ w_=>∃ (aC:Option Addr) (P':qcz),(∀ w F,P' w F → jD w F ∧ qi0 aC (qbo (ag.at_ 2)) w F ∧ aC.isNone = (ag.at_ 2).null) ∧ RS w (fun b o=>b = bv ∧ o < 8) F 288 aV [⟨bv,0,[.int .i16 v,.int .i32 (IntKind.i32.wrap (T.at_ 0).N),.int .i16 (IntKind.i16.wrap (T.at_ 1).N),.pointer au,.int .i32 av.n,.slice none 0 0,.slice none 0 0,.map none],true⟩,qbw ab 18 (.agg #[.int .u8 0,.int .u8 0,.int .u8 0,.int .u8 0,.int .u8 0,.int .u8 0,.int .u8 0,.int .u8 0,.int .u8 0,.int .u8 0,.int .u8 0,.int .u8 0,.int .u8 0,.int .u8 0,.int .u8 0,.int .u8 0,.slice none 0 0,.map none]) ((lst (T.at_ 4)).length) (ac + 1),⟨ab,ac * 18,[qad ((qah (aa.at_ 0).S).getD 0 0),qad ((qah (aa.at_ 0).S).getD 1 0),qad ((qah (aa.at_ 0).S).getD 2 0),qad ((qah (aa.at_ 0).S).getD 3 0),qad ((qah (aa.at_ 0).S).getD 4 0),qad ((qah (aa.at_ 0).S).getD 5 0),qad ((qah (aa.at_ 0).S).getD 6 0),qad ((qah (aa.at_ 0).S).getD 7 0),qad ((qah (aa.at_ 0).S).getD 8 0),qad ((qah (aa.at_ 0).S).getD 9 0),qad ((qah (aa.at_ 0).S).getD 10 0),qad ((qah (aa.at_ 0).S).getD 11 0),qad ((qah (aa.at_ 0).S).getD 12 0),qad ((qah (aa.at_ 0).S).getD 13 0),qad ((qah (aa.at_ 0).S).getD 14 0),qad ((qah (aa.at_ 0).S).getD 15 0),.slice none 0 0,.map none],true⟩,qbw af 7 (.agg #[.int .i32 0,.int .i16 0,.pointer none,.int .i32 0,.int .i32 0,.map none,.map none]) ((lst (aa.at_ 1)).length) (ah + 1),⟨af,ah * 7,[.int .i32 (IntKind.i32.wrap (ag.at_ 0).N),.int .i16 (IntKind.i16.wrap (ag.at_ 1).N),.pointer none,.int .i32 0,.int .i32 0,.map none,.map none],true⟩] [(2,.v (.bool false)),(7,.p 0 0),(9,.v (.bool (decide (v ≥ 0)))),(10,.p 1 0),(16,.v (.slice (some ⟨ab,0,none⟩) ((lst (T.at_ 4)).length) ae)),(17,.v (.int .i32 (((lst (T.at_ 4)).length:Nat):Int))),(18,.v (.int .i32 ((ac:Nat):Int))),(20,.p 3 0),(23,.v (.slice (some ⟨af,0,none⟩) ((lst (aa.at_ 1)).length) al)),(24,.v (.int .i32 (((lst (aa.at_ 1)).length:Nat):Int))),(25,.v (.int .i32 ((ah:Nat):Int))),(27,.p 5 0),(30,.v (.pointer aC))] P' bU a_ w_) ?_ ?_
       ·
        refine wp_seq (qbD [(2,.v (.bool false)),(7,.p 0 0),(9,.v (.bool (decide (v ≥ 0)))),(10,.p 1 0),(16,.v (.slice (some ⟨ab,0,none⟩) ((lst (T.at_ 4)).length) ae)),(17,.v (.int .i32 (((lst (T.at_ 4)).length:Nat):Int))),(18,.v (.int .i32 ((ac:Nat):Int))),(20,.p 3 0),(23,.v (.slice (some ⟨af,0,none⟩) ((lst (aa.at_ 1)).length) al)),(24,.v (.int .i32 (((lst (aa.at_ 1)).length:Nat):Int))),(25,.v (.int .i32 ((ah:Nat):Int))),(27,.p 5 0),(159,.v (.bool (decide (v ≥ 0))))] dP fun _ aH=>qab ?_)
        clear dP
        refine qax aH.env_ (b:=decide (v ≥ 0)) kz (fun bG=>?_) (fun bG=>?_)
        ·
         have dQ:=aH.cast (t:=(if (ag.at_ 2).null = true then uv 0 else uv ((qbo (ag.at_ 2)).length + 1) ++ (qbo (ag.at_ 2))) ++ bU) (by rw [if_pos bG])
         clear aH
         refine wp_seq (qbD [(2,.v (.bool false)),(7,.p 0 0),(9,.v (.bool (decide (v ≥ 0)))),(10,.p 1 0),(16,.v (.slice (some ⟨ab,0,none⟩) ((lst (T.at_ 4)).length) ae)),(17,.v (.int .i32 (((lst (T.at_ 4)).length:Nat):Int))),(18,.v (.int .i32 ((ac:Nat):Int))),(20,.p 3 0),(23,.v (.slice (some ⟨af,0,none⟩) ((lst (aa.at_ 1)).length) al)),(24,.v (.int .i32 (((lst (aa.at_ 1)).length:Nat):Int))),(25,.v (.int .i32 ((ah:Nat):Int))),(27,.p 5 0),(160,.v (.bool false))] dQ fun _ bH=>qab ?_)
         clear dQ
         refine qaq bH.env_ (b:=false) kz (rfl) ?_
         refine qi1 (d:=162) (fun bV=>[(2,.v (.bool false)),(7,.p 0 0),(9,.v (.bool (decide (v ≥ 0)))),(10,.p 1 0),(16,.v (.slice (some ⟨ab,0,none⟩) ((lst (T.at_ 4)).length) ae)),(17,.v (.int .i32 (((lst (T.at_ 4)).length:Nat):Int))),(18,.v (.int .i32 ((ac:Nat):Int))),(20,.p 3 0),(23,.v (.slice (some ⟨af,0,none⟩) ((lst (aa.at_ 1)).length) al)),(24,.v (.int .i32 (((lst (aa.at_ 1)).length:Nat):Int))),(25,.v (.int .i32 ((ah:Nat):Int))),(27,.p 5 0),(30,.v (.pointer bV))]) bH (qco (ag.at_ 2).null (qbo (ag.at_ 2)) e184_2 _) (fun _=>(MvF.text _ _).and (MvF.is _)) Tryz.call110 fun bV j7 _ _ dR iS=>?_
         clear bH
         refine qab ?_
         exact ⟨bV,_,fun w F h_=>⟨(dR _ _ h_).1,(dR _ _ h_).2⟩,iS.pk (env':=[(2,.v (.bool false)),(7,.p 0 0),(9,.v (.bool (decide (v ≥ 0)))),(10,.p 1 0),(16,.v (.slice (some ⟨ab,0,none⟩) ((lst (T.at_ 4)).length) ae)),(17,.v (.int .i32 (((lst (T.at_ 4)).length:Nat):Int))),(18,.v (.int .i32 ((ac:Nat):Int))),(20,.p 3 0),(23,.v (.slice (some ⟨af,0,none⟩) ((lst (aa.at_ 1)).length) al)),(24,.v (.int .i32 (((lst (aa.at_ 1)).length:Nat):Int))),(25,.v (.int .i32 ((ah:Nat):Int))),(27,.p 5 0),(30,.v (.pointer bV))])⟩
        have dS:=aH.cast (t:=(if (ag.at_ 2).null = true then be 2 (-1) else be 2 (qbo (ag.at_ 2)).length ++ (qbo (ag.at_ 2))) ++ bU) (by rw [if_neg (by rw [bG]; decide)])
        clear aH
        refine wp_seq (qbD [(2,.v (.bool false)),(7,.p 0 0),(9,.v (.bool (decide (v ≥ 0)))),(10,.p 1 0),(16,.v (.slice (some ⟨ab,0,none⟩) ((lst (T.at_ 4)).length) ae)),(17,.v (.int .i32 (((lst (T.at_ 4)).length:Nat):Int))),(18,.v (.int .i32 ((ac:Nat):Int))),(20,.p 3 0),(23,.v (.slice (some ⟨af,0,none⟩) ((lst (aa.at_ 1)).length) al)),(24,.v (.int .i32 (((lst (aa.at_ 1)).length:Nat):Int))),(25,.v (.int .i32 ((ah:Nat):Int))),(27,.p 5 0),(163,.v (.bool false))] dS fun _ bI=>qab ?_)
        clear dS
        refine qaq bI.env_ (b:=false) kz (rfl) ?_
        refine qi1 (d:=165) (fun bW=>[(2,.v (.bool false)),(7,.p 0 0),(9,.v (.bool (decide (v ≥ 0)))),(10,.p 1 0),(16,.v (.slice (some ⟨ab,0,none⟩) ((lst (T.at_ 4)).length) ae)),(17,.v (.int .i32 (((lst (T.at_ 4)).length:Nat):Int))),(18,.v (.int .i32 ((ac:Nat):Int))),(20,.p 3 0),(23,.v (.slice (some ⟨af,0,none⟩) ((lst (aa.at_ 1)).length) al)),(24,.v (.int .i32 (((lst (aa.at_ 1)).length:Nat):Int))),(25,.v (.int .i32 ((ah:Nat):Int))),(27,.p 5 0),(30,.v (.pointer bW))]) bI (qdj (ag.at_ 2).null (qbo (ag.at_ 2)) e184_2 _) (fun _=>(MvF.text _ _).and (MvF.is _)) Tryz.call112 fun bW j8 _ _ dT iT=>?_
        clear bI
        refine qab ?_
        exact ⟨bW,_,fun w F h_=>⟨(dT _ _ h_).1,(dT _ _ h_).2⟩,iT.pk (env':=[(2,.v (.bool false)),(7,.p 0 0),(9,.v (.bool (decide (v ≥ 0)))),(10,.p 1 0),(16,.v (.slice (some ⟨ab,0,none⟩) ((lst (T.at_ 4)).length) ae)),(17,.v (.int .i32 (((lst (T.at_ 4)).length:Nat):Int))),(18,.v (.int .i32 ((ac:Nat):Int))),(20,.p 3 0),(23,.v (.slice (some ⟨af,0,none⟩) ((lst (aa.at_ 1)).length) al)),(24,.v (.int .i32 (((lst (aa.at_ 1)).length:Nat):Int))),(25,.v (.int .i32 ((ah:Nat):Int))),(27,.p 5 0),(30,.v (.pointer bW))])⟩
       rintro _ _ ⟨aC,jH,bg,dU⟩
       refine qab (qc1 [⟨bv,0,[.int .i16 v,.int .i32 (IntKind.i32.wrap (T.at_ 0).N),.int .i16 (IntKind.i16.wrap (T.at_ 1).N),.pointer au,.int .i32 av.n,.slice none 0 0,.slice none 0 0,.map none],true⟩,qbw ab 18 (.agg #[.int .u8 0,.int .u8 0,.int .u8 0,.int .u8 0,.int .u8 0,.int .u8 0,.int .u8 0,.int .u8 0,.int .u8 0,.int .u8 0,.int .u8 0,.int .u8 0,.int .u8 0,.int .u8 0,.int .u8 0,.int .u8 0,.slice none 0 0,.map none]) ((lst (T.at_ 4)).length) (ac + 1),⟨ab,ac * 18,[qad ((qah (aa.at_ 0).S).getD 0 0),qad ((qah (aa.at_ 0).S).getD 1 0),qad ((qah (aa.at_ 0).S).getD 2 0),qad ((qah (aa.at_ 0).S).getD 3 0),qad ((qah (aa.at_ 0).S).getD 4 0),qad ((qah (aa.at_ 0).S).getD 5 0),qad ((qah (aa.at_ 0).S).getD 6 0),qad ((qah (aa.at_ 0).S).getD 7 0),qad ((qah (aa.at_ 0).S).getD 8 0),qad ((qah (aa.at_ 0).S).getD 9 0),qad ((qah (aa.at_ 0).S).getD 10 0),qad ((qah (aa.at_ 0).S).getD 11 0),qad ((qah (aa.at_ 0).S).getD 12 0),qad ((qah (aa.at_ 0).S).getD 13 0),qad ((qah (aa.at_ 0).S).getD 14 0),qad ((qah (aa.at_ 0).S).getD 15 0),.slice none 0 0,.map none],true⟩,qbw af 7 (.agg #[.int .i32 0,.int .i16 0,.pointer none,.int .i32 0,.int .i32 0,.map none,.map none]) ((lst (aa.at_ 1)).length) (ah + 1),⟨af,ah * 7,[.int .i32 (IntKind.i32.wrap (ag.at_ 0).N),.int .i16 (IntKind.i16.wrap (ag.at_ 1).N),.pointer aC,.int .i32 0,.int .i32 0,.map none,.map none],true⟩] 4 [(2,.v (.bool false)),(7,.p 0 0),(9,.v (.bool (decide (v ≥ 0)))),(10,.p 1 0),(16,.v (.slice (some ⟨ab,0,none⟩) ((lst (T.at_ 4)).length) ae)),(17,.v (.int .i32 (((lst (T.at_ 4)).length:Nat):Int))),(18,.v (.int .i32 ((ac:Nat):Int))),(20,.p 3 0),(23,.v (.slice (some ⟨af,0,none⟩) ((lst (aa.at_ 1)).length) al)),(24,.v (.int .i32 (((lst (aa.at_ 1)).length:Nat):Int))),(25,.v (.int .i32 ((ah:Nat):Int))),(27,.p 5 0)] dU fun _ _ dV=>?_)
       clear dU
       refine qab ?_
       have dW:=dV.cast dt
       clear dV
       have iU:=e184_3
       have e237r:=(qd9 e184r 3)
       unfold qbb at iU
       obtain ⟨e237_0,e237_1,e237_U,_⟩:=iU
       obtain ⟨jI,dX⟩:∃ R,R = (if (decide (v ≥ 0)) = true then (uv (ag.at_ 3).U.length) ++ (qck (ag.at_ 3).U) else []) ++ bk:=⟨_,rfl⟩
       obtain ⟨jJ,dY⟩:∃ R,R = (be 4 ((IntKind.i32.wrap ((ag.at_ 3).at_ 1).N))) ++ jI:=⟨_,rfl⟩
       obtain ⟨jK,dZ⟩:∃ R,R = (be 4 ((IntKind.i32.wrap ((ag.at_ 3).at_ 0).N))) ++ jJ:=⟨_,rfl⟩
       have d5:=dW.cast (t:=jK) (by rw [dZ,dY,dX]; unfold qbc; simp only [List.append_assoc])
       clear dW
       refine wp_seq (wp_seq (qbD [(2,.v (.bool false)),(7,.p 0 0),(9,.v (.bool (decide (v ≥ 0)))),(10,.p 1 0),(16,.v (.slice (some ⟨ab,0,none⟩) ((lst (T.at_ 4)).length) ae)),(17,.v (.int .i32 (((lst (T.at_ 4)).length:Nat):Int))),(18,.v (.int .i32 ((ac:Nat):Int))),(20,.p 3 0),(23,.v (.slice (some ⟨af,0,none⟩) ((lst (aa.at_ 1)).length) al)),(24,.v (.int .i32 (((lst (aa.at_ 1)).length:Nat):Int))),(25,.v (.int .i32 ((ah:Nat):Int))),(27,.p 5 0),(31,.p 5 3)] d5 fun _ d6=>?_))
       clear d5
       refine qab (wp_seq (qau [0,1] kz ?_))
       refine qcR [0] [1] [(2,.v (.bool false)),(7,.p 0 0),(9,.v (.bool (decide (v ≥ 0)))),(10,.p 1 0),(16,.v (.slice (some ⟨ab,0,none⟩) ((lst (T.at_ 4)).length) ae)),(17,.v (.int .i32 (((lst (T.at_ 4)).length:Nat):Int))),(18,.v (.int .i32 ((ac:Nat):Int))),(20,.p 3 0),(23,.v (.slice (some ⟨af,0,none⟩) ((lst (aa.at_ 1)).length) al)),(24,.v (.int .i32 (((lst (aa.at_ 1)).length:Nat):Int))),(25,.v (.int .i32 ((ah:Nat):Int))),(27,.p 5 0),(31,.p 5 3),(173,.p 5 3)] d6 fun _ d7=>?_
       clear d6
       refine qan (qka (d:=174) (vs:=[.pointer (some ⟨af,ah * 7 + 3,none⟩)]) d7 (fun _=>qmc _ _ _) Tryz.call116 fun _ d8=>?_)
       clear d7
       refine qag ?_
       have d9:=d8.pk (env':=[(2,.v (.bool false)),(7,.p 0 0),(9,.v (.bool (decide (v ≥ 0)))),(10,.p 1 0),(16,.v (.slice (some ⟨ab,0,none⟩) ((lst (T.at_ 4)).length) ae)),(17,.v (.int .i32 (((lst (T.at_ 4)).length:Nat):Int))),(18,.v (.int .i32 ((ac:Nat):Int))),(20,.p 3 0),(23,.v (.slice (some ⟨af,0,none⟩) ((lst (aa.at_ 1)).length) al)),(24,.v (.int .i32 (((lst (aa.at_ 1)).length:Nat):Int))),(25,.v (.int .i32 ((ah:Nat):Int))),(27,.p 5 0),(31,.p 5 3)])
       clear d8
       refine qab (wp_seq (qbD [(2,.v (.bool false)),(7,.p 0 0),(9,.v (.bool (decide (v ≥ 0)))),(10,.p 1 0),(16,.v (.slice (some ⟨ab,0,none⟩) ((lst (T.at_ 4)).length) ae)),(17,.v (.int .i32 (((lst (T.at_ 4)).length:Nat):Int))),(18,.v (.int .i32 ((ac:Nat):Int))),(20,.p 3 0),(23,.v (.slice (some ⟨af,0,none⟩) ((lst (aa.at_ 1)).length) al)),(24,.v (.int .i32 (((lst (aa.at_ 1)).length:Nat):Int))),(25,.v (.int .i32 ((ah:Nat):Int))),(27,.p 5 0),(32,.p 5 3)] d9 fun _ ea=>?_))
       clear d9
       refine qab (wp_seq (wp_seq ?_))
       have eb:=ea.cast dZ
       clear ea
       refine qdY (d:=176) [(2,.v (.bool false)),(7,.p 0 0),(9,.v (.bool (decide (v ≥ 0)))),(10,.p 1 0),(16,.v (.slice (some ⟨ab,0,none⟩) ((lst (T.at_ 4)).length) ae)),(17,.v (.int .i32 (((lst (T.at_ 4)).length:Nat):Int))),(18,.v (.int .i32 ((ac:Nat):Int))),(20,.p 3 0),(23,.v (.slice (some ⟨af,0,none⟩) ((lst (aa.at_ 1)).length) al)),(24,.v (.int .i32 (((lst (aa.at_ 1)).length:Nat):Int))),(25,.v (.int .i32 ((ah:Nat):Int))),(27,.p 5 0),(32,.p 5 3),(33,.v (.int .i32 (IntKind.i32.wrap ((ag.at_ 3).at_ 0).N)))] eb (qf3 _ _) Tryz.call95 fun _ _ ec=>?_
       clear eb
       refine qab (qc1 [⟨bv,0,[.int .i16 v,.int .i32 (IntKind.i32.wrap (T.at_ 0).N),.int .i16 (IntKind.i16.wrap (T.at_ 1).N),.pointer au,.int .i32 av.n,.slice none 0 0,.slice none 0 0,.map none],true⟩,qbw ab 18 (.agg #[.int .u8 0,.int .u8 0,.int .u8 0,.int .u8 0,.int .u8 0,.int .u8 0,.int .u8 0,.int .u8 0,.int .u8 0,.int .u8 0,.int .u8 0,.int .u8 0,.int .u8 0,.int .u8 0,.int .u8 0,.int .u8 0,.slice none 0 0,.map none]) ((lst (T.at_ 4)).length) (ac + 1),⟨ab,ac * 18,[qad ((qah (aa.at_ 0).S).getD 0 0),qad ((qah (aa.at_ 0).S).getD 1 0),qad ((qah (aa.at_ 0).S).getD 2 0),qad ((qah (aa.at_ 0).S).getD 3 0),qad ((qah (aa.at_ 0).S).getD 4 0),qad ((qah (aa.at_ 0).S).getD 5 0),qad ((qah (aa.at_ 0).S).getD 6 0),qad ((qah (aa.at_ 0).S).getD 7 0),qad ((qah (aa.at_ 0).S).getD 8 0),qad ((qah (aa.at_ 0).S).getD 9 0),qad ((qah (aa.at_ 0).S).getD 10 0),qad ((qah (aa.at_ 0).S).getD 11 0),qad ((qah (aa.at_ 0).S).getD 12 0),qad ((qah (aa.at_ 0).S).getD 13 0),qad ((qah (aa.at_ 0).S).getD 14 0),qad ((qah (aa.at_ 0).S).getD 15 0),.slice none 0 0,.map none],true⟩,qbw af 7 (.agg #[.int .i32 0,.int .i16 0,.pointer none,.int .i32 0,.int .i32 0,.map none,.map none]) ((lst (aa.at_ 1)).length) (ah + 1),⟨af,ah * 7,[.int .i32 (IntKind.i32.wrap (ag.at_ 0).N),.int .i16 (IntKind.i16.wrap (ag.at_ 1).N),.pointer aC,.int .i32 (IntKind.i32.wrap ((ag.at_ 3).at_ 0).N),.int .i32 0,.map none,.map none],true⟩] 4 [(2,.v (.bool false)),(7,.p 0 0),(9,.v (.bool (decide (v ≥ 0)))),(10,.p 1 0),(16,.v (.slice (some ⟨ab,0,none⟩) ((lst (T.at_ 4)).length) ae)),(17,.v (.int .i32 (((lst (T.at_ 4)).length:Nat):Int))),(18,.v (.int .i32 ((ac:Nat):Int))),(20,.p 3 0),(23,.v (.slice (some ⟨af,0,none⟩) ((lst (aa.at_ 1)).length) al)),(24,.v (.int .i32 (((lst (aa.at_ 1)).length:Nat):Int))),(25,.v (.int .i32 ((ah:Nat):Int))),(27,.p 5 0),(32,.p 5 3)] ec fun _ _ ee=>?_)
       clear ec
       refine qab (wp_seq (wp_seq ?_))
       have ef:=ee.cast dY
       clear ee
       refine qdY (d:=181) [(2,.v (.bool false)),(7,.p 0 0),(9,.v (.bool (decide (v ≥ 0)))),(10,.p 1 0),(16,.v (.slice (some ⟨ab,0,none⟩) ((lst (T.at_ 4)).length) ae)),(17,.v (.int .i32 (((lst (T.at_ 4)).length:Nat):Int))),(18,.v (.int .i32 ((ac:Nat):Int))),(20,.p 3 0),(23,.v (.slice (some ⟨af,0,none⟩) ((lst (aa.at_ 1)).length) al)),(24,.v (.int .i32 (((lst (aa.at_ 1)).length:Nat):Int))),(25,.v (.int .i32 ((ah:Nat):Int))),(27,.p 5 0),(32,.p 5 3),(34,.v (.int .i32 (IntKind.i32.wrap ((ag.at_ 3).at_ 1).N)))] ef (qf3 _ _) Tryz.call95 fun _ _ eg=>?_
       clear ef
       refine qab (qc1 [⟨bv,0,[.int .i16 v,.int .i32 (IntKind.i32.wrap (T.at_ 0).N),.int .i16 (IntKind.i16.wrap (T.at_ 1).N),.pointer au,.int .i32 av.n,.slice none 0 0,.slice none 0 0,.map none],true⟩,qbw ab 18 (.agg #[.int .u8 0,.int .u8 0,.int .u8 0,.int .u8 0,.int .u8 0,.int .u8 0,.int .u8 0,.int .u8 0,.int .u8 0,.int .u8 0,.int .u8 0,.int .u8 0,.int .u8 0,.int .u8 0,.int .u8 0,.int .u8 0,.slice none 0 0,.map none]) ((lst (T.at_ 4)).length) (ac + 1),⟨ab,ac * 18,[qad ((qah (aa.at_ 0).S).getD 0 0),qad ((qah (aa.at_ 0).S).getD 1 0),qad ((qah (aa.at_ 0).S).getD 2 0),qad ((qah (aa.at_ 0).S).getD 3 0),qad ((qah (aa.at_ 0).S).getD 4 0),qad ((qah (aa.at_ 0).S).getD 5 0),qad ((qah (aa.at_ 0).S).getD 6 0),qad ((qah (aa.at_ 0).S).getD 7 0),qad ((qah (aa.at_ 0).S).getD 8 0),qad ((qah (aa.at_ 0).S).getD 9 0),qad ((qah (aa.at_ 0).S).getD 10 0),qad ((qah (aa.at_ 0).S).getD 11 0),qad ((qah (aa.at_ 0).S).getD 12 0),qad ((qah (aa.at_ 0).S).getD 13 0),qad ((qah (aa.at_ 0).S).getD 14 0),qad ((qah (aa.at_ 0).S).getD 15 0),.slice none 0 0,.map none],true⟩,qbw af 7 (.agg #[.int .i32 0,.int .i16 0,.pointer none,.int .i32 0,.int .i32 0,.map none,.map none]) ((lst (aa.at_ 1)).length) (ah + 1),⟨af,ah * 7,[.int .i32 (IntKind.i32.wrap (ag.at_ 0).N),.int .i16 (IntKind.i16.wrap (ag.at_ 1).N),.pointer aC,.int .i32 (IntKind.i32.wrap ((ag.at_ 3).at_ 0).N),.int .i32 (IntKind.i32.wrap ((ag.at_ 3).at_ 1).N),.map none,.map none],true⟩] 4 [(2,.v (.bool false)),(7,.p 0 0),(9,.v (.bool (decide (v ≥ 0)))),(10,.p 1 0),(16,.v (.slice (some ⟨ab,0,none⟩) ((lst (T.at_ 4)).length) ae)),(17,.v (.int .i32 (((lst (T.at_ 4)).length:Nat):Int))),(18,.v (.int .i32 ((ac:Nat):Int))),(20,.p 3 0),(23,.v (.slice (some ⟨af,0,none⟩) ((lst (aa.at_ 1)).length) al)),(24,.v (.int .i32 (((lst (aa.at_ 1)).length:Nat):Int))),(25,.v (.int .i32 ((ah:Nat):Int))),(27,.p 5 0),(32,.p 5 3)] eg fun _ _ eh=>?_)
       clear eg
       refine qab ?_
       have ei:=eh.cast dX
       clear eh
       refine qc8 (Mid:=fun a_ w_=>∃ (bn:Option Nat) (aW:List (Int × Bs)) (P':qcz),(∀ w F,P' w F → jH w F ∧ (MapR w F bn aW ∧ aW.length ≤ 1000000 ∧ ∀ x ∈ aW,x.2.length < 4294967296) ∧ ((decide (v ≥ 0)) = true → aW = (ag.at_ 3).U) ∧ ((decide (v ≥ 0)) = false → aW = [])) ∧ RS w (fun b o=>b = bv ∧ o < 8) F 288 aV [⟨bv,0,[.int .i16 v,.int .i32 (IntKind.i32.wrap (T.at_ 0).N),.int .i16 (IntKind.i16.wrap (T.at_ 1).N),.pointer au,.int .i32 av.n,.slice none 0 0,.slice none 0 0,.map none],true⟩,qbw ab 18 (.agg #[.int .u8 0,.int .u8 0,.int .u8 0,.int .u8 0,.int .u8 0,.int .u8 0,.int .u8 0,.int .u8 0,.int .u8 0,.int .u8 0,.int .u8 0,.int .u8 0,.int .u8 0,.int .u8 0,.int .u8 0,.int .u8 0,.slice none 0 0,.map none]) ((lst (T.at_ 4)).length) (ac + 1),⟨ab,ac * 18,[qad ((qah (aa.at_ 0).S).getD 0 0),qad ((qah (aa.at_ 0).S).getD 1 0),qad ((qah (aa.at_ 0).S).getD 2 0),qad ((qah (aa.at_ 0).S).getD 3 0),qad ((qah (aa.at_ 0).S).getD 4 0),qad ((qah (aa.at_ 0).S).getD 5 0),qad ((qah (aa.at_ 0).S).getD 6 0),qad ((qah (aa.at_ 0).S).getD 7 0),qad ((qah (aa.at_ 0).S).getD 8 0),qad ((qah (aa.at_ 0).S).getD 9 0),qad ((qah (aa.at_ 0).S).getD 10 0),qad ((qah (aa.at_ 0).S).getD 11 0),qad ((qah (aa.at_ 0).S).getD 12 0),qad ((qah (aa.at_ 0).S).getD 13 0),qad ((qah (aa.at_ 0).S).getD 14 0),qad ((qah (aa.at_ 0).S).getD 15 0),.slice none 0 0,.map none],true⟩,qbw af 7 (.agg #[.int .i32 0,.int .i16 0,.pointer none,.int .i32 0,.int .i32 0,.map none,.map none]) ((lst (aa.at_ 1)).length) (ah + 1),⟨af,ah * 7,[.int .i32 (IntKind.i32.wrap (ag.at_ 0).N),.int .i16 (IntKind.i16.wrap (ag.at_ 1).N),.pointer aC,.int .i32 (IntKind.i32.wrap ((ag.at_ 3).at_ 0).N),.int .i32 (IntKind.i32.wrap ((ag.at_ 3).at_ 1).N),.map bn,.map none],true⟩] [(2,.v (.bool false)),(7,.p 0 0),(9,.v (.bool (decide (v ≥ 0)))),(10,.p 1 0),(16,.v (.slice (some ⟨ab,0,none⟩) ((lst (T.at_ 4)).length) ae)),(17,.v (.int .i32 (((lst (T.at_ 4)).length:Nat):Int))),(18,.v (.int .i32 ((ac:Nat):Int))),(20,.p 3 0),(23,.v (.slice (some ⟨af,0,none⟩) ((lst (aa.at_ 1)).length) al)),(24,.v (.int .i32 (((lst (aa.at_ 1)).length:Nat):Int))),(25,.v (.int .i32 ((ah:Nat):Int))),(27,.p 5 0)] P' bk a_ w_) ?_ ?_
       ·
        refine wp_seq (qbD [(2,.v (.bool false)),(7,.p 0 0),(9,.v (.bool (decide (v ≥ 0)))),(10,.p 1 0),(16,.v (.slice (some ⟨ab,0,none⟩) ((lst (T.at_ 4)).length) ae)),(17,.v (.int .i32 (((lst (T.at_ 4)).length:Nat):Int))),(18,.v (.int .i32 ((ac:Nat):Int))),(20,.p 3 0),(23,.v (.slice (some ⟨af,0,none⟩) ((lst (aa.at_ 1)).length) al)),(24,.v (.int .i32 (((lst (aa.at_ 1)).length:Nat):Int))),(25,.v (.int .i32 ((ah:Nat):Int))),(27,.p 5 0),(32,.p 5 3),(186,.v (.bool (decide (v ≥ 0))))] ei fun _ aI=>qab ?_)
        clear ei
        refine qax aI.env_ (b:=decide (v ≥ 0)) kz (fun aJ=>?_) (fun aJ=>?_)
        ·
         have ej:=aI.cast (t:=((uv (ag.at_ 3).U.length) ++ (qck (ag.at_ 3).U)) ++ bk) (by rw [if_pos aJ])
         clear aI
         refine qau [0,1,2,3,4] kz ?_
         refine qcR [0] [1,2,3,4] [(2,.v (.bool false)),(7,.p 0 0),(9,.v (.bool (decide (v ≥ 0)))),(10,.p 1 0),(16,.v (.slice (some ⟨ab,0,none⟩) ((lst (T.at_ 4)).length) ae)),(17,.v (.int .i32 (((lst (T.at_ 4)).length:Nat):Int))),(18,.v (.int .i32 ((ac:Nat):Int))),(20,.p 3 0),(23,.v (.slice (some ⟨af,0,none⟩) ((lst (aa.at_ 1)).length) al)),(24,.v (.int .i32 (((lst (aa.at_ 1)).length:Nat):Int))),(25,.v (.int .i32 ((ah:Nat):Int))),(27,.p 5 0),(187,.p 5 3)] ej fun _ ek=>?_
         clear ej
         refine qan (qfn (d:=188) ek (qkb (ag.at_ 3).U e237_U (qeu e237r) _) (fun _=>MvF.tags _ _) Tryz.call96 fun gO j9 _ _ em eo=>?_)
         clear ek
         refine qcR [2,3] [4] [(2,.v (.bool false)),(7,.p 0 0),(9,.v (.bool (decide (v ≥ 0)))),(10,.p 1 0),(16,.v (.slice (some ⟨ab,0,none⟩) ((lst (T.at_ 4)).length) ae)),(17,.v (.int .i32 (((lst (T.at_ 4)).length:Nat):Int))),(18,.v (.int .i32 ((ac:Nat):Int))),(20,.p 3 0),(23,.v (.slice (some ⟨af,0,none⟩) ((lst (aa.at_ 1)).length) al)),(24,.v (.int .i32 (((lst (aa.at_ 1)).length:Nat):Int))),(25,.v (.int .i32 ((ah:Nat):Int))),(27,.p 5 0),(188,.v (.agg #[.map gO])),(190,.p 5 5)] eo fun _ ep=>?_
         clear eo
         refine qan (qex [⟨bv,0,[.int .i16 v,.int .i32 (IntKind.i32.wrap (T.at_ 0).N),.int .i16 (IntKind.i16.wrap (T.at_ 1).N),.pointer au,.int .i32 av.n,.slice none 0 0,.slice none 0 0,.map none],true⟩,qbw ab 18 (.agg #[.int .u8 0,.int .u8 0,.int .u8 0,.int .u8 0,.int .u8 0,.int .u8 0,.int .u8 0,.int .u8 0,.int .u8 0,.int .u8 0,.int .u8 0,.int .u8 0,.int .u8 0,.int .u8 0,.int .u8 0,.int .u8 0,.slice none 0 0,.map none]) ((lst (T.at_ 4)).length) (ac + 1),⟨ab,ac * 18,[qad ((qah (aa.at_ 0).S).getD 0 0),qad ((qah (aa.at_ 0).S).getD 1 0),qad ((qah (aa.at_ 0).S).getD 2 0),qad ((qah (aa.at_ 0).S).getD 3 0),qad ((qah (aa.at_ 0).S).getD 4 0),qad ((qah (aa.at_ 0).S).getD 5 0),qad ((qah (aa.at_ 0).S).getD 6 0),qad ((qah (aa.at_ 0).S).getD 7 0),qad ((qah (aa.at_ 0).S).getD 8 0),qad ((qah (aa.at_ 0).S).getD 9 0),qad ((qah (aa.at_ 0).S).getD 10 0),qad ((qah (aa.at_ 0).S).getD 11 0),qad ((qah (aa.at_ 0).S).getD 12 0),qad ((qah (aa.at_ 0).S).getD 13 0),qad ((qah (aa.at_ 0).S).getD 14 0),qad ((qah (aa.at_ 0).S).getD 15 0),.slice none 0 0,.map none],true⟩,qbw af 7 (.agg #[.int .i32 0,.int .i16 0,.pointer none,.int .i32 0,.int .i32 0,.map none,.map none]) ((lst (aa.at_ 1)).length) (ah + 1),⟨af,ah * 7,[.int .i32 (IntKind.i32.wrap (ag.at_ 0).N),.int .i16 (IntKind.i16.wrap (ag.at_ 1).N),.pointer aC,.int .i32 (IntKind.i32.wrap ((ag.at_ 3).at_ 0).N),.int .i32 (IntKind.i32.wrap ((ag.at_ 3).at_ 1).N),.map gO,.map none],true⟩] 4 ep fun _ eu=>?_)
         clear ep
         refine qag ?_
         have iV:=eu.pk (env':=[(2,.v (.bool false)),(7,.p 0 0),(9,.v (.bool (decide (v ≥ 0)))),(10,.p 1 0),(16,.v (.slice (some ⟨ab,0,none⟩) ((lst (T.at_ 4)).length) ae)),(17,.v (.int .i32 (((lst (T.at_ 4)).length:Nat):Int))),(18,.v (.int .i32 ((ac:Nat):Int))),(20,.p 3 0),(23,.v (.slice (some ⟨af,0,none⟩) ((lst (aa.at_ 1)).length) al)),(24,.v (.int .i32 (((lst (aa.at_ 1)).length:Nat):Int))),(25,.v (.int .i32 ((ah:Nat):Int))),(27,.p 5 0)])
         clear eu
         refine qab ?_
         exact ⟨gO,(ag.at_ 3).U,_,fun w F h_=>⟨(em _ _ h_).1,⟨(em _ _ h_).2,e237_U.2.1,e237_U.2.2⟩,⟨fun _=>rfl,(fun e_=>by rw [aJ] at e_; cases e_)⟩⟩,iV.pk (env':=[(2,.v (.bool false)),(7,.p 0 0),(9,.v (.bool (decide (v ≥ 0)))),(10,.p 1 0),(16,.v (.slice (some ⟨ab,0,none⟩) ((lst (T.at_ 4)).length) ae)),(17,.v (.int .i32 (((lst (T.at_ 4)).length:Nat):Int))),(18,.v (.int .i32 ((ac:Nat):Int))),(20,.p 3 0),(23,.v (.slice (some ⟨af,0,none⟩) ((lst (aa.at_ 1)).length) al)),(24,.v (.int .i32 (((lst (aa.at_ 1)).length:Nat):Int))),(25,.v (.int .i32 ((ah:Nat):Int))),(27,.p 5 0)])⟩
        have ev:=aI.cast (t:=[] ++ bk) (by rw [if_neg (by rw [aJ]; decide)])
        clear aI
        have iW:=ev.cast (t:=bk) rfl
        clear ev
        refine wp_skip (qab ?_)
        exact ⟨none,[],_,fun w F h_=>⟨h_,⟨MapR.nil _ _,Nat.zero_le _,fun _ h=>by cases h⟩,⟨(fun e_=>by rw [aJ] at e_; cases e_),fun _=>rfl⟩⟩,iW.pk (env':=[(2,.v (.bool false)),(7,.p 0 0),(9,.v (.bool (decide (v ≥ 0)))),(10,.p 1 0),(16,.v (.slice (some ⟨ab,0,none⟩) ((lst (T.at_ 4)).length) ae)),(17,.v (.int .i32 (((lst (T.at_ 4)).length:Nat):Int))),(18,.v (.int .i32 ((ac:Nat):Int))),(20,.p 3 0),(23,.v (.slice (some ⟨af,0,none⟩) ((lst (aa.at_ 1)).length) al)),(24,.v (.int .i32 (((lst (aa.at_ 1)).length:Nat):Int))),(25,.v (.int .i32 ((ah:Nat):Int))),(27,.p 5 0)])⟩
       rintro _ _ ⟨bn,aW,jL,ay,ew⟩
       refine qab ?_
       have ey:=ew.cast dr
       clear ew
       refine qc8 (Mid:=fun a_ w_=>∃ (bX:Option Nat) (aX:List (Int × Bs)) (P':qcz),(∀ w F,P' w F → jL w F ∧ (MapR w F bX aX ∧ aX.length ≤ 1000000 ∧ ∀ x ∈ aX,x.2.length < 4294967296) ∧ ((decide (v ≥ 0)) = true → aX = ag.U) ∧ ((decide (v ≥ 0)) = false → aX = [])) ∧ RS w (fun b o=>b = bv ∧ o < 8) F 288 aV [⟨bv,0,[.int .i16 v,.int .i32 (IntKind.i32.wrap (T.at_ 0).N),.int .i16 (IntKind.i16.wrap (T.at_ 1).N),.pointer au,.int .i32 av.n,.slice none 0 0,.slice none 0 0,.map none],true⟩,qbw ab 18 (.agg #[.int .u8 0,.int .u8 0,.int .u8 0,.int .u8 0,.int .u8 0,.int .u8 0,.int .u8 0,.int .u8 0,.int .u8 0,.int .u8 0,.int .u8 0,.int .u8 0,.int .u8 0,.int .u8 0,.int .u8 0,.int .u8 0,.slice none 0 0,.map none]) ((lst (T.at_ 4)).length) (ac + 1),⟨ab,ac * 18,[qad ((qah (aa.at_ 0).S).getD 0 0),qad ((qah (aa.at_ 0).S).getD 1 0),qad ((qah (aa.at_ 0).S).getD 2 0),qad ((qah (aa.at_ 0).S).getD 3 0),qad ((qah (aa.at_ 0).S).getD 4 0),qad ((qah (aa.at_ 0).S).getD 5 0),qad ((qah (aa.at_ 0).S).getD 6 0),qad ((qah (aa.at_ 0).S).getD 7 0),qad ((qah (aa.at_ 0).S).getD 8 0),qad ((qah (aa.at_ 0).S).getD 9 0),qad ((qah (aa.at_ 0).S).getD 10 0),qad ((qah (aa.at_ 0).S).getD 11 0),qad ((qah (aa.at_ 0).S).getD 12 0),qad ((qah (aa.at_ 0).S).getD 13 0),qad ((qah (aa.at_ 0).S).getD 14 0),qad ((qah (aa.at_ 0).S).getD 15 0),.slice none 0 0,.map none],true⟩,qbw af 7 (.agg #[.int .i32 0,.int .i16 0,.pointer none,.int .i32 0,.int .i32 0,.map none,.map none]) ((lst (aa.at_ 1)).length) (ah + 1),⟨af,ah * 7,[.int .i32 (IntKind.i32.wrap (ag.at_ 0).N),.int .i16 (IntKind.i16.wrap (ag.at_ 1).N),.pointer aC,.int .i32 (IntKind.i32.wrap ((ag.at_ 3).at_ 0).N),.int .i32 (IntKind.i32.wrap ((ag.at_ 3).at_ 1).N),.map bn,.map bX],true⟩] [(2,.v (.bool false)),(7,.p 0 0),(9,.v (.bool (decide (v ≥ 0)))),(10,.p 1 0),(16,.v (.slice (some ⟨ab,0,none⟩) ((lst (T.at_ 4)).length) ae)),(17,.v (.int .i32 (((lst (T.at_ 4)).length:Nat):Int))),(18,.v (.int .i32 ((ac:Nat):Int))),(20,.p 3 0),(23,.v (.slice (some ⟨af,0,none⟩) ((lst (aa.at_ 1)).length) al)),(24,.v (.int .i32 (((lst (aa.at_ 1)).length:Nat):Int))),(25,.v (.int .i32 ((ah:Nat):Int)))] P' bE a_ w_) ?_ ?_
       ·
        refine wp_seq (qbD [(2,.v (.bool false)),(7,.p 0 0),(9,.v (.bool (decide (v ≥ 0)))),(10,.p 1 0),(16,.v (.slice (some ⟨ab,0,none⟩) ((lst (T.at_ 4)).length) ae)),(17,.v (.int .i32 (((lst (T.at_ 4)).length:Nat):Int))),(18,.v (.int .i32 ((ac:Nat):Int))),(20,.p 3 0),(23,.v (.slice (some ⟨af,0,none⟩) ((lst (aa.at_ 1)).length) al)),(24,.v (.int .i32 (((lst (aa.at_ 1)).length:Nat):Int))),(25,.v (.int .i32 ((ah:Nat):Int))),(27,.p 5 0),(191,.v (.bool (decide (v ≥ 0))))] ey fun _ aK=>qab ?_)
        clear ey
        refine qax aK.env_ (b:=decide (v ≥ 0)) kz (fun aL=>?_) (fun aL=>?_)
        ·
         have ez:=aK.cast (t:=((uv ag.U.length) ++ (qck ag.U)) ++ bE) (by rw [if_pos aL])
         clear aK
         refine qau [0,1,2,3,4] kz ?_
         refine qcR [0] [1,2,3,4] [(2,.v (.bool false)),(7,.p 0 0),(9,.v (.bool (decide (v ≥ 0)))),(10,.p 1 0),(16,.v (.slice (some ⟨ab,0,none⟩) ((lst (T.at_ 4)).length) ae)),(17,.v (.int .i32 (((lst (T.at_ 4)).length:Nat):Int))),(18,.v (.int .i32 ((ac:Nat):Int))),(20,.p 3 0),(23,.v (.slice (some ⟨af,0,none⟩) ((lst (aa.at_ 1)).length) al)),(24,.v (.int .i32 (((lst (aa.at_ 1)).length:Nat):Int))),(25,.v (.int .i32 ((ah:Nat):Int))),(192,.p 5 0)] ez fun _ eB=>?_
         clear ez
         refine qan (qfn (d:=193) eB (qkb ag.U e184_U (qeu e184r) _) (fun _=>MvF.tags _ _) Tryz.call96 fun gP ka _ _ eC eD=>?_)
         clear eB
         refine qcR [2,3] [4] [(2,.v (.bool false)),(7,.p 0 0),(9,.v (.bool (decide (v ≥ 0)))),(10,.p 1 0),(16,.v (.slice (some ⟨ab,0,none⟩) ((lst (T.at_ 4)).length) ae)),(17,.v (.int .i32 (((lst (T.at_ 4)).length:Nat):Int))),(18,.v (.int .i32 ((ac:Nat):Int))),(20,.p 3 0),(23,.v (.slice (some ⟨af,0,none⟩) ((lst (aa.at_ 1)).length) al)),(24,.v (.int .i32 (((lst (aa.at_ 1)).length:Nat):Int))),(25,.v (.int .i32 ((ah:Nat):Int))),(193,.v (.agg #[.map gP])),(195,.p 5 6)] eD fun _ eE=>?_
         clear eD
         refine qan (qex [⟨bv,0,[.int .i16 v,.int .i32 (IntKind.i32.wrap (T.at_ 0).N),.int .i16 (IntKind.i16.wrap (T.at_ 1).N),.pointer au,.int .i32 av.n,.slice none 0 0,.slice none 0 0,.map none],true⟩,qbw ab 18 (.agg #[.int .u8 0,.int .u8 0,.int .u8 0,.int .u8 0,.int .u8 0,.int .u8 0,.int .u8 0,.int .u8 0,.int .u8 0,.int .u8 0,.int .u8 0,.int .u8 0,.int .u8 0,.int .u8 0,.int .u8 0,.int .u8 0,.slice none 0 0,.map none]) ((lst (T.at_ 4)).length) (ac + 1),⟨ab,ac * 18,[qad ((qah (aa.at_ 0).S).getD 0 0),qad ((qah (aa.at_ 0).S).getD 1 0),qad ((qah (aa.at_ 0).S).getD 2 0),qad ((qah (aa.at_ 0).S).getD 3 0),qad ((qah (aa.at_ 0).S).getD 4 0),qad ((qah (aa.at_ 0).S).getD 5 0),qad ((qah (aa.at_ 0).S).getD 6 0),qad ((qah (aa.at_ 0).S).getD 7 0),qad ((qah (aa.at_ 0).S).getD 8 0),qad ((qah (aa.at_ 0).S).getD 9 0),qad ((qah (aa.at_ 0).S).getD 10 0),qad ((qah (aa.at_ 0).S).getD 11 0),qad ((qah (aa.at_ 0).S).getD 12 0),qad ((qah (aa.at_ 0).S).getD 13 0),qad ((qah (aa.at_ 0).S).getD 14 0),qad ((qah (aa.at_ 0).S).getD 15 0),.slice none 0 0,.map none],true⟩,qbw af 7 (.agg #[.int .i32 0,.int .i16 0,.pointer none,.int .i32 0,.int .i32 0,.map none,.map none]) ((lst (aa.at_ 1)).length) (ah + 1),⟨af,ah * 7,[.int .i32 (IntKind.i32.wrap (ag.at_ 0).N),.int .i16 (IntKind.i16.wrap (ag.at_ 1).N),.pointer aC,.int .i32 (IntKind.i32.wrap ((ag.at_ 3).at_ 0).N),.int .i32 (IntKind.i32.wrap ((ag.at_ 3).at_ 1).N),.map bn,.map gP],true⟩] 4 eE fun _ eF=>?_)
         clear eE
         refine qag ?_
         have iX:=eF.pk (env':=[(2,.v (.bool false)),(7,.p 0 0),(9,.v (.bool (decide (v ≥ 0)))),(10,.p 1 0),(16,.v (.slice (some ⟨ab,0,none⟩) ((lst (T.at_ 4)).length) ae)),(17,.v (.int .i32 (((lst (T.at_ 4)).length:Nat):Int))),(18,.v (.int .i32 ((ac:Nat):Int))),(20,.p 3 0),(23,.v (.slice (some ⟨af,0,none⟩) ((lst (aa.at_ 1)).length) al)),(24,.v (.int .i32 (((lst (aa.at_ 1)).length:Nat):Int))),(25,.v (.int .i32 ((ah:Nat):Int)))])
         clear eF
         refine qab ?_
         exact ⟨gP,ag.U,_,fun w F h_=>⟨(eC _ _ h_).1,⟨(eC _ _ h_).2,e184_U.2.1,e184_U.2.2⟩,⟨fun _=>rfl,(fun e_=>by rw [aL] at e_; cases e_)⟩⟩,iX.pk (env':=[(2,.v (.bool false)),(7,.p 0 0),(9,.v (.bool (decide (v ≥ 0)))),(10,.p 1 0),(16,.v (.slice (some ⟨ab,0,none⟩) ((lst (T.at_ 4)).length) ae)),(17,.v (.int .i32 (((lst (T.at_ 4)).length:Nat):Int))),(18,.v (.int .i32 ((ac:Nat):Int))),(20,.p 3 0),(23,.v (.slice (some ⟨af,0,none⟩) ((lst (aa.at_ 1)).length) al)),(24,.v (.int .i32 (((lst (aa.at_ 1)).length:Nat):Int))),(25,.v (.int .i32 ((ah:Nat):Int)))])⟩
        have eG:=aK.cast (t:=[] ++ bE) (by rw [if_neg (by rw [aL]; decide)])
        clear aK
        have iY:=eG.cast (t:=bE) rfl
        clear eG
        refine wp_skip (qab ?_)
        exact ⟨none,[],_,fun w F h_=>⟨h_,⟨MapR.nil _ _,Nat.zero_le _,fun _ h=>by cases h⟩,⟨(fun e_=>by rw [aL] at e_; cases e_),fun _=>rfl⟩⟩,iY.pk (env':=[(2,.v (.bool false)),(7,.p 0 0),(9,.v (.bool (decide (v ≥ 0)))),(10,.p 1 0),(16,.v (.slice (some ⟨ab,0,none⟩) ((lst (T.at_ 4)).length) ae)),(17,.v (.int .i32 (((lst (T.at_ 4)).length:Nat):Int))),(18,.v (.int .i32 ((ac:Nat):Int))),(20,.p 3 0),(23,.v (.slice (some ⟨af,0,none⟩) ((lst (aa.at_ 1)).length) al)),(24,.v (.int .i32 (((lst (aa.at_ 1)).length:Nat):Int))),(25,.v (.int .i32 ((ah:Nat):Int)))])⟩
       rintro _ _ ⟨bX,aX,kd,aw,eH⟩
       refine qav (qab (qbD [(2,.v (.bool false)),(7,.p 0 0),(9,.v (.bool (decide (v ≥ 0)))),(10,.p 1 0),(16,.v (.slice (some ⟨ab,0,none⟩) ((lst (T.at_ 4)).length) ae)),(17,.v (.int .i32 (((lst (T.at_ 4)).length:Nat):Int))),(18,.v (.int .i32 ((ac:Nat):Int))),(20,.p 3 0),(23,.v (.slice (some ⟨af,0,none⟩) ((lst (aa.at_ 1)).length) al)),(24,.v (.int .i32 (((lst (aa.at_ 1)).length:Nat):Int))),(25,.v (.int .i32 (IntKind.i32.wrap (((ah:Nat):Int) + 1))))] eH fun _ eI=>?_))
       clear eH
       refine qab ?_
       have iZ:=(eI.envEq (env':=[(2,.v (.bool false)),(7,.p 0 0),(9,.v (.bool (decide (v ≥ 0)))),(10,.p 1 0),(16,.v (.slice (some ⟨ab,0,none⟩) ((lst (T.at_ 4)).length) ae)),(17,.v (.int .i32 (((lst (T.at_ 4)).length:Nat):Int))),(18,.v (.int .i32 ((ac:Nat):Int))),(20,.p 3 0),(23,.v (.slice (some ⟨af,0,none⟩) ((lst (aa.at_ 1)).length) al)),(24,.v (.int .i32 (((lst (aa.at_ 1)).length:Nat):Int))),(25,.v (.int .i32 ((ah + 1:Nat):Int)))]) (by rw [qgU (by have:=e124_1; omega)])).pk (env':=[(2,.v (.bool false)),(7,.p 0 0),(9,.v (.bool (decide (v ≥ 0)))),(10,.p 1 0),(16,.v (.slice (some ⟨ab,0,none⟩) ((lst (T.at_ 4)).length) ae)),(17,.v (.int .i32 (((lst (T.at_ 4)).length:Nat):Int))),(18,.v (.int .i32 ((ac:Nat):Int))),(20,.p 3 0),(23,.v (.slice (some ⟨af,0,none⟩) ((lst (aa.at_ 1)).length) al)),(24,.v (.int .i32 (((lst (aa.at_ 1)).length:Nat):Int))),(25,.v (.int .i32 ((ah + 1:Nat):Int)))])
       clear eI
       exact (RS.thing (tb:=[⟨bv,0,[.int .i16 v,.int .i32 (IntKind.i32.wrap (T.at_ 0).N),.int .i16 (IntKind.i16.wrap (T.at_ 1).N),.pointer au,.int .i32 av.n,.slice none 0 0,.slice none 0 0,.map none],true⟩,qbw ab 18 (.agg #[.int .u8 0,.int .u8 0,.int .u8 0,.int .u8 0,.int .u8 0,.int .u8 0,.int .u8 0,.int .u8 0,.int .u8 0,.int .u8 0,.int .u8 0,.int .u8 0,.int .u8 0,.int .u8 0,.int .u8 0,.int .u8 0,.slice none 0 0,.map none]) ((lst (T.at_ 4)).length) (ac + 1),⟨ab,ac * 18,[qad ((qah (aa.at_ 0).S).getD 0 0),qad ((qah (aa.at_ 0).S).getD 1 0),qad ((qah (aa.at_ 0).S).getD 2 0),qad ((qah (aa.at_ 0).S).getD 3 0),qad ((qah (aa.at_ 0).S).getD 4 0),qad ((qah (aa.at_ 0).S).getD 5 0),qad ((qah (aa.at_ 0).S).getD 6 0),qad ((qah (aa.at_ 0).S).getD 7 0),qad ((qah (aa.at_ 0).S).getD 8 0),qad ((qah (aa.at_ 0).S).getD 9 0),qad ((qah (aa.at_ 0).S).getD 10 0),qad ((qah (aa.at_ 0).S).getD 11 0),qad ((qah (aa.at_ 0).S).getD 12 0),qad ((qah (aa.at_ 0).S).getD 13 0),qad ((qah (aa.at_ 0).S).getD 14 0),qad ((qah (aa.at_ 0).S).getD 15 0),.slice none 0 0,.map none],true⟩]) (z:=.agg #[.int .i32 0,.int .i16 0,.pointer none,.int .i32 0,.int .i32 0,.map none,.map none]) (D:=(dvP bX aX [dvN (IntKind.i32.wrap (ag.at_ 0).N),dvN (IntKind.i16.wrap (ag.at_ 1).N),dvT aC (bs (qbo (ag.at_ 2))),(dvP bn aW [dvN (IntKind.i32.wrap ((ag.at_ 3).at_ 0).N),dvN (IntKind.i32.wrap ((ag.at_ 3).at_ 1).N)])])) (iZ.cast dq) hg_g165 bD qaX bC rfl (fun w F h_=>⟨(dl _ _ (bg _ _ (ay _ _ (aw _ _ h_).1).1).1).1,(dl _ _ (bg _ _ (ay _ _ (aw _ _ h_).1).1).1).2,⟨(trivial),(trivial),(⟨(bg _ _ (ay _ _ (aw _ _ h_).1).1).2.1,by show ByteArray.size (bs _) ≤ 1000000; rw [qgK]; exact Nat.le_trans e184_2 (by decide)⟩),(⟨(trivial),(trivial),(ay _ _ (aw _ _ h_).1).2.1.1,(ay _ _ (aw _ _ h_).1).2.1.2.1,(ay _ _ (aw _ _ h_).1).2.1.2.2,trivial⟩),(aw _ _ h_).2.1.1,(aw _ _ h_).2.1.2.1,(aw _ _ h_).2.1.2.2,trivial⟩,⟨(rfl),(rfl),(⟨rfl,(bg _ _ (ay _ _ (aw _ _ h_).1).1).2.2⟩),(⟨(rfl),(rfl),(ay _ _ (aw _ _ h_).1).2.2,trivial⟩),(aw _ _ h_).2.2,trivial⟩⟩) kz)
      refine wp_seq (wp_seq (qbD [(2,.v (.bool false)),(7,.p 0 0),(9,.v (.bool (decide (v ≥ 0)))),(10,.p 1 0),(16,.v (.slice (some ⟨ab,0,none⟩) ((lst (T.at_ 4)).length) ae)),(17,.v (.int .i32 (((lst (T.at_ 4)).length:Nat):Int))),(18,.v (.int .i32 ((ac:Nat):Int))),(20,.p 3 0),(23,.v (.slice (some ⟨af,0,none⟩) ((lst (aa.at_ 1)).length) al)),(24,.v (.int .i32 (((lst (aa.at_ 1)).length:Nat):Int))),(25,.v (.int .i32 (((lst (aa.at_ 1)).length:Nat):Int))),(140,.v (.bool (decide ((((lst (aa.at_ 1)).length:Nat):Int) < (((lst (aa.at_ 1)).length:Nat):Int)))))] dj fun _ eJ=>qab ?_))
      clear dj
      refine qaq eJ.env_ (b:=decide ((((lst (aa.at_ 1)).length:Nat):Int) < (((lst (aa.at_ 1)).length:Nat):Int))) kz (decide_eq_false (by omega)) ?_
      refine wp_exit (qay (qay (qaQ (qab ?_))))
      obtain ⟨jM,i6⟩:=RS.listEnd (tb:=[⟨bv,0,[.int .i16 v,.int .i32 (IntKind.i32.wrap (T.at_ 0).N),.int .i16 (IntKind.i16.wrap (T.at_ 1).N),.pointer au,.int .i32 av.n,.slice none 0 0,.slice none 0 0,.map none],true⟩,qbw ab 18 (.agg #[.int .u8 0,.int .u8 0,.int .u8 0,.int .u8 0,.int .u8 0,.int .u8 0,.int .u8 0,.int .u8 0,.int .u8 0,.int .u8 0,.int .u8 0,.int .u8 0,.int .u8 0,.int .u8 0,.int .u8 0,.int .u8 0,.slice none 0 0,.map none]) ((lst (T.at_ 4)).length) (ac + 1),⟨ab,ac * 18,[qad ((qah (aa.at_ 0).S).getD 0 0),qad ((qah (aa.at_ 0).S).getD 1 0),qad ((qah (aa.at_ 0).S).getD 2 0),qad ((qah (aa.at_ 0).S).getD 3 0),qad ((qah (aa.at_ 0).S).getD 4 0),qad ((qah (aa.at_ 0).S).getD 5 0),qad ((qah (aa.at_ 0).S).getD 6 0),qad ((qah (aa.at_ 0).S).getD 7 0),qad ((qah (aa.at_ 0).S).getD 8 0),qad ((qah (aa.at_ 0).S).getD 9 0),qad ((qah (aa.at_ 0).S).getD 10 0),qad ((qah (aa.at_ 0).S).getD 11 0),qad ((qah (aa.at_ 0).S).getD 12 0),qad ((qah (aa.at_ 0).S).getD 13 0),qad ((qah (aa.at_ 0).S).getD 14 0),qad ((qah (aa.at_ 0).S).getD 15 0),.slice none 0 0,.map none],true⟩]) (c:=al) (eJ.pk (env':=[(2,.v (.bool false)),(7,.p 0 0),(9,.v (.bool (decide (v ≥ 0)))),(10,.p 1 0),(16,.v (.slice (some ⟨ab,0,none⟩) ((lst (T.at_ 4)).length) ae)),(17,.v (.int .i32 (((lst (T.at_ 4)).length:Nat):Int))),(18,.v (.int .i32 ((ac:Nat):Int))),(20,.p 3 0),(23,.v (.slice (some ⟨af,0,none⟩) ((lst (aa.at_ 1)).length) al))])) hg_g165 qaX bC hcap_g165 (by have:=e124_1; omega) hn_g165 kz
      exact ⟨dvL (some ⟨af,0,none⟩) (lst (aa.at_ 1)).length al jM,_,fun w F h_=>⟨h_.1,⟨h_.2.1,Nat.le_trans e124_1 (by decide),h_.2.2.1⟩,⟨rfl,h_.2.2.2⟩⟩,i6⟩
     refine wp_skip (qab (wp_seq (qbD [(2,.v (.bool false)),(7,.p 0 0),(9,.v (.bool (decide (v ≥ 0)))),(10,.p 1 0),(16,.v (.slice (some ⟨ab,0,none⟩) ((lst (T.at_ 4)).length) ae)),(17,.v (.int .i32 (((lst (T.at_ 4)).length:Nat):Int))),(18,.v (.int .i32 ((ac:Nat):Int))),(20,.p 3 0),(23,.v (.slice none 0 0)),(24,.v (.int .i32 (((lst (aa.at_ 1)).length:Nat):Int))),(25,.v (.int .i32 0))] aG fun _ eK=>?_)))
     clear aG
     refine qab (wp_block (qfG (wp_seq (wp_seq (qbD [(2,.v (.bool false)),(7,.p 0 0),(9,.v (.bool (decide (v ≥ 0)))),(10,.p 1 0),(16,.v (.slice (some ⟨ab,0,none⟩) ((lst (T.at_ 4)).length) ae)),(17,.v (.int .i32 (((lst (T.at_ 4)).length:Nat):Int))),(18,.v (.int .i32 ((ac:Nat):Int))),(20,.p 3 0),(23,.v (.slice none 0 0)),(24,.v (.int .i32 (((lst (aa.at_ 1)).length:Nat):Int))),(25,.v (.int .i32 0)),(140,.v (.bool (decide (0 < (((lst (aa.at_ 1)).length:Nat):Int)))))] eK fun _ eL=>qab ?_)))))
     clear eK
     refine qaq eL.env_ (b:=decide (0 < (((lst (aa.at_ 1)).length:Nat):Int))) kz (decide_eq_false (by have h_:=zF bf; omega)) ?_
     refine wp_exit (qay (qay (qaQ (qab ?_))))
     have hz_:(lst (aa.at_ 1)).length = 0:=by have h_:=zF bf; omega
     exact ⟨dvL none 0 0 (fun _=>dv0),_,fun w F h_=>⟨h_,⟨Slots.nil _ _ _ _,Nat.zero_le _,fun _ h=>absurd h (Nat.not_lt_zero _)⟩,⟨hz_.symm,fun _ h=>absurd h (Nat.not_lt_zero _)⟩⟩,(eL.cast (t:=aF) (by rw [List.eq_nil_of_length_eq_zero hz_]; rfl)).pk (env':=[(2,.v (.bool false)),(7,.p 0 0),(9,.v (.bool (decide (v ≥ 0)))),(10,.p 1 0),(16,.v (.slice (some ⟨ab,0,none⟩) ((lst (T.at_ 4)).length) ae)),(17,.v (.int .i32 (((lst (T.at_ 4)).length:Nat):Int))),(18,.v (.int .i32 ((ac:Nat):Int))),(20,.p 3 0),(23,.v (.slice none 0 0))])⟩
    rintro _ _ ⟨ap,jN,bh,eM⟩
    refine wp_seq (qbD [(2,.v (.bool false)),(7,.p 0 0),(9,.v (.bool (decide (v ≥ 0)))),(10,.p 1 0),(16,.v (.slice (some ⟨ab,0,none⟩) ((lst (T.at_ 4)).length) ae)),(17,.v (.int .i32 (((lst (T.at_ 4)).length:Nat):Int))),(18,.v (.int .i32 ((ac:Nat):Int))),(20,.p 3 0),(22,.v (.slice ap.A ap.l ap.c))] eM fun _ eN=>?_)
    clear eM
    refine qab (qc1 [⟨bv,0,[.int .i16 v,.int .i32 (IntKind.i32.wrap (T.at_ 0).N),.int .i16 (IntKind.i16.wrap (T.at_ 1).N),.pointer au,.int .i32 av.n,.slice none 0 0,.slice none 0 0,.map none],true⟩,qbw ab 18 (.agg #[.int .u8 0,.int .u8 0,.int .u8 0,.int .u8 0,.int .u8 0,.int .u8 0,.int .u8 0,.int .u8 0,.int .u8 0,.int .u8 0,.int .u8 0,.int .u8 0,.int .u8 0,.int .u8 0,.int .u8 0,.int .u8 0,.slice none 0 0,.map none]) ((lst (T.at_ 4)).length) (ac + 1),⟨ab,ac * 18,[qad ((qah (aa.at_ 0).S).getD 0 0),qad ((qah (aa.at_ 0).S).getD 1 0),qad ((qah (aa.at_ 0).S).getD 2 0),qad ((qah (aa.at_ 0).S).getD 3 0),qad ((qah (aa.at_ 0).S).getD 4 0),qad ((qah (aa.at_ 0).S).getD 5 0),qad ((qah (aa.at_ 0).S).getD 6 0),qad ((qah (aa.at_ 0).S).getD 7 0),qad ((qah (aa.at_ 0).S).getD 8 0),qad ((qah (aa.at_ 0).S).getD 9 0),qad ((qah (aa.at_ 0).S).getD 10 0),qad ((qah (aa.at_ 0).S).getD 11 0),qad ((qah (aa.at_ 0).S).getD 12 0),qad ((qah (aa.at_ 0).S).getD 13 0),qad ((qah (aa.at_ 0).S).getD 14 0),qad ((qah (aa.at_ 0).S).getD 15 0),.slice ap.A ap.l ap.c,.map none],true⟩] 2 [(2,.v (.bool false)),(7,.p 0 0),(9,.v (.bool (decide (v ≥ 0)))),(10,.p 1 0),(16,.v (.slice (some ⟨ab,0,none⟩) ((lst (T.at_ 4)).length) ae)),(17,.v (.int .i32 (((lst (T.at_ 4)).length:Nat):Int))),(18,.v (.int .i32 ((ac:Nat):Int))),(20,.p 3 0)] eN fun _ _ eO=>?_)
    clear eN
    refine qab ?_
    have eP:=eO.cast cH
    clear eO
    refine qc8 (Mid:=fun a_ w_=>∃ (bY:Option Nat) (aY:List (Int × Bs)) (P':qcz),(∀ w F,P' w F → jN w F ∧ (MapR w F bY aY ∧ aY.length ≤ 1000000 ∧ ∀ x ∈ aY,x.2.length < 4294967296) ∧ ((decide (v ≥ 0)) = true → aY = aa.U) ∧ ((decide (v ≥ 0)) = false → aY = [])) ∧ RS w (fun b o=>b = bv ∧ o < 8) F 288 aV [⟨bv,0,[.int .i16 v,.int .i32 (IntKind.i32.wrap (T.at_ 0).N),.int .i16 (IntKind.i16.wrap (T.at_ 1).N),.pointer au,.int .i32 av.n,.slice none 0 0,.slice none 0 0,.map none],true⟩,qbw ab 18 (.agg #[.int .u8 0,.int .u8 0,.int .u8 0,.int .u8 0,.int .u8 0,.int .u8 0,.int .u8 0,.int .u8 0,.int .u8 0,.int .u8 0,.int .u8 0,.int .u8 0,.int .u8 0,.int .u8 0,.int .u8 0,.int .u8 0,.slice none 0 0,.map none]) ((lst (T.at_ 4)).length) (ac + 1),⟨ab,ac * 18,[qad ((qah (aa.at_ 0).S).getD 0 0),qad ((qah (aa.at_ 0).S).getD 1 0),qad ((qah (aa.at_ 0).S).getD 2 0),qad ((qah (aa.at_ 0).S).getD 3 0),qad ((qah (aa.at_ 0).S).getD 4 0),qad ((qah (aa.at_ 0).S).getD 5 0),qad ((qah (aa.at_ 0).S).getD 6 0),qad ((qah (aa.at_ 0).S).getD 7 0),qad ((qah (aa.at_ 0).S).getD 8 0),qad ((qah (aa.at_ 0).S).getD 9 0),qad ((qah (aa.at_ 0).S).getD 10 0),qad ((qah (aa.at_ 0).S).getD 11 0),qad ((qah (aa.at_ 0).S).getD 12 0),qad ((qah (aa.at_ 0).S).getD 13 0),qad ((qah (aa.at_ 0).S).getD 14 0),qad ((qah (aa.at_ 0).S).getD 15 0),.slice ap.A ap.l ap.c,.map bY],true⟩] [(2,.v (.bool false)),(7,.p 0 0),(9,.v (.bool (decide (v ≥ 0)))),(10,.p 1 0),(16,.v (.slice (some ⟨ab,0,none⟩) ((lst (T.at_ 4)).length) ae)),(17,.v (.int .i32 (((lst (T.at_ 4)).length:Nat):Int))),(18,.v (.int .i32 ((ac:Nat):Int)))] P' bx a_ w_) ?_ ?_
    ·
     refine wp_seq (qbD [(2,.v (.bool false)),(7,.p 0 0),(9,.v (.bool (decide (v ≥ 0)))),(10,.p 1 0),(16,.v (.slice (some ⟨ab,0,none⟩) ((lst (T.at_ 4)).length) ae)),(17,.v (.int .i32 (((lst (T.at_ 4)).length:Nat):Int))),(18,.v (.int .i32 ((ac:Nat):Int))),(20,.p 3 0),(201,.v (.bool (decide (v ≥ 0))))] eP fun _ aM=>qab ?_)
     clear eP
     refine qax aM.env_ (b:=decide (v ≥ 0)) kz (fun aN=>?_) (fun aN=>?_)
     ·
      have eQ:=aM.cast (t:=((uv aa.U.length) ++ (qck aa.U)) ++ bx) (by rw [if_pos aN])
      clear aM
      refine qau [0,1,2,3,4] kz ?_
      refine qcR [0] [1,2,3,4] [(2,.v (.bool false)),(7,.p 0 0),(9,.v (.bool (decide (v ≥ 0)))),(10,.p 1 0),(16,.v (.slice (some ⟨ab,0,none⟩) ((lst (T.at_ 4)).length) ae)),(17,.v (.int .i32 (((lst (T.at_ 4)).length:Nat):Int))),(18,.v (.int .i32 ((ac:Nat):Int))),(202,.p 3 0)] eQ fun _ eR=>?_
      clear eQ
      refine qan (qfn (d:=203) eR (qkb aa.U e124_U (qeu e124r) _) (fun _=>MvF.tags _ _) Tryz.call96 fun gQ ke _ _ eS eU=>?_)
      clear eR
      refine qcR [2,3] [4] [(2,.v (.bool false)),(7,.p 0 0),(9,.v (.bool (decide (v ≥ 0)))),(10,.p 1 0),(16,.v (.slice (some ⟨ab,0,none⟩) ((lst (T.at_ 4)).length) ae)),(17,.v (.int .i32 (((lst (T.at_ 4)).length:Nat):Int))),(18,.v (.int .i32 ((ac:Nat):Int))),(203,.v (.agg #[.map gQ])),(205,.p 3 17)] eU fun _ eV=>?_
      clear eU
      refine qan (qex [⟨bv,0,[.int .i16 v,.int .i32 (IntKind.i32.wrap (T.at_ 0).N),.int .i16 (IntKind.i16.wrap (T.at_ 1).N),.pointer au,.int .i32 av.n,.slice none 0 0,.slice none 0 0,.map none],true⟩,qbw ab 18 (.agg #[.int .u8 0,.int .u8 0,.int .u8 0,.int .u8 0,.int .u8 0,.int .u8 0,.int .u8 0,.int .u8 0,.int .u8 0,.int .u8 0,.int .u8 0,.int .u8 0,.int .u8 0,.int .u8 0,.int .u8 0,.int .u8 0,.slice none 0 0,.map none]) ((lst (T.at_ 4)).length) (ac + 1),⟨ab,ac * 18,[qad ((qah (aa.at_ 0).S).getD 0 0),qad ((qah (aa.at_ 0).S).getD 1 0),qad ((qah (aa.at_ 0).S).getD 2 0),qad ((qah (aa.at_ 0).S).getD 3 0),qad ((qah (aa.at_ 0).S).getD 4 0),qad ((qah (aa.at_ 0).S).getD 5 0),qad ((qah (aa.at_ 0).S).getD 6 0),qad ((qah (aa.at_ 0).S).getD 7 0),qad ((qah (aa.at_ 0).S).getD 8 0),qad ((qah (aa.at_ 0).S).getD 9 0),qad ((qah (aa.at_ 0).S).getD 10 0),qad ((qah (aa.at_ 0).S).getD 11 0),qad ((qah (aa.at_ 0).S).getD 12 0),qad ((qah (aa.at_ 0).S).getD 13 0),qad ((qah (aa.at_ 0).S).getD 14 0),qad ((qah (aa.at_ 0).S).getD 15 0),.slice ap.A ap.l ap.c,.map gQ],true⟩] 2 eV fun _ eW=>?_)
      clear eV
      refine qag ?_
      have i7:=eW.pk (env':=[(2,.v (.bool false)),(7,.p 0 0),(9,.v (.bool (decide (v ≥ 0)))),(10,.p 1 0),(16,.v (.slice (some ⟨ab,0,none⟩) ((lst (T.at_ 4)).length) ae)),(17,.v (.int .i32 (((lst (T.at_ 4)).length:Nat):Int))),(18,.v (.int .i32 ((ac:Nat):Int)))])
      clear eW
      refine qab ?_
      exact ⟨gQ,aa.U,_,fun w F h_=>⟨(eS _ _ h_).1,⟨(eS _ _ h_).2,e124_U.2.1,e124_U.2.2⟩,⟨fun _=>rfl,(fun e_=>by rw [aN] at e_; cases e_)⟩⟩,i7.pk (env':=[(2,.v (.bool false)),(7,.p 0 0),(9,.v (.bool (decide (v ≥ 0)))),(10,.p 1 0),(16,.v (.slice (some ⟨ab,0,none⟩) ((lst (T.at_ 4)).length) ae)),(17,.v (.int .i32 (((lst (T.at_ 4)).length:Nat):Int))),(18,.v (.int .i32 ((ac:Nat):Int)))])⟩
     have eX:=aM.cast (t:=[] ++ bx) (by rw [if_neg (by rw [aN]; decide)])
     clear aM
     have ja:=eX.cast (t:=bx) rfl
     clear eX
     refine wp_skip (qab ?_)
     exact ⟨none,[],_,fun w F h_=>⟨h_,⟨MapR.nil _ _,Nat.zero_le _,fun _ h=>by cases h⟩,⟨(fun e_=>by rw [aN] at e_; cases e_),fun _=>rfl⟩⟩,ja.pk (env':=[(2,.v (.bool false)),(7,.p 0 0),(9,.v (.bool (decide (v ≥ 0)))),(10,.p 1 0),(16,.v (.slice (some ⟨ab,0,none⟩) ((lst (T.at_ 4)).length) ae)),(17,.v (.int .i32 (((lst (T.at_ 4)).length:Nat):Int))),(18,.v (.int .i32 ((ac:Nat):Int)))])⟩
    rintro _ _ ⟨bY,aY,kf,az,eY⟩
    refine qav (qab (qbD [(2,.v (.bool false)),(7,.p 0 0),(9,.v (.bool (decide (v ≥ 0)))),(10,.p 1 0),(16,.v (.slice (some ⟨ab,0,none⟩) ((lst (T.at_ 4)).length) ae)),(17,.v (.int .i32 (((lst (T.at_ 4)).length:Nat):Int))),(18,.v (.int .i32 (IntKind.i32.wrap (((ac:Nat):Int) + 1))))] eY fun _ eZ=>?_))
    clear eY
    refine qab ?_
    have jb:=(eZ.envEq (env':=[(2,.v (.bool false)),(7,.p 0 0),(9,.v (.bool (decide (v ≥ 0)))),(10,.p 1 0),(16,.v (.slice (some ⟨ab,0,none⟩) ((lst (T.at_ 4)).length) ae)),(17,.v (.int .i32 (((lst (T.at_ 4)).length:Nat):Int))),(18,.v (.int .i32 ((ac + 1:Nat):Int)))]) (by rw [qgU (by have:=e26_4; omega)])).pk (env':=[(2,.v (.bool false)),(7,.p 0 0),(9,.v (.bool (decide (v ≥ 0)))),(10,.p 1 0),(16,.v (.slice (some ⟨ab,0,none⟩) ((lst (T.at_ 4)).length) ae)),(17,.v (.int .i32 (((lst (T.at_ 4)).length:Nat):Int))),(18,.v (.int .i32 ((ac + 1:Nat):Int)))])
    clear eZ
    exact (RS.thing (tb:=[⟨bv,0,[.int .i16 v,.int .i32 (IntKind.i32.wrap (T.at_ 0).N),.int .i16 (IntKind.i16.wrap (T.at_ 1).N),.pointer au,.int .i32 av.n,.slice none 0 0,.slice none 0 0,.map none],true⟩]) (z:=.agg #[.int .u8 0,.int .u8 0,.int .u8 0,.int .u8 0,.int .u8 0,.int .u8 0,.int .u8 0,.int .u8 0,.int .u8 0,.int .u8 0,.int .u8 0,.int .u8 0,.int .u8 0,.int .u8 0,.int .u8 0,.int .u8 0,.slice none 0 0,.map none]) (D:=(dvP bY aY [dvO none (qah (aa.at_ 0).S) 0,ap])) (jb.cast cG) hg_g105 bw qa7 bu rfl (fun w F h_=>⟨(cD _ _ (bh _ _ (az _ _ h_).1).1).1,(cD _ _ (bh _ _ (az _ _ h_).1).1).2,⟨(qd8 _),((bh _ _ (az _ _ h_).1).2.1),(az _ _ h_).2.1.1,(az _ _ h_).2.1.2.1,(az _ _ h_).2.1.2.2,trivial⟩,⟨(rfl),((bh _ _ (az _ _ h_).1).2.2),(az _ _ h_).2.2,trivial⟩⟩) kz)
   refine wp_seq (wp_seq (qbD [(2,.v (.bool false)),(7,.p 0 0),(9,.v (.bool (decide (v ≥ 0)))),(10,.p 1 0),(16,.v (.slice (some ⟨ab,0,none⟩) ((lst (T.at_ 4)).length) ae)),(17,.v (.int .i32 (((lst (T.at_ 4)).length:Nat):Int))),(18,.v (.int .i32 (((lst (T.at_ 4)).length:Nat):Int))),(106,.v (.bool (decide ((((lst (T.at_ 4)).length:Nat):Int) < (((lst (T.at_ 4)).length:Nat):Int)))))] cC fun _ e9=>qab ?_))
   clear cC
   refine qaq e9.env_ (b:=decide ((((lst (T.at_ 4)).length:Nat):Int) < (((lst (T.at_ 4)).length:Nat):Int))) kz (decide_eq_false (by omega)) ?_
   refine wp_exit (qay (qay (qaQ (qab ?_))))
   obtain ⟨jO,jc⟩:=RS.listEnd (tb:=[⟨bv,0,[.int .i16 v,.int .i32 (IntKind.i32.wrap (T.at_ 0).N),.int .i16 (IntKind.i16.wrap (T.at_ 1).N),.pointer au,.int .i32 av.n,.slice none 0 0,.slice none 0 0,.map none],true⟩]) (c:=ae) (e9.pk (env':=[(2,.v (.bool false)),(7,.p 0 0),(9,.v (.bool (decide (v ≥ 0)))),(10,.p 1 0),(16,.v (.slice (some ⟨ab,0,none⟩) ((lst (T.at_ 4)).length) ae))])) hg_g105 qa7 bu hcap_g105 (by have:=e26_4; omega) hn_g105 kz
   exact ⟨dvL (some ⟨ab,0,none⟩) (lst (T.at_ 4)).length ae jO,_,fun w F h_=>⟨h_.1,⟨h_.2.1,Nat.le_trans e26_4 (by decide),h_.2.2.1⟩,⟨rfl,h_.2.2.2⟩⟩,jc⟩
  refine wp_skip (qab (wp_seq (qbD [(2,.v (.bool false)),(7,.p 0 0),(9,.v (.bool (decide (v ≥ 0)))),(10,.p 1 0),(16,.v (.slice none 0 0)),(17,.v (.int .i32 (((lst (T.at_ 4)).length:Nat):Int))),(18,.v (.int .i32 0))] aE fun _ fb=>?_)))
  clear aE
  refine qab (wp_block (qfG (wp_seq (wp_seq (qbD [(2,.v (.bool false)),(7,.p 0 0),(9,.v (.bool (decide (v ≥ 0)))),(10,.p 1 0),(16,.v (.slice none 0 0)),(17,.v (.int .i32 (((lst (T.at_ 4)).length:Nat):Int))),(18,.v (.int .i32 0)),(106,.v (.bool (decide (0 < (((lst (T.at_ 4)).length:Nat):Int)))))] fb fun _ fe=>qab ?_)))))
  clear fb
  refine qaq fe.env_ (b:=decide (0 < (((lst (T.at_ 4)).length:Nat):Int))) kz (decide_eq_false (by have h_:=zF bd; omega)) ?_
  refine wp_exit (qay (qay (qaQ (qab ?_))))
  have hz_:(lst (T.at_ 4)).length = 0:=by have h_:=zF bd; omega
  exact ⟨dvL none 0 0 (fun _=>dv0),_,fun w F h_=>⟨h_,⟨Slots.nil _ _ _ _,Nat.zero_le _,fun _ h=>absurd h (Nat.not_lt_zero _)⟩,⟨hz_.symm,fun _ h=>absurd h (Nat.not_lt_zero _)⟩⟩,(fe.cast (t:=cu) (by rw [List.eq_nil_of_length_eq_zero hz_]; rfl)).pk (env':=[(2,.v (.bool false)),(7,.p 0 0),(9,.v (.bool (decide (v ≥ 0)))),(10,.p 1 0),(16,.v (.slice none 0 0))])⟩
 rintro _ _ ⟨am,jd,aD,ff⟩
 refine wp_seq (qbD [(2,.v (.bool false)),(7,.p 0 0),(9,.v (.bool (decide (v ≥ 0)))),(10,.p 1 0),(15,.v (.slice am.A am.l am.c))] ff fun _ fg=>?_)
 clear ff
 refine qab (qc1 [⟨bv,0,[.int .i16 v,.int .i32 (IntKind.i32.wrap (T.at_ 0).N),.int .i16 (IntKind.i16.wrap (T.at_ 1).N),.pointer au,.int .i32 av.n,.slice am.A am.l am.c,.slice none 0 0,.map none],true⟩] 0 [(2,.v (.bool false)),(7,.p 0 0),(9,.v (.bool (decide (v ≥ 0)))),(10,.p 1 0)] fg fun _ _ fh=>?_)
 clear fg
 refine qab (wp_seq (wp_seq (qbD [(2,.v (.bool false)),(7,.p 0 0),(9,.v (.bool (decide (v ≥ 0)))),(10,.p 1 0),(35,.v (.slice none 0 0))] fh fun _ fi=>?_)))
 clear fh
 refine qab (wp_seq (qbD [(2,.v (.bool false)),(7,.p 0 0),(9,.v (.bool (decide (v ≥ 0)))),(10,.p 1 0),(36,.v (.slice none 0 0))] fi fun _ fj=>?_))
 clear fi
 refine qab (wp_seq (qbD [(2,.v (.bool false)),(7,.p 0 0),(9,.v (.bool (decide (v ≥ 0)))),(10,.p 1 0),(36,.v (.slice none 0 0))] fj fun _ fk=>?_))
 clear fj
 refine qab (wp_seq ?_)
 have fm:=fk.cast gV
 clear fk
 have fo:=fm.cast (t:=(if (decide (v ≥ 0)) = true then (uv ((lst (T.at_ 5)).length + 1)) else (be 4 (lst (T.at_ 5)).length)) ++ (((lst (T.at_ 5)).flatMap (qaJ v)) ++ cr)) (by rw [List.append_assoc])
 clear fm
 refine qgS (d1:=217) (d2:=218) [(2,.v (.bool false)),(7,.p 0 0),(9,.v (.bool (decide (v ≥ 0)))),(10,.p 1 0),(36,.v (.slice none 0 0)),(216,.v (.bool (decide (v ≥ 0))))] [(2,.v (.bool false)),(7,.p 0 0),(9,.v (.bool (decide (v ≥ 0)))),(10,.p 1 0),(36,.v (.slice none 0 0)),(37,.v (.int .i32 (((lst (T.at_ 5)).length:Nat):Int)))] fo (qc3 ((lst (T.at_ 5)).length) e26_5 _ (flat_ge' (qbS v) _)) Tryz.call90 (qf4 ((lst (T.at_ 5)).length) e26_5 _ (flat_ge' (qbS v) _)) Tryz.call91 fun _ _ fq=>?_
 clear fo
 refine qab (wp_seq (wp_seq (qlG (d:=219) [(2,.v (.bool false)),(7,.p 0 0),(9,.v (.bool (decide (v ≥ 0)))),(10,.p 1 0),(36,.v (.slice none 0 0)),(37,.v (.int .i32 (((lst (T.at_ 5)).length:Nat):Int))),(220,.v (.bool false))] fq (pOk _) Tryz.call92 fun _ _ bJ=>?_)))
 clear fq
 refine qab (qaq bJ.env_ (b:=false) kz (rfl) ?_)
 refine wp_skip (qab (wp_seq (qh2 (t:=109) (e:=122) (size:=5) (bytes:=48) (d:=223) (A0:=none) (m:=0) (cp:=0) [(2,.v (.bool false)),(7,.p 0 0),(9,.v (.bool (decide (v ≥ 0)))),(10,.p 1 0),(37,.v (.int .i32 (((lst (T.at_ 5)).length:Nat):Int))),(222,.v (.slice none 0 0))] [(2,.v (.bool false)),(7,.p 0 0),(9,.v (.bool (decide (v ≥ 0)))),(10,.p 1 0),(36,.v (.slice none 0 0)),(37,.v (.int .i32 (((lst (T.at_ 5)).length:Nat):Int)))] 1 bJ fun _ fr=>?_)))
 clear bJ
 refine qab (qgT (Mid:=fun a_ w_=>∃ (ar:DV) (P':qcz),(∀ w F,P' w F → jd w F ∧ (Slots w F 5 ar.A ar.c ar.l (fun i=>[.int .i32 (((ar.f i).f 0).n),.string (((ar.f i).f 1).s),.int .i32 (((ar.f i).f 2).n),.pointer (((ar.f i).f 3).A),.map ((ar.f i).m)]) ∧ ar.l ≤ 1000000 ∧ ∀ i,i < ar.l → qaT w F (ar.f i)) ∧ (ar.l = (lst (T.at_ 5)).length ∧ ∀ i,i < ar.l → qa5 v (ar.f i) ((lst (T.at_ 5)).getD i .zero))) ∧ RS w (fun b o=>b = bv ∧ o < 8) F 288 aV [⟨bv,0,[.int .i16 v,.int .i32 (IntKind.i32.wrap (T.at_ 0).N),.int .i16 (IntKind.i16.wrap (T.at_ 1).N),.pointer au,.int .i32 av.n,.slice am.A am.l am.c,.slice none 0 0,.map none],true⟩] [(7,.p 0 0),(9,.v (.bool (decide (v ≥ 0)))),(10,.p 1 0),(36,.v (.slice ar.A ar.l ar.c))] P' cr a_ w_) ?_ ?_)
 ·
  refine wp_seq (qbD [(2,.v (.bool false)),(7,.p 0 0),(9,.v (.bool (decide (v ≥ 0)))),(10,.p 1 0),(36,.v (.slice none 0 0)),(37,.v (.int .i32 (((lst (T.at_ 5)).length:Nat):Int))),(225,.v (.bool (decide ((((lst (T.at_ 5)).length:Nat):Int) > 0))))] fr fun _ aO=>qab ?_)
  clear fr
  refine qax aO.env_ (b:=decide ((((lst (T.at_ 5)).length:Nat):Int) > 0)) kz (fun bi=>?_) (fun bi=>?_)
  ·
   have hn_g352:0 < (lst (T.at_ 5)).length:=by have h_:=zD bi; omega
   refine qau [0,1,2,3] kz ?_
   refine qcR [0,1] [2,3] [(2,.v (.bool false)),(7,.p 0 0),(9,.v (.bool (decide (v ≥ 0)))),(10,.p 1 0),(37,.v (.int .i32 (((lst (T.at_ 5)).length:Nat):Int))),(226,.v (.slice none 0 0)),(227,.v (.int .i32 (((lst (T.at_ 5)).length:Nat):Int)))] aO fun _ ft=>?_
   clear aO
   refine qan (qfo (A0:=none) (d:=228) (t:=109) (tn:=21) (e:=122) (size:=5) (bytes:=48) (k:=.i32) (kn:=.i32) (q:=(((lst (T.at_ 5)).length:Nat):Int)) (j:=(lst (T.at_ 5)).length) (.agg #[.int .i32 0,.string zE,.int .i32 0,.pointer none,.map none]) ft (fun ai ao _ _ hg_g352 hcap_g352 fv=>?_) rfl hn_g352 (by have:=e26_5; omega))
   clear ft
   refine qcR [3] [] [(2,.v (.bool false)),(7,.p 0 0),(9,.v (.bool (decide (v ≥ 0)))),(10,.p 1 0),(36,.v (.slice (some ⟨ai,0,none⟩) ((lst (T.at_ 5)).length) ao)),(37,.v (.int .i32 (((lst (T.at_ 5)).length:Nat):Int)))] fv fun _ fw=>qag ?_
   clear fv
   refine qab (wp_seq (qbD [(2,.v (.bool false)),(7,.p 0 0),(9,.v (.bool (decide (v ≥ 0)))),(10,.p 1 0),(36,.v (.slice (some ⟨ai,0,none⟩) ((lst (T.at_ 5)).length) ao)),(37,.v (.int .i32 (((lst (T.at_ 5)).length:Nat):Int))),(38,.v (.int .i32 0))] fw fun _ bK=>?_))
   clear fw
   refine qab (wp_block ?_)
   have bL:=bK.mv
   have je:=(bK.cast (t:=(lst (T.at_ 5)).flatMap (qaJ v) ++ cr) rfl).pk (env':=[(2,.v (.bool false)),(7,.p 0 0),(9,.v (.bool (decide (v ≥ 0)))),(10,.p 1 0),(36,.v (.slice (some ⟨ai,0,none⟩) ((lst (T.at_ 5)).length) ao)),(37,.v (.int .i32 (((lst (T.at_ 5)).length:Nat):Int))),(38,.v (.int .i32 ((0:Nat):Int)))])
   clear bK
   refine qh1 (tb:=[⟨bv,0,[.int .i16 v,.int .i32 (IntKind.i32.wrap (T.at_ 0).N),.int .i16 (IntKind.i16.wrap (T.at_ 1).N),.pointer au,.int .i32 av.n,.slice am.A am.l am.c,.slice none 0 0,.map none],true⟩]) (z:=.agg #[.int .i32 0,.string zE,.int .i32 0,.pointer none,.map none]) (cl:=qbT) (ok:=qaT) (rel:=(qa5 v)) (L:=lst (T.at_ 5)) (size:=5) (qaJ v) cr (fun k=>[(2,.v (.bool false)),(7,.p 0 0),(9,.v (.bool (decide (v ≥ 0)))),(10,.p 1 0),(36,.v (.slice (some ⟨ai,0,none⟩) ((lst (T.at_ 5)).length) ao)),(37,.v (.int .i32 (((lst (T.at_ 5)).length:Nat):Int))),(38,.v (.int .i32 ((k:Nat):Int)))]) je qaY (fun ak aj _ _ bM jf fx=>?_) (fun _ _ fy=>?_)
   ·
    obtain ⟨jP,fz,fA⟩:∃ P',(∀ w F,P' w F → (jd w F ∧ qf1 ai 5 qbT qaT (qa5 v) (lst (T.at_ 5)) ak w F)) ∧ RS w (fun b o=>b = bv ∧ o < 8) F 288 aV [⟨bv,0,[.int .i16 v,.int .i32 (IntKind.i32.wrap (T.at_ 0).N),.int .i16 (IntKind.i16.wrap (T.at_ 1).N),.pointer au,.int .i32 av.n,.slice am.A am.l am.c,.slice none 0 0,.map none],true⟩,qbw ai 5 (.agg #[.int .i32 0,.string ByteArray.empty,.int .i32 0,.pointer none,.map none]) ((lst (T.at_ 5)).length) ak] [(2,.v (.bool false)),(7,.p 0 0),(9,.v (.bool (decide (v ≥ 0)))),(10,.p 1 0),(36,.v (.slice (some ⟨ai,0,none⟩) ((lst (T.at_ 5)).length) ao)),(37,.v (.int .i32 (((lst (T.at_ 5)).length:Nat):Int))),(38,.v (.int .i32 ((ak:Nat):Int)))] P' ((qaJ v) aj ++ (((lst (T.at_ 5)).drop (ak + 1)).flatMap (qaJ v) ++ cr)) _ _:=⟨_,fun _ _ h=>h,fx⟩
    clear fx
    obtain ⟨bN,fB⟩:∃ R,R = ((lst (T.at_ 5)).drop (ak + 1)).flatMap (qaJ v) ++ cr:=⟨_,rfl⟩
    have jg:=(e26_5e aj (List.mem_of_getElem? bM))
    have e371r:=(qfl (qd9 e26r 5) aj (List.mem_of_getElem? bM))
    unfold qbm at jg
    obtain ⟨e371_0,e371_1,e371_2,e371_3,e371_U,_⟩:=jg
    obtain ⟨bZ,fC⟩:∃ R,R = (if (decide (v ≥ 0)) = true then (uv aj.U.length) ++ (qck aj.U) else []) ++ bN:=⟨_,rfl⟩
    obtain ⟨jQ,fD⟩:∃ R,R = (if (decide (v ≥ 0)) = true then (if (aj.at_ 3).null = true then uv 0 else uv ((qbo (aj.at_ 3)).length + 1) ++ (qbo (aj.at_ 3))) else (if (aj.at_ 3).null = true then be 2 (-1) else be 2 (qbo (aj.at_ 3)).length ++ (qbo (aj.at_ 3)))) ++ bZ:=⟨_,rfl⟩
    obtain ⟨jR,fE⟩:∃ R,R = (be 4 ((IntKind.i32.wrap (aj.at_ 2).N))) ++ jQ:=⟨_,rfl⟩
    obtain ⟨jS,fF⟩:∃ R,R = (if (decide (v ≥ 0)) = true then (uv ((aj.at_ 1).S.length + 1) ++ (aj.at_ 1).S) else (be 2 (aj.at_ 1).S.length ++ (aj.at_ 1).S)) ++ jR:=⟨_,rfl⟩
    obtain ⟨jT,fG⟩:∃ R,R = (be 4 ((IntKind.i32.wrap (aj.at_ 0).N))) ++ jS:=⟨_,rfl⟩
    have fH:=fA.cast (t:=jT) (by rw [fG,fF,fE,fD,fC,← fB]; unfold qaJ; simp only [List.append_assoc])
    clear fA
    refine wp_seq (wp_seq (qbD [(2,.v (.bool false)),(7,.p 0 0),(9,.v (.bool (decide (v ≥ 0)))),(10,.p 1 0),(36,.v (.slice (some ⟨ai,0,none⟩) ((lst (T.at_ 5)).length) ao)),(37,.v (.int .i32 (((lst (T.at_ 5)).length:Nat):Int))),(38,.v (.int .i32 ((ak:Nat):Int))),(231,.v (.bool (decide (((ak:Nat):Int) < (((lst (T.at_ 5)).length:Nat):Int)))))] fH fun _ bO=>qab ?_))
    clear fH
    refine qa9 bO.env_ (b:=decide (((ak:Nat):Int) < (((lst (T.at_ 5)).length:Nat):Int))) kz (decide_eq_true (by omega)) ?_
    refine wp_skip (qab (wp_seq (wp_block (wp_seq (qh3 (t:=109) (e:=122) (size:=5) (bytes:=48) (d:=236) (tb:=[⟨bv,0,[.int .i16 v,.int .i32 (IntKind.i32.wrap (T.at_ 0).N),.int .i16 (IntKind.i16.wrap (T.at_ 1).N),.pointer au,.int .i32 av.n,.slice am.A am.l am.c,.slice none 0 0,.map none],true⟩]) (z:=.agg #[.int .i32 0,.string zE,.int .i32 0,.pointer none,.map none]) [(2,.v (.bool false)),(7,.p 0 0),(9,.v (.bool (decide (v ≥ 0)))),(10,.p 1 0),(36,.v (.slice (some ⟨ai,0,none⟩) ((lst (T.at_ 5)).length) ao)),(37,.v (.int .i32 (((lst (T.at_ 5)).length:Nat):Int))),(38,.v (.int .i32 ((ak:Nat):Int))),(234,.v (.slice (some ⟨ai,0,none⟩) ((lst (T.at_ 5)).length) ao)),(235,.v (.int .i32 ((ak:Nat):Int)))] [(2,.v (.bool false)),(7,.p 0 0),(9,.v (.bool (decide (v ≥ 0)))),(10,.p 1 0),(36,.v (.slice (some ⟨ai,0,none⟩) ((lst (T.at_ 5)).length) ao)),(37,.v (.int .i32 (((lst (T.at_ 5)).length:Nat):Int))),(38,.v (.int .i32 ((ak:Nat):Int))),(39,.p 3 0)] 2 bO jf rfl kz fun _ fI=>?_)))))
    clear bO
    have fJ:=fI.tbEq (tb':=[⟨bv,0,[.int .i16 v,.int .i32 (IntKind.i32.wrap (T.at_ 0).N),.int .i16 (IntKind.i16.wrap (T.at_ 1).N),.pointer au,.int .i32 av.n,.slice am.A am.l am.c,.slice none 0 0,.map none],true⟩,qbw ai 5 (.agg #[.int .i32 0,.string zE,.int .i32 0,.pointer none,.map none]) ((lst (T.at_ 5)).length) (ak + 1),⟨ai,ak * 5,[.int .i32 0,.string zE,.int .i32 0,.pointer none,.map none],true⟩]) rfl
    clear fI
    refine qab (wp_seq (qau [0,1] kz ?_))
    refine qcR [0] [1] [(2,.v (.bool false)),(7,.p 0 0),(9,.v (.bool (decide (v ≥ 0)))),(10,.p 1 0),(36,.v (.slice (some ⟨ai,0,none⟩) ((lst (T.at_ 5)).length) ao)),(37,.v (.int .i32 (((lst (T.at_ 5)).length:Nat):Int))),(38,.v (.int .i32 ((ak:Nat):Int))),(39,.p 3 0),(237,.p 3 0)] fJ fun _ fK=>?_
    clear fJ
    refine qan (qka (d:=238) (vs:=[.pointer (some ⟨ai,ak * 5,none⟩)]) fK (fun _=>qmd _ _ _) Tryz.call117 fun _ fL=>?_)
    clear fK
    refine qag ?_
    have fM:=fL.pk (env':=[(2,.v (.bool false)),(7,.p 0 0),(9,.v (.bool (decide (v ≥ 0)))),(10,.p 1 0),(36,.v (.slice (some ⟨ai,0,none⟩) ((lst (T.at_ 5)).length) ao)),(37,.v (.int .i32 (((lst (T.at_ 5)).length:Nat):Int))),(38,.v (.int .i32 ((ak:Nat):Int))),(39,.p 3 0)])
    clear fL
    refine qab (wp_seq (qbD [(2,.v (.bool false)),(7,.p 0 0),(9,.v (.bool (decide (v ≥ 0)))),(10,.p 1 0),(36,.v (.slice (some ⟨ai,0,none⟩) ((lst (T.at_ 5)).length) ao)),(37,.v (.int .i32 (((lst (T.at_ 5)).length:Nat):Int))),(38,.v (.int .i32 ((ak:Nat):Int))),(40,.p 3 0)] fM fun _ fN=>?_))
    clear fM
    refine qab (wp_seq (wp_seq ?_))
    have fO:=fN.cast fG
    clear fN
    refine qdY (d:=240) [(2,.v (.bool false)),(7,.p 0 0),(9,.v (.bool (decide (v ≥ 0)))),(10,.p 1 0),(36,.v (.slice (some ⟨ai,0,none⟩) ((lst (T.at_ 5)).length) ao)),(37,.v (.int .i32 (((lst (T.at_ 5)).length:Nat):Int))),(38,.v (.int .i32 ((ak:Nat):Int))),(40,.p 3 0),(41,.v (.int .i32 (IntKind.i32.wrap (aj.at_ 0).N)))] fO (qf3 _ _) Tryz.call95 fun _ _ fP=>?_
    clear fO
    refine qab (qc1 [⟨bv,0,[.int .i16 v,.int .i32 (IntKind.i32.wrap (T.at_ 0).N),.int .i16 (IntKind.i16.wrap (T.at_ 1).N),.pointer au,.int .i32 av.n,.slice am.A am.l am.c,.slice none 0 0,.map none],true⟩,qbw ai 5 (.agg #[.int .i32 0,.string zE,.int .i32 0,.pointer none,.map none]) ((lst (T.at_ 5)).length) (ak + 1),⟨ai,ak * 5,[.int .i32 (IntKind.i32.wrap (aj.at_ 0).N),.string zE,.int .i32 0,.pointer none,.map none],true⟩] 2 [(2,.v (.bool false)),(7,.p 0 0),(9,.v (.bool (decide (v ≥ 0)))),(10,.p 1 0),(36,.v (.slice (some ⟨ai,0,none⟩) ((lst (T.at_ 5)).length) ao)),(37,.v (.int .i32 (((lst (T.at_ 5)).length:Nat):Int))),(38,.v (.int .i32 ((ak:Nat):Int))),(40,.p 3 0)] fP fun _ _ fQ=>?_)
    clear fP
    refine qab (wp_seq (wp_seq (qbD [(2,.v (.bool false)),(7,.p 0 0),(9,.v (.bool (decide (v ≥ 0)))),(10,.p 1 0),(36,.v (.slice (some ⟨ai,0,none⟩) ((lst (T.at_ 5)).length) ao)),(37,.v (.int .i32 (((lst (T.at_ 5)).length:Nat):Int))),(38,.v (.int .i32 ((ak:Nat):Int))),(40,.p 3 0)] fQ fun _ fR=>?_)))
    clear fQ
    refine qab (wp_seq (wp_seq (qbD [(2,.v (.bool false)),(7,.p 0 0),(9,.v (.bool (decide (v ≥ 0)))),(10,.p 1 0),(36,.v (.slice (some ⟨ai,0,none⟩) ((lst (T.at_ 5)).length) ao)),(37,.v (.int .i32 (((lst (T.at_ 5)).length:Nat):Int))),(38,.v (.int .i32 ((ak:Nat):Int))),(40,.p 3 0),(245,.v (.bool false))] fR fun _ bP=>qab ?_)))
    clear fR
    refine qaq bP.env_ (b:=false) kz (rfl) ?_
    have fS:=bP.cast fF
    clear bP
    refine qgS (d1:=250) (d2:=251) [(2,.v (.bool false)),(7,.p 0 0),(9,.v (.bool (decide (v ≥ 0)))),(10,.p 1 0),(36,.v (.slice (some ⟨ai,0,none⟩) ((lst (T.at_ 5)).length) ao)),(37,.v (.int .i32 (((lst (T.at_ 5)).length:Nat):Int))),(38,.v (.int .i32 ((ak:Nat):Int))),(40,.p 3 0),(249,.v (.bool (decide (v ≥ 0))))] [(2,.v (.bool false)),(7,.p 0 0),(9,.v (.bool (decide (v ≥ 0)))),(10,.p 1 0),(36,.v (.slice (some ⟨ai,0,none⟩) ((lst (T.at_ 5)).length) ao)),(37,.v (.int .i32 (((lst (T.at_ 5)).length:Nat):Int))),(38,.v (.int .i32 ((ak:Nat):Int))),(40,.p 3 0),(42,.v (.string (bs (aj.at_ 1).S)))] fS (qgc (aj.at_ 1).S e371_1 _) Tryz.call86 (qlH (aj.at_ 1).S e371_1 _) Tryz.call87 fun _ _ fT=>?_
    clear fS
    refine qab (qc1 [⟨bv,0,[.int .i16 v,.int .i32 (IntKind.i32.wrap (T.at_ 0).N),.int .i16 (IntKind.i16.wrap (T.at_ 1).N),.pointer au,.int .i32 av.n,.slice am.A am.l am.c,.slice none 0 0,.map none],true⟩,qbw ai 5 (.agg #[.int .i32 0,.string zE,.int .i32 0,.pointer none,.map none]) ((lst (T.at_ 5)).length) (ak + 1),⟨ai,ak * 5,[.int .i32 (IntKind.i32.wrap (aj.at_ 0).N),.string (bs (aj.at_ 1).S),.int .i32 0,.pointer none,.map none],true⟩] 2 [(2,.v (.bool false)),(7,.p 0 0),(9,.v (.bool (decide (v ≥ 0)))),(10,.p 1 0),(36,.v (.slice (some ⟨ai,0,none⟩) ((lst (T.at_ 5)).length) ao)),(37,.v (.int .i32 (((lst (T.at_ 5)).length:Nat):Int))),(38,.v (.int .i32 ((ak:Nat):Int))),(40,.p 3 0)] fT fun _ _ fU=>?_)
    clear fT
    refine qab (wp_seq (wp_seq ?_))
    have fV:=fU.cast fE
    clear fU
    refine qdY (d:=256) [(2,.v (.bool false)),(7,.p 0 0),(9,.v (.bool (decide (v ≥ 0)))),(10,.p 1 0),(36,.v (.slice (some ⟨ai,0,none⟩) ((lst (T.at_ 5)).length) ao)),(37,.v (.int .i32 (((lst (T.at_ 5)).length:Nat):Int))),(38,.v (.int .i32 ((ak:Nat):Int))),(40,.p 3 0),(43,.v (.int .i32 (IntKind.i32.wrap (aj.at_ 2).N)))] fV (qf3 _ _) Tryz.call95 fun _ _ fW=>?_
    clear fV
    refine qab (qc1 [⟨bv,0,[.int .i16 v,.int .i32 (IntKind.i32.wrap (T.at_ 0).N),.int .i16 (IntKind.i16.wrap (T.at_ 1).N),.pointer au,.int .i32 av.n,.slice am.A am.l am.c,.slice none 0 0,.map none],true⟩,qbw ai 5 (.agg #[.int .i32 0,.string zE,.int .i32 0,.pointer none,.map none]) ((lst (T.at_ 5)).length) (ak + 1),⟨ai,ak * 5,[.int .i32 (IntKind.i32.wrap (aj.at_ 0).N),.string (bs (aj.at_ 1).S),.int .i32 (IntKind.i32.wrap (aj.at_ 2).N),.pointer none,.map none],true⟩] 2 [(2,.v (.bool false)),(7,.p 0 0),(9,.v (.bool (decide (v ≥ 0)))),(10,.p 1 0),(36,.v (.slice (some ⟨ai,0,none⟩) ((lst (T.at_ 5)).length) ao)),(37,.v (.int .i32 (((lst (T.at_ 5)).length:Nat):Int))),(38,.v (.int .i32 ((ak:Nat):Int))),(40,.p 3 0)] fW fun _ _ fX=>?_)
    clear fW
    refine qab (wp_seq (wp_seq (qbD [(2,.v (.bool false)),(7,.p 0 0),(9,.v (.bool (decide (v ≥ 0)))),(10,.p 1 0),(36,.v (.slice (some ⟨ai,0,none⟩) ((lst (T.at_ 5)).length) ao)),(37,.v (.int .i32 (((lst (T.at_ 5)).length:Nat):Int))),(38,.v (.int .i32 ((ak:Nat):Int))),(40,.p 3 0)] fX fun _ fY=>?_)))
    clear fX
    refine qab (wp_seq ?_)
    have fZ:=fY.cast fD
    clear fY
    refine qc8 (Mid:=fun a_ w_=>∃ (aP:Option Addr) (P':qcz),(∀ w F,P' w F → jP w F ∧ qi0 aP (qbo (aj.at_ 3)) w F ∧ aP.isNone = (aj.at_ 3).null) ∧ RS w (fun b o=>b = bv ∧ o < 8) F 288 aV [⟨bv,0,[.int .i16 v,.int .i32 (IntKind.i32.wrap (T.at_ 0).N),.int .i16 (IntKind.i16.wrap (T.at_ 1).N),.pointer au,.int .i32 av.n,.slice am.A am.l am.c,.slice none 0 0,.map none],true⟩,qbw ai 5 (.agg #[.int .i32 0,.string ByteArray.empty,.int .i32 0,.pointer none,.map none]) ((lst (T.at_ 5)).length) (ak + 1),⟨ai,ak * 5,[.int .i32 (IntKind.i32.wrap (aj.at_ 0).N),.string (bs (aj.at_ 1).S),.int .i32 (IntKind.i32.wrap (aj.at_ 2).N),.pointer none,.map none],true⟩] [(2,.v (.bool false)),(7,.p 0 0),(9,.v (.bool (decide (v ≥ 0)))),(10,.p 1 0),(36,.v (.slice (some ⟨ai,0,none⟩) ((lst (T.at_ 5)).length) ao)),(37,.v (.int .i32 (((lst (T.at_ 5)).length:Nat):Int))),(38,.v (.int .i32 ((ak:Nat):Int))),(40,.p 3 0),(44,.v (.pointer aP))] P' bZ a_ w_) ?_ ?_
    ·
     refine wp_seq (qbD [(2,.v (.bool false)),(7,.p 0 0),(9,.v (.bool (decide (v ≥ 0)))),(10,.p 1 0),(36,.v (.slice (some ⟨ai,0,none⟩) ((lst (T.at_ 5)).length) ao)),(37,.v (.int .i32 (((lst (T.at_ 5)).length:Nat):Int))),(38,.v (.int .i32 ((ak:Nat):Int))),(40,.p 3 0),(261,.v (.bool (decide (v ≥ 0))))] fZ fun _ aQ=>qab ?_)
     clear fZ
     refine qax aQ.env_ (b:=decide (v ≥ 0)) kz (fun bQ=>?_) (fun bQ=>?_)
     ·
      have f5:=aQ.cast (t:=(if (aj.at_ 3).null = true then uv 0 else uv ((qbo (aj.at_ 3)).length + 1) ++ (qbo (aj.at_ 3))) ++ bZ) (by rw [if_pos bQ])
      clear aQ
      refine wp_seq (qbD [(2,.v (.bool false)),(7,.p 0 0),(9,.v (.bool (decide (v ≥ 0)))),(10,.p 1 0),(36,.v (.slice (some ⟨ai,0,none⟩) ((lst (T.at_ 5)).length) ao)),(37,.v (.int .i32 (((lst (T.at_ 5)).length:Nat):Int))),(38,.v (.int .i32 ((ak:Nat):Int))),(40,.p 3 0),(262,.v (.bool false))] f5 fun _ bR=>qab ?_)
      clear f5
      refine qaq bR.env_ (b:=false) kz (rfl) ?_
      refine qi1 (d:=264) (fun cd=>[(2,.v (.bool false)),(7,.p 0 0),(9,.v (.bool (decide (v ≥ 0)))),(10,.p 1 0),(36,.v (.slice (some ⟨ai,0,none⟩) ((lst (T.at_ 5)).length) ao)),(37,.v (.int .i32 (((lst (T.at_ 5)).length:Nat):Int))),(38,.v (.int .i32 ((ak:Nat):Int))),(40,.p 3 0),(44,.v (.pointer cd))]) bR (qco (aj.at_ 3).null (qbo (aj.at_ 3)) e371_3 _) (fun _=>(MvF.text _ _).and (MvF.is _)) Tryz.call110 fun cd kg _ _ f7 jh=>?_
      clear bR
      refine qab ?_
      exact ⟨cd,_,fun w F h_=>⟨(f7 _ _ h_).1,(f7 _ _ h_).2⟩,jh.pk (env':=[(2,.v (.bool false)),(7,.p 0 0),(9,.v (.bool (decide (v ≥ 0)))),(10,.p 1 0),(36,.v (.slice (some ⟨ai,0,none⟩) ((lst (T.at_ 5)).length) ao)),(37,.v (.int .i32 (((lst (T.at_ 5)).length:Nat):Int))),(38,.v (.int .i32 ((ak:Nat):Int))),(40,.p 3 0),(44,.v (.pointer cd))])⟩
     have f8:=aQ.cast (t:=(if (aj.at_ 3).null = true then be 2 (-1) else be 2 (qbo (aj.at_ 3)).length ++ (qbo (aj.at_ 3))) ++ bZ) (by rw [if_neg (by rw [bQ]; decide)])
     clear aQ
     refine wp_seq (qbD [(2,.v (.bool false)),(7,.p 0 0),(9,.v (.bool (decide (v ≥ 0)))),(10,.p 1 0),(36,.v (.slice (some ⟨ai,0,none⟩) ((lst (T.at_ 5)).length) ao)),(37,.v (.int .i32 (((lst (T.at_ 5)).length:Nat):Int))),(38,.v (.int .i32 ((ak:Nat):Int))),(40,.p 3 0),(265,.v (.bool false))] f8 fun _ bS=>qab ?_)
     clear f8
     refine qaq bS.env_ (b:=false) kz (rfl) ?_
     refine qi1 (d:=267) (fun ce=>[(2,.v (.bool false)),(7,.p 0 0),(9,.v (.bool (decide (v ≥ 0)))),(10,.p 1 0),(36,.v (.slice (some ⟨ai,0,none⟩) ((lst (T.at_ 5)).length) ao)),(37,.v (.int .i32 (((lst (T.at_ 5)).length:Nat):Int))),(38,.v (.int .i32 ((ak:Nat):Int))),(40,.p 3 0),(44,.v (.pointer ce))]) bS (qdj (aj.at_ 3).null (qbo (aj.at_ 3)) e371_3 _) (fun _=>(MvF.text _ _).and (MvF.is _)) Tryz.call112 fun ce kh _ _ f9 ji=>?_
     clear bS
     refine qab ?_
     exact ⟨ce,_,fun w F h_=>⟨(f9 _ _ h_).1,(f9 _ _ h_).2⟩,ji.pk (env':=[(2,.v (.bool false)),(7,.p 0 0),(9,.v (.bool (decide (v ≥ 0)))),(10,.p 1 0),(36,.v (.slice (some ⟨ai,0,none⟩) ((lst (T.at_ 5)).length) ao)),(37,.v (.int .i32 (((lst (T.at_ 5)).length:Nat):Int))),(38,.v (.int .i32 ((ak:Nat):Int))),(40,.p 3 0),(44,.v (.pointer ce))])⟩
    rintro _ _ ⟨aP,jU,bj,ga⟩
    refine qab (qc1 [⟨bv,0,[.int .i16 v,.int .i32 (IntKind.i32.wrap (T.at_ 0).N),.int .i16 (IntKind.i16.wrap (T.at_ 1).N),.pointer au,.int .i32 av.n,.slice am.A am.l am.c,.slice none 0 0,.map none],true⟩,qbw ai 5 (.agg #[.int .i32 0,.string zE,.int .i32 0,.pointer none,.map none]) ((lst (T.at_ 5)).length) (ak + 1),⟨ai,ak * 5,[.int .i32 (IntKind.i32.wrap (aj.at_ 0).N),.string (bs (aj.at_ 1).S),.int .i32 (IntKind.i32.wrap (aj.at_ 2).N),.pointer aP,.map none],true⟩] 2 [(2,.v (.bool false)),(7,.p 0 0),(9,.v (.bool (decide (v ≥ 0)))),(10,.p 1 0),(36,.v (.slice (some ⟨ai,0,none⟩) ((lst (T.at_ 5)).length) ao)),(37,.v (.int .i32 (((lst (T.at_ 5)).length:Nat):Int))),(38,.v (.int .i32 ((ak:Nat):Int))),(40,.p 3 0)] ga fun _ _ gb=>?_)
    clear ga
    refine qab ?_
    have gc:=gb.cast fC
    clear gb
    refine qc8 (Mid:=fun a_ w_=>∃ (cm:Option Nat) (aZ:List (Int × Bs)) (P':qcz),(∀ w F,P' w F → jU w F ∧ (MapR w F cm aZ ∧ aZ.length ≤ 1000000 ∧ ∀ x ∈ aZ,x.2.length < 4294967296) ∧ ((decide (v ≥ 0)) = true → aZ = aj.U) ∧ ((decide (v ≥ 0)) = false → aZ = [])) ∧ RS w (fun b o=>b = bv ∧ o < 8) F 288 aV [⟨bv,0,[.int .i16 v,.int .i32 (IntKind.i32.wrap (T.at_ 0).N),.int .i16 (IntKind.i16.wrap (T.at_ 1).N),.pointer au,.int .i32 av.n,.slice am.A am.l am.c,.slice none 0 0,.map none],true⟩,qbw ai 5 (.agg #[.int .i32 0,.string ByteArray.empty,.int .i32 0,.pointer none,.map none]) ((lst (T.at_ 5)).length) (ak + 1),⟨ai,ak * 5,[.int .i32 (IntKind.i32.wrap (aj.at_ 0).N),.string (bs (aj.at_ 1).S),.int .i32 (IntKind.i32.wrap (aj.at_ 2).N),.pointer aP,.map cm],true⟩] [(2,.v (.bool false)),(7,.p 0 0),(9,.v (.bool (decide (v ≥ 0)))),(10,.p 1 0),(36,.v (.slice (some ⟨ai,0,none⟩) ((lst (T.at_ 5)).length) ao)),(37,.v (.int .i32 (((lst (T.at_ 5)).length:Nat):Int))),(38,.v (.int .i32 ((ak:Nat):Int)))] P' bN a_ w_) ?_ ?_
    ·
     refine wp_seq (qbD [(2,.v (.bool false)),(7,.p 0 0),(9,.v (.bool (decide (v ≥ 0)))),(10,.p 1 0),(36,.v (.slice (some ⟨ai,0,none⟩) ((lst (T.at_ 5)).length) ao)),(37,.v (.int .i32 (((lst (T.at_ 5)).length:Nat):Int))),(38,.v (.int .i32 ((ak:Nat):Int))),(40,.p 3 0),(272,.v (.bool (decide (v ≥ 0))))] gc fun _ aR=>qab ?_)
     clear gc
     refine qax aR.env_ (b:=decide (v ≥ 0)) kz (fun aS=>?_) (fun aS=>?_)
     ·
      have gd:=aR.cast (t:=((uv aj.U.length) ++ (qck aj.U)) ++ bN) (by rw [if_pos aS])
      clear aR
      refine qau [0,1,2,3,4] kz ?_
      refine qcR [0] [1,2,3,4] [(2,.v (.bool false)),(7,.p 0 0),(9,.v (.bool (decide (v ≥ 0)))),(10,.p 1 0),(36,.v (.slice (some ⟨ai,0,none⟩) ((lst (T.at_ 5)).length) ao)),(37,.v (.int .i32 (((lst (T.at_ 5)).length:Nat):Int))),(38,.v (.int .i32 ((ak:Nat):Int))),(273,.p 3 0)] gd fun _ ge=>?_
      clear gd
      refine qan (qfn (d:=274) ge (qkb aj.U e371_U (qeu e371r) _) (fun _=>MvF.tags _ _) Tryz.call96 fun gR ki _ _ gg gh=>?_)
      clear ge
      refine qcR [2,3] [4] [(2,.v (.bool false)),(7,.p 0 0),(9,.v (.bool (decide (v ≥ 0)))),(10,.p 1 0),(36,.v (.slice (some ⟨ai,0,none⟩) ((lst (T.at_ 5)).length) ao)),(37,.v (.int .i32 (((lst (T.at_ 5)).length:Nat):Int))),(38,.v (.int .i32 ((ak:Nat):Int))),(274,.v (.agg #[.map gR])),(276,.p 3 4)] gh fun _ gi=>?_
      clear gh
      refine qan (qex [⟨bv,0,[.int .i16 v,.int .i32 (IntKind.i32.wrap (T.at_ 0).N),.int .i16 (IntKind.i16.wrap (T.at_ 1).N),.pointer au,.int .i32 av.n,.slice am.A am.l am.c,.slice none 0 0,.map none],true⟩,qbw ai 5 (.agg #[.int .i32 0,.string zE,.int .i32 0,.pointer none,.map none]) ((lst (T.at_ 5)).length) (ak + 1),⟨ai,ak * 5,[.int .i32 (IntKind.i32.wrap (aj.at_ 0).N),.string (bs (aj.at_ 1).S),.int .i32 (IntKind.i32.wrap (aj.at_ 2).N),.pointer aP,.map gR],true⟩] 2 gi fun _ gj=>?_)
      clear gi
      refine qag ?_
      have jj:=gj.pk (env':=[(2,.v (.bool false)),(7,.p 0 0),(9,.v (.bool (decide (v ≥ 0)))),(10,.p 1 0),(36,.v (.slice (some ⟨ai,0,none⟩) ((lst (T.at_ 5)).length) ao)),(37,.v (.int .i32 (((lst (T.at_ 5)).length:Nat):Int))),(38,.v (.int .i32 ((ak:Nat):Int)))])
      clear gj
      refine qab ?_
      exact ⟨gR,aj.U,_,fun w F h_=>⟨(gg _ _ h_).1,⟨(gg _ _ h_).2,e371_U.2.1,e371_U.2.2⟩,⟨fun _=>rfl,(fun e_=>by rw [aS] at e_; cases e_)⟩⟩,jj.pk (env':=[(2,.v (.bool false)),(7,.p 0 0),(9,.v (.bool (decide (v ≥ 0)))),(10,.p 1 0),(36,.v (.slice (some ⟨ai,0,none⟩) ((lst (T.at_ 5)).length) ao)),(37,.v (.int .i32 (((lst (T.at_ 5)).length:Nat):Int))),(38,.v (.int .i32 ((ak:Nat):Int)))])⟩
     have gk:=aR.cast (t:=[] ++ bN) (by rw [if_neg (by rw [aS]; decide)])
     clear aR
     have jk:=gk.cast (t:=bN) rfl
     clear gk
     refine wp_skip (qab ?_)
     exact ⟨none,[],_,fun w F h_=>⟨h_,⟨MapR.nil _ _,Nat.zero_le _,fun _ h=>by cases h⟩,⟨(fun e_=>by rw [aS] at e_; cases e_),fun _=>rfl⟩⟩,jk.pk (env':=[(2,.v (.bool false)),(7,.p 0 0),(9,.v (.bool (decide (v ≥ 0)))),(10,.p 1 0),(36,.v (.slice (some ⟨ai,0,none⟩) ((lst (T.at_ 5)).length) ao)),(37,.v (.int .i32 (((lst (T.at_ 5)).length:Nat):Int))),(38,.v (.int .i32 ((ak:Nat):Int)))])⟩
    rintro _ _ ⟨cm,aZ,kj,aA,gl⟩
    refine qav (qab (qbD [(2,.v (.bool false)),(7,.p 0 0),(9,.v (.bool (decide (v ≥ 0)))),(10,.p 1 0),(36,.v (.slice (some ⟨ai,0,none⟩) ((lst (T.at_ 5)).length) ao)),(37,.v (.int .i32 (((lst (T.at_ 5)).length:Nat):Int))),(38,.v (.int .i32 (IntKind.i32.wrap (((ak:Nat):Int) + 1))))] gl fun _ gm=>?_))
    clear gl
    refine qab ?_
    have jl:=(gm.envEq (env':=[(2,.v (.bool false)),(7,.p 0 0),(9,.v (.bool (decide (v ≥ 0)))),(10,.p 1 0),(36,.v (.slice (some ⟨ai,0,none⟩) ((lst (T.at_ 5)).length) ao)),(37,.v (.int .i32 (((lst (T.at_ 5)).length:Nat):Int))),(38,.v (.int .i32 ((ak + 1:Nat):Int)))]) (by rw [qgU (by have:=e26_5; omega)])).pk (env':=[(2,.v (.bool false)),(7,.p 0 0),(9,.v (.bool (decide (v ≥ 0)))),(10,.p 1 0),(36,.v (.slice (some ⟨ai,0,none⟩) ((lst (T.at_ 5)).length) ao)),(37,.v (.int .i32 (((lst (T.at_ 5)).length:Nat):Int))),(38,.v (.int .i32 ((ak + 1:Nat):Int)))])
    clear gm
    exact (RS.thing (tb:=[⟨bv,0,[.int .i16 v,.int .i32 (IntKind.i32.wrap (T.at_ 0).N),.int .i16 (IntKind.i16.wrap (T.at_ 1).N),.pointer au,.int .i32 av.n,.slice am.A am.l am.c,.slice none 0 0,.map none],true⟩]) (z:=.agg #[.int .i32 0,.string ByteArray.empty,.int .i32 0,.pointer none,.map none]) (D:=(dvP cm aZ [dvN (IntKind.i32.wrap (aj.at_ 0).N),dvS (bs (aj.at_ 1).S),dvN (IntKind.i32.wrap (aj.at_ 2).N),dvT aP (bs (qbo (aj.at_ 3)))])) (jl.cast fB) hg_g352 bM qaY bL rfl (fun w F h_=>⟨(fz _ _ (bj _ _ (aA _ _ h_).1).1).1,(fz _ _ (bj _ _ (aA _ _ h_).1).1).2,⟨(trivial),(by show ByteArray.size (bs _) ≤ 1000000; rw [qgK]; exact Nat.le_trans e371_1 (by decide)),(trivial),(⟨(bj _ _ (aA _ _ h_).1).2.1,by show ByteArray.size (bs _) ≤ 1000000; rw [qgK]; exact Nat.le_trans e371_3 (by decide)⟩),(aA _ _ h_).2.1.1,(aA _ _ h_).2.1.2.1,(aA _ _ h_).2.1.2.2,trivial⟩,⟨(rfl),(rfl),(rfl),(⟨rfl,(bj _ _ (aA _ _ h_).1).2.2⟩),(aA _ _ h_).2.2,trivial⟩⟩) kz)
   refine wp_seq (wp_seq (qbD [(2,.v (.bool false)),(7,.p 0 0),(9,.v (.bool (decide (v ≥ 0)))),(10,.p 1 0),(36,.v (.slice (some ⟨ai,0,none⟩) ((lst (T.at_ 5)).length) ao)),(37,.v (.int .i32 (((lst (T.at_ 5)).length:Nat):Int))),(38,.v (.int .i32 (((lst (T.at_ 5)).length:Nat):Int))),(231,.v (.bool (decide ((((lst (T.at_ 5)).length:Nat):Int) < (((lst (T.at_ 5)).length:Nat):Int)))))] fy fun _ gn=>qab ?_))
   clear fy
   refine qaq gn.env_ (b:=decide ((((lst (T.at_ 5)).length:Nat):Int) < (((lst (T.at_ 5)).length:Nat):Int))) kz (decide_eq_false (by omega)) ?_
   refine wp_exit (qay (qay (qaQ (qab ?_))))
   obtain ⟨jV,jm⟩:=RS.listEnd (tb:=[⟨bv,0,[.int .i16 v,.int .i32 (IntKind.i32.wrap (T.at_ 0).N),.int .i16 (IntKind.i16.wrap (T.at_ 1).N),.pointer au,.int .i32 av.n,.slice am.A am.l am.c,.slice none 0 0,.map none],true⟩]) (c:=ao) (gn.pk (env':=[(7,.p 0 0),(9,.v (.bool (decide (v ≥ 0)))),(10,.p 1 0),(36,.v (.slice (some ⟨ai,0,none⟩) ((lst (T.at_ 5)).length) ao))])) hg_g352 qaY bL hcap_g352 (by have:=e26_5; omega) hn_g352 kz
   exact ⟨dvL (some ⟨ai,0,none⟩) (lst (T.at_ 5)).length ao jV,_,fun w F h_=>⟨h_.1,⟨h_.2.1,Nat.le_trans e26_5 (by decide),h_.2.2.1⟩,⟨rfl,h_.2.2.2⟩⟩,jm⟩
  refine wp_skip (qab (wp_seq (qbD [(2,.v (.bool false)),(7,.p 0 0),(9,.v (.bool (decide (v ≥ 0)))),(10,.p 1 0),(36,.v (.slice none 0 0)),(37,.v (.int .i32 (((lst (T.at_ 5)).length:Nat):Int))),(38,.v (.int .i32 0))] aO fun _ gp=>?_)))
  clear aO
  refine qab (wp_block (qfG (wp_seq (wp_seq (qbD [(2,.v (.bool false)),(7,.p 0 0),(9,.v (.bool (decide (v ≥ 0)))),(10,.p 1 0),(36,.v (.slice none 0 0)),(37,.v (.int .i32 (((lst (T.at_ 5)).length:Nat):Int))),(38,.v (.int .i32 0)),(231,.v (.bool (decide (0 < (((lst (T.at_ 5)).length:Nat):Int)))))] gp fun _ gq=>qab ?_)))))
  clear gp
  refine qaq gq.env_ (b:=decide (0 < (((lst (T.at_ 5)).length:Nat):Int))) kz (decide_eq_false (by have h_:=zF bi; omega)) ?_
  refine wp_exit (qay (qay (qaQ (qab ?_))))
  have hz_:(lst (T.at_ 5)).length = 0:=by have h_:=zF bi; omega
  exact ⟨dvL none 0 0 (fun _=>dv0),_,fun w F h_=>⟨h_,⟨Slots.nil _ _ _ _,Nat.zero_le _,fun _ h=>absurd h (Nat.not_lt_zero _)⟩,⟨hz_.symm,fun _ h=>absurd h (Nat.not_lt_zero _)⟩⟩,(gq.cast (t:=cr) (by rw [List.eq_nil_of_length_eq_zero hz_]; rfl)).pk (env':=[(7,.p 0 0),(9,.v (.bool (decide (v ≥ 0)))),(10,.p 1 0),(36,.v (.slice none 0 0))])⟩
 rintro _ _ ⟨ar,jW,aB,gt⟩
 refine wp_seq (qbD [(7,.p 0 0),(9,.v (.bool (decide (v ≥ 0)))),(10,.p 1 0),(35,.v (.slice ar.A ar.l ar.c))] gt fun _ gv=>?_)
 clear gt
 refine qab (qc1 [⟨bv,0,[.int .i16 v,.int .i32 (IntKind.i32.wrap (T.at_ 0).N),.int .i16 (IntKind.i16.wrap (T.at_ 1).N),.pointer au,.int .i32 av.n,.slice am.A am.l am.c,.slice ar.A ar.l ar.c,.map none],true⟩] 0 [(7,.p 0 0),(9,.v (.bool (decide (v ≥ 0)))),(10,.p 1 0)] gv fun _ _ gw=>?_)
 clear gv
 refine qab (wp_seq ?_)
 have gx:=gw.cast gU
 clear gw
 refine qc8 (Mid:=fun a_ w_=>∃ (cq:Option Nat) (ba:List (Int × Bs)) (P':qcz),(∀ w F,P' w F → jW w F ∧ (MapR w F cq ba ∧ ba.length ≤ 1000000 ∧ ∀ x ∈ ba,x.2.length < 4294967296) ∧ ((decide (v ≥ 0)) = true → ba = T.U) ∧ ((decide (v ≥ 0)) = false → ba = [])) ∧ RS w (fun b o=>b = bv ∧ o < 8) F 288 aV [⟨bv,0,[.int .i16 v,.int .i32 (IntKind.i32.wrap (T.at_ 0).N),.int .i16 (IntKind.i16.wrap (T.at_ 1).N),.pointer au,.int .i32 av.n,.slice am.A am.l am.c,.slice ar.A ar.l ar.c,.map cq],true⟩] [(7,.p 0 0)] P' ([]:Bs) a_ w_) ?_ ?_
 ·
  refine wp_seq (qbD [(7,.p 0 0),(10,.p 1 0),(282,.v (.bool (decide (v ≥ 0))))] gx fun _ aT=>qab ?_)
  clear gx
  refine qax aT.env_ (b:=decide (v ≥ 0)) kz (fun aU=>?_) (fun aU=>?_)
  ·
   have gy:=aT.cast (t:=((uv T.U.length) ++ (qck T.U)) ++ ([]:Bs)) (by rw [if_pos aU])
   clear aT
   refine qau [0,1,2,3,4] kz ?_
   refine qcR [0] [1,2,3,4] [(7,.p 0 0),(283,.p 1 0)] gy fun _ gz=>?_
   clear gy
   refine qan (qfn (d:=284) gz (qkb T.U e26_U (qeu e26r) _) (fun _=>MvF.tags _ _) Tryz.call96 fun gS km _ _ gA gB=>?_)
   clear gz
   refine qcR [2,3] [4] [(7,.p 0 0),(284,.v (.agg #[.map gS])),(286,.p 1 7)] gB fun _ gC=>?_
   clear gB
   refine qan (qex [⟨bv,0,[.int .i16 v,.int .i32 (IntKind.i32.wrap (T.at_ 0).N),.int .i16 (IntKind.i16.wrap (T.at_ 1).N),.pointer au,.int .i32 av.n,.slice am.A am.l am.c,.slice ar.A ar.l ar.c,.map gS],true⟩] 0 gC fun _ gD=>?_)
   clear gC
   refine qag ?_
   have jn:=gD.pk (env':=[(7,.p 0 0)])
   clear gD
   refine qab ?_
   exact ⟨gS,T.U,_,fun w F h_=>⟨(gA _ _ h_).1,⟨(gA _ _ h_).2,e26_U.2.1,e26_U.2.2⟩,⟨fun _=>rfl,(fun e_=>by rw [aU] at e_; cases e_)⟩⟩,jn.pk (env':=[(7,.p 0 0)])⟩
  have gE:=aT.cast (t:=[] ++ ([]:Bs)) (by rw [if_neg (by rw [aU]; decide)])
  clear aT
  have jo:=gE.cast (t:=([]:Bs)) rfl
  clear gE
  refine wp_skip (qab ?_)
  exact ⟨none,[],_,fun w F h_=>⟨h_,⟨MapR.nil _ _,Nat.zero_le _,fun _ h=>by cases h⟩,⟨(fun e_=>by rw [aU] at e_; cases e_),fun _=>rfl⟩⟩,jo.pk (env':=[(7,.p 0 0)])⟩
 rintro _ _ ⟨cq,ba,ko,ax,gF⟩
 refine qab (wp_seq (qau [0,1] kz (qan (qhZ (d:=287) gF qj7 Tryz.call93 fun _ gG=>?_))))
 clear gF
 refine qcR [1] [] [(6,.v (.nilIface))] gG fun _ gH=>qag ?_
 clear gG
 refine qab (wp_ret ?_)
 obtain ⟨A_,m_,c_,hW_,hr_,hE_,hP_⟩:=gH.open_
 refine qaK hE_ hW_.cells (v:=.nilIface) kz ?_
 have h_:=gH.mv.mono qbP hP_
 refine ⟨(dvP cq ba [dvN (IntKind.i32.wrap (T.at_ 0).N),dvN (IntKind.i16.wrap (T.at_ 1).N),dvT au (bs (qbo (T.at_ 2))),av,am,ar]),rfl,Str.of hW_ 1 rfl,?_,?_,hW_.step⟩
 ·unfold qbp
  exact ⟨(trivial),(trivial),(⟨(iw _ _ (bT _ _ (aD _ _ (aB _ _ (ax _ _ h_).1).1).1).1).2.1,by show ByteArray.size (bs _) ≤ 1000000; rw [qgK]; exact Nat.le_trans e26_2 (by decide)⟩),((bT _ _ (aD _ _ (aB _ _ (ax _ _ h_).1).1).1).2.1),((aD _ _ (aB _ _ (ax _ _ h_).1).1).2.1),((aB _ _ (ax _ _ h_).1).2.1),(ax _ _ h_).2.1.1,(ax _ _ h_).2.1.2.1,(ax _ _ h_).2.1.2.2,trivial⟩
 unfold qbj
 exact ⟨(rfl),(rfl),(⟨rfl,(iw _ _ (bT _ _ (aD _ _ (aB _ _ (ax _ _ h_).1).1).1).1).2.2⟩),((bT _ _ (aD _ _ (aB _ _ (ax _ _ h_).1).1).1).2.2),((aD _ _ (aB _ _ (ax _ _ h_).1).1).2.2),((aB _ _ (ax _ _ h_).1).2.2),(ax _ _ h_).2.2,trivial⟩
theorem qcB:qga qbp:=by
 intro w w' F F' M d hs hM hF h
 unfold qbp at h ⊢
 obtain ⟨g0,g1,⟨g2,g2l⟩,g3,⟨g4,g4l,g4e⟩,⟨g5,g5l,g5e⟩,t1,t2,t3,_⟩:=h
 exact ⟨g0,g1,⟨fun ad hA=>by
  obtain ⟨b,o,h1,h2⟩:=g2 ad hA
  exact ⟨b,o,h1,h2.move hs hM hF⟩,g2l⟩,g3,⟨g4.move hs hM hF,g4l,fun i hi=>qa7 _ hs hM hF (g4e i hi)⟩,⟨g5.move hs hM hF,g5l,fun i hi=>qaY _ hs hM hF (g5e i hi)⟩,t1.move hs hM hF,t2,t3,trivial⟩
end Go.Proofs.YtdlaobdadlmcdaaGreatDoor.ME
namespace Go.Proofs.YtdlaobdadlmcdaaGreatDoor.ME
open Go
open Go.RowKit
open Go.ChangeMaps (setBlock)
set_option linter.unusedVariables false
set_option linter.unusedSimpArgs false
set_option maxRecDepth 20000
abbrev cloV (fc:Nat) (cap:Value):Value:=.func (.func fc) #[] #[cap]
theorem qme {fc:Nat} {cap:Value} {m:Option Nat} {u:List (Int × Bs)} {b o:Nat} {w:World} {F M:Nat → Nat → Prop} (hcf:∀ args w,(callFunc fc args).run Tryz.prog w = .ok (.enter fc args) w) (I:World → Nat → World → Prop) (hat:AtF w F b o [.map m]) (hm:MapR w F m u) (hMF:∀ b o,F b o → ¬ M b o) (hMlt:∀ b o,M b o → b < w.heap.size)
  (hI0:∀ w7,Step w w7 Nil → I w7 0 w7) (hIs:∀ w7 j w8,I w7 j w8 → Step w7 w8 M)
  (hI1:∀ w7,Step w w7 Nil → ∀ j k x w8 Ax cx,I w7 j w8 → u[j]? = some (k,x) → (0 ≤ k ∧ k < 4294967296) → Octs w8 (fun b o=>F b o ∧ b < w7.heap.size) Ax cx x → Calls Tryz.prog fc [.int .u32 k,.slice Ax x.length cx,cap].toArray w8 (fun e w9=>e = .returned (.tuple #[]) ∧ I w7 (j + 1) w9)) (hul:u.length ≤ 1000000) :
  Calls Tryz.prog 59 [.pointer (some ⟨b,o,none⟩),cloV fc cap].toArray w (fun e w'=>e = .returned (.tuple #[]) ∧ ∃ w7,Step w w7 Nil ∧ I w7 u.length w'):=by
 refine enter (n:=53) Tryz.func59 rfl Tryz.ntmps59 kz fun a hE=>?_
 have hW:WOk w Nil w [⟨b,o,[.map m],false⟩] []:=(WOk.start w Nil).start1 hat rfl rfl
 refine wp_seq (wp_seq ?_)
 refine qau [0,1,2,3,4,5] kz ?_
 refine qb5 [0,1,2,3] [4,5] [0,1,11] hW (EnvOk.ptr0 (cs:=[.map m]) (r:=false) hE) (env':=[(0,.p 0 0),(1,.v (cloV fc cap)),(11,.v (.map m))]) kz rfl fun a1 hE1=>?_
 refine qan (qhd (t:=79) (kt:=64) (et:=22) hE1 (m:=m) (d:=12) kz kz hm fun a2 hE2=>?_)
 refine qb5 [5] [] [0,1,13] hW hE2 (env':=[(0,.p 0 0),(1,.v (cloV fc cap)),(13,.v (.bool (((u.length:Nat):Int) == 0)))]) kz rfl fun a3 hE3=>qag (qab ?_)
 refine qax hE3 (b:=((u.length:Nat):Int) == 0) kz (fun hb=>?_) (fun hb=>?_)
 ·-- none
  have hu:u = []:=List.eq_nil_of_length_eq_zero (by have:=eq_of_beq hb; omega)
  subst hu
  refine wp_ret (qat ?_)
  exact qaK hE3 hW.cells (v:=.tuple #[]) kz ⟨rfl,w,Step.refl _ _,hI0 w (Step.refl _ _)⟩
 have hu0:0 < u.length:=by have:=ne_of_beq_false hb; omega
 cases m with
 | none=>rw [hm.none_ rfl] at hu0; cases hu0
 | some mb =>
 obtain ⟨hFm,es,clk,hes,hperm,hborn,hnod,hcont⟩:=hm.some_ mb rfl
 have hmlt:mb < w.heap.size:=(Array.getElem?_eq_some_iff.1 hes).1
 have hesz:es.size = u.length:=MapR.size (w:=w) (F:=F) hperm
 refine wp_skip (qab ?_)
 refine qaf [0,1,2,3,4,5,6,7] kz ?_
 refine qb5 [0,1,2,3] [4,5,6,7] [0,1,17] hW hE3 (env':=[(0,.p 0 0),(1,.v (cloV fc cap)),(17,.v (.map (some mb)))]) kz rfl fun a4 hE4=>?_
 refine qan (qhd (t:=79) (kt:=64) (et:=22) hE4 (m:=some mb) (d:=18) kz kz hm fun a5 hE5=>?_)
 refine qan (qiI (e:=64) (size:=1) (bytes:=4) (j:=u.length) (t:=155) (d:=19) hW hE5 (p:=0) (q:=((u.length:Nat):Int)) kz kz rfl rfl (by omega) fun kr a6 w1 hkr hkr0 hF1 hW1 hE6=>?_)
 refine qan (qaM hW1 hE6 (d:=4) (cs:=[.slice none 0 0]) kz fun kb a7 w2 hkb hkb0 hF2 hW2 hE7=>?_)
 refine qan (qao hW2 hE7 (oi:=1) (cs:=[.slice (some ⟨kr,0,none⟩) 0 u.length]) kz fun w3 hF3 hW3 hE8=>qag (qab ?_))
 refine wp_seq (qaf [0,1,2,3,4] kz ?_)
 refine qb5 [0,1,2,3] [4] [0,1,4,23] hW3 hE8 (env':=[(0,.p 0 0),(1,.v (cloV fc cap)),(4,.p 1 0),(23,.v (.map (some mb)))]) kz rfl fun a8 hE9=>?_
 have hes3:=hW3.step.heap (fun o h=>h) hes
 refine qan (qiL (t:=79) (kt:=64) (et:=22) (d:=24) (r:=mb) hE9 kz kz hes3 fun a9 hE10=>qag (qab ?_))
 have hW4:=hW3.next_nil (Step.alloc w3 (.mapIter (some mb) clk #[] clk))
 have hr4:(w3.alloc (.mapIter (some mb) clk #[] clk)).heap[w3.heap.size]? = some (.mapIter (some mb) clk #[] clk):=qc5 _ _
 have hE11:=hE10.pick (ks:=[0,1,4,24]) (env':=[(0,.p 0 0),(1,.v (cloV fc cap)),(4,.p 1 0),(24,.v (.pointer (some ⟨w3.heap.size,0,none⟩)))]) kz
 have hrlt:w3.heap.size < (w3.alloc (.mapIter (some mb) clk #[] clk)).heap.size:=by rw [qdE]; omega
 have hr0:w.heap.size ≤ w3.heap.size:=hW3.step.size
 have hkbr:kb ≠ w3.heap.size:=by have:=hW3.live 1 _ rfl; show ¬ _; intro e; rw [← e] at this; exact absurd this (Nat.lt_irrefl _)
 have hkrr:kr ≠ w3.heap.size:=by have:=qcg (hW3.own 0 _ rfl) (g:=kr) rfl; omega
 generalize hR:w3.heap.size = R at hr4 hE11 hrlt hkbr hkrr
 generalize hw4:w3.alloc (.mapIter (some mb) clk #[] clk) = w4 at hW4 hr4 hrlt
 refine wp_block ?_
 refine wp_loop_ghost (fun q a_ w_=>∃ (vis:List MapEntry) (seen:Array Nat) (K:Option Addr) (kc c0:Nat),q = (leftOf es seen).size ∧ Vis es.toList vis seen ∧ vis.length + (leftOf es seen).size ≤ es.size ∧
   EnvOk 53 [⟨b,o,[.map (some mb)],false⟩,⟨kb,0,[.slice K vis.length kc],true⟩] [(0,.p 0 0),(1,.v (cloV fc cap)),(4,.p 1 0),(24,.v (.pointer (some ⟨R,0,none⟩)))] a_ ∧
   WOk w Nil w_ [⟨b,o,[.map (some mb)],false⟩,⟨kb,0,[.slice K vis.length kc],true⟩] [⟨K,kc,64,1,vis.length,(vis.map fun e=>kOf e.key).map (Value.int .u32)⟩] ∧
   w_.heap[R]? = some (.mapIter (some mb) clk seen c0) ∧ clk ≤ c0 ∧ K.map (·.block) ≠ some R) (leftOf es #[]).size
  ⟨[],#[],some ⟨kr,0,none⟩,u.length,clk,rfl,Vis.nil _,by rw [List.length_nil,Nat.zero_add]; exact Array.size_filter_le,by rw [← hw4] at *; exact hE11,hW4,hr4,Nat.le_refl _,by simpa using hkrr⟩ ?_
 rintro q a10 w5 ⟨vis,seen,K,kc,c0,rfl,hv,hvl,hE12,hW5,hr5,hc0,hKR⟩
 have hes5:=hW5.step.heap (fun o h=>h) hes
 refine qaf [0,1] kz ?_
 refine qan (qjw hE12 (d:=25) (r:=R) kz hr5 hes5 hborn hc0 (fun h0 a11 hE13=>?_) (fun e he w6 hw6 a11 hE13=>?_))
 ·-- behind it
  refine qb5 [1] [] [0,1,4,26] hW5 hE13 (env':=[(0,.p 0 0),(1,.v (cloV fc cap)),(4,.p 1 0),(26,.v (.bool false))]) kz rfl fun a12 hE14=>qag (qab (wp_seq ?_))
  refine qax hE14 (b:=false) kz (fun hb=>by cases hb) (fun _=>?_)
  refine wp_exit (qay (qay (qaQ (qab ?_))))
  have hpe:=hv.all h0 hnod
  have hvu:vis.length = u.length:=by rw [hpe.length_eq,Array.length_toList,hesz]
  have hkp:(vis.map fun e=>kOf e.key).Perm (u.map Prod.fst):=by
   have h1:=(hpe.map fun e=>kOf e.key)
   have h2:=hperm.map kOf
   rw [List.map_map,List.map_map] at h2
   exact h1.trans h2
  have hkl:(vis.map fun e=>kOf e.key).length = vis.length:=by simp
  generalize (vis.map fun e=>kOf e.key) = ks at hkp hkl hW5
  have hown4:w5.ownsRow 0 64 1 (.slice K vis.length kc) vis.length (ks.map (Value.int .u32)):=hW5.own 0 _ rfl
  obtain ⟨g,rfl⟩:=qcj hown4 (by omega)
  have hown5:w5.ownsRow 0 64 1 (.slice (some ⟨g,0,none⟩) vis.length kc) vis.length (ks.map (Value.int .u32)):=hown4
  have hg0:w.heap.size ≤ g:=by
   rcases hW5.ownM 0 _ rfl g rfl with h | h
   ·exact h
   exact (h 0).elim
  refine qaf [0,1,2,3] kz ?_
  refine qb5 [0,1] [2,3] [0,1,4,34] hW5 hE14 (env':=[(0,.p 0 0),(1,.v (cloV fc cap)),(4,.p 1 0),(34,.v (.iface 155 (.slice (some ⟨g,0,none⟩) vis.length kc)))]) kz rfl fun a13 hE15=>?_
  refine qan (qen hE15 (v:=.func (.func 105) #[] #[.pointer (some ⟨kb,0,none⟩)]) (d:=35) kz fun a14 hE16=>?_)
  have hS:=Tryz.sortKeys g kc kb ks.toArray (by simp; omega) (by simp; omega) w5 (by simp only [List.size_toArray,hkl]; exact hW5.cells 1 _ rfl 0 _ rfl) (fun e=>hW5.rtb 0 _ rfl g rfl 1 _ rfl e) (qhf hkl hown5) (qcg (hW5.own 0 _ rfl) (g:=g) rfl) (hW5.live 1 _ rfl)
  rw [List.size_toArray,hkl] at hS
  refine qan (qal hE16 (f:=104) (vs:=[.iface 155 (.slice (some ⟨g,0,none⟩) vis.length kc),.func (.func 105) #[] #[.pointer (some ⟨kb,0,none⟩)]]) (d:=36) kz Tryz.call104 hS ?_)
  rintro e_ w7 ⟨rfl,d',nd,os,hd1,hd2,hd3,rfl⟩
  refine ⟨_,rfl,fun a15 hE17=>qag (qab ?_)⟩
  have hus:d'.toList = u.map Prod.fst:=qjx hd2 (by rw [hd1]; exact hd3) hkp (List.pairwise_map.2 hm.sorted)
  obtain ⟨hst7,hown7⟩:=qkx (n:=nd) (os:=os) hkl hown5 (by rw [hd1,hkl])
  rw [hus] at hown7
  generalize Sort.grow (Sort.putRow (Value.int .u32) (Sort.ahead w5 nd) g 0 d') os = w7 at hst7 hown7
  have hW7:WOk w Nil w7 [⟨b,o,[.map (some mb)],false⟩,⟨kb,0,[.slice (some ⟨g,0,none⟩) vis.length kc],true⟩] [⟨some ⟨g,0,none⟩,kc,64,1,vis.length,(u.map Prod.fst).map (Value.int .u32)⟩] :=
   hW5.grow (k:=0) (r':=⟨some ⟨g,0,none⟩,kc,64,1,vis.length,(u.map Prod.fst).map (Value.int .u32)⟩) rfl (hst7.mono fun b' _ _ hb'=>by rw [hb']; rfl) hown7 (fun g' h=>.inl h)
  refine qaf [0,1,2] kz ?_
  refine qb5 [0,1,2] [] [0,1,37,38,39] hW7 hE17 (env':=[(0,.p 0 0),(1,.v (cloV fc cap)),(37,.v (.slice (some ⟨g,0,none⟩) vis.length kc)),(38,.v (.int .i64 ((vis.length:Nat):Int))),(39,.v (.int .i64 0))]) kz rfl fun a16 hE18=>qag (qab ?_)
  have hE19:=EnvOk.cutTb 1 hE18 kz
  have hat7:=hat.move hW7.step nilM qbi
  have hm7:=hm.move hW7.step nilM qbi
  have hg7:g < w7.heap.size:=qcg (hW7.own 0 _ rfl) (g:=g) rfl
  have hkeys:=qhf (by simpa using hvu.symm) hown7
  rw [hvu] at hE19
  refine wp_block ?_
  refine wp_loop_ghost (fun q a_ w_=>∃ (j:Nat),q = u.length - j ∧ j ≤ u.length ∧ EnvOk 53 [⟨b,o,[.map (some mb)],false⟩] [(0,.p 0 0),(1,.v (cloV fc cap)),(37,.v (.slice (some ⟨g,0,none⟩) u.length kc)),(38,.v (.int .i64 ((u.length:Nat):Int))),(39,.v (.int .i64 ((j:Nat):Int)))] a_ ∧
   I w7 j w_) u.length
   ⟨0,by omega,by omega,hE19,hI0 w7 hW7.step⟩ ?_
  rintro q a17 w8 ⟨j,rfl,hj,hE20,hD⟩
  have hS8:=hIs w7 j w8 hD
  have hat8:=hat7.move hS8 (fun b o hf _=>hMF b o hf) qbi
  have hm8:MapR w8 (fun b' o'=>F b' o' ∧ b' < w7.heap.size) (some mb) u:=hm7.move hS8 (fun b o hf _=>hMF b o hf) (fun b' o' hf hl=>⟨hf,hl⟩)
  have hW8:WOk w8 Nil w8 [⟨b,o,[.map (some mb)],false⟩] []:=(WOk.start w8 Nil).start1 hat8 rfl rfl
  refine qaf [0] kz (qb5 [0] [] [0,1,37,38,39,40] hW8 hE20 (env':=[(0,.p 0 0),(1,.v (cloV fc cap)),(37,.v (.slice (some ⟨g,0,none⟩) u.length kc)),(38,.v (.int .i64 ((u.length:Nat):Int))),(39,.v (.int .i64 ((j:Nat):Int))),(40,.v (.bool (decide (((j:Nat):Int) < ((u.length:Nat):Int)))))]) kz rfl fun a18 hE21=>qag (qab (wp_seq ?_)))
  refine qax hE21 (b:=decide (((j:Nat):Int) < ((u.length:Nat):Int))) kz (fun hc=>?_) (fun hc=>?_)
  ·have hlt:j < u.length:=by have:=zD hc; omega
   refine wp_skip (qab (wp_seq (wp_block ?_)))
   obtain ⟨⟨k,x⟩,hu⟩:∃ y,u[j]? = some y:=⟨_,List.getElem?_eq_getElem hlt⟩
   have hmem:=List.mem_of_getElem? hu
   have hkr:=hm.range _ hmem
   have hcell:At w8 g (0 + j * 1) [.int .u32 k]:=by
    intro i v hi
    have hi0:i = 0:=by
     have:=(List.getElem?_eq_some_iff.1 hi).1
     simp at this; omega
    subst hi0
    simp only [List.getElem?_cons_zero,Option.some.injEq] at hi
    subst hi
    refine hS8.cell (fun hbm=>?_) ?_
    ·have:=hMlt _ _ hbm; omega
    have h1:=(hkeys j (by simpa using hlt)).1
    have h2:(u.map Prod.fst).toArray[j]! = k:=by
     rw [getElem!_pos _ j (by simpa using hlt)]
     have:(u.map Prod.fst)[j]? = some k:=by rw [List.getElem?_map,hu]; rfl
     simpa using (List.getElem?_eq_some_iff.1 this).2
    rw [h2] at h1
    simpa using h1
   refine qaf [0,1,2] kz ?_
   refine qan (qaB hE21 (t:=155) (e:=64) (size:=1) (bytes:=4) (d:=41) (b:=g) (o:=0) (m:=u.length) (j:=j) kz kz rfl rfl hlt fun a19 hE22=>?_)
   refine qan (qaW hE22 (t:=64) (d:=42) (cs:=[.int .u32 k]) (v:=.int .u32 k) kz kz hcell fun a20 hE23=>?_)
   refine qb5 [2] [] [0,1,37,38,39,7] hW8 hE23 (env':=[(0,.p 0 0),(1,.v (cloV fc cap)),(37,.v (.slice (some ⟨g,0,none⟩) u.length kc)),(38,.v (.int .i64 ((u.length:Nat):Int))),(39,.v (.int .i64 ((j:Nat):Int))),(7,.v (.int .u32 k))]) kz rfl fun a21 hE24=>qag (qab ?_)
   refine qau [0,1,2,3,4,5,6,7,8] kz ?_
   refine qb5 [0,1,2,3,4,5,6] [7,8] [0,1,37,38,39,43,44,48,49] hW8 hE24 (env':=[(0,.p 0 0),(1,.v (cloV fc cap)),(37,.v (.slice (some ⟨g,0,none⟩) u.length kc)),(38,.v (.int .i64 ((u.length:Nat):Int))),(39,.v (.int .i64 ((j:Nat):Int))),(43,.v (cloV fc cap)),(44,.v (.int .u32 k)),(48,.v (.map (some mb))),(49,.v (.int .u32 k))]) kz rfl fun a22 hE25=>?_
   refine qan (qju hE25 (t:=79) (kt:=64) (et:=22) (m:=some mb) (k:=k) (s:=x) (d:=50) kz kz kz hm8 hmem fun a23 Ax cx hox hE26=>?_)
   refine qan (qal hE26 (f:=fc) (vs:=[.int .u32 k,.slice Ax x.length cx,cap]) (d:=51) kz hcf (hI1 w7 hW7.step j k x w8 Ax cx hD hu hkr hox) ?_)
   rintro e_ w9 ⟨rfl,hD2⟩
   refine ⟨_,rfl,fun a24 hE27=>qag (qav (qab ?_))⟩
   have hS9:=hIs w7 (j + 1) w9 hD2
   have hat9:=hat7.move hS9 (fun b o hf _=>hMF b o hf) qbi
   have hW9:WOk w9 Nil w9 [⟨b,o,[.map (some mb)],false⟩] []:=(WOk.start w9 Nil).start1 hat9 rfl rfl
   refine qau [0,1] kz (qb5 [0,1] [] [0,1,37,38,39] hW9 hE27 (env':=[(0,.p 0 0),(1,.v (cloV fc cap)),(37,.v (.slice (some ⟨g,0,none⟩) u.length kc)),(38,.v (.int .i64 ((u.length:Nat):Int))),(39,.v (.int .i64 (IntKind.i64.wrap (((j:Nat):Int) + 1))))]) kz rfl fun a25 hE28=>qag (qab ?_))
   rw [qaS (by omega)] at hE28
   exact ⟨u.length - (j + 1),by omega,j + 1,rfl,by omega,hE28,hD2⟩
  obtain rfl:j = u.length:=by have:=zF hc; omega
  refine wp_exit (qay (qay (qaQ ?_)))
  exact qbV hE21 hW8.cells (v:=.tuple #[]) kz ⟨rfl,w7,hW7.step,hD⟩
 -- one more
 have hst6:Step w5 w6 Nil:=by
  rcases hw6 with rfl | rfl
  ·exact Step.refl _ _
  exact Step.drew _
 have hr6:w6.heap[R]? = some (.mapIter (some mb) clk seen c0):=hst6.heap (fun o h=>h) hr5
 have hW6:=hW5.next_nil hst6
 obtain ⟨hml,_⟩:=mem_left he
 obtain ⟨k,sx,Ax,cx,hk1,hk2,hk3,hk4⟩:=hcont e hml
 have hR6:R < w6.heap.size:=(Array.getElem?_eq_some_iff.1 hr6).1
 have hW7:WOk w Nil (setBlock w6 R (.mapIter (some mb) clk (seen.push e.born) clk)) [⟨b,o,[.map (some mb)],false⟩,⟨kb,0,[.slice K vis.length kc],true⟩] [⟨K,kc,64,1,vis.length,(vis.map fun e=>kOf e.key).map (Value.int .u32)⟩]:=by
  refine hW6.next (Step.setBlock w6 R _) (fun b' o' hb' hN=>by omega) (fun i ob hi j hj hN=>?_) (fun i q hi g' hg' o' hN=>?_)
  ·match i,hi with
   | 0,hi =>
    simp only [List.getElem?_cons_zero,Option.some.injEq] at hi; subst hi
    have:=World.lt_of_cell (hat 0 _ rfl).2
    simp only at hN; omega
   | 1,hi =>
    simp only [List.getElem?_cons_succ,List.getElem?_cons_zero,Option.some.injEq] at hi; subst hi
    exact hkbr hN
   | i + 2,hi=>simp at hi
  match i,hi with
  | 0,hi =>
   simp only [List.getElem?_cons_zero,Option.some.injEq] at hi; subst hi
   exact hKR (by rw [← hN]; exact hg')
  | i + 1,hi=>simp at hi
 have hr7:(setBlock w6 R (.mapIter (some mb) clk (seen.push e.born) clk)).heap[R]? = some (.mapIter (some mb) clk (seen.push e.born) clk):=qeY hr6
 generalize hw7:setBlock w6 R (.mapIter (some mb) clk (seen.push e.born) clk) = w7 at hW7 hr7
 refine qb5 [1] [] [0,1,4,24,26] hW7 hE13 (env':=[(0,.p 0 0),(1,.v (cloV fc cap)),(4,.p 1 0),(24,.v (.pointer (some ⟨R,0,none⟩))),(26,.v (.bool true))]) kz rfl fun a12 hE14=>qag (qab (wp_seq ?_))
 refine qax hE14 (b:=true) kz (fun _=>?_) (fun hb=>by cases hb)
 refine wp_skip (qab (wp_block ?_))
 have hes7:=hW7.step.heap (fun o h=>h) hes
 refine qaf [0,1,2] kz ?_
 refine qan (qiM hE14 (d:=27) (r:=R) kz hr7 hes7 hml hnod fun a13 hE15=>?_)
 rw [hk1] at hE15
 refine qb5 [1,2] [] [0,1,4,24,5] hW7 hE15 (env':=[(0,.p 0 0),(1,.v (cloV fc cap)),(4,.p 1 0),(24,.v (.pointer (some ⟨R,0,none⟩))),(5,.v (.int .u32 k))]) kz rfl fun a14 hE16=>qag (qab ?_)
 refine qau [0,1,2,3,4] kz ?_
 refine qb5 [0,1] [2,3,4] [0,1,4,24,29,30] hW7 hE16 (env':=[(0,.p 0 0),(1,.v (cloV fc cap)),(4,.p 1 0),(24,.v (.pointer (some ⟨R,0,none⟩))),(29,.v (.slice K vis.length kc)),(30,.v (.int .u32 k))]) kz rfl fun a15 hE17=>?_
 have hsh:=left_shrinks es seen e he
 refine qcT (t:=155) (e:=64) (size:=1) (bytes:=4) (len:=1) (cs:=[.int .u32 k]) (d1:=31) (d:=32) (k:=0) hW7 hE17 kz kz (fun _=>by kernel_rfl) rfl kz (by omega) fun K2 kc2 a16 w8 hF8 hW8 hE18=>?_
 obtain ⟨bl,hE18⟩:=hE18
 have hR7:R < w7.heap.size:=(Array.getElem?_eq_some_iff.1 hr7).1
 have hna:∀ {o'},¬ Act_ [⟨b,o,[.map (some mb)],false⟩,⟨kb,0,[.slice K vis.length kc],true⟩] [⟨K,kc,64,1,vis.length,(vis.map fun e=>kOf e.key).map (Value.int .u32)⟩] R o':=by
  rintro o' (⟨i,ob,hi,hrw,hb,_⟩ | ⟨i,q,hi,hq⟩)
  ·match i,hi with
   | 0,hi =>
    simp only [List.getElem?_cons_zero,Option.some.injEq] at hi; subst hi
    cases hrw
   | 1,hi =>
    simp only [List.getElem?_cons_succ,List.getElem?_cons_zero,Option.some.injEq] at hi; subst hi
    exact hkbr hb
   | i + 2,hi=>simp at hi
  match i,hi with
  | 0,hi =>
   simp only [List.getElem?_cons_zero,Option.some.injEq] at hi; subst hi
   exact hKR hq
  | i + 1,hi=>simp at hi
 have hK2:K2.map (·.block) ≠ some R:=fun hk=>by
  exact hF8.imm R 0 hR7 hna (.inr ⟨0,_,rfl,hk⟩)
 refine qan (qao hW8 hE18 (oi:=1) (cs:=[.slice K2 (vis.length + 1) kc2]) kz fun w9 hF9 hW9 hE19=>qag (qav (qab ?_)))
 have hr8:w9.heap[R]? = some (.mapIter (some mb) clk (seen.push e.born) clk) :=
  hF9.step.heap (fun o'=>hF8.imm R o' hR7 hna) (hF8.step.heap (fun o'=>hna) hr7)
 refine ⟨(leftOf es (seen.push e.born)).size,hsh,vis ++ [e],seen.push e.born,K2,kc2,clk,rfl,hv.push he,by rw [List.length_append,List.length_singleton]; omega,?_,?_,hr8,Nat.le_refl _,hK2⟩
 ·rw [List.length_append,List.length_singleton]
  exact hE19.pick (ks:=[0,1,4,24]) kz
 rw [List.length_append,List.length_singleton,List.map_append,List.map_append,List.map_cons,List.map_cons,hk1]
 exact hW9
end Go.Proofs.YtdlaobdadlmcdaaGreatDoor.ME
namespace Go.Proofs.YtdlaobdadlmcdaaGreatDoor.ME
open Go
open Go.RowKit
set_option linter.unusedVariables false
set_option linter.unusedSimpArgs false
set_option maxRecDepth 20000
section
variable {P:Program} {ops:Array Oper} {Q:Exit → Act → World → Prop} {n:Nat} {tb:Tb} {env:Env} {rs:List Rw} {w0:World} {M:Nat → Nat → Prop} {a:Act} {w:World}
theorem qdK {i d j:Nat} {t e:TypeId} {size bytes:Nat} (z:Value) (cs:List Value) {N:Act → World → Prop} (hW:WOk w0 M w tb rs) (hE:EnvOk n tb env a)
  (K:∀ b a' w',b = w.heap.size → w0.heap.size ≤ b → Fr w tb rs w' (tb ++ [⟨b,0,cs,true⟩]) rs → WOk w0 M w' (tb ++ [⟨b,0,cs,true⟩]) rs → EnvOk n (tb ++ [⟨b,0,cs,true⟩]) ((d,.v (.slice (some ⟨b,0,none⟩) j j)) :: env) a' → N a' w')
  (h:qjo env ops n i = some (t,((j:Nat):Int),((j:Nat):Int),d):=by kernel_rfl) (ht:qc2 P t = some (e,size,bytes):=by kernel_rfl) (hz:(P.info? e).bind (·.zero) = some z:=by kernel_rfl) (hcs:(madeCells z.cells (j * size)).toList = cs:=by kernel_rfl) (hb:Nat.ble (bytes * j) 1000000 = true:=by kernel_rfl):wpOp P ops Q i N a w:=by
 obtain ⟨ht',inf,z',hi,hz',hzs,hs1,rfl,hsz,hbp⟩:=qcD ht
 obtain ⟨op,ho,hd,kl,kc,hrun⟩:=qgC (P:=P) (w:=w) hE h
 have hzz:z' = z:=by rw [hi] at hz; simp only [Option.bind_some,hz',Option.some.injEq] at hz; exact hz
 subst hzz
 have hb':=zN hb
 have hjm:j ≤ 1000000:=by
  have:=Nat.le_mul_of_pos_left j hbp
  omega
 have hr:=run_make (P:=P) w t e inf z' ht' hi hz' kl kc (j:Int) (j:Int) (by omega) (Int.le_refl _) (by
  have:((inf.bytes * j:Nat):Int) ≤ 281474976710656:=by omega
  rwa [Int.natCast_mul] at this) (by omega)
 simp only [Int.toNat_natCast,hs1] at hr
 have hca:madeCells z'.cells (j * size) = cs.toArray:=by rw [← hcs]
 rw [hca] at hr
 refine qbe hE ho (fun o hop=>hrun o _ _ hop hr) ?_
 refine K w.heap.size _ _ rfl hW.step.size (Fr.alloc w tb rs _ cs true) (hW.alloc cs e) ?_
 exact (hE.put hd (.v (.slice (some ⟨w.heap.size,0,none⟩) j j)) trivial).grow _
theorem qgu {i d:Nat} {src dst e:TypeId} {s:ByteArray} {N:Act → World → Prop} (hW:WOk w0 M w tb rs) (hE:EnvOk n tb env a) (hsm:s.size ≤ 1099511627776)
  (K:∀ b c a' w',Fr w tb rs w' tb rs → WOk w0 M w' tb rs → (∀ G,Octs w' (Imm G w0 w' tb rs) (some ⟨b,0,none⟩) c (sb s)) → EnvOk n tb ((d,.v (.slice (some ⟨b,0,none⟩) (sb s).length c)) :: env) a' → N a' w')
  (h:qkF tb env ops n i = some (src,dst,.string s,d):=by kernel_rfl) (hs:P.underlying src = some .string:=by kernel_rfl) (hd:P.underlying dst = some (.slice e):=by kernel_rfl) (he:P.underlying e = some (.int .u8):=by kernel_rfl):wpOp P ops Q i N a w:=by
 unfold qkF at h
 split at h
 ·rename_i src' dst' x d' hop
  split at h
  ·rename_i v hx
   simp only [Option.some.injEq,Prod.mk.injEq] at h
   obtain ⟨rfl,rfl,rfl,rfl⟩:=h
   have hdn:=(qbH hE hop).choose_spec.2.2.2.1
   have hrun:=Lib.run_convert_string_bytes (P:=P) w src' dst' e s hs hd he
   have hst:Step w (Lib.bytesWorld w e s) Nil:=⟨rfl,rfl,by rw [Lib.bytesWorld_size]; omega,fun b hb=>by rw [Lib.bytesWorld_at_old w e s b hb]; exact Keeps.refl _ _⟩
   have hlen:(sb s).length = s.size:=qjl s
   have e1:=(qba hE hx).1
   refine qbe hE hop (v:=.slice (some ⟨w.heap.size,0,none⟩) (sb s).length (grownCap w s.size 0 e)) (w':=Lib.bytesWorld w e s) (fun o' ho'=>?_) (K w.heap.size _ _ _ (Fr.nil tb rs hst) (hW.next_nil hst) (fun G=>?_) (hE.put hdn (.v _) trivial))
   ·unfold execOp
    rw [ho']
    simp only [SV.val] at e1
    simp only [e1,Sem.run_bind,hrun,Result.andThen_ok,Sem.run_pure,hlen]
   refine ⟨by rw [hlen]; exact grownCap_ge w s.size 0 e,by rw [hlen]; exact hsm,fun h=>(by cases h),fun ad hA _=>?_⟩
   obtain rfl:=zJ hA
   refine ⟨w.heap.size,0,rfl,fun q hq=>⟨rfl,fun j v hj=>?_⟩⟩
   have hj0:j = 0:=by
    cases j with
    | zero=>rfl
    | succ j=>simp at hj
   subst hj0
   simp only [List.getElem?_cons_zero,Option.some.injEq] at hj
   subst hj
   have h2:(Lib.bytesWorld w e s).heap.size = w.heap.size + 1:=Lib.bytesWorld_size w e s
   refine ⟨⟨.inr hW.step.size,by rw [h2]; exact Nat.lt_succ_self _,fun ha=>?_⟩,?_⟩
   ·have:=hW.act_live ha
    exact absurd this (Nat.lt_irrefl _)
   rw [Nat.zero_add,Nat.mul_one,Nat.add_zero,Lib.bytesWorld_cell w e s q (by rw [← hlen]; exact hq)]
   rfl
  cases h
 cases h
end
theorem AtF.part {w:World} {F:Nat → Nat → Prop} {b o:Nat} {cs cs':List Value} (k m:Nat) (h:AtF w F b o cs) (he:(cs.drop k).take m = cs'):AtF w F b (o + k) cs':=fun j v hj=>by
 subst he
 rw [List.getElem?_take] at hj
 split at hj
 ·rw [List.getElem?_drop] at hj
  have:=h (k + j) v hj
  rwa [← Nat.add_assoc] at this
 cases hj
structure TBox (w:World) (B eT:Nat) (A:Option Addr) (cp n:Nat) (x0 x1 x2 x3:Value) (xs:List Value):Prop where
 str:Str w B [x0,x1,x2,x3,.slice A n cp]
 own:w.ownsRow 0 eT 2 (.slice A n cp) n xs
 ne:A.map (·.block) ≠ some B
def TM (B:Nat) (A:Option Addr):Nat → Nat → Prop:=fun b o=>(b = B ∧ o < 5) ∨ Blk A b o
def qkM (w:World) (B eT:Nat) (A:Option Addr) (n:Nat) (x0 x1 x2 x3:Value) (xs:List Value) (k:Int) (x:Bs):Ending → World → Prop:=fun en w' =>
 en = .returned (.tuple #[]) ∧ ∃ A' cp' Av cv,TBox w' B eT A' cp' (n + 1) x0 x1 x2 x3 (xs ++ [.int .u32 k,.slice Av x.length cv]) ∧ Octs w' (fun b o=>(w.heap.size ≤ b ∨ A.map (·.block) = some b) ∧ ¬ TM B A' b o) Av cv x ∧ Near w A A' ∧ Step w w' (TM B A)
def qeP (P:Program) (fc eT:Nat):Prop:=∀ (w:World) (B cp c n:Nat) (k:Int) (A Av:Option Addr) (x:Bs) (x0 x1 x2 x3:Value) (xs:List Value) (G:Nat → Nat → Prop),TBox w B eT A cp n x0 x1 x2 x3 xs → Octs w G Av c x → (∀ b o,G b o → ¬ TM B A b o) → n ≤ 1000000 →
 Calls P fc [.int .u32 k,.slice Av x.length c,.pointer (some ⟨B,0,none⟩)].toArray w (qkM w B eT A n x0 x1 x2 x3 xs k x)
theorem TBox.wok {w:World} {B eT cp n:Nat} {A:Option Addr} {x0 x1 x2 x3:Value} {xs:List Value} (h:TBox w B eT A cp n x0 x1 x2 x3 xs):WOk w (TM B A) w [⟨B,0,[x0,x1,x2,x3,.slice A n cp],true⟩] [⟨A,cp,eT,2,n,xs⟩]:=by
 have h1:WOk w (TM B A) w [⟨B,0,[x0,x1,x2,x3,.slice A n cp],true⟩] [] :=
  (WOk.start w _).add ⟨B,0,[x0,x1,x2,x3,.slice A n cp],true⟩ (World.lt_of_cell (h.str.at_ 0 _ rfl)) (fun j v hj=>by rw [Nat.zero_add]; exact h.str.at_ j v hj) (fun _ j hj=>⟨.inr (.inl ⟨rfl,by rw [Nat.zero_add]; exact hj⟩),by rw [Nat.zero_add]; exact h.str.frz j hj⟩) (fun i ob hi=>by simp at hi) (fun i r hi=>by simp at hi)
 refine h1.addRow ⟨A,cp,eT,2,n,xs⟩ h.own (fun g hg=>.inr fun o=>.inr hg) (fun i ob hi=>?_) (fun i r hi=>by simp at hi)
 cases i with
 | zero =>
  simp only [List.getElem?_cons_zero,Option.some.injEq] at hi; subst hi
  exact h.ne
 | succ i=>simp at hi
theorem qfp {w0 w:World} {B eT cp n:Nat} {A0 A:Option Addr} {x0 x1 x2 x3:Value} {xs:List Value} {rs:List Rw} (hW:WOk w0 (TM B A0) w [⟨B,0,[x0,x1,x2,x3,.slice A n cp],true⟩] (⟨A,cp,eT,2,n,xs⟩ :: rs)) (hB:B < w0.heap.size):TBox w B eT A cp n x0 x1 x2 x3 xs ∧ Near w0 A0 A ∧ Step w0 w (TM B A0):=by
 refine ⟨⟨Str.of hW 0 rfl,hW.own 0 _ rfl,fun e=>hW.rtb 0 _ rfl B e 0 _ rfl rfl⟩,fun g hg=>?_,hW.step⟩
 rcases hW.ownM 0 _ rfl g hg with h | h
 ·exact .inr h
 rcases h 5 with ⟨_,h⟩ | h
 ·omega
 exact .inl h
theorem qdL {w0 w:World} {B eT cp n c e8:Nat} {A0 A Av:Option Addr} {cs:List Value} {xs:List Value} {s:Bs} (hl:cs.length = 5) (hW:WOk w0 (TM B A0) w [⟨B,0,cs,true⟩] [⟨A,cp,eT,2,n,xs⟩,brow Av c e8 s]) (hsm:s.length ≤ 1099511627776):Octs w (fun b o=>(w0.heap.size ≤ b ∨ A0.map (·.block) = some b) ∧ ¬ TM B A b o) Av c s:=by
 refine qcF (hW.own 1 _ rfl) hsm fun g hg o=>⟨?_,?_⟩
 ·rcases hW.ownM 1 _ rfl g hg with h | h
  ·exact .inl h
  rcases h 5 with ⟨_,h⟩ | h
  ·omega
  exact .inr h
 rintro (⟨rfl,_⟩ | h)
 ·exact hW.rtb 1 _ rfl g hg 0 _ rfl rfl
 exact hW.rr 1 0 _ _ (by decide) rfl rfl g hg h
theorem qec {fc eT B b o:Nat} {m:Option Nat} {u:List (Int × Bs)} {w:World} {F:Nat → Nat → Prop} {x0 x1 x2 x3:Value} (hcf:∀ args w,(callFunc fc args).run Tryz.prog w = .ok (.enter fc args) w) (hone:qeP Tryz.prog fc eT) (hat:AtF w F b o [.map m]) (hm:MapR w F m u) (hB:Str w B [x0,x1,x2,x3,.slice none 0 0]) (hF:∀ b o,F b o → ¬ (b = B ∧ o < 5)) (hul:u.length ≤ 1000000) :
  Calls Tryz.prog 59 [.pointer (some ⟨b,o,none⟩),cloV fc (.pointer (some ⟨B,0,none⟩))].toArray w (fun e w'=>e = .returned (.tuple #[]) ∧ ∃ A c,Str w' B [x0,x1,x2,x3,.slice A u.length c] ∧ TagsR w' (fun b o=>w.heap.size ≤ b) A c u ∧ Step w w' (fun b o=>b = B ∧ o < 5)):=by
 have hBl:B < w.heap.size:=World.lt_of_cell (hB.at_ 0 _ rfl)
 refine (qme (M:=fun b o=>b = B ∧ o < 5) hcf (fun w7 j w8=>∃ A cp xs css,TBox w8 B eT A cp j x0 x1 x2 x3 xs ∧ Tags w8 (fun b o=>w7.heap.size ≤ b ∧ ¬ TM B A b o) xs (u.take j) css ∧ (∀ g,A.map (·.block) = some g → w7.heap.size ≤ g) ∧ Step w7 w8 (fun b o=>b = B ∧ o < 5)) hat hm hF (fun b o h=>by rw [h.1]; exact hBl) (fun w7 hs=>?_) (fun w7 j w8 h=>by obtain ⟨_,_,_,_,_,_,_,h⟩:=h; exact h) (fun w7 hs j k x w8 Ax cx hI hu hk hox=>?_) hul).mono ?_
 ·exact ⟨none,0,[],[],⟨hB.move hs fun _ h=>h,World.ownsRow_nil _ 0 eT 2,fun h=>by cases h⟩,Tags.nil _ _,fun g h=>(by cases h),Step.refl _ _⟩
 ·obtain ⟨A,cp,xs,css,hbx,hT,hA,hs8⟩:=hI
  have hj:j < u.length:=(List.getElem?_eq_some_iff.1 hu).1
  refine (hone w8 B cp cx j k A Ax x x0 x1 x2 x3 xs _ hbx hox (fun b o hf=>?_) (by omega)).mono ?_
  ·rintro (h | h)
   ·exact hF _ _ hf.1 h
   have:=hA b h; have:=hf.2; omega
  rintro e w9 ⟨rfl,A',cp',Av,cv,hbx',ho',hn,hs9⟩
  refine ⟨rfl,A',cp',_,css ++ [(z40 k Av x.length cv)],hbx',?_,fun g hg=>?_,hs8.trans hs9 fun b o hb h=>?_⟩
  ·rw [qdu hu]
   have e1:Tags w9 (fun b o=>w7.heap.size ≤ b ∧ ¬ TM B A' b o) xs (u.take j) css:=hT.move hs9 (fun b o h _=>h.2) (fun b o h hb=>⟨h.1,fun h'=>by
    rcases h' with h' | h'
    ·exact h.2 (.inl h')
    rcases hn b h' with h' | h'
    ·exact h.2 (.inr h')
    omega⟩)
   have e2:Octs w9 (fun b o=>w7.heap.size ≤ b ∧ ¬ TM B A' b o) Av cv x:=ho'.move (Step.refl _ Nil) nilM fun b o h _=>⟨by
    rcases h.1 with h' | h'
    ·exact Nat.le_trans hs8.size h'
    exact hA b h',h.2⟩
   exact e1.snoc (c:=(z40 k Av x.length cv)) (x:=(k,x)) ⟨⟨_,_,rfl,e2⟩,hk.1,hk.2⟩
  ·rcases hn g hg with h | h
   ·exact hA g h
   exact Nat.le_trans hs8.size h
  rcases h with h | h
  ·exact h
  have:=hA b h; omega
 rintro e w' ⟨rfl,w7,hs,A,cp,xs,css,hbx,hT,hA,hs8⟩
 rw [List.take_length] at hT
 refine ⟨rfl,A,cp,hbx.str,?_,(hs.mono (N:=fun b o=>b = B ∧ o < 5) fun _ _ _ f=>f.elim).trans hs8 fun b o _ h=>h⟩
 exact ((hT.move (Step.refl _ Nil) nilM fun b o h _=>Nat.le_trans hs.size h.1).slots (F:=fun b o=>w.heap.size ≤ b) hbx.own rfl (by omega) fun g hg o=>Nat.le_trans hs.size (hA g hg))
def qgd (A:Option Addr) (s:ByteArray):Tree:=.mk 0 (if A.isNone = true then [] else sb s) A.isNone [] []
abbrev NoF:Nat → Nat → Prop:=fun _ _=>False
theorem WOk.strOut {G:Nat → Nat → Prop} {w0 w:World} {tb:Tb} {rs:List Rw} {p:Nat} {cs:List Value} (tb':Tb) (hW:WOk w0 Nil w tb rs) (ht:tb' ++ [⟨p,0,cs,true⟩] = tb:=by rfl):AtF w (Imm G w0 w tb' rs) p 0 cs:=fun j v hj=>by
 subst ht
 have hi:(tb' ++ [(⟨p,0,cs,true⟩:Ob)])[tb'.length]? = some ⟨p,0,cs,true⟩:=by rw [List.getElem?_append_right (Nat.le_refl _),Nat.sub_self]; rfl
 have h1:=hW.cells _ _ hi j v hj
 have hlt:j < cs.length:=(List.getElem?_eq_some_iff.1 hj).1
 refine ⟨⟨?_,hW.live _ _ hi,fun ha=>?_⟩,h1⟩
 ·rcases (hW.rw_ _ _ hi rfl j hlt).1 with h2 | h2
  ·exact .inr h2
  exact h2.elim
 rcases ha with ⟨k,ob,h2,h3,h4,h5,h6⟩ | ⟨k,r,h2,h3⟩
 ·have hk:k < tb'.length:=(List.getElem?_eq_some_iff.1 h2).1
  have h7:(tb' ++ [(⟨p,0,cs,true⟩:Ob)])[k]? = some ob:=by rw [List.getElem?_append_left hk]; exact h2
  rcases hW.apart k _ ob _ (by omega) h7 hi (.inr rfl) with h8 | h8 | h8
  ·exact h8 h4
  ·simp only [Nat.zero_add] at h5 h6; simp only [Nat.le_zero] at h8; omega
  simp only [Nat.zero_add] at h5 h6 h8; omega
 exact hW.rtb k r h2 p h3 _ _ hi rfl
theorem qi5 {u:List (Int × Bs)} (h:qdI u) {i j:Nat} {k k':Int} {s s':Bs} (hi:u[i]? = some (k,s)) (hj:u[j]? = some (k',s')) (hij:j < i):¬ k < k':=by
 obtain ⟨h1,h2⟩:=List.getElem?_eq_some_iff.1 hi
 obtain ⟨h3,h4⟩:=List.getElem?_eq_some_iff.1 hj
 have:=List.pairwise_iff_getElem.1 h j i h3 h1 hij
 rw [h2,h4] at this
 simp only at this
 omega
section
variable {w0 w:World} {tb:Tb} {rs:List Rw} {F:Nat → Nat → Prop}
theorem WOk.objFp (hW:WOk w0 Nil w tb rs) (i:Nat) {b:Nat} {cs:List Value} (hi:tb[i]? = some ⟨b,0,cs,true⟩):AtF w (Fp F w0) b 0 cs:=fun j v hj=>by
 have hlt:=(List.getElem?_eq_some_iff.1 hj).1
 refine ⟨?_,hW.cells i _ hi j v hj⟩
 rcases (hW.rw_ i _ hi rfl j hlt).1 with h | h
 ·exact .inr h
 exact h.elim
def TrL (w:World) (F:Nat → Nat → Prop):List (List Value) → List Tree → Prop
 | [],[]=>True
 | c :: cs,x :: xs=>TreeR w F c x ∧ TrL w F cs xs
 | _,_=>False
theorem TrL.move {w w':World} {F F' M:Nat → Nat → Prop} (hs:Step w w' M) (hM:∀ b o,F b o → b < w.heap.size → ¬ M b o) (hF:∀ b o,F b o → b < w.heap.size → F' b o):∀ {cs:List (List Value)} {l:List Tree},TrL w F cs l → TrL w' F' cs l
 | [],[],_=>trivial
 | _ :: _,_ :: _,h=>⟨h.1.move hs hM hF,TrL.move hs hM hF h.2⟩
 | [],_ :: _,h=>h.elim
 | _ :: _,[],h=>h.elim
theorem TrL.len:∀ {cs:List (List Value)} {l:List Tree},TrL w F cs l → cs.length = l.length
 | [],[],_=>rfl
 | _ :: _,_ :: _,h=>congrArg (· + 1) (TrL.len h.2)
 | [],_ :: _,h=>h.elim
 | _ :: _,[],h=>h.elim
theorem TrL.five:∀ {cs:List (List Value)} {l:List Tree},TrL w F cs l → ∀ c ∈ cs,c.length = 5
 | [],[],_=>fun c hc=>by cases hc
 | _ :: _,_ :: _,h=>fun c hc=>by
  rcases List.mem_cons.1 hc with rfl | hc
  ·exact h.1.five
  exact TrL.five h.2 c hc
 | [],_ :: _,h=>h.elim
 | _ :: _,[],h=>h.elim
theorem TrL.get:∀ {cs:List (List Value)} {l:List Tree},TrL w F cs l → ∀ (i:Nat) (x:Tree),l[i]? = some x → TreeR w F (cs.getD i []) x
 | [],[],_,i,x,hx=>by simp at hx
 | _ :: _,_ :: _,h,0,x,hx=>by
  simp only [List.getElem?_cons_zero,Option.some.injEq] at hx
  subst hx
  exact h.1
 | _ :: _,_ :: _,h,i + 1,x,hx=>TrL.get h.2 i x hx
 | [],_ :: _,h,_,_,_=>h.elim
 | _ :: _,[],h,_,_,_=>h.elim
theorem qmf {b:Nat}:∀ (css:List (List Value)) (o:Nat),AtF w F b o css.flatten → (∀ c ∈ css,c.length = 5) → ∀ i,i < css.length → (css.getD i []).length = 5 ∧ AtF w F b (o + i * 5) (css.getD i [])
 | [],o,h,hl,i,hi=>absurd hi (Nat.not_lt_zero _)
 | c :: r,o,h,hl,0,_=>⟨hl c List.mem_cons_self,fun j v hj=>by
   have hj':c[j]? = some v:=hj
   have:=h j v (by rw [List.flatten_cons,List.getElem?_append_left (List.getElem?_eq_some_iff.1 hj').1]; exact hj')
   rw [show o + 0 * 5 + j = o + j by omega]
   exact this⟩
 | c :: r,o,h,hl,i + 1,hi=>by
  have hc:=hl c List.mem_cons_self
  have:=qmf r (o + 5) (fun j v hj=>by
   have:=h (5 + j) v (by rw [List.flatten_cons,List.getElem?_append_right (by omega),show 5 + j - c.length = j by omega]; exact hj)
   rw [show o + 5 + j = o + (5 + j) by omega]
   exact this) (fun d hd=>hl d (List.mem_cons_of_mem _ hd)) i (by simpa using hi)
  rw [show o + (i + 1) * 5 = o + 5 + i * 5 by omega]
  exact this
theorem qi6 {b:Nat} {css:List (List Value)} {l:List Tree} (h:AtF w F b 0 css.flatten) (hT:TrL w F css l) (hsm:l.length ≤ 1099511627776):Slots w F 5 (some ⟨b,0,none⟩) l.length l.length (fun i=>css.getD i []) :=
 ⟨Nat.le_refl _,hsm,fun h=>(by cases h),fun ad hA _=>⟨b,0,(Option.some.inj hA).symm,fun i hi=>qmf css 0 h hT.five i (by rw [hT.len]; exact hi)⟩⟩
theorem Trees.xslen {w:World} {xs:List Value} {l:List Tree} {css:List (List Value)} (h:Trees w F xs l css):xs.length = l.length * 5:=by
 have h1:∀ css:List (List Value),(∀ c ∈ css,c.length = 5) → css.flatten.length = css.length * 5:=fun css hc=>by
  induction css with
  | nil=>rfl
  | cons c r ih =>
   rw [List.flatten_cons,List.length_append,hc c List.mem_cons_self,ih fun d hd=>hc d (List.mem_cons_of_mem _ hd),List.length_cons]
   omega
 rw [h.flat.eq,h1 css,h.len]
 intro c hc
 obtain ⟨i,hi,rfl⟩:=List.getElem_of_mem hc
 have hl:=h.len
 exact (h.each i _ _ (List.getElem?_eq_getElem hi) (List.getElem?_eq_getElem (show i < l.length by omega))).five
theorem qcW {xs zs cs:List Value} {k:Nat} (hx:xs.length = k * 5) (hz:zs.length = cs.length:=by rfl):qbA (xs ++ zs) (k * 5) cs = xs ++ cs:=by
 unfold qbA
 rw [List.take_left' hx,List.drop_of_length_le (by rw [List.length_append]; omega),List.append_nil]
structure O16 (w:World) (F:Nat → Nat → Prop) (A:Option Addr) (c:Nat) (s:Bs):Prop where
 o:Octs w F A c s
 l:s.length = 16
theorem O16.move {w w':World} {F F' M:Nat → Nat → Prop} {A:Option Addr} {c:Nat} {s:Bs} (h:O16 w F A c s) (hs:Step w w' M) (hM:∀ b o,F b o → b < w.heap.size → ¬ M b o) (hF:∀ b o,F b o → b < w.heap.size → F' b o):O16 w' F' A c s:=⟨h.o.move hs hM hF,h.l⟩
theorem O16.src {w:World} {F:Nat → Nat → Prop} {A:Option Addr} {c:Nat} {s:Bs} (h:O16 w F A c s):Src w A 16 1 (bc s):=by
 have:=h.o.src
 rwa [h.l] at this
theorem O16.cap {w:World} {F:Nat → Nat → Prop} {A:Option Addr} {c:Nat} {s:Bs} (h:O16 w F A c s):A = none → c = 0:=h.o.cap
theorem qmg {w:World} {F:Nat → Nat → Prop} {b o k:Nat} {cs:List Value} {s:Bs} (h:AtF w F b o cs) (hl:s.length = 16) (hc:∀ j,j < 16 → cs[k + j]? = some (qad (s.getD j 0))):O16 w F (some ⟨b,o + k,none⟩) 16 s:=by
 refine ⟨⟨by omega,by omega,fun h=>(by cases h),fun ad hA _=>⟨b,o + k,(Option.some.inj hA).symm,fun i hi=>⟨rfl,fun j v hj=>?_⟩⟩⟩,hl⟩
 have hj0:j = 0:=by
  cases j with
  | zero=>rfl
  | succ j=>simp at hj
 subst hj0
 simp only [List.getElem?_cons_zero,Option.some.injEq] at hj
 subst hj
 have:=h (k + i) _ (hc i (by omega))
 rw [show o + k + i * 1 + 0 = o + (k + i) by omega]
 exact this
theorem qf5 (hW:WOk w0 Nil w tb rs) {k:Nat} {A:Option Addr} {c e n:Nat} {xs:List Value} {l:List Tree} {css:List (List Value)} {b:Bool} (hk:rs[k]? = some ⟨A,c,e,5,n,xs⟩) (hT:Trees w (Imm F w0 w tb rs) xs l css) (hn:n = l.length) (hsm:l.length ≤ 1099511627776):TreeR w (Fp F w0) [.int .i64 0,.slice none 0 0,.bool b,.slice A n c,.slice none 0 0] (.mk 0 [] b l []):=by
 have h:=qie hW hk hT hn hsm
 subst hn
 exact TreeR.mk (s:=[]) (u:=[]) _ (Octs.nil _ _) h.1 h.2 (TagsR.nil _ _)
theorem qcA {L k:Nat} {f:Nat → Tree} (h:k < L):((List.range L).map f).take (k + 1) = ((List.range L).map f).take k ++ [f k] :=
 qdu (by rw [List.getElem?_map,List.getElem?_range h]; rfl)
theorem qgV {L k:Nat} {f:Nat → Tree} (h:L ≤ k):((List.range L).map f).take k = (List.range L).map f:=List.take_of_length_le (by rw [List.length_map,List.length_range]; exact h)
theorem qcl {L:Nat} {f:Nat → Tree}:((List.range L).map f).length = L:=by rw [List.length_map,List.length_range]
theorem qe5 (hW:WOk w0 Nil w tb rs) (i:Nat) {b n2 c3:Nat} {A3:Option Addr} {u:List (Int × Bs)} {css:List (List Value)} {cs:List Value} {l:List Tree} (hi:tb[i]? = some ⟨b,0,cs,true⟩) (hT':TrL w (Fp F w0) css l) (hU:TagsR w (Fp F w0) A3 c3 u) (hf:css.flatten = cs:=by rfl) (hl:l.length = n2:=by rfl) (hn:Nat.ble n2 1000000 = true:=by kernel_rfl) :
  qdX w0 F (.mk 0 [] false l u) (.returned (.agg #[.int .i64 0,.slice none 0 0,.bool false,.slice (some ⟨b,0,none⟩) n2 n2,.slice A3 u.length c3])) w:=by
 subst hf
 subst hl
 have hn':=Nat.le_of_ble_eq_true hn
 exact ⟨_,rfl,TreeR.mk (s:=[]) _ (Octs.nil _ _) (qi6 (hW.objFp i hi) hT' (by omega)) hT'.get hU,hW.step⟩
end
def qmh (m:Nat):Prop:=∀ (ct:List Value) (t:Tree) (w:World) (F:Nat → Nat → Prop),TreeR w F ct t → t.depth ≤ m →
  Calls Tryz.prog 14 #[.agg ct.toArray] w (qdX w F t)
theorem qkc {m:Nat} (hg:qmh m) (ct:List Value) (t:Tree) (w:World) (F:Nat → Nat → Prop) (ht:TreeR w F ct t) (hd:t.depth ≤ m + 1) :
  Calls Tryz.prog 14 #[.agg ct.toArray] w (qdX w F t):=by
 obtain ⟨n1,s2,b3,l4,u5,A6,c7,A8,c9,ap,ar,dU,rfl,rfl,dx,dy,dV,dW⟩:=ht.open_
 have dz:=dx.small
 have dA:=dy.small
 obtain ⟨dX,dB,dY⟩:=dW.ex
 have dC:=dB.small
 refine enter (n:=49) Tryz.func14 rfl Tryz.ntmps14 kz fun a hE=>?_
 have hW:=WOk.start w Nil
 refine qaf [0,1] kz ?_
 refine qan (qby hW hE (d:=1) (cs:=(z1 n1 A6 s2.length c7 b3 A8 l4.length c9 ap u5.length ar)) kz fun bF fo fq dZ d5 d6 cZ c5=>?_)
 refine qan (qaM cZ c5 (d:=2) (cs:=z0) kz fun bG fr ft d7 d8 d9 bI c6=>?_)
 refine qag (qab ?_)
 refine qaf [0,1,2,3,4,5,6,7,8] kz ?_
 refine qak [0,1,2,3,4,5,6] [7,8] [(1,.p 0 0),(2,.p 1 0),(14,.v (.agg #[.int .i64 n1,.slice A6 s2.length c7,.bool b3,.slice none 0 0,.slice none 0 0]))] bI c6 fun fv da=>?_
 refine qan (qaM bI da (d:=3) (cs:=z0) kz fun bH fw fx ea eb ec db dc=>?_)
 refine qan (qao db dc (oi:=2) (cs:=[.int .i64 n1,.slice A6 s2.length c7,.bool b3,.slice none 0 0,.slice none 0 0]) kz fun fy ee bz de=>?_)
 refine qag (qab ?_)
 refine wp_seq (qas [(1,.p 0 0),(2,.p 1 0),(3,.p 2 0),(16,.v (.slice A8 l4.length c9)),(17,.v (.int .i64 ((l4.length:Nat):Int))),(18,.v (.int .i64 0))] bz de fun fz df=>?_)
 refine wp_block ?_
 have bJ:=bz.addNil 26 5
 have ef:=bz.frNil 26 5
 refine wp_loop_ghost (fun n_ a_ w_=>∃ (k:Nat) (A_:Option Addr) (c_:Nat) (xs:List Value) (css:List (List Value)),n_ = l4.length - k ∧ k ≤ l4.length ∧ (Trees w_ (Imm F w w_ [⟨bF,0,[.int .i64 n1,.slice A6 s2.length c7,.bool b3,.slice A8 l4.length c9,.slice ap u5.length ar],true⟩,⟨bG,0,[.int .i64 0,.slice none 0 0,.bool false,.slice none 0 0,.slice none 0 0],true⟩,⟨bH,0,[.int .i64 n1,.slice A6 s2.length c7,.bool b3,.slice A_ k c_,.slice none 0 0],true⟩] [⟨A_,c_,26,5,k,xs⟩]) xs (l4.take k) css) ∧ LInv bJ 49 [⟨bF,0,[.int .i64 n1,.slice A6 s2.length c7,.bool b3,.slice A8 l4.length c9,.slice ap u5.length ar],true⟩,⟨bG,0,[.int .i64 0,.slice none 0 0,.bool false,.slice none 0 0,.slice none 0 0],true⟩,⟨bH,0,[.int .i64 n1,.slice A6 s2.length c7,.bool b3,.slice A_ k c_,.slice none 0 0],true⟩] [⟨A_,c_,26,5,k,xs⟩] [(1,.p 0 0),(2,.p 1 0),(3,.p 2 0),(16,.v (.slice A8 l4.length c9)),(17,.v (.int .i64 ((l4.length:Nat):Int))),(18,.v (.int .i64 ((k:Nat):Int)))] a_ w_) (l4.length) ⟨0,none,0,[],[],by omega,by omega,Trees.nil _ _,df.pk,bJ,Fr.refl _ _ _⟩ ?_
 rintro fA fB fC ⟨k,A_,c_,xs,css,eg,eh,hT,dg,aw,dh⟩
 refine qas [(1,.p 0 0),(2,.p 1 0),(3,.p 2 0),(16,.v (.slice A8 l4.length c9)),(17,.v (.int .i64 ((l4.length:Nat):Int))),(18,.v (.int .i64 ((k:Nat):Int))),(19,.v (.bool (decide (((k:Nat):Int) < ((l4.length:Nat):Int)))))] aw dg fun fD bA=>?_
 refine wp_seq (qax bA (b:=decide (((k:Nat):Int) < ((l4.length:Nat):Int))) kz (fun bB=>?_) (fun bB=>?_))
 ·
  have ei:=zD bB
  refine wp_skip (qab (wp_seq (wp_block (qaf [0,1,2,3] kz ?_))))
  obtain ⟨ej,ek,di,em,bf⟩:=Slots.get dy (i:=k) (by omega)
  obtain ⟨eo,bC⟩:∃ x,l4[k]? = some x:=⟨_,List.getElem?_eq_getElem (by omega)⟩
  have bD:=dV k eo bC
  obtain ⟨bK,bL,bM,bN,bO,bP,bQ,bR,bS,bT,bU,ep,rfl,bg,eu,ev,fE,fF⟩:=bD.open_
  rw [bg] at bD
  have dD:=eu.small
  have dE:=ev.small
  rw [bg] at bf
  refine qan (qaB bA (t:=34) (A:=A8) (m:=l4.length) (q:=((k:Nat):Int)) (d:=20) kz (e:=37) (size:=5) (bytes:=88) kz di rfl (by omega) fun fG bV=>?_)
  refine qan (qaW bV (t:=37) (b:=ej) (o:=ek + k * 5) (d:=21) kz (cs:=(z1 bK bP bL.length bQ bM bR bN.length bS bT bO.length bU)) (v:=.agg #[.int .i64 bK,.slice bP bL.length bQ,.bool bM,.slice bR bN.length bS,.slice bT bO.length bU]) kz (AtF.move bf aw.step nilM qbi).at_ fun ew bW=>?_)
  refine qan (qaM aw bW (d:=5) (cs:=z0) kz fun ey ez eB dF dG ax bX bY=>?_)
  refine qan (qao bX bY (oi:=3) (cs:=(z1 bK bP bL.length bQ bM bR bN.length bS bT bO.length bU)) kz fun eC ay bZ cd=>?_)
  refine qag (qab ?_)
  refine qcE 7 kz bZ fun eD az ag ce=>?_
  refine qaF [0,1,2] [(1,.p 0 0),(2,.p 1 0),(3,.p 2 0),(16,.v (.slice A8 l4.length c9)),(17,.v (.int .i64 ((l4.length:Nat):Int))),(18,.v (.int .i64 ((k:Nat):Int))),(23,.v (.slice A_ k c_)),(24,.v (.agg #[.int .i64 bK,.slice bP bL.length bQ,.bool bM,.slice bR bN.length bS,.slice bT bO.length bU]))] 5 (qac (qaa (qaa (qac (qaa qae))))) (fun _ h=>h.cells) ce cd fun eE cm=>?_
  refine qap (i:=3) kz (qal cm (f:=14) (vs:=[.agg #[.int .i64 bK,.slice bP bL.length bQ,.bool bM,.slice bR bN.length bS,.slice bT bO.length bU]]) (d:=25) kz Tryz.call14 ( hg _ _ _ _ (bD.move ag.step nilM ag.imm) (by have h_:=qic bC; rw [qhl] at hd; omega)) ?_)
  rintro e_ eF ⟨dH,rfl,cq,aA⟩
  have aB:=cq.move (Step.refl _ Nil) nilM (ag.laid (G:=F) aA)
  obtain ⟨aC,aD,aE,aF,aG,aH,aI,aJ,aK,aL,aM,dI,dJ,aN,dj,dl,eG,eH⟩:=aB.open_
  rw [aN] at aB
  have dp:=dj.small
  have dq:=dl.small
  rw [aN]
  refine ⟨_,rfl,fun eI cr=>?_⟩
  have bh:=ag.next_nil aA
  have ae:=ag.frN aA
  have cu:=TT.ofW ae bh
  refine ⟨fun _=>cu,?_⟩
  refine qap (i:=4) kz (qbB bh cr (e:=26) (size:=5) (len:=1) (cs:=(z1 aC aH aD.length aI aE aJ aF.length aK aL aG.length aM)) (d:=26) kz kz fun dr eJ eK dK dL aa au cw=>?_)
  have cz:=TT.ofW (ae.trans aa) au
  refine ⟨fun _=>cz,?_⟩
  refine qap (i:=5) kz (qaR au cw (k:=0) (d:=27) (t:=23) (e:=26) (size:=5) (bytes:=88) (A:=A_) (As:=(some ⟨dr,0,none⟩)) (m0:=k) (c:=c_) (m:=1) (cs:=1) (xs:=xs) (news:=(z1 aC aH aD.length aI aE aJ aF.length aK aL aG.length aM)) kz kz rfl (qbI (au.own 1 _ rfl) (qbE kz)) (qbQ (au.own 1 _ rfl)) (by omega) fun aO aP eL eM af bi cA=>?_)
  have bj:=TT.ofW ((ae.trans aa).trans af) bi
  refine ⟨fun _=>bj,?_⟩
  refine qaF [6] [(1,.p 0 0),(2,.p 1 0),(3,.p 2 0),(16,.v (.slice A8 l4.length c9)),(17,.v (.int .i64 ((l4.length:Nat):Int))),(18,.v (.int .i64 ((k:Nat):Int))),(27,.v (.slice aO (k + 1) aP)),(28,.p 2 3)] 1 (qac (qaa (qaa (qac (qaa qae))))) (fun _ h=>h.cells) bj cA fun eN cB=>?_
  refine qap (i:=7) kz (qao bi cB (oi:=2) (cs:=[.int .i64 n1,.slice A6 s2.length c7,.bool b3,.slice aO (k + 1) aP,.slice none 0 0]) kz fun eO ah bk cC=>?_)
  refine ⟨fun h=>absurd rfl h,?_⟩
  refine qaC kz ?_ _
  refine qav (qab (qau [0,1] kz ?_))
  refine qak [0,1] [] [(1,.p 0 0),(2,.p 1 0),(3,.p 2 0),(16,.v (.slice A8 l4.length c9)),(17,.v (.int .i64 ((l4.length:Nat):Int))),(18,.v (.int .i64 (IntKind.i64.wrap (((k:Nat):Int) + 1))))] bk cC fun eP cD=>?_
  refine qag (qab ?_)
  obtain ⟨bn,cE,ai⟩:=bk.cutB cD 3 [⟨bF,0,(z1 n1 A6 s2.length c7 b3 A8 l4.length c9 ap u5.length ar),true⟩,⟨bG,0,z0,true⟩,⟨bH,0,[.int .i64 n1,.slice A6 s2.length c7,.bool b3,.slice aO (k + 1) aP,.slice none 0 0],true⟩] [(1,.p 0 0),(2,.p 1 0),(3,.p 2 0),(16,.v (.slice A8 l4.length c9)),(17,.v (.int .i64 ((l4.length:Nat):Int))),(18,.v (.int .i64 (IntKind.i64.wrap (((k:Nat):Int) + 1))))]
  obtain ⟨cG,aj⟩:=cE.cutR 1 [⟨aO,aP,26,5,k + 1,xs ++ (z1 aC aH aD.length aI aE aJ aF.length aK aL aG.length aM)⟩]
  have cH:IntKind.i64.wrap (((k:Nat):Int) + 1) = ((k + 1:Nat):Int):=qaS (by omega)
  rw [cH] at bn
  exact ⟨l4.length - (k + 1),by omega,k + 1,aO,aP,xs ++ [Value.int .i64 aC,.slice aH aD.length aI,.bool aE,.slice aJ aF.length aK,.slice aL aG.length aM],(css ++ [[Value.int .i64 aC,.slice aH aD.length aI,.bool aE,.slice aJ aF.length aK,.slice aL aG.length aM]]),rfl,by omega,by rw [qdu bC]; exact (hT.move ((((((((ax.trans ay).trans az).trans ae).trans aa).trans af).trans ah).trans ai).trans aj).step immM ((((((((ax.trans ay).trans az).trans ae).trans aa).trans af).trans ah).trans ai).trans aj).to').snoc (aB.move ((((aa.trans af).trans ah).trans ai).trans aj).step immM ((((aa.trans af).trans ah).trans ai).trans aj).to'),bn.pk,cG,(((((((((dh.trans ax).trans ay).trans az).trans ae).trans aa).trans af).trans ah).trans ai).trans aj)⟩
 have dM:=zF bB
 refine wp_exit (qay (qay (qaQ (qab (wp_seq (qas [(2,.p 1 0),(3,.p 2 0),(31,.v (.slice ap u5.length ar)),(32,.v (.int .i64 ((u5.length:Nat):Int))),(33,.v (.int .i64 0))] aw bA fun eQ cI=>?_))))))
 refine wp_block ?_
 have hk0:k = l4.length:=by omega
 have bo:=aw.addNil 66 2
 have bp:=aw.frNil 66 2
 refine wp_loop_ghost (fun n_ a_ w_=>∃ (q:Nat) (A5_:Option Addr) (c5_:Nat) (ys:List Value) (dss:List (List Value)),n_ = u5.length - q ∧ q ≤ u5.length ∧ (Tags w_ (Imm F w w_ [⟨bF,0,[.int .i64 n1,.slice A6 s2.length c7,.bool b3,.slice A8 l4.length c9,.slice ap u5.length ar],true⟩,⟨bG,0,[.int .i64 0,.slice none 0 0,.bool false,.slice none 0 0,.slice none 0 0],true⟩,⟨bH,0,[.int .i64 n1,.slice A6 s2.length c7,.bool b3,.slice A_ k c_,.slice A5_ q c5_],true⟩] [⟨A_,c_,26,5,k,xs⟩,⟨A5_,c5_,66,2,q,ys⟩]) ys (u5.take q) dss) ∧ LInv bo 49 [⟨bF,0,[.int .i64 n1,.slice A6 s2.length c7,.bool b3,.slice A8 l4.length c9,.slice ap u5.length ar],true⟩,⟨bG,0,[.int .i64 0,.slice none 0 0,.bool false,.slice none 0 0,.slice none 0 0],true⟩,⟨bH,0,[.int .i64 n1,.slice A6 s2.length c7,.bool b3,.slice A_ k c_,.slice A5_ q c5_],true⟩] [⟨A_,c_,26,5,k,xs⟩,⟨A5_,c5_,66,2,q,ys⟩] [(2,.p 1 0),(3,.p 2 0),(31,.v (.slice ap u5.length ar)),(32,.v (.int .i64 ((u5.length:Nat):Int))),(33,.v (.int .i64 ((q:Nat):Int)))] a_ w_) (u5.length) ⟨0,none,0,[],[],by omega,by omega,Tags.nil _ _,cI.pk,bo,Fr.refl _ _ _⟩ ?_
 rintro eR eS eU ⟨q,A5_,c5_,ys,dss,dN,dO,hU,cJ,ak,aQ⟩
 refine qas [(2,.p 1 0),(3,.p 2 0),(31,.v (.slice ap u5.length ar)),(32,.v (.int .i64 ((u5.length:Nat):Int))),(33,.v (.int .i64 ((q:Nat):Int))),(34,.v (.bool (decide (((q:Nat):Int) < ((u5.length:Nat):Int)))))] ak cJ fun eV aR=>?_
 refine wp_seq (qax aR (b:=decide (((q:Nat):Int) < ((u5.length:Nat):Int))) kz (fun aS=>?_) (fun aS=>?_))
 ·
  have dP:=zD aS
  refine wp_skip (qab (wp_seq (wp_block (qaf [0,1,2,3] kz ?_))))
  obtain ⟨dt,du,cK,dQ,aT⟩:=Slots.get dB (i:=q) (by omega)
  obtain ⟨⟨ab,ac⟩,bq⟩:∃ x,u5[q]? = some x:=⟨_,List.getElem?_eq_getElem (by omega)⟩
  obtain ⟨⟨al,am,bE,cL⟩,dv,dw⟩:=dY q ab ac bq
  rw [bE] at aT
  refine qan (qaB aR (t:=35) (A:=ap) (m:=u5.length) (q:=((q:Nat):Int)) (d:=35) kz (e:=69) (size:=2) (bytes:=32) kz cK rfl (by omega) fun eW cM=>?_)
  refine qan (qaW cM (t:=69) (b:=dt) (o:=du + q * 2) (d:=36) kz (cs:=(z40 ab al ac.length am)) (v:=.agg #[.int .u32 ab,.slice al ac.length am]) kz (AtF.move aT ak.step nilM qbi).at_ fun eX cN=>?_)
  refine qan (qaM ak cN (d:=7) (cs:=z42) kz fun eY eZ e9 dR dS aU cO cP=>?_)
  refine qan (qao cO cP (oi:=3) (cs:=(z40 ab al ac.length am)) kz fun fb aV bt cQ=>?_)
  refine qag (qab ?_)
  refine qau [0,1,2,3,4,5,6,7,8,9,10] kz ?_
  refine qak [0,1,2,3,4,5,6] [7,8,9,10] [(2,.p 1 0),(3,.p 2 0),(31,.v (.slice ap u5.length ar)),(32,.v (.int .i64 ((u5.length:Nat):Int))),(33,.v (.int .i64 ((q:Nat):Int))),(38,.v (.slice A5_ q c5_)),(43,.v (.agg #[.int .u32 ab,.slice al ac.length am]))] bt cQ fun fe cR=>?_
  refine qcT bt cR (k:=1) (e:=66) (size:=2) (len:=1) (cs:=(z40 ab al ac.length am)) (d1:=44) (d:=45) kz (t:=24) (bytes:=32) kz (fun _=>by kernel_rfl) rfl kz (by omega) fun ba bd ff fg aW bu ⟨_,cS⟩=>?_
  refine qak [9] [10] [(2,.p 1 0),(3,.p 2 0),(31,.v (.slice ap u5.length ar)),(32,.v (.int .i64 ((u5.length:Nat):Int))),(33,.v (.int .i64 ((q:Nat):Int))),(45,.v (.slice ba (q + 1) bd)),(46,.p 2 4)] bu cS fun fh cT=>?_
  refine qan (qao bu cT (oi:=2) (cs:=[.int .i64 n1,.slice A6 s2.length c7,.bool b3,.slice A_ k c_,.slice ba (q + 1) bd]) kz fun fi aX bw cU=>?_)
  refine qag (qav (qab (qau [0,1] kz ?_)))
  refine qak [0,1] [] [(2,.p 1 0),(3,.p 2 0),(31,.v (.slice ap u5.length ar)),(32,.v (.int .i64 ((u5.length:Nat):Int))),(33,.v (.int .i64 (IntKind.i64.wrap (((q:Nat):Int) + 1))))] bw cU fun fj cV=>?_
  refine qag (qab ?_)
  obtain ⟨bx,aY,aZ⟩:=bw.cutB cV 3 [⟨bF,0,(z1 n1 A6 s2.length c7 b3 A8 l4.length c9 ap u5.length ar),true⟩,⟨bG,0,z0,true⟩,⟨bH,0,[.int .i64 n1,.slice A6 s2.length c7,.bool b3,.slice A_ k c_,.slice ba (q + 1) bd],true⟩] [(2,.p 1 0),(3,.p 2 0),(31,.v (.slice ap u5.length ar)),(32,.v (.int .i64 ((u5.length:Nat):Int))),(33,.v (.int .i64 (IntKind.i64.wrap (((q:Nat):Int) + 1))))]
  have cW:IntKind.i64.wrap (((q:Nat):Int) + 1) = ((q + 1:Nat):Int):=qaS (by omega)
  rw [cW] at bx
  exact ⟨u5.length - (q + 1),by omega,q + 1,ba,bd,ys ++ [Value.int .u32 ab,.slice al ac.length am],(dss ++ [[Value.int .u32 ab,.slice al ac.length am]]),rfl,by omega,by rw [qdu bq]; exact (hU.move ((((aU.trans aV).trans aW).trans aX).trans aZ).step immM ((((aU.trans aV).trans aW).trans aX).trans aZ).to').snoc (c:=[.int .u32 ab,.slice al ac.length am]) (x:=(ab,ac)) ⟨⟨_,_,rfl,(cL.move aY.step nilM aY.imm)⟩,dv,dw⟩,bx.pk,aY,(((((aQ.trans aU).trans aV).trans aW).trans aX).trans aZ)⟩
 have dT:=zF aS
 refine wp_exit (qay (qay (qaQ (qab (qaf [0,1] kz ?_)))))
 refine qak [0] [1] [(2,.p 1 0),(48,.v (.agg #[.int .i64 n1,.slice A6 s2.length c7,.bool b3,.slice A_ k c_,.slice A5_ q c5_]))] ak aR fun fk cX=>?_
 refine qan (qao ak cX (oi:=1) (cs:=(z1 n1 A6 s2.length c7 b3 A_ k c_ A5_ q c5_)) kz fun fm av ao cY=>?_)
 refine qag (qab ?_)
 refine wp_ret (qaK cY ao.cells (v:=.agg #[.int .i64 n1,.slice A6 s2.length c7,.bool b3,.slice A_ k c_,.slice A5_ q c5_]) kz ?_)
 have hq0:q = u5.length:=by omega
 have hT':=(hT.move ((bp.trans aQ).trans av).step immM ((bp.trans aQ).trans av).to')
 have hU':=(hU.move av.step immM av.to')
 rw [show l4.take k = l4 by rw [hk0,List.take_length]] at hT'
 rw [show u5.take q = u5 by rw [hq0,List.take_length]] at hU'
 exact qkC ao rfl (dx.move ao.step nilM qlr) hk0 (qie ao (k:=0) rfl hT' hk0 (by omega)) hq0 (qlq ao (k:=1) rfl hU' hq0 (by omega)) rfl
theorem lGot:∀ m,qmh m
 | 0=>fun ct t w F ht hd=>by
  obtain ⟨n,s,b,l,u,A1,c1,A2,c2,A3,c3,xs,rfl,_⟩:=ht.open_
  rw [qhl] at hd; omega
 | m + 1=>qkc (lGot m)
theorem qf6 {u:List (Int × Bs)} {A:Option Addr} {c:Nat} {w:World} {F:Nat → Nat → Prop} (hu:TagsR w F A c u) (hsrt:qdI u):Calls Tryz.prog 61 #[.slice A u.length c] w (qcI w (.tuple #[])):=by
 obtain ⟨cs1,h2,h3⟩:=hu.ex
 have hsm4:=h2.small
 refine enter (n:=45) Tryz.func61 rfl Tryz.ntmps61 kz fun a hE=>?_
 have hW:=WOk.start w Nil
 refine qas [(0,.v (.slice A u.length c)),(5,.v (.int .i64 ((u.length:Nat):Int))),(6,.v (.int .i64 0))] hW hE fun a5 hE6=>?_
 refine wp_block (wp_loop_ghost (fun n_ a_ w_=>∃ (k:Nat),n_ = u.length - k ∧ k ≤ u.length ∧ LInv hW 45 [] [] [(0,.v (.slice A u.length c)),(5,.v (.int .i64 ((u.length:Nat):Int))),(6,.v (.int .i64 ((k:Nat):Int)))] a_ w_) (u.length) ⟨0,by omega,by omega,hE6.pk,hW,Fr.refl _ _ _⟩ ?_)
 rintro n7 a8 w9 ⟨k,aW,aX,aB,ab,aj⟩
 refine qas [(0,.v (.slice A u.length c)),(5,.v (.int .i64 ((u.length:Nat):Int))),(6,.v (.int .i64 ((k:Nat):Int))),(7,.v (.bool (decide (((k:Nat):Int) < ((u.length:Nat):Int)))))] ab aB fun bn ah=>?_
 refine wp_seq (qax ah (b:=decide (((k:Nat):Int) < ((u.length:Nat):Int))) kz (fun ai=>?_) (fun ai=>?_))
 ·
  have aY:=of_decide_eq_true ai
  refine wp_skip (qab (wp_seq (wp_block (qas [(0,.v (.slice A u.length c)),(2,.v (.int .i64 ((k:Nat):Int))),(5,.v (.int .i64 ((u.length:Nat):Int))),(6,.v (.int .i64 ((k:Nat):Int)))] ab ah fun bo aC=>?_))))
  refine qas [(0,.v (.slice A u.length c)),(3,.v (.int .i64 ((k:Nat):Int))),(5,.v (.int .i64 ((u.length:Nat):Int))),(6,.v (.int .i64 ((k:Nat):Int)))] ab aC fun bp aD=>?_
  refine wp_block (qfG (wp_seq (qcs kz ab fun bq ak aa=>?_)))
  refine qaF [0,1,2] [(0,.v (.slice A u.length c)),(3,.v (.int .i64 ((k:Nat):Int))),(5,.v (.int .i64 ((u.length:Nat):Int))),(6,.v (.int .i64 ((k:Nat):Int))),(12,.v (.bool (decide (((k:Nat):Int) > 0))))] 13 (qaa (qaa (qaa (qac (qac (qaa (qaa (qac qae)))))))) (fun _ h=>h ▸ aa.cells) rfl aD fun bt al=>?_
  refine (Bool.eq_false_or_eq_true (decide (((k:Nat):Int) > 0))).elim (fun ac=>?_) (fun ac=>?_)
  ·
   have aZ:=of_decide_eq_true ac
   have aE:=al
   rw [ac] at aE
   refine qaF [3,4,8,9,10] [(0,.v (.slice A u.length c)),(3,.v (.int .i64 ((k:Nat):Int))),(5,.v (.int .i64 ((u.length:Nat):Int))),(6,.v (.int .i64 ((k:Nat):Int))),(12,.v (.bool true)),(13,.v (.slice A u.length c)),(14,.v (.int .i64 ((k:Nat):Int))),(18,.v (.slice A u.length c)),(20,.v (.int .i64 (IntKind.i64.wrap (((k:Nat):Int) - 1))))] 8 (qaa (qaa (qaa (qac (qac (qaa (qaa (qac qae)))))))) (fun _ h=>h ▸ aa.cells) rfl aE fun bu aF=>?_
   obtain ⟨az,aA,aG,ba,ae⟩:=Slots.get h2 (i:=k) (by omega)
   obtain ⟨⟨af,bd⟩,am⟩:∃ x,u[k]? = some x:=⟨_,List.getElem?_eq_getElem (by omega)⟩
   obtain ⟨⟨bw,bx,ao,bf⟩,bz,bA⟩:=h3 k af bd am
   rw [ao] at ae
   refine qaH aF (i:=5) (t:=35) (A:=A) (m:=u.length) (q:=((k:Nat):Int)) (d:=15) kz (e:=69) (size:=2) (bytes:=32) kz aG rfl (by omega) kz kz (qaa (qaa (qaa (qac (qac (qaa (qaa (qac qae)))))))) rfl fun bB aH=>?_
   refine qaF [6] [(0,.v (.slice A u.length c)),(3,.v (.int .i64 ((k:Nat):Int))),(5,.v (.int .i64 ((u.length:Nat):Int))),(6,.v (.int .i64 ((k:Nat):Int))),(12,.v (.bool true)),(16,.v (.pointer (some ⟨az,aA + k * 2,none⟩))),(18,.v (.slice A u.length c)),(20,.v (.int .i64 (IntKind.i64.wrap (((k:Nat):Int) - 1))))] 6 (qaa (qaa (qaa (qac (qac (qaa (qaa (qac qae)))))))) (fun _ h=>h ▸ aa.cells) rfl aH fun bC aI=>?_
   refine qbl aI (i:=7) (t:=64) (b:=az) (o:=aA + k * 2) (d:=17) kz (cs:=[.int .u32 af]) (v:=.int .u32 af) kz (fun w' h'=>h' ▸ (At.drop (AtF.move ae aa.step nilM qbi).at_ 0 1)) kz kz (qaa (qaa (qaa (qac (qac (qaa (qaa (qac qae)))))))) rfl fun bD aJ=>?_
   have aK:IntKind.i64.wrap (((k:Nat):Int) - 1) = (((k - 1):Nat):Int):=by simp only [qc6,qaA,qbZ,IntKind.wrap_i64,IntKind.wrap_i32]; omega
   have aL:=EnvOk.pick aJ (ks:=[0,3,5,6,12,16,18,20,17]) (env':=[(0,.v (.slice A u.length c)),(3,.v (.int .i64 ((k:Nat):Int))),(5,.v (.int .i64 ((u.length:Nat):Int))),(6,.v (.int .i64 ((k:Nat):Int))),(12,.v (.bool true)),(16,.v (.pointer (some ⟨az,aA + k * 2,none⟩))),(18,.v (.slice A u.length c)),(20,.v (.int .i64 (IntKind.i64.wrap (((k:Nat):Int) - 1)))),(17,.v (.int .u32 af))]) kz
   have aM:=aL
   rw [aK] at aM
   obtain ⟨aU,aV,aN,bg,ag⟩:=Slots.get h2 (i:=(k - 1)) (by omega)
   obtain ⟨⟨ap,bh⟩,ar⟩:∃ x,u[(k - 1)]? = some x:=⟨_,List.getElem?_eq_getElem (by omega)⟩
   obtain ⟨⟨bE,bF,au,bi⟩,bG,bH⟩:=h3 (k - 1) ap bh ar
   rw [au] at ag
   refine qaH aM (i:=11) (t:=35) (A:=A) (m:=u.length) (q:=(((k - 1):Nat):Int)) (d:=21) kz (e:=69) (size:=2) (bytes:=32) kz aN rfl (by omega) kz kz (qaa (qaa (qaa (qac (qac (qaa (qaa (qac qae)))))))) rfl fun bI aO=>?_
   refine qaF [12] [(0,.v (.slice A u.length c)),(3,.v (.int .i64 ((k:Nat):Int))),(5,.v (.int .i64 ((u.length:Nat):Int))),(6,.v (.int .i64 ((k:Nat):Int))),(12,.v (.bool true)),(17,.v (.int .u32 af)),(22,.v (.pointer (some ⟨aU,aV + (k - 1) * 2,none⟩)))] 3 (qaa (qaa (qaa (qac (qac (qaa (qaa (qac qae)))))))) (fun _ h=>h ▸ aa.cells) rfl aO fun bJ aP=>?_
   refine qbl aP (i:=13) (t:=64) (b:=aU) (o:=aV + (k - 1) * 2) (d:=23) kz (cs:=[.int .u32 ap]) (v:=.int .u32 ap) kz (fun w' h'=>h' ▸ (At.drop (AtF.move ag aa.step nilM qbi).at_ 0 1)) kz kz (qaa (qaa (qaa (qac (qac (qaa (qaa (qac qae)))))))) rfl fun bK aQ=>?_
   refine qaF [14,15] [(0,.v (.slice A u.length c)),(3,.v (.int .i64 ((k:Nat):Int))),(5,.v (.int .i64 ((u.length:Nat):Int))),(6,.v (.int .i64 ((k:Nat):Int))),(25,.v (.bool (decide (af < ap))))] 0 (qaa (qaa (qaa (qac (qac (qaa (qaa (qac qae)))))))) (fun _ h=>h ▸ aa.cells) rfl aQ fun bL av=>?_
   refine qaC kz ?_ _
   refine qab (qaq av (b:=decide (af < ap)) kz (decide_eq_false (qi5 hsrt am ar (by omega))) ?_)
   refine wp_exit (qay (qay (qaQ (qav (qab (qau [0,1] kz ?_))))))
   refine qak [0,1] [] [(0,.v (.slice A u.length c)),(5,.v (.int .i64 ((u.length:Nat):Int))),(6,.v (.int .i64 (IntKind.i64.wrap (((k:Nat):Int) + 1))))] aa av fun bM aw=>?_
   refine qag (qab ?_)
   have aR:IntKind.i64.wrap (((k:Nat):Int) + 1) = ((k + 1:Nat):Int):=qaS (by omega)
   rw [aR] at aw
   exact ⟨u.length - (k + 1),by omega,k + 1,rfl,by omega,aw.pk,aa,(aj.trans ak)⟩
  have bj:=of_decide_eq_false ac
  have aS:=al
  rw [ac] at aS
  refine qaF [3,4,5,6,7,8,9,10,11,12,13,14,15] [(0,.v (.slice A u.length c)),(3,.v (.int .i64 ((k:Nat):Int))),(5,.v (.int .i64 ((u.length:Nat):Int))),(6,.v (.int .i64 ((k:Nat):Int))),(25,.v (.bool false))] 0 (qaa (qaa (qaa (qac (qac (qaa (qaa (qac qae)))))))) (fun _ h=>h ▸ aa.cells) rfl aS fun bN ax=>?_
  refine qaC kz ?_ _
  refine qab (qaq ax (b:=false) kz rfl ?_)
  refine wp_exit (qay (qay (qaQ (qav (qab (qau [0,1] kz ?_))))))
  refine qak [0,1] [] [(0,.v (.slice A u.length c)),(5,.v (.int .i64 ((u.length:Nat):Int))),(6,.v (.int .i64 (IntKind.i64.wrap (((k:Nat):Int) + 1))))] aa ax fun bO ay=>?_
  refine qag (qab ?_)
  have aT:IntKind.i64.wrap (((k:Nat):Int) + 1) = ((k + 1:Nat):Int):=qaS (by omega)
  rw [aT] at ay
  exact ⟨u.length - (k + 1),by omega,k + 1,rfl,by omega,ay.pk,aa,(aj.trans ak)⟩
 have bk:=of_decide_eq_false ai
 refine wp_exit (qay (qay (qaQ (qbV ah ab.cells (v:=.tuple #[]) kz ?_))))
 exact ⟨rfl,ab.step⟩
theorem qmi (s:ByteArray) (w:World) (F:Nat → Nat → Prop):Calls Tryz.prog 73 #[.pointer none] w (qdX w F (.mk 0 [] true [] [])):=by
 refine enter (n:=11) Tryz.func73 rfl Tryz.ntmps73 kz fun a hE=>?_
 have hW:=WOk.start w Nil
 refine qaf [0] kz ?_
 refine qan (qaM hW hE (d:=2) (cs:=z0) kz fun b1 a2 w3 hb4 hz5 hF6 hW7 hE8=>?_)
 refine qag (qab ?_)
 refine wp_seq (qas [(0,.v (.pointer none)),(2,.p 0 0),(4,.v (.bool true))] hW7 hE8 fun a9 aa=>?_)
 refine qa9 aa (b:=true) kz rfl ?_
 refine qaf [0,1] kz ?_
 refine qak [0] [1] [(2,.p 0 0),(5,.v (.agg #[.int .i64 0,.slice none 0 0,.bool true,.slice none 0 0,.slice none 0 0]))] hW7 aa fun ah ac=>?_
 refine qan (qao hW7 ac (oi:=0) (cs:=[.int .i64 0,.slice none 0 0,.bool true,.slice none 0 0,.slice none 0 0]) kz fun af ag ab ae=>?_)
 refine qag (qab ?_)
 refine wp_ret (qat (qaK ae ab.cells (v:=.agg #[.int .i64 0,.slice none 0 0,.bool true,.slice none 0 0,.slice none 0 0]) kz ?_))
 exact ⟨_,rfl,(show TreeR _ (Imm F w af [⟨b1,0,[.int .i64 0,.slice none 0 0,.bool true,.slice none 0 0,.slice none 0 0],true⟩] []) _ (Tree.mk 0 [] true [] []) from (TreeR.mk (n:=0) (b:=true) (s:=[]) (l:=[]) (u:=[]) (fun _=>[]) (Octs.nil _ _) (Slots.nil _ _ _ _) (fun i_ x_ h_=>by simp at h_) (TagsR.nil _ _))).move (Step.refl _ Nil) nilM qbP,ab.step⟩
theorem qmj (b o:Nat) (s:ByteArray) (w:World) (F:Nat → Nat → Prop) (hat:AtF w F b o [.string s]) (hs:s.size ≤ 1000000):Calls Tryz.prog 73 #[.pointer (some ⟨b,o,none⟩)] w (qdX w F (.mk 0 (sb s) false [] [])):=by
 refine enter (n:=11) Tryz.func73 rfl Tryz.ntmps73 kz fun a hE=>?_
 have hW:=WOk.start w Nil
 refine qaf [0] kz ?_
 refine qan (qaM hW hE (d:=2) (cs:=z0) kz fun b1 a2 w3 hb4 hz5 hF6 hW7 hE8=>?_)
 refine qag (qab ?_)
 refine wp_seq (qas [(0,.v (.pointer (some ⟨b,o,none⟩))),(2,.p 0 0),(4,.v (.bool false))] hW7 hE8 fun a9 aa=>?_)
 refine qaq aa (b:=false) kz rfl ?_
 refine wp_skip (qab (qaf [0,1,2,3,4,5] kz ?_))
 refine qak [0,1] [2,3,4,5] [(2,.p 0 0),(7,.v (.pointer (some ⟨b,o,none⟩)))] hW7 aa fun au ah=>?_
 refine qan (qaW ah (t:=9) (b:=b) (o:=o) (d:=8) kz (cs:=[.string s]) (v:=.string s) kz (AtF.move hat hW7.step nilM qbi).at_ fun av ai=>?_)
 refine qan (qgu (d:=9) (src:=9) (dst:=22) (e:=5) (s:=s) hW7 ai (by omega) fun af ag aw ax ap ab aj ak=>?_)
 have al:=aj F
 refine qak [4] [5] [(2,.p 0 0),(10,.v (.agg #[.int .i64 0,.slice (some ⟨af,0,none⟩) ((sb s).length) ag,.bool false,.slice none 0 0,.slice none 0 0]))] ab ak fun ay am=>?_
 refine qan (qao ab am (oi:=0) (cs:=[.int .i64 0,.slice (some ⟨af,0,none⟩) ((sb s).length) ag,.bool false,.slice none 0 0,.slice none 0 0]) kz fun ar ac ae ao=>?_)
 refine qag (qab ?_)
 refine wp_ret (qaK ao ae.cells (v:=.agg #[.int .i64 0,.slice (some ⟨af,0,none⟩) ((sb s).length) ag,.bool false,.slice none 0 0,.slice none 0 0]) kz ?_)
 exact ⟨_,rfl,(show TreeR _ (Imm F w ar [⟨b1,0,[.int .i64 0,.slice (some ⟨af,0,none⟩) ((sb s).length) ag,.bool false,.slice none 0 0,.slice none 0 0],true⟩] []) _ (Tree.mk 0 (sb s) false [] []) from (TreeR.mk (n:=0) (b:=false) (s:=(sb s)) (l:=[]) (u:=[]) (fun _=>[]) (al.move ac.step immM ac.to') (Slots.nil _ _ _ _) (fun i_ x_ h_=>by simp at h_) (TagsR.nil _ _))).move (Step.refl _ Nil) nilM qbP,ae.step⟩
theorem qlI (A:Option Addr) (s:ByteArray) (w:World) (F:Nat → Nat → Prop) (hO:∀ ad,A = some ad → ∃ b o,ad = ⟨b,o,none⟩ ∧ AtF w F b o [.string s]) (hs:s.size ≤ 1000000):Calls Tryz.prog 73 #[.pointer A] w (qdX w F (qgd A s)):=by
 cases A with
 | none=>exact qmi s w F
 | some ad =>
  obtain ⟨b,o,rfl,h⟩:=hO ad rfl
  exact qmj b o s w F h hs
abbrev z48 (x0) (x1) (x2) (x3) (x4) (x5) (x6):=([(2,.p 0 0),(6,.v (.slice x0 x1 x2)),(7,.v (.int .u32 x3)),(8,.v (.slice x4 x5 x6))]:Env)
abbrev z49 (x0) (x1) (x2) (x3) (x4) (x5) (x6):=([(2,.p 0 0),(6,.v (.slice x0 x1 x2)),(10,.v (.agg #[.int .u32 x3,.slice x4 x5 x6]))]:Env)
abbrev z65 (x0) (x1) (x2) (x3):=([(0,.v (.int .u32 x0)),(1,.v (.slice x1 x2 x3)),(2,.p 0 0)]:Env)
abbrev z93 (x0) (x1) (x2) (x3) (x4) (x5) (x6) (x7) (x8):=([⟨x0,x1,69,2,x2 + 1,x3 ++ (z40 x4 x5 x6 x7)⟩,brow x5 x7 5 x8]:List Rw)
theorem qfH:qeP Tryz.prog 60 69:=by
 intro w B cp c n k A Av x x0 x1 x2 x3 xs G hbx ho hG hn
 refine enter (n:=14) Tryz.func60 rfl Tryz.ntmps60 kz fun a hE=>?_
 have hW:=hbx.wok
 have hE0:=(hE.grow ⟨B,0,[x0,x1,x2,x3,.slice A n cp],true⟩).recast 2 (.v (.pointer (some ⟨B,0,none⟩))) (.p 0 0) rfl rfl (by simp [SV.ok])
 have hsm:=Slots.small ho
 have ap:=hE0.pk (env':=(z65 k Av x.length c))
 refine qcE 9 kz hW fun w1 hF2 hW3 hT4=>?_
 refine qaF [0,1,2,3] (z48 A n cp k Av x.length c) 6 qae (fun _ h=>h.cells) hT4 ap fun a5 hE6=>?_
 have hW7:=hW3.addNil 5 1
 have hF8:=hW3.frNil 5 1
 refine qap (i:=4) kz (qaR hW7 hE6 (k:=1) (d:=9) (t:=22) (e:=5) (size:=1) (bytes:=1) (A:=none) (As:=Av) (m0:=0) (c:=0) (m:=x.length) (cs:=c) (xs:=[]) (news:=bc x) kz kz rfl (ho.move hW7.step (fun b o h _=>hG b o h) qbi).src (ho.move hW7.step (fun b o h _=>hG b o h) qbi).cap (by first | omega | (simp only [List.length_nil]; omega) | (simp; omega)) fun A9 aa aK aL ac ar au=>?_)
 have av:(⟨A9,aa,5,1,0 + x.length,[] ++ bc x⟩:Rw) = brow A9 aa 5 x:=by rw [List.nil_append,Nat.zero_add]
 obtain ⟨af,ae⟩:=ar.rowEq 1 [⟨A,cp,69,2,n,xs⟩,brow A9 aa 5 x] av
 have aw:=EnvOk.pick au (ks:=[2,6,7,8,9]) (env':=[(2,.p 0 0),(6,.v (.slice A n cp)),(7,.v (.int .u32 k)),(8,.v (.slice Av x.length c)),(9,.v (.slice A9 (0 + x.length) aa))]) kz
 have ax:=aw.cast (env':=[(2,.p 0 0),(6,.v (.slice A n cp)),(7,.v (.int .u32 k)),(8,.v (.slice Av x.length c)),(9,.v (.slice A9 x.length aa))]) (by simp only [List.length_append,List.length_cons,List.length_nil,Nat.zero_add])
 have ag:=TT.ofW ((hF8.trans ac).trans ae) af
 refine ⟨fun _=>ag,?_⟩
 refine qaF [5] (z49 A n cp k A9 x.length aa) 4 qae (fun _ h=>h.cells) ag ax fun aM ay=>?_
 refine qap (i:=6) kz (qbB af ay (e:=69) (size:=2) (len:=1) (cs:=(z40 k A9 x.length aa)) (d:=11) kz kz fun aF aN aO aG aH ah ab az=>?_)
 have aA:=TT.ofW (((hF8.trans ac).trans ae).trans ah) ab
 refine ⟨fun _=>aA,?_⟩
 refine qap (i:=7) kz (qaR ab az (k:=0) (d:=12) (t:=35) (e:=69) (size:=2) (bytes:=32) (A:=A) (As:=(some ⟨aF,0,none⟩)) (m0:=n) (c:=cp) (m:=1) (cs:=1) (xs:=xs) (news:=[.int .u32 k,.slice A9 x.length aa]) kz kz rfl (qbI (ab.own 2 _ rfl) (qbE kz)) (qbQ (ab.own 2 _ rfl)) (by first | omega | (simp only [List.length_nil]; omega) | (simp; omega)) fun am ao aP aQ aB ai aC=>?_)
 have aj:=TT.ofW ((((hF8.trans ac).trans ae).trans ah).trans aB) ai
 refine ⟨fun _=>aj,?_⟩
 refine qaF [8] [(12,.v (.slice am (n + 1) ao)),(13,.p 0 4)] 1 qae (fun _ h=>h.cells) aj aC fun aR aD=>?_
 refine qap (i:=9) kz (qao ai aD (oi:=0) (cs:=[x0,x1,x2,x3,.slice am (n + 1) ao]) kz fun aS aI ak aE=>?_)
 refine ⟨fun h=>absurd rfl h,?_⟩
 refine qaC kz ?_ _
 refine qbV aE ak.cells (v:=.tuple #[]) kz ?_
 obtain ⟨al,aJ⟩:=ak.cutR 2 (z93 am ao n xs k A9 x.length aa x)
 have hoo:=qdL (s:=x) (Av:=A9) (c:=aa) (e8:=5) rfl al (by omega)
 obtain ⟨hb1,hb2,hb3⟩:=qfp al (World.lt_of_cell (hbx.str.at_ 0 _ rfl))
 exact ⟨rfl,am,ao,A9,aa,hb1,hoo,hb2,hb3⟩
theorem qdk:qeP Tryz.prog 76 69:=by
 intro w B cp c n k A Av x x0 x1 x2 x3 xs G hbx ho hG hn
 refine enter (n:=14) Tryz.func76 rfl Tryz.ntmps76 kz fun a hE=>?_
 have hW:=hbx.wok
 have hE0:=(hE.grow ⟨B,0,[x0,x1,x2,x3,.slice A n cp],true⟩).recast 2 (.v (.pointer (some ⟨B,0,none⟩))) (.p 0 0) rfl rfl (by simp [SV.ok])
 have hsm:=Slots.small ho
 have ap:=hE0.pk (env':=(z65 k Av x.length c))
 refine qcE 9 kz hW fun w1 hF2 hW3 hT4=>?_
 refine qaF [0,1,2,3] (z48 A n cp k Av x.length c) 6 qae (fun _ h=>h.cells) hT4 ap fun a5 hE6=>?_
 have hW7:=hW3.addNil 5 1
 have hF8:=hW3.frNil 5 1
 refine qap (i:=4) kz (qaR hW7 hE6 (k:=1) (d:=9) (t:=22) (e:=5) (size:=1) (bytes:=1) (A:=none) (As:=Av) (m0:=0) (c:=0) (m:=x.length) (cs:=c) (xs:=[]) (news:=bc x) kz kz rfl (ho.move hW7.step (fun b o h _=>hG b o h) qbi).src (ho.move hW7.step (fun b o h _=>hG b o h) qbi).cap (by first | omega | (simp only [List.length_nil]; omega) | (simp; omega)) fun A9 aa aK aL ac ar au=>?_)
 have av:(⟨A9,aa,5,1,0 + x.length,[] ++ bc x⟩:Rw) = brow A9 aa 5 x:=by rw [List.nil_append,Nat.zero_add]
 obtain ⟨af,ae⟩:=ar.rowEq 1 [⟨A,cp,69,2,n,xs⟩,brow A9 aa 5 x] av
 have aw:=EnvOk.pick au (ks:=[2,6,7,8,9]) (env':=[(2,.p 0 0),(6,.v (.slice A n cp)),(7,.v (.int .u32 k)),(8,.v (.slice Av x.length c)),(9,.v (.slice A9 (0 + x.length) aa))]) kz
 have ax:=aw.cast (env':=[(2,.p 0 0),(6,.v (.slice A n cp)),(7,.v (.int .u32 k)),(8,.v (.slice Av x.length c)),(9,.v (.slice A9 x.length aa))]) (by simp only [List.length_append,List.length_cons,List.length_nil,Nat.zero_add])
 have ag:=TT.ofW ((hF8.trans ac).trans ae) af
 refine ⟨fun _=>ag,?_⟩
 refine qaF [5] (z49 A n cp k A9 x.length aa) 4 qae (fun _ h=>h.cells) ag ax fun aM ay=>?_
 refine qap (i:=6) kz (qbB af ay (e:=69) (size:=2) (len:=1) (cs:=(z40 k A9 x.length aa)) (d:=11) kz kz fun aF aN aO aG aH ah ab az=>?_)
 have aA:=TT.ofW (((hF8.trans ac).trans ae).trans ah) ab
 refine ⟨fun _=>aA,?_⟩
 refine qap (i:=7) kz (qaR ab az (k:=0) (d:=12) (t:=35) (e:=69) (size:=2) (bytes:=32) (A:=A) (As:=(some ⟨aF,0,none⟩)) (m0:=n) (c:=cp) (m:=1) (cs:=1) (xs:=xs) (news:=[.int .u32 k,.slice A9 x.length aa]) kz kz rfl (qbI (ab.own 2 _ rfl) (qbE kz)) (qbQ (ab.own 2 _ rfl)) (by first | omega | (simp only [List.length_nil]; omega) | (simp; omega)) fun am ao aP aQ aB ai aC=>?_)
 have aj:=TT.ofW ((((hF8.trans ac).trans ae).trans ah).trans aB) ai
 refine ⟨fun _=>aj,?_⟩
 refine qaF [8] [(12,.v (.slice am (n + 1) ao)),(13,.p 0 4)] 1 qae (fun _ h=>h.cells) aj aC fun aR aD=>?_
 refine qap (i:=9) kz (qao ai aD (oi:=0) (cs:=[x0,x1,x2,x3,.slice am (n + 1) ao]) kz fun aS aI ak aE=>?_)
 refine ⟨fun h=>absurd rfl h,?_⟩
 refine qaC kz ?_ _
 refine qbV aE ak.cells (v:=.tuple #[]) kz ?_
 obtain ⟨al,aJ⟩:=ak.cutR 2 (z93 am ao n xs k A9 x.length aa x)
 have hoo:=qdL (s:=x) (Av:=A9) (c:=aa) (e8:=5) rfl al (by omega)
 obtain ⟨hb1,hb2,hb3⟩:=qfp al (World.lt_of_cell (hbx.str.at_ 0 _ rfl))
 exact ⟨rfl,am,ao,A9,aa,hb1,hoo,hb2,hb3⟩
theorem qcw:qeP Tryz.prog 120 69:=by
 intro w B cp c n k A Av x x0 x1 x2 x3 xs G hbx ho hG hn
 refine enter (n:=14) Tryz.func120 rfl Tryz.ntmps120 kz fun a hE=>?_
 have hW:=hbx.wok
 have hE0:=(hE.grow ⟨B,0,[x0,x1,x2,x3,.slice A n cp],true⟩).recast 2 (.v (.pointer (some ⟨B,0,none⟩))) (.p 0 0) rfl rfl (by simp [SV.ok])
 have hsm:=Slots.small ho
 have ap:=hE0.pk (env':=(z65 k Av x.length c))
 refine qcE 9 kz hW fun w1 hF2 hW3 hT4=>?_
 refine qaF [0,1,2,3] (z48 A n cp k Av x.length c) 6 qae (fun _ h=>h.cells) hT4 ap fun a5 hE6=>?_
 have hW7:=hW3.addNil 5 1
 have hF8:=hW3.frNil 5 1
 refine qap (i:=4) kz (qaR hW7 hE6 (k:=1) (d:=9) (t:=22) (e:=5) (size:=1) (bytes:=1) (A:=none) (As:=Av) (m0:=0) (c:=0) (m:=x.length) (cs:=c) (xs:=[]) (news:=bc x) kz kz rfl (ho.move hW7.step (fun b o h _=>hG b o h) qbi).src (ho.move hW7.step (fun b o h _=>hG b o h) qbi).cap (by first | omega | (simp only [List.length_nil]; omega) | (simp; omega)) fun A9 aa aK aL ac ar au=>?_)
 have av:(⟨A9,aa,5,1,0 + x.length,[] ++ bc x⟩:Rw) = brow A9 aa 5 x:=by rw [List.nil_append,Nat.zero_add]
 obtain ⟨af,ae⟩:=ar.rowEq 1 [⟨A,cp,69,2,n,xs⟩,brow A9 aa 5 x] av
 have aw:=EnvOk.pick au (ks:=[2,6,7,8,9]) (env':=[(2,.p 0 0),(6,.v (.slice A n cp)),(7,.v (.int .u32 k)),(8,.v (.slice Av x.length c)),(9,.v (.slice A9 (0 + x.length) aa))]) kz
 have ax:=aw.cast (env':=[(2,.p 0 0),(6,.v (.slice A n cp)),(7,.v (.int .u32 k)),(8,.v (.slice Av x.length c)),(9,.v (.slice A9 x.length aa))]) (by simp only [List.length_append,List.length_cons,List.length_nil,Nat.zero_add])
 have ag:=TT.ofW ((hF8.trans ac).trans ae) af
 refine ⟨fun _=>ag,?_⟩
 refine qaF [5] (z49 A n cp k A9 x.length aa) 4 qae (fun _ h=>h.cells) ag ax fun aM ay=>?_
 refine qap (i:=6) kz (qbB af ay (e:=69) (size:=2) (len:=1) (cs:=(z40 k A9 x.length aa)) (d:=11) kz kz fun aF aN aO aG aH ah ab az=>?_)
 have aA:=TT.ofW (((hF8.trans ac).trans ae).trans ah) ab
 refine ⟨fun _=>aA,?_⟩
 refine qap (i:=7) kz (qaR ab az (k:=0) (d:=12) (t:=35) (e:=69) (size:=2) (bytes:=32) (A:=A) (As:=(some ⟨aF,0,none⟩)) (m0:=n) (c:=cp) (m:=1) (cs:=1) (xs:=xs) (news:=[.int .u32 k,.slice A9 x.length aa]) kz kz rfl (qbI (ab.own 2 _ rfl) (qbE kz)) (qbQ (ab.own 2 _ rfl)) (by first | omega | (simp only [List.length_nil]; omega) | (simp; omega)) fun am ao aP aQ aB ai aC=>?_)
 have aj:=TT.ofW ((((hF8.trans ac).trans ae).trans ah).trans aB) ai
 refine ⟨fun _=>aj,?_⟩
 refine qaF [8] [(12,.v (.slice am (n + 1) ao)),(13,.p 0 4)] 1 qae (fun _ h=>h.cells) aj aC fun aR aD=>?_
 refine qap (i:=9) kz (qao ai aD (oi:=0) (cs:=[x0,x1,x2,x3,.slice am (n + 1) ao]) kz fun aS aI ak aE=>?_)
 refine ⟨fun h=>absurd rfl h,?_⟩
 refine qaC kz ?_ _
 refine qbV aE ak.cells (v:=.tuple #[]) kz ?_
 obtain ⟨al,aJ⟩:=ak.cutR 2 (z93 am ao n xs k A9 x.length aa x)
 have hoo:=qdL (s:=x) (Av:=A9) (c:=aa) (e8:=5) rfl al (by omega)
 obtain ⟨hb1,hb2,hb3⟩:=qfp al (World.lt_of_cell (hbx.str.at_ 0 _ rfl))
 exact ⟨rfl,am,ao,A9,aa,hb1,hoo,hb2,hb3⟩
theorem qcS:qeP Tryz.prog 119 69:=by
 intro w B cp c n k A Av x x0 x1 x2 x3 xs G hbx ho hG hn
 refine enter (n:=14) Tryz.func119 rfl Tryz.ntmps119 kz fun a hE=>?_
 have hW:=hbx.wok
 have hE0:=(hE.grow ⟨B,0,[x0,x1,x2,x3,.slice A n cp],true⟩).recast 2 (.v (.pointer (some ⟨B,0,none⟩))) (.p 0 0) rfl rfl (by simp [SV.ok])
 have hsm:=Slots.small ho
 have ap:=hE0.pk (env':=(z65 k Av x.length c))
 refine qcE 9 kz hW fun w1 hF2 hW3 hT4=>?_
 refine qaF [0,1,2,3] (z48 A n cp k Av x.length c) 6 qae (fun _ h=>h.cells) hT4 ap fun a5 hE6=>?_
 have hW7:=hW3.addNil 5 1
 have hF8:=hW3.frNil 5 1
 refine qap (i:=4) kz (qaR hW7 hE6 (k:=1) (d:=9) (t:=22) (e:=5) (size:=1) (bytes:=1) (A:=none) (As:=Av) (m0:=0) (c:=0) (m:=x.length) (cs:=c) (xs:=[]) (news:=bc x) kz kz rfl (ho.move hW7.step (fun b o h _=>hG b o h) qbi).src (ho.move hW7.step (fun b o h _=>hG b o h) qbi).cap (by first | omega | (simp only [List.length_nil]; omega) | (simp; omega)) fun A9 aa aK aL ac ar au=>?_)
 have av:(⟨A9,aa,5,1,0 + x.length,[] ++ bc x⟩:Rw) = brow A9 aa 5 x:=by rw [List.nil_append,Nat.zero_add]
 obtain ⟨af,ae⟩:=ar.rowEq 1 [⟨A,cp,69,2,n,xs⟩,brow A9 aa 5 x] av
 have aw:=EnvOk.pick au (ks:=[2,6,7,8,9]) (env':=[(2,.p 0 0),(6,.v (.slice A n cp)),(7,.v (.int .u32 k)),(8,.v (.slice Av x.length c)),(9,.v (.slice A9 (0 + x.length) aa))]) kz
 have ax:=aw.cast (env':=[(2,.p 0 0),(6,.v (.slice A n cp)),(7,.v (.int .u32 k)),(8,.v (.slice Av x.length c)),(9,.v (.slice A9 x.length aa))]) (by simp only [List.length_append,List.length_cons,List.length_nil,Nat.zero_add])
 have ag:=TT.ofW ((hF8.trans ac).trans ae) af
 refine ⟨fun _=>ag,?_⟩
 refine qaF [5] (z49 A n cp k A9 x.length aa) 4 qae (fun _ h=>h.cells) ag ax fun aM ay=>?_
 refine qap (i:=6) kz (qbB af ay (e:=69) (size:=2) (len:=1) (cs:=(z40 k A9 x.length aa)) (d:=11) kz kz fun aF aN aO aG aH ah ab az=>?_)
 have aA:=TT.ofW (((hF8.trans ac).trans ae).trans ah) ab
 refine ⟨fun _=>aA,?_⟩
 refine qap (i:=7) kz (qaR ab az (k:=0) (d:=12) (t:=35) (e:=69) (size:=2) (bytes:=32) (A:=A) (As:=(some ⟨aF,0,none⟩)) (m0:=n) (c:=cp) (m:=1) (cs:=1) (xs:=xs) (news:=[.int .u32 k,.slice A9 x.length aa]) kz kz rfl (qbI (ab.own 2 _ rfl) (qbE kz)) (qbQ (ab.own 2 _ rfl)) (by first | omega | (simp only [List.length_nil]; omega) | (simp; omega)) fun am ao aP aQ aB ai aC=>?_)
 have aj:=TT.ofW ((((hF8.trans ac).trans ae).trans ah).trans aB) ai
 refine ⟨fun _=>aj,?_⟩
 refine qaF [8] [(12,.v (.slice am (n + 1) ao)),(13,.p 0 4)] 1 qae (fun _ h=>h.cells) aj aC fun aR aD=>?_
 refine qap (i:=9) kz (qao ai aD (oi:=0) (cs:=[x0,x1,x2,x3,.slice am (n + 1) ao]) kz fun aS aI ak aE=>?_)
 refine ⟨fun h=>absurd rfl h,?_⟩
 refine qaC kz ?_ _
 refine qbV aE ak.cells (v:=.tuple #[]) kz ?_
 obtain ⟨al,aJ⟩:=ak.cutR 2 (z93 am ao n xs k A9 x.length aa x)
 have hoo:=qdL (s:=x) (Av:=A9) (c:=aa) (e8:=5) rfl al (by omega)
 obtain ⟨hb1,hb2,hb3⟩:=qfp al (World.lt_of_cell (hbx.str.at_ 0 _ rfl))
 exact ⟨rfl,am,ao,A9,aa,hb1,hoo,hb2,hb3⟩
theorem qcp:qeP Tryz.prog 144 69:=by
 intro w B cp c n k A Av x x0 x1 x2 x3 xs G hbx ho hG hn
 refine enter (n:=14) Tryz.func144 rfl Tryz.ntmps144 kz fun a hE=>?_
 have hW:=hbx.wok
 have hE0:=(hE.grow ⟨B,0,[x0,x1,x2,x3,.slice A n cp],true⟩).recast 2 (.v (.pointer (some ⟨B,0,none⟩))) (.p 0 0) rfl rfl (by simp [SV.ok])
 have hsm:=Slots.small ho
 have ap:=hE0.pk (env':=(z65 k Av x.length c))
 refine qcE 9 kz hW fun w1 hF2 hW3 hT4=>?_
 refine qaF [0,1,2,3] (z48 A n cp k Av x.length c) 6 qae (fun _ h=>h.cells) hT4 ap fun a5 hE6=>?_
 have hW7:=hW3.addNil 5 1
 have hF8:=hW3.frNil 5 1
 refine qap (i:=4) kz (qaR hW7 hE6 (k:=1) (d:=9) (t:=22) (e:=5) (size:=1) (bytes:=1) (A:=none) (As:=Av) (m0:=0) (c:=0) (m:=x.length) (cs:=c) (xs:=[]) (news:=bc x) kz kz rfl (ho.move hW7.step (fun b o h _=>hG b o h) qbi).src (ho.move hW7.step (fun b o h _=>hG b o h) qbi).cap (by first | omega | (simp only [List.length_nil]; omega) | (simp; omega)) fun A9 aa aK aL ac ar au=>?_)
 have av:(⟨A9,aa,5,1,0 + x.length,[] ++ bc x⟩:Rw) = brow A9 aa 5 x:=by rw [List.nil_append,Nat.zero_add]
 obtain ⟨af,ae⟩:=ar.rowEq 1 [⟨A,cp,69,2,n,xs⟩,brow A9 aa 5 x] av
 have aw:=EnvOk.pick au (ks:=[2,6,7,8,9]) (env':=[(2,.p 0 0),(6,.v (.slice A n cp)),(7,.v (.int .u32 k)),(8,.v (.slice Av x.length c)),(9,.v (.slice A9 (0 + x.length) aa))]) kz
 have ax:=aw.cast (env':=[(2,.p 0 0),(6,.v (.slice A n cp)),(7,.v (.int .u32 k)),(8,.v (.slice Av x.length c)),(9,.v (.slice A9 x.length aa))]) (by simp only [List.length_append,List.length_cons,List.length_nil,Nat.zero_add])
 have ag:=TT.ofW ((hF8.trans ac).trans ae) af
 refine ⟨fun _=>ag,?_⟩
 refine qaF [5] (z49 A n cp k A9 x.length aa) 4 qae (fun _ h=>h.cells) ag ax fun aM ay=>?_
 refine qap (i:=6) kz (qbB af ay (e:=69) (size:=2) (len:=1) (cs:=(z40 k A9 x.length aa)) (d:=11) kz kz fun aF aN aO aG aH ah ab az=>?_)
 have aA:=TT.ofW (((hF8.trans ac).trans ae).trans ah) ab
 refine ⟨fun _=>aA,?_⟩
 refine qap (i:=7) kz (qaR ab az (k:=0) (d:=12) (t:=35) (e:=69) (size:=2) (bytes:=32) (A:=A) (As:=(some ⟨aF,0,none⟩)) (m0:=n) (c:=cp) (m:=1) (cs:=1) (xs:=xs) (news:=[.int .u32 k,.slice A9 x.length aa]) kz kz rfl (qbI (ab.own 2 _ rfl) (qbE kz)) (qbQ (ab.own 2 _ rfl)) (by first | omega | (simp only [List.length_nil]; omega) | (simp; omega)) fun am ao aP aQ aB ai aC=>?_)
 have aj:=TT.ofW ((((hF8.trans ac).trans ae).trans ah).trans aB) ai
 refine ⟨fun _=>aj,?_⟩
 refine qaF [8] [(12,.v (.slice am (n + 1) ao)),(13,.p 0 4)] 1 qae (fun _ h=>h.cells) aj aC fun aR aD=>?_
 refine qap (i:=9) kz (qao ai aD (oi:=0) (cs:=[x0,x1,x2,x3,.slice am (n + 1) ao]) kz fun aS aI ak aE=>?_)
 refine ⟨fun h=>absurd rfl h,?_⟩
 refine qaC kz ?_ _
 refine qbV aE ak.cells (v:=.tuple #[]) kz ?_
 obtain ⟨al,aJ⟩:=ak.cutR 2 (z93 am ao n xs k A9 x.length aa x)
 have hoo:=qdL (s:=x) (Av:=A9) (c:=aa) (e8:=5) rfl al (by omega)
 obtain ⟨hb1,hb2,hb3⟩:=qfp al (World.lt_of_cell (hbx.str.at_ 0 _ rfl))
 exact ⟨rfl,am,ao,A9,aa,hb1,hoo,hb2,hb3⟩
theorem qbX:qeP Tryz.prog 167 69:=by
 intro w B cp c n k A Av x x0 x1 x2 x3 xs G hbx ho hG hn
 refine enter (n:=14) Tryz.func167 rfl Tryz.ntmps167 kz fun a hE=>?_
 have hW:=hbx.wok
 have hE0:=(hE.grow ⟨B,0,[x0,x1,x2,x3,.slice A n cp],true⟩).recast 2 (.v (.pointer (some ⟨B,0,none⟩))) (.p 0 0) rfl rfl (by simp [SV.ok])
 have hsm:=Slots.small ho
 have ap:=hE0.pk (env':=(z65 k Av x.length c))
 refine qcE 9 kz hW fun w1 hF2 hW3 hT4=>?_
 refine qaF [0,1,2,3] (z48 A n cp k Av x.length c) 6 qae (fun _ h=>h.cells) hT4 ap fun a5 hE6=>?_
 have hW7:=hW3.addNil 5 1
 have hF8:=hW3.frNil 5 1
 refine qap (i:=4) kz (qaR hW7 hE6 (k:=1) (d:=9) (t:=22) (e:=5) (size:=1) (bytes:=1) (A:=none) (As:=Av) (m0:=0) (c:=0) (m:=x.length) (cs:=c) (xs:=[]) (news:=bc x) kz kz rfl (ho.move hW7.step (fun b o h _=>hG b o h) qbi).src (ho.move hW7.step (fun b o h _=>hG b o h) qbi).cap (by first | omega | (simp only [List.length_nil]; omega) | (simp; omega)) fun A9 aa aK aL ac ar au=>?_)
 have av:(⟨A9,aa,5,1,0 + x.length,[] ++ bc x⟩:Rw) = brow A9 aa 5 x:=by rw [List.nil_append,Nat.zero_add]
 obtain ⟨af,ae⟩:=ar.rowEq 1 [⟨A,cp,69,2,n,xs⟩,brow A9 aa 5 x] av
 have aw:=EnvOk.pick au (ks:=[2,6,7,8,9]) (env':=[(2,.p 0 0),(6,.v (.slice A n cp)),(7,.v (.int .u32 k)),(8,.v (.slice Av x.length c)),(9,.v (.slice A9 (0 + x.length) aa))]) kz
 have ax:=aw.cast (env':=[(2,.p 0 0),(6,.v (.slice A n cp)),(7,.v (.int .u32 k)),(8,.v (.slice Av x.length c)),(9,.v (.slice A9 x.length aa))]) (by simp only [List.length_append,List.length_cons,List.length_nil,Nat.zero_add])
 have ag:=TT.ofW ((hF8.trans ac).trans ae) af
 refine ⟨fun _=>ag,?_⟩
 refine qaF [5] (z49 A n cp k A9 x.length aa) 4 qae (fun _ h=>h.cells) ag ax fun aM ay=>?_
 refine qap (i:=6) kz (qbB af ay (e:=69) (size:=2) (len:=1) (cs:=(z40 k A9 x.length aa)) (d:=11) kz kz fun aF aN aO aG aH ah ab az=>?_)
 have aA:=TT.ofW (((hF8.trans ac).trans ae).trans ah) ab
 refine ⟨fun _=>aA,?_⟩
 refine qap (i:=7) kz (qaR ab az (k:=0) (d:=12) (t:=35) (e:=69) (size:=2) (bytes:=32) (A:=A) (As:=(some ⟨aF,0,none⟩)) (m0:=n) (c:=cp) (m:=1) (cs:=1) (xs:=xs) (news:=[.int .u32 k,.slice A9 x.length aa]) kz kz rfl (qbI (ab.own 2 _ rfl) (qbE kz)) (qbQ (ab.own 2 _ rfl)) (by first | omega | (simp only [List.length_nil]; omega) | (simp; omega)) fun am ao aP aQ aB ai aC=>?_)
 have aj:=TT.ofW ((((hF8.trans ac).trans ae).trans ah).trans aB) ai
 refine ⟨fun _=>aj,?_⟩
 refine qaF [8] [(12,.v (.slice am (n + 1) ao)),(13,.p 0 4)] 1 qae (fun _ h=>h.cells) aj aC fun aR aD=>?_
 refine qap (i:=9) kz (qao ai aD (oi:=0) (cs:=[x0,x1,x2,x3,.slice am (n + 1) ao]) kz fun aS aI ak aE=>?_)
 refine ⟨fun h=>absurd rfl h,?_⟩
 refine qaC kz ?_ _
 refine qbV aE ak.cells (v:=.tuple #[]) kz ?_
 obtain ⟨al,aJ⟩:=ak.cutR 2 (z93 am ao n xs k A9 x.length aa x)
 have hoo:=qdL (s:=x) (Av:=A9) (c:=aa) (e8:=5) rfl al (by omega)
 obtain ⟨hb1,hb2,hb3⟩:=qfp al (World.lt_of_cell (hbx.str.at_ 0 _ rfl))
 exact ⟨rfl,am,ao,A9,aa,hb1,hoo,hb2,hb3⟩
theorem n8w (x:Int):IntKind.i8.wrap x = (x + 128) % 256 - 128:=by simp [IntKind.wrap,IntKind.signed,IntKind.bits]; omega
theorem n16w (x:Int):IntKind.i16.wrap x = (x + 32768) % 65536 - 32768:=by simp [IntKind.wrap,IntKind.signed,IntKind.bits]; omega
theorem n32w (x:Int):IntKind.i32.wrap x = (x + 2147483648) % 4294967296 - 2147483648:=by simp [IntKind.wrap,IntKind.signed,IntKind.bits]; omega
theorem n64w (x:Int):IntKind.i64.wrap x = (x + 9223372036854775808) % 18446744073709551616 - 9223372036854775808:=by simp [IntKind.wrap,IntKind.signed,IntKind.bits]; omega
theorem qi7 (x:Int):IntKind.i64.wrap (IntKind.i8.wrap x) = IntKind.i8.wrap x:=by rw [n64w,n8w]; omega
theorem qfu (x:Int):IntKind.i64.wrap (IntKind.i16.wrap x) = IntKind.i16.wrap x:=by rw [n64w,n16w]; omega
theorem qdM (x:Int):IntKind.i64.wrap (IntKind.i32.wrap x) = IntKind.i32.wrap x:=by rw [n64w,n32w]; omega
theorem qfq (x:Int):IntKind.i64.wrap (IntKind.u16.wrap x) = IntKind.u16.wrap x:=by rw [n64w,qbZ]; omega
def qbL (k n:Int):Int:=if k = 0 then n % 2 else if k = 1 then IntKind.i8.wrap n else if k = 2 then IntKind.i16.wrap n else if k = 3 then IntKind.i32.wrap n else if k = 5 then IntKind.u16.wrap n else n
structure UsQ (U:List Fld → Tree → Prop) (k x1 x2 x3 x4 x5 x6:Int) (sub:List Fld) (n:Int) (s:Bs) (b:Bool) (l:List Tree) (u:List (Int × Bs)):Prop where
 text:k = 8 → b = decide (x3 ≥ 0) ∧ s = []
 uuid:k = 7 → s = List.replicate 16 0
 octs:k = 9 ∨ k = 11 → s = [] ∧ l = []
 part:k = 10 → (x3 ≥ 0 → b = true) ∧ (x3 < 0 → U sub (.mk n s b l u))
 num:k ≠ 7 → k ≠ 8 → k ≠ 9 → k ≠ 10 → k ≠ 11 → n = qbL k x5
def UsF (U:List Fld → Tree → Prop):Fld → Tree → Prop
 | .mk k x1 x2 x3 x4 x5 x6 sub,.mk n s b l u=>UsQ U k x1 x2 x3 x4 x5 x6 sub n s b l u
def UsP (U:List Fld → Tree → Prop) (l:List Fld) (g:Tree):Prop:=g.U = [] ∧ ∀ (i:Nat) (f:Fld),l[i]? = some f → UsF U f (g.at_ i)
def qkd:Nat → List Fld → Tree → Prop
 | 0=>UsP fun _ _=>False
 | d + 1=>UsP (qkd d)
structure ToQ (T:List Fld → Tree → Tree → Prop) (v:Int) (f:Fld) (k x3:Int) (sub:List Fld) (t:Tree) (tn:Int) (ts:Bs) (n:Int) (s:Bs) (b:Bool) (g:Tree):Prop where
 null:k = 8 ∨ k = 10 ∨ (x3 ≥ 0 ∧ v ≥ x3) → b = f.nul v t
 text:f.nul v t = false → k = 8 ∨ k = 9 → s = qaG ts
 uuid:f.nul v t = false → k = 7 → s = qbF ts
 part:f.nul v t = false → k = 10 → T sub t g
 num:f.nul v t = false → k ≠ 7 → k ≠ 8 → k ≠ 9 → k ≠ 10 → k ≠ 11 → n = qbL k tn
def ToF0 (T:List Fld → Tree → Tree → Prop) (v:Int):Fld → Tree → Tree → Prop
 | .mk k x1 x2 x3 x4 x5 x6 sub,.mk tn ts tb tl tu,.mk n s b l u=>ToQ T v (.mk k x1 x2 x3 x4 x5 x6 sub) k x3 sub (.mk tn ts tb tl tu) tn ts n s b (.mk n s b l u)
def ToF (T:List Fld → Tree → Tree → Prop) (v:Int) (f:Fld) (t g:Tree):Prop :=
 ToF0 T v f t g ∧ (f.kind = 11 → f.nul v t = false → g.L.length = (qar t.L).length ∧ ∀ (i:Nat) (x y:Tree),(qar t.L)[i]? = some x → g.L[i]? = some y → ToF0 T v f.elem x y)
def Fld.pres (f:Fld) (v:Int) (flex:Bool) (x:Tree):Bool:=(decide (f.tag < 0) && f.has v) || (decide (f.tag ≥ 0) && (flex && !f.usual x))
def ToP (T:List Fld → Tree → Tree → Prop) (U:List Fld → Tree → Prop) (l:List Fld) (v:Int) (flex:Bool) (t g:Tree):Prop :=
 g.L.length = l.length ∧ (∀ (i:Nat) (f:Fld) (y:Tree),l[i]? = some f → g.L[i]? = some y → (f.pres v flex (t.at_ i) = true → ToF T v f (t.at_ i) y) ∧ (f.pres v flex (t.at_ i) = false → UsF U f y)) ∧
  g.U = (if flex = true then qcC (qaj l t.U) else [])
def qhA (v:Int) (flex:Bool):Nat → List Fld → Tree → Tree → Prop
 | 0=>fun l t g=>ToP (fun _ _ _=>False) (fun _ _=>False) l v flex t g
 | d + 1=>fun l t g=>ToP (qhA v flex d) (qkd d) l v flex t g
theorem qk9 {U:List Fld → Tree → Prop} {f:Fld} {y:Tree} (h:UsF U f y):UsP U [f] (.mk 0 [] false [y] []):=by
 refine ⟨rfl,fun i g hg=>?_⟩
 cases i with
 | zero =>
  simp only [List.getElem?_cons_zero,Option.some.injEq] at hg
  subst hg
  exact h
 | succ i=>simp at hg
theorem qke {w:World} {e:Nat} {A:Option Addr} {c:Nat} {F:Nat → Nat → Prop} (h:w.ownsRow 0 e 1 (.slice A 16 c) 16 (List.replicate 16 (.int .u8 0))) (hF:∀ g,A.map (·.block) = some g → ∀ o,F g o):Octs w F A c (List.replicate 16 0) :=
 qcF (s:=List.replicate 16 0) h (by decide) hF
section
variable {U:List Fld → Tree → Prop} {k x1 x2 x3 x4 x5 x6 n:Int} {sub:List Fld} {s:Bs} {b:Bool} {l:List Tree} {u:List (Int × Bs)}
abbrev UsH (U:List Fld → Tree → Prop) (k x1 x2 x3 x4 x5 x6:Int) (sub:List Fld) (n:Int) (s:Bs) (b:Bool) (l:List Tree) (u:List (Int × Bs)):Prop:=UsF U (.mk k x1 x2 x3 x4 x5 x6 sub) (.mk n s b l u)
theorem us_q (h:UsH U k x1 x2 x3 x4 x5 x6 sub n s b l u):UsQ U k x1 x2 x3 x4 x5 x6 sub n s b l u:=h
theorem qgW (h:UsH U k x1 x2 x3 x4 x5 x6 sub n s b l u) (hk:k = 8) (hc:(b != decide (x3 ≥ 0)) = true):False:=by
 have:=((us_q h).text hk).1
 rw [this] at hc; simp at hc
theorem qgX (h:UsH U k x1 x2 x3 x4 x5 x6 sub n s b l u) (hk:k = 8) (hc:((s.length:Nat):Int) > 0):False:=by
 have:=((us_q h).text hk).2
 rw [this] at hc; simp at hc
theorem us_7 (h:UsH U k x1 x2 x3 x4 x5 x6 sub n s b l u) (hk:k = 7) (hc:(!decide (s = (List.replicate 16 0:Bs))) = true):False:=by
 have:=(us_q h).uuid hk
 rw [this] at hc; simp at hc
theorem qgY (h:UsH U k x1 x2 x3 x4 x5 x6 sub n s b l u) (hk:k = 9) (hc:((s.length:Nat):Int) > 0):False:=by
 have:=((us_q h).octs (.inl hk)).1
 rw [this] at hc; simp at hc
theorem qgZ (h:UsH U k x1 x2 x3 x4 x5 x6 sub n s b l u) (hk:k = 9) (hc:((l.length:Nat):Int) > 0):False:=by
 have:=((us_q h).octs (.inl hk)).2
 rw [this] at hc; simp at hc
theorem qe6 (h:UsH U k x1 x2 x3 x4 x5 x6 sub n s b l u) (hk:k = 11) (hc:((s.length:Nat):Int) > 0):False:=by
 have:=((us_q h).octs (.inr hk)).1
 rw [this] at hc; simp at hc
theorem qe7 (h:UsH U k x1 x2 x3 x4 x5 x6 sub n s b l u) (hk:k = 11) (hc:((l.length:Nat):Int) > 0):False:=by
 have:=((us_q h).octs (.inr hk)).2
 rw [this] at hc; simp at hc
theorem qg0 (h:UsH U k x1 x2 x3 x4 x5 x6 sub n s b l u) (hk:k = 10) (h3:x3 ≥ 0) (hc:(!b) = true):False:=by
 have:=((us_q h).part hk).1 h3
 rw [this] at hc; simp at hc
theorem qla (h:UsH U k x1 x2 x3 x4 x5 x6 sub n s b l u) (hk:k = 10) (h3:x3 < 0):U sub (.mk n s b l u):=((us_q h).part hk).2 h3
theorem us_n (h:UsH U k x1 x2 x3 x4 x5 x6 sub n s b l u) (h7:k ≠ 7) (h8:k ≠ 8) (h9:k ≠ 9) (h10:k ≠ 10) (h11:k ≠ 11) (hc:n ≠ qbL k x5):False:=hc ((us_q h).num h7 h8 h9 h10 h11)
theorem us_u {g:Tree} (h:g.U = []) {u:List (Int × Bs)} (e:g.U = u) (hc:((u.length:Nat):Int) > 0):False:=by
 rw [← e,h] at hc; simp at hc
end
section
variable {T:List Fld → Tree → Tree → Prop} {v k x1 x2 x3 x4 x5 x6 tn n:Int} {sub:List Fld} {ts s:Bs} {tb b:Bool} {tl l:List Tree} {tu u:List (Int × Bs)}
abbrev ToH (T:List Fld → Tree → Tree → Prop) (v k x1 x2 x3 x4 x5 x6:Int) (sub:List Fld) (tn:Int) (ts:Bs) (tb:Bool) (tl:List Tree) (tu:List (Int × Bs)) (n:Int) (s:Bs) (b:Bool) (l:List Tree) (u:List (Int × Bs)):Prop:=ToF0 T v (.mk k x1 x2 x3 x4 x5 x6 sub) (.mk tn ts tb tl tu) (.mk n s b l u)
abbrev NulH (v k x1 x2 x3 x4 x5 x6:Int) (sub:List Fld) (tn:Int) (ts:Bs) (tb:Bool) (tl:List Tree) (tu:List (Int × Bs)):Bool:=Fld.nul (.mk k x1 x2 x3 x4 x5 x6 sub) v (.mk tn ts tb tl tu)
theorem to_q (h:ToH T v k x1 x2 x3 x4 x5 x6 sub tn ts tb tl tu n s b l u):ToQ T v (.mk k x1 x2 x3 x4 x5 x6 sub) k x3 sub (.mk tn ts tb tl tu) tn ts n s b (.mk n s b l u):=h
theorem qkf (h:ToH T v k x1 x2 x3 x4 x5 x6 sub tn ts tb tl tu n s b l u) (hk:k = 8) (hc:(b != NulH v k x1 x2 x3 x4 x5 x6 sub tn ts tb tl tu) = true):False:=by
 rw [(to_q h).null (.inl hk)] at hc; simp at hc
theorem qhB (h:ToH T v k x1 x2 x3 x4 x5 x6 sub tn ts tb tl tu n s b l u) (hk:k = 10) (hc:(b != NulH v k x1 x2 x3 x4 x5 x6 sub tn ts tb tl tu) = true):False:=by
 rw [(to_q h).null (.inr (.inl hk))] at hc; simp at hc
theorem qg1 (h:ToH T v k x1 x2 x3 x4 x5 x6 sub tn ts tb tl tu n s b l u) (h1:x3 ≥ 0) (h2:v ≥ x3) (hc:(b != NulH v k x1 x2 x3 x4 x5 x6 sub tn ts tb tl tu) = true):False:=by
 rw [(to_q h).null (.inr (.inr ⟨h1,h2⟩))] at hc; simp at hc
theorem qkg (h:ToH T v k x1 x2 x3 x4 x5 x6 sub tn ts tb tl tu n s b l u) (hn:NulH v k x1 x2 x3 x4 x5 x6 sub tn ts tb tl tu = false) (hk:k = 10):T sub (.mk tn ts tb tl tu) (.mk n s b l u):=(to_q h).part hn hk
theorem qeQ (h:ToH T v k x1 x2 x3 x4 x5 x6 sub tn ts tb tl tu n s b l u) (hn:NulH v k x1 x2 x3 x4 x5 x6 sub tn ts tb tl tu = false) (hk:k = 8):decide (s = qaG ts) = true:=decide_eq_true ((to_q h).text hn (.inl hk))
theorem qeR (h:ToH T v k x1 x2 x3 x4 x5 x6 sub tn ts tb tl tu n s b l u) (hn:NulH v k x1 x2 x3 x4 x5 x6 sub tn ts tb tl tu = false) (hk:k = 9):decide (s = qaG ts) = true:=decide_eq_true ((to_q h).text hn (.inr hk))
theorem to_u (h:ToH T v k x1 x2 x3 x4 x5 x6 sub tn ts tb tl tu n s b l u) (hn:NulH v k x1 x2 x3 x4 x5 x6 sub tn ts tb tl tu = false) (hk:k = 7):decide (s = qbF ts) = true:=decide_eq_true ((to_q h).uuid hn hk)
theorem to_m (h:ToH T v k x1 x2 x3 x4 x5 x6 sub tn ts tb tl tu n s b l u) (hn:NulH v k x1 x2 x3 x4 x5 x6 sub tn ts tb tl tu = false) (h8:k ≠ 8) (h9:k ≠ 9) (h7:k ≠ 7) (h10:k ≠ 10) (h11:k ≠ 11):(n == qbL k tn) = true:=by
 rw [(to_q h).num hn h7 h8 h9 h10 h11]; simp
theorem qis {a c:Nat} (h:a = c) (hc:((a:Nat):Int) ≠ ((c:Nat):Int)):False:=hc (by rw [h])
end
theorem qdV {P:Program} {ops:Array Oper} {Q:Exit → Act → World → Prop} {a:Act} {w:World} {T:World → Prop} {c i j fuel:Nat} {listed:Array Bool} (hr:Region.ready .any ops listed = [i,j]) (h:wpOp P ops Q i (fun a' w'=>(i ≠ c → T w') ∧ qb9 P ops Q T c fuel (listed.setIfInBounds i true) a' w') a w)
  (h':wpOp P ops Q j (fun a' w'=>(j ≠ c → T w') ∧ qb9 P ops Q T c fuel (listed.setIfInBounds j true) a' w') a w):qb9 P ops Q T c (fuel + 1) listed a w:=by
 refine ⟨fun h0=>(by rw [hr] at h0; cases h0),fun q hq=>?_⟩
 rw [hr] at hq
 simp only [List.mem_cons,List.not_mem_nil,or_false] at hq
 rcases hq with rfl | rfl
 ·exact h
 exact h'
theorem qmk {k x1 x2 x3 x4 x5 x6 v:Int} {sub:List Fld} {flex:Bool} {x:Tree} (h:x4 < 0) (h2:Fld.has (.mk k x1 x2 x3 x4 x5 x6 sub) v = true):Fld.pres (.mk k x1 x2 x3 x4 x5 x6 sub) v flex x = true:=by
 simp [Fld.pres,Fld.tag,h,h2]
theorem qml {k x1 x2 x3 x4 x5 x6 v:Int} {sub:List Fld} {flex:Bool} {x:Tree} (h:x4 ≥ 0) (h2:flex = true) (h3:(!Fld.usual (.mk k x1 x2 x3 x4 x5 x6 sub) x) = true):Fld.pres (.mk k x1 x2 x3 x4 x5 x6 sub) v flex x = true:=by
 subst h2
 simp only [Bool.not_eq_true'] at h3
 simp [Fld.pres,Fld.tag,h,h3]
theorem qit {k x1 x2 x3 x4 x5 x6 v:Int} {sub:List Fld} {flex:Bool} {x:Tree} (h:x4 < 0) (h2:Fld.has (.mk k x1 x2 x3 x4 x5 x6 sub) v = false):Fld.pres (.mk k x1 x2 x3 x4 x5 x6 sub) v flex x = false:=by
 have:¬ x4 ≥ 0:=by omega
 simp [Fld.pres,Fld.tag,h2,this]
theorem qiu {k x1 x2 x3 x4 x5 x6 v:Int} {sub:List Fld} {flex:Bool} {x:Tree} (h:¬ x4 < 0) (h2:flex = false):Fld.pres (.mk k x1 x2 x3 x4 x5 x6 sub) v flex x = false:=by
 subst h2
 simp [Fld.pres,Fld.tag,h]
theorem qiv {k x1 x2 x3 x4 x5 x6 v:Int} {sub:List Fld} {flex:Bool} {x:Tree} (h:¬ x4 < 0) (h3:(!Fld.usual (.mk k x1 x2 x3 x4 x5 x6 sub) x) = false):Fld.pres (.mk k x1 x2 x3 x4 x5 x6 sub) v flex x = false:=by
 simp only [Bool.not_eq_false'] at h3
 simp [Fld.pres,Fld.tag,h,h3]
theorem qlb {k x1 x2 x3 x4 x5 x6 v:Int} {sub:List Fld} {flex:Bool} {x:Tree} (h:¬ x4 < 0) (h2:flex = true):Fld.pres (.mk k x1 x2 x3 x4 x5 x6 sub) v flex x = !Fld.usual (.mk k x1 x2 x3 x4 x5 x6 sub) x:=by
 subst h2
 have:x4 ≥ 0:=by omega
 simp [Fld.pres,Fld.tag,h,this]
theorem qlc {k x1 x2 x3 x4 x5 x6 v:Int} {sub:List Fld} {flex:Bool} {x:Tree} (h:x4 < 0):Fld.pres (.mk k x1 x2 x3 x4 x5 x6 sub) v flex x = Fld.has (.mk k x1 x2 x3 x4 x5 x6 sub) v:=by
 have:¬ x4 ≥ 0:=by omega
 simp [Fld.pres,Fld.tag,h,this]
section
variable {w:World} {F:Nat → Nat → Prop}
theorem qld {e size b c:Nat} {xs:List Value} {n:Nat} (h:w.ownsRow 0 e size (.slice (some ⟨b,0,none⟩) n c) n xs):AtF w (fun _ _=>True) b 0 xs:=fun j v hj=>⟨trivial,by
 have:=h.cells (g:=b) rfl j v hj
 rw [qb4] at this
 exact this⟩
theorem qiw {e b c:Nat} {cf:List Value} {f:Fld} (h:w.ownsRow 0 e 8 (.slice (some ⟨b,0,none⟩) 1 c) 1 cf) (hf:FldR w F cf f) (hc:1 ≤ c):FldsR w (fun _ _=>True) (some ⟨b,0,none⟩) c [f]:=by
 refine ⟨fun _=>cf,⟨hc,(by show 1 ≤ 1099511627776; decide),fun h=>(by cases h),fun ad hA _=>?_⟩,fun i x hx=>?_⟩
 ·obtain rfl:=Option.some.inj hA
  refine ⟨b,0,rfl,fun i hi=>⟨hf.eight,?_⟩⟩
  have:i = 0:=by simp at hi; omega
  subst this
  simpa using qld h
 cases i with
 | zero =>
  simp only [List.getElem?_cons_zero,Option.some.injEq] at hx
  subst hx
  exact hf.move (Step.refl _ Nil) nilM fun _ _ _ _=>trivial
 | succ i=>simp at hx
theorem qix {e b c:Nat} {cy:List Value} {y:Tree} (h:w.ownsRow 0 e 5 (.slice (some ⟨b,0,none⟩) 1 c) 1 cy) (hy:TreeR w F cy y) (hc:1 ≤ c):TreeR w (fun _ _=>True) [.int .i64 0,.slice none 0 0,.bool false,.slice (some ⟨b,0,none⟩) 1 c,.slice none 0 0] (.mk 0 [] false [y] []):=by
 refine TreeR.mk (l:=[y]) (s:=[]) (u:=[]) (fun _=>cy) (Octs.nil _ _) ⟨hc,(by show 1 ≤ 1099511627776; decide),fun h=>(by cases h),fun ad hA _=>?_⟩ (fun i x hx=>?_) (TagsR.nil _ _)
 ·obtain rfl:=Option.some.inj hA
  refine ⟨b,0,rfl,fun i hi=>⟨hy.five,?_⟩⟩
  have:i = 0:=by simp at hi; omega
  subst this
  simpa using qld h
 cases i with
 | zero =>
  simp only [List.getElem?_cons_zero,Option.some.injEq] at hx
  subst hx
  exact hy.move (Step.refl _ Nil) nilM fun _ _ _ _=>trivial
 | succ i=>simp at hx
end
section
variable {gu tu:List (Int × Bs)} {l:List Fld} {flex:Bool} {i:Nat} {k k':Int} {s s':Bs}
theorem qe8 (h:gu = if flex = true then qcC (qaj l tu) else []) (hf:(!flex) = false) (hc:((gu.length:Nat):Int) ≠ (((qaj l tu).length:Nat):Int)):False:=by
 cases flex
 ·cases hf
 rw [if_pos rfl] at h
 rw [h,qcV] at hc
 exact hc rfl
theorem qed (h:gu = if flex = true then qcC (qaj l tu) else []) (hf:(!flex) = true) (hc:((gu.length:Nat):Int) ≠ 0):False:=by
 cases flex
 ·rw [if_neg (by decide)] at h
  rw [h] at hc
  exact hc rfl
 cases hf
theorem qkh (h:gu = if flex = true then qcC (qaj l tu) else []) (hf:(!flex) = false) (hu:(qaj l tu)[i]? = some (k,s)) (hg:gu[i]? = some (k',s')):k' = k ∧ s' = qaG s:=by
 cases flex
 ·cases hf
 rw [if_pos rfl] at h
 rw [h,qiT hu] at hg
 have:=Option.some.inj hg
 exact ⟨(Prod.mk.injEq .. ▸ this).1.symm,(Prod.mk.injEq .. ▸ this).2.symm⟩
theorem qe9 (h:gu = if flex = true then qcC (qaj l tu) else []) (hf:(!flex) = false) (hu:(qaj l tu)[i]? = some (k,s)) (hg:gu[i]? = some (k',s')) (hc:k' ≠ k):False:=hc (qkh h hf hu hg).1
theorem qfa (h:gu = if flex = true then qcC (qaj l tu) else []) (hf:(!flex) = false) (hu:(qaj l tu)[i]? = some (k,s)) (hg:gu[i]? = some (k',s')) (hc:(!decide (s' = qaG s)) = true):False:=by
 rw [(qkh h hf hu hg).2] at hc; simp at hc
theorem qcP (h:gu = if flex = true then qcC (qaj l tu) else []) (hf:(!flex) = false):gu.length = (qaj l tu).length:=by
 cases flex
 ·cases hf
 rw [if_pos rfl] at h
 rw [h,qcV]
end
end Go.Proofs.YtdlaobdadlmcdaaGreatDoor.ME