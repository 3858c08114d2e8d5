/- The texts of a claim, put together: the engine, the contracts, the law. Own work. -/
import Derived.Test.YtcbpjflgkefidaaGreatDoorWd3P3
import Derived.Lib.ConvBytes
namespace Go.Proofs.YtcbpjflgkefidaaGreatDoor.ME
open Go
open Go.RowKit
set_option linter.unusedVariables false
set_option linter.unusedSimpArgs false
set_option maxRecDepth 20000
def qaL (v:Int) (T:Tree):Bs:=(be 4 ((IntKind.i32.wrap (T.at_ 0).N))) ++ ((be 4 ((IntKind.i32.wrap (T.at_ 1).N))) ++ ((be 4 ((IntKind.i32.wrap (T.at_ 2).N))) ++ ((if (decide (v ≥ 1)) = true then (qah (T.at_ 3).S) else []) ++ ((if (decide (v ≥ 1)) = true then (qah (T.at_ 4).S) else []) ++ ((be 4 ((IntKind.i32.wrap (T.at_ 5).N))) ++ ((be 8 ((T.at_ 6).N)) ++ ((if (decide (v ≥ 2)) = true then [by8 (if (decide ((T.at_ 7).N % 2 = 1)) then 1 else 0)] else []) ++ (if (decide (v ≥ 0)) = true then (uv T.U.length) ++ (qcf T.U) else []))))))))
theorem qbP (v:Int) (T:Tree):0 < (qaL v T).length:=qjB (qjX (by decide))
def qa2 (v:Int) (T:Tree):Bs:=(if (decide (v ≥ 0)) = true then (uv ((T.at_ 0).S.length + 1) ++ (T.at_ 0).S) else (be 2 (T.at_ 0).S.length ++ (T.at_ 0).S)) ++ (((if (decide (v ≥ 0)) = true then (uv ((lst (T.at_ 1)).length + 1)) else (be 4 (lst (T.at_ 1)).length)) ++ ((lst (T.at_ 1)).flatMap (qaL v))) ++ (if (decide (v ≥ 0)) = true then (uv T.U.length) ++ (qcf T.U) else []))
theorem qcz (v:Int) (T:Tree):0 < (qa2 v T).length:=qjB (qkX (qjB (qkH _)) (qjB (qjX (by decide))))
def qdC (v:Int) (T:Tree):Bs:=(if (decide (v ≥ 0)) = true then (if (T.at_ 0).null = true then uv 0 else uv ((qcn (T.at_ 0)).length + 1) ++ (qcn (T.at_ 0))) else (if (T.at_ 0).null = true then be 2 (-1) else be 2 (qcn (T.at_ 0)).length ++ (qcn (T.at_ 0)))) ++ ((if (decide (v ≥ 1)) = true then be 4 ((IntKind.i32.wrap (T.at_ 1).N)) else []) ++ (((if (decide (v ≥ 0)) = true then (uv ((lst (T.at_ 2)).length + 1)) else (be 4 (lst (T.at_ 2)).length)) ++ ((lst (T.at_ 2)).flatMap (qa2 v))) ++ ((if (decide (v ≥ 0)) = true then (uv T.U.length) ++ (qcf T.U) else []) ++ (([]:Bs)))))
theorem qfM (v:Int) (T:Tree):qay v T = qdC v T:=rfl
def qbX (d:DV):List Value:=[.int .i32 ((d.f 0).n),.int .i32 ((d.f 1).n),.int .i32 ((d.f 2).n),qaa ((d.f 3).o.getD 0 0),qaa ((d.f 3).o.getD 1 0),qaa ((d.f 3).o.getD 2 0),qaa ((d.f 3).o.getD 3 0),qaa ((d.f 3).o.getD 4 0),qaa ((d.f 3).o.getD 5 0),qaa ((d.f 3).o.getD 6 0),qaa ((d.f 3).o.getD 7 0),qaa ((d.f 3).o.getD 8 0),qaa ((d.f 3).o.getD 9 0),qaa ((d.f 3).o.getD 10 0),qaa ((d.f 3).o.getD 11 0),qaa ((d.f 3).o.getD 12 0),qaa ((d.f 3).o.getD 13 0),qaa ((d.f 3).o.getD 14 0),qaa ((d.f 3).o.getD 15 0),qaa ((d.f 4).o.getD 0 0),qaa ((d.f 4).o.getD 1 0),qaa ((d.f 4).o.getD 2 0),qaa ((d.f 4).o.getD 3 0),qaa ((d.f 4).o.getD 4 0),qaa ((d.f 4).o.getD 5 0),qaa ((d.f 4).o.getD 6 0),qaa ((d.f 4).o.getD 7 0),qaa ((d.f 4).o.getD 8 0),qaa ((d.f 4).o.getD 9 0),qaa ((d.f 4).o.getD 10 0),qaa ((d.f 4).o.getD 11 0),qaa ((d.f 4).o.getD 12 0),qaa ((d.f 4).o.getD 13 0),qaa ((d.f 4).o.getD 14 0),qaa ((d.f 4).o.getD 15 0),.int .i32 ((d.f 5).n),.int .i64 ((d.f 6).n),.bool ((d.f 7).b),.map d.m]
theorem qaX:qgq qaT:=by
 intro w w' F F' M d hs hM hF h
 unfold qaT at h ⊢
 obtain ⟨g0,g1,g2,g3,g4,g5,g6,g7,t1,t2,t3,_⟩:=h
 exact ⟨g0,g1,g2,g3,g4,g5,g6,g7,t1.move hs hM hF,t2,t3,trivial⟩
def qcF (d:DV):List Value:=[.string ((d.f 0).s),.slice ((d.f 1).A) ((d.f 1).l) ((d.f 1).c),.map d.m]
theorem qbc:qgq qa7:=by
 intro w w' F F' M d hs hM hF h
 unfold qa7 at h ⊢
 obtain ⟨g0,⟨g1,g1l,g1e⟩,t1,t2,t3,_⟩:=h
 exact ⟨g0,⟨g1.move hs hM hF,g1l,fun i hi=>qaX _ hs hM hF (g1e i hi)⟩,t1.move hs hM hF,t2,t3,trivial⟩
def qbd (v:Int) (D:DV) (T:Tree):Prop:=((D.f 0).n = IntKind.i32.wrap (T.at_ 0).N) ∧ ((D.f 1).n = IntKind.i32.wrap (T.at_ 1).N) ∧ ((D.f 2).n = IntKind.i32.wrap (T.at_ 2).N) ∧ (((decide (v ≥ 1)) = true → (D.f 3).o = qah (T.at_ 3).S) ∧ ((decide (v ≥ 1)) = false → (D.f 3).o = List.replicate 16 0)) ∧ (((decide (v ≥ 1)) = true → (D.f 4).o = qah (T.at_ 4).S) ∧ ((decide (v ≥ 1)) = false → (D.f 4).o = List.replicate 16 0)) ∧ ((D.f 5).n = IntKind.i32.wrap (T.at_ 5).N) ∧ ((D.f 6).n = IntKind.i64.wrap (T.at_ 6).N) ∧ (((decide (v ≥ 2)) = true → (D.f 7).b = decide ((T.at_ 7).N % 2 = 1)) ∧ ((decide (v ≥ 2)) = false → (D.f 7).b = false)) ∧ (((decide (v ≥ 0)) = true → D.u = T.U) ∧ ((decide (v ≥ 0)) = false → D.u = [])) ∧ True
def qbQ (v:Int) (D:DV) (T:Tree):Prop:=((D.f 0).s = bs (T.at_ 0).S) ∧ (((D.f 1).l = (lst (T.at_ 1)).length ∧ ∀ i,i < (D.f 1).l → qbd v ((D.f 1).f i) ((lst (T.at_ 1)).getD i .zero))) ∧ (((decide (v ≥ 0)) = true → D.u = T.U) ∧ ((decide (v ≥ 0)) = false → D.u = [])) ∧ True
def qd3 (v:Int) (D:DV) (T:Tree):Prop:=(((D.f 0).s = bs (qcn (T.at_ 0)) ∧ (D.f 0).A.isNone = (T.at_ 0).null)) ∧ (((decide (v ≥ 1)) = true → (D.f 1).n = IntKind.i32.wrap (T.at_ 1).N) ∧ ((decide (v ≥ 1)) = false → (D.f 1).n = -1)) ∧ (((D.f 2).l = (lst (T.at_ 2)).length ∧ ∀ i,i < (D.f 2).l → qbQ v ((D.f 2).f i) ((lst (T.at_ 2)).getD i .zero))) ∧ (((decide (v ≥ 0)) = true → D.u = T.U) ∧ ((decide (v ≥ 0)) = false → D.u = [])) ∧ True
theorem qk4 (b o:Nat) (w:World):Calls Tryz.prog 166 #[.pointer (some ⟨b,o,none⟩)] w (fun e w'=>e = .returned (.tuple #[]) ∧ w' = w):=by
 refine enter (n:=2) (vs:=[.pointer (some ⟨b,o,none⟩)]) Tryz.func166 rfl Tryz.ntmps166 kz fun a hE=>?_
 refine wp_skip ?_
 exact qbu hE (WOk.start w Nil).cells (v:=.tuple #[]) kz ⟨rfl,rfl⟩
theorem qk5 (b o:Nat) (w:World):Calls Tryz.prog 167 #[.pointer (some ⟨b,o,none⟩)] w (fun e w'=>e = .returned (.tuple #[]) ∧ w' = w):=by
 refine enter (n:=2) (vs:=[.pointer (some ⟨b,o,none⟩)]) Tryz.func167 rfl Tryz.ntmps167 kz fun a hE=>?_
 refine wp_skip ?_
 exact qbu hE (WOk.start w Nil).cells (v:=.tuple #[]) kz ⟨rfl,rfl⟩
set_option maxHeartbeats 4000000 in
theorem qfN (v:Int) (T:Tree) {bv:Nat} {A:Option Addr} {c:Nat} {w:World} {F:Nat → Nat → Prop} (hst:Str w bv [.int .i16 v,.pointer none,.int .i32 (-1),.slice none 0 0,.map none]) (ho:Octs w F A c (qay v T)) (hFd:∀ b o,F b o → ¬ (b = bv ∧ o < 5)) (hc:qby T) (hR:T.ranged) :
  Calls Tryz.prog 113 #[.pointer (some ⟨bv,0,none⟩),.slice A (qay v T).length c,.bool false] w (fun e w'=>∃ D:DV,e = .returned .nilIface ∧ Str w' bv [.int .i16 v,.pointer ((D.f 0).A),.int .i32 ((D.f 1).n),.slice ((D.f 2).A) ((D.f 2).l) ((D.f 2).c),.map D.m] ∧ qbm w' (Fp F w) D ∧ qd3 v D T ∧ Step w w' (fun b o=>b = bv ∧ o < 5)):=by
 refine enter (n:=206) Tryz.func113 rfl Tryz.ntmps113 kz fun a hE=>?_
 have hW:=WOk.startStr hst
 have hE1:=(hE.grow ⟨bv,0,[.int .i16 v,.pointer none,.int .i32 (-1),.slice none 0 0,.map none],true⟩).recast 0 (.v (.pointer (some ⟨bv,0,none⟩))) (.p 0 0) rfl rfl (Nat.le_of_ble_eq_true (n:=1) rfl)
 refine qar [(0,.p 0 0),(1,.v (.slice A ((qay v T).length) c)),(2,.v (.bool false))] hW hE1 fun a1 hE2=>?_
 refine qae [0,1] kz ?_
 refine qak [0] [1] [(0,.p 0 0),(1,.v (.slice A ((qay v T).length) c)),(2,.v (.bool false)),(34,.p 0 0)] hW hE2 fun a3 hE4=>?_
 refine qaj (qbq hE4 (f:=61) (vs:=[.pointer (some ⟨bv,0,none⟩)]) (d:=35) (n':=5) kz Tryz.call61 Tryz.func61 rfl Tryz.ntmps61 kz fun a5 hE6=>?_)
 have hE7:=hE6.recast 0 (.v (.pointer (some ⟨bv,0,none⟩))) (.p 0 0) rfl rfl (Nat.le_of_ble_eq_true (n:=1) rfl)
 refine qap [0,1,2,3] kz ?_
 refine qak [0,1,2] [3] [(4,.p 0 2)] hW hE7 fun a8 hE9=>?_
 refine qaj (qan hW hE9 (oi:=0) (cs:=[.int .i16 v,.pointer none,.int .i32 (-1),.slice none 0 0,.map none]) kz fun gY gK eH gd=>?_)
 refine qag ?_
 refine qbu gd eH.cells (v:=.tuple #[]) kz ?_
 refine ⟨_,rfl,fun gZ ge=>?_⟩
 have gg:EnvOk 206 [⟨bv,0,[.int .i16 v,.pointer none,.int .i32 (-1),.slice none 0 0,.map none],true⟩] [(35,.v (.tuple #[])),(0,.p 0 0),(1,.v (.slice A ((qay v T).length) c)),(2,.v (.bool false)),(34,.p 0 0)] _:=ge.places (⟨rfl,rfl,trivial⟩)
 refine qag (qac ?_)
 refine qae [0,1,2,3] kz ?_
 refine qak [0,1] [2,3] [(0,.p 0 0),(2,.v (.bool false)),(37,.v (.agg #[.slice A ((qay v T).length) c,.bool false]))] eH gg fun hC gh=>?_
 refine qaj (qaJ eH gh (d:=7) (cs:=[.slice none 0 0,.bool false]) kz fun aU hJ hK gL gM gN gi gj=>?_)
 refine qaj (qan gi gj (oi:=1) (cs:=[.slice A ((qay v T).length) c,.bool false]) kz fun hY gO eI gk=>?_)
 refine qag (qac ?_)
 have eS:=RS.start (F:=F) (s:=qay v T) eI gk (ho.move eI.step (fun b_ o_ h_ _=>hFd b_ o_ h_) (eI.immM hFd)) [(0,.p 1 0),(2,.v (.bool false)),(7,.p 0 0)]
 have gI:=hc
 have e32r:=hR
 unfold qby at gI
 obtain ⟨e32_0,e32_1,⟨e32_2,e32_2e⟩,e32_U,_⟩:=gI
 obtain ⟨bC,eU⟩:∃ R,R = (if (decide (v ≥ 0)) = true then (uv T.U.length) ++ (qcf T.U) else []) ++ ([]:Bs):=⟨_,rfl⟩
 obtain ⟨eV,eW⟩:∃ R,R = ((if (decide (v ≥ 0)) = true then (uv ((lst (T.at_ 2)).length + 1)) else (be 4 (lst (T.at_ 2)).length)) ++ ((lst (T.at_ 2)).flatMap (qa2 v))) ++ bC:=⟨_,rfl⟩
 obtain ⟨ga,eX⟩:∃ R,R = (if (decide (v ≥ 1)) = true then be 4 ((IntKind.i32.wrap (T.at_ 1).N)) else []) ++ eV:=⟨_,rfl⟩
 obtain ⟨gP,eY⟩:∃ R,R = (if (decide (v ≥ 0)) = true then (if (T.at_ 0).null = true then uv 0 else uv ((qcn (T.at_ 0)).length + 1) ++ (qcn (T.at_ 0))) else (if (T.at_ 0).null = true then be 2 (-1) else be 2 (qcn (T.at_ 0)).length ++ (qcn (T.at_ 0)))) ++ ga:=⟨_,rfl⟩
 have eZ:=eS.cast (t:=gP) (by rw [qfM,eY,eX,eW,eU]; unfold qdC; simp only [List.append_assoc])
 clear eS
 refine wp_seq ?_
 refine qbz [(0,.p 1 0),(2,.v (.bool false)),(7,.p 0 0),(8,.v (.int .i16 v))] eZ fun _ e9=>?_
 clear eZ
 refine qac ?_
 refine wp_seq ?_
 refine qbz [(0,.p 1 0),(2,.v (.bool false)),(7,.p 0 0),(8,.v (.int .i16 v))] e9 fun _ fa=>?_
 clear e9
 refine qac ?_
 refine wp_seq ?_
 refine qbz [(0,.p 1 0),(2,.v (.bool false)),(7,.p 0 0),(8,.v (.int .i16 v)),(9,.v (.bool (decide (v ≥ 0))))] fa fun _ fb=>?_
 clear fa
 refine qac ?_
 refine wp_seq ?_
 refine qbz [(0,.p 1 0),(2,.v (.bool false)),(7,.p 0 0),(8,.v (.int .i16 v)),(9,.v (.bool (decide (v ≥ 0))))] fb fun _ fe=>?_
 clear fb
 refine qac ?_
 refine wp_seq ?_
 refine qbz [(2,.v (.bool false)),(7,.p 0 0),(8,.v (.int .i16 v)),(9,.v (.bool (decide (v ≥ 0)))),(10,.p 1 0)] fe fun _ ff=>?_
 clear fe
 refine qac ?_
 refine wp_seq ?_
 refine wp_seq ?_
 refine qbz [(2,.v (.bool false)),(7,.p 0 0),(8,.v (.int .i16 v)),(9,.v (.bool (decide (v ≥ 0)))),(10,.p 1 0)] ff fun _ fg=>?_
 clear ff
 refine qac ?_
 refine wp_seq ?_
 have fh:=fg.cast eY
 clear fg
 refine qcE (Mid:=fun a_ w_=>∃ (am:Option Addr) (P':qb2),(∀ w F,P' w F → noF w F ∧ qjz am (qcn (T.at_ 0)) w F ∧ am.isNone = (T.at_ 0).null) ∧ RS w (fun b o=>b = bv ∧ o < 5) F 206 aU [⟨bv,0,[.int .i16 v,.pointer none,.int .i32 (-1),.slice none 0 0,.map none],true⟩] [(2,.v (.bool false)),(7,.p 0 0),(8,.v (.int .i16 v)),(9,.v (.bool (decide (v ≥ 0)))),(10,.p 1 0),(11,.v (.pointer am))] P' ga a_ w_) ?_ ?_
 ·
  refine wp_seq ?_
  refine qbz [(2,.v (.bool false)),(7,.p 0 0),(8,.v (.int .i16 v)),(9,.v (.bool (decide (v ≥ 0)))),(10,.p 1 0),(47,.v (.bool (decide (v ≥ 0))))] fh fun _ aV=>qac ?_
  clear fh
  refine qaz aV.env_ (b:=decide (v ≥ 0)) kz (fun eJ=>?_) (fun eJ=>?_)
  ·
   have fi:=aV.cast (t:=(if (T.at_ 0).null = true then uv 0 else uv ((qcn (T.at_ 0)).length + 1) ++ (qcn (T.at_ 0))) ++ ga) (by rw [if_pos eJ])
   clear aV
   refine wp_seq ?_
   refine qbz [(2,.v (.bool false)),(7,.p 0 0),(8,.v (.int .i16 v)),(9,.v (.bool (decide (v ≥ 0)))),(10,.p 1 0),(48,.v (.bool false))] fi fun _ eK=>qac ?_
   clear fi
   refine qau eK.env_ (b:=false) kz (rfl) ?_
   refine qkV (d:=50) (fun gb=>[(2,.v (.bool false)),(7,.p 0 0),(8,.v (.int .i16 v)),(9,.v (.bool (decide (v ≥ 0)))),(10,.p 1 0),(11,.v (.pointer gb))]) eK (qc4 (T.at_ 0).null (qcn (T.at_ 0)) e32_0 _) (fun _=>(MvF.text _ _).and (MvF.is _)) Tryz.call143 fun gb hZ _ _ fj gl=>?_
   clear eK
   refine qac ?_
   exact ⟨gb,_,fun w F h_=>⟨(fj _ _ h_).1,(fj _ _ h_).2⟩,gl.pk (env':=[(2,.v (.bool false)),(7,.p 0 0),(8,.v (.int .i16 v)),(9,.v (.bool (decide (v ≥ 0)))),(10,.p 1 0),(11,.v (.pointer gb))])⟩
  have fk:=aV.cast (t:=(if (T.at_ 0).null = true then be 2 (-1) else be 2 (qcn (T.at_ 0)).length ++ (qcn (T.at_ 0))) ++ ga) (by rw [if_neg (by rw [eJ]; decide)])
  clear aV
  refine wp_seq ?_
  refine qbz [(2,.v (.bool false)),(7,.p 0 0),(8,.v (.int .i16 v)),(9,.v (.bool (decide (v ≥ 0)))),(10,.p 1 0),(51,.v (.bool false))] fk fun _ eL=>qac ?_
  clear fk
  refine qau eL.env_ (b:=false) kz (rfl) ?_
  refine qkV (d:=53) (fun gc=>[(2,.v (.bool false)),(7,.p 0 0),(8,.v (.int .i16 v)),(9,.v (.bool (decide (v ≥ 0)))),(10,.p 1 0),(11,.v (.pointer gc))]) eL (qeV (T.at_ 0).null (qcn (T.at_ 0)) e32_0 _) (fun _=>(MvF.text _ _).and (MvF.is _)) Tryz.call145 fun gc ia _ _ fl gm=>?_
  clear eL
  refine qac ?_
  exact ⟨gc,_,fun w F h_=>⟨(fl _ _ h_).1,(fl _ _ h_).2⟩,gm.pk (env':=[(2,.v (.bool false)),(7,.p 0 0),(8,.v (.int .i16 v)),(9,.v (.bool (decide (v ≥ 0)))),(10,.p 1 0),(11,.v (.pointer gc))])⟩
 rintro _ _ ⟨am,gQ,fm,fo⟩
 refine qac ?_
 refine qcS [⟨bv,0,[.int .i16 v,.pointer am,.int .i32 (-1),.slice none 0 0,.map none],true⟩] 0 [(2,.v (.bool false)),(7,.p 0 0),(8,.v (.int .i16 v)),(9,.v (.bool (decide (v ≥ 0)))),(10,.p 1 0)] fo fun _ _ fq=>?_
 clear fo
 refine qac ?_
 refine wp_seq ?_
 have fr:=fq.cast eX
 clear fq
 refine qcE (Mid:=fun a_ w_=>∃ (ao:DV) (P':qb2),(∀ w F,P' w F → gQ w F ∧ (True) ∧ ((decide (v ≥ 1)) = true → ao.n = IntKind.i32.wrap (T.at_ 1).N) ∧ ((decide (v ≥ 1)) = false → ao.n = -1)) ∧ RS w (fun b o=>b = bv ∧ o < 5) F 206 aU [⟨bv,0,[.int .i16 v,.pointer am,.int .i32 ao.n,.slice none 0 0,.map none],true⟩] [(2,.v (.bool false)),(7,.p 0 0),(8,.v (.int .i16 v)),(9,.v (.bool (decide (v ≥ 0)))),(10,.p 1 0)] P' eV a_ w_) ?_ ?_
 ·
  refine wp_seq ?_
  refine qbz [(2,.v (.bool false)),(7,.p 0 0),(8,.v (.int .i16 v)),(9,.v (.bool (decide (v ≥ 0)))),(10,.p 1 0),(59,.v (.bool (decide (v ≥ 1))))] fr fun _ aW=>qac ?_
  clear fr
  refine qaz aW.env_ (b:=decide (v ≥ 1)) kz (fun aX=>?_) (fun aX=>?_)
  ·
   have ft:=aW.cast (t:=(be 4 ((IntKind.i32.wrap (T.at_ 1).N))) ++ eV) (by rw [if_pos aX])
   clear aW
   refine wp_seq ?_
   refine qdB (d:=60) [(2,.v (.bool false)),(7,.p 0 0),(8,.v (.int .i16 v)),(9,.v (.bool (decide (v ≥ 0)))),(10,.p 1 0),(12,.v (.int .i32 (IntKind.i32.wrap (T.at_ 1).N)))] ft (qgs _ _) Tryz.call139 fun _ _ fu=>?_
   clear ft
   refine qac ?_
   refine qcS [⟨bv,0,[.int .i16 v,.pointer am,.int .i32 (IntKind.i32.wrap (T.at_ 1).N),.slice none 0 0,.map none],true⟩] 0 [(2,.v (.bool false)),(7,.p 0 0),(8,.v (.int .i16 v)),(9,.v (.bool (decide (v ≥ 0)))),(10,.p 1 0)] fu fun _ _ gn=>?_
   clear fu
   refine qac ?_
   exact ⟨dvN (IntKind.i32.wrap (T.at_ 1).N),_,fun w F h_=>⟨h_,trivial,⟨fun _=>rfl,(fun e_=>by rw [aX] at e_; cases e_)⟩⟩,gn.pk (env':=[(2,.v (.bool false)),(7,.p 0 0),(8,.v (.int .i16 v)),(9,.v (.bool (decide (v ≥ 0)))),(10,.p 1 0)])⟩
  have fv:=aW.cast (t:=[] ++ eV) (by rw [if_neg (by rw [aX]; decide)])
  clear aW
  have gp:=fv.cast (t:=eV) rfl
  clear fv
  refine wp_skip (qac ?_)
  exact ⟨dvN (-1),_,fun w F h_=>⟨h_,trivial,⟨(fun e_=>by rw [aX] at e_; cases e_),fun _=>rfl⟩⟩,gp.pk (env':=[(2,.v (.bool false)),(7,.p 0 0),(8,.v (.int .i16 v)),(9,.v (.bool (decide (v ≥ 0)))),(10,.p 1 0)])⟩
 rintro _ _ ⟨ao,gJ,bw,fw⟩
 refine qac ?_
 refine wp_seq ?_
 refine wp_seq ?_
 refine qbz [(2,.v (.bool false)),(7,.p 0 0),(8,.v (.int .i16 v)),(9,.v (.bool (decide (v ≥ 0)))),(10,.p 1 0),(13,.v (.slice none 0 0))] fw fun _ fx=>?_
 clear fw
 refine qac ?_
 refine wp_seq ?_
 refine qbz [(2,.v (.bool false)),(7,.p 0 0),(8,.v (.int .i16 v)),(9,.v (.bool (decide (v ≥ 0)))),(10,.p 1 0),(14,.v (.slice none 0 0))] fx fun _ fy=>?_
 clear fx
 refine qac ?_
 refine wp_seq ?_
 refine qbz [(2,.v (.bool false)),(7,.p 0 0),(8,.v (.int .i16 v)),(9,.v (.bool (decide (v ≥ 0)))),(10,.p 1 0),(14,.v (.slice none 0 0))] fy fun _ fz=>?_
 clear fy
 refine qac ?_
 refine wp_seq ?_
 have fA:=fz.cast eW
 clear fz
 have fB:=fA.cast (t:=(if (decide (v ≥ 0)) = true then (uv ((lst (T.at_ 2)).length + 1)) else (be 4 (lst (T.at_ 2)).length)) ++ (((lst (T.at_ 2)).flatMap (qa2 v)) ++ bC)) (by rw [List.append_assoc])
 clear fA
 refine qgW (d1:=71) (d2:=72) [(2,.v (.bool false)),(7,.p 0 0),(8,.v (.int .i16 v)),(9,.v (.bool (decide (v ≥ 0)))),(10,.p 1 0),(14,.v (.slice none 0 0)),(70,.v (.bool (decide (v ≥ 0))))] [(2,.v (.bool false)),(7,.p 0 0),(8,.v (.int .i16 v)),(9,.v (.bool (decide (v ≥ 0)))),(10,.p 1 0),(14,.v (.slice none 0 0)),(15,.v (.int .i32 (((lst (T.at_ 2)).length:Nat):Int)))] fB (qc2 ((lst (T.at_ 2)).length) e32_2 _ (flat_ge' (qcz v) _)) Tryz.call146 (qgt ((lst (T.at_ 2)).length) e32_2 _ (flat_ge' (qcz v) _)) Tryz.call147 fun _ _ fC=>?_
 clear fB
 refine qac ?_
 refine wp_seq ?_
 refine wp_seq ?_
 refine qkY (d:=73) [(2,.v (.bool false)),(7,.p 0 0),(8,.v (.int .i16 v)),(9,.v (.bool (decide (v ≥ 0)))),(10,.p 1 0),(14,.v (.slice none 0 0)),(15,.v (.int .i32 (((lst (T.at_ 2)).length:Nat):Int))),(74,.v (.bool false))] fC (pOk _) Tryz.call148 fun _ _ eM=>?_
 clear fC
 refine qac ?_
 refine qau eM.env_ (b:=false) kz (rfl) ?_
 refine wp_skip ?_
 refine qac ?_
 refine wp_seq ?_
 refine qi4 (t:=121) (e:=128) (size:=3) (bytes:=48) (d:=77) (A0:=none) (m:=0) (cp:=0) [(2,.v (.bool false)),(7,.p 0 0),(8,.v (.int .i16 v)),(9,.v (.bool (decide (v ≥ 0)))),(10,.p 1 0),(15,.v (.int .i32 (((lst (T.at_ 2)).length:Nat):Int))),(76,.v (.slice none 0 0))] [(2,.v (.bool false)),(7,.p 0 0),(8,.v (.int .i16 v)),(9,.v (.bool (decide (v ≥ 0)))),(10,.p 1 0),(14,.v (.slice none 0 0)),(15,.v (.int .i32 (((lst (T.at_ 2)).length:Nat):Int)))] 1 eM fun _ fD=>?_
 clear eM
 refine qac ?_
 refine qhm (Mid:=fun a_ w_=>∃ (au:DV) (P':qb2),(∀ w F,P' w F → gJ w F ∧ (Slots w F 3 au.A au.c au.l (fun i=>[.string (((au.f i).f 0).s),.slice (((au.f i).f 1).A) (((au.f i).f 1).l) (((au.f i).f 1).c),.map ((au.f i).m)]) ∧ au.l ≤ 1000000 ∧ ∀ i,i < au.l → qa7 w F (au.f i)) ∧ (au.l = (lst (T.at_ 2)).length ∧ ∀ i,i < au.l → qbQ v (au.f i) ((lst (T.at_ 2)).getD i .zero))) ∧ RS w (fun b o=>b = bv ∧ o < 5) F 206 aU [⟨bv,0,[.int .i16 v,.pointer am,.int .i32 ao.n,.slice none 0 0,.map none],true⟩] [(7,.p 0 0),(9,.v (.bool (decide (v ≥ 0)))),(10,.p 1 0),(14,.v (.slice au.A au.l au.c))] P' bC a_ w_) ?_ ?_
 ·
  refine wp_seq ?_
  refine qbz [(2,.v (.bool false)),(7,.p 0 0),(8,.v (.int .i16 v)),(9,.v (.bool (decide (v ≥ 0)))),(10,.p 1 0),(14,.v (.slice none 0 0)),(15,.v (.int .i32 (((lst (T.at_ 2)).length:Nat):Int))),(79,.v (.bool (decide ((((lst (T.at_ 2)).length:Nat):Int) > 0))))] fD fun _ aY=>qac ?_
  clear fD
  refine qaz aY.env_ (b:=decide ((((lst (T.at_ 2)).length:Nat):Int) > 0)) kz (fun bx=>?_) (fun bx=>?_)
  ·
   have hn_g97:0 < (lst (T.at_ 2)).length:=by have h_:=of_decide_eq_true bx; omega
   refine qap [0,1,2,3] kz ?_
   refine qcR [0,1] [2,3] [(2,.v (.bool false)),(7,.p 0 0),(8,.v (.int .i16 v)),(9,.v (.bool (decide (v ≥ 0)))),(10,.p 1 0),(15,.v (.int .i32 (((lst (T.at_ 2)).length:Nat):Int))),(80,.v (.slice none 0 0)),(81,.v (.int .i32 (((lst (T.at_ 2)).length:Nat):Int)))] aY fun _ fE=>?_
   clear aY
   refine qaj (qfn (A0:=none) (d:=82) (t:=121) (tn:=21) (e:=128) (size:=3) (bytes:=48) (k:=.i32) (kn:=.i32) (q:=(((lst (T.at_ 2)).length:Nat):Int)) (j:=(lst (T.at_ 2)).length) (.agg #[.string ByteArray.empty,.slice none 0 0,.map none]) fE (fun ai al _ _ hg_g97 hcap_g97 bD=>?_) rfl hn_g97 (by have:=e32_2; omega))
   clear fE
   refine qcR [3] [] [(2,.v (.bool false)),(7,.p 0 0),(8,.v (.int .i16 v)),(9,.v (.bool (decide (v ≥ 0)))),(10,.p 1 0),(14,.v (.slice (some ⟨ai,0,none⟩) ((lst (T.at_ 2)).length) al)),(15,.v (.int .i32 (((lst (T.at_ 2)).length:Nat):Int)))] bD fun _ bE=>qag ?_
   clear bD
   refine qac ?_
   refine wp_seq ?_
   refine qbz [(2,.v (.bool false)),(7,.p 0 0),(8,.v (.int .i16 v)),(9,.v (.bool (decide (v ≥ 0)))),(10,.p 1 0),(14,.v (.slice (some ⟨ai,0,none⟩) ((lst (T.at_ 2)).length) al)),(15,.v (.int .i32 (((lst (T.at_ 2)).length:Nat):Int))),(16,.v (.int .i32 0))] bE fun _ aZ=>?_
   clear bE
   refine qac ?_
   refine wp_block ?_
   have ba:=aZ.mv
   have fF:=(aZ.cast (t:=(lst (T.at_ 2)).flatMap (qa2 v) ++ bC) rfl).pk (env':=[(2,.v (.bool false)),(7,.p 0 0),(8,.v (.int .i16 v)),(9,.v (.bool (decide (v ≥ 0)))),(10,.p 1 0),(14,.v (.slice (some ⟨ai,0,none⟩) ((lst (T.at_ 2)).length) al)),(15,.v (.int .i32 (((lst (T.at_ 2)).length:Nat):Int))),(16,.v (.int .i32 ((0:Nat):Int)))])
   clear aZ
   refine qiZ (tb:=[⟨bv,0,[.int .i16 v,.pointer am,.int .i32 ao.n,.slice none 0 0,.map none],true⟩]) (z:=.agg #[.string ByteArray.empty,.slice none 0 0,.map none]) (cl:=qcF) (ok:=qa7) (rel:=(qbQ v)) (L:=lst (T.at_ 2)) (size:=3) (qa2 v) bC (fun k=>[(2,.v (.bool false)),(7,.p 0 0),(8,.v (.int .i16 v)),(9,.v (.bool (decide (v ≥ 0)))),(10,.p 1 0),(14,.v (.slice (some ⟨ai,0,none⟩) ((lst (T.at_ 2)).length) al)),(15,.v (.int .i32 (((lst (T.at_ 2)).length:Nat):Int))),(16,.v (.int .i32 ((k:Nat):Int)))]) fF qbc (fun ae ab _ _ bd fG bF=>?_) (fun _ _ bG=>?_)
   ·
    obtain ⟨fH,bH,bI⟩:∃ P',(∀ w F,P' w F → (gJ w F ∧ qeZ ai 3 qcF qa7 (qbQ v) (lst (T.at_ 2)) ae w F)) ∧ RS w (fun b o=>b = bv ∧ o < 5) F 206 aU [⟨bv,0,[.int .i16 v,.pointer am,.int .i32 ao.n,.slice none 0 0,.map none],true⟩,qa4 ai 3 (.agg #[.string ByteArray.empty,.slice none 0 0,.map none]) ((lst (T.at_ 2)).length) ae] [(2,.v (.bool false)),(7,.p 0 0),(8,.v (.int .i16 v)),(9,.v (.bool (decide (v ≥ 0)))),(10,.p 1 0),(14,.v (.slice (some ⟨ai,0,none⟩) ((lst (T.at_ 2)).length) al)),(15,.v (.int .i32 (((lst (T.at_ 2)).length:Nat):Int))),(16,.v (.int .i32 ((ae:Nat):Int)))] P' ((qa2 v) ab ++ (((lst (T.at_ 2)).drop (ae + 1)).flatMap (qa2 v) ++ bC)) _ _:=⟨_,fun _ _ h=>h,bF⟩
    clear bF
    obtain ⟨bf,bJ⟩:∃ R,R = ((lst (T.at_ 2)).drop (ae + 1)).flatMap (qa2 v) ++ bC:=⟨_,rfl⟩
    have fI:=(e32_2e ab (List.mem_of_getElem? bd))
    have e116r:=(qfl (qeR e32r 2) ab (List.mem_of_getElem? bd))
    unfold qbM at fI
    obtain ⟨e116_0,⟨e116_1,e116_1e⟩,e116_U,_⟩:=fI
    obtain ⟨ay,bK⟩:∃ R,R = (if (decide (v ≥ 0)) = true then (uv ab.U.length) ++ (qcf ab.U) else []) ++ bf:=⟨_,rfl⟩
    obtain ⟨gq,bL⟩:∃ R,R = ((if (decide (v ≥ 0)) = true then (uv ((lst (ab.at_ 1)).length + 1)) else (be 4 (lst (ab.at_ 1)).length)) ++ ((lst (ab.at_ 1)).flatMap (qaL v))) ++ ay:=⟨_,rfl⟩
    obtain ⟨gt,bM⟩:∃ R,R = (if (decide (v ≥ 0)) = true then (uv ((ab.at_ 0).S.length + 1) ++ (ab.at_ 0).S) else (be 2 (ab.at_ 0).S.length ++ (ab.at_ 0).S)) ++ gq:=⟨_,rfl⟩
    have bN:=bI.cast (t:=gt) (by rw [bM,bL,bK,← bJ]; unfold qa2; simp only [List.append_assoc])
    clear bI
    refine wp_seq ?_
    refine wp_seq ?_
    refine qbz [(2,.v (.bool false)),(7,.p 0 0),(8,.v (.int .i16 v)),(9,.v (.bool (decide (v ≥ 0)))),(10,.p 1 0),(14,.v (.slice (some ⟨ai,0,none⟩) ((lst (T.at_ 2)).length) al)),(15,.v (.int .i32 (((lst (T.at_ 2)).length:Nat):Int))),(16,.v (.int .i32 ((ae:Nat):Int))),(85,.v (.bool (decide (((ae:Nat):Int) < (((lst (T.at_ 2)).length:Nat):Int)))))] bN fun _ bg=>qac ?_
    clear bN
    refine qbg bg.env_ (b:=decide (((ae:Nat):Int) < (((lst (T.at_ 2)).length:Nat):Int))) kz (decide_eq_true (by omega)) ?_
    refine wp_skip ?_
    refine qac ?_
    refine wp_seq ?_
    refine wp_block ?_
    refine wp_seq ?_
    refine qi5 (t:=121) (e:=128) (size:=3) (bytes:=48) (d:=90) (tb:=[⟨bv,0,[.int .i16 v,.pointer am,.int .i32 ao.n,.slice none 0 0,.map none],true⟩]) (z:=.agg #[.string ByteArray.empty,.slice none 0 0,.map none]) [(2,.v (.bool false)),(7,.p 0 0),(8,.v (.int .i16 v)),(9,.v (.bool (decide (v ≥ 0)))),(10,.p 1 0),(14,.v (.slice (some ⟨ai,0,none⟩) ((lst (T.at_ 2)).length) al)),(15,.v (.int .i32 (((lst (T.at_ 2)).length:Nat):Int))),(16,.v (.int .i32 ((ae:Nat):Int))),(88,.v (.slice (some ⟨ai,0,none⟩) ((lst (T.at_ 2)).length) al)),(89,.v (.int .i32 ((ae:Nat):Int)))] [(2,.v (.bool false)),(7,.p 0 0),(8,.v (.int .i16 v)),(9,.v (.bool (decide (v ≥ 0)))),(10,.p 1 0),(14,.v (.slice (some ⟨ai,0,none⟩) ((lst (T.at_ 2)).length) al)),(15,.v (.int .i32 (((lst (T.at_ 2)).length:Nat):Int))),(16,.v (.int .i32 ((ae:Nat):Int))),(17,.p 3 0)] 2 bg fG rfl kz fun _ bO=>?_
    clear bg
    have bP:=bO.tbEq (tb':=[⟨bv,0,[.int .i16 v,.pointer am,.int .i32 ao.n,.slice none 0 0,.map none],true⟩,qa4 ai 3 (.agg #[.string ByteArray.empty,.slice none 0 0,.map none]) ((lst (T.at_ 2)).length) (ae + 1),⟨ai,ae * 3,[.string ByteArray.empty,.slice none 0 0,.map none],true⟩]) rfl
    clear bO
    refine qac ?_
    refine wp_seq ?_
    refine qap [0,1] kz ?_
    refine qcR [0] [1] [(2,.v (.bool false)),(7,.p 0 0),(8,.v (.int .i16 v)),(9,.v (.bool (decide (v ≥ 0)))),(10,.p 1 0),(14,.v (.slice (some ⟨ai,0,none⟩) ((lst (T.at_ 2)).length) al)),(15,.v (.int .i32 (((lst (T.at_ 2)).length:Nat):Int))),(16,.v (.int .i32 ((ae:Nat):Int))),(17,.p 3 0),(91,.p 3 0)] bP fun _ bQ=>?_
    clear bP
    refine qaj (qjY (d:=92) (vs:=[.pointer (some ⟨ai,ae * 3,none⟩)]) bQ (fun _=>qk4 _ _ _) Tryz.call166 fun _ bR=>?_)
    clear bQ
    refine qag ?_
    have bS:=bR.pk (env':=[(2,.v (.bool false)),(7,.p 0 0),(8,.v (.int .i16 v)),(9,.v (.bool (decide (v ≥ 0)))),(10,.p 1 0),(14,.v (.slice (some ⟨ai,0,none⟩) ((lst (T.at_ 2)).length) al)),(15,.v (.int .i32 (((lst (T.at_ 2)).length:Nat):Int))),(16,.v (.int .i32 ((ae:Nat):Int))),(17,.p 3 0)])
    clear bR
    refine qac ?_
    refine wp_seq ?_
    refine qbz [(2,.v (.bool false)),(7,.p 0 0),(8,.v (.int .i16 v)),(9,.v (.bool (decide (v ≥ 0)))),(10,.p 1 0),(14,.v (.slice (some ⟨ai,0,none⟩) ((lst (T.at_ 2)).length) al)),(15,.v (.int .i32 (((lst (T.at_ 2)).length:Nat):Int))),(16,.v (.int .i32 ((ae:Nat):Int))),(18,.p 3 0)] bS fun _ bT=>?_
    clear bS
    refine qac ?_
    refine wp_seq ?_
    refine wp_seq ?_
    refine qbz [(2,.v (.bool false)),(7,.p 0 0),(8,.v (.int .i16 v)),(9,.v (.bool (decide (v ≥ 0)))),(10,.p 1 0),(14,.v (.slice (some ⟨ai,0,none⟩) ((lst (T.at_ 2)).length) al)),(15,.v (.int .i32 (((lst (T.at_ 2)).length:Nat):Int))),(16,.v (.int .i32 ((ae:Nat):Int))),(18,.p 3 0)] bT fun _ bU=>?_
    clear bT
    refine qac ?_
    refine wp_seq ?_
    refine wp_seq ?_
    refine qbz [(2,.v (.bool false)),(7,.p 0 0),(8,.v (.int .i16 v)),(9,.v (.bool (decide (v ≥ 0)))),(10,.p 1 0),(14,.v (.slice (some ⟨ai,0,none⟩) ((lst (T.at_ 2)).length) al)),(15,.v (.int .i32 (((lst (T.at_ 2)).length:Nat):Int))),(16,.v (.int .i32 ((ae:Nat):Int))),(18,.p 3 0),(94,.v (.bool false))] bU fun _ bh=>qac ?_
    clear bU
    refine qau bh.env_ (b:=false) kz (rfl) ?_
    have bV:=bh.cast bM
    clear bh
    refine qgW (d1:=99) (d2:=100) [(2,.v (.bool false)),(7,.p 0 0),(8,.v (.int .i16 v)),(9,.v (.bool (decide (v ≥ 0)))),(10,.p 1 0),(14,.v (.slice (some ⟨ai,0,none⟩) ((lst (T.at_ 2)).length) al)),(15,.v (.int .i32 (((lst (T.at_ 2)).length:Nat):Int))),(16,.v (.int .i32 ((ae:Nat):Int))),(18,.p 3 0),(98,.v (.bool (decide (v ≥ 0))))] [(2,.v (.bool false)),(7,.p 0 0),(8,.v (.int .i16 v)),(9,.v (.bool (decide (v ≥ 0)))),(10,.p 1 0),(14,.v (.slice (some ⟨ai,0,none⟩) ((lst (T.at_ 2)).length) al)),(15,.v (.int .i32 (((lst (T.at_ 2)).length:Nat):Int))),(16,.v (.int .i32 ((ae:Nat):Int))),(18,.p 3 0),(19,.v (.string (bs (ab.at_ 0).S)))] bV (qe1 (ab.at_ 0).S e116_0 _) Tryz.call153 (qkr (ab.at_ 0).S e116_0 _) Tryz.call154 fun _ _ bW=>?_
    clear bV
    refine qac ?_
    refine qcS [⟨bv,0,[.int .i16 v,.pointer am,.int .i32 ao.n,.slice none 0 0,.map none],true⟩,qa4 ai 3 (.agg #[.string ByteArray.empty,.slice none 0 0,.map none]) ((lst (T.at_ 2)).length) (ae + 1),⟨ai,ae * 3,[.string (bs (ab.at_ 0).S),.slice none 0 0,.map none],true⟩] 2 [(2,.v (.bool false)),(7,.p 0 0),(8,.v (.int .i16 v)),(9,.v (.bool (decide (v ≥ 0)))),(10,.p 1 0),(14,.v (.slice (some ⟨ai,0,none⟩) ((lst (T.at_ 2)).length) al)),(15,.v (.int .i32 (((lst (T.at_ 2)).length:Nat):Int))),(16,.v (.int .i32 ((ae:Nat):Int))),(18,.p 3 0)] bW fun _ _ bX=>?_
    clear bW
    refine qac ?_
    refine wp_seq ?_
    refine wp_seq ?_
    refine qbz [(2,.v (.bool false)),(7,.p 0 0),(8,.v (.int .i16 v)),(9,.v (.bool (decide (v ≥ 0)))),(10,.p 1 0),(14,.v (.slice (some ⟨ai,0,none⟩) ((lst (T.at_ 2)).length) al)),(15,.v (.int .i32 (((lst (T.at_ 2)).length:Nat):Int))),(16,.v (.int .i32 ((ae:Nat):Int))),(18,.p 3 0),(20,.v (.slice none 0 0))] bX fun _ bY=>?_
    clear bX
    refine qac ?_
    refine wp_seq ?_
    refine qbz [(2,.v (.bool false)),(7,.p 0 0),(8,.v (.int .i16 v)),(9,.v (.bool (decide (v ≥ 0)))),(10,.p 1 0),(14,.v (.slice (some ⟨ai,0,none⟩) ((lst (T.at_ 2)).length) al)),(15,.v (.int .i32 (((lst (T.at_ 2)).length:Nat):Int))),(16,.v (.int .i32 ((ae:Nat):Int))),(18,.p 3 0),(21,.v (.slice none 0 0))] bY fun _ bZ=>?_
    clear bY
    refine qac ?_
    refine wp_seq ?_
    refine qbz [(2,.v (.bool false)),(7,.p 0 0),(8,.v (.int .i16 v)),(9,.v (.bool (decide (v ≥ 0)))),(10,.p 1 0),(14,.v (.slice (some ⟨ai,0,none⟩) ((lst (T.at_ 2)).length) al)),(15,.v (.int .i32 (((lst (T.at_ 2)).length:Nat):Int))),(16,.v (.int .i32 ((ae:Nat):Int))),(18,.p 3 0),(21,.v (.slice none 0 0))] bZ fun _ b8=>?_
    clear bZ
    refine qac ?_
    refine wp_seq ?_
    have cd:=b8.cast bL
    clear b8
    have ce:=cd.cast (t:=(if (decide (v ≥ 0)) = true then (uv ((lst (ab.at_ 1)).length + 1)) else (be 4 (lst (ab.at_ 1)).length)) ++ (((lst (ab.at_ 1)).flatMap (qaL v)) ++ ay)) (by rw [List.append_assoc])
    clear cd
    refine qgW (d1:=111) (d2:=112) [(2,.v (.bool false)),(7,.p 0 0),(8,.v (.int .i16 v)),(9,.v (.bool (decide (v ≥ 0)))),(10,.p 1 0),(14,.v (.slice (some ⟨ai,0,none⟩) ((lst (T.at_ 2)).length) al)),(15,.v (.int .i32 (((lst (T.at_ 2)).length:Nat):Int))),(16,.v (.int .i32 ((ae:Nat):Int))),(18,.p 3 0),(21,.v (.slice none 0 0)),(110,.v (.bool (decide (v ≥ 0))))] [(2,.v (.bool false)),(7,.p 0 0),(8,.v (.int .i16 v)),(9,.v (.bool (decide (v ≥ 0)))),(10,.p 1 0),(14,.v (.slice (some ⟨ai,0,none⟩) ((lst (T.at_ 2)).length) al)),(15,.v (.int .i32 (((lst (T.at_ 2)).length:Nat):Int))),(16,.v (.int .i32 ((ae:Nat):Int))),(18,.p 3 0),(21,.v (.slice none 0 0)),(22,.v (.int .i32 (((lst (ab.at_ 1)).length:Nat):Int)))] ce (qc2 ((lst (ab.at_ 1)).length) e116_1 _ (flat_ge' (qbP v) _)) Tryz.call146 (qgt ((lst (ab.at_ 1)).length) e116_1 _ (flat_ge' (qbP v) _)) Tryz.call147 fun _ _ cg=>?_
    clear ce
    refine qac ?_
    refine wp_seq ?_
    refine wp_seq ?_
    refine qkY (d:=113) [(2,.v (.bool false)),(7,.p 0 0),(8,.v (.int .i16 v)),(9,.v (.bool (decide (v ≥ 0)))),(10,.p 1 0),(14,.v (.slice (some ⟨ai,0,none⟩) ((lst (T.at_ 2)).length) al)),(15,.v (.int .i32 (((lst (T.at_ 2)).length:Nat):Int))),(16,.v (.int .i32 ((ae:Nat):Int))),(18,.p 3 0),(21,.v (.slice none 0 0)),(22,.v (.int .i32 (((lst (ab.at_ 1)).length:Nat):Int))),(114,.v (.bool false))] cg (pOk _) Tryz.call148 fun _ _ bi=>?_
    clear cg
    refine qac ?_
    refine qau bi.env_ (b:=false) kz (rfl) ?_
    refine wp_skip ?_
    refine qac ?_
    refine wp_seq ?_
    refine qi4 (t:=126) (e:=195) (size:=39) (bytes:=72) (d:=117) (A0:=none) (m:=0) (cp:=0) [(2,.v (.bool false)),(7,.p 0 0),(8,.v (.int .i16 v)),(9,.v (.bool (decide (v ≥ 0)))),(10,.p 1 0),(14,.v (.slice (some ⟨ai,0,none⟩) ((lst (T.at_ 2)).length) al)),(15,.v (.int .i32 (((lst (T.at_ 2)).length:Nat):Int))),(16,.v (.int .i32 ((ae:Nat):Int))),(18,.p 3 0),(22,.v (.int .i32 (((lst (ab.at_ 1)).length:Nat):Int))),(116,.v (.slice none 0 0))] [(2,.v (.bool false)),(7,.p 0 0),(8,.v (.int .i16 v)),(9,.v (.bool (decide (v ≥ 0)))),(10,.p 1 0),(14,.v (.slice (some ⟨ai,0,none⟩) ((lst (T.at_ 2)).length) al)),(15,.v (.int .i32 (((lst (T.at_ 2)).length:Nat):Int))),(16,.v (.int .i32 ((ae:Nat):Int))),(18,.p 3 0),(21,.v (.slice none 0 0)),(22,.v (.int .i32 (((lst (ab.at_ 1)).length:Nat):Int)))] 1 bi fun _ cm=>?_
    clear bi
    refine qac ?_
    refine qhm (Mid:=fun a_ w_=>∃ (aj:DV) (P':qb2),(∀ w F,P' w F → fH w F ∧ (Slots w F 39 aj.A aj.c aj.l (fun i=>[.int .i32 (((aj.f i).f 0).n),.int .i32 (((aj.f i).f 1).n),.int .i32 (((aj.f i).f 2).n),qaa (((aj.f i).f 3).o.getD 0 0),qaa (((aj.f i).f 3).o.getD 1 0),qaa (((aj.f i).f 3).o.getD 2 0),qaa (((aj.f i).f 3).o.getD 3 0),qaa (((aj.f i).f 3).o.getD 4 0),qaa (((aj.f i).f 3).o.getD 5 0),qaa (((aj.f i).f 3).o.getD 6 0),qaa (((aj.f i).f 3).o.getD 7 0),qaa (((aj.f i).f 3).o.getD 8 0),qaa (((aj.f i).f 3).o.getD 9 0),qaa (((aj.f i).f 3).o.getD 10 0),qaa (((aj.f i).f 3).o.getD 11 0),qaa (((aj.f i).f 3).o.getD 12 0),qaa (((aj.f i).f 3).o.getD 13 0),qaa (((aj.f i).f 3).o.getD 14 0),qaa (((aj.f i).f 3).o.getD 15 0),qaa (((aj.f i).f 4).o.getD 0 0),qaa (((aj.f i).f 4).o.getD 1 0),qaa (((aj.f i).f 4).o.getD 2 0),qaa (((aj.f i).f 4).o.getD 3 0),qaa (((aj.f i).f 4).o.getD 4 0),qaa (((aj.f i).f 4).o.getD 5 0),qaa (((aj.f i).f 4).o.getD 6 0),qaa (((aj.f i).f 4).o.getD 7 0),qaa (((aj.f i).f 4).o.getD 8 0),qaa (((aj.f i).f 4).o.getD 9 0),qaa (((aj.f i).f 4).o.getD 10 0),qaa (((aj.f i).f 4).o.getD 11 0),qaa (((aj.f i).f 4).o.getD 12 0),qaa (((aj.f i).f 4).o.getD 13 0),qaa (((aj.f i).f 4).o.getD 14 0),qaa (((aj.f i).f 4).o.getD 15 0),.int .i32 (((aj.f i).f 5).n),.int .i64 (((aj.f i).f 6).n),.bool (((aj.f i).f 7).b),.map ((aj.f i).m)]) ∧ aj.l ≤ 1000000 ∧ ∀ i,i < aj.l → qaT w F (aj.f i)) ∧ (aj.l = (lst (ab.at_ 1)).length ∧ ∀ i,i < aj.l → qbd v (aj.f i) ((lst (ab.at_ 1)).getD i .zero))) ∧ RS w (fun b o=>b = bv ∧ o < 5) F 206 aU [⟨bv,0,[.int .i16 v,.pointer am,.int .i32 ao.n,.slice none 0 0,.map none],true⟩,qa4 ai 3 (.agg #[.string ByteArray.empty,.slice none 0 0,.map none]) ((lst (T.at_ 2)).length) (ae + 1),⟨ai,ae * 3,[.string (bs (ab.at_ 0).S),.slice none 0 0,.map none],true⟩] [(2,.v (.bool false)),(7,.p 0 0),(8,.v (.int .i16 v)),(9,.v (.bool (decide (v ≥ 0)))),(10,.p 1 0),(14,.v (.slice (some ⟨ai,0,none⟩) ((lst (T.at_ 2)).length) al)),(15,.v (.int .i32 (((lst (T.at_ 2)).length:Nat):Int))),(16,.v (.int .i32 ((ae:Nat):Int))),(18,.p 3 0),(21,.v (.slice aj.A aj.l aj.c))] P' ay a_ w_) ?_ ?_
    ·
     refine wp_seq ?_
     refine qbz [(2,.v (.bool false)),(7,.p 0 0),(8,.v (.int .i16 v)),(9,.v (.bool (decide (v ≥ 0)))),(10,.p 1 0),(14,.v (.slice (some ⟨ai,0,none⟩) ((lst (T.at_ 2)).length) al)),(15,.v (.int .i32 (((lst (T.at_ 2)).length:Nat):Int))),(16,.v (.int .i32 ((ae:Nat):Int))),(18,.p 3 0),(21,.v (.slice none 0 0)),(22,.v (.int .i32 (((lst (ab.at_ 1)).length:Nat):Int))),(119,.v (.bool (decide ((((lst (ab.at_ 1)).length:Nat):Int) > 0))))] cm fun _ az=>qac ?_
     clear cm
     refine qaz az.env_ (b:=decide ((((lst (ab.at_ 1)).length:Nat):Int) > 0)) kz (fun aQ=>?_) (fun aQ=>?_)
     ·
      have hn_g153:0 < (lst (ab.at_ 1)).length:=by have h_:=of_decide_eq_true aQ; omega
      refine qap [0,1,2,3] kz ?_
      refine qcR [0,1] [2,3] [(2,.v (.bool false)),(7,.p 0 0),(8,.v (.int .i16 v)),(9,.v (.bool (decide (v ≥ 0)))),(10,.p 1 0),(14,.v (.slice (some ⟨ai,0,none⟩) ((lst (T.at_ 2)).length) al)),(15,.v (.int .i32 (((lst (T.at_ 2)).length:Nat):Int))),(16,.v (.int .i32 ((ae:Nat):Int))),(18,.p 3 0),(22,.v (.int .i32 (((lst (ab.at_ 1)).length:Nat):Int))),(120,.v (.slice none 0 0)),(121,.v (.int .i32 (((lst (ab.at_ 1)).length:Nat):Int)))] az fun _ cq=>?_
      clear az
      refine qaj (qfn (A0:=none) (d:=122) (t:=126) (tn:=21) (e:=195) (size:=39) (bytes:=72) (k:=.i32) (kn:=.i32) (q:=(((lst (ab.at_ 1)).length:Nat):Int)) (j:=(lst (ab.at_ 1)).length) (.agg #[.int .i32 0,.int .i32 0,.int .i32 0,.int .u8 0,.int .u8 0,.int .u8 0,.int .u8 0,.int .u8 0,.int .u8 0,.int .u8 0,.int .u8 0,.int .u8 0,.int .u8 0,.int .u8 0,.int .u8 0,.int .u8 0,.int .u8 0,.int .u8 0,.int .u8 0,.int .u8 0,.int .u8 0,.int .u8 0,.int .u8 0,.int .u8 0,.int .u8 0,.int .u8 0,.int .u8 0,.int .u8 0,.int .u8 0,.int .u8 0,.int .u8 0,.int .u8 0,.int .u8 0,.int .u8 0,.int .u8 0,.int .i32 0,.int .i64 0,.bool false,.map none]) cq (fun ag ak _ _ hg_g153 hcap_g153 cr=>?_) rfl hn_g153 (by have:=e116_1; omega))
      clear cq
      refine qcR [3] [] [(2,.v (.bool false)),(7,.p 0 0),(8,.v (.int .i16 v)),(9,.v (.bool (decide (v ≥ 0)))),(10,.p 1 0),(14,.v (.slice (some ⟨ai,0,none⟩) ((lst (T.at_ 2)).length) al)),(15,.v (.int .i32 (((lst (T.at_ 2)).length:Nat):Int))),(16,.v (.int .i32 ((ae:Nat):Int))),(18,.p 3 0),(21,.v (.slice (some ⟨ag,0,none⟩) ((lst (ab.at_ 1)).length) ak)),(22,.v (.int .i32 (((lst (ab.at_ 1)).length:Nat):Int)))] cr fun _ cu=>qag ?_
      clear cr
      refine qac ?_
      refine wp_seq ?_
      refine qbz [(2,.v (.bool false)),(7,.p 0 0),(8,.v (.int .i16 v)),(9,.v (.bool (decide (v ≥ 0)))),(10,.p 1 0),(14,.v (.slice (some ⟨ai,0,none⟩) ((lst (T.at_ 2)).length) al)),(15,.v (.int .i32 (((lst (T.at_ 2)).length:Nat):Int))),(16,.v (.int .i32 ((ae:Nat):Int))),(18,.p 3 0),(21,.v (.slice (some ⟨ag,0,none⟩) ((lst (ab.at_ 1)).length) ak)),(22,.v (.int .i32 (((lst (ab.at_ 1)).length:Nat):Int))),(23,.v (.int .i32 0))] cu fun _ bj=>?_
      clear cu
      refine qac ?_
      refine wp_block ?_
      have bk:=bj.mv
      have fJ:=(bj.cast (t:=(lst (ab.at_ 1)).flatMap (qaL v) ++ ay) rfl).pk (env':=[(2,.v (.bool false)),(7,.p 0 0),(8,.v (.int .i16 v)),(9,.v (.bool (decide (v ≥ 0)))),(10,.p 1 0),(14,.v (.slice (some ⟨ai,0,none⟩) ((lst (T.at_ 2)).length) al)),(15,.v (.int .i32 (((lst (T.at_ 2)).length:Nat):Int))),(16,.v (.int .i32 ((ae:Nat):Int))),(18,.p 3 0),(21,.v (.slice (some ⟨ag,0,none⟩) ((lst (ab.at_ 1)).length) ak)),(22,.v (.int .i32 (((lst (ab.at_ 1)).length:Nat):Int))),(23,.v (.int .i32 ((0:Nat):Int)))])
      clear bj
      refine qiZ (tb:=[⟨bv,0,[.int .i16 v,.pointer am,.int .i32 ao.n,.slice none 0 0,.map none],true⟩,qa4 ai 3 (.agg #[.string ByteArray.empty,.slice none 0 0,.map none]) ((lst (T.at_ 2)).length) (ae + 1),⟨ai,ae * 3,[.string (bs (ab.at_ 0).S),.slice none 0 0,.map none],true⟩]) (z:=.agg #[.int .i32 0,.int .i32 0,.int .i32 0,.int .u8 0,.int .u8 0,.int .u8 0,.int .u8 0,.int .u8 0,.int .u8 0,.int .u8 0,.int .u8 0,.int .u8 0,.int .u8 0,.int .u8 0,.int .u8 0,.int .u8 0,.int .u8 0,.int .u8 0,.int .u8 0,.int .u8 0,.int .u8 0,.int .u8 0,.int .u8 0,.int .u8 0,.int .u8 0,.int .u8 0,.int .u8 0,.int .u8 0,.int .u8 0,.int .u8 0,.int .u8 0,.int .u8 0,.int .u8 0,.int .u8 0,.int .u8 0,.int .i32 0,.int .i64 0,.bool false,.map none]) (cl:=qbX) (ok:=qaT) (rel:=(qbd v)) (L:=lst (ab.at_ 1)) (size:=39) (qaL v) ay (fun k=>[(2,.v (.bool false)),(7,.p 0 0),(8,.v (.int .i16 v)),(9,.v (.bool (decide (v ≥ 0)))),(10,.p 1 0),(14,.v (.slice (some ⟨ai,0,none⟩) ((lst (T.at_ 2)).length) al)),(15,.v (.int .i32 (((lst (T.at_ 2)).length:Nat):Int))),(16,.v (.int .i32 ((ae:Nat):Int))),(18,.p 3 0),(21,.v (.slice (some ⟨ag,0,none⟩) ((lst (ab.at_ 1)).length) ak)),(22,.v (.int .i32 (((lst (ab.at_ 1)).length:Nat):Int))),(23,.v (.int .i32 ((k:Nat):Int)))]) fJ qaX (fun ah aa _ _ bn fK cw=>?_) (fun _ _ cz=>?_)
      ·
       obtain ⟨gv,cA,cB⟩:∃ P',(∀ w F,P' w F → (fH w F ∧ qeZ ag 39 qbX qaT (qbd v) (lst (ab.at_ 1)) ah w F)) ∧ RS w (fun b o=>b = bv ∧ o < 5) F 206 aU [⟨bv,0,[.int .i16 v,.pointer am,.int .i32 ao.n,.slice none 0 0,.map none],true⟩,qa4 ai 3 (.agg #[.string ByteArray.empty,.slice none 0 0,.map none]) ((lst (T.at_ 2)).length) (ae + 1),⟨ai,ae * 3,[.string (bs (ab.at_ 0).S),.slice none 0 0,.map none],true⟩,qa4 ag 39 (.agg #[.int .i32 0,.int .i32 0,.int .i32 0,.int .u8 0,.int .u8 0,.int .u8 0,.int .u8 0,.int .u8 0,.int .u8 0,.int .u8 0,.int .u8 0,.int .u8 0,.int .u8 0,.int .u8 0,.int .u8 0,.int .u8 0,.int .u8 0,.int .u8 0,.int .u8 0,.int .u8 0,.int .u8 0,.int .u8 0,.int .u8 0,.int .u8 0,.int .u8 0,.int .u8 0,.int .u8 0,.int .u8 0,.int .u8 0,.int .u8 0,.int .u8 0,.int .u8 0,.int .u8 0,.int .u8 0,.int .u8 0,.int .i32 0,.int .i64 0,.bool false,.map none]) ((lst (ab.at_ 1)).length) ah] [(2,.v (.bool false)),(7,.p 0 0),(8,.v (.int .i16 v)),(9,.v (.bool (decide (v ≥ 0)))),(10,.p 1 0),(14,.v (.slice (some ⟨ai,0,none⟩) ((lst (T.at_ 2)).length) al)),(15,.v (.int .i32 (((lst (T.at_ 2)).length:Nat):Int))),(16,.v (.int .i32 ((ae:Nat):Int))),(18,.p 3 0),(21,.v (.slice (some ⟨ag,0,none⟩) ((lst (ab.at_ 1)).length) ak)),(22,.v (.int .i32 (((lst (ab.at_ 1)).length:Nat):Int))),(23,.v (.int .i32 ((ah:Nat):Int)))] P' ((qaL v) aa ++ (((lst (ab.at_ 1)).drop (ah + 1)).flatMap (qaL v) ++ ay)) _ _:=⟨_,fun _ _ h=>h,cw⟩
       clear cw
       obtain ⟨bo,cC⟩:∃ R,R = ((lst (ab.at_ 1)).drop (ah + 1)).flatMap (qaL v) ++ ay:=⟨_,rfl⟩
       have fL:=(e116_1e aa (List.mem_of_getElem? bn))
       have e172r:=(qfl (qeR e116r 1) aa (List.mem_of_getElem? bn))
       unfold qa8 at fL
       obtain ⟨e172_0,e172_1,e172_2,e172_3,e172_4,e172_5,e172_6,e172_7,e172_U,_⟩:=fL
       obtain ⟨bp,cD⟩:∃ R,R = (if (decide (v ≥ 0)) = true then (uv aa.U.length) ++ (qcf aa.U) else []) ++ bo:=⟨_,rfl⟩
       obtain ⟨gw,cE⟩:∃ R,R = (if (decide (v ≥ 2)) = true then [by8 (if (decide ((aa.at_ 7).N % 2 = 1)) then 1 else 0)] else []) ++ bp:=⟨_,rfl⟩
       obtain ⟨gx,cG⟩:∃ R,R = (be 8 ((aa.at_ 6).N)) ++ gw:=⟨_,rfl⟩
       obtain ⟨bq,cH⟩:∃ R,R = (be 4 ((IntKind.i32.wrap (aa.at_ 5).N))) ++ gx:=⟨_,rfl⟩
       obtain ⟨bt,cI⟩:∃ R,R = (if (decide (v ≥ 1)) = true then (qah (aa.at_ 4).S) else []) ++ bq:=⟨_,rfl⟩
       obtain ⟨gy,cJ⟩:∃ R,R = (if (decide (v ≥ 1)) = true then (qah (aa.at_ 3).S) else []) ++ bt:=⟨_,rfl⟩
       obtain ⟨gz,cK⟩:∃ R,R = (be 4 ((IntKind.i32.wrap (aa.at_ 2).N))) ++ gy:=⟨_,rfl⟩
       obtain ⟨gA,cL⟩:∃ R,R = (be 4 ((IntKind.i32.wrap (aa.at_ 1).N))) ++ gz:=⟨_,rfl⟩
       obtain ⟨gB,cM⟩:∃ R,R = (be 4 ((IntKind.i32.wrap (aa.at_ 0).N))) ++ gA:=⟨_,rfl⟩
       have cN:=cB.cast (t:=gB) (by rw [cM,cL,cK,cJ,cI,cH,cG,cE,cD,← cC]; unfold qaL; simp only [List.append_assoc])
       clear cB
       refine wp_seq ?_
       refine wp_seq ?_
       refine qbz [(2,.v (.bool false)),(7,.p 0 0),(8,.v (.int .i16 v)),(9,.v (.bool (decide (v ≥ 0)))),(10,.p 1 0),(14,.v (.slice (some ⟨ai,0,none⟩) ((lst (T.at_ 2)).length) al)),(15,.v (.int .i32 (((lst (T.at_ 2)).length:Nat):Int))),(16,.v (.int .i32 ((ae:Nat):Int))),(18,.p 3 0),(21,.v (.slice (some ⟨ag,0,none⟩) ((lst (ab.at_ 1)).length) ak)),(22,.v (.int .i32 (((lst (ab.at_ 1)).length:Nat):Int))),(23,.v (.int .i32 ((ah:Nat):Int))),(125,.v (.bool (decide (((ah:Nat):Int) < (((lst (ab.at_ 1)).length:Nat):Int)))))] cN fun _ bu=>qac ?_
       clear cN
       refine qbg bu.env_ (b:=decide (((ah:Nat):Int) < (((lst (ab.at_ 1)).length:Nat):Int))) kz (decide_eq_true (by omega)) ?_
       refine wp_skip ?_
       refine qac ?_
       refine wp_seq ?_
       refine wp_block ?_
       refine wp_seq ?_
       refine qi5 (t:=126) (e:=195) (size:=39) (bytes:=72) (d:=130) (tb:=[⟨bv,0,[.int .i16 v,.pointer am,.int .i32 ao.n,.slice none 0 0,.map none],true⟩,qa4 ai 3 (.agg #[.string ByteArray.empty,.slice none 0 0,.map none]) ((lst (T.at_ 2)).length) (ae + 1),⟨ai,ae * 3,[.string (bs (ab.at_ 0).S),.slice none 0 0,.map none],true⟩]) (z:=.agg #[.int .i32 0,.int .i32 0,.int .i32 0,.int .u8 0,.int .u8 0,.int .u8 0,.int .u8 0,.int .u8 0,.int .u8 0,.int .u8 0,.int .u8 0,.int .u8 0,.int .u8 0,.int .u8 0,.int .u8 0,.int .u8 0,.int .u8 0,.int .u8 0,.int .u8 0,.int .u8 0,.int .u8 0,.int .u8 0,.int .u8 0,.int .u8 0,.int .u8 0,.int .u8 0,.int .u8 0,.int .u8 0,.int .u8 0,.int .u8 0,.int .u8 0,.int .u8 0,.int .u8 0,.int .u8 0,.int .u8 0,.int .i32 0,.int .i64 0,.bool false,.map none]) [(2,.v (.bool false)),(7,.p 0 0),(8,.v (.int .i16 v)),(9,.v (.bool (decide (v ≥ 0)))),(10,.p 1 0),(14,.v (.slice (some ⟨ai,0,none⟩) ((lst (T.at_ 2)).length) al)),(15,.v (.int .i32 (((lst (T.at_ 2)).length:Nat):Int))),(16,.v (.int .i32 ((ae:Nat):Int))),(18,.p 3 0),(21,.v (.slice (some ⟨ag,0,none⟩) ((lst (ab.at_ 1)).length) ak)),(22,.v (.int .i32 (((lst (ab.at_ 1)).length:Nat):Int))),(23,.v (.int .i32 ((ah:Nat):Int))),(128,.v (.slice (some ⟨ag,0,none⟩) ((lst (ab.at_ 1)).length) ak)),(129,.v (.int .i32 ((ah:Nat):Int)))] [(2,.v (.bool false)),(7,.p 0 0),(8,.v (.int .i16 v)),(9,.v (.bool (decide (v ≥ 0)))),(10,.p 1 0),(14,.v (.slice (some ⟨ai,0,none⟩) ((lst (T.at_ 2)).length) al)),(15,.v (.int .i32 (((lst (T.at_ 2)).length:Nat):Int))),(16,.v (.int .i32 ((ae:Nat):Int))),(18,.p 3 0),(21,.v (.slice (some ⟨ag,0,none⟩) ((lst (ab.at_ 1)).length) ak)),(22,.v (.int .i32 (((lst (ab.at_ 1)).length:Nat):Int))),(23,.v (.int .i32 ((ah:Nat):Int))),(24,.p 5 0)] 2 bu fK rfl kz fun _ cO=>?_
       clear bu
       have cP:=cO.tbEq (tb':=[⟨bv,0,[.int .i16 v,.pointer am,.int .i32 ao.n,.slice none 0 0,.map none],true⟩,qa4 ai 3 (.agg #[.string ByteArray.empty,.slice none 0 0,.map none]) ((lst (T.at_ 2)).length) (ae + 1),⟨ai,ae * 3,[.string (bs (ab.at_ 0).S),.slice none 0 0,.map none],true⟩,qa4 ag 39 (.agg #[.int .i32 0,.int .i32 0,.int .i32 0,.int .u8 0,.int .u8 0,.int .u8 0,.int .u8 0,.int .u8 0,.int .u8 0,.int .u8 0,.int .u8 0,.int .u8 0,.int .u8 0,.int .u8 0,.int .u8 0,.int .u8 0,.int .u8 0,.int .u8 0,.int .u8 0,.int .u8 0,.int .u8 0,.int .u8 0,.int .u8 0,.int .u8 0,.int .u8 0,.int .u8 0,.int .u8 0,.int .u8 0,.int .u8 0,.int .u8 0,.int .u8 0,.int .u8 0,.int .u8 0,.int .u8 0,.int .u8 0,.int .i32 0,.int .i64 0,.bool false,.map none]) ((lst (ab.at_ 1)).length) (ah + 1),⟨ag,ah * 39,[.int .i32 0,.int .i32 0,.int .i32 0,.int .u8 0,.int .u8 0,.int .u8 0,.int .u8 0,.int .u8 0,.int .u8 0,.int .u8 0,.int .u8 0,.int .u8 0,.int .u8 0,.int .u8 0,.int .u8 0,.int .u8 0,.int .u8 0,.int .u8 0,.int .u8 0,.int .u8 0,.int .u8 0,.int .u8 0,.int .u8 0,.int .u8 0,.int .u8 0,.int .u8 0,.int .u8 0,.int .u8 0,.int .u8 0,.int .u8 0,.int .u8 0,.int .u8 0,.int .u8 0,.int .u8 0,.int .u8 0,.int .i32 0,.int .i64 0,.bool false,.map none],true⟩]) rfl
       clear cO
       refine qac ?_
       refine wp_seq ?_
       refine qap [0,1] kz ?_
       refine qcR [0] [1] [(2,.v (.bool false)),(7,.p 0 0),(8,.v (.int .i16 v)),(9,.v (.bool (decide (v ≥ 0)))),(10,.p 1 0),(14,.v (.slice (some ⟨ai,0,none⟩) ((lst (T.at_ 2)).length) al)),(15,.v (.int .i32 (((lst (T.at_ 2)).length:Nat):Int))),(16,.v (.int .i32 ((ae:Nat):Int))),(18,.p 3 0),(21,.v (.slice (some ⟨ag,0,none⟩) ((lst (ab.at_ 1)).length) ak)),(22,.v (.int .i32 (((lst (ab.at_ 1)).length:Nat):Int))),(23,.v (.int .i32 ((ah:Nat):Int))),(24,.p 5 0),(131,.p 5 0)] cP fun _ cQ=>?_
       clear cP
       refine qaj (qjY (d:=132) (vs:=[.pointer (some ⟨ag,ah * 39,none⟩)]) cQ (fun _=>qk5 _ _ _) Tryz.call167 fun _ cR=>?_)
       clear cQ
       refine qag ?_
       have cS:=cR.pk (env':=[(2,.v (.bool false)),(7,.p 0 0),(8,.v (.int .i16 v)),(9,.v (.bool (decide (v ≥ 0)))),(10,.p 1 0),(14,.v (.slice (some ⟨ai,0,none⟩) ((lst (T.at_ 2)).length) al)),(15,.v (.int .i32 (((lst (T.at_ 2)).length:Nat):Int))),(16,.v (.int .i32 ((ae:Nat):Int))),(18,.p 3 0),(21,.v (.slice (some ⟨ag,0,none⟩) ((lst (ab.at_ 1)).length) ak)),(22,.v (.int .i32 (((lst (ab.at_ 1)).length:Nat):Int))),(23,.v (.int .i32 ((ah:Nat):Int))),(24,.p 5 0)])
       clear cR
       refine qac ?_
       refine wp_seq ?_
       refine qbz [(2,.v (.bool false)),(7,.p 0 0),(8,.v (.int .i16 v)),(9,.v (.bool (decide (v ≥ 0)))),(10,.p 1 0),(14,.v (.slice (some ⟨ai,0,none⟩) ((lst (T.at_ 2)).length) al)),(15,.v (.int .i32 (((lst (T.at_ 2)).length:Nat):Int))),(16,.v (.int .i32 ((ae:Nat):Int))),(18,.p 3 0),(21,.v (.slice (some ⟨ag,0,none⟩) ((lst (ab.at_ 1)).length) ak)),(22,.v (.int .i32 (((lst (ab.at_ 1)).length:Nat):Int))),(23,.v (.int .i32 ((ah:Nat):Int))),(25,.p 5 0)] cS fun _ cT=>?_
       clear cS
       refine qac ?_
       refine wp_seq ?_
       refine wp_seq ?_
       have cU:=cT.cast cM
       clear cT
       refine qdB (d:=134) [(2,.v (.bool false)),(7,.p 0 0),(8,.v (.int .i16 v)),(9,.v (.bool (decide (v ≥ 0)))),(10,.p 1 0),(14,.v (.slice (some ⟨ai,0,none⟩) ((lst (T.at_ 2)).length) al)),(15,.v (.int .i32 (((lst (T.at_ 2)).length:Nat):Int))),(16,.v (.int .i32 ((ae:Nat):Int))),(18,.p 3 0),(21,.v (.slice (some ⟨ag,0,none⟩) ((lst (ab.at_ 1)).length) ak)),(22,.v (.int .i32 (((lst (ab.at_ 1)).length:Nat):Int))),(23,.v (.int .i32 ((ah:Nat):Int))),(25,.p 5 0),(26,.v (.int .i32 (IntKind.i32.wrap (aa.at_ 0).N)))] cU (qgs _ _) Tryz.call139 fun _ _ cV=>?_
       clear cU
       refine qac ?_
       refine qcS [⟨bv,0,[.int .i16 v,.pointer am,.int .i32 ao.n,.slice none 0 0,.map none],true⟩,qa4 ai 3 (.agg #[.string ByteArray.empty,.slice none 0 0,.map none]) ((lst (T.at_ 2)).length) (ae + 1),⟨ai,ae * 3,[.string (bs (ab.at_ 0).S),.slice none 0 0,.map none],true⟩,qa4 ag 39 (.agg #[.int .i32 0,.int .i32 0,.int .i32 0,.int .u8 0,.int .u8 0,.int .u8 0,.int .u8 0,.int .u8 0,.int .u8 0,.int .u8 0,.int .u8 0,.int .u8 0,.int .u8 0,.int .u8 0,.int .u8 0,.int .u8 0,.int .u8 0,.int .u8 0,.int .u8 0,.int .u8 0,.int .u8 0,.int .u8 0,.int .u8 0,.int .u8 0,.int .u8 0,.int .u8 0,.int .u8 0,.int .u8 0,.int .u8 0,.int .u8 0,.int .u8 0,.int .u8 0,.int .u8 0,.int .u8 0,.int .u8 0,.int .i32 0,.int .i64 0,.bool false,.map none]) ((lst (ab.at_ 1)).length) (ah + 1),⟨ag,ah * 39,[.int .i32 (IntKind.i32.wrap (aa.at_ 0).N),.int .i32 0,.int .i32 0,.int .u8 0,.int .u8 0,.int .u8 0,.int .u8 0,.int .u8 0,.int .u8 0,.int .u8 0,.int .u8 0,.int .u8 0,.int .u8 0,.int .u8 0,.int .u8 0,.int .u8 0,.int .u8 0,.int .u8 0,.int .u8 0,.int .u8 0,.int .u8 0,.int .u8 0,.int .u8 0,.int .u8 0,.int .u8 0,.int .u8 0,.int .u8 0,.int .u8 0,.int .u8 0,.int .u8 0,.int .u8 0,.int .u8 0,.int .u8 0,.int .u8 0,.int .u8 0,.int .i32 0,.int .i64 0,.bool false,.map none],true⟩] 4 [(2,.v (.bool false)),(7,.p 0 0),(8,.v (.int .i16 v)),(9,.v (.bool (decide (v ≥ 0)))),(10,.p 1 0),(14,.v (.slice (some ⟨ai,0,none⟩) ((lst (T.at_ 2)).length) al)),(15,.v (.int .i32 (((lst (T.at_ 2)).length:Nat):Int))),(16,.v (.int .i32 ((ae:Nat):Int))),(18,.p 3 0),(21,.v (.slice (some ⟨ag,0,none⟩) ((lst (ab.at_ 1)).length) ak)),(22,.v (.int .i32 (((lst (ab.at_ 1)).length:Nat):Int))),(23,.v (.int .i32 ((ah:Nat):Int))),(25,.p 5 0)] cV fun _ _ cW=>?_
       clear cV
       refine qac ?_
       refine wp_seq ?_
       refine wp_seq ?_
       have cX:=cW.cast cL
       clear cW
       refine qdB (d:=139) [(2,.v (.bool false)),(7,.p 0 0),(8,.v (.int .i16 v)),(9,.v (.bool (decide (v ≥ 0)))),(10,.p 1 0),(14,.v (.slice (some ⟨ai,0,none⟩) ((lst (T.at_ 2)).length) al)),(15,.v (.int .i32 (((lst (T.at_ 2)).length:Nat):Int))),(16,.v (.int .i32 ((ae:Nat):Int))),(18,.p 3 0),(21,.v (.slice (some ⟨ag,0,none⟩) ((lst (ab.at_ 1)).length) ak)),(22,.v (.int .i32 (((lst (ab.at_ 1)).length:Nat):Int))),(23,.v (.int .i32 ((ah:Nat):Int))),(25,.p 5 0),(27,.v (.int .i32 (IntKind.i32.wrap (aa.at_ 1).N)))] cX (qgs _ _) Tryz.call139 fun _ _ cY=>?_
       clear cX
       refine qac ?_
       refine qcS [⟨bv,0,[.int .i16 v,.pointer am,.int .i32 ao.n,.slice none 0 0,.map none],true⟩,qa4 ai 3 (.agg #[.string ByteArray.empty,.slice none 0 0,.map none]) ((lst (T.at_ 2)).length) (ae + 1),⟨ai,ae * 3,[.string (bs (ab.at_ 0).S),.slice none 0 0,.map none],true⟩,qa4 ag 39 (.agg #[.int .i32 0,.int .i32 0,.int .i32 0,.int .u8 0,.int .u8 0,.int .u8 0,.int .u8 0,.int .u8 0,.int .u8 0,.int .u8 0,.int .u8 0,.int .u8 0,.int .u8 0,.int .u8 0,.int .u8 0,.int .u8 0,.int .u8 0,.int .u8 0,.int .u8 0,.int .u8 0,.int .u8 0,.int .u8 0,.int .u8 0,.int .u8 0,.int .u8 0,.int .u8 0,.int .u8 0,.int .u8 0,.int .u8 0,.int .u8 0,.int .u8 0,.int .u8 0,.int .u8 0,.int .u8 0,.int .u8 0,.int .i32 0,.int .i64 0,.bool false,.map none]) ((lst (ab.at_ 1)).length) (ah + 1),⟨ag,ah * 39,[.int .i32 (IntKind.i32.wrap (aa.at_ 0).N),.int .i32 (IntKind.i32.wrap (aa.at_ 1).N),.int .i32 0,.int .u8 0,.int .u8 0,.int .u8 0,.int .u8 0,.int .u8 0,.int .u8 0,.int .u8 0,.int .u8 0,.int .u8 0,.int .u8 0,.int .u8 0,.int .u8 0,.int .u8 0,.int .u8 0,.int .u8 0,.int .u8 0,.int .u8 0,.int .u8 0,.int .u8 0,.int .u8 0,.int .u8 0,.int .u8 0,.int .u8 0,.int .u8 0,.int .u8 0,.int .u8 0,.int .u8 0,.int .u8 0,.int .u8 0,.int .u8 0,.int .u8 0,.int .u8 0,.int .i32 0,.int .i64 0,.bool false,.map none],true⟩] 4 [(2,.v (.bool false)),(7,.p 0 0),(8,.v (.int .i16 v)),(9,.v (.bool (decide (v ≥ 0)))),(10,.p 1 0),(14,.v (.slice (some ⟨ai,0,none⟩) ((lst (T.at_ 2)).length) al)),(15,.v (.int .i32 (((lst (T.at_ 2)).length:Nat):Int))),(16,.v (.int .i32 ((ae:Nat):Int))),(18,.p 3 0),(21,.v (.slice (some ⟨ag,0,none⟩) ((lst (ab.at_ 1)).length) ak)),(22,.v (.int .i32 (((lst (ab.at_ 1)).length:Nat):Int))),(23,.v (.int .i32 ((ah:Nat):Int))),(25,.p 5 0)] cY fun _ _ cZ=>?_
       clear cY
       refine qac ?_
       refine wp_seq ?_
       refine wp_seq ?_
       have c5:=cZ.cast cK
       clear cZ
       refine qdB (d:=144) [(2,.v (.bool false)),(7,.p 0 0),(8,.v (.int .i16 v)),(9,.v (.bool (decide (v ≥ 0)))),(10,.p 1 0),(14,.v (.slice (some ⟨ai,0,none⟩) ((lst (T.at_ 2)).length) al)),(15,.v (.int .i32 (((lst (T.at_ 2)).length:Nat):Int))),(16,.v (.int .i32 ((ae:Nat):Int))),(18,.p 3 0),(21,.v (.slice (some ⟨ag,0,none⟩) ((lst (ab.at_ 1)).length) ak)),(22,.v (.int .i32 (((lst (ab.at_ 1)).length:Nat):Int))),(23,.v (.int .i32 ((ah:Nat):Int))),(25,.p 5 0),(28,.v (.int .i32 (IntKind.i32.wrap (aa.at_ 2).N)))] c5 (qgs _ _) Tryz.call139 fun _ _ c6=>?_
       clear c5
       refine qac ?_
       refine qcS [⟨bv,0,[.int .i16 v,.pointer am,.int .i32 ao.n,.slice none 0 0,.map none],true⟩,qa4 ai 3 (.agg #[.string ByteArray.empty,.slice none 0 0,.map none]) ((lst (T.at_ 2)).length) (ae + 1),⟨ai,ae * 3,[.string (bs (ab.at_ 0).S),.slice none 0 0,.map none],true⟩,qa4 ag 39 (.agg #[.int .i32 0,.int .i32 0,.int .i32 0,.int .u8 0,.int .u8 0,.int .u8 0,.int .u8 0,.int .u8 0,.int .u8 0,.int .u8 0,.int .u8 0,.int .u8 0,.int .u8 0,.int .u8 0,.int .u8 0,.int .u8 0,.int .u8 0,.int .u8 0,.int .u8 0,.int .u8 0,.int .u8 0,.int .u8 0,.int .u8 0,.int .u8 0,.int .u8 0,.int .u8 0,.int .u8 0,.int .u8 0,.int .u8 0,.int .u8 0,.int .u8 0,.int .u8 0,.int .u8 0,.int .u8 0,.int .u8 0,.int .i32 0,.int .i64 0,.bool false,.map none]) ((lst (ab.at_ 1)).length) (ah + 1),⟨ag,ah * 39,[.int .i32 (IntKind.i32.wrap (aa.at_ 0).N),.int .i32 (IntKind.i32.wrap (aa.at_ 1).N),.int .i32 (IntKind.i32.wrap (aa.at_ 2).N),.int .u8 0,.int .u8 0,.int .u8 0,.int .u8 0,.int .u8 0,.int .u8 0,.int .u8 0,.int .u8 0,.int .u8 0,.int .u8 0,.int .u8 0,.int .u8 0,.int .u8 0,.int .u8 0,.int .u8 0,.int .u8 0,.int .u8 0,.int .u8 0,.int .u8 0,.int .u8 0,.int .u8 0,.int .u8 0,.int .u8 0,.int .u8 0,.int .u8 0,.int .u8 0,.int .u8 0,.int .u8 0,.int .u8 0,.int .u8 0,.int .u8 0,.int .u8 0,.int .i32 0,.int .i64 0,.bool false,.map none],true⟩] 4 [(2,.v (.bool false)),(7,.p 0 0),(8,.v (.int .i16 v)),(9,.v (.bool (decide (v ≥ 0)))),(10,.p 1 0),(14,.v (.slice (some ⟨ai,0,none⟩) ((lst (T.at_ 2)).length) al)),(15,.v (.int .i32 (((lst (T.at_ 2)).length:Nat):Int))),(16,.v (.int .i32 ((ae:Nat):Int))),(18,.p 3 0),(21,.v (.slice (some ⟨ag,0,none⟩) ((lst (ab.at_ 1)).length) ak)),(22,.v (.int .i32 (((lst (ab.at_ 1)).length:Nat):Int))),(23,.v (.int .i32 ((ah:Nat):Int))),(25,.p 5 0)] c6 fun _ _ da=>?_
       clear c6
       refine qac ?_
       refine wp_seq ?_
       have db:=da.cast cJ
       clear da
       refine qcE (Mid:=fun a_ w_=>∃ (ac:DV) (P':qb2),(∀ w F,P' w F → gv w F ∧ (ac.o.length = 16) ∧ ((decide (v ≥ 1)) = true → ac.o = qah (aa.at_ 3).S) ∧ ((decide (v ≥ 1)) = false → ac.o = List.replicate 16 0)) ∧ RS w (fun b o=>b = bv ∧ o < 5) F 206 aU [⟨bv,0,[.int .i16 v,.pointer am,.int .i32 ao.n,.slice none 0 0,.map none],true⟩,qa4 ai 3 (.agg #[.string ByteArray.empty,.slice none 0 0,.map none]) ((lst (T.at_ 2)).length) (ae + 1),⟨ai,ae * 3,[.string (bs (ab.at_ 0).S),.slice none 0 0,.map none],true⟩,qa4 ag 39 (.agg #[.int .i32 0,.int .i32 0,.int .i32 0,.int .u8 0,.int .u8 0,.int .u8 0,.int .u8 0,.int .u8 0,.int .u8 0,.int .u8 0,.int .u8 0,.int .u8 0,.int .u8 0,.int .u8 0,.int .u8 0,.int .u8 0,.int .u8 0,.int .u8 0,.int .u8 0,.int .u8 0,.int .u8 0,.int .u8 0,.int .u8 0,.int .u8 0,.int .u8 0,.int .u8 0,.int .u8 0,.int .u8 0,.int .u8 0,.int .u8 0,.int .u8 0,.int .u8 0,.int .u8 0,.int .u8 0,.int .u8 0,.int .i32 0,.int .i64 0,.bool false,.map none]) ((lst (ab.at_ 1)).length) (ah + 1),⟨ag,ah * 39,[.int .i32 (IntKind.i32.wrap (aa.at_ 0).N),.int .i32 (IntKind.i32.wrap (aa.at_ 1).N),.int .i32 (IntKind.i32.wrap (aa.at_ 2).N),qaa (ac.o.getD 0 0),qaa (ac.o.getD 1 0),qaa (ac.o.getD 2 0),qaa (ac.o.getD 3 0),qaa (ac.o.getD 4 0),qaa (ac.o.getD 5 0),qaa (ac.o.getD 6 0),qaa (ac.o.getD 7 0),qaa (ac.o.getD 8 0),qaa (ac.o.getD 9 0),qaa (ac.o.getD 10 0),qaa (ac.o.getD 11 0),qaa (ac.o.getD 12 0),qaa (ac.o.getD 13 0),qaa (ac.o.getD 14 0),qaa (ac.o.getD 15 0),.int .u8 0,.int .u8 0,.int .u8 0,.int .u8 0,.int .u8 0,.int .u8 0,.int .u8 0,.int .u8 0,.int .u8 0,.int .u8 0,.int .u8 0,.int .u8 0,.int .u8 0,.int .u8 0,.int .u8 0,.int .u8 0,.int .i32 0,.int .i64 0,.bool false,.map none],true⟩] [(2,.v (.bool false)),(7,.p 0 0),(8,.v (.int .i16 v)),(9,.v (.bool (decide (v ≥ 0)))),(10,.p 1 0),(14,.v (.slice (some ⟨ai,0,none⟩) ((lst (T.at_ 2)).length) al)),(15,.v (.int .i32 (((lst (T.at_ 2)).length:Nat):Int))),(16,.v (.int .i32 ((ae:Nat):Int))),(18,.p 3 0),(21,.v (.slice (some ⟨ag,0,none⟩) ((lst (ab.at_ 1)).length) ak)),(22,.v (.int .i32 (((lst (ab.at_ 1)).length:Nat):Int))),(23,.v (.int .i32 ((ah:Nat):Int))),(25,.p 5 0)] P' bt a_ w_) ?_ ?_
       ·
        refine wp_seq ?_
        refine qbz [(2,.v (.bool false)),(7,.p 0 0),(8,.v (.int .i16 v)),(9,.v (.bool (decide (v ≥ 0)))),(10,.p 1 0),(14,.v (.slice (some ⟨ai,0,none⟩) ((lst (T.at_ 2)).length) al)),(15,.v (.int .i32 (((lst (T.at_ 2)).length:Nat):Int))),(16,.v (.int .i32 ((ae:Nat):Int))),(18,.p 3 0),(21,.v (.slice (some ⟨ag,0,none⟩) ((lst (ab.at_ 1)).length) ak)),(22,.v (.int .i32 (((lst (ab.at_ 1)).length:Nat):Int))),(23,.v (.int .i32 ((ah:Nat):Int))),(25,.p 5 0),(150,.v (.bool (decide (v ≥ 1))))] db fun _ aA=>qac ?_
        clear db
        refine qaz aA.env_ (b:=decide (v ≥ 1)) kz (fun aB=>?_) (fun aB=>?_)
        ·
         have dc:=aA.cast (t:=(qah (aa.at_ 3).S) ++ bt) (by rw [if_pos aB])
         clear aA
         refine wp_seq ?_
         refine qap [0,1,2] kz ?_
         refine qaj (qfK (d:=151) dc (qk0 (aa.at_ 3).S _) Tryz.call168 fun _ _ de=>?_)
         clear dc
         refine qaj (qhl (d:=29) [.int .u8 0,.int .u8 0,.int .u8 0,.int .u8 0,.int .u8 0,.int .u8 0,.int .u8 0,.int .u8 0,.int .u8 0,.int .u8 0,.int .u8 0,.int .u8 0,.int .u8 0,.int .u8 0,.int .u8 0,.int .u8 0] de fun eN _ _ hb_b221 dg=>?_)
         clear de
         have dh:=(dg.tbEq (tb':=[⟨bv,0,[.int .i16 v,.pointer am,.int .i32 ao.n,.slice none 0 0,.map none],true⟩,qa4 ai 3 (.agg #[.string ByteArray.empty,.slice none 0 0,.map none]) ((lst (T.at_ 2)).length) (ae + 1),⟨ai,ae * 3,[.string (bs (ab.at_ 0).S),.slice none 0 0,.map none],true⟩,qa4 ag 39 (.agg #[.int .i32 0,.int .i32 0,.int .i32 0,.int .u8 0,.int .u8 0,.int .u8 0,.int .u8 0,.int .u8 0,.int .u8 0,.int .u8 0,.int .u8 0,.int .u8 0,.int .u8 0,.int .u8 0,.int .u8 0,.int .u8 0,.int .u8 0,.int .u8 0,.int .u8 0,.int .u8 0,.int .u8 0,.int .u8 0,.int .u8 0,.int .u8 0,.int .u8 0,.int .u8 0,.int .u8 0,.int .u8 0,.int .u8 0,.int .u8 0,.int .u8 0,.int .u8 0,.int .u8 0,.int .u8 0,.int .u8 0,.int .i32 0,.int .i64 0,.bool false,.map none]) ((lst (ab.at_ 1)).length) (ah + 1),⟨ag,ah * 39,[.int .i32 (IntKind.i32.wrap (aa.at_ 0).N),.int .i32 (IntKind.i32.wrap (aa.at_ 1).N),.int .i32 (IntKind.i32.wrap (aa.at_ 2).N),.int .u8 0,.int .u8 0,.int .u8 0,.int .u8 0,.int .u8 0,.int .u8 0,.int .u8 0,.int .u8 0,.int .u8 0,.int .u8 0,.int .u8 0,.int .u8 0,.int .u8 0,.int .u8 0,.int .u8 0,.int .u8 0,.int .u8 0,.int .u8 0,.int .u8 0,.int .u8 0,.int .u8 0,.int .u8 0,.int .u8 0,.int .u8 0,.int .u8 0,.int .u8 0,.int .u8 0,.int .u8 0,.int .u8 0,.int .u8 0,.int .u8 0,.int .u8 0,.int .i32 0,.int .i64 0,.bool false,.map none],true⟩,⟨eN,0,[.int .u8 0,.int .u8 0,.int .u8 0,.int .u8 0,.int .u8 0,.int .u8 0,.int .u8 0,.int .u8 0,.int .u8 0,.int .u8 0,.int .u8 0,.int .u8 0,.int .u8 0,.int .u8 0,.int .u8 0,.int .u8 0],true⟩]) rfl).pk (env':=[(2,.v (.bool false)),(7,.p 0 0),(8,.v (.int .i16 v)),(9,.v (.bool (decide (v ≥ 0)))),(10,.p 1 0),(14,.v (.slice (some ⟨ai,0,none⟩) ((lst (T.at_ 2)).length) al)),(15,.v (.int .i32 (((lst (T.at_ 2)).length:Nat):Int))),(16,.v (.int .i32 ((ae:Nat):Int))),(18,.p 3 0),(21,.v (.slice (some ⟨ag,0,none⟩) ((lst (ab.at_ 1)).length) ak)),(22,.v (.int .i32 (((lst (ab.at_ 1)).length:Nat):Int))),(23,.v (.int .i32 ((ah:Nat):Int))),(25,.p 5 0),(150,.v (.bool (decide (v ≥ 1)))),(151,.v (.agg #[qaa ((qah (aa.at_ 3).S).getD 0 0),qaa ((qah (aa.at_ 3).S).getD 1 0),qaa ((qah (aa.at_ 3).S).getD 2 0),qaa ((qah (aa.at_ 3).S).getD 3 0),qaa ((qah (aa.at_ 3).S).getD 4 0),qaa ((qah (aa.at_ 3).S).getD 5 0),qaa ((qah (aa.at_ 3).S).getD 6 0),qaa ((qah (aa.at_ 3).S).getD 7 0),qaa ((qah (aa.at_ 3).S).getD 8 0),qaa ((qah (aa.at_ 3).S).getD 9 0),qaa ((qah (aa.at_ 3).S).getD 10 0),qaa ((qah (aa.at_ 3).S).getD 11 0),qaa ((qah (aa.at_ 3).S).getD 12 0),qaa ((qah (aa.at_ 3).S).getD 13 0),qaa ((qah (aa.at_ 3).S).getD 14 0),qaa ((qah (aa.at_ 3).S).getD 15 0)])),(29,.p 6 0)])
         clear dg
         refine qaj (qd2 [⟨bv,0,[.int .i16 v,.pointer am,.int .i32 ao.n,.slice none 0 0,.map none],true⟩,qa4 ai 3 (.agg #[.string ByteArray.empty,.slice none 0 0,.map none]) ((lst (T.at_ 2)).length) (ae + 1),⟨ai,ae * 3,[.string (bs (ab.at_ 0).S),.slice none 0 0,.map none],true⟩,qa4 ag 39 (.agg #[.int .i32 0,.int .i32 0,.int .i32 0,.int .u8 0,.int .u8 0,.int .u8 0,.int .u8 0,.int .u8 0,.int .u8 0,.int .u8 0,.int .u8 0,.int .u8 0,.int .u8 0,.int .u8 0,.int .u8 0,.int .u8 0,.int .u8 0,.int .u8 0,.int .u8 0,.int .u8 0,.int .u8 0,.int .u8 0,.int .u8 0,.int .u8 0,.int .u8 0,.int .u8 0,.int .u8 0,.int .u8 0,.int .u8 0,.int .u8 0,.int .u8 0,.int .u8 0,.int .u8 0,.int .u8 0,.int .u8 0,.int .i32 0,.int .i64 0,.bool false,.map none]) ((lst (ab.at_ 1)).length) (ah + 1),⟨ag,ah * 39,[.int .i32 (IntKind.i32.wrap (aa.at_ 0).N),.int .i32 (IntKind.i32.wrap (aa.at_ 1).N),.int .i32 (IntKind.i32.wrap (aa.at_ 2).N),.int .u8 0,.int .u8 0,.int .u8 0,.int .u8 0,.int .u8 0,.int .u8 0,.int .u8 0,.int .u8 0,.int .u8 0,.int .u8 0,.int .u8 0,.int .u8 0,.int .u8 0,.int .u8 0,.int .u8 0,.int .u8 0,.int .u8 0,.int .u8 0,.int .u8 0,.int .u8 0,.int .u8 0,.int .u8 0,.int .u8 0,.int .u8 0,.int .u8 0,.int .u8 0,.int .u8 0,.int .u8 0,.int .u8 0,.int .u8 0,.int .u8 0,.int .u8 0,.int .i32 0,.int .i64 0,.bool false,.map none],true⟩,⟨eN,0,[qaa ((qah (aa.at_ 3).S).getD 0 0),qaa ((qah (aa.at_ 3).S).getD 1 0),qaa ((qah (aa.at_ 3).S).getD 2 0),qaa ((qah (aa.at_ 3).S).getD 3 0),qaa ((qah (aa.at_ 3).S).getD 4 0),qaa ((qah (aa.at_ 3).S).getD 5 0),qaa ((qah (aa.at_ 3).S).getD 6 0),qaa ((qah (aa.at_ 3).S).getD 7 0),qaa ((qah (aa.at_ 3).S).getD 8 0),qaa ((qah (aa.at_ 3).S).getD 9 0),qaa ((qah (aa.at_ 3).S).getD 10 0),qaa ((qah (aa.at_ 3).S).getD 11 0),qaa ((qah (aa.at_ 3).S).getD 12 0),qaa ((qah (aa.at_ 3).S).getD 13 0),qaa ((qah (aa.at_ 3).S).getD 14 0),qaa ((qah (aa.at_ 3).S).getD 15 0)],true⟩] 5 dh fun _ di=>?_)
         clear dh
         refine qag ?_
         have dj:=di.pk (env':=[(2,.v (.bool false)),(7,.p 0 0),(8,.v (.int .i16 v)),(9,.v (.bool (decide (v ≥ 0)))),(10,.p 1 0),(14,.v (.slice (some ⟨ai,0,none⟩) ((lst (T.at_ 2)).length) al)),(15,.v (.int .i32 (((lst (T.at_ 2)).length:Nat):Int))),(16,.v (.int .i32 ((ae:Nat):Int))),(18,.p 3 0),(21,.v (.slice (some ⟨ag,0,none⟩) ((lst (ab.at_ 1)).length) ak)),(22,.v (.int .i32 (((lst (ab.at_ 1)).length:Nat):Int))),(23,.v (.int .i32 ((ah:Nat):Int))),(25,.p 5 0),(29,.p 6 0)])
         clear di
         refine qac ?_
         refine qcS [⟨bv,0,[.int .i16 v,.pointer am,.int .i32 ao.n,.slice none 0 0,.map none],true⟩,qa4 ai 3 (.agg #[.string ByteArray.empty,.slice none 0 0,.map none]) ((lst (T.at_ 2)).length) (ae + 1),⟨ai,ae * 3,[.string (bs (ab.at_ 0).S),.slice none 0 0,.map none],true⟩,qa4 ag 39 (.agg #[.int .i32 0,.int .i32 0,.int .i32 0,.int .u8 0,.int .u8 0,.int .u8 0,.int .u8 0,.int .u8 0,.int .u8 0,.int .u8 0,.int .u8 0,.int .u8 0,.int .u8 0,.int .u8 0,.int .u8 0,.int .u8 0,.int .u8 0,.int .u8 0,.int .u8 0,.int .u8 0,.int .u8 0,.int .u8 0,.int .u8 0,.int .u8 0,.int .u8 0,.int .u8 0,.int .u8 0,.int .u8 0,.int .u8 0,.int .u8 0,.int .u8 0,.int .u8 0,.int .u8 0,.int .u8 0,.int .u8 0,.int .i32 0,.int .i64 0,.bool false,.map none]) ((lst (ab.at_ 1)).length) (ah + 1),⟨ag,ah * 39,[.int .i32 (IntKind.i32.wrap (aa.at_ 0).N),.int .i32 (IntKind.i32.wrap (aa.at_ 1).N),.int .i32 (IntKind.i32.wrap (aa.at_ 2).N),qaa ((qah (aa.at_ 3).S).getD 0 0),qaa ((qah (aa.at_ 3).S).getD 1 0),qaa ((qah (aa.at_ 3).S).getD 2 0),qaa ((qah (aa.at_ 3).S).getD 3 0),qaa ((qah (aa.at_ 3).S).getD 4 0),qaa ((qah (aa.at_ 3).S).getD 5 0),qaa ((qah (aa.at_ 3).S).getD 6 0),qaa ((qah (aa.at_ 3).S).getD 7 0),qaa ((qah (aa.at_ 3).S).getD 8 0),qaa ((qah (aa.at_ 3).S).getD 9 0),qaa ((qah (aa.at_ 3).S).getD 10 0),qaa ((qah (aa.at_ 3).S).getD 11 0),qaa ((qah (aa.at_ 3).S).getD 12 0),qaa ((qah (aa.at_ 3).S).getD 13 0),qaa ((qah (aa.at_ 3).S).getD 14 0),qaa ((qah (aa.at_ 3).S).getD 15 0),.int .u8 0,.int .u8 0,.int .u8 0,.int .u8 0,.int .u8 0,.int .u8 0,.int .u8 0,.int .u8 0,.int .u8 0,.int .u8 0,.int .u8 0,.int .u8 0,.int .u8 0,.int .u8 0,.int .u8 0,.int .u8 0,.int .i32 0,.int .i64 0,.bool false,.map none],true⟩,⟨eN,0,[qaa ((qah (aa.at_ 3).S).getD 0 0),qaa ((qah (aa.at_ 3).S).getD 1 0),qaa ((qah (aa.at_ 3).S).getD 2 0),qaa ((qah (aa.at_ 3).S).getD 3 0),qaa ((qah (aa.at_ 3).S).getD 4 0),qaa ((qah (aa.at_ 3).S).getD 5 0),qaa ((qah (aa.at_ 3).S).getD 6 0),qaa ((qah (aa.at_ 3).S).getD 7 0),qaa ((qah (aa.at_ 3).S).getD 8 0),qaa ((qah (aa.at_ 3).S).getD 9 0),qaa ((qah (aa.at_ 3).S).getD 10 0),qaa ((qah (aa.at_ 3).S).getD 11 0),qaa ((qah (aa.at_ 3).S).getD 12 0),qaa ((qah (aa.at_ 3).S).getD 13 0),qaa ((qah (aa.at_ 3).S).getD 14 0),qaa ((qah (aa.at_ 3).S).getD 15 0)],true⟩] 4 [(2,.v (.bool false)),(7,.p 0 0),(8,.v (.int .i16 v)),(9,.v (.bool (decide (v ≥ 0)))),(10,.p 1 0),(14,.v (.slice (some ⟨ai,0,none⟩) ((lst (T.at_ 2)).length) al)),(15,.v (.int .i32 (((lst (T.at_ 2)).length:Nat):Int))),(16,.v (.int .i32 ((ae:Nat):Int))),(18,.p 3 0),(21,.v (.slice (some ⟨ag,0,none⟩) ((lst (ab.at_ 1)).length) ak)),(22,.v (.int .i32 (((lst (ab.at_ 1)).length:Nat):Int))),(23,.v (.int .i32 ((ah:Nat):Int))),(25,.p 5 0)] dj fun _ _ dl=>?_
         clear dj
         have fM:=RS.dropT (tb:=[⟨bv,0,[.int .i16 v,.pointer am,.int .i32 ao.n,.slice none 0 0,.map none],true⟩,qa4 ai 3 (.agg #[.string ByteArray.empty,.slice none 0 0,.map none]) ((lst (T.at_ 2)).length) (ae + 1),⟨ai,ae * 3,[.string (bs (ab.at_ 0).S),.slice none 0 0,.map none],true⟩,qa4 ag 39 (.agg #[.int .i32 0,.int .i32 0,.int .i32 0,.int .u8 0,.int .u8 0,.int .u8 0,.int .u8 0,.int .u8 0,.int .u8 0,.int .u8 0,.int .u8 0,.int .u8 0,.int .u8 0,.int .u8 0,.int .u8 0,.int .u8 0,.int .u8 0,.int .u8 0,.int .u8 0,.int .u8 0,.int .u8 0,.int .u8 0,.int .u8 0,.int .u8 0,.int .u8 0,.int .u8 0,.int .u8 0,.int .u8 0,.int .u8 0,.int .u8 0,.int .u8 0,.int .u8 0,.int .u8 0,.int .u8 0,.int .u8 0,.int .i32 0,.int .i64 0,.bool false,.map none]) ((lst (ab.at_ 1)).length) (ah + 1),⟨ag,ah * 39,[.int .i32 (IntKind.i32.wrap (aa.at_ 0).N),.int .i32 (IntKind.i32.wrap (aa.at_ 1).N),.int .i32 (IntKind.i32.wrap (aa.at_ 2).N),qaa ((qah (aa.at_ 3).S).getD 0 0),qaa ((qah (aa.at_ 3).S).getD 1 0),qaa ((qah (aa.at_ 3).S).getD 2 0),qaa ((qah (aa.at_ 3).S).getD 3 0),qaa ((qah (aa.at_ 3).S).getD 4 0),qaa ((qah (aa.at_ 3).S).getD 5 0),qaa ((qah (aa.at_ 3).S).getD 6 0),qaa ((qah (aa.at_ 3).S).getD 7 0),qaa ((qah (aa.at_ 3).S).getD 8 0),qaa ((qah (aa.at_ 3).S).getD 9 0),qaa ((qah (aa.at_ 3).S).getD 10 0),qaa ((qah (aa.at_ 3).S).getD 11 0),qaa ((qah (aa.at_ 3).S).getD 12 0),qaa ((qah (aa.at_ 3).S).getD 13 0),qaa ((qah (aa.at_ 3).S).getD 14 0),qaa ((qah (aa.at_ 3).S).getD 15 0),.int .u8 0,.int .u8 0,.int .u8 0,.int .u8 0,.int .u8 0,.int .u8 0,.int .u8 0,.int .u8 0,.int .u8 0,.int .u8 0,.int .u8 0,.int .u8 0,.int .u8 0,.int .u8 0,.int .u8 0,.int .u8 0,.int .i32 0,.int .i64 0,.bool false,.map none],true⟩]) dl hb_b221 kz
         clear dl
         refine qac ?_
         exact ⟨dvO none (qah (aa.at_ 3).S) 0,_,fun w F h_=>⟨h_,qdc _,⟨fun _=>rfl,(fun e_=>by rw [aB] at e_; cases e_)⟩⟩,fM.pk (env':=[(2,.v (.bool false)),(7,.p 0 0),(8,.v (.int .i16 v)),(9,.v (.bool (decide (v ≥ 0)))),(10,.p 1 0),(14,.v (.slice (some ⟨ai,0,none⟩) ((lst (T.at_ 2)).length) al)),(15,.v (.int .i32 (((lst (T.at_ 2)).length:Nat):Int))),(16,.v (.int .i32 ((ae:Nat):Int))),(18,.p 3 0),(21,.v (.slice (some ⟨ag,0,none⟩) ((lst (ab.at_ 1)).length) ak)),(22,.v (.int .i32 (((lst (ab.at_ 1)).length:Nat):Int))),(23,.v (.int .i32 ((ah:Nat):Int))),(25,.p 5 0)])⟩
        have dp:=aA.cast (t:=[] ++ bt) (by rw [if_neg (by rw [aB]; decide)])
        clear aA
        have fN:=dp.cast (t:=bt) rfl
        clear dp
        refine wp_skip (qac ?_)
        exact ⟨dvO none (List.replicate 16 0) 0,_,fun w F h_=>⟨h_,rfl,⟨(fun e_=>by rw [aB] at e_; cases e_),fun _=>rfl⟩⟩,fN.pk (env':=[(2,.v (.bool false)),(7,.p 0 0),(8,.v (.int .i16 v)),(9,.v (.bool (decide (v ≥ 0)))),(10,.p 1 0),(14,.v (.slice (some ⟨ai,0,none⟩) ((lst (T.at_ 2)).length) al)),(15,.v (.int .i32 (((lst (T.at_ 2)).length:Nat):Int))),(16,.v (.int .i32 ((ae:Nat):Int))),(18,.p 3 0),(21,.v (.slice (some ⟨ag,0,none⟩) ((lst (ab.at_ 1)).length) ak)),(22,.v (.int .i32 (((lst (ab.at_ 1)).length:Nat):Int))),(23,.v (.int .i32 ((ah:Nat):Int))),(25,.p 5 0)])⟩
       rintro _ _ ⟨ac,gC,aR,dq⟩
       refine qac ?_
       refine wp_seq ?_
       have dr:=dq.cast cI
       clear dq
       refine qcE (Mid:=fun a_ w_=>∃ (af:DV) (P':qb2),(∀ w F,P' w F → gC w F ∧ (af.o.length = 16) ∧ ((decide (v ≥ 1)) = true → af.o = qah (aa.at_ 4).S) ∧ ((decide (v ≥ 1)) = false → af.o = List.replicate 16 0)) ∧ RS w (fun b o=>b = bv ∧ o < 5) F 206 aU [⟨bv,0,[.int .i16 v,.pointer am,.int .i32 ao.n,.slice none 0 0,.map none],true⟩,qa4 ai 3 (.agg #[.string ByteArray.empty,.slice none 0 0,.map none]) ((lst (T.at_ 2)).length) (ae + 1),⟨ai,ae * 3,[.string (bs (ab.at_ 0).S),.slice none 0 0,.map none],true⟩,qa4 ag 39 (.agg #[.int .i32 0,.int .i32 0,.int .i32 0,.int .u8 0,.int .u8 0,.int .u8 0,.int .u8 0,.int .u8 0,.int .u8 0,.int .u8 0,.int .u8 0,.int .u8 0,.int .u8 0,.int .u8 0,.int .u8 0,.int .u8 0,.int .u8 0,.int .u8 0,.int .u8 0,.int .u8 0,.int .u8 0,.int .u8 0,.int .u8 0,.int .u8 0,.int .u8 0,.int .u8 0,.int .u8 0,.int .u8 0,.int .u8 0,.int .u8 0,.int .u8 0,.int .u8 0,.int .u8 0,.int .u8 0,.int .u8 0,.int .i32 0,.int .i64 0,.bool false,.map none]) ((lst (ab.at_ 1)).length) (ah + 1),⟨ag,ah * 39,[.int .i32 (IntKind.i32.wrap (aa.at_ 0).N),.int .i32 (IntKind.i32.wrap (aa.at_ 1).N),.int .i32 (IntKind.i32.wrap (aa.at_ 2).N),qaa (ac.o.getD 0 0),qaa (ac.o.getD 1 0),qaa (ac.o.getD 2 0),qaa (ac.o.getD 3 0),qaa (ac.o.getD 4 0),qaa (ac.o.getD 5 0),qaa (ac.o.getD 6 0),qaa (ac.o.getD 7 0),qaa (ac.o.getD 8 0),qaa (ac.o.getD 9 0),qaa (ac.o.getD 10 0),qaa (ac.o.getD 11 0),qaa (ac.o.getD 12 0),qaa (ac.o.getD 13 0),qaa (ac.o.getD 14 0),qaa (ac.o.getD 15 0),qaa (af.o.getD 0 0),qaa (af.o.getD 1 0),qaa (af.o.getD 2 0),qaa (af.o.getD 3 0),qaa (af.o.getD 4 0),qaa (af.o.getD 5 0),qaa (af.o.getD 6 0),qaa (af.o.getD 7 0),qaa (af.o.getD 8 0),qaa (af.o.getD 9 0),qaa (af.o.getD 10 0),qaa (af.o.getD 11 0),qaa (af.o.getD 12 0),qaa (af.o.getD 13 0),qaa (af.o.getD 14 0),qaa (af.o.getD 15 0),.int .i32 0,.int .i64 0,.bool false,.map none],true⟩] [(2,.v (.bool false)),(7,.p 0 0),(8,.v (.int .i16 v)),(9,.v (.bool (decide (v ≥ 0)))),(10,.p 1 0),(14,.v (.slice (some ⟨ai,0,none⟩) ((lst (T.at_ 2)).length) al)),(15,.v (.int .i32 (((lst (T.at_ 2)).length:Nat):Int))),(16,.v (.int .i32 ((ae:Nat):Int))),(18,.p 3 0),(21,.v (.slice (some ⟨ag,0,none⟩) ((lst (ab.at_ 1)).length) ak)),(22,.v (.int .i32 (((lst (ab.at_ 1)).length:Nat):Int))),(23,.v (.int .i32 ((ah:Nat):Int))),(25,.p 5 0)] P' bq a_ w_) ?_ ?_
       ·
        refine wp_seq ?_
        refine qbz [(2,.v (.bool false)),(7,.p 0 0),(8,.v (.int .i16 v)),(9,.v (.bool (decide (v ≥ 0)))),(10,.p 1 0),(14,.v (.slice (some ⟨ai,0,none⟩) ((lst (T.at_ 2)).length) al)),(15,.v (.int .i32 (((lst (T.at_ 2)).length:Nat):Int))),(16,.v (.int .i32 ((ae:Nat):Int))),(18,.p 3 0),(21,.v (.slice (some ⟨ag,0,none⟩) ((lst (ab.at_ 1)).length) ak)),(22,.v (.int .i32 (((lst (ab.at_ 1)).length:Nat):Int))),(23,.v (.int .i32 ((ah:Nat):Int))),(25,.p 5 0),(157,.v (.bool (decide (v ≥ 1))))] dr fun _ aC=>qac ?_
        clear dr
        refine qaz aC.env_ (b:=decide (v ≥ 1)) kz (fun aD=>?_) (fun aD=>?_)
        ·
         have dt:=aC.cast (t:=(qah (aa.at_ 4).S) ++ bq) (by rw [if_pos aD])
         clear aC
         refine wp_seq ?_
         refine qap [0,1,2] kz ?_
         refine qaj (qfK (d:=158) dt (qk0 (aa.at_ 4).S _) Tryz.call168 fun _ _ du=>?_)
         clear dt
         refine qaj (qhl (d:=30) [.int .u8 0,.int .u8 0,.int .u8 0,.int .u8 0,.int .u8 0,.int .u8 0,.int .u8 0,.int .u8 0,.int .u8 0,.int .u8 0,.int .u8 0,.int .u8 0,.int .u8 0,.int .u8 0,.int .u8 0,.int .u8 0] du fun eO _ _ hb_b240 dv=>?_)
         clear du
         have dw:=(dv.tbEq (tb':=[⟨bv,0,[.int .i16 v,.pointer am,.int .i32 ao.n,.slice none 0 0,.map none],true⟩,qa4 ai 3 (.agg #[.string ByteArray.empty,.slice none 0 0,.map none]) ((lst (T.at_ 2)).length) (ae + 1),⟨ai,ae * 3,[.string (bs (ab.at_ 0).S),.slice none 0 0,.map none],true⟩,qa4 ag 39 (.agg #[.int .i32 0,.int .i32 0,.int .i32 0,.int .u8 0,.int .u8 0,.int .u8 0,.int .u8 0,.int .u8 0,.int .u8 0,.int .u8 0,.int .u8 0,.int .u8 0,.int .u8 0,.int .u8 0,.int .u8 0,.int .u8 0,.int .u8 0,.int .u8 0,.int .u8 0,.int .u8 0,.int .u8 0,.int .u8 0,.int .u8 0,.int .u8 0,.int .u8 0,.int .u8 0,.int .u8 0,.int .u8 0,.int .u8 0,.int .u8 0,.int .u8 0,.int .u8 0,.int .u8 0,.int .u8 0,.int .u8 0,.int .i32 0,.int .i64 0,.bool false,.map none]) ((lst (ab.at_ 1)).length) (ah + 1),⟨ag,ah * 39,[.int .i32 (IntKind.i32.wrap (aa.at_ 0).N),.int .i32 (IntKind.i32.wrap (aa.at_ 1).N),.int .i32 (IntKind.i32.wrap (aa.at_ 2).N),qaa (ac.o.getD 0 0),qaa (ac.o.getD 1 0),qaa (ac.o.getD 2 0),qaa (ac.o.getD 3 0),qaa (ac.o.getD 4 0),qaa (ac.o.getD 5 0),qaa (ac.o.getD 6 0),qaa (ac.o.getD 7 0),qaa (ac.o.getD 8 0),qaa (ac.o.getD 9 0),qaa (ac.o.getD 10 0),qaa (ac.o.getD 11 0),qaa (ac.o.getD 12 0),qaa (ac.o.getD 13 0),qaa (ac.o.getD 14 0),qaa (ac.o.getD 15 0),.int .u8 0,.int .u8 0,.int .u8 0,.int .u8 0,.int .u8 0,.int .u8 0,.int .u8 0,.int .u8 0,.int .u8 0,.int .u8 0,.int .u8 0,.int .u8 0,.int .u8 0,.int .u8 0,.int .u8 0,.int .u8 0,.int .i32 0,.int .i64 0,.bool false,.map none],true⟩,⟨eO,0,[.int .u8 0,.int .u8 0,.int .u8 0,.int .u8 0,.int .u8 0,.int .u8 0,.int .u8 0,.int .u8 0,.int .u8 0,.int .u8 0,.int .u8 0,.int .u8 0,.int .u8 0,.int .u8 0,.int .u8 0,.int .u8 0],true⟩]) rfl).pk (env':=[(2,.v (.bool false)),(7,.p 0 0),(8,.v (.int .i16 v)),(9,.v (.bool (decide (v ≥ 0)))),(10,.p 1 0),(14,.v (.slice (some ⟨ai,0,none⟩) ((lst (T.at_ 2)).length) al)),(15,.v (.int .i32 (((lst (T.at_ 2)).length:Nat):Int))),(16,.v (.int .i32 ((ae:Nat):Int))),(18,.p 3 0),(21,.v (.slice (some ⟨ag,0,none⟩) ((lst (ab.at_ 1)).length) ak)),(22,.v (.int .i32 (((lst (ab.at_ 1)).length:Nat):Int))),(23,.v (.int .i32 ((ah:Nat):Int))),(25,.p 5 0),(157,.v (.bool (decide (v ≥ 1)))),(158,.v (.agg #[qaa ((qah (aa.at_ 4).S).getD 0 0),qaa ((qah (aa.at_ 4).S).getD 1 0),qaa ((qah (aa.at_ 4).S).getD 2 0),qaa ((qah (aa.at_ 4).S).getD 3 0),qaa ((qah (aa.at_ 4).S).getD 4 0),qaa ((qah (aa.at_ 4).S).getD 5 0),qaa ((qah (aa.at_ 4).S).getD 6 0),qaa ((qah (aa.at_ 4).S).getD 7 0),qaa ((qah (aa.at_ 4).S).getD 8 0),qaa ((qah (aa.at_ 4).S).getD 9 0),qaa ((qah (aa.at_ 4).S).getD 10 0),qaa ((qah (aa.at_ 4).S).getD 11 0),qaa ((qah (aa.at_ 4).S).getD 12 0),qaa ((qah (aa.at_ 4).S).getD 13 0),qaa ((qah (aa.at_ 4).S).getD 14 0),qaa ((qah (aa.at_ 4).S).getD 15 0)])),(30,.p 6 0)])
         clear dv
         refine qaj (qd2 [⟨bv,0,[.int .i16 v,.pointer am,.int .i32 ao.n,.slice none 0 0,.map none],true⟩,qa4 ai 3 (.agg #[.string ByteArray.empty,.slice none 0 0,.map none]) ((lst (T.at_ 2)).length) (ae + 1),⟨ai,ae * 3,[.string (bs (ab.at_ 0).S),.slice none 0 0,.map none],true⟩,qa4 ag 39 (.agg #[.int .i32 0,.int .i32 0,.int .i32 0,.int .u8 0,.int .u8 0,.int .u8 0,.int .u8 0,.int .u8 0,.int .u8 0,.int .u8 0,.int .u8 0,.int .u8 0,.int .u8 0,.int .u8 0,.int .u8 0,.int .u8 0,.int .u8 0,.int .u8 0,.int .u8 0,.int .u8 0,.int .u8 0,.int .u8 0,.int .u8 0,.int .u8 0,.int .u8 0,.int .u8 0,.int .u8 0,.int .u8 0,.int .u8 0,.int .u8 0,.int .u8 0,.int .u8 0,.int .u8 0,.int .u8 0,.int .u8 0,.int .i32 0,.int .i64 0,.bool false,.map none]) ((lst (ab.at_ 1)).length) (ah + 1),⟨ag,ah * 39,[.int .i32 (IntKind.i32.wrap (aa.at_ 0).N),.int .i32 (IntKind.i32.wrap (aa.at_ 1).N),.int .i32 (IntKind.i32.wrap (aa.at_ 2).N),qaa (ac.o.getD 0 0),qaa (ac.o.getD 1 0),qaa (ac.o.getD 2 0),qaa (ac.o.getD 3 0),qaa (ac.o.getD 4 0),qaa (ac.o.getD 5 0),qaa (ac.o.getD 6 0),qaa (ac.o.getD 7 0),qaa (ac.o.getD 8 0),qaa (ac.o.getD 9 0),qaa (ac.o.getD 10 0),qaa (ac.o.getD 11 0),qaa (ac.o.getD 12 0),qaa (ac.o.getD 13 0),qaa (ac.o.getD 14 0),qaa (ac.o.getD 15 0),.int .u8 0,.int .u8 0,.int .u8 0,.int .u8 0,.int .u8 0,.int .u8 0,.int .u8 0,.int .u8 0,.int .u8 0,.int .u8 0,.int .u8 0,.int .u8 0,.int .u8 0,.int .u8 0,.int .u8 0,.int .u8 0,.int .i32 0,.int .i64 0,.bool false,.map none],true⟩,⟨eO,0,[qaa ((qah (aa.at_ 4).S).getD 0 0),qaa ((qah (aa.at_ 4).S).getD 1 0),qaa ((qah (aa.at_ 4).S).getD 2 0),qaa ((qah (aa.at_ 4).S).getD 3 0),qaa ((qah (aa.at_ 4).S).getD 4 0),qaa ((qah (aa.at_ 4).S).getD 5 0),qaa ((qah (aa.at_ 4).S).getD 6 0),qaa ((qah (aa.at_ 4).S).getD 7 0),qaa ((qah (aa.at_ 4).S).getD 8 0),qaa ((qah (aa.at_ 4).S).getD 9 0),qaa ((qah (aa.at_ 4).S).getD 10 0),qaa ((qah (aa.at_ 4).S).getD 11 0),qaa ((qah (aa.at_ 4).S).getD 12 0),qaa ((qah (aa.at_ 4).S).getD 13 0),qaa ((qah (aa.at_ 4).S).getD 14 0),qaa ((qah (aa.at_ 4).S).getD 15 0)],true⟩] 5 dw fun _ dx=>?_)
         clear dw
         refine qag ?_
         have dy:=dx.pk (env':=[(2,.v (.bool false)),(7,.p 0 0),(8,.v (.int .i16 v)),(9,.v (.bool (decide (v ≥ 0)))),(10,.p 1 0),(14,.v (.slice (some ⟨ai,0,none⟩) ((lst (T.at_ 2)).length) al)),(15,.v (.int .i32 (((lst (T.at_ 2)).length:Nat):Int))),(16,.v (.int .i32 ((ae:Nat):Int))),(18,.p 3 0),(21,.v (.slice (some ⟨ag,0,none⟩) ((lst (ab.at_ 1)).length) ak)),(22,.v (.int .i32 (((lst (ab.at_ 1)).length:Nat):Int))),(23,.v (.int .i32 ((ah:Nat):Int))),(25,.p 5 0),(30,.p 6 0)])
         clear dx
         refine qac ?_
         refine qcS [⟨bv,0,[.int .i16 v,.pointer am,.int .i32 ao.n,.slice none 0 0,.map none],true⟩,qa4 ai 3 (.agg #[.string ByteArray.empty,.slice none 0 0,.map none]) ((lst (T.at_ 2)).length) (ae + 1),⟨ai,ae * 3,[.string (bs (ab.at_ 0).S),.slice none 0 0,.map none],true⟩,qa4 ag 39 (.agg #[.int .i32 0,.int .i32 0,.int .i32 0,.int .u8 0,.int .u8 0,.int .u8 0,.int .u8 0,.int .u8 0,.int .u8 0,.int .u8 0,.int .u8 0,.int .u8 0,.int .u8 0,.int .u8 0,.int .u8 0,.int .u8 0,.int .u8 0,.int .u8 0,.int .u8 0,.int .u8 0,.int .u8 0,.int .u8 0,.int .u8 0,.int .u8 0,.int .u8 0,.int .u8 0,.int .u8 0,.int .u8 0,.int .u8 0,.int .u8 0,.int .u8 0,.int .u8 0,.int .u8 0,.int .u8 0,.int .u8 0,.int .i32 0,.int .i64 0,.bool false,.map none]) ((lst (ab.at_ 1)).length) (ah + 1),⟨ag,ah * 39,[.int .i32 (IntKind.i32.wrap (aa.at_ 0).N),.int .i32 (IntKind.i32.wrap (aa.at_ 1).N),.int .i32 (IntKind.i32.wrap (aa.at_ 2).N),qaa (ac.o.getD 0 0),qaa (ac.o.getD 1 0),qaa (ac.o.getD 2 0),qaa (ac.o.getD 3 0),qaa (ac.o.getD 4 0),qaa (ac.o.getD 5 0),qaa (ac.o.getD 6 0),qaa (ac.o.getD 7 0),qaa (ac.o.getD 8 0),qaa (ac.o.getD 9 0),qaa (ac.o.getD 10 0),qaa (ac.o.getD 11 0),qaa (ac.o.getD 12 0),qaa (ac.o.getD 13 0),qaa (ac.o.getD 14 0),qaa (ac.o.getD 15 0),qaa ((qah (aa.at_ 4).S).getD 0 0),qaa ((qah (aa.at_ 4).S).getD 1 0),qaa ((qah (aa.at_ 4).S).getD 2 0),qaa ((qah (aa.at_ 4).S).getD 3 0),qaa ((qah (aa.at_ 4).S).getD 4 0),qaa ((qah (aa.at_ 4).S).getD 5 0),qaa ((qah (aa.at_ 4).S).getD 6 0),qaa ((qah (aa.at_ 4).S).getD 7 0),qaa ((qah (aa.at_ 4).S).getD 8 0),qaa ((qah (aa.at_ 4).S).getD 9 0),qaa ((qah (aa.at_ 4).S).getD 10 0),qaa ((qah (aa.at_ 4).S).getD 11 0),qaa ((qah (aa.at_ 4).S).getD 12 0),qaa ((qah (aa.at_ 4).S).getD 13 0),qaa ((qah (aa.at_ 4).S).getD 14 0),qaa ((qah (aa.at_ 4).S).getD 15 0),.int .i32 0,.int .i64 0,.bool false,.map none],true⟩,⟨eO,0,[qaa ((qah (aa.at_ 4).S).getD 0 0),qaa ((qah (aa.at_ 4).S).getD 1 0),qaa ((qah (aa.at_ 4).S).getD 2 0),qaa ((qah (aa.at_ 4).S).getD 3 0),qaa ((qah (aa.at_ 4).S).getD 4 0),qaa ((qah (aa.at_ 4).S).getD 5 0),qaa ((qah (aa.at_ 4).S).getD 6 0),qaa ((qah (aa.at_ 4).S).getD 7 0),qaa ((qah (aa.at_ 4).S).getD 8 0),qaa ((qah (aa.at_ 4).S).getD 9 0),qaa ((qah (aa.at_ 4).S).getD 10 0),qaa ((qah (aa.at_ 4).S).getD 11 0),qaa ((qah (aa.at_ 4).S).getD 12 0),qaa ((qah (aa.at_ 4).S).getD 13 0),qaa ((qah (aa.at_ 4).S).getD 14 0),qaa ((qah (aa.at_ 4).S).getD 15 0)],true⟩] 4 [(2,.v (.bool false)),(7,.p 0 0),(8,.v (.int .i16 v)),(9,.v (.bool (decide (v ≥ 0)))),(10,.p 1 0),(14,.v (.slice (some ⟨ai,0,none⟩) ((lst (T.at_ 2)).length) al)),(15,.v (.int .i32 (((lst (T.at_ 2)).length:Nat):Int))),(16,.v (.int .i32 ((ae:Nat):Int))),(18,.p 3 0),(21,.v (.slice (some ⟨ag,0,none⟩) ((lst (ab.at_ 1)).length) ak)),(22,.v (.int .i32 (((lst (ab.at_ 1)).length:Nat):Int))),(23,.v (.int .i32 ((ah:Nat):Int))),(25,.p 5 0)] dy fun _ _ dz=>?_
         clear dy
         have fO:=RS.dropT (tb:=[⟨bv,0,[.int .i16 v,.pointer am,.int .i32 ao.n,.slice none 0 0,.map none],true⟩,qa4 ai 3 (.agg #[.string ByteArray.empty,.slice none 0 0,.map none]) ((lst (T.at_ 2)).length) (ae + 1),⟨ai,ae * 3,[.string (bs (ab.at_ 0).S),.slice none 0 0,.map none],true⟩,qa4 ag 39 (.agg #[.int .i32 0,.int .i32 0,.int .i32 0,.int .u8 0,.int .u8 0,.int .u8 0,.int .u8 0,.int .u8 0,.int .u8 0,.int .u8 0,.int .u8 0,.int .u8 0,.int .u8 0,.int .u8 0,.int .u8 0,.int .u8 0,.int .u8 0,.int .u8 0,.int .u8 0,.int .u8 0,.int .u8 0,.int .u8 0,.int .u8 0,.int .u8 0,.int .u8 0,.int .u8 0,.int .u8 0,.int .u8 0,.int .u8 0,.int .u8 0,.int .u8 0,.int .u8 0,.int .u8 0,.int .u8 0,.int .u8 0,.int .i32 0,.int .i64 0,.bool false,.map none]) ((lst (ab.at_ 1)).length) (ah + 1),⟨ag,ah * 39,[.int .i32 (IntKind.i32.wrap (aa.at_ 0).N),.int .i32 (IntKind.i32.wrap (aa.at_ 1).N),.int .i32 (IntKind.i32.wrap (aa.at_ 2).N),qaa (ac.o.getD 0 0),qaa (ac.o.getD 1 0),qaa (ac.o.getD 2 0),qaa (ac.o.getD 3 0),qaa (ac.o.getD 4 0),qaa (ac.o.getD 5 0),qaa (ac.o.getD 6 0),qaa (ac.o.getD 7 0),qaa (ac.o.getD 8 0),qaa (ac.o.getD 9 0),qaa (ac.o.getD 10 0),qaa (ac.o.getD 11 0),qaa (ac.o.getD 12 0),qaa (ac.o.getD 13 0),qaa (ac.o.getD 14 0),qaa (ac.o.getD 15 0),qaa ((qah (aa.at_ 4).S).getD 0 0),qaa ((qah (aa.at_ 4).S).getD 1 0),qaa ((qah (aa.at_ 4).S).getD 2 0),qaa ((qah (aa.at_ 4).S).getD 3 0),qaa ((qah (aa.at_ 4).S).getD 4 0),qaa ((qah (aa.at_ 4).S).getD 5 0),qaa ((qah (aa.at_ 4).S).getD 6 0),qaa ((qah (aa.at_ 4).S).getD 7 0),qaa ((qah (aa.at_ 4).S).getD 8 0),qaa ((qah (aa.at_ 4).S).getD 9 0),qaa ((qah (aa.at_ 4).S).getD 10 0),qaa ((qah (aa.at_ 4).S).getD 11 0),qaa ((qah (aa.at_ 4).S).getD 12 0),qaa ((qah (aa.at_ 4).S).getD 13 0),qaa ((qah (aa.at_ 4).S).getD 14 0),qaa ((qah (aa.at_ 4).S).getD 15 0),.int .i32 0,.int .i64 0,.bool false,.map none],true⟩]) dz hb_b240 kz
         clear dz
         refine qac ?_
         exact ⟨dvO none (qah (aa.at_ 4).S) 0,_,fun w F h_=>⟨h_,qdc _,⟨fun _=>rfl,(fun e_=>by rw [aD] at e_; cases e_)⟩⟩,fO.pk (env':=[(2,.v (.bool false)),(7,.p 0 0),(8,.v (.int .i16 v)),(9,.v (.bool (decide (v ≥ 0)))),(10,.p 1 0),(14,.v (.slice (some ⟨ai,0,none⟩) ((lst (T.at_ 2)).length) al)),(15,.v (.int .i32 (((lst (T.at_ 2)).length:Nat):Int))),(16,.v (.int .i32 ((ae:Nat):Int))),(18,.p 3 0),(21,.v (.slice (some ⟨ag,0,none⟩) ((lst (ab.at_ 1)).length) ak)),(22,.v (.int .i32 (((lst (ab.at_ 1)).length:Nat):Int))),(23,.v (.int .i32 ((ah:Nat):Int))),(25,.p 5 0)])⟩
        have dA:=aC.cast (t:=[] ++ bq) (by rw [if_neg (by rw [aD]; decide)])
        clear aC
        have fP:=dA.cast (t:=bq) rfl
        clear dA
        refine wp_skip (qac ?_)
        exact ⟨dvO none (List.replicate 16 0) 0,_,fun w F h_=>⟨h_,rfl,⟨(fun e_=>by rw [aD] at e_; cases e_),fun _=>rfl⟩⟩,fP.pk (env':=[(2,.v (.bool false)),(7,.p 0 0),(8,.v (.int .i16 v)),(9,.v (.bool (decide (v ≥ 0)))),(10,.p 1 0),(14,.v (.slice (some ⟨ai,0,none⟩) ((lst (T.at_ 2)).length) al)),(15,.v (.int .i32 (((lst (T.at_ 2)).length:Nat):Int))),(16,.v (.int .i32 ((ae:Nat):Int))),(18,.p 3 0),(21,.v (.slice (some ⟨ag,0,none⟩) ((lst (ab.at_ 1)).length) ak)),(22,.v (.int .i32 (((lst (ab.at_ 1)).length:Nat):Int))),(23,.v (.int .i32 ((ah:Nat):Int))),(25,.p 5 0)])⟩
       rintro _ _ ⟨af,gD,ax,dB⟩
       refine qac ?_
       refine wp_seq ?_
       refine wp_seq ?_
       have dC:=dB.cast cH
       clear dB
       refine qdB (d:=163) [(2,.v (.bool false)),(7,.p 0 0),(8,.v (.int .i16 v)),(9,.v (.bool (decide (v ≥ 0)))),(10,.p 1 0),(14,.v (.slice (some ⟨ai,0,none⟩) ((lst (T.at_ 2)).length) al)),(15,.v (.int .i32 (((lst (T.at_ 2)).length:Nat):Int))),(16,.v (.int .i32 ((ae:Nat):Int))),(18,.p 3 0),(21,.v (.slice (some ⟨ag,0,none⟩) ((lst (ab.at_ 1)).length) ak)),(22,.v (.int .i32 (((lst (ab.at_ 1)).length:Nat):Int))),(23,.v (.int .i32 ((ah:Nat):Int))),(25,.p 5 0),(31,.v (.int .i32 (IntKind.i32.wrap (aa.at_ 5).N)))] dC (qgs _ _) Tryz.call139 fun _ _ dD=>?_
       clear dC
       refine qac ?_
       refine qcS [⟨bv,0,[.int .i16 v,.pointer am,.int .i32 ao.n,.slice none 0 0,.map none],true⟩,qa4 ai 3 (.agg #[.string ByteArray.empty,.slice none 0 0,.map none]) ((lst (T.at_ 2)).length) (ae + 1),⟨ai,ae * 3,[.string (bs (ab.at_ 0).S),.slice none 0 0,.map none],true⟩,qa4 ag 39 (.agg #[.int .i32 0,.int .i32 0,.int .i32 0,.int .u8 0,.int .u8 0,.int .u8 0,.int .u8 0,.int .u8 0,.int .u8 0,.int .u8 0,.int .u8 0,.int .u8 0,.int .u8 0,.int .u8 0,.int .u8 0,.int .u8 0,.int .u8 0,.int .u8 0,.int .u8 0,.int .u8 0,.int .u8 0,.int .u8 0,.int .u8 0,.int .u8 0,.int .u8 0,.int .u8 0,.int .u8 0,.int .u8 0,.int .u8 0,.int .u8 0,.int .u8 0,.int .u8 0,.int .u8 0,.int .u8 0,.int .u8 0,.int .i32 0,.int .i64 0,.bool false,.map none]) ((lst (ab.at_ 1)).length) (ah + 1),⟨ag,ah * 39,[.int .i32 (IntKind.i32.wrap (aa.at_ 0).N),.int .i32 (IntKind.i32.wrap (aa.at_ 1).N),.int .i32 (IntKind.i32.wrap (aa.at_ 2).N),qaa (ac.o.getD 0 0),qaa (ac.o.getD 1 0),qaa (ac.o.getD 2 0),qaa (ac.o.getD 3 0),qaa (ac.o.getD 4 0),qaa (ac.o.getD 5 0),qaa (ac.o.getD 6 0),qaa (ac.o.getD 7 0),qaa (ac.o.getD 8 0),qaa (ac.o.getD 9 0),qaa (ac.o.getD 10 0),qaa (ac.o.getD 11 0),qaa (ac.o.getD 12 0),qaa (ac.o.getD 13 0),qaa (ac.o.getD 14 0),qaa (ac.o.getD 15 0),qaa (af.o.getD 0 0),qaa (af.o.getD 1 0),qaa (af.o.getD 2 0),qaa (af.o.getD 3 0),qaa (af.o.getD 4 0),qaa (af.o.getD 5 0),qaa (af.o.getD 6 0),qaa (af.o.getD 7 0),qaa (af.o.getD 8 0),qaa (af.o.getD 9 0),qaa (af.o.getD 10 0),qaa (af.o.getD 11 0),qaa (af.o.getD 12 0),qaa (af.o.getD 13 0),qaa (af.o.getD 14 0),qaa (af.o.getD 15 0),.int .i32 (IntKind.i32.wrap (aa.at_ 5).N),.int .i64 0,.bool false,.map none],true⟩] 4 [(2,.v (.bool false)),(7,.p 0 0),(8,.v (.int .i16 v)),(9,.v (.bool (decide (v ≥ 0)))),(10,.p 1 0),(14,.v (.slice (some ⟨ai,0,none⟩) ((lst (T.at_ 2)).length) al)),(15,.v (.int .i32 (((lst (T.at_ 2)).length:Nat):Int))),(16,.v (.int .i32 ((ae:Nat):Int))),(18,.p 3 0),(21,.v (.slice (some ⟨ag,0,none⟩) ((lst (ab.at_ 1)).length) ak)),(22,.v (.int .i32 (((lst (ab.at_ 1)).length:Nat):Int))),(23,.v (.int .i32 ((ah:Nat):Int))),(25,.p 5 0)] dD fun _ _ dE=>?_
       clear dD
       refine qac ?_
       refine wp_seq ?_
       refine wp_seq ?_
       have dF:=dE.cast cG
       clear dE
       refine qdB (d:=168) [(2,.v (.bool false)),(7,.p 0 0),(8,.v (.int .i16 v)),(9,.v (.bool (decide (v ≥ 0)))),(10,.p 1 0),(14,.v (.slice (some ⟨ai,0,none⟩) ((lst (T.at_ 2)).length) al)),(15,.v (.int .i32 (((lst (T.at_ 2)).length:Nat):Int))),(16,.v (.int .i32 ((ae:Nat):Int))),(18,.p 3 0),(21,.v (.slice (some ⟨ag,0,none⟩) ((lst (ab.at_ 1)).length) ak)),(22,.v (.int .i32 (((lst (ab.at_ 1)).length:Nat):Int))),(23,.v (.int .i32 ((ah:Nat):Int))),(25,.p 5 0),(32,.v (.int .i64 (IntKind.i64.wrap (aa.at_ 6).N)))] dF (qkZ _ _) Tryz.call169 fun _ _ dG=>?_
       clear dF
       refine qac ?_
       refine qcS [⟨bv,0,[.int .i16 v,.pointer am,.int .i32 ao.n,.slice none 0 0,.map none],true⟩,qa4 ai 3 (.agg #[.string ByteArray.empty,.slice none 0 0,.map none]) ((lst (T.at_ 2)).length) (ae + 1),⟨ai,ae * 3,[.string (bs (ab.at_ 0).S),.slice none 0 0,.map none],true⟩,qa4 ag 39 (.agg #[.int .i32 0,.int .i32 0,.int .i32 0,.int .u8 0,.int .u8 0,.int .u8 0,.int .u8 0,.int .u8 0,.int .u8 0,.int .u8 0,.int .u8 0,.int .u8 0,.int .u8 0,.int .u8 0,.int .u8 0,.int .u8 0,.int .u8 0,.int .u8 0,.int .u8 0,.int .u8 0,.int .u8 0,.int .u8 0,.int .u8 0,.int .u8 0,.int .u8 0,.int .u8 0,.int .u8 0,.int .u8 0,.int .u8 0,.int .u8 0,.int .u8 0,.int .u8 0,.int .u8 0,.int .u8 0,.int .u8 0,.int .i32 0,.int .i64 0,.bool false,.map none]) ((lst (ab.at_ 1)).length) (ah + 1),⟨ag,ah * 39,[.int .i32 (IntKind.i32.wrap (aa.at_ 0).N),.int .i32 (IntKind.i32.wrap (aa.at_ 1).N),.int .i32 (IntKind.i32.wrap (aa.at_ 2).N),qaa (ac.o.getD 0 0),qaa (ac.o.getD 1 0),qaa (ac.o.getD 2 0),qaa (ac.o.getD 3 0),qaa (ac.o.getD 4 0),qaa (ac.o.getD 5 0),qaa (ac.o.getD 6 0),qaa (ac.o.getD 7 0),qaa (ac.o.getD 8 0),qaa (ac.o.getD 9 0),qaa (ac.o.getD 10 0),qaa (ac.o.getD 11 0),qaa (ac.o.getD 12 0),qaa (ac.o.getD 13 0),qaa (ac.o.getD 14 0),qaa (ac.o.getD 15 0),qaa (af.o.getD 0 0),qaa (af.o.getD 1 0),qaa (af.o.getD 2 0),qaa (af.o.getD 3 0),qaa (af.o.getD 4 0),qaa (af.o.getD 5 0),qaa (af.o.getD 6 0),qaa (af.o.getD 7 0),qaa (af.o.getD 8 0),qaa (af.o.getD 9 0),qaa (af.o.getD 10 0),qaa (af.o.getD 11 0),qaa (af.o.getD 12 0),qaa (af.o.getD 13 0),qaa (af.o.getD 14 0),qaa (af.o.getD 15 0),.int .i32 (IntKind.i32.wrap (aa.at_ 5).N),.int .i64 (IntKind.i64.wrap (aa.at_ 6).N),.bool false,.map none],true⟩] 4 [(2,.v (.bool false)),(7,.p 0 0),(8,.v (.int .i16 v)),(9,.v (.bool (decide (v ≥ 0)))),(10,.p 1 0),(14,.v (.slice (some ⟨ai,0,none⟩) ((lst (T.at_ 2)).length) al)),(15,.v (.int .i32 (((lst (T.at_ 2)).length:Nat):Int))),(16,.v (.int .i32 ((ae:Nat):Int))),(18,.p 3 0),(21,.v (.slice (some ⟨ag,0,none⟩) ((lst (ab.at_ 1)).length) ak)),(22,.v (.int .i32 (((lst (ab.at_ 1)).length:Nat):Int))),(23,.v (.int .i32 ((ah:Nat):Int))),(25,.p 5 0)] dG fun _ _ dH=>?_
       clear dG
       refine qac ?_
       refine wp_seq ?_
       have dI:=dH.cast cE
       clear dH
       refine qcE (Mid:=fun a_ w_=>∃ (aM:DV) (P':qb2),(∀ w F,P' w F → gD w F ∧ (True) ∧ ((decide (v ≥ 2)) = true → aM.b = decide ((aa.at_ 7).N % 2 = 1)) ∧ ((decide (v ≥ 2)) = false → aM.b = false)) ∧ RS w (fun b o=>b = bv ∧ o < 5) F 206 aU [⟨bv,0,[.int .i16 v,.pointer am,.int .i32 ao.n,.slice none 0 0,.map none],true⟩,qa4 ai 3 (.agg #[.string ByteArray.empty,.slice none 0 0,.map none]) ((lst (T.at_ 2)).length) (ae + 1),⟨ai,ae * 3,[.string (bs (ab.at_ 0).S),.slice none 0 0,.map none],true⟩,qa4 ag 39 (.agg #[.int .i32 0,.int .i32 0,.int .i32 0,.int .u8 0,.int .u8 0,.int .u8 0,.int .u8 0,.int .u8 0,.int .u8 0,.int .u8 0,.int .u8 0,.int .u8 0,.int .u8 0,.int .u8 0,.int .u8 0,.int .u8 0,.int .u8 0,.int .u8 0,.int .u8 0,.int .u8 0,.int .u8 0,.int .u8 0,.int .u8 0,.int .u8 0,.int .u8 0,.int .u8 0,.int .u8 0,.int .u8 0,.int .u8 0,.int .u8 0,.int .u8 0,.int .u8 0,.int .u8 0,.int .u8 0,.int .u8 0,.int .i32 0,.int .i64 0,.bool false,.map none]) ((lst (ab.at_ 1)).length) (ah + 1),⟨ag,ah * 39,[.int .i32 (IntKind.i32.wrap (aa.at_ 0).N),.int .i32 (IntKind.i32.wrap (aa.at_ 1).N),.int .i32 (IntKind.i32.wrap (aa.at_ 2).N),qaa (ac.o.getD 0 0),qaa (ac.o.getD 1 0),qaa (ac.o.getD 2 0),qaa (ac.o.getD 3 0),qaa (ac.o.getD 4 0),qaa (ac.o.getD 5 0),qaa (ac.o.getD 6 0),qaa (ac.o.getD 7 0),qaa (ac.o.getD 8 0),qaa (ac.o.getD 9 0),qaa (ac.o.getD 10 0),qaa (ac.o.getD 11 0),qaa (ac.o.getD 12 0),qaa (ac.o.getD 13 0),qaa (ac.o.getD 14 0),qaa (ac.o.getD 15 0),qaa (af.o.getD 0 0),qaa (af.o.getD 1 0),qaa (af.o.getD 2 0),qaa (af.o.getD 3 0),qaa (af.o.getD 4 0),qaa (af.o.getD 5 0),qaa (af.o.getD 6 0),qaa (af.o.getD 7 0),qaa (af.o.getD 8 0),qaa (af.o.getD 9 0),qaa (af.o.getD 10 0),qaa (af.o.getD 11 0),qaa (af.o.getD 12 0),qaa (af.o.getD 13 0),qaa (af.o.getD 14 0),qaa (af.o.getD 15 0),.int .i32 (IntKind.i32.wrap (aa.at_ 5).N),.int .i64 (IntKind.i64.wrap (aa.at_ 6).N),.bool aM.b,.map none],true⟩] [(2,.v (.bool false)),(7,.p 0 0),(8,.v (.int .i16 v)),(9,.v (.bool (decide (v ≥ 0)))),(10,.p 1 0),(14,.v (.slice (some ⟨ai,0,none⟩) ((lst (T.at_ 2)).length) al)),(15,.v (.int .i32 (((lst (T.at_ 2)).length:Nat):Int))),(16,.v (.int .i32 ((ae:Nat):Int))),(18,.p 3 0),(21,.v (.slice (some ⟨ag,0,none⟩) ((lst (ab.at_ 1)).length) ak)),(22,.v (.int .i32 (((lst (ab.at_ 1)).length:Nat):Int))),(23,.v (.int .i32 ((ah:Nat):Int))),(25,.p 5 0)] P' bp a_ w_) ?_ ?_
       ·
        refine wp_seq ?_
        refine qbz [(2,.v (.bool false)),(7,.p 0 0),(8,.v (.int .i16 v)),(9,.v (.bool (decide (v ≥ 0)))),(10,.p 1 0),(14,.v (.slice (some ⟨ai,0,none⟩) ((lst (T.at_ 2)).length) al)),(15,.v (.int .i32 (((lst (T.at_ 2)).length:Nat):Int))),(16,.v (.int .i32 ((ae:Nat):Int))),(18,.p 3 0),(21,.v (.slice (some ⟨ag,0,none⟩) ((lst (ab.at_ 1)).length) ak)),(22,.v (.int .i32 (((lst (ab.at_ 1)).length:Nat):Int))),(23,.v (.int .i32 ((ah:Nat):Int))),(25,.p 5 0),(174,.v (.bool (decide (v ≥ 2))))] dI fun _ aE=>qac ?_
        clear dI
        refine qaz aE.env_ (b:=decide (v ≥ 2)) kz (fun aF=>?_) (fun aF=>?_)
        ·
         have dJ:=aE.cast (t:=[by8 (if (decide ((aa.at_ 7).N % 2 = 1)) then 1 else 0)] ++ bp) (by rw [if_pos aF])
         clear aE
         refine wp_seq ?_
         refine qdB (d:=175) [(2,.v (.bool false)),(7,.p 0 0),(8,.v (.int .i16 v)),(9,.v (.bool (decide (v ≥ 0)))),(10,.p 1 0),(14,.v (.slice (some ⟨ai,0,none⟩) ((lst (T.at_ 2)).length) al)),(15,.v (.int .i32 (((lst (T.at_ 2)).length:Nat):Int))),(16,.v (.int .i32 ((ae:Nat):Int))),(18,.p 3 0),(21,.v (.slice (some ⟨ag,0,none⟩) ((lst (ab.at_ 1)).length) ak)),(22,.v (.int .i32 (((lst (ab.at_ 1)).length:Nat):Int))),(23,.v (.int .i32 ((ah:Nat):Int))),(25,.p 5 0),(33,.v (.bool (decide ((aa.at_ 7).N % 2 = 1))))] dJ (qln _ _) Tryz.call140 fun _ _ dK=>?_
         clear dJ
         refine qac ?_
         refine qcS [⟨bv,0,[.int .i16 v,.pointer am,.int .i32 ao.n,.slice none 0 0,.map none],true⟩,qa4 ai 3 (.agg #[.string ByteArray.empty,.slice none 0 0,.map none]) ((lst (T.at_ 2)).length) (ae + 1),⟨ai,ae * 3,[.string (bs (ab.at_ 0).S),.slice none 0 0,.map none],true⟩,qa4 ag 39 (.agg #[.int .i32 0,.int .i32 0,.int .i32 0,.int .u8 0,.int .u8 0,.int .u8 0,.int .u8 0,.int .u8 0,.int .u8 0,.int .u8 0,.int .u8 0,.int .u8 0,.int .u8 0,.int .u8 0,.int .u8 0,.int .u8 0,.int .u8 0,.int .u8 0,.int .u8 0,.int .u8 0,.int .u8 0,.int .u8 0,.int .u8 0,.int .u8 0,.int .u8 0,.int .u8 0,.int .u8 0,.int .u8 0,.int .u8 0,.int .u8 0,.int .u8 0,.int .u8 0,.int .u8 0,.int .u8 0,.int .u8 0,.int .i32 0,.int .i64 0,.bool false,.map none]) ((lst (ab.at_ 1)).length) (ah + 1),⟨ag,ah * 39,[.int .i32 (IntKind.i32.wrap (aa.at_ 0).N),.int .i32 (IntKind.i32.wrap (aa.at_ 1).N),.int .i32 (IntKind.i32.wrap (aa.at_ 2).N),qaa (ac.o.getD 0 0),qaa (ac.o.getD 1 0),qaa (ac.o.getD 2 0),qaa (ac.o.getD 3 0),qaa (ac.o.getD 4 0),qaa (ac.o.getD 5 0),qaa (ac.o.getD 6 0),qaa (ac.o.getD 7 0),qaa (ac.o.getD 8 0),qaa (ac.o.getD 9 0),qaa (ac.o.getD 10 0),qaa (ac.o.getD 11 0),qaa (ac.o.getD 12 0),qaa (ac.o.getD 13 0),qaa (ac.o.getD 14 0),qaa (ac.o.getD 15 0),qaa (af.o.getD 0 0),qaa (af.o.getD 1 0),qaa (af.o.getD 2 0),qaa (af.o.getD 3 0),qaa (af.o.getD 4 0),qaa (af.o.getD 5 0),qaa (af.o.getD 6 0),qaa (af.o.getD 7 0),qaa (af.o.getD 8 0),qaa (af.o.getD 9 0),qaa (af.o.getD 10 0),qaa (af.o.getD 11 0),qaa (af.o.getD 12 0),qaa (af.o.getD 13 0),qaa (af.o.getD 14 0),qaa (af.o.getD 15 0),.int .i32 (IntKind.i32.wrap (aa.at_ 5).N),.int .i64 (IntKind.i64.wrap (aa.at_ 6).N),.bool (decide ((aa.at_ 7).N % 2 = 1)),.map none],true⟩] 4 [(2,.v (.bool false)),(7,.p 0 0),(8,.v (.int .i16 v)),(9,.v (.bool (decide (v ≥ 0)))),(10,.p 1 0),(14,.v (.slice (some ⟨ai,0,none⟩) ((lst (T.at_ 2)).length) al)),(15,.v (.int .i32 (((lst (T.at_ 2)).length:Nat):Int))),(16,.v (.int .i32 ((ae:Nat):Int))),(18,.p 3 0),(21,.v (.slice (some ⟨ag,0,none⟩) ((lst (ab.at_ 1)).length) ak)),(22,.v (.int .i32 (((lst (ab.at_ 1)).length:Nat):Int))),(23,.v (.int .i32 ((ah:Nat):Int))),(25,.p 5 0)] dK fun _ _ fQ=>?_
         clear dK
         refine qac ?_
         exact ⟨dvB (decide ((aa.at_ 7).N % 2 = 1)),_,fun w F h_=>⟨h_,trivial,⟨fun _=>rfl,(fun e_=>by rw [aF] at e_; cases e_)⟩⟩,fQ.pk (env':=[(2,.v (.bool false)),(7,.p 0 0),(8,.v (.int .i16 v)),(9,.v (.bool (decide (v ≥ 0)))),(10,.p 1 0),(14,.v (.slice (some ⟨ai,0,none⟩) ((lst (T.at_ 2)).length) al)),(15,.v (.int .i32 (((lst (T.at_ 2)).length:Nat):Int))),(16,.v (.int .i32 ((ae:Nat):Int))),(18,.p 3 0),(21,.v (.slice (some ⟨ag,0,none⟩) ((lst (ab.at_ 1)).length) ak)),(22,.v (.int .i32 (((lst (ab.at_ 1)).length:Nat):Int))),(23,.v (.int .i32 ((ah:Nat):Int))),(25,.p 5 0)])⟩
        have dL:=aE.cast (t:=[] ++ bp) (by rw [if_neg (by rw [aF]; decide)])
        clear aE
        have fR:=dL.cast (t:=bp) rfl
        clear dL
        refine wp_skip (qac ?_)
        exact ⟨dvB false,_,fun w F h_=>⟨h_,trivial,⟨(fun e_=>by rw [aF] at e_; cases e_),fun _=>rfl⟩⟩,fR.pk (env':=[(2,.v (.bool false)),(7,.p 0 0),(8,.v (.int .i16 v)),(9,.v (.bool (decide (v ≥ 0)))),(10,.p 1 0),(14,.v (.slice (some ⟨ai,0,none⟩) ((lst (T.at_ 2)).length) al)),(15,.v (.int .i32 (((lst (T.at_ 2)).length:Nat):Int))),(16,.v (.int .i32 ((ae:Nat):Int))),(18,.p 3 0),(21,.v (.slice (some ⟨ag,0,none⟩) ((lst (ab.at_ 1)).length) ak)),(22,.v (.int .i32 (((lst (ab.at_ 1)).length:Nat):Int))),(23,.v (.int .i32 ((ah:Nat):Int))),(25,.p 5 0)])⟩
       rintro _ _ ⟨aM,gE,av,dM⟩
       refine qac ?_
       have dN:=dM.cast cD
       clear dM
       refine qcE (Mid:=fun a_ w_=>∃ (bz:Option Nat) (aN:List (Int × Bs)) (P':qb2),(∀ w F,P' w F → gE w F ∧ (MapR w F bz aN ∧ aN.length ≤ 1000000 ∧ ∀ x ∈ aN,x.2.length < 4294967296) ∧ ((decide (v ≥ 0)) = true → aN = aa.U) ∧ ((decide (v ≥ 0)) = false → aN = [])) ∧ RS w (fun b o=>b = bv ∧ o < 5) F 206 aU [⟨bv,0,[.int .i16 v,.pointer am,.int .i32 ao.n,.slice none 0 0,.map none],true⟩,qa4 ai 3 (.agg #[.string ByteArray.empty,.slice none 0 0,.map none]) ((lst (T.at_ 2)).length) (ae + 1),⟨ai,ae * 3,[.string (bs (ab.at_ 0).S),.slice none 0 0,.map none],true⟩,qa4 ag 39 (.agg #[.int .i32 0,.int .i32 0,.int .i32 0,.int .u8 0,.int .u8 0,.int .u8 0,.int .u8 0,.int .u8 0,.int .u8 0,.int .u8 0,.int .u8 0,.int .u8 0,.int .u8 0,.int .u8 0,.int .u8 0,.int .u8 0,.int .u8 0,.int .u8 0,.int .u8 0,.int .u8 0,.int .u8 0,.int .u8 0,.int .u8 0,.int .u8 0,.int .u8 0,.int .u8 0,.int .u8 0,.int .u8 0,.int .u8 0,.int .u8 0,.int .u8 0,.int .u8 0,.int .u8 0,.int .u8 0,.int .u8 0,.int .i32 0,.int .i64 0,.bool false,.map none]) ((lst (ab.at_ 1)).length) (ah + 1),⟨ag,ah * 39,[.int .i32 (IntKind.i32.wrap (aa.at_ 0).N),.int .i32 (IntKind.i32.wrap (aa.at_ 1).N),.int .i32 (IntKind.i32.wrap (aa.at_ 2).N),qaa (ac.o.getD 0 0),qaa (ac.o.getD 1 0),qaa (ac.o.getD 2 0),qaa (ac.o.getD 3 0),qaa (ac.o.getD 4 0),qaa (ac.o.getD 5 0),qaa (ac.o.getD 6 0),qaa (ac.o.getD 7 0),qaa (ac.o.getD 8 0),qaa (ac.o.getD 9 0),qaa (ac.o.getD 10 0),qaa (ac.o.getD 11 0),qaa (ac.o.getD 12 0),qaa (ac.o.getD 13 0),qaa (ac.o.getD 14 0),qaa (ac.o.getD 15 0),qaa (af.o.getD 0 0),qaa (af.o.getD 1 0),qaa (af.o.getD 2 0),qaa (af.o.getD 3 0),qaa (af.o.getD 4 0),qaa (af.o.getD 5 0),qaa (af.o.getD 6 0),qaa (af.o.getD 7 0),qaa (af.o.getD 8 0),qaa (af.o.getD 9 0),qaa (af.o.getD 10 0),qaa (af.o.getD 11 0),qaa (af.o.getD 12 0),qaa (af.o.getD 13 0),qaa (af.o.getD 14 0),qaa (af.o.getD 15 0),.int .i32 (IntKind.i32.wrap (aa.at_ 5).N),.int .i64 (IntKind.i64.wrap (aa.at_ 6).N),.bool aM.b,.map bz],true⟩] [(2,.v (.bool false)),(7,.p 0 0),(8,.v (.int .i16 v)),(9,.v (.bool (decide (v ≥ 0)))),(10,.p 1 0),(14,.v (.slice (some ⟨ai,0,none⟩) ((lst (T.at_ 2)).length) al)),(15,.v (.int .i32 (((lst (T.at_ 2)).length:Nat):Int))),(16,.v (.int .i32 ((ae:Nat):Int))),(18,.p 3 0),(21,.v (.slice (some ⟨ag,0,none⟩) ((lst (ab.at_ 1)).length) ak)),(22,.v (.int .i32 (((lst (ab.at_ 1)).length:Nat):Int))),(23,.v (.int .i32 ((ah:Nat):Int)))] P' bo a_ w_) ?_ ?_
       ·
        refine wp_seq ?_
        refine qbz [(2,.v (.bool false)),(7,.p 0 0),(8,.v (.int .i16 v)),(9,.v (.bool (decide (v ≥ 0)))),(10,.p 1 0),(14,.v (.slice (some ⟨ai,0,none⟩) ((lst (T.at_ 2)).length) al)),(15,.v (.int .i32 (((lst (T.at_ 2)).length:Nat):Int))),(16,.v (.int .i32 ((ae:Nat):Int))),(18,.p 3 0),(21,.v (.slice (some ⟨ag,0,none⟩) ((lst (ab.at_ 1)).length) ak)),(22,.v (.int .i32 (((lst (ab.at_ 1)).length:Nat):Int))),(23,.v (.int .i32 ((ah:Nat):Int))),(25,.p 5 0),(180,.v (.bool (decide (v ≥ 0))))] dN fun _ aG=>qac ?_
        clear dN
        refine qaz aG.env_ (b:=decide (v ≥ 0)) kz (fun aH=>?_) (fun aH=>?_)
        ·
         have dO:=aG.cast (t:=((uv aa.U.length) ++ (qcf aa.U)) ++ bo) (by rw [if_pos aH])
         clear aG
         refine qap [0,1,2,3,4] kz ?_
         refine qcR [0] [1,2,3,4] [(2,.v (.bool false)),(7,.p 0 0),(8,.v (.int .i16 v)),(9,.v (.bool (decide (v ≥ 0)))),(10,.p 1 0),(14,.v (.slice (some ⟨ai,0,none⟩) ((lst (T.at_ 2)).length) al)),(15,.v (.int .i32 (((lst (T.at_ 2)).length:Nat):Int))),(16,.v (.int .i32 ((ae:Nat):Int))),(18,.p 3 0),(21,.v (.slice (some ⟨ag,0,none⟩) ((lst (ab.at_ 1)).length) ak)),(22,.v (.int .i32 (((lst (ab.at_ 1)).length:Nat):Int))),(23,.v (.int .i32 ((ah:Nat):Int))),(181,.p 5 0)] dO fun _ dP=>?_
         clear dO
         refine qaj (qfJ (d:=182) dP (qks aa.U e172_U (qew e172r) _) (fun _=>MvF.tags _ _) Tryz.call156 fun eP gR _ _ dQ dR=>?_)
         clear dP
         refine qcR [2,3] [4] [(2,.v (.bool false)),(7,.p 0 0),(8,.v (.int .i16 v)),(9,.v (.bool (decide (v ≥ 0)))),(10,.p 1 0),(14,.v (.slice (some ⟨ai,0,none⟩) ((lst (T.at_ 2)).length) al)),(15,.v (.int .i32 (((lst (T.at_ 2)).length:Nat):Int))),(16,.v (.int .i32 ((ae:Nat):Int))),(18,.p 3 0),(21,.v (.slice (some ⟨ag,0,none⟩) ((lst (ab.at_ 1)).length) ak)),(22,.v (.int .i32 (((lst (ab.at_ 1)).length:Nat):Int))),(23,.v (.int .i32 ((ah:Nat):Int))),(182,.v (.agg #[.map eP])),(184,.p 5 38)] dR fun _ dS=>?_
         clear dR
         refine qaj (qd2 [⟨bv,0,[.int .i16 v,.pointer am,.int .i32 ao.n,.slice none 0 0,.map none],true⟩,qa4 ai 3 (.agg #[.string ByteArray.empty,.slice none 0 0,.map none]) ((lst (T.at_ 2)).length) (ae + 1),⟨ai,ae * 3,[.string (bs (ab.at_ 0).S),.slice none 0 0,.map none],true⟩,qa4 ag 39 (.agg #[.int .i32 0,.int .i32 0,.int .i32 0,.int .u8 0,.int .u8 0,.int .u8 0,.int .u8 0,.int .u8 0,.int .u8 0,.int .u8 0,.int .u8 0,.int .u8 0,.int .u8 0,.int .u8 0,.int .u8 0,.int .u8 0,.int .u8 0,.int .u8 0,.int .u8 0,.int .u8 0,.int .u8 0,.int .u8 0,.int .u8 0,.int .u8 0,.int .u8 0,.int .u8 0,.int .u8 0,.int .u8 0,.int .u8 0,.int .u8 0,.int .u8 0,.int .u8 0,.int .u8 0,.int .u8 0,.int .u8 0,.int .i32 0,.int .i64 0,.bool false,.map none]) ((lst (ab.at_ 1)).length) (ah + 1),⟨ag,ah * 39,[.int .i32 (IntKind.i32.wrap (aa.at_ 0).N),.int .i32 (IntKind.i32.wrap (aa.at_ 1).N),.int .i32 (IntKind.i32.wrap (aa.at_ 2).N),qaa (ac.o.getD 0 0),qaa (ac.o.getD 1 0),qaa (ac.o.getD 2 0),qaa (ac.o.getD 3 0),qaa (ac.o.getD 4 0),qaa (ac.o.getD 5 0),qaa (ac.o.getD 6 0),qaa (ac.o.getD 7 0),qaa (ac.o.getD 8 0),qaa (ac.o.getD 9 0),qaa (ac.o.getD 10 0),qaa (ac.o.getD 11 0),qaa (ac.o.getD 12 0),qaa (ac.o.getD 13 0),qaa (ac.o.getD 14 0),qaa (ac.o.getD 15 0),qaa (af.o.getD 0 0),qaa (af.o.getD 1 0),qaa (af.o.getD 2 0),qaa (af.o.getD 3 0),qaa (af.o.getD 4 0),qaa (af.o.getD 5 0),qaa (af.o.getD 6 0),qaa (af.o.getD 7 0),qaa (af.o.getD 8 0),qaa (af.o.getD 9 0),qaa (af.o.getD 10 0),qaa (af.o.getD 11 0),qaa (af.o.getD 12 0),qaa (af.o.getD 13 0),qaa (af.o.getD 14 0),qaa (af.o.getD 15 0),.int .i32 (IntKind.i32.wrap (aa.at_ 5).N),.int .i64 (IntKind.i64.wrap (aa.at_ 6).N),.bool aM.b,.map eP],true⟩] 4 dS fun _ dT=>?_)
         clear dS
         refine qag ?_
         have fS:=dT.pk (env':=[(2,.v (.bool false)),(7,.p 0 0),(8,.v (.int .i16 v)),(9,.v (.bool (decide (v ≥ 0)))),(10,.p 1 0),(14,.v (.slice (some ⟨ai,0,none⟩) ((lst (T.at_ 2)).length) al)),(15,.v (.int .i32 (((lst (T.at_ 2)).length:Nat):Int))),(16,.v (.int .i32 ((ae:Nat):Int))),(18,.p 3 0),(21,.v (.slice (some ⟨ag,0,none⟩) ((lst (ab.at_ 1)).length) ak)),(22,.v (.int .i32 (((lst (ab.at_ 1)).length:Nat):Int))),(23,.v (.int .i32 ((ah:Nat):Int)))])
         clear dT
         refine qac ?_
         exact ⟨eP,aa.U,_,fun w F h_=>⟨(dQ _ _ h_).1,⟨(dQ _ _ h_).2,e172_U.2.1,e172_U.2.2⟩,⟨fun _=>rfl,(fun e_=>by rw [aH] at e_; cases e_)⟩⟩,fS.pk (env':=[(2,.v (.bool false)),(7,.p 0 0),(8,.v (.int .i16 v)),(9,.v (.bool (decide (v ≥ 0)))),(10,.p 1 0),(14,.v (.slice (some ⟨ai,0,none⟩) ((lst (T.at_ 2)).length) al)),(15,.v (.int .i32 (((lst (T.at_ 2)).length:Nat):Int))),(16,.v (.int .i32 ((ae:Nat):Int))),(18,.p 3 0),(21,.v (.slice (some ⟨ag,0,none⟩) ((lst (ab.at_ 1)).length) ak)),(22,.v (.int .i32 (((lst (ab.at_ 1)).length:Nat):Int))),(23,.v (.int .i32 ((ah:Nat):Int)))])⟩
        have dU:=aG.cast (t:=[] ++ bo) (by rw [if_neg (by rw [aH]; decide)])
        clear aG
        have fT:=dU.cast (t:=bo) rfl
        clear dU
        refine wp_skip (qac ?_)
        exact ⟨none,[],_,fun w F h_=>⟨h_,⟨MapR.nil _ _,Nat.zero_le _,fun _ h=>by cases h⟩,⟨(fun e_=>by rw [aH] at e_; cases e_),fun _=>rfl⟩⟩,fT.pk (env':=[(2,.v (.bool false)),(7,.p 0 0),(8,.v (.int .i16 v)),(9,.v (.bool (decide (v ≥ 0)))),(10,.p 1 0),(14,.v (.slice (some ⟨ai,0,none⟩) ((lst (T.at_ 2)).length) al)),(15,.v (.int .i32 (((lst (T.at_ 2)).length:Nat):Int))),(16,.v (.int .i32 ((ae:Nat):Int))),(18,.p 3 0),(21,.v (.slice (some ⟨ag,0,none⟩) ((lst (ab.at_ 1)).length) ak)),(22,.v (.int .i32 (((lst (ab.at_ 1)).length:Nat):Int))),(23,.v (.int .i32 ((ah:Nat):Int)))])⟩
       rintro _ _ ⟨bz,aN,gS,ap,dV⟩
       refine qaw ?_
       refine qac ?_
       refine qbz [(2,.v (.bool false)),(7,.p 0 0),(8,.v (.int .i16 v)),(9,.v (.bool (decide (v ≥ 0)))),(10,.p 1 0),(14,.v (.slice (some ⟨ai,0,none⟩) ((lst (T.at_ 2)).length) al)),(15,.v (.int .i32 (((lst (T.at_ 2)).length:Nat):Int))),(16,.v (.int .i32 ((ae:Nat):Int))),(18,.p 3 0),(21,.v (.slice (some ⟨ag,0,none⟩) ((lst (ab.at_ 1)).length) ak)),(22,.v (.int .i32 (((lst (ab.at_ 1)).length:Nat):Int))),(23,.v (.int .i32 (IntKind.i32.wrap (((ah:Nat):Int) + 1))))] dV fun _ dW=>?_
       clear dV
       refine qac ?_
       have fU:=(dW.envEq (env':=[(2,.v (.bool false)),(7,.p 0 0),(8,.v (.int .i16 v)),(9,.v (.bool (decide (v ≥ 0)))),(10,.p 1 0),(14,.v (.slice (some ⟨ai,0,none⟩) ((lst (T.at_ 2)).length) al)),(15,.v (.int .i32 (((lst (T.at_ 2)).length:Nat):Int))),(16,.v (.int .i32 ((ae:Nat):Int))),(18,.p 3 0),(21,.v (.slice (some ⟨ag,0,none⟩) ((lst (ab.at_ 1)).length) ak)),(22,.v (.int .i32 (((lst (ab.at_ 1)).length:Nat):Int))),(23,.v (.int .i32 ((ah + 1:Nat):Int)))]) (by rw [qhn (by have:=e116_1; omega)])).pk (env':=[(2,.v (.bool false)),(7,.p 0 0),(8,.v (.int .i16 v)),(9,.v (.bool (decide (v ≥ 0)))),(10,.p 1 0),(14,.v (.slice (some ⟨ai,0,none⟩) ((lst (T.at_ 2)).length) al)),(15,.v (.int .i32 (((lst (T.at_ 2)).length:Nat):Int))),(16,.v (.int .i32 ((ae:Nat):Int))),(18,.p 3 0),(21,.v (.slice (some ⟨ag,0,none⟩) ((lst (ab.at_ 1)).length) ak)),(22,.v (.int .i32 (((lst (ab.at_ 1)).length:Nat):Int))),(23,.v (.int .i32 ((ah + 1:Nat):Int)))])
       clear dW
       exact (RS.thing (tb:=[⟨bv,0,[.int .i16 v,.pointer am,.int .i32 ao.n,.slice none 0 0,.map none],true⟩,qa4 ai 3 (.agg #[.string ByteArray.empty,.slice none 0 0,.map none]) ((lst (T.at_ 2)).length) (ae + 1),⟨ai,ae * 3,[.string (bs (ab.at_ 0).S),.slice none 0 0,.map none],true⟩]) (z:=.agg #[.int .i32 0,.int .i32 0,.int .i32 0,.int .u8 0,.int .u8 0,.int .u8 0,.int .u8 0,.int .u8 0,.int .u8 0,.int .u8 0,.int .u8 0,.int .u8 0,.int .u8 0,.int .u8 0,.int .u8 0,.int .u8 0,.int .u8 0,.int .u8 0,.int .u8 0,.int .u8 0,.int .u8 0,.int .u8 0,.int .u8 0,.int .u8 0,.int .u8 0,.int .u8 0,.int .u8 0,.int .u8 0,.int .u8 0,.int .u8 0,.int .u8 0,.int .u8 0,.int .u8 0,.int .u8 0,.int .u8 0,.int .i32 0,.int .i64 0,.bool false,.map none]) (D:=(dvP bz aN [dvN (IntKind.i32.wrap (aa.at_ 0).N),dvN (IntKind.i32.wrap (aa.at_ 1).N),dvN (IntKind.i32.wrap (aa.at_ 2).N),ac,af,dvN (IntKind.i32.wrap (aa.at_ 5).N),dvN (IntKind.i64.wrap (aa.at_ 6).N),aM])) (fU.cast cC) hg_g153 bn qaX bk rfl (fun w F h_=>⟨(cA _ _ (aR _ _ (ax _ _ (av _ _ (ap _ _ h_).1).1).1).1).1,(cA _ _ (aR _ _ (ax _ _ (av _ _ (ap _ _ h_).1).1).1).1).2,⟨(trivial),(trivial),(trivial),((aR _ _ (ax _ _ (av _ _ (ap _ _ h_).1).1).1).2.1),((ax _ _ (av _ _ (ap _ _ h_).1).1).2.1),(trivial),(trivial),((av _ _ (ap _ _ h_).1).2.1),(ap _ _ h_).2.1.1,(ap _ _ h_).2.1.2.1,(ap _ _ h_).2.1.2.2,trivial⟩,⟨(rfl),(rfl),(rfl),((aR _ _ (ax _ _ (av _ _ (ap _ _ h_).1).1).1).2.2),((ax _ _ (av _ _ (ap _ _ h_).1).1).2.2),(rfl),(rfl),((av _ _ (ap _ _ h_).1).2.2),(ap _ _ h_).2.2,trivial⟩⟩) kz)
      refine wp_seq ?_
      refine wp_seq ?_
      refine qbz [(2,.v (.bool false)),(7,.p 0 0),(8,.v (.int .i16 v)),(9,.v (.bool (decide (v ≥ 0)))),(10,.p 1 0),(14,.v (.slice (some ⟨ai,0,none⟩) ((lst (T.at_ 2)).length) al)),(15,.v (.int .i32 (((lst (T.at_ 2)).length:Nat):Int))),(16,.v (.int .i32 ((ae:Nat):Int))),(18,.p 3 0),(21,.v (.slice (some ⟨ag,0,none⟩) ((lst (ab.at_ 1)).length) ak)),(22,.v (.int .i32 (((lst (ab.at_ 1)).length:Nat):Int))),(23,.v (.int .i32 (((lst (ab.at_ 1)).length:Nat):Int))),(125,.v (.bool (decide ((((lst (ab.at_ 1)).length:Nat):Int) < (((lst (ab.at_ 1)).length:Nat):Int)))))] cz fun _ dX=>qac ?_
      clear cz
      refine qau dX.env_ (b:=decide ((((lst (ab.at_ 1)).length:Nat):Int) < (((lst (ab.at_ 1)).length:Nat):Int))) kz (decide_eq_false (by omega)) ?_
      refine wp_exit ?_
      refine qav ?_
      refine qav ?_
      refine qaO ?_
      refine qac ?_
      obtain ⟨gF,fV⟩:=RS.listEnd (tb:=[⟨bv,0,[.int .i16 v,.pointer am,.int .i32 ao.n,.slice none 0 0,.map none],true⟩,qa4 ai 3 (.agg #[.string ByteArray.empty,.slice none 0 0,.map none]) ((lst (T.at_ 2)).length) (ae + 1),⟨ai,ae * 3,[.string (bs (ab.at_ 0).S),.slice none 0 0,.map none],true⟩]) (c:=ak) (dX.pk (env':=[(2,.v (.bool false)),(7,.p 0 0),(8,.v (.int .i16 v)),(9,.v (.bool (decide (v ≥ 0)))),(10,.p 1 0),(14,.v (.slice (some ⟨ai,0,none⟩) ((lst (T.at_ 2)).length) al)),(15,.v (.int .i32 (((lst (T.at_ 2)).length:Nat):Int))),(16,.v (.int .i32 ((ae:Nat):Int))),(18,.p 3 0),(21,.v (.slice (some ⟨ag,0,none⟩) ((lst (ab.at_ 1)).length) ak))])) hg_g153 qaX bk hcap_g153 (by have:=e116_1; omega) hn_g153 kz
      exact ⟨dvL (some ⟨ag,0,none⟩) (lst (ab.at_ 1)).length ak gF,_,fun w F h_=>⟨h_.1,⟨h_.2.1,Nat.le_trans e116_1 (by decide),h_.2.2.1⟩,⟨rfl,h_.2.2.2⟩⟩,fV⟩
     refine wp_skip ?_
     refine qac ?_
     refine wp_seq ?_
     refine qbz [(2,.v (.bool false)),(7,.p 0 0),(8,.v (.int .i16 v)),(9,.v (.bool (decide (v ≥ 0)))),(10,.p 1 0),(14,.v (.slice (some ⟨ai,0,none⟩) ((lst (T.at_ 2)).length) al)),(15,.v (.int .i32 (((lst (T.at_ 2)).length:Nat):Int))),(16,.v (.int .i32 ((ae:Nat):Int))),(18,.p 3 0),(21,.v (.slice none 0 0)),(22,.v (.int .i32 (((lst (ab.at_ 1)).length:Nat):Int))),(23,.v (.int .i32 0))] az fun _ dY=>?_
     clear az
     refine qac ?_
     refine wp_block ?_
     refine qfL ?_
     refine wp_seq ?_
     refine wp_seq ?_
     refine qbz [(2,.v (.bool false)),(7,.p 0 0),(8,.v (.int .i16 v)),(9,.v (.bool (decide (v ≥ 0)))),(10,.p 1 0),(14,.v (.slice (some ⟨ai,0,none⟩) ((lst (T.at_ 2)).length) al)),(15,.v (.int .i32 (((lst (T.at_ 2)).length:Nat):Int))),(16,.v (.int .i32 ((ae:Nat):Int))),(18,.p 3 0),(21,.v (.slice none 0 0)),(22,.v (.int .i32 (((lst (ab.at_ 1)).length:Nat):Int))),(23,.v (.int .i32 0)),(125,.v (.bool (decide (0 < (((lst (ab.at_ 1)).length:Nat):Int)))))] dY fun _ dZ=>qac ?_
     clear dY
     refine qau dZ.env_ (b:=decide (0 < (((lst (ab.at_ 1)).length:Nat):Int))) kz (decide_eq_false (by have h_:=of_decide_eq_false aQ; omega)) ?_
     refine wp_exit ?_
     refine qav ?_
     refine qav ?_
     refine qaO ?_
     refine qac ?_
     have hz_:(lst (ab.at_ 1)).length = 0:=by have h_:=of_decide_eq_false aQ; omega
     exact ⟨dvL none 0 0 (fun _=>dv0),_,fun w F h_=>⟨h_,⟨Slots.nil _ _ _ _,Nat.zero_le _,fun _ h=>absurd h (Nat.not_lt_zero _)⟩,⟨hz_.symm,fun _ h=>absurd h (Nat.not_lt_zero _)⟩⟩,(dZ.cast (t:=ay) (by rw [List.eq_nil_of_length_eq_zero hz_]; rfl)).pk (env':=[(2,.v (.bool false)),(7,.p 0 0),(8,.v (.int .i16 v)),(9,.v (.bool (decide (v ≥ 0)))),(10,.p 1 0),(14,.v (.slice (some ⟨ai,0,none⟩) ((lst (T.at_ 2)).length) al)),(15,.v (.int .i32 (((lst (T.at_ 2)).length:Nat):Int))),(16,.v (.int .i32 ((ae:Nat):Int))),(18,.p 3 0),(21,.v (.slice none 0 0))])⟩
    rintro _ _ ⟨aj,gG,aS,d5⟩
    refine wp_seq ?_
    refine qbz [(2,.v (.bool false)),(7,.p 0 0),(8,.v (.int .i16 v)),(9,.v (.bool (decide (v ≥ 0)))),(10,.p 1 0),(14,.v (.slice (some ⟨ai,0,none⟩) ((lst (T.at_ 2)).length) al)),(15,.v (.int .i32 (((lst (T.at_ 2)).length:Nat):Int))),(16,.v (.int .i32 ((ae:Nat):Int))),(18,.p 3 0),(20,.v (.slice aj.A aj.l aj.c))] d5 fun _ d6=>?_
    clear d5
    refine qac ?_
    refine qcS [⟨bv,0,[.int .i16 v,.pointer am,.int .i32 ao.n,.slice none 0 0,.map none],true⟩,qa4 ai 3 (.agg #[.string ByteArray.empty,.slice none 0 0,.map none]) ((lst (T.at_ 2)).length) (ae + 1),⟨ai,ae * 3,[.string (bs (ab.at_ 0).S),.slice aj.A aj.l aj.c,.map none],true⟩] 2 [(2,.v (.bool false)),(7,.p 0 0),(8,.v (.int .i16 v)),(9,.v (.bool (decide (v ≥ 0)))),(10,.p 1 0),(14,.v (.slice (some ⟨ai,0,none⟩) ((lst (T.at_ 2)).length) al)),(15,.v (.int .i32 (((lst (T.at_ 2)).length:Nat):Int))),(16,.v (.int .i32 ((ae:Nat):Int))),(18,.p 3 0)] d6 fun _ _ d7=>?_
    clear d6
    refine qac ?_
    have d8:=d7.cast bK
    clear d7
    refine qcE (Mid:=fun a_ w_=>∃ (bA:Option Nat) (aO:List (Int × Bs)) (P':qb2),(∀ w F,P' w F → gG w F ∧ (MapR w F bA aO ∧ aO.length ≤ 1000000 ∧ ∀ x ∈ aO,x.2.length < 4294967296) ∧ ((decide (v ≥ 0)) = true → aO = ab.U) ∧ ((decide (v ≥ 0)) = false → aO = [])) ∧ RS w (fun b o=>b = bv ∧ o < 5) F 206 aU [⟨bv,0,[.int .i16 v,.pointer am,.int .i32 ao.n,.slice none 0 0,.map none],true⟩,qa4 ai 3 (.agg #[.string ByteArray.empty,.slice none 0 0,.map none]) ((lst (T.at_ 2)).length) (ae + 1),⟨ai,ae * 3,[.string (bs (ab.at_ 0).S),.slice aj.A aj.l aj.c,.map bA],true⟩] [(2,.v (.bool false)),(7,.p 0 0),(8,.v (.int .i16 v)),(9,.v (.bool (decide (v ≥ 0)))),(10,.p 1 0),(14,.v (.slice (some ⟨ai,0,none⟩) ((lst (T.at_ 2)).length) al)),(15,.v (.int .i32 (((lst (T.at_ 2)).length:Nat):Int))),(16,.v (.int .i32 ((ae:Nat):Int)))] P' bf a_ w_) ?_ ?_
    ·
     refine wp_seq ?_
     refine qbz [(2,.v (.bool false)),(7,.p 0 0),(8,.v (.int .i16 v)),(9,.v (.bool (decide (v ≥ 0)))),(10,.p 1 0),(14,.v (.slice (some ⟨ai,0,none⟩) ((lst (T.at_ 2)).length) al)),(15,.v (.int .i32 (((lst (T.at_ 2)).length:Nat):Int))),(16,.v (.int .i32 ((ae:Nat):Int))),(18,.p 3 0),(190,.v (.bool (decide (v ≥ 0))))] d8 fun _ aI=>qac ?_
     clear d8
     refine qaz aI.env_ (b:=decide (v ≥ 0)) kz (fun aJ=>?_) (fun aJ=>?_)
     ·
      have d9:=aI.cast (t:=((uv ab.U.length) ++ (qcf ab.U)) ++ bf) (by rw [if_pos aJ])
      clear aI
      refine qap [0,1,2,3,4] kz ?_
      refine qcR [0] [1,2,3,4] [(2,.v (.bool false)),(7,.p 0 0),(8,.v (.int .i16 v)),(9,.v (.bool (decide (v ≥ 0)))),(10,.p 1 0),(14,.v (.slice (some ⟨ai,0,none⟩) ((lst (T.at_ 2)).length) al)),(15,.v (.int .i32 (((lst (T.at_ 2)).length:Nat):Int))),(16,.v (.int .i32 ((ae:Nat):Int))),(191,.p 3 0)] d9 fun _ ea=>?_
      clear d9
      refine qaj (qfJ (d:=192) ea (qks ab.U e116_U (qew e116r) _) (fun _=>MvF.tags _ _) Tryz.call156 fun eQ gT _ _ eb ec=>?_)
      clear ea
      refine qcR [2,3] [4] [(2,.v (.bool false)),(7,.p 0 0),(8,.v (.int .i16 v)),(9,.v (.bool (decide (v ≥ 0)))),(10,.p 1 0),(14,.v (.slice (some ⟨ai,0,none⟩) ((lst (T.at_ 2)).length) al)),(15,.v (.int .i32 (((lst (T.at_ 2)).length:Nat):Int))),(16,.v (.int .i32 ((ae:Nat):Int))),(192,.v (.agg #[.map eQ])),(194,.p 3 2)] ec fun _ ee=>?_
      clear ec
      refine qaj (qd2 [⟨bv,0,[.int .i16 v,.pointer am,.int .i32 ao.n,.slice none 0 0,.map none],true⟩,qa4 ai 3 (.agg #[.string ByteArray.empty,.slice none 0 0,.map none]) ((lst (T.at_ 2)).length) (ae + 1),⟨ai,ae * 3,[.string (bs (ab.at_ 0).S),.slice aj.A aj.l aj.c,.map eQ],true⟩] 2 ee fun _ ef=>?_)
      clear ee
      refine qag ?_
      have fW:=ef.pk (env':=[(2,.v (.bool false)),(7,.p 0 0),(8,.v (.int .i16 v)),(9,.v (.bool (decide (v ≥ 0)))),(10,.p 1 0),(14,.v (.slice (some ⟨ai,0,none⟩) ((lst (T.at_ 2)).length) al)),(15,.v (.int .i32 (((lst (T.at_ 2)).length:Nat):Int))),(16,.v (.int .i32 ((ae:Nat):Int)))])
      clear ef
      refine qac ?_
      exact ⟨eQ,ab.U,_,fun w F h_=>⟨(eb _ _ h_).1,⟨(eb _ _ h_).2,e116_U.2.1,e116_U.2.2⟩,⟨fun _=>rfl,(fun e_=>by rw [aJ] at e_; cases e_)⟩⟩,fW.pk (env':=[(2,.v (.bool false)),(7,.p 0 0),(8,.v (.int .i16 v)),(9,.v (.bool (decide (v ≥ 0)))),(10,.p 1 0),(14,.v (.slice (some ⟨ai,0,none⟩) ((lst (T.at_ 2)).length) al)),(15,.v (.int .i32 (((lst (T.at_ 2)).length:Nat):Int))),(16,.v (.int .i32 ((ae:Nat):Int)))])⟩
     have eg:=aI.cast (t:=[] ++ bf) (by rw [if_neg (by rw [aJ]; decide)])
     clear aI
     have fX:=eg.cast (t:=bf) rfl
     clear eg
     refine wp_skip (qac ?_)
     exact ⟨none,[],_,fun w F h_=>⟨h_,⟨MapR.nil _ _,Nat.zero_le _,fun _ h=>by cases h⟩,⟨(fun e_=>by rw [aJ] at e_; cases e_),fun _=>rfl⟩⟩,fX.pk (env':=[(2,.v (.bool false)),(7,.p 0 0),(8,.v (.int .i16 v)),(9,.v (.bool (decide (v ≥ 0)))),(10,.p 1 0),(14,.v (.slice (some ⟨ai,0,none⟩) ((lst (T.at_ 2)).length) al)),(15,.v (.int .i32 (((lst (T.at_ 2)).length:Nat):Int))),(16,.v (.int .i32 ((ae:Nat):Int)))])⟩
    rintro _ _ ⟨bA,aO,gU,aw,eh⟩
    refine qaw ?_
    refine qac ?_
    refine qbz [(2,.v (.bool false)),(7,.p 0 0),(8,.v (.int .i16 v)),(9,.v (.bool (decide (v ≥ 0)))),(10,.p 1 0),(14,.v (.slice (some ⟨ai,0,none⟩) ((lst (T.at_ 2)).length) al)),(15,.v (.int .i32 (((lst (T.at_ 2)).length:Nat):Int))),(16,.v (.int .i32 (IntKind.i32.wrap (((ae:Nat):Int) + 1))))] eh fun _ ei=>?_
    clear eh
    refine qac ?_
    have fY:=(ei.envEq (env':=[(2,.v (.bool false)),(7,.p 0 0),(8,.v (.int .i16 v)),(9,.v (.bool (decide (v ≥ 0)))),(10,.p 1 0),(14,.v (.slice (some ⟨ai,0,none⟩) ((lst (T.at_ 2)).length) al)),(15,.v (.int .i32 (((lst (T.at_ 2)).length:Nat):Int))),(16,.v (.int .i32 ((ae + 1:Nat):Int)))]) (by rw [qhn (by have:=e32_2; omega)])).pk (env':=[(2,.v (.bool false)),(7,.p 0 0),(8,.v (.int .i16 v)),(9,.v (.bool (decide (v ≥ 0)))),(10,.p 1 0),(14,.v (.slice (some ⟨ai,0,none⟩) ((lst (T.at_ 2)).length) al)),(15,.v (.int .i32 (((lst (T.at_ 2)).length:Nat):Int))),(16,.v (.int .i32 ((ae + 1:Nat):Int)))])
    clear ei
    exact (RS.thing (tb:=[⟨bv,0,[.int .i16 v,.pointer am,.int .i32 ao.n,.slice none 0 0,.map none],true⟩]) (z:=.agg #[.string ByteArray.empty,.slice none 0 0,.map none]) (D:=(dvP bA aO [dvS (bs (ab.at_ 0).S),aj])) (fY.cast bJ) hg_g97 bd qbc ba rfl (fun w F h_=>⟨(bH _ _ (aS _ _ (aw _ _ h_).1).1).1,(bH _ _ (aS _ _ (aw _ _ h_).1).1).2,⟨(by show ByteArray.size (bs _) ≤ 1000000; rw [qiK]; exact Nat.le_trans e116_0 (by decide)),((aS _ _ (aw _ _ h_).1).2.1),(aw _ _ h_).2.1.1,(aw _ _ h_).2.1.2.1,(aw _ _ h_).2.1.2.2,trivial⟩,⟨(rfl),((aS _ _ (aw _ _ h_).1).2.2),(aw _ _ h_).2.2,trivial⟩⟩) kz)
   refine wp_seq ?_
   refine wp_seq ?_
   refine qbz [(2,.v (.bool false)),(7,.p 0 0),(8,.v (.int .i16 v)),(9,.v (.bool (decide (v ≥ 0)))),(10,.p 1 0),(14,.v (.slice (some ⟨ai,0,none⟩) ((lst (T.at_ 2)).length) al)),(15,.v (.int .i32 (((lst (T.at_ 2)).length:Nat):Int))),(16,.v (.int .i32 (((lst (T.at_ 2)).length:Nat):Int))),(85,.v (.bool (decide ((((lst (T.at_ 2)).length:Nat):Int) < (((lst (T.at_ 2)).length:Nat):Int)))))] bG fun _ ej=>qac ?_
   clear bG
   refine qau ej.env_ (b:=decide ((((lst (T.at_ 2)).length:Nat):Int) < (((lst (T.at_ 2)).length:Nat):Int))) kz (decide_eq_false (by omega)) ?_
   refine wp_exit ?_
   refine qav ?_
   refine qav ?_
   refine qaO ?_
   refine qac ?_
   obtain ⟨gH,fZ⟩:=RS.listEnd (tb:=[⟨bv,0,[.int .i16 v,.pointer am,.int .i32 ao.n,.slice none 0 0,.map none],true⟩]) (c:=al) (ej.pk (env':=[(7,.p 0 0),(9,.v (.bool (decide (v ≥ 0)))),(10,.p 1 0),(14,.v (.slice (some ⟨ai,0,none⟩) ((lst (T.at_ 2)).length) al))])) hg_g97 qbc ba hcap_g97 (by have:=e32_2; omega) hn_g97 kz
   exact ⟨dvL (some ⟨ai,0,none⟩) (lst (T.at_ 2)).length al gH,_,fun w F h_=>⟨h_.1,⟨h_.2.1,Nat.le_trans e32_2 (by decide),h_.2.2.1⟩,⟨rfl,h_.2.2.2⟩⟩,fZ⟩
  refine wp_skip ?_
  refine qac ?_
  refine wp_seq ?_
  refine qbz [(2,.v (.bool false)),(7,.p 0 0),(8,.v (.int .i16 v)),(9,.v (.bool (decide (v ≥ 0)))),(10,.p 1 0),(14,.v (.slice none 0 0)),(15,.v (.int .i32 (((lst (T.at_ 2)).length:Nat):Int))),(16,.v (.int .i32 0))] aY fun _ ek=>?_
  clear aY
  refine qac ?_
  refine wp_block ?_
  refine qfL ?_
  refine wp_seq ?_
  refine wp_seq ?_
  refine qbz [(2,.v (.bool false)),(7,.p 0 0),(8,.v (.int .i16 v)),(9,.v (.bool (decide (v ≥ 0)))),(10,.p 1 0),(14,.v (.slice none 0 0)),(15,.v (.int .i32 (((lst (T.at_ 2)).length:Nat):Int))),(16,.v (.int .i32 0)),(85,.v (.bool (decide (0 < (((lst (T.at_ 2)).length:Nat):Int)))))] ek fun _ em=>qac ?_
  clear ek
  refine qau em.env_ (b:=decide (0 < (((lst (T.at_ 2)).length:Nat):Int))) kz (decide_eq_false (by have h_:=of_decide_eq_false bx; omega)) ?_
  refine wp_exit ?_
  refine qav ?_
  refine qav ?_
  refine qaO ?_
  refine qac ?_
  have hz_:(lst (T.at_ 2)).length = 0:=by have h_:=of_decide_eq_false bx; omega
  exact ⟨dvL none 0 0 (fun _=>dv0),_,fun w F h_=>⟨h_,⟨Slots.nil _ _ _ _,Nat.zero_le _,fun _ h=>absurd h (Nat.not_lt_zero _)⟩,⟨hz_.symm,fun _ h=>absurd h (Nat.not_lt_zero _)⟩⟩,(em.cast (t:=bC) (by rw [List.eq_nil_of_length_eq_zero hz_]; rfl)).pk (env':=[(7,.p 0 0),(9,.v (.bool (decide (v ≥ 0)))),(10,.p 1 0),(14,.v (.slice none 0 0))])⟩
 rintro _ _ ⟨au,gV,aT,f7⟩
 refine wp_seq ?_
 refine qbz [(7,.p 0 0),(9,.v (.bool (decide (v ≥ 0)))),(10,.p 1 0),(13,.v (.slice au.A au.l au.c))] f7 fun _ eo=>?_
 clear f7
 refine qac ?_
 refine qcS [⟨bv,0,[.int .i16 v,.pointer am,.int .i32 ao.n,.slice au.A au.l au.c,.map none],true⟩] 0 [(7,.p 0 0),(9,.v (.bool (decide (v ≥ 0)))),(10,.p 1 0)] eo fun _ _ ep=>?_
 clear eo
 refine qac ?_
 refine wp_seq ?_
 have eu:=ep.cast eU
 clear ep
 refine qcE (Mid:=fun a_ w_=>∃ (bB:Option Nat) (aP:List (Int × Bs)) (P':qb2),(∀ w F,P' w F → gV w F ∧ (MapR w F bB aP ∧ aP.length ≤ 1000000 ∧ ∀ x ∈ aP,x.2.length < 4294967296) ∧ ((decide (v ≥ 0)) = true → aP = T.U) ∧ ((decide (v ≥ 0)) = false → aP = [])) ∧ RS w (fun b o=>b = bv ∧ o < 5) F 206 aU [⟨bv,0,[.int .i16 v,.pointer am,.int .i32 ao.n,.slice au.A au.l au.c,.map bB],true⟩] [(7,.p 0 0)] P' ([]:Bs) a_ w_) ?_ ?_
 ·
  refine wp_seq ?_
  refine qbz [(7,.p 0 0),(10,.p 1 0),(200,.v (.bool (decide (v ≥ 0))))] eu fun _ aK=>qac ?_
  clear eu
  refine qaz aK.env_ (b:=decide (v ≥ 0)) kz (fun aL=>?_) (fun aL=>?_)
  ·
   have ev:=aK.cast (t:=((uv T.U.length) ++ (qcf T.U)) ++ ([]:Bs)) (by rw [if_pos aL])
   clear aK
   refine qap [0,1,2,3,4] kz ?_
   refine qcR [0] [1,2,3,4] [(7,.p 0 0),(201,.p 1 0)] ev fun _ ew=>?_
   clear ev
   refine qaj (qfJ (d:=202) ew (qks T.U e32_U (qew e32r) _) (fun _=>MvF.tags _ _) Tryz.call156 fun eR gW _ _ ey ez=>?_)
   clear ew
   refine qcR [2,3] [4] [(7,.p 0 0),(202,.v (.agg #[.map eR])),(204,.p 1 4)] ez fun _ eB=>?_
   clear ez
   refine qaj (qd2 [⟨bv,0,[.int .i16 v,.pointer am,.int .i32 ao.n,.slice au.A au.l au.c,.map eR],true⟩] 0 eB fun _ eC=>?_)
   clear eB
   refine qag ?_
   have f8:=eC.pk (env':=[(7,.p 0 0)])
   clear eC
   refine qac ?_
   exact ⟨eR,T.U,_,fun w F h_=>⟨(ey _ _ h_).1,⟨(ey _ _ h_).2,e32_U.2.1,e32_U.2.2⟩,⟨fun _=>rfl,(fun e_=>by rw [aL] at e_; cases e_)⟩⟩,f8.pk (env':=[(7,.p 0 0)])⟩
  have eD:=aK.cast (t:=[] ++ ([]:Bs)) (by rw [if_neg (by rw [aL]; decide)])
  clear aK
  have f9:=eD.cast (t:=([]:Bs)) rfl
  clear eD
  refine wp_skip (qac ?_)
  exact ⟨none,[],_,fun w F h_=>⟨h_,⟨MapR.nil _ _,Nat.zero_le _,fun _ h=>by cases h⟩,⟨(fun e_=>by rw [aL] at e_; cases e_),fun _=>rfl⟩⟩,f9.pk (env':=[(7,.p 0 0)])⟩
 rintro _ _ ⟨bB,aP,gX,ar,eE⟩
 refine qac ?_
 refine wp_seq ?_
 refine qap [0,1] kz (qaj (qgV (d:=205) eE qi1 Tryz.call149 fun _ eF=>?_))
 clear eE
 refine qcR [1] [] [(6,.v (.nilIface))] eF fun _ eG=>qag ?_
 clear eF
 refine qac ?_
 refine wp_ret ?_
 obtain ⟨A_,m_,c_,hW_,hr_,hE_,hP_⟩:=eG.open_
 refine qaP hE_ hW_.cells (v:=.nilIface) kz ?_
 have h_:=eG.mv.mono qbp hP_
 refine ⟨(dvP bB aP [dvT am (bs (qcn (T.at_ 0))),ao,au]),rfl,Str.of hW_ 1 rfl,?_,?_,hW_.step⟩
 ·unfold qbm
  exact ⟨(⟨(fm _ _ (bw _ _ (aT _ _ (ar _ _ h_).1).1).1).2.1,by show ByteArray.size (bs _) ≤ 1000000; rw [qiK]; exact Nat.le_trans e32_0 (by decide)⟩),((bw _ _ (aT _ _ (ar _ _ h_).1).1).2.1),((aT _ _ (ar _ _ h_).1).2.1),(ar _ _ h_).2.1.1,(ar _ _ h_).2.1.2.1,(ar _ _ h_).2.1.2.2,trivial⟩
 unfold qd3
 exact ⟨(⟨rfl,(fm _ _ (bw _ _ (aT _ _ (ar _ _ h_).1).1).1).2.2⟩),((bw _ _ (aT _ _ (ar _ _ h_).1).1).2.2),((aT _ _ (ar _ _ h_).1).2.2),(ar _ _ h_).2.2,trivial⟩
theorem qd4:qgq qbm:=by
 intro w w' F F' M d hs hM hF h
 unfold qbm at h ⊢
 obtain ⟨⟨g0,g0l⟩,g1,⟨g2,g2l,g2e⟩,t1,t2,t3,_⟩:=h
 exact ⟨⟨fun ad hA=>by
  obtain ⟨b,o,h1,h2⟩:=g0 ad hA
  exact ⟨b,o,h1,h2.move hs hM hF⟩,g0l⟩,g1,⟨g2.move hs hM hF,g2l,fun i hi=>qbc _ hs hM hF (g2e i hi)⟩,t1.move hs hM hF,t2,t3,trivial⟩
end Go.Proofs.YtcbpjflgkefidaaGreatDoor.ME
namespace Go.Proofs.YtcbpjflgkefidaaGreatDoor.ME
open Go
open Go.RowKit
open Go.ChangeMaps (setBlock)
set_option linter.unusedVariables false
set_option linter.unusedSimpArgs false
set_option maxRecDepth 20000
abbrev cloV (fc:Nat) (cap:Value):Value:=.func (.func fc) #[] #[cap]
theorem qk6 {fc:Nat} {cap:Value} {m:Option Nat} {u:List (Int × Bs)} {b o:Nat} {w:World} {F M:Nat → Nat → Prop} (hcf:∀ args w,(callFunc fc args).run Tryz.prog w = .ok (.enter fc args) w) (I:World → Nat → World → Prop) (hat:AtF w F b o [.map m]) (hm:MapR w F m u) (hMF:∀ b o,F b o → ¬ M b o) (hMlt:∀ b o,M b o → b < w.heap.size)
  (hI0:∀ w7,Step w w7 Nil → I w7 0 w7) (hIs:∀ w7 j w8,I w7 j w8 → Step w7 w8 M)
  (hI1:∀ w7,Step w w7 Nil → ∀ j k x w8 Ax cx,I w7 j w8 → u[j]? = some (k,x) → (0 ≤ k ∧ k < 4294967296) → Octs w8 (fun b o=>F b o ∧ b < w7.heap.size) Ax cx x → Calls Tryz.prog fc [.int .u32 k,.slice Ax x.length cx,cap].toArray w8 (fun e w9=>e = .returned (.tuple #[]) ∧ I w7 (j + 1) w9)) (hul:u.length ≤ 1000000) :
  Calls Tryz.prog 103 [.pointer (some ⟨b,o,none⟩),cloV fc cap].toArray w (fun e w'=>e = .returned (.tuple #[]) ∧ ∃ w7,Step w w7 Nil ∧ I w7 u.length w'):=by
 refine enter (n:=53) Tryz.func103 rfl Tryz.ntmps103 kz fun a hE=>?_
 have hW:WOk w Nil w [⟨b,o,[.map m],false⟩] []:=(WOk.start w Nil).start1 hat rfl rfl
 refine wp_seq (wp_seq ?_)
 refine qap [0,1,2,3,4,5] kz ?_
 refine qbw [0,1,2,3] [4,5] [0,1,11] hW (EnvOk.ptr0 (cs:=[.map m]) (r:=false) hE) (env':=[(0,.p 0 0),(1,.v (cloV fc cap)),(11,.v (.map m))]) kz rfl fun a1 hE1=>?_
 refine qaj (qf2 (t:=92) (kt:=62) (et:=22) hE1 (m:=m) (d:=12) kz kz hm fun a2 hE2=>?_)
 refine qbw [5] [] [0,1,13] hW hE2 (env':=[(0,.p 0 0),(1,.v (cloV fc cap)),(13,.v (.bool (((u.length:Nat):Int) == 0)))]) kz rfl fun a3 hE3=>qag (qac ?_)
 refine qaz hE3 (b:=((u.length:Nat):Int) == 0) kz (fun hb=>?_) (fun hb=>?_)
 ·-- none
  have hu:u = []:=List.eq_nil_of_length_eq_zero (by have:=eq_of_beq hb; omega)
  subst hu
  refine wp_ret (qaA ?_)
  exact qaP hE3 hW.cells (v:=.tuple #[]) kz ⟨rfl,w,Step.refl _ _,hI0 w (Step.refl _ _)⟩
 have hu0:0 < u.length:=by have:=ne_of_beq_false hb; omega
 cases m with
 | none=>rw [hm.none_ rfl] at hu0; cases hu0
 | some mb =>
 obtain ⟨hFm,es,clk,hes,hperm,hborn,hnod,hcont⟩:=hm.some_ mb rfl
 have hmlt:mb < w.heap.size:=(Array.getElem?_eq_some_iff.1 hes).1
 have hesz:es.size = u.length:=MapR.size (w:=w) (F:=F) hperm
 refine wp_skip (qac ?_)
 refine qae [0,1,2,3,4,5,6,7] kz ?_
 refine qbw [0,1,2,3] [4,5,6,7] [0,1,17] hW hE3 (env':=[(0,.p 0 0),(1,.v (cloV fc cap)),(17,.v (.map (some mb)))]) kz rfl fun a4 hE4=>?_
 refine qaj (qf2 (t:=92) (kt:=62) (et:=22) hE4 (m:=some mb) (d:=18) kz kz hm fun a5 hE5=>?_)
 refine qaj (qhz (e:=62) (size:=1) (bytes:=4) (j:=u.length) (t:=186) (d:=19) hW hE5 (p:=0) (q:=((u.length:Nat):Int)) kz kz rfl rfl (by omega) fun kr a6 w1 hkr hkr0 hF1 hW1 hE6=>?_)
 refine qaj (qaJ hW1 hE6 (d:=4) (cs:=[.slice none 0 0]) kz fun kb a7 w2 hkb hkb0 hF2 hW2 hE7=>?_)
 refine qaj (qan hW2 hE7 (oi:=1) (cs:=[.slice (some ⟨kr,0,none⟩) 0 u.length]) kz fun w3 hF3 hW3 hE8=>qag (qac ?_))
 refine wp_seq (qae [0,1,2,3,4] kz ?_)
 refine qbw [0,1,2,3] [4] [0,1,4,23] hW3 hE8 (env':=[(0,.p 0 0),(1,.v (cloV fc cap)),(4,.p 1 0),(23,.v (.map (some mb)))]) kz rfl fun a8 hE9=>?_
 have hes3:=hW3.step.heap (fun o h=>h) hes
 refine qaj (qhC (t:=92) (kt:=62) (et:=22) (d:=24) (r:=mb) hE9 kz kz hes3 fun a9 hE10=>qag (qac ?_))
 have hW4:=hW3.next_nil (Step.alloc w3 (.mapIter (some mb) clk #[] clk))
 have hr4:(w3.alloc (.mapIter (some mb) clk #[] clk)).heap[w3.heap.size]? = some (.mapIter (some mb) clk #[] clk):=qcl _ _
 have hE11:=hE10.pick (ks:=[0,1,4,24]) (env':=[(0,.p 0 0),(1,.v (cloV fc cap)),(4,.p 1 0),(24,.v (.pointer (some ⟨w3.heap.size,0,none⟩)))]) kz
 have hrlt:w3.heap.size < (w3.alloc (.mapIter (some mb) clk #[] clk)).heap.size:=by rw [qcK]; omega
 have hr0:w.heap.size ≤ w3.heap.size:=hW3.step.size
 have hkbr:kb ≠ w3.heap.size:=by have:=hW3.live 1 _ rfl; show ¬ _; intro e; rw [← e] at this; exact absurd this (Nat.lt_irrefl _)
 have hkrr:kr ≠ w3.heap.size:=by have:=qbK (hW3.own 0 _ rfl) (g:=kr) rfl; omega
 generalize hR:w3.heap.size = R at hr4 hE11 hrlt hkbr hkrr
 generalize hw4:w3.alloc (.mapIter (some mb) clk #[] clk) = w4 at hW4 hr4 hrlt
 refine wp_block ?_
 refine wp_loop_ghost (fun q a_ w_=>∃ (vis:List MapEntry) (seen:Array Nat) (K:Option Addr) (kc c0:Nat),q = (leftOf es seen).size ∧ Vis es.toList vis seen ∧ vis.length + (leftOf es seen).size ≤ es.size ∧
   EnvOk 53 [⟨b,o,[.map (some mb)],false⟩,⟨kb,0,[.slice K vis.length kc],true⟩] [(0,.p 0 0),(1,.v (cloV fc cap)),(4,.p 1 0),(24,.v (.pointer (some ⟨R,0,none⟩)))] a_ ∧
   WOk w Nil w_ [⟨b,o,[.map (some mb)],false⟩,⟨kb,0,[.slice K vis.length kc],true⟩] [⟨K,kc,62,1,vis.length,(vis.map fun e=>kOf e.key).map (Value.int .u32)⟩] ∧
   w_.heap[R]? = some (.mapIter (some mb) clk seen c0) ∧ clk ≤ c0 ∧ K.map (·.block) ≠ some R) (leftOf es #[]).size
  ⟨[],#[],some ⟨kr,0,none⟩,u.length,clk,rfl,Vis.nil _,by rw [List.length_nil,Nat.zero_add]; exact Array.size_filter_le,by rw [← hw4] at *; exact hE11,hW4,hr4,Nat.le_refl _,by simpa using hkrr⟩ ?_
 rintro q a10 w5 ⟨vis,seen,K,kc,c0,rfl,hv,hvl,hE12,hW5,hr5,hc0,hKR⟩
 have hes5:=hW5.step.heap (fun o h=>h) hes
 refine qae [0,1] kz ?_
 refine qaj (qik hE12 (d:=25) (r:=R) kz hr5 hes5 hborn hc0 (fun h0 a11 hE13=>?_) (fun e he w6 hw6 a11 hE13=>?_))
 ·-- behind it
  refine qbw [1] [] [0,1,4,26] hW5 hE13 (env':=[(0,.p 0 0),(1,.v (cloV fc cap)),(4,.p 1 0),(26,.v (.bool false))]) kz rfl fun a12 hE14=>qag (qac (wp_seq ?_))
  refine qaz hE14 (b:=false) kz (fun hb=>by cases hb) (fun _=>?_)
  refine wp_exit (qav (qav (qaO (qac ?_))))
  have hpe:=hv.all h0 hnod
  have hvu:vis.length = u.length:=by rw [hpe.length_eq,Array.length_toList,hesz]
  have hkp:(vis.map fun e=>kOf e.key).Perm (u.map Prod.fst):=by
   have h1:=(hpe.map fun e=>kOf e.key)
   have h2:=hperm.map kOf
   rw [List.map_map,List.map_map] at h2
   exact h1.trans h2
  have hkl:(vis.map fun e=>kOf e.key).length = vis.length:=by simp
  generalize (vis.map fun e=>kOf e.key) = ks at hkp hkl hW5
  have hown4:w5.ownsRow 0 62 1 (.slice K vis.length kc) vis.length (ks.map (Value.int .u32)):=hW5.own 0 _ rfl
  obtain ⟨g,rfl⟩:=qbY hown4 (by omega)
  have hown5:w5.ownsRow 0 62 1 (.slice (some ⟨g,0,none⟩) vis.length kc) vis.length (ks.map (Value.int .u32)):=hown4
  have hg0:w.heap.size ≤ g:=by
   rcases hW5.ownM 0 _ rfl g rfl with h | h
   ·exact h
   exact (h 0).elim
  refine qae [0,1,2,3] kz ?_
  refine qbw [0,1] [2,3] [0,1,4,34] hW5 hE14 (env':=[(0,.p 0 0),(1,.v (cloV fc cap)),(4,.p 1 0),(34,.v (.iface 186 (.slice (some ⟨g,0,none⟩) vis.length kc)))]) kz rfl fun a13 hE15=>?_
  refine qaj (qes hE15 (v:=.func (.func 160) #[] #[.pointer (some ⟨kb,0,none⟩)]) (d:=35) kz fun a14 hE16=>?_)
  have hS:=Tryz.sortKeys g kc kb ks.toArray (by simp; omega) (by simp; omega) w5 (by simp only [List.size_toArray,hkl]; exact hW5.cells 1 _ rfl 0 _ rfl) (fun e=>hW5.rtb 0 _ rfl g rfl 1 _ rfl e) (qf4 hkl hown5) (qbK (hW5.own 0 _ rfl) (g:=g) rfl) (hW5.live 1 _ rfl)
  rw [List.size_toArray,hkl] at hS
  refine qaj (qal hE16 (f:=159) (vs:=[.iface 186 (.slice (some ⟨g,0,none⟩) vis.length kc),.func (.func 160) #[] #[.pointer (some ⟨kb,0,none⟩)]]) (d:=36) kz Tryz.call159 hS ?_)
  rintro e_ w7 ⟨rfl,d',nd,os,hd1,hd2,hd3,rfl⟩
  refine ⟨_,rfl,fun a15 hE17=>qag (qac ?_)⟩
  have hus:d'.toList = u.map Prod.fst:=qil hd2 (by rw [hd1]; exact hd3) hkp (List.pairwise_map.2 hm.sorted)
  obtain ⟨hst7,hown7⟩:=qjn (n:=nd) (os:=os) hkl hown5 (by rw [hd1,hkl])
  rw [hus] at hown7
  generalize Sort.grow (Sort.putRow (Value.int .u32) (Sort.ahead w5 nd) g 0 d') os = w7 at hst7 hown7
  have hW7:WOk w Nil w7 [⟨b,o,[.map (some mb)],false⟩,⟨kb,0,[.slice (some ⟨g,0,none⟩) vis.length kc],true⟩] [⟨some ⟨g,0,none⟩,kc,62,1,vis.length,(u.map Prod.fst).map (Value.int .u32)⟩] :=
   hW5.grow (k:=0) (r':=⟨some ⟨g,0,none⟩,kc,62,1,vis.length,(u.map Prod.fst).map (Value.int .u32)⟩) rfl (hst7.mono fun b' _ _ hb'=>by rw [hb']; rfl) hown7 (fun g' h=>.inl h)
  refine qae [0,1,2] kz ?_
  refine qbw [0,1,2] [] [0,1,37,38,39] hW7 hE17 (env':=[(0,.p 0 0),(1,.v (cloV fc cap)),(37,.v (.slice (some ⟨g,0,none⟩) vis.length kc)),(38,.v (.int .i64 ((vis.length:Nat):Int))),(39,.v (.int .i64 0))]) kz rfl fun a16 hE18=>qag (qac ?_)
  have hE19:=EnvOk.cutTb 1 hE18 kz
  have hat7:=hat.move hW7.step nilM qaZ
  have hm7:=hm.move hW7.step nilM qaZ
  have hg7:g < w7.heap.size:=qbK (hW7.own 0 _ rfl) (g:=g) rfl
  have hkeys:=qf4 (by simpa using hvu.symm) hown7
  rw [hvu] at hE19
  refine wp_block ?_
  refine wp_loop_ghost (fun q a_ w_=>∃ (j:Nat),q = u.length - j ∧ j ≤ u.length ∧ EnvOk 53 [⟨b,o,[.map (some mb)],false⟩] [(0,.p 0 0),(1,.v (cloV fc cap)),(37,.v (.slice (some ⟨g,0,none⟩) u.length kc)),(38,.v (.int .i64 ((u.length:Nat):Int))),(39,.v (.int .i64 ((j:Nat):Int)))] a_ ∧
   I w7 j w_) u.length
   ⟨0,by omega,by omega,hE19,hI0 w7 hW7.step⟩ ?_
  rintro q a17 w8 ⟨j,rfl,hj,hE20,hD⟩
  have hS8:=hIs w7 j w8 hD
  have hat8:=hat7.move hS8 (fun b o hf _=>hMF b o hf) qaZ
  have hm8:MapR w8 (fun b' o'=>F b' o' ∧ b' < w7.heap.size) (some mb) u:=hm7.move hS8 (fun b o hf _=>hMF b o hf) (fun b' o' hf hl=>⟨hf,hl⟩)
  have hW8:WOk w8 Nil w8 [⟨b,o,[.map (some mb)],false⟩] []:=(WOk.start w8 Nil).start1 hat8 rfl rfl
  refine qae [0] kz (qbw [0] [] [0,1,37,38,39,40] hW8 hE20 (env':=[(0,.p 0 0),(1,.v (cloV fc cap)),(37,.v (.slice (some ⟨g,0,none⟩) u.length kc)),(38,.v (.int .i64 ((u.length:Nat):Int))),(39,.v (.int .i64 ((j:Nat):Int))),(40,.v (.bool (decide (((j:Nat):Int) < ((u.length:Nat):Int)))))]) kz rfl fun a18 hE21=>qag (qac (wp_seq ?_)))
  refine qaz hE21 (b:=decide (((j:Nat):Int) < ((u.length:Nat):Int))) kz (fun hc=>?_) (fun hc=>?_)
  ·have hlt:j < u.length:=by have:=of_decide_eq_true hc; omega
   refine wp_skip (qac (wp_seq (wp_block ?_)))
   obtain ⟨⟨k,x⟩,hu⟩:∃ y,u[j]? = some y:=⟨_,List.getElem?_eq_getElem hlt⟩
   have hmem:=List.mem_of_getElem? hu
   have hkr:=hm.range _ hmem
   have hcell:At w8 g (0 + j * 1) [.int .u32 k]:=by
    intro i v hi
    have hi0:i = 0:=by
     have:=(List.getElem?_eq_some_iff.1 hi).1
     simp at this; omega
    subst hi0
    simp only [List.getElem?_cons_zero,Option.some.injEq] at hi
    subst hi
    refine hS8.cell (fun hbm=>?_) ?_
    ·have:=hMlt _ _ hbm; omega
    have h1:=(hkeys j (by simpa using hlt)).1
    have h2:(u.map Prod.fst).toArray[j]! = k:=by
     rw [getElem!_pos _ j (by simpa using hlt)]
     have:(u.map Prod.fst)[j]? = some k:=by rw [List.getElem?_map,hu]; rfl
     simpa using (List.getElem?_eq_some_iff.1 this).2
    rw [h2] at h1
    simpa using h1
   refine qae [0,1,2] kz ?_
   refine qaj (qas hE21 (t:=186) (e:=62) (size:=1) (bytes:=4) (d:=41) (b:=g) (o:=0) (m:=u.length) (j:=j) kz kz rfl rfl hlt fun a19 hE22=>?_)
   refine qaj (qaH hE22 (t:=62) (d:=42) (cs:=[.int .u32 k]) (v:=.int .u32 k) kz kz hcell fun a20 hE23=>?_)
   refine qbw [2] [] [0,1,37,38,39,7] hW8 hE23 (env':=[(0,.p 0 0),(1,.v (cloV fc cap)),(37,.v (.slice (some ⟨g,0,none⟩) u.length kc)),(38,.v (.int .i64 ((u.length:Nat):Int))),(39,.v (.int .i64 ((j:Nat):Int))),(7,.v (.int .u32 k))]) kz rfl fun a21 hE24=>qag (qac ?_)
   refine qap [0,1,2,3,4,5,6,7,8] kz ?_
   refine qbw [0,1,2,3,4,5,6] [7,8] [0,1,37,38,39,43,44,48,49] hW8 hE24 (env':=[(0,.p 0 0),(1,.v (cloV fc cap)),(37,.v (.slice (some ⟨g,0,none⟩) u.length kc)),(38,.v (.int .i64 ((u.length:Nat):Int))),(39,.v (.int .i64 ((j:Nat):Int))),(43,.v (cloV fc cap)),(44,.v (.int .u32 k)),(48,.v (.map (some mb))),(49,.v (.int .u32 k))]) kz rfl fun a22 hE25=>?_
   refine qaj (qii hE25 (t:=92) (kt:=62) (et:=22) (m:=some mb) (k:=k) (s:=x) (d:=50) kz kz kz hm8 hmem fun a23 Ax cx hox hE26=>?_)
   refine qaj (qal hE26 (f:=fc) (vs:=[.int .u32 k,.slice Ax x.length cx,cap]) (d:=51) kz hcf (hI1 w7 hW7.step j k x w8 Ax cx hD hu hkr hox) ?_)
   rintro e_ w9 ⟨rfl,hD2⟩
   refine ⟨_,rfl,fun a24 hE27=>qag (qaw (qac ?_))⟩
   have hS9:=hIs w7 (j + 1) w9 hD2
   have hat9:=hat7.move hS9 (fun b o hf _=>hMF b o hf) qaZ
   have hW9:WOk w9 Nil w9 [⟨b,o,[.map (some mb)],false⟩] []:=(WOk.start w9 Nil).start1 hat9 rfl rfl
   refine qap [0,1] kz (qbw [0,1] [] [0,1,37,38,39] hW9 hE27 (env':=[(0,.p 0 0),(1,.v (cloV fc cap)),(37,.v (.slice (some ⟨g,0,none⟩) u.length kc)),(38,.v (.int .i64 ((u.length:Nat):Int))),(39,.v (.int .i64 (IntKind.i64.wrap (((j:Nat):Int) + 1))))]) kz rfl fun a25 hE28=>qag (qac ?_))
   rw [qaS (by omega)] at hE28
   exact ⟨u.length - (j + 1),by omega,j + 1,rfl,by omega,hE28,hD2⟩
  obtain rfl:j = u.length:=by have:=of_decide_eq_false hc; omega
  refine wp_exit (qav (qav (qaO ?_)))
  exact qbu hE21 hW8.cells (v:=.tuple #[]) kz ⟨rfl,w7,hW7.step,hD⟩
 -- one more
 have hst6:Step w5 w6 Nil:=by
  rcases hw6 with rfl | rfl
  ·exact Step.refl _ _
  exact Step.drew _
 have hr6:w6.heap[R]? = some (.mapIter (some mb) clk seen c0):=hst6.heap (fun o h=>h) hr5
 have hW6:=hW5.next_nil hst6
 obtain ⟨hml,_⟩:=mem_left he
 obtain ⟨k,sx,Ax,cx,hk1,hk2,hk3,hk4⟩:=hcont e hml
 have hR6:R < w6.heap.size:=(Array.getElem?_eq_some_iff.1 hr6).1
 have hW7:WOk w Nil (setBlock w6 R (.mapIter (some mb) clk (seen.push e.born) clk)) [⟨b,o,[.map (some mb)],false⟩,⟨kb,0,[.slice K vis.length kc],true⟩] [⟨K,kc,62,1,vis.length,(vis.map fun e=>kOf e.key).map (Value.int .u32)⟩]:=by
  refine hW6.next (Step.setBlock w6 R _) (fun b' o' hb' hN=>by omega) (fun i ob hi j hj hN=>?_) (fun i q hi g' hg' o' hN=>?_)
  ·match i,hi with
   | 0,hi =>
    simp only [List.getElem?_cons_zero,Option.some.injEq] at hi; subst hi
    have:=World.lt_of_cell (hat 0 _ rfl).2
    simp only at hN; omega
   | 1,hi =>
    simp only [List.getElem?_cons_succ,List.getElem?_cons_zero,Option.some.injEq] at hi; subst hi
    exact hkbr hN
   | i + 2,hi=>simp at hi
  match i,hi with
  | 0,hi =>
   simp only [List.getElem?_cons_zero,Option.some.injEq] at hi; subst hi
   exact hKR (by rw [← hN]; exact hg')
  | i + 1,hi=>simp at hi
 have hr7:(setBlock w6 R (.mapIter (some mb) clk (seen.push e.born) clk)).heap[R]? = some (.mapIter (some mb) clk (seen.push e.born) clk):=qdW hr6
 generalize hw7:setBlock w6 R (.mapIter (some mb) clk (seen.push e.born) clk) = w7 at hW7 hr7
 refine qbw [1] [] [0,1,4,24,26] hW7 hE13 (env':=[(0,.p 0 0),(1,.v (cloV fc cap)),(4,.p 1 0),(24,.v (.pointer (some ⟨R,0,none⟩))),(26,.v (.bool true))]) kz rfl fun a12 hE14=>qag (qac (wp_seq ?_))
 refine qaz hE14 (b:=true) kz (fun _=>?_) (fun hb=>by cases hb)
 refine wp_skip (qac (wp_block ?_))
 have hes7:=hW7.step.heap (fun o h=>h) hes
 refine qae [0,1,2] kz ?_
 refine qaj (qhD hE14 (d:=27) (r:=R) kz hr7 hes7 hml hnod fun a13 hE15=>?_)
 rw [hk1] at hE15
 refine qbw [1,2] [] [0,1,4,24,5] hW7 hE15 (env':=[(0,.p 0 0),(1,.v (cloV fc cap)),(4,.p 1 0),(24,.v (.pointer (some ⟨R,0,none⟩))),(5,.v (.int .u32 k))]) kz rfl fun a14 hE16=>qag (qac ?_)
 refine qap [0,1,2,3,4] kz ?_
 refine qbw [0,1] [2,3,4] [0,1,4,24,29,30] hW7 hE16 (env':=[(0,.p 0 0),(1,.v (cloV fc cap)),(4,.p 1 0),(24,.v (.pointer (some ⟨R,0,none⟩))),(29,.v (.slice K vis.length kc)),(30,.v (.int .u32 k))]) kz rfl fun a15 hE17=>?_
 have hsh:=left_shrinks es seen e he
 refine qcd (t:=186) (e:=62) (size:=1) (bytes:=4) (len:=1) (cs:=[.int .u32 k]) (d1:=31) (d:=32) (k:=0) hW7 hE17 kz kz (fun _=>by kernel_rfl) rfl kz (by omega) fun K2 kc2 a16 w8 hF8 hW8 hE18=>?_
 obtain ⟨bl,hE18⟩:=hE18
 have hR7:R < w7.heap.size:=(Array.getElem?_eq_some_iff.1 hr7).1
 have hna:∀ {o'},¬ Act_ [⟨b,o,[.map (some mb)],false⟩,⟨kb,0,[.slice K vis.length kc],true⟩] [⟨K,kc,62,1,vis.length,(vis.map fun e=>kOf e.key).map (Value.int .u32)⟩] R o':=by
  rintro o' (⟨i,ob,hi,hrw,hb,_⟩ | ⟨i,q,hi,hq⟩)
  ·match i,hi with
   | 0,hi =>
    simp only [List.getElem?_cons_zero,Option.some.injEq] at hi; subst hi
    cases hrw
   | 1,hi =>
    simp only [List.getElem?_cons_succ,List.getElem?_cons_zero,Option.some.injEq] at hi; subst hi
    exact hkbr hb
   | i + 2,hi=>simp at hi
  match i,hi with
  | 0,hi =>
   simp only [List.getElem?_cons_zero,Option.some.injEq] at hi; subst hi
   exact hKR hq
  | i + 1,hi=>simp at hi
 have hK2:K2.map (·.block) ≠ some R:=fun hk=>by
  exact hF8.imm R 0 hR7 hna (.inr ⟨0,_,rfl,hk⟩)
 refine qaj (qan hW8 hE18 (oi:=1) (cs:=[.slice K2 (vis.length + 1) kc2]) kz fun w9 hF9 hW9 hE19=>qag (qaw (qac ?_)))
 have hr8:w9.heap[R]? = some (.mapIter (some mb) clk (seen.push e.born) clk) :=
  hF9.step.heap (fun o'=>hF8.imm R o' hR7 hna) (hF8.step.heap (fun o'=>hna) hr7)
 refine ⟨(leftOf es (seen.push e.born)).size,hsh,vis ++ [e],seen.push e.born,K2,kc2,clk,rfl,hv.push he,by rw [List.length_append,List.length_singleton]; omega,?_,?_,hr8,Nat.le_refl _,hK2⟩
 ·rw [List.length_append,List.length_singleton]
  exact hE19.pick (ks:=[0,1,4,24]) kz
 rw [List.length_append,List.length_singleton,List.map_append,List.map_append,List.map_cons,List.map_cons,hk1]
 exact hW9
end Go.Proofs.YtcbpjflgkefidaaGreatDoor.ME
namespace Go.Proofs.YtcbpjflgkefidaaGreatDoor.ME
open Go
open Go.RowKit
set_option linter.unusedVariables false
set_option linter.unusedSimpArgs false
set_option maxRecDepth 20000
section
variable {P:Program} {ops:Array Oper} {Q:Exit → Act → World → Prop} {n:Nat} {tb:Tb} {env:Env} {rs:List Rw} {w0:World} {M:Nat → Nat → Prop} {a:Act} {w:World}
theorem qeg {i d j:Nat} {t e:TypeId} {size bytes:Nat} (z:Value) (cs:List Value) {N:Act → World → Prop} (hW:WOk w0 M w tb rs) (hE:EnvOk n tb env a)
  (K:∀ b a' w',b = w.heap.size → w0.heap.size ≤ b → Fr w tb rs w' (tb ++ [⟨b,0,cs,true⟩]) rs → WOk w0 M w' (tb ++ [⟨b,0,cs,true⟩]) rs → EnvOk n (tb ++ [⟨b,0,cs,true⟩]) ((d,.v (.slice (some ⟨b,0,none⟩) j j)) :: env) a' → N a' w')
  (h:qic env ops n i = some (t,((j:Nat):Int),((j:Nat):Int),d):=by kernel_rfl) (ht:qcj P t = some (e,size,bytes):=by kernel_rfl) (hz:(P.info? e).bind (·.zero) = some z:=by kernel_rfl) (hcs:(madeCells z.cells (j * size)).toList = cs:=by kernel_rfl) (hb:Nat.ble (bytes * j) 1000000 = true:=by kernel_rfl):wpOp P ops Q i N a w:=by
 obtain ⟨ht',inf,z',hi,hz',hzs,hs1,rfl,hsz,hbp⟩:=qb3 ht
 obtain ⟨op,ho,hd,kl,kc,hrun⟩:=qfz (P:=P) (w:=w) hE h
 have hzz:z' = z:=by rw [hi] at hz; simp only [Option.bind_some,hz',Option.some.injEq] at hz; exact hz
 subst hzz
 have hb':=Nat.le_of_ble_eq_true hb
 have hjm:j ≤ 1000000:=by
  have:=Nat.le_mul_of_pos_left j hbp
  omega
 have hr:=run_make (P:=P) w t e inf z' ht' hi hz' kl kc (j:Int) (j:Int) (by omega) (Int.le_refl _) (by
  have:((inf.bytes * j:Nat):Int) ≤ 281474976710656:=by omega
  rwa [Int.natCast_mul] at this) (by omega)
 simp only [Int.toNat_natCast,hs1] at hr
 have hca:madeCells z'.cells (j * size) = cs.toArray:=by rw [← hcs]
 rw [hca] at hr
 refine qaW hE ho (fun o hop=>hrun o _ _ hop hr) ?_
 refine K w.heap.size _ _ rfl hW.step.size (Fr.alloc w tb rs _ cs true) (hW.alloc cs e) ?_
 exact (hE.put hd (.v (.slice (some ⟨w.heap.size,0,none⟩) j j)) trivial).grow _
theorem qfo {i d:Nat} {src dst e:TypeId} {s:ByteArray} {N:Act → World → Prop} (hW:WOk w0 M w tb rs) (hE:EnvOk n tb env a) (hsm:s.size ≤ 1099511627776)
  (K:∀ b c a' w',Fr w tb rs w' tb rs → WOk w0 M w' tb rs → (∀ G,Octs w' (Imm G w0 w' tb rs) (some ⟨b,0,none⟩) c (sb s)) → EnvOk n tb ((d,.v (.slice (some ⟨b,0,none⟩) (sb s).length c)) :: env) a' → N a' w')
  (h:qjw tb env ops n i = some (src,dst,.string s,d):=by kernel_rfl) (hs:P.underlying src = some .string:=by kernel_rfl) (hd:P.underlying dst = some (.slice e):=by kernel_rfl) (he:P.underlying e = some (.int .u8):=by kernel_rfl):wpOp P ops Q i N a w:=by
 unfold qjw at h
 split at h
 ·rename_i src' dst' x d' hop
  split at h
  ·rename_i v hx
   simp only [Option.some.injEq,Prod.mk.injEq] at h
   obtain ⟨rfl,rfl,rfl,rfl⟩:=h
   have hdn:=(qba hE hop).choose_spec.2.2.2.1
   have hrun:=Lib.run_convert_string_bytes (P:=P) w src' dst' e s hs hd he
   have hst:Step w (Lib.bytesWorld w e s) Nil:=⟨rfl,rfl,by rw [Lib.bytesWorld_size]; omega,fun b hb=>by rw [Lib.bytesWorld_at_old w e s b hb]; exact Keeps.refl _ _⟩
   have hlen:(sb s).length = s.size:=qh9 s
   have e1:=(qaV hE hx).1
   refine qaW hE hop (v:=.slice (some ⟨w.heap.size,0,none⟩) (sb s).length (grownCap w s.size 0 e)) (w':=Lib.bytesWorld w e s) (fun o' ho'=>?_) (K w.heap.size _ _ _ (Fr.nil tb rs hst) (hW.next_nil hst) (fun G=>?_) (hE.put hdn (.v _) trivial))
   ·unfold execOp
    rw [ho']
    simp only [SV.val] at e1
    simp only [e1,Sem.run_bind,hrun,Result.andThen_ok,Sem.run_pure,hlen]
   refine ⟨by rw [hlen]; exact grownCap_ge w s.size 0 e,by rw [hlen]; exact hsm,fun h=>(by cases h),fun ad hA _=>?_⟩
   obtain rfl:=Option.some.inj hA
   refine ⟨w.heap.size,0,rfl,fun q hq=>⟨rfl,fun j v hj=>?_⟩⟩
   have hj0:j = 0:=by
    cases j with
    | zero=>rfl
    | succ j=>simp at hj
   subst hj0
   simp only [List.getElem?_cons_zero,Option.some.injEq] at hj
   subst hj
   have h2:(Lib.bytesWorld w e s).heap.size = w.heap.size + 1:=Lib.bytesWorld_size w e s
   refine ⟨⟨.inr hW.step.size,by rw [h2]; exact Nat.lt_succ_self _,fun ha=>?_⟩,?_⟩
   ·have:=hW.act_live ha
    exact absurd this (Nat.lt_irrefl _)
   rw [Nat.zero_add,Nat.mul_one,Nat.add_zero,Lib.bytesWorld_cell w e s q (by rw [← hlen]; exact hq)]
   rfl
  cases h
 cases h
end
structure TBox (w:World) (B eT:Nat) (A:Option Addr) (cp n:Nat) (x0 x1 x2 x3:Value) (xs:List Value):Prop where
 str:Str w B [x0,x1,x2,x3,.slice A n cp]
 own:w.ownsRow 0 eT 2 (.slice A n cp) n xs
 ne:A.map (·.block) ≠ some B
def TM (B:Nat) (A:Option Addr):Nat → Nat → Prop:=fun b o=>(b = B ∧ o < 5) ∨ Blk A b o
def qjE (w:World) (B eT:Nat) (A:Option Addr) (n:Nat) (x0 x1 x2 x3:Value) (xs:List Value) (k:Int) (x:Bs):Ending → World → Prop:=fun en w' =>
 en = .returned (.tuple #[]) ∧ ∃ A' cp' Av cv,TBox w' B eT A' cp' (n + 1) x0 x1 x2 x3 (xs ++ [.int .u32 k,.slice Av x.length cv]) ∧ Octs w' (fun b o=>(w.heap.size ≤ b ∨ A.map (·.block) = some b) ∧ ¬ TM B A' b o) Av cv x ∧ Near w A A' ∧ Step w w' (TM B A)
def qeW (P:Program) (fc eT:Nat):Prop:=∀ (w:World) (B cp c n:Nat) (k:Int) (A Av:Option Addr) (x:Bs) (x0 x1 x2 x3:Value) (xs:List Value) (G:Nat → Nat → Prop),TBox w B eT A cp n x0 x1 x2 x3 xs → Octs w G Av c x → (∀ b o,G b o → ¬ TM B A b o) → n ≤ 1000000 →
 Calls P fc [.int .u32 k,.slice Av x.length c,.pointer (some ⟨B,0,none⟩)].toArray w (qjE w B eT A n x0 x1 x2 x3 xs k x)
theorem TBox.wok {w:World} {B eT cp n:Nat} {A:Option Addr} {x0 x1 x2 x3:Value} {xs:List Value} (h:TBox w B eT A cp n x0 x1 x2 x3 xs):WOk w (TM B A) w [⟨B,0,[x0,x1,x2,x3,.slice A n cp],true⟩] [⟨A,cp,eT,2,n,xs⟩]:=by
 have h1:WOk w (TM B A) w [⟨B,0,[x0,x1,x2,x3,.slice A n cp],true⟩] [] :=
  (WOk.start w _).add ⟨B,0,[x0,x1,x2,x3,.slice A n cp],true⟩ (World.lt_of_cell (h.str.at_ 0 _ rfl)) (fun j v hj=>by rw [Nat.zero_add]; exact h.str.at_ j v hj) (fun _ j hj=>⟨.inr (.inl ⟨rfl,by rw [Nat.zero_add]; exact hj⟩),by rw [Nat.zero_add]; exact h.str.frz j hj⟩) (fun i ob hi=>by simp at hi) (fun i r hi=>by simp at hi)
 refine h1.addRow ⟨A,cp,eT,2,n,xs⟩ h.own (fun g hg=>.inr fun o=>.inr hg) (fun i ob hi=>?_) (fun i r hi=>by simp at hi)
 cases i with
 | zero =>
  simp only [List.getElem?_cons_zero,Option.some.injEq] at hi; subst hi
  exact h.ne
 | succ i=>simp at hi
theorem qfO {w0 w:World} {B eT cp n:Nat} {A0 A:Option Addr} {x0 x1 x2 x3:Value} {xs:List Value} {rs:List Rw} (hW:WOk w0 (TM B A0) w [⟨B,0,[x0,x1,x2,x3,.slice A n cp],true⟩] (⟨A,cp,eT,2,n,xs⟩ :: rs)) (hB:B < w0.heap.size):TBox w B eT A cp n x0 x1 x2 x3 xs ∧ Near w0 A0 A ∧ Step w0 w (TM B A0):=by
 refine ⟨⟨Str.of hW 0 rfl,hW.own 0 _ rfl,fun e=>hW.rtb 0 _ rfl B e 0 _ rfl rfl⟩,fun g hg=>?_,hW.step⟩
 rcases hW.ownM 0 _ rfl g hg with h | h
 ·exact .inr h
 rcases h 5 with ⟨_,h⟩ | h
 ·omega
 exact .inl h
theorem qd5 {w0 w:World} {B eT cp n c e8:Nat} {A0 A Av:Option Addr} {cs:List Value} {xs:List Value} {s:Bs} (hl:cs.length = 5) (hW:WOk w0 (TM B A0) w [⟨B,0,cs,true⟩] [⟨A,cp,eT,2,n,xs⟩,brow Av c e8 s]) (hsm:s.length ≤ 1099511627776):Octs w (fun b o=>(w0.heap.size ≤ b ∨ A0.map (·.block) = some b) ∧ ¬ TM B A b o) Av c s:=by
 refine qcV (hW.own 1 _ rfl) hsm fun g hg o=>⟨?_,?_⟩
 ·rcases hW.ownM 1 _ rfl g hg with h | h
  ·exact .inl h
  rcases h 5 with ⟨_,h⟩ | h
  ·omega
  exact .inr h
 rintro (⟨rfl,_⟩ | h)
 ·exact hW.rtb 1 _ rfl g hg 0 _ rfl rfl
 exact hW.rr 1 0 _ _ (by decide) rfl rfl g hg h
theorem qeX {fc eT B b o:Nat} {m:Option Nat} {u:List (Int × Bs)} {w:World} {F:Nat → Nat → Prop} {x0 x1 x2 x3:Value} (hcf:∀ args w,(callFunc fc args).run Tryz.prog w = .ok (.enter fc args) w) (hone:qeW Tryz.prog fc eT) (hat:AtF w F b o [.map m]) (hm:MapR w F m u) (hB:Str w B [x0,x1,x2,x3,.slice none 0 0]) (hF:∀ b o,F b o → ¬ (b = B ∧ o < 5)) (hul:u.length ≤ 1000000) :
  Calls Tryz.prog 103 [.pointer (some ⟨b,o,none⟩),cloV fc (.pointer (some ⟨B,0,none⟩))].toArray w (fun e w'=>e = .returned (.tuple #[]) ∧ ∃ A c,Str w' B [x0,x1,x2,x3,.slice A u.length c] ∧ TagsR w' (fun b o=>w.heap.size ≤ b) A c u ∧ Step w w' (fun b o=>b = B ∧ o < 5)):=by
 have hBl:B < w.heap.size:=World.lt_of_cell (hB.at_ 0 _ rfl)
 refine (qk6 (M:=fun b o=>b = B ∧ o < 5) hcf (fun w7 j w8=>∃ A cp xs css,TBox w8 B eT A cp j x0 x1 x2 x3 xs ∧ Tags w8 (fun b o=>w7.heap.size ≤ b ∧ ¬ TM B A b o) xs (u.take j) css ∧ (∀ g,A.map (·.block) = some g → w7.heap.size ≤ g) ∧ Step w7 w8 (fun b o=>b = B ∧ o < 5)) hat hm hF (fun b o h=>by rw [h.1]; exact hBl) (fun w7 hs=>?_) (fun w7 j w8 h=>by obtain ⟨_,_,_,_,_,_,_,h⟩:=h; exact h) (fun w7 hs j k x w8 Ax cx hI hu hk hox=>?_) hul).mono ?_
 ·exact ⟨none,0,[],[],⟨hB.move hs fun _ h=>h,World.ownsRow_nil _ 0 eT 2,fun h=>by cases h⟩,Tags.nil _ _,fun g h=>(by cases h),Step.refl _ _⟩
 ·obtain ⟨A,cp,xs,css,hbx,hT,hA,hs8⟩:=hI
  have hj:j < u.length:=(List.getElem?_eq_some_iff.1 hu).1
  refine (hone w8 B cp cx j k A Ax x x0 x1 x2 x3 xs _ hbx hox (fun b o hf=>?_) (by omega)).mono ?_
  ·rintro (h | h)
   ·exact hF _ _ hf.1 h
   have:=hA b h; have:=hf.2; omega
  rintro e w9 ⟨rfl,A',cp',Av,cv,hbx',ho',hn,hs9⟩
  refine ⟨rfl,A',cp',_,css ++ [[.int .u32 k,.slice Av x.length cv]],hbx',?_,fun g hg=>?_,hs8.trans hs9 fun b o hb h=>?_⟩
  ·rw [qcA hu]
   have e1:Tags w9 (fun b o=>w7.heap.size ≤ b ∧ ¬ TM B A' b o) xs (u.take j) css:=hT.move hs9 (fun b o h _=>h.2) (fun b o h hb=>⟨h.1,fun h'=>by
    rcases h' with h' | h'
    ·exact h.2 (.inl h')
    rcases hn b h' with h' | h'
    ·exact h.2 (.inr h')
    omega⟩)
   have e2:Octs w9 (fun b o=>w7.heap.size ≤ b ∧ ¬ TM B A' b o) Av cv x:=ho'.move (Step.refl _ Nil) nilM fun b o h _=>⟨by
    rcases h.1 with h' | h'
    ·exact Nat.le_trans hs8.size h'
    exact hA b h',h.2⟩
   exact e1.snoc (c:=[.int .u32 k,.slice Av x.length cv]) (x:=(k,x)) ⟨⟨_,_,rfl,e2⟩,hk.1,hk.2⟩
  ·rcases hn g hg with h | h
   ·exact hA g h
   exact Nat.le_trans hs8.size h
  rcases h with h | h
  ·exact h
  have:=hA b h; omega
 rintro e w' ⟨rfl,w7,hs,A,cp,xs,css,hbx,hT,hA,hs8⟩
 rw [List.take_length] at hT
 refine ⟨rfl,A,cp,hbx.str,?_,(hs.mono (N:=fun b o=>b = B ∧ o < 5) fun _ _ _ f=>f.elim).trans hs8 fun b o _ h=>h⟩
 exact ((hT.move (Step.refl _ Nil) nilM fun b o h _=>Nat.le_trans hs.size h.1).slots (F:=fun b o=>w.heap.size ≤ b) hbx.own rfl (by omega) fun g hg o=>Nat.le_trans hs.size (hA g hg))
def qkt (A:Option Addr) (s:ByteArray):Tree:=.mk 0 (if A.isNone = true then [] else sb s) A.isNone [] []
def qku (b:Bool):Tree:=.mk (if b = true then 1 else 0) [] false [] []
abbrev NoF:Nat → Nat → Prop:=fun _ _=>False
theorem WOk.strOut {G:Nat → Nat → Prop} {w0 w:World} {tb:Tb} {rs:List Rw} {p:Nat} {cs:List Value} (tb':Tb) (hW:WOk w0 Nil w tb rs) (ht:tb' ++ [⟨p,0,cs,true⟩] = tb:=by rfl):AtF w (Imm G w0 w tb' rs) p 0 cs:=fun j v hj=>by
 subst ht
 have hi:(tb' ++ [(⟨p,0,cs,true⟩:Ob)])[tb'.length]? = some ⟨p,0,cs,true⟩:=by rw [List.getElem?_append_right (Nat.le_refl _),Nat.sub_self]; rfl
 have h1:=hW.cells _ _ hi j v hj
 have hlt:j < cs.length:=(List.getElem?_eq_some_iff.1 hj).1
 refine ⟨⟨?_,hW.live _ _ hi,fun ha=>?_⟩,h1⟩
 ·rcases (hW.rw_ _ _ hi rfl j hlt).1 with h2 | h2
  ·exact .inr h2
  exact h2.elim
 rcases ha with ⟨k,ob,h2,h3,h4,h5,h6⟩ | ⟨k,r,h2,h3⟩
 ·have hk:k < tb'.length:=(List.getElem?_eq_some_iff.1 h2).1
  have h7:(tb' ++ [(⟨p,0,cs,true⟩:Ob)])[k]? = some ob:=by rw [List.getElem?_append_left hk]; exact h2
  rcases hW.apart k _ ob _ (by omega) h7 hi (.inr rfl) with h8 | h8 | h8
  ·exact h8 h4
  ·simp only [Nat.zero_add] at h5 h6; simp only [Nat.le_zero] at h8; omega
  simp only [Nat.zero_add] at h5 h6 h8; omega
 exact hW.rtb k r h2 p h3 _ _ hi rfl
theorem qhS {u:List (Int × Bs)} (h:qcQ u) {i j:Nat} {k k':Int} {s s':Bs} (hi:u[i]? = some (k,s)) (hj:u[j]? = some (k',s')) (hij:j < i):¬ k < k':=by
 obtain ⟨h1,h2⟩:=List.getElem?_eq_some_iff.1 hi
 obtain ⟨h3,h4⟩:=List.getElem?_eq_some_iff.1 hj
 have:=List.pairwise_iff_getElem.1 h j i h3 h1 hij
 rw [h2,h4] at this
 simp only at this
 omega
section
variable {w0 w:World} {tb:Tb} {rs:List Rw} {F:Nat → Nat → Prop}
theorem WOk.objFp (hW:WOk w0 Nil w tb rs) (i:Nat) {b:Nat} {cs:List Value} (hi:tb[i]? = some ⟨b,0,cs,true⟩):AtF w (Fp F w0) b 0 cs:=fun j v hj=>by
 have hlt:=(List.getElem?_eq_some_iff.1 hj).1
 refine ⟨?_,hW.cells i _ hi j v hj⟩
 rcases (hW.rw_ i _ hi rfl j hlt).1 with h | h
 ·exact .inr h
 exact h.elim
def TrL (w:World) (F:Nat → Nat → Prop):List (List Value) → List Tree → Prop
 | [],[]=>True
 | c :: cs,x :: xs=>TreeR w F c x ∧ TrL w F cs xs
 | _,_=>False
theorem TrL.move {w w':World} {F F' M:Nat → Nat → Prop} (hs:Step w w' M) (hM:∀ b o,F b o → b < w.heap.size → ¬ M b o) (hF:∀ b o,F b o → b < w.heap.size → F' b o):∀ {cs:List (List Value)} {l:List Tree},TrL w F cs l → TrL w' F' cs l
 | [],[],_=>trivial
 | _ :: _,_ :: _,h=>⟨h.1.move hs hM hF,TrL.move hs hM hF h.2⟩
 | [],_ :: _,h=>h.elim
 | _ :: _,[],h=>h.elim
theorem TrL.len:∀ {cs:List (List Value)} {l:List Tree},TrL w F cs l → cs.length = l.length
 | [],[],_=>rfl
 | _ :: _,_ :: _,h=>congrArg (· + 1) (TrL.len h.2)
 | [],_ :: _,h=>h.elim
 | _ :: _,[],h=>h.elim
theorem TrL.five:∀ {cs:List (List Value)} {l:List Tree},TrL w F cs l → ∀ c ∈ cs,c.length = 5
 | [],[],_=>fun c hc=>by cases hc
 | _ :: _,_ :: _,h=>fun c hc=>by
  rcases List.mem_cons.1 hc with rfl | hc
  ·exact h.1.five
  exact TrL.five h.2 c hc
 | [],_ :: _,h=>h.elim
 | _ :: _,[],h=>h.elim
theorem TrL.get:∀ {cs:List (List Value)} {l:List Tree},TrL w F cs l → ∀ (i:Nat) (x:Tree),l[i]? = some x → TreeR w F (cs.getD i []) x
 | [],[],_,i,x,hx=>by simp at hx
 | _ :: _,_ :: _,h,0,x,hx=>by
  simp only [List.getElem?_cons_zero,Option.some.injEq] at hx
  subst hx
  exact h.1
 | _ :: _,_ :: _,h,i + 1,x,hx=>TrL.get h.2 i x hx
 | [],_ :: _,h,_,_,_=>h.elim
 | _ :: _,[],h,_,_,_=>h.elim
theorem qk7 {b:Nat}:∀ (css:List (List Value)) (o:Nat),AtF w F b o css.flatten → (∀ c ∈ css,c.length = 5) → ∀ i,i < css.length → (css.getD i []).length = 5 ∧ AtF w F b (o + i * 5) (css.getD i [])
 | [],o,h,hl,i,hi=>absurd hi (Nat.not_lt_zero _)
 | c :: r,o,h,hl,0,_=>⟨hl c List.mem_cons_self,fun j v hj=>by
   have hj':c[j]? = some v:=hj
   have:=h j v (by rw [List.flatten_cons,List.getElem?_append_left (List.getElem?_eq_some_iff.1 hj').1]; exact hj')
   rw [show o + 0 * 5 + j = o + j by omega]
   exact this⟩
 | c :: r,o,h,hl,i + 1,hi=>by
  have hc:=hl c List.mem_cons_self
  have:=qk7 r (o + 5) (fun j v hj=>by
   have:=h (5 + j) v (by rw [List.flatten_cons,List.getElem?_append_right (by omega),show 5 + j - c.length = j by omega]; exact hj)
   rw [show o + 5 + j = o + (5 + j) by omega]
   exact this) (fun d hd=>hl d (List.mem_cons_of_mem _ hd)) i (by simpa using hi)
  rw [show o + (i + 1) * 5 = o + 5 + i * 5 by omega]
  exact this
theorem qhT {b:Nat} {css:List (List Value)} {l:List Tree} (h:AtF w F b 0 css.flatten) (hT:TrL w F css l) (hsm:l.length ≤ 1099511627776):Slots w F 5 (some ⟨b,0,none⟩) l.length l.length (fun i=>css.getD i []) :=
 ⟨Nat.le_refl _,hsm,fun h=>(by cases h),fun ad hA _=>⟨b,0,(Option.some.inj hA).symm,fun i hi=>qk7 css 0 h hT.five i (by rw [hT.len]; exact hi)⟩⟩
theorem Trees.xslen {w:World} {xs:List Value} {l:List Tree} {css:List (List Value)} (h:Trees w F xs l css):xs.length = l.length * 5:=by
 have h1:∀ css:List (List Value),(∀ c ∈ css,c.length = 5) → css.flatten.length = css.length * 5:=fun css hc=>by
  induction css with
  | nil=>rfl
  | cons c r ih =>
   rw [List.flatten_cons,List.length_append,hc c List.mem_cons_self,ih fun d hd=>hc d (List.mem_cons_of_mem _ hd),List.length_cons]
   omega
 rw [h.flat.eq,h1 css,h.len]
 intro c hc
 obtain ⟨i,hi,rfl⟩:=List.getElem_of_mem hc
 have hl:=h.len
 exact (h.each i _ _ (List.getElem?_eq_getElem hi) (List.getElem?_eq_getElem (show i < l.length by omega))).five
theorem qc0 {xs zs cs:List Value} {k:Nat} (hx:xs.length = k * 5) (hz:zs.length = cs.length:=by rfl):qbb (xs ++ zs) (k * 5) cs = xs ++ cs:=by
 unfold qbb
 rw [List.take_left' hx,List.drop_of_length_le (by rw [List.length_append]; omega),List.append_nil]
structure O16 (w:World) (F:Nat → Nat → Prop) (A:Option Addr) (c:Nat) (s:Bs):Prop where
 o:Octs w F A c s
 l:s.length = 16
theorem O16.move {w w':World} {F F' M:Nat → Nat → Prop} {A:Option Addr} {c:Nat} {s:Bs} (h:O16 w F A c s) (hs:Step w w' M) (hM:∀ b o,F b o → b < w.heap.size → ¬ M b o) (hF:∀ b o,F b o → b < w.heap.size → F' b o):O16 w' F' A c s:=⟨h.o.move hs hM hF,h.l⟩
theorem O16.src {w:World} {F:Nat → Nat → Prop} {A:Option Addr} {c:Nat} {s:Bs} (h:O16 w F A c s):Src w A 16 1 (bc s):=by
 have:=h.o.src
 rwa [h.l] at this
theorem O16.cap {w:World} {F:Nat → Nat → Prop} {A:Option Addr} {c:Nat} {s:Bs} (h:O16 w F A c s):A = none → c = 0:=h.o.cap
theorem qjZ {w:World} {F:Nat → Nat → Prop} {b o k:Nat} {cs:List Value} {s:Bs} (h:AtF w F b o cs) (hl:s.length = 16) (hc:∀ j,j < 16 → cs[k + j]? = some (qaa (s.getD j 0))):O16 w F (some ⟨b,o + k,none⟩) 16 s:=by
 refine ⟨⟨by omega,by omega,fun h=>(by cases h),fun ad hA _=>⟨b,o + k,(Option.some.inj hA).symm,fun i hi=>⟨rfl,fun j v hj=>?_⟩⟩⟩,hl⟩
 have hj0:j = 0:=by
  cases j with
  | zero=>rfl
  | succ j=>simp at hj
 subst hj0
 simp only [List.getElem?_cons_zero,Option.some.injEq] at hj
 subst hj
 have:=h (k + i) _ (hc i (by omega))
 rw [show o + k + i * 1 + 0 = o + (k + i) by omega]
 exact this
theorem qgu (hW:WOk w0 Nil w tb rs) {k:Nat} {A:Option Addr} {c e n:Nat} {xs:List Value} {l:List Tree} {css:List (List Value)} {b:Bool} (hk:rs[k]? = some ⟨A,c,e,5,n,xs⟩) (hT:Trees w (Imm F w0 w tb rs) xs l css) (hn:n = l.length) (hsm:l.length ≤ 1099511627776):TreeR w (Fp F w0) [.int .i64 0,.slice none 0 0,.bool b,.slice A n c,.slice none 0 0] (.mk 0 [] b l []):=by
 have h:=qg8 hW hk hT hn hsm
 subst hn
 exact TreeR.mk (s:=[]) (u:=[]) _ (Octs.nil _ _) h.1 h.2 (TagsR.nil _ _)
theorem qcr {L k:Nat} {f:Nat → Tree} (h:k < L):((List.range L).map f).take (k + 1) = ((List.range L).map f).take k ++ [f k] :=
 qcA (by rw [List.getElem?_map,List.getElem?_range h]; rfl)
theorem qho {L k:Nat} {f:Nat → Tree} (h:L ≤ k):((List.range L).map f).take k = (List.range L).map f:=List.take_of_length_le (by rw [List.length_map,List.length_range]; exact h)
theorem qci {L:Nat} {f:Nat → Tree}:((List.range L).map f).length = L:=by rw [List.length_map,List.length_range]
theorem qfP (hW:WOk w0 Nil w tb rs) (i:Nat) {b n2 c3:Nat} {A3:Option Addr} {u:List (Int × Bs)} {css:List (List Value)} {cs:List Value} {l:List Tree} (hi:tb[i]? = some ⟨b,0,cs,true⟩) (hT':TrL w (Fp F w0) css l) (hU:TagsR w (Fp F w0) A3 c3 u) (hf:css.flatten = cs:=by rfl) (hl:l.length = n2:=by rfl) (hn:Nat.ble n2 1000000 = true:=by kernel_rfl) :
  qcN w0 F (.mk 0 [] false l u) (.returned (.agg #[.int .i64 0,.slice none 0 0,.bool false,.slice (some ⟨b,0,none⟩) n2 n2,.slice A3 u.length c3])) w:=by
 subst hf
 subst hl
 have hn':=Nat.le_of_ble_eq_true hn
 exact ⟨_,rfl,TreeR.mk (s:=[]) _ (Octs.nil _ _) (qhT (hW.objFp i hi) hT' (by omega)) hT'.get hU,hW.step⟩
end
def qk8 (m:Nat):Prop:=∀ (ct:List Value) (t:Tree) (w:World) (F:Nat → Nat → Prop),TreeR w F ct t → t.depth ≤ m →
  Calls Tryz.prog 17 #[.agg ct.toArray] w (qcN w F t)
theorem qi6 {m:Nat} (hg:qk8 m) (ct:List Value) (t:Tree) (w:World) (F:Nat → Nat → Prop) (ht:TreeR w F ct t) (hd:t.depth ≤ m + 1) :
  Calls Tryz.prog 17 #[.agg ct.toArray] w (qcN w F t):=by
 obtain ⟨n1,s2,b3,l4,u5,A6,c7,A8,c9,ap,ar,dT,rfl,rfl,dw,dx,dU,dV⟩:=ht.open_
 have dy:=dw.small
 have dz:=dx.small
 obtain ⟨dW,dA,dX⟩:=dV.ex
 have dB:=dA.small
 refine enter (n:=49) Tryz.func17 rfl Tryz.ntmps17 kz fun a hE=>?_
 have hW:=WOk.start w Nil
 refine qae [0,1] kz ?_
 refine qaj (qbj hW hE (d:=1) (cs:=[.int .i64 n1,.slice A6 s2.length c7,.bool b3,.slice A8 l4.length c9,.slice ap u5.length ar]) kz fun bF fk fl dY dZ d5 cX cY=>?_)
 refine qaj (qaJ cX cY (d:=2) (cs:=[.int .i64 0,.slice none 0 0,.bool false,.slice none 0 0,.slice none 0 0]) kz fun bG fm fo d6 d7 d8 bI cZ=>?_)
 refine qag (qac ?_)
 refine qae [0,1,2,3,4,5,6,7,8] kz ?_
 refine qak [0,1,2,3,4,5,6] [7,8] [(1,.p 0 0),(2,.p 1 0),(14,.v (.agg #[.int .i64 n1,.slice A6 s2.length c7,.bool b3,.slice none 0 0,.slice none 0 0]))] bI cZ fun fq c5=>?_
 refine qaj (qaJ bI c5 (d:=3) (cs:=[.int .i64 0,.slice none 0 0,.bool false,.slice none 0 0,.slice none 0 0]) kz fun bH fr ft d9 ea eb c6 da=>?_)
 refine qaj (qan c6 da (oi:=2) (cs:=[.int .i64 n1,.slice A6 s2.length c7,.bool b3,.slice none 0 0,.slice none 0 0]) kz fun fu ec bz db=>?_)
 refine qag (qac ?_)
 refine wp_seq ?_
 refine qar [(1,.p 0 0),(2,.p 1 0),(3,.p 2 0),(16,.v (.slice A8 l4.length c9)),(17,.v (.int .i64 ((l4.length:Nat):Int))),(18,.v (.int .i64 0))] bz db fun fv dc=>?_
 refine wp_block ?_
 have bJ:=bz.addNil 26 5
 have ee:=bz.frNil 26 5
 refine wp_loop_ghost (fun n_ a_ w_=>∃ (k:Nat) (A_:Option Addr) (c_:Nat) (xs:List Value) (css:List (List Value)),n_ = l4.length - k ∧ k ≤ l4.length ∧ (Trees w_ (Imm F w w_ [⟨bF,0,[.int .i64 n1,.slice A6 s2.length c7,.bool b3,.slice A8 l4.length c9,.slice ap u5.length ar],true⟩,⟨bG,0,[.int .i64 0,.slice none 0 0,.bool false,.slice none 0 0,.slice none 0 0],true⟩,⟨bH,0,[.int .i64 n1,.slice A6 s2.length c7,.bool b3,.slice A_ k c_,.slice none 0 0],true⟩] [⟨A_,c_,26,5,k,xs⟩]) xs (l4.take k) css) ∧ LInv bJ 49 [⟨bF,0,[.int .i64 n1,.slice A6 s2.length c7,.bool b3,.slice A8 l4.length c9,.slice ap u5.length ar],true⟩,⟨bG,0,[.int .i64 0,.slice none 0 0,.bool false,.slice none 0 0,.slice none 0 0],true⟩,⟨bH,0,[.int .i64 n1,.slice A6 s2.length c7,.bool b3,.slice A_ k c_,.slice none 0 0],true⟩] [⟨A_,c_,26,5,k,xs⟩] [(1,.p 0 0),(2,.p 1 0),(3,.p 2 0),(16,.v (.slice A8 l4.length c9)),(17,.v (.int .i64 ((l4.length:Nat):Int))),(18,.v (.int .i64 ((k:Nat):Int)))] a_ w_) (l4.length) ⟨0,none,0,[],[],by omega,by omega,Trees.nil _ _,dc.pk,bJ,Fr.refl _ _ _⟩ ?_
 rintro fw fx fy ⟨k,A_,c_,xs,css,ef,eg,hT,de,aw,dg⟩
 refine qar [(1,.p 0 0),(2,.p 1 0),(3,.p 2 0),(16,.v (.slice A8 l4.length c9)),(17,.v (.int .i64 ((l4.length:Nat):Int))),(18,.v (.int .i64 ((k:Nat):Int))),(19,.v (.bool (decide (((k:Nat):Int) < ((l4.length:Nat):Int)))))] aw de fun fz bA=>?_
 refine wp_seq ?_
 refine qaz bA (b:=decide (((k:Nat):Int) < ((l4.length:Nat):Int))) kz (fun bB=>?_) (fun bB=>?_)
 ·
  have eh:=of_decide_eq_true bB
  refine wp_skip ?_
  refine qac ?_
  refine wp_seq ?_
  refine wp_block ?_
  refine qae [0,1,2,3] kz ?_
  obtain ⟨ei,ej,dh,ek,bf⟩:=Slots.get dx (i:=k) (by omega)
  obtain ⟨em,bC⟩:∃ x,l4[k]? = some x:=⟨_,List.getElem?_eq_getElem (by omega)⟩
  have bD:=dU k em bC
  obtain ⟨bK,bL,bM,bN,bO,bP,bQ,bR,bS,bT,bU,eo,rfl,bg,ep,eu,fA,fB⟩:=bD.open_
  rw [bg] at bD
  have dC:=ep.small
  have dD:=eu.small
  rw [bg] at bf
  refine qaj (qas bA (t:=34) (A:=A8) (m:=l4.length) (q:=((k:Nat):Int)) (d:=20) kz (e:=37) (size:=5) (bytes:=88) kz dh rfl (by omega) fun fC bV=>?_)
  refine qaj (qaH bV (t:=37) (b:=ei) (o:=ej + k * 5) (d:=21) kz (cs:=[.int .i64 bK,.slice bP bL.length bQ,.bool bM,.slice bR bN.length bS,.slice bT bO.length bU]) (v:=.agg #[.int .i64 bK,.slice bP bL.length bQ,.bool bM,.slice bR bN.length bS,.slice bT bO.length bU]) kz (AtF.move bf aw.step nilM qaZ).at_ fun ev bW=>?_)
  refine qaj (qaJ aw bW (d:=5) (cs:=[.int .i64 0,.slice none 0 0,.bool false,.slice none 0 0,.slice none 0 0]) kz fun ew ey ez dE dF ax bX bY=>?_)
  refine qaj (qan bX bY (oi:=3) (cs:=[.int .i64 bK,.slice bP bL.length bQ,.bool bM,.slice bR bN.length bS,.slice bT bO.length bU]) kz fun eB ay bZ b8=>?_)
  refine qag (qac ?_)
  refine qcm 7 kz bZ fun eC az ag cd=>?_
  refine qaD [0,1,2] [(1,.p 0 0),(2,.p 1 0),(3,.p 2 0),(16,.v (.slice A8 l4.length c9)),(17,.v (.int .i64 ((l4.length:Nat):Int))),(18,.v (.int .i64 ((k:Nat):Int))),(23,.v (.slice A_ k c_)),(24,.v (.agg #[.int .i64 bK,.slice bP bL.length bQ,.bool bM,.slice bR bN.length bS,.slice bT bO.length bU]))] 5 (qad (qab (qab (qad (qab qaf))))) (fun _ h=>h.cells) cd b8 fun eD ce=>?_
  refine qat (i:=3) kz (qal ce (f:=17) (vs:=[.agg #[.int .i64 bK,.slice bP bL.length bQ,.bool bM,.slice bR bN.length bS,.slice bT bO.length bU]]) (d:=25) kz Tryz.call17 ( hg _ _ _ _ (bD.move ag.step nilM ag.imm) (by have h_:=qg7 bC; rw [qga] at hd; omega)) ?_)
  rintro e_ eE ⟨dG,rfl,cg,aA⟩
  have aB:=cg.move (Step.refl _ Nil) nilM (ag.laid (G:=F) aA)
  obtain ⟨aC,aD,aE,aF,aG,aH,aI,aJ,aK,aL,aM,dH,dI,aN,di,dj,eF,eG⟩:=aB.open_
  rw [aN] at aB
  have dl:=di.small
  have dp:=dj.small
  rw [aN]
  refine ⟨_,rfl,fun eH cm=>?_⟩
  have bh:=ag.next_nil aA
  have ae:=ag.frN aA
  have cq:=TT.ofW ae bh
  refine ⟨fun _=>cq,?_⟩
  refine qat (i:=4) kz (qbC bh cm (e:=26) (size:=5) (len:=1) (cs:=[.int .i64 aC,.slice aH aD.length aI,.bool aE,.slice aJ aF.length aK,.slice aL aG.length aM]) (d:=26) kz kz fun dq eI eJ dJ dK aa au cr=>?_)
  have cu:=TT.ofW (ae.trans aa) au
  refine ⟨fun _=>cu,?_⟩
  refine qat (i:=5) kz (qaI au cr (k:=0) (d:=27) (t:=23) (e:=26) (size:=5) (bytes:=88) (A:=A_) (As:=(some ⟨dq,0,none⟩)) (m0:=k) (c:=c_) (m:=1) (cs:=1) (xs:=xs) (news:=[.int .i64 aC,.slice aH aD.length aI,.bool aE,.slice aJ aF.length aK,.slice aL aG.length aM]) kz kz rfl (qbo (au.own 1 _ rfl) (qbn kz)) (qbx (au.own 1 _ rfl)) (by omega) fun aO aP eK eL af bi cw=>?_)
  have bj:=TT.ofW ((ae.trans aa).trans af) bi
  refine ⟨fun _=>bj,?_⟩
  refine qaD [6] [(1,.p 0 0),(2,.p 1 0),(3,.p 2 0),(16,.v (.slice A8 l4.length c9)),(17,.v (.int .i64 ((l4.length:Nat):Int))),(18,.v (.int .i64 ((k:Nat):Int))),(27,.v (.slice aO (k + 1) aP)),(28,.p 2 3)] 1 (qad (qab (qab (qad (qab qaf))))) (fun _ h=>h.cells) bj cw fun eM cz=>?_
  refine qat (i:=7) kz (qan bi cz (oi:=2) (cs:=[.int .i64 n1,.slice A6 s2.length c7,.bool b3,.slice aO (k + 1) aP,.slice none 0 0]) kz fun eN ah bk cA=>?_)
  refine ⟨fun h=>absurd rfl h,?_⟩
  refine qaB kz ?_ _
  refine qaw ?_
  refine qac ?_
  refine qap [0,1] kz ?_
  refine qak [0,1] [] [(1,.p 0 0),(2,.p 1 0),(3,.p 2 0),(16,.v (.slice A8 l4.length c9)),(17,.v (.int .i64 ((l4.length:Nat):Int))),(18,.v (.int .i64 (IntKind.i64.wrap (((k:Nat):Int) + 1))))] bk cA fun eO cB=>?_
  refine qag (qac ?_)
  obtain ⟨bn,cC,ai⟩:=bk.cutB cB 3 [⟨bF,0,[.int .i64 n1,.slice A6 s2.length c7,.bool b3,.slice A8 l4.length c9,.slice ap u5.length ar],true⟩,⟨bG,0,[.int .i64 0,.slice none 0 0,.bool false,.slice none 0 0,.slice none 0 0],true⟩,⟨bH,0,[.int .i64 n1,.slice A6 s2.length c7,.bool b3,.slice aO (k + 1) aP,.slice none 0 0],true⟩] [(1,.p 0 0),(2,.p 1 0),(3,.p 2 0),(16,.v (.slice A8 l4.length c9)),(17,.v (.int .i64 ((l4.length:Nat):Int))),(18,.v (.int .i64 (IntKind.i64.wrap (((k:Nat):Int) + 1))))]
  obtain ⟨cD,aj⟩:=cC.cutR 1 [⟨aO,aP,26,5,k + 1,xs ++ [.int .i64 aC,.slice aH aD.length aI,.bool aE,.slice aJ aF.length aK,.slice aL aG.length aM]⟩]
  have cE:IntKind.i64.wrap (((k:Nat):Int) + 1) = ((k + 1:Nat):Int):=qaS (by omega)
  rw [cE] at bn
  exact ⟨l4.length - (k + 1),by omega,k + 1,aO,aP,xs ++ [Value.int .i64 aC,.slice aH aD.length aI,.bool aE,.slice aJ aF.length aK,.slice aL aG.length aM],(css ++ [[Value.int .i64 aC,.slice aH aD.length aI,.bool aE,.slice aJ aF.length aK,.slice aL aG.length aM]]),rfl,by omega,by rw [qcA bC]; exact (hT.move ((((((((ax.trans ay).trans az).trans ae).trans aa).trans af).trans ah).trans ai).trans aj).step immM ((((((((ax.trans ay).trans az).trans ae).trans aa).trans af).trans ah).trans ai).trans aj).to').snoc (aB.move ((((aa.trans af).trans ah).trans ai).trans aj).step immM ((((aa.trans af).trans ah).trans ai).trans aj).to'),bn.pk,cD,(((((((((dg.trans ax).trans ay).trans az).trans ae).trans aa).trans af).trans ah).trans ai).trans aj)⟩
 have dL:=of_decide_eq_false bB
 refine wp_exit ?_
 refine qav ?_
 refine qav ?_
 refine qaO ?_
 refine qac ?_
 refine wp_seq ?_
 refine qar [(2,.p 1 0),(3,.p 2 0),(31,.v (.slice ap u5.length ar)),(32,.v (.int .i64 ((u5.length:Nat):Int))),(33,.v (.int .i64 0))] aw bA fun eP cG=>?_
 refine wp_block ?_
 have hk0:k = l4.length:=by omega
 have bo:=aw.addNil 65 2
 have bp:=aw.frNil 65 2
 refine wp_loop_ghost (fun n_ a_ w_=>∃ (q:Nat) (A5_:Option Addr) (c5_:Nat) (ys:List Value) (dss:List (List Value)),n_ = u5.length - q ∧ q ≤ u5.length ∧ (Tags w_ (Imm F w w_ [⟨bF,0,[.int .i64 n1,.slice A6 s2.length c7,.bool b3,.slice A8 l4.length c9,.slice ap u5.length ar],true⟩,⟨bG,0,[.int .i64 0,.slice none 0 0,.bool false,.slice none 0 0,.slice none 0 0],true⟩,⟨bH,0,[.int .i64 n1,.slice A6 s2.length c7,.bool b3,.slice A_ k c_,.slice A5_ q c5_],true⟩] [⟨A_,c_,26,5,k,xs⟩,⟨A5_,c5_,65,2,q,ys⟩]) ys (u5.take q) dss) ∧ LInv bo 49 [⟨bF,0,[.int .i64 n1,.slice A6 s2.length c7,.bool b3,.slice A8 l4.length c9,.slice ap u5.length ar],true⟩,⟨bG,0,[.int .i64 0,.slice none 0 0,.bool false,.slice none 0 0,.slice none 0 0],true⟩,⟨bH,0,[.int .i64 n1,.slice A6 s2.length c7,.bool b3,.slice A_ k c_,.slice A5_ q c5_],true⟩] [⟨A_,c_,26,5,k,xs⟩,⟨A5_,c5_,65,2,q,ys⟩] [(2,.p 1 0),(3,.p 2 0),(31,.v (.slice ap u5.length ar)),(32,.v (.int .i64 ((u5.length:Nat):Int))),(33,.v (.int .i64 ((q:Nat):Int)))] a_ w_) (u5.length) ⟨0,none,0,[],[],by omega,by omega,Tags.nil _ _,cG.pk,bo,Fr.refl _ _ _⟩ ?_
 rintro eQ eR eS ⟨q,A5_,c5_,ys,dss,dM,dN,hU,cH,ak,aQ⟩
 refine qar [(2,.p 1 0),(3,.p 2 0),(31,.v (.slice ap u5.length ar)),(32,.v (.int .i64 ((u5.length:Nat):Int))),(33,.v (.int .i64 ((q:Nat):Int))),(34,.v (.bool (decide (((q:Nat):Int) < ((u5.length:Nat):Int)))))] ak cH fun eU aR=>?_
 refine wp_seq ?_
 refine qaz aR (b:=decide (((q:Nat):Int) < ((u5.length:Nat):Int))) kz (fun aS=>?_) (fun aS=>?_)
 ·
  have dO:=of_decide_eq_true aS
  refine wp_skip ?_
  refine qac ?_
  refine wp_seq ?_
  refine wp_block ?_
  refine qae [0,1,2,3] kz ?_
  obtain ⟨dr,dt,cI,dP,aT⟩:=Slots.get dA (i:=q) (by omega)
  obtain ⟨⟨ab,ac⟩,bq⟩:∃ x,u5[q]? = some x:=⟨_,List.getElem?_eq_getElem (by omega)⟩
  obtain ⟨⟨al,am,bE,cJ⟩,du,dv⟩:=dX q ab ac bq
  rw [bE] at aT
  refine qaj (qas aR (t:=35) (A:=ap) (m:=u5.length) (q:=((q:Nat):Int)) (d:=35) kz (e:=64) (size:=2) (bytes:=32) kz cI rfl (by omega) fun eV cK=>?_)
  refine qaj (qaH cK (t:=64) (b:=dr) (o:=dt + q * 2) (d:=36) kz (cs:=[.int .u32 ab,.slice al ac.length am]) (v:=.agg #[.int .u32 ab,.slice al ac.length am]) kz (AtF.move aT ak.step nilM qaZ).at_ fun eW cL=>?_)
  refine qaj (qaJ ak cL (d:=7) (cs:=[.int .u32 0,.slice none 0 0]) kz fun eX eY eZ dQ dR aU cM cN=>?_)
  refine qaj (qan cM cN (oi:=3) (cs:=[.int .u32 ab,.slice al ac.length am]) kz fun e9 aV bt cO=>?_)
  refine qag (qac ?_)
  refine qap [0,1,2,3,4,5,6,7,8,9,10] kz ?_
  refine qak [0,1,2,3,4,5,6] [7,8,9,10] [(2,.p 1 0),(3,.p 2 0),(31,.v (.slice ap u5.length ar)),(32,.v (.int .i64 ((u5.length:Nat):Int))),(33,.v (.int .i64 ((q:Nat):Int))),(38,.v (.slice A5_ q c5_)),(43,.v (.agg #[.int .u32 ab,.slice al ac.length am]))] bt cO fun fa cP=>?_
  refine qcd bt cP (k:=1) (e:=65) (size:=2) (len:=1) (cs:=[.int .u32 ab,.slice al ac.length am]) (d1:=44) (d:=45) kz (t:=24) (bytes:=32) kz (fun _=>by kernel_rfl) rfl kz (by omega) fun ba bd fb fe aW bu ⟨_,cQ⟩=>?_
  refine qak [9] [10] [(2,.p 1 0),(3,.p 2 0),(31,.v (.slice ap u5.length ar)),(32,.v (.int .i64 ((u5.length:Nat):Int))),(33,.v (.int .i64 ((q:Nat):Int))),(45,.v (.slice ba (q + 1) bd)),(46,.p 2 4)] bu cQ fun ff cR=>?_
  refine qaj (qan bu cR (oi:=2) (cs:=[.int .i64 n1,.slice A6 s2.length c7,.bool b3,.slice A_ k c_,.slice ba (q + 1) bd]) kz fun fg aX bw cS=>?_)
  refine qag ?_
  refine qaw ?_
  refine qac ?_
  refine qap [0,1] kz ?_
  refine qak [0,1] [] [(2,.p 1 0),(3,.p 2 0),(31,.v (.slice ap u5.length ar)),(32,.v (.int .i64 ((u5.length:Nat):Int))),(33,.v (.int .i64 (IntKind.i64.wrap (((q:Nat):Int) + 1))))] bw cS fun fh cT=>?_
  refine qag (qac ?_)
  obtain ⟨bx,aY,aZ⟩:=bw.cutB cT 3 [⟨bF,0,[.int .i64 n1,.slice A6 s2.length c7,.bool b3,.slice A8 l4.length c9,.slice ap u5.length ar],true⟩,⟨bG,0,[.int .i64 0,.slice none 0 0,.bool false,.slice none 0 0,.slice none 0 0],true⟩,⟨bH,0,[.int .i64 n1,.slice A6 s2.length c7,.bool b3,.slice A_ k c_,.slice ba (q + 1) bd],true⟩] [(2,.p 1 0),(3,.p 2 0),(31,.v (.slice ap u5.length ar)),(32,.v (.int .i64 ((u5.length:Nat):Int))),(33,.v (.int .i64 (IntKind.i64.wrap (((q:Nat):Int) + 1))))]
  have cU:IntKind.i64.wrap (((q:Nat):Int) + 1) = ((q + 1:Nat):Int):=qaS (by omega)
  rw [cU] at bx
  exact ⟨u5.length - (q + 1),by omega,q + 1,ba,bd,ys ++ [Value.int .u32 ab,.slice al ac.length am],(dss ++ [[Value.int .u32 ab,.slice al ac.length am]]),rfl,by omega,by rw [qcA bq]; exact (hU.move ((((aU.trans aV).trans aW).trans aX).trans aZ).step immM ((((aU.trans aV).trans aW).trans aX).trans aZ).to').snoc (c:=[.int .u32 ab,.slice al ac.length am]) (x:=(ab,ac)) ⟨⟨_,_,rfl,(cJ.move aY.step nilM aY.imm)⟩,du,dv⟩,bx.pk,aY,(((((aQ.trans aU).trans aV).trans aW).trans aX).trans aZ)⟩
 have dS:=of_decide_eq_false aS
 refine wp_exit ?_
 refine qav ?_
 refine qav ?_
 refine qaO ?_
 refine qac ?_
 refine qae [0,1] kz ?_
 refine qak [0] [1] [(2,.p 1 0),(48,.v (.agg #[.int .i64 n1,.slice A6 s2.length c7,.bool b3,.slice A_ k c_,.slice A5_ q c5_]))] ak aR fun fi cV=>?_
 refine qaj (qan ak cV (oi:=1) (cs:=[.int .i64 n1,.slice A6 s2.length c7,.bool b3,.slice A_ k c_,.slice A5_ q c5_]) kz fun fj av ao cW=>?_)
 refine qag (qac ?_)
 refine wp_ret ?_
 refine qaP cW ao.cells (v:=.agg #[.int .i64 n1,.slice A6 s2.length c7,.bool b3,.slice A_ k c_,.slice A5_ q c5_]) kz ?_
 have hq0:q = u5.length:=by omega
 have hT':=(hT.move ((bp.trans aQ).trans av).step immM ((bp.trans aQ).trans av).to')
 have hU':=(hU.move av.step immM av.to')
 rw [show l4.take k = l4 by rw [hk0,List.take_length]] at hT'
 rw [show u5.take q = u5 by rw [hq0,List.take_length]] at hU'
 exact qjs ao rfl (dw.move ao.step nilM qkb) hk0 (qg8 ao (k:=0) rfl hT' hk0 (by omega)) hq0 (qka ao (k:=1) rfl hU' hq0 (by omega)) rfl
theorem lGot:∀ m,qk8 m
 | 0=>fun ct t w F ht hd=>by
  obtain ⟨n,s,b,l,u,A1,c1,A2,c2,A3,c3,xs,rfl,_⟩:=ht.open_
  rw [qga] at hd; omega
 | m + 1=>qi6 (lGot m)
theorem qgY {u:List (Int × Bs)} {A:Option Addr} {c:Nat} {w:World} {F:Nat → Nat → Prop} (hu:TagsR w F A c u) (hsrt:qcQ u):Calls Tryz.prog 105 #[.slice A u.length c] w (qck w (.tuple #[])):=by
 obtain ⟨cs1,h2,h3⟩:=hu.ex
 have hsm4:=h2.small
 refine enter (n:=45) Tryz.func105 rfl Tryz.ntmps105 kz fun a hE=>?_
 have hW:=WOk.start w Nil
 refine qar [(0,.v (.slice A u.length c)),(5,.v (.int .i64 ((u.length:Nat):Int))),(6,.v (.int .i64 0))] hW hE fun a5 hE6=>?_
 refine wp_block ?_
 refine wp_loop_ghost (fun n_ a_ w_=>∃ (k:Nat),n_ = u.length - k ∧ k ≤ u.length ∧ LInv hW 45 [] [] [(0,.v (.slice A u.length c)),(5,.v (.int .i64 ((u.length:Nat):Int))),(6,.v (.int .i64 ((k:Nat):Int)))] a_ w_) (u.length) ⟨0,by omega,by omega,hE6.pk,hW,Fr.refl _ _ _⟩ ?_
 rintro n7 a8 w9 ⟨k,aW,aX,aB,ab,aj⟩
 refine qar [(0,.v (.slice A u.length c)),(5,.v (.int .i64 ((u.length:Nat):Int))),(6,.v (.int .i64 ((k:Nat):Int))),(7,.v (.bool (decide (((k:Nat):Int) < ((u.length:Nat):Int)))))] ab aB fun bn ah=>?_
 refine wp_seq ?_
 refine qaz ah (b:=decide (((k:Nat):Int) < ((u.length:Nat):Int))) kz (fun ai=>?_) (fun ai=>?_)
 ·
  have aY:=of_decide_eq_true ai
  refine wp_skip ?_
  refine qac ?_
  refine wp_seq ?_
  refine wp_block ?_
  refine qar [(0,.v (.slice A u.length c)),(2,.v (.int .i64 ((k:Nat):Int))),(5,.v (.int .i64 ((u.length:Nat):Int))),(6,.v (.int .i64 ((k:Nat):Int)))] ab ah fun bo aC=>?_
  refine qar [(0,.v (.slice A u.length c)),(3,.v (.int .i64 ((k:Nat):Int))),(5,.v (.int .i64 ((u.length:Nat):Int))),(6,.v (.int .i64 ((k:Nat):Int)))] ab aC fun bp aD=>?_
  refine wp_block ?_
  refine qfL ?_
  refine wp_seq ?_
  refine qbJ kz ab fun bq ak aa=>?_
  refine qaD [0,1,2] [(0,.v (.slice A u.length c)),(3,.v (.int .i64 ((k:Nat):Int))),(5,.v (.int .i64 ((u.length:Nat):Int))),(6,.v (.int .i64 ((k:Nat):Int))),(12,.v (.bool (decide (((k:Nat):Int) > 0))))] 13 (qab (qab (qab (qad (qad (qab (qab (qad qaf)))))))) (fun _ h=>h ▸ aa.cells) rfl aD fun bt al=>?_
  refine (Bool.eq_false_or_eq_true (decide (((k:Nat):Int) > 0))).elim (fun ac=>?_) (fun ac=>?_)
  ·
   have aZ:=of_decide_eq_true ac
   have aE:=al.cast (env':=[(0,.v (.slice A u.length c)),(3,.v (.int .i64 ((k:Nat):Int))),(5,.v (.int .i64 ((u.length:Nat):Int))),(6,.v (.int .i64 ((k:Nat):Int))),(12,.v (.bool true))]) (by rw [ac])
   refine qaD [3,4,8,9,10] [(0,.v (.slice A u.length c)),(3,.v (.int .i64 ((k:Nat):Int))),(5,.v (.int .i64 ((u.length:Nat):Int))),(6,.v (.int .i64 ((k:Nat):Int))),(12,.v (.bool true)),(13,.v (.slice A u.length c)),(14,.v (.int .i64 ((k:Nat):Int))),(18,.v (.slice A u.length c)),(20,.v (.int .i64 (IntKind.i64.wrap (((k:Nat):Int) - 1))))] 8 (qab (qab (qab (qad (qad (qab (qab (qad qaf)))))))) (fun _ h=>h ▸ aa.cells) rfl aE fun bu aF=>?_
   obtain ⟨az,aA,aG,ba,ae⟩:=Slots.get h2 (i:=k) (by omega)
   obtain ⟨⟨af,bd⟩,am⟩:∃ x,u[k]? = some x:=⟨_,List.getElem?_eq_getElem (by omega)⟩
   obtain ⟨⟨bw,bx,ao,bf⟩,bz,bA⟩:=h3 k af bd am
   rw [ao] at ae
   refine qaE aF (i:=5) (t:=35) (A:=A) (m:=u.length) (q:=((k:Nat):Int)) (d:=15) kz (e:=64) (size:=2) (bytes:=32) kz aG rfl (by omega) kz kz (qab (qab (qab (qad (qad (qab (qab (qad qaf)))))))) rfl fun bB aH=>?_
   refine qaD [6] [(0,.v (.slice A u.length c)),(3,.v (.int .i64 ((k:Nat):Int))),(5,.v (.int .i64 ((u.length:Nat):Int))),(6,.v (.int .i64 ((k:Nat):Int))),(12,.v (.bool true)),(16,.v (.pointer (some ⟨az,aA + k * 2,none⟩))),(18,.v (.slice A u.length c)),(20,.v (.int .i64 (IntKind.i64.wrap (((k:Nat):Int) - 1))))] 6 (qab (qab (qab (qad (qad (qab (qab (qad qaf)))))))) (fun _ h=>h ▸ aa.cells) rfl aH fun bC aI=>?_
   refine qa0 aI (i:=7) (t:=62) (b:=az) (o:=aA + k * 2) (d:=17) kz (cs:=[.int .u32 af]) (v:=.int .u32 af) kz (fun w' h'=>h' ▸ (At.drop (AtF.move ae aa.step nilM qaZ).at_ 0 1)) kz kz (qab (qab (qab (qad (qad (qab (qab (qad qaf)))))))) rfl fun bD aJ=>?_
   have aK:IntKind.i64.wrap (((k:Nat):Int) - 1) = (((k - 1):Nat):Int):=by simp only [qaG,qao,qbl,IntKind.wrap_i64,IntKind.wrap_i32]; omega
   have aL:=EnvOk.pick aJ (ks:=[0,3,5,6,12,16,18,20,17]) (env':=[(0,.v (.slice A u.length c)),(3,.v (.int .i64 ((k:Nat):Int))),(5,.v (.int .i64 ((u.length:Nat):Int))),(6,.v (.int .i64 ((k:Nat):Int))),(12,.v (.bool true)),(16,.v (.pointer (some ⟨az,aA + k * 2,none⟩))),(18,.v (.slice A u.length c)),(20,.v (.int .i64 (IntKind.i64.wrap (((k:Nat):Int) - 1)))),(17,.v (.int .u32 af))]) kz
   have aM:=aL.cast (env':=[(0,.v (.slice A u.length c)),(3,.v (.int .i64 ((k:Nat):Int))),(5,.v (.int .i64 ((u.length:Nat):Int))),(6,.v (.int .i64 ((k:Nat):Int))),(12,.v (.bool true)),(16,.v (.pointer (some ⟨az,aA + k * 2,none⟩))),(18,.v (.slice A u.length c)),(20,.v (.int .i64 (((k - 1):Nat):Int))),(17,.v (.int .u32 af))]) (by rw [aK])
   obtain ⟨aU,aV,aN,bg,ag⟩:=Slots.get h2 (i:=(k - 1)) (by omega)
   obtain ⟨⟨ap,bh⟩,ar⟩:∃ x,u[(k - 1)]? = some x:=⟨_,List.getElem?_eq_getElem (by omega)⟩
   obtain ⟨⟨bE,bF,au,bi⟩,bG,bH⟩:=h3 (k - 1) ap bh ar
   rw [au] at ag
   refine qaE aM (i:=11) (t:=35) (A:=A) (m:=u.length) (q:=(((k - 1):Nat):Int)) (d:=21) kz (e:=64) (size:=2) (bytes:=32) kz aN rfl (by omega) kz kz (qab (qab (qab (qad (qad (qab (qab (qad qaf)))))))) rfl fun bI aO=>?_
   refine qaD [12] [(0,.v (.slice A u.length c)),(3,.v (.int .i64 ((k:Nat):Int))),(5,.v (.int .i64 ((u.length:Nat):Int))),(6,.v (.int .i64 ((k:Nat):Int))),(12,.v (.bool true)),(17,.v (.int .u32 af)),(22,.v (.pointer (some ⟨aU,aV + (k - 1) * 2,none⟩)))] 3 (qab (qab (qab (qad (qad (qab (qab (qad qaf)))))))) (fun _ h=>h ▸ aa.cells) rfl aO fun bJ aP=>?_
   refine qa0 aP (i:=13) (t:=62) (b:=aU) (o:=aV + (k - 1) * 2) (d:=23) kz (cs:=[.int .u32 ap]) (v:=.int .u32 ap) kz (fun w' h'=>h' ▸ (At.drop (AtF.move ag aa.step nilM qaZ).at_ 0 1)) kz kz (qab (qab (qab (qad (qad (qab (qab (qad qaf)))))))) rfl fun bK aQ=>?_
   refine qaD [14,15] [(0,.v (.slice A u.length c)),(3,.v (.int .i64 ((k:Nat):Int))),(5,.v (.int .i64 ((u.length:Nat):Int))),(6,.v (.int .i64 ((k:Nat):Int))),(25,.v (.bool (decide (af < ap))))] 0 (qab (qab (qab (qad (qad (qab (qab (qad qaf)))))))) (fun _ h=>h ▸ aa.cells) rfl aQ fun bL av=>?_
   refine qaB kz ?_ _
   refine qac ?_
   refine qau av (b:=decide (af < ap)) kz (decide_eq_false (qhS hsrt am ar (by omega))) ?_
   refine wp_exit ?_
   refine qav ?_
   refine qav ?_
   refine qaO ?_
   refine qaw ?_
   refine qac ?_
   refine qap [0,1] kz ?_
   refine qak [0,1] [] [(0,.v (.slice A u.length c)),(5,.v (.int .i64 ((u.length:Nat):Int))),(6,.v (.int .i64 (IntKind.i64.wrap (((k:Nat):Int) + 1))))] aa av fun bM aw=>?_
   refine qag (qac ?_)
   have aR:IntKind.i64.wrap (((k:Nat):Int) + 1) = ((k + 1:Nat):Int):=qaS (by omega)
   rw [aR] at aw
   exact ⟨u.length - (k + 1),by omega,k + 1,rfl,by omega,aw.pk,aa,(aj.trans ak)⟩
  have bj:=of_decide_eq_false ac
  have aS:=al.cast (env':=[(0,.v (.slice A u.length c)),(3,.v (.int .i64 ((k:Nat):Int))),(5,.v (.int .i64 ((u.length:Nat):Int))),(6,.v (.int .i64 ((k:Nat):Int))),(12,.v (.bool false))]) (by rw [ac])
  refine qaD [3,4,5,6,7,8,9,10,11,12,13,14,15] [(0,.v (.slice A u.length c)),(3,.v (.int .i64 ((k:Nat):Int))),(5,.v (.int .i64 ((u.length:Nat):Int))),(6,.v (.int .i64 ((k:Nat):Int))),(25,.v (.bool false))] 0 (qab (qab (qab (qad (qad (qab (qab (qad qaf)))))))) (fun _ h=>h ▸ aa.cells) rfl aS fun bN ax=>?_
  refine qaB kz ?_ _
  refine qac ?_
  refine qau ax (b:=false) kz rfl ?_
  refine wp_exit ?_
  refine qav ?_
  refine qav ?_
  refine qaO ?_
  refine qaw ?_
  refine qac ?_
  refine qap [0,1] kz ?_
  refine qak [0,1] [] [(0,.v (.slice A u.length c)),(5,.v (.int .i64 ((u.length:Nat):Int))),(6,.v (.int .i64 (IntKind.i64.wrap (((k:Nat):Int) + 1))))] aa ax fun bO ay=>?_
  refine qag (qac ?_)
  have aT:IntKind.i64.wrap (((k:Nat):Int) + 1) = ((k + 1:Nat):Int):=qaS (by omega)
  rw [aT] at ay
  exact ⟨u.length - (k + 1),by omega,k + 1,rfl,by omega,ay.pk,aa,(aj.trans ak)⟩
 have bk:=of_decide_eq_false ai
 refine wp_exit ?_
 refine qav ?_
 refine qav ?_
 refine qaO ?_
 refine qbu ah ab.cells (v:=.tuple #[]) kz ?_
 exact ⟨rfl,ab.step⟩
theorem qk9 (s:ByteArray) (w:World) (F:Nat → Nat → Prop):Calls Tryz.prog 101 #[.pointer none] w (qcN w F (.mk 0 [] true [] [])):=by
 refine enter (n:=11) Tryz.func101 rfl Tryz.ntmps101 kz fun a hE=>?_
 have hW:=WOk.start w Nil
 refine qae [0] kz ?_
 refine qaj (qaJ hW hE (d:=2) (cs:=[.int .i64 0,.slice none 0 0,.bool false,.slice none 0 0,.slice none 0 0]) kz fun b1 a2 w3 hb4 hz5 hF6 hW7 hE8=>?_)
 refine qag (qac ?_)
 refine wp_seq ?_
 refine qar [(0,.v (.pointer none)),(2,.p 0 0),(4,.v (.bool true))] hW7 hE8 fun a9 aa=>?_
 refine qbg aa (b:=true) kz rfl ?_
 refine qae [0,1] kz ?_
 refine qak [0] [1] [(2,.p 0 0),(5,.v (.agg #[.int .i64 0,.slice none 0 0,.bool true,.slice none 0 0,.slice none 0 0]))] hW7 aa fun ah ac=>?_
 refine qaj (qan hW7 ac (oi:=0) (cs:=[.int .i64 0,.slice none 0 0,.bool true,.slice none 0 0,.slice none 0 0]) kz fun af ag ab ae=>?_)
 refine qag (qac ?_)
 refine wp_ret ?_
 refine qaA ?_
 refine qaP ae ab.cells (v:=.agg #[.int .i64 0,.slice none 0 0,.bool true,.slice none 0 0,.slice none 0 0]) kz ?_
 exact ⟨_,rfl,(show TreeR _ (Imm F w af [⟨b1,0,[.int .i64 0,.slice none 0 0,.bool true,.slice none 0 0,.slice none 0 0],true⟩] []) _ (Tree.mk 0 [] true [] []) from (TreeR.mk (n:=0) (b:=true) (s:=[]) (l:=[]) (u:=[]) (fun _=>[]) (Octs.nil _ _) (Slots.nil _ _ _ _) (fun i_ x_ h_=>by simp at h_) (TagsR.nil _ _))).move (Step.refl _ Nil) nilM qbp,ab.step⟩
theorem qla (b o:Nat) (s:ByteArray) (w:World) (F:Nat → Nat → Prop) (hat:AtF w F b o [.string s]) (hs:s.size ≤ 1000000):Calls Tryz.prog 101 #[.pointer (some ⟨b,o,none⟩)] w (qcN w F (.mk 0 (sb s) false [] [])):=by
 refine enter (n:=11) Tryz.func101 rfl Tryz.ntmps101 kz fun a hE=>?_
 have hW:=WOk.start w Nil
 refine qae [0] kz ?_
 refine qaj (qaJ hW hE (d:=2) (cs:=[.int .i64 0,.slice none 0 0,.bool false,.slice none 0 0,.slice none 0 0]) kz fun b1 a2 w3 hb4 hz5 hF6 hW7 hE8=>?_)
 refine qag (qac ?_)
 refine wp_seq ?_
 refine qar [(0,.v (.pointer (some ⟨b,o,none⟩))),(2,.p 0 0),(4,.v (.bool false))] hW7 hE8 fun a9 aa=>?_
 refine qau aa (b:=false) kz rfl ?_
 refine wp_skip ?_
 refine qac ?_
 refine qae [0,1,2,3,4,5] kz ?_
 refine qak [0,1] [2,3,4,5] [(2,.p 0 0),(7,.v (.pointer (some ⟨b,o,none⟩)))] hW7 aa fun au ah=>?_
 refine qaj (qaH ah (t:=9) (b:=b) (o:=o) (d:=8) kz (cs:=[.string s]) (v:=.string s) kz (AtF.move hat hW7.step nilM qaZ).at_ fun av ai=>?_)
 refine qaj (qfo (d:=9) (src:=9) (dst:=22) (e:=5) (s:=s) hW7 ai (by omega) fun af ag aw ax ap ab aj ak=>?_)
 have al:=aj F
 refine qak [4] [5] [(2,.p 0 0),(10,.v (.agg #[.int .i64 0,.slice (some ⟨af,0,none⟩) ((sb s).length) ag,.bool false,.slice none 0 0,.slice none 0 0]))] ab ak fun ay am=>?_
 refine qaj (qan ab am (oi:=0) (cs:=[.int .i64 0,.slice (some ⟨af,0,none⟩) ((sb s).length) ag,.bool false,.slice none 0 0,.slice none 0 0]) kz fun ar ac ae ao=>?_)
 refine qag (qac ?_)
 refine wp_ret ?_
 refine qaP ao ae.cells (v:=.agg #[.int .i64 0,.slice (some ⟨af,0,none⟩) ((sb s).length) ag,.bool false,.slice none 0 0,.slice none 0 0]) kz ?_
 exact ⟨_,rfl,(show TreeR _ (Imm F w ar [⟨b1,0,[.int .i64 0,.slice (some ⟨af,0,none⟩) ((sb s).length) ag,.bool false,.slice none 0 0,.slice none 0 0],true⟩] []) _ (Tree.mk 0 (sb s) false [] []) from (TreeR.mk (n:=0) (b:=false) (s:=(sb s)) (l:=[]) (u:=[]) (fun _=>[]) (al.move ac.step immM ac.to') (Slots.nil _ _ _ _) (fun i_ x_ h_=>by simp at h_) (TagsR.nil _ _))).move (Step.refl _ Nil) nilM qbp,ae.step⟩
theorem qlo (A:Option Addr) (s:ByteArray) (w:World) (F:Nat → Nat → Prop) (hO:∀ ad,A = some ad → ∃ b o,ad = ⟨b,o,none⟩ ∧ AtF w F b o [.string s]) (hs:s.size ≤ 1000000):Calls Tryz.prog 101 #[.pointer A] w (qcN w F (qkt A s)):=by
 cases A with
 | none=>exact qk9 s w F
 | some ad =>
  obtain ⟨b,o,rfl,h⟩:=hO ad rfl
  exact qla b o s w F h hs
theorem qhU (w:World) (F:Nat → Nat → Prop):Calls Tryz.prog 100 #[.bool true] w (qcN w F (.mk 1 [] false [] [])):=by
 refine enter (n:=6) Tryz.func100 rfl Tryz.ntmps100 kz fun a hE=>?_
 have hW:=WOk.start w Nil
 refine qae [0] kz ?_
 refine qaj (qaJ hW hE (d:=2) (cs:=[.int .i64 0,.slice none 0 0,.bool false,.slice none 0 0,.slice none 0 0]) kz fun b1 a2 w3 hb4 hz5 hF6 hW7 hE8=>?_)
 refine qag (qac ?_)
 refine wp_seq ?_
 refine qar [(2,.p 0 0),(3,.v (.bool true))] hW7 hE8 fun a9 aa=>?_
 refine qbg aa (b:=true) kz rfl ?_
 refine qae [0,1] kz ?_
 refine qak [0] [1] [(2,.p 0 0),(4,.v (.agg #[.int .i64 1,.slice none 0 0,.bool false,.slice none 0 0,.slice none 0 0]))] hW7 aa fun ah ac=>?_
 refine qaj (qan hW7 ac (oi:=0) (cs:=[.int .i64 1,.slice none 0 0,.bool false,.slice none 0 0,.slice none 0 0]) kz fun af ag ab ae=>?_)
 refine qag (qac ?_)
 refine wp_ret ?_
 refine qaA ?_
 refine qaP ae ab.cells (v:=.agg #[.int .i64 1,.slice none 0 0,.bool false,.slice none 0 0,.slice none 0 0]) kz ?_
 exact ⟨_,rfl,(show TreeR _ (Imm F w af [⟨b1,0,[.int .i64 1,.slice none 0 0,.bool false,.slice none 0 0,.slice none 0 0],true⟩] []) _ (Tree.mk 1 [] false [] []) from (TreeR.mk (n:=1) (b:=false) (s:=[]) (l:=[]) (u:=[]) (fun _=>[]) (Octs.nil _ _) (Slots.nil _ _ _ _) (fun i_ x_ h_=>by simp at h_) (TagsR.nil _ _))).move (Step.refl _ Nil) nilM qbp,ab.step⟩
theorem qgZ (w:World) (F:Nat → Nat → Prop):Calls Tryz.prog 100 #[.bool false] w (qcN w F (.mk 0 [] false [] [])):=by
 refine enter (n:=6) Tryz.func100 rfl Tryz.ntmps100 kz fun a hE=>?_
 have hW:=WOk.start w Nil
 refine qae [0] kz ?_
 refine qaj (qaJ hW hE (d:=2) (cs:=[.int .i64 0,.slice none 0 0,.bool false,.slice none 0 0,.slice none 0 0]) kz fun b1 a2 w3 hb4 hz5 hF6 hW7 hE8=>?_)
 refine qag (qac ?_)
 refine wp_seq ?_
 refine qar [(2,.p 0 0),(3,.v (.bool false))] hW7 hE8 fun a9 aa=>?_
 refine qau aa (b:=false) kz rfl ?_
 refine wp_skip ?_
 refine qac ?_
 refine qae [0,1] kz ?_
 refine qak [0] [1] [(2,.p 0 0),(5,.v (.agg #[.int .i64 0,.slice none 0 0,.bool false,.slice none 0 0,.slice none 0 0]))] hW7 aa fun ah ac=>?_
 refine qaj (qan hW7 ac (oi:=0) (cs:=[.int .i64 0,.slice none 0 0,.bool false,.slice none 0 0,.slice none 0 0]) kz fun af ag ab ae=>?_)
 refine qag (qac ?_)
 refine wp_ret ?_
 refine qaP ae ab.cells (v:=.agg #[.int .i64 0,.slice none 0 0,.bool false,.slice none 0 0,.slice none 0 0]) kz ?_
 exact ⟨_,rfl,(show TreeR _ (Imm F w af [⟨b1,0,[.int .i64 0,.slice none 0 0,.bool false,.slice none 0 0,.slice none 0 0],true⟩] []) _ (Tree.mk 0 [] false [] []) from (TreeR.mk (n:=0) (b:=false) (s:=[]) (l:=[]) (u:=[]) (fun _=>[]) (Octs.nil _ _) (Slots.nil _ _ _ _) (fun i_ x_ h_=>by simp at h_) (TagsR.nil _ _))).move (Step.refl _ Nil) nilM qbp,ab.step⟩
theorem qlp (b:Bool) (w:World) (F:Nat → Nat → Prop):Calls Tryz.prog 100 #[.bool b] w (qcN w F (qku b)):=by
 cases b
 ·exact qgZ w F
 exact qhU w F
theorem qey:qeW Tryz.prog 133 64:=by
 intro w B cp c n k A Av x x0 x1 x2 x3 xs G hbx ho hG hn
 refine enter (n:=14) Tryz.func133 rfl Tryz.ntmps133 kz fun a hE=>?_
 have hW:=hbx.wok
 have hE0:=(hE.grow ⟨B,0,[x0,x1,x2,x3,.slice A n cp],true⟩).recast 2 (.v (.pointer (some ⟨B,0,none⟩))) (.p 0 0) rfl rfl (by simp [SV.ok])
 have hsm:=Slots.small ho
 have ap:=hE0.pk (env':=[(0,.v (.int .u32 k)),(1,.v (.slice Av x.length c)),(2,.p 0 0)])
 refine qcm 9 kz hW fun w1 hF2 hW3 hT4=>?_
 refine qaD [0,1,2,3] [(2,.p 0 0),(6,.v (.slice A n cp)),(7,.v (.int .u32 k)),(8,.v (.slice Av x.length c))] 6 qaf (fun _ h=>h.cells) hT4 ap fun a5 hE6=>?_
 have hW7:=hW3.addNil 5 1
 have hF8:=hW3.frNil 5 1
 refine qat (i:=4) kz (qaI hW7 hE6 (k:=1) (d:=9) (t:=22) (e:=5) (size:=1) (bytes:=1) (A:=none) (As:=Av) (m0:=0) (c:=0) (m:=x.length) (cs:=c) (xs:=[]) (news:=bc x) kz kz rfl (ho.move hW7.step (fun b o h _=>hG b o h) qaZ).src (ho.move hW7.step (fun b o h _=>hG b o h) qaZ).cap (by first | omega | (simp only [List.length_nil]; omega) | (simp; omega)) fun A9 aa aK aL ac ar au=>?_)
 have av:(⟨A9,aa,5,1,0 + x.length,[] ++ bc x⟩:Rw) = brow A9 aa 5 x:=by rw [List.nil_append,Nat.zero_add]
 obtain ⟨af,ae⟩:=ar.rowEq 1 [⟨A,cp,64,2,n,xs⟩,brow A9 aa 5 x] av
 have aw:=EnvOk.pick au (ks:=[2,6,7,8,9]) (env':=[(2,.p 0 0),(6,.v (.slice A n cp)),(7,.v (.int .u32 k)),(8,.v (.slice Av x.length c)),(9,.v (.slice A9 (0 + x.length) aa))]) kz
 have ax:=aw.cast (env':=[(2,.p 0 0),(6,.v (.slice A n cp)),(7,.v (.int .u32 k)),(8,.v (.slice Av x.length c)),(9,.v (.slice A9 x.length aa))]) (by simp only [List.length_append,List.length_cons,List.length_nil,Nat.zero_add])
 have ag:=TT.ofW ((hF8.trans ac).trans ae) af
 refine ⟨fun _=>ag,?_⟩
 refine qaD [5] [(2,.p 0 0),(6,.v (.slice A n cp)),(10,.v (.agg #[.int .u32 k,.slice A9 x.length aa]))] 4 qaf (fun _ h=>h.cells) ag ax fun aM ay=>?_
 refine qat (i:=6) kz (qbC af ay (e:=64) (size:=2) (len:=1) (cs:=[.int .u32 k,.slice A9 x.length aa]) (d:=11) kz kz fun aF aN aO aG aH ah ab az=>?_)
 have aA:=TT.ofW (((hF8.trans ac).trans ae).trans ah) ab
 refine ⟨fun _=>aA,?_⟩
 refine qat (i:=7) kz (qaI ab az (k:=0) (d:=12) (t:=35) (e:=64) (size:=2) (bytes:=32) (A:=A) (As:=(some ⟨aF,0,none⟩)) (m0:=n) (c:=cp) (m:=1) (cs:=1) (xs:=xs) (news:=[.int .u32 k,.slice A9 x.length aa]) kz kz rfl (qbo (ab.own 2 _ rfl) (qbn kz)) (qbx (ab.own 2 _ rfl)) (by first | omega | (simp only [List.length_nil]; omega) | (simp; omega)) fun am ao aP aQ aB ai aC=>?_)
 have aj:=TT.ofW ((((hF8.trans ac).trans ae).trans ah).trans aB) ai
 refine ⟨fun _=>aj,?_⟩
 refine qaD [8] [(12,.v (.slice am (n + 1) ao)),(13,.p 0 4)] 1 qaf (fun _ h=>h.cells) aj aC fun aR aD=>?_
 refine qat (i:=9) kz (qan ai aD (oi:=0) (cs:=[x0,x1,x2,x3,.slice am (n + 1) ao]) kz fun aS aI ak aE=>?_)
 refine ⟨fun h=>absurd rfl h,?_⟩
 refine qaB kz ?_ _
 refine qbu aE ak.cells (v:=.tuple #[]) kz ?_
 obtain ⟨al,aJ⟩:=ak.cutR 2 [⟨am,ao,64,2,n + 1,xs ++ [.int .u32 k,.slice A9 x.length aa]⟩,brow A9 aa 5 x]
 have hoo:=qd5 (s:=x) (Av:=A9) (c:=aa) (e8:=5) rfl al (by omega)
 obtain ⟨hb1,hb2,hb3⟩:=qfO al (World.lt_of_cell (hbx.str.at_ 0 _ rfl))
 exact ⟨rfl,am,ao,A9,aa,hb1,hoo,hb2,hb3⟩
theorem qe2:qeW Tryz.prog 115 64:=by
 intro w B cp c n k A Av x x0 x1 x2 x3 xs G hbx ho hG hn
 refine enter (n:=14) Tryz.func115 rfl Tryz.ntmps115 kz fun a hE=>?_
 have hW:=hbx.wok
 have hE0:=(hE.grow ⟨B,0,[x0,x1,x2,x3,.slice A n cp],true⟩).recast 2 (.v (.pointer (some ⟨B,0,none⟩))) (.p 0 0) rfl rfl (by simp [SV.ok])
 have hsm:=Slots.small ho
 have ap:=hE0.pk (env':=[(0,.v (.int .u32 k)),(1,.v (.slice Av x.length c)),(2,.p 0 0)])
 refine qcm 9 kz hW fun w1 hF2 hW3 hT4=>?_
 refine qaD [0,1,2,3] [(2,.p 0 0),(6,.v (.slice A n cp)),(7,.v (.int .u32 k)),(8,.v (.slice Av x.length c))] 6 qaf (fun _ h=>h.cells) hT4 ap fun a5 hE6=>?_
 have hW7:=hW3.addNil 5 1
 have hF8:=hW3.frNil 5 1
 refine qat (i:=4) kz (qaI hW7 hE6 (k:=1) (d:=9) (t:=22) (e:=5) (size:=1) (bytes:=1) (A:=none) (As:=Av) (m0:=0) (c:=0) (m:=x.length) (cs:=c) (xs:=[]) (news:=bc x) kz kz rfl (ho.move hW7.step (fun b o h _=>hG b o h) qaZ).src (ho.move hW7.step (fun b o h _=>hG b o h) qaZ).cap (by first | omega | (simp only [List.length_nil]; omega) | (simp; omega)) fun A9 aa aK aL ac ar au=>?_)
 have av:(⟨A9,aa,5,1,0 + x.length,[] ++ bc x⟩:Rw) = brow A9 aa 5 x:=by rw [List.nil_append,Nat.zero_add]
 obtain ⟨af,ae⟩:=ar.rowEq 1 [⟨A,cp,64,2,n,xs⟩,brow A9 aa 5 x] av
 have aw:=EnvOk.pick au (ks:=[2,6,7,8,9]) (env':=[(2,.p 0 0),(6,.v (.slice A n cp)),(7,.v (.int .u32 k)),(8,.v (.slice Av x.length c)),(9,.v (.slice A9 (0 + x.length) aa))]) kz
 have ax:=aw.cast (env':=[(2,.p 0 0),(6,.v (.slice A n cp)),(7,.v (.int .u32 k)),(8,.v (.slice Av x.length c)),(9,.v (.slice A9 x.length aa))]) (by simp only [List.length_append,List.length_cons,List.length_nil,Nat.zero_add])
 have ag:=TT.ofW ((hF8.trans ac).trans ae) af
 refine ⟨fun _=>ag,?_⟩
 refine qaD [5] [(2,.p 0 0),(6,.v (.slice A n cp)),(10,.v (.agg #[.int .u32 k,.slice A9 x.length aa]))] 4 qaf (fun _ h=>h.cells) ag ax fun aM ay=>?_
 refine qat (i:=6) kz (qbC af ay (e:=64) (size:=2) (len:=1) (cs:=[.int .u32 k,.slice A9 x.length aa]) (d:=11) kz kz fun aF aN aO aG aH ah ab az=>?_)
 have aA:=TT.ofW (((hF8.trans ac).trans ae).trans ah) ab
 refine ⟨fun _=>aA,?_⟩
 refine qat (i:=7) kz (qaI ab az (k:=0) (d:=12) (t:=35) (e:=64) (size:=2) (bytes:=32) (A:=A) (As:=(some ⟨aF,0,none⟩)) (m0:=n) (c:=cp) (m:=1) (cs:=1) (xs:=xs) (news:=[.int .u32 k,.slice A9 x.length aa]) kz kz rfl (qbo (ab.own 2 _ rfl) (qbn kz)) (qbx (ab.own 2 _ rfl)) (by first | omega | (simp only [List.length_nil]; omega) | (simp; omega)) fun am ao aP aQ aB ai aC=>?_)
 have aj:=TT.ofW ((((hF8.trans ac).trans ae).trans ah).trans aB) ai
 refine ⟨fun _=>aj,?_⟩
 refine qaD [8] [(12,.v (.slice am (n + 1) ao)),(13,.p 0 4)] 1 qaf (fun _ h=>h.cells) aj aC fun aR aD=>?_
 refine qat (i:=9) kz (qan ai aD (oi:=0) (cs:=[x0,x1,x2,x3,.slice am (n + 1) ao]) kz fun aS aI ak aE=>?_)
 refine ⟨fun h=>absurd rfl h,?_⟩
 refine qaB kz ?_ _
 refine qbu aE ak.cells (v:=.tuple #[]) kz ?_
 obtain ⟨al,aJ⟩:=ak.cutR 2 [⟨am,ao,64,2,n + 1,xs ++ [.int .u32 k,.slice A9 x.length aa]⟩,brow A9 aa 5 x]
 have hoo:=qd5 (s:=x) (Av:=A9) (c:=aa) (e8:=5) rfl al (by omega)
 obtain ⟨hb1,hb2,hb3⟩:=qfO al (World.lt_of_cell (hbx.str.at_ 0 _ rfl))
 exact ⟨rfl,am,ao,A9,aa,hb1,hoo,hb2,hb3⟩
theorem qdN:qeW Tryz.prog 171 64:=by
 intro w B cp c n k A Av x x0 x1 x2 x3 xs G hbx ho hG hn
 refine enter (n:=14) Tryz.func171 rfl Tryz.ntmps171 kz fun a hE=>?_
 have hW:=hbx.wok
 have hE0:=(hE.grow ⟨B,0,[x0,x1,x2,x3,.slice A n cp],true⟩).recast 2 (.v (.pointer (some ⟨B,0,none⟩))) (.p 0 0) rfl rfl (by simp [SV.ok])
 have hsm:=Slots.small ho
 have ap:=hE0.pk (env':=[(0,.v (.int .u32 k)),(1,.v (.slice Av x.length c)),(2,.p 0 0)])
 refine qcm 9 kz hW fun w1 hF2 hW3 hT4=>?_
 refine qaD [0,1,2,3] [(2,.p 0 0),(6,.v (.slice A n cp)),(7,.v (.int .u32 k)),(8,.v (.slice Av x.length c))] 6 qaf (fun _ h=>h.cells) hT4 ap fun a5 hE6=>?_
 have hW7:=hW3.addNil 5 1
 have hF8:=hW3.frNil 5 1
 refine qat (i:=4) kz (qaI hW7 hE6 (k:=1) (d:=9) (t:=22) (e:=5) (size:=1) (bytes:=1) (A:=none) (As:=Av) (m0:=0) (c:=0) (m:=x.length) (cs:=c) (xs:=[]) (news:=bc x) kz kz rfl (ho.move hW7.step (fun b o h _=>hG b o h) qaZ).src (ho.move hW7.step (fun b o h _=>hG b o h) qaZ).cap (by first | omega | (simp only [List.length_nil]; omega) | (simp; omega)) fun A9 aa aK aL ac ar au=>?_)
 have av:(⟨A9,aa,5,1,0 + x.length,[] ++ bc x⟩:Rw) = brow A9 aa 5 x:=by rw [List.nil_append,Nat.zero_add]
 obtain ⟨af,ae⟩:=ar.rowEq 1 [⟨A,cp,64,2,n,xs⟩,brow A9 aa 5 x] av
 have aw:=EnvOk.pick au (ks:=[2,6,7,8,9]) (env':=[(2,.p 0 0),(6,.v (.slice A n cp)),(7,.v (.int .u32 k)),(8,.v (.slice Av x.length c)),(9,.v (.slice A9 (0 + x.length) aa))]) kz
 have ax:=aw.cast (env':=[(2,.p 0 0),(6,.v (.slice A n cp)),(7,.v (.int .u32 k)),(8,.v (.slice Av x.length c)),(9,.v (.slice A9 x.length aa))]) (by simp only [List.length_append,List.length_cons,List.length_nil,Nat.zero_add])
 have ag:=TT.ofW ((hF8.trans ac).trans ae) af
 refine ⟨fun _=>ag,?_⟩
 refine qaD [5] [(2,.p 0 0),(6,.v (.slice A n cp)),(10,.v (.agg #[.int .u32 k,.slice A9 x.length aa]))] 4 qaf (fun _ h=>h.cells) ag ax fun aM ay=>?_
 refine qat (i:=6) kz (qbC af ay (e:=64) (size:=2) (len:=1) (cs:=[.int .u32 k,.slice A9 x.length aa]) (d:=11) kz kz fun aF aN aO aG aH ah ab az=>?_)
 have aA:=TT.ofW (((hF8.trans ac).trans ae).trans ah) ab
 refine ⟨fun _=>aA,?_⟩
 refine qat (i:=7) kz (qaI ab az (k:=0) (d:=12) (t:=35) (e:=64) (size:=2) (bytes:=32) (A:=A) (As:=(some ⟨aF,0,none⟩)) (m0:=n) (c:=cp) (m:=1) (cs:=1) (xs:=xs) (news:=[.int .u32 k,.slice A9 x.length aa]) kz kz rfl (qbo (ab.own 2 _ rfl) (qbn kz)) (qbx (ab.own 2 _ rfl)) (by first | omega | (simp only [List.length_nil]; omega) | (simp; omega)) fun am ao aP aQ aB ai aC=>?_)
 have aj:=TT.ofW ((((hF8.trans ac).trans ae).trans ah).trans aB) ai
 refine ⟨fun _=>aj,?_⟩
 refine qaD [8] [(12,.v (.slice am (n + 1) ao)),(13,.p 0 4)] 1 qaf (fun _ h=>h.cells) aj aC fun aR aD=>?_
 refine qat (i:=9) kz (qan ai aD (oi:=0) (cs:=[x0,x1,x2,x3,.slice am (n + 1) ao]) kz fun aS aI ak aE=>?_)
 refine ⟨fun h=>absurd rfl h,?_⟩
 refine qaB kz ?_ _
 refine qbu aE ak.cells (v:=.tuple #[]) kz ?_
 obtain ⟨al,aJ⟩:=ak.cutR 2 [⟨am,ao,64,2,n + 1,xs ++ [.int .u32 k,.slice A9 x.length aa]⟩,brow A9 aa 5 x]
 have hoo:=qd5 (s:=x) (Av:=A9) (c:=aa) (e8:=5) rfl al (by omega)
 obtain ⟨hb1,hb2,hb3⟩:=qfO al (World.lt_of_cell (hbx.str.at_ 0 _ rfl))
 exact ⟨rfl,am,ao,A9,aa,hb1,hoo,hb2,hb3⟩
theorem qco:qeW Tryz.prog 201 64:=by
 intro w B cp c n k A Av x x0 x1 x2 x3 xs G hbx ho hG hn
 refine enter (n:=14) Tryz.func201 rfl Tryz.ntmps201 kz fun a hE=>?_
 have hW:=hbx.wok
 have hE0:=(hE.grow ⟨B,0,[x0,x1,x2,x3,.slice A n cp],true⟩).recast 2 (.v (.pointer (some ⟨B,0,none⟩))) (.p 0 0) rfl rfl (by simp [SV.ok])
 have hsm:=Slots.small ho
 have ap:=hE0.pk (env':=[(0,.v (.int .u32 k)),(1,.v (.slice Av x.length c)),(2,.p 0 0)])
 refine qcm 9 kz hW fun w1 hF2 hW3 hT4=>?_
 refine qaD [0,1,2,3] [(2,.p 0 0),(6,.v (.slice A n cp)),(7,.v (.int .u32 k)),(8,.v (.slice Av x.length c))] 6 qaf (fun _ h=>h.cells) hT4 ap fun a5 hE6=>?_
 have hW7:=hW3.addNil 5 1
 have hF8:=hW3.frNil 5 1
 refine qat (i:=4) kz (qaI hW7 hE6 (k:=1) (d:=9) (t:=22) (e:=5) (size:=1) (bytes:=1) (A:=none) (As:=Av) (m0:=0) (c:=0) (m:=x.length) (cs:=c) (xs:=[]) (news:=bc x) kz kz rfl (ho.move hW7.step (fun b o h _=>hG b o h) qaZ).src (ho.move hW7.step (fun b o h _=>hG b o h) qaZ).cap (by first | omega | (simp only [List.length_nil]; omega) | (simp; omega)) fun A9 aa aK aL ac ar au=>?_)
 have av:(⟨A9,aa,5,1,0 + x.length,[] ++ bc x⟩:Rw) = brow A9 aa 5 x:=by rw [List.nil_append,Nat.zero_add]
 obtain ⟨af,ae⟩:=ar.rowEq 1 [⟨A,cp,64,2,n,xs⟩,brow A9 aa 5 x] av
 have aw:=EnvOk.pick au (ks:=[2,6,7,8,9]) (env':=[(2,.p 0 0),(6,.v (.slice A n cp)),(7,.v (.int .u32 k)),(8,.v (.slice Av x.length c)),(9,.v (.slice A9 (0 + x.length) aa))]) kz
 have ax:=aw.cast (env':=[(2,.p 0 0),(6,.v (.slice A n cp)),(7,.v (.int .u32 k)),(8,.v (.slice Av x.length c)),(9,.v (.slice A9 x.length aa))]) (by simp only [List.length_append,List.length_cons,List.length_nil,Nat.zero_add])
 have ag:=TT.ofW ((hF8.trans ac).trans ae) af
 refine ⟨fun _=>ag,?_⟩
 refine qaD [5] [(2,.p 0 0),(6,.v (.slice A n cp)),(10,.v (.agg #[.int .u32 k,.slice A9 x.length aa]))] 4 qaf (fun _ h=>h.cells) ag ax fun aM ay=>?_
 refine qat (i:=6) kz (qbC af ay (e:=64) (size:=2) (len:=1) (cs:=[.int .u32 k,.slice A9 x.length aa]) (d:=11) kz kz fun aF aN aO aG aH ah ab az=>?_)
 have aA:=TT.ofW (((hF8.trans ac).trans ae).trans ah) ab
 refine ⟨fun _=>aA,?_⟩
 refine qat (i:=7) kz (qaI ab az (k:=0) (d:=12) (t:=35) (e:=64) (size:=2) (bytes:=32) (A:=A) (As:=(some ⟨aF,0,none⟩)) (m0:=n) (c:=cp) (m:=1) (cs:=1) (xs:=xs) (news:=[.int .u32 k,.slice A9 x.length aa]) kz kz rfl (qbo (ab.own 2 _ rfl) (qbn kz)) (qbx (ab.own 2 _ rfl)) (by first | omega | (simp only [List.length_nil]; omega) | (simp; omega)) fun am ao aP aQ aB ai aC=>?_)
 have aj:=TT.ofW ((((hF8.trans ac).trans ae).trans ah).trans aB) ai
 refine ⟨fun _=>aj,?_⟩
 refine qaD [8] [(12,.v (.slice am (n + 1) ao)),(13,.p 0 4)] 1 qaf (fun _ h=>h.cells) aj aC fun aR aD=>?_
 refine qat (i:=9) kz (qan ai aD (oi:=0) (cs:=[x0,x1,x2,x3,.slice am (n + 1) ao]) kz fun aS aI ak aE=>?_)
 refine ⟨fun h=>absurd rfl h,?_⟩
 refine qaB kz ?_ _
 refine qbu aE ak.cells (v:=.tuple #[]) kz ?_
 obtain ⟨al,aJ⟩:=ak.cutR 2 [⟨am,ao,64,2,n + 1,xs ++ [.int .u32 k,.slice A9 x.length aa]⟩,brow A9 aa 5 x]
 have hoo:=qd5 (s:=x) (Av:=A9) (c:=aa) (e8:=5) rfl al (by omega)
 obtain ⟨hb1,hb2,hb3⟩:=qfO al (World.lt_of_cell (hbx.str.at_ 0 _ rfl))
 exact ⟨rfl,am,ao,A9,aa,hb1,hoo,hb2,hb3⟩
theorem n8w (x:Int):IntKind.i8.wrap x = (x + 128) % 256 - 128:=by simp [IntKind.wrap,IntKind.signed,IntKind.bits]; omega
theorem n16w (x:Int):IntKind.i16.wrap x = (x + 32768) % 65536 - 32768:=by simp [IntKind.wrap,IntKind.signed,IntKind.bits]; omega
theorem n32w (x:Int):IntKind.i32.wrap x = (x + 2147483648) % 4294967296 - 2147483648:=by simp [IntKind.wrap,IntKind.signed,IntKind.bits]; omega
theorem n64w (x:Int):IntKind.i64.wrap x = (x + 9223372036854775808) % 18446744073709551616 - 9223372036854775808:=by simp [IntKind.wrap,IntKind.signed,IntKind.bits]; omega
theorem qhV (x:Int):IntKind.i64.wrap (IntKind.i8.wrap x) = IntKind.i8.wrap x:=by rw [n64w,n8w]; omega
theorem qfp (x:Int):IntKind.i64.wrap (IntKind.i16.wrap x) = IntKind.i16.wrap x:=by rw [n64w,n16w]; omega
theorem qfq (x:Int):IntKind.i64.wrap (IntKind.i32.wrap x) = IntKind.i32.wrap x:=by rw [n64w,n32w]; omega
theorem qeh (x:Int):IntKind.i64.wrap (IntKind.u16.wrap x) = IntKind.u16.wrap x:=by rw [n64w,qbl]; omega
def qb6 (k n:Int):Int:=if k = 0 then n % 2 else if k = 1 then IntKind.i8.wrap n else if k = 2 then IntKind.i16.wrap n else if k = 3 then IntKind.i32.wrap n else if k = 5 then IntKind.u16.wrap n else n
section
variable {U:List Fld → Tree → Prop} {k x1 x2 x3 x4 x5 x6 n:Int} {sub:List Fld} {s:Bs} {b:Bool} {l:List Tree} {u:List (Int × Bs)}
end
section
variable {T:List Fld → Tree → Tree → Prop} {v k x1 x2 x3 x4 x5 x6 tn n:Int} {sub:List Fld} {ts s:Bs} {tb b:Bool} {tl l:List Tree} {tu u:List (Int × Bs)}
end
theorem qez {P:Program} {ops:Array Oper} {Q:Exit → Act → World → Prop} {a:Act} {w:World} {T:World → Prop} {c i j fuel:Nat} {listed:Array Bool} (hr:Region.ready .any ops listed = [i,j]) (h:wpOp P ops Q i (fun a' w'=>(i ≠ c → T w') ∧ qbD P ops Q T c fuel (listed.setIfInBounds i true) a' w') a w)
  (h':wpOp P ops Q j (fun a' w'=>(j ≠ c → T w') ∧ qbD P ops Q T c fuel (listed.setIfInBounds j true) a' w') a w):qbD P ops Q T c (fuel + 1) listed a w:=by
 refine ⟨fun h0=>(by rw [hr] at h0; cases h0),fun q hq=>?_⟩
 rw [hr] at hq
 simp only [List.mem_cons,List.not_mem_nil,or_false] at hq
 rcases hq with rfl | rfl
 ·exact h
 exact h'
section
variable {w:World} {F:Nat → Nat → Prop}
end
section
variable {gu tu:List (Int × Bs)} {l:List Fld} {flex:Bool} {i:Nat} {k k':Int} {s s':Bs}
end
end Go.Proofs.YtcbpjflgkefidaaGreatDoor.ME