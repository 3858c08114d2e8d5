/- The texts of a claim, put together: the engine, the contracts, the law. Own work. -/
import Derived.Test.YtfljkhecngpcmaaGreatDoorWt0P3
import Derived.Lib.ConvBytes
namespace Go.Proofs.YtfljkhecngpcmaaGreatDoor.ME
open Go
open Go.RowKit
set_option linter.unusedVariables false
set_option linter.unusedSimpArgs false
set_option maxRecDepth 20000
def qay (v:Int) (T:Tree):Bs:=(be 4 ((IntKind.i32.wrap (T.at_ 0).N))) ++ ((be 2 ((IntKind.i16.wrap (T.at_ 1).N))) ++ (if (decide (v ≥ 0)) = true then (uv T.U.length) ++ (qcm T.U) else []))
theorem qbr (v:Int) (T:Tree):0 < (qay v T).length:=qk0 (qlr (by decide))
def qaE (v:Int) (T:Tree):Bs:=(qad (T.at_ 0).S) ++ (((if (decide (v ≥ 0)) = true then (uv ((lst (T.at_ 1)).length + 1)) else (be 4 (lst (T.at_ 1)).length)) ++ ((lst (T.at_ 1)).flatMap (qay v))) ++ (if (decide (v ≥ 0)) = true then (uv T.U.length) ++ (qcm T.U) else []))
theorem qbz (v:Int) (T:Tree):0 < (qaE v T).length:=qk0 (by rw [qcQ]; decide)
def qaK (v:Int) (T:Tree):Bs:=(qad (T.at_ 0).S) ++ (((if (decide (v ≥ 0)) = true then (uv ((lst (T.at_ 1)).length + 1)) else (be 4 (lst (T.at_ 1)).length)) ++ ((lst (T.at_ 1)).flatMap (qaE v))) ++ (if (decide (v ≥ 0)) = true then (uv T.U.length) ++ (qcm T.U) else []))
theorem qbG (v:Int) (T:Tree):0 < (qaK v T).length:=qk0 (by rw [qcQ]; decide)
def qb3 (v:Int) (T:Tree):Bs:=(be 4 ((IntKind.i32.wrap (T.at_ 0).N))) ++ ((be 2 ((IntKind.i16.wrap (T.at_ 1).N))) ++ (((if (decide (v ≥ 0)) = true then (uv ((lst (T.at_ 2)).length + 1)) else (be 4 (lst (T.at_ 2)).length)) ++ ((lst (T.at_ 2)).flatMap (qaK v))) ++ ((if (decide (v ≥ 0)) = true then (uv T.U.length) ++ (qcm T.U) else []) ++ (([]:Bs)))))
theorem qcS (v:Int) (T:Tree):qaj v T = qb3 v T:=rfl
def qbt (d:DV):List Value:=[.int .i32 ((d.f 0).n),.int .i16 ((d.f 1).n),.map d.m]
theorem qaJ:qgf qaF:=by
 intro w w' F F' M d hs hM hF h
 unfold qaF at h ⊢
 obtain ⟨g0,g1,t1,t2,t3,_⟩:=h
 exact ⟨g0,g1,t1.move hs hM hF,t2,t3,trivial⟩
def qbB (d:DV):List Value:=[qaa ((d.f 0).o.getD 0 0),qaa ((d.f 0).o.getD 1 0),qaa ((d.f 0).o.getD 2 0),qaa ((d.f 0).o.getD 3 0),qaa ((d.f 0).o.getD 4 0),qaa ((d.f 0).o.getD 5 0),qaa ((d.f 0).o.getD 6 0),qaa ((d.f 0).o.getD 7 0),qaa ((d.f 0).o.getD 8 0),qaa ((d.f 0).o.getD 9 0),qaa ((d.f 0).o.getD 10 0),qaa ((d.f 0).o.getD 11 0),qaa ((d.f 0).o.getD 12 0),qaa ((d.f 0).o.getD 13 0),qaa ((d.f 0).o.getD 14 0),qaa ((d.f 0).o.getD 15 0),.slice ((d.f 1).A) ((d.f 1).l) ((d.f 1).c),.map d.m]
theorem qaU:qgf qaN:=by
 intro w w' F F' M d hs hM hF h
 unfold qaN at h ⊢
 obtain ⟨g0,⟨g1,g1l,g1e⟩,t1,t2,t3,_⟩:=h
 exact ⟨g0,⟨g1.move hs hM hF,g1l,fun i hi=>qaJ _ hs hM hF (g1e i hi)⟩,t1.move hs hM hF,t2,t3,trivial⟩
def qbJ (d:DV):List Value:=[qaa ((d.f 0).o.getD 0 0),qaa ((d.f 0).o.getD 1 0),qaa ((d.f 0).o.getD 2 0),qaa ((d.f 0).o.getD 3 0),qaa ((d.f 0).o.getD 4 0),qaa ((d.f 0).o.getD 5 0),qaa ((d.f 0).o.getD 6 0),qaa ((d.f 0).o.getD 7 0),qaa ((d.f 0).o.getD 8 0),qaa ((d.f 0).o.getD 9 0),qaa ((d.f 0).o.getD 10 0),qaa ((d.f 0).o.getD 11 0),qaa ((d.f 0).o.getD 12 0),qaa ((d.f 0).o.getD 13 0),qaa ((d.f 0).o.getD 14 0),qaa ((d.f 0).o.getD 15 0),.slice ((d.f 1).A) ((d.f 1).l) ((d.f 1).c),.map d.m]
theorem qa1:qgf qaV:=by
 intro w w' F F' M d hs hM hF h
 unfold qaV at h ⊢
 obtain ⟨g0,⟨g1,g1l,g1e⟩,t1,t2,t3,_⟩:=h
 exact ⟨g0,⟨g1.move hs hM hF,g1l,fun i hi=>qaU _ hs hM hF (g1e i hi)⟩,t1.move hs hM hF,t2,t3,trivial⟩
def qaP (v:Int) (D:DV) (T:Tree):Prop:=((D.f 0).n = IntKind.i32.wrap (T.at_ 0).N) ∧ ((D.f 1).n = IntKind.i16.wrap (T.at_ 1).N) ∧ (((decide (v ≥ 0)) = true → D.u = T.U) ∧ ((decide (v ≥ 0)) = false → D.u = [])) ∧ True
def qa2 (v:Int) (D:DV) (T:Tree):Prop:=((D.f 0).o = qad (T.at_ 0).S) ∧ (((D.f 1).l = (lst (T.at_ 1)).length ∧ ∀ i,i < (D.f 1).l → qaP v ((D.f 1).f i) ((lst (T.at_ 1)).getD i .zero))) ∧ (((decide (v ≥ 0)) = true → D.u = T.U) ∧ ((decide (v ≥ 0)) = false → D.u = [])) ∧ True
def qa6 (v:Int) (D:DV) (T:Tree):Prop:=((D.f 0).o = qad (T.at_ 0).S) ∧ (((D.f 1).l = (lst (T.at_ 1)).length ∧ ∀ i,i < (D.f 1).l → qa2 v ((D.f 1).f i) ((lst (T.at_ 1)).getD i .zero))) ∧ (((decide (v ≥ 0)) = true → D.u = T.U) ∧ ((decide (v ≥ 0)) = false → D.u = [])) ∧ True
def qa9 (v:Int) (D:DV) (T:Tree):Prop:=((D.f 0).n = IntKind.i32.wrap (T.at_ 0).N) ∧ ((D.f 1).n = IntKind.i16.wrap (T.at_ 1).N) ∧ (((D.f 2).l = (lst (T.at_ 2)).length ∧ ∀ i,i < (D.f 2).l → qa6 v ((D.f 2).f i) ((lst (T.at_ 2)).getD i .zero))) ∧ (((decide (v ≥ 0)) = true → D.u = T.U) ∧ ((decide (v ≥ 0)) = false → D.u = [])) ∧ True
theorem qlM (b o:Nat) (w:World):Calls Tryz.prog 97 #[.pointer (some ⟨b,o,none⟩)] w (fun e w'=>e = .returned (.tuple #[]) ∧ w' = w):=by
 refine enter (n:=2) (vs:=[.pointer (some ⟨b,o,none⟩)]) Tryz.func97 rfl Tryz.ntmps97 kz fun a hE=>?_
 refine wp_skip ?_
 exact qbV hE (WOk.start w Nil).cells (v:=.tuple #[]) kz ⟨rfl,rfl⟩
theorem qlN (b o:Nat) (w:World):Calls Tryz.prog 99 #[.pointer (some ⟨b,o,none⟩)] w (fun e w'=>e = .returned (.tuple #[]) ∧ w' = w):=by
 refine enter (n:=2) (vs:=[.pointer (some ⟨b,o,none⟩)]) Tryz.func99 rfl Tryz.ntmps99 kz fun a hE=>?_
 refine wp_skip ?_
 exact qbV hE (WOk.start w Nil).cells (v:=.tuple #[]) kz ⟨rfl,rfl⟩
theorem qlw (b o:Nat) (w:World):Calls Tryz.prog 100 #[.pointer (some ⟨b,o,none⟩)] w (fun e w'=>e = .returned (.tuple #[]) ∧ w' = w):=by
 refine enter (n:=2) (vs:=[.pointer (some ⟨b,o,none⟩)]) Tryz.func100 rfl Tryz.ntmps100 kz fun a hE=>?_
 refine wp_skip ?_
 exact qbV hE (WOk.start w Nil).cells (v:=.tuple #[]) kz ⟨rfl,rfl⟩
set_option maxHeartbeats 4000000 in
theorem qcT (v:Int) (T:Tree) {bv:Nat} {A:Option Addr} {c:Nat} {w:World} {F:Nat → Nat → Prop} (hst:Str w bv [.int .i16 v,.int .i32 0,.int .i16 0,.slice none 0 0,.map none]) (ho:Octs w F A c (qaj v T)) (hFd:∀ b o,F b o → ¬ (b = bv ∧ o < 5)) (hc:qa8 T) (hR:T.ranged) :
  Calls Tryz.prog 62 #[.pointer (some ⟨bv,0,none⟩),.slice A (qaj v T).length c,.bool false] w (fun e w'=>∃ D:DV,e = .returned .nilIface ∧ Str w' bv [.int .i16 v,.int .i32 ((D.f 0).n),.int .i16 ((D.f 1).n),.slice ((D.f 2).A) ((D.f 2).l) ((D.f 2).c),.map D.m] ∧ qbg w' (Fp F w) D ∧ qa9 v D T ∧ Step w w' (fun b o=>b = bv ∧ o < 5)):=by
 refine enter (n:=201) Tryz.func62 rfl Tryz.ntmps62 kz fun a hE=>?_
 have hW:=WOk.startStr hst
 have hE1:=(hE.grow ⟨bv,0,[.int .i16 v,.int .i32 0,.int .i16 0,.slice none 0 0,.map none],true⟩).recast 0 (.v (.pointer (some ⟨bv,0,none⟩))) (.p 0 0) rfl rfl (Nat.le_of_ble_eq_true (n:=1) rfl)
 refine qar [(0,.p 0 0),(1,.v (.slice A ((qaj v T).length) c))] hW hE1 fun a1 hE2=>?_
 refine qaf [0,1] kz ?_
 refine qal [0] [1] [(0,.p 0 0),(1,.v (.slice A ((qaj v T).length) c)),(35,.p 0 0)] hW hE2 fun a3 hE4=>?_
 refine qan (qbR hE4 (f:=60) (vs:=[.pointer (some ⟨bv,0,none⟩)]) (d:=36) (n':=2) kz Tryz.call60 Tryz.func60 rfl Tryz.ntmps60 kz fun a5 hE6=>?_)
 have hE7:=hE6.recast 0 (.v (.pointer (some ⟨bv,0,none⟩))) (.p 0 0) rfl rfl (Nat.le_of_ble_eq_true (n:=1) rfl)
 refine wp_skip ?_
 refine qbV hE7 hW.cells (v:=.tuple #[]) kz ?_
 refine ⟨_,rfl,fun a8 hE9=>?_⟩
 have f7:EnvOk 201 [⟨bv,0,[.int .i16 v,.int .i32 0,.int .i16 0,.slice none 0 0,.map none],true⟩] [(36,.v (.tuple #[])),(0,.p 0 0),(1,.v (.slice A ((qaj v T).length) c)),(35,.p 0 0)] _:=hE9.places (⟨rfl,rfl,trivial⟩)
 refine qah (qac ?_)
 refine qaf [0,1,2,3] kz ?_
 refine qal [0,1] [2,3] [(0,.p 0 0),(38,.v (.agg #[.slice A ((qaj v T).length) c,.bool false]))] hW f7 fun gP f8=>?_
 refine qan (qaZ hW f8 (d:=7) (cs:=[.slice none 0 0,.bool false]) kz fun bh gQ gR gx gy gz f9 ga=>?_)
 refine qan (qav f9 ga (oi:=1) (cs:=[.slice A ((qaj v T).length) c,.bool false]) kz fun gS gA ep gb=>?_)
 refine qah (qac ?_)
 have eG:=RS.start (F:=F) (s:=qaj v T) ep gb (ho.move ep.step (fun b_ o_ h_ _=>hFd b_ o_ h_) (ep.immM hFd)) [(0,.p 1 0),(7,.p 0 0)]
 have gt:=hc
 have e26r:=hR
 unfold qa8 at gt
 obtain ⟨e26_0,e26_1,⟨e26_2,e26_2e⟩,e26_U,_⟩:=gt
 obtain ⟨bp,eH⟩:∃ R,R = (if (decide (v ≥ 0)) = true then (uv T.U.length) ++ (qcm T.U) else []) ++ ([]:Bs):=⟨_,rfl⟩
 obtain ⟨gB,eI⟩:∃ R,R = ((if (decide (v ≥ 0)) = true then (uv ((lst (T.at_ 2)).length + 1)) else (be 4 (lst (T.at_ 2)).length)) ++ ((lst (T.at_ 2)).flatMap (qaK v))) ++ bp:=⟨_,rfl⟩
 obtain ⟨gC,eJ⟩:∃ R,R = (be 2 ((IntKind.i16.wrap (T.at_ 1).N))) ++ gB:=⟨_,rfl⟩
 obtain ⟨gD,eK⟩:∃ R,R = (be 4 ((IntKind.i32.wrap (T.at_ 0).N))) ++ gC:=⟨_,rfl⟩
 have eL:=eG.cast (t:=gD) (by rw [qcS,eK,eJ,eI,eH]; unfold qb3; simp only [List.append_assoc])
 clear eG
 refine wp_seq ?_
 refine qbT [(0,.p 1 0),(7,.p 0 0),(8,.v (.int .i16 v))] eL fun _ eM=>?_
 clear eL
 refine qac ?_
 refine wp_seq ?_
 refine qbT [(0,.p 1 0),(7,.p 0 0),(8,.v (.int .i16 v))] eM fun _ eN=>?_
 clear eM
 refine qac ?_
 refine wp_seq ?_
 refine qbT [(0,.p 1 0),(7,.p 0 0),(9,.v (.bool (decide (v ≥ 0))))] eN fun _ eO=>?_
 clear eN
 refine qac ?_
 refine wp_seq ?_
 refine qbT [(0,.p 1 0),(7,.p 0 0),(9,.v (.bool (decide (v ≥ 0))))] eO fun _ eP=>?_
 clear eO
 refine qac ?_
 refine wp_seq ?_
 refine qbT [(7,.p 0 0),(9,.v (.bool (decide (v ≥ 0)))),(10,.p 1 0)] eP fun _ eQ=>?_
 clear eP
 refine qac ?_
 refine wp_seq ?_
 refine wp_seq ?_
 have eR:=eQ.cast eK
 clear eQ
 refine qfA (d:=48) [(7,.p 0 0),(9,.v (.bool (decide (v ≥ 0)))),(10,.p 1 0),(11,.v (.int .i32 (IntKind.i32.wrap (T.at_ 0).N)))] eR (qkv _ _) Tryz.call91 fun _ _ eS=>?_
 clear eR
 refine qac ?_
 refine qeD [⟨bv,0,[.int .i16 v,.int .i32 (IntKind.i32.wrap (T.at_ 0).N),.int .i16 0,.slice none 0 0,.map none],true⟩] 0 [(7,.p 0 0),(9,.v (.bool (decide (v ≥ 0)))),(10,.p 1 0)] eS fun _ _ eU=>?_
 clear eS
 refine qac ?_
 refine wp_seq ?_
 refine wp_seq ?_
 have eV:=eU.cast eJ
 clear eU
 refine qfA (d:=53) [(7,.p 0 0),(9,.v (.bool (decide (v ≥ 0)))),(10,.p 1 0),(12,.v (.int .i16 (IntKind.i16.wrap (T.at_ 1).N)))] eV (qku _ _) Tryz.call92 fun _ _ eW=>?_
 clear eV
 refine qac ?_
 refine qeD [⟨bv,0,[.int .i16 v,.int .i32 (IntKind.i32.wrap (T.at_ 0).N),.int .i16 (IntKind.i16.wrap (T.at_ 1).N),.slice none 0 0,.map none],true⟩] 0 [(7,.p 0 0),(9,.v (.bool (decide (v ≥ 0)))),(10,.p 1 0)] eW fun _ _ eX=>?_
 clear eW
 refine qac ?_
 refine wp_seq ?_
 refine wp_seq ?_
 refine qbT [(7,.p 0 0),(9,.v (.bool (decide (v ≥ 0)))),(10,.p 1 0),(13,.v (.slice none 0 0))] eX fun _ eY=>?_
 clear eX
 refine qac ?_
 refine wp_seq ?_
 refine qbT [(7,.p 0 0),(9,.v (.bool (decide (v ≥ 0)))),(10,.p 1 0),(14,.v (.slice none 0 0))] eY fun _ eZ=>?_
 clear eY
 refine qac ?_
 refine wp_seq ?_
 refine qbT [(7,.p 0 0),(9,.v (.bool (decide (v ≥ 0)))),(10,.p 1 0),(14,.v (.slice none 0 0))] eZ fun _ e9=>?_
 clear eZ
 refine qac ?_
 refine wp_seq ?_
 have fa:=e9.cast eI
 clear e9
 have fb:=fa.cast (t:=(if (decide (v ≥ 0)) = true then (uv ((lst (T.at_ 2)).length + 1)) else (be 4 (lst (T.at_ 2)).length)) ++ (((lst (T.at_ 2)).flatMap (qaK v)) ++ bp)) (by rw [List.append_assoc])
 clear fa
 refine qht (d1:=64) (d2:=65) [(7,.p 0 0),(9,.v (.bool (decide (v ≥ 0)))),(10,.p 1 0),(14,.v (.slice none 0 0)),(63,.v (.bool (decide (v ≥ 0))))] [(7,.p 0 0),(9,.v (.bool (decide (v ≥ 0)))),(10,.p 1 0),(14,.v (.slice none 0 0)),(15,.v (.int .i32 (((lst (T.at_ 2)).length:Nat):Int)))] fb (qcZ ((lst (T.at_ 2)).length) e26_2 _ (flat_ge' (qbG v) _)) Tryz.call93 (qfC ((lst (T.at_ 2)).length) e26_2 _ (flat_ge' (qbG v) _)) Tryz.call94 fun _ _ fe=>?_
 clear fb
 refine qac ?_
 refine wp_seq ?_
 refine wp_seq ?_
 refine qk1 (d:=66) [(7,.p 0 0),(9,.v (.bool (decide (v ≥ 0)))),(10,.p 1 0),(14,.v (.slice none 0 0)),(15,.v (.int .i32 (((lst (T.at_ 2)).length:Nat):Int))),(67,.v (.bool false))] fe (pOk _) Tryz.call95 fun _ _ eu=>?_
 clear fe
 refine qac ?_
 refine qat eu.env_ (b:=false) kz (rfl) ?_
 refine wp_skip ?_
 refine qac ?_
 refine wp_seq ?_
 refine qhw (t:=80) (e:=92) (size:=18) (bytes:=48) (d:=70) (A0:=none) (m:=0) (cp:=0) [(7,.p 0 0),(9,.v (.bool (decide (v ≥ 0)))),(10,.p 1 0),(15,.v (.int .i32 (((lst (T.at_ 2)).length:Nat):Int))),(69,.v (.slice none 0 0))] [(7,.p 0 0),(9,.v (.bool (decide (v ≥ 0)))),(10,.p 1 0),(14,.v (.slice none 0 0)),(15,.v (.int .i32 (((lst (T.at_ 2)).length:Nat):Int)))] 1 eu fun _ ff=>?_
 clear eu
 refine qac ?_
 refine qgk (Mid:=fun a_ w_=>∃ (ar:DV) (P':qcR),(∀ w F,P' w F → noF w F ∧ (Slots w F 18 ar.A ar.c ar.l (fun i=>[qaa (((ar.f i).f 0).o.getD 0 0),qaa (((ar.f i).f 0).o.getD 1 0),qaa (((ar.f i).f 0).o.getD 2 0),qaa (((ar.f i).f 0).o.getD 3 0),qaa (((ar.f i).f 0).o.getD 4 0),qaa (((ar.f i).f 0).o.getD 5 0),qaa (((ar.f i).f 0).o.getD 6 0),qaa (((ar.f i).f 0).o.getD 7 0),qaa (((ar.f i).f 0).o.getD 8 0),qaa (((ar.f i).f 0).o.getD 9 0),qaa (((ar.f i).f 0).o.getD 10 0),qaa (((ar.f i).f 0).o.getD 11 0),qaa (((ar.f i).f 0).o.getD 12 0),qaa (((ar.f i).f 0).o.getD 13 0),qaa (((ar.f i).f 0).o.getD 14 0),qaa (((ar.f i).f 0).o.getD 15 0),.slice (((ar.f i).f 1).A) (((ar.f i).f 1).l) (((ar.f i).f 1).c),.map ((ar.f i).m)]) ∧ ar.l ≤ 1000000 ∧ ∀ i,i < ar.l → qaV w F (ar.f i)) ∧ (ar.l = (lst (T.at_ 2)).length ∧ ∀ i,i < ar.l → qa6 v (ar.f i) ((lst (T.at_ 2)).getD i .zero))) ∧ RS w (fun b o=>b = bv ∧ o < 5) F 201 bh [⟨bv,0,[.int .i16 v,.int .i32 (IntKind.i32.wrap (T.at_ 0).N),.int .i16 (IntKind.i16.wrap (T.at_ 1).N),.slice none 0 0,.map none],true⟩] [(7,.p 0 0),(9,.v (.bool (decide (v ≥ 0)))),(10,.p 1 0),(14,.v (.slice ar.A ar.l ar.c))] P' bp a_ w_) ?_ ?_
 ·
  refine wp_seq ?_
  refine qbT [(7,.p 0 0),(9,.v (.bool (decide (v ≥ 0)))),(10,.p 1 0),(14,.v (.slice none 0 0)),(15,.v (.int .i32 (((lst (T.at_ 2)).length:Nat):Int))),(72,.v (.bool (decide ((((lst (T.at_ 2)).length:Nat):Int) > 0))))] ff fun _ aR=>qac ?_
  clear ff
  refine qax aR.env_ (b:=decide ((((lst (T.at_ 2)).length:Nat):Int) > 0)) kz (fun bi=>?_) (fun bi=>?_)
  ·
   have hn_g65:0 < (lst (T.at_ 2)).length:=by have h_:=of_decide_eq_true bi; omega
   refine qaq [0,1,2,3] kz ?_
   refine qc4 [0,1] [2,3] [(7,.p 0 0),(9,.v (.bool (decide (v ≥ 0)))),(10,.p 1 0),(15,.v (.int .i32 (((lst (T.at_ 2)).length:Nat):Int))),(73,.v (.slice none 0 0)),(74,.v (.int .i32 (((lst (T.at_ 2)).length:Nat):Int)))] aR fun _ fg=>?_
   clear aR
   refine qan (qeU (A0:=none) (d:=75) (t:=80) (tn:=21) (e:=92) (size:=18) (bytes:=48) (k:=.i32) (kn:=.i32) (q:=(((lst (T.at_ 2)).length:Nat):Int)) (j:=(lst (T.at_ 2)).length) (.agg #[.int .u8 0,.int .u8 0,.int .u8 0,.int .u8 0,.int .u8 0,.int .u8 0,.int .u8 0,.int .u8 0,.int .u8 0,.int .u8 0,.int .u8 0,.int .u8 0,.int .u8 0,.int .u8 0,.int .u8 0,.int .u8 0,.slice none 0 0,.map none]) fg (fun af ai _ _ hg_g65 hcap_g65 fh=>?_) rfl hn_g65 (by have:=e26_2; omega))
   clear fg
   refine qc4 [3] [] [(7,.p 0 0),(9,.v (.bool (decide (v ≥ 0)))),(10,.p 1 0),(14,.v (.slice (some ⟨af,0,none⟩) ((lst (T.at_ 2)).length) ai)),(15,.v (.int .i32 (((lst (T.at_ 2)).length:Nat):Int)))] fh fun _ fi=>qah ?_
   clear fh
   refine qac ?_
   refine wp_seq ?_
   refine qbT [(7,.p 0 0),(9,.v (.bool (decide (v ≥ 0)))),(10,.p 1 0),(14,.v (.slice (some ⟨af,0,none⟩) ((lst (T.at_ 2)).length) ai)),(15,.v (.int .i32 (((lst (T.at_ 2)).length:Nat):Int))),(16,.v (.int .i32 0))] fi fun _ ev=>?_
   clear fi
   refine qac ?_
   refine wp_block ?_
   have bq:=ev.mv
   have gc:=(ev.cast (t:=(lst (T.at_ 2)).flatMap (qaK v) ++ bp) rfl).pk (env':=[(7,.p 0 0),(9,.v (.bool (decide (v ≥ 0)))),(10,.p 1 0),(14,.v (.slice (some ⟨af,0,none⟩) ((lst (T.at_ 2)).length) ai)),(15,.v (.int .i32 (((lst (T.at_ 2)).length:Nat):Int))),(16,.v (.int .i32 ((0:Nat):Int)))])
   clear ev
   refine qhv (tb:=[⟨bv,0,[.int .i16 v,.int .i32 (IntKind.i32.wrap (T.at_ 0).N),.int .i16 (IntKind.i16.wrap (T.at_ 1).N),.slice none 0 0,.map none],true⟩]) (z:=.agg #[.int .u8 0,.int .u8 0,.int .u8 0,.int .u8 0,.int .u8 0,.int .u8 0,.int .u8 0,.int .u8 0,.int .u8 0,.int .u8 0,.int .u8 0,.int .u8 0,.int .u8 0,.int .u8 0,.int .u8 0,.int .u8 0,.slice none 0 0,.map none]) (cl:=qbJ) (ok:=qaV) (rel:=(qa6 v)) (L:=lst (T.at_ 2)) (size:=18) (qaK v) bp (fun k=>[(7,.p 0 0),(9,.v (.bool (decide (v ≥ 0)))),(10,.p 1 0),(14,.v (.slice (some ⟨af,0,none⟩) ((lst (T.at_ 2)).length) ai)),(15,.v (.int .i32 (((lst (T.at_ 2)).length:Nat):Int))),(16,.v (.int .i32 ((k:Nat):Int)))]) gc qa1 (fun ag ab _ _ ew gd fj=>?_) (fun _ _ fk=>?_)
   ·
    obtain ⟨gv,fm,fo⟩:∃ P',(∀ w F,P' w F → (noF w F ∧ qfB af 18 qbJ qaV (qa6 v) (lst (T.at_ 2)) ag w F)) ∧ RS w (fun b o=>b = bv ∧ o < 5) F 201 bh [⟨bv,0,[.int .i16 v,.int .i32 (IntKind.i32.wrap (T.at_ 0).N),.int .i16 (IntKind.i16.wrap (T.at_ 1).N),.slice none 0 0,.map none],true⟩,qbm af 18 (.agg #[.int .u8 0,.int .u8 0,.int .u8 0,.int .u8 0,.int .u8 0,.int .u8 0,.int .u8 0,.int .u8 0,.int .u8 0,.int .u8 0,.int .u8 0,.int .u8 0,.int .u8 0,.int .u8 0,.int .u8 0,.int .u8 0,.slice none 0 0,.map none]) ((lst (T.at_ 2)).length) ag] [(7,.p 0 0),(9,.v (.bool (decide (v ≥ 0)))),(10,.p 1 0),(14,.v (.slice (some ⟨af,0,none⟩) ((lst (T.at_ 2)).length) ai)),(15,.v (.int .i32 (((lst (T.at_ 2)).length:Nat):Int))),(16,.v (.int .i32 ((ag:Nat):Int)))] P' ((qaK v) ab ++ (((lst (T.at_ 2)).drop (ag + 1)).flatMap (qaK v) ++ bp)) _ _:=⟨_,fun _ _ h=>h,fj⟩
    clear fj
    obtain ⟨fq,fr⟩:∃ R,R = ((lst (T.at_ 2)).drop (ag + 1)).flatMap (qaK v) ++ bp:=⟨_,rfl⟩
    have gw:=(e26_2e ab (List.mem_of_getElem? ew))
    have e84r:=(qeS (qeC e26r 2) ab (List.mem_of_getElem? ew))
    unfold qbh at gw
    obtain ⟨e84_0,⟨e84_1,e84_1e⟩,e84_U,_⟩:=gw
    obtain ⟨bt,ft⟩:∃ R,R = (if (decide (v ≥ 0)) = true then (uv ab.U.length) ++ (qcm ab.U) else []) ++ fq:=⟨_,rfl⟩
    obtain ⟨gE,fu⟩:∃ R,R = ((if (decide (v ≥ 0)) = true then (uv ((lst (ab.at_ 1)).length + 1)) else (be 4 (lst (ab.at_ 1)).length)) ++ ((lst (ab.at_ 1)).flatMap (qaE v))) ++ bt:=⟨_,rfl⟩
    obtain ⟨gF,fv⟩:∃ R,R = (qad (ab.at_ 0).S) ++ gE:=⟨_,rfl⟩
    have fw:=fo.cast (t:=gF) (by rw [fv,fu,ft,← fr]; unfold qaK; simp only [List.append_assoc])
    clear fo
    refine wp_seq ?_
    refine wp_seq ?_
    refine qbT [(7,.p 0 0),(9,.v (.bool (decide (v ≥ 0)))),(10,.p 1 0),(14,.v (.slice (some ⟨af,0,none⟩) ((lst (T.at_ 2)).length) ai)),(15,.v (.int .i32 (((lst (T.at_ 2)).length:Nat):Int))),(16,.v (.int .i32 ((ag:Nat):Int))),(78,.v (.bool (decide (((ag:Nat):Int) < (((lst (T.at_ 2)).length:Nat):Int)))))] fw fun _ ey=>qac ?_
    clear fw
    refine qbf ey.env_ (b:=decide (((ag:Nat):Int) < (((lst (T.at_ 2)).length:Nat):Int))) kz (decide_eq_true (by omega)) ?_
    refine wp_skip ?_
    refine qac ?_
    refine wp_seq ?_
    refine wp_block ?_
    refine wp_seq ?_
    refine qhx (t:=80) (e:=92) (size:=18) (bytes:=48) (d:=83) (tb:=[⟨bv,0,[.int .i16 v,.int .i32 (IntKind.i32.wrap (T.at_ 0).N),.int .i16 (IntKind.i16.wrap (T.at_ 1).N),.slice none 0 0,.map none],true⟩]) (z:=.agg #[.int .u8 0,.int .u8 0,.int .u8 0,.int .u8 0,.int .u8 0,.int .u8 0,.int .u8 0,.int .u8 0,.int .u8 0,.int .u8 0,.int .u8 0,.int .u8 0,.int .u8 0,.int .u8 0,.int .u8 0,.int .u8 0,.slice none 0 0,.map none]) [(7,.p 0 0),(9,.v (.bool (decide (v ≥ 0)))),(10,.p 1 0),(14,.v (.slice (some ⟨af,0,none⟩) ((lst (T.at_ 2)).length) ai)),(15,.v (.int .i32 (((lst (T.at_ 2)).length:Nat):Int))),(16,.v (.int .i32 ((ag:Nat):Int))),(81,.v (.slice (some ⟨af,0,none⟩) ((lst (T.at_ 2)).length) ai)),(82,.v (.int .i32 ((ag:Nat):Int)))] [(7,.p 0 0),(9,.v (.bool (decide (v ≥ 0)))),(10,.p 1 0),(14,.v (.slice (some ⟨af,0,none⟩) ((lst (T.at_ 2)).length) ai)),(15,.v (.int .i32 (((lst (T.at_ 2)).length:Nat):Int))),(16,.v (.int .i32 ((ag:Nat):Int))),(17,.p 3 0)] 2 ey gd rfl kz fun _ fx=>?_
    clear ey
    have fy:=fx.tbEq (tb':=[⟨bv,0,[.int .i16 v,.int .i32 (IntKind.i32.wrap (T.at_ 0).N),.int .i16 (IntKind.i16.wrap (T.at_ 1).N),.slice none 0 0,.map none],true⟩,qbm af 18 (.agg #[.int .u8 0,.int .u8 0,.int .u8 0,.int .u8 0,.int .u8 0,.int .u8 0,.int .u8 0,.int .u8 0,.int .u8 0,.int .u8 0,.int .u8 0,.int .u8 0,.int .u8 0,.int .u8 0,.int .u8 0,.int .u8 0,.slice none 0 0,.map none]) ((lst (T.at_ 2)).length) (ag + 1),⟨af,ag * 18,[.int .u8 0,.int .u8 0,.int .u8 0,.int .u8 0,.int .u8 0,.int .u8 0,.int .u8 0,.int .u8 0,.int .u8 0,.int .u8 0,.int .u8 0,.int .u8 0,.int .u8 0,.int .u8 0,.int .u8 0,.int .u8 0,.slice none 0 0,.map none],true⟩]) rfl
    clear fx
    refine qac ?_
    refine wp_seq ?_
    refine qaq [0,1] kz ?_
    refine qc4 [0] [1] [(7,.p 0 0),(9,.v (.bool (decide (v ≥ 0)))),(10,.p 1 0),(14,.v (.slice (some ⟨af,0,none⟩) ((lst (T.at_ 2)).length) ai)),(15,.v (.int .i32 (((lst (T.at_ 2)).length:Nat):Int))),(16,.v (.int .i32 ((ag:Nat):Int))),(17,.p 3 0),(84,.p 3 0)] fy fun _ fz=>?_
    clear fy
    refine qan (qjA (d:=85) (vs:=[.pointer (some ⟨af,ag * 18,none⟩)]) fz (fun _=>qlM _ _ _) Tryz.call97 fun _ fA=>?_)
    clear fz
    refine qah ?_
    have fB:=fA.pk (env':=[(7,.p 0 0),(9,.v (.bool (decide (v ≥ 0)))),(10,.p 1 0),(14,.v (.slice (some ⟨af,0,none⟩) ((lst (T.at_ 2)).length) ai)),(15,.v (.int .i32 (((lst (T.at_ 2)).length:Nat):Int))),(16,.v (.int .i32 ((ag:Nat):Int))),(17,.p 3 0)])
    clear fA
    refine qac ?_
    refine wp_seq ?_
    refine qbT [(7,.p 0 0),(9,.v (.bool (decide (v ≥ 0)))),(10,.p 1 0),(14,.v (.slice (some ⟨af,0,none⟩) ((lst (T.at_ 2)).length) ai)),(15,.v (.int .i32 (((lst (T.at_ 2)).length:Nat):Int))),(16,.v (.int .i32 ((ag:Nat):Int))),(18,.p 3 0)] fB fun _ fC=>?_
    clear fB
    refine qac ?_
    refine wp_seq ?_
    refine wp_seq ?_
    refine qaq [0,1,2] kz ?_
    have fD:=fC.cast fv
    clear fC
    refine qan (qgj (d:=87) fD (qls (ab.at_ 0).S _) Tryz.call98 fun _ _ bu=>?_)
    clear fD
    refine qan (qhW (d:=19) [.int .u8 0,.int .u8 0,.int .u8 0,.int .u8 0,.int .u8 0,.int .u8 0,.int .u8 0,.int .u8 0,.int .u8 0,.int .u8 0,.int .u8 0,.int .u8 0,.int .u8 0,.int .u8 0,.int .u8 0,.int .u8 0] bu fun ez _ _ hb_b102 bw=>?_)
    clear bu
    have bx:=(bw.tbEq (tb':=[⟨bv,0,[.int .i16 v,.int .i32 (IntKind.i32.wrap (T.at_ 0).N),.int .i16 (IntKind.i16.wrap (T.at_ 1).N),.slice none 0 0,.map none],true⟩,qbm af 18 (.agg #[.int .u8 0,.int .u8 0,.int .u8 0,.int .u8 0,.int .u8 0,.int .u8 0,.int .u8 0,.int .u8 0,.int .u8 0,.int .u8 0,.int .u8 0,.int .u8 0,.int .u8 0,.int .u8 0,.int .u8 0,.int .u8 0,.slice none 0 0,.map none]) ((lst (T.at_ 2)).length) (ag + 1),⟨af,ag * 18,[.int .u8 0,.int .u8 0,.int .u8 0,.int .u8 0,.int .u8 0,.int .u8 0,.int .u8 0,.int .u8 0,.int .u8 0,.int .u8 0,.int .u8 0,.int .u8 0,.int .u8 0,.int .u8 0,.int .u8 0,.int .u8 0,.slice none 0 0,.map none],true⟩,⟨ez,0,[.int .u8 0,.int .u8 0,.int .u8 0,.int .u8 0,.int .u8 0,.int .u8 0,.int .u8 0,.int .u8 0,.int .u8 0,.int .u8 0,.int .u8 0,.int .u8 0,.int .u8 0,.int .u8 0,.int .u8 0,.int .u8 0],true⟩]) rfl).pk (env':=[(7,.p 0 0),(9,.v (.bool (decide (v ≥ 0)))),(10,.p 1 0),(14,.v (.slice (some ⟨af,0,none⟩) ((lst (T.at_ 2)).length) ai)),(15,.v (.int .i32 (((lst (T.at_ 2)).length:Nat):Int))),(16,.v (.int .i32 ((ag:Nat):Int))),(18,.p 3 0),(87,.v (.agg #[qaa ((qad (ab.at_ 0).S).getD 0 0),qaa ((qad (ab.at_ 0).S).getD 1 0),qaa ((qad (ab.at_ 0).S).getD 2 0),qaa ((qad (ab.at_ 0).S).getD 3 0),qaa ((qad (ab.at_ 0).S).getD 4 0),qaa ((qad (ab.at_ 0).S).getD 5 0),qaa ((qad (ab.at_ 0).S).getD 6 0),qaa ((qad (ab.at_ 0).S).getD 7 0),qaa ((qad (ab.at_ 0).S).getD 8 0),qaa ((qad (ab.at_ 0).S).getD 9 0),qaa ((qad (ab.at_ 0).S).getD 10 0),qaa ((qad (ab.at_ 0).S).getD 11 0),qaa ((qad (ab.at_ 0).S).getD 12 0),qaa ((qad (ab.at_ 0).S).getD 13 0),qaa ((qad (ab.at_ 0).S).getD 14 0),qaa ((qad (ab.at_ 0).S).getD 15 0)])),(19,.p 4 0)])
    clear bw
    refine qan (qd4 [⟨bv,0,[.int .i16 v,.int .i32 (IntKind.i32.wrap (T.at_ 0).N),.int .i16 (IntKind.i16.wrap (T.at_ 1).N),.slice none 0 0,.map none],true⟩,qbm af 18 (.agg #[.int .u8 0,.int .u8 0,.int .u8 0,.int .u8 0,.int .u8 0,.int .u8 0,.int .u8 0,.int .u8 0,.int .u8 0,.int .u8 0,.int .u8 0,.int .u8 0,.int .u8 0,.int .u8 0,.int .u8 0,.int .u8 0,.slice none 0 0,.map none]) ((lst (T.at_ 2)).length) (ag + 1),⟨af,ag * 18,[.int .u8 0,.int .u8 0,.int .u8 0,.int .u8 0,.int .u8 0,.int .u8 0,.int .u8 0,.int .u8 0,.int .u8 0,.int .u8 0,.int .u8 0,.int .u8 0,.int .u8 0,.int .u8 0,.int .u8 0,.int .u8 0,.slice none 0 0,.map none],true⟩,⟨ez,0,[qaa ((qad (ab.at_ 0).S).getD 0 0),qaa ((qad (ab.at_ 0).S).getD 1 0),qaa ((qad (ab.at_ 0).S).getD 2 0),qaa ((qad (ab.at_ 0).S).getD 3 0),qaa ((qad (ab.at_ 0).S).getD 4 0),qaa ((qad (ab.at_ 0).S).getD 5 0),qaa ((qad (ab.at_ 0).S).getD 6 0),qaa ((qad (ab.at_ 0).S).getD 7 0),qaa ((qad (ab.at_ 0).S).getD 8 0),qaa ((qad (ab.at_ 0).S).getD 9 0),qaa ((qad (ab.at_ 0).S).getD 10 0),qaa ((qad (ab.at_ 0).S).getD 11 0),qaa ((qad (ab.at_ 0).S).getD 12 0),qaa ((qad (ab.at_ 0).S).getD 13 0),qaa ((qad (ab.at_ 0).S).getD 14 0),qaa ((qad (ab.at_ 0).S).getD 15 0)],true⟩] 3 bx fun _ bz=>?_)
    clear bx
    refine qah ?_
    have bA:=bz.pk (env':=[(7,.p 0 0),(9,.v (.bool (decide (v ≥ 0)))),(10,.p 1 0),(14,.v (.slice (some ⟨af,0,none⟩) ((lst (T.at_ 2)).length) ai)),(15,.v (.int .i32 (((lst (T.at_ 2)).length:Nat):Int))),(16,.v (.int .i32 ((ag:Nat):Int))),(18,.p 3 0),(19,.p 4 0)])
    clear bz
    refine qac ?_
    refine qeD [⟨bv,0,[.int .i16 v,.int .i32 (IntKind.i32.wrap (T.at_ 0).N),.int .i16 (IntKind.i16.wrap (T.at_ 1).N),.slice none 0 0,.map none],true⟩,qbm af 18 (.agg #[.int .u8 0,.int .u8 0,.int .u8 0,.int .u8 0,.int .u8 0,.int .u8 0,.int .u8 0,.int .u8 0,.int .u8 0,.int .u8 0,.int .u8 0,.int .u8 0,.int .u8 0,.int .u8 0,.int .u8 0,.int .u8 0,.slice none 0 0,.map none]) ((lst (T.at_ 2)).length) (ag + 1),⟨af,ag * 18,[qaa ((qad (ab.at_ 0).S).getD 0 0),qaa ((qad (ab.at_ 0).S).getD 1 0),qaa ((qad (ab.at_ 0).S).getD 2 0),qaa ((qad (ab.at_ 0).S).getD 3 0),qaa ((qad (ab.at_ 0).S).getD 4 0),qaa ((qad (ab.at_ 0).S).getD 5 0),qaa ((qad (ab.at_ 0).S).getD 6 0),qaa ((qad (ab.at_ 0).S).getD 7 0),qaa ((qad (ab.at_ 0).S).getD 8 0),qaa ((qad (ab.at_ 0).S).getD 9 0),qaa ((qad (ab.at_ 0).S).getD 10 0),qaa ((qad (ab.at_ 0).S).getD 11 0),qaa ((qad (ab.at_ 0).S).getD 12 0),qaa ((qad (ab.at_ 0).S).getD 13 0),qaa ((qad (ab.at_ 0).S).getD 14 0),qaa ((qad (ab.at_ 0).S).getD 15 0),.slice none 0 0,.map none],true⟩,⟨ez,0,[qaa ((qad (ab.at_ 0).S).getD 0 0),qaa ((qad (ab.at_ 0).S).getD 1 0),qaa ((qad (ab.at_ 0).S).getD 2 0),qaa ((qad (ab.at_ 0).S).getD 3 0),qaa ((qad (ab.at_ 0).S).getD 4 0),qaa ((qad (ab.at_ 0).S).getD 5 0),qaa ((qad (ab.at_ 0).S).getD 6 0),qaa ((qad (ab.at_ 0).S).getD 7 0),qaa ((qad (ab.at_ 0).S).getD 8 0),qaa ((qad (ab.at_ 0).S).getD 9 0),qaa ((qad (ab.at_ 0).S).getD 10 0),qaa ((qad (ab.at_ 0).S).getD 11 0),qaa ((qad (ab.at_ 0).S).getD 12 0),qaa ((qad (ab.at_ 0).S).getD 13 0),qaa ((qad (ab.at_ 0).S).getD 14 0),qaa ((qad (ab.at_ 0).S).getD 15 0)],true⟩] 2 [(7,.p 0 0),(9,.v (.bool (decide (v ≥ 0)))),(10,.p 1 0),(14,.v (.slice (some ⟨af,0,none⟩) ((lst (T.at_ 2)).length) ai)),(15,.v (.int .i32 (((lst (T.at_ 2)).length:Nat):Int))),(16,.v (.int .i32 ((ag:Nat):Int))),(18,.p 3 0)] bA fun _ _ bB=>?_
    clear bA
    have bC:=RS.dropT (tb:=[⟨bv,0,[.int .i16 v,.int .i32 (IntKind.i32.wrap (T.at_ 0).N),.int .i16 (IntKind.i16.wrap (T.at_ 1).N),.slice none 0 0,.map none],true⟩,qbm af 18 (.agg #[.int .u8 0,.int .u8 0,.int .u8 0,.int .u8 0,.int .u8 0,.int .u8 0,.int .u8 0,.int .u8 0,.int .u8 0,.int .u8 0,.int .u8 0,.int .u8 0,.int .u8 0,.int .u8 0,.int .u8 0,.int .u8 0,.slice none 0 0,.map none]) ((lst (T.at_ 2)).length) (ag + 1),⟨af,ag * 18,[qaa ((qad (ab.at_ 0).S).getD 0 0),qaa ((qad (ab.at_ 0).S).getD 1 0),qaa ((qad (ab.at_ 0).S).getD 2 0),qaa ((qad (ab.at_ 0).S).getD 3 0),qaa ((qad (ab.at_ 0).S).getD 4 0),qaa ((qad (ab.at_ 0).S).getD 5 0),qaa ((qad (ab.at_ 0).S).getD 6 0),qaa ((qad (ab.at_ 0).S).getD 7 0),qaa ((qad (ab.at_ 0).S).getD 8 0),qaa ((qad (ab.at_ 0).S).getD 9 0),qaa ((qad (ab.at_ 0).S).getD 10 0),qaa ((qad (ab.at_ 0).S).getD 11 0),qaa ((qad (ab.at_ 0).S).getD 12 0),qaa ((qad (ab.at_ 0).S).getD 13 0),qaa ((qad (ab.at_ 0).S).getD 14 0),qaa ((qad (ab.at_ 0).S).getD 15 0),.slice none 0 0,.map none],true⟩]) bB hb_b102 kz
    clear bB
    refine qac ?_
    refine wp_seq ?_
    refine wp_seq ?_
    refine qbT [(7,.p 0 0),(9,.v (.bool (decide (v ≥ 0)))),(10,.p 1 0),(14,.v (.slice (some ⟨af,0,none⟩) ((lst (T.at_ 2)).length) ai)),(15,.v (.int .i32 (((lst (T.at_ 2)).length:Nat):Int))),(16,.v (.int .i32 ((ag:Nat):Int))),(18,.p 3 0),(20,.v (.slice none 0 0))] bC fun _ bD=>?_
    clear bC
    refine qac ?_
    refine wp_seq ?_
    refine qbT [(7,.p 0 0),(9,.v (.bool (decide (v ≥ 0)))),(10,.p 1 0),(14,.v (.slice (some ⟨af,0,none⟩) ((lst (T.at_ 2)).length) ai)),(15,.v (.int .i32 (((lst (T.at_ 2)).length:Nat):Int))),(16,.v (.int .i32 ((ag:Nat):Int))),(18,.p 3 0),(21,.v (.slice none 0 0))] bD fun _ bE=>?_
    clear bD
    refine qac ?_
    refine wp_seq ?_
    refine qbT [(7,.p 0 0),(9,.v (.bool (decide (v ≥ 0)))),(10,.p 1 0),(14,.v (.slice (some ⟨af,0,none⟩) ((lst (T.at_ 2)).length) ai)),(15,.v (.int .i32 (((lst (T.at_ 2)).length:Nat):Int))),(16,.v (.int .i32 ((ag:Nat):Int))),(18,.p 3 0),(21,.v (.slice none 0 0))] bE fun _ bF=>?_
    clear bE
    refine qac ?_
    refine wp_seq ?_
    have bG:=bF.cast fu
    clear bF
    have bH:=bG.cast (t:=(if (decide (v ≥ 0)) = true then (uv ((lst (ab.at_ 1)).length + 1)) else (be 4 (lst (ab.at_ 1)).length)) ++ (((lst (ab.at_ 1)).flatMap (qaE v)) ++ bt)) (by rw [List.append_assoc])
    clear bG
    refine qht (d1:=98) (d2:=99) [(7,.p 0 0),(9,.v (.bool (decide (v ≥ 0)))),(10,.p 1 0),(14,.v (.slice (some ⟨af,0,none⟩) ((lst (T.at_ 2)).length) ai)),(15,.v (.int .i32 (((lst (T.at_ 2)).length:Nat):Int))),(16,.v (.int .i32 ((ag:Nat):Int))),(18,.p 3 0),(21,.v (.slice none 0 0)),(97,.v (.bool (decide (v ≥ 0))))] [(7,.p 0 0),(9,.v (.bool (decide (v ≥ 0)))),(10,.p 1 0),(14,.v (.slice (some ⟨af,0,none⟩) ((lst (T.at_ 2)).length) ai)),(15,.v (.int .i32 (((lst (T.at_ 2)).length:Nat):Int))),(16,.v (.int .i32 ((ag:Nat):Int))),(18,.p 3 0),(21,.v (.slice none 0 0)),(22,.v (.int .i32 (((lst (ab.at_ 1)).length:Nat):Int)))] bH (qcZ ((lst (ab.at_ 1)).length) e84_1 _ (flat_ge' (qbz v) _)) Tryz.call93 (qfC ((lst (ab.at_ 1)).length) e84_1 _ (flat_ge' (qbz v) _)) Tryz.call94 fun _ _ bI=>?_
    clear bH
    refine qac ?_
    refine wp_seq ?_
    refine wp_seq ?_
    refine qk1 (d:=100) [(7,.p 0 0),(9,.v (.bool (decide (v ≥ 0)))),(10,.p 1 0),(14,.v (.slice (some ⟨af,0,none⟩) ((lst (T.at_ 2)).length) ai)),(15,.v (.int .i32 (((lst (T.at_ 2)).length:Nat):Int))),(16,.v (.int .i32 ((ag:Nat):Int))),(18,.p 3 0),(21,.v (.slice none 0 0)),(22,.v (.int .i32 (((lst (ab.at_ 1)).length:Nat):Int))),(101,.v (.bool false))] bI (pOk _) Tryz.call95 fun _ _ aS=>?_
    clear bI
    refine qac ?_
    refine qat aS.env_ (b:=false) kz (rfl) ?_
    refine wp_skip ?_
    refine qac ?_
    refine wp_seq ?_
    refine qhw (t:=90) (e:=139) (size:=18) (bytes:=48) (d:=104) (A0:=none) (m:=0) (cp:=0) [(7,.p 0 0),(9,.v (.bool (decide (v ≥ 0)))),(10,.p 1 0),(14,.v (.slice (some ⟨af,0,none⟩) ((lst (T.at_ 2)).length) ai)),(15,.v (.int .i32 (((lst (T.at_ 2)).length:Nat):Int))),(16,.v (.int .i32 ((ag:Nat):Int))),(18,.p 3 0),(22,.v (.int .i32 (((lst (ab.at_ 1)).length:Nat):Int))),(103,.v (.slice none 0 0))] [(7,.p 0 0),(9,.v (.bool (decide (v ≥ 0)))),(10,.p 1 0),(14,.v (.slice (some ⟨af,0,none⟩) ((lst (T.at_ 2)).length) ai)),(15,.v (.int .i32 (((lst (T.at_ 2)).length:Nat):Int))),(16,.v (.int .i32 ((ag:Nat):Int))),(18,.p 3 0),(21,.v (.slice none 0 0)),(22,.v (.int .i32 (((lst (ab.at_ 1)).length:Nat):Int)))] 1 aS fun _ bJ=>?_
    clear aS
    refine qac ?_
    refine qgk (Mid:=fun a_ w_=>∃ (aj:DV) (P':qcR),(∀ w F,P' w F → gv w F ∧ (Slots w F 18 aj.A aj.c aj.l (fun i=>[qaa (((aj.f i).f 0).o.getD 0 0),qaa (((aj.f i).f 0).o.getD 1 0),qaa (((aj.f i).f 0).o.getD 2 0),qaa (((aj.f i).f 0).o.getD 3 0),qaa (((aj.f i).f 0).o.getD 4 0),qaa (((aj.f i).f 0).o.getD 5 0),qaa (((aj.f i).f 0).o.getD 6 0),qaa (((aj.f i).f 0).o.getD 7 0),qaa (((aj.f i).f 0).o.getD 8 0),qaa (((aj.f i).f 0).o.getD 9 0),qaa (((aj.f i).f 0).o.getD 10 0),qaa (((aj.f i).f 0).o.getD 11 0),qaa (((aj.f i).f 0).o.getD 12 0),qaa (((aj.f i).f 0).o.getD 13 0),qaa (((aj.f i).f 0).o.getD 14 0),qaa (((aj.f i).f 0).o.getD 15 0),.slice (((aj.f i).f 1).A) (((aj.f i).f 1).l) (((aj.f i).f 1).c),.map ((aj.f i).m)]) ∧ aj.l ≤ 1000000 ∧ ∀ i,i < aj.l → qaN w F (aj.f i)) ∧ (aj.l = (lst (ab.at_ 1)).length ∧ ∀ i,i < aj.l → qa2 v (aj.f i) ((lst (ab.at_ 1)).getD i .zero))) ∧ RS w (fun b o=>b = bv ∧ o < 5) F 201 bh [⟨bv,0,[.int .i16 v,.int .i32 (IntKind.i32.wrap (T.at_ 0).N),.int .i16 (IntKind.i16.wrap (T.at_ 1).N),.slice none 0 0,.map none],true⟩,qbm af 18 (.agg #[.int .u8 0,.int .u8 0,.int .u8 0,.int .u8 0,.int .u8 0,.int .u8 0,.int .u8 0,.int .u8 0,.int .u8 0,.int .u8 0,.int .u8 0,.int .u8 0,.int .u8 0,.int .u8 0,.int .u8 0,.int .u8 0,.slice none 0 0,.map none]) ((lst (T.at_ 2)).length) (ag + 1),⟨af,ag * 18,[qaa ((qad (ab.at_ 0).S).getD 0 0),qaa ((qad (ab.at_ 0).S).getD 1 0),qaa ((qad (ab.at_ 0).S).getD 2 0),qaa ((qad (ab.at_ 0).S).getD 3 0),qaa ((qad (ab.at_ 0).S).getD 4 0),qaa ((qad (ab.at_ 0).S).getD 5 0),qaa ((qad (ab.at_ 0).S).getD 6 0),qaa ((qad (ab.at_ 0).S).getD 7 0),qaa ((qad (ab.at_ 0).S).getD 8 0),qaa ((qad (ab.at_ 0).S).getD 9 0),qaa ((qad (ab.at_ 0).S).getD 10 0),qaa ((qad (ab.at_ 0).S).getD 11 0),qaa ((qad (ab.at_ 0).S).getD 12 0),qaa ((qad (ab.at_ 0).S).getD 13 0),qaa ((qad (ab.at_ 0).S).getD 14 0),qaa ((qad (ab.at_ 0).S).getD 15 0),.slice none 0 0,.map none],true⟩] [(7,.p 0 0),(9,.v (.bool (decide (v ≥ 0)))),(10,.p 1 0),(14,.v (.slice (some ⟨af,0,none⟩) ((lst (T.at_ 2)).length) ai)),(15,.v (.int .i32 (((lst (T.at_ 2)).length:Nat):Int))),(16,.v (.int .i32 ((ag:Nat):Int))),(18,.p 3 0),(21,.v (.slice aj.A aj.l aj.c))] P' bt a_ w_) ?_ ?_
    ·
     refine wp_seq ?_
     refine qbT [(7,.p 0 0),(9,.v (.bool (decide (v ≥ 0)))),(10,.p 1 0),(14,.v (.slice (some ⟨af,0,none⟩) ((lst (T.at_ 2)).length) ai)),(15,.v (.int .i32 (((lst (T.at_ 2)).length:Nat):Int))),(16,.v (.int .i32 ((ag:Nat):Int))),(18,.p 3 0),(21,.v (.slice none 0 0)),(22,.v (.int .i32 (((lst (ab.at_ 1)).length:Nat):Int))),(106,.v (.bool (decide ((((lst (ab.at_ 1)).length:Nat):Int) > 0))))] bJ fun _ ay=>qac ?_
     clear bJ
     refine qax ay.env_ (b:=decide ((((lst (ab.at_ 1)).length:Nat):Int) > 0)) kz (fun aN=>?_) (fun aN=>?_)
     ·
      have hn_g125:0 < (lst (ab.at_ 1)).length:=by have h_:=of_decide_eq_true aN; omega
      refine qaq [0,1,2,3] kz ?_
      refine qc4 [0,1] [2,3] [(7,.p 0 0),(9,.v (.bool (decide (v ≥ 0)))),(10,.p 1 0),(14,.v (.slice (some ⟨af,0,none⟩) ((lst (T.at_ 2)).length) ai)),(15,.v (.int .i32 (((lst (T.at_ 2)).length:Nat):Int))),(16,.v (.int .i32 ((ag:Nat):Int))),(18,.p 3 0),(22,.v (.int .i32 (((lst (ab.at_ 1)).length:Nat):Int))),(107,.v (.slice none 0 0)),(108,.v (.int .i32 (((lst (ab.at_ 1)).length:Nat):Int)))] ay fun _ bK=>?_
      clear ay
      refine qan (qeU (A0:=none) (d:=109) (t:=90) (tn:=21) (e:=139) (size:=18) (bytes:=48) (k:=.i32) (kn:=.i32) (q:=(((lst (ab.at_ 1)).length:Nat):Int)) (j:=(lst (ab.at_ 1)).length) (.agg #[.int .u8 0,.int .u8 0,.int .u8 0,.int .u8 0,.int .u8 0,.int .u8 0,.int .u8 0,.int .u8 0,.int .u8 0,.int .u8 0,.int .u8 0,.int .u8 0,.int .u8 0,.int .u8 0,.int .u8 0,.int .u8 0,.slice none 0 0,.map none]) bK (fun ac ah _ _ hg_g125 hcap_g125 bL=>?_) rfl hn_g125 (by have:=e84_1; omega))
      clear bK
      refine qc4 [3] [] [(7,.p 0 0),(9,.v (.bool (decide (v ≥ 0)))),(10,.p 1 0),(14,.v (.slice (some ⟨af,0,none⟩) ((lst (T.at_ 2)).length) ai)),(15,.v (.int .i32 (((lst (T.at_ 2)).length:Nat):Int))),(16,.v (.int .i32 ((ag:Nat):Int))),(18,.p 3 0),(21,.v (.slice (some ⟨ac,0,none⟩) ((lst (ab.at_ 1)).length) ah)),(22,.v (.int .i32 (((lst (ab.at_ 1)).length:Nat):Int)))] bL fun _ bM=>qah ?_
      clear bL
      refine qac ?_
      refine wp_seq ?_
      refine qbT [(7,.p 0 0),(9,.v (.bool (decide (v ≥ 0)))),(10,.p 1 0),(14,.v (.slice (some ⟨af,0,none⟩) ((lst (T.at_ 2)).length) ai)),(15,.v (.int .i32 (((lst (T.at_ 2)).length:Nat):Int))),(16,.v (.int .i32 ((ag:Nat):Int))),(18,.p 3 0),(21,.v (.slice (some ⟨ac,0,none⟩) ((lst (ab.at_ 1)).length) ah)),(22,.v (.int .i32 (((lst (ab.at_ 1)).length:Nat):Int))),(23,.v (.int .i32 0))] bM fun _ aT=>?_
      clear bM
      refine qac ?_
      refine wp_block ?_
      have aU:=aT.mv
      have fE:=(aT.cast (t:=(lst (ab.at_ 1)).flatMap (qaE v) ++ bt) rfl).pk (env':=[(7,.p 0 0),(9,.v (.bool (decide (v ≥ 0)))),(10,.p 1 0),(14,.v (.slice (some ⟨af,0,none⟩) ((lst (T.at_ 2)).length) ai)),(15,.v (.int .i32 (((lst (T.at_ 2)).length:Nat):Int))),(16,.v (.int .i32 ((ag:Nat):Int))),(18,.p 3 0),(21,.v (.slice (some ⟨ac,0,none⟩) ((lst (ab.at_ 1)).length) ah)),(22,.v (.int .i32 (((lst (ab.at_ 1)).length:Nat):Int))),(23,.v (.int .i32 ((0:Nat):Int)))])
      clear aT
      refine qhv (tb:=[⟨bv,0,[.int .i16 v,.int .i32 (IntKind.i32.wrap (T.at_ 0).N),.int .i16 (IntKind.i16.wrap (T.at_ 1).N),.slice none 0 0,.map none],true⟩,qbm af 18 (.agg #[.int .u8 0,.int .u8 0,.int .u8 0,.int .u8 0,.int .u8 0,.int .u8 0,.int .u8 0,.int .u8 0,.int .u8 0,.int .u8 0,.int .u8 0,.int .u8 0,.int .u8 0,.int .u8 0,.int .u8 0,.int .u8 0,.slice none 0 0,.map none]) ((lst (T.at_ 2)).length) (ag + 1),⟨af,ag * 18,[qaa ((qad (ab.at_ 0).S).getD 0 0),qaa ((qad (ab.at_ 0).S).getD 1 0),qaa ((qad (ab.at_ 0).S).getD 2 0),qaa ((qad (ab.at_ 0).S).getD 3 0),qaa ((qad (ab.at_ 0).S).getD 4 0),qaa ((qad (ab.at_ 0).S).getD 5 0),qaa ((qad (ab.at_ 0).S).getD 6 0),qaa ((qad (ab.at_ 0).S).getD 7 0),qaa ((qad (ab.at_ 0).S).getD 8 0),qaa ((qad (ab.at_ 0).S).getD 9 0),qaa ((qad (ab.at_ 0).S).getD 10 0),qaa ((qad (ab.at_ 0).S).getD 11 0),qaa ((qad (ab.at_ 0).S).getD 12 0),qaa ((qad (ab.at_ 0).S).getD 13 0),qaa ((qad (ab.at_ 0).S).getD 14 0),qaa ((qad (ab.at_ 0).S).getD 15 0),.slice none 0 0,.map none],true⟩]) (z:=.agg #[.int .u8 0,.int .u8 0,.int .u8 0,.int .u8 0,.int .u8 0,.int .u8 0,.int .u8 0,.int .u8 0,.int .u8 0,.int .u8 0,.int .u8 0,.int .u8 0,.int .u8 0,.int .u8 0,.int .u8 0,.int .u8 0,.slice none 0 0,.map none]) (cl:=qbB) (ok:=qaN) (rel:=(qa2 v)) (L:=lst (ab.at_ 1)) (size:=18) (qaE v) bt (fun k=>[(7,.p 0 0),(9,.v (.bool (decide (v ≥ 0)))),(10,.p 1 0),(14,.v (.slice (some ⟨af,0,none⟩) ((lst (T.at_ 2)).length) ai)),(15,.v (.int .i32 (((lst (T.at_ 2)).length:Nat):Int))),(16,.v (.int .i32 ((ag:Nat):Int))),(18,.p 3 0),(21,.v (.slice (some ⟨ac,0,none⟩) ((lst (ab.at_ 1)).length) ah)),(22,.v (.int .i32 (((lst (ab.at_ 1)).length:Nat):Int))),(23,.v (.int .i32 ((k:Nat):Int)))]) fE qaU (fun ae aa _ _ aV fF bN=>?_) (fun _ _ bO=>?_)
      ·
       obtain ⟨fG,bP,bQ⟩:∃ P',(∀ w F,P' w F → (gv w F ∧ qfB ac 18 qbB qaN (qa2 v) (lst (ab.at_ 1)) ae w F)) ∧ RS w (fun b o=>b = bv ∧ o < 5) F 201 bh [⟨bv,0,[.int .i16 v,.int .i32 (IntKind.i32.wrap (T.at_ 0).N),.int .i16 (IntKind.i16.wrap (T.at_ 1).N),.slice none 0 0,.map none],true⟩,qbm af 18 (.agg #[.int .u8 0,.int .u8 0,.int .u8 0,.int .u8 0,.int .u8 0,.int .u8 0,.int .u8 0,.int .u8 0,.int .u8 0,.int .u8 0,.int .u8 0,.int .u8 0,.int .u8 0,.int .u8 0,.int .u8 0,.int .u8 0,.slice none 0 0,.map none]) ((lst (T.at_ 2)).length) (ag + 1),⟨af,ag * 18,[qaa ((qad (ab.at_ 0).S).getD 0 0),qaa ((qad (ab.at_ 0).S).getD 1 0),qaa ((qad (ab.at_ 0).S).getD 2 0),qaa ((qad (ab.at_ 0).S).getD 3 0),qaa ((qad (ab.at_ 0).S).getD 4 0),qaa ((qad (ab.at_ 0).S).getD 5 0),qaa ((qad (ab.at_ 0).S).getD 6 0),qaa ((qad (ab.at_ 0).S).getD 7 0),qaa ((qad (ab.at_ 0).S).getD 8 0),qaa ((qad (ab.at_ 0).S).getD 9 0),qaa ((qad (ab.at_ 0).S).getD 10 0),qaa ((qad (ab.at_ 0).S).getD 11 0),qaa ((qad (ab.at_ 0).S).getD 12 0),qaa ((qad (ab.at_ 0).S).getD 13 0),qaa ((qad (ab.at_ 0).S).getD 14 0),qaa ((qad (ab.at_ 0).S).getD 15 0),.slice none 0 0,.map none],true⟩,qbm ac 18 (.agg #[.int .u8 0,.int .u8 0,.int .u8 0,.int .u8 0,.int .u8 0,.int .u8 0,.int .u8 0,.int .u8 0,.int .u8 0,.int .u8 0,.int .u8 0,.int .u8 0,.int .u8 0,.int .u8 0,.int .u8 0,.int .u8 0,.slice none 0 0,.map none]) ((lst (ab.at_ 1)).length) ae] [(7,.p 0 0),(9,.v (.bool (decide (v ≥ 0)))),(10,.p 1 0),(14,.v (.slice (some ⟨af,0,none⟩) ((lst (T.at_ 2)).length) ai)),(15,.v (.int .i32 (((lst (T.at_ 2)).length:Nat):Int))),(16,.v (.int .i32 ((ag:Nat):Int))),(18,.p 3 0),(21,.v (.slice (some ⟨ac,0,none⟩) ((lst (ab.at_ 1)).length) ah)),(22,.v (.int .i32 (((lst (ab.at_ 1)).length:Nat):Int))),(23,.v (.int .i32 ((ae:Nat):Int)))] P' ((qaE v) aa ++ (((lst (ab.at_ 1)).drop (ae + 1)).flatMap (qaE v) ++ bt)) _ _:=⟨_,fun _ _ h=>h,bN⟩
       clear bN
       obtain ⟨aW,bR⟩:∃ R,R = ((lst (ab.at_ 1)).drop (ae + 1)).flatMap (qaE v) ++ bt:=⟨_,rfl⟩
       have fH:=(e84_1e aa (List.mem_of_getElem? aV))
       have e144r:=(qeS (qeC e84r 1) aa (List.mem_of_getElem? aV))
       unfold qbc at fH
       obtain ⟨e144_0,⟨e144_1,e144_1e⟩,e144_U,_⟩:=fH
       obtain ⟨az,bS⟩:∃ R,R = (if (decide (v ≥ 0)) = true then (uv aa.U.length) ++ (qcm aa.U) else []) ++ aW:=⟨_,rfl⟩
       obtain ⟨ge,bT⟩:∃ R,R = ((if (decide (v ≥ 0)) = true then (uv ((lst (aa.at_ 1)).length + 1)) else (be 4 (lst (aa.at_ 1)).length)) ++ ((lst (aa.at_ 1)).flatMap (qay v))) ++ az:=⟨_,rfl⟩
       obtain ⟨gg,bU⟩:∃ R,R = (qad (aa.at_ 0).S) ++ ge:=⟨_,rfl⟩
       have bV:=bQ.cast (t:=gg) (by rw [bU,bT,bS,← bR]; unfold qaE; simp only [List.append_assoc])
       clear bQ
       refine wp_seq ?_
       refine wp_seq ?_
       refine qbT [(7,.p 0 0),(9,.v (.bool (decide (v ≥ 0)))),(10,.p 1 0),(14,.v (.slice (some ⟨af,0,none⟩) ((lst (T.at_ 2)).length) ai)),(15,.v (.int .i32 (((lst (T.at_ 2)).length:Nat):Int))),(16,.v (.int .i32 ((ag:Nat):Int))),(18,.p 3 0),(21,.v (.slice (some ⟨ac,0,none⟩) ((lst (ab.at_ 1)).length) ah)),(22,.v (.int .i32 (((lst (ab.at_ 1)).length:Nat):Int))),(23,.v (.int .i32 ((ae:Nat):Int))),(112,.v (.bool (decide (((ae:Nat):Int) < (((lst (ab.at_ 1)).length:Nat):Int)))))] bV fun _ aX=>qac ?_
       clear bV
       refine qbf aX.env_ (b:=decide (((ae:Nat):Int) < (((lst (ab.at_ 1)).length:Nat):Int))) kz (decide_eq_true (by omega)) ?_
       refine wp_skip ?_
       refine qac ?_
       refine wp_seq ?_
       refine wp_block ?_
       refine wp_seq ?_
       refine qhx (t:=90) (e:=139) (size:=18) (bytes:=48) (d:=117) (tb:=[⟨bv,0,[.int .i16 v,.int .i32 (IntKind.i32.wrap (T.at_ 0).N),.int .i16 (IntKind.i16.wrap (T.at_ 1).N),.slice none 0 0,.map none],true⟩,qbm af 18 (.agg #[.int .u8 0,.int .u8 0,.int .u8 0,.int .u8 0,.int .u8 0,.int .u8 0,.int .u8 0,.int .u8 0,.int .u8 0,.int .u8 0,.int .u8 0,.int .u8 0,.int .u8 0,.int .u8 0,.int .u8 0,.int .u8 0,.slice none 0 0,.map none]) ((lst (T.at_ 2)).length) (ag + 1),⟨af,ag * 18,[qaa ((qad (ab.at_ 0).S).getD 0 0),qaa ((qad (ab.at_ 0).S).getD 1 0),qaa ((qad (ab.at_ 0).S).getD 2 0),qaa ((qad (ab.at_ 0).S).getD 3 0),qaa ((qad (ab.at_ 0).S).getD 4 0),qaa ((qad (ab.at_ 0).S).getD 5 0),qaa ((qad (ab.at_ 0).S).getD 6 0),qaa ((qad (ab.at_ 0).S).getD 7 0),qaa ((qad (ab.at_ 0).S).getD 8 0),qaa ((qad (ab.at_ 0).S).getD 9 0),qaa ((qad (ab.at_ 0).S).getD 10 0),qaa ((qad (ab.at_ 0).S).getD 11 0),qaa ((qad (ab.at_ 0).S).getD 12 0),qaa ((qad (ab.at_ 0).S).getD 13 0),qaa ((qad (ab.at_ 0).S).getD 14 0),qaa ((qad (ab.at_ 0).S).getD 15 0),.slice none 0 0,.map none],true⟩]) (z:=.agg #[.int .u8 0,.int .u8 0,.int .u8 0,.int .u8 0,.int .u8 0,.int .u8 0,.int .u8 0,.int .u8 0,.int .u8 0,.int .u8 0,.int .u8 0,.int .u8 0,.int .u8 0,.int .u8 0,.int .u8 0,.int .u8 0,.slice none 0 0,.map none]) [(7,.p 0 0),(9,.v (.bool (decide (v ≥ 0)))),(10,.p 1 0),(14,.v (.slice (some ⟨af,0,none⟩) ((lst (T.at_ 2)).length) ai)),(15,.v (.int .i32 (((lst (T.at_ 2)).length:Nat):Int))),(16,.v (.int .i32 ((ag:Nat):Int))),(18,.p 3 0),(21,.v (.slice (some ⟨ac,0,none⟩) ((lst (ab.at_ 1)).length) ah)),(22,.v (.int .i32 (((lst (ab.at_ 1)).length:Nat):Int))),(23,.v (.int .i32 ((ae:Nat):Int))),(115,.v (.slice (some ⟨ac,0,none⟩) ((lst (ab.at_ 1)).length) ah)),(116,.v (.int .i32 ((ae:Nat):Int)))] [(7,.p 0 0),(9,.v (.bool (decide (v ≥ 0)))),(10,.p 1 0),(14,.v (.slice (some ⟨af,0,none⟩) ((lst (T.at_ 2)).length) ai)),(15,.v (.int .i32 (((lst (T.at_ 2)).length:Nat):Int))),(16,.v (.int .i32 ((ag:Nat):Int))),(18,.p 3 0),(21,.v (.slice (some ⟨ac,0,none⟩) ((lst (ab.at_ 1)).length) ah)),(22,.v (.int .i32 (((lst (ab.at_ 1)).length:Nat):Int))),(23,.v (.int .i32 ((ae:Nat):Int))),(24,.p 5 0)] 2 aX fF rfl kz fun _ bW=>?_
       clear aX
       have bX:=bW.tbEq (tb':=[⟨bv,0,[.int .i16 v,.int .i32 (IntKind.i32.wrap (T.at_ 0).N),.int .i16 (IntKind.i16.wrap (T.at_ 1).N),.slice none 0 0,.map none],true⟩,qbm af 18 (.agg #[.int .u8 0,.int .u8 0,.int .u8 0,.int .u8 0,.int .u8 0,.int .u8 0,.int .u8 0,.int .u8 0,.int .u8 0,.int .u8 0,.int .u8 0,.int .u8 0,.int .u8 0,.int .u8 0,.int .u8 0,.int .u8 0,.slice none 0 0,.map none]) ((lst (T.at_ 2)).length) (ag + 1),⟨af,ag * 18,[qaa ((qad (ab.at_ 0).S).getD 0 0),qaa ((qad (ab.at_ 0).S).getD 1 0),qaa ((qad (ab.at_ 0).S).getD 2 0),qaa ((qad (ab.at_ 0).S).getD 3 0),qaa ((qad (ab.at_ 0).S).getD 4 0),qaa ((qad (ab.at_ 0).S).getD 5 0),qaa ((qad (ab.at_ 0).S).getD 6 0),qaa ((qad (ab.at_ 0).S).getD 7 0),qaa ((qad (ab.at_ 0).S).getD 8 0),qaa ((qad (ab.at_ 0).S).getD 9 0),qaa ((qad (ab.at_ 0).S).getD 10 0),qaa ((qad (ab.at_ 0).S).getD 11 0),qaa ((qad (ab.at_ 0).S).getD 12 0),qaa ((qad (ab.at_ 0).S).getD 13 0),qaa ((qad (ab.at_ 0).S).getD 14 0),qaa ((qad (ab.at_ 0).S).getD 15 0),.slice none 0 0,.map none],true⟩,qbm ac 18 (.agg #[.int .u8 0,.int .u8 0,.int .u8 0,.int .u8 0,.int .u8 0,.int .u8 0,.int .u8 0,.int .u8 0,.int .u8 0,.int .u8 0,.int .u8 0,.int .u8 0,.int .u8 0,.int .u8 0,.int .u8 0,.int .u8 0,.slice none 0 0,.map none]) ((lst (ab.at_ 1)).length) (ae + 1),⟨ac,ae * 18,[.int .u8 0,.int .u8 0,.int .u8 0,.int .u8 0,.int .u8 0,.int .u8 0,.int .u8 0,.int .u8 0,.int .u8 0,.int .u8 0,.int .u8 0,.int .u8 0,.int .u8 0,.int .u8 0,.int .u8 0,.int .u8 0,.slice none 0 0,.map none],true⟩]) rfl
       clear bW
       refine qac ?_
       refine wp_seq ?_
       refine qaq [0,1] kz ?_
       refine qc4 [0] [1] [(7,.p 0 0),(9,.v (.bool (decide (v ≥ 0)))),(10,.p 1 0),(14,.v (.slice (some ⟨af,0,none⟩) ((lst (T.at_ 2)).length) ai)),(15,.v (.int .i32 (((lst (T.at_ 2)).length:Nat):Int))),(16,.v (.int .i32 ((ag:Nat):Int))),(18,.p 3 0),(21,.v (.slice (some ⟨ac,0,none⟩) ((lst (ab.at_ 1)).length) ah)),(22,.v (.int .i32 (((lst (ab.at_ 1)).length:Nat):Int))),(23,.v (.int .i32 ((ae:Nat):Int))),(24,.p 5 0),(118,.p 5 0)] bX fun _ bY=>?_
       clear bX
       refine qan (qjA (d:=119) (vs:=[.pointer (some ⟨ac,ae * 18,none⟩)]) bY (fun _=>qlN _ _ _) Tryz.call99 fun _ bZ=>?_)
       clear bY
       refine qah ?_
       have b8:=bZ.pk (env':=[(7,.p 0 0),(9,.v (.bool (decide (v ≥ 0)))),(10,.p 1 0),(14,.v (.slice (some ⟨af,0,none⟩) ((lst (T.at_ 2)).length) ai)),(15,.v (.int .i32 (((lst (T.at_ 2)).length:Nat):Int))),(16,.v (.int .i32 ((ag:Nat):Int))),(18,.p 3 0),(21,.v (.slice (some ⟨ac,0,none⟩) ((lst (ab.at_ 1)).length) ah)),(22,.v (.int .i32 (((lst (ab.at_ 1)).length:Nat):Int))),(23,.v (.int .i32 ((ae:Nat):Int))),(24,.p 5 0)])
       clear bZ
       refine qac ?_
       refine wp_seq ?_
       refine qbT [(7,.p 0 0),(9,.v (.bool (decide (v ≥ 0)))),(10,.p 1 0),(14,.v (.slice (some ⟨af,0,none⟩) ((lst (T.at_ 2)).length) ai)),(15,.v (.int .i32 (((lst (T.at_ 2)).length:Nat):Int))),(16,.v (.int .i32 ((ag:Nat):Int))),(18,.p 3 0),(21,.v (.slice (some ⟨ac,0,none⟩) ((lst (ab.at_ 1)).length) ah)),(22,.v (.int .i32 (((lst (ab.at_ 1)).length:Nat):Int))),(23,.v (.int .i32 ((ae:Nat):Int))),(25,.p 5 0)] b8 fun _ cd=>?_
       clear b8
       refine qac ?_
       refine wp_seq ?_
       refine wp_seq ?_
       refine qaq [0,1,2] kz ?_
       have ce:=cd.cast bU
       clear cd
       refine qan (qgj (d:=121) ce (qls (aa.at_ 0).S _) Tryz.call98 fun _ _ cm=>?_)
       clear ce
       refine qan (qhW (d:=26) [.int .u8 0,.int .u8 0,.int .u8 0,.int .u8 0,.int .u8 0,.int .u8 0,.int .u8 0,.int .u8 0,.int .u8 0,.int .u8 0,.int .u8 0,.int .u8 0,.int .u8 0,.int .u8 0,.int .u8 0,.int .u8 0] cm fun eB _ _ hb_b162 cq=>?_)
       clear cm
       have cr:=(cq.tbEq (tb':=[⟨bv,0,[.int .i16 v,.int .i32 (IntKind.i32.wrap (T.at_ 0).N),.int .i16 (IntKind.i16.wrap (T.at_ 1).N),.slice none 0 0,.map none],true⟩,qbm af 18 (.agg #[.int .u8 0,.int .u8 0,.int .u8 0,.int .u8 0,.int .u8 0,.int .u8 0,.int .u8 0,.int .u8 0,.int .u8 0,.int .u8 0,.int .u8 0,.int .u8 0,.int .u8 0,.int .u8 0,.int .u8 0,.int .u8 0,.slice none 0 0,.map none]) ((lst (T.at_ 2)).length) (ag + 1),⟨af,ag * 18,[qaa ((qad (ab.at_ 0).S).getD 0 0),qaa ((qad (ab.at_ 0).S).getD 1 0),qaa ((qad (ab.at_ 0).S).getD 2 0),qaa ((qad (ab.at_ 0).S).getD 3 0),qaa ((qad (ab.at_ 0).S).getD 4 0),qaa ((qad (ab.at_ 0).S).getD 5 0),qaa ((qad (ab.at_ 0).S).getD 6 0),qaa ((qad (ab.at_ 0).S).getD 7 0),qaa ((qad (ab.at_ 0).S).getD 8 0),qaa ((qad (ab.at_ 0).S).getD 9 0),qaa ((qad (ab.at_ 0).S).getD 10 0),qaa ((qad (ab.at_ 0).S).getD 11 0),qaa ((qad (ab.at_ 0).S).getD 12 0),qaa ((qad (ab.at_ 0).S).getD 13 0),qaa ((qad (ab.at_ 0).S).getD 14 0),qaa ((qad (ab.at_ 0).S).getD 15 0),.slice none 0 0,.map none],true⟩,qbm ac 18 (.agg #[.int .u8 0,.int .u8 0,.int .u8 0,.int .u8 0,.int .u8 0,.int .u8 0,.int .u8 0,.int .u8 0,.int .u8 0,.int .u8 0,.int .u8 0,.int .u8 0,.int .u8 0,.int .u8 0,.int .u8 0,.int .u8 0,.slice none 0 0,.map none]) ((lst (ab.at_ 1)).length) (ae + 1),⟨ac,ae * 18,[.int .u8 0,.int .u8 0,.int .u8 0,.int .u8 0,.int .u8 0,.int .u8 0,.int .u8 0,.int .u8 0,.int .u8 0,.int .u8 0,.int .u8 0,.int .u8 0,.int .u8 0,.int .u8 0,.int .u8 0,.int .u8 0,.slice none 0 0,.map none],true⟩,⟨eB,0,[.int .u8 0,.int .u8 0,.int .u8 0,.int .u8 0,.int .u8 0,.int .u8 0,.int .u8 0,.int .u8 0,.int .u8 0,.int .u8 0,.int .u8 0,.int .u8 0,.int .u8 0,.int .u8 0,.int .u8 0,.int .u8 0],true⟩]) rfl).pk (env':=[(7,.p 0 0),(9,.v (.bool (decide (v ≥ 0)))),(10,.p 1 0),(14,.v (.slice (some ⟨af,0,none⟩) ((lst (T.at_ 2)).length) ai)),(15,.v (.int .i32 (((lst (T.at_ 2)).length:Nat):Int))),(16,.v (.int .i32 ((ag:Nat):Int))),(18,.p 3 0),(21,.v (.slice (some ⟨ac,0,none⟩) ((lst (ab.at_ 1)).length) ah)),(22,.v (.int .i32 (((lst (ab.at_ 1)).length:Nat):Int))),(23,.v (.int .i32 ((ae:Nat):Int))),(25,.p 5 0),(121,.v (.agg #[qaa ((qad (aa.at_ 0).S).getD 0 0),qaa ((qad (aa.at_ 0).S).getD 1 0),qaa ((qad (aa.at_ 0).S).getD 2 0),qaa ((qad (aa.at_ 0).S).getD 3 0),qaa ((qad (aa.at_ 0).S).getD 4 0),qaa ((qad (aa.at_ 0).S).getD 5 0),qaa ((qad (aa.at_ 0).S).getD 6 0),qaa ((qad (aa.at_ 0).S).getD 7 0),qaa ((qad (aa.at_ 0).S).getD 8 0),qaa ((qad (aa.at_ 0).S).getD 9 0),qaa ((qad (aa.at_ 0).S).getD 10 0),qaa ((qad (aa.at_ 0).S).getD 11 0),qaa ((qad (aa.at_ 0).S).getD 12 0),qaa ((qad (aa.at_ 0).S).getD 13 0),qaa ((qad (aa.at_ 0).S).getD 14 0),qaa ((qad (aa.at_ 0).S).getD 15 0)])),(26,.p 6 0)])
       clear cq
       refine qan (qd4 [⟨bv,0,[.int .i16 v,.int .i32 (IntKind.i32.wrap (T.at_ 0).N),.int .i16 (IntKind.i16.wrap (T.at_ 1).N),.slice none 0 0,.map none],true⟩,qbm af 18 (.agg #[.int .u8 0,.int .u8 0,.int .u8 0,.int .u8 0,.int .u8 0,.int .u8 0,.int .u8 0,.int .u8 0,.int .u8 0,.int .u8 0,.int .u8 0,.int .u8 0,.int .u8 0,.int .u8 0,.int .u8 0,.int .u8 0,.slice none 0 0,.map none]) ((lst (T.at_ 2)).length) (ag + 1),⟨af,ag * 18,[qaa ((qad (ab.at_ 0).S).getD 0 0),qaa ((qad (ab.at_ 0).S).getD 1 0),qaa ((qad (ab.at_ 0).S).getD 2 0),qaa ((qad (ab.at_ 0).S).getD 3 0),qaa ((qad (ab.at_ 0).S).getD 4 0),qaa ((qad (ab.at_ 0).S).getD 5 0),qaa ((qad (ab.at_ 0).S).getD 6 0),qaa ((qad (ab.at_ 0).S).getD 7 0),qaa ((qad (ab.at_ 0).S).getD 8 0),qaa ((qad (ab.at_ 0).S).getD 9 0),qaa ((qad (ab.at_ 0).S).getD 10 0),qaa ((qad (ab.at_ 0).S).getD 11 0),qaa ((qad (ab.at_ 0).S).getD 12 0),qaa ((qad (ab.at_ 0).S).getD 13 0),qaa ((qad (ab.at_ 0).S).getD 14 0),qaa ((qad (ab.at_ 0).S).getD 15 0),.slice none 0 0,.map none],true⟩,qbm ac 18 (.agg #[.int .u8 0,.int .u8 0,.int .u8 0,.int .u8 0,.int .u8 0,.int .u8 0,.int .u8 0,.int .u8 0,.int .u8 0,.int .u8 0,.int .u8 0,.int .u8 0,.int .u8 0,.int .u8 0,.int .u8 0,.int .u8 0,.slice none 0 0,.map none]) ((lst (ab.at_ 1)).length) (ae + 1),⟨ac,ae * 18,[.int .u8 0,.int .u8 0,.int .u8 0,.int .u8 0,.int .u8 0,.int .u8 0,.int .u8 0,.int .u8 0,.int .u8 0,.int .u8 0,.int .u8 0,.int .u8 0,.int .u8 0,.int .u8 0,.int .u8 0,.int .u8 0,.slice none 0 0,.map none],true⟩,⟨eB,0,[qaa ((qad (aa.at_ 0).S).getD 0 0),qaa ((qad (aa.at_ 0).S).getD 1 0),qaa ((qad (aa.at_ 0).S).getD 2 0),qaa ((qad (aa.at_ 0).S).getD 3 0),qaa ((qad (aa.at_ 0).S).getD 4 0),qaa ((qad (aa.at_ 0).S).getD 5 0),qaa ((qad (aa.at_ 0).S).getD 6 0),qaa ((qad (aa.at_ 0).S).getD 7 0),qaa ((qad (aa.at_ 0).S).getD 8 0),qaa ((qad (aa.at_ 0).S).getD 9 0),qaa ((qad (aa.at_ 0).S).getD 10 0),qaa ((qad (aa.at_ 0).S).getD 11 0),qaa ((qad (aa.at_ 0).S).getD 12 0),qaa ((qad (aa.at_ 0).S).getD 13 0),qaa ((qad (aa.at_ 0).S).getD 14 0),qaa ((qad (aa.at_ 0).S).getD 15 0)],true⟩] 5 cr fun _ cu=>?_)
       clear cr
       refine qah ?_
       have cw:=cu.pk (env':=[(7,.p 0 0),(9,.v (.bool (decide (v ≥ 0)))),(10,.p 1 0),(14,.v (.slice (some ⟨af,0,none⟩) ((lst (T.at_ 2)).length) ai)),(15,.v (.int .i32 (((lst (T.at_ 2)).length:Nat):Int))),(16,.v (.int .i32 ((ag:Nat):Int))),(18,.p 3 0),(21,.v (.slice (some ⟨ac,0,none⟩) ((lst (ab.at_ 1)).length) ah)),(22,.v (.int .i32 (((lst (ab.at_ 1)).length:Nat):Int))),(23,.v (.int .i32 ((ae:Nat):Int))),(25,.p 5 0),(26,.p 6 0)])
       clear cu
       refine qac ?_
       refine qeD [⟨bv,0,[.int .i16 v,.int .i32 (IntKind.i32.wrap (T.at_ 0).N),.int .i16 (IntKind.i16.wrap (T.at_ 1).N),.slice none 0 0,.map none],true⟩,qbm af 18 (.agg #[.int .u8 0,.int .u8 0,.int .u8 0,.int .u8 0,.int .u8 0,.int .u8 0,.int .u8 0,.int .u8 0,.int .u8 0,.int .u8 0,.int .u8 0,.int .u8 0,.int .u8 0,.int .u8 0,.int .u8 0,.int .u8 0,.slice none 0 0,.map none]) ((lst (T.at_ 2)).length) (ag + 1),⟨af,ag * 18,[qaa ((qad (ab.at_ 0).S).getD 0 0),qaa ((qad (ab.at_ 0).S).getD 1 0),qaa ((qad (ab.at_ 0).S).getD 2 0),qaa ((qad (ab.at_ 0).S).getD 3 0),qaa ((qad (ab.at_ 0).S).getD 4 0),qaa ((qad (ab.at_ 0).S).getD 5 0),qaa ((qad (ab.at_ 0).S).getD 6 0),qaa ((qad (ab.at_ 0).S).getD 7 0),qaa ((qad (ab.at_ 0).S).getD 8 0),qaa ((qad (ab.at_ 0).S).getD 9 0),qaa ((qad (ab.at_ 0).S).getD 10 0),qaa ((qad (ab.at_ 0).S).getD 11 0),qaa ((qad (ab.at_ 0).S).getD 12 0),qaa ((qad (ab.at_ 0).S).getD 13 0),qaa ((qad (ab.at_ 0).S).getD 14 0),qaa ((qad (ab.at_ 0).S).getD 15 0),.slice none 0 0,.map none],true⟩,qbm ac 18 (.agg #[.int .u8 0,.int .u8 0,.int .u8 0,.int .u8 0,.int .u8 0,.int .u8 0,.int .u8 0,.int .u8 0,.int .u8 0,.int .u8 0,.int .u8 0,.int .u8 0,.int .u8 0,.int .u8 0,.int .u8 0,.int .u8 0,.slice none 0 0,.map none]) ((lst (ab.at_ 1)).length) (ae + 1),⟨ac,ae * 18,[qaa ((qad (aa.at_ 0).S).getD 0 0),qaa ((qad (aa.at_ 0).S).getD 1 0),qaa ((qad (aa.at_ 0).S).getD 2 0),qaa ((qad (aa.at_ 0).S).getD 3 0),qaa ((qad (aa.at_ 0).S).getD 4 0),qaa ((qad (aa.at_ 0).S).getD 5 0),qaa ((qad (aa.at_ 0).S).getD 6 0),qaa ((qad (aa.at_ 0).S).getD 7 0),qaa ((qad (aa.at_ 0).S).getD 8 0),qaa ((qad (aa.at_ 0).S).getD 9 0),qaa ((qad (aa.at_ 0).S).getD 10 0),qaa ((qad (aa.at_ 0).S).getD 11 0),qaa ((qad (aa.at_ 0).S).getD 12 0),qaa ((qad (aa.at_ 0).S).getD 13 0),qaa ((qad (aa.at_ 0).S).getD 14 0),qaa ((qad (aa.at_ 0).S).getD 15 0),.slice none 0 0,.map none],true⟩,⟨eB,0,[qaa ((qad (aa.at_ 0).S).getD 0 0),qaa ((qad (aa.at_ 0).S).getD 1 0),qaa ((qad (aa.at_ 0).S).getD 2 0),qaa ((qad (aa.at_ 0).S).getD 3 0),qaa ((qad (aa.at_ 0).S).getD 4 0),qaa ((qad (aa.at_ 0).S).getD 5 0),qaa ((qad (aa.at_ 0).S).getD 6 0),qaa ((qad (aa.at_ 0).S).getD 7 0),qaa ((qad (aa.at_ 0).S).getD 8 0),qaa ((qad (aa.at_ 0).S).getD 9 0),qaa ((qad (aa.at_ 0).S).getD 10 0),qaa ((qad (aa.at_ 0).S).getD 11 0),qaa ((qad (aa.at_ 0).S).getD 12 0),qaa ((qad (aa.at_ 0).S).getD 13 0),qaa ((qad (aa.at_ 0).S).getD 14 0),qaa ((qad (aa.at_ 0).S).getD 15 0)],true⟩] 4 [(7,.p 0 0),(9,.v (.bool (decide (v ≥ 0)))),(10,.p 1 0),(14,.v (.slice (some ⟨af,0,none⟩) ((lst (T.at_ 2)).length) ai)),(15,.v (.int .i32 (((lst (T.at_ 2)).length:Nat):Int))),(16,.v (.int .i32 ((ag:Nat):Int))),(18,.p 3 0),(21,.v (.slice (some ⟨ac,0,none⟩) ((lst (ab.at_ 1)).length) ah)),(22,.v (.int .i32 (((lst (ab.at_ 1)).length:Nat):Int))),(23,.v (.int .i32 ((ae:Nat):Int))),(25,.p 5 0)] cw fun _ _ cz=>?_
       clear cw
       have cA:=RS.dropT (tb:=[⟨bv,0,[.int .i16 v,.int .i32 (IntKind.i32.wrap (T.at_ 0).N),.int .i16 (IntKind.i16.wrap (T.at_ 1).N),.slice none 0 0,.map none],true⟩,qbm af 18 (.agg #[.int .u8 0,.int .u8 0,.int .u8 0,.int .u8 0,.int .u8 0,.int .u8 0,.int .u8 0,.int .u8 0,.int .u8 0,.int .u8 0,.int .u8 0,.int .u8 0,.int .u8 0,.int .u8 0,.int .u8 0,.int .u8 0,.slice none 0 0,.map none]) ((lst (T.at_ 2)).length) (ag + 1),⟨af,ag * 18,[qaa ((qad (ab.at_ 0).S).getD 0 0),qaa ((qad (ab.at_ 0).S).getD 1 0),qaa ((qad (ab.at_ 0).S).getD 2 0),qaa ((qad (ab.at_ 0).S).getD 3 0),qaa ((qad (ab.at_ 0).S).getD 4 0),qaa ((qad (ab.at_ 0).S).getD 5 0),qaa ((qad (ab.at_ 0).S).getD 6 0),qaa ((qad (ab.at_ 0).S).getD 7 0),qaa ((qad (ab.at_ 0).S).getD 8 0),qaa ((qad (ab.at_ 0).S).getD 9 0),qaa ((qad (ab.at_ 0).S).getD 10 0),qaa ((qad (ab.at_ 0).S).getD 11 0),qaa ((qad (ab.at_ 0).S).getD 12 0),qaa ((qad (ab.at_ 0).S).getD 13 0),qaa ((qad (ab.at_ 0).S).getD 14 0),qaa ((qad (ab.at_ 0).S).getD 15 0),.slice none 0 0,.map none],true⟩,qbm ac 18 (.agg #[.int .u8 0,.int .u8 0,.int .u8 0,.int .u8 0,.int .u8 0,.int .u8 0,.int .u8 0,.int .u8 0,.int .u8 0,.int .u8 0,.int .u8 0,.int .u8 0,.int .u8 0,.int .u8 0,.int .u8 0,.int .u8 0,.slice none 0 0,.map none]) ((lst (ab.at_ 1)).length) (ae + 1),⟨ac,ae * 18,[qaa ((qad (aa.at_ 0).S).getD 0 0),qaa ((qad (aa.at_ 0).S).getD 1 0),qaa ((qad (aa.at_ 0).S).getD 2 0),qaa ((qad (aa.at_ 0).S).getD 3 0),qaa ((qad (aa.at_ 0).S).getD 4 0),qaa ((qad (aa.at_ 0).S).getD 5 0),qaa ((qad (aa.at_ 0).S).getD 6 0),qaa ((qad (aa.at_ 0).S).getD 7 0),qaa ((qad (aa.at_ 0).S).getD 8 0),qaa ((qad (aa.at_ 0).S).getD 9 0),qaa ((qad (aa.at_ 0).S).getD 10 0),qaa ((qad (aa.at_ 0).S).getD 11 0),qaa ((qad (aa.at_ 0).S).getD 12 0),qaa ((qad (aa.at_ 0).S).getD 13 0),qaa ((qad (aa.at_ 0).S).getD 14 0),qaa ((qad (aa.at_ 0).S).getD 15 0),.slice none 0 0,.map none],true⟩]) cz hb_b162 kz
       clear cz
       refine qac ?_
       refine wp_seq ?_
       refine wp_seq ?_
       refine qbT [(7,.p 0 0),(9,.v (.bool (decide (v ≥ 0)))),(10,.p 1 0),(14,.v (.slice (some ⟨af,0,none⟩) ((lst (T.at_ 2)).length) ai)),(15,.v (.int .i32 (((lst (T.at_ 2)).length:Nat):Int))),(16,.v (.int .i32 ((ag:Nat):Int))),(18,.p 3 0),(21,.v (.slice (some ⟨ac,0,none⟩) ((lst (ab.at_ 1)).length) ah)),(22,.v (.int .i32 (((lst (ab.at_ 1)).length:Nat):Int))),(23,.v (.int .i32 ((ae:Nat):Int))),(25,.p 5 0),(27,.v (.slice none 0 0))] cA fun _ cB=>?_
       clear cA
       refine qac ?_
       refine wp_seq ?_
       refine qbT [(7,.p 0 0),(9,.v (.bool (decide (v ≥ 0)))),(10,.p 1 0),(14,.v (.slice (some ⟨af,0,none⟩) ((lst (T.at_ 2)).length) ai)),(15,.v (.int .i32 (((lst (T.at_ 2)).length:Nat):Int))),(16,.v (.int .i32 ((ag:Nat):Int))),(18,.p 3 0),(21,.v (.slice (some ⟨ac,0,none⟩) ((lst (ab.at_ 1)).length) ah)),(22,.v (.int .i32 (((lst (ab.at_ 1)).length:Nat):Int))),(23,.v (.int .i32 ((ae:Nat):Int))),(25,.p 5 0),(28,.v (.slice none 0 0))] cB fun _ cC=>?_
       clear cB
       refine qac ?_
       refine wp_seq ?_
       refine qbT [(7,.p 0 0),(9,.v (.bool (decide (v ≥ 0)))),(10,.p 1 0),(14,.v (.slice (some ⟨af,0,none⟩) ((lst (T.at_ 2)).length) ai)),(15,.v (.int .i32 (((lst (T.at_ 2)).length:Nat):Int))),(16,.v (.int .i32 ((ag:Nat):Int))),(18,.p 3 0),(21,.v (.slice (some ⟨ac,0,none⟩) ((lst (ab.at_ 1)).length) ah)),(22,.v (.int .i32 (((lst (ab.at_ 1)).length:Nat):Int))),(23,.v (.int .i32 ((ae:Nat):Int))),(25,.p 5 0),(28,.v (.slice none 0 0))] cC fun _ cD=>?_
       clear cC
       refine qac ?_
       refine wp_seq ?_
       have cE:=cD.cast bT
       clear cD
       have cG:=cE.cast (t:=(if (decide (v ≥ 0)) = true then (uv ((lst (aa.at_ 1)).length + 1)) else (be 4 (lst (aa.at_ 1)).length)) ++ (((lst (aa.at_ 1)).flatMap (qay v)) ++ az)) (by rw [List.append_assoc])
       clear cE
       refine qht (d1:=132) (d2:=133) [(7,.p 0 0),(9,.v (.bool (decide (v ≥ 0)))),(10,.p 1 0),(14,.v (.slice (some ⟨af,0,none⟩) ((lst (T.at_ 2)).length) ai)),(15,.v (.int .i32 (((lst (T.at_ 2)).length:Nat):Int))),(16,.v (.int .i32 ((ag:Nat):Int))),(18,.p 3 0),(21,.v (.slice (some ⟨ac,0,none⟩) ((lst (ab.at_ 1)).length) ah)),(22,.v (.int .i32 (((lst (ab.at_ 1)).length:Nat):Int))),(23,.v (.int .i32 ((ae:Nat):Int))),(25,.p 5 0),(28,.v (.slice none 0 0)),(131,.v (.bool (decide (v ≥ 0))))] [(7,.p 0 0),(9,.v (.bool (decide (v ≥ 0)))),(10,.p 1 0),(14,.v (.slice (some ⟨af,0,none⟩) ((lst (T.at_ 2)).length) ai)),(15,.v (.int .i32 (((lst (T.at_ 2)).length:Nat):Int))),(16,.v (.int .i32 ((ag:Nat):Int))),(18,.p 3 0),(21,.v (.slice (some ⟨ac,0,none⟩) ((lst (ab.at_ 1)).length) ah)),(22,.v (.int .i32 (((lst (ab.at_ 1)).length:Nat):Int))),(23,.v (.int .i32 ((ae:Nat):Int))),(25,.p 5 0),(28,.v (.slice none 0 0)),(29,.v (.int .i32 (((lst (aa.at_ 1)).length:Nat):Int)))] cG (qcZ ((lst (aa.at_ 1)).length) e144_1 _ (flat_ge' (qbr v) _)) Tryz.call93 (qfC ((lst (aa.at_ 1)).length) e144_1 _ (flat_ge' (qbr v) _)) Tryz.call94 fun _ _ cH=>?_
       clear cG
       refine qac ?_
       refine wp_seq ?_
       refine wp_seq ?_
       refine qk1 (d:=134) [(7,.p 0 0),(9,.v (.bool (decide (v ≥ 0)))),(10,.p 1 0),(14,.v (.slice (some ⟨af,0,none⟩) ((lst (T.at_ 2)).length) ai)),(15,.v (.int .i32 (((lst (T.at_ 2)).length:Nat):Int))),(16,.v (.int .i32 ((ag:Nat):Int))),(18,.p 3 0),(21,.v (.slice (some ⟨ac,0,none⟩) ((lst (ab.at_ 1)).length) ah)),(22,.v (.int .i32 (((lst (ab.at_ 1)).length:Nat):Int))),(23,.v (.int .i32 ((ae:Nat):Int))),(25,.p 5 0),(28,.v (.slice none 0 0)),(29,.v (.int .i32 (((lst (aa.at_ 1)).length:Nat):Int))),(135,.v (.bool false))] cH (pOk _) Tryz.call95 fun _ _ aY=>?_
       clear cH
       refine qac ?_
       refine qat aY.env_ (b:=false) kz (rfl) ?_
       refine wp_skip ?_
       refine qac ?_
       refine wp_seq ?_
       refine qhw (t:=137) (e:=142) (size:=3) (bytes:=16) (d:=138) (A0:=none) (m:=0) (cp:=0) [(7,.p 0 0),(9,.v (.bool (decide (v ≥ 0)))),(10,.p 1 0),(14,.v (.slice (some ⟨af,0,none⟩) ((lst (T.at_ 2)).length) ai)),(15,.v (.int .i32 (((lst (T.at_ 2)).length:Nat):Int))),(16,.v (.int .i32 ((ag:Nat):Int))),(18,.p 3 0),(21,.v (.slice (some ⟨ac,0,none⟩) ((lst (ab.at_ 1)).length) ah)),(22,.v (.int .i32 (((lst (ab.at_ 1)).length:Nat):Int))),(23,.v (.int .i32 ((ae:Nat):Int))),(25,.p 5 0),(29,.v (.int .i32 (((lst (aa.at_ 1)).length:Nat):Int))),(137,.v (.slice none 0 0))] [(7,.p 0 0),(9,.v (.bool (decide (v ≥ 0)))),(10,.p 1 0),(14,.v (.slice (some ⟨af,0,none⟩) ((lst (T.at_ 2)).length) ai)),(15,.v (.int .i32 (((lst (T.at_ 2)).length:Nat):Int))),(16,.v (.int .i32 ((ag:Nat):Int))),(18,.p 3 0),(21,.v (.slice (some ⟨ac,0,none⟩) ((lst (ab.at_ 1)).length) ah)),(22,.v (.int .i32 (((lst (ab.at_ 1)).length:Nat):Int))),(23,.v (.int .i32 ((ae:Nat):Int))),(25,.p 5 0),(28,.v (.slice none 0 0)),(29,.v (.int .i32 (((lst (aa.at_ 1)).length:Nat):Int)))] 1 aY fun _ cI=>?_
       clear aY
       refine qac ?_
       refine qgk (Mid:=fun a_ w_=>∃ (ao:DV) (P':qcR),(∀ w F,P' w F → fG w F ∧ (Slots w F 3 ao.A ao.c ao.l (fun i=>[.int .i32 (((ao.f i).f 0).n),.int .i16 (((ao.f i).f 1).n),.map ((ao.f i).m)]) ∧ ao.l ≤ 1000000 ∧ ∀ i,i < ao.l → qaF w F (ao.f i)) ∧ (ao.l = (lst (aa.at_ 1)).length ∧ ∀ i,i < ao.l → qaP v (ao.f i) ((lst (aa.at_ 1)).getD i .zero))) ∧ RS w (fun b o=>b = bv ∧ o < 5) F 201 bh [⟨bv,0,[.int .i16 v,.int .i32 (IntKind.i32.wrap (T.at_ 0).N),.int .i16 (IntKind.i16.wrap (T.at_ 1).N),.slice none 0 0,.map none],true⟩,qbm af 18 (.agg #[.int .u8 0,.int .u8 0,.int .u8 0,.int .u8 0,.int .u8 0,.int .u8 0,.int .u8 0,.int .u8 0,.int .u8 0,.int .u8 0,.int .u8 0,.int .u8 0,.int .u8 0,.int .u8 0,.int .u8 0,.int .u8 0,.slice none 0 0,.map none]) ((lst (T.at_ 2)).length) (ag + 1),⟨af,ag * 18,[qaa ((qad (ab.at_ 0).S).getD 0 0),qaa ((qad (ab.at_ 0).S).getD 1 0),qaa ((qad (ab.at_ 0).S).getD 2 0),qaa ((qad (ab.at_ 0).S).getD 3 0),qaa ((qad (ab.at_ 0).S).getD 4 0),qaa ((qad (ab.at_ 0).S).getD 5 0),qaa ((qad (ab.at_ 0).S).getD 6 0),qaa ((qad (ab.at_ 0).S).getD 7 0),qaa ((qad (ab.at_ 0).S).getD 8 0),qaa ((qad (ab.at_ 0).S).getD 9 0),qaa ((qad (ab.at_ 0).S).getD 10 0),qaa ((qad (ab.at_ 0).S).getD 11 0),qaa ((qad (ab.at_ 0).S).getD 12 0),qaa ((qad (ab.at_ 0).S).getD 13 0),qaa ((qad (ab.at_ 0).S).getD 14 0),qaa ((qad (ab.at_ 0).S).getD 15 0),.slice none 0 0,.map none],true⟩,qbm ac 18 (.agg #[.int .u8 0,.int .u8 0,.int .u8 0,.int .u8 0,.int .u8 0,.int .u8 0,.int .u8 0,.int .u8 0,.int .u8 0,.int .u8 0,.int .u8 0,.int .u8 0,.int .u8 0,.int .u8 0,.int .u8 0,.int .u8 0,.slice none 0 0,.map none]) ((lst (ab.at_ 1)).length) (ae + 1),⟨ac,ae * 18,[qaa ((qad (aa.at_ 0).S).getD 0 0),qaa ((qad (aa.at_ 0).S).getD 1 0),qaa ((qad (aa.at_ 0).S).getD 2 0),qaa ((qad (aa.at_ 0).S).getD 3 0),qaa ((qad (aa.at_ 0).S).getD 4 0),qaa ((qad (aa.at_ 0).S).getD 5 0),qaa ((qad (aa.at_ 0).S).getD 6 0),qaa ((qad (aa.at_ 0).S).getD 7 0),qaa ((qad (aa.at_ 0).S).getD 8 0),qaa ((qad (aa.at_ 0).S).getD 9 0),qaa ((qad (aa.at_ 0).S).getD 10 0),qaa ((qad (aa.at_ 0).S).getD 11 0),qaa ((qad (aa.at_ 0).S).getD 12 0),qaa ((qad (aa.at_ 0).S).getD 13 0),qaa ((qad (aa.at_ 0).S).getD 14 0),qaa ((qad (aa.at_ 0).S).getD 15 0),.slice none 0 0,.map none],true⟩] [(7,.p 0 0),(9,.v (.bool (decide (v ≥ 0)))),(10,.p 1 0),(14,.v (.slice (some ⟨af,0,none⟩) ((lst (T.at_ 2)).length) ai)),(15,.v (.int .i32 (((lst (T.at_ 2)).length:Nat):Int))),(16,.v (.int .i32 ((ag:Nat):Int))),(18,.p 3 0),(21,.v (.slice (some ⟨ac,0,none⟩) ((lst (ab.at_ 1)).length) ah)),(22,.v (.int .i32 (((lst (ab.at_ 1)).length:Nat):Int))),(23,.v (.int .i32 ((ae:Nat):Int))),(25,.p 5 0),(28,.v (.slice ao.A ao.l ao.c))] P' az a_ w_) ?_ ?_
       ·
        refine wp_seq ?_
        refine qbT [(7,.p 0 0),(9,.v (.bool (decide (v ≥ 0)))),(10,.p 1 0),(14,.v (.slice (some ⟨af,0,none⟩) ((lst (T.at_ 2)).length) ai)),(15,.v (.int .i32 (((lst (T.at_ 2)).length:Nat):Int))),(16,.v (.int .i32 ((ag:Nat):Int))),(18,.p 3 0),(21,.v (.slice (some ⟨ac,0,none⟩) ((lst (ab.at_ 1)).length) ah)),(22,.v (.int .i32 (((lst (ab.at_ 1)).length:Nat):Int))),(23,.v (.int .i32 ((ae:Nat):Int))),(25,.p 5 0),(28,.v (.slice none 0 0)),(29,.v (.int .i32 (((lst (aa.at_ 1)).length:Nat):Int))),(140,.v (.bool (decide ((((lst (aa.at_ 1)).length:Nat):Int) > 0))))] cI fun _ aA=>qac ?_
        clear cI
        refine qax aA.env_ (b:=decide ((((lst (aa.at_ 1)).length:Nat):Int) > 0)) kz (fun aO=>?_) (fun aO=>?_)
        ·
         have hn_g185:0 < (lst (aa.at_ 1)).length:=by have h_:=of_decide_eq_true aO; omega
         refine qaq [0,1,2,3] kz ?_
         refine qc4 [0,1] [2,3] [(7,.p 0 0),(9,.v (.bool (decide (v ≥ 0)))),(10,.p 1 0),(14,.v (.slice (some ⟨af,0,none⟩) ((lst (T.at_ 2)).length) ai)),(15,.v (.int .i32 (((lst (T.at_ 2)).length:Nat):Int))),(16,.v (.int .i32 ((ag:Nat):Int))),(18,.p 3 0),(21,.v (.slice (some ⟨ac,0,none⟩) ((lst (ab.at_ 1)).length) ah)),(22,.v (.int .i32 (((lst (ab.at_ 1)).length:Nat):Int))),(23,.v (.int .i32 ((ae:Nat):Int))),(25,.p 5 0),(29,.v (.int .i32 (((lst (aa.at_ 1)).length:Nat):Int))),(141,.v (.slice none 0 0)),(142,.v (.int .i32 (((lst (aa.at_ 1)).length:Nat):Int)))] aA fun _ cJ=>?_
         clear aA
         refine qan (qeU (A0:=none) (d:=143) (t:=137) (tn:=21) (e:=142) (size:=3) (bytes:=16) (k:=.i32) (kn:=.i32) (q:=(((lst (aa.at_ 1)).length:Nat):Int)) (j:=(lst (aa.at_ 1)).length) (.agg #[.int .i32 0,.int .i16 0,.map none]) cJ (fun ak am _ _ hg_g185 hcap_g185 cK=>?_) rfl hn_g185 (by have:=e144_1; omega))
         clear cJ
         refine qc4 [3] [] [(7,.p 0 0),(9,.v (.bool (decide (v ≥ 0)))),(10,.p 1 0),(14,.v (.slice (some ⟨af,0,none⟩) ((lst (T.at_ 2)).length) ai)),(15,.v (.int .i32 (((lst (T.at_ 2)).length:Nat):Int))),(16,.v (.int .i32 ((ag:Nat):Int))),(18,.p 3 0),(21,.v (.slice (some ⟨ac,0,none⟩) ((lst (ab.at_ 1)).length) ah)),(22,.v (.int .i32 (((lst (ab.at_ 1)).length:Nat):Int))),(23,.v (.int .i32 ((ae:Nat):Int))),(25,.p 5 0),(28,.v (.slice (some ⟨ak,0,none⟩) ((lst (aa.at_ 1)).length) am)),(29,.v (.int .i32 (((lst (aa.at_ 1)).length:Nat):Int)))] cK fun _ cL=>qah ?_
         clear cK
         refine qac ?_
         refine wp_seq ?_
         refine qbT [(7,.p 0 0),(9,.v (.bool (decide (v ≥ 0)))),(10,.p 1 0),(14,.v (.slice (some ⟨af,0,none⟩) ((lst (T.at_ 2)).length) ai)),(15,.v (.int .i32 (((lst (T.at_ 2)).length:Nat):Int))),(16,.v (.int .i32 ((ag:Nat):Int))),(18,.p 3 0),(21,.v (.slice (some ⟨ac,0,none⟩) ((lst (ab.at_ 1)).length) ah)),(22,.v (.int .i32 (((lst (ab.at_ 1)).length:Nat):Int))),(23,.v (.int .i32 ((ae:Nat):Int))),(25,.p 5 0),(28,.v (.slice (some ⟨ak,0,none⟩) ((lst (aa.at_ 1)).length) am)),(29,.v (.int .i32 (((lst (aa.at_ 1)).length:Nat):Int))),(30,.v (.int .i32 0))] cL fun _ aZ=>?_
         clear cL
         refine qac ?_
         refine wp_block ?_
         have ba:=aZ.mv
         have fI:=(aZ.cast (t:=(lst (aa.at_ 1)).flatMap (qay v) ++ az) rfl).pk (env':=[(7,.p 0 0),(9,.v (.bool (decide (v ≥ 0)))),(10,.p 1 0),(14,.v (.slice (some ⟨af,0,none⟩) ((lst (T.at_ 2)).length) ai)),(15,.v (.int .i32 (((lst (T.at_ 2)).length:Nat):Int))),(16,.v (.int .i32 ((ag:Nat):Int))),(18,.p 3 0),(21,.v (.slice (some ⟨ac,0,none⟩) ((lst (ab.at_ 1)).length) ah)),(22,.v (.int .i32 (((lst (ab.at_ 1)).length:Nat):Int))),(23,.v (.int .i32 ((ae:Nat):Int))),(25,.p 5 0),(28,.v (.slice (some ⟨ak,0,none⟩) ((lst (aa.at_ 1)).length) am)),(29,.v (.int .i32 (((lst (aa.at_ 1)).length:Nat):Int))),(30,.v (.int .i32 ((0:Nat):Int)))])
         clear aZ
         refine qhv (tb:=[⟨bv,0,[.int .i16 v,.int .i32 (IntKind.i32.wrap (T.at_ 0).N),.int .i16 (IntKind.i16.wrap (T.at_ 1).N),.slice none 0 0,.map none],true⟩,qbm af 18 (.agg #[.int .u8 0,.int .u8 0,.int .u8 0,.int .u8 0,.int .u8 0,.int .u8 0,.int .u8 0,.int .u8 0,.int .u8 0,.int .u8 0,.int .u8 0,.int .u8 0,.int .u8 0,.int .u8 0,.int .u8 0,.int .u8 0,.slice none 0 0,.map none]) ((lst (T.at_ 2)).length) (ag + 1),⟨af,ag * 18,[qaa ((qad (ab.at_ 0).S).getD 0 0),qaa ((qad (ab.at_ 0).S).getD 1 0),qaa ((qad (ab.at_ 0).S).getD 2 0),qaa ((qad (ab.at_ 0).S).getD 3 0),qaa ((qad (ab.at_ 0).S).getD 4 0),qaa ((qad (ab.at_ 0).S).getD 5 0),qaa ((qad (ab.at_ 0).S).getD 6 0),qaa ((qad (ab.at_ 0).S).getD 7 0),qaa ((qad (ab.at_ 0).S).getD 8 0),qaa ((qad (ab.at_ 0).S).getD 9 0),qaa ((qad (ab.at_ 0).S).getD 10 0),qaa ((qad (ab.at_ 0).S).getD 11 0),qaa ((qad (ab.at_ 0).S).getD 12 0),qaa ((qad (ab.at_ 0).S).getD 13 0),qaa ((qad (ab.at_ 0).S).getD 14 0),qaa ((qad (ab.at_ 0).S).getD 15 0),.slice none 0 0,.map none],true⟩,qbm ac 18 (.agg #[.int .u8 0,.int .u8 0,.int .u8 0,.int .u8 0,.int .u8 0,.int .u8 0,.int .u8 0,.int .u8 0,.int .u8 0,.int .u8 0,.int .u8 0,.int .u8 0,.int .u8 0,.int .u8 0,.int .u8 0,.int .u8 0,.slice none 0 0,.map none]) ((lst (ab.at_ 1)).length) (ae + 1),⟨ac,ae * 18,[qaa ((qad (aa.at_ 0).S).getD 0 0),qaa ((qad (aa.at_ 0).S).getD 1 0),qaa ((qad (aa.at_ 0).S).getD 2 0),qaa ((qad (aa.at_ 0).S).getD 3 0),qaa ((qad (aa.at_ 0).S).getD 4 0),qaa ((qad (aa.at_ 0).S).getD 5 0),qaa ((qad (aa.at_ 0).S).getD 6 0),qaa ((qad (aa.at_ 0).S).getD 7 0),qaa ((qad (aa.at_ 0).S).getD 8 0),qaa ((qad (aa.at_ 0).S).getD 9 0),qaa ((qad (aa.at_ 0).S).getD 10 0),qaa ((qad (aa.at_ 0).S).getD 11 0),qaa ((qad (aa.at_ 0).S).getD 12 0),qaa ((qad (aa.at_ 0).S).getD 13 0),qaa ((qad (aa.at_ 0).S).getD 14 0),qaa ((qad (aa.at_ 0).S).getD 15 0),.slice none 0 0,.map none],true⟩]) (z:=.agg #[.int .i32 0,.int .i16 0,.map none]) (cl:=qbt) (ok:=qaF) (rel:=(qaP v)) (L:=lst (aa.at_ 1)) (size:=3) (qay v) az (fun k=>[(7,.p 0 0),(9,.v (.bool (decide (v ≥ 0)))),(10,.p 1 0),(14,.v (.slice (some ⟨af,0,none⟩) ((lst (T.at_ 2)).length) ai)),(15,.v (.int .i32 (((lst (T.at_ 2)).length:Nat):Int))),(16,.v (.int .i32 ((ag:Nat):Int))),(18,.p 3 0),(21,.v (.slice (some ⟨ac,0,none⟩) ((lst (ab.at_ 1)).length) ah)),(22,.v (.int .i32 (((lst (ab.at_ 1)).length:Nat):Int))),(23,.v (.int .i32 ((ae:Nat):Int))),(25,.p 5 0),(28,.v (.slice (some ⟨ak,0,none⟩) ((lst (aa.at_ 1)).length) am)),(29,.v (.int .i32 (((lst (aa.at_ 1)).length:Nat):Int))),(30,.v (.int .i32 ((k:Nat):Int)))]) fI qaJ (fun al ap _ _ bd fJ cM=>?_) (fun _ _ cN=>?_)
         ·
          obtain ⟨gh,cO,cP⟩:∃ P',(∀ w F,P' w F → (fG w F ∧ qfB ak 3 qbt qaF (qaP v) (lst (aa.at_ 1)) al w F)) ∧ RS w (fun b o=>b = bv ∧ o < 5) F 201 bh [⟨bv,0,[.int .i16 v,.int .i32 (IntKind.i32.wrap (T.at_ 0).N),.int .i16 (IntKind.i16.wrap (T.at_ 1).N),.slice none 0 0,.map none],true⟩,qbm af 18 (.agg #[.int .u8 0,.int .u8 0,.int .u8 0,.int .u8 0,.int .u8 0,.int .u8 0,.int .u8 0,.int .u8 0,.int .u8 0,.int .u8 0,.int .u8 0,.int .u8 0,.int .u8 0,.int .u8 0,.int .u8 0,.int .u8 0,.slice none 0 0,.map none]) ((lst (T.at_ 2)).length) (ag + 1),⟨af,ag * 18,[qaa ((qad (ab.at_ 0).S).getD 0 0),qaa ((qad (ab.at_ 0).S).getD 1 0),qaa ((qad (ab.at_ 0).S).getD 2 0),qaa ((qad (ab.at_ 0).S).getD 3 0),qaa ((qad (ab.at_ 0).S).getD 4 0),qaa ((qad (ab.at_ 0).S).getD 5 0),qaa ((qad (ab.at_ 0).S).getD 6 0),qaa ((qad (ab.at_ 0).S).getD 7 0),qaa ((qad (ab.at_ 0).S).getD 8 0),qaa ((qad (ab.at_ 0).S).getD 9 0),qaa ((qad (ab.at_ 0).S).getD 10 0),qaa ((qad (ab.at_ 0).S).getD 11 0),qaa ((qad (ab.at_ 0).S).getD 12 0),qaa ((qad (ab.at_ 0).S).getD 13 0),qaa ((qad (ab.at_ 0).S).getD 14 0),qaa ((qad (ab.at_ 0).S).getD 15 0),.slice none 0 0,.map none],true⟩,qbm ac 18 (.agg #[.int .u8 0,.int .u8 0,.int .u8 0,.int .u8 0,.int .u8 0,.int .u8 0,.int .u8 0,.int .u8 0,.int .u8 0,.int .u8 0,.int .u8 0,.int .u8 0,.int .u8 0,.int .u8 0,.int .u8 0,.int .u8 0,.slice none 0 0,.map none]) ((lst (ab.at_ 1)).length) (ae + 1),⟨ac,ae * 18,[qaa ((qad (aa.at_ 0).S).getD 0 0),qaa ((qad (aa.at_ 0).S).getD 1 0),qaa ((qad (aa.at_ 0).S).getD 2 0),qaa ((qad (aa.at_ 0).S).getD 3 0),qaa ((qad (aa.at_ 0).S).getD 4 0),qaa ((qad (aa.at_ 0).S).getD 5 0),qaa ((qad (aa.at_ 0).S).getD 6 0),qaa ((qad (aa.at_ 0).S).getD 7 0),qaa ((qad (aa.at_ 0).S).getD 8 0),qaa ((qad (aa.at_ 0).S).getD 9 0),qaa ((qad (aa.at_ 0).S).getD 10 0),qaa ((qad (aa.at_ 0).S).getD 11 0),qaa ((qad (aa.at_ 0).S).getD 12 0),qaa ((qad (aa.at_ 0).S).getD 13 0),qaa ((qad (aa.at_ 0).S).getD 14 0),qaa ((qad (aa.at_ 0).S).getD 15 0),.slice none 0 0,.map none],true⟩,qbm ak 3 (.agg #[.int .i32 0,.int .i16 0,.map none]) ((lst (aa.at_ 1)).length) al] [(7,.p 0 0),(9,.v (.bool (decide (v ≥ 0)))),(10,.p 1 0),(14,.v (.slice (some ⟨af,0,none⟩) ((lst (T.at_ 2)).length) ai)),(15,.v (.int .i32 (((lst (T.at_ 2)).length:Nat):Int))),(16,.v (.int .i32 ((ag:Nat):Int))),(18,.p 3 0),(21,.v (.slice (some ⟨ac,0,none⟩) ((lst (ab.at_ 1)).length) ah)),(22,.v (.int .i32 (((lst (ab.at_ 1)).length:Nat):Int))),(23,.v (.int .i32 ((ae:Nat):Int))),(25,.p 5 0),(28,.v (.slice (some ⟨ak,0,none⟩) ((lst (aa.at_ 1)).length) am)),(29,.v (.int .i32 (((lst (aa.at_ 1)).length:Nat):Int))),(30,.v (.int .i32 ((al:Nat):Int)))] P' ((qay v) ap ++ (((lst (aa.at_ 1)).drop (al + 1)).flatMap (qay v) ++ az)) _ _:=⟨_,fun _ _ h=>h,cM⟩
          clear cM
          obtain ⟨bf,cQ⟩:∃ R,R = ((lst (aa.at_ 1)).drop (al + 1)).flatMap (qay v) ++ az:=⟨_,rfl⟩
          have fK:=(e144_1e ap (List.mem_of_getElem? bd))
          have e204r:=(qeS (qeC e144r 1) ap (List.mem_of_getElem? bd))
          unfold qa5 at fK
          obtain ⟨e204_0,e204_1,e204_U,_⟩:=fK
          obtain ⟨gi,cR⟩:∃ R,R = (if (decide (v ≥ 0)) = true then (uv ap.U.length) ++ (qcm ap.U) else []) ++ bf:=⟨_,rfl⟩
          obtain ⟨gj,cS⟩:∃ R,R = (be 2 ((IntKind.i16.wrap (ap.at_ 1).N))) ++ gi:=⟨_,rfl⟩
          obtain ⟨gk,cT⟩:∃ R,R = (be 4 ((IntKind.i32.wrap (ap.at_ 0).N))) ++ gj:=⟨_,rfl⟩
          have cU:=cP.cast (t:=gk) (by rw [cT,cS,cR,← cQ]; unfold qay; simp only [List.append_assoc])
          clear cP
          refine wp_seq ?_
          refine wp_seq ?_
          refine qbT [(7,.p 0 0),(9,.v (.bool (decide (v ≥ 0)))),(10,.p 1 0),(14,.v (.slice (some ⟨af,0,none⟩) ((lst (T.at_ 2)).length) ai)),(15,.v (.int .i32 (((lst (T.at_ 2)).length:Nat):Int))),(16,.v (.int .i32 ((ag:Nat):Int))),(18,.p 3 0),(21,.v (.slice (some ⟨ac,0,none⟩) ((lst (ab.at_ 1)).length) ah)),(22,.v (.int .i32 (((lst (ab.at_ 1)).length:Nat):Int))),(23,.v (.int .i32 ((ae:Nat):Int))),(25,.p 5 0),(28,.v (.slice (some ⟨ak,0,none⟩) ((lst (aa.at_ 1)).length) am)),(29,.v (.int .i32 (((lst (aa.at_ 1)).length:Nat):Int))),(30,.v (.int .i32 ((al:Nat):Int))),(146,.v (.bool (decide (((al:Nat):Int) < (((lst (aa.at_ 1)).length:Nat):Int)))))] cU fun _ bg=>qac ?_
          clear cU
          refine qbf bg.env_ (b:=decide (((al:Nat):Int) < (((lst (aa.at_ 1)).length:Nat):Int))) kz (decide_eq_true (by omega)) ?_
          refine wp_skip ?_
          refine qac ?_
          refine wp_seq ?_
          refine wp_block ?_
          refine wp_seq ?_
          refine qhx (t:=137) (e:=142) (size:=3) (bytes:=16) (d:=151) (tb:=[⟨bv,0,[.int .i16 v,.int .i32 (IntKind.i32.wrap (T.at_ 0).N),.int .i16 (IntKind.i16.wrap (T.at_ 1).N),.slice none 0 0,.map none],true⟩,qbm af 18 (.agg #[.int .u8 0,.int .u8 0,.int .u8 0,.int .u8 0,.int .u8 0,.int .u8 0,.int .u8 0,.int .u8 0,.int .u8 0,.int .u8 0,.int .u8 0,.int .u8 0,.int .u8 0,.int .u8 0,.int .u8 0,.int .u8 0,.slice none 0 0,.map none]) ((lst (T.at_ 2)).length) (ag + 1),⟨af,ag * 18,[qaa ((qad (ab.at_ 0).S).getD 0 0),qaa ((qad (ab.at_ 0).S).getD 1 0),qaa ((qad (ab.at_ 0).S).getD 2 0),qaa ((qad (ab.at_ 0).S).getD 3 0),qaa ((qad (ab.at_ 0).S).getD 4 0),qaa ((qad (ab.at_ 0).S).getD 5 0),qaa ((qad (ab.at_ 0).S).getD 6 0),qaa ((qad (ab.at_ 0).S).getD 7 0),qaa ((qad (ab.at_ 0).S).getD 8 0),qaa ((qad (ab.at_ 0).S).getD 9 0),qaa ((qad (ab.at_ 0).S).getD 10 0),qaa ((qad (ab.at_ 0).S).getD 11 0),qaa ((qad (ab.at_ 0).S).getD 12 0),qaa ((qad (ab.at_ 0).S).getD 13 0),qaa ((qad (ab.at_ 0).S).getD 14 0),qaa ((qad (ab.at_ 0).S).getD 15 0),.slice none 0 0,.map none],true⟩,qbm ac 18 (.agg #[.int .u8 0,.int .u8 0,.int .u8 0,.int .u8 0,.int .u8 0,.int .u8 0,.int .u8 0,.int .u8 0,.int .u8 0,.int .u8 0,.int .u8 0,.int .u8 0,.int .u8 0,.int .u8 0,.int .u8 0,.int .u8 0,.slice none 0 0,.map none]) ((lst (ab.at_ 1)).length) (ae + 1),⟨ac,ae * 18,[qaa ((qad (aa.at_ 0).S).getD 0 0),qaa ((qad (aa.at_ 0).S).getD 1 0),qaa ((qad (aa.at_ 0).S).getD 2 0),qaa ((qad (aa.at_ 0).S).getD 3 0),qaa ((qad (aa.at_ 0).S).getD 4 0),qaa ((qad (aa.at_ 0).S).getD 5 0),qaa ((qad (aa.at_ 0).S).getD 6 0),qaa ((qad (aa.at_ 0).S).getD 7 0),qaa ((qad (aa.at_ 0).S).getD 8 0),qaa ((qad (aa.at_ 0).S).getD 9 0),qaa ((qad (aa.at_ 0).S).getD 10 0),qaa ((qad (aa.at_ 0).S).getD 11 0),qaa ((qad (aa.at_ 0).S).getD 12 0),qaa ((qad (aa.at_ 0).S).getD 13 0),qaa ((qad (aa.at_ 0).S).getD 14 0),qaa ((qad (aa.at_ 0).S).getD 15 0),.slice none 0 0,.map none],true⟩]) (z:=.agg #[.int .i32 0,.int .i16 0,.map none]) [(7,.p 0 0),(9,.v (.bool (decide (v ≥ 0)))),(10,.p 1 0),(14,.v (.slice (some ⟨af,0,none⟩) ((lst (T.at_ 2)).length) ai)),(15,.v (.int .i32 (((lst (T.at_ 2)).length:Nat):Int))),(16,.v (.int .i32 ((ag:Nat):Int))),(18,.p 3 0),(21,.v (.slice (some ⟨ac,0,none⟩) ((lst (ab.at_ 1)).length) ah)),(22,.v (.int .i32 (((lst (ab.at_ 1)).length:Nat):Int))),(23,.v (.int .i32 ((ae:Nat):Int))),(25,.p 5 0),(28,.v (.slice (some ⟨ak,0,none⟩) ((lst (aa.at_ 1)).length) am)),(29,.v (.int .i32 (((lst (aa.at_ 1)).length:Nat):Int))),(30,.v (.int .i32 ((al:Nat):Int))),(149,.v (.slice (some ⟨ak,0,none⟩) ((lst (aa.at_ 1)).length) am)),(150,.v (.int .i32 ((al:Nat):Int)))] [(7,.p 0 0),(9,.v (.bool (decide (v ≥ 0)))),(10,.p 1 0),(14,.v (.slice (some ⟨af,0,none⟩) ((lst (T.at_ 2)).length) ai)),(15,.v (.int .i32 (((lst (T.at_ 2)).length:Nat):Int))),(16,.v (.int .i32 ((ag:Nat):Int))),(18,.p 3 0),(21,.v (.slice (some ⟨ac,0,none⟩) ((lst (ab.at_ 1)).length) ah)),(22,.v (.int .i32 (((lst (ab.at_ 1)).length:Nat):Int))),(23,.v (.int .i32 ((ae:Nat):Int))),(25,.p 5 0),(28,.v (.slice (some ⟨ak,0,none⟩) ((lst (aa.at_ 1)).length) am)),(29,.v (.int .i32 (((lst (aa.at_ 1)).length:Nat):Int))),(30,.v (.int .i32 ((al:Nat):Int))),(31,.p 7 0)] 2 bg fJ rfl kz fun _ cV=>?_
          clear bg
          have cW:=cV.tbEq (tb':=[⟨bv,0,[.int .i16 v,.int .i32 (IntKind.i32.wrap (T.at_ 0).N),.int .i16 (IntKind.i16.wrap (T.at_ 1).N),.slice none 0 0,.map none],true⟩,qbm af 18 (.agg #[.int .u8 0,.int .u8 0,.int .u8 0,.int .u8 0,.int .u8 0,.int .u8 0,.int .u8 0,.int .u8 0,.int .u8 0,.int .u8 0,.int .u8 0,.int .u8 0,.int .u8 0,.int .u8 0,.int .u8 0,.int .u8 0,.slice none 0 0,.map none]) ((lst (T.at_ 2)).length) (ag + 1),⟨af,ag * 18,[qaa ((qad (ab.at_ 0).S).getD 0 0),qaa ((qad (ab.at_ 0).S).getD 1 0),qaa ((qad (ab.at_ 0).S).getD 2 0),qaa ((qad (ab.at_ 0).S).getD 3 0),qaa ((qad (ab.at_ 0).S).getD 4 0),qaa ((qad (ab.at_ 0).S).getD 5 0),qaa ((qad (ab.at_ 0).S).getD 6 0),qaa ((qad (ab.at_ 0).S).getD 7 0),qaa ((qad (ab.at_ 0).S).getD 8 0),qaa ((qad (ab.at_ 0).S).getD 9 0),qaa ((qad (ab.at_ 0).S).getD 10 0),qaa ((qad (ab.at_ 0).S).getD 11 0),qaa ((qad (ab.at_ 0).S).getD 12 0),qaa ((qad (ab.at_ 0).S).getD 13 0),qaa ((qad (ab.at_ 0).S).getD 14 0),qaa ((qad (ab.at_ 0).S).getD 15 0),.slice none 0 0,.map none],true⟩,qbm ac 18 (.agg #[.int .u8 0,.int .u8 0,.int .u8 0,.int .u8 0,.int .u8 0,.int .u8 0,.int .u8 0,.int .u8 0,.int .u8 0,.int .u8 0,.int .u8 0,.int .u8 0,.int .u8 0,.int .u8 0,.int .u8 0,.int .u8 0,.slice none 0 0,.map none]) ((lst (ab.at_ 1)).length) (ae + 1),⟨ac,ae * 18,[qaa ((qad (aa.at_ 0).S).getD 0 0),qaa ((qad (aa.at_ 0).S).getD 1 0),qaa ((qad (aa.at_ 0).S).getD 2 0),qaa ((qad (aa.at_ 0).S).getD 3 0),qaa ((qad (aa.at_ 0).S).getD 4 0),qaa ((qad (aa.at_ 0).S).getD 5 0),qaa ((qad (aa.at_ 0).S).getD 6 0),qaa ((qad (aa.at_ 0).S).getD 7 0),qaa ((qad (aa.at_ 0).S).getD 8 0),qaa ((qad (aa.at_ 0).S).getD 9 0),qaa ((qad (aa.at_ 0).S).getD 10 0),qaa ((qad (aa.at_ 0).S).getD 11 0),qaa ((qad (aa.at_ 0).S).getD 12 0),qaa ((qad (aa.at_ 0).S).getD 13 0),qaa ((qad (aa.at_ 0).S).getD 14 0),qaa ((qad (aa.at_ 0).S).getD 15 0),.slice none 0 0,.map none],true⟩,qbm ak 3 (.agg #[.int .i32 0,.int .i16 0,.map none]) ((lst (aa.at_ 1)).length) (al + 1),⟨ak,al * 3,[.int .i32 0,.int .i16 0,.map none],true⟩]) rfl
          clear cV
          refine qac ?_
          refine wp_seq ?_
          refine qaq [0,1] kz ?_
          refine qc4 [0] [1] [(7,.p 0 0),(9,.v (.bool (decide (v ≥ 0)))),(10,.p 1 0),(14,.v (.slice (some ⟨af,0,none⟩) ((lst (T.at_ 2)).length) ai)),(15,.v (.int .i32 (((lst (T.at_ 2)).length:Nat):Int))),(16,.v (.int .i32 ((ag:Nat):Int))),(18,.p 3 0),(21,.v (.slice (some ⟨ac,0,none⟩) ((lst (ab.at_ 1)).length) ah)),(22,.v (.int .i32 (((lst (ab.at_ 1)).length:Nat):Int))),(23,.v (.int .i32 ((ae:Nat):Int))),(25,.p 5 0),(28,.v (.slice (some ⟨ak,0,none⟩) ((lst (aa.at_ 1)).length) am)),(29,.v (.int .i32 (((lst (aa.at_ 1)).length:Nat):Int))),(30,.v (.int .i32 ((al:Nat):Int))),(31,.p 7 0),(152,.p 7 0)] cW fun _ cX=>?_
          clear cW
          refine qan (qjA (d:=153) (vs:=[.pointer (some ⟨ak,al * 3,none⟩)]) cX (fun _=>qlw _ _ _) Tryz.call100 fun _ cY=>?_)
          clear cX
          refine qah ?_
          have cZ:=cY.pk (env':=[(7,.p 0 0),(9,.v (.bool (decide (v ≥ 0)))),(10,.p 1 0),(14,.v (.slice (some ⟨af,0,none⟩) ((lst (T.at_ 2)).length) ai)),(15,.v (.int .i32 (((lst (T.at_ 2)).length:Nat):Int))),(16,.v (.int .i32 ((ag:Nat):Int))),(18,.p 3 0),(21,.v (.slice (some ⟨ac,0,none⟩) ((lst (ab.at_ 1)).length) ah)),(22,.v (.int .i32 (((lst (ab.at_ 1)).length:Nat):Int))),(23,.v (.int .i32 ((ae:Nat):Int))),(25,.p 5 0),(28,.v (.slice (some ⟨ak,0,none⟩) ((lst (aa.at_ 1)).length) am)),(29,.v (.int .i32 (((lst (aa.at_ 1)).length:Nat):Int))),(30,.v (.int .i32 ((al:Nat):Int))),(31,.p 7 0)])
          clear cY
          refine qac ?_
          refine wp_seq ?_
          refine qbT [(7,.p 0 0),(9,.v (.bool (decide (v ≥ 0)))),(10,.p 1 0),(14,.v (.slice (some ⟨af,0,none⟩) ((lst (T.at_ 2)).length) ai)),(15,.v (.int .i32 (((lst (T.at_ 2)).length:Nat):Int))),(16,.v (.int .i32 ((ag:Nat):Int))),(18,.p 3 0),(21,.v (.slice (some ⟨ac,0,none⟩) ((lst (ab.at_ 1)).length) ah)),(22,.v (.int .i32 (((lst (ab.at_ 1)).length:Nat):Int))),(23,.v (.int .i32 ((ae:Nat):Int))),(25,.p 5 0),(28,.v (.slice (some ⟨ak,0,none⟩) ((lst (aa.at_ 1)).length) am)),(29,.v (.int .i32 (((lst (aa.at_ 1)).length:Nat):Int))),(30,.v (.int .i32 ((al:Nat):Int))),(32,.p 7 0)] cZ fun _ c5=>?_
          clear cZ
          refine qac ?_
          refine wp_seq ?_
          refine wp_seq ?_
          have c6:=c5.cast cT
          clear c5
          refine qfA (d:=155) [(7,.p 0 0),(9,.v (.bool (decide (v ≥ 0)))),(10,.p 1 0),(14,.v (.slice (some ⟨af,0,none⟩) ((lst (T.at_ 2)).length) ai)),(15,.v (.int .i32 (((lst (T.at_ 2)).length:Nat):Int))),(16,.v (.int .i32 ((ag:Nat):Int))),(18,.p 3 0),(21,.v (.slice (some ⟨ac,0,none⟩) ((lst (ab.at_ 1)).length) ah)),(22,.v (.int .i32 (((lst (ab.at_ 1)).length:Nat):Int))),(23,.v (.int .i32 ((ae:Nat):Int))),(25,.p 5 0),(28,.v (.slice (some ⟨ak,0,none⟩) ((lst (aa.at_ 1)).length) am)),(29,.v (.int .i32 (((lst (aa.at_ 1)).length:Nat):Int))),(30,.v (.int .i32 ((al:Nat):Int))),(32,.p 7 0),(33,.v (.int .i32 (IntKind.i32.wrap (ap.at_ 0).N)))] c6 (qkv _ _) Tryz.call91 fun _ _ da=>?_
          clear c6
          refine qac ?_
          refine qeD [⟨bv,0,[.int .i16 v,.int .i32 (IntKind.i32.wrap (T.at_ 0).N),.int .i16 (IntKind.i16.wrap (T.at_ 1).N),.slice none 0 0,.map none],true⟩,qbm af 18 (.agg #[.int .u8 0,.int .u8 0,.int .u8 0,.int .u8 0,.int .u8 0,.int .u8 0,.int .u8 0,.int .u8 0,.int .u8 0,.int .u8 0,.int .u8 0,.int .u8 0,.int .u8 0,.int .u8 0,.int .u8 0,.int .u8 0,.slice none 0 0,.map none]) ((lst (T.at_ 2)).length) (ag + 1),⟨af,ag * 18,[qaa ((qad (ab.at_ 0).S).getD 0 0),qaa ((qad (ab.at_ 0).S).getD 1 0),qaa ((qad (ab.at_ 0).S).getD 2 0),qaa ((qad (ab.at_ 0).S).getD 3 0),qaa ((qad (ab.at_ 0).S).getD 4 0),qaa ((qad (ab.at_ 0).S).getD 5 0),qaa ((qad (ab.at_ 0).S).getD 6 0),qaa ((qad (ab.at_ 0).S).getD 7 0),qaa ((qad (ab.at_ 0).S).getD 8 0),qaa ((qad (ab.at_ 0).S).getD 9 0),qaa ((qad (ab.at_ 0).S).getD 10 0),qaa ((qad (ab.at_ 0).S).getD 11 0),qaa ((qad (ab.at_ 0).S).getD 12 0),qaa ((qad (ab.at_ 0).S).getD 13 0),qaa ((qad (ab.at_ 0).S).getD 14 0),qaa ((qad (ab.at_ 0).S).getD 15 0),.slice none 0 0,.map none],true⟩,qbm ac 18 (.agg #[.int .u8 0,.int .u8 0,.int .u8 0,.int .u8 0,.int .u8 0,.int .u8 0,.int .u8 0,.int .u8 0,.int .u8 0,.int .u8 0,.int .u8 0,.int .u8 0,.int .u8 0,.int .u8 0,.int .u8 0,.int .u8 0,.slice none 0 0,.map none]) ((lst (ab.at_ 1)).length) (ae + 1),⟨ac,ae * 18,[qaa ((qad (aa.at_ 0).S).getD 0 0),qaa ((qad (aa.at_ 0).S).getD 1 0),qaa ((qad (aa.at_ 0).S).getD 2 0),qaa ((qad (aa.at_ 0).S).getD 3 0),qaa ((qad (aa.at_ 0).S).getD 4 0),qaa ((qad (aa.at_ 0).S).getD 5 0),qaa ((qad (aa.at_ 0).S).getD 6 0),qaa ((qad (aa.at_ 0).S).getD 7 0),qaa ((qad (aa.at_ 0).S).getD 8 0),qaa ((qad (aa.at_ 0).S).getD 9 0),qaa ((qad (aa.at_ 0).S).getD 10 0),qaa ((qad (aa.at_ 0).S).getD 11 0),qaa ((qad (aa.at_ 0).S).getD 12 0),qaa ((qad (aa.at_ 0).S).getD 13 0),qaa ((qad (aa.at_ 0).S).getD 14 0),qaa ((qad (aa.at_ 0).S).getD 15 0),.slice none 0 0,.map none],true⟩,qbm ak 3 (.agg #[.int .i32 0,.int .i16 0,.map none]) ((lst (aa.at_ 1)).length) (al + 1),⟨ak,al * 3,[.int .i32 (IntKind.i32.wrap (ap.at_ 0).N),.int .i16 0,.map none],true⟩] 6 [(7,.p 0 0),(9,.v (.bool (decide (v ≥ 0)))),(10,.p 1 0),(14,.v (.slice (some ⟨af,0,none⟩) ((lst (T.at_ 2)).length) ai)),(15,.v (.int .i32 (((lst (T.at_ 2)).length:Nat):Int))),(16,.v (.int .i32 ((ag:Nat):Int))),(18,.p 3 0),(21,.v (.slice (some ⟨ac,0,none⟩) ((lst (ab.at_ 1)).length) ah)),(22,.v (.int .i32 (((lst (ab.at_ 1)).length:Nat):Int))),(23,.v (.int .i32 ((ae:Nat):Int))),(25,.p 5 0),(28,.v (.slice (some ⟨ak,0,none⟩) ((lst (aa.at_ 1)).length) am)),(29,.v (.int .i32 (((lst (aa.at_ 1)).length:Nat):Int))),(30,.v (.int .i32 ((al:Nat):Int))),(32,.p 7 0)] da fun _ _ db=>?_
          clear da
          refine qac ?_
          refine wp_seq ?_
          refine wp_seq ?_
          have dc:=db.cast cS
          clear db
          refine qfA (d:=160) [(7,.p 0 0),(9,.v (.bool (decide (v ≥ 0)))),(10,.p 1 0),(14,.v (.slice (some ⟨af,0,none⟩) ((lst (T.at_ 2)).length) ai)),(15,.v (.int .i32 (((lst (T.at_ 2)).length:Nat):Int))),(16,.v (.int .i32 ((ag:Nat):Int))),(18,.p 3 0),(21,.v (.slice (some ⟨ac,0,none⟩) ((lst (ab.at_ 1)).length) ah)),(22,.v (.int .i32 (((lst (ab.at_ 1)).length:Nat):Int))),(23,.v (.int .i32 ((ae:Nat):Int))),(25,.p 5 0),(28,.v (.slice (some ⟨ak,0,none⟩) ((lst (aa.at_ 1)).length) am)),(29,.v (.int .i32 (((lst (aa.at_ 1)).length:Nat):Int))),(30,.v (.int .i32 ((al:Nat):Int))),(32,.p 7 0),(34,.v (.int .i16 (IntKind.i16.wrap (ap.at_ 1).N)))] dc (qku _ _) Tryz.call92 fun _ _ de=>?_
          clear dc
          refine qac ?_
          refine qeD [⟨bv,0,[.int .i16 v,.int .i32 (IntKind.i32.wrap (T.at_ 0).N),.int .i16 (IntKind.i16.wrap (T.at_ 1).N),.slice none 0 0,.map none],true⟩,qbm af 18 (.agg #[.int .u8 0,.int .u8 0,.int .u8 0,.int .u8 0,.int .u8 0,.int .u8 0,.int .u8 0,.int .u8 0,.int .u8 0,.int .u8 0,.int .u8 0,.int .u8 0,.int .u8 0,.int .u8 0,.int .u8 0,.int .u8 0,.slice none 0 0,.map none]) ((lst (T.at_ 2)).length) (ag + 1),⟨af,ag * 18,[qaa ((qad (ab.at_ 0).S).getD 0 0),qaa ((qad (ab.at_ 0).S).getD 1 0),qaa ((qad (ab.at_ 0).S).getD 2 0),qaa ((qad (ab.at_ 0).S).getD 3 0),qaa ((qad (ab.at_ 0).S).getD 4 0),qaa ((qad (ab.at_ 0).S).getD 5 0),qaa ((qad (ab.at_ 0).S).getD 6 0),qaa ((qad (ab.at_ 0).S).getD 7 0),qaa ((qad (ab.at_ 0).S).getD 8 0),qaa ((qad (ab.at_ 0).S).getD 9 0),qaa ((qad (ab.at_ 0).S).getD 10 0),qaa ((qad (ab.at_ 0).S).getD 11 0),qaa ((qad (ab.at_ 0).S).getD 12 0),qaa ((qad (ab.at_ 0).S).getD 13 0),qaa ((qad (ab.at_ 0).S).getD 14 0),qaa ((qad (ab.at_ 0).S).getD 15 0),.slice none 0 0,.map none],true⟩,qbm ac 18 (.agg #[.int .u8 0,.int .u8 0,.int .u8 0,.int .u8 0,.int .u8 0,.int .u8 0,.int .u8 0,.int .u8 0,.int .u8 0,.int .u8 0,.int .u8 0,.int .u8 0,.int .u8 0,.int .u8 0,.int .u8 0,.int .u8 0,.slice none 0 0,.map none]) ((lst (ab.at_ 1)).length) (ae + 1),⟨ac,ae * 18,[qaa ((qad (aa.at_ 0).S).getD 0 0),qaa ((qad (aa.at_ 0).S).getD 1 0),qaa ((qad (aa.at_ 0).S).getD 2 0),qaa ((qad (aa.at_ 0).S).getD 3 0),qaa ((qad (aa.at_ 0).S).getD 4 0),qaa ((qad (aa.at_ 0).S).getD 5 0),qaa ((qad (aa.at_ 0).S).getD 6 0),qaa ((qad (aa.at_ 0).S).getD 7 0),qaa ((qad (aa.at_ 0).S).getD 8 0),qaa ((qad (aa.at_ 0).S).getD 9 0),qaa ((qad (aa.at_ 0).S).getD 10 0),qaa ((qad (aa.at_ 0).S).getD 11 0),qaa ((qad (aa.at_ 0).S).getD 12 0),qaa ((qad (aa.at_ 0).S).getD 13 0),qaa ((qad (aa.at_ 0).S).getD 14 0),qaa ((qad (aa.at_ 0).S).getD 15 0),.slice none 0 0,.map none],true⟩,qbm ak 3 (.agg #[.int .i32 0,.int .i16 0,.map none]) ((lst (aa.at_ 1)).length) (al + 1),⟨ak,al * 3,[.int .i32 (IntKind.i32.wrap (ap.at_ 0).N),.int .i16 (IntKind.i16.wrap (ap.at_ 1).N),.map none],true⟩] 6 [(7,.p 0 0),(9,.v (.bool (decide (v ≥ 0)))),(10,.p 1 0),(14,.v (.slice (some ⟨af,0,none⟩) ((lst (T.at_ 2)).length) ai)),(15,.v (.int .i32 (((lst (T.at_ 2)).length:Nat):Int))),(16,.v (.int .i32 ((ag:Nat):Int))),(18,.p 3 0),(21,.v (.slice (some ⟨ac,0,none⟩) ((lst (ab.at_ 1)).length) ah)),(22,.v (.int .i32 (((lst (ab.at_ 1)).length:Nat):Int))),(23,.v (.int .i32 ((ae:Nat):Int))),(25,.p 5 0),(28,.v (.slice (some ⟨ak,0,none⟩) ((lst (aa.at_ 1)).length) am)),(29,.v (.int .i32 (((lst (aa.at_ 1)).length:Nat):Int))),(30,.v (.int .i32 ((al:Nat):Int))),(32,.p 7 0)] de fun _ _ df=>?_
          clear de
          refine qac ?_
          have dg:=df.cast cR
          clear df
          refine qfe (Mid:=fun a_ w_=>∃ (bj:Option Nat) (aJ:List (Int × Bs)) (P':qcR),(∀ w F,P' w F → gh w F ∧ (MapR w F bj aJ ∧ aJ.length ≤ 1000000 ∧ ∀ x ∈ aJ,x.2.length < 4294967296) ∧ ((decide (v ≥ 0)) = true → aJ = ap.U) ∧ ((decide (v ≥ 0)) = false → aJ = [])) ∧ RS w (fun b o=>b = bv ∧ o < 5) F 201 bh [⟨bv,0,[.int .i16 v,.int .i32 (IntKind.i32.wrap (T.at_ 0).N),.int .i16 (IntKind.i16.wrap (T.at_ 1).N),.slice none 0 0,.map none],true⟩,qbm af 18 (.agg #[.int .u8 0,.int .u8 0,.int .u8 0,.int .u8 0,.int .u8 0,.int .u8 0,.int .u8 0,.int .u8 0,.int .u8 0,.int .u8 0,.int .u8 0,.int .u8 0,.int .u8 0,.int .u8 0,.int .u8 0,.int .u8 0,.slice none 0 0,.map none]) ((lst (T.at_ 2)).length) (ag + 1),⟨af,ag * 18,[qaa ((qad (ab.at_ 0).S).getD 0 0),qaa ((qad (ab.at_ 0).S).getD 1 0),qaa ((qad (ab.at_ 0).S).getD 2 0),qaa ((qad (ab.at_ 0).S).getD 3 0),qaa ((qad (ab.at_ 0).S).getD 4 0),qaa ((qad (ab.at_ 0).S).getD 5 0),qaa ((qad (ab.at_ 0).S).getD 6 0),qaa ((qad (ab.at_ 0).S).getD 7 0),qaa ((qad (ab.at_ 0).S).getD 8 0),qaa ((qad (ab.at_ 0).S).getD 9 0),qaa ((qad (ab.at_ 0).S).getD 10 0),qaa ((qad (ab.at_ 0).S).getD 11 0),qaa ((qad (ab.at_ 0).S).getD 12 0),qaa ((qad (ab.at_ 0).S).getD 13 0),qaa ((qad (ab.at_ 0).S).getD 14 0),qaa ((qad (ab.at_ 0).S).getD 15 0),.slice none 0 0,.map none],true⟩,qbm ac 18 (.agg #[.int .u8 0,.int .u8 0,.int .u8 0,.int .u8 0,.int .u8 0,.int .u8 0,.int .u8 0,.int .u8 0,.int .u8 0,.int .u8 0,.int .u8 0,.int .u8 0,.int .u8 0,.int .u8 0,.int .u8 0,.int .u8 0,.slice none 0 0,.map none]) ((lst (ab.at_ 1)).length) (ae + 1),⟨ac,ae * 18,[qaa ((qad (aa.at_ 0).S).getD 0 0),qaa ((qad (aa.at_ 0).S).getD 1 0),qaa ((qad (aa.at_ 0).S).getD 2 0),qaa ((qad (aa.at_ 0).S).getD 3 0),qaa ((qad (aa.at_ 0).S).getD 4 0),qaa ((qad (aa.at_ 0).S).getD 5 0),qaa ((qad (aa.at_ 0).S).getD 6 0),qaa ((qad (aa.at_ 0).S).getD 7 0),qaa ((qad (aa.at_ 0).S).getD 8 0),qaa ((qad (aa.at_ 0).S).getD 9 0),qaa ((qad (aa.at_ 0).S).getD 10 0),qaa ((qad (aa.at_ 0).S).getD 11 0),qaa ((qad (aa.at_ 0).S).getD 12 0),qaa ((qad (aa.at_ 0).S).getD 13 0),qaa ((qad (aa.at_ 0).S).getD 14 0),qaa ((qad (aa.at_ 0).S).getD 15 0),.slice none 0 0,.map none],true⟩,qbm ak 3 (.agg #[.int .i32 0,.int .i16 0,.map none]) ((lst (aa.at_ 1)).length) (al + 1),⟨ak,al * 3,[.int .i32 (IntKind.i32.wrap (ap.at_ 0).N),.int .i16 (IntKind.i16.wrap (ap.at_ 1).N),.map bj],true⟩] [(7,.p 0 0),(9,.v (.bool (decide (v ≥ 0)))),(10,.p 1 0),(14,.v (.slice (some ⟨af,0,none⟩) ((lst (T.at_ 2)).length) ai)),(15,.v (.int .i32 (((lst (T.at_ 2)).length:Nat):Int))),(16,.v (.int .i32 ((ag:Nat):Int))),(18,.p 3 0),(21,.v (.slice (some ⟨ac,0,none⟩) ((lst (ab.at_ 1)).length) ah)),(22,.v (.int .i32 (((lst (ab.at_ 1)).length:Nat):Int))),(23,.v (.int .i32 ((ae:Nat):Int))),(25,.p 5 0),(28,.v (.slice (some ⟨ak,0,none⟩) ((lst (aa.at_ 1)).length) am)),(29,.v (.int .i32 (((lst (aa.at_ 1)).length:Nat):Int))),(30,.v (.int .i32 ((al:Nat):Int)))] P' bf a_ w_) ?_ ?_
          ·
           refine wp_seq ?_
           refine qbT [(7,.p 0 0),(9,.v (.bool (decide (v ≥ 0)))),(10,.p 1 0),(14,.v (.slice (some ⟨af,0,none⟩) ((lst (T.at_ 2)).length) ai)),(15,.v (.int .i32 (((lst (T.at_ 2)).length:Nat):Int))),(16,.v (.int .i32 ((ag:Nat):Int))),(18,.p 3 0),(21,.v (.slice (some ⟨ac,0,none⟩) ((lst (ab.at_ 1)).length) ah)),(22,.v (.int .i32 (((lst (ab.at_ 1)).length:Nat):Int))),(23,.v (.int .i32 ((ae:Nat):Int))),(25,.p 5 0),(28,.v (.slice (some ⟨ak,0,none⟩) ((lst (aa.at_ 1)).length) am)),(29,.v (.int .i32 (((lst (aa.at_ 1)).length:Nat):Int))),(30,.v (.int .i32 ((al:Nat):Int))),(32,.p 7 0),(165,.v (.bool (decide (v ≥ 0))))] dg fun _ aB=>qac ?_
           clear dg
           refine qax aB.env_ (b:=decide (v ≥ 0)) kz (fun aC=>?_) (fun aC=>?_)
           ·
            have dh:=aB.cast (t:=((uv ap.U.length) ++ (qcm ap.U)) ++ bf) (by rw [if_pos aC])
            clear aB
            refine qaq [0,1,2,3,4] kz ?_
            refine qc4 [0] [1,2,3,4] [(7,.p 0 0),(9,.v (.bool (decide (v ≥ 0)))),(10,.p 1 0),(14,.v (.slice (some ⟨af,0,none⟩) ((lst (T.at_ 2)).length) ai)),(15,.v (.int .i32 (((lst (T.at_ 2)).length:Nat):Int))),(16,.v (.int .i32 ((ag:Nat):Int))),(18,.p 3 0),(21,.v (.slice (some ⟨ac,0,none⟩) ((lst (ab.at_ 1)).length) ah)),(22,.v (.int .i32 (((lst (ab.at_ 1)).length:Nat):Int))),(23,.v (.int .i32 ((ae:Nat):Int))),(25,.p 5 0),(28,.v (.slice (some ⟨ak,0,none⟩) ((lst (aa.at_ 1)).length) am)),(29,.v (.int .i32 (((lst (aa.at_ 1)).length:Nat):Int))),(30,.v (.int .i32 ((al:Nat):Int))),(166,.p 7 0)] dh fun _ di=>?_
            clear dh
            refine qan (qgi (d:=167) di (qj9 ap.U e204_U (qeB e204r) _) (fun _=>MvF.tags _ _) Tryz.call101 fun eC gG _ _ dj dl=>?_)
            clear di
            refine qc4 [2,3] [4] [(7,.p 0 0),(9,.v (.bool (decide (v ≥ 0)))),(10,.p 1 0),(14,.v (.slice (some ⟨af,0,none⟩) ((lst (T.at_ 2)).length) ai)),(15,.v (.int .i32 (((lst (T.at_ 2)).length:Nat):Int))),(16,.v (.int .i32 ((ag:Nat):Int))),(18,.p 3 0),(21,.v (.slice (some ⟨ac,0,none⟩) ((lst (ab.at_ 1)).length) ah)),(22,.v (.int .i32 (((lst (ab.at_ 1)).length:Nat):Int))),(23,.v (.int .i32 ((ae:Nat):Int))),(25,.p 5 0),(28,.v (.slice (some ⟨ak,0,none⟩) ((lst (aa.at_ 1)).length) am)),(29,.v (.int .i32 (((lst (aa.at_ 1)).length:Nat):Int))),(30,.v (.int .i32 ((al:Nat):Int))),(167,.v (.agg #[.map eC])),(169,.p 7 2)] dl fun _ dp=>?_
            clear dl
            refine qan (qd4 [⟨bv,0,[.int .i16 v,.int .i32 (IntKind.i32.wrap (T.at_ 0).N),.int .i16 (IntKind.i16.wrap (T.at_ 1).N),.slice none 0 0,.map none],true⟩,qbm af 18 (.agg #[.int .u8 0,.int .u8 0,.int .u8 0,.int .u8 0,.int .u8 0,.int .u8 0,.int .u8 0,.int .u8 0,.int .u8 0,.int .u8 0,.int .u8 0,.int .u8 0,.int .u8 0,.int .u8 0,.int .u8 0,.int .u8 0,.slice none 0 0,.map none]) ((lst (T.at_ 2)).length) (ag + 1),⟨af,ag * 18,[qaa ((qad (ab.at_ 0).S).getD 0 0),qaa ((qad (ab.at_ 0).S).getD 1 0),qaa ((qad (ab.at_ 0).S).getD 2 0),qaa ((qad (ab.at_ 0).S).getD 3 0),qaa ((qad (ab.at_ 0).S).getD 4 0),qaa ((qad (ab.at_ 0).S).getD 5 0),qaa ((qad (ab.at_ 0).S).getD 6 0),qaa ((qad (ab.at_ 0).S).getD 7 0),qaa ((qad (ab.at_ 0).S).getD 8 0),qaa ((qad (ab.at_ 0).S).getD 9 0),qaa ((qad (ab.at_ 0).S).getD 10 0),qaa ((qad (ab.at_ 0).S).getD 11 0),qaa ((qad (ab.at_ 0).S).getD 12 0),qaa ((qad (ab.at_ 0).S).getD 13 0),qaa ((qad (ab.at_ 0).S).getD 14 0),qaa ((qad (ab.at_ 0).S).getD 15 0),.slice none 0 0,.map none],true⟩,qbm ac 18 (.agg #[.int .u8 0,.int .u8 0,.int .u8 0,.int .u8 0,.int .u8 0,.int .u8 0,.int .u8 0,.int .u8 0,.int .u8 0,.int .u8 0,.int .u8 0,.int .u8 0,.int .u8 0,.int .u8 0,.int .u8 0,.int .u8 0,.slice none 0 0,.map none]) ((lst (ab.at_ 1)).length) (ae + 1),⟨ac,ae * 18,[qaa ((qad (aa.at_ 0).S).getD 0 0),qaa ((qad (aa.at_ 0).S).getD 1 0),qaa ((qad (aa.at_ 0).S).getD 2 0),qaa ((qad (aa.at_ 0).S).getD 3 0),qaa ((qad (aa.at_ 0).S).getD 4 0),qaa ((qad (aa.at_ 0).S).getD 5 0),qaa ((qad (aa.at_ 0).S).getD 6 0),qaa ((qad (aa.at_ 0).S).getD 7 0),qaa ((qad (aa.at_ 0).S).getD 8 0),qaa ((qad (aa.at_ 0).S).getD 9 0),qaa ((qad (aa.at_ 0).S).getD 10 0),qaa ((qad (aa.at_ 0).S).getD 11 0),qaa ((qad (aa.at_ 0).S).getD 12 0),qaa ((qad (aa.at_ 0).S).getD 13 0),qaa ((qad (aa.at_ 0).S).getD 14 0),qaa ((qad (aa.at_ 0).S).getD 15 0),.slice none 0 0,.map none],true⟩,qbm ak 3 (.agg #[.int .i32 0,.int .i16 0,.map none]) ((lst (aa.at_ 1)).length) (al + 1),⟨ak,al * 3,[.int .i32 (IntKind.i32.wrap (ap.at_ 0).N),.int .i16 (IntKind.i16.wrap (ap.at_ 1).N),.map eC],true⟩] 6 dp fun _ dq=>?_)
            clear dp
            refine qah ?_
            have fL:=dq.pk (env':=[(7,.p 0 0),(9,.v (.bool (decide (v ≥ 0)))),(10,.p 1 0),(14,.v (.slice (some ⟨af,0,none⟩) ((lst (T.at_ 2)).length) ai)),(15,.v (.int .i32 (((lst (T.at_ 2)).length:Nat):Int))),(16,.v (.int .i32 ((ag:Nat):Int))),(18,.p 3 0),(21,.v (.slice (some ⟨ac,0,none⟩) ((lst (ab.at_ 1)).length) ah)),(22,.v (.int .i32 (((lst (ab.at_ 1)).length:Nat):Int))),(23,.v (.int .i32 ((ae:Nat):Int))),(25,.p 5 0),(28,.v (.slice (some ⟨ak,0,none⟩) ((lst (aa.at_ 1)).length) am)),(29,.v (.int .i32 (((lst (aa.at_ 1)).length:Nat):Int))),(30,.v (.int .i32 ((al:Nat):Int)))])
            clear dq
            refine qac ?_
            exact ⟨eC,ap.U,_,fun w F h_=>⟨(dj _ _ h_).1,⟨(dj _ _ h_).2,e204_U.2.1,e204_U.2.2⟩,⟨fun _=>rfl,(fun e_=>by rw [aC] at e_; cases e_)⟩⟩,fL.pk (env':=[(7,.p 0 0),(9,.v (.bool (decide (v ≥ 0)))),(10,.p 1 0),(14,.v (.slice (some ⟨af,0,none⟩) ((lst (T.at_ 2)).length) ai)),(15,.v (.int .i32 (((lst (T.at_ 2)).length:Nat):Int))),(16,.v (.int .i32 ((ag:Nat):Int))),(18,.p 3 0),(21,.v (.slice (some ⟨ac,0,none⟩) ((lst (ab.at_ 1)).length) ah)),(22,.v (.int .i32 (((lst (ab.at_ 1)).length:Nat):Int))),(23,.v (.int .i32 ((ae:Nat):Int))),(25,.p 5 0),(28,.v (.slice (some ⟨ak,0,none⟩) ((lst (aa.at_ 1)).length) am)),(29,.v (.int .i32 (((lst (aa.at_ 1)).length:Nat):Int))),(30,.v (.int .i32 ((al:Nat):Int)))])⟩
           have dr:=aB.cast (t:=[] ++ bf) (by rw [if_neg (by rw [aC]; decide)])
           clear aB
           have fM:=dr.cast (t:=bf) rfl
           clear dr
           refine wp_skip (qac ?_)
           exact ⟨none,[],_,fun w F h_=>⟨h_,⟨MapR.nil _ _,Nat.zero_le _,fun _ h=>by cases h⟩,⟨(fun e_=>by rw [aC] at e_; cases e_),fun _=>rfl⟩⟩,fM.pk (env':=[(7,.p 0 0),(9,.v (.bool (decide (v ≥ 0)))),(10,.p 1 0),(14,.v (.slice (some ⟨af,0,none⟩) ((lst (T.at_ 2)).length) ai)),(15,.v (.int .i32 (((lst (T.at_ 2)).length:Nat):Int))),(16,.v (.int .i32 ((ag:Nat):Int))),(18,.p 3 0),(21,.v (.slice (some ⟨ac,0,none⟩) ((lst (ab.at_ 1)).length) ah)),(22,.v (.int .i32 (((lst (ab.at_ 1)).length:Nat):Int))),(23,.v (.int .i32 ((ae:Nat):Int))),(25,.p 5 0),(28,.v (.slice (some ⟨ak,0,none⟩) ((lst (aa.at_ 1)).length) am)),(29,.v (.int .i32 (((lst (aa.at_ 1)).length:Nat):Int))),(30,.v (.int .i32 ((al:Nat):Int)))])⟩
          rintro _ _ ⟨bj,aJ,gH,aw,dt⟩
          refine qas ?_
          refine qac ?_
          refine qbT [(7,.p 0 0),(9,.v (.bool (decide (v ≥ 0)))),(10,.p 1 0),(14,.v (.slice (some ⟨af,0,none⟩) ((lst (T.at_ 2)).length) ai)),(15,.v (.int .i32 (((lst (T.at_ 2)).length:Nat):Int))),(16,.v (.int .i32 ((ag:Nat):Int))),(18,.p 3 0),(21,.v (.slice (some ⟨ac,0,none⟩) ((lst (ab.at_ 1)).length) ah)),(22,.v (.int .i32 (((lst (ab.at_ 1)).length:Nat):Int))),(23,.v (.int .i32 ((ae:Nat):Int))),(25,.p 5 0),(28,.v (.slice (some ⟨ak,0,none⟩) ((lst (aa.at_ 1)).length) am)),(29,.v (.int .i32 (((lst (aa.at_ 1)).length:Nat):Int))),(30,.v (.int .i32 (IntKind.i32.wrap (((al:Nat):Int) + 1))))] dt fun _ du=>?_
          clear dt
          refine qac ?_
          have fN:=(du.envEq (env':=[(7,.p 0 0),(9,.v (.bool (decide (v ≥ 0)))),(10,.p 1 0),(14,.v (.slice (some ⟨af,0,none⟩) ((lst (T.at_ 2)).length) ai)),(15,.v (.int .i32 (((lst (T.at_ 2)).length:Nat):Int))),(16,.v (.int .i32 ((ag:Nat):Int))),(18,.p 3 0),(21,.v (.slice (some ⟨ac,0,none⟩) ((lst (ab.at_ 1)).length) ah)),(22,.v (.int .i32 (((lst (ab.at_ 1)).length:Nat):Int))),(23,.v (.int .i32 ((ae:Nat):Int))),(25,.p 5 0),(28,.v (.slice (some ⟨ak,0,none⟩) ((lst (aa.at_ 1)).length) am)),(29,.v (.int .i32 (((lst (aa.at_ 1)).length:Nat):Int))),(30,.v (.int .i32 ((al + 1:Nat):Int)))]) (by rw [qgl (by have:=e144_1; omega)])).pk (env':=[(7,.p 0 0),(9,.v (.bool (decide (v ≥ 0)))),(10,.p 1 0),(14,.v (.slice (some ⟨af,0,none⟩) ((lst (T.at_ 2)).length) ai)),(15,.v (.int .i32 (((lst (T.at_ 2)).length:Nat):Int))),(16,.v (.int .i32 ((ag:Nat):Int))),(18,.p 3 0),(21,.v (.slice (some ⟨ac,0,none⟩) ((lst (ab.at_ 1)).length) ah)),(22,.v (.int .i32 (((lst (ab.at_ 1)).length:Nat):Int))),(23,.v (.int .i32 ((ae:Nat):Int))),(25,.p 5 0),(28,.v (.slice (some ⟨ak,0,none⟩) ((lst (aa.at_ 1)).length) am)),(29,.v (.int .i32 (((lst (aa.at_ 1)).length:Nat):Int))),(30,.v (.int .i32 ((al + 1:Nat):Int)))])
          clear du
          exact (RS.thing (tb:=[⟨bv,0,[.int .i16 v,.int .i32 (IntKind.i32.wrap (T.at_ 0).N),.int .i16 (IntKind.i16.wrap (T.at_ 1).N),.slice none 0 0,.map none],true⟩,qbm af 18 (.agg #[.int .u8 0,.int .u8 0,.int .u8 0,.int .u8 0,.int .u8 0,.int .u8 0,.int .u8 0,.int .u8 0,.int .u8 0,.int .u8 0,.int .u8 0,.int .u8 0,.int .u8 0,.int .u8 0,.int .u8 0,.int .u8 0,.slice none 0 0,.map none]) ((lst (T.at_ 2)).length) (ag + 1),⟨af,ag * 18,[qaa ((qad (ab.at_ 0).S).getD 0 0),qaa ((qad (ab.at_ 0).S).getD 1 0),qaa ((qad (ab.at_ 0).S).getD 2 0),qaa ((qad (ab.at_ 0).S).getD 3 0),qaa ((qad (ab.at_ 0).S).getD 4 0),qaa ((qad (ab.at_ 0).S).getD 5 0),qaa ((qad (ab.at_ 0).S).getD 6 0),qaa ((qad (ab.at_ 0).S).getD 7 0),qaa ((qad (ab.at_ 0).S).getD 8 0),qaa ((qad (ab.at_ 0).S).getD 9 0),qaa ((qad (ab.at_ 0).S).getD 10 0),qaa ((qad (ab.at_ 0).S).getD 11 0),qaa ((qad (ab.at_ 0).S).getD 12 0),qaa ((qad (ab.at_ 0).S).getD 13 0),qaa ((qad (ab.at_ 0).S).getD 14 0),qaa ((qad (ab.at_ 0).S).getD 15 0),.slice none 0 0,.map none],true⟩,qbm ac 18 (.agg #[.int .u8 0,.int .u8 0,.int .u8 0,.int .u8 0,.int .u8 0,.int .u8 0,.int .u8 0,.int .u8 0,.int .u8 0,.int .u8 0,.int .u8 0,.int .u8 0,.int .u8 0,.int .u8 0,.int .u8 0,.int .u8 0,.slice none 0 0,.map none]) ((lst (ab.at_ 1)).length) (ae + 1),⟨ac,ae * 18,[qaa ((qad (aa.at_ 0).S).getD 0 0),qaa ((qad (aa.at_ 0).S).getD 1 0),qaa ((qad (aa.at_ 0).S).getD 2 0),qaa ((qad (aa.at_ 0).S).getD 3 0),qaa ((qad (aa.at_ 0).S).getD 4 0),qaa ((qad (aa.at_ 0).S).getD 5 0),qaa ((qad (aa.at_ 0).S).getD 6 0),qaa ((qad (aa.at_ 0).S).getD 7 0),qaa ((qad (aa.at_ 0).S).getD 8 0),qaa ((qad (aa.at_ 0).S).getD 9 0),qaa ((qad (aa.at_ 0).S).getD 10 0),qaa ((qad (aa.at_ 0).S).getD 11 0),qaa ((qad (aa.at_ 0).S).getD 12 0),qaa ((qad (aa.at_ 0).S).getD 13 0),qaa ((qad (aa.at_ 0).S).getD 14 0),qaa ((qad (aa.at_ 0).S).getD 15 0),.slice none 0 0,.map none],true⟩]) (z:=.agg #[.int .i32 0,.int .i16 0,.map none]) (D:=(dvP bj aJ [dvN (IntKind.i32.wrap (ap.at_ 0).N),dvN (IntKind.i16.wrap (ap.at_ 1).N)])) (fN.cast cQ) hg_g185 bd qaJ ba rfl (fun w F h_=>⟨(cO _ _ (aw _ _ h_).1).1,(cO _ _ (aw _ _ h_).1).2,⟨(trivial),(trivial),(aw _ _ h_).2.1.1,(aw _ _ h_).2.1.2.1,(aw _ _ h_).2.1.2.2,trivial⟩,⟨(rfl),(rfl),(aw _ _ h_).2.2,trivial⟩⟩) kz)
         refine wp_seq ?_
         refine wp_seq ?_
         refine qbT [(7,.p 0 0),(9,.v (.bool (decide (v ≥ 0)))),(10,.p 1 0),(14,.v (.slice (some ⟨af,0,none⟩) ((lst (T.at_ 2)).length) ai)),(15,.v (.int .i32 (((lst (T.at_ 2)).length:Nat):Int))),(16,.v (.int .i32 ((ag:Nat):Int))),(18,.p 3 0),(21,.v (.slice (some ⟨ac,0,none⟩) ((lst (ab.at_ 1)).length) ah)),(22,.v (.int .i32 (((lst (ab.at_ 1)).length:Nat):Int))),(23,.v (.int .i32 ((ae:Nat):Int))),(25,.p 5 0),(28,.v (.slice (some ⟨ak,0,none⟩) ((lst (aa.at_ 1)).length) am)),(29,.v (.int .i32 (((lst (aa.at_ 1)).length:Nat):Int))),(30,.v (.int .i32 (((lst (aa.at_ 1)).length:Nat):Int))),(146,.v (.bool (decide ((((lst (aa.at_ 1)).length:Nat):Int) < (((lst (aa.at_ 1)).length:Nat):Int)))))] cN fun _ dv=>qac ?_
         clear cN
         refine qat dv.env_ (b:=decide ((((lst (aa.at_ 1)).length:Nat):Int) < (((lst (aa.at_ 1)).length:Nat):Int))) kz (decide_eq_false (by omega)) ?_
         refine wp_exit ?_
         refine qaz ?_
         refine qaz ?_
         refine qaT ?_
         refine qac ?_
         obtain ⟨gl,fO⟩:=RS.listEnd (tb:=[⟨bv,0,[.int .i16 v,.int .i32 (IntKind.i32.wrap (T.at_ 0).N),.int .i16 (IntKind.i16.wrap (T.at_ 1).N),.slice none 0 0,.map none],true⟩,qbm af 18 (.agg #[.int .u8 0,.int .u8 0,.int .u8 0,.int .u8 0,.int .u8 0,.int .u8 0,.int .u8 0,.int .u8 0,.int .u8 0,.int .u8 0,.int .u8 0,.int .u8 0,.int .u8 0,.int .u8 0,.int .u8 0,.int .u8 0,.slice none 0 0,.map none]) ((lst (T.at_ 2)).length) (ag + 1),⟨af,ag * 18,[qaa ((qad (ab.at_ 0).S).getD 0 0),qaa ((qad (ab.at_ 0).S).getD 1 0),qaa ((qad (ab.at_ 0).S).getD 2 0),qaa ((qad (ab.at_ 0).S).getD 3 0),qaa ((qad (ab.at_ 0).S).getD 4 0),qaa ((qad (ab.at_ 0).S).getD 5 0),qaa ((qad (ab.at_ 0).S).getD 6 0),qaa ((qad (ab.at_ 0).S).getD 7 0),qaa ((qad (ab.at_ 0).S).getD 8 0),qaa ((qad (ab.at_ 0).S).getD 9 0),qaa ((qad (ab.at_ 0).S).getD 10 0),qaa ((qad (ab.at_ 0).S).getD 11 0),qaa ((qad (ab.at_ 0).S).getD 12 0),qaa ((qad (ab.at_ 0).S).getD 13 0),qaa ((qad (ab.at_ 0).S).getD 14 0),qaa ((qad (ab.at_ 0).S).getD 15 0),.slice none 0 0,.map none],true⟩,qbm ac 18 (.agg #[.int .u8 0,.int .u8 0,.int .u8 0,.int .u8 0,.int .u8 0,.int .u8 0,.int .u8 0,.int .u8 0,.int .u8 0,.int .u8 0,.int .u8 0,.int .u8 0,.int .u8 0,.int .u8 0,.int .u8 0,.int .u8 0,.slice none 0 0,.map none]) ((lst (ab.at_ 1)).length) (ae + 1),⟨ac,ae * 18,[qaa ((qad (aa.at_ 0).S).getD 0 0),qaa ((qad (aa.at_ 0).S).getD 1 0),qaa ((qad (aa.at_ 0).S).getD 2 0),qaa ((qad (aa.at_ 0).S).getD 3 0),qaa ((qad (aa.at_ 0).S).getD 4 0),qaa ((qad (aa.at_ 0).S).getD 5 0),qaa ((qad (aa.at_ 0).S).getD 6 0),qaa ((qad (aa.at_ 0).S).getD 7 0),qaa ((qad (aa.at_ 0).S).getD 8 0),qaa ((qad (aa.at_ 0).S).getD 9 0),qaa ((qad (aa.at_ 0).S).getD 10 0),qaa ((qad (aa.at_ 0).S).getD 11 0),qaa ((qad (aa.at_ 0).S).getD 12 0),qaa ((qad (aa.at_ 0).S).getD 13 0),qaa ((qad (aa.at_ 0).S).getD 14 0),qaa ((qad (aa.at_ 0).S).getD 15 0),.slice none 0 0,.map none],true⟩]) (c:=am) (dv.pk (env':=[(7,.p 0 0),(9,.v (.bool (decide (v ≥ 0)))),(10,.p 1 0),(14,.v (.slice (some ⟨af,0,none⟩) ((lst (T.at_ 2)).length) ai)),(15,.v (.int .i32 (((lst (T.at_ 2)).length:Nat):Int))),(16,.v (.int .i32 ((ag:Nat):Int))),(18,.p 3 0),(21,.v (.slice (some ⟨ac,0,none⟩) ((lst (ab.at_ 1)).length) ah)),(22,.v (.int .i32 (((lst (ab.at_ 1)).length:Nat):Int))),(23,.v (.int .i32 ((ae:Nat):Int))),(25,.p 5 0),(28,.v (.slice (some ⟨ak,0,none⟩) ((lst (aa.at_ 1)).length) am))])) hg_g185 qaJ ba hcap_g185 (by have:=e144_1; omega) hn_g185 kz
         exact ⟨dvL (some ⟨ak,0,none⟩) (lst (aa.at_ 1)).length am gl,_,fun w F h_=>⟨h_.1,⟨h_.2.1,Nat.le_trans e144_1 (by decide),h_.2.2.1⟩,⟨rfl,h_.2.2.2⟩⟩,fO⟩
        refine wp_skip ?_
        refine qac ?_
        refine wp_seq ?_
        refine qbT [(7,.p 0 0),(9,.v (.bool (decide (v ≥ 0)))),(10,.p 1 0),(14,.v (.slice (some ⟨af,0,none⟩) ((lst (T.at_ 2)).length) ai)),(15,.v (.int .i32 (((lst (T.at_ 2)).length:Nat):Int))),(16,.v (.int .i32 ((ag:Nat):Int))),(18,.p 3 0),(21,.v (.slice (some ⟨ac,0,none⟩) ((lst (ab.at_ 1)).length) ah)),(22,.v (.int .i32 (((lst (ab.at_ 1)).length:Nat):Int))),(23,.v (.int .i32 ((ae:Nat):Int))),(25,.p 5 0),(28,.v (.slice none 0 0)),(29,.v (.int .i32 (((lst (aa.at_ 1)).length:Nat):Int))),(30,.v (.int .i32 0))] aA fun _ dw=>?_
        clear aA
        refine qac ?_
        refine wp_block ?_
        refine qfc ?_
        refine wp_seq ?_
        refine wp_seq ?_
        refine qbT [(7,.p 0 0),(9,.v (.bool (decide (v ≥ 0)))),(10,.p 1 0),(14,.v (.slice (some ⟨af,0,none⟩) ((lst (T.at_ 2)).length) ai)),(15,.v (.int .i32 (((lst (T.at_ 2)).length:Nat):Int))),(16,.v (.int .i32 ((ag:Nat):Int))),(18,.p 3 0),(21,.v (.slice (some ⟨ac,0,none⟩) ((lst (ab.at_ 1)).length) ah)),(22,.v (.int .i32 (((lst (ab.at_ 1)).length:Nat):Int))),(23,.v (.int .i32 ((ae:Nat):Int))),(25,.p 5 0),(28,.v (.slice none 0 0)),(29,.v (.int .i32 (((lst (aa.at_ 1)).length:Nat):Int))),(30,.v (.int .i32 0)),(146,.v (.bool (decide (0 < (((lst (aa.at_ 1)).length:Nat):Int)))))] dw fun _ dx=>qac ?_
        clear dw
        refine qat dx.env_ (b:=decide (0 < (((lst (aa.at_ 1)).length:Nat):Int))) kz (decide_eq_false (by have h_:=of_decide_eq_false aO; omega)) ?_
        refine wp_exit ?_
        refine qaz ?_
        refine qaz ?_
        refine qaT ?_
        refine qac ?_
        have hz_:(lst (aa.at_ 1)).length = 0:=by have h_:=of_decide_eq_false aO; omega
        exact ⟨dvL none 0 0 (fun _=>dv0),_,fun w F h_=>⟨h_,⟨Slots.nil _ _ _ _,Nat.zero_le _,fun _ h=>absurd h (Nat.not_lt_zero _)⟩,⟨hz_.symm,fun _ h=>absurd h (Nat.not_lt_zero _)⟩⟩,(dx.cast (t:=az) (by rw [List.eq_nil_of_length_eq_zero hz_]; rfl)).pk (env':=[(7,.p 0 0),(9,.v (.bool (decide (v ≥ 0)))),(10,.p 1 0),(14,.v (.slice (some ⟨af,0,none⟩) ((lst (T.at_ 2)).length) ai)),(15,.v (.int .i32 (((lst (T.at_ 2)).length:Nat):Int))),(16,.v (.int .i32 ((ag:Nat):Int))),(18,.p 3 0),(21,.v (.slice (some ⟨ac,0,none⟩) ((lst (ab.at_ 1)).length) ah)),(22,.v (.int .i32 (((lst (ab.at_ 1)).length:Nat):Int))),(23,.v (.int .i32 ((ae:Nat):Int))),(25,.p 5 0),(28,.v (.slice none 0 0))])⟩
       rintro _ _ ⟨ao,gm,aP,dy⟩
       refine wp_seq ?_
       refine qbT [(7,.p 0 0),(9,.v (.bool (decide (v ≥ 0)))),(10,.p 1 0),(14,.v (.slice (some ⟨af,0,none⟩) ((lst (T.at_ 2)).length) ai)),(15,.v (.int .i32 (((lst (T.at_ 2)).length:Nat):Int))),(16,.v (.int .i32 ((ag:Nat):Int))),(18,.p 3 0),(21,.v (.slice (some ⟨ac,0,none⟩) ((lst (ab.at_ 1)).length) ah)),(22,.v (.int .i32 (((lst (ab.at_ 1)).length:Nat):Int))),(23,.v (.int .i32 ((ae:Nat):Int))),(25,.p 5 0),(27,.v (.slice ao.A ao.l ao.c))] dy fun _ dz=>?_
       clear dy
       refine qac ?_
       refine qeD [⟨bv,0,[.int .i16 v,.int .i32 (IntKind.i32.wrap (T.at_ 0).N),.int .i16 (IntKind.i16.wrap (T.at_ 1).N),.slice none 0 0,.map none],true⟩,qbm af 18 (.agg #[.int .u8 0,.int .u8 0,.int .u8 0,.int .u8 0,.int .u8 0,.int .u8 0,.int .u8 0,.int .u8 0,.int .u8 0,.int .u8 0,.int .u8 0,.int .u8 0,.int .u8 0,.int .u8 0,.int .u8 0,.int .u8 0,.slice none 0 0,.map none]) ((lst (T.at_ 2)).length) (ag + 1),⟨af,ag * 18,[qaa ((qad (ab.at_ 0).S).getD 0 0),qaa ((qad (ab.at_ 0).S).getD 1 0),qaa ((qad (ab.at_ 0).S).getD 2 0),qaa ((qad (ab.at_ 0).S).getD 3 0),qaa ((qad (ab.at_ 0).S).getD 4 0),qaa ((qad (ab.at_ 0).S).getD 5 0),qaa ((qad (ab.at_ 0).S).getD 6 0),qaa ((qad (ab.at_ 0).S).getD 7 0),qaa ((qad (ab.at_ 0).S).getD 8 0),qaa ((qad (ab.at_ 0).S).getD 9 0),qaa ((qad (ab.at_ 0).S).getD 10 0),qaa ((qad (ab.at_ 0).S).getD 11 0),qaa ((qad (ab.at_ 0).S).getD 12 0),qaa ((qad (ab.at_ 0).S).getD 13 0),qaa ((qad (ab.at_ 0).S).getD 14 0),qaa ((qad (ab.at_ 0).S).getD 15 0),.slice none 0 0,.map none],true⟩,qbm ac 18 (.agg #[.int .u8 0,.int .u8 0,.int .u8 0,.int .u8 0,.int .u8 0,.int .u8 0,.int .u8 0,.int .u8 0,.int .u8 0,.int .u8 0,.int .u8 0,.int .u8 0,.int .u8 0,.int .u8 0,.int .u8 0,.int .u8 0,.slice none 0 0,.map none]) ((lst (ab.at_ 1)).length) (ae + 1),⟨ac,ae * 18,[qaa ((qad (aa.at_ 0).S).getD 0 0),qaa ((qad (aa.at_ 0).S).getD 1 0),qaa ((qad (aa.at_ 0).S).getD 2 0),qaa ((qad (aa.at_ 0).S).getD 3 0),qaa ((qad (aa.at_ 0).S).getD 4 0),qaa ((qad (aa.at_ 0).S).getD 5 0),qaa ((qad (aa.at_ 0).S).getD 6 0),qaa ((qad (aa.at_ 0).S).getD 7 0),qaa ((qad (aa.at_ 0).S).getD 8 0),qaa ((qad (aa.at_ 0).S).getD 9 0),qaa ((qad (aa.at_ 0).S).getD 10 0),qaa ((qad (aa.at_ 0).S).getD 11 0),qaa ((qad (aa.at_ 0).S).getD 12 0),qaa ((qad (aa.at_ 0).S).getD 13 0),qaa ((qad (aa.at_ 0).S).getD 14 0),qaa ((qad (aa.at_ 0).S).getD 15 0),.slice ao.A ao.l ao.c,.map none],true⟩] 4 [(7,.p 0 0),(9,.v (.bool (decide (v ≥ 0)))),(10,.p 1 0),(14,.v (.slice (some ⟨af,0,none⟩) ((lst (T.at_ 2)).length) ai)),(15,.v (.int .i32 (((lst (T.at_ 2)).length:Nat):Int))),(16,.v (.int .i32 ((ag:Nat):Int))),(18,.p 3 0),(21,.v (.slice (some ⟨ac,0,none⟩) ((lst (ab.at_ 1)).length) ah)),(22,.v (.int .i32 (((lst (ab.at_ 1)).length:Nat):Int))),(23,.v (.int .i32 ((ae:Nat):Int))),(25,.p 5 0)] dz fun _ _ dA=>?_
       clear dz
       refine qac ?_
       have dB:=dA.cast bS
       clear dA
       refine qfe (Mid:=fun a_ w_=>∃ (bk:Option Nat) (aK:List (Int × Bs)) (P':qcR),(∀ w F,P' w F → gm w F ∧ (MapR w F bk aK ∧ aK.length ≤ 1000000 ∧ ∀ x ∈ aK,x.2.length < 4294967296) ∧ ((decide (v ≥ 0)) = true → aK = aa.U) ∧ ((decide (v ≥ 0)) = false → aK = [])) ∧ RS w (fun b o=>b = bv ∧ o < 5) F 201 bh [⟨bv,0,[.int .i16 v,.int .i32 (IntKind.i32.wrap (T.at_ 0).N),.int .i16 (IntKind.i16.wrap (T.at_ 1).N),.slice none 0 0,.map none],true⟩,qbm af 18 (.agg #[.int .u8 0,.int .u8 0,.int .u8 0,.int .u8 0,.int .u8 0,.int .u8 0,.int .u8 0,.int .u8 0,.int .u8 0,.int .u8 0,.int .u8 0,.int .u8 0,.int .u8 0,.int .u8 0,.int .u8 0,.int .u8 0,.slice none 0 0,.map none]) ((lst (T.at_ 2)).length) (ag + 1),⟨af,ag * 18,[qaa ((qad (ab.at_ 0).S).getD 0 0),qaa ((qad (ab.at_ 0).S).getD 1 0),qaa ((qad (ab.at_ 0).S).getD 2 0),qaa ((qad (ab.at_ 0).S).getD 3 0),qaa ((qad (ab.at_ 0).S).getD 4 0),qaa ((qad (ab.at_ 0).S).getD 5 0),qaa ((qad (ab.at_ 0).S).getD 6 0),qaa ((qad (ab.at_ 0).S).getD 7 0),qaa ((qad (ab.at_ 0).S).getD 8 0),qaa ((qad (ab.at_ 0).S).getD 9 0),qaa ((qad (ab.at_ 0).S).getD 10 0),qaa ((qad (ab.at_ 0).S).getD 11 0),qaa ((qad (ab.at_ 0).S).getD 12 0),qaa ((qad (ab.at_ 0).S).getD 13 0),qaa ((qad (ab.at_ 0).S).getD 14 0),qaa ((qad (ab.at_ 0).S).getD 15 0),.slice none 0 0,.map none],true⟩,qbm ac 18 (.agg #[.int .u8 0,.int .u8 0,.int .u8 0,.int .u8 0,.int .u8 0,.int .u8 0,.int .u8 0,.int .u8 0,.int .u8 0,.int .u8 0,.int .u8 0,.int .u8 0,.int .u8 0,.int .u8 0,.int .u8 0,.int .u8 0,.slice none 0 0,.map none]) ((lst (ab.at_ 1)).length) (ae + 1),⟨ac,ae * 18,[qaa ((qad (aa.at_ 0).S).getD 0 0),qaa ((qad (aa.at_ 0).S).getD 1 0),qaa ((qad (aa.at_ 0).S).getD 2 0),qaa ((qad (aa.at_ 0).S).getD 3 0),qaa ((qad (aa.at_ 0).S).getD 4 0),qaa ((qad (aa.at_ 0).S).getD 5 0),qaa ((qad (aa.at_ 0).S).getD 6 0),qaa ((qad (aa.at_ 0).S).getD 7 0),qaa ((qad (aa.at_ 0).S).getD 8 0),qaa ((qad (aa.at_ 0).S).getD 9 0),qaa ((qad (aa.at_ 0).S).getD 10 0),qaa ((qad (aa.at_ 0).S).getD 11 0),qaa ((qad (aa.at_ 0).S).getD 12 0),qaa ((qad (aa.at_ 0).S).getD 13 0),qaa ((qad (aa.at_ 0).S).getD 14 0),qaa ((qad (aa.at_ 0).S).getD 15 0),.slice ao.A ao.l ao.c,.map bk],true⟩] [(7,.p 0 0),(9,.v (.bool (decide (v ≥ 0)))),(10,.p 1 0),(14,.v (.slice (some ⟨af,0,none⟩) ((lst (T.at_ 2)).length) ai)),(15,.v (.int .i32 (((lst (T.at_ 2)).length:Nat):Int))),(16,.v (.int .i32 ((ag:Nat):Int))),(18,.p 3 0),(21,.v (.slice (some ⟨ac,0,none⟩) ((lst (ab.at_ 1)).length) ah)),(22,.v (.int .i32 (((lst (ab.at_ 1)).length:Nat):Int))),(23,.v (.int .i32 ((ae:Nat):Int)))] P' aW a_ w_) ?_ ?_
       ·
        refine wp_seq ?_
        refine qbT [(7,.p 0 0),(9,.v (.bool (decide (v ≥ 0)))),(10,.p 1 0),(14,.v (.slice (some ⟨af,0,none⟩) ((lst (T.at_ 2)).length) ai)),(15,.v (.int .i32 (((lst (T.at_ 2)).length:Nat):Int))),(16,.v (.int .i32 ((ag:Nat):Int))),(18,.p 3 0),(21,.v (.slice (some ⟨ac,0,none⟩) ((lst (ab.at_ 1)).length) ah)),(22,.v (.int .i32 (((lst (ab.at_ 1)).length:Nat):Int))),(23,.v (.int .i32 ((ae:Nat):Int))),(25,.p 5 0),(175,.v (.bool (decide (v ≥ 0))))] dB fun _ aD=>qac ?_
        clear dB
        refine qax aD.env_ (b:=decide (v ≥ 0)) kz (fun aE=>?_) (fun aE=>?_)
        ·
         have dC:=aD.cast (t:=((uv aa.U.length) ++ (qcm aa.U)) ++ aW) (by rw [if_pos aE])
         clear aD
         refine qaq [0,1,2,3,4] kz ?_
         refine qc4 [0] [1,2,3,4] [(7,.p 0 0),(9,.v (.bool (decide (v ≥ 0)))),(10,.p 1 0),(14,.v (.slice (some ⟨af,0,none⟩) ((lst (T.at_ 2)).length) ai)),(15,.v (.int .i32 (((lst (T.at_ 2)).length:Nat):Int))),(16,.v (.int .i32 ((ag:Nat):Int))),(18,.p 3 0),(21,.v (.slice (some ⟨ac,0,none⟩) ((lst (ab.at_ 1)).length) ah)),(22,.v (.int .i32 (((lst (ab.at_ 1)).length:Nat):Int))),(23,.v (.int .i32 ((ae:Nat):Int))),(176,.p 5 0)] dC fun _ dD=>?_
         clear dC
         refine qan (qgi (d:=177) dD (qj9 aa.U e144_U (qeB e144r) _) (fun _=>MvF.tags _ _) Tryz.call101 fun eD gI _ _ dE dF=>?_)
         clear dD
         refine qc4 [2,3] [4] [(7,.p 0 0),(9,.v (.bool (decide (v ≥ 0)))),(10,.p 1 0),(14,.v (.slice (some ⟨af,0,none⟩) ((lst (T.at_ 2)).length) ai)),(15,.v (.int .i32 (((lst (T.at_ 2)).length:Nat):Int))),(16,.v (.int .i32 ((ag:Nat):Int))),(18,.p 3 0),(21,.v (.slice (some ⟨ac,0,none⟩) ((lst (ab.at_ 1)).length) ah)),(22,.v (.int .i32 (((lst (ab.at_ 1)).length:Nat):Int))),(23,.v (.int .i32 ((ae:Nat):Int))),(177,.v (.agg #[.map eD])),(179,.p 5 17)] dF fun _ dG=>?_
         clear dF
         refine qan (qd4 [⟨bv,0,[.int .i16 v,.int .i32 (IntKind.i32.wrap (T.at_ 0).N),.int .i16 (IntKind.i16.wrap (T.at_ 1).N),.slice none 0 0,.map none],true⟩,qbm af 18 (.agg #[.int .u8 0,.int .u8 0,.int .u8 0,.int .u8 0,.int .u8 0,.int .u8 0,.int .u8 0,.int .u8 0,.int .u8 0,.int .u8 0,.int .u8 0,.int .u8 0,.int .u8 0,.int .u8 0,.int .u8 0,.int .u8 0,.slice none 0 0,.map none]) ((lst (T.at_ 2)).length) (ag + 1),⟨af,ag * 18,[qaa ((qad (ab.at_ 0).S).getD 0 0),qaa ((qad (ab.at_ 0).S).getD 1 0),qaa ((qad (ab.at_ 0).S).getD 2 0),qaa ((qad (ab.at_ 0).S).getD 3 0),qaa ((qad (ab.at_ 0).S).getD 4 0),qaa ((qad (ab.at_ 0).S).getD 5 0),qaa ((qad (ab.at_ 0).S).getD 6 0),qaa ((qad (ab.at_ 0).S).getD 7 0),qaa ((qad (ab.at_ 0).S).getD 8 0),qaa ((qad (ab.at_ 0).S).getD 9 0),qaa ((qad (ab.at_ 0).S).getD 10 0),qaa ((qad (ab.at_ 0).S).getD 11 0),qaa ((qad (ab.at_ 0).S).getD 12 0),qaa ((qad (ab.at_ 0).S).getD 13 0),qaa ((qad (ab.at_ 0).S).getD 14 0),qaa ((qad (ab.at_ 0).S).getD 15 0),.slice none 0 0,.map none],true⟩,qbm ac 18 (.agg #[.int .u8 0,.int .u8 0,.int .u8 0,.int .u8 0,.int .u8 0,.int .u8 0,.int .u8 0,.int .u8 0,.int .u8 0,.int .u8 0,.int .u8 0,.int .u8 0,.int .u8 0,.int .u8 0,.int .u8 0,.int .u8 0,.slice none 0 0,.map none]) ((lst (ab.at_ 1)).length) (ae + 1),⟨ac,ae * 18,[qaa ((qad (aa.at_ 0).S).getD 0 0),qaa ((qad (aa.at_ 0).S).getD 1 0),qaa ((qad (aa.at_ 0).S).getD 2 0),qaa ((qad (aa.at_ 0).S).getD 3 0),qaa ((qad (aa.at_ 0).S).getD 4 0),qaa ((qad (aa.at_ 0).S).getD 5 0),qaa ((qad (aa.at_ 0).S).getD 6 0),qaa ((qad (aa.at_ 0).S).getD 7 0),qaa ((qad (aa.at_ 0).S).getD 8 0),qaa ((qad (aa.at_ 0).S).getD 9 0),qaa ((qad (aa.at_ 0).S).getD 10 0),qaa ((qad (aa.at_ 0).S).getD 11 0),qaa ((qad (aa.at_ 0).S).getD 12 0),qaa ((qad (aa.at_ 0).S).getD 13 0),qaa ((qad (aa.at_ 0).S).getD 14 0),qaa ((qad (aa.at_ 0).S).getD 15 0),.slice ao.A ao.l ao.c,.map eD],true⟩] 4 dG fun _ dH=>?_)
         clear dG
         refine qah ?_
         have fP:=dH.pk (env':=[(7,.p 0 0),(9,.v (.bool (decide (v ≥ 0)))),(10,.p 1 0),(14,.v (.slice (some ⟨af,0,none⟩) ((lst (T.at_ 2)).length) ai)),(15,.v (.int .i32 (((lst (T.at_ 2)).length:Nat):Int))),(16,.v (.int .i32 ((ag:Nat):Int))),(18,.p 3 0),(21,.v (.slice (some ⟨ac,0,none⟩) ((lst (ab.at_ 1)).length) ah)),(22,.v (.int .i32 (((lst (ab.at_ 1)).length:Nat):Int))),(23,.v (.int .i32 ((ae:Nat):Int)))])
         clear dH
         refine qac ?_
         exact ⟨eD,aa.U,_,fun w F h_=>⟨(dE _ _ h_).1,⟨(dE _ _ h_).2,e144_U.2.1,e144_U.2.2⟩,⟨fun _=>rfl,(fun e_=>by rw [aE] at e_; cases e_)⟩⟩,fP.pk (env':=[(7,.p 0 0),(9,.v (.bool (decide (v ≥ 0)))),(10,.p 1 0),(14,.v (.slice (some ⟨af,0,none⟩) ((lst (T.at_ 2)).length) ai)),(15,.v (.int .i32 (((lst (T.at_ 2)).length:Nat):Int))),(16,.v (.int .i32 ((ag:Nat):Int))),(18,.p 3 0),(21,.v (.slice (some ⟨ac,0,none⟩) ((lst (ab.at_ 1)).length) ah)),(22,.v (.int .i32 (((lst (ab.at_ 1)).length:Nat):Int))),(23,.v (.int .i32 ((ae:Nat):Int)))])⟩
        have dI:=aD.cast (t:=[] ++ aW) (by rw [if_neg (by rw [aE]; decide)])
        clear aD
        have fQ:=dI.cast (t:=aW) rfl
        clear dI
        refine wp_skip (qac ?_)
        exact ⟨none,[],_,fun w F h_=>⟨h_,⟨MapR.nil _ _,Nat.zero_le _,fun _ h=>by cases h⟩,⟨(fun e_=>by rw [aE] at e_; cases e_),fun _=>rfl⟩⟩,fQ.pk (env':=[(7,.p 0 0),(9,.v (.bool (decide (v ≥ 0)))),(10,.p 1 0),(14,.v (.slice (some ⟨af,0,none⟩) ((lst (T.at_ 2)).length) ai)),(15,.v (.int .i32 (((lst (T.at_ 2)).length:Nat):Int))),(16,.v (.int .i32 ((ag:Nat):Int))),(18,.p 3 0),(21,.v (.slice (some ⟨ac,0,none⟩) ((lst (ab.at_ 1)).length) ah)),(22,.v (.int .i32 (((lst (ab.at_ 1)).length:Nat):Int))),(23,.v (.int .i32 ((ae:Nat):Int)))])⟩
       rintro _ _ ⟨bk,aK,gJ,au,dJ⟩
       refine qas ?_
       refine qac ?_
       refine qbT [(7,.p 0 0),(9,.v (.bool (decide (v ≥ 0)))),(10,.p 1 0),(14,.v (.slice (some ⟨af,0,none⟩) ((lst (T.at_ 2)).length) ai)),(15,.v (.int .i32 (((lst (T.at_ 2)).length:Nat):Int))),(16,.v (.int .i32 ((ag:Nat):Int))),(18,.p 3 0),(21,.v (.slice (some ⟨ac,0,none⟩) ((lst (ab.at_ 1)).length) ah)),(22,.v (.int .i32 (((lst (ab.at_ 1)).length:Nat):Int))),(23,.v (.int .i32 (IntKind.i32.wrap (((ae:Nat):Int) + 1))))] dJ fun _ dK=>?_
       clear dJ
       refine qac ?_
       have fR:=(dK.envEq (env':=[(7,.p 0 0),(9,.v (.bool (decide (v ≥ 0)))),(10,.p 1 0),(14,.v (.slice (some ⟨af,0,none⟩) ((lst (T.at_ 2)).length) ai)),(15,.v (.int .i32 (((lst (T.at_ 2)).length:Nat):Int))),(16,.v (.int .i32 ((ag:Nat):Int))),(18,.p 3 0),(21,.v (.slice (some ⟨ac,0,none⟩) ((lst (ab.at_ 1)).length) ah)),(22,.v (.int .i32 (((lst (ab.at_ 1)).length:Nat):Int))),(23,.v (.int .i32 ((ae + 1:Nat):Int)))]) (by rw [qgl (by have:=e84_1; omega)])).pk (env':=[(7,.p 0 0),(9,.v (.bool (decide (v ≥ 0)))),(10,.p 1 0),(14,.v (.slice (some ⟨af,0,none⟩) ((lst (T.at_ 2)).length) ai)),(15,.v (.int .i32 (((lst (T.at_ 2)).length:Nat):Int))),(16,.v (.int .i32 ((ag:Nat):Int))),(18,.p 3 0),(21,.v (.slice (some ⟨ac,0,none⟩) ((lst (ab.at_ 1)).length) ah)),(22,.v (.int .i32 (((lst (ab.at_ 1)).length:Nat):Int))),(23,.v (.int .i32 ((ae + 1:Nat):Int)))])
       clear dK
       exact (RS.thing (tb:=[⟨bv,0,[.int .i16 v,.int .i32 (IntKind.i32.wrap (T.at_ 0).N),.int .i16 (IntKind.i16.wrap (T.at_ 1).N),.slice none 0 0,.map none],true⟩,qbm af 18 (.agg #[.int .u8 0,.int .u8 0,.int .u8 0,.int .u8 0,.int .u8 0,.int .u8 0,.int .u8 0,.int .u8 0,.int .u8 0,.int .u8 0,.int .u8 0,.int .u8 0,.int .u8 0,.int .u8 0,.int .u8 0,.int .u8 0,.slice none 0 0,.map none]) ((lst (T.at_ 2)).length) (ag + 1),⟨af,ag * 18,[qaa ((qad (ab.at_ 0).S).getD 0 0),qaa ((qad (ab.at_ 0).S).getD 1 0),qaa ((qad (ab.at_ 0).S).getD 2 0),qaa ((qad (ab.at_ 0).S).getD 3 0),qaa ((qad (ab.at_ 0).S).getD 4 0),qaa ((qad (ab.at_ 0).S).getD 5 0),qaa ((qad (ab.at_ 0).S).getD 6 0),qaa ((qad (ab.at_ 0).S).getD 7 0),qaa ((qad (ab.at_ 0).S).getD 8 0),qaa ((qad (ab.at_ 0).S).getD 9 0),qaa ((qad (ab.at_ 0).S).getD 10 0),qaa ((qad (ab.at_ 0).S).getD 11 0),qaa ((qad (ab.at_ 0).S).getD 12 0),qaa ((qad (ab.at_ 0).S).getD 13 0),qaa ((qad (ab.at_ 0).S).getD 14 0),qaa ((qad (ab.at_ 0).S).getD 15 0),.slice none 0 0,.map none],true⟩]) (z:=.agg #[.int .u8 0,.int .u8 0,.int .u8 0,.int .u8 0,.int .u8 0,.int .u8 0,.int .u8 0,.int .u8 0,.int .u8 0,.int .u8 0,.int .u8 0,.int .u8 0,.int .u8 0,.int .u8 0,.int .u8 0,.int .u8 0,.slice none 0 0,.map none]) (D:=(dvP bk aK [dvO none (qad (aa.at_ 0).S) 0,ao])) (fR.cast bR) hg_g125 aV qaU aU rfl (fun w F h_=>⟨(bP _ _ (aP _ _ (au _ _ h_).1).1).1,(bP _ _ (aP _ _ (au _ _ h_).1).1).2,⟨(qcQ _),((aP _ _ (au _ _ h_).1).2.1),(au _ _ h_).2.1.1,(au _ _ h_).2.1.2.1,(au _ _ h_).2.1.2.2,trivial⟩,⟨(rfl),((aP _ _ (au _ _ h_).1).2.2),(au _ _ h_).2.2,trivial⟩⟩) kz)
      refine wp_seq ?_
      refine wp_seq ?_
      refine qbT [(7,.p 0 0),(9,.v (.bool (decide (v ≥ 0)))),(10,.p 1 0),(14,.v (.slice (some ⟨af,0,none⟩) ((lst (T.at_ 2)).length) ai)),(15,.v (.int .i32 (((lst (T.at_ 2)).length:Nat):Int))),(16,.v (.int .i32 ((ag:Nat):Int))),(18,.p 3 0),(21,.v (.slice (some ⟨ac,0,none⟩) ((lst (ab.at_ 1)).length) ah)),(22,.v (.int .i32 (((lst (ab.at_ 1)).length:Nat):Int))),(23,.v (.int .i32 (((lst (ab.at_ 1)).length:Nat):Int))),(112,.v (.bool (decide ((((lst (ab.at_ 1)).length:Nat):Int) < (((lst (ab.at_ 1)).length:Nat):Int)))))] bO fun _ dL=>qac ?_
      clear bO
      refine qat dL.env_ (b:=decide ((((lst (ab.at_ 1)).length:Nat):Int) < (((lst (ab.at_ 1)).length:Nat):Int))) kz (decide_eq_false (by omega)) ?_
      refine wp_exit ?_
      refine qaz ?_
      refine qaz ?_
      refine qaT ?_
      refine qac ?_
      obtain ⟨gn,fS⟩:=RS.listEnd (tb:=[⟨bv,0,[.int .i16 v,.int .i32 (IntKind.i32.wrap (T.at_ 0).N),.int .i16 (IntKind.i16.wrap (T.at_ 1).N),.slice none 0 0,.map none],true⟩,qbm af 18 (.agg #[.int .u8 0,.int .u8 0,.int .u8 0,.int .u8 0,.int .u8 0,.int .u8 0,.int .u8 0,.int .u8 0,.int .u8 0,.int .u8 0,.int .u8 0,.int .u8 0,.int .u8 0,.int .u8 0,.int .u8 0,.int .u8 0,.slice none 0 0,.map none]) ((lst (T.at_ 2)).length) (ag + 1),⟨af,ag * 18,[qaa ((qad (ab.at_ 0).S).getD 0 0),qaa ((qad (ab.at_ 0).S).getD 1 0),qaa ((qad (ab.at_ 0).S).getD 2 0),qaa ((qad (ab.at_ 0).S).getD 3 0),qaa ((qad (ab.at_ 0).S).getD 4 0),qaa ((qad (ab.at_ 0).S).getD 5 0),qaa ((qad (ab.at_ 0).S).getD 6 0),qaa ((qad (ab.at_ 0).S).getD 7 0),qaa ((qad (ab.at_ 0).S).getD 8 0),qaa ((qad (ab.at_ 0).S).getD 9 0),qaa ((qad (ab.at_ 0).S).getD 10 0),qaa ((qad (ab.at_ 0).S).getD 11 0),qaa ((qad (ab.at_ 0).S).getD 12 0),qaa ((qad (ab.at_ 0).S).getD 13 0),qaa ((qad (ab.at_ 0).S).getD 14 0),qaa ((qad (ab.at_ 0).S).getD 15 0),.slice none 0 0,.map none],true⟩]) (c:=ah) (dL.pk (env':=[(7,.p 0 0),(9,.v (.bool (decide (v ≥ 0)))),(10,.p 1 0),(14,.v (.slice (some ⟨af,0,none⟩) ((lst (T.at_ 2)).length) ai)),(15,.v (.int .i32 (((lst (T.at_ 2)).length:Nat):Int))),(16,.v (.int .i32 ((ag:Nat):Int))),(18,.p 3 0),(21,.v (.slice (some ⟨ac,0,none⟩) ((lst (ab.at_ 1)).length) ah))])) hg_g125 qaU aU hcap_g125 (by have:=e84_1; omega) hn_g125 kz
      exact ⟨dvL (some ⟨ac,0,none⟩) (lst (ab.at_ 1)).length ah gn,_,fun w F h_=>⟨h_.1,⟨h_.2.1,Nat.le_trans e84_1 (by decide),h_.2.2.1⟩,⟨rfl,h_.2.2.2⟩⟩,fS⟩
     refine wp_skip ?_
     refine qac ?_
     refine wp_seq ?_
     refine qbT [(7,.p 0 0),(9,.v (.bool (decide (v ≥ 0)))),(10,.p 1 0),(14,.v (.slice (some ⟨af,0,none⟩) ((lst (T.at_ 2)).length) ai)),(15,.v (.int .i32 (((lst (T.at_ 2)).length:Nat):Int))),(16,.v (.int .i32 ((ag:Nat):Int))),(18,.p 3 0),(21,.v (.slice none 0 0)),(22,.v (.int .i32 (((lst (ab.at_ 1)).length:Nat):Int))),(23,.v (.int .i32 0))] ay fun _ dM=>?_
     clear ay
     refine qac ?_
     refine wp_block ?_
     refine qfc ?_
     refine wp_seq ?_
     refine wp_seq ?_
     refine qbT [(7,.p 0 0),(9,.v (.bool (decide (v ≥ 0)))),(10,.p 1 0),(14,.v (.slice (some ⟨af,0,none⟩) ((lst (T.at_ 2)).length) ai)),(15,.v (.int .i32 (((lst (T.at_ 2)).length:Nat):Int))),(16,.v (.int .i32 ((ag:Nat):Int))),(18,.p 3 0),(21,.v (.slice none 0 0)),(22,.v (.int .i32 (((lst (ab.at_ 1)).length:Nat):Int))),(23,.v (.int .i32 0)),(112,.v (.bool (decide (0 < (((lst (ab.at_ 1)).length:Nat):Int)))))] dM fun _ dN=>qac ?_
     clear dM
     refine qat dN.env_ (b:=decide (0 < (((lst (ab.at_ 1)).length:Nat):Int))) kz (decide_eq_false (by have h_:=of_decide_eq_false aN; omega)) ?_
     refine wp_exit ?_
     refine qaz ?_
     refine qaz ?_
     refine qaT ?_
     refine qac ?_
     have hz_:(lst (ab.at_ 1)).length = 0:=by have h_:=of_decide_eq_false aN; omega
     exact ⟨dvL none 0 0 (fun _=>dv0),_,fun w F h_=>⟨h_,⟨Slots.nil _ _ _ _,Nat.zero_le _,fun _ h=>absurd h (Nat.not_lt_zero _)⟩,⟨hz_.symm,fun _ h=>absurd h (Nat.not_lt_zero _)⟩⟩,(dN.cast (t:=bt) (by rw [List.eq_nil_of_length_eq_zero hz_]; rfl)).pk (env':=[(7,.p 0 0),(9,.v (.bool (decide (v ≥ 0)))),(10,.p 1 0),(14,.v (.slice (some ⟨af,0,none⟩) ((lst (T.at_ 2)).length) ai)),(15,.v (.int .i32 (((lst (T.at_ 2)).length:Nat):Int))),(16,.v (.int .i32 ((ag:Nat):Int))),(18,.p 3 0),(21,.v (.slice none 0 0))])⟩
    rintro _ _ ⟨aj,gp,aQ,dO⟩
    refine wp_seq ?_
    refine qbT [(7,.p 0 0),(9,.v (.bool (decide (v ≥ 0)))),(10,.p 1 0),(14,.v (.slice (some ⟨af,0,none⟩) ((lst (T.at_ 2)).length) ai)),(15,.v (.int .i32 (((lst (T.at_ 2)).length:Nat):Int))),(16,.v (.int .i32 ((ag:Nat):Int))),(18,.p 3 0),(20,.v (.slice aj.A aj.l aj.c))] dO fun _ dP=>?_
    clear dO
    refine qac ?_
    refine qeD [⟨bv,0,[.int .i16 v,.int .i32 (IntKind.i32.wrap (T.at_ 0).N),.int .i16 (IntKind.i16.wrap (T.at_ 1).N),.slice none 0 0,.map none],true⟩,qbm af 18 (.agg #[.int .u8 0,.int .u8 0,.int .u8 0,.int .u8 0,.int .u8 0,.int .u8 0,.int .u8 0,.int .u8 0,.int .u8 0,.int .u8 0,.int .u8 0,.int .u8 0,.int .u8 0,.int .u8 0,.int .u8 0,.int .u8 0,.slice none 0 0,.map none]) ((lst (T.at_ 2)).length) (ag + 1),⟨af,ag * 18,[qaa ((qad (ab.at_ 0).S).getD 0 0),qaa ((qad (ab.at_ 0).S).getD 1 0),qaa ((qad (ab.at_ 0).S).getD 2 0),qaa ((qad (ab.at_ 0).S).getD 3 0),qaa ((qad (ab.at_ 0).S).getD 4 0),qaa ((qad (ab.at_ 0).S).getD 5 0),qaa ((qad (ab.at_ 0).S).getD 6 0),qaa ((qad (ab.at_ 0).S).getD 7 0),qaa ((qad (ab.at_ 0).S).getD 8 0),qaa ((qad (ab.at_ 0).S).getD 9 0),qaa ((qad (ab.at_ 0).S).getD 10 0),qaa ((qad (ab.at_ 0).S).getD 11 0),qaa ((qad (ab.at_ 0).S).getD 12 0),qaa ((qad (ab.at_ 0).S).getD 13 0),qaa ((qad (ab.at_ 0).S).getD 14 0),qaa ((qad (ab.at_ 0).S).getD 15 0),.slice aj.A aj.l aj.c,.map none],true⟩] 2 [(7,.p 0 0),(9,.v (.bool (decide (v ≥ 0)))),(10,.p 1 0),(14,.v (.slice (some ⟨af,0,none⟩) ((lst (T.at_ 2)).length) ai)),(15,.v (.int .i32 (((lst (T.at_ 2)).length:Nat):Int))),(16,.v (.int .i32 ((ag:Nat):Int))),(18,.p 3 0)] dP fun _ _ dQ=>?_
    clear dP
    refine qac ?_
    have dR:=dQ.cast ft
    clear dQ
    refine qfe (Mid:=fun a_ w_=>∃ (bn:Option Nat) (aL:List (Int × Bs)) (P':qcR),(∀ w F,P' w F → gp w F ∧ (MapR w F bn aL ∧ aL.length ≤ 1000000 ∧ ∀ x ∈ aL,x.2.length < 4294967296) ∧ ((decide (v ≥ 0)) = true → aL = ab.U) ∧ ((decide (v ≥ 0)) = false → aL = [])) ∧ RS w (fun b o=>b = bv ∧ o < 5) F 201 bh [⟨bv,0,[.int .i16 v,.int .i32 (IntKind.i32.wrap (T.at_ 0).N),.int .i16 (IntKind.i16.wrap (T.at_ 1).N),.slice none 0 0,.map none],true⟩,qbm af 18 (.agg #[.int .u8 0,.int .u8 0,.int .u8 0,.int .u8 0,.int .u8 0,.int .u8 0,.int .u8 0,.int .u8 0,.int .u8 0,.int .u8 0,.int .u8 0,.int .u8 0,.int .u8 0,.int .u8 0,.int .u8 0,.int .u8 0,.slice none 0 0,.map none]) ((lst (T.at_ 2)).length) (ag + 1),⟨af,ag * 18,[qaa ((qad (ab.at_ 0).S).getD 0 0),qaa ((qad (ab.at_ 0).S).getD 1 0),qaa ((qad (ab.at_ 0).S).getD 2 0),qaa ((qad (ab.at_ 0).S).getD 3 0),qaa ((qad (ab.at_ 0).S).getD 4 0),qaa ((qad (ab.at_ 0).S).getD 5 0),qaa ((qad (ab.at_ 0).S).getD 6 0),qaa ((qad (ab.at_ 0).S).getD 7 0),qaa ((qad (ab.at_ 0).S).getD 8 0),qaa ((qad (ab.at_ 0).S).getD 9 0),qaa ((qad (ab.at_ 0).S).getD 10 0),qaa ((qad (ab.at_ 0).S).getD 11 0),qaa ((qad (ab.at_ 0).S).getD 12 0),qaa ((qad (ab.at_ 0).S).getD 13 0),qaa ((qad (ab.at_ 0).S).getD 14 0),qaa ((qad (ab.at_ 0).S).getD 15 0),.slice aj.A aj.l aj.c,.map bn],true⟩] [(7,.p 0 0),(9,.v (.bool (decide (v ≥ 0)))),(10,.p 1 0),(14,.v (.slice (some ⟨af,0,none⟩) ((lst (T.at_ 2)).length) ai)),(15,.v (.int .i32 (((lst (T.at_ 2)).length:Nat):Int))),(16,.v (.int .i32 ((ag:Nat):Int)))] P' fq a_ w_) ?_ ?_
    ·
     refine wp_seq ?_
     refine qbT [(7,.p 0 0),(9,.v (.bool (decide (v ≥ 0)))),(10,.p 1 0),(14,.v (.slice (some ⟨af,0,none⟩) ((lst (T.at_ 2)).length) ai)),(15,.v (.int .i32 (((lst (T.at_ 2)).length:Nat):Int))),(16,.v (.int .i32 ((ag:Nat):Int))),(18,.p 3 0),(185,.v (.bool (decide (v ≥ 0))))] dR fun _ aF=>qac ?_
     clear dR
     refine qax aF.env_ (b:=decide (v ≥ 0)) kz (fun aG=>?_) (fun aG=>?_)
     ·
      have dS:=aF.cast (t:=((uv ab.U.length) ++ (qcm ab.U)) ++ fq) (by rw [if_pos aG])
      clear aF
      refine qaq [0,1,2,3,4] kz ?_
      refine qc4 [0] [1,2,3,4] [(7,.p 0 0),(9,.v (.bool (decide (v ≥ 0)))),(10,.p 1 0),(14,.v (.slice (some ⟨af,0,none⟩) ((lst (T.at_ 2)).length) ai)),(15,.v (.int .i32 (((lst (T.at_ 2)).length:Nat):Int))),(16,.v (.int .i32 ((ag:Nat):Int))),(186,.p 3 0)] dS fun _ dT=>?_
      clear dS
      refine qan (qgi (d:=187) dT (qj9 ab.U e84_U (qeB e84r) _) (fun _=>MvF.tags _ _) Tryz.call101 fun eE gK _ _ dU dV=>?_)
      clear dT
      refine qc4 [2,3] [4] [(7,.p 0 0),(9,.v (.bool (decide (v ≥ 0)))),(10,.p 1 0),(14,.v (.slice (some ⟨af,0,none⟩) ((lst (T.at_ 2)).length) ai)),(15,.v (.int .i32 (((lst (T.at_ 2)).length:Nat):Int))),(16,.v (.int .i32 ((ag:Nat):Int))),(187,.v (.agg #[.map eE])),(189,.p 3 17)] dV fun _ dW=>?_
      clear dV
      refine qan (qd4 [⟨bv,0,[.int .i16 v,.int .i32 (IntKind.i32.wrap (T.at_ 0).N),.int .i16 (IntKind.i16.wrap (T.at_ 1).N),.slice none 0 0,.map none],true⟩,qbm af 18 (.agg #[.int .u8 0,.int .u8 0,.int .u8 0,.int .u8 0,.int .u8 0,.int .u8 0,.int .u8 0,.int .u8 0,.int .u8 0,.int .u8 0,.int .u8 0,.int .u8 0,.int .u8 0,.int .u8 0,.int .u8 0,.int .u8 0,.slice none 0 0,.map none]) ((lst (T.at_ 2)).length) (ag + 1),⟨af,ag * 18,[qaa ((qad (ab.at_ 0).S).getD 0 0),qaa ((qad (ab.at_ 0).S).getD 1 0),qaa ((qad (ab.at_ 0).S).getD 2 0),qaa ((qad (ab.at_ 0).S).getD 3 0),qaa ((qad (ab.at_ 0).S).getD 4 0),qaa ((qad (ab.at_ 0).S).getD 5 0),qaa ((qad (ab.at_ 0).S).getD 6 0),qaa ((qad (ab.at_ 0).S).getD 7 0),qaa ((qad (ab.at_ 0).S).getD 8 0),qaa ((qad (ab.at_ 0).S).getD 9 0),qaa ((qad (ab.at_ 0).S).getD 10 0),qaa ((qad (ab.at_ 0).S).getD 11 0),qaa ((qad (ab.at_ 0).S).getD 12 0),qaa ((qad (ab.at_ 0).S).getD 13 0),qaa ((qad (ab.at_ 0).S).getD 14 0),qaa ((qad (ab.at_ 0).S).getD 15 0),.slice aj.A aj.l aj.c,.map eE],true⟩] 2 dW fun _ dX=>?_)
      clear dW
      refine qah ?_
      have fT:=dX.pk (env':=[(7,.p 0 0),(9,.v (.bool (decide (v ≥ 0)))),(10,.p 1 0),(14,.v (.slice (some ⟨af,0,none⟩) ((lst (T.at_ 2)).length) ai)),(15,.v (.int .i32 (((lst (T.at_ 2)).length:Nat):Int))),(16,.v (.int .i32 ((ag:Nat):Int)))])
      clear dX
      refine qac ?_
      exact ⟨eE,ab.U,_,fun w F h_=>⟨(dU _ _ h_).1,⟨(dU _ _ h_).2,e84_U.2.1,e84_U.2.2⟩,⟨fun _=>rfl,(fun e_=>by rw [aG] at e_; cases e_)⟩⟩,fT.pk (env':=[(7,.p 0 0),(9,.v (.bool (decide (v ≥ 0)))),(10,.p 1 0),(14,.v (.slice (some ⟨af,0,none⟩) ((lst (T.at_ 2)).length) ai)),(15,.v (.int .i32 (((lst (T.at_ 2)).length:Nat):Int))),(16,.v (.int .i32 ((ag:Nat):Int)))])⟩
     have dY:=aF.cast (t:=[] ++ fq) (by rw [if_neg (by rw [aG]; decide)])
     clear aF
     have fU:=dY.cast (t:=fq) rfl
     clear dY
     refine wp_skip (qac ?_)
     exact ⟨none,[],_,fun w F h_=>⟨h_,⟨MapR.nil _ _,Nat.zero_le _,fun _ h=>by cases h⟩,⟨(fun e_=>by rw [aG] at e_; cases e_),fun _=>rfl⟩⟩,fU.pk (env':=[(7,.p 0 0),(9,.v (.bool (decide (v ≥ 0)))),(10,.p 1 0),(14,.v (.slice (some ⟨af,0,none⟩) ((lst (T.at_ 2)).length) ai)),(15,.v (.int .i32 (((lst (T.at_ 2)).length:Nat):Int))),(16,.v (.int .i32 ((ag:Nat):Int)))])⟩
    rintro _ _ ⟨bn,aL,gL,av,dZ⟩
    refine qas ?_
    refine qac ?_
    refine qbT [(7,.p 0 0),(9,.v (.bool (decide (v ≥ 0)))),(10,.p 1 0),(14,.v (.slice (some ⟨af,0,none⟩) ((lst (T.at_ 2)).length) ai)),(15,.v (.int .i32 (((lst (T.at_ 2)).length:Nat):Int))),(16,.v (.int .i32 (IntKind.i32.wrap (((ag:Nat):Int) + 1))))] dZ fun _ d5=>?_
    clear dZ
    refine qac ?_
    have fV:=(d5.envEq (env':=[(7,.p 0 0),(9,.v (.bool (decide (v ≥ 0)))),(10,.p 1 0),(14,.v (.slice (some ⟨af,0,none⟩) ((lst (T.at_ 2)).length) ai)),(15,.v (.int .i32 (((lst (T.at_ 2)).length:Nat):Int))),(16,.v (.int .i32 ((ag + 1:Nat):Int)))]) (by rw [qgl (by have:=e26_2; omega)])).pk (env':=[(7,.p 0 0),(9,.v (.bool (decide (v ≥ 0)))),(10,.p 1 0),(14,.v (.slice (some ⟨af,0,none⟩) ((lst (T.at_ 2)).length) ai)),(15,.v (.int .i32 (((lst (T.at_ 2)).length:Nat):Int))),(16,.v (.int .i32 ((ag + 1:Nat):Int)))])
    clear d5
    exact (RS.thing (tb:=[⟨bv,0,[.int .i16 v,.int .i32 (IntKind.i32.wrap (T.at_ 0).N),.int .i16 (IntKind.i16.wrap (T.at_ 1).N),.slice none 0 0,.map none],true⟩]) (z:=.agg #[.int .u8 0,.int .u8 0,.int .u8 0,.int .u8 0,.int .u8 0,.int .u8 0,.int .u8 0,.int .u8 0,.int .u8 0,.int .u8 0,.int .u8 0,.int .u8 0,.int .u8 0,.int .u8 0,.int .u8 0,.int .u8 0,.slice none 0 0,.map none]) (D:=(dvP bn aL [dvO none (qad (ab.at_ 0).S) 0,aj])) (fV.cast fr) hg_g65 ew qa1 bq rfl (fun w F h_=>⟨(fm _ _ (aQ _ _ (av _ _ h_).1).1).1,(fm _ _ (aQ _ _ (av _ _ h_).1).1).2,⟨(qcQ _),((aQ _ _ (av _ _ h_).1).2.1),(av _ _ h_).2.1.1,(av _ _ h_).2.1.2.1,(av _ _ h_).2.1.2.2,trivial⟩,⟨(rfl),((aQ _ _ (av _ _ h_).1).2.2),(av _ _ h_).2.2,trivial⟩⟩) kz)
   refine wp_seq ?_
   refine wp_seq ?_
   refine qbT [(7,.p 0 0),(9,.v (.bool (decide (v ≥ 0)))),(10,.p 1 0),(14,.v (.slice (some ⟨af,0,none⟩) ((lst (T.at_ 2)).length) ai)),(15,.v (.int .i32 (((lst (T.at_ 2)).length:Nat):Int))),(16,.v (.int .i32 (((lst (T.at_ 2)).length:Nat):Int))),(78,.v (.bool (decide ((((lst (T.at_ 2)).length:Nat):Int) < (((lst (T.at_ 2)).length:Nat):Int)))))] fk fun _ d6=>qac ?_
   clear fk
   refine qat d6.env_ (b:=decide ((((lst (T.at_ 2)).length:Nat):Int) < (((lst (T.at_ 2)).length:Nat):Int))) kz (decide_eq_false (by omega)) ?_
   refine wp_exit ?_
   refine qaz ?_
   refine qaz ?_
   refine qaT ?_
   refine qac ?_
   obtain ⟨gq,fW⟩:=RS.listEnd (tb:=[⟨bv,0,[.int .i16 v,.int .i32 (IntKind.i32.wrap (T.at_ 0).N),.int .i16 (IntKind.i16.wrap (T.at_ 1).N),.slice none 0 0,.map none],true⟩]) (c:=ai) (d6.pk (env':=[(7,.p 0 0),(9,.v (.bool (decide (v ≥ 0)))),(10,.p 1 0),(14,.v (.slice (some ⟨af,0,none⟩) ((lst (T.at_ 2)).length) ai))])) hg_g65 qa1 bq hcap_g65 (by have:=e26_2; omega) hn_g65 kz
   exact ⟨dvL (some ⟨af,0,none⟩) (lst (T.at_ 2)).length ai gq,_,fun w F h_=>⟨h_.1,⟨h_.2.1,Nat.le_trans e26_2 (by decide),h_.2.2.1⟩,⟨rfl,h_.2.2.2⟩⟩,fW⟩
  refine wp_skip ?_
  refine qac ?_
  refine wp_seq ?_
  refine qbT [(7,.p 0 0),(9,.v (.bool (decide (v ≥ 0)))),(10,.p 1 0),(14,.v (.slice none 0 0)),(15,.v (.int .i32 (((lst (T.at_ 2)).length:Nat):Int))),(16,.v (.int .i32 0))] aR fun _ d7=>?_
  clear aR
  refine qac ?_
  refine wp_block ?_
  refine qfc ?_
  refine wp_seq ?_
  refine wp_seq ?_
  refine qbT [(7,.p 0 0),(9,.v (.bool (decide (v ≥ 0)))),(10,.p 1 0),(14,.v (.slice none 0 0)),(15,.v (.int .i32 (((lst (T.at_ 2)).length:Nat):Int))),(16,.v (.int .i32 0)),(78,.v (.bool (decide (0 < (((lst (T.at_ 2)).length:Nat):Int)))))] d7 fun _ d8=>qac ?_
  clear d7
  refine qat d8.env_ (b:=decide (0 < (((lst (T.at_ 2)).length:Nat):Int))) kz (decide_eq_false (by have h_:=of_decide_eq_false bi; omega)) ?_
  refine wp_exit ?_
  refine qaz ?_
  refine qaz ?_
  refine qaT ?_
  refine qac ?_
  have hz_:(lst (T.at_ 2)).length = 0:=by have h_:=of_decide_eq_false bi; omega
  exact ⟨dvL none 0 0 (fun _=>dv0),_,fun w F h_=>⟨h_,⟨Slots.nil _ _ _ _,Nat.zero_le _,fun _ h=>absurd h (Nat.not_lt_zero _)⟩,⟨hz_.symm,fun _ h=>absurd h (Nat.not_lt_zero _)⟩⟩,(d8.cast (t:=bp) (by rw [List.eq_nil_of_length_eq_zero hz_]; rfl)).pk (env':=[(7,.p 0 0),(9,.v (.bool (decide (v ≥ 0)))),(10,.p 1 0),(14,.v (.slice none 0 0))])⟩
 rintro _ _ ⟨ar,gM,fX,fY⟩
 refine wp_seq ?_
 refine qbT [(7,.p 0 0),(9,.v (.bool (decide (v ≥ 0)))),(10,.p 1 0),(13,.v (.slice ar.A ar.l ar.c))] fY fun _ d9=>?_
 clear fY
 refine qac ?_
 refine qeD [⟨bv,0,[.int .i16 v,.int .i32 (IntKind.i32.wrap (T.at_ 0).N),.int .i16 (IntKind.i16.wrap (T.at_ 1).N),.slice ar.A ar.l ar.c,.map none],true⟩] 0 [(7,.p 0 0),(9,.v (.bool (decide (v ≥ 0)))),(10,.p 1 0)] d9 fun _ _ ea=>?_
 clear d9
 refine qac ?_
 refine wp_seq ?_
 have eb:=ea.cast eH
 clear ea
 refine qfe (Mid:=fun a_ w_=>∃ (bo:Option Nat) (aM:List (Int × Bs)) (P':qcR),(∀ w F,P' w F → gM w F ∧ (MapR w F bo aM ∧ aM.length ≤ 1000000 ∧ ∀ x ∈ aM,x.2.length < 4294967296) ∧ ((decide (v ≥ 0)) = true → aM = T.U) ∧ ((decide (v ≥ 0)) = false → aM = [])) ∧ RS w (fun b o=>b = bv ∧ o < 5) F 201 bh [⟨bv,0,[.int .i16 v,.int .i32 (IntKind.i32.wrap (T.at_ 0).N),.int .i16 (IntKind.i16.wrap (T.at_ 1).N),.slice ar.A ar.l ar.c,.map bo],true⟩] [(7,.p 0 0)] P' ([]:Bs) a_ w_) ?_ ?_
 ·
  refine wp_seq ?_
  refine qbT [(7,.p 0 0),(10,.p 1 0),(195,.v (.bool (decide (v ≥ 0))))] eb fun _ aH=>qac ?_
  clear eb
  refine qax aH.env_ (b:=decide (v ≥ 0)) kz (fun aI=>?_) (fun aI=>?_)
  ·
   have ec:=aH.cast (t:=((uv T.U.length) ++ (qcm T.U)) ++ ([]:Bs)) (by rw [if_pos aI])
   clear aH
   refine qaq [0,1,2,3,4] kz ?_
   refine qc4 [0] [1,2,3,4] [(7,.p 0 0),(196,.p 1 0)] ec fun _ ee=>?_
   clear ec
   refine qan (qgi (d:=197) ee (qj9 T.U e26_U (qeB e26r) _) (fun _=>MvF.tags _ _) Tryz.call101 fun eF gN _ _ ef eg=>?_)
   clear ee
   refine qc4 [2,3] [4] [(7,.p 0 0),(197,.v (.agg #[.map eF])),(199,.p 1 4)] eg fun _ eh=>?_
   clear eg
   refine qan (qd4 [⟨bv,0,[.int .i16 v,.int .i32 (IntKind.i32.wrap (T.at_ 0).N),.int .i16 (IntKind.i16.wrap (T.at_ 1).N),.slice ar.A ar.l ar.c,.map eF],true⟩] 0 eh fun _ ei=>?_)
   clear eh
   refine qah ?_
   have fZ:=ei.pk (env':=[(7,.p 0 0)])
   clear ei
   refine qac ?_
   exact ⟨eF,T.U,_,fun w F h_=>⟨(ef _ _ h_).1,⟨(ef _ _ h_).2,e26_U.2.1,e26_U.2.2⟩,⟨fun _=>rfl,(fun e_=>by rw [aI] at e_; cases e_)⟩⟩,fZ.pk (env':=[(7,.p 0 0)])⟩
  have ej:=aH.cast (t:=[] ++ ([]:Bs)) (by rw [if_neg (by rw [aI]; decide)])
  clear aH
  have f5:=ej.cast (t:=([]:Bs)) rfl
  clear ej
  refine wp_skip (qac ?_)
  exact ⟨none,[],_,fun w F h_=>⟨h_,⟨MapR.nil _ _,Nat.zero_le _,fun _ h=>by cases h⟩,⟨(fun e_=>by rw [aI] at e_; cases e_),fun _=>rfl⟩⟩,f5.pk (env':=[(7,.p 0 0)])⟩
 rintro _ _ ⟨bo,aM,gO,ax,ek⟩
 refine qac ?_
 refine wp_seq ?_
 refine qaq [0,1] kz (qan (qhs (d:=200) ek qjx Tryz.call96 fun _ em=>?_))
 clear ek
 refine qc4 [1] [] [(6,.v (.nilIface))] em fun _ eo=>qah ?_
 clear em
 refine qac ?_
 refine wp_ret ?_
 obtain ⟨A_,m_,c_,hW_,hr_,hE_,hP_⟩:=eo.open_
 refine qaS hE_ hW_.cells (v:=.nilIface) kz ?_
 have h_:=eo.mv.mono qc1 hP_
 refine ⟨(dvP bo aM [dvN (IntKind.i32.wrap (T.at_ 0).N),dvN (IntKind.i16.wrap (T.at_ 1).N),ar]),rfl,Str.of hW_ 1 rfl,?_,?_,hW_.step⟩
 ·unfold qbg
  exact ⟨(trivial),(trivial),((fX _ _ (ax _ _ h_).1).2.1),(ax _ _ h_).2.1.1,(ax _ _ h_).2.1.2.1,(ax _ _ h_).2.1.2.2,trivial⟩
 unfold qa9
 exact ⟨(rfl),(rfl),((fX _ _ (ax _ _ h_).1).2.2),(ax _ _ h_).2.2,trivial⟩
theorem qb7:qgf qbg:=by
 intro w w' F F' M d hs hM hF h
 unfold qbg at h ⊢
 obtain ⟨g0,g1,⟨g2,g2l,g2e⟩,t1,t2,t3,_⟩:=h
 exact ⟨g0,g1,⟨g2.move hs hM hF,g2l,fun i hi=>qa1 _ hs hM hF (g2e i hi)⟩,t1.move hs hM hF,t2,t3,trivial⟩
end Go.Proofs.YtfljkhecngpcmaaGreatDoor.ME
namespace Go.Proofs.YtfljkhecngpcmaaGreatDoor.ME
open Go
open Go.RowKit
open Go.ChangeMaps (setBlock)
set_option linter.unusedVariables false
set_option linter.unusedSimpArgs false
set_option maxRecDepth 20000
abbrev cloV (fc:Nat) (cap:Value):Value:=.func (.func fc) #[] #[cap]
theorem qlx {fc:Nat} {cap:Value} {m:Option Nat} {u:List (Int × Bs)} {b o:Nat} {w:World} {F M:Nat → Nat → Prop} (hcf:∀ args w,(callFunc fc args).run Tryz.prog w = .ok (.enter fc args) w) (I:World → Nat → World → Prop) (hat:AtF w F b o [.map m]) (hm:MapR w F m u) (hMF:∀ b o,F b o → ¬ M b o) (hMlt:∀ b o,M b o → b < w.heap.size)
  (hI0:∀ w7,Step w w7 Nil → I w7 0 w7) (hIs:∀ w7 j w8,I w7 j w8 → Step w7 w8 M)
  (hI1:∀ w7,Step w w7 Nil → ∀ j k x w8 Ax cx,I w7 j w8 → u[j]? = some (k,x) → (0 ≤ k ∧ k < 4294967296) → Octs w8 (fun b o=>F b o ∧ b < w7.heap.size) Ax cx x → Calls Tryz.prog fc [.int .u32 k,.slice Ax x.length cx,cap].toArray w8 (fun e w9=>e = .returned (.tuple #[]) ∧ I w7 (j + 1) w9)) (hul:u.length ≤ 1000000) :
  Calls Tryz.prog 64 [.pointer (some ⟨b,o,none⟩),cloV fc cap].toArray w (fun e w'=>e = .returned (.tuple #[]) ∧ ∃ w7,Step w w7 Nil ∧ I w7 u.length w'):=by
 refine enter (n:=53) Tryz.func64 rfl Tryz.ntmps64 kz fun a hE=>?_
 have hW:WOk w Nil w [⟨b,o,[.map m],false⟩] []:=(WOk.start w Nil).start1 hat rfl rfl
 refine wp_seq (wp_seq ?_)
 refine qaq [0,1,2,3,4,5] kz ?_
 refine qbW [0,1,2,3] [4,5] [0,1,11] hW (EnvOk.ptr0 (cs:=[.map m]) (r:=false) hE) (env':=[(0,.p 0 0),(1,.v (cloV fc cap)),(11,.v (.map m))]) kz rfl fun a1 hE1=>?_
 refine qan (qgG (t:=81) (kt:=64) (et:=22) hE1 (m:=m) (d:=12) kz kz hm fun a2 hE2=>?_)
 refine qbW [5] [] [0,1,13] hW hE2 (env':=[(0,.p 0 0),(1,.v (cloV fc cap)),(13,.v (.bool (((u.length:Nat):Int) == 0)))]) kz rfl fun a3 hE3=>qah (qac ?_)
 refine qax hE3 (b:=((u.length:Nat):Int) == 0) kz (fun hb=>?_) (fun hb=>?_)
 ·-- none
  have hu:u = []:=List.eq_nil_of_length_eq_zero (by have:=eq_of_beq hb; omega)
  subst hu
  refine wp_ret (qap ?_)
  exact qaS hE3 hW.cells (v:=.tuple #[]) kz ⟨rfl,w,Step.refl _ _,hI0 w (Step.refl _ _)⟩
 have hu0:0 < u.length:=by have:=ne_of_beq_false hb; omega
 cases m with
 | none=>rw [hm.none_ rfl] at hu0; cases hu0
 | some mb =>
 obtain ⟨hFm,es,clk,hes,hperm,hborn,hnod,hcont⟩:=hm.some_ mb rfl
 have hmlt:mb < w.heap.size:=(Array.getElem?_eq_some_iff.1 hes).1
 have hesz:es.size = u.length:=MapR.size (w:=w) (F:=F) hperm
 refine wp_skip (qac ?_)
 refine qaf [0,1,2,3,4,5,6,7] kz ?_
 refine qbW [0,1,2,3] [4,5,6,7] [0,1,17] hW hE3 (env':=[(0,.p 0 0),(1,.v (cloV fc cap)),(17,.v (.map (some mb)))]) kz rfl fun a4 hE4=>?_
 refine qan (qgG (t:=81) (kt:=64) (et:=22) hE4 (m:=some mb) (d:=18) kz kz hm fun a5 hE5=>?_)
 refine qan (qid (e:=64) (size:=1) (bytes:=4) (j:=u.length) (t:=147) (d:=19) hW hE5 (p:=0) (q:=((u.length:Nat):Int)) kz kz rfl rfl (by omega) fun kr a6 w1 hkr hkr0 hF1 hW1 hE6=>?_)
 refine qan (qaZ hW1 hE6 (d:=4) (cs:=[.slice none 0 0]) kz fun kb a7 w2 hkb hkb0 hF2 hW2 hE7=>?_)
 refine qan (qav hW2 hE7 (oi:=1) (cs:=[.slice (some ⟨kr,0,none⟩) 0 u.length]) kz fun w3 hF3 hW3 hE8=>qah (qac ?_))
 refine wp_seq (qaf [0,1,2,3,4] kz ?_)
 refine qbW [0,1,2,3] [4] [0,1,4,23] hW3 hE8 (env':=[(0,.p 0 0),(1,.v (cloV fc cap)),(4,.p 1 0),(23,.v (.map (some mb)))]) kz rfl fun a8 hE9=>?_
 have hes3:=hW3.step.heap (fun o h=>h) hes
 refine qan (qig (t:=81) (kt:=64) (et:=22) (d:=24) (r:=mb) hE9 kz kz hes3 fun a9 hE10=>qah (qac ?_))
 have hW4:=hW3.next_nil (Step.alloc w3 (.mapIter (some mb) clk #[] clk))
 have hr4:(w3.alloc (.mapIter (some mb) clk #[] clk)).heap[w3.heap.size]? = some (.mapIter (some mb) clk #[] clk):=qc2 _ _
 have hE11:=hE10.pick (ks:=[0,1,4,24]) (env':=[(0,.p 0 0),(1,.v (cloV fc cap)),(4,.p 1 0),(24,.v (.pointer (some ⟨w3.heap.size,0,none⟩)))]) kz
 have hrlt:w3.heap.size < (w3.alloc (.mapIter (some mb) clk #[] clk)).heap.size:=by rw [qdn]; omega
 have hr0:w.heap.size ≤ w3.heap.size:=hW3.step.size
 have hkbr:kb ≠ w3.heap.size:=by have:=hW3.live 1 _ rfl; show ¬ _; intro e; rw [← e] at this; exact absurd this (Nat.lt_irrefl _)
 have hkrr:kr ≠ w3.heap.size:=by have:=qb8 (hW3.own 0 _ rfl) (g:=kr) rfl; omega
 generalize hR:w3.heap.size = R at hr4 hE11 hrlt hkbr hkrr
 generalize hw4:w3.alloc (.mapIter (some mb) clk #[] clk) = w4 at hW4 hr4 hrlt
 refine wp_block ?_
 refine wp_loop_ghost (fun q a_ w_=>∃ (vis:List MapEntry) (seen:Array Nat) (K:Option Addr) (kc c0:Nat),q = (leftOf es seen).size ∧ Vis es.toList vis seen ∧ vis.length + (leftOf es seen).size ≤ es.size ∧
   EnvOk 53 [⟨b,o,[.map (some mb)],false⟩,⟨kb,0,[.slice K vis.length kc],true⟩] [(0,.p 0 0),(1,.v (cloV fc cap)),(4,.p 1 0),(24,.v (.pointer (some ⟨R,0,none⟩)))] a_ ∧
   WOk w Nil w_ [⟨b,o,[.map (some mb)],false⟩,⟨kb,0,[.slice K vis.length kc],true⟩] [⟨K,kc,64,1,vis.length,(vis.map fun e=>kOf e.key).map (Value.int .u32)⟩] ∧
   w_.heap[R]? = some (.mapIter (some mb) clk seen c0) ∧ clk ≤ c0 ∧ K.map (·.block) ≠ some R) (leftOf es #[]).size
  ⟨[],#[],some ⟨kr,0,none⟩,u.length,clk,rfl,Vis.nil _,by rw [List.length_nil,Nat.zero_add]; exact Array.size_filter_le,by rw [← hw4] at *; exact hE11,hW4,hr4,Nat.le_refl _,by simpa using hkrr⟩ ?_
 rintro q a10 w5 ⟨vis,seen,K,kc,c0,rfl,hv,hvl,hE12,hW5,hr5,hc0,hKR⟩
 have hes5:=hW5.step.heap (fun o h=>h) hes
 refine qaf [0,1] kz ?_
 refine qan (qiX hE12 (d:=25) (r:=R) kz hr5 hes5 hborn hc0 (fun h0 a11 hE13=>?_) (fun e he w6 hw6 a11 hE13=>?_))
 ·-- behind it
  refine qbW [1] [] [0,1,4,26] hW5 hE13 (env':=[(0,.p 0 0),(1,.v (cloV fc cap)),(4,.p 1 0),(26,.v (.bool false))]) kz rfl fun a12 hE14=>qah (qac (wp_seq ?_))
  refine qax hE14 (b:=false) kz (fun hb=>by cases hb) (fun _=>?_)
  refine wp_exit (qaz (qaz (qaT (qac ?_))))
  have hpe:=hv.all h0 hnod
  have hvu:vis.length = u.length:=by rw [hpe.length_eq,Array.length_toList,hesz]
  have hkp:(vis.map fun e=>kOf e.key).Perm (u.map Prod.fst):=by
   have h1:=(hpe.map fun e=>kOf e.key)
   have h2:=hperm.map kOf
   rw [List.map_map,List.map_map] at h2
   exact h1.trans h2
  have hkl:(vis.map fun e=>kOf e.key).length = vis.length:=by simp
  generalize (vis.map fun e=>kOf e.key) = ks at hkp hkl hW5
  have hown4:w5.ownsRow 0 64 1 (.slice K vis.length kc) vis.length (ks.map (Value.int .u32)):=hW5.own 0 _ rfl
  obtain ⟨g,rfl⟩:=qca hown4 (by omega)
  have hown5:w5.ownsRow 0 64 1 (.slice (some ⟨g,0,none⟩) vis.length kc) vis.length (ks.map (Value.int .u32)):=hown4
  have hg0:w.heap.size ≤ g:=by
   rcases hW5.ownM 0 _ rfl g rfl with h | h
   ·exact h
   exact (h 0).elim
  refine qaf [0,1,2,3] kz ?_
  refine qbW [0,1] [2,3] [0,1,4,34] hW5 hE14 (env':=[(0,.p 0 0),(1,.v (cloV fc cap)),(4,.p 1 0),(34,.v (.iface 147 (.slice (some ⟨g,0,none⟩) vis.length kc)))]) kz rfl fun a13 hE15=>?_
  refine qan (qew hE15 (v:=.func (.func 105) #[] #[.pointer (some ⟨kb,0,none⟩)]) (d:=35) kz fun a14 hE16=>?_)
  have hS:=Tryz.sortKeys g kc kb ks.toArray (by simp; omega) (by simp; omega) w5 (by simp only [List.size_toArray,hkl]; exact hW5.cells 1 _ rfl 0 _ rfl) (fun e=>hW5.rtb 0 _ rfl g rfl 1 _ rfl e) (qgI hkl hown5) (qb8 (hW5.own 0 _ rfl) (g:=g) rfl) (hW5.live 1 _ rfl)
  rw [List.size_toArray,hkl] at hS
  refine qan (qam hE16 (f:=104) (vs:=[.iface 147 (.slice (some ⟨g,0,none⟩) vis.length kc),.func (.func 105) #[] #[.pointer (some ⟨kb,0,none⟩)]]) (d:=36) kz Tryz.call104 hS ?_)
  rintro e_ w7 ⟨rfl,d',nd,os,hd1,hd2,hd3,rfl⟩
  refine ⟨_,rfl,fun a15 hE17=>qah (qac ?_)⟩
  have hus:d'.toList = u.map Prod.fst:=qiY hd2 (by rw [hd1]; exact hd3) hkp (List.pairwise_map.2 hm.sorted)
  obtain ⟨hst7,hown7⟩:=qjY (n:=nd) (os:=os) hkl hown5 (by rw [hd1,hkl])
  rw [hus] at hown7
  generalize Sort.grow (Sort.putRow (Value.int .u32) (Sort.ahead w5 nd) g 0 d') os = w7 at hst7 hown7
  have hW7:WOk w Nil w7 [⟨b,o,[.map (some mb)],false⟩,⟨kb,0,[.slice (some ⟨g,0,none⟩) vis.length kc],true⟩] [⟨some ⟨g,0,none⟩,kc,64,1,vis.length,(u.map Prod.fst).map (Value.int .u32)⟩] :=
   hW5.grow (k:=0) (r':=⟨some ⟨g,0,none⟩,kc,64,1,vis.length,(u.map Prod.fst).map (Value.int .u32)⟩) rfl (hst7.mono fun b' _ _ hb'=>by rw [hb']; rfl) hown7 (fun g' h=>.inl h)
  refine qaf [0,1,2] kz ?_
  refine qbW [0,1,2] [] [0,1,37,38,39] hW7 hE17 (env':=[(0,.p 0 0),(1,.v (cloV fc cap)),(37,.v (.slice (some ⟨g,0,none⟩) vis.length kc)),(38,.v (.int .i64 ((vis.length:Nat):Int))),(39,.v (.int .i64 0))]) kz rfl fun a16 hE18=>qah (qac ?_)
  have hE19:=EnvOk.cutTb 1 hE18 kz
  have hat7:=hat.move hW7.step nilM qbk
  have hm7:=hm.move hW7.step nilM qbk
  have hg7:g < w7.heap.size:=qb8 (hW7.own 0 _ rfl) (g:=g) rfl
  have hkeys:=qgI (by simpa using hvu.symm) hown7
  rw [hvu] at hE19
  refine wp_block ?_
  refine wp_loop_ghost (fun q a_ w_=>∃ (j:Nat),q = u.length - j ∧ j ≤ u.length ∧ EnvOk 53 [⟨b,o,[.map (some mb)],false⟩] [(0,.p 0 0),(1,.v (cloV fc cap)),(37,.v (.slice (some ⟨g,0,none⟩) u.length kc)),(38,.v (.int .i64 ((u.length:Nat):Int))),(39,.v (.int .i64 ((j:Nat):Int)))] a_ ∧
   I w7 j w_) u.length
   ⟨0,by omega,by omega,hE19,hI0 w7 hW7.step⟩ ?_
  rintro q a17 w8 ⟨j,rfl,hj,hE20,hD⟩
  have hS8:=hIs w7 j w8 hD
  have hat8:=hat7.move hS8 (fun b o hf _=>hMF b o hf) qbk
  have hm8:MapR w8 (fun b' o'=>F b' o' ∧ b' < w7.heap.size) (some mb) u:=hm7.move hS8 (fun b o hf _=>hMF b o hf) (fun b' o' hf hl=>⟨hf,hl⟩)
  have hW8:WOk w8 Nil w8 [⟨b,o,[.map (some mb)],false⟩] []:=(WOk.start w8 Nil).start1 hat8 rfl rfl
  refine qaf [0] kz (qbW [0] [] [0,1,37,38,39,40] hW8 hE20 (env':=[(0,.p 0 0),(1,.v (cloV fc cap)),(37,.v (.slice (some ⟨g,0,none⟩) u.length kc)),(38,.v (.int .i64 ((u.length:Nat):Int))),(39,.v (.int .i64 ((j:Nat):Int))),(40,.v (.bool (decide (((j:Nat):Int) < ((u.length:Nat):Int)))))]) kz rfl fun a18 hE21=>qah (qac (wp_seq ?_)))
  refine qax hE21 (b:=decide (((j:Nat):Int) < ((u.length:Nat):Int))) kz (fun hc=>?_) (fun hc=>?_)
  ·have hlt:j < u.length:=by have:=of_decide_eq_true hc; omega
   refine wp_skip (qac (wp_seq (wp_block ?_)))
   obtain ⟨⟨k,x⟩,hu⟩:∃ y,u[j]? = some y:=⟨_,List.getElem?_eq_getElem hlt⟩
   have hmem:=List.mem_of_getElem? hu
   have hkr:=hm.range _ hmem
   have hcell:At w8 g (0 + j * 1) [.int .u32 k]:=by
    intro i v hi
    have hi0:i = 0:=by
     have:=(List.getElem?_eq_some_iff.1 hi).1
     simp at this; omega
    subst hi0
    simp only [List.getElem?_cons_zero,Option.some.injEq] at hi
    subst hi
    refine hS8.cell (fun hbm=>?_) ?_
    ·have:=hMlt _ _ hbm; omega
    have h1:=(hkeys j (by simpa using hlt)).1
    have h2:(u.map Prod.fst).toArray[j]! = k:=by
     rw [getElem!_pos _ j (by simpa using hlt)]
     have:(u.map Prod.fst)[j]? = some k:=by rw [List.getElem?_map,hu]; rfl
     simpa using (List.getElem?_eq_some_iff.1 this).2
    rw [h2] at h1
    simpa using h1
   refine qaf [0,1,2] kz ?_
   refine qan (qaC hE21 (t:=147) (e:=64) (size:=1) (bytes:=4) (d:=41) (b:=g) (o:=0) (m:=u.length) (j:=j) kz kz rfl rfl hlt fun a19 hE22=>?_)
   refine qan (qa0 hE22 (t:=64) (d:=42) (cs:=[.int .u32 k]) (v:=.int .u32 k) kz kz hcell fun a20 hE23=>?_)
   refine qbW [2] [] [0,1,37,38,39,7] hW8 hE23 (env':=[(0,.p 0 0),(1,.v (cloV fc cap)),(37,.v (.slice (some ⟨g,0,none⟩) u.length kc)),(38,.v (.int .i64 ((u.length:Nat):Int))),(39,.v (.int .i64 ((j:Nat):Int))),(7,.v (.int .u32 k))]) kz rfl fun a21 hE24=>qah (qac ?_)
   refine qaq [0,1,2,3,4,5,6,7,8] kz ?_
   refine qbW [0,1,2,3,4,5,6] [7,8] [0,1,37,38,39,43,44,48,49] hW8 hE24 (env':=[(0,.p 0 0),(1,.v (cloV fc cap)),(37,.v (.slice (some ⟨g,0,none⟩) u.length kc)),(38,.v (.int .i64 ((u.length:Nat):Int))),(39,.v (.int .i64 ((j:Nat):Int))),(43,.v (cloV fc cap)),(44,.v (.int .u32 k)),(48,.v (.map (some mb))),(49,.v (.int .u32 k))]) kz rfl fun a22 hE25=>?_
   refine qan (qiV hE25 (t:=81) (kt:=64) (et:=22) (m:=some mb) (k:=k) (s:=x) (d:=50) kz kz kz hm8 hmem fun a23 Ax cx hox hE26=>?_)
   refine qan (qam hE26 (f:=fc) (vs:=[.int .u32 k,.slice Ax x.length cx,cap]) (d:=51) kz hcf (hI1 w7 hW7.step j k x w8 Ax cx hD hu hkr hox) ?_)
   rintro e_ w9 ⟨rfl,hD2⟩
   refine ⟨_,rfl,fun a24 hE27=>qah (qas (qac ?_))⟩
   have hS9:=hIs w7 (j + 1) w9 hD2
   have hat9:=hat7.move hS9 (fun b o hf _=>hMF b o hf) qbk
   have hW9:WOk w9 Nil w9 [⟨b,o,[.map (some mb)],false⟩] []:=(WOk.start w9 Nil).start1 hat9 rfl rfl
   refine qaq [0,1] kz (qbW [0,1] [] [0,1,37,38,39] hW9 hE27 (env':=[(0,.p 0 0),(1,.v (cloV fc cap)),(37,.v (.slice (some ⟨g,0,none⟩) u.length kc)),(38,.v (.int .i64 ((u.length:Nat):Int))),(39,.v (.int .i64 (IntKind.i64.wrap (((j:Nat):Int) + 1))))]) kz rfl fun a25 hE28=>qah (qac ?_))
   rw [qaX (by omega)] at hE28
   exact ⟨u.length - (j + 1),by omega,j + 1,rfl,by omega,hE28,hD2⟩
  obtain rfl:j = u.length:=by have:=of_decide_eq_false hc; omega
  refine wp_exit (qaz (qaz (qaT ?_)))
  exact qbV hE21 hW8.cells (v:=.tuple #[]) kz ⟨rfl,w7,hW7.step,hD⟩
 -- one more
 have hst6:Step w5 w6 Nil:=by
  rcases hw6 with rfl | rfl
  ·exact Step.refl _ _
  exact Step.drew _
 have hr6:w6.heap[R]? = some (.mapIter (some mb) clk seen c0):=hst6.heap (fun o h=>h) hr5
 have hW6:=hW5.next_nil hst6
 obtain ⟨hml,_⟩:=mem_left he
 obtain ⟨k,sx,Ax,cx,hk1,hk2,hk3,hk4⟩:=hcont e hml
 have hR6:R < w6.heap.size:=(Array.getElem?_eq_some_iff.1 hr6).1
 have hW7:WOk w Nil (setBlock w6 R (.mapIter (some mb) clk (seen.push e.born) clk)) [⟨b,o,[.map (some mb)],false⟩,⟨kb,0,[.slice K vis.length kc],true⟩] [⟨K,kc,64,1,vis.length,(vis.map fun e=>kOf e.key).map (Value.int .u32)⟩]:=by
  refine hW6.next (Step.setBlock w6 R _) (fun b' o' hb' hN=>by omega) (fun i ob hi j hj hN=>?_) (fun i q hi g' hg' o' hN=>?_)
  ·match i,hi with
   | 0,hi =>
    simp only [List.getElem?_cons_zero,Option.some.injEq] at hi; subst hi
    have:=World.lt_of_cell (hat 0 _ rfl).2
    simp only at hN; omega
   | 1,hi =>
    simp only [List.getElem?_cons_succ,List.getElem?_cons_zero,Option.some.injEq] at hi; subst hi
    exact hkbr hN
   | i + 2,hi=>simp at hi
  match i,hi with
  | 0,hi =>
   simp only [List.getElem?_cons_zero,Option.some.injEq] at hi; subst hi
   exact hKR (by rw [← hN]; exact hg')
  | i + 1,hi=>simp at hi
 have hr7:(setBlock w6 R (.mapIter (some mb) clk (seen.push e.born) clk)).heap[R]? = some (.mapIter (some mb) clk (seen.push e.born) clk):=qev hr6
 generalize hw7:setBlock w6 R (.mapIter (some mb) clk (seen.push e.born) clk) = w7 at hW7 hr7
 refine qbW [1] [] [0,1,4,24,26] hW7 hE13 (env':=[(0,.p 0 0),(1,.v (cloV fc cap)),(4,.p 1 0),(24,.v (.pointer (some ⟨R,0,none⟩))),(26,.v (.bool true))]) kz rfl fun a12 hE14=>qah (qac (wp_seq ?_))
 refine qax hE14 (b:=true) kz (fun _=>?_) (fun hb=>by cases hb)
 refine wp_skip (qac (wp_block ?_))
 have hes7:=hW7.step.heap (fun o h=>h) hes
 refine qaf [0,1,2] kz ?_
 refine qan (qih hE14 (d:=27) (r:=R) kz hr7 hes7 hml hnod fun a13 hE15=>?_)
 rw [hk1] at hE15
 refine qbW [1,2] [] [0,1,4,24,5] hW7 hE15 (env':=[(0,.p 0 0),(1,.v (cloV fc cap)),(4,.p 1 0),(24,.v (.pointer (some ⟨R,0,none⟩))),(5,.v (.int .u32 k))]) kz rfl fun a14 hE16=>qah (qac ?_)
 refine qaq [0,1,2,3,4] kz ?_
 refine qbW [0,1] [2,3,4] [0,1,4,24,29,30] hW7 hE16 (env':=[(0,.p 0 0),(1,.v (cloV fc cap)),(4,.p 1 0),(24,.v (.pointer (some ⟨R,0,none⟩))),(29,.v (.slice K vis.length kc)),(30,.v (.int .u32 k))]) kz rfl fun a15 hE17=>?_
 have hsh:=left_shrinks es seen e he
 refine qcH (t:=147) (e:=64) (size:=1) (bytes:=4) (len:=1) (cs:=[.int .u32 k]) (d1:=31) (d:=32) (k:=0) hW7 hE17 kz kz (fun _=>by kernel_rfl) rfl kz (by omega) fun K2 kc2 a16 w8 hF8 hW8 hE18=>?_
 obtain ⟨bl,hE18⟩:=hE18
 have hR7:R < w7.heap.size:=(Array.getElem?_eq_some_iff.1 hr7).1
 have hna:∀ {o'},¬ Act_ [⟨b,o,[.map (some mb)],false⟩,⟨kb,0,[.slice K vis.length kc],true⟩] [⟨K,kc,64,1,vis.length,(vis.map fun e=>kOf e.key).map (Value.int .u32)⟩] R o':=by
  rintro o' (⟨i,ob,hi,hrw,hb,_⟩ | ⟨i,q,hi,hq⟩)
  ·match i,hi with
   | 0,hi =>
    simp only [List.getElem?_cons_zero,Option.some.injEq] at hi; subst hi
    cases hrw
   | 1,hi =>
    simp only [List.getElem?_cons_succ,List.getElem?_cons_zero,Option.some.injEq] at hi; subst hi
    exact hkbr hb
   | i + 2,hi=>simp at hi
  match i,hi with
  | 0,hi =>
   simp only [List.getElem?_cons_zero,Option.some.injEq] at hi; subst hi
   exact hKR hq
  | i + 1,hi=>simp at hi
 have hK2:K2.map (·.block) ≠ some R:=fun hk=>by
  exact hF8.imm R 0 hR7 hna (.inr ⟨0,_,rfl,hk⟩)
 refine qan (qav hW8 hE18 (oi:=1) (cs:=[.slice K2 (vis.length + 1) kc2]) kz fun w9 hF9 hW9 hE19=>qah (qas (qac ?_)))
 have hr8:w9.heap[R]? = some (.mapIter (some mb) clk (seen.push e.born) clk) :=
  hF9.step.heap (fun o'=>hF8.imm R o' hR7 hna) (hF8.step.heap (fun o'=>hna) hr7)
 refine ⟨(leftOf es (seen.push e.born)).size,hsh,vis ++ [e],seen.push e.born,K2,kc2,clk,rfl,hv.push he,by rw [List.length_append,List.length_singleton]; omega,?_,?_,hr8,Nat.le_refl _,hK2⟩
 ·rw [List.length_append,List.length_singleton]
  exact hE19.pick (ks:=[0,1,4,24]) kz
 rw [List.length_append,List.length_singleton,List.map_append,List.map_append,List.map_cons,List.map_cons,hk1]
 exact hW9
end Go.Proofs.YtfljkhecngpcmaaGreatDoor.ME
namespace Go.Proofs.YtfljkhecngpcmaaGreatDoor.ME
open Go
open Go.RowKit
set_option linter.unusedVariables false
set_option linter.unusedSimpArgs false
set_option maxRecDepth 20000
section
variable {P:Program} {ops:Array Oper} {Q:Exit → Act → World → Prop} {n:Nat} {tb:Tb} {env:Env} {rs:List Rw} {w0:World} {M:Nat → Nat → Prop} {a:Act} {w:World}
theorem qd5 {i d j:Nat} {t e:TypeId} {size bytes:Nat} (z:Value) (cs:List Value) {N:Act → World → Prop} (hW:WOk w0 M w tb rs) (hE:EnvOk n tb env a)
  (K:∀ b a' w',b = w.heap.size → w0.heap.size ≤ b → Fr w tb rs w' (tb ++ [⟨b,0,cs,true⟩]) rs → WOk w0 M w' (tb ++ [⟨b,0,cs,true⟩]) rs → EnvOk n (tb ++ [⟨b,0,cs,true⟩]) ((d,.v (.slice (some ⟨b,0,none⟩) j j)) :: env) a' → N a' w')
  (h:qiP env ops n i = some (t,((j:Nat):Int),((j:Nat):Int),d):=by kernel_rfl) (ht:qcX P t = some (e,size,bytes):=by kernel_rfl) (hz:(P.info? e).bind (·.zero) = some z:=by kernel_rfl) (hcs:(madeCells z.cells (j * size)).toList = cs:=by kernel_rfl) (hb:Nat.ble (bytes * j) 1000000 = true:=by kernel_rfl):wpOp P ops Q i N a w:=by
 obtain ⟨ht',inf,z',hi,hz',hzs,hs1,rfl,hsz,hbp⟩:=qcq ht
 obtain ⟨op,ho,hd,kl,kc,hrun⟩:=qf2 (P:=P) (w:=w) hE h
 have hzz:z' = z:=by rw [hi] at hz; simp only [Option.bind_some,hz',Option.some.injEq] at hz; exact hz
 subst hzz
 have hb':=Nat.le_of_ble_eq_true hb
 have hjm:j ≤ 1000000:=by
  have:=Nat.le_mul_of_pos_left j hbp
  omega
 have hr:=run_make (P:=P) w t e inf z' ht' hi hz' kl kc (j:Int) (j:Int) (by omega) (Int.le_refl _) (by
  have:((inf.bytes * j:Nat):Int) ≤ 281474976710656:=by omega
  rwa [Int.natCast_mul] at this) (by omega)
 simp only [Int.toNat_natCast,hs1] at hr
 have hca:madeCells z'.cells (j * size) = cs.toArray:=by rw [← hcs]
 rw [hca] at hr
 refine qbi hE ho (fun o hop=>hrun o _ _ hop hr) ?_
 refine K w.heap.size _ _ rfl hW.step.size (Fr.alloc w tb rs _ cs true) (hW.alloc cs e) ?_
 exact (hE.put hd (.v (.slice (some ⟨w.heap.size,0,none⟩) j j)) trivial).grow _
end
structure TBox (w:World) (B eT:Nat) (A:Option Addr) (cp n:Nat) (x0 x1 x2 x3:Value) (xs:List Value):Prop where
 str:Str w B [x0,x1,x2,x3,.slice A n cp]
 own:w.ownsRow 0 eT 2 (.slice A n cp) n xs
 ne:A.map (·.block) ≠ some B
def TM (B:Nat) (A:Option Addr):Nat → Nat → Prop:=fun b o=>(b = B ∧ o < 5) ∨ Blk A b o
def qkb (w:World) (B eT:Nat) (A:Option Addr) (n:Nat) (x0 x1 x2 x3:Value) (xs:List Value) (k:Int) (x:Bs):Ending → World → Prop:=fun en w' =>
 en = .returned (.tuple #[]) ∧ ∃ A' cp' Av cv,TBox w' B eT A' cp' (n + 1) x0 x1 x2 x3 (xs ++ [.int .u32 k,.slice Av x.length cv]) ∧ Octs w' (fun b o=>(w.heap.size ≤ b ∨ A.map (·.block) = some b) ∧ ¬ TM B A' b o) Av cv x ∧ Near w A A' ∧ Step w w' (TM B A)
def qfD (P:Program) (fc eT:Nat):Prop:=∀ (w:World) (B cp c n:Nat) (k:Int) (A Av:Option Addr) (x:Bs) (x0 x1 x2 x3:Value) (xs:List Value) (G:Nat → Nat → Prop),TBox w B eT A cp n x0 x1 x2 x3 xs → Octs w G Av c x → (∀ b o,G b o → ¬ TM B A b o) → n ≤ 1000000 →
 Calls P fc [.int .u32 k,.slice Av x.length c,.pointer (some ⟨B,0,none⟩)].toArray w (qkb w B eT A n x0 x1 x2 x3 xs k x)
theorem TBox.wok {w:World} {B eT cp n:Nat} {A:Option Addr} {x0 x1 x2 x3:Value} {xs:List Value} (h:TBox w B eT A cp n x0 x1 x2 x3 xs):WOk w (TM B A) w [⟨B,0,[x0,x1,x2,x3,.slice A n cp],true⟩] [⟨A,cp,eT,2,n,xs⟩]:=by
 have h1:WOk w (TM B A) w [⟨B,0,[x0,x1,x2,x3,.slice A n cp],true⟩] [] :=
  (WOk.start w _).add ⟨B,0,[x0,x1,x2,x3,.slice A n cp],true⟩ (World.lt_of_cell (h.str.at_ 0 _ rfl)) (fun j v hj=>by rw [Nat.zero_add]; exact h.str.at_ j v hj) (fun _ j hj=>⟨.inr (.inl ⟨rfl,by rw [Nat.zero_add]; exact hj⟩),by rw [Nat.zero_add]; exact h.str.frz j hj⟩) (fun i ob hi=>by simp at hi) (fun i r hi=>by simp at hi)
 refine h1.addRow ⟨A,cp,eT,2,n,xs⟩ h.own (fun g hg=>.inr fun o=>.inr hg) (fun i ob hi=>?_) (fun i r hi=>by simp at hi)
 cases i with
 | zero =>
  simp only [List.getElem?_cons_zero,Option.some.injEq] at hi; subst hi
  exact h.ne
 | succ i=>simp at hi
theorem qgm {w0 w:World} {B eT cp n:Nat} {A0 A:Option Addr} {x0 x1 x2 x3:Value} {xs:List Value} {rs:List Rw} (hW:WOk w0 (TM B A0) w [⟨B,0,[x0,x1,x2,x3,.slice A n cp],true⟩] (⟨A,cp,eT,2,n,xs⟩ :: rs)) (hB:B < w0.heap.size):TBox w B eT A cp n x0 x1 x2 x3 xs ∧ Near w0 A0 A ∧ Step w0 w (TM B A0):=by
 refine ⟨⟨Str.of hW 0 rfl,hW.own 0 _ rfl,fun e=>hW.rtb 0 _ rfl B e 0 _ rfl rfl⟩,fun g hg=>?_,hW.step⟩
 rcases hW.ownM 0 _ rfl g hg with h | h
 ·exact .inr h
 rcases h 5 with ⟨_,h⟩ | h
 ·omega
 exact .inl h
theorem qeE {w0 w:World} {B eT cp n c e8:Nat} {A0 A Av:Option Addr} {cs:List Value} {xs:List Value} {s:Bs} (hl:cs.length = 5) (hW:WOk w0 (TM B A0) w [⟨B,0,cs,true⟩] [⟨A,cp,eT,2,n,xs⟩,brow Av c e8 s]) (hsm:s.length ≤ 1099511627776):Octs w (fun b o=>(w0.heap.size ≤ b ∨ A0.map (·.block) = some b) ∧ ¬ TM B A b o) Av c s:=by
 refine qck (hW.own 1 _ rfl) hsm fun g hg o=>⟨?_,?_⟩
 ·rcases hW.ownM 1 _ rfl g hg with h | h
  ·exact .inl h
  rcases h 5 with ⟨_,h⟩ | h
  ·omega
  exact .inr h
 rintro (⟨rfl,_⟩ | h)
 ·exact hW.rtb 1 _ rfl g hg 0 _ rfl rfl
 exact hW.rr 1 0 _ _ (by decide) rfl rfl g hg h
theorem qeF {fc eT B b o:Nat} {m:Option Nat} {u:List (Int × Bs)} {w:World} {F:Nat → Nat → Prop} {x0 x1 x2 x3:Value} (hcf:∀ args w,(callFunc fc args).run Tryz.prog w = .ok (.enter fc args) w) (hone:qfD Tryz.prog fc eT) (hat:AtF w F b o [.map m]) (hm:MapR w F m u) (hB:Str w B [x0,x1,x2,x3,.slice none 0 0]) (hF:∀ b o,F b o → ¬ (b = B ∧ o < 5)) (hul:u.length ≤ 1000000) :
  Calls Tryz.prog 64 [.pointer (some ⟨b,o,none⟩),cloV fc (.pointer (some ⟨B,0,none⟩))].toArray w (fun e w'=>e = .returned (.tuple #[]) ∧ ∃ A c,Str w' B [x0,x1,x2,x3,.slice A u.length c] ∧ TagsR w' (fun b o=>w.heap.size ≤ b) A c u ∧ Step w w' (fun b o=>b = B ∧ o < 5)):=by
 have hBl:B < w.heap.size:=World.lt_of_cell (hB.at_ 0 _ rfl)
 refine (qlx (M:=fun b o=>b = B ∧ o < 5) hcf (fun w7 j w8=>∃ A cp xs css,TBox w8 B eT A cp j x0 x1 x2 x3 xs ∧ Tags w8 (fun b o=>w7.heap.size ≤ b ∧ ¬ TM B A b o) xs (u.take j) css ∧ (∀ g,A.map (·.block) = some g → w7.heap.size ≤ g) ∧ Step w7 w8 (fun b o=>b = B ∧ o < 5)) hat hm hF (fun b o h=>by rw [h.1]; exact hBl) (fun w7 hs=>?_) (fun w7 j w8 h=>by obtain ⟨_,_,_,_,_,_,_,h⟩:=h; exact h) (fun w7 hs j k x w8 Ax cx hI hu hk hox=>?_) hul).mono ?_
 ·exact ⟨none,0,[],[],⟨hB.move hs fun _ h=>h,World.ownsRow_nil _ 0 eT 2,fun h=>by cases h⟩,Tags.nil _ _,fun g h=>(by cases h),Step.refl _ _⟩
 ·obtain ⟨A,cp,xs,css,hbx,hT,hA,hs8⟩:=hI
  have hj:j < u.length:=(List.getElem?_eq_some_iff.1 hu).1
  refine (hone w8 B cp cx j k A Ax x x0 x1 x2 x3 xs _ hbx hox (fun b o hf=>?_) (by omega)).mono ?_
  ·rintro (h | h)
   ·exact hF _ _ hf.1 h
   have:=hA b h; have:=hf.2; omega
  rintro e w9 ⟨rfl,A',cp',Av,cv,hbx',ho',hn,hs9⟩
  refine ⟨rfl,A',cp',_,css ++ [[.int .u32 k,.slice Av x.length cv]],hbx',?_,fun g hg=>?_,hs8.trans hs9 fun b o hb h=>?_⟩
  ·rw [qdh hu]
   have e1:Tags w9 (fun b o=>w7.heap.size ≤ b ∧ ¬ TM B A' b o) xs (u.take j) css:=hT.move hs9 (fun b o h _=>h.2) (fun b o h hb=>⟨h.1,fun h'=>by
    rcases h' with h' | h'
    ·exact h.2 (.inl h')
    rcases hn b h' with h' | h'
    ·exact h.2 (.inr h')
    omega⟩)
   have e2:Octs w9 (fun b o=>w7.heap.size ≤ b ∧ ¬ TM B A' b o) Av cv x:=ho'.move (Step.refl _ Nil) nilM fun b o h _=>⟨by
    rcases h.1 with h' | h'
    ·exact Nat.le_trans hs8.size h'
    exact hA b h',h.2⟩
   exact e1.snoc (c:=[.int .u32 k,.slice Av x.length cv]) (x:=(k,x)) ⟨⟨_,_,rfl,e2⟩,hk.1,hk.2⟩
  ·rcases hn g hg with h | h
   ·exact hA g h
   exact Nat.le_trans hs8.size h
  rcases h with h | h
  ·exact h
  have:=hA b h; omega
 rintro e w' ⟨rfl,w7,hs,A,cp,xs,css,hbx,hT,hA,hs8⟩
 rw [List.take_length] at hT
 refine ⟨rfl,A,cp,hbx.str,?_,(hs.mono (N:=fun b o=>b = B ∧ o < 5) fun _ _ _ f=>f.elim).trans hs8 fun b o _ h=>h⟩
 exact ((hT.move (Step.refl _ Nil) nilM fun b o h _=>Nat.le_trans hs.size h.1).slots (F:=fun b o=>w.heap.size ≤ b) hbx.own rfl (by omega) fun g hg o=>Nat.le_trans hs.size (hA g hg))
abbrev NoF:Nat → Nat → Prop:=fun _ _=>False
theorem WOk.strOut {G:Nat → Nat → Prop} {w0 w:World} {tb:Tb} {rs:List Rw} {p:Nat} {cs:List Value} (tb':Tb) (hW:WOk w0 Nil w tb rs) (ht:tb' ++ [⟨p,0,cs,true⟩] = tb:=by rfl):AtF w (Imm G w0 w tb' rs) p 0 cs:=fun j v hj=>by
 subst ht
 have hi:(tb' ++ [(⟨p,0,cs,true⟩:Ob)])[tb'.length]? = some ⟨p,0,cs,true⟩:=by rw [List.getElem?_append_right (Nat.le_refl _),Nat.sub_self]; rfl
 have h1:=hW.cells _ _ hi j v hj
 have hlt:j < cs.length:=(List.getElem?_eq_some_iff.1 hj).1
 refine ⟨⟨?_,hW.live _ _ hi,fun ha=>?_⟩,h1⟩
 ·rcases (hW.rw_ _ _ hi rfl j hlt).1 with h2 | h2
  ·exact .inr h2
  exact h2.elim
 rcases ha with ⟨k,ob,h2,h3,h4,h5,h6⟩ | ⟨k,r,h2,h3⟩
 ·have hk:k < tb'.length:=(List.getElem?_eq_some_iff.1 h2).1
  have h7:(tb' ++ [(⟨p,0,cs,true⟩:Ob)])[k]? = some ob:=by rw [List.getElem?_append_left hk]; exact h2
  rcases hW.apart k _ ob _ (by omega) h7 hi (.inr rfl) with h8 | h8 | h8
  ·exact h8 h4
  ·simp only [Nat.zero_add] at h5 h6; simp only [Nat.le_zero] at h8; omega
  simp only [Nat.zero_add] at h5 h6 h8; omega
 exact hW.rtb k r h2 p h3 _ _ hi rfl
theorem qix {u:List (Int × Bs)} (h:qds u) {i j:Nat} {k k':Int} {s s':Bs} (hi:u[i]? = some (k,s)) (hj:u[j]? = some (k',s')) (hij:j < i):¬ k < k':=by
 obtain ⟨h1,h2⟩:=List.getElem?_eq_some_iff.1 hi
 obtain ⟨h3,h4⟩:=List.getElem?_eq_some_iff.1 hj
 have:=List.pairwise_iff_getElem.1 h j i h3 h1 hij
 rw [h2,h4] at this
 simp only at this
 omega
section
variable {w0 w:World} {tb:Tb} {rs:List Rw} {F:Nat → Nat → Prop}
theorem WOk.objFp (hW:WOk w0 Nil w tb rs) (i:Nat) {b:Nat} {cs:List Value} (hi:tb[i]? = some ⟨b,0,cs,true⟩):AtF w (Fp F w0) b 0 cs:=fun j v hj=>by
 have hlt:=(List.getElem?_eq_some_iff.1 hj).1
 refine ⟨?_,hW.cells i _ hi j v hj⟩
 rcases (hW.rw_ i _ hi rfl j hlt).1 with h | h
 ·exact .inr h
 exact h.elim
def TrL (w:World) (F:Nat → Nat → Prop):List (List Value) → List Tree → Prop
 | [],[]=>True
 | c :: cs,x :: xs=>TreeR w F c x ∧ TrL w F cs xs
 | _,_=>False
theorem TrL.move {w w':World} {F F' M:Nat → Nat → Prop} (hs:Step w w' M) (hM:∀ b o,F b o → b < w.heap.size → ¬ M b o) (hF:∀ b o,F b o → b < w.heap.size → F' b o):∀ {cs:List (List Value)} {l:List Tree},TrL w F cs l → TrL w' F' cs l
 | [],[],_=>trivial
 | _ :: _,_ :: _,h=>⟨h.1.move hs hM hF,TrL.move hs hM hF h.2⟩
 | [],_ :: _,h=>h.elim
 | _ :: _,[],h=>h.elim
theorem TrL.len:∀ {cs:List (List Value)} {l:List Tree},TrL w F cs l → cs.length = l.length
 | [],[],_=>rfl
 | _ :: _,_ :: _,h=>congrArg (· + 1) (TrL.len h.2)
 | [],_ :: _,h=>h.elim
 | _ :: _,[],h=>h.elim
theorem TrL.five:∀ {cs:List (List Value)} {l:List Tree},TrL w F cs l → ∀ c ∈ cs,c.length = 5
 | [],[],_=>fun c hc=>by cases hc
 | _ :: _,_ :: _,h=>fun c hc=>by
  rcases List.mem_cons.1 hc with rfl | hc
  ·exact h.1.five
  exact TrL.five h.2 c hc
 | [],_ :: _,h=>h.elim
 | _ :: _,[],h=>h.elim
theorem TrL.get:∀ {cs:List (List Value)} {l:List Tree},TrL w F cs l → ∀ (i:Nat) (x:Tree),l[i]? = some x → TreeR w F (cs.getD i []) x
 | [],[],_,i,x,hx=>by simp at hx
 | _ :: _,_ :: _,h,0,x,hx=>by
  simp only [List.getElem?_cons_zero,Option.some.injEq] at hx
  subst hx
  exact h.1
 | _ :: _,_ :: _,h,i + 1,x,hx=>TrL.get h.2 i x hx
 | [],_ :: _,h,_,_,_=>h.elim
 | _ :: _,[],h,_,_,_=>h.elim
theorem qly {b:Nat}:∀ (css:List (List Value)) (o:Nat),AtF w F b o css.flatten → (∀ c ∈ css,c.length = 5) → ∀ i,i < css.length → (css.getD i []).length = 5 ∧ AtF w F b (o + i * 5) (css.getD i [])
 | [],o,h,hl,i,hi=>absurd hi (Nat.not_lt_zero _)
 | c :: r,o,h,hl,0,_=>⟨hl c List.mem_cons_self,fun j v hj=>by
   have hj':c[j]? = some v:=hj
   have:=h j v (by rw [List.flatten_cons,List.getElem?_append_left (List.getElem?_eq_some_iff.1 hj').1]; exact hj')
   rw [show o + 0 * 5 + j = o + j by omega]
   exact this⟩
 | c :: r,o,h,hl,i + 1,hi=>by
  have hc:=hl c List.mem_cons_self
  have:=qly r (o + 5) (fun j v hj=>by
   have:=h (5 + j) v (by rw [List.flatten_cons,List.getElem?_append_right (by omega),show 5 + j - c.length = j by omega]; exact hj)
   rw [show o + 5 + j = o + (5 + j) by omega]
   exact this) (fun d hd=>hl d (List.mem_cons_of_mem _ hd)) i (by simpa using hi)
  rw [show o + (i + 1) * 5 = o + 5 + i * 5 by omega]
  exact this
theorem qiy {b:Nat} {css:List (List Value)} {l:List Tree} (h:AtF w F b 0 css.flatten) (hT:TrL w F css l) (hsm:l.length ≤ 1099511627776):Slots w F 5 (some ⟨b,0,none⟩) l.length l.length (fun i=>css.getD i []) :=
 ⟨Nat.le_refl _,hsm,fun h=>(by cases h),fun ad hA _=>⟨b,0,(Option.some.inj hA).symm,fun i hi=>qly css 0 h hT.five i (by rw [hT.len]; exact hi)⟩⟩
theorem Trees.xslen {w:World} {xs:List Value} {l:List Tree} {css:List (List Value)} (h:Trees w F xs l css):xs.length = l.length * 5:=by
 have h1:∀ css:List (List Value),(∀ c ∈ css,c.length = 5) → css.flatten.length = css.length * 5:=fun css hc=>by
  induction css with
  | nil=>rfl
  | cons c r ih =>
   rw [List.flatten_cons,List.length_append,hc c List.mem_cons_self,ih fun d hd=>hc d (List.mem_cons_of_mem _ hd),List.length_cons]
   omega
 rw [h.flat.eq,h1 css,h.len]
 intro c hc
 obtain ⟨i,hi,rfl⟩:=List.getElem_of_mem hc
 have hl:=h.len
 exact (h.each i _ _ (List.getElem?_eq_getElem hi) (List.getElem?_eq_getElem (show i < l.length by omega))).five
theorem qcK {xs zs cs:List Value} {k:Nat} (hx:xs.length = k * 5) (hz:zs.length = cs.length:=by rfl):qbx (xs ++ zs) (k * 5) cs = xs ++ cs:=by
 unfold qbx
 rw [List.take_left' hx,List.drop_of_length_le (by rw [List.length_append]; omega),List.append_nil]
structure O16 (w:World) (F:Nat → Nat → Prop) (A:Option Addr) (c:Nat) (s:Bs):Prop where
 o:Octs w F A c s
 l:s.length = 16
theorem O16.move {w w':World} {F F' M:Nat → Nat → Prop} {A:Option Addr} {c:Nat} {s:Bs} (h:O16 w F A c s) (hs:Step w w' M) (hM:∀ b o,F b o → b < w.heap.size → ¬ M b o) (hF:∀ b o,F b o → b < w.heap.size → F' b o):O16 w' F' A c s:=⟨h.o.move hs hM hF,h.l⟩
theorem O16.src {w:World} {F:Nat → Nat → Prop} {A:Option Addr} {c:Nat} {s:Bs} (h:O16 w F A c s):Src w A 16 1 (bc s):=by
 have:=h.o.src
 rwa [h.l] at this
theorem O16.cap {w:World} {F:Nat → Nat → Prop} {A:Option Addr} {c:Nat} {s:Bs} (h:O16 w F A c s):A = none → c = 0:=h.o.cap
theorem qkw {w:World} {F:Nat → Nat → Prop} {b o k:Nat} {cs:List Value} {s:Bs} (h:AtF w F b o cs) (hl:s.length = 16) (hc:∀ j,j < 16 → cs[k + j]? = some (qaa (s.getD j 0))):O16 w F (some ⟨b,o + k,none⟩) 16 s:=by
 refine ⟨⟨by omega,by omega,fun h=>(by cases h),fun ad hA _=>⟨b,o + k,(Option.some.inj hA).symm,fun i hi=>⟨rfl,fun j v hj=>?_⟩⟩⟩,hl⟩
 have hj0:j = 0:=by
  cases j with
  | zero=>rfl
  | succ j=>simp at hj
 subst hj0
 simp only [List.getElem?_cons_zero,Option.some.injEq] at hj
 subst hj
 have:=h (k + i) _ (hc i (by omega))
 rw [show o + k + i * 1 + 0 = o + (k + i) by omega]
 exact this
theorem qfE (hW:WOk w0 Nil w tb rs) {k:Nat} {A:Option Addr} {c e n:Nat} {xs:List Value} {l:List Tree} {css:List (List Value)} {b:Bool} (hk:rs[k]? = some ⟨A,c,e,5,n,xs⟩) (hT:Trees w (Imm F w0 w tb rs) xs l css) (hn:n = l.length) (hsm:l.length ≤ 1099511627776):TreeR w (Fp F w0) [.int .i64 0,.slice none 0 0,.bool b,.slice A n c,.slice none 0 0] (.mk 0 [] b l []):=by
 have h:=qhI hW hk hT hn hsm
 subst hn
 exact TreeR.mk (s:=[]) (u:=[]) _ (Octs.nil _ _) h.1 h.2 (TagsR.nil _ _)
theorem qco {L k:Nat} {f:Nat → Tree} (h:k < L):((List.range L).map f).take (k + 1) = ((List.range L).map f).take k ++ [f k] :=
 qdh (by rw [List.getElem?_map,List.getElem?_range h]; rfl)
theorem qgn {L k:Nat} {f:Nat → Tree} (h:L ≤ k):((List.range L).map f).take k = (List.range L).map f:=List.take_of_length_le (by rw [List.length_map,List.length_range]; exact h)
theorem qcc {L:Nat} {f:Nat → Tree}:((List.range L).map f).length = L:=by rw [List.length_map,List.length_range]
theorem qff (hW:WOk w0 Nil w tb rs) (i:Nat) {b n2 c3:Nat} {A3:Option Addr} {u:List (Int × Bs)} {css:List (List Value)} {cs:List Value} {l:List Tree} (hi:tb[i]? = some ⟨b,0,cs,true⟩) (hT':TrL w (Fp F w0) css l) (hU:TagsR w (Fp F w0) A3 c3 u) (hf:css.flatten = cs:=by rfl) (hl:l.length = n2:=by rfl) (hn:Nat.ble n2 1000000 = true:=by kernel_rfl) :
  qeW w0 F (.mk 0 [] false l u) (.returned (.agg #[.int .i64 0,.slice none 0 0,.bool false,.slice (some ⟨b,0,none⟩) n2 n2,.slice A3 u.length c3])) w:=by
 subst hf
 subst hl
 have hn':=Nat.le_of_ble_eq_true hn
 exact ⟨_,rfl,TreeR.mk (s:=[]) _ (Octs.nil _ _) (qiy (hW.objFp i hi) hT' (by omega)) hT'.get hU,hW.step⟩
end
def qlz (m:Nat):Prop:=∀ (ct:List Value) (t:Tree) (w:World) (F:Nat → Nat → Prop),TreeR w F ct t → t.depth ≤ m →
  Calls Tryz.prog 15 #[.agg ct.toArray] w (qeW w F t)
theorem qjB {m:Nat} (hg:qlz m) (ct:List Value) (t:Tree) (w:World) (F:Nat → Nat → Prop) (ht:TreeR w F ct t) (hd:t.depth ≤ m + 1) :
  Calls Tryz.prog 15 #[.agg ct.toArray] w (qeW w F t):=by
 obtain ⟨n1,s2,b3,l4,u5,A6,c7,A8,c9,ap,ar,dT,rfl,rfl,dw,dx,dU,dV⟩:=ht.open_
 have dy:=dw.small
 have dz:=dx.small
 obtain ⟨dW,dA,dX⟩:=dV.ex
 have dB:=dA.small
 refine enter (n:=49) Tryz.func15 rfl Tryz.ntmps15 kz fun a hE=>?_
 have hW:=WOk.start w Nil
 refine qaf [0,1] kz ?_
 refine qan (qbu hW hE (d:=1) (cs:=[.int .i64 n1,.slice A6 s2.length c7,.bool b3,.slice A8 l4.length c9,.slice ap u5.length ar]) kz fun bF fk fm dY dZ d5 cY cZ=>?_)
 refine qan (qaZ cY cZ (d:=2) (cs:=[.int .i64 0,.slice none 0 0,.bool false,.slice none 0 0,.slice none 0 0]) kz fun bG fo fq d6 d7 d8 bI c5=>?_)
 refine qah (qac ?_)
 refine qaf [0,1,2,3,4,5,6,7,8] kz ?_
 refine qal [0,1,2,3,4,5,6] [7,8] [(1,.p 0 0),(2,.p 1 0),(14,.v (.agg #[.int .i64 n1,.slice A6 s2.length c7,.bool b3,.slice none 0 0,.slice none 0 0]))] bI c5 fun fr c6=>?_
 refine qan (qaZ bI c6 (d:=3) (cs:=[.int .i64 0,.slice none 0 0,.bool false,.slice none 0 0,.slice none 0 0]) kz fun bH ft fu d9 ea eb da db=>?_)
 refine qan (qav da db (oi:=2) (cs:=[.int .i64 n1,.slice A6 s2.length c7,.bool b3,.slice none 0 0,.slice none 0 0]) kz fun fv ec bz dc=>?_)
 refine qah (qac ?_)
 refine wp_seq ?_
 refine qar [(1,.p 0 0),(2,.p 1 0),(3,.p 2 0),(16,.v (.slice A8 l4.length c9)),(17,.v (.int .i64 ((l4.length:Nat):Int))),(18,.v (.int .i64 0))] bz dc fun fw de=>?_
 refine wp_block ?_
 have bJ:=bz.addNil 26 5
 have ee:=bz.frNil 26 5
 refine wp_loop_ghost (fun n_ a_ w_=>∃ (k:Nat) (A_:Option Addr) (c_:Nat) (xs:List Value) (css:List (List Value)),n_ = l4.length - k ∧ k ≤ l4.length ∧ (Trees w_ (Imm F w w_ [⟨bF,0,[.int .i64 n1,.slice A6 s2.length c7,.bool b3,.slice A8 l4.length c9,.slice ap u5.length ar],true⟩,⟨bG,0,[.int .i64 0,.slice none 0 0,.bool false,.slice none 0 0,.slice none 0 0],true⟩,⟨bH,0,[.int .i64 n1,.slice A6 s2.length c7,.bool b3,.slice A_ k c_,.slice none 0 0],true⟩] [⟨A_,c_,26,5,k,xs⟩]) xs (l4.take k) css) ∧ LInv bJ 49 [⟨bF,0,[.int .i64 n1,.slice A6 s2.length c7,.bool b3,.slice A8 l4.length c9,.slice ap u5.length ar],true⟩,⟨bG,0,[.int .i64 0,.slice none 0 0,.bool false,.slice none 0 0,.slice none 0 0],true⟩,⟨bH,0,[.int .i64 n1,.slice A6 s2.length c7,.bool b3,.slice A_ k c_,.slice none 0 0],true⟩] [⟨A_,c_,26,5,k,xs⟩] [(1,.p 0 0),(2,.p 1 0),(3,.p 2 0),(16,.v (.slice A8 l4.length c9)),(17,.v (.int .i64 ((l4.length:Nat):Int))),(18,.v (.int .i64 ((k:Nat):Int)))] a_ w_) (l4.length) ⟨0,none,0,[],[],by omega,by omega,Trees.nil _ _,de.pk,bJ,Fr.refl _ _ _⟩ ?_
 rintro fx fy fz ⟨k,A_,c_,xs,css,ef,eg,hT,df,aw,dg⟩
 refine qar [(1,.p 0 0),(2,.p 1 0),(3,.p 2 0),(16,.v (.slice A8 l4.length c9)),(17,.v (.int .i64 ((l4.length:Nat):Int))),(18,.v (.int .i64 ((k:Nat):Int))),(19,.v (.bool (decide (((k:Nat):Int) < ((l4.length:Nat):Int)))))] aw df fun fA bA=>?_
 refine wp_seq ?_
 refine qax bA (b:=decide (((k:Nat):Int) < ((l4.length:Nat):Int))) kz (fun bB=>?_) (fun bB=>?_)
 ·
  have eh:=of_decide_eq_true bB
  refine wp_skip ?_
  refine qac ?_
  refine wp_seq ?_
  refine wp_block ?_
  refine qaf [0,1,2,3] kz ?_
  obtain ⟨ei,ej,dh,ek,bf⟩:=Slots.get dx (i:=k) (by omega)
  obtain ⟨em,bC⟩:∃ x,l4[k]? = some x:=⟨_,List.getElem?_eq_getElem (by omega)⟩
  have bD:=dU k em bC
  obtain ⟨bK,bL,bM,bN,bO,bP,bQ,bR,bS,bT,bU,eo,rfl,bg,ep,eu,fB,fC⟩:=bD.open_
  rw [bg] at bD
  have dC:=ep.small
  have dD:=eu.small
  rw [bg] at bf
  refine qan (qaC bA (t:=34) (A:=A8) (m:=l4.length) (q:=((k:Nat):Int)) (d:=20) kz (e:=37) (size:=5) (bytes:=88) kz dh rfl (by omega) fun fD bV=>?_)
  refine qan (qa0 bV (t:=37) (b:=ei) (o:=ej + k * 5) (d:=21) kz (cs:=[.int .i64 bK,.slice bP bL.length bQ,.bool bM,.slice bR bN.length bS,.slice bT bO.length bU]) (v:=.agg #[.int .i64 bK,.slice bP bL.length bQ,.bool bM,.slice bR bN.length bS,.slice bT bO.length bU]) kz (AtF.move bf aw.step nilM qbk).at_ fun ev bW=>?_)
  refine qan (qaZ aw bW (d:=5) (cs:=[.int .i64 0,.slice none 0 0,.bool false,.slice none 0 0,.slice none 0 0]) kz fun ew ey ez dE dF ax bX bY=>?_)
  refine qan (qav bX bY (oi:=3) (cs:=[.int .i64 bK,.slice bP bL.length bQ,.bool bM,.slice bR bN.length bS,.slice bT bO.length bU]) kz fun eB ay bZ b8=>?_)
  refine qah (qac ?_)
  refine qcO 7 kz bZ fun eC az ag cd=>?_
  refine qaI [0,1,2] [(1,.p 0 0),(2,.p 1 0),(3,.p 2 0),(16,.v (.slice A8 l4.length c9)),(17,.v (.int .i64 ((l4.length:Nat):Int))),(18,.v (.int .i64 ((k:Nat):Int))),(23,.v (.slice A_ k c_)),(24,.v (.agg #[.int .i64 bK,.slice bP bL.length bQ,.bool bM,.slice bR bN.length bS,.slice bT bO.length bU]))] 5 (qae (qab (qab (qae (qab qag))))) (fun _ h=>h.cells) cd b8 fun eD ce=>?_
  refine qau (i:=3) kz (qam ce (f:=15) (vs:=[.agg #[.int .i64 bK,.slice bP bL.length bQ,.bool bM,.slice bR bN.length bS,.slice bT bO.length bU]]) (d:=25) kz Tryz.call15 ( hg _ _ _ _ (bD.move ag.step nilM ag.imm) (by have h_:=qhH bC; rw [qgO] at hd; omega)) ?_)
  rintro e_ eE ⟨dG,rfl,cm,aA⟩
  have aB:=cm.move (Step.refl _ Nil) nilM (ag.laid (G:=F) aA)
  obtain ⟨aC,aD,aE,aF,aG,aH,aI,aJ,aK,aL,aM,dH,dI,aN,di,dj,eF,eG⟩:=aB.open_
  rw [aN] at aB
  have dl:=di.small
  have dp:=dj.small
  rw [aN]
  refine ⟨_,rfl,fun eH cq=>?_⟩
  have bh:=ag.next_nil aA
  have ae:=ag.frN aA
  have cr:=TT.ofW ae bh
  refine ⟨fun _=>cr,?_⟩
  refine qau (i:=4) kz (qbA bh cq (e:=26) (size:=5) (len:=1) (cs:=[.int .i64 aC,.slice aH aD.length aI,.bool aE,.slice aJ aF.length aK,.slice aL aG.length aM]) (d:=26) kz kz fun dq eI eJ dJ dK aa au cu=>?_)
  have cw:=TT.ofW (ae.trans aa) au
  refine ⟨fun _=>cw,?_⟩
  refine qau (i:=5) kz (qaY au cu (k:=0) (d:=27) (t:=23) (e:=26) (size:=5) (bytes:=88) (A:=A_) (As:=(some ⟨dq,0,none⟩)) (m0:=k) (c:=c_) (m:=1) (cs:=1) (xs:=xs) (news:=[.int .i64 aC,.slice aH aD.length aI,.bool aE,.slice aJ aF.length aK,.slice aL aG.length aM]) kz kz rfl (qbH (au.own 1 _ rfl) (qbD kz)) (qbQ (au.own 1 _ rfl)) (by omega) fun aO aP eK eL af bi cz=>?_)
  have bj:=TT.ofW ((ae.trans aa).trans af) bi
  refine ⟨fun _=>bj,?_⟩
  refine qaI [6] [(1,.p 0 0),(2,.p 1 0),(3,.p 2 0),(16,.v (.slice A8 l4.length c9)),(17,.v (.int .i64 ((l4.length:Nat):Int))),(18,.v (.int .i64 ((k:Nat):Int))),(27,.v (.slice aO (k + 1) aP)),(28,.p 2 3)] 1 (qae (qab (qab (qae (qab qag))))) (fun _ h=>h.cells) bj cz fun eM cA=>?_
  refine qau (i:=7) kz (qav bi cA (oi:=2) (cs:=[.int .i64 n1,.slice A6 s2.length c7,.bool b3,.slice aO (k + 1) aP,.slice none 0 0]) kz fun eN ah bk cB=>?_)
  refine ⟨fun h=>absurd rfl h,?_⟩
  refine qaH kz ?_ _
  refine qas ?_
  refine qac ?_
  refine qaq [0,1] kz ?_
  refine qal [0,1] [] [(1,.p 0 0),(2,.p 1 0),(3,.p 2 0),(16,.v (.slice A8 l4.length c9)),(17,.v (.int .i64 ((l4.length:Nat):Int))),(18,.v (.int .i64 (IntKind.i64.wrap (((k:Nat):Int) + 1))))] bk cB fun eO cC=>?_
  refine qah (qac ?_)
  obtain ⟨bn,cD,ai⟩:=bk.cutB cC 3 [⟨bF,0,[.int .i64 n1,.slice A6 s2.length c7,.bool b3,.slice A8 l4.length c9,.slice ap u5.length ar],true⟩,⟨bG,0,[.int .i64 0,.slice none 0 0,.bool false,.slice none 0 0,.slice none 0 0],true⟩,⟨bH,0,[.int .i64 n1,.slice A6 s2.length c7,.bool b3,.slice aO (k + 1) aP,.slice none 0 0],true⟩] [(1,.p 0 0),(2,.p 1 0),(3,.p 2 0),(16,.v (.slice A8 l4.length c9)),(17,.v (.int .i64 ((l4.length:Nat):Int))),(18,.v (.int .i64 (IntKind.i64.wrap (((k:Nat):Int) + 1))))]
  obtain ⟨cE,aj⟩:=cD.cutR 1 [⟨aO,aP,26,5,k + 1,xs ++ [.int .i64 aC,.slice aH aD.length aI,.bool aE,.slice aJ aF.length aK,.slice aL aG.length aM]⟩]
  have cG:IntKind.i64.wrap (((k:Nat):Int) + 1) = ((k + 1:Nat):Int):=qaX (by omega)
  rw [cG] at bn
  exact ⟨l4.length - (k + 1),by omega,k + 1,aO,aP,xs ++ [Value.int .i64 aC,.slice aH aD.length aI,.bool aE,.slice aJ aF.length aK,.slice aL aG.length aM],(css ++ [[Value.int .i64 aC,.slice aH aD.length aI,.bool aE,.slice aJ aF.length aK,.slice aL aG.length aM]]),rfl,by omega,by rw [qdh bC]; exact (hT.move ((((((((ax.trans ay).trans az).trans ae).trans aa).trans af).trans ah).trans ai).trans aj).step immM ((((((((ax.trans ay).trans az).trans ae).trans aa).trans af).trans ah).trans ai).trans aj).to').snoc (aB.move ((((aa.trans af).trans ah).trans ai).trans aj).step immM ((((aa.trans af).trans ah).trans ai).trans aj).to'),bn.pk,cE,(((((((((dg.trans ax).trans ay).trans az).trans ae).trans aa).trans af).trans ah).trans ai).trans aj)⟩
 have dL:=of_decide_eq_false bB
 refine wp_exit ?_
 refine qaz ?_
 refine qaz ?_
 refine qaT ?_
 refine qac ?_
 refine wp_seq ?_
 refine qar [(2,.p 1 0),(3,.p 2 0),(31,.v (.slice ap u5.length ar)),(32,.v (.int .i64 ((u5.length:Nat):Int))),(33,.v (.int .i64 0))] aw bA fun eP cH=>?_
 refine wp_block ?_
 have hk0:k = l4.length:=by omega
 have bo:=aw.addNil 66 2
 have bp:=aw.frNil 66 2
 refine wp_loop_ghost (fun n_ a_ w_=>∃ (q:Nat) (A5_:Option Addr) (c5_:Nat) (ys:List Value) (dss:List (List Value)),n_ = u5.length - q ∧ q ≤ u5.length ∧ (Tags w_ (Imm F w w_ [⟨bF,0,[.int .i64 n1,.slice A6 s2.length c7,.bool b3,.slice A8 l4.length c9,.slice ap u5.length ar],true⟩,⟨bG,0,[.int .i64 0,.slice none 0 0,.bool false,.slice none 0 0,.slice none 0 0],true⟩,⟨bH,0,[.int .i64 n1,.slice A6 s2.length c7,.bool b3,.slice A_ k c_,.slice A5_ q c5_],true⟩] [⟨A_,c_,26,5,k,xs⟩,⟨A5_,c5_,66,2,q,ys⟩]) ys (u5.take q) dss) ∧ LInv bo 49 [⟨bF,0,[.int .i64 n1,.slice A6 s2.length c7,.bool b3,.slice A8 l4.length c9,.slice ap u5.length ar],true⟩,⟨bG,0,[.int .i64 0,.slice none 0 0,.bool false,.slice none 0 0,.slice none 0 0],true⟩,⟨bH,0,[.int .i64 n1,.slice A6 s2.length c7,.bool b3,.slice A_ k c_,.slice A5_ q c5_],true⟩] [⟨A_,c_,26,5,k,xs⟩,⟨A5_,c5_,66,2,q,ys⟩] [(2,.p 1 0),(3,.p 2 0),(31,.v (.slice ap u5.length ar)),(32,.v (.int .i64 ((u5.length:Nat):Int))),(33,.v (.int .i64 ((q:Nat):Int)))] a_ w_) (u5.length) ⟨0,none,0,[],[],by omega,by omega,Tags.nil _ _,cH.pk,bo,Fr.refl _ _ _⟩ ?_
 rintro eQ eR eS ⟨q,A5_,c5_,ys,dss,dM,dN,hU,cI,ak,aQ⟩
 refine qar [(2,.p 1 0),(3,.p 2 0),(31,.v (.slice ap u5.length ar)),(32,.v (.int .i64 ((u5.length:Nat):Int))),(33,.v (.int .i64 ((q:Nat):Int))),(34,.v (.bool (decide (((q:Nat):Int) < ((u5.length:Nat):Int)))))] ak cI fun eU aR=>?_
 refine wp_seq ?_
 refine qax aR (b:=decide (((q:Nat):Int) < ((u5.length:Nat):Int))) kz (fun aS=>?_) (fun aS=>?_)
 ·
  have dO:=of_decide_eq_true aS
  refine wp_skip ?_
  refine qac ?_
  refine wp_seq ?_
  refine wp_block ?_
  refine qaf [0,1,2,3] kz ?_
  obtain ⟨dr,dt,cJ,dP,aT⟩:=Slots.get dA (i:=q) (by omega)
  obtain ⟨⟨ab,ac⟩,bq⟩:∃ x,u5[q]? = some x:=⟨_,List.getElem?_eq_getElem (by omega)⟩
  obtain ⟨⟨al,am,bE,cK⟩,du,dv⟩:=dX q ab ac bq
  rw [bE] at aT
  refine qan (qaC aR (t:=35) (A:=ap) (m:=u5.length) (q:=((q:Nat):Int)) (d:=35) kz (e:=69) (size:=2) (bytes:=32) kz cJ rfl (by omega) fun eV cL=>?_)
  refine qan (qa0 cL (t:=69) (b:=dr) (o:=dt + q * 2) (d:=36) kz (cs:=[.int .u32 ab,.slice al ac.length am]) (v:=.agg #[.int .u32 ab,.slice al ac.length am]) kz (AtF.move aT ak.step nilM qbk).at_ fun eW cM=>?_)
  refine qan (qaZ ak cM (d:=7) (cs:=[.int .u32 0,.slice none 0 0]) kz fun eX eY eZ dQ dR aU cN cO=>?_)
  refine qan (qav cN cO (oi:=3) (cs:=[.int .u32 ab,.slice al ac.length am]) kz fun e9 aV bt cP=>?_)
  refine qah (qac ?_)
  refine qaq [0,1,2,3,4,5,6,7,8,9,10] kz ?_
  refine qal [0,1,2,3,4,5,6] [7,8,9,10] [(2,.p 1 0),(3,.p 2 0),(31,.v (.slice ap u5.length ar)),(32,.v (.int .i64 ((u5.length:Nat):Int))),(33,.v (.int .i64 ((q:Nat):Int))),(38,.v (.slice A5_ q c5_)),(43,.v (.agg #[.int .u32 ab,.slice al ac.length am]))] bt cP fun fa cQ=>?_
  refine qcH bt cQ (k:=1) (e:=66) (size:=2) (len:=1) (cs:=[.int .u32 ab,.slice al ac.length am]) (d1:=44) (d:=45) kz (t:=24) (bytes:=32) kz (fun _=>by kernel_rfl) rfl kz (by omega) fun ba bd fb fe aW bu ⟨_,cR⟩=>?_
  refine qal [9] [10] [(2,.p 1 0),(3,.p 2 0),(31,.v (.slice ap u5.length ar)),(32,.v (.int .i64 ((u5.length:Nat):Int))),(33,.v (.int .i64 ((q:Nat):Int))),(45,.v (.slice ba (q + 1) bd)),(46,.p 2 4)] bu cR fun ff cS=>?_
  refine qan (qav bu cS (oi:=2) (cs:=[.int .i64 n1,.slice A6 s2.length c7,.bool b3,.slice A_ k c_,.slice ba (q + 1) bd]) kz fun fg aX bw cT=>?_)
  refine qah ?_
  refine qas ?_
  refine qac ?_
  refine qaq [0,1] kz ?_
  refine qal [0,1] [] [(2,.p 1 0),(3,.p 2 0),(31,.v (.slice ap u5.length ar)),(32,.v (.int .i64 ((u5.length:Nat):Int))),(33,.v (.int .i64 (IntKind.i64.wrap (((q:Nat):Int) + 1))))] bw cT fun fh cU=>?_
  refine qah (qac ?_)
  obtain ⟨bx,aY,aZ⟩:=bw.cutB cU 3 [⟨bF,0,[.int .i64 n1,.slice A6 s2.length c7,.bool b3,.slice A8 l4.length c9,.slice ap u5.length ar],true⟩,⟨bG,0,[.int .i64 0,.slice none 0 0,.bool false,.slice none 0 0,.slice none 0 0],true⟩,⟨bH,0,[.int .i64 n1,.slice A6 s2.length c7,.bool b3,.slice A_ k c_,.slice ba (q + 1) bd],true⟩] [(2,.p 1 0),(3,.p 2 0),(31,.v (.slice ap u5.length ar)),(32,.v (.int .i64 ((u5.length:Nat):Int))),(33,.v (.int .i64 (IntKind.i64.wrap (((q:Nat):Int) + 1))))]
  have cV:IntKind.i64.wrap (((q:Nat):Int) + 1) = ((q + 1:Nat):Int):=qaX (by omega)
  rw [cV] at bx
  exact ⟨u5.length - (q + 1),by omega,q + 1,ba,bd,ys ++ [Value.int .u32 ab,.slice al ac.length am],(dss ++ [[Value.int .u32 ab,.slice al ac.length am]]),rfl,by omega,by rw [qdh bq]; exact (hU.move ((((aU.trans aV).trans aW).trans aX).trans aZ).step immM ((((aU.trans aV).trans aW).trans aX).trans aZ).to').snoc (c:=[.int .u32 ab,.slice al ac.length am]) (x:=(ab,ac)) ⟨⟨_,_,rfl,(cK.move aY.step nilM aY.imm)⟩,du,dv⟩,bx.pk,aY,(((((aQ.trans aU).trans aV).trans aW).trans aX).trans aZ)⟩
 have dS:=of_decide_eq_false aS
 refine wp_exit ?_
 refine qaz ?_
 refine qaz ?_
 refine qaT ?_
 refine qac ?_
 refine qaf [0,1] kz ?_
 refine qal [0] [1] [(2,.p 1 0),(48,.v (.agg #[.int .i64 n1,.slice A6 s2.length c7,.bool b3,.slice A_ k c_,.slice A5_ q c5_]))] ak aR fun fi cW=>?_
 refine qan (qav ak cW (oi:=1) (cs:=[.int .i64 n1,.slice A6 s2.length c7,.bool b3,.slice A_ k c_,.slice A5_ q c5_]) kz fun fj av ao cX=>?_)
 refine qah (qac ?_)
 refine wp_ret ?_
 refine qaS cX ao.cells (v:=.agg #[.int .i64 n1,.slice A6 s2.length c7,.bool b3,.slice A_ k c_,.slice A5_ q c5_]) kz ?_
 have hq0:q = u5.length:=by omega
 have hT':=(hT.move ((bp.trans aQ).trans av).step immM ((bp.trans aQ).trans av).to')
 have hU':=(hU.move av.step immM av.to')
 rw [show l4.take k = l4 by rw [hk0,List.take_length]] at hT'
 rw [show u5.take q = u5 by rw [hq0,List.take_length]] at hU'
 exact qj3 ao rfl (dw.move ao.step nilM qkP) hk0 (qhI ao (k:=0) rfl hT' hk0 (by omega)) hq0 (qkO ao (k:=1) rfl hU' hq0 (by omega)) rfl
theorem lGot:∀ m,qlz m
 | 0=>fun ct t w F ht hd=>by
  obtain ⟨n,s,b,l,u,A1,c1,A2,c2,A3,c3,xs,rfl,_⟩:=ht.open_
  rw [qgO] at hd; omega
 | m + 1=>qjB (lGot m)
theorem qgo {u:List (Int × Bs)} {A:Option Addr} {c:Nat} {w:World} {F:Nat → Nat → Prop} (hu:TagsR w F A c u) (hsrt:qds u):Calls Tryz.prog 66 #[.slice A u.length c] w (qct w (.tuple #[])):=by
 obtain ⟨cs1,h2,h3⟩:=hu.ex
 have hsm4:=h2.small
 refine enter (n:=45) Tryz.func66 rfl Tryz.ntmps66 kz fun a hE=>?_
 have hW:=WOk.start w Nil
 refine qar [(0,.v (.slice A u.length c)),(5,.v (.int .i64 ((u.length:Nat):Int))),(6,.v (.int .i64 0))] hW hE fun a5 hE6=>?_
 refine wp_block ?_
 refine wp_loop_ghost (fun n_ a_ w_=>∃ (k:Nat),n_ = u.length - k ∧ k ≤ u.length ∧ LInv hW 45 [] [] [(0,.v (.slice A u.length c)),(5,.v (.int .i64 ((u.length:Nat):Int))),(6,.v (.int .i64 ((k:Nat):Int)))] a_ w_) (u.length) ⟨0,by omega,by omega,hE6.pk,hW,Fr.refl _ _ _⟩ ?_
 rintro n7 a8 w9 ⟨k,aW,aX,aB,ab,aj⟩
 refine qar [(0,.v (.slice A u.length c)),(5,.v (.int .i64 ((u.length:Nat):Int))),(6,.v (.int .i64 ((k:Nat):Int))),(7,.v (.bool (decide (((k:Nat):Int) < ((u.length:Nat):Int)))))] ab aB fun bn ah=>?_
 refine wp_seq ?_
 refine qax ah (b:=decide (((k:Nat):Int) < ((u.length:Nat):Int))) kz (fun ai=>?_) (fun ai=>?_)
 ·
  have aY:=of_decide_eq_true ai
  refine wp_skip ?_
  refine qac ?_
  refine wp_seq ?_
  refine wp_block ?_
  refine qar [(0,.v (.slice A u.length c)),(2,.v (.int .i64 ((k:Nat):Int))),(5,.v (.int .i64 ((u.length:Nat):Int))),(6,.v (.int .i64 ((k:Nat):Int)))] ab ah fun bo aC=>?_
  refine qar [(0,.v (.slice A u.length c)),(3,.v (.int .i64 ((k:Nat):Int))),(5,.v (.int .i64 ((u.length:Nat):Int))),(6,.v (.int .i64 ((k:Nat):Int)))] ab aC fun bp aD=>?_
  refine wp_block ?_
  refine qfc ?_
  refine wp_seq ?_
  refine qch kz ab fun bq ak aa=>?_
  refine qaI [0,1,2] [(0,.v (.slice A u.length c)),(3,.v (.int .i64 ((k:Nat):Int))),(5,.v (.int .i64 ((u.length:Nat):Int))),(6,.v (.int .i64 ((k:Nat):Int))),(12,.v (.bool (decide (((k:Nat):Int) > 0))))] 13 (qab (qab (qab (qae (qae (qab (qab (qae qag)))))))) (fun _ h=>h ▸ aa.cells) rfl aD fun bt al=>?_
  refine (Bool.eq_false_or_eq_true (decide (((k:Nat):Int) > 0))).elim (fun ac=>?_) (fun ac=>?_)
  ·
   have aZ:=of_decide_eq_true ac
   have aE:=al.cast (env':=[(0,.v (.slice A u.length c)),(3,.v (.int .i64 ((k:Nat):Int))),(5,.v (.int .i64 ((u.length:Nat):Int))),(6,.v (.int .i64 ((k:Nat):Int))),(12,.v (.bool true))]) (by rw [ac])
   refine qaI [3,4,8,9,10] [(0,.v (.slice A u.length c)),(3,.v (.int .i64 ((k:Nat):Int))),(5,.v (.int .i64 ((u.length:Nat):Int))),(6,.v (.int .i64 ((k:Nat):Int))),(12,.v (.bool true)),(13,.v (.slice A u.length c)),(14,.v (.int .i64 ((k:Nat):Int))),(18,.v (.slice A u.length c)),(20,.v (.int .i64 (IntKind.i64.wrap (((k:Nat):Int) - 1))))] 8 (qab (qab (qab (qae (qae (qab (qab (qae qag)))))))) (fun _ h=>h ▸ aa.cells) rfl aE fun bu aF=>?_
   obtain ⟨az,aA,aG,ba,ae⟩:=Slots.get h2 (i:=k) (by omega)
   obtain ⟨⟨af,bd⟩,am⟩:∃ x,u[k]? = some x:=⟨_,List.getElem?_eq_getElem (by omega)⟩
   obtain ⟨⟨bw,bx,ao,bf⟩,bz,bA⟩:=h3 k af bd am
   rw [ao] at ae
   refine qaR aF (i:=5) (t:=35) (A:=A) (m:=u.length) (q:=((k:Nat):Int)) (d:=15) kz (e:=69) (size:=2) (bytes:=32) kz aG rfl (by omega) kz kz (qab (qab (qab (qae (qae (qab (qab (qae qag)))))))) rfl fun bB aH=>?_
   refine qaI [6] [(0,.v (.slice A u.length c)),(3,.v (.int .i64 ((k:Nat):Int))),(5,.v (.int .i64 ((u.length:Nat):Int))),(6,.v (.int .i64 ((k:Nat):Int))),(12,.v (.bool true)),(16,.v (.pointer (some ⟨az,aA + k * 2,none⟩))),(18,.v (.slice A u.length c)),(20,.v (.int .i64 (IntKind.i64.wrap (((k:Nat):Int) - 1))))] 6 (qab (qab (qab (qae (qae (qab (qab (qae qag)))))))) (fun _ h=>h ▸ aa.cells) rfl aH fun bC aI=>?_
   refine qbj aI (i:=7) (t:=64) (b:=az) (o:=aA + k * 2) (d:=17) kz (cs:=[.int .u32 af]) (v:=.int .u32 af) kz (fun w' h'=>h' ▸ (At.drop (AtF.move ae aa.step nilM qbk).at_ 0 1)) kz kz (qab (qab (qab (qae (qae (qab (qab (qae qag)))))))) rfl fun bD aJ=>?_
   have aK:IntKind.i64.wrap (((k:Nat):Int) - 1) = (((k - 1):Nat):Int):=by simp only [qc3,qaB,qbP,IntKind.wrap_i64,IntKind.wrap_i32]; omega
   have aL:=EnvOk.pick aJ (ks:=[0,3,5,6,12,16,18,20,17]) (env':=[(0,.v (.slice A u.length c)),(3,.v (.int .i64 ((k:Nat):Int))),(5,.v (.int .i64 ((u.length:Nat):Int))),(6,.v (.int .i64 ((k:Nat):Int))),(12,.v (.bool true)),(16,.v (.pointer (some ⟨az,aA + k * 2,none⟩))),(18,.v (.slice A u.length c)),(20,.v (.int .i64 (IntKind.i64.wrap (((k:Nat):Int) - 1)))),(17,.v (.int .u32 af))]) kz
   have aM:=aL.cast (env':=[(0,.v (.slice A u.length c)),(3,.v (.int .i64 ((k:Nat):Int))),(5,.v (.int .i64 ((u.length:Nat):Int))),(6,.v (.int .i64 ((k:Nat):Int))),(12,.v (.bool true)),(16,.v (.pointer (some ⟨az,aA + k * 2,none⟩))),(18,.v (.slice A u.length c)),(20,.v (.int .i64 (((k - 1):Nat):Int))),(17,.v (.int .u32 af))]) (by rw [aK])
   obtain ⟨aU,aV,aN,bg,ag⟩:=Slots.get h2 (i:=(k - 1)) (by omega)
   obtain ⟨⟨ap,bh⟩,ar⟩:∃ x,u[(k - 1)]? = some x:=⟨_,List.getElem?_eq_getElem (by omega)⟩
   obtain ⟨⟨bE,bF,au,bi⟩,bG,bH⟩:=h3 (k - 1) ap bh ar
   rw [au] at ag
   refine qaR aM (i:=11) (t:=35) (A:=A) (m:=u.length) (q:=(((k - 1):Nat):Int)) (d:=21) kz (e:=69) (size:=2) (bytes:=32) kz aN rfl (by omega) kz kz (qab (qab (qab (qae (qae (qab (qab (qae qag)))))))) rfl fun bI aO=>?_
   refine qaI [12] [(0,.v (.slice A u.length c)),(3,.v (.int .i64 ((k:Nat):Int))),(5,.v (.int .i64 ((u.length:Nat):Int))),(6,.v (.int .i64 ((k:Nat):Int))),(12,.v (.bool true)),(17,.v (.int .u32 af)),(22,.v (.pointer (some ⟨aU,aV + (k - 1) * 2,none⟩)))] 3 (qab (qab (qab (qae (qae (qab (qab (qae qag)))))))) (fun _ h=>h ▸ aa.cells) rfl aO fun bJ aP=>?_
   refine qbj aP (i:=13) (t:=64) (b:=aU) (o:=aV + (k - 1) * 2) (d:=23) kz (cs:=[.int .u32 ap]) (v:=.int .u32 ap) kz (fun w' h'=>h' ▸ (At.drop (AtF.move ag aa.step nilM qbk).at_ 0 1)) kz kz (qab (qab (qab (qae (qae (qab (qab (qae qag)))))))) rfl fun bK aQ=>?_
   refine qaI [14,15] [(0,.v (.slice A u.length c)),(3,.v (.int .i64 ((k:Nat):Int))),(5,.v (.int .i64 ((u.length:Nat):Int))),(6,.v (.int .i64 ((k:Nat):Int))),(25,.v (.bool (decide (af < ap))))] 0 (qab (qab (qab (qae (qae (qab (qab (qae qag)))))))) (fun _ h=>h ▸ aa.cells) rfl aQ fun bL av=>?_
   refine qaH kz ?_ _
   refine qac ?_
   refine qat av (b:=decide (af < ap)) kz (decide_eq_false (qix hsrt am ar (by omega))) ?_
   refine wp_exit ?_
   refine qaz ?_
   refine qaz ?_
   refine qaT ?_
   refine qas ?_
   refine qac ?_
   refine qaq [0,1] kz ?_
   refine qal [0,1] [] [(0,.v (.slice A u.length c)),(5,.v (.int .i64 ((u.length:Nat):Int))),(6,.v (.int .i64 (IntKind.i64.wrap (((k:Nat):Int) + 1))))] aa av fun bM aw=>?_
   refine qah (qac ?_)
   have aR:IntKind.i64.wrap (((k:Nat):Int) + 1) = ((k + 1:Nat):Int):=qaX (by omega)
   rw [aR] at aw
   exact ⟨u.length - (k + 1),by omega,k + 1,rfl,by omega,aw.pk,aa,(aj.trans ak)⟩
  have bj:=of_decide_eq_false ac
  have aS:=al.cast (env':=[(0,.v (.slice A u.length c)),(3,.v (.int .i64 ((k:Nat):Int))),(5,.v (.int .i64 ((u.length:Nat):Int))),(6,.v (.int .i64 ((k:Nat):Int))),(12,.v (.bool false))]) (by rw [ac])
  refine qaI [3,4,5,6,7,8,9,10,11,12,13,14,15] [(0,.v (.slice A u.length c)),(3,.v (.int .i64 ((k:Nat):Int))),(5,.v (.int .i64 ((u.length:Nat):Int))),(6,.v (.int .i64 ((k:Nat):Int))),(25,.v (.bool false))] 0 (qab (qab (qab (qae (qae (qab (qab (qae qag)))))))) (fun _ h=>h ▸ aa.cells) rfl aS fun bN ax=>?_
  refine qaH kz ?_ _
  refine qac ?_
  refine qat ax (b:=false) kz rfl ?_
  refine wp_exit ?_
  refine qaz ?_
  refine qaz ?_
  refine qaT ?_
  refine qas ?_
  refine qac ?_
  refine qaq [0,1] kz ?_
  refine qal [0,1] [] [(0,.v (.slice A u.length c)),(5,.v (.int .i64 ((u.length:Nat):Int))),(6,.v (.int .i64 (IntKind.i64.wrap (((k:Nat):Int) + 1))))] aa ax fun bO ay=>?_
  refine qah (qac ?_)
  have aT:IntKind.i64.wrap (((k:Nat):Int) + 1) = ((k + 1:Nat):Int):=qaX (by omega)
  rw [aT] at ay
  exact ⟨u.length - (k + 1),by omega,k + 1,rfl,by omega,ay.pk,aa,(aj.trans ak)⟩
 have bk:=of_decide_eq_false ai
 refine wp_exit ?_
 refine qaz ?_
 refine qaz ?_
 refine qaT ?_
 refine qbV ah ab.cells (v:=.tuple #[]) kz ?_
 exact ⟨rfl,ab.step⟩
theorem qcL:qfD Tryz.prog 65 69:=by
 intro w B cp c n k A Av x x0 x1 x2 x3 xs G hbx ho hG hn
 refine enter (n:=14) Tryz.func65 rfl Tryz.ntmps65 kz fun a hE=>?_
 have hW:=hbx.wok
 have hE0:=(hE.grow ⟨B,0,[x0,x1,x2,x3,.slice A n cp],true⟩).recast 2 (.v (.pointer (some ⟨B,0,none⟩))) (.p 0 0) rfl rfl (by simp [SV.ok])
 have hsm:=Slots.small ho
 have ap:=hE0.pk (env':=[(0,.v (.int .u32 k)),(1,.v (.slice Av x.length c)),(2,.p 0 0)])
 refine qcO 9 kz hW fun w1 hF2 hW3 hT4=>?_
 refine qaI [0,1,2,3] [(2,.p 0 0),(6,.v (.slice A n cp)),(7,.v (.int .u32 k)),(8,.v (.slice Av x.length c))] 6 qag (fun _ h=>h.cells) hT4 ap fun a5 hE6=>?_
 have hW7:=hW3.addNil 5 1
 have hF8:=hW3.frNil 5 1
 refine qau (i:=4) kz (qaY hW7 hE6 (k:=1) (d:=9) (t:=22) (e:=5) (size:=1) (bytes:=1) (A:=none) (As:=Av) (m0:=0) (c:=0) (m:=x.length) (cs:=c) (xs:=[]) (news:=bc x) kz kz rfl (ho.move hW7.step (fun b o h _=>hG b o h) qbk).src (ho.move hW7.step (fun b o h _=>hG b o h) qbk).cap (by first | omega | (simp only [List.length_nil]; omega) | (simp; omega)) fun A9 aa aK aL ac ar au=>?_)
 have av:(⟨A9,aa,5,1,0 + x.length,[] ++ bc x⟩:Rw) = brow A9 aa 5 x:=by rw [List.nil_append,Nat.zero_add]
 obtain ⟨af,ae⟩:=ar.rowEq 1 [⟨A,cp,69,2,n,xs⟩,brow A9 aa 5 x] av
 have aw:=EnvOk.pick au (ks:=[2,6,7,8,9]) (env':=[(2,.p 0 0),(6,.v (.slice A n cp)),(7,.v (.int .u32 k)),(8,.v (.slice Av x.length c)),(9,.v (.slice A9 (0 + x.length) aa))]) kz
 have ax:=aw.cast (env':=[(2,.p 0 0),(6,.v (.slice A n cp)),(7,.v (.int .u32 k)),(8,.v (.slice Av x.length c)),(9,.v (.slice A9 x.length aa))]) (by simp only [List.length_append,List.length_cons,List.length_nil,Nat.zero_add])
 have ag:=TT.ofW ((hF8.trans ac).trans ae) af
 refine ⟨fun _=>ag,?_⟩
 refine qaI [5] [(2,.p 0 0),(6,.v (.slice A n cp)),(10,.v (.agg #[.int .u32 k,.slice A9 x.length aa]))] 4 qag (fun _ h=>h.cells) ag ax fun aM ay=>?_
 refine qau (i:=6) kz (qbA af ay (e:=69) (size:=2) (len:=1) (cs:=[.int .u32 k,.slice A9 x.length aa]) (d:=11) kz kz fun aF aN aO aG aH ah ab az=>?_)
 have aA:=TT.ofW (((hF8.trans ac).trans ae).trans ah) ab
 refine ⟨fun _=>aA,?_⟩
 refine qau (i:=7) kz (qaY ab az (k:=0) (d:=12) (t:=35) (e:=69) (size:=2) (bytes:=32) (A:=A) (As:=(some ⟨aF,0,none⟩)) (m0:=n) (c:=cp) (m:=1) (cs:=1) (xs:=xs) (news:=[.int .u32 k,.slice A9 x.length aa]) kz kz rfl (qbH (ab.own 2 _ rfl) (qbD kz)) (qbQ (ab.own 2 _ rfl)) (by first | omega | (simp only [List.length_nil]; omega) | (simp; omega)) fun am ao aP aQ aB ai aC=>?_)
 have aj:=TT.ofW ((((hF8.trans ac).trans ae).trans ah).trans aB) ai
 refine ⟨fun _=>aj,?_⟩
 refine qaI [8] [(12,.v (.slice am (n + 1) ao)),(13,.p 0 4)] 1 qag (fun _ h=>h.cells) aj aC fun aR aD=>?_
 refine qau (i:=9) kz (qav ai aD (oi:=0) (cs:=[x0,x1,x2,x3,.slice am (n + 1) ao]) kz fun aS aI ak aE=>?_)
 refine ⟨fun h=>absurd rfl h,?_⟩
 refine qaH kz ?_ _
 refine qbV aE ak.cells (v:=.tuple #[]) kz ?_
 obtain ⟨al,aJ⟩:=ak.cutR 2 [⟨am,ao,69,2,n + 1,xs ++ [.int .u32 k,.slice A9 x.length aa]⟩,brow A9 aa 5 x]
 have hoo:=qeE (s:=x) (Av:=A9) (c:=aa) (e8:=5) rfl al (by omega)
 obtain ⟨hb1,hb2,hb3⟩:=qgm al (World.lt_of_cell (hbx.str.at_ 0 _ rfl))
 exact ⟨rfl,am,ao,A9,aa,hb1,hoo,hb2,hb3⟩
theorem qcf:qfD Tryz.prog 103 69:=by
 intro w B cp c n k A Av x x0 x1 x2 x3 xs G hbx ho hG hn
 refine enter (n:=14) Tryz.func103 rfl Tryz.ntmps103 kz fun a hE=>?_
 have hW:=hbx.wok
 have hE0:=(hE.grow ⟨B,0,[x0,x1,x2,x3,.slice A n cp],true⟩).recast 2 (.v (.pointer (some ⟨B,0,none⟩))) (.p 0 0) rfl rfl (by simp [SV.ok])
 have hsm:=Slots.small ho
 have ap:=hE0.pk (env':=[(0,.v (.int .u32 k)),(1,.v (.slice Av x.length c)),(2,.p 0 0)])
 refine qcO 9 kz hW fun w1 hF2 hW3 hT4=>?_
 refine qaI [0,1,2,3] [(2,.p 0 0),(6,.v (.slice A n cp)),(7,.v (.int .u32 k)),(8,.v (.slice Av x.length c))] 6 qag (fun _ h=>h.cells) hT4 ap fun a5 hE6=>?_
 have hW7:=hW3.addNil 5 1
 have hF8:=hW3.frNil 5 1
 refine qau (i:=4) kz (qaY hW7 hE6 (k:=1) (d:=9) (t:=22) (e:=5) (size:=1) (bytes:=1) (A:=none) (As:=Av) (m0:=0) (c:=0) (m:=x.length) (cs:=c) (xs:=[]) (news:=bc x) kz kz rfl (ho.move hW7.step (fun b o h _=>hG b o h) qbk).src (ho.move hW7.step (fun b o h _=>hG b o h) qbk).cap (by first | omega | (simp only [List.length_nil]; omega) | (simp; omega)) fun A9 aa aK aL ac ar au=>?_)
 have av:(⟨A9,aa,5,1,0 + x.length,[] ++ bc x⟩:Rw) = brow A9 aa 5 x:=by rw [List.nil_append,Nat.zero_add]
 obtain ⟨af,ae⟩:=ar.rowEq 1 [⟨A,cp,69,2,n,xs⟩,brow A9 aa 5 x] av
 have aw:=EnvOk.pick au (ks:=[2,6,7,8,9]) (env':=[(2,.p 0 0),(6,.v (.slice A n cp)),(7,.v (.int .u32 k)),(8,.v (.slice Av x.length c)),(9,.v (.slice A9 (0 + x.length) aa))]) kz
 have ax:=aw.cast (env':=[(2,.p 0 0),(6,.v (.slice A n cp)),(7,.v (.int .u32 k)),(8,.v (.slice Av x.length c)),(9,.v (.slice A9 x.length aa))]) (by simp only [List.length_append,List.length_cons,List.length_nil,Nat.zero_add])
 have ag:=TT.ofW ((hF8.trans ac).trans ae) af
 refine ⟨fun _=>ag,?_⟩
 refine qaI [5] [(2,.p 0 0),(6,.v (.slice A n cp)),(10,.v (.agg #[.int .u32 k,.slice A9 x.length aa]))] 4 qag (fun _ h=>h.cells) ag ax fun aM ay=>?_
 refine qau (i:=6) kz (qbA af ay (e:=69) (size:=2) (len:=1) (cs:=[.int .u32 k,.slice A9 x.length aa]) (d:=11) kz kz fun aF aN aO aG aH ah ab az=>?_)
 have aA:=TT.ofW (((hF8.trans ac).trans ae).trans ah) ab
 refine ⟨fun _=>aA,?_⟩
 refine qau (i:=7) kz (qaY ab az (k:=0) (d:=12) (t:=35) (e:=69) (size:=2) (bytes:=32) (A:=A) (As:=(some ⟨aF,0,none⟩)) (m0:=n) (c:=cp) (m:=1) (cs:=1) (xs:=xs) (news:=[.int .u32 k,.slice A9 x.length aa]) kz kz rfl (qbH (ab.own 2 _ rfl) (qbD kz)) (qbQ (ab.own 2 _ rfl)) (by first | omega | (simp only [List.length_nil]; omega) | (simp; omega)) fun am ao aP aQ aB ai aC=>?_)
 have aj:=TT.ofW ((((hF8.trans ac).trans ae).trans ah).trans aB) ai
 refine ⟨fun _=>aj,?_⟩
 refine qaI [8] [(12,.v (.slice am (n + 1) ao)),(13,.p 0 4)] 1 qag (fun _ h=>h.cells) aj aC fun aR aD=>?_
 refine qau (i:=9) kz (qav ai aD (oi:=0) (cs:=[x0,x1,x2,x3,.slice am (n + 1) ao]) kz fun aS aI ak aE=>?_)
 refine ⟨fun h=>absurd rfl h,?_⟩
 refine qaH kz ?_ _
 refine qbV aE ak.cells (v:=.tuple #[]) kz ?_
 obtain ⟨al,aJ⟩:=ak.cutR 2 [⟨am,ao,69,2,n + 1,xs ++ [.int .u32 k,.slice A9 x.length aa]⟩,brow A9 aa 5 x]
 have hoo:=qeE (s:=x) (Av:=A9) (c:=aa) (e8:=5) rfl al (by omega)
 obtain ⟨hb1,hb2,hb3⟩:=qgm al (World.lt_of_cell (hbx.str.at_ 0 _ rfl))
 exact ⟨rfl,am,ao,A9,aa,hb1,hoo,hb2,hb3⟩
theorem qb4:qfD Tryz.prog 132 69:=by
 intro w B cp c n k A Av x x0 x1 x2 x3 xs G hbx ho hG hn
 refine enter (n:=14) Tryz.func132 rfl Tryz.ntmps132 kz fun a hE=>?_
 have hW:=hbx.wok
 have hE0:=(hE.grow ⟨B,0,[x0,x1,x2,x3,.slice A n cp],true⟩).recast 2 (.v (.pointer (some ⟨B,0,none⟩))) (.p 0 0) rfl rfl (by simp [SV.ok])
 have hsm:=Slots.small ho
 have ap:=hE0.pk (env':=[(0,.v (.int .u32 k)),(1,.v (.slice Av x.length c)),(2,.p 0 0)])
 refine qcO 9 kz hW fun w1 hF2 hW3 hT4=>?_
 refine qaI [0,1,2,3] [(2,.p 0 0),(6,.v (.slice A n cp)),(7,.v (.int .u32 k)),(8,.v (.slice Av x.length c))] 6 qag (fun _ h=>h.cells) hT4 ap fun a5 hE6=>?_
 have hW7:=hW3.addNil 5 1
 have hF8:=hW3.frNil 5 1
 refine qau (i:=4) kz (qaY hW7 hE6 (k:=1) (d:=9) (t:=22) (e:=5) (size:=1) (bytes:=1) (A:=none) (As:=Av) (m0:=0) (c:=0) (m:=x.length) (cs:=c) (xs:=[]) (news:=bc x) kz kz rfl (ho.move hW7.step (fun b o h _=>hG b o h) qbk).src (ho.move hW7.step (fun b o h _=>hG b o h) qbk).cap (by first | omega | (simp only [List.length_nil]; omega) | (simp; omega)) fun A9 aa aK aL ac ar au=>?_)
 have av:(⟨A9,aa,5,1,0 + x.length,[] ++ bc x⟩:Rw) = brow A9 aa 5 x:=by rw [List.nil_append,Nat.zero_add]
 obtain ⟨af,ae⟩:=ar.rowEq 1 [⟨A,cp,69,2,n,xs⟩,brow A9 aa 5 x] av
 have aw:=EnvOk.pick au (ks:=[2,6,7,8,9]) (env':=[(2,.p 0 0),(6,.v (.slice A n cp)),(7,.v (.int .u32 k)),(8,.v (.slice Av x.length c)),(9,.v (.slice A9 (0 + x.length) aa))]) kz
 have ax:=aw.cast (env':=[(2,.p 0 0),(6,.v (.slice A n cp)),(7,.v (.int .u32 k)),(8,.v (.slice Av x.length c)),(9,.v (.slice A9 x.length aa))]) (by simp only [List.length_append,List.length_cons,List.length_nil,Nat.zero_add])
 have ag:=TT.ofW ((hF8.trans ac).trans ae) af
 refine ⟨fun _=>ag,?_⟩
 refine qaI [5] [(2,.p 0 0),(6,.v (.slice A n cp)),(10,.v (.agg #[.int .u32 k,.slice A9 x.length aa]))] 4 qag (fun _ h=>h.cells) ag ax fun aM ay=>?_
 refine qau (i:=6) kz (qbA af ay (e:=69) (size:=2) (len:=1) (cs:=[.int .u32 k,.slice A9 x.length aa]) (d:=11) kz kz fun aF aN aO aG aH ah ab az=>?_)
 have aA:=TT.ofW (((hF8.trans ac).trans ae).trans ah) ab
 refine ⟨fun _=>aA,?_⟩
 refine qau (i:=7) kz (qaY ab az (k:=0) (d:=12) (t:=35) (e:=69) (size:=2) (bytes:=32) (A:=A) (As:=(some ⟨aF,0,none⟩)) (m0:=n) (c:=cp) (m:=1) (cs:=1) (xs:=xs) (news:=[.int .u32 k,.slice A9 x.length aa]) kz kz rfl (qbH (ab.own 2 _ rfl) (qbD kz)) (qbQ (ab.own 2 _ rfl)) (by first | omega | (simp only [List.length_nil]; omega) | (simp; omega)) fun am ao aP aQ aB ai aC=>?_)
 have aj:=TT.ofW ((((hF8.trans ac).trans ae).trans ah).trans aB) ai
 refine ⟨fun _=>aj,?_⟩
 refine qaI [8] [(12,.v (.slice am (n + 1) ao)),(13,.p 0 4)] 1 qag (fun _ h=>h.cells) aj aC fun aR aD=>?_
 refine qau (i:=9) kz (qav ai aD (oi:=0) (cs:=[x0,x1,x2,x3,.slice am (n + 1) ao]) kz fun aS aI ak aE=>?_)
 refine ⟨fun h=>absurd rfl h,?_⟩
 refine qaH kz ?_ _
 refine qbV aE ak.cells (v:=.tuple #[]) kz ?_
 obtain ⟨al,aJ⟩:=ak.cutR 2 [⟨am,ao,69,2,n + 1,xs ++ [.int .u32 k,.slice A9 x.length aa]⟩,brow A9 aa 5 x]
 have hoo:=qeE (s:=x) (Av:=A9) (c:=aa) (e8:=5) rfl al (by omega)
 obtain ⟨hb1,hb2,hb3⟩:=qgm al (World.lt_of_cell (hbx.str.at_ 0 _ rfl))
 exact ⟨rfl,am,ao,A9,aa,hb1,hoo,hb2,hb3⟩
theorem qbN:qfD Tryz.prog 142 69:=by
 intro w B cp c n k A Av x x0 x1 x2 x3 xs G hbx ho hG hn
 refine enter (n:=14) Tryz.func142 rfl Tryz.ntmps142 kz fun a hE=>?_
 have hW:=hbx.wok
 have hE0:=(hE.grow ⟨B,0,[x0,x1,x2,x3,.slice A n cp],true⟩).recast 2 (.v (.pointer (some ⟨B,0,none⟩))) (.p 0 0) rfl rfl (by simp [SV.ok])
 have hsm:=Slots.small ho
 have ap:=hE0.pk (env':=[(0,.v (.int .u32 k)),(1,.v (.slice Av x.length c)),(2,.p 0 0)])
 refine qcO 9 kz hW fun w1 hF2 hW3 hT4=>?_
 refine qaI [0,1,2,3] [(2,.p 0 0),(6,.v (.slice A n cp)),(7,.v (.int .u32 k)),(8,.v (.slice Av x.length c))] 6 qag (fun _ h=>h.cells) hT4 ap fun a5 hE6=>?_
 have hW7:=hW3.addNil 5 1
 have hF8:=hW3.frNil 5 1
 refine qau (i:=4) kz (qaY hW7 hE6 (k:=1) (d:=9) (t:=22) (e:=5) (size:=1) (bytes:=1) (A:=none) (As:=Av) (m0:=0) (c:=0) (m:=x.length) (cs:=c) (xs:=[]) (news:=bc x) kz kz rfl (ho.move hW7.step (fun b o h _=>hG b o h) qbk).src (ho.move hW7.step (fun b o h _=>hG b o h) qbk).cap (by first | omega | (simp only [List.length_nil]; omega) | (simp; omega)) fun A9 aa aK aL ac ar au=>?_)
 have av:(⟨A9,aa,5,1,0 + x.length,[] ++ bc x⟩:Rw) = brow A9 aa 5 x:=by rw [List.nil_append,Nat.zero_add]
 obtain ⟨af,ae⟩:=ar.rowEq 1 [⟨A,cp,69,2,n,xs⟩,brow A9 aa 5 x] av
 have aw:=EnvOk.pick au (ks:=[2,6,7,8,9]) (env':=[(2,.p 0 0),(6,.v (.slice A n cp)),(7,.v (.int .u32 k)),(8,.v (.slice Av x.length c)),(9,.v (.slice A9 (0 + x.length) aa))]) kz
 have ax:=aw.cast (env':=[(2,.p 0 0),(6,.v (.slice A n cp)),(7,.v (.int .u32 k)),(8,.v (.slice Av x.length c)),(9,.v (.slice A9 x.length aa))]) (by simp only [List.length_append,List.length_cons,List.length_nil,Nat.zero_add])
 have ag:=TT.ofW ((hF8.trans ac).trans ae) af
 refine ⟨fun _=>ag,?_⟩
 refine qaI [5] [(2,.p 0 0),(6,.v (.slice A n cp)),(10,.v (.agg #[.int .u32 k,.slice A9 x.length aa]))] 4 qag (fun _ h=>h.cells) ag ax fun aM ay=>?_
 refine qau (i:=6) kz (qbA af ay (e:=69) (size:=2) (len:=1) (cs:=[.int .u32 k,.slice A9 x.length aa]) (d:=11) kz kz fun aF aN aO aG aH ah ab az=>?_)
 have aA:=TT.ofW (((hF8.trans ac).trans ae).trans ah) ab
 refine ⟨fun _=>aA,?_⟩
 refine qau (i:=7) kz (qaY ab az (k:=0) (d:=12) (t:=35) (e:=69) (size:=2) (bytes:=32) (A:=A) (As:=(some ⟨aF,0,none⟩)) (m0:=n) (c:=cp) (m:=1) (cs:=1) (xs:=xs) (news:=[.int .u32 k,.slice A9 x.length aa]) kz kz rfl (qbH (ab.own 2 _ rfl) (qbD kz)) (qbQ (ab.own 2 _ rfl)) (by first | omega | (simp only [List.length_nil]; omega) | (simp; omega)) fun am ao aP aQ aB ai aC=>?_)
 have aj:=TT.ofW ((((hF8.trans ac).trans ae).trans ah).trans aB) ai
 refine ⟨fun _=>aj,?_⟩
 refine qaI [8] [(12,.v (.slice am (n + 1) ao)),(13,.p 0 4)] 1 qag (fun _ h=>h.cells) aj aC fun aR aD=>?_
 refine qau (i:=9) kz (qav ai aD (oi:=0) (cs:=[x0,x1,x2,x3,.slice am (n + 1) ao]) kz fun aS aI ak aE=>?_)
 refine ⟨fun h=>absurd rfl h,?_⟩
 refine qaH kz ?_ _
 refine qbV aE ak.cells (v:=.tuple #[]) kz ?_
 obtain ⟨al,aJ⟩:=ak.cutR 2 [⟨am,ao,69,2,n + 1,xs ++ [.int .u32 k,.slice A9 x.length aa]⟩,brow A9 aa 5 x]
 have hoo:=qeE (s:=x) (Av:=A9) (c:=aa) (e8:=5) rfl al (by omega)
 obtain ⟨hb1,hb2,hb3⟩:=qgm al (World.lt_of_cell (hbx.str.at_ 0 _ rfl))
 exact ⟨rfl,am,ao,A9,aa,hb1,hoo,hb2,hb3⟩
theorem n8w (x:Int):IntKind.i8.wrap x = (x + 128) % 256 - 128:=by simp [IntKind.wrap,IntKind.signed,IntKind.bits]; omega
theorem n16w (x:Int):IntKind.i16.wrap x = (x + 32768) % 65536 - 32768:=by simp [IntKind.wrap,IntKind.signed,IntKind.bits]; omega
theorem n32w (x:Int):IntKind.i32.wrap x = (x + 2147483648) % 4294967296 - 2147483648:=by simp [IntKind.wrap,IntKind.signed,IntKind.bits]; omega
theorem n64w (x:Int):IntKind.i64.wrap x = (x + 9223372036854775808) % 18446744073709551616 - 9223372036854775808:=by simp [IntKind.wrap,IntKind.signed,IntKind.bits]; omega
theorem qiz (x:Int):IntKind.i64.wrap (IntKind.i8.wrap x) = IntKind.i8.wrap x:=by rw [n64w,n8w]; omega
theorem qe0 (x:Int):IntKind.i64.wrap (IntKind.i16.wrap x) = IntKind.i16.wrap x:=by rw [n64w,n16w]; omega
theorem qe1 (x:Int):IntKind.i64.wrap (IntKind.i32.wrap x) = IntKind.i32.wrap x:=by rw [n64w,n32w]; omega
theorem qeV (x:Int):IntKind.i64.wrap (IntKind.u16.wrap x) = IntKind.u16.wrap x:=by rw [n64w,qbP]; omega
def qbK (k n:Int):Int:=if k = 0 then n % 2 else if k = 1 then IntKind.i8.wrap n else if k = 2 then IntKind.i16.wrap n else if k = 3 then IntKind.i32.wrap n else if k = 5 then IntKind.u16.wrap n else n
structure UsQ (U:List Fld → Tree → Prop) (k x1 x2 x3 x4 x5 x6:Int) (sub:List Fld) (n:Int) (s:Bs) (b:Bool) (l:List Tree) (u:List (Int × Bs)):Prop where
 text:k = 8 → b = decide (x3 ≥ 0) ∧ s = []
 uuid:k = 7 → s = List.replicate 16 0
 octs:k = 9 ∨ k = 11 → s = [] ∧ l = []
 part:k = 10 → (x3 ≥ 0 → b = true) ∧ (x3 < 0 → U sub (.mk n s b l u))
 num:k ≠ 7 → k ≠ 8 → k ≠ 9 → k ≠ 10 → k ≠ 11 → n = qbK k x5
def UsF (U:List Fld → Tree → Prop):Fld → Tree → Prop
 | .mk k x1 x2 x3 x4 x5 x6 sub,.mk n s b l u=>UsQ U k x1 x2 x3 x4 x5 x6 sub n s b l u
def UsP (U:List Fld → Tree → Prop) (l:List Fld) (g:Tree):Prop:=g.U = [] ∧ ∀ (i:Nat) (f:Fld),l[i]? = some f → UsF U f (g.at_ i)
def qjC:Nat → List Fld → Tree → Prop
 | 0=>UsP fun _ _=>False
 | d + 1=>UsP (qjC d)
structure ToQ (T:List Fld → Tree → Tree → Prop) (v:Int) (f:Fld) (k x3:Int) (sub:List Fld) (t:Tree) (tn:Int) (ts:Bs) (n:Int) (s:Bs) (b:Bool) (g:Tree):Prop where
 null:k = 8 ∨ k = 10 ∨ (x3 ≥ 0 ∧ v ≥ x3) → b = f.nul v t
 text:f.nul v t = false → k = 8 ∨ k = 9 → s = qaL ts
 uuid:f.nul v t = false → k = 7 → s = qby ts
 part:f.nul v t = false → k = 10 → T sub t g
 num:f.nul v t = false → k ≠ 7 → k ≠ 8 → k ≠ 9 → k ≠ 10 → k ≠ 11 → n = qbK k tn
def ToF0 (T:List Fld → Tree → Tree → Prop) (v:Int):Fld → Tree → Tree → Prop
 | .mk k x1 x2 x3 x4 x5 x6 sub,.mk tn ts tb tl tu,.mk n s b l u=>ToQ T v (.mk k x1 x2 x3 x4 x5 x6 sub) k x3 sub (.mk tn ts tb tl tu) tn ts n s b (.mk n s b l u)
def ToF (T:List Fld → Tree → Tree → Prop) (v:Int) (f:Fld) (t g:Tree):Prop :=
 ToF0 T v f t g ∧ (f.kind = 11 → f.nul v t = false → g.L.length = (qao t.L).length ∧ ∀ (i:Nat) (x y:Tree),(qao t.L)[i]? = some x → g.L[i]? = some y → ToF0 T v f.elem x y)
def Fld.pres (f:Fld) (v:Int) (flex:Bool) (x:Tree):Bool:=(decide (f.tag < 0) && f.has v) || (decide (f.tag ≥ 0) && (flex && !f.usual x))
def ToP (T:List Fld → Tree → Tree → Prop) (U:List Fld → Tree → Prop) (l:List Fld) (v:Int) (flex:Bool) (t g:Tree):Prop :=
 g.L.length = l.length ∧ (∀ (i:Nat) (f:Fld) (y:Tree),l[i]? = some f → g.L[i]? = some y → (f.pres v flex (t.at_ i) = true → ToF T v f (t.at_ i) y) ∧ (f.pres v flex (t.at_ i) = false → UsF U f y)) ∧
  g.U = (if flex = true then qcw (qak l t.U) else [])
def qhy (v:Int) (flex:Bool):Nat → List Fld → Tree → Tree → Prop
 | 0=>fun l t g=>ToP (fun _ _ _=>False) (fun _ _=>False) l v flex t g
 | d + 1=>fun l t g=>ToP (qhy v flex d) (qjC d) l v flex t g
theorem qkx {U:List Fld → Tree → Prop} {f:Fld} {y:Tree} (h:UsF U f y):UsP U [f] (.mk 0 [] false [y] []):=by
 refine ⟨rfl,fun i g hg=>?_⟩
 cases i with
 | zero =>
  simp only [List.getElem?_cons_zero,Option.some.injEq] at hg
  subst hg
  exact h
 | succ i=>simp at hg
theorem qjD {w:World} {e:Nat} {A:Option Addr} {c:Nat} {F:Nat → Nat → Prop} (h:w.ownsRow 0 e 1 (.slice A 16 c) 16 (List.replicate 16 (.int .u8 0))) (hF:∀ g,A.map (·.block) = some g → ∀ o,F g o):Octs w F A c (List.replicate 16 0) :=
 qck (s:=List.replicate 16 0) h (by decide) hF
section
variable {U:List Fld → Tree → Prop} {k x1 x2 x3 x4 x5 x6 n:Int} {sub:List Fld} {s:Bs} {b:Bool} {l:List Tree} {u:List (Int × Bs)}
abbrev UsH (U:List Fld → Tree → Prop) (k x1 x2 x3 x4 x5 x6:Int) (sub:List Fld) (n:Int) (s:Bs) (b:Bool) (l:List Tree) (u:List (Int × Bs)):Prop:=UsF U (.mk k x1 x2 x3 x4 x5 x6 sub) (.mk n s b l u)
theorem us_q (h:UsH U k x1 x2 x3 x4 x5 x6 sub n s b l u):UsQ U k x1 x2 x3 x4 x5 x6 sub n s b l u:=h
theorem qgp (h:UsH U k x1 x2 x3 x4 x5 x6 sub n s b l u) (hk:k = 8) (hc:(b != decide (x3 ≥ 0)) = true):False:=by
 have:=((us_q h).text hk).1
 rw [this] at hc; simp at hc
theorem qgq (h:UsH U k x1 x2 x3 x4 x5 x6 sub n s b l u) (hk:k = 8) (hc:((s.length:Nat):Int) > 0):False:=by
 have:=((us_q h).text hk).2
 rw [this] at hc; simp at hc
theorem us_7 (h:UsH U k x1 x2 x3 x4 x5 x6 sub n s b l u) (hk:k = 7) (hc:(!decide (s = (List.replicate 16 0:Bs))) = true):False:=by
 have:=(us_q h).uuid hk
 rw [this] at hc; simp at hc
theorem qgr (h:UsH U k x1 x2 x3 x4 x5 x6 sub n s b l u) (hk:k = 9) (hc:((s.length:Nat):Int) > 0):False:=by
 have:=((us_q h).octs (.inl hk)).1
 rw [this] at hc; simp at hc
theorem qgs (h:UsH U k x1 x2 x3 x4 x5 x6 sub n s b l u) (hk:k = 9) (hc:((l.length:Nat):Int) > 0):False:=by
 have:=((us_q h).octs (.inl hk)).2
 rw [this] at hc; simp at hc
theorem qeG (h:UsH U k x1 x2 x3 x4 x5 x6 sub n s b l u) (hk:k = 11) (hc:((s.length:Nat):Int) > 0):False:=by
 have:=((us_q h).octs (.inr hk)).1
 rw [this] at hc; simp at hc
theorem qeH (h:UsH U k x1 x2 x3 x4 x5 x6 sub n s b l u) (hk:k = 11) (hc:((l.length:Nat):Int) > 0):False:=by
 have:=((us_q h).octs (.inr hk)).2
 rw [this] at hc; simp at hc
theorem qgt (h:UsH U k x1 x2 x3 x4 x5 x6 sub n s b l u) (hk:k = 10) (h3:x3 ≥ 0) (hc:(!b) = true):False:=by
 have:=((us_q h).part hk).1 h3
 rw [this] at hc; simp at hc
theorem qky (h:UsH U k x1 x2 x3 x4 x5 x6 sub n s b l u) (hk:k = 10) (h3:x3 < 0):U sub (.mk n s b l u):=((us_q h).part hk).2 h3
theorem us_n (h:UsH U k x1 x2 x3 x4 x5 x6 sub n s b l u) (h7:k ≠ 7) (h8:k ≠ 8) (h9:k ≠ 9) (h10:k ≠ 10) (h11:k ≠ 11) (hc:n ≠ qbK k x5):False:=hc ((us_q h).num h7 h8 h9 h10 h11)
theorem us_u {g:Tree} (h:g.U = []) {u:List (Int × Bs)} (e:g.U = u) (hc:((u.length:Nat):Int) > 0):False:=by
 rw [← e,h] at hc; simp at hc
end
section
variable {T:List Fld → Tree → Tree → Prop} {v k x1 x2 x3 x4 x5 x6 tn n:Int} {sub:List Fld} {ts s:Bs} {tb b:Bool} {tl l:List Tree} {tu u:List (Int × Bs)}
abbrev ToH (T:List Fld → Tree → Tree → Prop) (v k x1 x2 x3 x4 x5 x6:Int) (sub:List Fld) (tn:Int) (ts:Bs) (tb:Bool) (tl:List Tree) (tu:List (Int × Bs)) (n:Int) (s:Bs) (b:Bool) (l:List Tree) (u:List (Int × Bs)):Prop:=ToF0 T v (.mk k x1 x2 x3 x4 x5 x6 sub) (.mk tn ts tb tl tu) (.mk n s b l u)
abbrev NulH (v k x1 x2 x3 x4 x5 x6:Int) (sub:List Fld) (tn:Int) (ts:Bs) (tb:Bool) (tl:List Tree) (tu:List (Int × Bs)):Bool:=Fld.nul (.mk k x1 x2 x3 x4 x5 x6 sub) v (.mk tn ts tb tl tu)
theorem to_q (h:ToH T v k x1 x2 x3 x4 x5 x6 sub tn ts tb tl tu n s b l u):ToQ T v (.mk k x1 x2 x3 x4 x5 x6 sub) k x3 sub (.mk tn ts tb tl tu) tn ts n s b (.mk n s b l u):=h
theorem qjE (h:ToH T v k x1 x2 x3 x4 x5 x6 sub tn ts tb tl tu n s b l u) (hk:k = 8) (hc:(b != NulH v k x1 x2 x3 x4 x5 x6 sub tn ts tb tl tu) = true):False:=by
 rw [(to_q h).null (.inl hk)] at hc; simp at hc
theorem qg6 (h:ToH T v k x1 x2 x3 x4 x5 x6 sub tn ts tb tl tu n s b l u) (hk:k = 10) (hc:(b != NulH v k x1 x2 x3 x4 x5 x6 sub tn ts tb tl tu) = true):False:=by
 rw [(to_q h).null (.inr (.inl hk))] at hc; simp at hc
theorem qgu (h:ToH T v k x1 x2 x3 x4 x5 x6 sub tn ts tb tl tu n s b l u) (h1:x3 ≥ 0) (h2:v ≥ x3) (hc:(b != NulH v k x1 x2 x3 x4 x5 x6 sub tn ts tb tl tu) = true):False:=by
 rw [(to_q h).null (.inr (.inr ⟨h1,h2⟩))] at hc; simp at hc
theorem qjF (h:ToH T v k x1 x2 x3 x4 x5 x6 sub tn ts tb tl tu n s b l u) (hn:NulH v k x1 x2 x3 x4 x5 x6 sub tn ts tb tl tu = false) (hk:k = 10):T sub (.mk tn ts tb tl tu) (.mk n s b l u):=(to_q h).part hn hk
theorem qen (h:ToH T v k x1 x2 x3 x4 x5 x6 sub tn ts tb tl tu n s b l u) (hn:NulH v k x1 x2 x3 x4 x5 x6 sub tn ts tb tl tu = false) (hk:k = 8):decide (s = qaL ts) = true:=decide_eq_true ((to_q h).text hn (.inl hk))
theorem qeo (h:ToH T v k x1 x2 x3 x4 x5 x6 sub tn ts tb tl tu n s b l u) (hn:NulH v k x1 x2 x3 x4 x5 x6 sub tn ts tb tl tu = false) (hk:k = 9):decide (s = qaL ts) = true:=decide_eq_true ((to_q h).text hn (.inr hk))
theorem to_u (h:ToH T v k x1 x2 x3 x4 x5 x6 sub tn ts tb tl tu n s b l u) (hn:NulH v k x1 x2 x3 x4 x5 x6 sub tn ts tb tl tu = false) (hk:k = 7):decide (s = qby ts) = true:=decide_eq_true ((to_q h).uuid hn hk)
theorem to_m (h:ToH T v k x1 x2 x3 x4 x5 x6 sub tn ts tb tl tu n s b l u) (hn:NulH v k x1 x2 x3 x4 x5 x6 sub tn ts tb tl tu = false) (h8:k ≠ 8) (h9:k ≠ 9) (h7:k ≠ 7) (h10:k ≠ 10) (h11:k ≠ 11):(n == qbK k tn) = true:=by
 rw [(to_q h).num hn h7 h8 h9 h10 h11]; simp
theorem qhX {a c:Nat} (h:a = c) (hc:((a:Nat):Int) ≠ ((c:Nat):Int)):False:=hc (by rw [h])
end
theorem qdz {P:Program} {ops:Array Oper} {Q:Exit → Act → World → Prop} {a:Act} {w:World} {T:World → Prop} {c i j fuel:Nat} {listed:Array Bool} (hr:Region.ready .any ops listed = [i,j]) (h:wpOp P ops Q i (fun a' w'=>(i ≠ c → T w') ∧ qb0 P ops Q T c fuel (listed.setIfInBounds i true) a' w') a w)
  (h':wpOp P ops Q j (fun a' w'=>(j ≠ c → T w') ∧ qb0 P ops Q T c fuel (listed.setIfInBounds j true) a' w') a w):qb0 P ops Q T c (fuel + 1) listed a w:=by
 refine ⟨fun h0=>(by rw [hr] at h0; cases h0),fun q hq=>?_⟩
 rw [hr] at hq
 simp only [List.mem_cons,List.not_mem_nil,or_false] at hq
 rcases hq with rfl | rfl
 ·exact h
 exact h'
theorem qlA {k x1 x2 x3 x4 x5 x6 v:Int} {sub:List Fld} {flex:Bool} {x:Tree} (h:x4 < 0) (h2:Fld.has (.mk k x1 x2 x3 x4 x5 x6 sub) v = true):Fld.pres (.mk k x1 x2 x3 x4 x5 x6 sub) v flex x = true:=by
 simp [Fld.pres,Fld.tag,h,h2]
theorem qlB {k x1 x2 x3 x4 x5 x6 v:Int} {sub:List Fld} {flex:Bool} {x:Tree} (h:x4 ≥ 0) (h2:flex = true) (h3:(!Fld.usual (.mk k x1 x2 x3 x4 x5 x6 sub) x) = true):Fld.pres (.mk k x1 x2 x3 x4 x5 x6 sub) v flex x = true:=by
 subst h2
 simp only [Bool.not_eq_true'] at h3
 simp [Fld.pres,Fld.tag,h,h3]
theorem qhY {k x1 x2 x3 x4 x5 x6 v:Int} {sub:List Fld} {flex:Bool} {x:Tree} (h:x4 < 0) (h2:Fld.has (.mk k x1 x2 x3 x4 x5 x6 sub) v = false):Fld.pres (.mk k x1 x2 x3 x4 x5 x6 sub) v flex x = false:=by
 have:¬ x4 ≥ 0:=by omega
 simp [Fld.pres,Fld.tag,h2,this]
theorem qhZ {k x1 x2 x3 x4 x5 x6 v:Int} {sub:List Fld} {flex:Bool} {x:Tree} (h:¬ x4 < 0) (h2:flex = false):Fld.pres (.mk k x1 x2 x3 x4 x5 x6 sub) v flex x = false:=by
 subst h2
 simp [Fld.pres,Fld.tag,h]
theorem qh0 {k x1 x2 x3 x4 x5 x6 v:Int} {sub:List Fld} {flex:Bool} {x:Tree} (h:¬ x4 < 0) (h3:(!Fld.usual (.mk k x1 x2 x3 x4 x5 x6 sub) x) = false):Fld.pres (.mk k x1 x2 x3 x4 x5 x6 sub) v flex x = false:=by
 simp only [Bool.not_eq_false'] at h3
 simp [Fld.pres,Fld.tag,h,h3]
theorem qkz {k x1 x2 x3 x4 x5 x6 v:Int} {sub:List Fld} {flex:Bool} {x:Tree} (h:¬ x4 < 0) (h2:flex = true):Fld.pres (.mk k x1 x2 x3 x4 x5 x6 sub) v flex x = !Fld.usual (.mk k x1 x2 x3 x4 x5 x6 sub) x:=by
 subst h2
 have:x4 ≥ 0:=by omega
 simp [Fld.pres,Fld.tag,h,this]
theorem qkA {k x1 x2 x3 x4 x5 x6 v:Int} {sub:List Fld} {flex:Bool} {x:Tree} (h:x4 < 0):Fld.pres (.mk k x1 x2 x3 x4 x5 x6 sub) v flex x = Fld.has (.mk k x1 x2 x3 x4 x5 x6 sub) v:=by
 have:¬ x4 ≥ 0:=by omega
 simp [Fld.pres,Fld.tag,h,this]
section
variable {w:World} {F:Nat → Nat → Prop}
theorem qkB {e size b c:Nat} {xs:List Value} {n:Nat} (h:w.ownsRow 0 e size (.slice (some ⟨b,0,none⟩) n c) n xs):AtF w (fun _ _=>True) b 0 xs:=fun j v hj=>⟨trivial,by
 have:=h.cells (g:=b) rfl j v hj
 rw [qbZ] at this
 exact this⟩
theorem qh1 {e b c:Nat} {cf:List Value} {f:Fld} (h:w.ownsRow 0 e 8 (.slice (some ⟨b,0,none⟩) 1 c) 1 cf) (hf:FldR w F cf f) (hc:1 ≤ c):FldsR w (fun _ _=>True) (some ⟨b,0,none⟩) c [f]:=by
 refine ⟨fun _=>cf,⟨hc,(by show 1 ≤ 1099511627776; decide),fun h=>(by cases h),fun ad hA _=>?_⟩,fun i x hx=>?_⟩
 ·obtain rfl:=Option.some.inj hA
  refine ⟨b,0,rfl,fun i hi=>⟨hf.eight,?_⟩⟩
  have:i = 0:=by simp at hi; omega
  subst this
  simpa using qkB h
 cases i with
 | zero =>
  simp only [List.getElem?_cons_zero,Option.some.injEq] at hx
  subst hx
  exact hf.move (Step.refl _ Nil) nilM fun _ _ _ _=>trivial
 | succ i=>simp at hx
theorem qh2 {e b c:Nat} {cy:List Value} {y:Tree} (h:w.ownsRow 0 e 5 (.slice (some ⟨b,0,none⟩) 1 c) 1 cy) (hy:TreeR w F cy y) (hc:1 ≤ c):TreeR w (fun _ _=>True) [.int .i64 0,.slice none 0 0,.bool false,.slice (some ⟨b,0,none⟩) 1 c,.slice none 0 0] (.mk 0 [] false [y] []):=by
 refine TreeR.mk (l:=[y]) (s:=[]) (u:=[]) (fun _=>cy) (Octs.nil _ _) ⟨hc,(by show 1 ≤ 1099511627776; decide),fun h=>(by cases h),fun ad hA _=>?_⟩ (fun i x hx=>?_) (TagsR.nil _ _)
 ·obtain rfl:=Option.some.inj hA
  refine ⟨b,0,rfl,fun i hi=>⟨hy.five,?_⟩⟩
  have:i = 0:=by simp at hi; omega
  subst this
  simpa using qkB h
 cases i with
 | zero =>
  simp only [List.getElem?_cons_zero,Option.some.injEq] at hx
  subst hx
  exact hy.move (Step.refl _ Nil) nilM fun _ _ _ _=>trivial
 | succ i=>simp at hx
end
section
variable {gu tu:List (Int × Bs)} {l:List Fld} {flex:Bool} {i:Nat} {k k':Int} {s s':Bs}
theorem qeI (h:gu = if flex = true then qcw (qak l tu) else []) (hf:(!flex) = false) (hc:((gu.length:Nat):Int) ≠ (((qak l tu).length:Nat):Int)):False:=by
 cases flex
 ·cases hf
 rw [if_pos rfl] at h
 rw [h,qcJ] at hc
 exact hc rfl
theorem qdM (h:gu = if flex = true then qcw (qak l tu) else []) (hf:(!flex) = true) (hc:((gu.length:Nat):Int) ≠ 0):False:=by
 cases flex
 ·rw [if_neg (by decide)] at h
  rw [h] at hc
  exact hc rfl
 cases hf
theorem qjG (h:gu = if flex = true then qcw (qak l tu) else []) (hf:(!flex) = false) (hu:(qak l tu)[i]? = some (k,s)) (hg:gu[i]? = some (k',s')):k' = k ∧ s' = qaL s:=by
 cases flex
 ·cases hf
 rw [if_pos rfl] at h
 rw [h,qio hu] at hg
 have:=Option.some.inj hg
 exact ⟨(Prod.mk.injEq .. ▸ this).1.symm,(Prod.mk.injEq .. ▸ this).2.symm⟩
theorem qeJ (h:gu = if flex = true then qcw (qak l tu) else []) (hf:(!flex) = false) (hu:(qak l tu)[i]? = some (k,s)) (hg:gu[i]? = some (k',s')) (hc:k' ≠ k):False:=hc (qjG h hf hu hg).1
theorem qeK (h:gu = if flex = true then qcw (qak l tu) else []) (hf:(!flex) = false) (hu:(qak l tu)[i]? = some (k,s)) (hg:gu[i]? = some (k',s')) (hc:(!decide (s' = qaL s)) = true):False:=by
 rw [(qjG h hf hu hg).2] at hc; simp at hc
theorem qcD (h:gu = if flex = true then qcw (qak l tu) else []) (hf:(!flex) = false):gu.length = (qak l tu).length:=by
 cases flex
 ·cases hf
 rw [if_pos rfl] at h
 rw [h,qcJ]
end
end Go.Proofs.YtfljkhecngpcmaaGreatDoor.ME