/- The texts of a claim, put together: the engine, the contracts, the law. Own work. -/
import Derived.Test.YtdlaobdadlmcdabDoorWt0P3
import Derived.Lib.ConvBytes
namespace Go.Proofs.YtdlaobdadlmcdabDoor.ME
open Go
open Go.RowKit
set_option linter.unusedVariables false
set_option linter.unusedSimpArgs false
set_option maxRecDepth 20000
def qbK (v:Int) (T:Tree):Bs:=(be 4 ((IntKind.i32.wrap (T.at_ 0).N))) ++ ((be 8 ((T.at_ 1).N)) ++ ((be 8 ((T.at_ 2).N)) ++ (([by8 (if (decide ((T.at_ 3).N % 2 = 1)) then 1 else 0)]) ++ (([by8 (if (decide ((T.at_ 4).N % 2 = 1)) then 1 else 0)]) ++ ((if (decide (v ≥ 0)) = true then (uv (tagC (decide (0 < (lst (T.at_ 5)).length)) + (tagC (decide (0 < (lst (T.at_ 6)).length)) + T.U.length))) ++ ((tagP (decide (0 < (lst (T.at_ 5)).length)) 0 ((if (decide (v ≥ 0)) = true then (uv ((lst (T.at_ 5)).length + 1)) else (be 4 (lst (T.at_ 5)).length)) ++ ((lst (T.at_ 5)).flatMap (fun E=>qah E.S)))) ++ ((tagP (decide (0 < (lst (T.at_ 6)).length)) 1 ((if (decide (v ≥ 0)) = true then (uv ((lst (T.at_ 6)).length + 1)) else (be 4 (lst (T.at_ 6)).length)) ++ ((lst (T.at_ 6)).flatMap (fun E=>qah E.S)))) ++ (qdZ T.U))) else []) ++ (([]:Bs)))))))
theorem qcK (v:Int) (T:Tree):qak v T = qbK v T:=rfl
def qa1 (v:Int) (D:DV) (T:Tree):Prop:=((D.f 0).n = IntKind.i32.wrap (T.at_ 0).N) ∧ ((D.f 1).n = IntKind.i64.wrap (T.at_ 1).N) ∧ ((D.f 2).n = IntKind.i64.wrap (T.at_ 2).N) ∧ ((D.f 3).b = decide ((T.at_ 3).N % 2 = 1)) ∧ ((D.f 4).b = decide ((T.at_ 4).N % 2 = 1)) ∧ ((((if (decide (v ≥ 0)) = true then (decide (0 < (lst (T.at_ 5)).length)) else false)) = true → ((D.f 5).l = (lst (T.at_ 5)).length ∧ ∀ i,i < (D.f 5).l → ((D.f 5).f i).o = qah ((lst (T.at_ 5)).getD i .zero).S)) ∧ (((if (decide (v ≥ 0)) = true then (decide (0 < (lst (T.at_ 5)).length)) else false)) = false → ((D.f 5).A = none ∧ (D.f 5).l = 0))) ∧ ((((if (decide (v ≥ 0)) = true then (decide (0 < (lst (T.at_ 6)).length)) else false)) = true → ((D.f 6).l = (lst (T.at_ 6)).length ∧ ∀ i,i < (D.f 6).l → ((D.f 6).f i).o = qah ((lst (T.at_ 6)).getD i .zero).S)) ∧ (((if (decide (v ≥ 0)) = true then (decide (0 < (lst (T.at_ 6)).length)) else false)) = false → ((D.f 6).A = none ∧ (D.f 6).l = 0))) ∧ (((decide (v ≥ 0)) = true → D.u = T.U) ∧ ((decide (v ≥ 0)) = false → D.u = [])) ∧ True
set_option maxHeartbeats 4000000 in
theorem qcL (v:Int) (T:Tree) {bv:Nat} {A:Option Addr} {c:Nat} {w:World} {F:Nat → Nat → Prop} (hst:Str w bv [.int .i16 v,.int .i32 0,.int .i64 (-1),.int .i64 0,.bool false,.bool false,.slice none 0 0,.slice none 0 0,.map none]) (ho:Octs w F A c (qak v T)) (hFd:∀ b o,F b o → ¬ (b = bv ∧ o < 9)) (hc:qaZ T) (hR:T.ranged) :
  Calls Tryd.prog 30 #[.pointer (some ⟨bv,0,none⟩),.slice A (qak v T).length c,.bool false] w (fun e w'=>∃ D:DV,e = .returned .nilIface ∧ Str w' bv [.int .i16 v,.int .i32 ((D.f 0).n),.int .i64 ((D.f 1).n),.int .i64 ((D.f 2).n),.bool ((D.f 3).b),.bool ((D.f 4).b),.slice ((D.f 5).A) ((D.f 5).l) ((D.f 5).c),.slice ((D.f 6).A) ((D.f 6).l) ((D.f 6).c),.map D.m] ∧ qa6 w' (Fp F w) D ∧ qa1 v D T ∧ Step w w' (fun b o=>b = bv ∧ o < 9)):=by
 refine enter (n:=180) Tryd.func30 rfl Tryd.ntmps30 kz fun a hE=>?_
 have hW:=WOk.startStr hst
 have hE1:=(hE.grow ⟨bv,0,[.int .i16 v,.int .i32 0,.int .i64 (-1),.int .i64 0,.bool false,.bool false,.slice none 0 0,.slice none 0 0,.map none],true⟩).recast 0 (.v (.pointer (some ⟨bv,0,none⟩))) (.p 0 0) rfl rfl (Nat.le_of_ble_eq_true (n:=1) rfl)
 refine qar [(0,.p 0 0),(1,.v (.slice A ((qak v T).length) c))] hW hE1 fun a1 hE2=>?_
 refine qag [0,1] kz ?_
 refine qaj [0] [1] [(0,.p 0 0),(1,.v (.slice A ((qak v T).length) c)),(32,.p 0 0)] hW hE2 fun a3 hE4=>?_
 refine qam (qbE hE4 (f:=29) (vs:=[.pointer (some ⟨bv,0,none⟩)]) (d:=33) (n':=5) kz Tryd.call29 Tryd.func29 rfl Tryd.ntmps29 kz fun a5 hE6=>?_)
 have hE7:=hE6.recast 0 (.v (.pointer (some ⟨bv,0,none⟩))) (.p 0 0) rfl rfl (Nat.le_of_ble_eq_true (n:=1) rfl)
 refine qat [0,1,2,3] kz ?_
 refine qaj [0,1,2] [3] [(4,.p 0 2)] hW hE7 fun a8 hE9=>?_
 refine qam (qav hW hE9 (oi:=0) (cs:=[.int .i16 v,.int .i32 0,.int .i64 (-1),.int .i64 0,.bool false,.bool false,.slice none 0 0,.slice none 0 0,.map none]) kz fun gA ge d9 fT=>?_)
 refine qaf ?_
 refine qb4 fT d9.cells (v:=.tuple #[]) kz ?_
 refine ⟨_,rfl,fun gB fU=>?_⟩
 have fV:EnvOk 180 [⟨bv,0,[.int .i16 v,.int .i32 0,.int .i64 (-1),.int .i64 0,.bool false,.bool false,.slice none 0 0,.slice none 0 0,.map none],true⟩] [(33,.v (.tuple #[])),(0,.p 0 0),(1,.v (.slice A ((qak v T).length) c)),(32,.p 0 0)] _:=fU.places (⟨rfl,rfl,trivial⟩)
 refine qaf (qab ?_)
 refine qag [0,1,2,3] kz ?_
 refine qaj [0,1] [2,3] [(0,.p 0 0),(35,.v (.agg #[.slice A ((qak v T).length) c,.bool false]))] d9 fV fun gC fW=>?_
 refine qam (qaR d9 fW (d:=7) (cs:=[.slice none 0 0,.bool false]) kz fun al gD gE gg gh gi fX fY=>?_)
 refine qam (qav fX fY (oi:=1) (cs:=[.slice A ((qak v T).length) c,.bool false]) kz fun gF gj ea fZ=>?_)
 refine qaf (qab ?_)
 have ei:=RS.start (F:=F) (s:=qak v T) ea fZ (ho.move ea.step (fun b_ o_ h_ _=>hFd b_ o_ h_) (ea.immM hFd)) [(0,.p 1 0),(7,.p 0 0)]
 have gd:=hc
 have e32r:=hR
 unfold qaZ at gd
 obtain ⟨e32_0,e32_1,e32_2,e32_3,e32_4,e32_5,e32_6,e32_U,e32_K,_⟩:=gd
 obtain ⟨gk,ej⟩:∃ R,R = (if (decide (v ≥ 0)) = true then (uv (tagC (decide (0 < (lst (T.at_ 5)).length)) + (tagC (decide (0 < (lst (T.at_ 6)).length)) + T.U.length))) ++ ((tagP (decide (0 < (lst (T.at_ 5)).length)) 0 ((if (decide (v ≥ 0)) = true then (uv ((lst (T.at_ 5)).length + 1)) else (be 4 (lst (T.at_ 5)).length)) ++ ((lst (T.at_ 5)).flatMap (fun E=>qah E.S)))) ++ ((tagP (decide (0 < (lst (T.at_ 6)).length)) 1 ((if (decide (v ≥ 0)) = true then (uv ((lst (T.at_ 6)).length + 1)) else (be 4 (lst (T.at_ 6)).length)) ++ ((lst (T.at_ 6)).flatMap (fun E=>qah E.S)))) ++ (qdZ T.U))) else []) ++ ([]:Bs):=⟨_,rfl⟩
 obtain ⟨gl,ek⟩:∃ R,R = [by8 (if (decide ((T.at_ 4).N % 2 = 1)) then 1 else 0)] ++ gk:=⟨_,rfl⟩
 obtain ⟨gm,em⟩:∃ R,R = [by8 (if (decide ((T.at_ 3).N % 2 = 1)) then 1 else 0)] ++ gl:=⟨_,rfl⟩
 obtain ⟨gn,eo⟩:∃ R,R = (be 8 ((T.at_ 2).N)) ++ gm:=⟨_,rfl⟩
 obtain ⟨gp,ep⟩:∃ R,R = (be 8 ((T.at_ 1).N)) ++ gn:=⟨_,rfl⟩
 obtain ⟨gq,eu⟩:∃ R,R = (be 4 ((IntKind.i32.wrap (T.at_ 0).N))) ++ gp:=⟨_,rfl⟩
 have ev:=ei.cast (t:=gq) (by rw [qcK,eu,ep,eo,em,ek,ej]; unfold qbK; simp only [List.append_assoc])
 clear ei
 refine wp_seq ?_
 refine qbs [(0,.p 1 0),(7,.p 0 0),(8,.v (.int .i16 v))] ev fun _ ew=>?_
 clear ev
 refine qab ?_
 refine wp_seq ?_
 refine qbs [(0,.p 1 0),(7,.p 0 0),(8,.v (.int .i16 v))] ew fun _ ey=>?_
 clear ew
 refine qab ?_
 refine wp_seq ?_
 refine qbs [(0,.p 1 0),(7,.p 0 0),(8,.v (.int .i16 v)),(9,.v (.bool (decide (v ≥ 0))))] ey fun _ ez=>?_
 clear ey
 refine qab ?_
 refine wp_seq ?_
 refine qbs [(0,.p 1 0),(7,.p 0 0),(8,.v (.int .i16 v)),(9,.v (.bool (decide (v ≥ 0))))] ez fun _ eB=>?_
 clear ez
 refine qab ?_
 refine wp_seq ?_
 refine qbs [(7,.p 0 0),(8,.v (.int .i16 v)),(9,.v (.bool (decide (v ≥ 0)))),(10,.p 1 0)] eB fun _ eC=>?_
 clear eB
 refine qab ?_
 refine wp_seq ?_
 refine wp_seq ?_
 have eD:=eC.cast eu
 clear eC
 refine qc8 (d:=45) [(7,.p 0 0),(8,.v (.int .i16 v)),(9,.v (.bool (decide (v ≥ 0)))),(10,.p 1 0),(11,.v (.int .i32 (IntKind.i32.wrap (T.at_ 0).N)))] eD (qk9 _ _) Tryd.call43 fun _ _ eE=>?_
 clear eD
 refine qab ?_
 refine qeU [⟨bv,0,[.int .i16 v,.int .i32 (IntKind.i32.wrap (T.at_ 0).N),.int .i64 (-1),.int .i64 0,.bool false,.bool false,.slice none 0 0,.slice none 0 0,.map none],true⟩] 0 [(7,.p 0 0),(8,.v (.int .i16 v)),(9,.v (.bool (decide (v ≥ 0)))),(10,.p 1 0)] eE fun _ _ eF=>?_
 clear eE
 refine qab ?_
 refine wp_seq ?_
 refine wp_seq ?_
 have eG:=eF.cast ep
 clear eF
 refine qc8 (d:=50) [(7,.p 0 0),(8,.v (.int .i16 v)),(9,.v (.bool (decide (v ≥ 0)))),(10,.p 1 0),(12,.v (.int .i64 (IntKind.i64.wrap (T.at_ 1).N)))] eG (qj1 _ _) Tryd.call44 fun _ _ eH=>?_
 clear eG
 refine qab ?_
 refine qeU [⟨bv,0,[.int .i16 v,.int .i32 (IntKind.i32.wrap (T.at_ 0).N),.int .i64 (IntKind.i64.wrap (T.at_ 1).N),.int .i64 0,.bool false,.bool false,.slice none 0 0,.slice none 0 0,.map none],true⟩] 0 [(7,.p 0 0),(8,.v (.int .i16 v)),(9,.v (.bool (decide (v ≥ 0)))),(10,.p 1 0)] eH fun _ _ eI=>?_
 clear eH
 refine qab ?_
 refine wp_seq ?_
 refine wp_seq ?_
 have eJ:=eI.cast eo
 clear eI
 refine qc8 (d:=55) [(7,.p 0 0),(8,.v (.int .i16 v)),(9,.v (.bool (decide (v ≥ 0)))),(10,.p 1 0),(13,.v (.int .i64 (IntKind.i64.wrap (T.at_ 2).N)))] eJ (qj1 _ _) Tryd.call44 fun _ _ eK=>?_
 clear eJ
 refine qab ?_
 refine qeU [⟨bv,0,[.int .i16 v,.int .i32 (IntKind.i32.wrap (T.at_ 0).N),.int .i64 (IntKind.i64.wrap (T.at_ 1).N),.int .i64 (IntKind.i64.wrap (T.at_ 2).N),.bool false,.bool false,.slice none 0 0,.slice none 0 0,.map none],true⟩] 0 [(7,.p 0 0),(8,.v (.int .i16 v)),(9,.v (.bool (decide (v ≥ 0)))),(10,.p 1 0)] eK fun _ _ eL=>?_
 clear eK
 refine qab ?_
 refine wp_seq ?_
 refine wp_seq ?_
 have eM:=eL.cast em
 clear eL
 refine qc8 (d:=60) [(7,.p 0 0),(8,.v (.int .i16 v)),(9,.v (.bool (decide (v ≥ 0)))),(10,.p 1 0),(14,.v (.bool (decide ((T.at_ 3).N % 2 = 1))))] eM (qla _ _) Tryd.call45 fun _ _ eN=>?_
 clear eM
 refine qab ?_
 refine qeU [⟨bv,0,[.int .i16 v,.int .i32 (IntKind.i32.wrap (T.at_ 0).N),.int .i64 (IntKind.i64.wrap (T.at_ 1).N),.int .i64 (IntKind.i64.wrap (T.at_ 2).N),.bool (decide ((T.at_ 3).N % 2 = 1)),.bool false,.slice none 0 0,.slice none 0 0,.map none],true⟩] 0 [(7,.p 0 0),(8,.v (.int .i16 v)),(9,.v (.bool (decide (v ≥ 0)))),(10,.p 1 0)] eN fun _ _ eO=>?_
 clear eN
 refine qab ?_
 refine wp_seq ?_
 refine wp_seq ?_
 have eP:=eO.cast ek
 clear eO
 refine qc8 (d:=65) [(7,.p 0 0),(8,.v (.int .i16 v)),(9,.v (.bool (decide (v ≥ 0)))),(10,.p 1 0),(15,.v (.bool (decide ((T.at_ 4).N % 2 = 1))))] eP (qla _ _) Tryd.call45 fun _ _ eQ=>?_
 clear eP
 refine qab ?_
 refine qeU [⟨bv,0,[.int .i16 v,.int .i32 (IntKind.i32.wrap (T.at_ 0).N),.int .i64 (IntKind.i64.wrap (T.at_ 1).N),.int .i64 (IntKind.i64.wrap (T.at_ 2).N),.bool (decide ((T.at_ 3).N % 2 = 1)),.bool (decide ((T.at_ 4).N % 2 = 1)),.slice none 0 0,.slice none 0 0,.map none],true⟩] 0 [(7,.p 0 0),(8,.v (.int .i16 v)),(9,.v (.bool (decide (v ≥ 0)))),(10,.p 1 0)] eQ fun _ _ eR=>?_
 clear eQ
 refine qab ?_
 refine wp_seq ?_
 have eS:=eR.cast ej
 clear eR
 refine qjG (Mid:=fun a_ w_=>∃ (au av:DV) (fQ:Option Nat) (eb:List (Int × Bs)) (P':qbQ),(∀ w F,P' w F → noF w F ∧ ((Slots w F 16 au.A au.c au.l (fun i=>[qae ((au.f i).o.getD 0 0),qae ((au.f i).o.getD 1 0),qae ((au.f i).o.getD 2 0),qae ((au.f i).o.getD 3 0),qae ((au.f i).o.getD 4 0),qae ((au.f i).o.getD 5 0),qae ((au.f i).o.getD 6 0),qae ((au.f i).o.getD 7 0),qae ((au.f i).o.getD 8 0),qae ((au.f i).o.getD 9 0),qae ((au.f i).o.getD 10 0),qae ((au.f i).o.getD 11 0),qae ((au.f i).o.getD 12 0),qae ((au.f i).o.getD 13 0),qae ((au.f i).o.getD 14 0),qae ((au.f i).o.getD 15 0)]) ∧ au.l ≤ 1000000 ∧ ∀ i,i < au.l → (au.f i).o.length = 16) ∧ ((((if (decide (v ≥ 0)) = true then (decide (0 < (lst (T.at_ 5)).length)) else false)) = true → (au.l = (lst (T.at_ 5)).length ∧ ∀ i,i < au.l → (au.f i).o = qah ((lst (T.at_ 5)).getD i .zero).S)) ∧ (((if (decide (v ≥ 0)) = true then (decide (0 < (lst (T.at_ 5)).length)) else false)) = false → (au.A = none ∧ au.l = 0)))) ∧ ((Slots w F 16 av.A av.c av.l (fun i=>[qae ((av.f i).o.getD 0 0),qae ((av.f i).o.getD 1 0),qae ((av.f i).o.getD 2 0),qae ((av.f i).o.getD 3 0),qae ((av.f i).o.getD 4 0),qae ((av.f i).o.getD 5 0),qae ((av.f i).o.getD 6 0),qae ((av.f i).o.getD 7 0),qae ((av.f i).o.getD 8 0),qae ((av.f i).o.getD 9 0),qae ((av.f i).o.getD 10 0),qae ((av.f i).o.getD 11 0),qae ((av.f i).o.getD 12 0),qae ((av.f i).o.getD 13 0),qae ((av.f i).o.getD 14 0),qae ((av.f i).o.getD 15 0)]) ∧ av.l ≤ 1000000 ∧ ∀ i,i < av.l → (av.f i).o.length = 16) ∧ ((((if (decide (v ≥ 0)) = true then (decide (0 < (lst (T.at_ 6)).length)) else false)) = true → (av.l = (lst (T.at_ 6)).length ∧ ∀ i,i < av.l → (av.f i).o = qah ((lst (T.at_ 6)).getD i .zero).S)) ∧ (((if (decide (v ≥ 0)) = true then (decide (0 < (lst (T.at_ 6)).length)) else false)) = false → (av.A = none ∧ av.l = 0)))) ∧ (MapR w F fQ eb ∧ eb.length ≤ 1000000 ∧ ∀ x ∈ eb,x.2.length < 4294967296) ∧ ((decide (v ≥ 0)) = true → eb = T.U) ∧ ((decide (v ≥ 0)) = false → eb = [])) ∧ RS w (fun b o=>b = bv ∧ o < 9) F 180 al [⟨bv,0,[.int .i16 v,.int .i32 (IntKind.i32.wrap (T.at_ 0).N),.int .i64 (IntKind.i64.wrap (T.at_ 1).N),.int .i64 (IntKind.i64.wrap (T.at_ 2).N),.bool (decide ((T.at_ 3).N % 2 = 1)),.bool (decide ((T.at_ 4).N % 2 = 1)),.slice au.A au.l au.c,.slice av.A av.l av.c,.map fQ],true⟩] [(7,.p 0 0)] P' ([]:Bs) a_ w_) ?_ ?_
 ·
  refine wp_seq ?_
  refine qbs [(7,.p 0 0),(8,.v (.int .i16 v)),(9,.v (.bool (decide (v ≥ 0)))),(10,.p 1 0),(70,.v (.bool (decide (v ≥ 0))))] eS fun _ aP=>qab ?_
  clear eS
  refine qay aP.env_ (b:=decide (v ≥ 0)) kz (fun ar=>?_) (fun ar=>?_)
  ·
   have eU:=aP.cast (t:=((uv (tagC (decide (0 < (lst (T.at_ 5)).length)) + (tagC (decide (0 < (lst (T.at_ 6)).length)) + T.U.length))) ++ ((tagP (decide (0 < (lst (T.at_ 5)).length)) 0 ((if (decide (v ≥ 0)) = true then (uv ((lst (T.at_ 5)).length + 1)) else (be 4 (lst (T.at_ 5)).length)) ++ ((lst (T.at_ 5)).flatMap (fun E=>qah E.S)))) ++ ((tagP (decide (0 < (lst (T.at_ 6)).length)) 1 ((if (decide (v ≥ 0)) = true then (uv ((lst (T.at_ 6)).length + 1)) else (be 4 (lst (T.at_ 6)).length)) ++ ((lst (T.at_ 6)).flatMap (fun E=>qah E.S)))) ++ (qdZ T.U)))) ++ ([]:Bs)) (by rw [if_pos ar])
   clear aP
   obtain ⟨bC,eV⟩:∃ R,R = qdZ T.U ++ ([]:Bs):=⟨_,rfl⟩
   obtain ⟨aO,ec⟩:∃ R,R = tagP (decide (0 < (lst (T.at_ 6)).length)) 1 ((if (decide (v ≥ 0)) = true then (uv ((lst (T.at_ 6)).length + 1)) else (be 4 (lst (T.at_ 6)).length)) ++ ((lst (T.at_ 6)).flatMap (fun E=>qah E.S))) ++ bC:=⟨_,rfl⟩
   obtain ⟨fR,ee⟩:∃ R,R = tagP (decide (0 < (lst (T.at_ 5)).length)) 0 ((if (decide (v ≥ 0)) = true then (uv ((lst (T.at_ 5)).length + 1)) else (be 4 (lst (T.at_ 5)).length)) ++ ((lst (T.at_ 5)).flatMap (fun E=>qah E.S))) ++ aO:=⟨_,rfl⟩
   have eW:=eU.cast (t:=uv (tagC (decide (0 < (lst (T.at_ 5)).length)) + (tagC (decide (0 < (lst (T.at_ 6)).length)) + T.U.length)) ++ fR) (by rw [ee,ec,eV]; simp only [List.append_assoc])
   clear eU
   refine wp_seq ?_
   refine qc8 (d:=71) [(7,.p 0 0),(8,.v (.int .i16 v)),(9,.v (.bool (decide (v ≥ 0)))),(10,.p 1 0),(16,.v (.int .u32 (((tagC (decide (0 < (lst (T.at_ 5)).length)) + (tagC (decide (0 < (lst (T.at_ 6)).length)) + T.U.length)):Nat):Int)))] eW (pUv (tagC (decide (0 < (lst (T.at_ 5)).length)) + (tagC (decide (0 < (lst (T.at_ 6)).length)) + T.U.length)) (by have t0_:=qej (decide (0 < (lst (T.at_ 5)).length)); have t1_:=qej (decide (0 < (lst (T.at_ 6)).length)); have hu_:=e32_U.2.1; omega) _) Tryd.call46 fun _ _ f5=>?_
   clear eW
   refine qab ?_
   refine wp_block ?_
   obtain ⟨fS,aQ⟩:∃ I:Nat → Act → World → Prop,I = (fun q_ a_ w_=>((decide (0 < (lst (T.at_ 5)).length)) = true ∧ q_ = (tagC (decide (0 < (lst (T.at_ 5)).length)) + (tagC (decide (0 < (lst (T.at_ 6)).length)) + T.U.length)) ∧ ∃ (P':qbQ),(∀ w F,P' w F → noF w F) ∧ RS w (fun b o=>b = bv ∧ o < 9) F 180 al [⟨bv,0,[.int .i16 v,.int .i32 (IntKind.i32.wrap (T.at_ 0).N),.int .i64 (IntKind.i64.wrap (T.at_ 1).N),.int .i64 (IntKind.i64.wrap (T.at_ 2).N),.bool (decide ((T.at_ 3).N % 2 = 1)),.bool (decide ((T.at_ 4).N % 2 = 1)),.slice none 0 0,.slice none 0 0,.map none],true⟩] [(7,.p 0 0),(8,.v (.int .i16 v)),(9,.v (.bool (decide (v ≥ 0)))),(10,.p 1 0),(16,.v (.int .u32 (((tagC (decide (0 < (lst (T.at_ 5)).length)) + (tagC (decide (0 < (lst (T.at_ 6)).length)) + T.U.length)):Nat):Int)))] P' fR a_ w_) ∨ ((decide (0 < (lst (T.at_ 6)).length)) = true ∧ q_ = (tagC (decide (0 < (lst (T.at_ 6)).length)) + T.U.length) ∧ ∃ (aa:DV) (P':qbQ),(∀ w F,P' w F → noF w F ∧ ((Slots w F 16 aa.A aa.c aa.l (fun i=>[qae ((aa.f i).o.getD 0 0),qae ((aa.f i).o.getD 1 0),qae ((aa.f i).o.getD 2 0),qae ((aa.f i).o.getD 3 0),qae ((aa.f i).o.getD 4 0),qae ((aa.f i).o.getD 5 0),qae ((aa.f i).o.getD 6 0),qae ((aa.f i).o.getD 7 0),qae ((aa.f i).o.getD 8 0),qae ((aa.f i).o.getD 9 0),qae ((aa.f i).o.getD 10 0),qae ((aa.f i).o.getD 11 0),qae ((aa.f i).o.getD 12 0),qae ((aa.f i).o.getD 13 0),qae ((aa.f i).o.getD 14 0),qae ((aa.f i).o.getD 15 0)]) ∧ aa.l ≤ 1000000 ∧ ∀ i,i < aa.l → (aa.f i).o.length = 16) ∧ ((((if (decide (v ≥ 0)) = true then (decide (0 < (lst (T.at_ 5)).length)) else false)) = true → (aa.l = (lst (T.at_ 5)).length ∧ ∀ i,i < aa.l → (aa.f i).o = qah ((lst (T.at_ 5)).getD i .zero).S)) ∧ (((if (decide (v ≥ 0)) = true then (decide (0 < (lst (T.at_ 5)).length)) else false)) = false → (aa.A = none ∧ aa.l = 0))))) ∧ RS w (fun b o=>b = bv ∧ o < 9) F 180 al [⟨bv,0,[.int .i16 v,.int .i32 (IntKind.i32.wrap (T.at_ 0).N),.int .i64 (IntKind.i64.wrap (T.at_ 1).N),.int .i64 (IntKind.i64.wrap (T.at_ 2).N),.bool (decide ((T.at_ 3).N % 2 = 1)),.bool (decide ((T.at_ 4).N % 2 = 1)),.slice aa.A aa.l aa.c,.slice none 0 0,.map none],true⟩] [(7,.p 0 0),(8,.v (.int .i16 v)),(9,.v (.bool (decide (v ≥ 0)))),(10,.p 1 0),(16,.v (.int .u32 (((tagC (decide (0 < (lst (T.at_ 6)).length)) + T.U.length):Nat):Int)))] P' aO a_ w_) ∨ (∃ (aa ag:DV) (P':qbQ) (w1_:World) (m_:Option Nat) (j_:Nat),q_ = T.U.length - j_ ∧ j_ ≤ T.U.length ∧ (∀ w F,P' w F → noF w F ∧ ((Slots w F 16 aa.A aa.c aa.l (fun i=>[qae ((aa.f i).o.getD 0 0),qae ((aa.f i).o.getD 1 0),qae ((aa.f i).o.getD 2 0),qae ((aa.f i).o.getD 3 0),qae ((aa.f i).o.getD 4 0),qae ((aa.f i).o.getD 5 0),qae ((aa.f i).o.getD 6 0),qae ((aa.f i).o.getD 7 0),qae ((aa.f i).o.getD 8 0),qae ((aa.f i).o.getD 9 0),qae ((aa.f i).o.getD 10 0),qae ((aa.f i).o.getD 11 0),qae ((aa.f i).o.getD 12 0),qae ((aa.f i).o.getD 13 0),qae ((aa.f i).o.getD 14 0),qae ((aa.f i).o.getD 15 0)]) ∧ aa.l ≤ 1000000 ∧ ∀ i,i < aa.l → (aa.f i).o.length = 16) ∧ ((((if (decide (v ≥ 0)) = true then (decide (0 < (lst (T.at_ 5)).length)) else false)) = true → (aa.l = (lst (T.at_ 5)).length ∧ ∀ i,i < aa.l → (aa.f i).o = qah ((lst (T.at_ 5)).getD i .zero).S)) ∧ (((if (decide (v ≥ 0)) = true then (decide (0 < (lst (T.at_ 5)).length)) else false)) = false → (aa.A = none ∧ aa.l = 0)))) ∧ ((Slots w F 16 ag.A ag.c ag.l (fun i=>[qae ((ag.f i).o.getD 0 0),qae ((ag.f i).o.getD 1 0),qae ((ag.f i).o.getD 2 0),qae ((ag.f i).o.getD 3 0),qae ((ag.f i).o.getD 4 0),qae ((ag.f i).o.getD 5 0),qae ((ag.f i).o.getD 6 0),qae ((ag.f i).o.getD 7 0),qae ((ag.f i).o.getD 8 0),qae ((ag.f i).o.getD 9 0),qae ((ag.f i).o.getD 10 0),qae ((ag.f i).o.getD 11 0),qae ((ag.f i).o.getD 12 0),qae ((ag.f i).o.getD 13 0),qae ((ag.f i).o.getD 14 0),qae ((ag.f i).o.getD 15 0)]) ∧ ag.l ≤ 1000000 ∧ ∀ i,i < ag.l → (ag.f i).o.length = 16) ∧ ((((if (decide (v ≥ 0)) = true then (decide (0 < (lst (T.at_ 6)).length)) else false)) = true → (ag.l = (lst (T.at_ 6)).length ∧ ∀ i,i < ag.l → (ag.f i).o = qah ((lst (T.at_ 6)).getD i .zero).S)) ∧ (((if (decide (v ≥ 0)) = true then (decide (0 < (lst (T.at_ 6)).length)) else false)) = false → (ag.A = none ∧ ag.l = 0))))) ∧ TU w w1_ (fun b o=>b = bv ∧ o < 9) F 180 al [⟨bv,0,[.int .i16 v,.int .i32 (IntKind.i32.wrap (T.at_ 0).N),.int .i64 (IntKind.i64.wrap (T.at_ 1).N),.int .i64 (IntKind.i64.wrap (T.at_ 2).N),.bool (decide ((T.at_ 3).N % 2 = 1)),.bool (decide ((T.at_ 4).N % 2 = 1)),.slice aa.A aa.l aa.c,.slice ag.A ag.l ag.c,.map none],true⟩] [⟨bv,0,[.int .i16 v,.int .i32 (IntKind.i32.wrap (T.at_ 0).N),.int .i64 (IntKind.i64.wrap (T.at_ 1).N),.int .i64 (IntKind.i64.wrap (T.at_ 2).N),.bool (decide ((T.at_ 3).N % 2 = 1)),.bool (decide ((T.at_ 4).N % 2 = 1)),.slice aa.A aa.l aa.c,.slice ag.A ag.l ag.c,.map m_],true⟩] [(7,.p 0 0),(8,.v (.int .i16 v)),(9,.v (.bool (decide (v ≥ 0)))),(10,.p 1 0),(16,.v (.int .u32 ((T.U.length - j_:Nat):Int)))] P' (qdZ (T.U.drop j_) ++ ([]:Bs)) m_ (T.U.take j_) a_ w_)):=⟨_,rfl⟩
   have bD:∀ (aa ag:DV) (P':qbQ) (a_:Act) (w_:World),(∀ w F,P' w F → noF w F ∧ ((Slots w F 16 aa.A aa.c aa.l (fun i=>[qae ((aa.f i).o.getD 0 0),qae ((aa.f i).o.getD 1 0),qae ((aa.f i).o.getD 2 0),qae ((aa.f i).o.getD 3 0),qae ((aa.f i).o.getD 4 0),qae ((aa.f i).o.getD 5 0),qae ((aa.f i).o.getD 6 0),qae ((aa.f i).o.getD 7 0),qae ((aa.f i).o.getD 8 0),qae ((aa.f i).o.getD 9 0),qae ((aa.f i).o.getD 10 0),qae ((aa.f i).o.getD 11 0),qae ((aa.f i).o.getD 12 0),qae ((aa.f i).o.getD 13 0),qae ((aa.f i).o.getD 14 0),qae ((aa.f i).o.getD 15 0)]) ∧ aa.l ≤ 1000000 ∧ ∀ i,i < aa.l → (aa.f i).o.length = 16) ∧ ((((if (decide (v ≥ 0)) = true then (decide (0 < (lst (T.at_ 5)).length)) else false)) = true → (aa.l = (lst (T.at_ 5)).length ∧ ∀ i,i < aa.l → (aa.f i).o = qah ((lst (T.at_ 5)).getD i .zero).S)) ∧ (((if (decide (v ≥ 0)) = true then (decide (0 < (lst (T.at_ 5)).length)) else false)) = false → (aa.A = none ∧ aa.l = 0)))) ∧ ((Slots w F 16 ag.A ag.c ag.l (fun i=>[qae ((ag.f i).o.getD 0 0),qae ((ag.f i).o.getD 1 0),qae ((ag.f i).o.getD 2 0),qae ((ag.f i).o.getD 3 0),qae ((ag.f i).o.getD 4 0),qae ((ag.f i).o.getD 5 0),qae ((ag.f i).o.getD 6 0),qae ((ag.f i).o.getD 7 0),qae ((ag.f i).o.getD 8 0),qae ((ag.f i).o.getD 9 0),qae ((ag.f i).o.getD 10 0),qae ((ag.f i).o.getD 11 0),qae ((ag.f i).o.getD 12 0),qae ((ag.f i).o.getD 13 0),qae ((ag.f i).o.getD 14 0),qae ((ag.f i).o.getD 15 0)]) ∧ ag.l ≤ 1000000 ∧ ∀ i,i < ag.l → (ag.f i).o.length = 16) ∧ ((((if (decide (v ≥ 0)) = true then (decide (0 < (lst (T.at_ 6)).length)) else false)) = true → (ag.l = (lst (T.at_ 6)).length ∧ ∀ i,i < ag.l → (ag.f i).o = qah ((lst (T.at_ 6)).getD i .zero).S)) ∧ (((if (decide (v ≥ 0)) = true then (decide (0 < (lst (T.at_ 6)).length)) else false)) = false → (ag.A = none ∧ ag.l = 0))))) → RS w (fun b o=>b = bv ∧ o < 9) F 180 al [⟨bv,0,[.int .i16 v,.int .i32 (IntKind.i32.wrap (T.at_ 0).N),.int .i64 (IntKind.i64.wrap (T.at_ 1).N),.int .i64 (IntKind.i64.wrap (T.at_ 2).N),.bool (decide ((T.at_ 3).N % 2 = 1)),.bool (decide ((T.at_ 4).N % 2 = 1)),.slice aa.A aa.l aa.c,.slice ag.A ag.l ag.c,.map none],true⟩] [(7,.p 0 0),(8,.v (.int .i16 v)),(9,.v (.bool (decide (v ≥ 0)))),(10,.p 1 0),(16,.v (.int .u32 ((T.U.length:Nat):Int)))] P' bC a_ w_ → fS T.U.length a_ w_:=by
    intro aa ag P' a_ w_ hp_ hs_
    have h_:=(TU.start hs_).cast eV
    rw [aQ]
    exact .inr (.inr (⟨aa,ag,P',w_,none,0,rfl,Nat.zero_le _,hp_,h_⟩))
   have bE:∀ (aa:DV) (P':qbQ) (a_:Act) (w_:World),(∀ w F,P' w F → noF w F ∧ ((Slots w F 16 aa.A aa.c aa.l (fun i=>[qae ((aa.f i).o.getD 0 0),qae ((aa.f i).o.getD 1 0),qae ((aa.f i).o.getD 2 0),qae ((aa.f i).o.getD 3 0),qae ((aa.f i).o.getD 4 0),qae ((aa.f i).o.getD 5 0),qae ((aa.f i).o.getD 6 0),qae ((aa.f i).o.getD 7 0),qae ((aa.f i).o.getD 8 0),qae ((aa.f i).o.getD 9 0),qae ((aa.f i).o.getD 10 0),qae ((aa.f i).o.getD 11 0),qae ((aa.f i).o.getD 12 0),qae ((aa.f i).o.getD 13 0),qae ((aa.f i).o.getD 14 0),qae ((aa.f i).o.getD 15 0)]) ∧ aa.l ≤ 1000000 ∧ ∀ i,i < aa.l → (aa.f i).o.length = 16) ∧ ((((if (decide (v ≥ 0)) = true then (decide (0 < (lst (T.at_ 5)).length)) else false)) = true → (aa.l = (lst (T.at_ 5)).length ∧ ∀ i,i < aa.l → (aa.f i).o = qah ((lst (T.at_ 5)).getD i .zero).S)) ∧ (((if (decide (v ≥ 0)) = true then (decide (0 < (lst (T.at_ 5)).length)) else false)) = false → (aa.A = none ∧ aa.l = 0))))) → RS w (fun b o=>b = bv ∧ o < 9) F 180 al [⟨bv,0,[.int .i16 v,.int .i32 (IntKind.i32.wrap (T.at_ 0).N),.int .i64 (IntKind.i64.wrap (T.at_ 1).N),.int .i64 (IntKind.i64.wrap (T.at_ 2).N),.bool (decide ((T.at_ 3).N % 2 = 1)),.bool (decide ((T.at_ 4).N % 2 = 1)),.slice aa.A aa.l aa.c,.slice none 0 0,.map none],true⟩] [(7,.p 0 0),(8,.v (.int .i16 v)),(9,.v (.bool (decide (v ≥ 0)))),(10,.p 1 0),(16,.v (.int .u32 (((tagC (decide (0 < (lst (T.at_ 6)).length)) + T.U.length):Nat):Int)))] P' aO a_ w_ → fS (tagC (decide (0 < (lst (T.at_ 6)).length)) + T.U.length) a_ w_:=by
    intro aa P' a_ w_ hp_ hs_
    rcases Bool.eq_false_or_eq_true (decide (0 < (lst (T.at_ 6)).length)) with aR | aR
    ·
     rw [aQ]
     exact .inr (.inl ⟨aR,rfl,aa,P',hp_,hs_⟩)
    have e_:(tagC (decide (0 < (lst (T.at_ 6)).length)) + T.U.length) = T.U.length:=by rw [qiK aR,Nat.zero_add]
    have f_:aO = bC:=by rw [ec,qiJ aR]; rfl
    have g_:=bD aa (dvL none 0 0 (fun _=>dv0)) P' a_ w_ (fun w F h_=>⟨(hp_ w F h_).1,(hp_ w F h_).2,⟨⟨Slots.nil _ _ _ _,Nat.zero_le _,fun _ h=>absurd h (Nat.not_lt_zero _)⟩,⟨(fun e2_=>by rw [if_pos (by exact ar),aR] at e2_; cases e2_),fun _=>⟨rfl,rfl⟩⟩⟩⟩) ((hs_.cast f_).envEq (env':=[(7,.p 0 0),(8,.v (.int .i16 v)),(9,.v (.bool (decide (v ≥ 0)))),(10,.p 1 0),(16,.v (.int .u32 ((T.U.length:Nat):Int)))]) (by rw [e_]))
    rw [e_]
    exact g_
   have eX:∀ (P':qbQ) (a_:Act) (w_:World),(∀ w F,P' w F → noF w F) → RS w (fun b o=>b = bv ∧ o < 9) F 180 al [⟨bv,0,[.int .i16 v,.int .i32 (IntKind.i32.wrap (T.at_ 0).N),.int .i64 (IntKind.i64.wrap (T.at_ 1).N),.int .i64 (IntKind.i64.wrap (T.at_ 2).N),.bool (decide ((T.at_ 3).N % 2 = 1)),.bool (decide ((T.at_ 4).N % 2 = 1)),.slice none 0 0,.slice none 0 0,.map none],true⟩] [(7,.p 0 0),(8,.v (.int .i16 v)),(9,.v (.bool (decide (v ≥ 0)))),(10,.p 1 0),(16,.v (.int .u32 (((tagC (decide (0 < (lst (T.at_ 5)).length)) + (tagC (decide (0 < (lst (T.at_ 6)).length)) + T.U.length)):Nat):Int)))] P' fR a_ w_ → fS (tagC (decide (0 < (lst (T.at_ 5)).length)) + (tagC (decide (0 < (lst (T.at_ 6)).length)) + T.U.length)) a_ w_:=by
    intro P' a_ w_ hp_ hs_
    rcases Bool.eq_false_or_eq_true (decide (0 < (lst (T.at_ 5)).length)) with aS | aS
    ·
     rw [aQ]
     exact .inl ⟨aS,rfl,P',hp_,hs_⟩
    have e_:(tagC (decide (0 < (lst (T.at_ 5)).length)) + (tagC (decide (0 < (lst (T.at_ 6)).length)) + T.U.length)) = (tagC (decide (0 < (lst (T.at_ 6)).length)) + T.U.length):=by rw [qiK aS,Nat.zero_add]
    have f_:fR = aO:=by rw [ee,qiJ aS]; rfl
    have g_:=bE (dvL none 0 0 (fun _=>dv0)) P' a_ w_ (fun w F h_=>⟨(hp_ w F h_),⟨⟨Slots.nil _ _ _ _,Nat.zero_le _,fun _ h=>absurd h (Nat.not_lt_zero _)⟩,⟨(fun e2_=>by rw [if_pos (by exact ar),aS] at e2_; cases e2_),fun _=>⟨rfl,rfl⟩⟩⟩⟩) ((hs_.cast f_).envEq (env':=[(7,.p 0 0),(8,.v (.int .i16 v)),(9,.v (.bool (decide (v ≥ 0)))),(10,.p 1 0),(16,.v (.int .u32 (((tagC (decide (0 < (lst (T.at_ 6)).length)) + T.U.length):Nat):Int)))]) (by rw [e_]))
    rw [e_]
    exact g_
   have eY:=f5.pk (env':=[(7,.p 0 0),(8,.v (.int .i16 v)),(9,.v (.bool (decide (v ≥ 0)))),(10,.p 1 0),(16,.v (.int .u32 (((tagC (decide (0 < (lst (T.at_ 5)).length)) + (tagC (decide (0 < (lst (T.at_ 6)).length)) + T.U.length)):Nat):Int)))])
   refine wp_loop_ghost fS (tagC (decide (0 < (lst (T.at_ 5)).length)) + (tagC (decide (0 < (lst (T.at_ 6)).length)) + T.U.length)) (eX noF _ _ (fun w F h_=>h_) eY) ?_
   rintro q_ aq wq bF
   rw [aQ] at bF
   rcases bF with ⟨aD,rfl,f7,aT,eZ⟩ | ⟨aC,rfl,aa,gt,bG,e9⟩ | ⟨aa,ag,fa,f8,ef,am,rfl,hj_,aI,fb⟩
   ·
    replace aT:∀ w F,f7 w F → noF w F ∧ True:=fun w F h_=>⟨aT w F h_,trivial⟩
    have bH:=eZ.cast (t:=uv 0 ++ (uv ((if (decide (v ≥ 0)) = true then (uv ((lst (T.at_ 5)).length + 1)) else (be 4 (lst (T.at_ 5)).length)) ++ ((lst (T.at_ 5)).flatMap (fun E=>qah E.S))).length ++ (((if (decide (v ≥ 0)) = true then (uv ((lst (T.at_ 5)).length + 1)) else (be 4 (lst (T.at_ 5)).length)) ++ ((lst (T.at_ 5)).flatMap (fun E=>qah E.S))) ++ aO))) (by rw [ee,qg0 aD]; simp only [List.append_assoc])
    refine wp_seq ?_
    refine wp_seq ?_
    refine qbs [(7,.p 0 0),(8,.v (.int .i16 v)),(9,.v (.bool (decide (v ≥ 0)))),(10,.p 1 0),(16,.v (.int .u32 (((tagC (decide (0 < (lst (T.at_ 5)).length)) + (tagC (decide (0 < (lst (T.at_ 6)).length)) + T.U.length)):Nat):Int))),(73,.v (.bool (decide ((((tagC (decide (0 < (lst (T.at_ 5)).length)) + (tagC (decide (0 < (lst (T.at_ 6)).length)) + T.U.length)):Nat):Int) > 0))))] bH fun _ aU=>qab ?_
    clear bH
    refine qaU aU.env_ (b:=decide ((((tagC (decide (0 < (lst (T.at_ 5)).length)) + (tagC (decide (0 < (lst (T.at_ 6)).length)) + T.U.length)):Nat):Int) > 0)) kz (decide_eq_true (by rw [qdr aD]; omega)) ?_
    refine wp_skip ?_
    refine qab ?_
    refine wp_seq ?_
    refine wp_block ?_
    refine wp_seq ?_
    refine qc8 (d:=76) [(7,.p 0 0),(8,.v (.int .i16 v)),(9,.v (.bool (decide (v ≥ 0)))),(10,.p 1 0),(16,.v (.int .u32 (((tagC (decide (0 < (lst (T.at_ 5)).length)) + (tagC (decide (0 < (lst (T.at_ 6)).length)) + T.U.length)):Nat):Int))),(17,.v (.int .u32 0))] aU ((show qcX _ _ _ (uv ((if (decide (v ≥ 0)) = true then (uv ((lst (T.at_ 5)).length + 1)) else (be 4 (lst (T.at_ 5)).length)) ++ ((lst (T.at_ 5)).flatMap (fun E=>qah E.S))).length ++ (((if (decide (v ≥ 0)) = true then (uv ((lst (T.at_ 5)).length + 1)) else (be 4 (lst (T.at_ 5)).length)) ++ ((lst (T.at_ 5)).flatMap (fun E=>qah E.S))) ++ aO)) (.int .u32 0) from @pUv 0 (by decide) (uv ((if (decide (v ≥ 0)) = true then (uv ((lst (T.at_ 5)).length + 1)) else (be 4 (lst (T.at_ 5)).length)) ++ ((lst (T.at_ 5)).flatMap (fun E=>qah E.S))).length ++ (((if (decide (v ≥ 0)) = true then (uv ((lst (T.at_ 5)).length + 1)) else (be 4 (lst (T.at_ 5)).length)) ++ ((lst (T.at_ 5)).flatMap (fun E=>qah E.S))) ++ aO)))) Tryd.call46 fun _ _ bI=>?_
    clear aU
    refine qab ?_
    refine wp_seq ?_
    refine qbs [(7,.p 0 0),(8,.v (.int .i16 v)),(9,.v (.bool (decide (v ≥ 0)))),(10,.p 1 0),(16,.v (.int .u32 (((tagC (decide (0 < (lst (T.at_ 5)).length)) + (tagC (decide (0 < (lst (T.at_ 6)).length)) + T.U.length)):Nat):Int))),(17,.v (.int .u32 0)),(77,.v (.int .u32 0))] bI fun _ bJ=>?_
    clear bI
    refine qab ?_
    refine wp_block ?_
    refine wp_seq ?_
    refine qbs [(7,.p 0 0),(8,.v (.int .i16 v)),(9,.v (.bool (decide (v ≥ 0)))),(10,.p 1 0),(16,.v (.int .u32 (((tagC (decide (0 < (lst (T.at_ 5)).length)) + (tagC (decide (0 < (lst (T.at_ 6)).length)) + T.U.length)):Nat):Int))),(17,.v (.int .u32 0)),(77,.v (.int .u32 0)),(86,.v (.bool true))] bJ fun _ aV=>qab ?_
    clear bJ
    refine qaU aV.env_ (b:=true) kz (rfl) ?_
    refine wp_seq ?_
    refine qat [0,1,2,3,4,5] kz ?_
    refine qam (qd4 (d:=88) aV (pUv (((if (decide (v ≥ 0)) = true then (uv ((lst (T.at_ 5)).length + 1)) else (be 4 (lst (T.at_ 5)).length)) ++ ((lst (T.at_ 5)).flatMap (fun E=>qah E.S))).length) (by have hl_:=e32_5; exact qg9 hl_) (((if (decide (v ≥ 0)) = true then (uv ((lst (T.at_ 5)).length + 1)) else (be 4 (lst (T.at_ 5)).length)) ++ ((lst (T.at_ 5)).flatMap (fun E=>qah E.S))) ++ aO)) Tryd.call46 fun _ _ bK=>?_)
    clear aV
    refine qcT [1] [2,3,4,5] [(7,.p 0 0),(8,.v (.int .i16 v)),(9,.v (.bool (decide (v ≥ 0)))),(10,.p 1 0),(16,.v (.int .u32 (((tagC (decide (0 < (lst (T.at_ 5)).length)) + (tagC (decide (0 < (lst (T.at_ 6)).length)) + T.U.length)):Nat):Int))),(89,.v (.int .i64 (IntKind.i64.wrap ((((if (decide (v ≥ 0)) = true then (uv ((lst (T.at_ 5)).length + 1)) else (be 4 (lst (T.at_ 5)).length)) ++ ((lst (T.at_ 5)).flatMap (fun E=>qah E.S))).length:Nat):Int))))] bK fun _ bL=>?_
    clear bK
    refine qam (qiZ (d:=90) (q:=(IntKind.i64.wrap ((((if (decide (v ≥ 0)) = true then (uv ((lst (T.at_ 5)).length + 1)) else (be 4 (lst (T.at_ 5)).length)) ++ ((lst (T.at_ 5)).flatMap (fun E=>qah E.S))).length:Nat):Int))) (X:=(if (decide (v ≥ 0)) = true then (uv ((lst (T.at_ 5)).length + 1)) else (be 4 (lst (T.at_ 5)).length)) ++ ((lst (T.at_ 5)).flatMap (fun E=>qah E.S))) (rest:=aO) bL (by first | exact wrap_i64 (by omega) (by have:=(qg9 (b:=decide (v ≥ 0)) e32_5); omega) | rfl) (qjF _ _) Tryd.call48 fun eg f9 _ _ bM bN=>?_)
    clear bL
    refine qcT [3] [4,5] [(7,.p 0 0),(8,.v (.int .i16 v)),(9,.v (.bool (decide (v ≥ 0)))),(10,.p 1 0),(16,.v (.int .u32 (((tagC (decide (0 < (lst (T.at_ 5)).length)) + (tagC (decide (0 < (lst (T.at_ 6)).length)) + T.U.length)):Nat):Int))),(91,.v (.agg #[.slice eg (((if (decide (v ≥ 0)) = true then (uv ((lst (T.at_ 5)).length + 1)) else (be 4 (lst (T.at_ 5)).length)) ++ ((lst (T.at_ 5)).flatMap (fun E=>qah E.S))).length) (((if (decide (v ≥ 0)) = true then (uv ((lst (T.at_ 5)).length + 1)) else (be 4 (lst (T.at_ 5)).length)) ++ ((lst (T.at_ 5)).flatMap (fun E=>qah E.S))).length),.bool false]))] bN fun _ bO=>?_
    clear bN
    refine qam (qez (d:=18) [.slice none 0 0,.bool false] bO fun aW _ _ hb_b130 bP=>?_)
    clear bO
    have bQ:=(bP.tbEq (tb':=[⟨bv,0,[.int .i16 v,.int .i32 (IntKind.i32.wrap (T.at_ 0).N),.int .i64 (IntKind.i64.wrap (T.at_ 1).N),.int .i64 (IntKind.i64.wrap (T.at_ 2).N),.bool (decide ((T.at_ 3).N % 2 = 1)),.bool (decide ((T.at_ 4).N % 2 = 1)),.slice none 0 0,.slice none 0 0,.map none],true⟩,⟨aW,0,[.slice none 0 0,.bool false],true⟩]) rfl).pk (env':=[(7,.p 0 0),(8,.v (.int .i16 v)),(9,.v (.bool (decide (v ≥ 0)))),(10,.p 1 0),(16,.v (.int .u32 (((tagC (decide (0 < (lst (T.at_ 5)).length)) + (tagC (decide (0 < (lst (T.at_ 6)).length)) + T.U.length)):Nat):Int))),(91,.v (.agg #[.slice eg (((if (decide (v ≥ 0)) = true then (uv ((lst (T.at_ 5)).length + 1)) else (be 4 (lst (T.at_ 5)).length)) ++ ((lst (T.at_ 5)).flatMap (fun E=>qah E.S))).length) (((if (decide (v ≥ 0)) = true then (uv ((lst (T.at_ 5)).length + 1)) else (be 4 (lst (T.at_ 5)).length)) ++ ((lst (T.at_ 5)).flatMap (fun E=>qah E.S))).length),.bool false])),(18,.p 2 0)])
    clear bP
    refine qam (qdv [⟨bv,0,[.int .i16 v,.int .i32 (IntKind.i32.wrap (T.at_ 0).N),.int .i64 (IntKind.i64.wrap (T.at_ 1).N),.int .i64 (IntKind.i64.wrap (T.at_ 2).N),.bool (decide ((T.at_ 3).N % 2 = 1)),.bool (decide ((T.at_ 4).N % 2 = 1)),.slice none 0 0,.slice none 0 0,.map none],true⟩,⟨aW,0,[.slice eg (((if (decide (v ≥ 0)) = true then (uv ((lst (T.at_ 5)).length + 1)) else (be 4 (lst (T.at_ 5)).length)) ++ ((lst (T.at_ 5)).flatMap (fun E=>qah E.S))).length) (((if (decide (v ≥ 0)) = true then (uv ((lst (T.at_ 5)).length + 1)) else (be 4 (lst (T.at_ 5)).length)) ++ ((lst (T.at_ 5)).flatMap (fun E=>qah E.S))).length),.bool false],true⟩] 1 bQ fun _ bR=>?_)
    clear bQ
    refine qaf ?_
    have bS:=bR.pk (env':=[(7,.p 0 0),(8,.v (.int .i16 v)),(9,.v (.bool (decide (v ≥ 0)))),(10,.p 1 0),(16,.v (.int .u32 (((tagC (decide (0 < (lst (T.at_ 5)).length)) + (tagC (decide (0 < (lst (T.at_ 6)).length)) + T.U.length)):Nat):Int))),(18,.p 2 0)])
    clear bR
    obtain ⟨aw,ax,ay,bT⟩:=RS.nest (tb:=[⟨bv,0,[.int .i16 v,.int .i32 (IntKind.i32.wrap (T.at_ 0).N),.int .i64 (IntKind.i64.wrap (T.at_ 1).N),.int .i64 (IntKind.i64.wrap (T.at_ 2).N),.bool (decide ((T.at_ 3).N % 2 = 1)),.bool (decide ((T.at_ 4).N % 2 = 1)),.slice none 0 0,.slice none 0 0,.map none],true⟩]) (si:=(if (decide (v ≥ 0)) = true then (uv ((lst (T.at_ 5)).length + 1)) else (be 4 (lst (T.at_ 5)).length)) ++ ((lst (T.at_ 5)).flatMap (fun E=>qah E.S))) bS (fun w F h_=>(bM _ _ h_).2)
    have bU:=((bT.tbEq (tb':=[⟨bv,0,[.int .i16 v,.int .i32 (IntKind.i32.wrap (T.at_ 0).N),.int .i64 (IntKind.i64.wrap (T.at_ 1).N),.int .i64 (IntKind.i64.wrap (T.at_ 2).N),.bool (decide ((T.at_ 3).N % 2 = 1)),.bool (decide ((T.at_ 4).N % 2 = 1)),.slice none 0 0,.slice none 0 0,.map none],true⟩,⟨al,0,[.slice aw ax ay,.bool false],true⟩]) rfl).envEq (env':=[(7,.p 2 0),(8,.v (.int .i16 v)),(9,.v (.bool (decide (v ≥ 0)))),(10,.p 1 0),(16,.v (.int .u32 (((tagC (decide (0 < (lst (T.at_ 5)).length)) + (tagC (decide (0 < (lst (T.at_ 6)).length)) + T.U.length)):Nat):Int))),(18,.p 0 0)]) kz).cast (t:=((if (decide (v ≥ 0)) = true then (uv ((lst (T.at_ 5)).length + 1)) else (be 4 (lst (T.at_ 5)).length)) ++ ((lst (T.at_ 5)).flatMap (fun E=>qah E.S))) ++ ([]:Bs)) (List.append_nil _).symm
    obtain ⟨fe,bV,bW⟩:∃ P',(∀ w F,P' w F → (f9 w F ∧ RdS w F aw ax ay aO)) ∧ RS w (fun b o=>b = bv ∧ o < 9) F 180 aW [⟨bv,0,[.int .i16 v,.int .i32 (IntKind.i32.wrap (T.at_ 0).N),.int .i64 (IntKind.i64.wrap (T.at_ 1).N),.int .i64 (IntKind.i64.wrap (T.at_ 2).N),.bool (decide ((T.at_ 3).N % 2 = 1)),.bool (decide ((T.at_ 4).N % 2 = 1)),.slice none 0 0,.slice none 0 0,.map none],true⟩,⟨al,0,[.slice aw ax ay,.bool false],true⟩] [(7,.p 2 0),(8,.v (.int .i16 v)),(9,.v (.bool (decide (v ≥ 0)))),(10,.p 1 0),(16,.v (.int .u32 (((tagC (decide (0 < (lst (T.at_ 5)).length)) + (tagC (decide (0 < (lst (T.at_ 6)).length)) + T.U.length)):Nat):Int))),(18,.p 0 0)] P' (((if (decide (v ≥ 0)) = true then (uv ((lst (T.at_ 5)).length + 1)) else (be 4 (lst (T.at_ 5)).length)) ++ ((lst (T.at_ 5)).flatMap (fun E=>qah E.S))) ++ ([]:Bs)) _ _:=⟨_,fun _ _ h=>h,bU⟩
    clear bS bT bU
    have bX:=bW.cast (t:=(uv ((lst (T.at_ 5)).length + 1)) ++ (((lst (T.at_ 5)).flatMap (fun E=>qah E.S)) ++ ([]:Bs))) (by rw [if_pos (by exact ar)]; simp only [List.append_assoc])
    clear bW
    refine qab ?_
    refine wp_seq ?_
    refine qbs [(7,.p 2 0),(8,.v (.int .i16 v)),(9,.v (.bool (decide (v ≥ 0)))),(10,.p 1 0),(16,.v (.int .u32 (((tagC (decide (0 < (lst (T.at_ 5)).length)) + (tagC (decide (0 < (lst (T.at_ 6)).length)) + T.U.length)):Nat):Int))),(18,.p 0 0),(19,.v (.slice none 0 0))] bX fun _ bY=>?_
    clear bX
    refine qab ?_
    refine wp_seq ?_
    refine qbs [(7,.p 2 0),(8,.v (.int .i16 v)),(9,.v (.bool (decide (v ≥ 0)))),(10,.p 1 0),(16,.v (.int .u32 (((tagC (decide (0 < (lst (T.at_ 5)).length)) + (tagC (decide (0 < (lst (T.at_ 6)).length)) + T.U.length)):Nat):Int))),(18,.p 0 0),(20,.v (.slice none 0 0))] bY fun _ bZ=>?_
    clear bY
    refine qab ?_
    refine wp_seq ?_
    refine qbs [(7,.p 2 0),(8,.v (.int .i16 v)),(9,.v (.bool (decide (v ≥ 0)))),(10,.p 1 0),(16,.v (.int .u32 (((tagC (decide (0 < (lst (T.at_ 5)).length)) + (tagC (decide (0 < (lst (T.at_ 6)).length)) + T.U.length)):Nat):Int))),(18,.p 0 0),(20,.v (.slice none 0 0))] bZ fun _ b8=>?_
    clear bZ
    refine qab ?_
    refine wp_seq ?_
    refine wp_seq ?_
    refine qbs [(7,.p 2 0),(8,.v (.int .i16 v)),(9,.v (.bool (decide (v ≥ 0)))),(10,.p 1 0),(16,.v (.int .u32 (((tagC (decide (0 < (lst (T.at_ 5)).length)) + (tagC (decide (0 < (lst (T.at_ 6)).length)) + T.U.length)):Nat):Int))),(18,.p 0 0),(20,.v (.slice none 0 0)),(97,.v (.bool (decide (v ≥ 0))))] b8 fun _ aX=>qab ?_
    clear b8
    refine qaU aX.env_ (b:=decide (v ≥ 0)) kz (ar) ?_
    refine qc8 (d:=98) [(7,.p 2 0),(8,.v (.int .i16 v)),(9,.v (.bool (decide (v ≥ 0)))),(10,.p 1 0),(16,.v (.int .u32 (((tagC (decide (0 < (lst (T.at_ 5)).length)) + (tagC (decide (0 < (lst (T.at_ 6)).length)) + T.U.length)):Nat):Int))),(18,.p 0 0),(20,.v (.slice none 0 0)),(21,.v (.int .i32 (((lst (T.at_ 5)).length:Nat):Int)))] aX (qcY ((lst (T.at_ 5)).length) e32_5 _ (flat_ge' (fun E=>by rw [qbS]; decide) _)) Tryd.call49 fun _ _ ca=>?_
    clear aX
    refine qab ?_
    refine wp_seq ?_
    refine wp_seq ?_
    refine qk8 (d:=100) [(7,.p 2 0),(8,.v (.int .i16 v)),(9,.v (.bool (decide (v ≥ 0)))),(10,.p 1 0),(16,.v (.int .u32 (((tagC (decide (0 < (lst (T.at_ 5)).length)) + (tagC (decide (0 < (lst (T.at_ 6)).length)) + T.U.length)):Nat):Int))),(18,.p 0 0),(20,.v (.slice none 0 0)),(21,.v (.int .i32 (((lst (T.at_ 5)).length:Nat):Int))),(101,.v (.bool false))] ca (pOk _) Tryd.call51 fun _ _ aY=>?_
    clear ca
    refine qab ?_
    refine qap aY.env_ (b:=false) kz (rfl) ?_
    refine wp_skip ?_
    refine qab ?_
    refine wp_seq ?_
    refine qiY (t:=70) (e:=78) (size:=16) (bytes:=16) (d:=104) (A0:=none) (m:=0) (cp:=0) [(7,.p 2 0),(8,.v (.int .i16 v)),(9,.v (.bool (decide (v ≥ 0)))),(10,.p 1 0),(16,.v (.int .u32 (((tagC (decide (0 < (lst (T.at_ 5)).length)) + (tagC (decide (0 < (lst (T.at_ 6)).length)) + T.U.length)):Nat):Int))),(18,.p 0 0),(21,.v (.int .i32 (((lst (T.at_ 5)).length:Nat):Int))),(103,.v (.slice none 0 0))] [(7,.p 2 0),(8,.v (.int .i16 v)),(9,.v (.bool (decide (v ≥ 0)))),(10,.p 1 0),(16,.v (.int .u32 (((tagC (decide (0 < (lst (T.at_ 5)).length)) + (tagC (decide (0 < (lst (T.at_ 6)).length)) + T.U.length)):Nat):Int))),(18,.p 0 0),(20,.v (.slice none 0 0)),(21,.v (.int .i32 (((lst (T.at_ 5)).length:Nat):Int)))] 1 aY fun _ cb=>?_
    clear aY
    refine qab ?_
    refine qg4 (Mid:=fun a_ w_=>∃ (ae:DV) (P':qbQ),(∀ w F,P' w F → fe w F ∧ (Slots w F 16 ae.A ae.c ae.l (fun i=>[qae ((ae.f i).o.getD 0 0),qae ((ae.f i).o.getD 1 0),qae ((ae.f i).o.getD 2 0),qae ((ae.f i).o.getD 3 0),qae ((ae.f i).o.getD 4 0),qae ((ae.f i).o.getD 5 0),qae ((ae.f i).o.getD 6 0),qae ((ae.f i).o.getD 7 0),qae ((ae.f i).o.getD 8 0),qae ((ae.f i).o.getD 9 0),qae ((ae.f i).o.getD 10 0),qae ((ae.f i).o.getD 11 0),qae ((ae.f i).o.getD 12 0),qae ((ae.f i).o.getD 13 0),qae ((ae.f i).o.getD 14 0),qae ((ae.f i).o.getD 15 0)]) ∧ ae.l ≤ 1000000 ∧ ∀ i,i < ae.l → (ae.f i).o.length = 16) ∧ (ae.l = (lst (T.at_ 5)).length ∧ ∀ i,i < ae.l → (ae.f i).o = qah ((lst (T.at_ 5)).getD i .zero).S)) ∧ RS w (fun b o=>b = bv ∧ o < 9) F 180 aW [⟨bv,0,[.int .i16 v,.int .i32 (IntKind.i32.wrap (T.at_ 0).N),.int .i64 (IntKind.i64.wrap (T.at_ 1).N),.int .i64 (IntKind.i64.wrap (T.at_ 2).N),.bool (decide ((T.at_ 3).N % 2 = 1)),.bool (decide ((T.at_ 4).N % 2 = 1)),.slice none 0 0,.slice none 0 0,.map none],true⟩,⟨al,0,[.slice aw ax ay,.bool false],true⟩] [(7,.p 2 0),(8,.v (.int .i16 v)),(9,.v (.bool (decide (v ≥ 0)))),(10,.p 1 0),(16,.v (.int .u32 (((tagC (decide (0 < (lst (T.at_ 5)).length)) + (tagC (decide (0 < (lst (T.at_ 6)).length)) + T.U.length)):Nat):Int))),(18,.p 0 0),(20,.v (.slice ae.A ae.l ae.c))] P' ([]:Bs) a_ w_) ?_ ?_
    ·
     refine wp_seq ?_
     refine qbs [(7,.p 2 0),(8,.v (.int .i16 v)),(9,.v (.bool (decide (v ≥ 0)))),(10,.p 1 0),(16,.v (.int .u32 (((tagC (decide (0 < (lst (T.at_ 5)).length)) + (tagC (decide (0 < (lst (T.at_ 6)).length)) + T.U.length)):Nat):Int))),(18,.p 0 0),(20,.v (.slice none 0 0)),(21,.v (.int .i32 (((lst (T.at_ 5)).length:Nat):Int))),(106,.v (.bool (decide ((((lst (T.at_ 5)).length:Nat):Int) > 0))))] cb fun _ aE=>qab ?_
     clear cb
     refine qay aE.env_ (b:=decide ((((lst (T.at_ 5)).length:Nat):Int) > 0)) kz (fun aJ=>?_) (fun aJ=>?_)
     ·
      have hn_g159:0 < (lst (T.at_ 5)).length:=by have h_:=of_decide_eq_true aJ; omega
      refine qat [0,1,2,3] kz ?_
      refine qcT [0,1] [2,3] [(7,.p 2 0),(8,.v (.int .i16 v)),(9,.v (.bool (decide (v ≥ 0)))),(10,.p 1 0),(16,.v (.int .u32 (((tagC (decide (0 < (lst (T.at_ 5)).length)) + (tagC (decide (0 < (lst (T.at_ 6)).length)) + T.U.length)):Nat):Int))),(18,.p 0 0),(21,.v (.int .i32 (((lst (T.at_ 5)).length:Nat):Int))),(107,.v (.slice none 0 0)),(108,.v (.int .i32 (((lst (T.at_ 5)).length:Nat):Int)))] aE fun _ cc=>?_
      clear aE
      refine qam (qff (A0:=none) (d:=109) (t:=70) (tn:=21) (e:=78) (size:=16) (bytes:=16) (k:=.i32) (kn:=.i32) (q:=(((lst (T.at_ 5)).length:Nat):Int)) (j:=(lst (T.at_ 5)).length) (.agg #[.int .u8 0,.int .u8 0,.int .u8 0,.int .u8 0,.int .u8 0,.int .u8 0,.int .u8 0,.int .u8 0,.int .u8 0,.int .u8 0,.int .u8 0,.int .u8 0,.int .u8 0,.int .u8 0,.int .u8 0,.int .u8 0]) cc (fun ah ao _ _ hg_g159 hcap_g159 cd=>?_) rfl hn_g159 (by have:=e32_5; omega))
      clear cc
      refine qcT [3] [] [(7,.p 2 0),(8,.v (.int .i16 v)),(9,.v (.bool (decide (v ≥ 0)))),(10,.p 1 0),(16,.v (.int .u32 (((tagC (decide (0 < (lst (T.at_ 5)).length)) + (tagC (decide (0 < (lst (T.at_ 6)).length)) + T.U.length)):Nat):Int))),(18,.p 0 0),(20,.v (.slice (some ⟨ah,0,none⟩) ((lst (T.at_ 5)).length) ao)),(21,.v (.int .i32 (((lst (T.at_ 5)).length:Nat):Int)))] cd fun _ ce=>qaf ?_
      clear cd
      refine qab ?_
      refine wp_seq ?_
      refine qbs [(7,.p 2 0),(8,.v (.int .i16 v)),(9,.v (.bool (decide (v ≥ 0)))),(10,.p 1 0),(16,.v (.int .u32 (((tagC (decide (0 < (lst (T.at_ 5)).length)) + (tagC (decide (0 < (lst (T.at_ 6)).length)) + T.U.length)):Nat):Int))),(18,.p 0 0),(20,.v (.slice (some ⟨ah,0,none⟩) ((lst (T.at_ 5)).length) ao)),(21,.v (.int .i32 (((lst (T.at_ 5)).length:Nat):Int))),(22,.v (.int .i32 0))] ce fun _ aZ=>?_
      clear ce
      refine qab ?_
      refine wp_block ?_
      have ba:=aZ.mv
      have ff:=(aZ.cast (t:=(lst (T.at_ 5)).flatMap (fun E=>qah E.S) ++ ([]:Bs)) rfl).pk (env':=[(7,.p 2 0),(8,.v (.int .i16 v)),(9,.v (.bool (decide (v ≥ 0)))),(10,.p 1 0),(16,.v (.int .u32 (((tagC (decide (0 < (lst (T.at_ 5)).length)) + (tagC (decide (0 < (lst (T.at_ 6)).length)) + T.U.length)):Nat):Int))),(18,.p 0 0),(20,.v (.slice (some ⟨ah,0,none⟩) ((lst (T.at_ 5)).length) ao)),(21,.v (.int .i32 (((lst (T.at_ 5)).length:Nat):Int))),(22,.v (.int .i32 ((0:Nat):Int)))])
      clear aZ
      refine qiW (tb:=[⟨bv,0,[.int .i16 v,.int .i32 (IntKind.i32.wrap (T.at_ 0).N),.int .i64 (IntKind.i64.wrap (T.at_ 1).N),.int .i64 (IntKind.i64.wrap (T.at_ 2).N),.bool (decide ((T.at_ 3).N % 2 = 1)),.bool (decide ((T.at_ 4).N % 2 = 1)),.slice none 0 0,.slice none 0 0,.map none],true⟩,⟨al,0,[.slice aw ax ay,.bool false],true⟩]) (z:=.agg #[.int .u8 0,.int .u8 0,.int .u8 0,.int .u8 0,.int .u8 0,.int .u8 0,.int .u8 0,.int .u8 0,.int .u8 0,.int .u8 0,.int .u8 0,.int .u8 0,.int .u8 0,.int .u8 0,.int .u8 0,.int .u8 0]) (cl:=(fun d=>[qae (d.o.getD 0 0),qae (d.o.getD 1 0),qae (d.o.getD 2 0),qae (d.o.getD 3 0),qae (d.o.getD 4 0),qae (d.o.getD 5 0),qae (d.o.getD 6 0),qae (d.o.getD 7 0),qae (d.o.getD 8 0),qae (d.o.getD 9 0),qae (d.o.getD 10 0),qae (d.o.getD 11 0),qae (d.o.getD 12 0),qae (d.o.getD 13 0),qae (d.o.getD 14 0),qae (d.o.getD 15 0)])) (ok:=(fun _ _ d=>d.o.length = 16)) (rel:=(fun d t=>d.o = qah t.S)) (L:=lst (T.at_ 5)) (size:=16) (fun E=>qah E.S) ([]:Bs) (fun k=>[(7,.p 2 0),(8,.v (.int .i16 v)),(9,.v (.bool (decide (v ≥ 0)))),(10,.p 1 0),(16,.v (.int .u32 (((tagC (decide (0 < (lst (T.at_ 5)).length)) + (tagC (decide (0 < (lst (T.at_ 6)).length)) + T.U.length)):Nat):Int))),(18,.p 0 0),(20,.v (.slice (some ⟨ah,0,none⟩) ((lst (T.at_ 5)).length) ao)),(21,.v (.int .i32 (((lst (T.at_ 5)).length:Nat):Int))),(22,.v (.int .i32 ((k:Nat):Int)))]) ff (fun _ _ _ _ h=>h) (fun aj ab _ _ fg fh cm=>?_) (fun _ _ cq=>?_)
      ·
       obtain ⟨gv,cr,cu⟩:∃ P',(∀ w F,P' w F → (fe w F ∧ qeZ ah 16 (fun d=>[qae (d.o.getD 0 0),qae (d.o.getD 1 0),qae (d.o.getD 2 0),qae (d.o.getD 3 0),qae (d.o.getD 4 0),qae (d.o.getD 5 0),qae (d.o.getD 6 0),qae (d.o.getD 7 0),qae (d.o.getD 8 0),qae (d.o.getD 9 0),qae (d.o.getD 10 0),qae (d.o.getD 11 0),qae (d.o.getD 12 0),qae (d.o.getD 13 0),qae (d.o.getD 14 0),qae (d.o.getD 15 0)]) (fun _ _ d=>d.o.length = 16) (fun d t=>d.o = qah t.S) (lst (T.at_ 5)) aj w F)) ∧ RS w (fun b o=>b = bv ∧ o < 9) F 180 aW [⟨bv,0,[.int .i16 v,.int .i32 (IntKind.i32.wrap (T.at_ 0).N),.int .i64 (IntKind.i64.wrap (T.at_ 1).N),.int .i64 (IntKind.i64.wrap (T.at_ 2).N),.bool (decide ((T.at_ 3).N % 2 = 1)),.bool (decide ((T.at_ 4).N % 2 = 1)),.slice none 0 0,.slice none 0 0,.map none],true⟩,⟨al,0,[.slice aw ax ay,.bool false],true⟩,qbR ah 16 (.agg #[.int .u8 0,.int .u8 0,.int .u8 0,.int .u8 0,.int .u8 0,.int .u8 0,.int .u8 0,.int .u8 0,.int .u8 0,.int .u8 0,.int .u8 0,.int .u8 0,.int .u8 0,.int .u8 0,.int .u8 0,.int .u8 0]) ((lst (T.at_ 5)).length) aj] [(7,.p 2 0),(8,.v (.int .i16 v)),(9,.v (.bool (decide (v ≥ 0)))),(10,.p 1 0),(16,.v (.int .u32 (((tagC (decide (0 < (lst (T.at_ 5)).length)) + (tagC (decide (0 < (lst (T.at_ 6)).length)) + T.U.length)):Nat):Int))),(18,.p 0 0),(20,.v (.slice (some ⟨ah,0,none⟩) ((lst (T.at_ 5)).length) ao)),(21,.v (.int .i32 (((lst (T.at_ 5)).length:Nat):Int))),(22,.v (.int .i32 ((aj:Nat):Int)))] P' ((fun E=>qah E.S) ab ++ (((lst (T.at_ 5)).drop (aj + 1)).flatMap (fun E=>qah E.S) ++ ([]:Bs))) _ _:=⟨_,fun _ _ h=>h,cm⟩
       clear cm
       obtain ⟨fi,cw⟩:∃ R,R = ((lst (T.at_ 5)).drop (aj + 1)).flatMap (fun E=>qah E.S) ++ ([]:Bs):=⟨_,rfl⟩
       have cz:=cu.cast (t:=(fun E=>qah E.S) ab ++ fi) (by rw [cw])
       clear cu
       have cA:=cz.cast (t:=(qah ab.S) ++ fi) rfl
       clear cz
       refine wp_seq ?_
       refine wp_seq ?_
       refine qbs [(7,.p 2 0),(8,.v (.int .i16 v)),(9,.v (.bool (decide (v ≥ 0)))),(10,.p 1 0),(16,.v (.int .u32 (((tagC (decide (0 < (lst (T.at_ 5)).length)) + (tagC (decide (0 < (lst (T.at_ 6)).length)) + T.U.length)):Nat):Int))),(18,.p 0 0),(20,.v (.slice (some ⟨ah,0,none⟩) ((lst (T.at_ 5)).length) ao)),(21,.v (.int .i32 (((lst (T.at_ 5)).length:Nat):Int))),(22,.v (.int .i32 ((aj:Nat):Int))),(112,.v (.bool (decide (((aj:Nat):Int) < (((lst (T.at_ 5)).length:Nat):Int)))))] cA fun _ bd=>qab ?_
       clear cA
       refine qaU bd.env_ (b:=decide (((aj:Nat):Int) < (((lst (T.at_ 5)).length:Nat):Int))) kz (decide_eq_true (by omega)) ?_
       refine wp_skip ?_
       refine qab ?_
       refine wp_seq ?_
       refine wp_block ?_
       refine wp_seq ?_
       refine qat [0,1,2] kz ?_
       refine qam (qd4 (d:=115) bd (qlb ab.S _) Tryd.call53 fun _ _ cB=>?_)
       clear bd
       refine qam (qez (d:=23) [.int .u8 0,.int .u8 0,.int .u8 0,.int .u8 0,.int .u8 0,.int .u8 0,.int .u8 0,.int .u8 0,.int .u8 0,.int .u8 0,.int .u8 0,.int .u8 0,.int .u8 0,.int .u8 0,.int .u8 0,.int .u8 0] cB fun fj _ _ hb_b183 cC=>?_)
       clear cB
       have cD:=(cC.tbEq (tb':=[⟨bv,0,[.int .i16 v,.int .i32 (IntKind.i32.wrap (T.at_ 0).N),.int .i64 (IntKind.i64.wrap (T.at_ 1).N),.int .i64 (IntKind.i64.wrap (T.at_ 2).N),.bool (decide ((T.at_ 3).N % 2 = 1)),.bool (decide ((T.at_ 4).N % 2 = 1)),.slice none 0 0,.slice none 0 0,.map none],true⟩,⟨al,0,[.slice aw ax ay,.bool false],true⟩,qbR ah 16 (.agg #[.int .u8 0,.int .u8 0,.int .u8 0,.int .u8 0,.int .u8 0,.int .u8 0,.int .u8 0,.int .u8 0,.int .u8 0,.int .u8 0,.int .u8 0,.int .u8 0,.int .u8 0,.int .u8 0,.int .u8 0,.int .u8 0]) ((lst (T.at_ 5)).length) aj,⟨fj,0,[.int .u8 0,.int .u8 0,.int .u8 0,.int .u8 0,.int .u8 0,.int .u8 0,.int .u8 0,.int .u8 0,.int .u8 0,.int .u8 0,.int .u8 0,.int .u8 0,.int .u8 0,.int .u8 0,.int .u8 0,.int .u8 0],true⟩]) rfl).pk (env':=[(7,.p 2 0),(8,.v (.int .i16 v)),(9,.v (.bool (decide (v ≥ 0)))),(10,.p 1 0),(16,.v (.int .u32 (((tagC (decide (0 < (lst (T.at_ 5)).length)) + (tagC (decide (0 < (lst (T.at_ 6)).length)) + T.U.length)):Nat):Int))),(18,.p 0 0),(20,.v (.slice (some ⟨ah,0,none⟩) ((lst (T.at_ 5)).length) ao)),(21,.v (.int .i32 (((lst (T.at_ 5)).length:Nat):Int))),(22,.v (.int .i32 ((aj:Nat):Int))),(112,.v (.bool (decide (((aj:Nat):Int) < (((lst (T.at_ 5)).length:Nat):Int))))),(115,.v (.agg #[qae ((qah ab.S).getD 0 0),qae ((qah ab.S).getD 1 0),qae ((qah ab.S).getD 2 0),qae ((qah ab.S).getD 3 0),qae ((qah ab.S).getD 4 0),qae ((qah ab.S).getD 5 0),qae ((qah ab.S).getD 6 0),qae ((qah ab.S).getD 7 0),qae ((qah ab.S).getD 8 0),qae ((qah ab.S).getD 9 0),qae ((qah ab.S).getD 10 0),qae ((qah ab.S).getD 11 0),qae ((qah ab.S).getD 12 0),qae ((qah ab.S).getD 13 0),qae ((qah ab.S).getD 14 0),qae ((qah ab.S).getD 15 0)])),(23,.p 4 0)])
       clear cC
       refine qam (qdv [⟨bv,0,[.int .i16 v,.int .i32 (IntKind.i32.wrap (T.at_ 0).N),.int .i64 (IntKind.i64.wrap (T.at_ 1).N),.int .i64 (IntKind.i64.wrap (T.at_ 2).N),.bool (decide ((T.at_ 3).N % 2 = 1)),.bool (decide ((T.at_ 4).N % 2 = 1)),.slice none 0 0,.slice none 0 0,.map none],true⟩,⟨al,0,[.slice aw ax ay,.bool false],true⟩,qbR ah 16 (.agg #[.int .u8 0,.int .u8 0,.int .u8 0,.int .u8 0,.int .u8 0,.int .u8 0,.int .u8 0,.int .u8 0,.int .u8 0,.int .u8 0,.int .u8 0,.int .u8 0,.int .u8 0,.int .u8 0,.int .u8 0,.int .u8 0]) ((lst (T.at_ 5)).length) aj,⟨fj,0,[qae ((qah ab.S).getD 0 0),qae ((qah ab.S).getD 1 0),qae ((qah ab.S).getD 2 0),qae ((qah ab.S).getD 3 0),qae ((qah ab.S).getD 4 0),qae ((qah ab.S).getD 5 0),qae ((qah ab.S).getD 6 0),qae ((qah ab.S).getD 7 0),qae ((qah ab.S).getD 8 0),qae ((qah ab.S).getD 9 0),qae ((qah ab.S).getD 10 0),qae ((qah ab.S).getD 11 0),qae ((qah ab.S).getD 12 0),qae ((qah ab.S).getD 13 0),qae ((qah ab.S).getD 14 0),qae ((qah ab.S).getD 15 0)],true⟩] 3 cD fun _ cE=>?_)
       clear cD
       refine qaf ?_
       have cG:=cE.pk (env':=[(7,.p 2 0),(8,.v (.int .i16 v)),(9,.v (.bool (decide (v ≥ 0)))),(10,.p 1 0),(16,.v (.int .u32 (((tagC (decide (0 < (lst (T.at_ 5)).length)) + (tagC (decide (0 < (lst (T.at_ 6)).length)) + T.U.length)):Nat):Int))),(18,.p 0 0),(20,.v (.slice (some ⟨ah,0,none⟩) ((lst (T.at_ 5)).length) ao)),(21,.v (.int .i32 (((lst (T.at_ 5)).length:Nat):Int))),(22,.v (.int .i32 ((aj:Nat):Int))),(23,.p 4 0)])
       clear cE
       refine qab ?_
       refine qat [0,1,2,3,4] kz ?_
       refine qcT [0,1,2] [3,4] [(7,.p 2 0),(8,.v (.int .i16 v)),(9,.v (.bool (decide (v ≥ 0)))),(10,.p 1 0),(16,.v (.int .u32 (((tagC (decide (0 < (lst (T.at_ 5)).length)) + (tagC (decide (0 < (lst (T.at_ 6)).length)) + T.U.length)):Nat):Int))),(18,.p 0 0),(20,.v (.slice (some ⟨ah,0,none⟩) ((lst (T.at_ 5)).length) ao)),(21,.v (.int .i32 (((lst (T.at_ 5)).length:Nat):Int))),(22,.v (.int .i32 ((aj:Nat):Int))),(116,.v (.slice (some ⟨ah,0,none⟩) ((lst (T.at_ 5)).length) ao)),(117,.v (.int .i32 ((aj:Nat):Int))),(118,.v (.agg #[qae ((qah ab.S).getD 0 0),qae ((qah ab.S).getD 1 0),qae ((qah ab.S).getD 2 0),qae ((qah ab.S).getD 3 0),qae ((qah ab.S).getD 4 0),qae ((qah ab.S).getD 5 0),qae ((qah ab.S).getD 6 0),qae ((qah ab.S).getD 7 0),qae ((qah ab.S).getD 8 0),qae ((qah ab.S).getD 9 0),qae ((qah ab.S).getD 10 0),qae ((qah ab.S).getD 11 0),qae ((qah ab.S).getD 12 0),qae ((qah ab.S).getD 13 0),qae ((qah ab.S).getD 14 0),qae ((qah ab.S).getD 15 0)]))] cG fun _ cH=>?_
       clear cG
       have cI:=RS.dropT (tb:=[⟨bv,0,[.int .i16 v,.int .i32 (IntKind.i32.wrap (T.at_ 0).N),.int .i64 (IntKind.i64.wrap (T.at_ 1).N),.int .i64 (IntKind.i64.wrap (T.at_ 2).N),.bool (decide ((T.at_ 3).N % 2 = 1)),.bool (decide ((T.at_ 4).N % 2 = 1)),.slice none 0 0,.slice none 0 0,.map none],true⟩,⟨al,0,[.slice aw ax ay,.bool false],true⟩,qbR ah 16 (.agg #[.int .u8 0,.int .u8 0,.int .u8 0,.int .u8 0,.int .u8 0,.int .u8 0,.int .u8 0,.int .u8 0,.int .u8 0,.int .u8 0,.int .u8 0,.int .u8 0,.int .u8 0,.int .u8 0,.int .u8 0,.int .u8 0]) ((lst (T.at_ 5)).length) aj]) cH hb_b183 kz
       clear cH
       refine qam (qg6 (t:=70) (e:=78) (size:=16) (bytes:=16) (d:=119) (tb:=[⟨bv,0,[.int .i16 v,.int .i32 (IntKind.i32.wrap (T.at_ 0).N),.int .i64 (IntKind.i64.wrap (T.at_ 1).N),.int .i64 (IntKind.i64.wrap (T.at_ 2).N),.bool (decide ((T.at_ 3).N % 2 = 1)),.bool (decide ((T.at_ 4).N % 2 = 1)),.slice none 0 0,.slice none 0 0,.map none],true⟩,⟨al,0,[.slice aw ax ay,.bool false],true⟩]) (z:=.agg #[.int .u8 0,.int .u8 0,.int .u8 0,.int .u8 0,.int .u8 0,.int .u8 0,.int .u8 0,.int .u8 0,.int .u8 0,.int .u8 0,.int .u8 0,.int .u8 0,.int .u8 0,.int .u8 0,.int .u8 0,.int .u8 0]) cI fh rfl kz fun _ cJ=>?_)
       clear cI
       refine qam (qdv [⟨bv,0,[.int .i16 v,.int .i32 (IntKind.i32.wrap (T.at_ 0).N),.int .i64 (IntKind.i64.wrap (T.at_ 1).N),.int .i64 (IntKind.i64.wrap (T.at_ 2).N),.bool (decide ((T.at_ 3).N % 2 = 1)),.bool (decide ((T.at_ 4).N % 2 = 1)),.slice none 0 0,.slice none 0 0,.map none],true⟩,⟨al,0,[.slice aw ax ay,.bool false],true⟩,qbR ah 16 (.agg #[.int .u8 0,.int .u8 0,.int .u8 0,.int .u8 0,.int .u8 0,.int .u8 0,.int .u8 0,.int .u8 0,.int .u8 0,.int .u8 0,.int .u8 0,.int .u8 0,.int .u8 0,.int .u8 0,.int .u8 0,.int .u8 0]) ((lst (T.at_ 5)).length) (aj + 1),⟨ah,aj * 16,[qae ((qah ab.S).getD 0 0),qae ((qah ab.S).getD 1 0),qae ((qah ab.S).getD 2 0),qae ((qah ab.S).getD 3 0),qae ((qah ab.S).getD 4 0),qae ((qah ab.S).getD 5 0),qae ((qah ab.S).getD 6 0),qae ((qah ab.S).getD 7 0),qae ((qah ab.S).getD 8 0),qae ((qah ab.S).getD 9 0),qae ((qah ab.S).getD 10 0),qae ((qah ab.S).getD 11 0),qae ((qah ab.S).getD 12 0),qae ((qah ab.S).getD 13 0),qae ((qah ab.S).getD 14 0),qae ((qah ab.S).getD 15 0)],true⟩] 3 cJ fun _ cK=>qaf ?_)
       clear cJ
       have cL:=cK.pk (env':=[(7,.p 2 0),(8,.v (.int .i16 v)),(9,.v (.bool (decide (v ≥ 0)))),(10,.p 1 0),(16,.v (.int .u32 (((tagC (decide (0 < (lst (T.at_ 5)).length)) + (tagC (decide (0 < (lst (T.at_ 6)).length)) + T.U.length)):Nat):Int))),(18,.p 0 0),(20,.v (.slice (some ⟨ah,0,none⟩) ((lst (T.at_ 5)).length) ao)),(21,.v (.int .i32 (((lst (T.at_ 5)).length:Nat):Int))),(22,.v (.int .i32 ((aj:Nat):Int)))])
       clear cK
       refine qaq ?_
       refine qab ?_
       refine qbs [(7,.p 2 0),(8,.v (.int .i16 v)),(9,.v (.bool (decide (v ≥ 0)))),(10,.p 1 0),(16,.v (.int .u32 (((tagC (decide (0 < (lst (T.at_ 5)).length)) + (tagC (decide (0 < (lst (T.at_ 6)).length)) + T.U.length)):Nat):Int))),(18,.p 0 0),(20,.v (.slice (some ⟨ah,0,none⟩) ((lst (T.at_ 5)).length) ao)),(21,.v (.int .i32 (((lst (T.at_ 5)).length:Nat):Int))),(22,.v (.int .i32 (IntKind.i32.wrap (((aj:Nat):Int) + 1))))] cL fun _ cM=>?_
       clear cL
       refine qab ?_
       have fk:=(cM.envEq (env':=[(7,.p 2 0),(8,.v (.int .i16 v)),(9,.v (.bool (decide (v ≥ 0)))),(10,.p 1 0),(16,.v (.int .u32 (((tagC (decide (0 < (lst (T.at_ 5)).length)) + (tagC (decide (0 < (lst (T.at_ 6)).length)) + T.U.length)):Nat):Int))),(18,.p 0 0),(20,.v (.slice (some ⟨ah,0,none⟩) ((lst (T.at_ 5)).length) ao)),(21,.v (.int .i32 (((lst (T.at_ 5)).length:Nat):Int))),(22,.v (.int .i32 ((aj + 1:Nat):Int)))]) (by rw [qg5 (by have:=e32_5; omega)])).pk (env':=[(7,.p 2 0),(8,.v (.int .i16 v)),(9,.v (.bool (decide (v ≥ 0)))),(10,.p 1 0),(16,.v (.int .u32 (((tagC (decide (0 < (lst (T.at_ 5)).length)) + (tagC (decide (0 < (lst (T.at_ 6)).length)) + T.U.length)):Nat):Int))),(18,.p 0 0),(20,.v (.slice (some ⟨ah,0,none⟩) ((lst (T.at_ 5)).length) ao)),(21,.v (.int .i32 (((lst (T.at_ 5)).length:Nat):Int))),(22,.v (.int .i32 ((aj + 1:Nat):Int)))])
       clear cM
       exact (RS.thing (tb:=[⟨bv,0,[.int .i16 v,.int .i32 (IntKind.i32.wrap (T.at_ 0).N),.int .i64 (IntKind.i64.wrap (T.at_ 1).N),.int .i64 (IntKind.i64.wrap (T.at_ 2).N),.bool (decide ((T.at_ 3).N % 2 = 1)),.bool (decide ((T.at_ 4).N % 2 = 1)),.slice none 0 0,.slice none 0 0,.map none],true⟩,⟨al,0,[.slice aw ax ay,.bool false],true⟩]) (z:=.agg #[.int .u8 0,.int .u8 0,.int .u8 0,.int .u8 0,.int .u8 0,.int .u8 0,.int .u8 0,.int .u8 0,.int .u8 0,.int .u8 0,.int .u8 0,.int .u8 0,.int .u8 0,.int .u8 0,.int .u8 0,.int .u8 0]) (D:=dvO none (qah ab.S) 0) (fk.cast cw) hg_g159 fg (fun _ _ _ _ h=>h) ba rfl (fun w F h_=>⟨(cr _ _ h_).1,(cr _ _ h_).2,qbS _,rfl⟩) kz)
      refine wp_seq ?_
      refine wp_seq ?_
      refine qbs [(7,.p 2 0),(8,.v (.int .i16 v)),(9,.v (.bool (decide (v ≥ 0)))),(10,.p 1 0),(16,.v (.int .u32 (((tagC (decide (0 < (lst (T.at_ 5)).length)) + (tagC (decide (0 < (lst (T.at_ 6)).length)) + T.U.length)):Nat):Int))),(18,.p 0 0),(20,.v (.slice (some ⟨ah,0,none⟩) ((lst (T.at_ 5)).length) ao)),(21,.v (.int .i32 (((lst (T.at_ 5)).length:Nat):Int))),(22,.v (.int .i32 (((lst (T.at_ 5)).length:Nat):Int))),(112,.v (.bool (decide ((((lst (T.at_ 5)).length:Nat):Int) < (((lst (T.at_ 5)).length:Nat):Int)))))] cq fun _ cN=>qab ?_
      clear cq
      refine qap cN.env_ (b:=decide ((((lst (T.at_ 5)).length:Nat):Int) < (((lst (T.at_ 5)).length:Nat):Int))) kz (decide_eq_false (by omega)) ?_
      refine wp_exit ?_
      refine qaB ?_
      refine qaB ?_
      refine qaL ?_
      refine qab ?_
      obtain ⟨ga,fm⟩:=RS.listEnd (tb:=[⟨bv,0,[.int .i16 v,.int .i32 (IntKind.i32.wrap (T.at_ 0).N),.int .i64 (IntKind.i64.wrap (T.at_ 1).N),.int .i64 (IntKind.i64.wrap (T.at_ 2).N),.bool (decide ((T.at_ 3).N % 2 = 1)),.bool (decide ((T.at_ 4).N % 2 = 1)),.slice none 0 0,.slice none 0 0,.map none],true⟩,⟨al,0,[.slice aw ax ay,.bool false],true⟩]) (c:=ao) (cN.pk (env':=[(7,.p 2 0),(8,.v (.int .i16 v)),(9,.v (.bool (decide (v ≥ 0)))),(10,.p 1 0),(16,.v (.int .u32 (((tagC (decide (0 < (lst (T.at_ 5)).length)) + (tagC (decide (0 < (lst (T.at_ 6)).length)) + T.U.length)):Nat):Int))),(18,.p 0 0),(20,.v (.slice (some ⟨ah,0,none⟩) ((lst (T.at_ 5)).length) ao))])) hg_g159 (fun _ _ _ _ h=>h) ba hcap_g159 (by have:=e32_5; omega) hn_g159 kz
      exact ⟨dvL (some ⟨ah,0,none⟩) (lst (T.at_ 5)).length ao ga,_,fun w F h_=>⟨h_.1,⟨h_.2.1,Nat.le_trans e32_5 (by decide),h_.2.2.1⟩,⟨rfl,h_.2.2.2⟩⟩,fm⟩
     refine wp_skip ?_
     refine qab ?_
     refine wp_seq ?_
     refine qbs [(7,.p 2 0),(8,.v (.int .i16 v)),(9,.v (.bool (decide (v ≥ 0)))),(10,.p 1 0),(16,.v (.int .u32 (((tagC (decide (0 < (lst (T.at_ 5)).length)) + (tagC (decide (0 < (lst (T.at_ 6)).length)) + T.U.length)):Nat):Int))),(18,.p 0 0),(20,.v (.slice none 0 0)),(21,.v (.int .i32 (((lst (T.at_ 5)).length:Nat):Int))),(22,.v (.int .i32 0))] aE fun _ cO=>?_
     clear aE
     refine qab ?_
     refine wp_block ?_
     refine qfz ?_
     refine wp_seq ?_
     refine wp_seq ?_
     refine qbs [(7,.p 2 0),(8,.v (.int .i16 v)),(9,.v (.bool (decide (v ≥ 0)))),(10,.p 1 0),(16,.v (.int .u32 (((tagC (decide (0 < (lst (T.at_ 5)).length)) + (tagC (decide (0 < (lst (T.at_ 6)).length)) + T.U.length)):Nat):Int))),(18,.p 0 0),(20,.v (.slice none 0 0)),(21,.v (.int .i32 (((lst (T.at_ 5)).length:Nat):Int))),(22,.v (.int .i32 0)),(112,.v (.bool (decide (0 < (((lst (T.at_ 5)).length:Nat):Int)))))] cO fun _ cP=>qab ?_
     clear cO
     refine qap cP.env_ (b:=decide (0 < (((lst (T.at_ 5)).length:Nat):Int))) kz (decide_eq_false (by have h_:=of_decide_eq_false aJ; omega)) ?_
     refine wp_exit ?_
     refine qaB ?_
     refine qaB ?_
     refine qaL ?_
     refine qab ?_
     have hz_:(lst (T.at_ 5)).length = 0:=by have h_:=of_decide_eq_false aJ; omega
     exact ⟨dvL none 0 0 (fun _=>dv0),_,fun w F h_=>⟨h_,⟨Slots.nil _ _ _ _,Nat.zero_le _,fun _ h=>absurd h (Nat.not_lt_zero _)⟩,⟨hz_.symm,fun _ h=>absurd h (Nat.not_lt_zero _)⟩⟩,(cP.cast (t:=([]:Bs)) (by rw [List.eq_nil_of_length_eq_zero hz_]; rfl)).pk (env':=[(7,.p 2 0),(8,.v (.int .i16 v)),(9,.v (.bool (decide (v ≥ 0)))),(10,.p 1 0),(16,.v (.int .u32 (((tagC (decide (0 < (lst (T.at_ 5)).length)) + (tagC (decide (0 < (lst (T.at_ 6)).length)) + T.U.length)):Nat):Int))),(18,.p 0 0),(20,.v (.slice none 0 0))])⟩
    rintro _ _ ⟨ae,gw,aK,cQ⟩
    refine wp_seq ?_
    refine qbs [(7,.p 2 0),(8,.v (.int .i16 v)),(9,.v (.bool (decide (v ≥ 0)))),(10,.p 1 0),(16,.v (.int .u32 (((tagC (decide (0 < (lst (T.at_ 5)).length)) + (tagC (decide (0 < (lst (T.at_ 6)).length)) + T.U.length)):Nat):Int))),(18,.p 0 0),(19,.v (.slice ae.A ae.l ae.c))] cQ fun _ cR=>?_
    clear cQ
    refine qab ?_
    refine wp_seq ?_
    refine qeU [⟨bv,0,[.int .i16 v,.int .i32 (IntKind.i32.wrap (T.at_ 0).N),.int .i64 (IntKind.i64.wrap (T.at_ 1).N),.int .i64 (IntKind.i64.wrap (T.at_ 2).N),.bool (decide ((T.at_ 3).N % 2 = 1)),.bool (decide ((T.at_ 4).N % 2 = 1)),.slice ae.A ae.l ae.c,.slice none 0 0,.map none],true⟩,⟨al,0,[.slice aw ax ay,.bool false],true⟩] 0 [(7,.p 2 0),(8,.v (.int .i16 v)),(9,.v (.bool (decide (v ≥ 0)))),(10,.p 1 0),(16,.v (.int .u32 (((tagC (decide (0 < (lst (T.at_ 5)).length)) + (tagC (decide (0 < (lst (T.at_ 6)).length)) + T.U.length)):Nat):Int))),(18,.p 0 0)] cR fun _ _ cS=>?_
    clear cR
    refine qab ?_
    refine wp_seq ?_
    refine qat [0,1] kz (qam (qdO (d:=125) cS qeV Tryd.call52 fun _ cT=>?_))
    clear cS
    refine qcT [1] [] [(7,.p 2 0),(8,.v (.int .i16 v)),(9,.v (.bool (decide (v ≥ 0)))),(10,.p 1 0),(16,.v (.int .u32 (((tagC (decide (0 < (lst (T.at_ 5)).length)) + (tagC (decide (0 < (lst (T.at_ 6)).length)) + T.U.length)):Nat):Int))),(24,.v (.nilIface))] cT fun _ cU=>qaf ?_
    clear cT
    refine qab ?_
    refine wp_seq ?_
    refine qbs [(7,.p 2 0),(8,.v (.int .i16 v)),(9,.v (.bool (decide (v ≥ 0)))),(10,.p 1 0),(16,.v (.int .u32 (((tagC (decide (0 < (lst (T.at_ 5)).length)) + (tagC (decide (0 < (lst (T.at_ 6)).length)) + T.U.length)):Nat):Int))),(24,.v (.nilIface)),(127,.v (.bool false))] cU fun _ bf=>qab ?_
    clear cU
    refine qap bf.env_ (b:=false) kz (rfl) ?_
    refine wp_skip ?_
    refine qaq ?_
    refine qaq ?_
    refine qab ?_
    refine qbs [(7,.p 2 0),(8,.v (.int .i16 v)),(9,.v (.bool (decide (v ≥ 0)))),(10,.p 1 0),(16,.v (.int .u32 (IntKind.u32.wrap ((((tagC (decide (0 < (lst (T.at_ 5)).length)) + (tagC (decide (0 < (lst (T.at_ 6)).length)) + T.U.length)):Nat):Int) - 1))))] bf fun _ fo=>?_
    clear bf
    refine qab ?_
    have fq:=RS.unnest (tb:=[⟨bv,0,[.int .i16 v,.int .i32 (IntKind.i32.wrap (T.at_ 0).N),.int .i64 (IntKind.i64.wrap (T.at_ 1).N),.int .i64 (IntKind.i64.wrap (T.at_ 2).N),.bool (decide ((T.at_ 3).N % 2 = 1)),.bool (decide ((T.at_ 4).N % 2 = 1)),.slice ae.A ae.l ae.c,.slice none 0 0,.map none],true⟩]) (so:=aO) fo (fun w F h_=>(bV _ _ (aK _ _ h_).1).2) hb_b130 kz
    have d_:IntKind.u32.wrap ((((tagC (decide (0 < (lst (T.at_ 5)).length)) + (tagC (decide (0 < (lst (T.at_ 6)).length)) + T.U.length)):Nat):Int) - 1) = (((tagC (decide (0 < (lst (T.at_ 6)).length)) + T.U.length):Nat):Int):=qgE (by rw [qdr aD]) (by have t0_:=qej (decide (0 < (lst (T.at_ 5)).length)); have t1_:=qej (decide (0 < (lst (T.at_ 6)).length)); have hu_:=e32_U.2.1; omega)
    have fr:=(fq.envEq (env':=[(7,.p 0 0),(8,.v (.int .i16 v)),(9,.v (.bool (decide (v ≥ 0)))),(10,.p 1 0),(16,.v (.int .u32 (((tagC (decide (0 < (lst (T.at_ 6)).length)) + T.U.length):Nat):Int)))]) (by first | rfl | (rw [d_]; rfl))).pk (env':=[(7,.p 0 0),(8,.v (.int .i16 v)),(9,.v (.bool (decide (v ≥ 0)))),(10,.p 1 0),(16,.v (.int .u32 (((tagC (decide (0 < (lst (T.at_ 6)).length)) + T.U.length):Nat):Int)))])
    exact ⟨(tagC (decide (0 < (lst (T.at_ 6)).length)) + T.U.length),by rw [qdr aD]; omega,bE ae _ _ _ (fun w F h_=>⟨(aT _ _ (bM _ _ (bV _ _ (aK _ _ h_).1).1).1).1,⟨(aK _ _ h_).2.1,⟨(fun _=>(aK _ _ h_).2.2),(fun e2_=>by rw [if_pos (by exact ar),aD] at e2_; cases e2_)⟩⟩⟩) fr⟩
   ·
    have cV:=e9.cast (t:=uv 1 ++ (uv ((if (decide (v ≥ 0)) = true then (uv ((lst (T.at_ 6)).length + 1)) else (be 4 (lst (T.at_ 6)).length)) ++ ((lst (T.at_ 6)).flatMap (fun E=>qah E.S))).length ++ (((if (decide (v ≥ 0)) = true then (uv ((lst (T.at_ 6)).length + 1)) else (be 4 (lst (T.at_ 6)).length)) ++ ((lst (T.at_ 6)).flatMap (fun E=>qah E.S))) ++ bC))) (by rw [ec,qg0 aC]; simp only [List.append_assoc])
    refine wp_seq ?_
    refine wp_seq ?_
    refine qbs [(7,.p 0 0),(8,.v (.int .i16 v)),(9,.v (.bool (decide (v ≥ 0)))),(10,.p 1 0),(16,.v (.int .u32 (((tagC (decide (0 < (lst (T.at_ 6)).length)) + T.U.length):Nat):Int))),(73,.v (.bool (decide ((((tagC (decide (0 < (lst (T.at_ 6)).length)) + T.U.length):Nat):Int) > 0))))] cV fun _ bg=>qab ?_
    clear cV
    refine qaU bg.env_ (b:=decide ((((tagC (decide (0 < (lst (T.at_ 6)).length)) + T.U.length):Nat):Int) > 0)) kz (decide_eq_true (by rw [qdr aC]; omega)) ?_
    refine wp_skip ?_
    refine qab ?_
    refine wp_seq ?_
    refine wp_block ?_
    refine wp_seq ?_
    refine qc8 (d:=76) [(7,.p 0 0),(8,.v (.int .i16 v)),(9,.v (.bool (decide (v ≥ 0)))),(10,.p 1 0),(16,.v (.int .u32 (((tagC (decide (0 < (lst (T.at_ 6)).length)) + T.U.length):Nat):Int))),(17,.v (.int .u32 1))] bg ((show qcX _ _ _ (uv ((if (decide (v ≥ 0)) = true then (uv ((lst (T.at_ 6)).length + 1)) else (be 4 (lst (T.at_ 6)).length)) ++ ((lst (T.at_ 6)).flatMap (fun E=>qah E.S))).length ++ (((if (decide (v ≥ 0)) = true then (uv ((lst (T.at_ 6)).length + 1)) else (be 4 (lst (T.at_ 6)).length)) ++ ((lst (T.at_ 6)).flatMap (fun E=>qah E.S))) ++ bC)) (.int .u32 1) from @pUv 1 (by decide) (uv ((if (decide (v ≥ 0)) = true then (uv ((lst (T.at_ 6)).length + 1)) else (be 4 (lst (T.at_ 6)).length)) ++ ((lst (T.at_ 6)).flatMap (fun E=>qah E.S))).length ++ (((if (decide (v ≥ 0)) = true then (uv ((lst (T.at_ 6)).length + 1)) else (be 4 (lst (T.at_ 6)).length)) ++ ((lst (T.at_ 6)).flatMap (fun E=>qah E.S))) ++ bC)))) Tryd.call46 fun _ _ cW=>?_
    clear bg
    refine qab ?_
    refine wp_seq ?_
    refine qbs [(7,.p 0 0),(8,.v (.int .i16 v)),(9,.v (.bool (decide (v ≥ 0)))),(10,.p 1 0),(16,.v (.int .u32 (((tagC (decide (0 < (lst (T.at_ 6)).length)) + T.U.length):Nat):Int))),(17,.v (.int .u32 1)),(77,.v (.int .u32 1))] cW fun _ cX=>?_
    clear cW
    refine qab ?_
    refine wp_block ?_
    refine wp_seq ?_
    refine qbs [(7,.p 0 0),(8,.v (.int .i16 v)),(9,.v (.bool (decide (v ≥ 0)))),(10,.p 1 0),(16,.v (.int .u32 (((tagC (decide (0 < (lst (T.at_ 6)).length)) + T.U.length):Nat):Int))),(17,.v (.int .u32 1)),(77,.v (.int .u32 1)),(86,.v (.bool false))] cX fun _ bh=>qab ?_
    clear cX
    refine qap bh.env_ (b:=false) kz (rfl) ?_
    refine wp_seq ?_
    refine qbs [(7,.p 0 0),(8,.v (.int .i16 v)),(9,.v (.bool (decide (v ≥ 0)))),(10,.p 1 0),(16,.v (.int .u32 (((tagC (decide (0 < (lst (T.at_ 6)).length)) + T.U.length):Nat):Int))),(17,.v (.int .u32 1)),(129,.v (.bool true))] bh fun _ bj=>qab ?_
    clear bh
    refine qaU bj.env_ (b:=true) kz (rfl) ?_
    refine wp_seq ?_
    refine qat [0,1,2,3,4,5] kz ?_
    refine qam (qd4 (d:=131) bj (pUv (((if (decide (v ≥ 0)) = true then (uv ((lst (T.at_ 6)).length + 1)) else (be 4 (lst (T.at_ 6)).length)) ++ ((lst (T.at_ 6)).flatMap (fun E=>qah E.S))).length) (by have hl_:=e32_6; exact qg9 hl_) (((if (decide (v ≥ 0)) = true then (uv ((lst (T.at_ 6)).length + 1)) else (be 4 (lst (T.at_ 6)).length)) ++ ((lst (T.at_ 6)).flatMap (fun E=>qah E.S))) ++ bC)) Tryd.call46 fun _ _ cY=>?_)
    clear bj
    refine qcT [1] [2,3,4,5] [(7,.p 0 0),(8,.v (.int .i16 v)),(9,.v (.bool (decide (v ≥ 0)))),(10,.p 1 0),(16,.v (.int .u32 (((tagC (decide (0 < (lst (T.at_ 6)).length)) + T.U.length):Nat):Int))),(132,.v (.int .i64 (IntKind.i64.wrap ((((if (decide (v ≥ 0)) = true then (uv ((lst (T.at_ 6)).length + 1)) else (be 4 (lst (T.at_ 6)).length)) ++ ((lst (T.at_ 6)).flatMap (fun E=>qah E.S))).length:Nat):Int))))] cY fun _ cZ=>?_
    clear cY
    refine qam (qiZ (d:=133) (q:=(IntKind.i64.wrap ((((if (decide (v ≥ 0)) = true then (uv ((lst (T.at_ 6)).length + 1)) else (be 4 (lst (T.at_ 6)).length)) ++ ((lst (T.at_ 6)).flatMap (fun E=>qah E.S))).length:Nat):Int))) (X:=(if (decide (v ≥ 0)) = true then (uv ((lst (T.at_ 6)).length + 1)) else (be 4 (lst (T.at_ 6)).length)) ++ ((lst (T.at_ 6)).flatMap (fun E=>qah E.S))) (rest:=bC) cZ (by first | exact wrap_i64 (by omega) (by have:=(qg9 (b:=decide (v ≥ 0)) e32_6); omega) | rfl) (qjF _ _) Tryd.call48 fun eh gb _ _ bk c5=>?_)
    clear cZ
    refine qcT [3] [4,5] [(7,.p 0 0),(8,.v (.int .i16 v)),(9,.v (.bool (decide (v ≥ 0)))),(10,.p 1 0),(16,.v (.int .u32 (((tagC (decide (0 < (lst (T.at_ 6)).length)) + T.U.length):Nat):Int))),(134,.v (.agg #[.slice eh (((if (decide (v ≥ 0)) = true then (uv ((lst (T.at_ 6)).length + 1)) else (be 4 (lst (T.at_ 6)).length)) ++ ((lst (T.at_ 6)).flatMap (fun E=>qah E.S))).length) (((if (decide (v ≥ 0)) = true then (uv ((lst (T.at_ 6)).length + 1)) else (be 4 (lst (T.at_ 6)).length)) ++ ((lst (T.at_ 6)).flatMap (fun E=>qah E.S))).length),.bool false]))] c5 fun _ c6=>?_
    clear c5
    refine qam (qez (d:=25) [.slice none 0 0,.bool false] c6 fun bn _ _ hb_b223 da=>?_)
    clear c6
    have db:=(da.tbEq (tb':=[⟨bv,0,[.int .i16 v,.int .i32 (IntKind.i32.wrap (T.at_ 0).N),.int .i64 (IntKind.i64.wrap (T.at_ 1).N),.int .i64 (IntKind.i64.wrap (T.at_ 2).N),.bool (decide ((T.at_ 3).N % 2 = 1)),.bool (decide ((T.at_ 4).N % 2 = 1)),.slice aa.A aa.l aa.c,.slice none 0 0,.map none],true⟩,⟨bn,0,[.slice none 0 0,.bool false],true⟩]) rfl).pk (env':=[(7,.p 0 0),(8,.v (.int .i16 v)),(9,.v (.bool (decide (v ≥ 0)))),(10,.p 1 0),(16,.v (.int .u32 (((tagC (decide (0 < (lst (T.at_ 6)).length)) + T.U.length):Nat):Int))),(134,.v (.agg #[.slice eh (((if (decide (v ≥ 0)) = true then (uv ((lst (T.at_ 6)).length + 1)) else (be 4 (lst (T.at_ 6)).length)) ++ ((lst (T.at_ 6)).flatMap (fun E=>qah E.S))).length) (((if (decide (v ≥ 0)) = true then (uv ((lst (T.at_ 6)).length + 1)) else (be 4 (lst (T.at_ 6)).length)) ++ ((lst (T.at_ 6)).flatMap (fun E=>qah E.S))).length),.bool false])),(25,.p 2 0)])
    clear da
    refine qam (qdv [⟨bv,0,[.int .i16 v,.int .i32 (IntKind.i32.wrap (T.at_ 0).N),.int .i64 (IntKind.i64.wrap (T.at_ 1).N),.int .i64 (IntKind.i64.wrap (T.at_ 2).N),.bool (decide ((T.at_ 3).N % 2 = 1)),.bool (decide ((T.at_ 4).N % 2 = 1)),.slice aa.A aa.l aa.c,.slice none 0 0,.map none],true⟩,⟨bn,0,[.slice eh (((if (decide (v ≥ 0)) = true then (uv ((lst (T.at_ 6)).length + 1)) else (be 4 (lst (T.at_ 6)).length)) ++ ((lst (T.at_ 6)).flatMap (fun E=>qah E.S))).length) (((if (decide (v ≥ 0)) = true then (uv ((lst (T.at_ 6)).length + 1)) else (be 4 (lst (T.at_ 6)).length)) ++ ((lst (T.at_ 6)).flatMap (fun E=>qah E.S))).length),.bool false],true⟩] 1 db fun _ dc=>?_)
    clear db
    refine qaf ?_
    have de:=dc.pk (env':=[(7,.p 0 0),(8,.v (.int .i16 v)),(9,.v (.bool (decide (v ≥ 0)))),(10,.p 1 0),(16,.v (.int .u32 (((tagC (decide (0 < (lst (T.at_ 6)).length)) + T.U.length):Nat):Int))),(25,.p 2 0)])
    clear dc
    obtain ⟨az,aA,aB,df⟩:=RS.nest (tb:=[⟨bv,0,[.int .i16 v,.int .i32 (IntKind.i32.wrap (T.at_ 0).N),.int .i64 (IntKind.i64.wrap (T.at_ 1).N),.int .i64 (IntKind.i64.wrap (T.at_ 2).N),.bool (decide ((T.at_ 3).N % 2 = 1)),.bool (decide ((T.at_ 4).N % 2 = 1)),.slice aa.A aa.l aa.c,.slice none 0 0,.map none],true⟩]) (si:=(if (decide (v ≥ 0)) = true then (uv ((lst (T.at_ 6)).length + 1)) else (be 4 (lst (T.at_ 6)).length)) ++ ((lst (T.at_ 6)).flatMap (fun E=>qah E.S))) de (fun w F h_=>(bk _ _ h_).2)
    have dg:=((df.tbEq (tb':=[⟨bv,0,[.int .i16 v,.int .i32 (IntKind.i32.wrap (T.at_ 0).N),.int .i64 (IntKind.i64.wrap (T.at_ 1).N),.int .i64 (IntKind.i64.wrap (T.at_ 2).N),.bool (decide ((T.at_ 3).N % 2 = 1)),.bool (decide ((T.at_ 4).N % 2 = 1)),.slice aa.A aa.l aa.c,.slice none 0 0,.map none],true⟩,⟨al,0,[.slice az aA aB,.bool false],true⟩]) rfl).envEq (env':=[(7,.p 2 0),(8,.v (.int .i16 v)),(9,.v (.bool (decide (v ≥ 0)))),(10,.p 1 0),(16,.v (.int .u32 (((tagC (decide (0 < (lst (T.at_ 6)).length)) + T.U.length):Nat):Int))),(25,.p 0 0)]) kz).cast (t:=((if (decide (v ≥ 0)) = true then (uv ((lst (T.at_ 6)).length + 1)) else (be 4 (lst (T.at_ 6)).length)) ++ ((lst (T.at_ 6)).flatMap (fun E=>qah E.S))) ++ ([]:Bs)) (List.append_nil _).symm
    obtain ⟨ft,bo,dh⟩:∃ P',(∀ w F,P' w F → (gb w F ∧ RdS w F az aA aB bC)) ∧ RS w (fun b o=>b = bv ∧ o < 9) F 180 bn [⟨bv,0,[.int .i16 v,.int .i32 (IntKind.i32.wrap (T.at_ 0).N),.int .i64 (IntKind.i64.wrap (T.at_ 1).N),.int .i64 (IntKind.i64.wrap (T.at_ 2).N),.bool (decide ((T.at_ 3).N % 2 = 1)),.bool (decide ((T.at_ 4).N % 2 = 1)),.slice aa.A aa.l aa.c,.slice none 0 0,.map none],true⟩,⟨al,0,[.slice az aA aB,.bool false],true⟩] [(7,.p 2 0),(8,.v (.int .i16 v)),(9,.v (.bool (decide (v ≥ 0)))),(10,.p 1 0),(16,.v (.int .u32 (((tagC (decide (0 < (lst (T.at_ 6)).length)) + T.U.length):Nat):Int))),(25,.p 0 0)] P' (((if (decide (v ≥ 0)) = true then (uv ((lst (T.at_ 6)).length + 1)) else (be 4 (lst (T.at_ 6)).length)) ++ ((lst (T.at_ 6)).flatMap (fun E=>qah E.S))) ++ ([]:Bs)) _ _:=⟨_,fun _ _ h=>h,dg⟩
    clear de df dg
    have di:=dh.cast (t:=(uv ((lst (T.at_ 6)).length + 1)) ++ (((lst (T.at_ 6)).flatMap (fun E=>qah E.S)) ++ ([]:Bs))) (by rw [if_pos (by exact ar)]; simp only [List.append_assoc])
    clear dh
    refine qab ?_
    refine wp_seq ?_
    refine qbs [(7,.p 2 0),(8,.v (.int .i16 v)),(9,.v (.bool (decide (v ≥ 0)))),(10,.p 1 0),(16,.v (.int .u32 (((tagC (decide (0 < (lst (T.at_ 6)).length)) + T.U.length):Nat):Int))),(25,.p 0 0),(26,.v (.slice none 0 0))] di fun _ dj=>?_
    clear di
    refine qab ?_
    refine wp_seq ?_
    refine qbs [(7,.p 2 0),(8,.v (.int .i16 v)),(9,.v (.bool (decide (v ≥ 0)))),(10,.p 1 0),(16,.v (.int .u32 (((tagC (decide (0 < (lst (T.at_ 6)).length)) + T.U.length):Nat):Int))),(25,.p 0 0),(27,.v (.slice none 0 0))] dj fun _ dl=>?_
    clear dj
    refine qab ?_
    refine wp_seq ?_
    refine qbs [(7,.p 2 0),(8,.v (.int .i16 v)),(9,.v (.bool (decide (v ≥ 0)))),(10,.p 1 0),(16,.v (.int .u32 (((tagC (decide (0 < (lst (T.at_ 6)).length)) + T.U.length):Nat):Int))),(25,.p 0 0),(27,.v (.slice none 0 0))] dl fun _ dp=>?_
    clear dl
    refine qab ?_
    refine wp_seq ?_
    refine wp_seq ?_
    refine qbs [(7,.p 2 0),(8,.v (.int .i16 v)),(9,.v (.bool (decide (v ≥ 0)))),(10,.p 1 0),(16,.v (.int .u32 (((tagC (decide (0 < (lst (T.at_ 6)).length)) + T.U.length):Nat):Int))),(25,.p 0 0),(27,.v (.slice none 0 0)),(140,.v (.bool (decide (v ≥ 0))))] dp fun _ bp=>qab ?_
    clear dp
    refine qaU bp.env_ (b:=decide (v ≥ 0)) kz (ar) ?_
    refine qc8 (d:=141) [(7,.p 2 0),(8,.v (.int .i16 v)),(9,.v (.bool (decide (v ≥ 0)))),(10,.p 1 0),(16,.v (.int .u32 (((tagC (decide (0 < (lst (T.at_ 6)).length)) + T.U.length):Nat):Int))),(25,.p 0 0),(27,.v (.slice none 0 0)),(28,.v (.int .i32 (((lst (T.at_ 6)).length:Nat):Int)))] bp (qcY ((lst (T.at_ 6)).length) e32_6 _ (flat_ge' (fun E=>by rw [qbS]; decide) _)) Tryd.call49 fun _ _ dq=>?_
    clear bp
    refine qab ?_
    refine wp_seq ?_
    refine wp_seq ?_
    refine qat [0,1,2,3,4,5] kz ?_
    refine qcT [0,1,2] [3,4,5] [(7,.p 2 0),(8,.v (.int .i16 v)),(9,.v (.bool (decide (v ≥ 0)))),(10,.p 1 0),(16,.v (.int .u32 (((tagC (decide (0 < (lst (T.at_ 6)).length)) + T.U.length):Nat):Int))),(25,.p 0 0),(27,.v (.slice none 0 0)),(28,.v (.int .i32 (((lst (T.at_ 6)).length:Nat):Int))),(145,.v (.bool (decide (v < 0))))] dq fun _ dr=>?_
    clear dq
    have fu:(decide (v < 0)) = false:=decide_eq_false (by have h_:=of_decide_eq_true ar; omega)
    have dt:=dr.envEq (env':=[(7,.p 2 0),(8,.v (.int .i16 v)),(9,.v (.bool (decide (v ≥ 0)))),(10,.p 1 0),(16,.v (.int .u32 (((tagC (decide (0 < (lst (T.at_ 6)).length)) + T.U.length):Nat):Int))),(25,.p 0 0),(27,.v (.slice none 0 0)),(28,.v (.int .i32 (((lst (T.at_ 6)).length:Nat):Int))),(145,.v (.bool false))]) (by rw [fu])
    clear dr
    refine qcT [3,4,5] [] [(7,.p 2 0),(8,.v (.int .i16 v)),(9,.v (.bool (decide (v ≥ 0)))),(10,.p 1 0),(16,.v (.int .u32 (((tagC (decide (0 < (lst (T.at_ 6)).length)) + T.U.length):Nat):Int))),(25,.p 0 0),(27,.v (.slice none 0 0)),(28,.v (.int .i32 (((lst (T.at_ 6)).length:Nat):Int))),(148,.v (.bool ((((lst (T.at_ 6)).length:Nat):Int) == 0)))] dt fun _ bq=>qaf (qab ?_)
    clear dt
    refine qap bq.env_ (b:=(((lst (T.at_ 6)).length:Nat):Int) == 0) kz (by have h_:=of_decide_eq_true aC; simp only [beq_eq_false_iff_ne,ne_eq]; omega) ?_
    refine wp_skip ?_
    refine qab ?_
    refine wp_seq ?_
    refine wp_seq ?_
    refine qk8 (d:=150) [(7,.p 2 0),(8,.v (.int .i16 v)),(9,.v (.bool (decide (v ≥ 0)))),(10,.p 1 0),(16,.v (.int .u32 (((tagC (decide (0 < (lst (T.at_ 6)).length)) + T.U.length):Nat):Int))),(25,.p 0 0),(27,.v (.slice none 0 0)),(28,.v (.int .i32 (((lst (T.at_ 6)).length:Nat):Int))),(151,.v (.bool false))] bq (pOk _) Tryd.call51 fun _ _ bt=>?_
    clear bq
    refine qab ?_
    refine qap bt.env_ (b:=false) kz (rfl) ?_
    refine wp_skip ?_
    refine qab ?_
    refine wp_seq ?_
    refine qiY (t:=70) (e:=78) (size:=16) (bytes:=16) (d:=154) (A0:=none) (m:=0) (cp:=0) [(7,.p 2 0),(8,.v (.int .i16 v)),(9,.v (.bool (decide (v ≥ 0)))),(10,.p 1 0),(16,.v (.int .u32 (((tagC (decide (0 < (lst (T.at_ 6)).length)) + T.U.length):Nat):Int))),(25,.p 0 0),(28,.v (.int .i32 (((lst (T.at_ 6)).length:Nat):Int))),(153,.v (.slice none 0 0))] [(7,.p 2 0),(8,.v (.int .i16 v)),(9,.v (.bool (decide (v ≥ 0)))),(10,.p 1 0),(16,.v (.int .u32 (((tagC (decide (0 < (lst (T.at_ 6)).length)) + T.U.length):Nat):Int))),(25,.p 0 0),(27,.v (.slice none 0 0)),(28,.v (.int .i32 (((lst (T.at_ 6)).length:Nat):Int)))] 1 bt fun _ du=>?_
    clear bt
    refine qab ?_
    refine qg4 (Mid:=fun a_ w_=>∃ (af:DV) (P':qbQ),(∀ w F,P' w F → ft w F ∧ (Slots w F 16 af.A af.c af.l (fun i=>[qae ((af.f i).o.getD 0 0),qae ((af.f i).o.getD 1 0),qae ((af.f i).o.getD 2 0),qae ((af.f i).o.getD 3 0),qae ((af.f i).o.getD 4 0),qae ((af.f i).o.getD 5 0),qae ((af.f i).o.getD 6 0),qae ((af.f i).o.getD 7 0),qae ((af.f i).o.getD 8 0),qae ((af.f i).o.getD 9 0),qae ((af.f i).o.getD 10 0),qae ((af.f i).o.getD 11 0),qae ((af.f i).o.getD 12 0),qae ((af.f i).o.getD 13 0),qae ((af.f i).o.getD 14 0),qae ((af.f i).o.getD 15 0)]) ∧ af.l ≤ 1000000 ∧ ∀ i,i < af.l → (af.f i).o.length = 16) ∧ (af.l = (lst (T.at_ 6)).length ∧ ∀ i,i < af.l → (af.f i).o = qah ((lst (T.at_ 6)).getD i .zero).S)) ∧ RS w (fun b o=>b = bv ∧ o < 9) F 180 bn [⟨bv,0,[.int .i16 v,.int .i32 (IntKind.i32.wrap (T.at_ 0).N),.int .i64 (IntKind.i64.wrap (T.at_ 1).N),.int .i64 (IntKind.i64.wrap (T.at_ 2).N),.bool (decide ((T.at_ 3).N % 2 = 1)),.bool (decide ((T.at_ 4).N % 2 = 1)),.slice aa.A aa.l aa.c,.slice none 0 0,.map none],true⟩,⟨al,0,[.slice az aA aB,.bool false],true⟩] [(7,.p 2 0),(8,.v (.int .i16 v)),(9,.v (.bool (decide (v ≥ 0)))),(10,.p 1 0),(16,.v (.int .u32 (((tagC (decide (0 < (lst (T.at_ 6)).length)) + T.U.length):Nat):Int))),(25,.p 0 0),(27,.v (.slice af.A af.l af.c))] P' ([]:Bs) a_ w_) ?_ ?_
    ·
     refine wp_seq ?_
     refine qbs [(7,.p 2 0),(8,.v (.int .i16 v)),(9,.v (.bool (decide (v ≥ 0)))),(10,.p 1 0),(16,.v (.int .u32 (((tagC (decide (0 < (lst (T.at_ 6)).length)) + T.U.length):Nat):Int))),(25,.p 0 0),(27,.v (.slice none 0 0)),(28,.v (.int .i32 (((lst (T.at_ 6)).length:Nat):Int))),(156,.v (.bool (decide ((((lst (T.at_ 6)).length:Nat):Int) > 0))))] du fun _ aF=>qab ?_
     clear du
     refine qay aF.env_ (b:=decide ((((lst (T.at_ 6)).length:Nat):Int) > 0)) kz (fun aL=>?_) (fun aL=>?_)
     ·
      have hn_g256:0 < (lst (T.at_ 6)).length:=by have h_:=of_decide_eq_true aL; omega
      refine qat [0,1,2,3] kz ?_
      refine qcT [0,1] [2,3] [(7,.p 2 0),(8,.v (.int .i16 v)),(9,.v (.bool (decide (v ≥ 0)))),(10,.p 1 0),(16,.v (.int .u32 (((tagC (decide (0 < (lst (T.at_ 6)).length)) + T.U.length):Nat):Int))),(25,.p 0 0),(28,.v (.int .i32 (((lst (T.at_ 6)).length:Nat):Int))),(157,.v (.slice none 0 0)),(158,.v (.int .i32 (((lst (T.at_ 6)).length:Nat):Int)))] aF fun _ dv=>?_
      clear aF
      refine qam (qff (A0:=none) (d:=159) (t:=70) (tn:=21) (e:=78) (size:=16) (bytes:=16) (k:=.i32) (kn:=.i32) (q:=(((lst (T.at_ 6)).length:Nat):Int)) (j:=(lst (T.at_ 6)).length) (.agg #[.int .u8 0,.int .u8 0,.int .u8 0,.int .u8 0,.int .u8 0,.int .u8 0,.int .u8 0,.int .u8 0,.int .u8 0,.int .u8 0,.int .u8 0,.int .u8 0,.int .u8 0,.int .u8 0,.int .u8 0,.int .u8 0]) dv (fun ai ap _ _ hg_g256 hcap_g256 dw=>?_) rfl hn_g256 (by have:=e32_6; omega))
      clear dv
      refine qcT [3] [] [(7,.p 2 0),(8,.v (.int .i16 v)),(9,.v (.bool (decide (v ≥ 0)))),(10,.p 1 0),(16,.v (.int .u32 (((tagC (decide (0 < (lst (T.at_ 6)).length)) + T.U.length):Nat):Int))),(25,.p 0 0),(27,.v (.slice (some ⟨ai,0,none⟩) ((lst (T.at_ 6)).length) ap)),(28,.v (.int .i32 (((lst (T.at_ 6)).length:Nat):Int)))] dw fun _ dx=>qaf ?_
      clear dw
      refine qab ?_
      refine wp_seq ?_
      refine qbs [(7,.p 2 0),(8,.v (.int .i16 v)),(9,.v (.bool (decide (v ≥ 0)))),(10,.p 1 0),(16,.v (.int .u32 (((tagC (decide (0 < (lst (T.at_ 6)).length)) + T.U.length):Nat):Int))),(25,.p 0 0),(27,.v (.slice (some ⟨ai,0,none⟩) ((lst (T.at_ 6)).length) ap)),(28,.v (.int .i32 (((lst (T.at_ 6)).length:Nat):Int))),(29,.v (.int .i32 0))] dx fun _ bu=>?_
      clear dx
      refine qab ?_
      refine wp_block ?_
      have bw:=bu.mv
      have fv:=(bu.cast (t:=(lst (T.at_ 6)).flatMap (fun E=>qah E.S) ++ ([]:Bs)) rfl).pk (env':=[(7,.p 2 0),(8,.v (.int .i16 v)),(9,.v (.bool (decide (v ≥ 0)))),(10,.p 1 0),(16,.v (.int .u32 (((tagC (decide (0 < (lst (T.at_ 6)).length)) + T.U.length):Nat):Int))),(25,.p 0 0),(27,.v (.slice (some ⟨ai,0,none⟩) ((lst (T.at_ 6)).length) ap)),(28,.v (.int .i32 (((lst (T.at_ 6)).length:Nat):Int))),(29,.v (.int .i32 ((0:Nat):Int)))])
      clear bu
      refine qiW (tb:=[⟨bv,0,[.int .i16 v,.int .i32 (IntKind.i32.wrap (T.at_ 0).N),.int .i64 (IntKind.i64.wrap (T.at_ 1).N),.int .i64 (IntKind.i64.wrap (T.at_ 2).N),.bool (decide ((T.at_ 3).N % 2 = 1)),.bool (decide ((T.at_ 4).N % 2 = 1)),.slice aa.A aa.l aa.c,.slice none 0 0,.map none],true⟩,⟨al,0,[.slice az aA aB,.bool false],true⟩]) (z:=.agg #[.int .u8 0,.int .u8 0,.int .u8 0,.int .u8 0,.int .u8 0,.int .u8 0,.int .u8 0,.int .u8 0,.int .u8 0,.int .u8 0,.int .u8 0,.int .u8 0,.int .u8 0,.int .u8 0,.int .u8 0,.int .u8 0]) (cl:=(fun d=>[qae (d.o.getD 0 0),qae (d.o.getD 1 0),qae (d.o.getD 2 0),qae (d.o.getD 3 0),qae (d.o.getD 4 0),qae (d.o.getD 5 0),qae (d.o.getD 6 0),qae (d.o.getD 7 0),qae (d.o.getD 8 0),qae (d.o.getD 9 0),qae (d.o.getD 10 0),qae (d.o.getD 11 0),qae (d.o.getD 12 0),qae (d.o.getD 13 0),qae (d.o.getD 14 0),qae (d.o.getD 15 0)])) (ok:=(fun _ _ d=>d.o.length = 16)) (rel:=(fun d t=>d.o = qah t.S)) (L:=lst (T.at_ 6)) (size:=16) (fun E=>qah E.S) ([]:Bs) (fun k=>[(7,.p 2 0),(8,.v (.int .i16 v)),(9,.v (.bool (decide (v ≥ 0)))),(10,.p 1 0),(16,.v (.int .u32 (((tagC (decide (0 < (lst (T.at_ 6)).length)) + T.U.length):Nat):Int))),(25,.p 0 0),(27,.v (.slice (some ⟨ai,0,none⟩) ((lst (T.at_ 6)).length) ap)),(28,.v (.int .i32 (((lst (T.at_ 6)).length:Nat):Int))),(29,.v (.int .i32 ((k:Nat):Int)))]) fv (fun _ _ _ _ h=>h) (fun ak ac _ _ fw fx dy=>?_) (fun _ _ dA=>?_)
      ·
       obtain ⟨gx,dB,dC⟩:∃ P',(∀ w F,P' w F → (ft w F ∧ qeZ ai 16 (fun d=>[qae (d.o.getD 0 0),qae (d.o.getD 1 0),qae (d.o.getD 2 0),qae (d.o.getD 3 0),qae (d.o.getD 4 0),qae (d.o.getD 5 0),qae (d.o.getD 6 0),qae (d.o.getD 7 0),qae (d.o.getD 8 0),qae (d.o.getD 9 0),qae (d.o.getD 10 0),qae (d.o.getD 11 0),qae (d.o.getD 12 0),qae (d.o.getD 13 0),qae (d.o.getD 14 0),qae (d.o.getD 15 0)]) (fun _ _ d=>d.o.length = 16) (fun d t=>d.o = qah t.S) (lst (T.at_ 6)) ak w F)) ∧ RS w (fun b o=>b = bv ∧ o < 9) F 180 bn [⟨bv,0,[.int .i16 v,.int .i32 (IntKind.i32.wrap (T.at_ 0).N),.int .i64 (IntKind.i64.wrap (T.at_ 1).N),.int .i64 (IntKind.i64.wrap (T.at_ 2).N),.bool (decide ((T.at_ 3).N % 2 = 1)),.bool (decide ((T.at_ 4).N % 2 = 1)),.slice aa.A aa.l aa.c,.slice none 0 0,.map none],true⟩,⟨al,0,[.slice az aA aB,.bool false],true⟩,qbR ai 16 (.agg #[.int .u8 0,.int .u8 0,.int .u8 0,.int .u8 0,.int .u8 0,.int .u8 0,.int .u8 0,.int .u8 0,.int .u8 0,.int .u8 0,.int .u8 0,.int .u8 0,.int .u8 0,.int .u8 0,.int .u8 0,.int .u8 0]) ((lst (T.at_ 6)).length) ak] [(7,.p 2 0),(8,.v (.int .i16 v)),(9,.v (.bool (decide (v ≥ 0)))),(10,.p 1 0),(16,.v (.int .u32 (((tagC (decide (0 < (lst (T.at_ 6)).length)) + T.U.length):Nat):Int))),(25,.p 0 0),(27,.v (.slice (some ⟨ai,0,none⟩) ((lst (T.at_ 6)).length) ap)),(28,.v (.int .i32 (((lst (T.at_ 6)).length:Nat):Int))),(29,.v (.int .i32 ((ak:Nat):Int)))] P' ((fun E=>qah E.S) ac ++ (((lst (T.at_ 6)).drop (ak + 1)).flatMap (fun E=>qah E.S) ++ ([]:Bs))) _ _:=⟨_,fun _ _ h=>h,dy⟩
       clear dy
       obtain ⟨fy,dD⟩:∃ R,R = ((lst (T.at_ 6)).drop (ak + 1)).flatMap (fun E=>qah E.S) ++ ([]:Bs):=⟨_,rfl⟩
       have dE:=dC.cast (t:=(fun E=>qah E.S) ac ++ fy) (by rw [dD])
       clear dC
       have dF:=dE.cast (t:=(qah ac.S) ++ fy) rfl
       clear dE
       refine wp_seq ?_
       refine wp_seq ?_
       refine qbs [(7,.p 2 0),(8,.v (.int .i16 v)),(9,.v (.bool (decide (v ≥ 0)))),(10,.p 1 0),(16,.v (.int .u32 (((tagC (decide (0 < (lst (T.at_ 6)).length)) + T.U.length):Nat):Int))),(25,.p 0 0),(27,.v (.slice (some ⟨ai,0,none⟩) ((lst (T.at_ 6)).length) ap)),(28,.v (.int .i32 (((lst (T.at_ 6)).length:Nat):Int))),(29,.v (.int .i32 ((ak:Nat):Int))),(162,.v (.bool (decide (((ak:Nat):Int) < (((lst (T.at_ 6)).length:Nat):Int)))))] dF fun _ bx=>qab ?_
       clear dF
       refine qaU bx.env_ (b:=decide (((ak:Nat):Int) < (((lst (T.at_ 6)).length:Nat):Int))) kz (decide_eq_true (by omega)) ?_
       refine wp_skip ?_
       refine qab ?_
       refine wp_seq ?_
       refine wp_block ?_
       refine wp_seq ?_
       refine qat [0,1,2] kz ?_
       refine qam (qd4 (d:=165) bx (qlb ac.S _) Tryd.call53 fun _ _ dG=>?_)
       clear bx
       refine qam (qez (d:=30) [.int .u8 0,.int .u8 0,.int .u8 0,.int .u8 0,.int .u8 0,.int .u8 0,.int .u8 0,.int .u8 0,.int .u8 0,.int .u8 0,.int .u8 0,.int .u8 0,.int .u8 0,.int .u8 0,.int .u8 0,.int .u8 0] dG fun fz _ _ hb_b280 dH=>?_)
       clear dG
       have dI:=(dH.tbEq (tb':=[⟨bv,0,[.int .i16 v,.int .i32 (IntKind.i32.wrap (T.at_ 0).N),.int .i64 (IntKind.i64.wrap (T.at_ 1).N),.int .i64 (IntKind.i64.wrap (T.at_ 2).N),.bool (decide ((T.at_ 3).N % 2 = 1)),.bool (decide ((T.at_ 4).N % 2 = 1)),.slice aa.A aa.l aa.c,.slice none 0 0,.map none],true⟩,⟨al,0,[.slice az aA aB,.bool false],true⟩,qbR ai 16 (.agg #[.int .u8 0,.int .u8 0,.int .u8 0,.int .u8 0,.int .u8 0,.int .u8 0,.int .u8 0,.int .u8 0,.int .u8 0,.int .u8 0,.int .u8 0,.int .u8 0,.int .u8 0,.int .u8 0,.int .u8 0,.int .u8 0]) ((lst (T.at_ 6)).length) ak,⟨fz,0,[.int .u8 0,.int .u8 0,.int .u8 0,.int .u8 0,.int .u8 0,.int .u8 0,.int .u8 0,.int .u8 0,.int .u8 0,.int .u8 0,.int .u8 0,.int .u8 0,.int .u8 0,.int .u8 0,.int .u8 0,.int .u8 0],true⟩]) rfl).pk (env':=[(7,.p 2 0),(8,.v (.int .i16 v)),(9,.v (.bool (decide (v ≥ 0)))),(10,.p 1 0),(16,.v (.int .u32 (((tagC (decide (0 < (lst (T.at_ 6)).length)) + T.U.length):Nat):Int))),(25,.p 0 0),(27,.v (.slice (some ⟨ai,0,none⟩) ((lst (T.at_ 6)).length) ap)),(28,.v (.int .i32 (((lst (T.at_ 6)).length:Nat):Int))),(29,.v (.int .i32 ((ak:Nat):Int))),(162,.v (.bool (decide (((ak:Nat):Int) < (((lst (T.at_ 6)).length:Nat):Int))))),(165,.v (.agg #[qae ((qah ac.S).getD 0 0),qae ((qah ac.S).getD 1 0),qae ((qah ac.S).getD 2 0),qae ((qah ac.S).getD 3 0),qae ((qah ac.S).getD 4 0),qae ((qah ac.S).getD 5 0),qae ((qah ac.S).getD 6 0),qae ((qah ac.S).getD 7 0),qae ((qah ac.S).getD 8 0),qae ((qah ac.S).getD 9 0),qae ((qah ac.S).getD 10 0),qae ((qah ac.S).getD 11 0),qae ((qah ac.S).getD 12 0),qae ((qah ac.S).getD 13 0),qae ((qah ac.S).getD 14 0),qae ((qah ac.S).getD 15 0)])),(30,.p 4 0)])
       clear dH
       refine qam (qdv [⟨bv,0,[.int .i16 v,.int .i32 (IntKind.i32.wrap (T.at_ 0).N),.int .i64 (IntKind.i64.wrap (T.at_ 1).N),.int .i64 (IntKind.i64.wrap (T.at_ 2).N),.bool (decide ((T.at_ 3).N % 2 = 1)),.bool (decide ((T.at_ 4).N % 2 = 1)),.slice aa.A aa.l aa.c,.slice none 0 0,.map none],true⟩,⟨al,0,[.slice az aA aB,.bool false],true⟩,qbR ai 16 (.agg #[.int .u8 0,.int .u8 0,.int .u8 0,.int .u8 0,.int .u8 0,.int .u8 0,.int .u8 0,.int .u8 0,.int .u8 0,.int .u8 0,.int .u8 0,.int .u8 0,.int .u8 0,.int .u8 0,.int .u8 0,.int .u8 0]) ((lst (T.at_ 6)).length) ak,⟨fz,0,[qae ((qah ac.S).getD 0 0),qae ((qah ac.S).getD 1 0),qae ((qah ac.S).getD 2 0),qae ((qah ac.S).getD 3 0),qae ((qah ac.S).getD 4 0),qae ((qah ac.S).getD 5 0),qae ((qah ac.S).getD 6 0),qae ((qah ac.S).getD 7 0),qae ((qah ac.S).getD 8 0),qae ((qah ac.S).getD 9 0),qae ((qah ac.S).getD 10 0),qae ((qah ac.S).getD 11 0),qae ((qah ac.S).getD 12 0),qae ((qah ac.S).getD 13 0),qae ((qah ac.S).getD 14 0),qae ((qah ac.S).getD 15 0)],true⟩] 3 dI fun _ dJ=>?_)
       clear dI
       refine qaf ?_
       have dK:=dJ.pk (env':=[(7,.p 2 0),(8,.v (.int .i16 v)),(9,.v (.bool (decide (v ≥ 0)))),(10,.p 1 0),(16,.v (.int .u32 (((tagC (decide (0 < (lst (T.at_ 6)).length)) + T.U.length):Nat):Int))),(25,.p 0 0),(27,.v (.slice (some ⟨ai,0,none⟩) ((lst (T.at_ 6)).length) ap)),(28,.v (.int .i32 (((lst (T.at_ 6)).length:Nat):Int))),(29,.v (.int .i32 ((ak:Nat):Int))),(30,.p 4 0)])
       clear dJ
       refine qab ?_
       refine qat [0,1,2,3,4] kz ?_
       refine qcT [0,1,2] [3,4] [(7,.p 2 0),(8,.v (.int .i16 v)),(9,.v (.bool (decide (v ≥ 0)))),(10,.p 1 0),(16,.v (.int .u32 (((tagC (decide (0 < (lst (T.at_ 6)).length)) + T.U.length):Nat):Int))),(25,.p 0 0),(27,.v (.slice (some ⟨ai,0,none⟩) ((lst (T.at_ 6)).length) ap)),(28,.v (.int .i32 (((lst (T.at_ 6)).length:Nat):Int))),(29,.v (.int .i32 ((ak:Nat):Int))),(166,.v (.slice (some ⟨ai,0,none⟩) ((lst (T.at_ 6)).length) ap)),(167,.v (.int .i32 ((ak:Nat):Int))),(168,.v (.agg #[qae ((qah ac.S).getD 0 0),qae ((qah ac.S).getD 1 0),qae ((qah ac.S).getD 2 0),qae ((qah ac.S).getD 3 0),qae ((qah ac.S).getD 4 0),qae ((qah ac.S).getD 5 0),qae ((qah ac.S).getD 6 0),qae ((qah ac.S).getD 7 0),qae ((qah ac.S).getD 8 0),qae ((qah ac.S).getD 9 0),qae ((qah ac.S).getD 10 0),qae ((qah ac.S).getD 11 0),qae ((qah ac.S).getD 12 0),qae ((qah ac.S).getD 13 0),qae ((qah ac.S).getD 14 0),qae ((qah ac.S).getD 15 0)]))] dK fun _ dL=>?_
       clear dK
       have dM:=RS.dropT (tb:=[⟨bv,0,[.int .i16 v,.int .i32 (IntKind.i32.wrap (T.at_ 0).N),.int .i64 (IntKind.i64.wrap (T.at_ 1).N),.int .i64 (IntKind.i64.wrap (T.at_ 2).N),.bool (decide ((T.at_ 3).N % 2 = 1)),.bool (decide ((T.at_ 4).N % 2 = 1)),.slice aa.A aa.l aa.c,.slice none 0 0,.map none],true⟩,⟨al,0,[.slice az aA aB,.bool false],true⟩,qbR ai 16 (.agg #[.int .u8 0,.int .u8 0,.int .u8 0,.int .u8 0,.int .u8 0,.int .u8 0,.int .u8 0,.int .u8 0,.int .u8 0,.int .u8 0,.int .u8 0,.int .u8 0,.int .u8 0,.int .u8 0,.int .u8 0,.int .u8 0]) ((lst (T.at_ 6)).length) ak]) dL hb_b280 kz
       clear dL
       refine qam (qg6 (t:=70) (e:=78) (size:=16) (bytes:=16) (d:=169) (tb:=[⟨bv,0,[.int .i16 v,.int .i32 (IntKind.i32.wrap (T.at_ 0).N),.int .i64 (IntKind.i64.wrap (T.at_ 1).N),.int .i64 (IntKind.i64.wrap (T.at_ 2).N),.bool (decide ((T.at_ 3).N % 2 = 1)),.bool (decide ((T.at_ 4).N % 2 = 1)),.slice aa.A aa.l aa.c,.slice none 0 0,.map none],true⟩,⟨al,0,[.slice az aA aB,.bool false],true⟩]) (z:=.agg #[.int .u8 0,.int .u8 0,.int .u8 0,.int .u8 0,.int .u8 0,.int .u8 0,.int .u8 0,.int .u8 0,.int .u8 0,.int .u8 0,.int .u8 0,.int .u8 0,.int .u8 0,.int .u8 0,.int .u8 0,.int .u8 0]) dM fx rfl kz fun _ dN=>?_)
       clear dM
       refine qam (qdv [⟨bv,0,[.int .i16 v,.int .i32 (IntKind.i32.wrap (T.at_ 0).N),.int .i64 (IntKind.i64.wrap (T.at_ 1).N),.int .i64 (IntKind.i64.wrap (T.at_ 2).N),.bool (decide ((T.at_ 3).N % 2 = 1)),.bool (decide ((T.at_ 4).N % 2 = 1)),.slice aa.A aa.l aa.c,.slice none 0 0,.map none],true⟩,⟨al,0,[.slice az aA aB,.bool false],true⟩,qbR ai 16 (.agg #[.int .u8 0,.int .u8 0,.int .u8 0,.int .u8 0,.int .u8 0,.int .u8 0,.int .u8 0,.int .u8 0,.int .u8 0,.int .u8 0,.int .u8 0,.int .u8 0,.int .u8 0,.int .u8 0,.int .u8 0,.int .u8 0]) ((lst (T.at_ 6)).length) (ak + 1),⟨ai,ak * 16,[qae ((qah ac.S).getD 0 0),qae ((qah ac.S).getD 1 0),qae ((qah ac.S).getD 2 0),qae ((qah ac.S).getD 3 0),qae ((qah ac.S).getD 4 0),qae ((qah ac.S).getD 5 0),qae ((qah ac.S).getD 6 0),qae ((qah ac.S).getD 7 0),qae ((qah ac.S).getD 8 0),qae ((qah ac.S).getD 9 0),qae ((qah ac.S).getD 10 0),qae ((qah ac.S).getD 11 0),qae ((qah ac.S).getD 12 0),qae ((qah ac.S).getD 13 0),qae ((qah ac.S).getD 14 0),qae ((qah ac.S).getD 15 0)],true⟩] 3 dN fun _ dO=>qaf ?_)
       clear dN
       have dP:=dO.pk (env':=[(7,.p 2 0),(8,.v (.int .i16 v)),(9,.v (.bool (decide (v ≥ 0)))),(10,.p 1 0),(16,.v (.int .u32 (((tagC (decide (0 < (lst (T.at_ 6)).length)) + T.U.length):Nat):Int))),(25,.p 0 0),(27,.v (.slice (some ⟨ai,0,none⟩) ((lst (T.at_ 6)).length) ap)),(28,.v (.int .i32 (((lst (T.at_ 6)).length:Nat):Int))),(29,.v (.int .i32 ((ak:Nat):Int)))])
       clear dO
       refine qaq ?_
       refine qab ?_
       refine qbs [(7,.p 2 0),(8,.v (.int .i16 v)),(9,.v (.bool (decide (v ≥ 0)))),(10,.p 1 0),(16,.v (.int .u32 (((tagC (decide (0 < (lst (T.at_ 6)).length)) + T.U.length):Nat):Int))),(25,.p 0 0),(27,.v (.slice (some ⟨ai,0,none⟩) ((lst (T.at_ 6)).length) ap)),(28,.v (.int .i32 (((lst (T.at_ 6)).length:Nat):Int))),(29,.v (.int .i32 (IntKind.i32.wrap (((ak:Nat):Int) + 1))))] dP fun _ dQ=>?_
       clear dP
       refine qab ?_
       have fA:=(dQ.envEq (env':=[(7,.p 2 0),(8,.v (.int .i16 v)),(9,.v (.bool (decide (v ≥ 0)))),(10,.p 1 0),(16,.v (.int .u32 (((tagC (decide (0 < (lst (T.at_ 6)).length)) + T.U.length):Nat):Int))),(25,.p 0 0),(27,.v (.slice (some ⟨ai,0,none⟩) ((lst (T.at_ 6)).length) ap)),(28,.v (.int .i32 (((lst (T.at_ 6)).length:Nat):Int))),(29,.v (.int .i32 ((ak + 1:Nat):Int)))]) (by rw [qg5 (by have:=e32_6; omega)])).pk (env':=[(7,.p 2 0),(8,.v (.int .i16 v)),(9,.v (.bool (decide (v ≥ 0)))),(10,.p 1 0),(16,.v (.int .u32 (((tagC (decide (0 < (lst (T.at_ 6)).length)) + T.U.length):Nat):Int))),(25,.p 0 0),(27,.v (.slice (some ⟨ai,0,none⟩) ((lst (T.at_ 6)).length) ap)),(28,.v (.int .i32 (((lst (T.at_ 6)).length:Nat):Int))),(29,.v (.int .i32 ((ak + 1:Nat):Int)))])
       clear dQ
       exact (RS.thing (tb:=[⟨bv,0,[.int .i16 v,.int .i32 (IntKind.i32.wrap (T.at_ 0).N),.int .i64 (IntKind.i64.wrap (T.at_ 1).N),.int .i64 (IntKind.i64.wrap (T.at_ 2).N),.bool (decide ((T.at_ 3).N % 2 = 1)),.bool (decide ((T.at_ 4).N % 2 = 1)),.slice aa.A aa.l aa.c,.slice none 0 0,.map none],true⟩,⟨al,0,[.slice az aA aB,.bool false],true⟩]) (z:=.agg #[.int .u8 0,.int .u8 0,.int .u8 0,.int .u8 0,.int .u8 0,.int .u8 0,.int .u8 0,.int .u8 0,.int .u8 0,.int .u8 0,.int .u8 0,.int .u8 0,.int .u8 0,.int .u8 0,.int .u8 0,.int .u8 0]) (D:=dvO none (qah ac.S) 0) (fA.cast dD) hg_g256 fw (fun _ _ _ _ h=>h) bw rfl (fun w F h_=>⟨(dB _ _ h_).1,(dB _ _ h_).2,qbS _,rfl⟩) kz)
      refine wp_seq ?_
      refine wp_seq ?_
      refine qbs [(7,.p 2 0),(8,.v (.int .i16 v)),(9,.v (.bool (decide (v ≥ 0)))),(10,.p 1 0),(16,.v (.int .u32 (((tagC (decide (0 < (lst (T.at_ 6)).length)) + T.U.length):Nat):Int))),(25,.p 0 0),(27,.v (.slice (some ⟨ai,0,none⟩) ((lst (T.at_ 6)).length) ap)),(28,.v (.int .i32 (((lst (T.at_ 6)).length:Nat):Int))),(29,.v (.int .i32 (((lst (T.at_ 6)).length:Nat):Int))),(162,.v (.bool (decide ((((lst (T.at_ 6)).length:Nat):Int) < (((lst (T.at_ 6)).length:Nat):Int)))))] dA fun _ dR=>qab ?_
      clear dA
      refine qap dR.env_ (b:=decide ((((lst (T.at_ 6)).length:Nat):Int) < (((lst (T.at_ 6)).length:Nat):Int))) kz (decide_eq_false (by omega)) ?_
      refine wp_exit ?_
      refine qaB ?_
      refine qaB ?_
      refine qaL ?_
      refine qab ?_
      obtain ⟨gc,fB⟩:=RS.listEnd (tb:=[⟨bv,0,[.int .i16 v,.int .i32 (IntKind.i32.wrap (T.at_ 0).N),.int .i64 (IntKind.i64.wrap (T.at_ 1).N),.int .i64 (IntKind.i64.wrap (T.at_ 2).N),.bool (decide ((T.at_ 3).N % 2 = 1)),.bool (decide ((T.at_ 4).N % 2 = 1)),.slice aa.A aa.l aa.c,.slice none 0 0,.map none],true⟩,⟨al,0,[.slice az aA aB,.bool false],true⟩]) (c:=ap) (dR.pk (env':=[(7,.p 2 0),(8,.v (.int .i16 v)),(9,.v (.bool (decide (v ≥ 0)))),(10,.p 1 0),(16,.v (.int .u32 (((tagC (decide (0 < (lst (T.at_ 6)).length)) + T.U.length):Nat):Int))),(25,.p 0 0),(27,.v (.slice (some ⟨ai,0,none⟩) ((lst (T.at_ 6)).length) ap))])) hg_g256 (fun _ _ _ _ h=>h) bw hcap_g256 (by have:=e32_6; omega) hn_g256 kz
      exact ⟨dvL (some ⟨ai,0,none⟩) (lst (T.at_ 6)).length ap gc,_,fun w F h_=>⟨h_.1,⟨h_.2.1,Nat.le_trans e32_6 (by decide),h_.2.2.1⟩,⟨rfl,h_.2.2.2⟩⟩,fB⟩
     refine wp_skip ?_
     refine qab ?_
     refine wp_seq ?_
     refine qbs [(7,.p 2 0),(8,.v (.int .i16 v)),(9,.v (.bool (decide (v ≥ 0)))),(10,.p 1 0),(16,.v (.int .u32 (((tagC (decide (0 < (lst (T.at_ 6)).length)) + T.U.length):Nat):Int))),(25,.p 0 0),(27,.v (.slice none 0 0)),(28,.v (.int .i32 (((lst (T.at_ 6)).length:Nat):Int))),(29,.v (.int .i32 0))] aF fun _ dS=>?_
     clear aF
     refine qab ?_
     refine wp_block ?_
     refine qfz ?_
     refine wp_seq ?_
     refine wp_seq ?_
     refine qbs [(7,.p 2 0),(8,.v (.int .i16 v)),(9,.v (.bool (decide (v ≥ 0)))),(10,.p 1 0),(16,.v (.int .u32 (((tagC (decide (0 < (lst (T.at_ 6)).length)) + T.U.length):Nat):Int))),(25,.p 0 0),(27,.v (.slice none 0 0)),(28,.v (.int .i32 (((lst (T.at_ 6)).length:Nat):Int))),(29,.v (.int .i32 0)),(162,.v (.bool (decide (0 < (((lst (T.at_ 6)).length:Nat):Int)))))] dS fun _ dT=>qab ?_
     clear dS
     refine qap dT.env_ (b:=decide (0 < (((lst (T.at_ 6)).length:Nat):Int))) kz (decide_eq_false (by have h_:=of_decide_eq_false aL; omega)) ?_
     refine wp_exit ?_
     refine qaB ?_
     refine qaB ?_
     refine qaL ?_
     refine qab ?_
     have hz_:(lst (T.at_ 6)).length = 0:=by have h_:=of_decide_eq_false aL; omega
     exact ⟨dvL none 0 0 (fun _=>dv0),_,fun w F h_=>⟨h_,⟨Slots.nil _ _ _ _,Nat.zero_le _,fun _ h=>absurd h (Nat.not_lt_zero _)⟩,⟨hz_.symm,fun _ h=>absurd h (Nat.not_lt_zero _)⟩⟩,(dT.cast (t:=([]:Bs)) (by rw [List.eq_nil_of_length_eq_zero hz_]; rfl)).pk (env':=[(7,.p 2 0),(8,.v (.int .i16 v)),(9,.v (.bool (decide (v ≥ 0)))),(10,.p 1 0),(16,.v (.int .u32 (((tagC (decide (0 < (lst (T.at_ 6)).length)) + T.U.length):Nat):Int))),(25,.p 0 0),(27,.v (.slice none 0 0))])⟩
    rintro _ _ ⟨af,gy,aG,dU⟩
    refine wp_seq ?_
    refine qbs [(7,.p 2 0),(8,.v (.int .i16 v)),(9,.v (.bool (decide (v ≥ 0)))),(10,.p 1 0),(16,.v (.int .u32 (((tagC (decide (0 < (lst (T.at_ 6)).length)) + T.U.length):Nat):Int))),(25,.p 0 0),(26,.v (.slice af.A af.l af.c))] dU fun _ dV=>?_
    clear dU
    refine qab ?_
    refine wp_seq ?_
    refine qeU [⟨bv,0,[.int .i16 v,.int .i32 (IntKind.i32.wrap (T.at_ 0).N),.int .i64 (IntKind.i64.wrap (T.at_ 1).N),.int .i64 (IntKind.i64.wrap (T.at_ 2).N),.bool (decide ((T.at_ 3).N % 2 = 1)),.bool (decide ((T.at_ 4).N % 2 = 1)),.slice aa.A aa.l aa.c,.slice af.A af.l af.c,.map none],true⟩,⟨al,0,[.slice az aA aB,.bool false],true⟩] 0 [(7,.p 2 0),(8,.v (.int .i16 v)),(9,.v (.bool (decide (v ≥ 0)))),(10,.p 1 0),(16,.v (.int .u32 (((tagC (decide (0 < (lst (T.at_ 6)).length)) + T.U.length):Nat):Int))),(25,.p 0 0)] dV fun _ _ dW=>?_
    clear dV
    refine qab ?_
    refine wp_seq ?_
    refine qat [0,1] kz (qam (qdO (d:=175) dW qeV Tryd.call52 fun _ dX=>?_))
    clear dW
    refine qcT [1] [] [(7,.p 2 0),(8,.v (.int .i16 v)),(9,.v (.bool (decide (v ≥ 0)))),(10,.p 1 0),(16,.v (.int .u32 (((tagC (decide (0 < (lst (T.at_ 6)).length)) + T.U.length):Nat):Int))),(31,.v (.nilIface))] dX fun _ dY=>qaf ?_
    clear dX
    refine qab ?_
    refine wp_seq ?_
    refine qbs [(7,.p 2 0),(8,.v (.int .i16 v)),(9,.v (.bool (decide (v ≥ 0)))),(10,.p 1 0),(16,.v (.int .u32 (((tagC (decide (0 < (lst (T.at_ 6)).length)) + T.U.length):Nat):Int))),(31,.v (.nilIface)),(177,.v (.bool false))] dY fun _ bz=>qab ?_
    clear dY
    refine qap bz.env_ (b:=false) kz (rfl) ?_
    refine wp_skip ?_
    refine qaq ?_
    refine qaq ?_
    refine qab ?_
    refine qbs [(7,.p 2 0),(8,.v (.int .i16 v)),(9,.v (.bool (decide (v ≥ 0)))),(10,.p 1 0),(16,.v (.int .u32 (IntKind.u32.wrap ((((tagC (decide (0 < (lst (T.at_ 6)).length)) + T.U.length):Nat):Int) - 1))))] bz fun _ fC=>?_
    clear bz
    refine qab ?_
    have fD:=RS.unnest (tb:=[⟨bv,0,[.int .i16 v,.int .i32 (IntKind.i32.wrap (T.at_ 0).N),.int .i64 (IntKind.i64.wrap (T.at_ 1).N),.int .i64 (IntKind.i64.wrap (T.at_ 2).N),.bool (decide ((T.at_ 3).N % 2 = 1)),.bool (decide ((T.at_ 4).N % 2 = 1)),.slice aa.A aa.l aa.c,.slice af.A af.l af.c,.map none],true⟩]) (so:=bC) fC (fun w F h_=>(bo _ _ (aG _ _ h_).1).2) hb_b223 kz
    have d_:IntKind.u32.wrap ((((tagC (decide (0 < (lst (T.at_ 6)).length)) + T.U.length):Nat):Int) - 1) = ((T.U.length:Nat):Int):=qgE (by rw [qdr aC]) (by have t0_:=qej (decide (0 < (lst (T.at_ 5)).length)); have t1_:=qej (decide (0 < (lst (T.at_ 6)).length)); have hu_:=e32_U.2.1; omega)
    have fE:=(fD.envEq (env':=[(7,.p 0 0),(8,.v (.int .i16 v)),(9,.v (.bool (decide (v ≥ 0)))),(10,.p 1 0),(16,.v (.int .u32 ((T.U.length:Nat):Int)))]) (by first | rfl | (rw [d_]; rfl))).pk (env':=[(7,.p 0 0),(8,.v (.int .i16 v)),(9,.v (.bool (decide (v ≥ 0)))),(10,.p 1 0),(16,.v (.int .u32 ((T.U.length:Nat):Int)))])
    exact ⟨T.U.length,by rw [qdr aC]; omega,bD aa af _ _ _ (fun w F h_=>⟨(bG _ _ (bk _ _ (bo _ _ (aG _ _ h_).1).1).1).1,(bG _ _ (bk _ _ (bo _ _ (aG _ _ h_).1).1).1).2,⟨(aG _ _ h_).2.1,⟨(fun _=>(aG _ _ h_).2.2),(fun e2_=>by rw [if_pos (by exact ar),aC] at e2_; cases e2_)⟩⟩⟩) fE⟩
   refine wp_seq (wp_seq (qi0 [(7,.p 0 0),(8,.v (.int .i16 v)),(9,.v (.bool (decide (v ≥ 0)))),(10,.p 1 0),(16,.v (.int .u32 ((T.U.length - am:Nat):Int))),(73,.v (.bool (decide (((T.U.length - am:Nat):Int) > 0))))] fb fun _ aM=>qab ?_))
   refine qay aM.env_ (b:=decide (((T.U.length - am:Nat):Int) > 0)) kz (fun bA=>?_) (fun bA=>?_)
   ·
    have hlt_:am < T.U.length:=by have:=of_decide_eq_true bA; omega
    obtain ⟨⟨k_,x_⟩,hu_⟩:∃ y,T.U[am]? = some y:=⟨_,List.getElem?_eq_getElem hlt_⟩
    have hk_:=(qfu e32r) _ (List.mem_of_getElem? hu_)
    have hx_:=e32_U.2.2 _ (List.mem_of_getElem? hu_)
    have hn_:=e32_K _ (List.mem_of_getElem? hu_)
    dsimp only at hk_ hx_ hn_
    obtain ⟨kk_,rfl⟩:∃ kk:Nat,k_ = (kk:Int):=⟨k_.toNat,(Int.toNat_of_nonneg hk_.1).symm⟩
    refine wp_skip (qab (wp_seq (wp_block (wp_seq ?_))))
    have fF:=aM.cast (t:=uv kk_ ++ (uv x_.length ++ (x_ ++ (qdZ (T.U.drop (am + 1)) ++ ([]:Bs))))) (qhO hu_ ([]:Bs))
    refine qat [0,1] kz ?_
    refine qam (qkC (d:=76) (vs:=[]) (Qv:=fun v _ _=>v = .int .u32 ((kk_:Nat):Int)) fF (qeB kk_ (by omega) _) rfl Tryd.call46 fun v_ _ _ hv_ fG=>?_)
    subst hv_
    refine qlh [1] [] [(7,.p 0 0),(8,.v (.int .i16 v)),(9,.v (.bool (decide (v ≥ 0)))),(10,.p 1 0),(16,.v (.int .u32 ((T.U.length - am:Nat):Int))),(17,.v (.int .u32 ((kk_:Nat):Int)))] fG fun _ fH=>qaf (qab ?_)
    refine wp_seq (qi0 [(7,.p 0 0),(8,.v (.int .i16 v)),(9,.v (.bool (decide (v ≥ 0)))),(10,.p 1 0),(16,.v (.int .u32 ((T.U.length - am:Nat):Int))),(17,.v (.int .u32 ((kk_:Nat):Int))),(77,.v (.int .u32 ((kk_:Nat):Int)))] fH fun _ fI=>qab (wp_block ?_))
    refine wp_seq (qi0 [(7,.p 0 0),(8,.v (.int .i16 v)),(9,.v (.bool (decide (v ≥ 0)))),(10,.p 1 0),(16,.v (.int .u32 ((T.U.length - am:Nat):Int))),(17,.v (.int .u32 ((kk_:Nat):Int))),(77,.v (.int .u32 ((kk_:Nat):Int))),(86,.v (.bool (((kk_:Nat):Int) == 0)))] fI fun _ dZ=>qab ?_)
    refine qap dZ.env_ (b:=((kk_:Nat):Int) == 0) kz (by simp only [beq_eq_false_iff_ne,ne_eq]; omega) ?_
    refine wp_seq (qi0 [(7,.p 0 0),(8,.v (.int .i16 v)),(9,.v (.bool (decide (v ≥ 0)))),(10,.p 1 0),(16,.v (.int .u32 ((T.U.length - am:Nat):Int))),(17,.v (.int .u32 ((kk_:Nat):Int))),(129,.v (.bool (((kk_:Nat):Int) == 1)))] dZ fun _ bB=>qab ?_)
    refine qap bB.env_ (b:=((kk_:Nat):Int) == 1) kz (by simp only [beq_eq_false_iff_ne,ne_eq]; omega) ?_
    have hE_:=(((bB.env_.recast 7 (.p 0 0) (.v (.pointer (some ⟨al,0,none⟩))) rfl rfl trivial).recast 10 (.p 1 0) (.v (.pointer (some ⟨bv,0,none⟩))) rfl rfl trivial).pick (ks:=[7,8,9,10,16,17]) (env':=[(7,.v (.pointer (some ⟨al,0,none⟩))),(8,.v (.int .i16 v)),(9,.v (.bool (decide (v ≥ 0)))),(10,.v (.pointer (some ⟨bv,0,none⟩))),(16,.v (.int .u32 ((T.U.length - am:Nat):Int))),(17,.v (.int .u32 ((kk_:Nat):Int)))]) kz).cutTb 0 kz
    refine qdE (fun _=>True) 8 kz ?_
    refine qaD [0,1,2,3] [(7,.v (.pointer (some ⟨al,0,none⟩))),(8,.v (.int .i16 v)),(9,.v (.bool (decide (v ≥ 0)))),(10,.v (.pointer (some ⟨bv,0,none⟩))),(16,.v (.int .u32 ((T.U.length - am:Nat):Int))),(17,.v (.int .u32 ((kk_:Nat):Int))),(80,.v (.pointer (some ⟨bv,8,none⟩))),(81,.v (.int .u32 ((kk_:Nat):Int)))] 4 (qac (qac (qaa (qaa (qac (qaa (qaa qad))))))) (fun w_ _=>qi1 w_) trivial hE_ fun _ hE1_=>?_
    refine qaw (i:=4) kz (qg8 (d:=82) (vs:=[]) (Qv:=fun v _ _=>v = .int .u32 ((x_.length:Nat):Int)) bB.drew hE1_ (qeB x_.length hx_ _) rfl Tryd.call46 (fun v_ _ _ hv_ fJ hE2_=>⟨fun _=>trivial,?_⟩) kz)
    subst hv_
    refine qaD [5] [(7,.v (.pointer (some ⟨al,0,none⟩))),(8,.v (.int .i16 v)),(9,.v (.bool (decide (v ≥ 0)))),(10,.v (.pointer (some ⟨bv,0,none⟩))),(16,.v (.int .u32 ((T.U.length - am:Nat):Int))),(17,.v (.int .u32 ((kk_:Nat):Int))),(80,.v (.pointer (some ⟨bv,8,none⟩))),(81,.v (.int .u32 ((kk_:Nat):Int))),(83,.v (.int .i64 (IntKind.i64.wrap ((x_.length:Nat):Int))))] 2 (qac (qac (qaa (qaa (qac (qaa (qaa qad))))))) (fun w_ _=>qi1 w_) trivial hE2_ fun _ hE3_=>?_
    refine qaw (i:=6) kz (qg8 (d:=84) (vs':=[.int .i64 (IntKind.i64.wrap ((x_.length:Nat):Int))]) (X:=x_) (vs:=[.int .i64 ((x_.length:Nat):Int)]) (Qv:=fun v w' F'=>∃ A2,v = .slice A2 x_.length x_.length ∧ Octs w' F' A2 x_.length x_) fJ hE3_ (qjF x_ _) (by rw [wrap_i64 (by omega) (by omega)]) Tryd.call48 (fun v_ _ _ hv_ fK hE4_=>⟨fun _=>trivial,?_⟩) kz)
    obtain ⟨A2_,rfl,hx2_⟩:=hv_
    refine qaw (i:=7) kz (qkD (d:=85) (k:=0) (off:=8) fK hE4_ e32_U.1 hu_ hx2_ hk_ (fun r_ _ _ fL hE6_=>⟨fun _=>trivial,?_⟩) Tryd.call47 rfl rfl rfl kz)
    refine qaF kz (qaq (qaq (qab ?_))) _
    have hE7_:EnvOk 180 (rdo al none 0 0 :: [⟨bv,0,[.int .i16 v,.int .i32 (IntKind.i32.wrap (T.at_ 0).N),.int .i64 (IntKind.i64.wrap (T.at_ 1).N),.int .i64 (IntKind.i64.wrap (T.at_ 2).N),.bool (decide ((T.at_ 3).N % 2 = 1)),.bool (decide ((T.at_ 4).N % 2 = 1)),.slice aa.A aa.l aa.c,.slice ag.A ag.l ag.c,.map (some r_)],true⟩]) [(7,.p 0 0),(8,.v (.int .i16 v)),(9,.v (.bool (decide (v ≥ 0)))),(10,.p 1 0),(16,.v (.int .u32 ((T.U.length - am:Nat):Int)))] _:=(((hE6_.retable (rdo al none 0 0 :: [⟨bv,0,[.int .i16 v,.int .i32 (IntKind.i32.wrap (T.at_ 0).N),.int .i64 (IntKind.i64.wrap (T.at_ 1).N),.int .i64 (IntKind.i64.wrap (T.at_ 2).N),.bool (decide ((T.at_ 3).N % 2 = 1)),.bool (decide ((T.at_ 4).N % 2 = 1)),.slice aa.A aa.l aa.c,.slice ag.A ag.l ag.c,.map (some r_)],true⟩])).recast 7 (.v (.pointer (some ⟨al,0,none⟩))) (.p 0 0) rfl rfl (Nat.le_of_ble_eq_true (n:=1) rfl)).recast 10 (.v (.pointer (some ⟨bv,0,none⟩))) (.p 1 0) rfl rfl (Nat.le_of_ble_eq_true (n:=2) rfl)).pk
    have fM:=fL.env0 hE7_
    refine qi0 [(7,.p 0 0),(8,.v (.int .i16 v)),(9,.v (.bool (decide (v ≥ 0)))),(10,.p 1 0),(16,.v (.int .u32 (IntKind.u32.wrap (((T.U.length - am:Nat):Int) - 1))))] fM fun _ d5=>qab ?_
    rw [show IntKind.u32.wrap (((T.U.length - am:Nat):Int) - 1) = ((T.U.length - (am + 1):Nat):Int) from qgE (by omega) (by have hu2_:=e32_U.2.1; omega)] at d5
    refine ⟨T.U.length - (am + 1),by omega,?_⟩
    rw [aQ]
    exact .inr (.inr (⟨aa,ag,fa,f8,some r_,am + 1,rfl,by omega,aI,d5⟩))
   obtain rfl:am = T.U.length:=by have:=of_decide_eq_false bA; omega
   rw [List.take_length,List.drop_length] at aM
   obtain ⟨gz,aN,fN⟩:∃ P',(∀ w F,P' w F → (fa w F ∧ MapR w F ef T.U)) ∧ RS w (fun b o=>b = bv ∧ o < 9) F 180 al [⟨bv,0,[.int .i16 v,.int .i32 (IntKind.i32.wrap (T.at_ 0).N),.int .i64 (IntKind.i64.wrap (T.at_ 1).N),.int .i64 (IntKind.i64.wrap (T.at_ 2).N),.bool (decide ((T.at_ 3).N % 2 = 1)),.bool (decide ((T.at_ 4).N % 2 = 1)),.slice aa.A aa.l aa.c,.slice ag.A ag.l ag.c,.map ef],true⟩] [(7,.p 0 0),(8,.v (.int .i16 v)),(9,.v (.bool (decide (v ≥ 0)))),(10,.p 1 0),(16,.v (.int .u32 ((T.U.length - T.U.length:Nat):Int))),(73,.v (.bool (decide (((T.U.length - T.U.length:Nat):Int) > 0))))] P' ([]:Bs) _ _:=⟨_,fun _ _ h=>h,(aM.finish e32_U.1 (qfu e32r)).cast rfl⟩
   refine wp_exit ?_
   refine qaB ?_
   refine qaB ?_
   refine qaL ?_
   refine qab ?_
   exact ⟨aa,ag,ef,T.U,_,fun w F h_=>⟨(aI _ _ (aN _ _ h_).1).1,(aI _ _ (aN _ _ h_).1).2.1,(aI _ _ (aN _ _ h_).1).2.2,⟨⟨(aN _ _ h_).2,e32_U.2.1,e32_U.2.2⟩,⟨(fun _=>rfl),(fun e_=>by rw [ar] at e_; cases e_)⟩⟩⟩,fN.pk (env':=[(7,.p 0 0)])⟩
  have d6:=aP.cast (t:=[] ++ ([]:Bs)) (by rw [if_neg (by rw [ar]; decide)])
  clear aP
  have fO:=d6.cast (t:=([]:Bs)) rfl
  clear d6
  refine wp_skip (qab ?_)
  exact ⟨(dvL none 0 0 (fun _=>dv0)),(dvL none 0 0 (fun _=>dv0)),none,[],_,fun w F h_=>⟨h_,⟨⟨Slots.nil _ _ _ _,Nat.zero_le _,fun _ h=>absurd h (Nat.not_lt_zero _)⟩,⟨(fun e_=>by rw [if_neg (by rw [ar]; decide)] at e_; cases e_),fun _=>⟨rfl,rfl⟩⟩⟩,⟨⟨Slots.nil _ _ _ _,Nat.zero_le _,fun _ h=>absurd h (Nat.not_lt_zero _)⟩,⟨(fun e_=>by rw [if_neg (by rw [ar]; decide)] at e_; cases e_),fun _=>⟨rfl,rfl⟩⟩⟩,⟨⟨MapR.nil _ _,Nat.zero_le _,fun _ h=>by cases h⟩,⟨(fun e_=>by rw [ar] at e_; cases e_),fun _=>rfl⟩⟩⟩,fO.pk (env':=[(7,.p 0 0)])⟩
 rintro _ _ ⟨au,av,fQ,eb,gG,aH,fP⟩
 refine qab ?_
 refine wp_seq ?_
 refine qat [0,1] kz (qam (qdO (d:=179) fP qeV Tryd.call52 fun _ d7=>?_))
 clear fP
 refine qcT [1] [] [(6,.v (.nilIface))] d7 fun _ d8=>qaf ?_
 clear d7
 refine qab ?_
 refine wp_ret ?_
 obtain ⟨A_,m_,c_,hW_,hr_,hE_,hP_⟩:=d8.open_
 refine qaJ hE_ hW_.cells (v:=.nilIface) kz ?_
 have h_:=d8.mv.mono qb9 hP_
 refine ⟨(dvP fQ eb [dvN (IntKind.i32.wrap (T.at_ 0).N),dvN (IntKind.i64.wrap (T.at_ 1).N),dvN (IntKind.i64.wrap (T.at_ 2).N),dvB (decide ((T.at_ 3).N % 2 = 1)),dvB (decide ((T.at_ 4).N % 2 = 1)),au,av]),rfl,Str.of hW_ 1 rfl,?_,?_,hW_.step⟩
 ·unfold qa6
  exact ⟨(trivial),(trivial),(trivial),(trivial),(trivial),((aH _ _ h_).2.1.1),((aH _ _ h_).2.2.1.1),(aH _ _ h_).2.2.2.1.1,(aH _ _ h_).2.2.2.1.2.1,(aH _ _ h_).2.2.2.1.2.2,trivial⟩
 unfold qa1
 exact ⟨(rfl),(rfl),(rfl),(rfl),(rfl),((aH _ _ h_).2.1.2),((aH _ _ h_).2.2.1.2),(aH _ _ h_).2.2.2.2,trivial⟩
theorem qbT:qhJ qa6:=by
 intro w w' F F' M d hs hM hF h
 unfold qa6 at h ⊢
 obtain ⟨g0,g1,g2,g3,g4,⟨g5,g5l,g5e⟩,⟨g6,g6l,g6e⟩,t1,t2,t3,_⟩:=h
 exact ⟨g0,g1,g2,g3,g4,⟨g5.move hs hM hF,g5l,g5e⟩,⟨g6.move hs hM hF,g6l,g6e⟩,t1.move hs hM hF,t2,t3,trivial⟩
end Go.Proofs.YtdlaobdadlmcdabDoor.ME
namespace Go.Proofs.YtdlaobdadlmcdabDoor.ME
open Go
open Go.RowKit
open Go.ChangeMaps (setBlock)
set_option linter.unusedVariables false
set_option linter.unusedSimpArgs false
set_option maxRecDepth 20000
abbrev cloV (fc:Nat) (cap:Value):Value:=.func (.func fc) #[] #[cap]
theorem qli {fc:Nat} {cap:Value} {m:Option Nat} {u:List (Int × Bs)} {b o:Nat} {w:World} {F M:Nat → Nat → Prop} (hcf:∀ args w,(callFunc fc args).run Tryd.prog w = .ok (.enter fc args) w) (I:World → Nat → World → Prop) (hat:AtF w F b o [.map m]) (hm:MapR w F m u) (hMF:∀ b o,F b o → ¬ M b o) (hMlt:∀ b o,M b o → b < w.heap.size)
  (hI0:∀ w7,Step w w7 Nil → I w7 0 w7) (hIs:∀ w7 j w8,I w7 j w8 → Step w7 w8 M)
  (hI1:∀ w7,Step w w7 Nil → ∀ j k x w8 Ax cx,I w7 j w8 → u[j]? = some (k,x) → (0 ≤ k ∧ k < 4294967296) → Octs w8 (fun b o=>F b o ∧ b < w7.heap.size) Ax cx x → Calls Tryd.prog fc [.int .u32 k,.slice Ax x.length cx,cap].toArray w8 (fun e w9=>e = .returned (.tuple #[]) ∧ I w7 (j + 1) w9)) (hul:u.length ≤ 1000000) :
  Calls Tryd.prog 32 [.pointer (some ⟨b,o,none⟩),cloV fc cap].toArray w (fun e w'=>e = .returned (.tuple #[]) ∧ ∃ w7,Step w w7 Nil ∧ I w7 u.length w'):=by
 refine enter (n:=53) Tryd.func32 rfl Tryd.ntmps32 kz fun a hE=>?_
 have hW:WOk w Nil w [⟨b,o,[.map m],false⟩] []:=(WOk.start w Nil).start1 hat rfl rfl
 refine wp_seq (wp_seq ?_)
 refine qat [0,1,2,3,4,5] kz ?_
 refine qbk [0,1,2,3] [4,5] [0,1,11] hW (EnvOk.ptr0 (cs:=[.map m]) (r:=false) hE) (env':=[(0,.p 0 0),(1,.v (cloV fc cap)),(11,.v (.map m))]) kz rfl fun a1 hE1=>?_
 refine qam (qfQ (t:=71) (kt:=63) (et:=22) hE1 (m:=m) (d:=12) kz kz hm fun a2 hE2=>?_)
 refine qbk [5] [] [0,1,13] hW hE2 (env':=[(0,.p 0 0),(1,.v (cloV fc cap)),(13,.v (.bool (((u.length:Nat):Int) == 0)))]) kz rfl fun a3 hE3=>qaf (qab ?_)
 refine qay hE3 (b:=((u.length:Nat):Int) == 0) kz (fun hb=>?_) (fun hb=>?_)
 ·-- none
  have hu:u = []:=List.eq_nil_of_length_eq_zero (by have:=eq_of_beq hb; omega)
  subst hu
  refine wp_ret (qao ?_)
  exact qaJ hE3 hW.cells (v:=.tuple #[]) kz ⟨rfl,w,Step.refl _ _,hI0 w (Step.refl _ _)⟩
 have hu0:0 < u.length:=by have:=ne_of_beq_false hb; omega
 cases m with
 | none=>rw [hm.none_ rfl] at hu0; cases hu0
 | some mb =>
 obtain ⟨hFm,es,clk,hes,hperm,hborn,hnod,hcont⟩:=hm.some_ mb rfl
 have hmlt:mb < w.heap.size:=(Array.getElem?_eq_some_iff.1 hes).1
 have hesz:es.size = u.length:=MapR.size (w:=w) (F:=F) hperm
 refine wp_skip (qab ?_)
 refine qag [0,1,2,3,4,5,6,7] kz ?_
 refine qbk [0,1,2,3] [4,5,6,7] [0,1,17] hW hE3 (env':=[(0,.p 0 0),(1,.v (cloV fc cap)),(17,.v (.map (some mb)))]) kz rfl fun a4 hE4=>?_
 refine qam (qfQ (t:=71) (kt:=63) (et:=22) hE4 (m:=some mb) (d:=18) kz kz hm fun a5 hE5=>?_)
 refine qam (qht (e:=63) (size:=1) (bytes:=4) (j:=u.length) (t:=101) (d:=19) hW hE5 (p:=0) (q:=((u.length:Nat):Int)) kz kz rfl rfl (by omega) fun kr a6 w1 hkr hkr0 hF1 hW1 hE6=>?_)
 refine qam (qaR hW1 hE6 (d:=4) (cs:=[.slice none 0 0]) kz fun kb a7 w2 hkb hkb0 hF2 hW2 hE7=>?_)
 refine qam (qav hW2 hE7 (oi:=1) (cs:=[.slice (some ⟨kr,0,none⟩) 0 u.length]) kz fun w3 hF3 hW3 hE8=>qaf (qab ?_))
 refine wp_seq (qag [0,1,2,3,4] kz ?_)
 refine qbk [0,1,2,3] [4] [0,1,4,23] hW3 hE8 (env':=[(0,.p 0 0),(1,.v (cloV fc cap)),(4,.p 1 0),(23,.v (.map (some mb)))]) kz rfl fun a8 hE9=>?_
 have hes3:=hW3.step.heap (fun o h=>h) hes
 refine qam (qhw (t:=71) (kt:=63) (et:=22) (d:=24) (r:=mb) hE9 kz kz hes3 fun a9 hE10=>qaf (qab ?_))
 have hW4:=hW3.next_nil (Step.alloc w3 (.mapIter (some mb) clk #[] clk))
 have hr4:(w3.alloc (.mapIter (some mb) clk #[] clk)).heap[w3.heap.size]? = some (.mapIter (some mb) clk #[] clk):=qca _ _
 have hE11:=hE10.pick (ks:=[0,1,4,24]) (env':=[(0,.p 0 0),(1,.v (cloV fc cap)),(4,.p 1 0),(24,.v (.pointer (some ⟨w3.heap.size,0,none⟩)))]) kz
 have hrlt:w3.heap.size < (w3.alloc (.mapIter (some mb) clk #[] clk)).heap.size:=by rw [qcG]; omega
 have hr0:w.heap.size ≤ w3.heap.size:=hW3.step.size
 have hkbr:kb ≠ w3.heap.size:=by have:=hW3.live 1 _ rfl; show ¬ _; intro e; rw [← e] at this; exact absurd this (Nat.lt_irrefl _)
 have hkrr:kr ≠ w3.heap.size:=by have:=qbv (hW3.own 0 _ rfl) (g:=kr) rfl; omega
 generalize hR:w3.heap.size = R at hr4 hE11 hrlt hkbr hkrr
 generalize hw4:w3.alloc (.mapIter (some mb) clk #[] clk) = w4 at hW4 hr4 hrlt
 refine wp_block ?_
 refine wp_loop_ghost (fun q a_ w_=>∃ (vis:List MapEntry) (seen:Array Nat) (K:Option Addr) (kc c0:Nat),q = (leftOf es seen).size ∧ Vis es.toList vis seen ∧ vis.length + (leftOf es seen).size ≤ es.size ∧
   EnvOk 53 [⟨b,o,[.map (some mb)],false⟩,⟨kb,0,[.slice K vis.length kc],true⟩] [(0,.p 0 0),(1,.v (cloV fc cap)),(4,.p 1 0),(24,.v (.pointer (some ⟨R,0,none⟩)))] a_ ∧
   WOk w Nil w_ [⟨b,o,[.map (some mb)],false⟩,⟨kb,0,[.slice K vis.length kc],true⟩] [⟨K,kc,63,1,vis.length,(vis.map fun e=>kOf e.key).map (Value.int .u32)⟩] ∧
   w_.heap[R]? = some (.mapIter (some mb) clk seen c0) ∧ clk ≤ c0 ∧ K.map (·.block) ≠ some R) (leftOf es #[]).size
  ⟨[],#[],some ⟨kr,0,none⟩,u.length,clk,rfl,Vis.nil _,by rw [List.length_nil,Nat.zero_add]; exact Array.size_filter_le,by rw [← hw4] at *; exact hE11,hW4,hr4,Nat.le_refl _,by simpa using hkrr⟩ ?_
 rintro q a10 w5 ⟨vis,seen,K,kc,c0,rfl,hv,hvl,hE12,hW5,hr5,hc0,hKR⟩
 have hes5:=hW5.step.heap (fun o h=>h) hes
 refine qag [0,1] kz ?_
 refine qam (qii hE12 (d:=25) (r:=R) kz hr5 hes5 hborn hc0 (fun h0 a11 hE13=>?_) (fun e he w6 hw6 a11 hE13=>?_))
 ·-- behind it
  refine qbk [1] [] [0,1,4,26] hW5 hE13 (env':=[(0,.p 0 0),(1,.v (cloV fc cap)),(4,.p 1 0),(26,.v (.bool false))]) kz rfl fun a12 hE14=>qaf (qab (wp_seq ?_))
  refine qay hE14 (b:=false) kz (fun hb=>by cases hb) (fun _=>?_)
  refine wp_exit (qaB (qaB (qaL (qab ?_))))
  have hpe:=hv.all h0 hnod
  have hvu:vis.length = u.length:=by rw [hpe.length_eq,Array.length_toList,hesz]
  have hkp:(vis.map fun e=>kOf e.key).Perm (u.map Prod.fst):=by
   have h1:=(hpe.map fun e=>kOf e.key)
   have h2:=hperm.map kOf
   rw [List.map_map,List.map_map] at h2
   exact h1.trans h2
  have hkl:(vis.map fun e=>kOf e.key).length = vis.length:=by simp
  generalize (vis.map fun e=>kOf e.key) = ks at hkp hkl hW5
  have hown4:w5.ownsRow 0 63 1 (.slice K vis.length kc) vis.length (ks.map (Value.int .u32)):=hW5.own 0 _ rfl
  obtain ⟨g,rfl⟩:=qbH hown4 (by omega)
  have hown5:w5.ownsRow 0 63 1 (.slice (some ⟨g,0,none⟩) vis.length kc) vis.length (ks.map (Value.int .u32)):=hown4
  have hg0:w.heap.size ≤ g:=by
   rcases hW5.ownM 0 _ rfl g rfl with h | h
   ·exact h
   exact (h 0).elim
  refine qag [0,1,2,3] kz ?_
  refine qbk [0,1] [2,3] [0,1,4,34] hW5 hE14 (env':=[(0,.p 0 0),(1,.v (cloV fc cap)),(4,.p 1 0),(34,.v (.iface 101 (.slice (some ⟨g,0,none⟩) vis.length kc)))]) kz rfl fun a13 hE15=>?_
  refine qam (qgM hE15 (v:=.func (.func 55) #[] #[.pointer (some ⟨kb,0,none⟩)]) (d:=35) kz fun a14 hE16=>?_)
  have hS:=Tryd.sortKeys g kc kb ks.toArray (by simp; omega) (by simp; omega) w5 (by simp only [List.size_toArray,hkl]; exact hW5.cells 1 _ rfl 0 _ rfl) (fun e=>hW5.rtb 0 _ rfl g rfl 1 _ rfl e) (qfS hkl hown5) (qbv (hW5.own 0 _ rfl) (g:=g) rfl) (hW5.live 1 _ rfl)
  rw [List.size_toArray,hkl] at hS
  refine qam (qal hE16 (f:=54) (vs:=[.iface 101 (.slice (some ⟨g,0,none⟩) vis.length kc),.func (.func 55) #[] #[.pointer (some ⟨kb,0,none⟩)]]) (d:=36) kz Tryd.call54 hS ?_)
  rintro e_ w7 ⟨rfl,d',nd,os,hd1,hd2,hd3,rfl⟩
  refine ⟨_,rfl,fun a15 hE17=>qaf (qab ?_)⟩
  have hus:d'.toList = u.map Prod.fst:=qij hd2 (by rw [hd1]; exact hd3) hkp (List.pairwise_map.2 hm.sorted)
  obtain ⟨hst7,hown7⟩:=qju (n:=nd) (os:=os) hkl hown5 (by rw [hd1,hkl])
  rw [hus] at hown7
  generalize Sort.grow (Sort.putRow (Value.int .u32) (Sort.ahead w5 nd) g 0 d') os = w7 at hst7 hown7
  have hW7:WOk w Nil w7 [⟨b,o,[.map (some mb)],false⟩,⟨kb,0,[.slice (some ⟨g,0,none⟩) vis.length kc],true⟩] [⟨some ⟨g,0,none⟩,kc,63,1,vis.length,(u.map Prod.fst).map (Value.int .u32)⟩] :=
   hW5.grow (k:=0) (r':=⟨some ⟨g,0,none⟩,kc,63,1,vis.length,(u.map Prod.fst).map (Value.int .u32)⟩) rfl (hst7.mono fun b' _ _ hb'=>by rw [hb']; rfl) hown7 (fun g' h=>.inl h)
  refine qag [0,1,2] kz ?_
  refine qbk [0,1,2] [] [0,1,37,38,39] hW7 hE17 (env':=[(0,.p 0 0),(1,.v (cloV fc cap)),(37,.v (.slice (some ⟨g,0,none⟩) vis.length kc)),(38,.v (.int .i64 ((vis.length:Nat):Int))),(39,.v (.int .i64 0))]) kz rfl fun a16 hE18=>qaf (qab ?_)
  have hE19:=EnvOk.cutTb 1 hE18 kz
  have hat7:=hat.move hW7.step nilM qaX
  have hm7:=hm.move hW7.step nilM qaX
  have hg7:g < w7.heap.size:=qbv (hW7.own 0 _ rfl) (g:=g) rfl
  have hkeys:=qfS (by simpa using hvu.symm) hown7
  rw [hvu] at hE19
  refine wp_block ?_
  refine wp_loop_ghost (fun q a_ w_=>∃ (j:Nat),q = u.length - j ∧ j ≤ u.length ∧ EnvOk 53 [⟨b,o,[.map (some mb)],false⟩] [(0,.p 0 0),(1,.v (cloV fc cap)),(37,.v (.slice (some ⟨g,0,none⟩) u.length kc)),(38,.v (.int .i64 ((u.length:Nat):Int))),(39,.v (.int .i64 ((j:Nat):Int)))] a_ ∧
   I w7 j w_) u.length
   ⟨0,by omega,by omega,hE19,hI0 w7 hW7.step⟩ ?_
  rintro q a17 w8 ⟨j,rfl,hj,hE20,hD⟩
  have hS8:=hIs w7 j w8 hD
  have hat8:=hat7.move hS8 (fun b o hf _=>hMF b o hf) qaX
  have hm8:MapR w8 (fun b' o'=>F b' o' ∧ b' < w7.heap.size) (some mb) u:=hm7.move hS8 (fun b o hf _=>hMF b o hf) (fun b' o' hf hl=>⟨hf,hl⟩)
  have hW8:WOk w8 Nil w8 [⟨b,o,[.map (some mb)],false⟩] []:=(WOk.start w8 Nil).start1 hat8 rfl rfl
  refine qag [0] kz (qbk [0] [] [0,1,37,38,39,40] hW8 hE20 (env':=[(0,.p 0 0),(1,.v (cloV fc cap)),(37,.v (.slice (some ⟨g,0,none⟩) u.length kc)),(38,.v (.int .i64 ((u.length:Nat):Int))),(39,.v (.int .i64 ((j:Nat):Int))),(40,.v (.bool (decide (((j:Nat):Int) < ((u.length:Nat):Int)))))]) kz rfl fun a18 hE21=>qaf (qab (wp_seq ?_)))
  refine qay hE21 (b:=decide (((j:Nat):Int) < ((u.length:Nat):Int))) kz (fun hc=>?_) (fun hc=>?_)
  ·have hlt:j < u.length:=by have:=of_decide_eq_true hc; omega
   refine wp_skip (qab (wp_seq (wp_block ?_)))
   obtain ⟨⟨k,x⟩,hu⟩:∃ y,u[j]? = some y:=⟨_,List.getElem?_eq_getElem hlt⟩
   have hmem:=List.mem_of_getElem? hu
   have hkr:=hm.range _ hmem
   have hcell:At w8 g (0 + j * 1) [.int .u32 k]:=by
    intro i v hi
    have hi0:i = 0:=by
     have:=(List.getElem?_eq_some_iff.1 hi).1
     simp at this; omega
    subst hi0
    simp only [List.getElem?_cons_zero,Option.some.injEq] at hi
    subst hi
    refine hS8.cell (fun hbm=>?_) ?_
    ·have:=hMlt _ _ hbm; omega
    have h1:=(hkeys j (by simpa using hlt)).1
    have h2:(u.map Prod.fst).toArray[j]! = k:=by
     rw [getElem!_pos _ j (by simpa using hlt)]
     have:(u.map Prod.fst)[j]? = some k:=by rw [List.getElem?_map,hu]; rfl
     simpa using (List.getElem?_eq_some_iff.1 this).2
    rw [h2] at h1
    simpa using h1
   refine qag [0,1,2] kz ?_
   refine qam (qaC hE21 (t:=101) (e:=63) (size:=1) (bytes:=4) (d:=41) (b:=g) (o:=0) (m:=u.length) (j:=j) kz kz rfl rfl hlt fun a19 hE22=>?_)
   refine qam (qaM hE22 (t:=63) (d:=42) (cs:=[.int .u32 k]) (v:=.int .u32 k) kz kz hcell fun a20 hE23=>?_)
   refine qbk [2] [] [0,1,37,38,39,7] hW8 hE23 (env':=[(0,.p 0 0),(1,.v (cloV fc cap)),(37,.v (.slice (some ⟨g,0,none⟩) u.length kc)),(38,.v (.int .i64 ((u.length:Nat):Int))),(39,.v (.int .i64 ((j:Nat):Int))),(7,.v (.int .u32 k))]) kz rfl fun a21 hE24=>qaf (qab ?_)
   refine qat [0,1,2,3,4,5,6,7,8] kz ?_
   refine qbk [0,1,2,3,4,5,6] [7,8] [0,1,37,38,39,43,44,48,49] hW8 hE24 (env':=[(0,.p 0 0),(1,.v (cloV fc cap)),(37,.v (.slice (some ⟨g,0,none⟩) u.length kc)),(38,.v (.int .i64 ((u.length:Nat):Int))),(39,.v (.int .i64 ((j:Nat):Int))),(43,.v (cloV fc cap)),(44,.v (.int .u32 k)),(48,.v (.map (some mb))),(49,.v (.int .u32 k))]) kz rfl fun a22 hE25=>?_
   refine qam (qig hE25 (t:=71) (kt:=63) (et:=22) (m:=some mb) (k:=k) (s:=x) (d:=50) kz kz kz hm8 hmem fun a23 Ax cx hox hE26=>?_)
   refine qam (qal hE26 (f:=fc) (vs:=[.int .u32 k,.slice Ax x.length cx,cap]) (d:=51) kz hcf (hI1 w7 hW7.step j k x w8 Ax cx hD hu hkr hox) ?_)
   rintro e_ w9 ⟨rfl,hD2⟩
   refine ⟨_,rfl,fun a24 hE27=>qaf (qaq (qab ?_))⟩
   have hS9:=hIs w7 (j + 1) w9 hD2
   have hat9:=hat7.move hS9 (fun b o hf _=>hMF b o hf) qaX
   have hW9:WOk w9 Nil w9 [⟨b,o,[.map (some mb)],false⟩] []:=(WOk.start w9 Nil).start1 hat9 rfl rfl
   refine qat [0,1] kz (qbk [0,1] [] [0,1,37,38,39] hW9 hE27 (env':=[(0,.p 0 0),(1,.v (cloV fc cap)),(37,.v (.slice (some ⟨g,0,none⟩) u.length kc)),(38,.v (.int .i64 ((u.length:Nat):Int))),(39,.v (.int .i64 (IntKind.i64.wrap (((j:Nat):Int) + 1))))]) kz rfl fun a25 hE28=>qaf (qab ?_))
   rw [qaN (by omega)] at hE28
   exact ⟨u.length - (j + 1),by omega,j + 1,rfl,by omega,hE28,hD2⟩
  obtain rfl:j = u.length:=by have:=of_decide_eq_false hc; omega
  refine wp_exit (qaB (qaB (qaL ?_)))
  exact qb4 hE21 hW8.cells (v:=.tuple #[]) kz ⟨rfl,w7,hW7.step,hD⟩
 -- one more
 have hst6:Step w5 w6 Nil:=by
  rcases hw6 with rfl | rfl
  ·exact Step.refl _ _
  exact Step.drew _
 have hr6:w6.heap[R]? = some (.mapIter (some mb) clk seen c0):=hst6.heap (fun o h=>h) hr5
 have hW6:=hW5.next_nil hst6
 obtain ⟨hml,_⟩:=mem_left he
 obtain ⟨k,sx,Ax,cx,hk1,hk2,hk3,hk4⟩:=hcont e hml
 have hR6:R < w6.heap.size:=(Array.getElem?_eq_some_iff.1 hr6).1
 have hW7:WOk w Nil (setBlock w6 R (.mapIter (some mb) clk (seen.push e.born) clk)) [⟨b,o,[.map (some mb)],false⟩,⟨kb,0,[.slice K vis.length kc],true⟩] [⟨K,kc,63,1,vis.length,(vis.map fun e=>kOf e.key).map (Value.int .u32)⟩]:=by
  refine hW6.next (Step.setBlock w6 R _) (fun b' o' hb' hN=>by omega) (fun i ob hi j hj hN=>?_) (fun i q hi g' hg' o' hN=>?_)
  ·match i,hi with
   | 0,hi =>
    simp only [List.getElem?_cons_zero,Option.some.injEq] at hi; subst hi
    have:=World.lt_of_cell (hat 0 _ rfl).2
    simp only at hN; omega
   | 1,hi =>
    simp only [List.getElem?_cons_succ,List.getElem?_cons_zero,Option.some.injEq] at hi; subst hi
    exact hkbr hN
   | i + 2,hi=>simp at hi
  match i,hi with
  | 0,hi =>
   simp only [List.getElem?_cons_zero,Option.some.injEq] at hi; subst hi
   exact hKR (by rw [← hN]; exact hg')
  | i + 1,hi=>simp at hi
 have hr7:(setBlock w6 R (.mapIter (some mb) clk (seen.push e.born) clk)).heap[R]? = some (.mapIter (some mb) clk (seen.push e.born) clk):=qdY hr6
 generalize hw7:setBlock w6 R (.mapIter (some mb) clk (seen.push e.born) clk) = w7 at hW7 hr7
 refine qbk [1] [] [0,1,4,24,26] hW7 hE13 (env':=[(0,.p 0 0),(1,.v (cloV fc cap)),(4,.p 1 0),(24,.v (.pointer (some ⟨R,0,none⟩))),(26,.v (.bool true))]) kz rfl fun a12 hE14=>qaf (qab (wp_seq ?_))
 refine qay hE14 (b:=true) kz (fun _=>?_) (fun hb=>by cases hb)
 refine wp_skip (qab (wp_block ?_))
 have hes7:=hW7.step.heap (fun o h=>h) hes
 refine qag [0,1,2] kz ?_
 refine qam (qhx hE14 (d:=27) (r:=R) kz hr7 hes7 hml hnod fun a13 hE15=>?_)
 rw [hk1] at hE15
 refine qbk [1,2] [] [0,1,4,24,5] hW7 hE15 (env':=[(0,.p 0 0),(1,.v (cloV fc cap)),(4,.p 1 0),(24,.v (.pointer (some ⟨R,0,none⟩))),(5,.v (.int .u32 k))]) kz rfl fun a14 hE16=>qaf (qab ?_)
 refine qat [0,1,2,3,4] kz ?_
 refine qbk [0,1] [2,3,4] [0,1,4,24,29,30] hW7 hE16 (env':=[(0,.p 0 0),(1,.v (cloV fc cap)),(4,.p 1 0),(24,.v (.pointer (some ⟨R,0,none⟩))),(29,.v (.slice K vis.length kc)),(30,.v (.int .u32 k))]) kz rfl fun a15 hE17=>?_
 have hsh:=left_shrinks es seen e he
 refine qb1 (t:=101) (e:=63) (size:=1) (bytes:=4) (len:=1) (cs:=[.int .u32 k]) (d1:=31) (d:=32) (k:=0) hW7 hE17 kz kz (fun _=>by kernel_rfl) rfl kz (by omega) fun K2 kc2 a16 w8 hF8 hW8 hE18=>?_
 obtain ⟨bl,hE18⟩:=hE18
 have hR7:R < w7.heap.size:=(Array.getElem?_eq_some_iff.1 hr7).1
 have hna:∀ {o'},¬ Act_ [⟨b,o,[.map (some mb)],false⟩,⟨kb,0,[.slice K vis.length kc],true⟩] [⟨K,kc,63,1,vis.length,(vis.map fun e=>kOf e.key).map (Value.int .u32)⟩] R o':=by
  rintro o' (⟨i,ob,hi,hrw,hb,_⟩ | ⟨i,q,hi,hq⟩)
  ·match i,hi with
   | 0,hi =>
    simp only [List.getElem?_cons_zero,Option.some.injEq] at hi; subst hi
    cases hrw
   | 1,hi =>
    simp only [List.getElem?_cons_succ,List.getElem?_cons_zero,Option.some.injEq] at hi; subst hi
    exact hkbr hb
   | i + 2,hi=>simp at hi
  match i,hi with
  | 0,hi =>
   simp only [List.getElem?_cons_zero,Option.some.injEq] at hi; subst hi
   exact hKR hq
  | i + 1,hi=>simp at hi
 have hK2:K2.map (·.block) ≠ some R:=fun hk=>by
  exact hF8.imm R 0 hR7 hna (.inr ⟨0,_,rfl,hk⟩)
 refine qam (qav hW8 hE18 (oi:=1) (cs:=[.slice K2 (vis.length + 1) kc2]) kz fun w9 hF9 hW9 hE19=>qaf (qaq (qab ?_)))
 have hr8:w9.heap[R]? = some (.mapIter (some mb) clk (seen.push e.born) clk) :=
  hF9.step.heap (fun o'=>hF8.imm R o' hR7 hna) (hF8.step.heap (fun o'=>hna) hr7)
 refine ⟨(leftOf es (seen.push e.born)).size,hsh,vis ++ [e],seen.push e.born,K2,kc2,clk,rfl,hv.push he,by rw [List.length_append,List.length_singleton]; omega,?_,?_,hr8,Nat.le_refl _,hK2⟩
 ·rw [List.length_append,List.length_singleton]
  exact hE19.pick (ks:=[0,1,4,24]) kz
 rw [List.length_append,List.length_singleton,List.map_append,List.map_append,List.map_cons,List.map_cons,hk1]
 exact hW9
end Go.Proofs.YtdlaobdadlmcdabDoor.ME
namespace Go.Proofs.YtdlaobdadlmcdabDoor.ME
open Go
open Go.RowKit
set_option linter.unusedVariables false
set_option linter.unusedSimpArgs false
set_option maxRecDepth 20000
section
variable {P:Program} {ops:Array Oper} {Q:Exit → Act → World → Prop} {n:Nat} {tb:Tb} {env:Env} {rs:List Rw} {w0:World} {M:Nat → Nat → Prop} {a:Act} {w:World}
theorem qhP {i d j:Nat} {t e:TypeId} {size bytes:Nat} (z:Value) (cs:List Value) {N:Act → World → Prop} (hW:WOk w0 M w tb rs) (hE:EnvOk n tb env a)
  (K:∀ b a' w',b = w.heap.size → w0.heap.size ≤ b → Fr w tb rs w' (tb ++ [⟨b,0,cs,true⟩]) rs → WOk w0 M w' (tb ++ [⟨b,0,cs,true⟩]) rs → EnvOk n (tb ++ [⟨b,0,cs,true⟩]) ((d,.v (.slice (some ⟨b,0,none⟩) j j)) :: env) a' → N a' w')
  (h:qia env ops n i = some (t,((j:Nat):Int),((j:Nat):Int),d):=by kernel_rfl) (ht:qcb P t = some (e,size,bytes):=by kernel_rfl) (hz:(P.info? e).bind (·.zero) = some z:=by kernel_rfl) (hcs:(madeCells z.cells (j * size)).toList = cs:=by kernel_rfl) (hb:Nat.ble (bytes * j) 1000000 = true:=by kernel_rfl):wpOp P ops Q i N a w:=by
 obtain ⟨ht',inf,z',hi,hz',hzs,hs1,rfl,hsz,hbp⟩:=qbL ht
 obtain ⟨op,ho,hd,kl,kc,hrun⟩:=qfo (P:=P) (w:=w) hE h
 have hzz:z' = z:=by rw [hi] at hz; simp only [Option.bind_some,hz',Option.some.injEq] at hz; exact hz
 subst hzz
 have hb':=Nat.le_of_ble_eq_true hb
 have hjm:j ≤ 1000000:=by
  have:=Nat.le_mul_of_pos_left j hbp
  omega
 have hr:=run_make (P:=P) w t e inf z' ht' hi hz' kl kc (j:Int) (j:Int) (by omega) (Int.le_refl _) (by
  have:((inf.bytes * j:Nat):Int) ≤ 281474976710656:=by omega
  rwa [Int.natCast_mul] at this) (by omega)
 simp only [Int.toNat_natCast,hs1] at hr
 have hca:madeCells z'.cells (j * size) = cs.toArray:=by rw [← hcs]
 rw [hca] at hr
 refine qaY hE ho (fun o hop=>hrun o _ _ hop hr) ?_
 refine K w.heap.size _ _ rfl hW.step.size (Fr.alloc w tb rs _ cs true) (hW.alloc cs e) ?_
 exact (hE.put hd (.v (.slice (some ⟨w.heap.size,0,none⟩) j j)) trivial).grow _
end
structure TBox (w:World) (B eT:Nat) (A:Option Addr) (cp n:Nat) (x0 x1 x2 x3:Value) (xs:List Value):Prop where
 str:Str w B [x0,x1,x2,x3,.slice A n cp]
 own:w.ownsRow 0 eT 2 (.slice A n cp) n xs
 ne:A.map (·.block) ≠ some B
def TM (B:Nat) (A:Option Addr):Nat → Nat → Prop:=fun b o=>(b = B ∧ o < 5) ∨ Blk A b o
def qjJ (w:World) (B eT:Nat) (A:Option Addr) (n:Nat) (x0 x1 x2 x3:Value) (xs:List Value) (k:Int) (x:Bs):Ending → World → Prop:=fun en w' =>
 en = .returned (.tuple #[]) ∧ ∃ A' cp' Av cv,TBox w' B eT A' cp' (n + 1) x0 x1 x2 x3 (xs ++ [.int .u32 k,.slice Av x.length cv]) ∧ Octs w' (fun b o=>(w.heap.size ≤ b ∨ A.map (·.block) = some b) ∧ ¬ TM B A' b o) Av cv x ∧ Near w A A' ∧ Step w w' (TM B A)
def qi2 (P:Program) (fc eT:Nat):Prop:=∀ (w:World) (B cp c n:Nat) (k:Int) (A Av:Option Addr) (x:Bs) (x0 x1 x2 x3:Value) (xs:List Value) (G:Nat → Nat → Prop),TBox w B eT A cp n x0 x1 x2 x3 xs → Octs w G Av c x → (∀ b o,G b o → ¬ TM B A b o) → n ≤ 1000000 →
 Calls P fc [.int .u32 k,.slice Av x.length c,.pointer (some ⟨B,0,none⟩)].toArray w (qjJ w B eT A n x0 x1 x2 x3 xs k x)
theorem TBox.wok {w:World} {B eT cp n:Nat} {A:Option Addr} {x0 x1 x2 x3:Value} {xs:List Value} (h:TBox w B eT A cp n x0 x1 x2 x3 xs):WOk w (TM B A) w [⟨B,0,[x0,x1,x2,x3,.slice A n cp],true⟩] [⟨A,cp,eT,2,n,xs⟩]:=by
 have h1:WOk w (TM B A) w [⟨B,0,[x0,x1,x2,x3,.slice A n cp],true⟩] [] :=
  (WOk.start w _).add ⟨B,0,[x0,x1,x2,x3,.slice A n cp],true⟩ (World.lt_of_cell (h.str.at_ 0 _ rfl)) (fun j v hj=>by rw [Nat.zero_add]; exact h.str.at_ j v hj) (fun _ j hj=>⟨.inr (.inl ⟨rfl,by rw [Nat.zero_add]; exact hj⟩),by rw [Nat.zero_add]; exact h.str.frz j hj⟩) (fun i ob hi=>by simp at hi) (fun i r hi=>by simp at hi)
 refine h1.addRow ⟨A,cp,eT,2,n,xs⟩ h.own (fun g hg=>.inr fun o=>.inr hg) (fun i ob hi=>?_) (fun i r hi=>by simp at hi)
 cases i with
 | zero =>
  simp only [List.getElem?_cons_zero,Option.some.injEq] at hi; subst hi
  exact h.ne
 | succ i=>simp at hi
theorem qkE {w0 w:World} {B eT cp n:Nat} {A0 A:Option Addr} {x0 x1 x2 x3:Value} {xs:List Value} {rs:List Rw} (hW:WOk w0 (TM B A0) w [⟨B,0,[x0,x1,x2,x3,.slice A n cp],true⟩] (⟨A,cp,eT,2,n,xs⟩ :: rs)) (hB:B < w0.heap.size):TBox w B eT A cp n x0 x1 x2 x3 xs ∧ Near w0 A0 A ∧ Step w0 w (TM B A0):=by
 refine ⟨⟨Str.of hW 0 rfl,hW.own 0 _ rfl,fun e=>hW.rtb 0 _ rfl B e 0 _ rfl rfl⟩,fun g hg=>?_,hW.step⟩
 rcases hW.ownM 0 _ rfl g hg with h | h
 ·exact .inr h
 rcases h 5 with ⟨_,h⟩ | h
 ·omega
 exact .inl h
theorem qi3 {w0 w:World} {B eT cp n c e8:Nat} {A0 A Av:Option Addr} {cs:List Value} {xs:List Value} {s:Bs} (hl:cs.length = 5) (hW:WOk w0 (TM B A0) w [⟨B,0,cs,true⟩] [⟨A,cp,eT,2,n,xs⟩,brow Av c e8 s]) (hsm:s.length ≤ 1099511627776):Octs w (fun b o=>(w0.heap.size ≤ b ∨ A0.map (·.block) = some b) ∧ ¬ TM B A b o) Av c s:=by
 refine qbU (hW.own 1 _ rfl) hsm fun g hg o=>⟨?_,?_⟩
 ·rcases hW.ownM 1 _ rfl g hg with h | h
  ·exact .inl h
  rcases h 5 with ⟨_,h⟩ | h
  ·omega
  exact .inr h
 rintro (⟨rfl,_⟩ | h)
 ·exact hW.rtb 1 _ rfl g hg 0 _ rfl rfl
 exact hW.rr 1 0 _ _ (by decide) rfl rfl g hg h
theorem qi4 {fc eT B b o:Nat} {m:Option Nat} {u:List (Int × Bs)} {w:World} {F:Nat → Nat → Prop} {x0 x1 x2 x3:Value} (hcf:∀ args w,(callFunc fc args).run Tryd.prog w = .ok (.enter fc args) w) (hone:qi2 Tryd.prog fc eT) (hat:AtF w F b o [.map m]) (hm:MapR w F m u) (hB:Str w B [x0,x1,x2,x3,.slice none 0 0]) (hF:∀ b o,F b o → ¬ (b = B ∧ o < 5)) (hul:u.length ≤ 1000000) :
  Calls Tryd.prog 32 [.pointer (some ⟨b,o,none⟩),cloV fc (.pointer (some ⟨B,0,none⟩))].toArray w (fun e w'=>e = .returned (.tuple #[]) ∧ ∃ A c,Str w' B [x0,x1,x2,x3,.slice A u.length c] ∧ TagsR w' (fun b o=>w.heap.size ≤ b) A c u ∧ Step w w' (fun b o=>b = B ∧ o < 5)):=by
 have hBl:B < w.heap.size:=World.lt_of_cell (hB.at_ 0 _ rfl)
 refine (qli (M:=fun b o=>b = B ∧ o < 5) hcf (fun w7 j w8=>∃ A cp xs css,TBox w8 B eT A cp j x0 x1 x2 x3 xs ∧ Tags w8 (fun b o=>w7.heap.size ≤ b ∧ ¬ TM B A b o) xs (u.take j) css ∧ (∀ g,A.map (·.block) = some g → w7.heap.size ≤ g) ∧ Step w7 w8 (fun b o=>b = B ∧ o < 5)) hat hm hF (fun b o h=>by rw [h.1]; exact hBl) (fun w7 hs=>?_) (fun w7 j w8 h=>by obtain ⟨_,_,_,_,_,_,_,h⟩:=h; exact h) (fun w7 hs j k x w8 Ax cx hI hu hk hox=>?_) hul).mono ?_
 ·exact ⟨none,0,[],[],⟨hB.move hs fun _ h=>h,World.ownsRow_nil _ 0 eT 2,fun h=>by cases h⟩,Tags.nil _ _,fun g h=>(by cases h),Step.refl _ _⟩
 ·obtain ⟨A,cp,xs,css,hbx,hT,hA,hs8⟩:=hI
  have hj:j < u.length:=(List.getElem?_eq_some_iff.1 hu).1
  refine (hone w8 B cp cx j k A Ax x x0 x1 x2 x3 xs _ hbx hox (fun b o hf=>?_) (by omega)).mono ?_
  ·rintro (h | h)
   ·exact hF _ _ hf.1 h
   have:=hA b h; have:=hf.2; omega
  rintro e w9 ⟨rfl,A',cp',Av,cv,hbx',ho',hn,hs9⟩
  refine ⟨rfl,A',cp',_,css ++ [[.int .u32 k,.slice Av x.length cv]],hbx',?_,fun g hg=>?_,hs8.trans hs9 fun b o hb h=>?_⟩
  ·rw [qcv hu]
   have e1:Tags w9 (fun b o=>w7.heap.size ≤ b ∧ ¬ TM B A' b o) xs (u.take j) css:=hT.move hs9 (fun b o h _=>h.2) (fun b o h hb=>⟨h.1,fun h'=>by
    rcases h' with h' | h'
    ·exact h.2 (.inl h')
    rcases hn b h' with h' | h'
    ·exact h.2 (.inr h')
    omega⟩)
   have e2:Octs w9 (fun b o=>w7.heap.size ≤ b ∧ ¬ TM B A' b o) Av cv x:=ho'.move (Step.refl _ Nil) nilM fun b o h _=>⟨by
    rcases h.1 with h' | h'
    ·exact Nat.le_trans hs8.size h'
    exact hA b h',h.2⟩
   exact e1.snoc (c:=[.int .u32 k,.slice Av x.length cv]) (x:=(k,x)) ⟨⟨_,_,rfl,e2⟩,hk.1,hk.2⟩
  ·rcases hn g hg with h | h
   ·exact hA g h
   exact Nat.le_trans hs8.size h
  rcases h with h | h
  ·exact h
  have:=hA b h; omega
 rintro e w' ⟨rfl,w7,hs,A,cp,xs,css,hbx,hT,hA,hs8⟩
 rw [List.take_length] at hT
 refine ⟨rfl,A,cp,hbx.str,?_,(hs.mono (N:=fun b o=>b = B ∧ o < 5) fun _ _ _ f=>f.elim).trans hs8 fun b o _ h=>h⟩
 exact ((hT.move (Step.refl _ Nil) nilM fun b o h _=>Nat.le_trans hs.size h.1).slots (F:=fun b o=>w.heap.size ≤ b) hbx.own rfl (by omega) fun g hg o=>Nat.le_trans hs.size (hA g hg))
def qhQ (b:Bool):Tree:=.mk (if b = true then 1 else 0) [] false [] []
abbrev NoF:Nat → Nat → Prop:=fun _ _=>False
theorem WOk.strOut {G:Nat → Nat → Prop} {w0 w:World} {tb:Tb} {rs:List Rw} {p:Nat} {cs:List Value} (tb':Tb) (hW:WOk w0 Nil w tb rs) (ht:tb' ++ [⟨p,0,cs,true⟩] = tb:=by rfl):AtF w (Imm G w0 w tb' rs) p 0 cs:=fun j v hj=>by
 subst ht
 have hi:(tb' ++ [(⟨p,0,cs,true⟩:Ob)])[tb'.length]? = some ⟨p,0,cs,true⟩:=by rw [List.getElem?_append_right (Nat.le_refl _),Nat.sub_self]; rfl
 have h1:=hW.cells _ _ hi j v hj
 have hlt:j < cs.length:=(List.getElem?_eq_some_iff.1 hj).1
 refine ⟨⟨?_,hW.live _ _ hi,fun ha=>?_⟩,h1⟩
 ·rcases (hW.rw_ _ _ hi rfl j hlt).1 with h2 | h2
  ·exact .inr h2
  exact h2.elim
 rcases ha with ⟨k,ob,h2,h3,h4,h5,h6⟩ | ⟨k,r,h2,h3⟩
 ·have hk:k < tb'.length:=(List.getElem?_eq_some_iff.1 h2).1
  have h7:(tb' ++ [(⟨p,0,cs,true⟩:Ob)])[k]? = some ob:=by rw [List.getElem?_append_left hk]; exact h2
  rcases hW.apart k _ ob _ (by omega) h7 hi (.inr rfl) with h8 | h8 | h8
  ·exact h8 h4
  ·simp only [Nat.zero_add] at h5 h6; simp only [Nat.le_zero] at h8; omega
  simp only [Nat.zero_add] at h5 h6 h8; omega
 exact hW.rtb k r h2 p h3 _ _ hi rfl
theorem qhR {u:List (Int × Bs)} (h:qcu u) {i j:Nat} {k k':Int} {s s':Bs} (hi:u[i]? = some (k,s)) (hj:u[j]? = some (k',s')) (hij:j < i):¬ k < k':=by
 obtain ⟨h1,h2⟩:=List.getElem?_eq_some_iff.1 hi
 obtain ⟨h3,h4⟩:=List.getElem?_eq_some_iff.1 hj
 have:=List.pairwise_iff_getElem.1 h j i h3 h1 hij
 rw [h2,h4] at this
 simp only at this
 omega
section
variable {w0 w:World} {tb:Tb} {rs:List Rw} {F:Nat → Nat → Prop}
theorem WOk.objFp (hW:WOk w0 Nil w tb rs) (i:Nat) {b:Nat} {cs:List Value} (hi:tb[i]? = some ⟨b,0,cs,true⟩):AtF w (Fp F w0) b 0 cs:=fun j v hj=>by
 have hlt:=(List.getElem?_eq_some_iff.1 hj).1
 refine ⟨?_,hW.cells i _ hi j v hj⟩
 rcases (hW.rw_ i _ hi rfl j hlt).1 with h | h
 ·exact .inr h
 exact h.elim
def TrL (w:World) (F:Nat → Nat → Prop):List (List Value) → List Tree → Prop
 | [],[]=>True
 | c :: cs,x :: xs=>TreeR w F c x ∧ TrL w F cs xs
 | _,_=>False
theorem TrL.move {w w':World} {F F' M:Nat → Nat → Prop} (hs:Step w w' M) (hM:∀ b o,F b o → b < w.heap.size → ¬ M b o) (hF:∀ b o,F b o → b < w.heap.size → F' b o):∀ {cs:List (List Value)} {l:List Tree},TrL w F cs l → TrL w' F' cs l
 | [],[],_=>trivial
 | _ :: _,_ :: _,h=>⟨h.1.move hs hM hF,TrL.move hs hM hF h.2⟩
 | [],_ :: _,h=>h.elim
 | _ :: _,[],h=>h.elim
theorem TrL.len:∀ {cs:List (List Value)} {l:List Tree},TrL w F cs l → cs.length = l.length
 | [],[],_=>rfl
 | _ :: _,_ :: _,h=>congrArg (· + 1) (TrL.len h.2)
 | [],_ :: _,h=>h.elim
 | _ :: _,[],h=>h.elim
theorem TrL.five:∀ {cs:List (List Value)} {l:List Tree},TrL w F cs l → ∀ c ∈ cs,c.length = 5
 | [],[],_=>fun c hc=>by cases hc
 | _ :: _,_ :: _,h=>fun c hc=>by
  rcases List.mem_cons.1 hc with rfl | hc
  ·exact h.1.five
  exact TrL.five h.2 c hc
 | [],_ :: _,h=>h.elim
 | _ :: _,[],h=>h.elim
theorem TrL.get:∀ {cs:List (List Value)} {l:List Tree},TrL w F cs l → ∀ (i:Nat) (x:Tree),l[i]? = some x → TreeR w F (cs.getD i []) x
 | [],[],_,i,x,hx=>by simp at hx
 | _ :: _,_ :: _,h,0,x,hx=>by
  simp only [List.getElem?_cons_zero,Option.some.injEq] at hx
  subst hx
  exact h.1
 | _ :: _,_ :: _,h,i + 1,x,hx=>TrL.get h.2 i x hx
 | [],_ :: _,h,_,_,_=>h.elim
 | _ :: _,[],h,_,_,_=>h.elim
theorem qlj {b:Nat}:∀ (css:List (List Value)) (o:Nat),AtF w F b o css.flatten → (∀ c ∈ css,c.length = 5) → ∀ i,i < css.length → (css.getD i []).length = 5 ∧ AtF w F b (o + i * 5) (css.getD i [])
 | [],o,h,hl,i,hi=>absurd hi (Nat.not_lt_zero _)
 | c :: r,o,h,hl,0,_=>⟨hl c List.mem_cons_self,fun j v hj=>by
   have hj':c[j]? = some v:=hj
   have:=h j v (by rw [List.flatten_cons,List.getElem?_append_left (List.getElem?_eq_some_iff.1 hj').1]; exact hj')
   rw [show o + 0 * 5 + j = o + j by omega]
   exact this⟩
 | c :: r,o,h,hl,i + 1,hi=>by
  have hc:=hl c List.mem_cons_self
  have:=qlj r (o + 5) (fun j v hj=>by
   have:=h (5 + j) v (by rw [List.flatten_cons,List.getElem?_append_right (by omega),show 5 + j - c.length = j by omega]; exact hj)
   rw [show o + 5 + j = o + (5 + j) by omega]
   exact this) (fun d hd=>hl d (List.mem_cons_of_mem _ hd)) i (by simpa using hi)
  rw [show o + (i + 1) * 5 = o + 5 + i * 5 by omega]
  exact this
theorem qhS {b:Nat} {css:List (List Value)} {l:List Tree} (h:AtF w F b 0 css.flatten) (hT:TrL w F css l) (hsm:l.length ≤ 1099511627776):Slots w F 5 (some ⟨b,0,none⟩) l.length l.length (fun i=>css.getD i []) :=
 ⟨Nat.le_refl _,hsm,fun h=>(by cases h),fun ad hA _=>⟨b,0,(Option.some.inj hA).symm,fun i hi=>qlj css 0 h hT.five i (by rw [hT.len]; exact hi)⟩⟩
theorem Trees.xslen {w:World} {xs:List Value} {l:List Tree} {css:List (List Value)} (h:Trees w F xs l css):xs.length = l.length * 5:=by
 have h1:∀ css:List (List Value),(∀ c ∈ css,c.length = 5) → css.flatten.length = css.length * 5:=fun css hc=>by
  induction css with
  | nil=>rfl
  | cons c r ih =>
   rw [List.flatten_cons,List.length_append,hc c List.mem_cons_self,ih fun d hd=>hc d (List.mem_cons_of_mem _ hd),List.length_cons]
   omega
 rw [h.flat.eq,h1 css,h.len]
 intro c hc
 obtain ⟨i,hi,rfl⟩:=List.getElem_of_mem hc
 have hl:=h.len
 exact (h.each i _ _ (List.getElem?_eq_getElem hi) (List.getElem?_eq_getElem (show i < l.length by omega))).five
theorem qcU {xs zs cs:List Value} {k:Nat} (hx:xs.length = k * 5) (hz:zs.length = cs.length:=by rfl):qba (xs ++ zs) (k * 5) cs = xs ++ cs:=by
 unfold qba
 rw [List.take_left' hx,List.drop_of_length_le (by rw [List.length_append]; omega),List.append_nil]
structure O16 (w:World) (F:Nat → Nat → Prop) (A:Option Addr) (c:Nat) (s:Bs):Prop where
 o:Octs w F A c s
 l:s.length = 16
theorem O16.move {w w':World} {F F' M:Nat → Nat → Prop} {A:Option Addr} {c:Nat} {s:Bs} (h:O16 w F A c s) (hs:Step w w' M) (hM:∀ b o,F b o → b < w.heap.size → ¬ M b o) (hF:∀ b o,F b o → b < w.heap.size → F' b o):O16 w' F' A c s:=⟨h.o.move hs hM hF,h.l⟩
theorem O16.src {w:World} {F:Nat → Nat → Prop} {A:Option Addr} {c:Nat} {s:Bs} (h:O16 w F A c s):Src w A 16 1 (bc s):=by
 have:=h.o.src
 rwa [h.l] at this
theorem O16.cap {w:World} {F:Nat → Nat → Prop} {A:Option Addr} {c:Nat} {s:Bs} (h:O16 w F A c s):A = none → c = 0:=h.o.cap
theorem qha {w:World} {F:Nat → Nat → Prop} {b o k:Nat} {cs:List Value} {s:Bs} (h:AtF w F b o cs) (hl:s.length = 16) (hc:∀ j,j < 16 → cs[k + j]? = some (qae (s.getD j 0))):O16 w F (some ⟨b,o + k,none⟩) 16 s:=by
 refine ⟨⟨by omega,by omega,fun h=>(by cases h),fun ad hA _=>⟨b,o + k,(Option.some.inj hA).symm,fun i hi=>⟨rfl,fun j v hj=>?_⟩⟩⟩,hl⟩
 have hj0:j = 0:=by
  cases j with
  | zero=>rfl
  | succ j=>simp at hj
 subst hj0
 simp only [List.getElem?_cons_zero,Option.some.injEq] at hj
 subst hj
 have:=h (k + i) _ (hc i (by omega))
 rw [show o + k + i * 1 + 0 = o + (k + i) by omega]
 exact this
theorem qgh (hW:WOk w0 Nil w tb rs) {k:Nat} {A:Option Addr} {c e n:Nat} {xs:List Value} {l:List Tree} {css:List (List Value)} {b:Bool} (hk:rs[k]? = some ⟨A,c,e,5,n,xs⟩) (hT:Trees w (Imm F w0 w tb rs) xs l css) (hn:n = l.length) (hsm:l.length ≤ 1099511627776):TreeR w (Fp F w0) [.int .i64 0,.slice none 0 0,.bool b,.slice A n c,.slice none 0 0] (.mk 0 [] b l []):=by
 have h:=qgQ hW hk hT hn hsm
 subst hn
 exact TreeR.mk (s:=[]) (u:=[]) _ (Octs.nil _ _) h.1 h.2 (TagsR.nil _ _)
theorem qch {L k:Nat} {f:Nat → Tree} (h:k < L):((List.range L).map f).take (k + 1) = ((List.range L).map f).take k ++ [f k] :=
 qcv (by rw [List.getElem?_map,List.getElem?_range h]; rfl)
theorem qhb {L k:Nat} {f:Nat → Tree} (h:L ≤ k):((List.range L).map f).take k = (List.range L).map f:=List.take_of_length_le (by rw [List.length_map,List.length_range]; exact h)
theorem qb6 {L:Nat} {f:Nat → Tree}:((List.range L).map f).length = L:=by rw [List.length_map,List.length_range]
theorem qjK (hW:WOk w0 Nil w tb rs) (i:Nat) {b n2 c3:Nat} {A3:Option Addr} {u:List (Int × Bs)} {css:List (List Value)} {cs:List Value} {l:List Tree} (hi:tb[i]? = some ⟨b,0,cs,true⟩) (hT':TrL w (Fp F w0) css l) (hU:TagsR w (Fp F w0) A3 c3 u) (hf:css.flatten = cs:=by rfl) (hl:l.length = n2:=by rfl) (hn:Nat.ble n2 1000000 = true:=by kernel_rfl) :
  qem w0 F (.mk 0 [] false l u) (.returned (.agg #[.int .i64 0,.slice none 0 0,.bool false,.slice (some ⟨b,0,none⟩) n2 n2,.slice A3 u.length c3])) w:=by
 subst hf
 subst hl
 have hn':=Nat.le_of_ble_eq_true hn
 exact ⟨_,rfl,TreeR.mk (s:=[]) _ (Octs.nil _ _) (qhS (hW.objFp i hi) hT' (by omega)) hT'.get hU,hW.step⟩
end
def qlk (m:Nat):Prop:=∀ (ct:List Value) (t:Tree) (w:World) (F:Nat → Nat → Prop),TreeR w F ct t → t.depth ≤ m →
  Calls Tryd.prog 12 #[.agg ct.toArray] w (qem w F t)
theorem qi5 {m:Nat} (hg:qlk m) (ct:List Value) (t:Tree) (w:World) (F:Nat → Nat → Prop) (ht:TreeR w F ct t) (hd:t.depth ≤ m + 1) :
  Calls Tryd.prog 12 #[.agg ct.toArray] w (qem w F t):=by
 obtain ⟨n1,s2,b3,l4,u5,A6,c7,A8,c9,ap,ar,dS,rfl,rfl,du,dv,dT,dU⟩:=ht.open_
 have dw:=du.small
 have dx:=dv.small
 obtain ⟨dV,dy,dW⟩:=dU.ex
 have dA:=dy.small
 refine enter (n:=49) Tryd.func12 rfl Tryd.ntmps12 kz fun a hE=>?_
 have hW:=WOk.start w Nil
 refine qag [0,1] kz ?_
 refine qam (qa7 hW hE (d:=1) (cs:=[.int .i64 n1,.slice A6 s2.length c7,.bool b3,.slice A8 l4.length c9,.slice ap u5.length ar]) kz fun bG fj fk dX dY dZ cW cX=>?_)
 refine qam (qaR cW cX (d:=2) (cs:=[.int .i64 0,.slice none 0 0,.bool false,.slice none 0 0,.slice none 0 0]) kz fun bH fm fo d5 d6 d7 bJ cY=>?_)
 refine qaf (qab ?_)
 refine qag [0,1,2,3,4,5,6,7,8] kz ?_
 refine qaj [0,1,2,3,4,5,6] [7,8] [(1,.p 0 0),(2,.p 1 0),(14,.v (.agg #[.int .i64 n1,.slice A6 s2.length c7,.bool b3,.slice none 0 0,.slice none 0 0]))] bJ cY fun fq cZ=>?_
 refine qam (qaR bJ cZ (d:=3) (cs:=[.int .i64 0,.slice none 0 0,.bool false,.slice none 0 0,.slice none 0 0]) kz fun bI fr ft d8 d9 ea c5 c6=>?_)
 refine qam (qav c5 c6 (oi:=2) (cs:=[.int .i64 n1,.slice A6 s2.length c7,.bool b3,.slice none 0 0,.slice none 0 0]) kz fun fu eb bA da=>?_)
 refine qaf (qab ?_)
 refine wp_seq ?_
 refine qar [(1,.p 0 0),(2,.p 1 0),(3,.p 2 0),(16,.v (.slice A8 l4.length c9)),(17,.v (.int .i64 ((l4.length:Nat):Int))),(18,.v (.int .i64 0))] bA da fun fv db=>?_
 refine wp_block ?_
 have bK:=bA.addNil 26 5
 have ec:=bA.frNil 26 5
 refine wp_loop_ghost (fun n_ a_ w_=>∃ (k:Nat) (A_:Option Addr) (c_:Nat) (xs:List Value) (css:List (List Value)),n_ = l4.length - k ∧ k ≤ l4.length ∧ (Trees w_ (Imm F w w_ [⟨bG,0,[.int .i64 n1,.slice A6 s2.length c7,.bool b3,.slice A8 l4.length c9,.slice ap u5.length ar],true⟩,⟨bH,0,[.int .i64 0,.slice none 0 0,.bool false,.slice none 0 0,.slice none 0 0],true⟩,⟨bI,0,[.int .i64 n1,.slice A6 s2.length c7,.bool b3,.slice A_ k c_,.slice none 0 0],true⟩] [⟨A_,c_,26,5,k,xs⟩]) xs (l4.take k) css) ∧ LInv bK 49 [⟨bG,0,[.int .i64 n1,.slice A6 s2.length c7,.bool b3,.slice A8 l4.length c9,.slice ap u5.length ar],true⟩,⟨bH,0,[.int .i64 0,.slice none 0 0,.bool false,.slice none 0 0,.slice none 0 0],true⟩,⟨bI,0,[.int .i64 n1,.slice A6 s2.length c7,.bool b3,.slice A_ k c_,.slice none 0 0],true⟩] [⟨A_,c_,26,5,k,xs⟩] [(1,.p 0 0),(2,.p 1 0),(3,.p 2 0),(16,.v (.slice A8 l4.length c9)),(17,.v (.int .i64 ((l4.length:Nat):Int))),(18,.v (.int .i64 ((k:Nat):Int)))] a_ w_) (l4.length) ⟨0,none,0,[],[],by omega,by omega,Trees.nil _ _,db.pk,bK,Fr.refl _ _ _⟩ ?_
 rintro fw fx fy ⟨k,A_,c_,xs,css,ee,ef,hT,dc,aw,de⟩
 refine qar [(1,.p 0 0),(2,.p 1 0),(3,.p 2 0),(16,.v (.slice A8 l4.length c9)),(17,.v (.int .i64 ((l4.length:Nat):Int))),(18,.v (.int .i64 ((k:Nat):Int))),(19,.v (.bool (decide (((k:Nat):Int) < ((l4.length:Nat):Int)))))] aw dc fun fz bB=>?_
 refine wp_seq ?_
 refine qay bB (b:=decide (((k:Nat):Int) < ((l4.length:Nat):Int))) kz (fun bC=>?_) (fun bC=>?_)
 ·
  have eg:=of_decide_eq_true bC
  refine wp_skip ?_
  refine qab ?_
  refine wp_seq ?_
  refine wp_block ?_
  refine qag [0,1,2,3] kz ?_
  obtain ⟨eh,ei,df,ej,bf⟩:=Slots.get dv (i:=k) (by omega)
  obtain ⟨ek,bD⟩:∃ x,l4[k]? = some x:=⟨_,List.getElem?_eq_getElem (by omega)⟩
  have bE:=dT k ek bD
  obtain ⟨bL,bM,bN,bO,bP,bQ,bR,bS,bT,bU,bV,em,rfl,bg,eo,ep,fA,fB⟩:=bE.open_
  rw [bg] at bE
  have dB:=eo.small
  have dC:=ep.small
  rw [bg] at bf
  refine qam (qaC bB (t:=34) (A:=A8) (m:=l4.length) (q:=((k:Nat):Int)) (d:=20) kz (e:=37) (size:=5) (bytes:=88) kz df rfl (by omega) fun fC bW=>?_)
  refine qam (qaM bW (t:=37) (b:=eh) (o:=ei + k * 5) (d:=21) kz (cs:=[.int .i64 bL,.slice bQ bM.length bR,.bool bN,.slice bS bO.length bT,.slice bU bP.length bV]) (v:=.agg #[.int .i64 bL,.slice bQ bM.length bR,.bool bN,.slice bS bO.length bT,.slice bU bP.length bV]) kz (AtF.move bf aw.step nilM qaX).at_ fun eu bX=>?_)
  refine qam (qaR aw bX (d:=5) (cs:=[.int .i64 0,.slice none 0 0,.bool false,.slice none 0 0,.slice none 0 0]) kz fun ev ew ey dD dE ax bY bZ=>?_)
  refine qam (qav bY bZ (oi:=3) (cs:=[.int .i64 bL,.slice bQ bM.length bR,.bool bN,.slice bS bO.length bT,.slice bU bP.length bV]) kz fun ez ay b8 ca=>?_)
  refine qaf (qab ?_)
  refine qdd 7 kz b8 fun eB az ag cb=>?_
  refine qaD [0,1,2] [(1,.p 0 0),(2,.p 1 0),(3,.p 2 0),(16,.v (.slice A8 l4.length c9)),(17,.v (.int .i64 ((l4.length:Nat):Int))),(18,.v (.int .i64 ((k:Nat):Int))),(23,.v (.slice A_ k c_)),(24,.v (.agg #[.int .i64 bL,.slice bQ bM.length bR,.bool bN,.slice bS bO.length bT,.slice bU bP.length bV]))] 5 (qac (qaa (qaa (qac (qaa qad))))) (fun _ h=>h.cells) cb ca fun eC cc=>?_
  refine qaw (i:=3) kz (qal cc (f:=12) (vs:=[.agg #[.int .i64 bL,.slice bQ bM.length bR,.bool bN,.slice bS bO.length bT,.slice bU bP.length bV]]) (d:=25) kz Tryd.call12 ( hg _ _ _ _ (bE.move ag.step nilM ag.imm) (by have h_:=qgP bD; rw [qfZ] at hd; omega)) ?_)
  rintro e_ eD ⟨dF,rfl,cd,aA⟩
  have aB:=cd.move (Step.refl _ Nil) nilM (ag.laid (G:=F) aA)
  obtain ⟨aC,aD,aE,aF,aG,aH,aI,aJ,aK,aL,aM,dG,dH,aN,dg,dh,eE,eF⟩:=aB.open_
  rw [aN] at aB
  have di:=dg.small
  have dj:=dh.small
  rw [aN]
  refine ⟨_,rfl,fun eG ce=>?_⟩
  have bh:=ag.next_nil aA
  have ae:=ag.frN aA
  have cm:=TT.ofW ae bh
  refine ⟨fun _=>cm,?_⟩
  refine qaw (i:=4) kz (qbw bh ce (e:=26) (size:=5) (len:=1) (cs:=[.int .i64 aC,.slice aH aD.length aI,.bool aE,.slice aJ aF.length aK,.slice aL aG.length aM]) (d:=26) kz kz fun dl eH eI dI dJ aa au cq=>?_)
  have cr:=TT.ofW (ae.trans aa) au
  refine ⟨fun _=>cr,?_⟩
  refine qaw (i:=5) kz (qaO au cq (k:=0) (d:=27) (t:=23) (e:=26) (size:=5) (bytes:=88) (A:=A_) (As:=(some ⟨dl,0,none⟩)) (m0:=k) (c:=c_) (m:=1) (cs:=1) (xs:=xs) (news:=[.int .i64 aC,.slice aH aD.length aI,.bool aE,.slice aJ aF.length aK,.slice aL aG.length aM]) kz kz rfl (qbo (au.own 1 _ rfl) (qby kz)) (qbA (au.own 1 _ rfl)) (by omega) fun aO aP eJ eK af bj cu=>?_)
  have bk:=TT.ofW ((ae.trans aa).trans af) bj
  refine ⟨fun _=>bk,?_⟩
  refine qaD [6] [(1,.p 0 0),(2,.p 1 0),(3,.p 2 0),(16,.v (.slice A8 l4.length c9)),(17,.v (.int .i64 ((l4.length:Nat):Int))),(18,.v (.int .i64 ((k:Nat):Int))),(27,.v (.slice aO (k + 1) aP)),(28,.p 2 3)] 1 (qac (qaa (qaa (qac (qaa qad))))) (fun _ h=>h.cells) bk cu fun eL cw=>?_
  refine qaw (i:=7) kz (qav bj cw (oi:=2) (cs:=[.int .i64 n1,.slice A6 s2.length c7,.bool b3,.slice aO (k + 1) aP,.slice none 0 0]) kz fun eM ah bn cz=>?_)
  refine ⟨fun h=>absurd rfl h,?_⟩
  refine qaF kz ?_ _
  refine qaq ?_
  refine qab ?_
  refine qat [0,1] kz ?_
  refine qaj [0,1] [] [(1,.p 0 0),(2,.p 1 0),(3,.p 2 0),(16,.v (.slice A8 l4.length c9)),(17,.v (.int .i64 ((l4.length:Nat):Int))),(18,.v (.int .i64 (IntKind.i64.wrap (((k:Nat):Int) + 1))))] bn cz fun eN cA=>?_
  refine qaf (qab ?_)
  obtain ⟨bo,cB,ai⟩:=bn.cutB cA 3 [⟨bG,0,[.int .i64 n1,.slice A6 s2.length c7,.bool b3,.slice A8 l4.length c9,.slice ap u5.length ar],true⟩,⟨bH,0,[.int .i64 0,.slice none 0 0,.bool false,.slice none 0 0,.slice none 0 0],true⟩,⟨bI,0,[.int .i64 n1,.slice A6 s2.length c7,.bool b3,.slice aO (k + 1) aP,.slice none 0 0],true⟩] [(1,.p 0 0),(2,.p 1 0),(3,.p 2 0),(16,.v (.slice A8 l4.length c9)),(17,.v (.int .i64 ((l4.length:Nat):Int))),(18,.v (.int .i64 (IntKind.i64.wrap (((k:Nat):Int) + 1))))]
  obtain ⟨cC,aj⟩:=cB.cutR 1 [⟨aO,aP,26,5,k + 1,xs ++ [.int .i64 aC,.slice aH aD.length aI,.bool aE,.slice aJ aF.length aK,.slice aL aG.length aM]⟩]
  have cD:IntKind.i64.wrap (((k:Nat):Int) + 1) = ((k + 1:Nat):Int):=qaN (by omega)
  rw [cD] at bo
  exact ⟨l4.length - (k + 1),by omega,k + 1,aO,aP,xs ++ [Value.int .i64 aC,.slice aH aD.length aI,.bool aE,.slice aJ aF.length aK,.slice aL aG.length aM],(css ++ [[Value.int .i64 aC,.slice aH aD.length aI,.bool aE,.slice aJ aF.length aK,.slice aL aG.length aM]]),rfl,by omega,by rw [qcv bD]; exact (hT.move ((((((((ax.trans ay).trans az).trans ae).trans aa).trans af).trans ah).trans ai).trans aj).step immM ((((((((ax.trans ay).trans az).trans ae).trans aa).trans af).trans ah).trans ai).trans aj).to').snoc (aB.move ((((aa.trans af).trans ah).trans ai).trans aj).step immM ((((aa.trans af).trans ah).trans ai).trans aj).to'),bo.pk,cC,(((((((((de.trans ax).trans ay).trans az).trans ae).trans aa).trans af).trans ah).trans ai).trans aj)⟩
 have dK:=of_decide_eq_false bC
 refine wp_exit ?_
 refine qaB ?_
 refine qaB ?_
 refine qaL ?_
 refine qab ?_
 refine wp_seq ?_
 refine qar [(2,.p 1 0),(3,.p 2 0),(31,.v (.slice ap u5.length ar)),(32,.v (.int .i64 ((u5.length:Nat):Int))),(33,.v (.int .i64 0))] aw bB fun eO cE=>?_
 refine wp_block ?_
 have hk0:k = l4.length:=by omega
 have bp:=aw.addNil 65 2
 have bq:=aw.frNil 65 2
 refine wp_loop_ghost (fun n_ a_ w_=>∃ (q:Nat) (A5_:Option Addr) (c5_:Nat) (ys:List Value) (dss:List (List Value)),n_ = u5.length - q ∧ q ≤ u5.length ∧ (Tags w_ (Imm F w w_ [⟨bG,0,[.int .i64 n1,.slice A6 s2.length c7,.bool b3,.slice A8 l4.length c9,.slice ap u5.length ar],true⟩,⟨bH,0,[.int .i64 0,.slice none 0 0,.bool false,.slice none 0 0,.slice none 0 0],true⟩,⟨bI,0,[.int .i64 n1,.slice A6 s2.length c7,.bool b3,.slice A_ k c_,.slice A5_ q c5_],true⟩] [⟨A_,c_,26,5,k,xs⟩,⟨A5_,c5_,65,2,q,ys⟩]) ys (u5.take q) dss) ∧ LInv bp 49 [⟨bG,0,[.int .i64 n1,.slice A6 s2.length c7,.bool b3,.slice A8 l4.length c9,.slice ap u5.length ar],true⟩,⟨bH,0,[.int .i64 0,.slice none 0 0,.bool false,.slice none 0 0,.slice none 0 0],true⟩,⟨bI,0,[.int .i64 n1,.slice A6 s2.length c7,.bool b3,.slice A_ k c_,.slice A5_ q c5_],true⟩] [⟨A_,c_,26,5,k,xs⟩,⟨A5_,c5_,65,2,q,ys⟩] [(2,.p 1 0),(3,.p 2 0),(31,.v (.slice ap u5.length ar)),(32,.v (.int .i64 ((u5.length:Nat):Int))),(33,.v (.int .i64 ((q:Nat):Int)))] a_ w_) (u5.length) ⟨0,none,0,[],[],by omega,by omega,Tags.nil _ _,cE.pk,bp,Fr.refl _ _ _⟩ ?_
 rintro eP eQ eR ⟨q,A5_,c5_,ys,dss,dL,dM,hU,cG,ak,aQ⟩
 refine qar [(2,.p 1 0),(3,.p 2 0),(31,.v (.slice ap u5.length ar)),(32,.v (.int .i64 ((u5.length:Nat):Int))),(33,.v (.int .i64 ((q:Nat):Int))),(34,.v (.bool (decide (((q:Nat):Int) < ((u5.length:Nat):Int)))))] ak cG fun eS aR=>?_
 refine wp_seq ?_
 refine qay aR (b:=decide (((q:Nat):Int) < ((u5.length:Nat):Int))) kz (fun aS=>?_) (fun aS=>?_)
 ·
  have dN:=of_decide_eq_true aS
  refine wp_skip ?_
  refine qab ?_
  refine wp_seq ?_
  refine wp_block ?_
  refine qag [0,1,2,3] kz ?_
  obtain ⟨dp,dq,cH,dO,aT⟩:=Slots.get dy (i:=q) (by omega)
  obtain ⟨⟨ab,ac⟩,bt⟩:∃ x,u5[q]? = some x:=⟨_,List.getElem?_eq_getElem (by omega)⟩
  obtain ⟨⟨al,am,bF,cI⟩,dr,dt⟩:=dW q ab ac bt
  rw [bF] at aT
  refine qam (qaC aR (t:=35) (A:=ap) (m:=u5.length) (q:=((q:Nat):Int)) (d:=35) kz (e:=68) (size:=2) (bytes:=32) kz cH rfl (by omega) fun eU cJ=>?_)
  refine qam (qaM cJ (t:=68) (b:=dp) (o:=dq + q * 2) (d:=36) kz (cs:=[.int .u32 ab,.slice al ac.length am]) (v:=.agg #[.int .u32 ab,.slice al ac.length am]) kz (AtF.move aT ak.step nilM qaX).at_ fun eV cK=>?_)
  refine qam (qaR ak cK (d:=7) (cs:=[.int .u32 0,.slice none 0 0]) kz fun eW eX eY dP dQ aU cL cM=>?_)
  refine qam (qav cL cM (oi:=3) (cs:=[.int .u32 ab,.slice al ac.length am]) kz fun eZ aV bu cN=>?_)
  refine qaf (qab ?_)
  refine qat [0,1,2,3,4,5,6,7,8,9,10] kz ?_
  refine qaj [0,1,2,3,4,5,6] [7,8,9,10] [(2,.p 1 0),(3,.p 2 0),(31,.v (.slice ap u5.length ar)),(32,.v (.int .i64 ((u5.length:Nat):Int))),(33,.v (.int .i64 ((q:Nat):Int))),(38,.v (.slice A5_ q c5_)),(43,.v (.agg #[.int .u32 ab,.slice al ac.length am]))] bu cN fun e9 cO=>?_
  refine qb1 bu cO (k:=1) (e:=65) (size:=2) (len:=1) (cs:=[.int .u32 ab,.slice al ac.length am]) (d1:=44) (d:=45) kz (t:=24) (bytes:=32) kz (fun _=>by kernel_rfl) rfl kz (by omega) fun ba bd fa fb aW bw ⟨_,cP⟩=>?_
  refine qaj [9] [10] [(2,.p 1 0),(3,.p 2 0),(31,.v (.slice ap u5.length ar)),(32,.v (.int .i64 ((u5.length:Nat):Int))),(33,.v (.int .i64 ((q:Nat):Int))),(45,.v (.slice ba (q + 1) bd)),(46,.p 2 4)] bw cP fun fe cQ=>?_
  refine qam (qav bw cQ (oi:=2) (cs:=[.int .i64 n1,.slice A6 s2.length c7,.bool b3,.slice A_ k c_,.slice ba (q + 1) bd]) kz fun ff aX bx cR=>?_)
  refine qaf ?_
  refine qaq ?_
  refine qab ?_
  refine qat [0,1] kz ?_
  refine qaj [0,1] [] [(2,.p 1 0),(3,.p 2 0),(31,.v (.slice ap u5.length ar)),(32,.v (.int .i64 ((u5.length:Nat):Int))),(33,.v (.int .i64 (IntKind.i64.wrap (((q:Nat):Int) + 1))))] bx cR fun fg cS=>?_
  refine qaf (qab ?_)
  obtain ⟨bz,aY,aZ⟩:=bx.cutB cS 3 [⟨bG,0,[.int .i64 n1,.slice A6 s2.length c7,.bool b3,.slice A8 l4.length c9,.slice ap u5.length ar],true⟩,⟨bH,0,[.int .i64 0,.slice none 0 0,.bool false,.slice none 0 0,.slice none 0 0],true⟩,⟨bI,0,[.int .i64 n1,.slice A6 s2.length c7,.bool b3,.slice A_ k c_,.slice ba (q + 1) bd],true⟩] [(2,.p 1 0),(3,.p 2 0),(31,.v (.slice ap u5.length ar)),(32,.v (.int .i64 ((u5.length:Nat):Int))),(33,.v (.int .i64 (IntKind.i64.wrap (((q:Nat):Int) + 1))))]
  have cT:IntKind.i64.wrap (((q:Nat):Int) + 1) = ((q + 1:Nat):Int):=qaN (by omega)
  rw [cT] at bz
  exact ⟨u5.length - (q + 1),by omega,q + 1,ba,bd,ys ++ [Value.int .u32 ab,.slice al ac.length am],(dss ++ [[Value.int .u32 ab,.slice al ac.length am]]),rfl,by omega,by rw [qcv bt]; exact (hU.move ((((aU.trans aV).trans aW).trans aX).trans aZ).step immM ((((aU.trans aV).trans aW).trans aX).trans aZ).to').snoc (c:=[.int .u32 ab,.slice al ac.length am]) (x:=(ab,ac)) ⟨⟨_,_,rfl,(cI.move aY.step nilM aY.imm)⟩,dr,dt⟩,bz.pk,aY,(((((aQ.trans aU).trans aV).trans aW).trans aX).trans aZ)⟩
 have dR:=of_decide_eq_false aS
 refine wp_exit ?_
 refine qaB ?_
 refine qaB ?_
 refine qaL ?_
 refine qab ?_
 refine qag [0,1] kz ?_
 refine qaj [0] [1] [(2,.p 1 0),(48,.v (.agg #[.int .i64 n1,.slice A6 s2.length c7,.bool b3,.slice A_ k c_,.slice A5_ q c5_]))] ak aR fun fh cU=>?_
 refine qam (qav ak cU (oi:=1) (cs:=[.int .i64 n1,.slice A6 s2.length c7,.bool b3,.slice A_ k c_,.slice A5_ q c5_]) kz fun fi av ao cV=>?_)
 refine qaf (qab ?_)
 refine wp_ret ?_
 refine qaJ cV ao.cells (v:=.agg #[.int .i64 n1,.slice A6 s2.length c7,.bool b3,.slice A_ k c_,.slice A5_ q c5_]) kz ?_
 have hq0:q = u5.length:=by omega
 have hT':=(hT.move ((bq.trans aQ).trans av).step immM ((bq.trans aQ).trans av).to')
 have hU':=(hU.move av.step immM av.to')
 rw [show l4.take k = l4 by rw [hk0,List.take_length]] at hT'
 rw [show u5.take q = u5 by rw [hq0,List.take_length]] at hU'
 exact qjz ao rfl (du.move ao.step nilM qko) hk0 (qgQ ao (k:=0) rfl hT' hk0 (by omega)) hq0 (qkn ao (k:=1) rfl hU' hq0 (by omega)) rfl
theorem lGot:∀ m,qlk m
 | 0=>fun ct t w F ht hd=>by
  obtain ⟨n,s,b,l,u,A1,c1,A2,c2,A3,c3,xs,rfl,_⟩:=ht.open_
  rw [qfZ] at hd; omega
 | m + 1=>qi5 (lGot m)
theorem qkF {u:List (Int × Bs)} {A:Option Addr} {c:Nat} {w:World} {F:Nat → Nat → Prop} (hu:TagsR w F A c u) (hsrt:qcu u):Calls Tryd.prog 34 #[.slice A u.length c] w (qbO w (.tuple #[])):=by
 obtain ⟨cs1,h2,h3⟩:=hu.ex
 have hsm4:=h2.small
 refine enter (n:=45) Tryd.func34 rfl Tryd.ntmps34 kz fun a hE=>?_
 have hW:=WOk.start w Nil
 refine qar [(0,.v (.slice A u.length c)),(5,.v (.int .i64 ((u.length:Nat):Int))),(6,.v (.int .i64 0))] hW hE fun a5 hE6=>?_
 refine wp_block ?_
 refine wp_loop_ghost (fun n_ a_ w_=>∃ (k:Nat),n_ = u.length - k ∧ k ≤ u.length ∧ LInv hW 45 [] [] [(0,.v (.slice A u.length c)),(5,.v (.int .i64 ((u.length:Nat):Int))),(6,.v (.int .i64 ((k:Nat):Int)))] a_ w_) (u.length) ⟨0,by omega,by omega,hE6.pk,hW,Fr.refl _ _ _⟩ ?_
 rintro n7 a8 w9 ⟨k,aW,aX,aB,ab,aj⟩
 refine qar [(0,.v (.slice A u.length c)),(5,.v (.int .i64 ((u.length:Nat):Int))),(6,.v (.int .i64 ((k:Nat):Int))),(7,.v (.bool (decide (((k:Nat):Int) < ((u.length:Nat):Int)))))] ab aB fun bo ah=>?_
 refine wp_seq ?_
 refine qay ah (b:=decide (((k:Nat):Int) < ((u.length:Nat):Int))) kz (fun ai=>?_) (fun ai=>?_)
 ·
  have aY:=of_decide_eq_true ai
  refine wp_skip ?_
  refine qab ?_
  refine wp_seq ?_
  refine wp_block ?_
  refine qar [(0,.v (.slice A u.length c)),(2,.v (.int .i64 ((k:Nat):Int))),(5,.v (.int .i64 ((u.length:Nat):Int))),(6,.v (.int .i64 ((k:Nat):Int)))] ab ah fun bp aC=>?_
  refine qar [(0,.v (.slice A u.length c)),(3,.v (.int .i64 ((k:Nat):Int))),(5,.v (.int .i64 ((u.length:Nat):Int))),(6,.v (.int .i64 ((k:Nat):Int)))] ab aC fun bq aD=>?_
  refine wp_block ?_
  refine qfz ?_
  refine wp_seq ?_
  refine qbD kz ab fun bt ak aa=>?_
  refine qaD [0,1,2] [(0,.v (.slice A u.length c)),(3,.v (.int .i64 ((k:Nat):Int))),(5,.v (.int .i64 ((u.length:Nat):Int))),(6,.v (.int .i64 ((k:Nat):Int))),(12,.v (.bool (decide (((k:Nat):Int) > 0))))] 13 (qaa (qaa (qaa (qac (qac (qaa (qaa (qac qad)))))))) (fun _ h=>h ▸ aa.cells) rfl aD fun bu al=>?_
  refine (Bool.eq_false_or_eq_true (decide (((k:Nat):Int) > 0))).elim (fun ac=>?_) (fun ac=>?_)
  ·
   have aZ:=of_decide_eq_true ac
   have aE:=al.cast (env':=[(0,.v (.slice A u.length c)),(3,.v (.int .i64 ((k:Nat):Int))),(5,.v (.int .i64 ((u.length:Nat):Int))),(6,.v (.int .i64 ((k:Nat):Int))),(12,.v (.bool true))]) (by rw [ac])
   refine qaD [3,4,8,9,10] [(0,.v (.slice A u.length c)),(3,.v (.int .i64 ((k:Nat):Int))),(5,.v (.int .i64 ((u.length:Nat):Int))),(6,.v (.int .i64 ((k:Nat):Int))),(12,.v (.bool true)),(13,.v (.slice A u.length c)),(14,.v (.int .i64 ((k:Nat):Int))),(18,.v (.slice A u.length c)),(20,.v (.int .i64 (IntKind.i64.wrap (((k:Nat):Int) - 1))))] 8 (qaa (qaa (qaa (qac (qac (qaa (qaa (qac qad)))))))) (fun _ h=>h ▸ aa.cells) rfl aE fun bw aF=>?_
   obtain ⟨az,aA,aG,ba,ae⟩:=Slots.get h2 (i:=k) (by omega)
   obtain ⟨⟨af,bd⟩,am⟩:∃ x,u[k]? = some x:=⟨_,List.getElem?_eq_getElem (by omega)⟩
   obtain ⟨⟨bx,bz,ao,bf⟩,bA,bB⟩:=h3 k af bd am
   rw [ao] at ae
   refine qaH aF (i:=5) (t:=35) (A:=A) (m:=u.length) (q:=((k:Nat):Int)) (d:=15) kz (e:=68) (size:=2) (bytes:=32) kz aG rfl (by omega) kz kz (qaa (qaa (qaa (qac (qac (qaa (qaa (qac qad)))))))) rfl fun bC aH=>?_
   refine qaD [6] [(0,.v (.slice A u.length c)),(3,.v (.int .i64 ((k:Nat):Int))),(5,.v (.int .i64 ((u.length:Nat):Int))),(6,.v (.int .i64 ((k:Nat):Int))),(12,.v (.bool true)),(16,.v (.pointer (some ⟨az,aA + k * 2,none⟩))),(18,.v (.slice A u.length c)),(20,.v (.int .i64 (IntKind.i64.wrap (((k:Nat):Int) - 1))))] 6 (qaa (qaa (qaa (qac (qac (qaa (qaa (qac qad)))))))) (fun _ h=>h ▸ aa.cells) rfl aH fun bD aI=>?_
   refine qaT aI (i:=7) (t:=63) (b:=az) (o:=aA + k * 2) (d:=17) kz (cs:=[.int .u32 af]) (v:=.int .u32 af) kz (fun w' h'=>h' ▸ (At.drop (AtF.move ae aa.step nilM qaX).at_ 0 1)) kz kz (qaa (qaa (qaa (qac (qac (qaa (qaa (qac qad)))))))) rfl fun bE aJ=>?_
   have aK:IntKind.i64.wrap (((k:Nat):Int) - 1) = (((k - 1):Nat):Int):=by simp only [qaK,qaA,qcc,IntKind.wrap_i64,IntKind.wrap_i32]; omega
   have aL:=EnvOk.pick aJ (ks:=[0,3,5,6,12,16,18,20,17]) (env':=[(0,.v (.slice A u.length c)),(3,.v (.int .i64 ((k:Nat):Int))),(5,.v (.int .i64 ((u.length:Nat):Int))),(6,.v (.int .i64 ((k:Nat):Int))),(12,.v (.bool true)),(16,.v (.pointer (some ⟨az,aA + k * 2,none⟩))),(18,.v (.slice A u.length c)),(20,.v (.int .i64 (IntKind.i64.wrap (((k:Nat):Int) - 1)))),(17,.v (.int .u32 af))]) kz
   have aM:=aL.cast (env':=[(0,.v (.slice A u.length c)),(3,.v (.int .i64 ((k:Nat):Int))),(5,.v (.int .i64 ((u.length:Nat):Int))),(6,.v (.int .i64 ((k:Nat):Int))),(12,.v (.bool true)),(16,.v (.pointer (some ⟨az,aA + k * 2,none⟩))),(18,.v (.slice A u.length c)),(20,.v (.int .i64 (((k - 1):Nat):Int))),(17,.v (.int .u32 af))]) (by rw [aK])
   obtain ⟨aU,aV,aN,bg,ag⟩:=Slots.get h2 (i:=(k - 1)) (by omega)
   obtain ⟨⟨ap,bh⟩,ar⟩:∃ x,u[(k - 1)]? = some x:=⟨_,List.getElem?_eq_getElem (by omega)⟩
   obtain ⟨⟨bF,bG,au,bj⟩,bH,bI⟩:=h3 (k - 1) ap bh ar
   rw [au] at ag
   refine qaH aM (i:=11) (t:=35) (A:=A) (m:=u.length) (q:=(((k - 1):Nat):Int)) (d:=21) kz (e:=68) (size:=2) (bytes:=32) kz aN rfl (by omega) kz kz (qaa (qaa (qaa (qac (qac (qaa (qaa (qac qad)))))))) rfl fun bJ aO=>?_
   refine qaD [12] [(0,.v (.slice A u.length c)),(3,.v (.int .i64 ((k:Nat):Int))),(5,.v (.int .i64 ((u.length:Nat):Int))),(6,.v (.int .i64 ((k:Nat):Int))),(12,.v (.bool true)),(17,.v (.int .u32 af)),(22,.v (.pointer (some ⟨aU,aV + (k - 1) * 2,none⟩)))] 3 (qaa (qaa (qaa (qac (qac (qaa (qaa (qac qad)))))))) (fun _ h=>h ▸ aa.cells) rfl aO fun bK aP=>?_
   refine qaT aP (i:=13) (t:=63) (b:=aU) (o:=aV + (k - 1) * 2) (d:=23) kz (cs:=[.int .u32 ap]) (v:=.int .u32 ap) kz (fun w' h'=>h' ▸ (At.drop (AtF.move ag aa.step nilM qaX).at_ 0 1)) kz kz (qaa (qaa (qaa (qac (qac (qaa (qaa (qac qad)))))))) rfl fun bL aQ=>?_
   refine qaD [14,15] [(0,.v (.slice A u.length c)),(3,.v (.int .i64 ((k:Nat):Int))),(5,.v (.int .i64 ((u.length:Nat):Int))),(6,.v (.int .i64 ((k:Nat):Int))),(25,.v (.bool (decide (af < ap))))] 0 (qaa (qaa (qaa (qac (qac (qaa (qaa (qac qad)))))))) (fun _ h=>h ▸ aa.cells) rfl aQ fun bM av=>?_
   refine qaF kz ?_ _
   refine qab ?_
   refine qap av (b:=decide (af < ap)) kz (decide_eq_false (qhR hsrt am ar (by omega))) ?_
   refine wp_exit ?_
   refine qaB ?_
   refine qaB ?_
   refine qaL ?_
   refine qaq ?_
   refine qab ?_
   refine qat [0,1] kz ?_
   refine qaj [0,1] [] [(0,.v (.slice A u.length c)),(5,.v (.int .i64 ((u.length:Nat):Int))),(6,.v (.int .i64 (IntKind.i64.wrap (((k:Nat):Int) + 1))))] aa av fun bN aw=>?_
   refine qaf (qab ?_)
   have aR:IntKind.i64.wrap (((k:Nat):Int) + 1) = ((k + 1:Nat):Int):=qaN (by omega)
   rw [aR] at aw
   exact ⟨u.length - (k + 1),by omega,k + 1,rfl,by omega,aw.pk,aa,(aj.trans ak)⟩
  have bk:=of_decide_eq_false ac
  have aS:=al.cast (env':=[(0,.v (.slice A u.length c)),(3,.v (.int .i64 ((k:Nat):Int))),(5,.v (.int .i64 ((u.length:Nat):Int))),(6,.v (.int .i64 ((k:Nat):Int))),(12,.v (.bool false))]) (by rw [ac])
  refine qaD [3,4,5,6,7,8,9,10,11,12,13,14,15] [(0,.v (.slice A u.length c)),(3,.v (.int .i64 ((k:Nat):Int))),(5,.v (.int .i64 ((u.length:Nat):Int))),(6,.v (.int .i64 ((k:Nat):Int))),(25,.v (.bool false))] 0 (qaa (qaa (qaa (qac (qac (qaa (qaa (qac qad)))))))) (fun _ h=>h ▸ aa.cells) rfl aS fun bO ax=>?_
  refine qaF kz ?_ _
  refine qab ?_
  refine qap ax (b:=false) kz rfl ?_
  refine wp_exit ?_
  refine qaB ?_
  refine qaB ?_
  refine qaL ?_
  refine qaq ?_
  refine qab ?_
  refine qat [0,1] kz ?_
  refine qaj [0,1] [] [(0,.v (.slice A u.length c)),(5,.v (.int .i64 ((u.length:Nat):Int))),(6,.v (.int .i64 (IntKind.i64.wrap (((k:Nat):Int) + 1))))] aa ax fun bP ay=>?_
  refine qaf (qab ?_)
  have aT:IntKind.i64.wrap (((k:Nat):Int) + 1) = ((k + 1:Nat):Int):=qaN (by omega)
  rw [aT] at ay
  exact ⟨u.length - (k + 1),by omega,k + 1,rfl,by omega,ay.pk,aa,(aj.trans ak)⟩
 have bn:=of_decide_eq_false ai
 refine wp_exit ?_
 refine qaB ?_
 refine qaB ?_
 refine qaL ?_
 refine qb4 ah ab.cells (v:=.tuple #[]) kz ?_
 exact ⟨rfl,ab.step⟩
theorem qhT (w:World) (F:Nat → Nat → Prop):Calls Tryd.prog 31 #[.bool true] w (qem w F (.mk 1 [] false [] [])):=by
 refine enter (n:=6) Tryd.func31 rfl Tryd.ntmps31 kz fun a hE=>?_
 have hW:=WOk.start w Nil
 refine qag [0] kz ?_
 refine qam (qaR hW hE (d:=2) (cs:=[.int .i64 0,.slice none 0 0,.bool false,.slice none 0 0,.slice none 0 0]) kz fun b1 a2 w3 hb4 hz5 hF6 hW7 hE8=>?_)
 refine qaf (qab ?_)
 refine wp_seq ?_
 refine qar [(2,.p 0 0),(3,.v (.bool true))] hW7 hE8 fun a9 aa=>?_
 refine qaU aa (b:=true) kz rfl ?_
 refine qag [0,1] kz ?_
 refine qaj [0] [1] [(2,.p 0 0),(4,.v (.agg #[.int .i64 1,.slice none 0 0,.bool false,.slice none 0 0,.slice none 0 0]))] hW7 aa fun ah ac=>?_
 refine qam (qav hW7 ac (oi:=0) (cs:=[.int .i64 1,.slice none 0 0,.bool false,.slice none 0 0,.slice none 0 0]) kz fun af ag ab ae=>?_)
 refine qaf (qab ?_)
 refine wp_ret ?_
 refine qao ?_
 refine qaJ ae ab.cells (v:=.agg #[.int .i64 1,.slice none 0 0,.bool false,.slice none 0 0,.slice none 0 0]) kz ?_
 exact ⟨_,rfl,(show TreeR _ (Imm F w af [⟨b1,0,[.int .i64 1,.slice none 0 0,.bool false,.slice none 0 0,.slice none 0 0],true⟩] []) _ (Tree.mk 1 [] false [] []) from (TreeR.mk (n:=1) (b:=false) (s:=[]) (l:=[]) (u:=[]) (fun _=>[]) (Octs.nil _ _) (Slots.nil _ _ _ _) (fun i_ x_ h_=>by simp at h_) (TagsR.nil _ _))).move (Step.refl _ Nil) nilM qb9,ab.step⟩
theorem qgF (w:World) (F:Nat → Nat → Prop):Calls Tryd.prog 31 #[.bool false] w (qem w F (.mk 0 [] false [] [])):=by
 refine enter (n:=6) Tryd.func31 rfl Tryd.ntmps31 kz fun a hE=>?_
 have hW:=WOk.start w Nil
 refine qag [0] kz ?_
 refine qam (qaR hW hE (d:=2) (cs:=[.int .i64 0,.slice none 0 0,.bool false,.slice none 0 0,.slice none 0 0]) kz fun b1 a2 w3 hb4 hz5 hF6 hW7 hE8=>?_)
 refine qaf (qab ?_)
 refine wp_seq ?_
 refine qar [(2,.p 0 0),(3,.v (.bool false))] hW7 hE8 fun a9 aa=>?_
 refine qap aa (b:=false) kz rfl ?_
 refine wp_skip ?_
 refine qab ?_
 refine qag [0,1] kz ?_
 refine qaj [0] [1] [(2,.p 0 0),(5,.v (.agg #[.int .i64 0,.slice none 0 0,.bool false,.slice none 0 0,.slice none 0 0]))] hW7 aa fun ah ac=>?_
 refine qam (qav hW7 ac (oi:=0) (cs:=[.int .i64 0,.slice none 0 0,.bool false,.slice none 0 0,.slice none 0 0]) kz fun af ag ab ae=>?_)
 refine qaf (qab ?_)
 refine wp_ret ?_
 refine qaJ ae ab.cells (v:=.agg #[.int .i64 0,.slice none 0 0,.bool false,.slice none 0 0,.slice none 0 0]) kz ?_
 exact ⟨_,rfl,(show TreeR _ (Imm F w af [⟨b1,0,[.int .i64 0,.slice none 0 0,.bool false,.slice none 0 0,.slice none 0 0],true⟩] []) _ (Tree.mk 0 [] false [] []) from (TreeR.mk (n:=0) (b:=false) (s:=[]) (l:=[]) (u:=[]) (fun _=>[]) (Octs.nil _ _) (Slots.nil _ _ _ _) (fun i_ x_ h_=>by simp at h_) (TagsR.nil _ _))).move (Step.refl _ Nil) nilM qb9,ab.step⟩
theorem qll (b:Bool) (w:World) (F:Nat → Nat → Prop):Calls Tryd.prog 31 #[.bool b] w (qem w F (qhQ b)):=by
 cases b
 ·exact qgF w F
 exact qhT w F
theorem qcB:qi2 Tryd.prog 33 68:=by
 intro w B cp c n k A Av x x0 x1 x2 x3 xs G hbx ho hG hn
 refine enter (n:=14) Tryd.func33 rfl Tryd.ntmps33 kz fun a hE=>?_
 have hW:=hbx.wok
 have hE0:=(hE.grow ⟨B,0,[x0,x1,x2,x3,.slice A n cp],true⟩).recast 2 (.v (.pointer (some ⟨B,0,none⟩))) (.p 0 0) rfl rfl (by simp [SV.ok])
 have hsm:=Slots.small ho
 have ap:=hE0.pk (env':=[(0,.v (.int .u32 k)),(1,.v (.slice Av x.length c)),(2,.p 0 0)])
 refine qdd 9 kz hW fun w1 hF2 hW3 hT4=>?_
 refine qaD [0,1,2,3] [(2,.p 0 0),(6,.v (.slice A n cp)),(7,.v (.int .u32 k)),(8,.v (.slice Av x.length c))] 6 qad (fun _ h=>h.cells) hT4 ap fun a5 hE6=>?_
 have hW7:=hW3.addNil 5 1
 have hF8:=hW3.frNil 5 1
 refine qaw (i:=4) kz (qaO hW7 hE6 (k:=1) (d:=9) (t:=22) (e:=5) (size:=1) (bytes:=1) (A:=none) (As:=Av) (m0:=0) (c:=0) (m:=x.length) (cs:=c) (xs:=[]) (news:=bc x) kz kz rfl (ho.move hW7.step (fun b o h _=>hG b o h) qaX).src (ho.move hW7.step (fun b o h _=>hG b o h) qaX).cap (by first | omega | (simp only [List.length_nil]; omega) | (simp; omega)) fun A9 aa aK aL ac ar au=>?_)
 have av:(⟨A9,aa,5,1,0 + x.length,[] ++ bc x⟩:Rw) = brow A9 aa 5 x:=by rw [List.nil_append,Nat.zero_add]
 obtain ⟨af,ae⟩:=ar.rowEq 1 [⟨A,cp,68,2,n,xs⟩,brow A9 aa 5 x] av
 have aw:=EnvOk.pick au (ks:=[2,6,7,8,9]) (env':=[(2,.p 0 0),(6,.v (.slice A n cp)),(7,.v (.int .u32 k)),(8,.v (.slice Av x.length c)),(9,.v (.slice A9 (0 + x.length) aa))]) kz
 have ax:=aw.cast (env':=[(2,.p 0 0),(6,.v (.slice A n cp)),(7,.v (.int .u32 k)),(8,.v (.slice Av x.length c)),(9,.v (.slice A9 x.length aa))]) (by simp only [List.length_append,List.length_cons,List.length_nil,Nat.zero_add])
 have ag:=TT.ofW ((hF8.trans ac).trans ae) af
 refine ⟨fun _=>ag,?_⟩
 refine qaD [5] [(2,.p 0 0),(6,.v (.slice A n cp)),(10,.v (.agg #[.int .u32 k,.slice A9 x.length aa]))] 4 qad (fun _ h=>h.cells) ag ax fun aM ay=>?_
 refine qaw (i:=6) kz (qbw af ay (e:=68) (size:=2) (len:=1) (cs:=[.int .u32 k,.slice A9 x.length aa]) (d:=11) kz kz fun aF aN aO aG aH ah ab az=>?_)
 have aA:=TT.ofW (((hF8.trans ac).trans ae).trans ah) ab
 refine ⟨fun _=>aA,?_⟩
 refine qaw (i:=7) kz (qaO ab az (k:=0) (d:=12) (t:=35) (e:=68) (size:=2) (bytes:=32) (A:=A) (As:=(some ⟨aF,0,none⟩)) (m0:=n) (c:=cp) (m:=1) (cs:=1) (xs:=xs) (news:=[.int .u32 k,.slice A9 x.length aa]) kz kz rfl (qbo (ab.own 2 _ rfl) (qby kz)) (qbA (ab.own 2 _ rfl)) (by first | omega | (simp only [List.length_nil]; omega) | (simp; omega)) fun am ao aP aQ aB ai aC=>?_)
 have aj:=TT.ofW ((((hF8.trans ac).trans ae).trans ah).trans aB) ai
 refine ⟨fun _=>aj,?_⟩
 refine qaD [8] [(12,.v (.slice am (n + 1) ao)),(13,.p 0 4)] 1 qad (fun _ h=>h.cells) aj aC fun aR aD=>?_
 refine qaw (i:=9) kz (qav ai aD (oi:=0) (cs:=[x0,x1,x2,x3,.slice am (n + 1) ao]) kz fun aS aI ak aE=>?_)
 refine ⟨fun h=>absurd rfl h,?_⟩
 refine qaF kz ?_ _
 refine qb4 aE ak.cells (v:=.tuple #[]) kz ?_
 obtain ⟨al,aJ⟩:=ak.cutR 2 [⟨am,ao,68,2,n + 1,xs ++ [.int .u32 k,.slice A9 x.length aa]⟩,brow A9 aa 5 x]
 have hoo:=qi3 (s:=x) (Av:=A9) (c:=aa) (e8:=5) rfl al (by omega)
 obtain ⟨hb1,hb2,hb3⟩:=qkE al (World.lt_of_cell (hbx.str.at_ 0 _ rfl))
 exact ⟨rfl,am,ao,A9,aa,hb1,hoo,hb2,hb3⟩
theorem n8w (x:Int):IntKind.i8.wrap x = (x + 128) % 256 - 128:=by simp [IntKind.wrap,IntKind.signed,IntKind.bits]; omega
theorem n16w (x:Int):IntKind.i16.wrap x = (x + 32768) % 65536 - 32768:=by simp [IntKind.wrap,IntKind.signed,IntKind.bits]; omega
theorem n32w (x:Int):IntKind.i32.wrap x = (x + 2147483648) % 4294967296 - 2147483648:=by simp [IntKind.wrap,IntKind.signed,IntKind.bits]; omega
theorem n64w (x:Int):IntKind.i64.wrap x = (x + 9223372036854775808) % 18446744073709551616 - 9223372036854775808:=by simp [IntKind.wrap,IntKind.signed,IntKind.bits]; omega
theorem qhU (x:Int):IntKind.i64.wrap (IntKind.i8.wrap x) = IntKind.i8.wrap x:=by rw [n64w,n8w]; omega
theorem qfg (x:Int):IntKind.i64.wrap (IntKind.i16.wrap x) = IntKind.i16.wrap x:=by rw [n64w,n16w]; omega
theorem qeW (x:Int):IntKind.i64.wrap (IntKind.i32.wrap x) = IntKind.i32.wrap x:=by rw [n64w,n32w]; omega
theorem qel (x:Int):IntKind.i64.wrap (IntKind.u16.wrap x) = IntKind.u16.wrap x:=by rw [n64w,qcc]; omega
def qbd (k n:Int):Int:=if k = 0 then n % 2 else if k = 1 then IntKind.i8.wrap n else if k = 2 then IntKind.i16.wrap n else if k = 3 then IntKind.i32.wrap n else if k = 5 then IntKind.u16.wrap n else n
structure UsQ (U:List Fld → Tree → Prop) (k x1 x2 x3 x4 x5 x6:Int) (sub:List Fld) (n:Int) (s:Bs) (b:Bool) (l:List Tree) (u:List (Int × Bs)):Prop where
 text:k = 8 → b = decide (x3 ≥ 0) ∧ s = []
 uuid:k = 7 → s = List.replicate 16 0
 octs:k = 9 ∨ k = 11 → s = [] ∧ l = []
 part:k = 10 → (x3 ≥ 0 → b = true) ∧ (x3 < 0 → U sub (.mk n s b l u))
 num:k ≠ 7 → k ≠ 8 → k ≠ 9 → k ≠ 10 → k ≠ 11 → n = qbd k x5
def UsF (U:List Fld → Tree → Prop):Fld → Tree → Prop
 | .mk k x1 x2 x3 x4 x5 x6 sub,.mk n s b l u=>UsQ U k x1 x2 x3 x4 x5 x6 sub n s b l u
def UsP (U:List Fld → Tree → Prop) (l:List Fld) (g:Tree):Prop:=g.U = [] ∧ ∀ (i:Nat) (f:Fld),l[i]? = some f → UsF U f (g.at_ i)
def qi6:Nat → List Fld → Tree → Prop
 | 0=>UsP fun _ _=>False
 | d + 1=>UsP (qi6 d)
structure ToQ (T:List Fld → Tree → Tree → Prop) (v:Int) (f:Fld) (k x3:Int) (sub:List Fld) (t:Tree) (tn:Int) (ts:Bs) (n:Int) (s:Bs) (b:Bool) (g:Tree):Prop where
 null:k = 8 ∨ k = 10 ∨ (x3 ≥ 0 ∧ v ≥ x3) → b = f.nul v t
 text:f.nul v t = false → k = 8 ∨ k = 9 → s = qaE ts
 uuid:f.nul v t = false → k = 7 → s = qbb ts
 part:f.nul v t = false → k = 10 → T sub t g
 num:f.nul v t = false → k ≠ 7 → k ≠ 8 → k ≠ 9 → k ≠ 10 → k ≠ 11 → n = qbd k tn
def ToF0 (T:List Fld → Tree → Tree → Prop) (v:Int):Fld → Tree → Tree → Prop
 | .mk k x1 x2 x3 x4 x5 x6 sub,.mk tn ts tb tl tu,.mk n s b l u=>ToQ T v (.mk k x1 x2 x3 x4 x5 x6 sub) k x3 sub (.mk tn ts tb tl tu) tn ts n s b (.mk n s b l u)
def ToF (T:List Fld → Tree → Tree → Prop) (v:Int) (f:Fld) (t g:Tree):Prop :=
 ToF0 T v f t g ∧ (f.kind = 11 → f.nul v t = false → g.L.length = (qan t.L).length ∧ ∀ (i:Nat) (x y:Tree),(qan t.L)[i]? = some x → g.L[i]? = some y → ToF0 T v f.elem x y)
def Fld.pres (f:Fld) (v:Int) (flex:Bool) (x:Tree):Bool:=(decide (f.tag < 0) && f.has v) || (decide (f.tag ≥ 0) && (flex && !f.usual x))
def ToP (T:List Fld → Tree → Tree → Prop) (U:List Fld → Tree → Prop) (l:List Fld) (v:Int) (flex:Bool) (t g:Tree):Prop :=
 g.L.length = l.length ∧ (∀ (i:Nat) (f:Fld) (y:Tree),l[i]? = some f → g.L[i]? = some y → (f.pres v flex (t.at_ i) = true → ToF T v f (t.at_ i) y) ∧ (f.pres v flex (t.at_ i) = false → UsF U f y)) ∧
  g.U = (if flex = true then qb5 (qai l t.U) else [])
def qjL (v:Int) (flex:Bool):Nat → List Fld → Tree → Tree → Prop
 | 0=>fun l t g=>ToP (fun _ _ _=>False) (fun _ _=>False) l v flex t g
 | d + 1=>fun l t g=>ToP (qjL v flex d) (qi6 d) l v flex t g
theorem qj3 {U:List Fld → Tree → Prop} {f:Fld} {y:Tree} (h:UsF U f y):UsP U [f] (.mk 0 [] false [y] []):=by
 refine ⟨rfl,fun i g hg=>?_⟩
 cases i with
 | zero =>
  simp only [List.getElem?_cons_zero,Option.some.injEq] at hg
  subst hg
  exact h
 | succ i=>simp at hg
theorem qi7 {w:World} {e:Nat} {A:Option Addr} {c:Nat} {F:Nat → Nat → Prop} (h:w.ownsRow 0 e 1 (.slice A 16 c) 16 (List.replicate 16 (.int .u8 0))) (hF:∀ g,A.map (·.block) = some g → ∀ o,F g o):Octs w F A c (List.replicate 16 0) :=
 qbU (s:=List.replicate 16 0) h (by decide) hF
section
variable {U:List Fld → Tree → Prop} {k x1 x2 x3 x4 x5 x6 n:Int} {sub:List Fld} {s:Bs} {b:Bool} {l:List Tree} {u:List (Int × Bs)}
abbrev UsH (U:List Fld → Tree → Prop) (k x1 x2 x3 x4 x5 x6:Int) (sub:List Fld) (n:Int) (s:Bs) (b:Bool) (l:List Tree) (u:List (Int × Bs)):Prop:=UsF U (.mk k x1 x2 x3 x4 x5 x6 sub) (.mk n s b l u)
theorem us_q (h:UsH U k x1 x2 x3 x4 x5 x6 sub n s b l u):UsQ U k x1 x2 x3 x4 x5 x6 sub n s b l u:=h
theorem qfA (h:UsH U k x1 x2 x3 x4 x5 x6 sub n s b l u) (hk:k = 8) (hc:(b != decide (x3 ≥ 0)) = true):False:=by
 have:=((us_q h).text hk).1
 rw [this] at hc; simp at hc
theorem qfB (h:UsH U k x1 x2 x3 x4 x5 x6 sub n s b l u) (hk:k = 8) (hc:((s.length:Nat):Int) > 0):False:=by
 have:=((us_q h).text hk).2
 rw [this] at hc; simp at hc
theorem us_7 (h:UsH U k x1 x2 x3 x4 x5 x6 sub n s b l u) (hk:k = 7) (hc:(!decide (s = (List.replicate 16 0:Bs))) = true):False:=by
 have:=(us_q h).uuid hk
 rw [this] at hc; simp at hc
theorem qfC (h:UsH U k x1 x2 x3 x4 x5 x6 sub n s b l u) (hk:k = 9) (hc:((s.length:Nat):Int) > 0):False:=by
 have:=((us_q h).octs (.inl hk)).1
 rw [this] at hc; simp at hc
theorem qfD (h:UsH U k x1 x2 x3 x4 x5 x6 sub n s b l u) (hk:k = 9) (hc:((l.length:Nat):Int) > 0):False:=by
 have:=((us_q h).octs (.inl hk)).2
 rw [this] at hc; simp at hc
theorem qd5 (h:UsH U k x1 x2 x3 x4 x5 x6 sub n s b l u) (hk:k = 11) (hc:((s.length:Nat):Int) > 0):False:=by
 have:=((us_q h).octs (.inr hk)).1
 rw [this] at hc; simp at hc
theorem qd6 (h:UsH U k x1 x2 x3 x4 x5 x6 sub n s b l u) (hk:k = 11) (hc:((l.length:Nat):Int) > 0):False:=by
 have:=((us_q h).octs (.inr hk)).2
 rw [this] at hc; simp at hc
theorem qfE (h:UsH U k x1 x2 x3 x4 x5 x6 sub n s b l u) (hk:k = 10) (h3:x3 ≥ 0) (hc:(!b) = true):False:=by
 have:=((us_q h).part hk).1 h3
 rw [this] at hc; simp at hc
theorem qj4 (h:UsH U k x1 x2 x3 x4 x5 x6 sub n s b l u) (hk:k = 10) (h3:x3 < 0):U sub (.mk n s b l u):=((us_q h).part hk).2 h3
theorem us_n (h:UsH U k x1 x2 x3 x4 x5 x6 sub n s b l u) (h7:k ≠ 7) (h8:k ≠ 8) (h9:k ≠ 9) (h10:k ≠ 10) (h11:k ≠ 11) (hc:n ≠ qbd k x5):False:=hc ((us_q h).num h7 h8 h9 h10 h11)
theorem us_u {g:Tree} (h:g.U = []) {u:List (Int × Bs)} (e:g.U = u) (hc:((u.length:Nat):Int) > 0):False:=by
 rw [← e,h] at hc; simp at hc
end
section
variable {T:List Fld → Tree → Tree → Prop} {v k x1 x2 x3 x4 x5 x6 tn n:Int} {sub:List Fld} {ts s:Bs} {tb b:Bool} {tl l:List Tree} {tu u:List (Int × Bs)}
abbrev ToH (T:List Fld → Tree → Tree → Prop) (v k x1 x2 x3 x4 x5 x6:Int) (sub:List Fld) (tn:Int) (ts:Bs) (tb:Bool) (tl:List Tree) (tu:List (Int × Bs)) (n:Int) (s:Bs) (b:Bool) (l:List Tree) (u:List (Int × Bs)):Prop:=ToF0 T v (.mk k x1 x2 x3 x4 x5 x6 sub) (.mk tn ts tb tl tu) (.mk n s b l u)
abbrev NulH (v k x1 x2 x3 x4 x5 x6:Int) (sub:List Fld) (tn:Int) (ts:Bs) (tb:Bool) (tl:List Tree) (tu:List (Int × Bs)):Bool:=Fld.nul (.mk k x1 x2 x3 x4 x5 x6 sub) v (.mk tn ts tb tl tu)
theorem to_q (h:ToH T v k x1 x2 x3 x4 x5 x6 sub tn ts tb tl tu n s b l u):ToQ T v (.mk k x1 x2 x3 x4 x5 x6 sub) k x3 sub (.mk tn ts tb tl tu) tn ts n s b (.mk n s b l u):=h
theorem qi8 (h:ToH T v k x1 x2 x3 x4 x5 x6 sub tn ts tb tl tu n s b l u) (hk:k = 8) (hc:(b != NulH v k x1 x2 x3 x4 x5 x6 sub tn ts tb tl tu) = true):False:=by
 rw [(to_q h).null (.inl hk)] at hc; simp at hc
theorem qgi (h:ToH T v k x1 x2 x3 x4 x5 x6 sub tn ts tb tl tu n s b l u) (hk:k = 10) (hc:(b != NulH v k x1 x2 x3 x4 x5 x6 sub tn ts tb tl tu) = true):False:=by
 rw [(to_q h).null (.inr (.inl hk))] at hc; simp at hc
theorem qfF (h:ToH T v k x1 x2 x3 x4 x5 x6 sub tn ts tb tl tu n s b l u) (h1:x3 ≥ 0) (h2:v ≥ x3) (hc:(b != NulH v k x1 x2 x3 x4 x5 x6 sub tn ts tb tl tu) = true):False:=by
 rw [(to_q h).null (.inr (.inr ⟨h1,h2⟩))] at hc; simp at hc
theorem qi9 (h:ToH T v k x1 x2 x3 x4 x5 x6 sub tn ts tb tl tu n s b l u) (hn:NulH v k x1 x2 x3 x4 x5 x6 sub tn ts tb tl tu = false) (hk:k = 10):T sub (.mk tn ts tb tl tu) (.mk n s b l u):=(to_q h).part hn hk
theorem qdQ (h:ToH T v k x1 x2 x3 x4 x5 x6 sub tn ts tb tl tu n s b l u) (hn:NulH v k x1 x2 x3 x4 x5 x6 sub tn ts tb tl tu = false) (hk:k = 8):decide (s = qaE ts) = true:=decide_eq_true ((to_q h).text hn (.inl hk))
theorem qdR (h:ToH T v k x1 x2 x3 x4 x5 x6 sub tn ts tb tl tu n s b l u) (hn:NulH v k x1 x2 x3 x4 x5 x6 sub tn ts tb tl tu = false) (hk:k = 9):decide (s = qaE ts) = true:=decide_eq_true ((to_q h).text hn (.inr hk))
theorem to_u (h:ToH T v k x1 x2 x3 x4 x5 x6 sub tn ts tb tl tu n s b l u) (hn:NulH v k x1 x2 x3 x4 x5 x6 sub tn ts tb tl tu = false) (hk:k = 7):decide (s = qbb ts) = true:=decide_eq_true ((to_q h).uuid hn hk)
theorem to_m (h:ToH T v k x1 x2 x3 x4 x5 x6 sub tn ts tb tl tu n s b l u) (hn:NulH v k x1 x2 x3 x4 x5 x6 sub tn ts tb tl tu = false) (h8:k ≠ 8) (h9:k ≠ 9) (h7:k ≠ 7) (h10:k ≠ 10) (h11:k ≠ 11):(n == qbd k tn) = true:=by
 rw [(to_q h).num hn h7 h8 h9 h10 h11]; simp
theorem qhc {a c:Nat} (h:a = c) (hc:((a:Nat):Int) ≠ ((c:Nat):Int)):False:=hc (by rw [h])
end
theorem qd7 {P:Program} {ops:Array Oper} {Q:Exit → Act → World → Prop} {a:Act} {w:World} {T:World → Prop} {c i j fuel:Nat} {listed:Array Bool} (hr:Region.ready .any ops listed = [i,j]) (h:wpOp P ops Q i (fun a' w'=>(i ≠ c → T w') ∧ qbp P ops Q T c fuel (listed.setIfInBounds i true) a' w') a w)
  (h':wpOp P ops Q j (fun a' w'=>(j ≠ c → T w') ∧ qbp P ops Q T c fuel (listed.setIfInBounds j true) a' w') a w):qbp P ops Q T c (fuel + 1) listed a w:=by
 refine ⟨fun h0=>(by rw [hr] at h0; cases h0),fun q hq=>?_⟩
 rw [hr] at hq
 simp only [List.mem_cons,List.not_mem_nil,or_false] at hq
 rcases hq with rfl | rfl
 ·exact h
 exact h'
theorem qlm {k x1 x2 x3 x4 x5 x6 v:Int} {sub:List Fld} {flex:Bool} {x:Tree} (h:x4 < 0) (h2:Fld.has (.mk k x1 x2 x3 x4 x5 x6 sub) v = true):Fld.pres (.mk k x1 x2 x3 x4 x5 x6 sub) v flex x = true:=by
 simp [Fld.pres,Fld.tag,h,h2]
theorem qln {k x1 x2 x3 x4 x5 x6 v:Int} {sub:List Fld} {flex:Bool} {x:Tree} (h:x4 ≥ 0) (h2:flex = true) (h3:(!Fld.usual (.mk k x1 x2 x3 x4 x5 x6 sub) x) = true):Fld.pres (.mk k x1 x2 x3 x4 x5 x6 sub) v flex x = true:=by
 subst h2
 simp only [Bool.not_eq_true'] at h3
 simp [Fld.pres,Fld.tag,h,h3]
theorem qhd {k x1 x2 x3 x4 x5 x6 v:Int} {sub:List Fld} {flex:Bool} {x:Tree} (h:x4 < 0) (h2:Fld.has (.mk k x1 x2 x3 x4 x5 x6 sub) v = false):Fld.pres (.mk k x1 x2 x3 x4 x5 x6 sub) v flex x = false:=by
 have:¬ x4 ≥ 0:=by omega
 simp [Fld.pres,Fld.tag,h2,this]
theorem qhe {k x1 x2 x3 x4 x5 x6 v:Int} {sub:List Fld} {flex:Bool} {x:Tree} (h:¬ x4 < 0) (h2:flex = false):Fld.pres (.mk k x1 x2 x3 x4 x5 x6 sub) v flex x = false:=by
 subst h2
 simp [Fld.pres,Fld.tag,h]
theorem qhf {k x1 x2 x3 x4 x5 x6 v:Int} {sub:List Fld} {flex:Bool} {x:Tree} (h:¬ x4 < 0) (h3:(!Fld.usual (.mk k x1 x2 x3 x4 x5 x6 sub) x) = false):Fld.pres (.mk k x1 x2 x3 x4 x5 x6 sub) v flex x = false:=by
 simp only [Bool.not_eq_false'] at h3
 simp [Fld.pres,Fld.tag,h,h3]
theorem qj5 {k x1 x2 x3 x4 x5 x6 v:Int} {sub:List Fld} {flex:Bool} {x:Tree} (h:¬ x4 < 0) (h2:flex = true):Fld.pres (.mk k x1 x2 x3 x4 x5 x6 sub) v flex x = !Fld.usual (.mk k x1 x2 x3 x4 x5 x6 sub) x:=by
 subst h2
 have:x4 ≥ 0:=by omega
 simp [Fld.pres,Fld.tag,h,this]
theorem qj6 {k x1 x2 x3 x4 x5 x6 v:Int} {sub:List Fld} {flex:Bool} {x:Tree} (h:x4 < 0):Fld.pres (.mk k x1 x2 x3 x4 x5 x6 sub) v flex x = Fld.has (.mk k x1 x2 x3 x4 x5 x6 sub) v:=by
 have:¬ x4 ≥ 0:=by omega
 simp [Fld.pres,Fld.tag,h,this]
section
variable {w:World} {F:Nat → Nat → Prop}
theorem qj7 {e size b c:Nat} {xs:List Value} {n:Nat} (h:w.ownsRow 0 e size (.slice (some ⟨b,0,none⟩) n c) n xs):AtF w (fun _ _=>True) b 0 xs:=fun j v hj=>⟨trivial,by
 have:=h.cells (g:=b) rfl j v hj
 rw [qbm] at this
 exact this⟩
theorem qhg {e b c:Nat} {cf:List Value} {f:Fld} (h:w.ownsRow 0 e 8 (.slice (some ⟨b,0,none⟩) 1 c) 1 cf) (hf:FldR w F cf f) (hc:1 ≤ c):FldsR w (fun _ _=>True) (some ⟨b,0,none⟩) c [f]:=by
 refine ⟨fun _=>cf,⟨hc,(by show 1 ≤ 1099511627776; decide),fun h=>(by cases h),fun ad hA _=>?_⟩,fun i x hx=>?_⟩
 ·obtain rfl:=Option.some.inj hA
  refine ⟨b,0,rfl,fun i hi=>⟨hf.eight,?_⟩⟩
  have:i = 0:=by simp at hi; omega
  subst this
  simpa using qj7 h
 cases i with
 | zero =>
  simp only [List.getElem?_cons_zero,Option.some.injEq] at hx
  subst hx
  exact hf.move (Step.refl _ Nil) nilM fun _ _ _ _=>trivial
 | succ i=>simp at hx
theorem qhh {e b c:Nat} {cy:List Value} {y:Tree} (h:w.ownsRow 0 e 5 (.slice (some ⟨b,0,none⟩) 1 c) 1 cy) (hy:TreeR w F cy y) (hc:1 ≤ c):TreeR w (fun _ _=>True) [.int .i64 0,.slice none 0 0,.bool false,.slice (some ⟨b,0,none⟩) 1 c,.slice none 0 0] (.mk 0 [] false [y] []):=by
 refine TreeR.mk (l:=[y]) (s:=[]) (u:=[]) (fun _=>cy) (Octs.nil _ _) ⟨hc,(by show 1 ≤ 1099511627776; decide),fun h=>(by cases h),fun ad hA _=>?_⟩ (fun i x hx=>?_) (TagsR.nil _ _)
 ·obtain rfl:=Option.some.inj hA
  refine ⟨b,0,rfl,fun i hi=>⟨hy.five,?_⟩⟩
  have:i = 0:=by simp at hi; omega
  subst this
  simpa using qj7 h
 cases i with
 | zero =>
  simp only [List.getElem?_cons_zero,Option.some.injEq] at hx
  subst hx
  exact hy.move (Step.refl _ Nil) nilM fun _ _ _ _=>trivial
 | succ i=>simp at hx
end
section
variable {gu tu:List (Int × Bs)} {l:List Fld} {flex:Bool} {i:Nat} {k k':Int} {s s':Bs}
theorem qd8 (h:gu = if flex = true then qb5 (qai l tu) else []) (hf:(!flex) = false) (hc:((gu.length:Nat):Int) ≠ (((qai l tu).length:Nat):Int)):False:=by
 cases flex
 ·cases hf
 rw [if_pos rfl] at h
 rw [h,qdq] at hc
 exact hc rfl
theorem qc9 (h:gu = if flex = true then qb5 (qai l tu) else []) (hf:(!flex) = true) (hc:((gu.length:Nat):Int) ≠ 0):False:=by
 cases flex
 ·rw [if_neg (by decide)] at h
  rw [h] at hc
  exact hc rfl
 cases hf
theorem qja (h:gu = if flex = true then qb5 (qai l tu) else []) (hf:(!flex) = false) (hu:(qai l tu)[i]? = some (k,s)) (hg:gu[i]? = some (k',s')):k' = k ∧ s' = qaE s:=by
 cases flex
 ·cases hf
 rw [if_pos rfl] at h
 rw [h,qhE hu] at hg
 have:=Option.some.inj hg
 exact ⟨(Prod.mk.injEq .. ▸ this).1.symm,(Prod.mk.injEq .. ▸ this).2.symm⟩
theorem qd9 (h:gu = if flex = true then qb5 (qai l tu) else []) (hf:(!flex) = false) (hu:(qai l tu)[i]? = some (k,s)) (hg:gu[i]? = some (k',s')) (hc:k' ≠ k):False:=hc (qja h hf hu hg).1
theorem qea (h:gu = if flex = true then qb5 (qai l tu) else []) (hf:(!flex) = false) (hu:(qai l tu)[i]? = some (k,s)) (hg:gu[i]? = some (k',s')) (hc:(!decide (s' = qaE s)) = true):False:=by
 rw [(qja h hf hu hg).2] at hc; simp at hc
theorem qb0 (h:gu = if flex = true then qb5 (qai l tu) else []) (hf:(!flex) = false):gu.length = (qai l tu).length:=by
 cases flex
 ·cases hf
 rw [if_pos rfl] at h
 rw [h,qdq]
end
end Go.Proofs.YtdlaobdadlmcdabDoor.ME