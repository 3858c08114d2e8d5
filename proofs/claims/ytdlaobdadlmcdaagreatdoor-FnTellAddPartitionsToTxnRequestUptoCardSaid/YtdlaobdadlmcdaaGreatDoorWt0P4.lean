/- The texts of a claim, put together: the engine, the contracts, the law. Own work. -/
import Derived.Test.YtdlaobdadlmcdaaGreatDoorWt0P3
import Derived.Lib.ConvBytes
namespace Go.Proofs.YtdlaobdadlmcdaaGreatDoor.ME
open Go
open Go.RowKit
set_option linter.unusedVariables false
set_option linter.unusedSimpArgs false
set_option maxRecDepth 20000
def qaN (v:Int) (T:Tree):Bs:=(if (decide (v ≥ 3)) = true then (uv ((T.at_ 0).S.length + 1) ++ (T.at_ 0).S) else (be 2 (T.at_ 0).S.length ++ (T.at_ 0).S)) ++ (((if (decide (v ≥ 3)) = true then (uv ((lst (T.at_ 1)).length + 1)) else (be 4 (lst (T.at_ 1)).length)) ++ ((lst (T.at_ 1)).flatMap (fun E=>be 4 (IntKind.i32.wrap E.N)))) ++ (if (decide (v ≥ 3)) = true then (uv T.U.length) ++ (qct T.U) else []))
theorem qbY (v:Int) (T:Tree):0 < (qaN v T).length:=qgy (qjK (qgy (qkd _)) (qgy (qfN (by decide))))
def qaF (v:Int) (T:Tree):Bs:=(if (decide (v ≥ 3)) = true then (uv ((T.at_ 0).S.length + 1) ++ (T.at_ 0).S) else (be 2 (T.at_ 0).S.length ++ (T.at_ 0).S)) ++ (((if (decide (v ≥ 3)) = true then (uv ((lst (T.at_ 1)).length + 1)) else (be 4 (lst (T.at_ 1)).length)) ++ ((lst (T.at_ 1)).flatMap (fun E=>be 4 (IntKind.i32.wrap E.N)))) ++ (if (decide (v ≥ 3)) = true then (uv T.U.length) ++ (qct T.U) else []))
theorem qbA (v:Int) (T:Tree):0 < (qaF v T).length:=qgy (qjK (qgy (qkd _)) (qgy (qfN (by decide))))
def qaG (v:Int) (T:Tree):Bs:=(if (decide (v ≥ 3)) = true then (uv ((T.at_ 0).S.length + 1) ++ (T.at_ 0).S) else (be 2 (T.at_ 0).S.length ++ (T.at_ 0).S)) ++ ((be 8 ((T.at_ 1).N)) ++ ((be 2 ((IntKind.i16.wrap (T.at_ 2).N))) ++ (([by8 (if (decide ((T.at_ 3).N % 2 = 1)) then 1 else 0)]) ++ (((if (decide (v ≥ 3)) = true then (uv ((lst (T.at_ 4)).length + 1)) else (be 4 (lst (T.at_ 4)).length)) ++ ((lst (T.at_ 4)).flatMap (qaF v))) ++ (if (decide (v ≥ 3)) = true then (uv T.U.length) ++ (qct T.U) else [])))))
theorem qbJ (v:Int) (T:Tree):0 < (qaG v T).length:=qgy (qjK (qgy (qkd _)) (qgy (qfN (by decide))))
def qch (v:Int) (T:Tree):Bs:=(if ((if (decide (v ≥ 0)) = true then decide (v ≤ 3) else false)) = true then if (decide (v ≥ 3)) = true then (uv ((T.at_ 0).S.length + 1) ++ (T.at_ 0).S) else (be 2 (T.at_ 0).S.length ++ (T.at_ 0).S) else []) ++ ((if ((if (decide (v ≥ 0)) = true then decide (v ≤ 3) else false)) = true then be 8 ((T.at_ 1).N) else []) ++ ((if ((if (decide (v ≥ 0)) = true then decide (v ≤ 3) else false)) = true then be 2 ((IntKind.i16.wrap (T.at_ 2).N)) else []) ++ ((if ((if (decide (v ≥ 0)) = true then decide (v ≤ 3) else false)) = true then (if (decide (v ≥ 3)) = true then (uv ((lst (T.at_ 3)).length + 1)) else (be 4 (lst (T.at_ 3)).length)) ++ ((lst (T.at_ 3)).flatMap (qaN v)) else []) ++ ((if (decide (v ≥ 4)) = true then (if (decide (v ≥ 3)) = true then (uv ((lst (T.at_ 4)).length + 1)) else (be 4 (lst (T.at_ 4)).length)) ++ ((lst (T.at_ 4)).flatMap (qaG v)) else []) ++ ((if (decide (v ≥ 3)) = true then (uv T.U.length) ++ (qct T.U) else []) ++ (([]:Bs)))))))
theorem qc9 (v:Int) (T:Tree):qaj v T = qch v T:=rfl
def qb0 (d:DV):List Value:=[.string ((d.f 0).s),.slice ((d.f 1).A) ((d.f 1).l) ((d.f 1).c),.map d.m]
theorem qa5:qfU qaW:=by
 intro w w' F F' M d hs hM hF h
 unfold qaW at h ⊢
 obtain ⟨g0,⟨g1,g1l,g1e⟩,t1,t2,t3,_⟩:=h
 exact ⟨g0,⟨g1.move hs hM hF,g1l,g1e⟩,t1.move hs hM hF,t2,t3,trivial⟩
def qbC (d:DV):List Value:=[.string ((d.f 0).s),.slice ((d.f 1).A) ((d.f 1).l) ((d.f 1).c),.map d.m]
theorem qaS:qfU qaJ:=by
 intro w w' F F' M d hs hM hF h
 unfold qaJ at h ⊢
 obtain ⟨g0,⟨g1,g1l,g1e⟩,t1,t2,t3,_⟩:=h
 exact ⟨g0,⟨g1.move hs hM hF,g1l,g1e⟩,t1.move hs hM hF,t2,t3,trivial⟩
def qbK (d:DV):List Value:=[.string ((d.f 0).s),.int .i64 ((d.f 1).n),.int .i16 ((d.f 2).n),.bool ((d.f 3).b),.slice ((d.f 4).A) ((d.f 4).l) ((d.f 4).c),.map d.m]
theorem qaX:qfU qaL:=by
 intro w w' F F' M d hs hM hF h
 unfold qaL at h ⊢
 obtain ⟨g0,g1,g2,g3,⟨g4,g4l,g4e⟩,t1,t2,t3,_⟩:=h
 exact ⟨g0,g1,g2,g3,⟨g4.move hs hM hF,g4l,fun i hi=>qaS _ hs hM hF (g4e i hi)⟩,t1.move hs hM hF,t2,t3,trivial⟩
def qa6 (v:Int) (D:DV) (T:Tree):Prop:=((D.f 0).s = bs (T.at_ 0).S) ∧ (((D.f 1).l = (lst (T.at_ 1)).length ∧ ∀ i,i < (D.f 1).l → ((D.f 1).f i).n = IntKind.i32.wrap ((lst (T.at_ 1)).getD i .zero).N)) ∧ (((decide (v ≥ 3)) = true → D.u = T.U) ∧ ((decide (v ≥ 3)) = false → D.u = [])) ∧ True
def qaY (v:Int) (D:DV) (T:Tree):Prop:=((D.f 0).s = bs (T.at_ 0).S) ∧ (((D.f 1).l = (lst (T.at_ 1)).length ∧ ∀ i,i < (D.f 1).l → ((D.f 1).f i).n = IntKind.i32.wrap ((lst (T.at_ 1)).getD i .zero).N)) ∧ (((decide (v ≥ 3)) = true → D.u = T.U) ∧ ((decide (v ≥ 3)) = false → D.u = [])) ∧ True
def qaZ (v:Int) (D:DV) (T:Tree):Prop:=((D.f 0).s = bs (T.at_ 0).S) ∧ ((D.f 1).n = IntKind.i64.wrap (T.at_ 1).N) ∧ ((D.f 2).n = IntKind.i16.wrap (T.at_ 2).N) ∧ ((D.f 3).b = decide ((T.at_ 3).N % 2 = 1)) ∧ (((D.f 4).l = (lst (T.at_ 4)).length ∧ ∀ i,i < (D.f 4).l → qaY v ((D.f 4).f i) ((lst (T.at_ 4)).getD i .zero))) ∧ (((decide (v ≥ 3)) = true → D.u = T.U) ∧ ((decide (v ≥ 3)) = false → D.u = [])) ∧ True
def qbd (v:Int) (D:DV) (T:Tree):Prop:=(((if (decide (v ≥ 0)) = true then decide (v ≤ 3) else false) = true → (D.f 0).s = bs (T.at_ 0).S) ∧ ((if (decide (v ≥ 0)) = true then decide (v ≤ 3) else false) = false → (D.f 0).s = ByteArray.empty)) ∧ (((if (decide (v ≥ 0)) = true then decide (v ≤ 3) else false) = true → (D.f 1).n = IntKind.i64.wrap (T.at_ 1).N) ∧ ((if (decide (v ≥ 0)) = true then decide (v ≤ 3) else false) = false → (D.f 1).n = 0)) ∧ (((if (decide (v ≥ 0)) = true then decide (v ≤ 3) else false) = true → (D.f 2).n = IntKind.i16.wrap (T.at_ 2).N) ∧ ((if (decide (v ≥ 0)) = true then decide (v ≤ 3) else false) = false → (D.f 2).n = 0)) ∧ (((if (decide (v ≥ 0)) = true then decide (v ≤ 3) else false) = true → ((D.f 3).l = (lst (T.at_ 3)).length ∧ ∀ i,i < (D.f 3).l → qa6 v ((D.f 3).f i) ((lst (T.at_ 3)).getD i .zero))) ∧ ((if (decide (v ≥ 0)) = true then decide (v ≤ 3) else false) = false → ((D.f 3).A = none ∧ (D.f 3).l = 0))) ∧ (((decide (v ≥ 4)) = true → ((D.f 4).l = (lst (T.at_ 4)).length ∧ ∀ i,i < (D.f 4).l → qaZ v ((D.f 4).f i) ((lst (T.at_ 4)).getD i .zero))) ∧ ((decide (v ≥ 4)) = false → ((D.f 4).A = none ∧ (D.f 4).l = 0))) ∧ (((decide (v ≥ 3)) = true → D.u = T.U) ∧ ((decide (v ≥ 3)) = false → D.u = [])) ∧ True
theorem ql4 (b o:Nat) (w:World):Calls Tryz.prog 94 #[.pointer (some ⟨b,o,none⟩)] w (fun e w'=>e = .returned (.tuple #[]) ∧ w' = w):=by
 refine enter (n:=2) (vs:=[.pointer (some ⟨b,o,none⟩)]) Tryz.func94 rfl Tryz.ntmps94 kz fun a hE=>?_
 refine wp_skip ?_
 exact qbW hE (WOk.start w Nil).cells (v:=.tuple #[]) kz ⟨rfl,rfl⟩
theorem ql5 (b o:Nat) (w:World):Calls Tryz.prog 97 #[.pointer (some ⟨b,o,none⟩)] w (fun e w'=>e = .returned (.tuple #[]) ∧ w' = w):=by
 refine enter (n:=2) (vs:=[.pointer (some ⟨b,o,none⟩)]) Tryz.func97 rfl Tryz.ntmps97 kz fun a hE=>?_
 refine wp_skip ?_
 exact qbW hE (WOk.start w Nil).cells (v:=.tuple #[]) kz ⟨rfl,rfl⟩
theorem ql6 (b o:Nat) (w:World):Calls Tryz.prog 99 #[.pointer (some ⟨b,o,none⟩)] w (fun e w'=>e = .returned (.tuple #[]) ∧ w' = w):=by
 refine enter (n:=2) (vs:=[.pointer (some ⟨b,o,none⟩)]) Tryz.func99 rfl Tryz.ntmps99 kz fun a hE=>?_
 refine wp_skip ?_
 exact qbW hE (WOk.start w Nil).cells (v:=.tuple #[]) kz ⟨rfl,rfl⟩
abbrev z6 (x0:Tree):=([.string (bs (x0.at_ 0).S),.int .i64 (IntKind.i64.wrap (x0.at_ 1).N),.int .i16 (IntKind.i16.wrap (x0.at_ 2).N),.bool (decide ((x0.at_ 3).N % 2 = 1)),.slice none 0 0,.map none]:List Value)
abbrev z29 (x0:Tree):=([.string (bs (x0.at_ 0).S),.slice none 0 0,.map none]:List Value)
abbrev z104 (x0):=([.int .i16 x0,.string zE,.int .i64 0,.int .i16 0,.slice none 0 0,.slice none 0 0,.map none]:List Value)
set_option maxHeartbeats 4000000 in
theorem qda (v:Int) (T:Tree) {bv:Nat} {A:Option Addr} {c:Nat} {w:World} {F:Nat → Nat → Prop} (hst:Str w bv [.int .i16 v,.string ByteArray.empty,.int .i64 0,.int .i16 0,.slice none 0 0,.slice none 0 0,.map none]) (ho:Octs w F A c (qaj v T)) (hFd:∀ b o,F b o → ¬ (b = bv ∧ o < 7)) (hc:qbc T) (hR:T.ranged) :
  Calls Tryz.prog 56 #[.pointer (some ⟨bv,0,none⟩),.slice A (qaj v T).length c,.bool false] w (fun e w'=>∃ D:DV,e = .returned .nilIface ∧ Str w' bv [.int .i16 v,.string ((D.f 0).s),.int .i64 ((D.f 1).n),.int .i16 ((D.f 2).n),.slice ((D.f 3).A) ((D.f 3).l) ((D.f 3).c),.slice ((D.f 4).A) ((D.f 4).l) ((D.f 4).c),.map D.m] ∧ qbj w' (Fp F w) D ∧ qbd v D T ∧ Step w w' (fun b o=>b = bv ∧ o < 7)):=by
 refine enter (n:=345) Tryz.func56 rfl Tryz.ntmps56 kz fun a hE=>?_
 have hW:=WOk.startStr hst
 have hE1:=(hE.grow ⟨bv,0,(z104 v),true⟩).recast 0 (.v (.pointer (some ⟨bv,0,none⟩))) (.p 0 0) rfl rfl (zN (n:=1) rfl)
 refine qas [(0,.p 0 0),(1,.v (.slice A ((qaj v T).length) c)),(2,.v (.bool false))] hW hE1 fun a1 hE2=>?_
 refine qaf [0,1] kz ?_
 refine qai [0] [1] [(0,.p 0 0),(1,.v (.slice A ((qaj v T).length) c)),(2,.v (.bool false)),(48,.p 0 0)] hW hE2 fun a3 hE4=>?_
 refine qal (qbR hE4 (f:=54) (vs:=(z37 bv)) (d:=49) (n':=2) kz Tryz.call54 Tryz.func54 rfl Tryz.ntmps54 kz fun a5 hE6=>?_)
 have hE7:=hE6.recast 0 (.v (.pointer (some ⟨bv,0,none⟩))) (.p 0 0) rfl rfl (zN (n:=1) rfl)
 refine wp_skip (qbW hE7 hW.cells (v:=.tuple #[]) kz ?_)
 refine ⟨_,rfl,fun a8 hE9=>?_⟩
 have kq:EnvOk 345 [⟨bv,0,(z104 v),true⟩] [(49,.v (.tuple #[])),(0,.p 0 0),(1,.v (.slice A ((qaj v T).length) c)),(2,.v (.bool false)),(48,.p 0 0)] _:=hE9.places (⟨rfl,rfl,trivial⟩)
 refine qae (qab ?_)
 refine qaf [0,1,2,3] kz ?_
 refine qai [0,1] [2,3] [(0,.p 0 0),(2,.v (.bool false)),(51,.v (.agg #[.slice A ((qaj v T).length) c,.bool false]))] hW kq fun lr ku=>?_
 refine qal (qaQ hW ku (d:=7) (cs:=[.slice none 0 0,.bool false]) kz fun aO ls lu kZ k5 k6 kv kw=>?_)
 refine qal (qao kv kw (oi:=1) (cs:=[.slice A ((qaj v T).length) c,.bool false]) kz fun lv k7 iH kx=>?_)
 refine qae (qab ?_)
 have iT:=RS.start (F:=F) (s:=qaj v T) iH kx (ho.move iH.step (fun b_ o_ h_ _=>hFd b_ o_ h_) (iH.immM hFd)) [(0,.p 1 0),(2,.v (.bool false)),(7,.p 0 0)]
 have kY:=hc
 have e26r:=hR
 unfold qbc at kY
 obtain ⟨e26_0,e26_1,e26_2,⟨e26_3,e26_3e⟩,⟨e26_4,e26_4e⟩,e26_U,_⟩:=kY
 obtain ⟨bM,iU⟩:∃ R,R = (if (decide (v ≥ 3)) = true then (uv T.U.length) ++ (qct T.U) else []) ++ ([]:Bs):=⟨_,rfl⟩
 obtain ⟨bB,iV⟩:∃ R,R = (if (decide (v ≥ 4)) = true then (if (decide (v ≥ 3)) = true then (uv ((lst (T.at_ 4)).length + 1)) else (be 4 (lst (T.at_ 4)).length)) ++ ((lst (T.at_ 4)).flatMap (qaG v)) else []) ++ bM:=⟨_,rfl⟩
 obtain ⟨iI,iW⟩:∃ R,R = (if ((if (decide (v ≥ 0)) = true then decide (v ≤ 3) else false)) = true then (if (decide (v ≥ 3)) = true then (uv ((lst (T.at_ 3)).length + 1)) else (be 4 (lst (T.at_ 3)).length)) ++ ((lst (T.at_ 3)).flatMap (qaN v)) else []) ++ bB:=⟨_,rfl⟩
 obtain ⟨iJ,iX⟩:∃ R,R = (if ((if (decide (v ≥ 0)) = true then decide (v ≤ 3) else false)) = true then be 2 ((IntKind.i16.wrap (T.at_ 2).N)) else []) ++ iI:=⟨_,rfl⟩
 obtain ⟨iK,iY⟩:∃ R,R = (if ((if (decide (v ≥ 0)) = true then decide (v ≤ 3) else false)) = true then be 8 ((T.at_ 1).N) else []) ++ iJ:=⟨_,rfl⟩
 obtain ⟨k8,iZ⟩:∃ R,R = (if ((if (decide (v ≥ 0)) = true then decide (v ≤ 3) else false)) = true then if (decide (v ≥ 3)) = true then (uv ((T.at_ 0).S.length + 1) ++ (T.at_ 0).S) else (be 2 (T.at_ 0).S.length ++ (T.at_ 0).S) else []) ++ iK:=⟨_,rfl⟩
 have i6:=iT.cast (t:=k8) (by rw [qc9,iZ,iY,iX,iW,iV,iU]; unfold qch; simp only [List.append_assoc])
 clear iT
 refine wp_seq (qbo [(0,.p 1 0),(2,.v (.bool false)),(7,.p 0 0),(8,.v (.int .i16 v))] i6 fun _ i7=>?_)
 clear i6
 refine qab (wp_seq (qbo [(0,.p 1 0),(2,.v (.bool false)),(7,.p 0 0),(8,.v (.int .i16 v))] i7 fun _ ja=>?_))
 clear i7
 refine qab (wp_seq (qbo [(0,.p 1 0),(2,.v (.bool false)),(7,.p 0 0),(8,.v (.int .i16 v)),(9,.v (.bool (decide (v ≥ 3))))] ja fun _ jb=>?_))
 clear ja
 refine qab (wp_seq (qbo [(0,.p 1 0),(2,.v (.bool false)),(7,.p 0 0),(8,.v (.int .i16 v)),(9,.v (.bool (decide (v ≥ 3))))] jb fun _ jc=>?_))
 clear jb
 refine qab (wp_seq (qbo [(2,.v (.bool false)),(7,.p 0 0),(8,.v (.int .i16 v)),(9,.v (.bool (decide (v ≥ 3)))),(10,.p 1 0)] jc fun _ jd=>?_))
 clear jc
 refine qab (wp_seq ?_)
 have je:=jd.cast iZ
 clear jd
 refine qcV (Mid:=fun a_ w_=>∃ (ap:DV) (P':qcr),(∀ w F,P' w F → noF w F ∧ (ap.s.size ≤ 1000000) ∧ ((if (decide (v ≥ 0)) = true then decide (v ≤ 3) else false) = true → ap.s = bs (T.at_ 0).S) ∧ ((if (decide (v ≥ 0)) = true then decide (v ≤ 3) else false) = false → ap.s = ByteArray.empty)) ∧ RS w (fun b o=>b = bv ∧ o < 7) F 345 aO [⟨bv,0,[.int .i16 v,.string ap.s,.int .i64 0,.int .i16 0,.slice none 0 0,.slice none 0 0,.map none],true⟩] [(2,.v (.bool false)),(7,.p 0 0),(8,.v (.int .i16 v)),(9,.v (.bool (decide (v ≥ 3)))),(10,.p 1 0)] P' iK a_ w_) ?_ ?_
 ·
  refine wp_seq (qap [0,1,2,3,4,5] kz ?_)
  refine qb2 [0,1,2] [3,4,5] [(2,.v (.bool false)),(7,.p 0 0),(8,.v (.int .i16 v)),(9,.v (.bool (decide (v ≥ 3)))),(10,.p 1 0),(63,.v (.bool (decide (v ≥ 0))))] je fun _ cS=>?_
  clear je
  refine (zO (decide (v ≥ 0))).elim (fun aP=>?_) (fun aP=>?_)
  ·
   have jf:=cS.envEq (env':=[(2,.v (.bool false)),(7,.p 0 0),(8,.v (.int .i16 v)),(9,.v (.bool (decide (v ≥ 3)))),(10,.p 1 0),(63,.v (.bool true))]) (by rw [aP])
   clear cS
   refine qb2 [3,4,5] [] [(2,.v (.bool false)),(7,.p 0 0),(8,.v (.int .i16 v)),(9,.v (.bool (decide (v ≥ 3)))),(10,.p 1 0),(66,.v (.bool (decide (v ≤ 3))))] jf fun _ bN=>qae (qab ?_)
   clear jf
   refine qaw bN.env_ (b:=decide (v ≤ 3)) kz (fun bO=>?_) (fun bO=>?_)
   ·
    have jg:=bN.cast (t:=(if (decide (v ≥ 3)) = true then (uv ((T.at_ 0).S.length + 1) ++ (T.at_ 0).S) else (be 2 (T.at_ 0).S.length ++ (T.at_ 0).S)) ++ iK) (by rw [if_pos (by simp only [aP,bO,if_true])])
    clear bN
    refine wp_seq (qbo [(2,.v (.bool false)),(7,.p 0 0),(8,.v (.int .i16 v)),(9,.v (.bool (decide (v ≥ 3)))),(10,.p 1 0)] jg fun _ jh=>?_)
    clear jg
    refine qab (wp_seq (wp_seq (qbo [(2,.v (.bool false)),(7,.p 0 0),(8,.v (.int .i16 v)),(9,.v (.bool (decide (v ≥ 3)))),(10,.p 1 0),(67,.v (.bool false))] jh fun _ iL=>qab ?_)))
    clear jh
    refine qan iL.env_ (b:=false) kz (rfl) ?_
    refine qdB (d1:=72) (d2:=73) [(2,.v (.bool false)),(7,.p 0 0),(8,.v (.int .i16 v)),(9,.v (.bool (decide (v ≥ 3)))),(10,.p 1 0),(71,.v (.bool (decide (v ≥ 3))))] [(2,.v (.bool false)),(7,.p 0 0),(8,.v (.int .i16 v)),(9,.v (.bool (decide (v ≥ 3)))),(10,.p 1 0),(11,.v (.string (bs (T.at_ 0).S)))] iL (qcP (T.at_ 0).S e26_0 _) Tryz.call86 (qgA (T.at_ 0).S e26_0 _) Tryz.call87 fun _ _ ji=>?_
    clear iL
    refine qab (qdl [⟨bv,0,[.int .i16 v,.string (bs (T.at_ 0).S),.int .i64 0,.int .i16 0,.slice none 0 0,.slice none 0 0,.map none],true⟩] 0 [(2,.v (.bool false)),(7,.p 0 0),(8,.v (.int .i16 v)),(9,.v (.bool (decide (v ≥ 3)))),(10,.p 1 0)] ji fun _ _ ky=>?_)
    clear ji
    refine qab ?_
    exact ⟨dvS (bs (T.at_ 0).S),_,fun w F h_=>⟨h_,by show ByteArray.size (bs _) ≤ 1000000; rw [qgq]; exact Nat.le_trans e26_0 (by decide),⟨fun _=>rfl,(fun e_=>by simp [aP,bO] at e_)⟩⟩,ky.pk (env':=[(2,.v (.bool false)),(7,.p 0 0),(8,.v (.int .i16 v)),(9,.v (.bool (decide (v ≥ 3)))),(10,.p 1 0)])⟩
   have jj:=bN.cast (t:=[] ++ iK) (by rw [if_neg (by simp only [aP,bO,if_true,if_false,Bool.false_eq_true]; try decide)])
   clear bN
   have kA:=jj.cast (t:=iK) rfl
   clear jj
   refine wp_skip (qab ?_)
   exact ⟨dvS ByteArray.empty,_,fun w F h_=>⟨h_,Nat.zero_le _,⟨(fun e_=>by simp [aP,bO] at e_),fun _=>rfl⟩⟩,kA.pk (env':=[(2,.v (.bool false)),(7,.p 0 0),(8,.v (.int .i16 v)),(9,.v (.bool (decide (v ≥ 3)))),(10,.p 1 0)])⟩
  have jk:=cS.envEq (env':=[(2,.v (.bool false)),(7,.p 0 0),(8,.v (.int .i16 v)),(9,.v (.bool (decide (v ≥ 3)))),(10,.p 1 0),(63,.v (.bool false))]) (by rw [aP])
  clear cS
  refine qb2 [3,4,5] [] [(2,.v (.bool false)),(7,.p 0 0),(8,.v (.int .i16 v)),(9,.v (.bool (decide (v ≥ 3)))),(10,.p 1 0),(66,.v (.bool false))] jk fun _ iM=>qae (qab ?_)
  clear jk
  refine qan iM.env_ (b:=false) kz rfl ?_
  have jl:=iM.cast (t:=[] ++ iK) (by rw [if_neg (by simp only [aP,if_true,if_false,Bool.false_eq_true]; try decide)])
  clear iM
  have kB:=jl.cast (t:=iK) rfl
  clear jl
  refine wp_skip (qab ?_)
  exact ⟨dvS ByteArray.empty,_,fun w F h_=>⟨h_,Nat.zero_le _,⟨(fun e_=>by simp [aP] at e_),fun _=>rfl⟩⟩,kB.pk (env':=[(2,.v (.bool false)),(7,.p 0 0),(8,.v (.int .i16 v)),(9,.v (.bool (decide (v ≥ 3)))),(10,.p 1 0)])⟩
 rintro _ _ ⟨ap,k9,jm,jn⟩
 refine qab (wp_seq ?_)
 have jo:=jn.cast iY
 clear jn
 refine qcV (Mid:=fun a_ w_=>∃ (ar:DV) (P':qcr),(∀ w F,P' w F → k9 w F ∧ (True) ∧ ((if (decide (v ≥ 0)) = true then decide (v ≤ 3) else false) = true → ar.n = IntKind.i64.wrap (T.at_ 1).N) ∧ ((if (decide (v ≥ 0)) = true then decide (v ≤ 3) else false) = false → ar.n = 0)) ∧ RS w (fun b o=>b = bv ∧ o < 7) F 345 aO [⟨bv,0,[.int .i16 v,.string ap.s,.int .i64 ar.n,.int .i16 0,.slice none 0 0,.slice none 0 0,.map none],true⟩] [(2,.v (.bool false)),(7,.p 0 0),(8,.v (.int .i16 v)),(9,.v (.bool (decide (v ≥ 3)))),(10,.p 1 0)] P' iJ a_ w_) ?_ ?_
 ·
  refine wp_seq (qap [0,1,2,3,4,5] kz ?_)
  refine qb2 [0,1,2] [3,4,5] [(2,.v (.bool false)),(7,.p 0 0),(8,.v (.int .i16 v)),(9,.v (.bool (decide (v ≥ 3)))),(10,.p 1 0),(80,.v (.bool (decide (v ≥ 0))))] jo fun _ cT=>?_
  clear jo
  refine (zO (decide (v ≥ 0))).elim (fun aQ=>?_) (fun aQ=>?_)
  ·
   have jp:=cT.envEq (env':=[(2,.v (.bool false)),(7,.p 0 0),(8,.v (.int .i16 v)),(9,.v (.bool (decide (v ≥ 3)))),(10,.p 1 0),(80,.v (.bool true))]) (by rw [aQ])
   clear cT
   refine qb2 [3,4,5] [] [(2,.v (.bool false)),(7,.p 0 0),(8,.v (.int .i16 v)),(9,.v (.bool (decide (v ≥ 3)))),(10,.p 1 0),(83,.v (.bool (decide (v ≤ 3))))] jp fun _ bP=>qae (qab ?_)
   clear jp
   refine qaw bP.env_ (b:=decide (v ≤ 3)) kz (fun bQ=>?_) (fun bQ=>?_)
   ·
    have jq:=bP.cast (t:=(be 8 ((T.at_ 1).N)) ++ iJ) (by rw [if_pos (by simp only [aQ,bQ,if_true])])
    clear bP
    refine wp_seq (qej (d:=84) [(2,.v (.bool false)),(7,.p 0 0),(8,.v (.int .i16 v)),(9,.v (.bool (decide (v ≥ 3)))),(10,.p 1 0),(12,.v (.int .i64 (IntKind.i64.wrap (T.at_ 1).N)))] jq (qkK _ _) Tryz.call88 fun _ _ jr=>?_)
    clear jq
    refine qab (qdl [⟨bv,0,[.int .i16 v,.string ap.s,.int .i64 (IntKind.i64.wrap (T.at_ 1).N),.int .i16 0,.slice none 0 0,.slice none 0 0,.map none],true⟩] 0 [(2,.v (.bool false)),(7,.p 0 0),(8,.v (.int .i16 v)),(9,.v (.bool (decide (v ≥ 3)))),(10,.p 1 0)] jr fun _ _ kC=>?_)
    clear jr
    refine qab ?_
    exact ⟨dvN (IntKind.i64.wrap (T.at_ 1).N),_,fun w F h_=>⟨h_,trivial,⟨fun _=>rfl,(fun e_=>by simp [aQ,bQ] at e_)⟩⟩,kC.pk (env':=[(2,.v (.bool false)),(7,.p 0 0),(8,.v (.int .i16 v)),(9,.v (.bool (decide (v ≥ 3)))),(10,.p 1 0)])⟩
   have js:=bP.cast (t:=[] ++ iJ) (by rw [if_neg (by simp only [aQ,bQ,if_true,if_false,Bool.false_eq_true]; try decide)])
   clear bP
   have kD:=js.cast (t:=iJ) rfl
   clear js
   refine wp_skip (qab ?_)
   exact ⟨dvN (0),_,fun w F h_=>⟨h_,trivial,⟨(fun e_=>by simp [aQ,bQ] at e_),fun _=>rfl⟩⟩,kD.pk (env':=[(2,.v (.bool false)),(7,.p 0 0),(8,.v (.int .i16 v)),(9,.v (.bool (decide (v ≥ 3)))),(10,.p 1 0)])⟩
  have jt:=cT.envEq (env':=[(2,.v (.bool false)),(7,.p 0 0),(8,.v (.int .i16 v)),(9,.v (.bool (decide (v ≥ 3)))),(10,.p 1 0),(80,.v (.bool false))]) (by rw [aQ])
  clear cT
  refine qb2 [3,4,5] [] [(2,.v (.bool false)),(7,.p 0 0),(8,.v (.int .i16 v)),(9,.v (.bool (decide (v ≥ 3)))),(10,.p 1 0),(83,.v (.bool false))] jt fun _ iN=>qae (qab ?_)
  clear jt
  refine qan iN.env_ (b:=false) kz rfl ?_
  have ju:=iN.cast (t:=[] ++ iJ) (by rw [if_neg (by simp only [aQ,if_true,if_false,Bool.false_eq_true]; try decide)])
  clear iN
  have kE:=ju.cast (t:=iJ) rfl
  clear ju
  refine wp_skip (qab ?_)
  exact ⟨dvN (0),_,fun w F h_=>⟨h_,trivial,⟨(fun e_=>by simp [aQ] at e_),fun _=>rfl⟩⟩,kE.pk (env':=[(2,.v (.bool false)),(7,.p 0 0),(8,.v (.int .i16 v)),(9,.v (.bool (decide (v ≥ 3)))),(10,.p 1 0)])⟩
 rintro _ _ ⟨ar,la,cU,jv⟩
 refine qab (wp_seq ?_)
 have jw:=jv.cast iX
 clear jv
 refine qcV (Mid:=fun a_ w_=>∃ (av:DV) (P':qcr),(∀ w F,P' w F → la w F ∧ (True) ∧ ((if (decide (v ≥ 0)) = true then decide (v ≤ 3) else false) = true → av.n = IntKind.i16.wrap (T.at_ 2).N) ∧ ((if (decide (v ≥ 0)) = true then decide (v ≤ 3) else false) = false → av.n = 0)) ∧ RS w (fun b o=>b = bv ∧ o < 7) F 345 aO [⟨bv,0,[.int .i16 v,.string ap.s,.int .i64 ar.n,.int .i16 av.n,.slice none 0 0,.slice none 0 0,.map none],true⟩] [(2,.v (.bool false)),(7,.p 0 0),(8,.v (.int .i16 v)),(9,.v (.bool (decide (v ≥ 3)))),(10,.p 1 0)] P' iI a_ w_) ?_ ?_
 ·
  refine wp_seq (qap [0,1,2,3,4,5] kz ?_)
  refine qb2 [0,1,2] [3,4,5] [(2,.v (.bool false)),(7,.p 0 0),(8,.v (.int .i16 v)),(9,.v (.bool (decide (v ≥ 3)))),(10,.p 1 0),(91,.v (.bool (decide (v ≥ 0))))] jw fun _ cV=>?_
  clear jw
  refine (zO (decide (v ≥ 0))).elim (fun aR=>?_) (fun aR=>?_)
  ·
   have jx:=cV.envEq (env':=[(2,.v (.bool false)),(7,.p 0 0),(8,.v (.int .i16 v)),(9,.v (.bool (decide (v ≥ 3)))),(10,.p 1 0),(91,.v (.bool true))]) (by rw [aR])
   clear cV
   refine qb2 [3,4,5] [] [(2,.v (.bool false)),(7,.p 0 0),(8,.v (.int .i16 v)),(9,.v (.bool (decide (v ≥ 3)))),(10,.p 1 0),(94,.v (.bool (decide (v ≤ 3))))] jx fun _ bR=>qae (qab ?_)
   clear jx
   refine qaw bR.env_ (b:=decide (v ≤ 3)) kz (fun bS=>?_) (fun bS=>?_)
   ·
    have jy:=bR.cast (t:=(be 2 ((IntKind.i16.wrap (T.at_ 2).N))) ++ iI) (by rw [if_pos (by simp only [aR,bS,if_true])])
    clear bR
    refine wp_seq (qej (d:=95) [(2,.v (.bool false)),(7,.p 0 0),(8,.v (.int .i16 v)),(9,.v (.bool (decide (v ≥ 3)))),(10,.p 1 0),(13,.v (.int .i16 (IntKind.i16.wrap (T.at_ 2).N)))] jy (qkI _ _) Tryz.call89 fun _ _ jz=>?_)
    clear jy
    refine qab (qdl [⟨bv,0,[.int .i16 v,.string ap.s,.int .i64 ar.n,.int .i16 (IntKind.i16.wrap (T.at_ 2).N),.slice none 0 0,.slice none 0 0,.map none],true⟩] 0 [(2,.v (.bool false)),(7,.p 0 0),(8,.v (.int .i16 v)),(9,.v (.bool (decide (v ≥ 3)))),(10,.p 1 0)] jz fun _ _ jA=>?_)
    clear jz
    refine qab ?_
    exact ⟨dvN (IntKind.i16.wrap (T.at_ 2).N),_,fun w F h_=>⟨h_,trivial,⟨fun _=>rfl,(fun e_=>by simp [aR,bS] at e_)⟩⟩,jA.pk (env':=[(2,.v (.bool false)),(7,.p 0 0),(8,.v (.int .i16 v)),(9,.v (.bool (decide (v ≥ 3)))),(10,.p 1 0)])⟩
   have c5:=bR.cast (t:=[] ++ iI) (by rw [if_neg (by simp only [aR,bS,if_true,if_false,Bool.false_eq_true]; try decide)])
   clear bR
   have jB:=c5.cast (t:=iI) rfl
   clear c5
   refine wp_skip (qab ?_)
   exact ⟨dvN (0),_,fun w F h_=>⟨h_,trivial,⟨(fun e_=>by simp [aR,bS] at e_),fun _=>rfl⟩⟩,jB.pk (env':=[(2,.v (.bool false)),(7,.p 0 0),(8,.v (.int .i16 v)),(9,.v (.bool (decide (v ≥ 3)))),(10,.p 1 0)])⟩
  have c6:=cV.envEq (env':=[(2,.v (.bool false)),(7,.p 0 0),(8,.v (.int .i16 v)),(9,.v (.bool (decide (v ≥ 3)))),(10,.p 1 0),(91,.v (.bool false))]) (by rw [aR])
  clear cV
  refine qb2 [3,4,5] [] [(2,.v (.bool false)),(7,.p 0 0),(8,.v (.int .i16 v)),(9,.v (.bool (decide (v ≥ 3)))),(10,.p 1 0),(94,.v (.bool false))] c6 fun _ bT=>qae (qab ?_)
  clear c6
  refine qan bT.env_ (b:=false) kz rfl ?_
  have da:=bT.cast (t:=[] ++ iI) (by rw [if_neg (by simp only [aR,if_true,if_false,Bool.false_eq_true]; try decide)])
  clear bT
  have jC:=da.cast (t:=iI) rfl
  clear da
  refine wp_skip (qab ?_)
  exact ⟨dvN (0),_,fun w F h_=>⟨h_,trivial,⟨(fun e_=>by simp [aR] at e_),fun _=>rfl⟩⟩,jC.pk (env':=[(2,.v (.bool false)),(7,.p 0 0),(8,.v (.int .i16 v)),(9,.v (.bool (decide (v ≥ 3)))),(10,.p 1 0)])⟩
 rintro _ _ ⟨av,kF,bL,jD⟩
 refine qab (wp_seq ?_)
 have db:=jD.cast iW
 clear jD
 refine qcV (Mid:=fun a_ w_=>∃ (ae:DV) (P':qcr),(∀ w F,P' w F → kF w F ∧ (Slots w F 3 ae.A ae.c ae.l (fun i=>[.string (((ae.f i).f 0).s),.slice (((ae.f i).f 1).A) (((ae.f i).f 1).l) (((ae.f i).f 1).c),.map ((ae.f i).m)]) ∧ ae.l ≤ 1000000 ∧ ∀ i,i < ae.l → qaW w F (ae.f i)) ∧ ((if (decide (v ≥ 0)) = true then decide (v ≤ 3) else false) = true → (ae.l = (lst (T.at_ 3)).length ∧ ∀ i,i < ae.l → qa6 v (ae.f i) ((lst (T.at_ 3)).getD i .zero))) ∧ ((if (decide (v ≥ 0)) = true then decide (v ≤ 3) else false) = false → (ae.A = none ∧ ae.l = 0))) ∧ RS w (fun b o=>b = bv ∧ o < 7) F 345 aO [⟨bv,0,[.int .i16 v,.string ap.s,.int .i64 ar.n,.int .i16 av.n,.slice ae.A ae.l ae.c,.slice none 0 0,.map none],true⟩] [(2,.v (.bool false)),(7,.p 0 0),(8,.v (.int .i16 v)),(9,.v (.bool (decide (v ≥ 3)))),(10,.p 1 0)] P' bB a_ w_) ?_ ?_
 ·
  refine wp_seq (qap [0,1,2,3,4,5] kz ?_)
  refine qb2 [0,1,2] [3,4,5] [(2,.v (.bool false)),(7,.p 0 0),(8,.v (.int .i16 v)),(9,.v (.bool (decide (v ≥ 3)))),(10,.p 1 0),(102,.v (.bool (decide (v ≥ 0))))] db fun _ bC=>?_
  clear db
  refine (zO (decide (v ≥ 0))).elim (fun aJ=>?_) (fun aJ=>?_)
  ·
   have dc:=bC.envEq (env':=[(2,.v (.bool false)),(7,.p 0 0),(8,.v (.int .i16 v)),(9,.v (.bool (decide (v ≥ 3)))),(10,.p 1 0),(102,.v (.bool true))]) (by rw [aJ])
   clear bC
   refine qb2 [3,4,5] [] [(2,.v (.bool false)),(7,.p 0 0),(8,.v (.int .i16 v)),(9,.v (.bool (decide (v ≥ 3)))),(10,.p 1 0),(105,.v (.bool (decide (v ≤ 3))))] dc fun _ aS=>qae (qab ?_)
   clear dc
   refine qaw aS.env_ (b:=decide (v ≤ 3)) kz (fun aT=>?_) (fun aT=>?_)
   ·
    have de:=aS.cast (t:=((if (decide (v ≥ 3)) = true then (uv ((lst (T.at_ 3)).length + 1)) else (be 4 (lst (T.at_ 3)).length)) ++ ((lst (T.at_ 3)).flatMap (qaN v))) ++ bB) (by rw [if_pos (by simp only [aJ,aT,if_true])])
    clear aS
    refine wp_seq (qbo [(2,.v (.bool false)),(7,.p 0 0),(8,.v (.int .i16 v)),(9,.v (.bool (decide (v ≥ 3)))),(10,.p 1 0),(14,.v (.slice none 0 0))] de fun _ df=>?_)
    clear de
    refine qab (wp_seq (qbo [(2,.v (.bool false)),(7,.p 0 0),(8,.v (.int .i16 v)),(9,.v (.bool (decide (v ≥ 3)))),(10,.p 1 0),(15,.v (.slice none 0 0))] df fun _ dg=>?_))
    clear df
    refine qab (wp_seq (qbo [(2,.v (.bool false)),(7,.p 0 0),(8,.v (.int .i16 v)),(9,.v (.bool (decide (v ≥ 3)))),(10,.p 1 0),(15,.v (.slice none 0 0))] dg fun _ dh=>?_))
    clear dg
    refine qab (wp_seq ?_)
    have di:=dh.cast (t:=(if (decide (v ≥ 3)) = true then (uv ((lst (T.at_ 3)).length + 1)) else (be 4 (lst (T.at_ 3)).length)) ++ (((lst (T.at_ 3)).flatMap (qaN v)) ++ bB)) (by rw [List.append_assoc])
    clear dh
    refine qdB (d1:=112) (d2:=113) [(2,.v (.bool false)),(7,.p 0 0),(8,.v (.int .i16 v)),(9,.v (.bool (decide (v ≥ 3)))),(10,.p 1 0),(15,.v (.slice none 0 0)),(111,.v (.bool (decide (v ≥ 3))))] [(2,.v (.bool false)),(7,.p 0 0),(8,.v (.int .i16 v)),(9,.v (.bool (decide (v ≥ 3)))),(10,.p 1 0),(15,.v (.slice none 0 0)),(16,.v (.int .i32 (((lst (T.at_ 3)).length:Nat):Int)))] di (qcf ((lst (T.at_ 3)).length) e26_3 _ (flat_ge' (qbY v) _)) Tryz.call90 (qdP ((lst (T.at_ 3)).length) e26_3 _ (flat_ge' (qbY v) _)) Tryz.call91 fun _ _ dj=>?_
    clear di
    refine qab (wp_seq (wp_seq (qjM (d:=114) [(2,.v (.bool false)),(7,.p 0 0),(8,.v (.int .i16 v)),(9,.v (.bool (decide (v ≥ 3)))),(10,.p 1 0),(15,.v (.slice none 0 0)),(16,.v (.int .i32 (((lst (T.at_ 3)).length:Nat):Int))),(115,.v (.bool false))] dj (pOk _) Tryz.call92 fun _ _ bU=>?_)))
    clear dj
    refine qab (qan bU.env_ (b:=false) kz (rfl) ?_)
    refine wp_skip (qab (wp_seq (qfO (t:=77) (e:=89) (size:=3) (bytes:=48) (d:=118) (A0:=none) (m:=0) (cp:=0) [(2,.v (.bool false)),(7,.p 0 0),(8,.v (.int .i16 v)),(9,.v (.bool (decide (v ≥ 3)))),(10,.p 1 0),(16,.v (.int .i32 (((lst (T.at_ 3)).length:Nat):Int))),(117,.v (.slice none 0 0))] [(2,.v (.bool false)),(7,.p 0 0),(8,.v (.int .i16 v)),(9,.v (.bool (decide (v ≥ 3)))),(10,.p 1 0),(15,.v (.slice none 0 0)),(16,.v (.int .i32 (((lst (T.at_ 3)).length:Nat):Int)))] 1 bU fun _ dl=>?_)))
    clear bU
    refine qab (qeL (Mid:=fun a_ w_=>∃ (aA:DV) (P':qcr),(∀ w F,P' w F → kF w F ∧ (Slots w F 3 aA.A aA.c aA.l (fun i=>[.string (((aA.f i).f 0).s),.slice (((aA.f i).f 1).A) (((aA.f i).f 1).l) (((aA.f i).f 1).c),.map ((aA.f i).m)]) ∧ aA.l ≤ 1000000 ∧ ∀ i,i < aA.l → qaW w F (aA.f i)) ∧ (aA.l = (lst (T.at_ 3)).length ∧ ∀ i,i < aA.l → qa6 v (aA.f i) ((lst (T.at_ 3)).getD i .zero))) ∧ RS w (fun b o=>b = bv ∧ o < 7) F 345 aO [⟨bv,0,[.int .i16 v,.string ap.s,.int .i64 ar.n,.int .i16 av.n,.slice none 0 0,.slice none 0 0,.map none],true⟩] [(2,.v (.bool false)),(7,.p 0 0),(8,.v (.int .i16 v)),(9,.v (.bool (decide (v ≥ 3)))),(10,.p 1 0),(15,.v (.slice aA.A aA.l aA.c))] P' bB a_ w_) ?_ ?_)
    ·
     refine wp_seq (qbo [(2,.v (.bool false)),(7,.p 0 0),(8,.v (.int .i16 v)),(9,.v (.bool (decide (v ≥ 3)))),(10,.p 1 0),(15,.v (.slice none 0 0)),(16,.v (.int .i32 (((lst (T.at_ 3)).length:Nat):Int))),(120,.v (.bool (decide ((((lst (T.at_ 3)).length:Nat):Int) > 0))))] dl fun _ aU=>qab ?_)
     clear dl
     refine qaw aU.env_ (b:=decide ((((lst (T.at_ 3)).length:Nat):Int) > 0)) kz (fun bD=>?_) (fun bD=>?_)
     ·
      have hn_g133:0 < (lst (T.at_ 3)).length:=by have h_:=zD bD; omega
      refine qap [0,1,2,3] kz ?_
      refine qb2 [0,1] [2,3] [(2,.v (.bool false)),(7,.p 0 0),(8,.v (.int .i16 v)),(9,.v (.bool (decide (v ≥ 3)))),(10,.p 1 0),(16,.v (.int .i32 (((lst (T.at_ 3)).length:Nat):Int))),(121,.v (.slice none 0 0)),(122,.v (.int .i32 (((lst (T.at_ 3)).length:Nat):Int)))] aU fun _ dp=>?_
      clear aU
      refine qal (qdv (A0:=none) (d:=123) (t:=77) (tn:=21) (e:=89) (size:=3) (bytes:=48) (k:=.i32) (kn:=.i32) (q:=(((lst (T.at_ 3)).length:Nat):Int)) (j:=(lst (T.at_ 3)).length) (.agg #[.string zE,.slice none 0 0,.map none]) dp (fun ai am _ _ hg_g133 hcap_g133 dq=>?_) rfl hn_g133 (by have:=e26_3; omega))
      clear dp
      refine qb2 [3] [] [(2,.v (.bool false)),(7,.p 0 0),(8,.v (.int .i16 v)),(9,.v (.bool (decide (v ≥ 3)))),(10,.p 1 0),(15,.v (.slice (some ⟨ai,0,none⟩) ((lst (T.at_ 3)).length) am)),(16,.v (.int .i32 (((lst (T.at_ 3)).length:Nat):Int)))] dq fun _ dr=>qae ?_
      clear dq
      refine qab (wp_seq (qbo [(2,.v (.bool false)),(7,.p 0 0),(8,.v (.int .i16 v)),(9,.v (.bool (decide (v ≥ 3)))),(10,.p 1 0),(15,.v (.slice (some ⟨ai,0,none⟩) ((lst (T.at_ 3)).length) am)),(16,.v (.int .i32 (((lst (T.at_ 3)).length:Nat):Int))),(17,.v (.int .i32 0))] dr fun _ bV=>?_))
      clear dr
      refine qab (wp_block ?_)
      have bW:=bV.mv
      have jE:=(bV.cast (t:=(lst (T.at_ 3)).flatMap (qaN v) ++ bB) rfl).pk (env':=[(2,.v (.bool false)),(7,.p 0 0),(8,.v (.int .i16 v)),(9,.v (.bool (decide (v ≥ 3)))),(10,.p 1 0),(15,.v (.slice (some ⟨ai,0,none⟩) ((lst (T.at_ 3)).length) am)),(16,.v (.int .i32 (((lst (T.at_ 3)).length:Nat):Int))),(17,.v (.int .i32 ((0:Nat):Int)))])
      clear bV
      refine qfM (tb:=[⟨bv,0,[.int .i16 v,.string ap.s,.int .i64 ar.n,.int .i16 av.n,.slice none 0 0,.slice none 0 0,.map none],true⟩]) (z:=.agg #[.string zE,.slice none 0 0,.map none]) (cl:=qb0) (ok:=qaW) (rel:=(qa6 v)) (L:=lst (T.at_ 3)) (size:=3) (qaN v) bB (fun k=>[(2,.v (.bool false)),(7,.p 0 0),(8,.v (.int .i16 v)),(9,.v (.bool (decide (v ≥ 3)))),(10,.p 1 0),(15,.v (.slice (some ⟨ai,0,none⟩) ((lst (T.at_ 3)).length) am)),(16,.v (.int .i32 (((lst (T.at_ 3)).length:Nat):Int))),(17,.v (.int .i32 ((k:Nat):Int)))]) jE qa5 (fun ak ag _ _ bX jF dt=>?_) (fun _ _ du=>?_)
      ·
       obtain ⟨jG,dv,dw⟩:∃ P',(∀ w F,P' w F → (kF w F ∧ qe9 ai 3 qb0 qaW (qa6 v) (lst (T.at_ 3)) ak w F)) ∧ RS w (fun b o=>b = bv ∧ o < 7) F 345 aO [⟨bv,0,[.int .i16 v,.string ap.s,.int .i64 ar.n,.int .i16 av.n,.slice none 0 0,.slice none 0 0,.map none],true⟩,qbk ai 3 (.agg #[.string ByteArray.empty,.slice none 0 0,.map none]) ((lst (T.at_ 3)).length) ak] [(2,.v (.bool false)),(7,.p 0 0),(8,.v (.int .i16 v)),(9,.v (.bool (decide (v ≥ 3)))),(10,.p 1 0),(15,.v (.slice (some ⟨ai,0,none⟩) ((lst (T.at_ 3)).length) am)),(16,.v (.int .i32 (((lst (T.at_ 3)).length:Nat):Int))),(17,.v (.int .i32 ((ak:Nat):Int)))] P' ((qaN v) ag ++ (((lst (T.at_ 3)).drop (ak + 1)).flatMap (qaN v) ++ bB)) _ _:=⟨_,fun _ _ h=>h,dt⟩
       clear dt
       obtain ⟨bY,dx⟩:∃ R,R = ((lst (T.at_ 3)).drop (ak + 1)).flatMap (qaN v) ++ bB:=⟨_,rfl⟩
       have jH:=(e26_3e ag (List.mem_of_getElem? bX))
       have e152r:=(qe7 (qeJ e26r 3) ag (List.mem_of_getElem? bX))
       unfold qbs at jH
       obtain ⟨e152_0,e152_1,e152_U,_⟩:=jH
       obtain ⟨aV,dy⟩:∃ R,R = (if (decide (v ≥ 3)) = true then (uv ag.U.length) ++ (qct ag.U) else []) ++ bY:=⟨_,rfl⟩
       obtain ⟨kG,dz⟩:∃ R,R = ((if (decide (v ≥ 3)) = true then (uv ((lst (ag.at_ 1)).length + 1)) else (be 4 (lst (ag.at_ 1)).length)) ++ ((lst (ag.at_ 1)).flatMap (fun E=>be 4 (IntKind.i32.wrap E.N)))) ++ aV:=⟨_,rfl⟩
       obtain ⟨kH,dA⟩:∃ R,R = (if (decide (v ≥ 3)) = true then (uv ((ag.at_ 0).S.length + 1) ++ (ag.at_ 0).S) else (be 2 (ag.at_ 0).S.length ++ (ag.at_ 0).S)) ++ kG:=⟨_,rfl⟩
       have dB:=dw.cast (t:=kH) (by rw [dA,dz,dy,← dx]; unfold qaN; simp only [List.append_assoc])
       clear dw
       refine wp_seq (wp_seq (qbo [(2,.v (.bool false)),(7,.p 0 0),(8,.v (.int .i16 v)),(9,.v (.bool (decide (v ≥ 3)))),(10,.p 1 0),(15,.v (.slice (some ⟨ai,0,none⟩) ((lst (T.at_ 3)).length) am)),(16,.v (.int .i32 (((lst (T.at_ 3)).length:Nat):Int))),(17,.v (.int .i32 ((ak:Nat):Int))),(126,.v (.bool (decide (((ak:Nat):Int) < (((lst (T.at_ 3)).length:Nat):Int)))))] dB fun _ bZ=>qab ?_))
       clear dB
       refine qa7 bZ.env_ (b:=decide (((ak:Nat):Int) < (((lst (T.at_ 3)).length:Nat):Int))) kz (decide_eq_true (by omega)) ?_
       refine wp_skip (qab (wp_seq (wp_block (wp_seq (qhJ (t:=77) (e:=89) (size:=3) (bytes:=48) (d:=131) (tb:=[⟨bv,0,[.int .i16 v,.string ap.s,.int .i64 ar.n,.int .i16 av.n,.slice none 0 0,.slice none 0 0,.map none],true⟩]) (z:=.agg #[.string zE,.slice none 0 0,.map none]) [(2,.v (.bool false)),(7,.p 0 0),(8,.v (.int .i16 v)),(9,.v (.bool (decide (v ≥ 3)))),(10,.p 1 0),(15,.v (.slice (some ⟨ai,0,none⟩) ((lst (T.at_ 3)).length) am)),(16,.v (.int .i32 (((lst (T.at_ 3)).length:Nat):Int))),(17,.v (.int .i32 ((ak:Nat):Int))),(129,.v (.slice (some ⟨ai,0,none⟩) ((lst (T.at_ 3)).length) am)),(130,.v (.int .i32 ((ak:Nat):Int)))] [(2,.v (.bool false)),(7,.p 0 0),(8,.v (.int .i16 v)),(9,.v (.bool (decide (v ≥ 3)))),(10,.p 1 0),(15,.v (.slice (some ⟨ai,0,none⟩) ((lst (T.at_ 3)).length) am)),(16,.v (.int .i32 (((lst (T.at_ 3)).length:Nat):Int))),(17,.v (.int .i32 ((ak:Nat):Int))),(18,.p 3 0)] 2 bZ jF rfl kz fun _ dC=>?_)))))
       clear bZ
       have dD:=dC.tbEq (tb':=[⟨bv,0,[.int .i16 v,.string ap.s,.int .i64 ar.n,.int .i16 av.n,.slice none 0 0,.slice none 0 0,.map none],true⟩,qbk ai 3 (.agg #[.string zE,.slice none 0 0,.map none]) ((lst (T.at_ 3)).length) (ak + 1),⟨ai,ak * 3,[.string zE,.slice none 0 0,.map none],true⟩]) rfl
       clear dC
       refine qab (wp_seq (qap [0,1] kz ?_))
       refine qb2 [0] [1] [(2,.v (.bool false)),(7,.p 0 0),(8,.v (.int .i16 v)),(9,.v (.bool (decide (v ≥ 3)))),(10,.p 1 0),(15,.v (.slice (some ⟨ai,0,none⟩) ((lst (T.at_ 3)).length) am)),(16,.v (.int .i32 (((lst (T.at_ 3)).length:Nat):Int))),(17,.v (.int .i32 ((ak:Nat):Int))),(18,.p 3 0),(132,.p 3 0)] dD fun _ dE=>?_
       clear dD
       refine qal (qjL (d:=133) (vs:=[.pointer (some ⟨ai,ak * 3,none⟩)]) dE (fun _=>ql4 _ _ _) Tryz.call94 fun _ dF=>?_)
       clear dE
       refine qae ?_
       have dG:=dF.pk (env':=[(2,.v (.bool false)),(7,.p 0 0),(8,.v (.int .i16 v)),(9,.v (.bool (decide (v ≥ 3)))),(10,.p 1 0),(15,.v (.slice (some ⟨ai,0,none⟩) ((lst (T.at_ 3)).length) am)),(16,.v (.int .i32 (((lst (T.at_ 3)).length:Nat):Int))),(17,.v (.int .i32 ((ak:Nat):Int))),(18,.p 3 0)])
       clear dF
       refine qab (wp_seq (qbo [(2,.v (.bool false)),(7,.p 0 0),(8,.v (.int .i16 v)),(9,.v (.bool (decide (v ≥ 3)))),(10,.p 1 0),(15,.v (.slice (some ⟨ai,0,none⟩) ((lst (T.at_ 3)).length) am)),(16,.v (.int .i32 (((lst (T.at_ 3)).length:Nat):Int))),(17,.v (.int .i32 ((ak:Nat):Int))),(19,.p 3 0)] dG fun _ dH=>?_))
       clear dG
       refine qab (wp_seq (wp_seq (qbo [(2,.v (.bool false)),(7,.p 0 0),(8,.v (.int .i16 v)),(9,.v (.bool (decide (v ≥ 3)))),(10,.p 1 0),(15,.v (.slice (some ⟨ai,0,none⟩) ((lst (T.at_ 3)).length) am)),(16,.v (.int .i32 (((lst (T.at_ 3)).length:Nat):Int))),(17,.v (.int .i32 ((ak:Nat):Int))),(19,.p 3 0)] dH fun _ dI=>?_)))
       clear dH
       refine qab (wp_seq (wp_seq (qbo [(2,.v (.bool false)),(7,.p 0 0),(8,.v (.int .i16 v)),(9,.v (.bool (decide (v ≥ 3)))),(10,.p 1 0),(15,.v (.slice (some ⟨ai,0,none⟩) ((lst (T.at_ 3)).length) am)),(16,.v (.int .i32 (((lst (T.at_ 3)).length:Nat):Int))),(17,.v (.int .i32 ((ak:Nat):Int))),(19,.p 3 0),(135,.v (.bool false))] dI fun _ b8=>qab ?_)))
       clear dI
       refine qan b8.env_ (b:=false) kz (rfl) ?_
       have dJ:=b8.cast dA
       clear b8
       refine qdB (d1:=140) (d2:=141) [(2,.v (.bool false)),(7,.p 0 0),(8,.v (.int .i16 v)),(9,.v (.bool (decide (v ≥ 3)))),(10,.p 1 0),(15,.v (.slice (some ⟨ai,0,none⟩) ((lst (T.at_ 3)).length) am)),(16,.v (.int .i32 (((lst (T.at_ 3)).length:Nat):Int))),(17,.v (.int .i32 ((ak:Nat):Int))),(19,.p 3 0),(139,.v (.bool (decide (v ≥ 3))))] [(2,.v (.bool false)),(7,.p 0 0),(8,.v (.int .i16 v)),(9,.v (.bool (decide (v ≥ 3)))),(10,.p 1 0),(15,.v (.slice (some ⟨ai,0,none⟩) ((lst (T.at_ 3)).length) am)),(16,.v (.int .i32 (((lst (T.at_ 3)).length:Nat):Int))),(17,.v (.int .i32 ((ak:Nat):Int))),(19,.p 3 0),(20,.v (.string (bs (ag.at_ 0).S)))] dJ (qcP (ag.at_ 0).S e152_0 _) Tryz.call86 (qgA (ag.at_ 0).S e152_0 _) Tryz.call87 fun _ _ dK=>?_
       clear dJ
       refine qab (qdl [⟨bv,0,[.int .i16 v,.string ap.s,.int .i64 ar.n,.int .i16 av.n,.slice none 0 0,.slice none 0 0,.map none],true⟩,qbk ai 3 (.agg #[.string zE,.slice none 0 0,.map none]) ((lst (T.at_ 3)).length) (ak + 1),⟨ai,ak * 3,(z29 ag),true⟩] 2 [(2,.v (.bool false)),(7,.p 0 0),(8,.v (.int .i16 v)),(9,.v (.bool (decide (v ≥ 3)))),(10,.p 1 0),(15,.v (.slice (some ⟨ai,0,none⟩) ((lst (T.at_ 3)).length) am)),(16,.v (.int .i32 (((lst (T.at_ 3)).length:Nat):Int))),(17,.v (.int .i32 ((ak:Nat):Int))),(19,.p 3 0)] dK fun _ _ dL=>?_)
       clear dK
       refine qab (wp_seq (wp_seq (qbo [(2,.v (.bool false)),(7,.p 0 0),(8,.v (.int .i16 v)),(9,.v (.bool (decide (v ≥ 3)))),(10,.p 1 0),(15,.v (.slice (some ⟨ai,0,none⟩) ((lst (T.at_ 3)).length) am)),(16,.v (.int .i32 (((lst (T.at_ 3)).length:Nat):Int))),(17,.v (.int .i32 ((ak:Nat):Int))),(19,.p 3 0),(21,.v (.slice none 0 0))] dL fun _ dM=>?_)))
       clear dL
       refine qab (wp_seq (qbo [(2,.v (.bool false)),(7,.p 0 0),(8,.v (.int .i16 v)),(9,.v (.bool (decide (v ≥ 3)))),(10,.p 1 0),(15,.v (.slice (some ⟨ai,0,none⟩) ((lst (T.at_ 3)).length) am)),(16,.v (.int .i32 (((lst (T.at_ 3)).length:Nat):Int))),(17,.v (.int .i32 ((ak:Nat):Int))),(19,.p 3 0),(22,.v (.slice none 0 0))] dM fun _ dN=>?_))
       clear dM
       refine qab (wp_seq (qbo [(2,.v (.bool false)),(7,.p 0 0),(8,.v (.int .i16 v)),(9,.v (.bool (decide (v ≥ 3)))),(10,.p 1 0),(15,.v (.slice (some ⟨ai,0,none⟩) ((lst (T.at_ 3)).length) am)),(16,.v (.int .i32 (((lst (T.at_ 3)).length:Nat):Int))),(17,.v (.int .i32 ((ak:Nat):Int))),(19,.p 3 0),(22,.v (.slice none 0 0))] dN fun _ dO=>?_))
       clear dN
       refine qab (wp_seq ?_)
       have dP:=dO.cast dz
       clear dO
       have dQ:=dP.cast (t:=(if (decide (v ≥ 3)) = true then (uv ((lst (ag.at_ 1)).length + 1)) else (be 4 (lst (ag.at_ 1)).length)) ++ (((lst (ag.at_ 1)).flatMap (fun E=>be 4 (IntKind.i32.wrap E.N))) ++ aV)) (by rw [List.append_assoc])
       clear dP
       refine qdB (d1:=152) (d2:=153) [(2,.v (.bool false)),(7,.p 0 0),(8,.v (.int .i16 v)),(9,.v (.bool (decide (v ≥ 3)))),(10,.p 1 0),(15,.v (.slice (some ⟨ai,0,none⟩) ((lst (T.at_ 3)).length) am)),(16,.v (.int .i32 (((lst (T.at_ 3)).length:Nat):Int))),(17,.v (.int .i32 ((ak:Nat):Int))),(19,.p 3 0),(22,.v (.slice none 0 0)),(151,.v (.bool (decide (v ≥ 3))))] [(2,.v (.bool false)),(7,.p 0 0),(8,.v (.int .i16 v)),(9,.v (.bool (decide (v ≥ 3)))),(10,.p 1 0),(15,.v (.slice (some ⟨ai,0,none⟩) ((lst (T.at_ 3)).length) am)),(16,.v (.int .i32 (((lst (T.at_ 3)).length:Nat):Int))),(17,.v (.int .i32 ((ak:Nat):Int))),(19,.p 3 0),(22,.v (.slice none 0 0)),(23,.v (.int .i32 (((lst (ag.at_ 1)).length:Nat):Int)))] dQ (qcf ((lst (ag.at_ 1)).length) e152_1 _ (flat_ge' (fun E=>qfN (by decide)) _)) Tryz.call90 (qdP ((lst (ag.at_ 1)).length) e152_1 _ (flat_ge' (fun E=>qfN (by decide)) _)) Tryz.call91 fun _ _ dR=>?_
       clear dQ
       refine qab (wp_seq (wp_seq (qjM (d:=154) [(2,.v (.bool false)),(7,.p 0 0),(8,.v (.int .i16 v)),(9,.v (.bool (decide (v ≥ 3)))),(10,.p 1 0),(15,.v (.slice (some ⟨ai,0,none⟩) ((lst (T.at_ 3)).length) am)),(16,.v (.int .i32 (((lst (T.at_ 3)).length:Nat):Int))),(17,.v (.int .i32 ((ak:Nat):Int))),(19,.p 3 0),(22,.v (.slice none 0 0)),(23,.v (.int .i32 (((lst (ag.at_ 1)).length:Nat):Int))),(155,.v (.bool false))] dR (pOk _) Tryz.call92 fun _ _ cd=>?_)))
       clear dR
       refine qab (qan cd.env_ (b:=false) kz (rfl) ?_)
       refine wp_skip (qab (wp_seq (qfO (t:=87) (e:=21) (size:=1) (bytes:=4) (d:=158) (A0:=none) (m:=0) (cp:=0) [(2,.v (.bool false)),(7,.p 0 0),(8,.v (.int .i16 v)),(9,.v (.bool (decide (v ≥ 3)))),(10,.p 1 0),(15,.v (.slice (some ⟨ai,0,none⟩) ((lst (T.at_ 3)).length) am)),(16,.v (.int .i32 (((lst (T.at_ 3)).length:Nat):Int))),(17,.v (.int .i32 ((ak:Nat):Int))),(19,.p 3 0),(23,.v (.int .i32 (((lst (ag.at_ 1)).length:Nat):Int))),(157,.v (.slice none 0 0))] [(2,.v (.bool false)),(7,.p 0 0),(8,.v (.int .i16 v)),(9,.v (.bool (decide (v ≥ 3)))),(10,.p 1 0),(15,.v (.slice (some ⟨ai,0,none⟩) ((lst (T.at_ 3)).length) am)),(16,.v (.int .i32 (((lst (T.at_ 3)).length:Nat):Int))),(17,.v (.int .i32 ((ak:Nat):Int))),(19,.p 3 0),(22,.v (.slice none 0 0)),(23,.v (.int .i32 (((lst (ag.at_ 1)).length:Nat):Int)))] 1 cd fun _ dS=>?_)))
       clear cd
       refine qab (qeL (Mid:=fun a_ w_=>∃ (ay:DV) (P':qcr),(∀ w F,P' w F → jG w F ∧ (Slots w F 1 ay.A ay.c ay.l (fun i=>[.int .i32 ((ay.f i).n)]) ∧ ay.l ≤ 1000000 ∧ ∀ i,i < ay.l → True) ∧ (ay.l = (lst (ag.at_ 1)).length ∧ ∀ i,i < ay.l → (ay.f i).n = IntKind.i32.wrap ((lst (ag.at_ 1)).getD i .zero).N)) ∧ RS w (fun b o=>b = bv ∧ o < 7) F 345 aO [⟨bv,0,[.int .i16 v,.string ap.s,.int .i64 ar.n,.int .i16 av.n,.slice none 0 0,.slice none 0 0,.map none],true⟩,qbk ai 3 (.agg #[.string ByteArray.empty,.slice none 0 0,.map none]) ((lst (T.at_ 3)).length) (ak + 1),⟨ai,ak * 3,[.string (bs (ag.at_ 0).S),.slice none 0 0,.map none],true⟩] [(2,.v (.bool false)),(7,.p 0 0),(8,.v (.int .i16 v)),(9,.v (.bool (decide (v ≥ 3)))),(10,.p 1 0),(15,.v (.slice (some ⟨ai,0,none⟩) ((lst (T.at_ 3)).length) am)),(16,.v (.int .i32 (((lst (T.at_ 3)).length:Nat):Int))),(17,.v (.int .i32 ((ak:Nat):Int))),(19,.p 3 0),(22,.v (.slice ay.A ay.l ay.c))] P' aV a_ w_) ?_ ?_)
       ·
        refine wp_seq (qbo [(2,.v (.bool false)),(7,.p 0 0),(8,.v (.int .i16 v)),(9,.v (.bool (decide (v ≥ 3)))),(10,.p 1 0),(15,.v (.slice (some ⟨ai,0,none⟩) ((lst (T.at_ 3)).length) am)),(16,.v (.int .i32 (((lst (T.at_ 3)).length:Nat):Int))),(17,.v (.int .i32 ((ak:Nat):Int))),(19,.p 3 0),(22,.v (.slice none 0 0)),(23,.v (.int .i32 (((lst (ag.at_ 1)).length:Nat):Int))),(160,.v (.bool (decide ((((lst (ag.at_ 1)).length:Nat):Int) > 0))))] dS fun _ aW=>qab ?_)
        clear dS
        refine qaw aW.env_ (b:=decide ((((lst (ag.at_ 1)).length:Nat):Int) > 0)) kz (fun bE=>?_) (fun bE=>?_)
        ·
         have hn_g189:0 < (lst (ag.at_ 1)).length:=by have h_:=zD bE; omega
         refine qap [0,1,2,3] kz ?_
         refine qb2 [0,1] [2,3] [(2,.v (.bool false)),(7,.p 0 0),(8,.v (.int .i16 v)),(9,.v (.bool (decide (v ≥ 3)))),(10,.p 1 0),(15,.v (.slice (some ⟨ai,0,none⟩) ((lst (T.at_ 3)).length) am)),(16,.v (.int .i32 (((lst (T.at_ 3)).length:Nat):Int))),(17,.v (.int .i32 ((ak:Nat):Int))),(19,.p 3 0),(23,.v (.int .i32 (((lst (ag.at_ 1)).length:Nat):Int))),(161,.v (.slice none 0 0)),(162,.v (.int .i32 (((lst (ag.at_ 1)).length:Nat):Int)))] aW fun _ dT=>?_
         clear aW
         refine qal (qdv (A0:=none) (d:=163) (t:=87) (tn:=21) (e:=21) (size:=1) (bytes:=4) (k:=.i32) (kn:=.i32) (q:=(((lst (ag.at_ 1)).length:Nat):Int)) (j:=(lst (ag.at_ 1)).length) (.int .i32 0) dT (fun aC aE _ _ hg_g189 hcap_g189 dU=>?_) rfl hn_g189 (by have:=e152_1; omega))
         clear dT
         refine qb2 [3] [] [(2,.v (.bool false)),(7,.p 0 0),(8,.v (.int .i16 v)),(9,.v (.bool (decide (v ≥ 3)))),(10,.p 1 0),(15,.v (.slice (some ⟨ai,0,none⟩) ((lst (T.at_ 3)).length) am)),(16,.v (.int .i32 (((lst (T.at_ 3)).length:Nat):Int))),(17,.v (.int .i32 ((ak:Nat):Int))),(19,.p 3 0),(22,.v (.slice (some ⟨aC,0,none⟩) ((lst (ag.at_ 1)).length) aE)),(23,.v (.int .i32 (((lst (ag.at_ 1)).length:Nat):Int)))] dU fun _ dV=>qae ?_
         clear dU
         refine qab (wp_seq (qbo [(2,.v (.bool false)),(7,.p 0 0),(8,.v (.int .i16 v)),(9,.v (.bool (decide (v ≥ 3)))),(10,.p 1 0),(15,.v (.slice (some ⟨ai,0,none⟩) ((lst (T.at_ 3)).length) am)),(16,.v (.int .i32 (((lst (T.at_ 3)).length:Nat):Int))),(17,.v (.int .i32 ((ak:Nat):Int))),(19,.p 3 0),(22,.v (.slice (some ⟨aC,0,none⟩) ((lst (ag.at_ 1)).length) aE)),(23,.v (.int .i32 (((lst (ag.at_ 1)).length:Nat):Int))),(24,.v (.int .i32 0))] dV fun _ ce=>?_))
         clear dV
         refine qab (wp_block ?_)
         have cm:=ce.mv
         have jI:=(ce.cast (t:=(lst (ag.at_ 1)).flatMap (fun E=>be 4 (IntKind.i32.wrap E.N)) ++ aV) rfl).pk (env':=[(2,.v (.bool false)),(7,.p 0 0),(8,.v (.int .i16 v)),(9,.v (.bool (decide (v ≥ 3)))),(10,.p 1 0),(15,.v (.slice (some ⟨ai,0,none⟩) ((lst (T.at_ 3)).length) am)),(16,.v (.int .i32 (((lst (T.at_ 3)).length:Nat):Int))),(17,.v (.int .i32 ((ak:Nat):Int))),(19,.p 3 0),(22,.v (.slice (some ⟨aC,0,none⟩) ((lst (ag.at_ 1)).length) aE)),(23,.v (.int .i32 (((lst (ag.at_ 1)).length:Nat):Int))),(24,.v (.int .i32 ((0:Nat):Int)))])
         clear ce
         refine qfM (tb:=[⟨bv,0,[.int .i16 v,.string ap.s,.int .i64 ar.n,.int .i16 av.n,.slice none 0 0,.slice none 0 0,.map none],true⟩,qbk ai 3 (.agg #[.string zE,.slice none 0 0,.map none]) ((lst (T.at_ 3)).length) (ak + 1),⟨ai,ak * 3,(z29 ag),true⟩]) (z:=.int .i32 0) (cl:=(fun d=>[.int .i32 d.n])) (ok:=qhh) (rel:=(fun d t=>d.n = IntKind.i32.wrap t.N)) (L:=lst (ag.at_ 1)) (size:=1) (fun E=>be 4 (IntKind.i32.wrap E.N)) aV (fun k=>[(2,.v (.bool false)),(7,.p 0 0),(8,.v (.int .i16 v)),(9,.v (.bool (decide (v ≥ 3)))),(10,.p 1 0),(15,.v (.slice (some ⟨ai,0,none⟩) ((lst (T.at_ 3)).length) am)),(16,.v (.int .i32 (((lst (T.at_ 3)).length:Nat):Int))),(17,.v (.int .i32 ((ak:Nat):Int))),(19,.p 3 0),(22,.v (.slice (some ⟨aC,0,none⟩) ((lst (ag.at_ 1)).length) aE)),(23,.v (.int .i32 (((lst (ag.at_ 1)).length:Nat):Int))),(24,.v (.int .i32 ((k:Nat):Int)))]) jI qgb (fun aF bt _ _ jJ jK dW=>?_) (fun _ _ dX=>?_)
         ·
          obtain ⟨lb,dY,dZ⟩:∃ P',(∀ w F,P' w F → (jG w F ∧ qe9 aC 1 (fun d=>[.int .i32 d.n]) qhh (fun d t=>d.n = IntKind.i32.wrap t.N) (lst (ag.at_ 1)) aF w F)) ∧ RS w (fun b o=>b = bv ∧ o < 7) F 345 aO [⟨bv,0,[.int .i16 v,.string ap.s,.int .i64 ar.n,.int .i16 av.n,.slice none 0 0,.slice none 0 0,.map none],true⟩,qbk ai 3 (.agg #[.string ByteArray.empty,.slice none 0 0,.map none]) ((lst (T.at_ 3)).length) (ak + 1),⟨ai,ak * 3,[.string (bs (ag.at_ 0).S),.slice none 0 0,.map none],true⟩,qbk aC 1 (.int .i32 0) ((lst (ag.at_ 1)).length) aF] [(2,.v (.bool false)),(7,.p 0 0),(8,.v (.int .i16 v)),(9,.v (.bool (decide (v ≥ 3)))),(10,.p 1 0),(15,.v (.slice (some ⟨ai,0,none⟩) ((lst (T.at_ 3)).length) am)),(16,.v (.int .i32 (((lst (T.at_ 3)).length:Nat):Int))),(17,.v (.int .i32 ((ak:Nat):Int))),(19,.p 3 0),(22,.v (.slice (some ⟨aC,0,none⟩) ((lst (ag.at_ 1)).length) aE)),(23,.v (.int .i32 (((lst (ag.at_ 1)).length:Nat):Int))),(24,.v (.int .i32 ((aF:Nat):Int)))] P' ((fun E=>be 4 (IntKind.i32.wrap E.N)) bt ++ (((lst (ag.at_ 1)).drop (aF + 1)).flatMap (fun E=>be 4 (IntKind.i32.wrap E.N)) ++ aV)) _ _:=⟨_,fun _ _ h=>h,dW⟩
          clear dW
          obtain ⟨jL,d5⟩:∃ R,R = ((lst (ag.at_ 1)).drop (aF + 1)).flatMap (fun E=>be 4 (IntKind.i32.wrap E.N)) ++ aV:=⟨_,rfl⟩
          have d6:=dZ.cast (t:=(fun E=>be 4 (IntKind.i32.wrap E.N)) bt ++ jL) (by rw [d5])
          clear dZ
          have d7:=d6.cast (t:=(be 4 (IntKind.i32.wrap bt.N)) ++ jL) rfl
          clear d6
          refine wp_seq (wp_seq (qbo [(2,.v (.bool false)),(7,.p 0 0),(8,.v (.int .i16 v)),(9,.v (.bool (decide (v ≥ 3)))),(10,.p 1 0),(15,.v (.slice (some ⟨ai,0,none⟩) ((lst (T.at_ 3)).length) am)),(16,.v (.int .i32 (((lst (T.at_ 3)).length:Nat):Int))),(17,.v (.int .i32 ((ak:Nat):Int))),(19,.p 3 0),(22,.v (.slice (some ⟨aC,0,none⟩) ((lst (ag.at_ 1)).length) aE)),(23,.v (.int .i32 (((lst (ag.at_ 1)).length:Nat):Int))),(24,.v (.int .i32 ((aF:Nat):Int))),(166,.v (.bool (decide (((aF:Nat):Int) < (((lst (ag.at_ 1)).length:Nat):Int)))))] d7 fun _ cq=>qab ?_))
          clear d7
          refine qa7 cq.env_ (b:=decide (((aF:Nat):Int) < (((lst (ag.at_ 1)).length:Nat):Int))) kz (decide_eq_true (by omega)) ?_
          refine wp_skip (qab (wp_seq (wp_block (wp_seq (qej (d:=169) [(2,.v (.bool false)),(7,.p 0 0),(8,.v (.int .i16 v)),(9,.v (.bool (decide (v ≥ 3)))),(10,.p 1 0),(15,.v (.slice (some ⟨ai,0,none⟩) ((lst (T.at_ 3)).length) am)),(16,.v (.int .i32 (((lst (T.at_ 3)).length:Nat):Int))),(17,.v (.int .i32 ((ak:Nat):Int))),(19,.p 3 0),(22,.v (.slice (some ⟨aC,0,none⟩) ((lst (ag.at_ 1)).length) aE)),(23,.v (.int .i32 (((lst (ag.at_ 1)).length:Nat):Int))),(24,.v (.int .i32 ((aF:Nat):Int))),(25,.v (.int .i32 (IntKind.i32.wrap bt.N)))] cq (qkJ _ _) Tryz.call95 fun _ _ d8=>?_)))))
          clear cq
          refine qab (qap [0,1,2,3,4] kz ?_)
          refine qb2 [0,1,2] [3,4] [(2,.v (.bool false)),(7,.p 0 0),(8,.v (.int .i16 v)),(9,.v (.bool (decide (v ≥ 3)))),(10,.p 1 0),(15,.v (.slice (some ⟨ai,0,none⟩) ((lst (T.at_ 3)).length) am)),(16,.v (.int .i32 (((lst (T.at_ 3)).length:Nat):Int))),(17,.v (.int .i32 ((ak:Nat):Int))),(19,.p 3 0),(22,.v (.slice (some ⟨aC,0,none⟩) ((lst (ag.at_ 1)).length) aE)),(23,.v (.int .i32 (((lst (ag.at_ 1)).length:Nat):Int))),(24,.v (.int .i32 ((aF:Nat):Int))),(170,.v (.slice (some ⟨aC,0,none⟩) ((lst (ag.at_ 1)).length) aE)),(171,.v (.int .i32 ((aF:Nat):Int))),(172,.v (.int .i32 (IntKind.i32.wrap bt.N)))] d8 fun _ d9=>?_
          clear d8
          refine qal (qgz (t:=87) (e:=21) (size:=1) (bytes:=4) (d:=173) (tb:=[⟨bv,0,[.int .i16 v,.string ap.s,.int .i64 ar.n,.int .i16 av.n,.slice none 0 0,.slice none 0 0,.map none],true⟩,qbk ai 3 (.agg #[.string zE,.slice none 0 0,.map none]) ((lst (T.at_ 3)).length) (ak + 1),⟨ai,ak * 3,(z29 ag),true⟩]) (z:=.int .i32 0) d9 jK rfl kz fun _ ea=>?_)
          clear d9
          refine qal (qd9 [⟨bv,0,[.int .i16 v,.string ap.s,.int .i64 ar.n,.int .i16 av.n,.slice none 0 0,.slice none 0 0,.map none],true⟩,qbk ai 3 (.agg #[.string zE,.slice none 0 0,.map none]) ((lst (T.at_ 3)).length) (ak + 1),⟨ai,ak * 3,(z29 ag),true⟩,qbk aC 1 (.int .i32 0) ((lst (ag.at_ 1)).length) (aF + 1),⟨aC,aF * 1,[.int .i32 (IntKind.i32.wrap bt.N)],true⟩] 4 ea fun _ eb=>qae ?_)
          clear ea
          have ec:=eb.pk (env':=[(2,.v (.bool false)),(7,.p 0 0),(8,.v (.int .i16 v)),(9,.v (.bool (decide (v ≥ 3)))),(10,.p 1 0),(15,.v (.slice (some ⟨ai,0,none⟩) ((lst (T.at_ 3)).length) am)),(16,.v (.int .i32 (((lst (T.at_ 3)).length:Nat):Int))),(17,.v (.int .i32 ((ak:Nat):Int))),(19,.p 3 0),(22,.v (.slice (some ⟨aC,0,none⟩) ((lst (ag.at_ 1)).length) aE)),(23,.v (.int .i32 (((lst (ag.at_ 1)).length:Nat):Int))),(24,.v (.int .i32 ((aF:Nat):Int)))])
          clear eb
          refine qar (qab (qbo [(2,.v (.bool false)),(7,.p 0 0),(8,.v (.int .i16 v)),(9,.v (.bool (decide (v ≥ 3)))),(10,.p 1 0),(15,.v (.slice (some ⟨ai,0,none⟩) ((lst (T.at_ 3)).length) am)),(16,.v (.int .i32 (((lst (T.at_ 3)).length:Nat):Int))),(17,.v (.int .i32 ((ak:Nat):Int))),(19,.p 3 0),(22,.v (.slice (some ⟨aC,0,none⟩) ((lst (ag.at_ 1)).length) aE)),(23,.v (.int .i32 (((lst (ag.at_ 1)).length:Nat):Int))),(24,.v (.int .i32 (IntKind.i32.wrap (((aF:Nat):Int) + 1))))] ec fun _ ee=>?_))
          clear ec
          refine qab ?_
          have jM:=(ee.envEq (env':=[(2,.v (.bool false)),(7,.p 0 0),(8,.v (.int .i16 v)),(9,.v (.bool (decide (v ≥ 3)))),(10,.p 1 0),(15,.v (.slice (some ⟨ai,0,none⟩) ((lst (T.at_ 3)).length) am)),(16,.v (.int .i32 (((lst (T.at_ 3)).length:Nat):Int))),(17,.v (.int .i32 ((ak:Nat):Int))),(19,.p 3 0),(22,.v (.slice (some ⟨aC,0,none⟩) ((lst (ag.at_ 1)).length) aE)),(23,.v (.int .i32 (((lst (ag.at_ 1)).length:Nat):Int))),(24,.v (.int .i32 ((aF + 1:Nat):Int)))]) (by rw [qeN (by have:=e152_1; omega)])).pk (env':=[(2,.v (.bool false)),(7,.p 0 0),(8,.v (.int .i16 v)),(9,.v (.bool (decide (v ≥ 3)))),(10,.p 1 0),(15,.v (.slice (some ⟨ai,0,none⟩) ((lst (T.at_ 3)).length) am)),(16,.v (.int .i32 (((lst (T.at_ 3)).length:Nat):Int))),(17,.v (.int .i32 ((ak:Nat):Int))),(19,.p 3 0),(22,.v (.slice (some ⟨aC,0,none⟩) ((lst (ag.at_ 1)).length) aE)),(23,.v (.int .i32 (((lst (ag.at_ 1)).length:Nat):Int))),(24,.v (.int .i32 ((aF + 1:Nat):Int)))])
          clear ee
          exact (RS.thing (tb:=[⟨bv,0,[.int .i16 v,.string ap.s,.int .i64 ar.n,.int .i16 av.n,.slice none 0 0,.slice none 0 0,.map none],true⟩,qbk ai 3 (.agg #[.string ByteArray.empty,.slice none 0 0,.map none]) ((lst (T.at_ 3)).length) (ak + 1),⟨ai,ak * 3,[.string (bs (ag.at_ 0).S),.slice none 0 0,.map none],true⟩]) (z:=.int .i32 0) (D:=dvN (IntKind.i32.wrap bt.N)) (jM.cast d5) hg_g189 jJ qgb cm rfl (fun w F h_=>⟨(dY _ _ h_).1,(dY _ _ h_).2,trivial,rfl⟩) kz)
         refine wp_seq (wp_seq (qbo [(2,.v (.bool false)),(7,.p 0 0),(8,.v (.int .i16 v)),(9,.v (.bool (decide (v ≥ 3)))),(10,.p 1 0),(15,.v (.slice (some ⟨ai,0,none⟩) ((lst (T.at_ 3)).length) am)),(16,.v (.int .i32 (((lst (T.at_ 3)).length:Nat):Int))),(17,.v (.int .i32 ((ak:Nat):Int))),(19,.p 3 0),(22,.v (.slice (some ⟨aC,0,none⟩) ((lst (ag.at_ 1)).length) aE)),(23,.v (.int .i32 (((lst (ag.at_ 1)).length:Nat):Int))),(24,.v (.int .i32 (((lst (ag.at_ 1)).length:Nat):Int))),(166,.v (.bool (decide ((((lst (ag.at_ 1)).length:Nat):Int) < (((lst (ag.at_ 1)).length:Nat):Int)))))] dX fun _ ef=>qab ?_))
         clear dX
         refine qan ef.env_ (b:=decide ((((lst (ag.at_ 1)).length:Nat):Int) < (((lst (ag.at_ 1)).length:Nat):Int))) kz (decide_eq_false (by omega)) ?_
         refine wp_exit (qau (qau (qaI (qab ?_))))
         obtain ⟨kI,jN⟩:=RS.listEnd (tb:=[⟨bv,0,[.int .i16 v,.string ap.s,.int .i64 ar.n,.int .i16 av.n,.slice none 0 0,.slice none 0 0,.map none],true⟩,qbk ai 3 (.agg #[.string zE,.slice none 0 0,.map none]) ((lst (T.at_ 3)).length) (ak + 1),⟨ai,ak * 3,(z29 ag),true⟩]) (c:=aE) (ef.pk (env':=[(2,.v (.bool false)),(7,.p 0 0),(8,.v (.int .i16 v)),(9,.v (.bool (decide (v ≥ 3)))),(10,.p 1 0),(15,.v (.slice (some ⟨ai,0,none⟩) ((lst (T.at_ 3)).length) am)),(16,.v (.int .i32 (((lst (T.at_ 3)).length:Nat):Int))),(17,.v (.int .i32 ((ak:Nat):Int))),(19,.p 3 0),(22,.v (.slice (some ⟨aC,0,none⟩) ((lst (ag.at_ 1)).length) aE))])) hg_g189 qgb cm hcap_g189 (by have:=e152_1; omega) hn_g189 kz
         exact ⟨dvL (some ⟨aC,0,none⟩) (lst (ag.at_ 1)).length aE kI,_,fun w F h_=>⟨h_.1,⟨h_.2.1,Nat.le_trans e152_1 (by decide),h_.2.2.1⟩,⟨rfl,h_.2.2.2⟩⟩,jN⟩
        refine wp_skip (qab (wp_seq (qbo [(2,.v (.bool false)),(7,.p 0 0),(8,.v (.int .i16 v)),(9,.v (.bool (decide (v ≥ 3)))),(10,.p 1 0),(15,.v (.slice (some ⟨ai,0,none⟩) ((lst (T.at_ 3)).length) am)),(16,.v (.int .i32 (((lst (T.at_ 3)).length:Nat):Int))),(17,.v (.int .i32 ((ak:Nat):Int))),(19,.p 3 0),(22,.v (.slice none 0 0)),(23,.v (.int .i32 (((lst (ag.at_ 1)).length:Nat):Int))),(24,.v (.int .i32 0))] aW fun _ eg=>?_)))
        clear aW
        refine qab (wp_block (qea (wp_seq (wp_seq (qbo [(2,.v (.bool false)),(7,.p 0 0),(8,.v (.int .i16 v)),(9,.v (.bool (decide (v ≥ 3)))),(10,.p 1 0),(15,.v (.slice (some ⟨ai,0,none⟩) ((lst (T.at_ 3)).length) am)),(16,.v (.int .i32 (((lst (T.at_ 3)).length:Nat):Int))),(17,.v (.int .i32 ((ak:Nat):Int))),(19,.p 3 0),(22,.v (.slice none 0 0)),(23,.v (.int .i32 (((lst (ag.at_ 1)).length:Nat):Int))),(24,.v (.int .i32 0)),(166,.v (.bool (decide (0 < (((lst (ag.at_ 1)).length:Nat):Int)))))] eg fun _ eh=>qab ?_)))))
        clear eg
        refine qan eh.env_ (b:=decide (0 < (((lst (ag.at_ 1)).length:Nat):Int))) kz (decide_eq_false (by have h_:=zF bE; omega)) ?_
        refine wp_exit (qau (qau (qaI (qab ?_))))
        have hz_:(lst (ag.at_ 1)).length = 0:=by have h_:=zF bE; omega
        exact ⟨dvL none 0 0 (fun _=>dv0),_,fun w F h_=>⟨h_,⟨Slots.nil _ _ _ _,Nat.zero_le _,fun _ h=>absurd h (Nat.not_lt_zero _)⟩,⟨hz_.symm,fun _ h=>absurd h (Nat.not_lt_zero _)⟩⟩,(eh.cast (t:=aV) (by rw [List.eq_nil_of_length_eq_zero hz_]; rfl)).pk (env':=[(2,.v (.bool false)),(7,.p 0 0),(8,.v (.int .i16 v)),(9,.v (.bool (decide (v ≥ 3)))),(10,.p 1 0),(15,.v (.slice (some ⟨ai,0,none⟩) ((lst (T.at_ 3)).length) am)),(16,.v (.int .i32 (((lst (T.at_ 3)).length:Nat):Int))),(17,.v (.int .i32 ((ak:Nat):Int))),(19,.p 3 0),(22,.v (.slice none 0 0))])⟩
       rintro _ _ ⟨ay,kJ,bF,ei⟩
       refine wp_seq (qbo [(2,.v (.bool false)),(7,.p 0 0),(8,.v (.int .i16 v)),(9,.v (.bool (decide (v ≥ 3)))),(10,.p 1 0),(15,.v (.slice (some ⟨ai,0,none⟩) ((lst (T.at_ 3)).length) am)),(16,.v (.int .i32 (((lst (T.at_ 3)).length:Nat):Int))),(17,.v (.int .i32 ((ak:Nat):Int))),(19,.p 3 0),(21,.v (.slice ay.A ay.l ay.c))] ei fun _ ej=>?_)
       clear ei
       refine qab (qdl [⟨bv,0,[.int .i16 v,.string ap.s,.int .i64 ar.n,.int .i16 av.n,.slice none 0 0,.slice none 0 0,.map none],true⟩,qbk ai 3 (.agg #[.string zE,.slice none 0 0,.map none]) ((lst (T.at_ 3)).length) (ak + 1),⟨ai,ak * 3,[.string (bs (ag.at_ 0).S),.slice ay.A ay.l ay.c,.map none],true⟩] 2 [(2,.v (.bool false)),(7,.p 0 0),(8,.v (.int .i16 v)),(9,.v (.bool (decide (v ≥ 3)))),(10,.p 1 0),(15,.v (.slice (some ⟨ai,0,none⟩) ((lst (T.at_ 3)).length) am)),(16,.v (.int .i32 (((lst (T.at_ 3)).length:Nat):Int))),(17,.v (.int .i32 ((ak:Nat):Int))),(19,.p 3 0)] ej fun _ _ ek=>?_)
       clear ej
       refine qab ?_
       have em:=ek.cast dy
       clear ek
       refine qcV (Mid:=fun a_ w_=>∃ (cW:Option Nat) (bu:List (Int × Bs)) (P':qcr),(∀ w F,P' w F → kJ w F ∧ (MapR w F cW bu ∧ bu.length ≤ 1000000 ∧ ∀ x ∈ bu,x.2.length < 4294967296) ∧ ((decide (v ≥ 3)) = true → bu = ag.U) ∧ ((decide (v ≥ 3)) = false → bu = [])) ∧ RS w (fun b o=>b = bv ∧ o < 7) F 345 aO [⟨bv,0,[.int .i16 v,.string ap.s,.int .i64 ar.n,.int .i16 av.n,.slice none 0 0,.slice none 0 0,.map none],true⟩,qbk ai 3 (.agg #[.string ByteArray.empty,.slice none 0 0,.map none]) ((lst (T.at_ 3)).length) (ak + 1),⟨ai,ak * 3,[.string (bs (ag.at_ 0).S),.slice ay.A ay.l ay.c,.map cW],true⟩] [(2,.v (.bool false)),(7,.p 0 0),(8,.v (.int .i16 v)),(9,.v (.bool (decide (v ≥ 3)))),(10,.p 1 0),(15,.v (.slice (some ⟨ai,0,none⟩) ((lst (T.at_ 3)).length) am)),(16,.v (.int .i32 (((lst (T.at_ 3)).length:Nat):Int))),(17,.v (.int .i32 ((ak:Nat):Int)))] P' bY a_ w_) ?_ ?_
       ·
        refine wp_seq (qbo [(2,.v (.bool false)),(7,.p 0 0),(8,.v (.int .i16 v)),(9,.v (.bool (decide (v ≥ 3)))),(10,.p 1 0),(15,.v (.slice (some ⟨ai,0,none⟩) ((lst (T.at_ 3)).length) am)),(16,.v (.int .i32 (((lst (T.at_ 3)).length:Nat):Int))),(17,.v (.int .i32 ((ak:Nat):Int))),(19,.p 3 0),(179,.v (.bool (decide (v ≥ 3))))] em fun _ aX=>qab ?_)
        clear em
        refine qaw aX.env_ (b:=decide (v ≥ 3)) kz (fun aY=>?_) (fun aY=>?_)
        ·
         have eo:=aX.cast (t:=((uv ag.U.length) ++ (qct ag.U)) ++ bY) (by rw [if_pos aY])
         clear aX
         refine qap [0,1,2,3,4] kz ?_
         refine qb2 [0] [1,2,3,4] [(2,.v (.bool false)),(7,.p 0 0),(8,.v (.int .i16 v)),(9,.v (.bool (decide (v ≥ 3)))),(10,.p 1 0),(15,.v (.slice (some ⟨ai,0,none⟩) ((lst (T.at_ 3)).length) am)),(16,.v (.int .i32 (((lst (T.at_ 3)).length:Nat):Int))),(17,.v (.int .i32 ((ak:Nat):Int))),(180,.p 3 0)] eo fun _ ep=>?_
         clear eo
         refine qal (qgx (d:=181) ep (qkl ag.U e152_U (qeI e152r) _) (fun _=>MvF.tags _ _) Tryz.call96 fun iO lc _ _ eu ev=>?_)
         clear ep
         refine qb2 [2,3] [4] [(2,.v (.bool false)),(7,.p 0 0),(8,.v (.int .i16 v)),(9,.v (.bool (decide (v ≥ 3)))),(10,.p 1 0),(15,.v (.slice (some ⟨ai,0,none⟩) ((lst (T.at_ 3)).length) am)),(16,.v (.int .i32 (((lst (T.at_ 3)).length:Nat):Int))),(17,.v (.int .i32 ((ak:Nat):Int))),(181,.v (.agg #[.map iO])),(183,.p 3 2)] ev fun _ ew=>?_
         clear ev
         refine qal (qd9 [⟨bv,0,[.int .i16 v,.string ap.s,.int .i64 ar.n,.int .i16 av.n,.slice none 0 0,.slice none 0 0,.map none],true⟩,qbk ai 3 (.agg #[.string zE,.slice none 0 0,.map none]) ((lst (T.at_ 3)).length) (ak + 1),⟨ai,ak * 3,[.string (bs (ag.at_ 0).S),.slice ay.A ay.l ay.c,.map iO],true⟩] 2 ew fun _ ey=>?_)
         clear ew
         refine qae ?_
         have jO:=ey.pk (env':=[(2,.v (.bool false)),(7,.p 0 0),(8,.v (.int .i16 v)),(9,.v (.bool (decide (v ≥ 3)))),(10,.p 1 0),(15,.v (.slice (some ⟨ai,0,none⟩) ((lst (T.at_ 3)).length) am)),(16,.v (.int .i32 (((lst (T.at_ 3)).length:Nat):Int))),(17,.v (.int .i32 ((ak:Nat):Int)))])
         clear ey
         refine qab ?_
         exact ⟨iO,ag.U,_,fun w F h_=>⟨(eu _ _ h_).1,⟨(eu _ _ h_).2,e152_U.2.1,e152_U.2.2⟩,⟨fun _=>rfl,(fun e_=>by rw [aY] at e_; cases e_)⟩⟩,jO.pk (env':=[(2,.v (.bool false)),(7,.p 0 0),(8,.v (.int .i16 v)),(9,.v (.bool (decide (v ≥ 3)))),(10,.p 1 0),(15,.v (.slice (some ⟨ai,0,none⟩) ((lst (T.at_ 3)).length) am)),(16,.v (.int .i32 (((lst (T.at_ 3)).length:Nat):Int))),(17,.v (.int .i32 ((ak:Nat):Int)))])⟩
        have ez:=aX.cast (t:=[] ++ bY) (by rw [if_neg (by rw [aY]; decide)])
        clear aX
        have jP:=ez.cast (t:=bY) rfl
        clear ez
        refine wp_skip (qab ?_)
        exact ⟨none,[],_,fun w F h_=>⟨h_,⟨MapR.nil _ _,Nat.zero_le _,fun _ h=>by cases h⟩,⟨(fun e_=>by rw [aY] at e_; cases e_),fun _=>rfl⟩⟩,jP.pk (env':=[(2,.v (.bool false)),(7,.p 0 0),(8,.v (.int .i16 v)),(9,.v (.bool (decide (v ≥ 3)))),(10,.p 1 0),(15,.v (.slice (some ⟨ai,0,none⟩) ((lst (T.at_ 3)).length) am)),(16,.v (.int .i32 (((lst (T.at_ 3)).length:Nat):Int))),(17,.v (.int .i32 ((ak:Nat):Int)))])⟩
       rintro _ _ ⟨cW,bu,ld,aK,eB⟩
       refine qar (qab (qbo [(2,.v (.bool false)),(7,.p 0 0),(8,.v (.int .i16 v)),(9,.v (.bool (decide (v ≥ 3)))),(10,.p 1 0),(15,.v (.slice (some ⟨ai,0,none⟩) ((lst (T.at_ 3)).length) am)),(16,.v (.int .i32 (((lst (T.at_ 3)).length:Nat):Int))),(17,.v (.int .i32 (IntKind.i32.wrap (((ak:Nat):Int) + 1))))] eB fun _ eC=>?_))
       clear eB
       refine qab ?_
       have jQ:=(eC.envEq (env':=[(2,.v (.bool false)),(7,.p 0 0),(8,.v (.int .i16 v)),(9,.v (.bool (decide (v ≥ 3)))),(10,.p 1 0),(15,.v (.slice (some ⟨ai,0,none⟩) ((lst (T.at_ 3)).length) am)),(16,.v (.int .i32 (((lst (T.at_ 3)).length:Nat):Int))),(17,.v (.int .i32 ((ak + 1:Nat):Int)))]) (by rw [qeN (by have:=e26_3; omega)])).pk (env':=[(2,.v (.bool false)),(7,.p 0 0),(8,.v (.int .i16 v)),(9,.v (.bool (decide (v ≥ 3)))),(10,.p 1 0),(15,.v (.slice (some ⟨ai,0,none⟩) ((lst (T.at_ 3)).length) am)),(16,.v (.int .i32 (((lst (T.at_ 3)).length:Nat):Int))),(17,.v (.int .i32 ((ak + 1:Nat):Int)))])
       clear eC
       exact (RS.thing (tb:=[⟨bv,0,[.int .i16 v,.string ap.s,.int .i64 ar.n,.int .i16 av.n,.slice none 0 0,.slice none 0 0,.map none],true⟩]) (z:=.agg #[.string ByteArray.empty,.slice none 0 0,.map none]) (D:=(dvP cW bu [dvS (bs (ag.at_ 0).S),ay])) (jQ.cast dx) hg_g133 bX qa5 bW rfl (fun w F h_=>⟨(dv _ _ (bF _ _ (aK _ _ h_).1).1).1,(dv _ _ (bF _ _ (aK _ _ h_).1).1).2,⟨(by show ByteArray.size (bs _) ≤ 1000000; rw [qgq]; exact Nat.le_trans e152_0 (by decide)),((bF _ _ (aK _ _ h_).1).2.1),(aK _ _ h_).2.1.1,(aK _ _ h_).2.1.2.1,(aK _ _ h_).2.1.2.2,trivial⟩,⟨(rfl),((bF _ _ (aK _ _ h_).1).2.2),(aK _ _ h_).2.2,trivial⟩⟩) kz)
      refine wp_seq (wp_seq (qbo [(2,.v (.bool false)),(7,.p 0 0),(8,.v (.int .i16 v)),(9,.v (.bool (decide (v ≥ 3)))),(10,.p 1 0),(15,.v (.slice (some ⟨ai,0,none⟩) ((lst (T.at_ 3)).length) am)),(16,.v (.int .i32 (((lst (T.at_ 3)).length:Nat):Int))),(17,.v (.int .i32 (((lst (T.at_ 3)).length:Nat):Int))),(126,.v (.bool (decide ((((lst (T.at_ 3)).length:Nat):Int) < (((lst (T.at_ 3)).length:Nat):Int)))))] du fun _ eD=>qab ?_))
      clear du
      refine qan eD.env_ (b:=decide ((((lst (T.at_ 3)).length:Nat):Int) < (((lst (T.at_ 3)).length:Nat):Int))) kz (decide_eq_false (by omega)) ?_
      refine wp_exit (qau (qau (qaI (qab ?_))))
      obtain ⟨kK,jR⟩:=RS.listEnd (tb:=[⟨bv,0,[.int .i16 v,.string ap.s,.int .i64 ar.n,.int .i16 av.n,.slice none 0 0,.slice none 0 0,.map none],true⟩]) (c:=am) (eD.pk (env':=[(2,.v (.bool false)),(7,.p 0 0),(8,.v (.int .i16 v)),(9,.v (.bool (decide (v ≥ 3)))),(10,.p 1 0),(15,.v (.slice (some ⟨ai,0,none⟩) ((lst (T.at_ 3)).length) am))])) hg_g133 qa5 bW hcap_g133 (by have:=e26_3; omega) hn_g133 kz
      exact ⟨dvL (some ⟨ai,0,none⟩) (lst (T.at_ 3)).length am kK,_,fun w F h_=>⟨h_.1,⟨h_.2.1,Nat.le_trans e26_3 (by decide),h_.2.2.1⟩,⟨rfl,h_.2.2.2⟩⟩,jR⟩
     refine wp_skip (qab (wp_seq (qbo [(2,.v (.bool false)),(7,.p 0 0),(8,.v (.int .i16 v)),(9,.v (.bool (decide (v ≥ 3)))),(10,.p 1 0),(15,.v (.slice none 0 0)),(16,.v (.int .i32 (((lst (T.at_ 3)).length:Nat):Int))),(17,.v (.int .i32 0))] aU fun _ eE=>?_)))
     clear aU
     refine qab (wp_block (qea (wp_seq (wp_seq (qbo [(2,.v (.bool false)),(7,.p 0 0),(8,.v (.int .i16 v)),(9,.v (.bool (decide (v ≥ 3)))),(10,.p 1 0),(15,.v (.slice none 0 0)),(16,.v (.int .i32 (((lst (T.at_ 3)).length:Nat):Int))),(17,.v (.int .i32 0)),(126,.v (.bool (decide (0 < (((lst (T.at_ 3)).length:Nat):Int)))))] eE fun _ eF=>qab ?_)))))
     clear eE
     refine qan eF.env_ (b:=decide (0 < (((lst (T.at_ 3)).length:Nat):Int))) kz (decide_eq_false (by have h_:=zF bD; omega)) ?_
     refine wp_exit (qau (qau (qaI (qab ?_))))
     have hz_:(lst (T.at_ 3)).length = 0:=by have h_:=zF bD; omega
     exact ⟨dvL none 0 0 (fun _=>dv0),_,fun w F h_=>⟨h_,⟨Slots.nil _ _ _ _,Nat.zero_le _,fun _ h=>absurd h (Nat.not_lt_zero _)⟩,⟨hz_.symm,fun _ h=>absurd h (Nat.not_lt_zero _)⟩⟩,(eF.cast (t:=bB) (by rw [List.eq_nil_of_length_eq_zero hz_]; rfl)).pk (env':=[(2,.v (.bool false)),(7,.p 0 0),(8,.v (.int .i16 v)),(9,.v (.bool (decide (v ≥ 3)))),(10,.p 1 0),(15,.v (.slice none 0 0))])⟩
    rintro _ _ ⟨aA,lf,cr,eG⟩
    refine wp_seq (qbo [(2,.v (.bool false)),(7,.p 0 0),(8,.v (.int .i16 v)),(9,.v (.bool (decide (v ≥ 3)))),(10,.p 1 0),(14,.v (.slice aA.A aA.l aA.c))] eG fun _ eH=>?_)
    clear eG
    refine qab (qdl [⟨bv,0,[.int .i16 v,.string ap.s,.int .i64 ar.n,.int .i16 av.n,.slice aA.A aA.l aA.c,.slice none 0 0,.map none],true⟩] 0 [(2,.v (.bool false)),(7,.p 0 0),(8,.v (.int .i16 v)),(9,.v (.bool (decide (v ≥ 3)))),(10,.p 1 0)] eH fun _ _ jS=>?_)
    clear eH
    refine qab ?_
    exact ⟨aA,_,fun w F h_=>⟨(cr _ _ h_).1,(cr _ _ h_).2.1,⟨fun _=>(cr _ _ h_).2.2,(fun e_=>by simp [aJ,aT] at e_)⟩⟩,jS.pk (env':=[(2,.v (.bool false)),(7,.p 0 0),(8,.v (.int .i16 v)),(9,.v (.bool (decide (v ≥ 3)))),(10,.p 1 0)])⟩
   have eI:=aS.cast (t:=[] ++ bB) (by rw [if_neg (by simp only [aJ,aT,if_true,if_false,Bool.false_eq_true]; try decide)])
   clear aS
   have jT:=eI.cast (t:=bB) rfl
   clear eI
   refine wp_skip (qab ?_)
   exact ⟨dvL none 0 0 (fun _=>dv0),_,fun w F h_=>⟨h_,⟨Slots.nil _ _ _ _,Nat.zero_le _,fun _ h=>absurd h (Nat.not_lt_zero _)⟩,⟨(fun e_=>by simp [aJ,aT] at e_),fun _=>⟨rfl,rfl⟩⟩⟩,jT.pk (env':=[(2,.v (.bool false)),(7,.p 0 0),(8,.v (.int .i16 v)),(9,.v (.bool (decide (v ≥ 3)))),(10,.p 1 0)])⟩
  have eJ:=bC.envEq (env':=[(2,.v (.bool false)),(7,.p 0 0),(8,.v (.int .i16 v)),(9,.v (.bool (decide (v ≥ 3)))),(10,.p 1 0),(102,.v (.bool false))]) (by rw [aJ])
  clear bC
  refine qb2 [3,4,5] [] [(2,.v (.bool false)),(7,.p 0 0),(8,.v (.int .i16 v)),(9,.v (.bool (decide (v ≥ 3)))),(10,.p 1 0),(105,.v (.bool false))] eJ fun _ cu=>qae (qab ?_)
  clear eJ
  refine qan cu.env_ (b:=false) kz rfl ?_
  have eK:=cu.cast (t:=[] ++ bB) (by rw [if_neg (by simp only [aJ,if_true,if_false,Bool.false_eq_true]; try decide)])
  clear cu
  have jU:=eK.cast (t:=bB) rfl
  clear eK
  refine wp_skip (qab ?_)
  exact ⟨dvL none 0 0 (fun _=>dv0),_,fun w F h_=>⟨h_,⟨Slots.nil _ _ _ _,Nat.zero_le _,fun _ h=>absurd h (Nat.not_lt_zero _)⟩,⟨(fun e_=>by simp [aJ] at e_),fun _=>⟨rfl,rfl⟩⟩⟩,jU.pk (env':=[(2,.v (.bool false)),(7,.p 0 0),(8,.v (.int .i16 v)),(9,.v (.bool (decide (v ≥ 3)))),(10,.p 1 0)])⟩
 rintro _ _ ⟨ae,iP,aL,eL⟩
 refine qab (wp_seq ?_)
 have eM:=eL.cast iV
 clear eL
 refine qcV (Mid:=fun a_ w_=>∃ (aw:DV) (P':qcr),(∀ w F,P' w F → iP w F ∧ (Slots w F 6 aw.A aw.c aw.l (fun i=>[.string (((aw.f i).f 0).s),.int .i64 (((aw.f i).f 1).n),.int .i16 (((aw.f i).f 2).n),.bool (((aw.f i).f 3).b),.slice (((aw.f i).f 4).A) (((aw.f i).f 4).l) (((aw.f i).f 4).c),.map ((aw.f i).m)]) ∧ aw.l ≤ 1000000 ∧ ∀ i,i < aw.l → qaL w F (aw.f i)) ∧ ((decide (v ≥ 4)) = true → (aw.l = (lst (T.at_ 4)).length ∧ ∀ i,i < aw.l → qaZ v (aw.f i) ((lst (T.at_ 4)).getD i .zero))) ∧ ((decide (v ≥ 4)) = false → (aw.A = none ∧ aw.l = 0))) ∧ RS w (fun b o=>b = bv ∧ o < 7) F 345 aO [⟨bv,0,[.int .i16 v,.string ap.s,.int .i64 ar.n,.int .i16 av.n,.slice ae.A ae.l ae.c,.slice aw.A aw.l aw.c,.map none],true⟩] [(7,.p 0 0),(9,.v (.bool (decide (v ≥ 3)))),(10,.p 1 0)] P' bM a_ w_) ?_ ?_
 ·
  refine wp_seq (qbo [(2,.v (.bool false)),(7,.p 0 0),(9,.v (.bool (decide (v ≥ 3)))),(10,.p 1 0),(190,.v (.bool (decide (v ≥ 4))))] eM fun _ aZ=>qab ?_)
  clear eM
  refine qaw aZ.env_ (b:=decide (v ≥ 4)) kz (fun ba=>?_) (fun ba=>?_)
  ·
   have eN:=aZ.cast (t:=((if (decide (v ≥ 3)) = true then (uv ((lst (T.at_ 4)).length + 1)) else (be 4 (lst (T.at_ 4)).length)) ++ ((lst (T.at_ 4)).flatMap (qaG v))) ++ bM) (by rw [if_pos ba])
   clear aZ
   refine wp_seq (qbo [(2,.v (.bool false)),(7,.p 0 0),(9,.v (.bool (decide (v ≥ 3)))),(10,.p 1 0),(26,.v (.slice none 0 0))] eN fun _ eO=>?_)
   clear eN
   refine qab (wp_seq (qbo [(2,.v (.bool false)),(7,.p 0 0),(9,.v (.bool (decide (v ≥ 3)))),(10,.p 1 0),(27,.v (.slice none 0 0))] eO fun _ eP=>?_))
   clear eO
   refine qab (wp_seq (qbo [(2,.v (.bool false)),(7,.p 0 0),(9,.v (.bool (decide (v ≥ 3)))),(10,.p 1 0),(27,.v (.slice none 0 0))] eP fun _ eQ=>?_))
   clear eP
   refine qab (wp_seq ?_)
   have eR:=eQ.cast (t:=(if (decide (v ≥ 3)) = true then (uv ((lst (T.at_ 4)).length + 1)) else (be 4 (lst (T.at_ 4)).length)) ++ (((lst (T.at_ 4)).flatMap (qaG v)) ++ bM)) (by rw [List.append_assoc])
   clear eQ
   refine qdB (d1:=197) (d2:=198) [(2,.v (.bool false)),(7,.p 0 0),(9,.v (.bool (decide (v ≥ 3)))),(10,.p 1 0),(27,.v (.slice none 0 0)),(196,.v (.bool (decide (v ≥ 3))))] [(2,.v (.bool false)),(7,.p 0 0),(9,.v (.bool (decide (v ≥ 3)))),(10,.p 1 0),(27,.v (.slice none 0 0)),(28,.v (.int .i32 (((lst (T.at_ 4)).length:Nat):Int)))] eR (qcf ((lst (T.at_ 4)).length) e26_4 _ (flat_ge' (qbJ v) _)) Tryz.call90 (qdP ((lst (T.at_ 4)).length) e26_4 _ (flat_ge' (qbJ v) _)) Tryz.call91 fun _ _ eS=>?_
   clear eR
   refine qab (wp_seq (wp_seq (qjM (d:=199) [(2,.v (.bool false)),(7,.p 0 0),(9,.v (.bool (decide (v ≥ 3)))),(10,.p 1 0),(27,.v (.slice none 0 0)),(28,.v (.int .i32 (((lst (T.at_ 4)).length:Nat):Int))),(200,.v (.bool false))] eS (pOk _) Tryz.call92 fun _ _ cw=>?_)))
   clear eS
   refine qab (qan cw.env_ (b:=false) kz (rfl) ?_)
   refine wp_skip (qab (wp_seq (qfO (t:=78) (e:=94) (size:=6) (bytes:=64) (d:=203) (A0:=none) (m:=0) (cp:=0) [(2,.v (.bool false)),(7,.p 0 0),(9,.v (.bool (decide (v ≥ 3)))),(10,.p 1 0),(28,.v (.int .i32 (((lst (T.at_ 4)).length:Nat):Int))),(202,.v (.slice none 0 0))] [(2,.v (.bool false)),(7,.p 0 0),(9,.v (.bool (decide (v ≥ 3)))),(10,.p 1 0),(27,.v (.slice none 0 0)),(28,.v (.int .i32 (((lst (T.at_ 4)).length:Nat):Int)))] 1 cw fun _ eU=>?_)))
   clear cw
   refine qab (qeL (Mid:=fun a_ w_=>∃ (ax:DV) (P':qcr),(∀ w F,P' w F → iP w F ∧ (Slots w F 6 ax.A ax.c ax.l (fun i=>[.string (((ax.f i).f 0).s),.int .i64 (((ax.f i).f 1).n),.int .i16 (((ax.f i).f 2).n),.bool (((ax.f i).f 3).b),.slice (((ax.f i).f 4).A) (((ax.f i).f 4).l) (((ax.f i).f 4).c),.map ((ax.f i).m)]) ∧ ax.l ≤ 1000000 ∧ ∀ i,i < ax.l → qaL w F (ax.f i)) ∧ (ax.l = (lst (T.at_ 4)).length ∧ ∀ i,i < ax.l → qaZ v (ax.f i) ((lst (T.at_ 4)).getD i .zero))) ∧ RS w (fun b o=>b = bv ∧ o < 7) F 345 aO [⟨bv,0,[.int .i16 v,.string ap.s,.int .i64 ar.n,.int .i16 av.n,.slice ae.A ae.l ae.c,.slice none 0 0,.map none],true⟩] [(7,.p 0 0),(9,.v (.bool (decide (v ≥ 3)))),(10,.p 1 0),(27,.v (.slice ax.A ax.l ax.c))] P' bM a_ w_) ?_ ?_)
   ·
    refine wp_seq (qbo [(2,.v (.bool false)),(7,.p 0 0),(9,.v (.bool (decide (v ≥ 3)))),(10,.p 1 0),(27,.v (.slice none 0 0)),(28,.v (.int .i32 (((lst (T.at_ 4)).length:Nat):Int))),(205,.v (.bool (decide ((((lst (T.at_ 4)).length:Nat):Int) > 0))))] eU fun _ bd=>qab ?_)
    clear eU
    refine qaw bd.env_ (b:=decide ((((lst (T.at_ 4)).length:Nat):Int) > 0)) kz (fun bG=>?_) (fun bG=>?_)
    ·
     have hn_g284:0 < (lst (T.at_ 4)).length:=by have h_:=zD bG; omega
     refine qap [0,1,2,3] kz ?_
     refine qb2 [0,1] [2,3] [(2,.v (.bool false)),(7,.p 0 0),(9,.v (.bool (decide (v ≥ 3)))),(10,.p 1 0),(28,.v (.int .i32 (((lst (T.at_ 4)).length:Nat):Int))),(206,.v (.slice none 0 0)),(207,.v (.int .i32 (((lst (T.at_ 4)).length:Nat):Int)))] bd fun _ eV=>?_
     clear bd
     refine qal (qdv (A0:=none) (d:=208) (t:=78) (tn:=21) (e:=94) (size:=6) (bytes:=64) (k:=.i32) (kn:=.i32) (q:=(((lst (T.at_ 4)).length:Nat):Int)) (j:=(lst (T.at_ 4)).length) (.agg #[.string zE,.int .i64 0,.int .i16 0,.bool false,.slice none 0 0,.map none]) eV (fun ab af _ _ hg_g284 hcap_g284 eW=>?_) rfl hn_g284 (by have:=e26_4; omega))
     clear eV
     refine qb2 [3] [] [(2,.v (.bool false)),(7,.p 0 0),(9,.v (.bool (decide (v ≥ 3)))),(10,.p 1 0),(27,.v (.slice (some ⟨ab,0,none⟩) ((lst (T.at_ 4)).length) af)),(28,.v (.int .i32 (((lst (T.at_ 4)).length:Nat):Int)))] eW fun _ eX=>qae ?_
     clear eW
     refine qab (wp_seq (qbo [(2,.v (.bool false)),(7,.p 0 0),(9,.v (.bool (decide (v ≥ 3)))),(10,.p 1 0),(27,.v (.slice (some ⟨ab,0,none⟩) ((lst (T.at_ 4)).length) af)),(28,.v (.int .i32 (((lst (T.at_ 4)).length:Nat):Int))),(29,.v (.int .i32 0))] eX fun _ cz=>?_))
     clear eX
     refine qab (wp_block ?_)
     have cA:=cz.mv
     have jV:=(cz.cast (t:=(lst (T.at_ 4)).flatMap (qaG v) ++ bM) rfl).pk (env':=[(2,.v (.bool false)),(7,.p 0 0),(9,.v (.bool (decide (v ≥ 3)))),(10,.p 1 0),(27,.v (.slice (some ⟨ab,0,none⟩) ((lst (T.at_ 4)).length) af)),(28,.v (.int .i32 (((lst (T.at_ 4)).length:Nat):Int))),(29,.v (.int .i32 ((0:Nat):Int)))])
     clear cz
     refine qfM (tb:=[⟨bv,0,[.int .i16 v,.string ap.s,.int .i64 ar.n,.int .i16 av.n,.slice ae.A ae.l ae.c,.slice none 0 0,.map none],true⟩]) (z:=.agg #[.string zE,.int .i64 0,.int .i16 0,.bool false,.slice none 0 0,.map none]) (cl:=qbK) (ok:=qaL) (rel:=(qaZ v)) (L:=lst (T.at_ 4)) (size:=6) (qaG v) bM (fun k=>[(2,.v (.bool false)),(7,.p 0 0),(9,.v (.bool (decide (v ≥ 3)))),(10,.p 1 0),(27,.v (.slice (some ⟨ab,0,none⟩) ((lst (T.at_ 4)).length) af)),(28,.v (.int .i32 (((lst (T.at_ 4)).length:Nat):Int))),(29,.v (.int .i32 ((k:Nat):Int)))]) jV qaX (fun ac aa _ _ cB jW eY=>?_) (fun _ _ eZ=>?_)
     ·
      obtain ⟨jX,e9,fa⟩:∃ P',(∀ w F,P' w F → (iP w F ∧ qe9 ab 6 qbK qaL (qaZ v) (lst (T.at_ 4)) ac w F)) ∧ RS w (fun b o=>b = bv ∧ o < 7) F 345 aO [⟨bv,0,[.int .i16 v,.string ap.s,.int .i64 ar.n,.int .i16 av.n,.slice ae.A ae.l ae.c,.slice none 0 0,.map none],true⟩,qbk ab 6 (.agg #[.string ByteArray.empty,.int .i64 0,.int .i16 0,.bool false,.slice none 0 0,.map none]) ((lst (T.at_ 4)).length) ac] [(2,.v (.bool false)),(7,.p 0 0),(9,.v (.bool (decide (v ≥ 3)))),(10,.p 1 0),(27,.v (.slice (some ⟨ab,0,none⟩) ((lst (T.at_ 4)).length) af)),(28,.v (.int .i32 (((lst (T.at_ 4)).length:Nat):Int))),(29,.v (.int .i32 ((ac:Nat):Int)))] P' ((qaG v) aa ++ (((lst (T.at_ 4)).drop (ac + 1)).flatMap (qaG v) ++ bM)) _ _:=⟨_,fun _ _ h=>h,eY⟩
      clear eY
      obtain ⟨cC,fb⟩:∃ R,R = ((lst (T.at_ 4)).drop (ac + 1)).flatMap (qaG v) ++ bM:=⟨_,rfl⟩
      have jY:=(e26_4e aa (List.mem_of_getElem? cB))
      have e303r:=(qe7 (qeJ e26r 4) aa (List.mem_of_getElem? cB))
      unfold qbg at jY
      obtain ⟨e303_0,e303_1,e303_2,e303_3,⟨e303_4,e303_4e⟩,e303_U,_⟩:=jY
      obtain ⟨bf,fe⟩:∃ R,R = (if (decide (v ≥ 3)) = true then (uv aa.U.length) ++ (qct aa.U) else []) ++ cC:=⟨_,rfl⟩
      obtain ⟨kL,ff⟩:∃ R,R = ((if (decide (v ≥ 3)) = true then (uv ((lst (aa.at_ 4)).length + 1)) else (be 4 (lst (aa.at_ 4)).length)) ++ ((lst (aa.at_ 4)).flatMap (qaF v))) ++ bf:=⟨_,rfl⟩
      obtain ⟨kM,fg⟩:∃ R,R = [by8 (if (decide ((aa.at_ 3).N % 2 = 1)) then 1 else 0)] ++ kL:=⟨_,rfl⟩
      obtain ⟨kN,fh⟩:∃ R,R = (be 2 ((IntKind.i16.wrap (aa.at_ 2).N))) ++ kM:=⟨_,rfl⟩
      obtain ⟨kO,fi⟩:∃ R,R = (be 8 ((aa.at_ 1).N)) ++ kN:=⟨_,rfl⟩
      obtain ⟨kP,fj⟩:∃ R,R = (if (decide (v ≥ 3)) = true then (uv ((aa.at_ 0).S.length + 1) ++ (aa.at_ 0).S) else (be 2 (aa.at_ 0).S.length ++ (aa.at_ 0).S)) ++ kO:=⟨_,rfl⟩
      have fk:=fa.cast (t:=kP) (by rw [fj,fi,fh,fg,ff,fe,← fb]; unfold qaG; simp only [List.append_assoc])
      clear fa
      refine wp_seq (wp_seq (qbo [(2,.v (.bool false)),(7,.p 0 0),(9,.v (.bool (decide (v ≥ 3)))),(10,.p 1 0),(27,.v (.slice (some ⟨ab,0,none⟩) ((lst (T.at_ 4)).length) af)),(28,.v (.int .i32 (((lst (T.at_ 4)).length:Nat):Int))),(29,.v (.int .i32 ((ac:Nat):Int))),(211,.v (.bool (decide (((ac:Nat):Int) < (((lst (T.at_ 4)).length:Nat):Int)))))] fk fun _ cD=>qab ?_))
      clear fk
      refine qa7 cD.env_ (b:=decide (((ac:Nat):Int) < (((lst (T.at_ 4)).length:Nat):Int))) kz (decide_eq_true (by omega)) ?_
      refine wp_skip (qab (wp_seq (wp_block (wp_seq (qhJ (t:=78) (e:=94) (size:=6) (bytes:=64) (d:=216) (tb:=[⟨bv,0,[.int .i16 v,.string ap.s,.int .i64 ar.n,.int .i16 av.n,.slice ae.A ae.l ae.c,.slice none 0 0,.map none],true⟩]) (z:=.agg #[.string zE,.int .i64 0,.int .i16 0,.bool false,.slice none 0 0,.map none]) [(2,.v (.bool false)),(7,.p 0 0),(9,.v (.bool (decide (v ≥ 3)))),(10,.p 1 0),(27,.v (.slice (some ⟨ab,0,none⟩) ((lst (T.at_ 4)).length) af)),(28,.v (.int .i32 (((lst (T.at_ 4)).length:Nat):Int))),(29,.v (.int .i32 ((ac:Nat):Int))),(214,.v (.slice (some ⟨ab,0,none⟩) ((lst (T.at_ 4)).length) af)),(215,.v (.int .i32 ((ac:Nat):Int)))] [(2,.v (.bool false)),(7,.p 0 0),(9,.v (.bool (decide (v ≥ 3)))),(10,.p 1 0),(27,.v (.slice (some ⟨ab,0,none⟩) ((lst (T.at_ 4)).length) af)),(28,.v (.int .i32 (((lst (T.at_ 4)).length:Nat):Int))),(29,.v (.int .i32 ((ac:Nat):Int))),(30,.p 3 0)] 2 cD jW rfl kz fun _ fm=>?_)))))
      clear cD
      have fo:=fm.tbEq (tb':=[⟨bv,0,[.int .i16 v,.string ap.s,.int .i64 ar.n,.int .i16 av.n,.slice ae.A ae.l ae.c,.slice none 0 0,.map none],true⟩,qbk ab 6 (.agg #[.string zE,.int .i64 0,.int .i16 0,.bool false,.slice none 0 0,.map none]) ((lst (T.at_ 4)).length) (ac + 1),⟨ab,ac * 6,[.string zE,.int .i64 0,.int .i16 0,.bool false,.slice none 0 0,.map none],true⟩]) rfl
      clear fm
      refine qab (wp_seq (qap [0,1] kz ?_))
      refine qb2 [0] [1] [(2,.v (.bool false)),(7,.p 0 0),(9,.v (.bool (decide (v ≥ 3)))),(10,.p 1 0),(27,.v (.slice (some ⟨ab,0,none⟩) ((lst (T.at_ 4)).length) af)),(28,.v (.int .i32 (((lst (T.at_ 4)).length:Nat):Int))),(29,.v (.int .i32 ((ac:Nat):Int))),(30,.p 3 0),(217,.p 3 0)] fo fun _ fq=>?_
      clear fo
      refine qal (qjL (d:=218) (vs:=[.pointer (some ⟨ab,ac * 6,none⟩)]) fq (fun _=>ql5 _ _ _) Tryz.call97 fun _ fr=>?_)
      clear fq
      refine qae ?_
      have ft:=fr.pk (env':=[(2,.v (.bool false)),(7,.p 0 0),(9,.v (.bool (decide (v ≥ 3)))),(10,.p 1 0),(27,.v (.slice (some ⟨ab,0,none⟩) ((lst (T.at_ 4)).length) af)),(28,.v (.int .i32 (((lst (T.at_ 4)).length:Nat):Int))),(29,.v (.int .i32 ((ac:Nat):Int))),(30,.p 3 0)])
      clear fr
      refine qab (wp_seq (qbo [(2,.v (.bool false)),(7,.p 0 0),(9,.v (.bool (decide (v ≥ 3)))),(10,.p 1 0),(27,.v (.slice (some ⟨ab,0,none⟩) ((lst (T.at_ 4)).length) af)),(28,.v (.int .i32 (((lst (T.at_ 4)).length:Nat):Int))),(29,.v (.int .i32 ((ac:Nat):Int))),(31,.p 3 0)] ft fun _ fu=>?_))
      clear ft
      refine qab (wp_seq (wp_seq (qbo [(2,.v (.bool false)),(7,.p 0 0),(9,.v (.bool (decide (v ≥ 3)))),(10,.p 1 0),(27,.v (.slice (some ⟨ab,0,none⟩) ((lst (T.at_ 4)).length) af)),(28,.v (.int .i32 (((lst (T.at_ 4)).length:Nat):Int))),(29,.v (.int .i32 ((ac:Nat):Int))),(31,.p 3 0)] fu fun _ fv=>?_)))
      clear fu
      refine qab (wp_seq (wp_seq (qbo [(2,.v (.bool false)),(7,.p 0 0),(9,.v (.bool (decide (v ≥ 3)))),(10,.p 1 0),(27,.v (.slice (some ⟨ab,0,none⟩) ((lst (T.at_ 4)).length) af)),(28,.v (.int .i32 (((lst (T.at_ 4)).length:Nat):Int))),(29,.v (.int .i32 ((ac:Nat):Int))),(31,.p 3 0),(220,.v (.bool false))] fv fun _ cE=>qab ?_)))
      clear fv
      refine qan cE.env_ (b:=false) kz (rfl) ?_
      have fw:=cE.cast fj
      clear cE
      refine qdB (d1:=225) (d2:=226) [(2,.v (.bool false)),(7,.p 0 0),(9,.v (.bool (decide (v ≥ 3)))),(10,.p 1 0),(27,.v (.slice (some ⟨ab,0,none⟩) ((lst (T.at_ 4)).length) af)),(28,.v (.int .i32 (((lst (T.at_ 4)).length:Nat):Int))),(29,.v (.int .i32 ((ac:Nat):Int))),(31,.p 3 0),(224,.v (.bool (decide (v ≥ 3))))] [(2,.v (.bool false)),(7,.p 0 0),(9,.v (.bool (decide (v ≥ 3)))),(10,.p 1 0),(27,.v (.slice (some ⟨ab,0,none⟩) ((lst (T.at_ 4)).length) af)),(28,.v (.int .i32 (((lst (T.at_ 4)).length:Nat):Int))),(29,.v (.int .i32 ((ac:Nat):Int))),(31,.p 3 0),(32,.v (.string (bs (aa.at_ 0).S)))] fw (qcP (aa.at_ 0).S e303_0 _) Tryz.call86 (qgA (aa.at_ 0).S e303_0 _) Tryz.call87 fun _ _ fx=>?_
      clear fw
      refine qab (qdl [⟨bv,0,[.int .i16 v,.string ap.s,.int .i64 ar.n,.int .i16 av.n,.slice ae.A ae.l ae.c,.slice none 0 0,.map none],true⟩,qbk ab 6 (.agg #[.string zE,.int .i64 0,.int .i16 0,.bool false,.slice none 0 0,.map none]) ((lst (T.at_ 4)).length) (ac + 1),⟨ab,ac * 6,[.string (bs (aa.at_ 0).S),.int .i64 0,.int .i16 0,.bool false,.slice none 0 0,.map none],true⟩] 2 [(2,.v (.bool false)),(7,.p 0 0),(9,.v (.bool (decide (v ≥ 3)))),(10,.p 1 0),(27,.v (.slice (some ⟨ab,0,none⟩) ((lst (T.at_ 4)).length) af)),(28,.v (.int .i32 (((lst (T.at_ 4)).length:Nat):Int))),(29,.v (.int .i32 ((ac:Nat):Int))),(31,.p 3 0)] fx fun _ _ fy=>?_)
      clear fx
      refine qab (wp_seq (wp_seq ?_))
      have fz:=fy.cast fi
      clear fy
      refine qej (d:=231) [(2,.v (.bool false)),(7,.p 0 0),(9,.v (.bool (decide (v ≥ 3)))),(10,.p 1 0),(27,.v (.slice (some ⟨ab,0,none⟩) ((lst (T.at_ 4)).length) af)),(28,.v (.int .i32 (((lst (T.at_ 4)).length:Nat):Int))),(29,.v (.int .i32 ((ac:Nat):Int))),(31,.p 3 0),(33,.v (.int .i64 (IntKind.i64.wrap (aa.at_ 1).N)))] fz (qkK _ _) Tryz.call88 fun _ _ fA=>?_
      clear fz
      refine qab (qdl [⟨bv,0,[.int .i16 v,.string ap.s,.int .i64 ar.n,.int .i16 av.n,.slice ae.A ae.l ae.c,.slice none 0 0,.map none],true⟩,qbk ab 6 (.agg #[.string zE,.int .i64 0,.int .i16 0,.bool false,.slice none 0 0,.map none]) ((lst (T.at_ 4)).length) (ac + 1),⟨ab,ac * 6,[.string (bs (aa.at_ 0).S),.int .i64 (IntKind.i64.wrap (aa.at_ 1).N),.int .i16 0,.bool false,.slice none 0 0,.map none],true⟩] 2 [(2,.v (.bool false)),(7,.p 0 0),(9,.v (.bool (decide (v ≥ 3)))),(10,.p 1 0),(27,.v (.slice (some ⟨ab,0,none⟩) ((lst (T.at_ 4)).length) af)),(28,.v (.int .i32 (((lst (T.at_ 4)).length:Nat):Int))),(29,.v (.int .i32 ((ac:Nat):Int))),(31,.p 3 0)] fA fun _ _ fB=>?_)
      clear fA
      refine qab (wp_seq (wp_seq ?_))
      have fC:=fB.cast fh
      clear fB
      refine qej (d:=236) [(2,.v (.bool false)),(7,.p 0 0),(9,.v (.bool (decide (v ≥ 3)))),(10,.p 1 0),(27,.v (.slice (some ⟨ab,0,none⟩) ((lst (T.at_ 4)).length) af)),(28,.v (.int .i32 (((lst (T.at_ 4)).length:Nat):Int))),(29,.v (.int .i32 ((ac:Nat):Int))),(31,.p 3 0),(34,.v (.int .i16 (IntKind.i16.wrap (aa.at_ 2).N)))] fC (qkI _ _) Tryz.call89 fun _ _ fD=>?_
      clear fC
      refine qab (qdl [⟨bv,0,[.int .i16 v,.string ap.s,.int .i64 ar.n,.int .i16 av.n,.slice ae.A ae.l ae.c,.slice none 0 0,.map none],true⟩,qbk ab 6 (.agg #[.string zE,.int .i64 0,.int .i16 0,.bool false,.slice none 0 0,.map none]) ((lst (T.at_ 4)).length) (ac + 1),⟨ab,ac * 6,[.string (bs (aa.at_ 0).S),.int .i64 (IntKind.i64.wrap (aa.at_ 1).N),.int .i16 (IntKind.i16.wrap (aa.at_ 2).N),.bool false,.slice none 0 0,.map none],true⟩] 2 [(2,.v (.bool false)),(7,.p 0 0),(9,.v (.bool (decide (v ≥ 3)))),(10,.p 1 0),(27,.v (.slice (some ⟨ab,0,none⟩) ((lst (T.at_ 4)).length) af)),(28,.v (.int .i32 (((lst (T.at_ 4)).length:Nat):Int))),(29,.v (.int .i32 ((ac:Nat):Int))),(31,.p 3 0)] fD fun _ _ fE=>?_)
      clear fD
      refine qab (wp_seq (wp_seq ?_))
      have fF:=fE.cast fg
      clear fE
      refine qej (d:=241) [(2,.v (.bool false)),(7,.p 0 0),(9,.v (.bool (decide (v ≥ 3)))),(10,.p 1 0),(27,.v (.slice (some ⟨ab,0,none⟩) ((lst (T.at_ 4)).length) af)),(28,.v (.int .i32 (((lst (T.at_ 4)).length:Nat):Int))),(29,.v (.int .i32 ((ac:Nat):Int))),(31,.p 3 0),(35,.v (.bool (decide ((aa.at_ 3).N % 2 = 1))))] fF (ql3 _ _) Tryz.call98 fun _ _ fG=>?_
      clear fF
      refine qab (qdl [⟨bv,0,[.int .i16 v,.string ap.s,.int .i64 ar.n,.int .i16 av.n,.slice ae.A ae.l ae.c,.slice none 0 0,.map none],true⟩,qbk ab 6 (.agg #[.string zE,.int .i64 0,.int .i16 0,.bool false,.slice none 0 0,.map none]) ((lst (T.at_ 4)).length) (ac + 1),⟨ab,ac * 6,(z6 aa),true⟩] 2 [(2,.v (.bool false)),(7,.p 0 0),(9,.v (.bool (decide (v ≥ 3)))),(10,.p 1 0),(27,.v (.slice (some ⟨ab,0,none⟩) ((lst (T.at_ 4)).length) af)),(28,.v (.int .i32 (((lst (T.at_ 4)).length:Nat):Int))),(29,.v (.int .i32 ((ac:Nat):Int))),(31,.p 3 0)] fG fun _ _ fH=>?_)
      clear fG
      refine qab (wp_seq (wp_seq (qbo [(2,.v (.bool false)),(7,.p 0 0),(9,.v (.bool (decide (v ≥ 3)))),(10,.p 1 0),(27,.v (.slice (some ⟨ab,0,none⟩) ((lst (T.at_ 4)).length) af)),(28,.v (.int .i32 (((lst (T.at_ 4)).length:Nat):Int))),(29,.v (.int .i32 ((ac:Nat):Int))),(31,.p 3 0),(36,.v (.slice none 0 0))] fH fun _ fI=>?_)))
      clear fH
      refine qab (wp_seq (qbo [(2,.v (.bool false)),(7,.p 0 0),(9,.v (.bool (decide (v ≥ 3)))),(10,.p 1 0),(27,.v (.slice (some ⟨ab,0,none⟩) ((lst (T.at_ 4)).length) af)),(28,.v (.int .i32 (((lst (T.at_ 4)).length:Nat):Int))),(29,.v (.int .i32 ((ac:Nat):Int))),(31,.p 3 0),(37,.v (.slice none 0 0))] fI fun _ fJ=>?_))
      clear fI
      refine qab (wp_seq (qbo [(2,.v (.bool false)),(7,.p 0 0),(9,.v (.bool (decide (v ≥ 3)))),(10,.p 1 0),(27,.v (.slice (some ⟨ab,0,none⟩) ((lst (T.at_ 4)).length) af)),(28,.v (.int .i32 (((lst (T.at_ 4)).length:Nat):Int))),(29,.v (.int .i32 ((ac:Nat):Int))),(31,.p 3 0),(37,.v (.slice none 0 0))] fJ fun _ fK=>?_))
      clear fJ
      refine qab (wp_seq ?_)
      have fL:=fK.cast ff
      clear fK
      have fM:=fL.cast (t:=(if (decide (v ≥ 3)) = true then (uv ((lst (aa.at_ 4)).length + 1)) else (be 4 (lst (aa.at_ 4)).length)) ++ (((lst (aa.at_ 4)).flatMap (qaF v)) ++ bf)) (by rw [List.append_assoc])
      clear fL
      refine qdB (d1:=252) (d2:=253) [(2,.v (.bool false)),(7,.p 0 0),(9,.v (.bool (decide (v ≥ 3)))),(10,.p 1 0),(27,.v (.slice (some ⟨ab,0,none⟩) ((lst (T.at_ 4)).length) af)),(28,.v (.int .i32 (((lst (T.at_ 4)).length:Nat):Int))),(29,.v (.int .i32 ((ac:Nat):Int))),(31,.p 3 0),(37,.v (.slice none 0 0)),(251,.v (.bool (decide (v ≥ 3))))] [(2,.v (.bool false)),(7,.p 0 0),(9,.v (.bool (decide (v ≥ 3)))),(10,.p 1 0),(27,.v (.slice (some ⟨ab,0,none⟩) ((lst (T.at_ 4)).length) af)),(28,.v (.int .i32 (((lst (T.at_ 4)).length:Nat):Int))),(29,.v (.int .i32 ((ac:Nat):Int))),(31,.p 3 0),(37,.v (.slice none 0 0)),(38,.v (.int .i32 (((lst (aa.at_ 4)).length:Nat):Int)))] fM (qcf ((lst (aa.at_ 4)).length) e303_4 _ (flat_ge' (qbA v) _)) Tryz.call90 (qdP ((lst (aa.at_ 4)).length) e303_4 _ (flat_ge' (qbA v) _)) Tryz.call91 fun _ _ fN=>?_
      clear fM
      refine qab (wp_seq (wp_seq (qjM (d:=254) [(2,.v (.bool false)),(7,.p 0 0),(9,.v (.bool (decide (v ≥ 3)))),(10,.p 1 0),(27,.v (.slice (some ⟨ab,0,none⟩) ((lst (T.at_ 4)).length) af)),(28,.v (.int .i32 (((lst (T.at_ 4)).length:Nat):Int))),(29,.v (.int .i32 ((ac:Nat):Int))),(31,.p 3 0),(37,.v (.slice none 0 0)),(38,.v (.int .i32 (((lst (aa.at_ 4)).length:Nat):Int))),(255,.v (.bool false))] fN (pOk _) Tryz.call92 fun _ _ cG=>?_)))
      clear fN
      refine qab (qan cG.env_ (b:=false) kz (rfl) ?_)
      refine wp_skip (qab (wp_seq (qfO (t:=92) (e:=151) (size:=3) (bytes:=48) (d:=258) (A0:=none) (m:=0) (cp:=0) [(2,.v (.bool false)),(7,.p 0 0),(9,.v (.bool (decide (v ≥ 3)))),(10,.p 1 0),(27,.v (.slice (some ⟨ab,0,none⟩) ((lst (T.at_ 4)).length) af)),(28,.v (.int .i32 (((lst (T.at_ 4)).length:Nat):Int))),(29,.v (.int .i32 ((ac:Nat):Int))),(31,.p 3 0),(38,.v (.int .i32 (((lst (aa.at_ 4)).length:Nat):Int))),(257,.v (.slice none 0 0))] [(2,.v (.bool false)),(7,.p 0 0),(9,.v (.bool (decide (v ≥ 3)))),(10,.p 1 0),(27,.v (.slice (some ⟨ab,0,none⟩) ((lst (T.at_ 4)).length) af)),(28,.v (.int .i32 (((lst (T.at_ 4)).length:Nat):Int))),(29,.v (.int .i32 ((ac:Nat):Int))),(31,.p 3 0),(37,.v (.slice none 0 0)),(38,.v (.int .i32 (((lst (aa.at_ 4)).length:Nat):Int)))] 1 cG fun _ fO=>?_)))
      clear cG
      refine qab (qeL (Mid:=fun a_ w_=>∃ (au:DV) (P':qcr),(∀ w F,P' w F → jX w F ∧ (Slots w F 3 au.A au.c au.l (fun i=>[.string (((au.f i).f 0).s),.slice (((au.f i).f 1).A) (((au.f i).f 1).l) (((au.f i).f 1).c),.map ((au.f i).m)]) ∧ au.l ≤ 1000000 ∧ ∀ i,i < au.l → qaJ w F (au.f i)) ∧ (au.l = (lst (aa.at_ 4)).length ∧ ∀ i,i < au.l → qaY v (au.f i) ((lst (aa.at_ 4)).getD i .zero))) ∧ RS w (fun b o=>b = bv ∧ o < 7) F 345 aO [⟨bv,0,[.int .i16 v,.string ap.s,.int .i64 ar.n,.int .i16 av.n,.slice ae.A ae.l ae.c,.slice none 0 0,.map none],true⟩,qbk ab 6 (.agg #[.string ByteArray.empty,.int .i64 0,.int .i16 0,.bool false,.slice none 0 0,.map none]) ((lst (T.at_ 4)).length) (ac + 1),⟨ab,ac * 6,[.string (bs (aa.at_ 0).S),.int .i64 (IntKind.i64.wrap (aa.at_ 1).N),.int .i16 (IntKind.i16.wrap (aa.at_ 2).N),.bool (decide ((aa.at_ 3).N % 2 = 1)),.slice none 0 0,.map none],true⟩] [(2,.v (.bool false)),(7,.p 0 0),(9,.v (.bool (decide (v ≥ 3)))),(10,.p 1 0),(27,.v (.slice (some ⟨ab,0,none⟩) ((lst (T.at_ 4)).length) af)),(28,.v (.int .i32 (((lst (T.at_ 4)).length:Nat):Int))),(29,.v (.int .i32 ((ac:Nat):Int))),(31,.p 3 0),(37,.v (.slice au.A au.l au.c))] P' bf a_ w_) ?_ ?_)
      ·
       refine wp_seq (qbo [(2,.v (.bool false)),(7,.p 0 0),(9,.v (.bool (decide (v ≥ 3)))),(10,.p 1 0),(27,.v (.slice (some ⟨ab,0,none⟩) ((lst (T.at_ 4)).length) af)),(28,.v (.int .i32 (((lst (T.at_ 4)).length:Nat):Int))),(29,.v (.int .i32 ((ac:Nat):Int))),(31,.p 3 0),(37,.v (.slice none 0 0)),(38,.v (.int .i32 (((lst (aa.at_ 4)).length:Nat):Int))),(260,.v (.bool (decide ((((lst (aa.at_ 4)).length:Nat):Int) > 0))))] fO fun _ bg=>qab ?_)
       clear fO
       refine qaw bg.env_ (b:=decide ((((lst (aa.at_ 4)).length:Nat):Int) > 0)) kz (fun bH=>?_) (fun bH=>?_)
       ·
        have hn_g358:0 < (lst (aa.at_ 4)).length:=by have h_:=zD bH; omega
        refine qap [0,1,2,3] kz ?_
        refine qb2 [0,1] [2,3] [(2,.v (.bool false)),(7,.p 0 0),(9,.v (.bool (decide (v ≥ 3)))),(10,.p 1 0),(27,.v (.slice (some ⟨ab,0,none⟩) ((lst (T.at_ 4)).length) af)),(28,.v (.int .i32 (((lst (T.at_ 4)).length:Nat):Int))),(29,.v (.int .i32 ((ac:Nat):Int))),(31,.p 3 0),(38,.v (.int .i32 (((lst (aa.at_ 4)).length:Nat):Int))),(261,.v (.slice none 0 0)),(262,.v (.int .i32 (((lst (aa.at_ 4)).length:Nat):Int)))] bg fun _ fP=>?_
        clear bg
        refine qal (qdv (A0:=none) (d:=263) (t:=92) (tn:=21) (e:=151) (size:=3) (bytes:=48) (k:=.i32) (kn:=.i32) (q:=(((lst (aa.at_ 4)).length:Nat):Int)) (j:=(lst (aa.at_ 4)).length) (.agg #[.string zE,.slice none 0 0,.map none]) fP (fun aj ao _ _ hg_g358 hcap_g358 fQ=>?_) rfl hn_g358 (by have:=e303_4; omega))
        clear fP
        refine qb2 [3] [] [(2,.v (.bool false)),(7,.p 0 0),(9,.v (.bool (decide (v ≥ 3)))),(10,.p 1 0),(27,.v (.slice (some ⟨ab,0,none⟩) ((lst (T.at_ 4)).length) af)),(28,.v (.int .i32 (((lst (T.at_ 4)).length:Nat):Int))),(29,.v (.int .i32 ((ac:Nat):Int))),(31,.p 3 0),(37,.v (.slice (some ⟨aj,0,none⟩) ((lst (aa.at_ 4)).length) ao)),(38,.v (.int .i32 (((lst (aa.at_ 4)).length:Nat):Int)))] fQ fun _ fR=>qae ?_
        clear fQ
        refine qab (wp_seq (qbo [(2,.v (.bool false)),(7,.p 0 0),(9,.v (.bool (decide (v ≥ 3)))),(10,.p 1 0),(27,.v (.slice (some ⟨ab,0,none⟩) ((lst (T.at_ 4)).length) af)),(28,.v (.int .i32 (((lst (T.at_ 4)).length:Nat):Int))),(29,.v (.int .i32 ((ac:Nat):Int))),(31,.p 3 0),(37,.v (.slice (some ⟨aj,0,none⟩) ((lst (aa.at_ 4)).length) ao)),(38,.v (.int .i32 (((lst (aa.at_ 4)).length:Nat):Int))),(39,.v (.int .i32 0))] fR fun _ cH=>?_))
        clear fR
        refine qab (wp_block ?_)
        have cI:=cH.mv
        have jZ:=(cH.cast (t:=(lst (aa.at_ 4)).flatMap (qaF v) ++ bf) rfl).pk (env':=[(2,.v (.bool false)),(7,.p 0 0),(9,.v (.bool (decide (v ≥ 3)))),(10,.p 1 0),(27,.v (.slice (some ⟨ab,0,none⟩) ((lst (T.at_ 4)).length) af)),(28,.v (.int .i32 (((lst (T.at_ 4)).length:Nat):Int))),(29,.v (.int .i32 ((ac:Nat):Int))),(31,.p 3 0),(37,.v (.slice (some ⟨aj,0,none⟩) ((lst (aa.at_ 4)).length) ao)),(38,.v (.int .i32 (((lst (aa.at_ 4)).length:Nat):Int))),(39,.v (.int .i32 ((0:Nat):Int)))])
        clear cH
        refine qfM (tb:=[⟨bv,0,[.int .i16 v,.string ap.s,.int .i64 ar.n,.int .i16 av.n,.slice ae.A ae.l ae.c,.slice none 0 0,.map none],true⟩,qbk ab 6 (.agg #[.string zE,.int .i64 0,.int .i16 0,.bool false,.slice none 0 0,.map none]) ((lst (T.at_ 4)).length) (ac + 1),⟨ab,ac * 6,(z6 aa),true⟩]) (z:=.agg #[.string zE,.slice none 0 0,.map none]) (cl:=qbC) (ok:=qaJ) (rel:=(qaY v)) (L:=lst (aa.at_ 4)) (size:=3) (qaF v) bf (fun k=>[(2,.v (.bool false)),(7,.p 0 0),(9,.v (.bool (decide (v ≥ 3)))),(10,.p 1 0),(27,.v (.slice (some ⟨ab,0,none⟩) ((lst (T.at_ 4)).length) af)),(28,.v (.int .i32 (((lst (T.at_ 4)).length:Nat):Int))),(29,.v (.int .i32 ((ac:Nat):Int))),(31,.p 3 0),(37,.v (.slice (some ⟨aj,0,none⟩) ((lst (aa.at_ 4)).length) ao)),(38,.v (.int .i32 (((lst (aa.at_ 4)).length:Nat):Int))),(39,.v (.int .i32 ((k:Nat):Int)))]) jZ qaS (fun al ah _ _ cJ j0 fS=>?_) (fun _ _ fT=>?_)
        ·
         obtain ⟨j1,fU,fV⟩:∃ P',(∀ w F,P' w F → (jX w F ∧ qe9 aj 3 qbC qaJ (qaY v) (lst (aa.at_ 4)) al w F)) ∧ RS w (fun b o=>b = bv ∧ o < 7) F 345 aO [⟨bv,0,[.int .i16 v,.string ap.s,.int .i64 ar.n,.int .i16 av.n,.slice ae.A ae.l ae.c,.slice none 0 0,.map none],true⟩,qbk ab 6 (.agg #[.string ByteArray.empty,.int .i64 0,.int .i16 0,.bool false,.slice none 0 0,.map none]) ((lst (T.at_ 4)).length) (ac + 1),⟨ab,ac * 6,[.string (bs (aa.at_ 0).S),.int .i64 (IntKind.i64.wrap (aa.at_ 1).N),.int .i16 (IntKind.i16.wrap (aa.at_ 2).N),.bool (decide ((aa.at_ 3).N % 2 = 1)),.slice none 0 0,.map none],true⟩,qbk aj 3 (.agg #[.string ByteArray.empty,.slice none 0 0,.map none]) ((lst (aa.at_ 4)).length) al] [(2,.v (.bool false)),(7,.p 0 0),(9,.v (.bool (decide (v ≥ 3)))),(10,.p 1 0),(27,.v (.slice (some ⟨ab,0,none⟩) ((lst (T.at_ 4)).length) af)),(28,.v (.int .i32 (((lst (T.at_ 4)).length:Nat):Int))),(29,.v (.int .i32 ((ac:Nat):Int))),(31,.p 3 0),(37,.v (.slice (some ⟨aj,0,none⟩) ((lst (aa.at_ 4)).length) ao)),(38,.v (.int .i32 (((lst (aa.at_ 4)).length:Nat):Int))),(39,.v (.int .i32 ((al:Nat):Int)))] P' ((qaF v) ah ++ (((lst (aa.at_ 4)).drop (al + 1)).flatMap (qaF v) ++ bf)) _ _:=⟨_,fun _ _ h=>h,fS⟩
         clear fS
         obtain ⟨cK,fW⟩:∃ R,R = ((lst (aa.at_ 4)).drop (al + 1)).flatMap (qaF v) ++ bf:=⟨_,rfl⟩
         have j2:=(e303_4e ah (List.mem_of_getElem? cJ))
         have e377r:=(qe7 (qeJ e303r 4) ah (List.mem_of_getElem? cJ))
         unfold qba at j2
         obtain ⟨e377_0,e377_1,e377_U,_⟩:=j2
         obtain ⟨bh,fX⟩:∃ R,R = (if (decide (v ≥ 3)) = true then (uv ah.U.length) ++ (qct ah.U) else []) ++ cK:=⟨_,rfl⟩
         obtain ⟨kQ,fY⟩:∃ R,R = ((if (decide (v ≥ 3)) = true then (uv ((lst (ah.at_ 1)).length + 1)) else (be 4 (lst (ah.at_ 1)).length)) ++ ((lst (ah.at_ 1)).flatMap (fun E=>be 4 (IntKind.i32.wrap E.N)))) ++ bh:=⟨_,rfl⟩
         obtain ⟨kR,fZ⟩:∃ R,R = (if (decide (v ≥ 3)) = true then (uv ((ah.at_ 0).S.length + 1) ++ (ah.at_ 0).S) else (be 2 (ah.at_ 0).S.length ++ (ah.at_ 0).S)) ++ kQ:=⟨_,rfl⟩
         have f5:=fV.cast (t:=kR) (by rw [fZ,fY,fX,← fW]; unfold qaF; simp only [List.append_assoc])
         clear fV
         refine wp_seq (wp_seq (qbo [(2,.v (.bool false)),(7,.p 0 0),(9,.v (.bool (decide (v ≥ 3)))),(10,.p 1 0),(27,.v (.slice (some ⟨ab,0,none⟩) ((lst (T.at_ 4)).length) af)),(28,.v (.int .i32 (((lst (T.at_ 4)).length:Nat):Int))),(29,.v (.int .i32 ((ac:Nat):Int))),(31,.p 3 0),(37,.v (.slice (some ⟨aj,0,none⟩) ((lst (aa.at_ 4)).length) ao)),(38,.v (.int .i32 (((lst (aa.at_ 4)).length:Nat):Int))),(39,.v (.int .i32 ((al:Nat):Int))),(266,.v (.bool (decide (((al:Nat):Int) < (((lst (aa.at_ 4)).length:Nat):Int)))))] f5 fun _ cL=>qab ?_))
         clear f5
         refine qa7 cL.env_ (b:=decide (((al:Nat):Int) < (((lst (aa.at_ 4)).length:Nat):Int))) kz (decide_eq_true (by omega)) ?_
         refine wp_skip (qab (wp_seq (wp_block (wp_seq (qhJ (t:=92) (e:=151) (size:=3) (bytes:=48) (d:=271) (tb:=[⟨bv,0,[.int .i16 v,.string ap.s,.int .i64 ar.n,.int .i16 av.n,.slice ae.A ae.l ae.c,.slice none 0 0,.map none],true⟩,qbk ab 6 (.agg #[.string zE,.int .i64 0,.int .i16 0,.bool false,.slice none 0 0,.map none]) ((lst (T.at_ 4)).length) (ac + 1),⟨ab,ac * 6,(z6 aa),true⟩]) (z:=.agg #[.string zE,.slice none 0 0,.map none]) [(2,.v (.bool false)),(7,.p 0 0),(9,.v (.bool (decide (v ≥ 3)))),(10,.p 1 0),(27,.v (.slice (some ⟨ab,0,none⟩) ((lst (T.at_ 4)).length) af)),(28,.v (.int .i32 (((lst (T.at_ 4)).length:Nat):Int))),(29,.v (.int .i32 ((ac:Nat):Int))),(31,.p 3 0),(37,.v (.slice (some ⟨aj,0,none⟩) ((lst (aa.at_ 4)).length) ao)),(38,.v (.int .i32 (((lst (aa.at_ 4)).length:Nat):Int))),(39,.v (.int .i32 ((al:Nat):Int))),(269,.v (.slice (some ⟨aj,0,none⟩) ((lst (aa.at_ 4)).length) ao)),(270,.v (.int .i32 ((al:Nat):Int)))] [(2,.v (.bool false)),(7,.p 0 0),(9,.v (.bool (decide (v ≥ 3)))),(10,.p 1 0),(27,.v (.slice (some ⟨ab,0,none⟩) ((lst (T.at_ 4)).length) af)),(28,.v (.int .i32 (((lst (T.at_ 4)).length:Nat):Int))),(29,.v (.int .i32 ((ac:Nat):Int))),(31,.p 3 0),(37,.v (.slice (some ⟨aj,0,none⟩) ((lst (aa.at_ 4)).length) ao)),(38,.v (.int .i32 (((lst (aa.at_ 4)).length:Nat):Int))),(39,.v (.int .i32 ((al:Nat):Int))),(40,.p 5 0)] 2 cL j0 rfl kz fun _ f7=>?_)))))
         clear cL
         have f8:=f7.tbEq (tb':=[⟨bv,0,[.int .i16 v,.string ap.s,.int .i64 ar.n,.int .i16 av.n,.slice ae.A ae.l ae.c,.slice none 0 0,.map none],true⟩,qbk ab 6 (.agg #[.string zE,.int .i64 0,.int .i16 0,.bool false,.slice none 0 0,.map none]) ((lst (T.at_ 4)).length) (ac + 1),⟨ab,ac * 6,(z6 aa),true⟩,qbk aj 3 (.agg #[.string zE,.slice none 0 0,.map none]) ((lst (aa.at_ 4)).length) (al + 1),⟨aj,al * 3,[.string zE,.slice none 0 0,.map none],true⟩]) rfl
         clear f7
         refine qab (wp_seq (qap [0,1] kz ?_))
         refine qb2 [0] [1] [(2,.v (.bool false)),(7,.p 0 0),(9,.v (.bool (decide (v ≥ 3)))),(10,.p 1 0),(27,.v (.slice (some ⟨ab,0,none⟩) ((lst (T.at_ 4)).length) af)),(28,.v (.int .i32 (((lst (T.at_ 4)).length:Nat):Int))),(29,.v (.int .i32 ((ac:Nat):Int))),(31,.p 3 0),(37,.v (.slice (some ⟨aj,0,none⟩) ((lst (aa.at_ 4)).length) ao)),(38,.v (.int .i32 (((lst (aa.at_ 4)).length:Nat):Int))),(39,.v (.int .i32 ((al:Nat):Int))),(40,.p 5 0),(272,.p 5 0)] f8 fun _ f9=>?_
         clear f8
         refine qal (qjL (d:=273) (vs:=[.pointer (some ⟨aj,al * 3,none⟩)]) f9 (fun _=>ql6 _ _ _) Tryz.call99 fun _ ga=>?_)
         clear f9
         refine qae ?_
         have gb:=ga.pk (env':=[(2,.v (.bool false)),(7,.p 0 0),(9,.v (.bool (decide (v ≥ 3)))),(10,.p 1 0),(27,.v (.slice (some ⟨ab,0,none⟩) ((lst (T.at_ 4)).length) af)),(28,.v (.int .i32 (((lst (T.at_ 4)).length:Nat):Int))),(29,.v (.int .i32 ((ac:Nat):Int))),(31,.p 3 0),(37,.v (.slice (some ⟨aj,0,none⟩) ((lst (aa.at_ 4)).length) ao)),(38,.v (.int .i32 (((lst (aa.at_ 4)).length:Nat):Int))),(39,.v (.int .i32 ((al:Nat):Int))),(40,.p 5 0)])
         clear ga
         refine qab (wp_seq (qbo [(2,.v (.bool false)),(7,.p 0 0),(9,.v (.bool (decide (v ≥ 3)))),(10,.p 1 0),(27,.v (.slice (some ⟨ab,0,none⟩) ((lst (T.at_ 4)).length) af)),(28,.v (.int .i32 (((lst (T.at_ 4)).length:Nat):Int))),(29,.v (.int .i32 ((ac:Nat):Int))),(31,.p 3 0),(37,.v (.slice (some ⟨aj,0,none⟩) ((lst (aa.at_ 4)).length) ao)),(38,.v (.int .i32 (((lst (aa.at_ 4)).length:Nat):Int))),(39,.v (.int .i32 ((al:Nat):Int))),(41,.p 5 0)] gb fun _ gc=>?_))
         clear gb
         refine qab (wp_seq (wp_seq (qbo [(2,.v (.bool false)),(7,.p 0 0),(9,.v (.bool (decide (v ≥ 3)))),(10,.p 1 0),(27,.v (.slice (some ⟨ab,0,none⟩) ((lst (T.at_ 4)).length) af)),(28,.v (.int .i32 (((lst (T.at_ 4)).length:Nat):Int))),(29,.v (.int .i32 ((ac:Nat):Int))),(31,.p 3 0),(37,.v (.slice (some ⟨aj,0,none⟩) ((lst (aa.at_ 4)).length) ao)),(38,.v (.int .i32 (((lst (aa.at_ 4)).length:Nat):Int))),(39,.v (.int .i32 ((al:Nat):Int))),(41,.p 5 0)] gc fun _ gd=>?_)))
         clear gc
         refine qab (wp_seq (wp_seq (qbo [(2,.v (.bool false)),(7,.p 0 0),(9,.v (.bool (decide (v ≥ 3)))),(10,.p 1 0),(27,.v (.slice (some ⟨ab,0,none⟩) ((lst (T.at_ 4)).length) af)),(28,.v (.int .i32 (((lst (T.at_ 4)).length:Nat):Int))),(29,.v (.int .i32 ((ac:Nat):Int))),(31,.p 3 0),(37,.v (.slice (some ⟨aj,0,none⟩) ((lst (aa.at_ 4)).length) ao)),(38,.v (.int .i32 (((lst (aa.at_ 4)).length:Nat):Int))),(39,.v (.int .i32 ((al:Nat):Int))),(41,.p 5 0),(275,.v (.bool false))] gd fun _ cM=>qab ?_)))
         clear gd
         refine qan cM.env_ (b:=false) kz (rfl) ?_
         have ge:=cM.cast fZ
         clear cM
         refine qdB (d1:=280) (d2:=281) [(2,.v (.bool false)),(7,.p 0 0),(9,.v (.bool (decide (v ≥ 3)))),(10,.p 1 0),(27,.v (.slice (some ⟨ab,0,none⟩) ((lst (T.at_ 4)).length) af)),(28,.v (.int .i32 (((lst (T.at_ 4)).length:Nat):Int))),(29,.v (.int .i32 ((ac:Nat):Int))),(31,.p 3 0),(37,.v (.slice (some ⟨aj,0,none⟩) ((lst (aa.at_ 4)).length) ao)),(38,.v (.int .i32 (((lst (aa.at_ 4)).length:Nat):Int))),(39,.v (.int .i32 ((al:Nat):Int))),(41,.p 5 0),(279,.v (.bool (decide (v ≥ 3))))] [(2,.v (.bool false)),(7,.p 0 0),(9,.v (.bool (decide (v ≥ 3)))),(10,.p 1 0),(27,.v (.slice (some ⟨ab,0,none⟩) ((lst (T.at_ 4)).length) af)),(28,.v (.int .i32 (((lst (T.at_ 4)).length:Nat):Int))),(29,.v (.int .i32 ((ac:Nat):Int))),(31,.p 3 0),(37,.v (.slice (some ⟨aj,0,none⟩) ((lst (aa.at_ 4)).length) ao)),(38,.v (.int .i32 (((lst (aa.at_ 4)).length:Nat):Int))),(39,.v (.int .i32 ((al:Nat):Int))),(41,.p 5 0),(42,.v (.string (bs (ah.at_ 0).S)))] ge (qcP (ah.at_ 0).S e377_0 _) Tryz.call86 (qgA (ah.at_ 0).S e377_0 _) Tryz.call87 fun _ _ gg=>?_
         clear ge
         refine qab (qdl [⟨bv,0,[.int .i16 v,.string ap.s,.int .i64 ar.n,.int .i16 av.n,.slice ae.A ae.l ae.c,.slice none 0 0,.map none],true⟩,qbk ab 6 (.agg #[.string zE,.int .i64 0,.int .i16 0,.bool false,.slice none 0 0,.map none]) ((lst (T.at_ 4)).length) (ac + 1),⟨ab,ac * 6,(z6 aa),true⟩,qbk aj 3 (.agg #[.string zE,.slice none 0 0,.map none]) ((lst (aa.at_ 4)).length) (al + 1),⟨aj,al * 3,(z29 ah),true⟩] 4 [(2,.v (.bool false)),(7,.p 0 0),(9,.v (.bool (decide (v ≥ 3)))),(10,.p 1 0),(27,.v (.slice (some ⟨ab,0,none⟩) ((lst (T.at_ 4)).length) af)),(28,.v (.int .i32 (((lst (T.at_ 4)).length:Nat):Int))),(29,.v (.int .i32 ((ac:Nat):Int))),(31,.p 3 0),(37,.v (.slice (some ⟨aj,0,none⟩) ((lst (aa.at_ 4)).length) ao)),(38,.v (.int .i32 (((lst (aa.at_ 4)).length:Nat):Int))),(39,.v (.int .i32 ((al:Nat):Int))),(41,.p 5 0)] gg fun _ _ gh=>?_)
         clear gg
         refine qab (wp_seq (wp_seq (qbo [(2,.v (.bool false)),(7,.p 0 0),(9,.v (.bool (decide (v ≥ 3)))),(10,.p 1 0),(27,.v (.slice (some ⟨ab,0,none⟩) ((lst (T.at_ 4)).length) af)),(28,.v (.int .i32 (((lst (T.at_ 4)).length:Nat):Int))),(29,.v (.int .i32 ((ac:Nat):Int))),(31,.p 3 0),(37,.v (.slice (some ⟨aj,0,none⟩) ((lst (aa.at_ 4)).length) ao)),(38,.v (.int .i32 (((lst (aa.at_ 4)).length:Nat):Int))),(39,.v (.int .i32 ((al:Nat):Int))),(41,.p 5 0),(43,.v (.slice none 0 0))] gh fun _ gi=>?_)))
         clear gh
         refine qab (wp_seq (qbo [(2,.v (.bool false)),(7,.p 0 0),(9,.v (.bool (decide (v ≥ 3)))),(10,.p 1 0),(27,.v (.slice (some ⟨ab,0,none⟩) ((lst (T.at_ 4)).length) af)),(28,.v (.int .i32 (((lst (T.at_ 4)).length:Nat):Int))),(29,.v (.int .i32 ((ac:Nat):Int))),(31,.p 3 0),(37,.v (.slice (some ⟨aj,0,none⟩) ((lst (aa.at_ 4)).length) ao)),(38,.v (.int .i32 (((lst (aa.at_ 4)).length:Nat):Int))),(39,.v (.int .i32 ((al:Nat):Int))),(41,.p 5 0),(44,.v (.slice none 0 0))] gi fun _ gj=>?_))
         clear gi
         refine qab (wp_seq (qbo [(2,.v (.bool false)),(7,.p 0 0),(9,.v (.bool (decide (v ≥ 3)))),(10,.p 1 0),(27,.v (.slice (some ⟨ab,0,none⟩) ((lst (T.at_ 4)).length) af)),(28,.v (.int .i32 (((lst (T.at_ 4)).length:Nat):Int))),(29,.v (.int .i32 ((ac:Nat):Int))),(31,.p 3 0),(37,.v (.slice (some ⟨aj,0,none⟩) ((lst (aa.at_ 4)).length) ao)),(38,.v (.int .i32 (((lst (aa.at_ 4)).length:Nat):Int))),(39,.v (.int .i32 ((al:Nat):Int))),(41,.p 5 0),(44,.v (.slice none 0 0))] gj fun _ gk=>?_))
         clear gj
         refine qab (wp_seq ?_)
         have gl:=gk.cast fY
         clear gk
         have gm:=gl.cast (t:=(if (decide (v ≥ 3)) = true then (uv ((lst (ah.at_ 1)).length + 1)) else (be 4 (lst (ah.at_ 1)).length)) ++ (((lst (ah.at_ 1)).flatMap (fun E=>be 4 (IntKind.i32.wrap E.N))) ++ bh)) (by rw [List.append_assoc])
         clear gl
         refine qdB (d1:=292) (d2:=293) [(2,.v (.bool false)),(7,.p 0 0),(9,.v (.bool (decide (v ≥ 3)))),(10,.p 1 0),(27,.v (.slice (some ⟨ab,0,none⟩) ((lst (T.at_ 4)).length) af)),(28,.v (.int .i32 (((lst (T.at_ 4)).length:Nat):Int))),(29,.v (.int .i32 ((ac:Nat):Int))),(31,.p 3 0),(37,.v (.slice (some ⟨aj,0,none⟩) ((lst (aa.at_ 4)).length) ao)),(38,.v (.int .i32 (((lst (aa.at_ 4)).length:Nat):Int))),(39,.v (.int .i32 ((al:Nat):Int))),(41,.p 5 0),(44,.v (.slice none 0 0)),(291,.v (.bool (decide (v ≥ 3))))] [(2,.v (.bool false)),(7,.p 0 0),(9,.v (.bool (decide (v ≥ 3)))),(10,.p 1 0),(27,.v (.slice (some ⟨ab,0,none⟩) ((lst (T.at_ 4)).length) af)),(28,.v (.int .i32 (((lst (T.at_ 4)).length:Nat):Int))),(29,.v (.int .i32 ((ac:Nat):Int))),(31,.p 3 0),(37,.v (.slice (some ⟨aj,0,none⟩) ((lst (aa.at_ 4)).length) ao)),(38,.v (.int .i32 (((lst (aa.at_ 4)).length:Nat):Int))),(39,.v (.int .i32 ((al:Nat):Int))),(41,.p 5 0),(44,.v (.slice none 0 0)),(45,.v (.int .i32 (((lst (ah.at_ 1)).length:Nat):Int)))] gm (qcf ((lst (ah.at_ 1)).length) e377_1 _ (flat_ge' (fun E=>qfN (by decide)) _)) Tryz.call90 (qdP ((lst (ah.at_ 1)).length) e377_1 _ (flat_ge' (fun E=>qfN (by decide)) _)) Tryz.call91 fun _ _ gn=>?_
         clear gm
         refine qab (wp_seq (wp_seq (qjM (d:=294) [(2,.v (.bool false)),(7,.p 0 0),(9,.v (.bool (decide (v ≥ 3)))),(10,.p 1 0),(27,.v (.slice (some ⟨ab,0,none⟩) ((lst (T.at_ 4)).length) af)),(28,.v (.int .i32 (((lst (T.at_ 4)).length:Nat):Int))),(29,.v (.int .i32 ((ac:Nat):Int))),(31,.p 3 0),(37,.v (.slice (some ⟨aj,0,none⟩) ((lst (aa.at_ 4)).length) ao)),(38,.v (.int .i32 (((lst (aa.at_ 4)).length:Nat):Int))),(39,.v (.int .i32 ((al:Nat):Int))),(41,.p 5 0),(44,.v (.slice none 0 0)),(45,.v (.int .i32 (((lst (ah.at_ 1)).length:Nat):Int))),(295,.v (.bool false))] gn (pOk _) Tryz.call92 fun _ _ cN=>?_)))
         clear gn
         refine qab (qan cN.env_ (b:=false) kz (rfl) ?_)
         refine wp_skip (qab (wp_seq (qfO (t:=87) (e:=21) (size:=1) (bytes:=4) (d:=298) (A0:=none) (m:=0) (cp:=0) [(2,.v (.bool false)),(7,.p 0 0),(9,.v (.bool (decide (v ≥ 3)))),(10,.p 1 0),(27,.v (.slice (some ⟨ab,0,none⟩) ((lst (T.at_ 4)).length) af)),(28,.v (.int .i32 (((lst (T.at_ 4)).length:Nat):Int))),(29,.v (.int .i32 ((ac:Nat):Int))),(31,.p 3 0),(37,.v (.slice (some ⟨aj,0,none⟩) ((lst (aa.at_ 4)).length) ao)),(38,.v (.int .i32 (((lst (aa.at_ 4)).length:Nat):Int))),(39,.v (.int .i32 ((al:Nat):Int))),(41,.p 5 0),(45,.v (.int .i32 (((lst (ah.at_ 1)).length:Nat):Int))),(297,.v (.slice none 0 0))] [(2,.v (.bool false)),(7,.p 0 0),(9,.v (.bool (decide (v ≥ 3)))),(10,.p 1 0),(27,.v (.slice (some ⟨ab,0,none⟩) ((lst (T.at_ 4)).length) af)),(28,.v (.int .i32 (((lst (T.at_ 4)).length:Nat):Int))),(29,.v (.int .i32 ((ac:Nat):Int))),(31,.p 3 0),(37,.v (.slice (some ⟨aj,0,none⟩) ((lst (aa.at_ 4)).length) ao)),(38,.v (.int .i32 (((lst (aa.at_ 4)).length:Nat):Int))),(39,.v (.int .i32 ((al:Nat):Int))),(41,.p 5 0),(44,.v (.slice none 0 0)),(45,.v (.int .i32 (((lst (ah.at_ 1)).length:Nat):Int)))] 1 cN fun _ gp=>?_)))
         clear cN
         refine qab (qeL (Mid:=fun a_ w_=>∃ (az:DV) (P':qcr),(∀ w F,P' w F → j1 w F ∧ (Slots w F 1 az.A az.c az.l (fun i=>[.int .i32 ((az.f i).n)]) ∧ az.l ≤ 1000000 ∧ ∀ i,i < az.l → True) ∧ (az.l = (lst (ah.at_ 1)).length ∧ ∀ i,i < az.l → (az.f i).n = IntKind.i32.wrap ((lst (ah.at_ 1)).getD i .zero).N)) ∧ RS w (fun b o=>b = bv ∧ o < 7) F 345 aO [⟨bv,0,[.int .i16 v,.string ap.s,.int .i64 ar.n,.int .i16 av.n,.slice ae.A ae.l ae.c,.slice none 0 0,.map none],true⟩,qbk ab 6 (.agg #[.string ByteArray.empty,.int .i64 0,.int .i16 0,.bool false,.slice none 0 0,.map none]) ((lst (T.at_ 4)).length) (ac + 1),⟨ab,ac * 6,[.string (bs (aa.at_ 0).S),.int .i64 (IntKind.i64.wrap (aa.at_ 1).N),.int .i16 (IntKind.i16.wrap (aa.at_ 2).N),.bool (decide ((aa.at_ 3).N % 2 = 1)),.slice none 0 0,.map none],true⟩,qbk aj 3 (.agg #[.string ByteArray.empty,.slice none 0 0,.map none]) ((lst (aa.at_ 4)).length) (al + 1),⟨aj,al * 3,[.string (bs (ah.at_ 0).S),.slice none 0 0,.map none],true⟩] [(2,.v (.bool false)),(7,.p 0 0),(9,.v (.bool (decide (v ≥ 3)))),(10,.p 1 0),(27,.v (.slice (some ⟨ab,0,none⟩) ((lst (T.at_ 4)).length) af)),(28,.v (.int .i32 (((lst (T.at_ 4)).length:Nat):Int))),(29,.v (.int .i32 ((ac:Nat):Int))),(31,.p 3 0),(37,.v (.slice (some ⟨aj,0,none⟩) ((lst (aa.at_ 4)).length) ao)),(38,.v (.int .i32 (((lst (aa.at_ 4)).length:Nat):Int))),(39,.v (.int .i32 ((al:Nat):Int))),(41,.p 5 0),(44,.v (.slice az.A az.l az.c))] P' bh a_ w_) ?_ ?_)
         ·
          refine wp_seq (qbo [(2,.v (.bool false)),(7,.p 0 0),(9,.v (.bool (decide (v ≥ 3)))),(10,.p 1 0),(27,.v (.slice (some ⟨ab,0,none⟩) ((lst (T.at_ 4)).length) af)),(28,.v (.int .i32 (((lst (T.at_ 4)).length:Nat):Int))),(29,.v (.int .i32 ((ac:Nat):Int))),(31,.p 3 0),(37,.v (.slice (some ⟨aj,0,none⟩) ((lst (aa.at_ 4)).length) ao)),(38,.v (.int .i32 (((lst (aa.at_ 4)).length:Nat):Int))),(39,.v (.int .i32 ((al:Nat):Int))),(41,.p 5 0),(44,.v (.slice none 0 0)),(45,.v (.int .i32 (((lst (ah.at_ 1)).length:Nat):Int))),(300,.v (.bool (decide ((((lst (ah.at_ 1)).length:Nat):Int) > 0))))] gp fun _ bi=>qab ?_)
          clear gp
          refine qaw bi.env_ (b:=decide ((((lst (ah.at_ 1)).length:Nat):Int) > 0)) kz (fun bI=>?_) (fun bI=>?_)
          ·
           have hn_g414:0 < (lst (ah.at_ 1)).length:=by have h_:=zD bI; omega
           refine qap [0,1,2,3] kz ?_
           refine qb2 [0,1] [2,3] [(2,.v (.bool false)),(7,.p 0 0),(9,.v (.bool (decide (v ≥ 3)))),(10,.p 1 0),(27,.v (.slice (some ⟨ab,0,none⟩) ((lst (T.at_ 4)).length) af)),(28,.v (.int .i32 (((lst (T.at_ 4)).length:Nat):Int))),(29,.v (.int .i32 ((ac:Nat):Int))),(31,.p 3 0),(37,.v (.slice (some ⟨aj,0,none⟩) ((lst (aa.at_ 4)).length) ao)),(38,.v (.int .i32 (((lst (aa.at_ 4)).length:Nat):Int))),(39,.v (.int .i32 ((al:Nat):Int))),(41,.p 5 0),(45,.v (.int .i32 (((lst (ah.at_ 1)).length:Nat):Int))),(301,.v (.slice none 0 0)),(302,.v (.int .i32 (((lst (ah.at_ 1)).length:Nat):Int)))] bi fun _ gq=>?_
           clear bi
           refine qal (qdv (A0:=none) (d:=303) (t:=87) (tn:=21) (e:=21) (size:=1) (bytes:=4) (k:=.i32) (kn:=.i32) (q:=(((lst (ah.at_ 1)).length:Nat):Int)) (j:=(lst (ah.at_ 1)).length) (.int .i32 0) gq (fun aD aG _ _ hg_g414 hcap_g414 gt=>?_) rfl hn_g414 (by have:=e377_1; omega))
           clear gq
           refine qb2 [3] [] [(2,.v (.bool false)),(7,.p 0 0),(9,.v (.bool (decide (v ≥ 3)))),(10,.p 1 0),(27,.v (.slice (some ⟨ab,0,none⟩) ((lst (T.at_ 4)).length) af)),(28,.v (.int .i32 (((lst (T.at_ 4)).length:Nat):Int))),(29,.v (.int .i32 ((ac:Nat):Int))),(31,.p 3 0),(37,.v (.slice (some ⟨aj,0,none⟩) ((lst (aa.at_ 4)).length) ao)),(38,.v (.int .i32 (((lst (aa.at_ 4)).length:Nat):Int))),(39,.v (.int .i32 ((al:Nat):Int))),(41,.p 5 0),(44,.v (.slice (some ⟨aD,0,none⟩) ((lst (ah.at_ 1)).length) aG)),(45,.v (.int .i32 (((lst (ah.at_ 1)).length:Nat):Int)))] gt fun _ gv=>qae ?_
           clear gt
           refine qab (wp_seq (qbo [(2,.v (.bool false)),(7,.p 0 0),(9,.v (.bool (decide (v ≥ 3)))),(10,.p 1 0),(27,.v (.slice (some ⟨ab,0,none⟩) ((lst (T.at_ 4)).length) af)),(28,.v (.int .i32 (((lst (T.at_ 4)).length:Nat):Int))),(29,.v (.int .i32 ((ac:Nat):Int))),(31,.p 3 0),(37,.v (.slice (some ⟨aj,0,none⟩) ((lst (aa.at_ 4)).length) ao)),(38,.v (.int .i32 (((lst (aa.at_ 4)).length:Nat):Int))),(39,.v (.int .i32 ((al:Nat):Int))),(41,.p 5 0),(44,.v (.slice (some ⟨aD,0,none⟩) ((lst (ah.at_ 1)).length) aG)),(45,.v (.int .i32 (((lst (ah.at_ 1)).length:Nat):Int))),(46,.v (.int .i32 0))] gv fun _ cO=>?_))
           clear gv
           refine qab (wp_block ?_)
           have cP:=cO.mv
           have j3:=(cO.cast (t:=(lst (ah.at_ 1)).flatMap (fun E=>be 4 (IntKind.i32.wrap E.N)) ++ bh) rfl).pk (env':=[(2,.v (.bool false)),(7,.p 0 0),(9,.v (.bool (decide (v ≥ 3)))),(10,.p 1 0),(27,.v (.slice (some ⟨ab,0,none⟩) ((lst (T.at_ 4)).length) af)),(28,.v (.int .i32 (((lst (T.at_ 4)).length:Nat):Int))),(29,.v (.int .i32 ((ac:Nat):Int))),(31,.p 3 0),(37,.v (.slice (some ⟨aj,0,none⟩) ((lst (aa.at_ 4)).length) ao)),(38,.v (.int .i32 (((lst (aa.at_ 4)).length:Nat):Int))),(39,.v (.int .i32 ((al:Nat):Int))),(41,.p 5 0),(44,.v (.slice (some ⟨aD,0,none⟩) ((lst (ah.at_ 1)).length) aG)),(45,.v (.int .i32 (((lst (ah.at_ 1)).length:Nat):Int))),(46,.v (.int .i32 ((0:Nat):Int)))])
           clear cO
           refine qfM (tb:=[⟨bv,0,[.int .i16 v,.string ap.s,.int .i64 ar.n,.int .i16 av.n,.slice ae.A ae.l ae.c,.slice none 0 0,.map none],true⟩,qbk ab 6 (.agg #[.string zE,.int .i64 0,.int .i16 0,.bool false,.slice none 0 0,.map none]) ((lst (T.at_ 4)).length) (ac + 1),⟨ab,ac * 6,(z6 aa),true⟩,qbk aj 3 (.agg #[.string zE,.slice none 0 0,.map none]) ((lst (aa.at_ 4)).length) (al + 1),⟨aj,al * 3,(z29 ah),true⟩]) (z:=.int .i32 0) (cl:=(fun d=>[.int .i32 d.n])) (ok:=qhh) (rel:=(fun d t=>d.n = IntKind.i32.wrap t.N)) (L:=lst (ah.at_ 1)) (size:=1) (fun E=>be 4 (IntKind.i32.wrap E.N)) bh (fun k=>[(2,.v (.bool false)),(7,.p 0 0),(9,.v (.bool (decide (v ≥ 3)))),(10,.p 1 0),(27,.v (.slice (some ⟨ab,0,none⟩) ((lst (T.at_ 4)).length) af)),(28,.v (.int .i32 (((lst (T.at_ 4)).length:Nat):Int))),(29,.v (.int .i32 ((ac:Nat):Int))),(31,.p 3 0),(37,.v (.slice (some ⟨aj,0,none⟩) ((lst (aa.at_ 4)).length) ao)),(38,.v (.int .i32 (((lst (aa.at_ 4)).length:Nat):Int))),(39,.v (.int .i32 ((al:Nat):Int))),(41,.p 5 0),(44,.v (.slice (some ⟨aD,0,none⟩) ((lst (ah.at_ 1)).length) aG)),(45,.v (.int .i32 (((lst (ah.at_ 1)).length:Nat):Int))),(46,.v (.int .i32 ((k:Nat):Int)))]) j3 qgb (fun aH bw _ _ j4 j5 gw=>?_) (fun _ _ gx=>?_)
           ·
            obtain ⟨lg,gy,gz⟩:∃ P',(∀ w F,P' w F → (j1 w F ∧ qe9 aD 1 (fun d=>[.int .i32 d.n]) qhh (fun d t=>d.n = IntKind.i32.wrap t.N) (lst (ah.at_ 1)) aH w F)) ∧ RS w (fun b o=>b = bv ∧ o < 7) F 345 aO [⟨bv,0,[.int .i16 v,.string ap.s,.int .i64 ar.n,.int .i16 av.n,.slice ae.A ae.l ae.c,.slice none 0 0,.map none],true⟩,qbk ab 6 (.agg #[.string ByteArray.empty,.int .i64 0,.int .i16 0,.bool false,.slice none 0 0,.map none]) ((lst (T.at_ 4)).length) (ac + 1),⟨ab,ac * 6,[.string (bs (aa.at_ 0).S),.int .i64 (IntKind.i64.wrap (aa.at_ 1).N),.int .i16 (IntKind.i16.wrap (aa.at_ 2).N),.bool (decide ((aa.at_ 3).N % 2 = 1)),.slice none 0 0,.map none],true⟩,qbk aj 3 (.agg #[.string ByteArray.empty,.slice none 0 0,.map none]) ((lst (aa.at_ 4)).length) (al + 1),⟨aj,al * 3,[.string (bs (ah.at_ 0).S),.slice none 0 0,.map none],true⟩,qbk aD 1 (.int .i32 0) ((lst (ah.at_ 1)).length) aH] [(2,.v (.bool false)),(7,.p 0 0),(9,.v (.bool (decide (v ≥ 3)))),(10,.p 1 0),(27,.v (.slice (some ⟨ab,0,none⟩) ((lst (T.at_ 4)).length) af)),(28,.v (.int .i32 (((lst (T.at_ 4)).length:Nat):Int))),(29,.v (.int .i32 ((ac:Nat):Int))),(31,.p 3 0),(37,.v (.slice (some ⟨aj,0,none⟩) ((lst (aa.at_ 4)).length) ao)),(38,.v (.int .i32 (((lst (aa.at_ 4)).length:Nat):Int))),(39,.v (.int .i32 ((al:Nat):Int))),(41,.p 5 0),(44,.v (.slice (some ⟨aD,0,none⟩) ((lst (ah.at_ 1)).length) aG)),(45,.v (.int .i32 (((lst (ah.at_ 1)).length:Nat):Int))),(46,.v (.int .i32 ((aH:Nat):Int)))] P' ((fun E=>be 4 (IntKind.i32.wrap E.N)) bw ++ (((lst (ah.at_ 1)).drop (aH + 1)).flatMap (fun E=>be 4 (IntKind.i32.wrap E.N)) ++ bh)) _ _:=⟨_,fun _ _ h=>h,gw⟩
            clear gw
            obtain ⟨j6,gA⟩:∃ R,R = ((lst (ah.at_ 1)).drop (aH + 1)).flatMap (fun E=>be 4 (IntKind.i32.wrap E.N)) ++ bh:=⟨_,rfl⟩
            have gB:=gz.cast (t:=(fun E=>be 4 (IntKind.i32.wrap E.N)) bw ++ j6) (by rw [gA])
            clear gz
            have gC:=gB.cast (t:=(be 4 (IntKind.i32.wrap bw.N)) ++ j6) rfl
            clear gB
            refine wp_seq (wp_seq (qbo [(2,.v (.bool false)),(7,.p 0 0),(9,.v (.bool (decide (v ≥ 3)))),(10,.p 1 0),(27,.v (.slice (some ⟨ab,0,none⟩) ((lst (T.at_ 4)).length) af)),(28,.v (.int .i32 (((lst (T.at_ 4)).length:Nat):Int))),(29,.v (.int .i32 ((ac:Nat):Int))),(31,.p 3 0),(37,.v (.slice (some ⟨aj,0,none⟩) ((lst (aa.at_ 4)).length) ao)),(38,.v (.int .i32 (((lst (aa.at_ 4)).length:Nat):Int))),(39,.v (.int .i32 ((al:Nat):Int))),(41,.p 5 0),(44,.v (.slice (some ⟨aD,0,none⟩) ((lst (ah.at_ 1)).length) aG)),(45,.v (.int .i32 (((lst (ah.at_ 1)).length:Nat):Int))),(46,.v (.int .i32 ((aH:Nat):Int))),(306,.v (.bool (decide (((aH:Nat):Int) < (((lst (ah.at_ 1)).length:Nat):Int)))))] gC fun _ cQ=>qab ?_))
            clear gC
            refine qa7 cQ.env_ (b:=decide (((aH:Nat):Int) < (((lst (ah.at_ 1)).length:Nat):Int))) kz (decide_eq_true (by omega)) ?_
            refine wp_skip (qab (wp_seq (wp_block (wp_seq (qej (d:=309) [(2,.v (.bool false)),(7,.p 0 0),(9,.v (.bool (decide (v ≥ 3)))),(10,.p 1 0),(27,.v (.slice (some ⟨ab,0,none⟩) ((lst (T.at_ 4)).length) af)),(28,.v (.int .i32 (((lst (T.at_ 4)).length:Nat):Int))),(29,.v (.int .i32 ((ac:Nat):Int))),(31,.p 3 0),(37,.v (.slice (some ⟨aj,0,none⟩) ((lst (aa.at_ 4)).length) ao)),(38,.v (.int .i32 (((lst (aa.at_ 4)).length:Nat):Int))),(39,.v (.int .i32 ((al:Nat):Int))),(41,.p 5 0),(44,.v (.slice (some ⟨aD,0,none⟩) ((lst (ah.at_ 1)).length) aG)),(45,.v (.int .i32 (((lst (ah.at_ 1)).length:Nat):Int))),(46,.v (.int .i32 ((aH:Nat):Int))),(47,.v (.int .i32 (IntKind.i32.wrap bw.N)))] cQ (qkJ _ _) Tryz.call95 fun _ _ gD=>?_)))))
            clear cQ
            refine qab (qap [0,1,2,3,4] kz ?_)
            refine qb2 [0,1,2] [3,4] [(2,.v (.bool false)),(7,.p 0 0),(9,.v (.bool (decide (v ≥ 3)))),(10,.p 1 0),(27,.v (.slice (some ⟨ab,0,none⟩) ((lst (T.at_ 4)).length) af)),(28,.v (.int .i32 (((lst (T.at_ 4)).length:Nat):Int))),(29,.v (.int .i32 ((ac:Nat):Int))),(31,.p 3 0),(37,.v (.slice (some ⟨aj,0,none⟩) ((lst (aa.at_ 4)).length) ao)),(38,.v (.int .i32 (((lst (aa.at_ 4)).length:Nat):Int))),(39,.v (.int .i32 ((al:Nat):Int))),(41,.p 5 0),(44,.v (.slice (some ⟨aD,0,none⟩) ((lst (ah.at_ 1)).length) aG)),(45,.v (.int .i32 (((lst (ah.at_ 1)).length:Nat):Int))),(46,.v (.int .i32 ((aH:Nat):Int))),(310,.v (.slice (some ⟨aD,0,none⟩) ((lst (ah.at_ 1)).length) aG)),(311,.v (.int .i32 ((aH:Nat):Int))),(312,.v (.int .i32 (IntKind.i32.wrap bw.N)))] gD fun _ gE=>?_
            clear gD
            refine qal (qgz (t:=87) (e:=21) (size:=1) (bytes:=4) (d:=313) (tb:=[⟨bv,0,[.int .i16 v,.string ap.s,.int .i64 ar.n,.int .i16 av.n,.slice ae.A ae.l ae.c,.slice none 0 0,.map none],true⟩,qbk ab 6 (.agg #[.string zE,.int .i64 0,.int .i16 0,.bool false,.slice none 0 0,.map none]) ((lst (T.at_ 4)).length) (ac + 1),⟨ab,ac * 6,(z6 aa),true⟩,qbk aj 3 (.agg #[.string zE,.slice none 0 0,.map none]) ((lst (aa.at_ 4)).length) (al + 1),⟨aj,al * 3,(z29 ah),true⟩]) (z:=.int .i32 0) gE j5 rfl kz fun _ gF=>?_)
            clear gE
            refine qal (qd9 [⟨bv,0,[.int .i16 v,.string ap.s,.int .i64 ar.n,.int .i16 av.n,.slice ae.A ae.l ae.c,.slice none 0 0,.map none],true⟩,qbk ab 6 (.agg #[.string zE,.int .i64 0,.int .i16 0,.bool false,.slice none 0 0,.map none]) ((lst (T.at_ 4)).length) (ac + 1),⟨ab,ac * 6,(z6 aa),true⟩,qbk aj 3 (.agg #[.string zE,.slice none 0 0,.map none]) ((lst (aa.at_ 4)).length) (al + 1),⟨aj,al * 3,(z29 ah),true⟩,qbk aD 1 (.int .i32 0) ((lst (ah.at_ 1)).length) (aH + 1),⟨aD,aH * 1,[.int .i32 (IntKind.i32.wrap bw.N)],true⟩] 6 gF fun _ gG=>qae ?_)
            clear gF
            have gH:=gG.pk (env':=[(2,.v (.bool false)),(7,.p 0 0),(9,.v (.bool (decide (v ≥ 3)))),(10,.p 1 0),(27,.v (.slice (some ⟨ab,0,none⟩) ((lst (T.at_ 4)).length) af)),(28,.v (.int .i32 (((lst (T.at_ 4)).length:Nat):Int))),(29,.v (.int .i32 ((ac:Nat):Int))),(31,.p 3 0),(37,.v (.slice (some ⟨aj,0,none⟩) ((lst (aa.at_ 4)).length) ao)),(38,.v (.int .i32 (((lst (aa.at_ 4)).length:Nat):Int))),(39,.v (.int .i32 ((al:Nat):Int))),(41,.p 5 0),(44,.v (.slice (some ⟨aD,0,none⟩) ((lst (ah.at_ 1)).length) aG)),(45,.v (.int .i32 (((lst (ah.at_ 1)).length:Nat):Int))),(46,.v (.int .i32 ((aH:Nat):Int)))])
            clear gG
            refine qar (qab (qbo [(2,.v (.bool false)),(7,.p 0 0),(9,.v (.bool (decide (v ≥ 3)))),(10,.p 1 0),(27,.v (.slice (some ⟨ab,0,none⟩) ((lst (T.at_ 4)).length) af)),(28,.v (.int .i32 (((lst (T.at_ 4)).length:Nat):Int))),(29,.v (.int .i32 ((ac:Nat):Int))),(31,.p 3 0),(37,.v (.slice (some ⟨aj,0,none⟩) ((lst (aa.at_ 4)).length) ao)),(38,.v (.int .i32 (((lst (aa.at_ 4)).length:Nat):Int))),(39,.v (.int .i32 ((al:Nat):Int))),(41,.p 5 0),(44,.v (.slice (some ⟨aD,0,none⟩) ((lst (ah.at_ 1)).length) aG)),(45,.v (.int .i32 (((lst (ah.at_ 1)).length:Nat):Int))),(46,.v (.int .i32 (IntKind.i32.wrap (((aH:Nat):Int) + 1))))] gH fun _ gI=>?_))
            clear gH
            refine qab ?_
            have j7:=(gI.envEq (env':=[(2,.v (.bool false)),(7,.p 0 0),(9,.v (.bool (decide (v ≥ 3)))),(10,.p 1 0),(27,.v (.slice (some ⟨ab,0,none⟩) ((lst (T.at_ 4)).length) af)),(28,.v (.int .i32 (((lst (T.at_ 4)).length:Nat):Int))),(29,.v (.int .i32 ((ac:Nat):Int))),(31,.p 3 0),(37,.v (.slice (some ⟨aj,0,none⟩) ((lst (aa.at_ 4)).length) ao)),(38,.v (.int .i32 (((lst (aa.at_ 4)).length:Nat):Int))),(39,.v (.int .i32 ((al:Nat):Int))),(41,.p 5 0),(44,.v (.slice (some ⟨aD,0,none⟩) ((lst (ah.at_ 1)).length) aG)),(45,.v (.int .i32 (((lst (ah.at_ 1)).length:Nat):Int))),(46,.v (.int .i32 ((aH + 1:Nat):Int)))]) (by rw [qeN (by have:=e377_1; omega)])).pk (env':=[(2,.v (.bool false)),(7,.p 0 0),(9,.v (.bool (decide (v ≥ 3)))),(10,.p 1 0),(27,.v (.slice (some ⟨ab,0,none⟩) ((lst (T.at_ 4)).length) af)),(28,.v (.int .i32 (((lst (T.at_ 4)).length:Nat):Int))),(29,.v (.int .i32 ((ac:Nat):Int))),(31,.p 3 0),(37,.v (.slice (some ⟨aj,0,none⟩) ((lst (aa.at_ 4)).length) ao)),(38,.v (.int .i32 (((lst (aa.at_ 4)).length:Nat):Int))),(39,.v (.int .i32 ((al:Nat):Int))),(41,.p 5 0),(44,.v (.slice (some ⟨aD,0,none⟩) ((lst (ah.at_ 1)).length) aG)),(45,.v (.int .i32 (((lst (ah.at_ 1)).length:Nat):Int))),(46,.v (.int .i32 ((aH + 1:Nat):Int)))])
            clear gI
            exact (RS.thing (tb:=[⟨bv,0,[.int .i16 v,.string ap.s,.int .i64 ar.n,.int .i16 av.n,.slice ae.A ae.l ae.c,.slice none 0 0,.map none],true⟩,qbk ab 6 (.agg #[.string ByteArray.empty,.int .i64 0,.int .i16 0,.bool false,.slice none 0 0,.map none]) ((lst (T.at_ 4)).length) (ac + 1),⟨ab,ac * 6,[.string (bs (aa.at_ 0).S),.int .i64 (IntKind.i64.wrap (aa.at_ 1).N),.int .i16 (IntKind.i16.wrap (aa.at_ 2).N),.bool (decide ((aa.at_ 3).N % 2 = 1)),.slice none 0 0,.map none],true⟩,qbk aj 3 (.agg #[.string ByteArray.empty,.slice none 0 0,.map none]) ((lst (aa.at_ 4)).length) (al + 1),⟨aj,al * 3,[.string (bs (ah.at_ 0).S),.slice none 0 0,.map none],true⟩]) (z:=.int .i32 0) (D:=dvN (IntKind.i32.wrap bw.N)) (j7.cast gA) hg_g414 j4 qgb cP rfl (fun w F h_=>⟨(gy _ _ h_).1,(gy _ _ h_).2,trivial,rfl⟩) kz)
           refine wp_seq (wp_seq (qbo [(2,.v (.bool false)),(7,.p 0 0),(9,.v (.bool (decide (v ≥ 3)))),(10,.p 1 0),(27,.v (.slice (some ⟨ab,0,none⟩) ((lst (T.at_ 4)).length) af)),(28,.v (.int .i32 (((lst (T.at_ 4)).length:Nat):Int))),(29,.v (.int .i32 ((ac:Nat):Int))),(31,.p 3 0),(37,.v (.slice (some ⟨aj,0,none⟩) ((lst (aa.at_ 4)).length) ao)),(38,.v (.int .i32 (((lst (aa.at_ 4)).length:Nat):Int))),(39,.v (.int .i32 ((al:Nat):Int))),(41,.p 5 0),(44,.v (.slice (some ⟨aD,0,none⟩) ((lst (ah.at_ 1)).length) aG)),(45,.v (.int .i32 (((lst (ah.at_ 1)).length:Nat):Int))),(46,.v (.int .i32 (((lst (ah.at_ 1)).length:Nat):Int))),(306,.v (.bool (decide ((((lst (ah.at_ 1)).length:Nat):Int) < (((lst (ah.at_ 1)).length:Nat):Int)))))] gx fun _ gJ=>qab ?_))
           clear gx
           refine qan gJ.env_ (b:=decide ((((lst (ah.at_ 1)).length:Nat):Int) < (((lst (ah.at_ 1)).length:Nat):Int))) kz (decide_eq_false (by omega)) ?_
           refine wp_exit (qau (qau (qaI (qab ?_))))
           obtain ⟨kS,j8⟩:=RS.listEnd (tb:=[⟨bv,0,[.int .i16 v,.string ap.s,.int .i64 ar.n,.int .i16 av.n,.slice ae.A ae.l ae.c,.slice none 0 0,.map none],true⟩,qbk ab 6 (.agg #[.string zE,.int .i64 0,.int .i16 0,.bool false,.slice none 0 0,.map none]) ((lst (T.at_ 4)).length) (ac + 1),⟨ab,ac * 6,(z6 aa),true⟩,qbk aj 3 (.agg #[.string zE,.slice none 0 0,.map none]) ((lst (aa.at_ 4)).length) (al + 1),⟨aj,al * 3,(z29 ah),true⟩]) (c:=aG) (gJ.pk (env':=[(2,.v (.bool false)),(7,.p 0 0),(9,.v (.bool (decide (v ≥ 3)))),(10,.p 1 0),(27,.v (.slice (some ⟨ab,0,none⟩) ((lst (T.at_ 4)).length) af)),(28,.v (.int .i32 (((lst (T.at_ 4)).length:Nat):Int))),(29,.v (.int .i32 ((ac:Nat):Int))),(31,.p 3 0),(37,.v (.slice (some ⟨aj,0,none⟩) ((lst (aa.at_ 4)).length) ao)),(38,.v (.int .i32 (((lst (aa.at_ 4)).length:Nat):Int))),(39,.v (.int .i32 ((al:Nat):Int))),(41,.p 5 0),(44,.v (.slice (some ⟨aD,0,none⟩) ((lst (ah.at_ 1)).length) aG))])) hg_g414 qgb cP hcap_g414 (by have:=e377_1; omega) hn_g414 kz
           exact ⟨dvL (some ⟨aD,0,none⟩) (lst (ah.at_ 1)).length aG kS,_,fun w F h_=>⟨h_.1,⟨h_.2.1,Nat.le_trans e377_1 (by decide),h_.2.2.1⟩,⟨rfl,h_.2.2.2⟩⟩,j8⟩
          refine wp_skip (qab (wp_seq (qbo [(2,.v (.bool false)),(7,.p 0 0),(9,.v (.bool (decide (v ≥ 3)))),(10,.p 1 0),(27,.v (.slice (some ⟨ab,0,none⟩) ((lst (T.at_ 4)).length) af)),(28,.v (.int .i32 (((lst (T.at_ 4)).length:Nat):Int))),(29,.v (.int .i32 ((ac:Nat):Int))),(31,.p 3 0),(37,.v (.slice (some ⟨aj,0,none⟩) ((lst (aa.at_ 4)).length) ao)),(38,.v (.int .i32 (((lst (aa.at_ 4)).length:Nat):Int))),(39,.v (.int .i32 ((al:Nat):Int))),(41,.p 5 0),(44,.v (.slice none 0 0)),(45,.v (.int .i32 (((lst (ah.at_ 1)).length:Nat):Int))),(46,.v (.int .i32 0))] bi fun _ gK=>?_)))
          clear bi
          refine qab (wp_block (qea (wp_seq (wp_seq (qbo [(2,.v (.bool false)),(7,.p 0 0),(9,.v (.bool (decide (v ≥ 3)))),(10,.p 1 0),(27,.v (.slice (some ⟨ab,0,none⟩) ((lst (T.at_ 4)).length) af)),(28,.v (.int .i32 (((lst (T.at_ 4)).length:Nat):Int))),(29,.v (.int .i32 ((ac:Nat):Int))),(31,.p 3 0),(37,.v (.slice (some ⟨aj,0,none⟩) ((lst (aa.at_ 4)).length) ao)),(38,.v (.int .i32 (((lst (aa.at_ 4)).length:Nat):Int))),(39,.v (.int .i32 ((al:Nat):Int))),(41,.p 5 0),(44,.v (.slice none 0 0)),(45,.v (.int .i32 (((lst (ah.at_ 1)).length:Nat):Int))),(46,.v (.int .i32 0)),(306,.v (.bool (decide (0 < (((lst (ah.at_ 1)).length:Nat):Int)))))] gK fun _ gL=>qab ?_)))))
          clear gK
          refine qan gL.env_ (b:=decide (0 < (((lst (ah.at_ 1)).length:Nat):Int))) kz (decide_eq_false (by have h_:=zF bI; omega)) ?_
          refine wp_exit (qau (qau (qaI (qab ?_))))
          have hz_:(lst (ah.at_ 1)).length = 0:=by have h_:=zF bI; omega
          exact ⟨dvL none 0 0 (fun _=>dv0),_,fun w F h_=>⟨h_,⟨Slots.nil _ _ _ _,Nat.zero_le _,fun _ h=>absurd h (Nat.not_lt_zero _)⟩,⟨hz_.symm,fun _ h=>absurd h (Nat.not_lt_zero _)⟩⟩,(gL.cast (t:=bh) (by rw [List.eq_nil_of_length_eq_zero hz_]; rfl)).pk (env':=[(2,.v (.bool false)),(7,.p 0 0),(9,.v (.bool (decide (v ≥ 3)))),(10,.p 1 0),(27,.v (.slice (some ⟨ab,0,none⟩) ((lst (T.at_ 4)).length) af)),(28,.v (.int .i32 (((lst (T.at_ 4)).length:Nat):Int))),(29,.v (.int .i32 ((ac:Nat):Int))),(31,.p 3 0),(37,.v (.slice (some ⟨aj,0,none⟩) ((lst (aa.at_ 4)).length) ao)),(38,.v (.int .i32 (((lst (aa.at_ 4)).length:Nat):Int))),(39,.v (.int .i32 ((al:Nat):Int))),(41,.p 5 0),(44,.v (.slice none 0 0))])⟩
         rintro _ _ ⟨az,kT,bJ,gM⟩
         refine wp_seq (qbo [(2,.v (.bool false)),(7,.p 0 0),(9,.v (.bool (decide (v ≥ 3)))),(10,.p 1 0),(27,.v (.slice (some ⟨ab,0,none⟩) ((lst (T.at_ 4)).length) af)),(28,.v (.int .i32 (((lst (T.at_ 4)).length:Nat):Int))),(29,.v (.int .i32 ((ac:Nat):Int))),(31,.p 3 0),(37,.v (.slice (some ⟨aj,0,none⟩) ((lst (aa.at_ 4)).length) ao)),(38,.v (.int .i32 (((lst (aa.at_ 4)).length:Nat):Int))),(39,.v (.int .i32 ((al:Nat):Int))),(41,.p 5 0),(43,.v (.slice az.A az.l az.c))] gM fun _ gN=>?_)
         clear gM
         refine qab (qdl [⟨bv,0,[.int .i16 v,.string ap.s,.int .i64 ar.n,.int .i16 av.n,.slice ae.A ae.l ae.c,.slice none 0 0,.map none],true⟩,qbk ab 6 (.agg #[.string zE,.int .i64 0,.int .i16 0,.bool false,.slice none 0 0,.map none]) ((lst (T.at_ 4)).length) (ac + 1),⟨ab,ac * 6,(z6 aa),true⟩,qbk aj 3 (.agg #[.string zE,.slice none 0 0,.map none]) ((lst (aa.at_ 4)).length) (al + 1),⟨aj,al * 3,[.string (bs (ah.at_ 0).S),.slice az.A az.l az.c,.map none],true⟩] 4 [(2,.v (.bool false)),(7,.p 0 0),(9,.v (.bool (decide (v ≥ 3)))),(10,.p 1 0),(27,.v (.slice (some ⟨ab,0,none⟩) ((lst (T.at_ 4)).length) af)),(28,.v (.int .i32 (((lst (T.at_ 4)).length:Nat):Int))),(29,.v (.int .i32 ((ac:Nat):Int))),(31,.p 3 0),(37,.v (.slice (some ⟨aj,0,none⟩) ((lst (aa.at_ 4)).length) ao)),(38,.v (.int .i32 (((lst (aa.at_ 4)).length:Nat):Int))),(39,.v (.int .i32 ((al:Nat):Int))),(41,.p 5 0)] gN fun _ _ gO=>?_)
         clear gN
         refine qab ?_
         have gP:=gO.cast fX
         clear gO
         refine qcV (Mid:=fun a_ w_=>∃ (cX:Option Nat) (bx:List (Int × Bs)) (P':qcr),(∀ w F,P' w F → kT w F ∧ (MapR w F cX bx ∧ bx.length ≤ 1000000 ∧ ∀ x ∈ bx,x.2.length < 4294967296) ∧ ((decide (v ≥ 3)) = true → bx = ah.U) ∧ ((decide (v ≥ 3)) = false → bx = [])) ∧ RS w (fun b o=>b = bv ∧ o < 7) F 345 aO [⟨bv,0,[.int .i16 v,.string ap.s,.int .i64 ar.n,.int .i16 av.n,.slice ae.A ae.l ae.c,.slice none 0 0,.map none],true⟩,qbk ab 6 (.agg #[.string ByteArray.empty,.int .i64 0,.int .i16 0,.bool false,.slice none 0 0,.map none]) ((lst (T.at_ 4)).length) (ac + 1),⟨ab,ac * 6,[.string (bs (aa.at_ 0).S),.int .i64 (IntKind.i64.wrap (aa.at_ 1).N),.int .i16 (IntKind.i16.wrap (aa.at_ 2).N),.bool (decide ((aa.at_ 3).N % 2 = 1)),.slice none 0 0,.map none],true⟩,qbk aj 3 (.agg #[.string ByteArray.empty,.slice none 0 0,.map none]) ((lst (aa.at_ 4)).length) (al + 1),⟨aj,al * 3,[.string (bs (ah.at_ 0).S),.slice az.A az.l az.c,.map cX],true⟩] [(2,.v (.bool false)),(7,.p 0 0),(9,.v (.bool (decide (v ≥ 3)))),(10,.p 1 0),(27,.v (.slice (some ⟨ab,0,none⟩) ((lst (T.at_ 4)).length) af)),(28,.v (.int .i32 (((lst (T.at_ 4)).length:Nat):Int))),(29,.v (.int .i32 ((ac:Nat):Int))),(31,.p 3 0),(37,.v (.slice (some ⟨aj,0,none⟩) ((lst (aa.at_ 4)).length) ao)),(38,.v (.int .i32 (((lst (aa.at_ 4)).length:Nat):Int))),(39,.v (.int .i32 ((al:Nat):Int)))] P' cK a_ w_) ?_ ?_
         ·
          refine wp_seq (qbo [(2,.v (.bool false)),(7,.p 0 0),(9,.v (.bool (decide (v ≥ 3)))),(10,.p 1 0),(27,.v (.slice (some ⟨ab,0,none⟩) ((lst (T.at_ 4)).length) af)),(28,.v (.int .i32 (((lst (T.at_ 4)).length:Nat):Int))),(29,.v (.int .i32 ((ac:Nat):Int))),(31,.p 3 0),(37,.v (.slice (some ⟨aj,0,none⟩) ((lst (aa.at_ 4)).length) ao)),(38,.v (.int .i32 (((lst (aa.at_ 4)).length:Nat):Int))),(39,.v (.int .i32 ((al:Nat):Int))),(41,.p 5 0),(319,.v (.bool (decide (v ≥ 3))))] gP fun _ bj=>qab ?_)
          clear gP
          refine qaw bj.env_ (b:=decide (v ≥ 3)) kz (fun bk=>?_) (fun bk=>?_)
          ·
           have gQ:=bj.cast (t:=((uv ah.U.length) ++ (qct ah.U)) ++ cK) (by rw [if_pos bk])
           clear bj
           refine qap [0,1,2,3,4] kz ?_
           refine qb2 [0] [1,2,3,4] [(2,.v (.bool false)),(7,.p 0 0),(9,.v (.bool (decide (v ≥ 3)))),(10,.p 1 0),(27,.v (.slice (some ⟨ab,0,none⟩) ((lst (T.at_ 4)).length) af)),(28,.v (.int .i32 (((lst (T.at_ 4)).length:Nat):Int))),(29,.v (.int .i32 ((ac:Nat):Int))),(31,.p 3 0),(37,.v (.slice (some ⟨aj,0,none⟩) ((lst (aa.at_ 4)).length) ao)),(38,.v (.int .i32 (((lst (aa.at_ 4)).length:Nat):Int))),(39,.v (.int .i32 ((al:Nat):Int))),(320,.p 5 0)] gQ fun _ gR=>?_
           clear gQ
           refine qal (qgx (d:=321) gR (qkl ah.U e377_U (qeI e377r) _) (fun _=>MvF.tags _ _) Tryz.call96 fun iQ lh _ _ gS gT=>?_)
           clear gR
           refine qb2 [2,3] [4] [(2,.v (.bool false)),(7,.p 0 0),(9,.v (.bool (decide (v ≥ 3)))),(10,.p 1 0),(27,.v (.slice (some ⟨ab,0,none⟩) ((lst (T.at_ 4)).length) af)),(28,.v (.int .i32 (((lst (T.at_ 4)).length:Nat):Int))),(29,.v (.int .i32 ((ac:Nat):Int))),(31,.p 3 0),(37,.v (.slice (some ⟨aj,0,none⟩) ((lst (aa.at_ 4)).length) ao)),(38,.v (.int .i32 (((lst (aa.at_ 4)).length:Nat):Int))),(39,.v (.int .i32 ((al:Nat):Int))),(321,.v (.agg #[.map iQ])),(323,.p 5 2)] gT fun _ gU=>?_
           clear gT
           refine qal (qd9 [⟨bv,0,[.int .i16 v,.string ap.s,.int .i64 ar.n,.int .i16 av.n,.slice ae.A ae.l ae.c,.slice none 0 0,.map none],true⟩,qbk ab 6 (.agg #[.string zE,.int .i64 0,.int .i16 0,.bool false,.slice none 0 0,.map none]) ((lst (T.at_ 4)).length) (ac + 1),⟨ab,ac * 6,(z6 aa),true⟩,qbk aj 3 (.agg #[.string zE,.slice none 0 0,.map none]) ((lst (aa.at_ 4)).length) (al + 1),⟨aj,al * 3,[.string (bs (ah.at_ 0).S),.slice az.A az.l az.c,.map iQ],true⟩] 4 gU fun _ gV=>?_)
           clear gU
           refine qae ?_
           have j9:=gV.pk (env':=[(2,.v (.bool false)),(7,.p 0 0),(9,.v (.bool (decide (v ≥ 3)))),(10,.p 1 0),(27,.v (.slice (some ⟨ab,0,none⟩) ((lst (T.at_ 4)).length) af)),(28,.v (.int .i32 (((lst (T.at_ 4)).length:Nat):Int))),(29,.v (.int .i32 ((ac:Nat):Int))),(31,.p 3 0),(37,.v (.slice (some ⟨aj,0,none⟩) ((lst (aa.at_ 4)).length) ao)),(38,.v (.int .i32 (((lst (aa.at_ 4)).length:Nat):Int))),(39,.v (.int .i32 ((al:Nat):Int)))])
           clear gV
           refine qab ?_
           exact ⟨iQ,ah.U,_,fun w F h_=>⟨(gS _ _ h_).1,⟨(gS _ _ h_).2,e377_U.2.1,e377_U.2.2⟩,⟨fun _=>rfl,(fun e_=>by rw [bk] at e_; cases e_)⟩⟩,j9.pk (env':=[(2,.v (.bool false)),(7,.p 0 0),(9,.v (.bool (decide (v ≥ 3)))),(10,.p 1 0),(27,.v (.slice (some ⟨ab,0,none⟩) ((lst (T.at_ 4)).length) af)),(28,.v (.int .i32 (((lst (T.at_ 4)).length:Nat):Int))),(29,.v (.int .i32 ((ac:Nat):Int))),(31,.p 3 0),(37,.v (.slice (some ⟨aj,0,none⟩) ((lst (aa.at_ 4)).length) ao)),(38,.v (.int .i32 (((lst (aa.at_ 4)).length:Nat):Int))),(39,.v (.int .i32 ((al:Nat):Int)))])⟩
          have gW:=bj.cast (t:=[] ++ cK) (by rw [if_neg (by rw [bk]; decide)])
          clear bj
          have ka:=gW.cast (t:=cK) rfl
          clear gW
          refine wp_skip (qab ?_)
          exact ⟨none,[],_,fun w F h_=>⟨h_,⟨MapR.nil _ _,Nat.zero_le _,fun _ h=>by cases h⟩,⟨(fun e_=>by rw [bk] at e_; cases e_),fun _=>rfl⟩⟩,ka.pk (env':=[(2,.v (.bool false)),(7,.p 0 0),(9,.v (.bool (decide (v ≥ 3)))),(10,.p 1 0),(27,.v (.slice (some ⟨ab,0,none⟩) ((lst (T.at_ 4)).length) af)),(28,.v (.int .i32 (((lst (T.at_ 4)).length:Nat):Int))),(29,.v (.int .i32 ((ac:Nat):Int))),(31,.p 3 0),(37,.v (.slice (some ⟨aj,0,none⟩) ((lst (aa.at_ 4)).length) ao)),(38,.v (.int .i32 (((lst (aa.at_ 4)).length:Nat):Int))),(39,.v (.int .i32 ((al:Nat):Int)))])⟩
         rintro _ _ ⟨cX,bx,li,aM,gX⟩
         refine qar (qab (qbo [(2,.v (.bool false)),(7,.p 0 0),(9,.v (.bool (decide (v ≥ 3)))),(10,.p 1 0),(27,.v (.slice (some ⟨ab,0,none⟩) ((lst (T.at_ 4)).length) af)),(28,.v (.int .i32 (((lst (T.at_ 4)).length:Nat):Int))),(29,.v (.int .i32 ((ac:Nat):Int))),(31,.p 3 0),(37,.v (.slice (some ⟨aj,0,none⟩) ((lst (aa.at_ 4)).length) ao)),(38,.v (.int .i32 (((lst (aa.at_ 4)).length:Nat):Int))),(39,.v (.int .i32 (IntKind.i32.wrap (((al:Nat):Int) + 1))))] gX fun _ gY=>?_))
         clear gX
         refine qab ?_
         have kd:=(gY.envEq (env':=[(2,.v (.bool false)),(7,.p 0 0),(9,.v (.bool (decide (v ≥ 3)))),(10,.p 1 0),(27,.v (.slice (some ⟨ab,0,none⟩) ((lst (T.at_ 4)).length) af)),(28,.v (.int .i32 (((lst (T.at_ 4)).length:Nat):Int))),(29,.v (.int .i32 ((ac:Nat):Int))),(31,.p 3 0),(37,.v (.slice (some ⟨aj,0,none⟩) ((lst (aa.at_ 4)).length) ao)),(38,.v (.int .i32 (((lst (aa.at_ 4)).length:Nat):Int))),(39,.v (.int .i32 ((al + 1:Nat):Int)))]) (by rw [qeN (by have:=e303_4; omega)])).pk (env':=[(2,.v (.bool false)),(7,.p 0 0),(9,.v (.bool (decide (v ≥ 3)))),(10,.p 1 0),(27,.v (.slice (some ⟨ab,0,none⟩) ((lst (T.at_ 4)).length) af)),(28,.v (.int .i32 (((lst (T.at_ 4)).length:Nat):Int))),(29,.v (.int .i32 ((ac:Nat):Int))),(31,.p 3 0),(37,.v (.slice (some ⟨aj,0,none⟩) ((lst (aa.at_ 4)).length) ao)),(38,.v (.int .i32 (((lst (aa.at_ 4)).length:Nat):Int))),(39,.v (.int .i32 ((al + 1:Nat):Int)))])
         clear gY
         exact (RS.thing (tb:=[⟨bv,0,[.int .i16 v,.string ap.s,.int .i64 ar.n,.int .i16 av.n,.slice ae.A ae.l ae.c,.slice none 0 0,.map none],true⟩,qbk ab 6 (.agg #[.string ByteArray.empty,.int .i64 0,.int .i16 0,.bool false,.slice none 0 0,.map none]) ((lst (T.at_ 4)).length) (ac + 1),⟨ab,ac * 6,[.string (bs (aa.at_ 0).S),.int .i64 (IntKind.i64.wrap (aa.at_ 1).N),.int .i16 (IntKind.i16.wrap (aa.at_ 2).N),.bool (decide ((aa.at_ 3).N % 2 = 1)),.slice none 0 0,.map none],true⟩]) (z:=.agg #[.string ByteArray.empty,.slice none 0 0,.map none]) (D:=(dvP cX bx [dvS (bs (ah.at_ 0).S),az])) (kd.cast fW) hg_g358 cJ qaS cI rfl (fun w F h_=>⟨(fU _ _ (bJ _ _ (aM _ _ h_).1).1).1,(fU _ _ (bJ _ _ (aM _ _ h_).1).1).2,⟨(by show ByteArray.size (bs _) ≤ 1000000; rw [qgq]; exact Nat.le_trans e377_0 (by decide)),((bJ _ _ (aM _ _ h_).1).2.1),(aM _ _ h_).2.1.1,(aM _ _ h_).2.1.2.1,(aM _ _ h_).2.1.2.2,trivial⟩,⟨(rfl),((bJ _ _ (aM _ _ h_).1).2.2),(aM _ _ h_).2.2,trivial⟩⟩) kz)
        refine wp_seq (wp_seq (qbo [(2,.v (.bool false)),(7,.p 0 0),(9,.v (.bool (decide (v ≥ 3)))),(10,.p 1 0),(27,.v (.slice (some ⟨ab,0,none⟩) ((lst (T.at_ 4)).length) af)),(28,.v (.int .i32 (((lst (T.at_ 4)).length:Nat):Int))),(29,.v (.int .i32 ((ac:Nat):Int))),(31,.p 3 0),(37,.v (.slice (some ⟨aj,0,none⟩) ((lst (aa.at_ 4)).length) ao)),(38,.v (.int .i32 (((lst (aa.at_ 4)).length:Nat):Int))),(39,.v (.int .i32 (((lst (aa.at_ 4)).length:Nat):Int))),(266,.v (.bool (decide ((((lst (aa.at_ 4)).length:Nat):Int) < (((lst (aa.at_ 4)).length:Nat):Int)))))] fT fun _ gZ=>qab ?_))
        clear fT
        refine qan gZ.env_ (b:=decide ((((lst (aa.at_ 4)).length:Nat):Int) < (((lst (aa.at_ 4)).length:Nat):Int))) kz (decide_eq_false (by omega)) ?_
        refine wp_exit (qau (qau (qaI (qab ?_))))
        obtain ⟨kU,ke⟩:=RS.listEnd (tb:=[⟨bv,0,[.int .i16 v,.string ap.s,.int .i64 ar.n,.int .i16 av.n,.slice ae.A ae.l ae.c,.slice none 0 0,.map none],true⟩,qbk ab 6 (.agg #[.string zE,.int .i64 0,.int .i16 0,.bool false,.slice none 0 0,.map none]) ((lst (T.at_ 4)).length) (ac + 1),⟨ab,ac * 6,(z6 aa),true⟩]) (c:=ao) (gZ.pk (env':=[(2,.v (.bool false)),(7,.p 0 0),(9,.v (.bool (decide (v ≥ 3)))),(10,.p 1 0),(27,.v (.slice (some ⟨ab,0,none⟩) ((lst (T.at_ 4)).length) af)),(28,.v (.int .i32 (((lst (T.at_ 4)).length:Nat):Int))),(29,.v (.int .i32 ((ac:Nat):Int))),(31,.p 3 0),(37,.v (.slice (some ⟨aj,0,none⟩) ((lst (aa.at_ 4)).length) ao))])) hg_g358 qaS cI hcap_g358 (by have:=e303_4; omega) hn_g358 kz
        exact ⟨dvL (some ⟨aj,0,none⟩) (lst (aa.at_ 4)).length ao kU,_,fun w F h_=>⟨h_.1,⟨h_.2.1,Nat.le_trans e303_4 (by decide),h_.2.2.1⟩,⟨rfl,h_.2.2.2⟩⟩,ke⟩
       refine wp_skip (qab (wp_seq (qbo [(2,.v (.bool false)),(7,.p 0 0),(9,.v (.bool (decide (v ≥ 3)))),(10,.p 1 0),(27,.v (.slice (some ⟨ab,0,none⟩) ((lst (T.at_ 4)).length) af)),(28,.v (.int .i32 (((lst (T.at_ 4)).length:Nat):Int))),(29,.v (.int .i32 ((ac:Nat):Int))),(31,.p 3 0),(37,.v (.slice none 0 0)),(38,.v (.int .i32 (((lst (aa.at_ 4)).length:Nat):Int))),(39,.v (.int .i32 0))] bg fun _ g7=>?_)))
       clear bg
       refine qab (wp_block (qea (wp_seq (wp_seq (qbo [(2,.v (.bool false)),(7,.p 0 0),(9,.v (.bool (decide (v ≥ 3)))),(10,.p 1 0),(27,.v (.slice (some ⟨ab,0,none⟩) ((lst (T.at_ 4)).length) af)),(28,.v (.int .i32 (((lst (T.at_ 4)).length:Nat):Int))),(29,.v (.int .i32 ((ac:Nat):Int))),(31,.p 3 0),(37,.v (.slice none 0 0)),(38,.v (.int .i32 (((lst (aa.at_ 4)).length:Nat):Int))),(39,.v (.int .i32 0)),(266,.v (.bool (decide (0 < (((lst (aa.at_ 4)).length:Nat):Int)))))] g7 fun _ g8=>qab ?_)))))
       clear g7
       refine qan g8.env_ (b:=decide (0 < (((lst (aa.at_ 4)).length:Nat):Int))) kz (decide_eq_false (by have h_:=zF bH; omega)) ?_
       refine wp_exit (qau (qau (qaI (qab ?_))))
       have hz_:(lst (aa.at_ 4)).length = 0:=by have h_:=zF bH; omega
       exact ⟨dvL none 0 0 (fun _=>dv0),_,fun w F h_=>⟨h_,⟨Slots.nil _ _ _ _,Nat.zero_le _,fun _ h=>absurd h (Nat.not_lt_zero _)⟩,⟨hz_.symm,fun _ h=>absurd h (Nat.not_lt_zero _)⟩⟩,(g8.cast (t:=bf) (by rw [List.eq_nil_of_length_eq_zero hz_]; rfl)).pk (env':=[(2,.v (.bool false)),(7,.p 0 0),(9,.v (.bool (decide (v ≥ 3)))),(10,.p 1 0),(27,.v (.slice (some ⟨ab,0,none⟩) ((lst (T.at_ 4)).length) af)),(28,.v (.int .i32 (((lst (T.at_ 4)).length:Nat):Int))),(29,.v (.int .i32 ((ac:Nat):Int))),(31,.p 3 0),(37,.v (.slice none 0 0))])⟩
      rintro _ _ ⟨au,kV,bK,g9⟩
      refine wp_seq (qbo [(2,.v (.bool false)),(7,.p 0 0),(9,.v (.bool (decide (v ≥ 3)))),(10,.p 1 0),(27,.v (.slice (some ⟨ab,0,none⟩) ((lst (T.at_ 4)).length) af)),(28,.v (.int .i32 (((lst (T.at_ 4)).length:Nat):Int))),(29,.v (.int .i32 ((ac:Nat):Int))),(31,.p 3 0),(36,.v (.slice au.A au.l au.c))] g9 fun _ hC=>?_)
      clear g9
      refine qab (qdl [⟨bv,0,[.int .i16 v,.string ap.s,.int .i64 ar.n,.int .i16 av.n,.slice ae.A ae.l ae.c,.slice none 0 0,.map none],true⟩,qbk ab 6 (.agg #[.string zE,.int .i64 0,.int .i16 0,.bool false,.slice none 0 0,.map none]) ((lst (T.at_ 4)).length) (ac + 1),⟨ab,ac * 6,[.string (bs (aa.at_ 0).S),.int .i64 (IntKind.i64.wrap (aa.at_ 1).N),.int .i16 (IntKind.i16.wrap (aa.at_ 2).N),.bool (decide ((aa.at_ 3).N % 2 = 1)),.slice au.A au.l au.c,.map none],true⟩] 2 [(2,.v (.bool false)),(7,.p 0 0),(9,.v (.bool (decide (v ≥ 3)))),(10,.p 1 0),(27,.v (.slice (some ⟨ab,0,none⟩) ((lst (T.at_ 4)).length) af)),(28,.v (.int .i32 (((lst (T.at_ 4)).length:Nat):Int))),(29,.v (.int .i32 ((ac:Nat):Int))),(31,.p 3 0)] hC fun _ _ hJ=>?_)
      clear hC
      refine qab ?_
      have hK:=hJ.cast fe
      clear hJ
      refine qcV (Mid:=fun a_ w_=>∃ (cY:Option Nat) (bz:List (Int × Bs)) (P':qcr),(∀ w F,P' w F → kV w F ∧ (MapR w F cY bz ∧ bz.length ≤ 1000000 ∧ ∀ x ∈ bz,x.2.length < 4294967296) ∧ ((decide (v ≥ 3)) = true → bz = aa.U) ∧ ((decide (v ≥ 3)) = false → bz = [])) ∧ RS w (fun b o=>b = bv ∧ o < 7) F 345 aO [⟨bv,0,[.int .i16 v,.string ap.s,.int .i64 ar.n,.int .i16 av.n,.slice ae.A ae.l ae.c,.slice none 0 0,.map none],true⟩,qbk ab 6 (.agg #[.string ByteArray.empty,.int .i64 0,.int .i16 0,.bool false,.slice none 0 0,.map none]) ((lst (T.at_ 4)).length) (ac + 1),⟨ab,ac * 6,[.string (bs (aa.at_ 0).S),.int .i64 (IntKind.i64.wrap (aa.at_ 1).N),.int .i16 (IntKind.i16.wrap (aa.at_ 2).N),.bool (decide ((aa.at_ 3).N % 2 = 1)),.slice au.A au.l au.c,.map cY],true⟩] [(2,.v (.bool false)),(7,.p 0 0),(9,.v (.bool (decide (v ≥ 3)))),(10,.p 1 0),(27,.v (.slice (some ⟨ab,0,none⟩) ((lst (T.at_ 4)).length) af)),(28,.v (.int .i32 (((lst (T.at_ 4)).length:Nat):Int))),(29,.v (.int .i32 ((ac:Nat):Int)))] P' cC a_ w_) ?_ ?_
      ·
       refine wp_seq (qbo [(2,.v (.bool false)),(7,.p 0 0),(9,.v (.bool (decide (v ≥ 3)))),(10,.p 1 0),(27,.v (.slice (some ⟨ab,0,none⟩) ((lst (T.at_ 4)).length) af)),(28,.v (.int .i32 (((lst (T.at_ 4)).length:Nat):Int))),(29,.v (.int .i32 ((ac:Nat):Int))),(31,.p 3 0),(329,.v (.bool (decide (v ≥ 3))))] hK fun _ bn=>qab ?_)
       clear hK
       refine qaw bn.env_ (b:=decide (v ≥ 3)) kz (fun bo=>?_) (fun bo=>?_)
       ·
        have hZ:=bn.cast (t:=((uv aa.U.length) ++ (qct aa.U)) ++ cC) (by rw [if_pos bo])
        clear bn
        refine qap [0,1,2,3,4] kz ?_
        refine qb2 [0] [1,2,3,4] [(2,.v (.bool false)),(7,.p 0 0),(9,.v (.bool (decide (v ≥ 3)))),(10,.p 1 0),(27,.v (.slice (some ⟨ab,0,none⟩) ((lst (T.at_ 4)).length) af)),(28,.v (.int .i32 (((lst (T.at_ 4)).length:Nat):Int))),(29,.v (.int .i32 ((ac:Nat):Int))),(330,.p 3 0)] hZ fun _ ia=>?_
        clear hZ
        refine qal (qgx (d:=331) ia (qkl aa.U e303_U (qeI e303r) _) (fun _=>MvF.tags _ _) Tryz.call96 fun iR lj _ _ ib ic=>?_)
        clear ia
        refine qb2 [2,3] [4] [(2,.v (.bool false)),(7,.p 0 0),(9,.v (.bool (decide (v ≥ 3)))),(10,.p 1 0),(27,.v (.slice (some ⟨ab,0,none⟩) ((lst (T.at_ 4)).length) af)),(28,.v (.int .i32 (((lst (T.at_ 4)).length:Nat):Int))),(29,.v (.int .i32 ((ac:Nat):Int))),(331,.v (.agg #[.map iR])),(333,.p 3 5)] ic fun _ ig=>?_
        clear ic
        refine qal (qd9 [⟨bv,0,[.int .i16 v,.string ap.s,.int .i64 ar.n,.int .i16 av.n,.slice ae.A ae.l ae.c,.slice none 0 0,.map none],true⟩,qbk ab 6 (.agg #[.string zE,.int .i64 0,.int .i16 0,.bool false,.slice none 0 0,.map none]) ((lst (T.at_ 4)).length) (ac + 1),⟨ab,ac * 6,[.string (bs (aa.at_ 0).S),.int .i64 (IntKind.i64.wrap (aa.at_ 1).N),.int .i16 (IntKind.i16.wrap (aa.at_ 2).N),.bool (decide ((aa.at_ 3).N % 2 = 1)),.slice au.A au.l au.c,.map iR],true⟩] 2 ig fun _ ii=>?_)
        clear ig
        refine qae ?_
        have kf:=ii.pk (env':=[(2,.v (.bool false)),(7,.p 0 0),(9,.v (.bool (decide (v ≥ 3)))),(10,.p 1 0),(27,.v (.slice (some ⟨ab,0,none⟩) ((lst (T.at_ 4)).length) af)),(28,.v (.int .i32 (((lst (T.at_ 4)).length:Nat):Int))),(29,.v (.int .i32 ((ac:Nat):Int)))])
        clear ii
        refine qab ?_
        exact ⟨iR,aa.U,_,fun w F h_=>⟨(ib _ _ h_).1,⟨(ib _ _ h_).2,e303_U.2.1,e303_U.2.2⟩,⟨fun _=>rfl,(fun e_=>by rw [bo] at e_; cases e_)⟩⟩,kf.pk (env':=[(2,.v (.bool false)),(7,.p 0 0),(9,.v (.bool (decide (v ≥ 3)))),(10,.p 1 0),(27,.v (.slice (some ⟨ab,0,none⟩) ((lst (T.at_ 4)).length) af)),(28,.v (.int .i32 (((lst (T.at_ 4)).length:Nat):Int))),(29,.v (.int .i32 ((ac:Nat):Int)))])⟩
       have ij:=bn.cast (t:=[] ++ cC) (by rw [if_neg (by rw [bo]; decide)])
       clear bn
       have kg:=ij.cast (t:=cC) rfl
       clear ij
       refine wp_skip (qab ?_)
       exact ⟨none,[],_,fun w F h_=>⟨h_,⟨MapR.nil _ _,Nat.zero_le _,fun _ h=>by cases h⟩,⟨(fun e_=>by rw [bo] at e_; cases e_),fun _=>rfl⟩⟩,kg.pk (env':=[(2,.v (.bool false)),(7,.p 0 0),(9,.v (.bool (decide (v ≥ 3)))),(10,.p 1 0),(27,.v (.slice (some ⟨ab,0,none⟩) ((lst (T.at_ 4)).length) af)),(28,.v (.int .i32 (((lst (T.at_ 4)).length:Nat):Int))),(29,.v (.int .i32 ((ac:Nat):Int)))])⟩
      rintro _ _ ⟨cY,bz,lm,aN,ik⟩
      refine qar (qab (qbo [(2,.v (.bool false)),(7,.p 0 0),(9,.v (.bool (decide (v ≥ 3)))),(10,.p 1 0),(27,.v (.slice (some ⟨ab,0,none⟩) ((lst (T.at_ 4)).length) af)),(28,.v (.int .i32 (((lst (T.at_ 4)).length:Nat):Int))),(29,.v (.int .i32 (IntKind.i32.wrap (((ac:Nat):Int) + 1))))] ik fun _ il=>?_))
      clear ik
      refine qab ?_
      have kh:=(il.envEq (env':=[(2,.v (.bool false)),(7,.p 0 0),(9,.v (.bool (decide (v ≥ 3)))),(10,.p 1 0),(27,.v (.slice (some ⟨ab,0,none⟩) ((lst (T.at_ 4)).length) af)),(28,.v (.int .i32 (((lst (T.at_ 4)).length:Nat):Int))),(29,.v (.int .i32 ((ac + 1:Nat):Int)))]) (by rw [qeN (by have:=e26_4; omega)])).pk (env':=[(2,.v (.bool false)),(7,.p 0 0),(9,.v (.bool (decide (v ≥ 3)))),(10,.p 1 0),(27,.v (.slice (some ⟨ab,0,none⟩) ((lst (T.at_ 4)).length) af)),(28,.v (.int .i32 (((lst (T.at_ 4)).length:Nat):Int))),(29,.v (.int .i32 ((ac + 1:Nat):Int)))])
      clear il
      exact (RS.thing (tb:=[⟨bv,0,[.int .i16 v,.string ap.s,.int .i64 ar.n,.int .i16 av.n,.slice ae.A ae.l ae.c,.slice none 0 0,.map none],true⟩]) (z:=.agg #[.string ByteArray.empty,.int .i64 0,.int .i16 0,.bool false,.slice none 0 0,.map none]) (D:=(dvP cY bz [dvS (bs (aa.at_ 0).S),dvN (IntKind.i64.wrap (aa.at_ 1).N),dvN (IntKind.i16.wrap (aa.at_ 2).N),dvB (decide ((aa.at_ 3).N % 2 = 1)),au])) (kh.cast fb) hg_g284 cB qaX cA rfl (fun w F h_=>⟨(e9 _ _ (bK _ _ (aN _ _ h_).1).1).1,(e9 _ _ (bK _ _ (aN _ _ h_).1).1).2,⟨(by show ByteArray.size (bs _) ≤ 1000000; rw [qgq]; exact Nat.le_trans e303_0 (by decide)),(trivial),(trivial),(trivial),((bK _ _ (aN _ _ h_).1).2.1),(aN _ _ h_).2.1.1,(aN _ _ h_).2.1.2.1,(aN _ _ h_).2.1.2.2,trivial⟩,⟨(rfl),(rfl),(rfl),(rfl),((bK _ _ (aN _ _ h_).1).2.2),(aN _ _ h_).2.2,trivial⟩⟩) kz)
     refine wp_seq (wp_seq (qbo [(2,.v (.bool false)),(7,.p 0 0),(9,.v (.bool (decide (v ≥ 3)))),(10,.p 1 0),(27,.v (.slice (some ⟨ab,0,none⟩) ((lst (T.at_ 4)).length) af)),(28,.v (.int .i32 (((lst (T.at_ 4)).length:Nat):Int))),(29,.v (.int .i32 (((lst (T.at_ 4)).length:Nat):Int))),(211,.v (.bool (decide ((((lst (T.at_ 4)).length:Nat):Int) < (((lst (T.at_ 4)).length:Nat):Int)))))] eZ fun _ im=>qab ?_))
     clear eZ
     refine qan im.env_ (b:=decide ((((lst (T.at_ 4)).length:Nat):Int) < (((lst (T.at_ 4)).length:Nat):Int))) kz (decide_eq_false (by omega)) ?_
     refine wp_exit (qau (qau (qaI (qab ?_))))
     obtain ⟨kW,ki⟩:=RS.listEnd (tb:=[⟨bv,0,[.int .i16 v,.string ap.s,.int .i64 ar.n,.int .i16 av.n,.slice ae.A ae.l ae.c,.slice none 0 0,.map none],true⟩]) (c:=af) (im.pk (env':=[(7,.p 0 0),(9,.v (.bool (decide (v ≥ 3)))),(10,.p 1 0),(27,.v (.slice (some ⟨ab,0,none⟩) ((lst (T.at_ 4)).length) af))])) hg_g284 qaX cA hcap_g284 (by have:=e26_4; omega) hn_g284 kz
     exact ⟨dvL (some ⟨ab,0,none⟩) (lst (T.at_ 4)).length af kW,_,fun w F h_=>⟨h_.1,⟨h_.2.1,Nat.le_trans e26_4 (by decide),h_.2.2.1⟩,⟨rfl,h_.2.2.2⟩⟩,ki⟩
    refine wp_skip (qab (wp_seq (qbo [(2,.v (.bool false)),(7,.p 0 0),(9,.v (.bool (decide (v ≥ 3)))),(10,.p 1 0),(27,.v (.slice none 0 0)),(28,.v (.int .i32 (((lst (T.at_ 4)).length:Nat):Int))),(29,.v (.int .i32 0))] bd fun _ io=>?_)))
    clear bd
    refine qab (wp_block (qea (wp_seq (wp_seq (qbo [(2,.v (.bool false)),(7,.p 0 0),(9,.v (.bool (decide (v ≥ 3)))),(10,.p 1 0),(27,.v (.slice none 0 0)),(28,.v (.int .i32 (((lst (T.at_ 4)).length:Nat):Int))),(29,.v (.int .i32 0)),(211,.v (.bool (decide (0 < (((lst (T.at_ 4)).length:Nat):Int)))))] io fun _ ip=>qab ?_)))))
    clear io
    refine qan ip.env_ (b:=decide (0 < (((lst (T.at_ 4)).length:Nat):Int))) kz (decide_eq_false (by have h_:=zF bG; omega)) ?_
    refine wp_exit (qau (qau (qaI (qab ?_))))
    have hz_:(lst (T.at_ 4)).length = 0:=by have h_:=zF bG; omega
    exact ⟨dvL none 0 0 (fun _=>dv0),_,fun w F h_=>⟨h_,⟨Slots.nil _ _ _ _,Nat.zero_le _,fun _ h=>absurd h (Nat.not_lt_zero _)⟩,⟨hz_.symm,fun _ h=>absurd h (Nat.not_lt_zero _)⟩⟩,(ip.cast (t:=bM) (by rw [List.eq_nil_of_length_eq_zero hz_]; rfl)).pk (env':=[(7,.p 0 0),(9,.v (.bool (decide (v ≥ 3)))),(10,.p 1 0),(27,.v (.slice none 0 0))])⟩
   rintro _ _ ⟨ax,ln,cR,iq⟩
   refine wp_seq (qbo [(7,.p 0 0),(9,.v (.bool (decide (v ≥ 3)))),(10,.p 1 0),(26,.v (.slice ax.A ax.l ax.c))] iq fun _ ir=>?_)
   clear iq
   refine qab (qdl [⟨bv,0,[.int .i16 v,.string ap.s,.int .i64 ar.n,.int .i16 av.n,.slice ae.A ae.l ae.c,.slice ax.A ax.l ax.c,.map none],true⟩] 0 [(7,.p 0 0),(9,.v (.bool (decide (v ≥ 3)))),(10,.p 1 0)] ir fun _ _ kj=>?_)
   clear ir
   refine qab ?_
   exact ⟨ax,_,fun w F h_=>⟨(cR _ _ h_).1,(cR _ _ h_).2.1,⟨fun _=>(cR _ _ h_).2.2,(fun e_=>by rw [ba] at e_; cases e_)⟩⟩,kj.pk (env':=[(7,.p 0 0),(9,.v (.bool (decide (v ≥ 3)))),(10,.p 1 0)])⟩
  have iu:=aZ.cast (t:=[] ++ bM) (by rw [if_neg (by rw [ba]; decide)])
  clear aZ
  have km:=iu.cast (t:=bM) rfl
  clear iu
  refine wp_skip (qab ?_)
  exact ⟨dvL none 0 0 (fun _=>dv0),_,fun w F h_=>⟨h_,⟨Slots.nil _ _ _ _,Nat.zero_le _,fun _ h=>absurd h (Nat.not_lt_zero _)⟩,⟨(fun e_=>by rw [ba] at e_; cases e_),fun _=>⟨rfl,rfl⟩⟩⟩,km.pk (env':=[(7,.p 0 0),(9,.v (.bool (decide (v ≥ 3)))),(10,.p 1 0)])⟩
 rintro _ _ ⟨aw,kX,aI,iv⟩
 refine qab (wp_seq ?_)
 have iw:=iv.cast iU
 clear iv
 refine qcV (Mid:=fun a_ w_=>∃ (cZ:Option Nat) (bA:List (Int × Bs)) (P':qcr),(∀ w F,P' w F → kX w F ∧ (MapR w F cZ bA ∧ bA.length ≤ 1000000 ∧ ∀ x ∈ bA,x.2.length < 4294967296) ∧ ((decide (v ≥ 3)) = true → bA = T.U) ∧ ((decide (v ≥ 3)) = false → bA = [])) ∧ RS w (fun b o=>b = bv ∧ o < 7) F 345 aO [⟨bv,0,[.int .i16 v,.string ap.s,.int .i64 ar.n,.int .i16 av.n,.slice ae.A ae.l ae.c,.slice aw.A aw.l aw.c,.map cZ],true⟩] [(7,.p 0 0)] P' ([]:Bs) a_ w_) ?_ ?_
 ·
  refine wp_seq (qbo [(7,.p 0 0),(10,.p 1 0),(339,.v (.bool (decide (v ≥ 3))))] iw fun _ bp=>qab ?_)
  clear iw
  refine qaw bp.env_ (b:=decide (v ≥ 3)) kz (fun bq=>?_) (fun bq=>?_)
  ·
   have ix:=bp.cast (t:=((uv T.U.length) ++ (qct T.U)) ++ ([]:Bs)) (by rw [if_pos bq])
   clear bp
   refine qap [0,1,2,3,4] kz ?_
   refine qb2 [0] [1,2,3,4] [(7,.p 0 0),(340,.p 1 0)] ix fun _ iy=>?_
   clear ix
   refine qal (qgx (d:=341) iy (qkl T.U e26_U (qeI e26r) _) (fun _=>MvF.tags _ _) Tryz.call96 fun iS lp _ _ iz iA=>?_)
   clear iy
   refine qb2 [2,3] [4] [(7,.p 0 0),(341,.v (.agg #[.map iS])),(343,.p 1 6)] iA fun _ iB=>?_
   clear iA
   refine qal (qd9 [⟨bv,0,[.int .i16 v,.string ap.s,.int .i64 ar.n,.int .i16 av.n,.slice ae.A ae.l ae.c,.slice aw.A aw.l aw.c,.map iS],true⟩] 0 iB fun _ iC=>?_)
   clear iB
   refine qae ?_
   have ko:=iC.pk (env':=[(7,.p 0 0)])
   clear iC
   refine qab ?_
   exact ⟨iS,T.U,_,fun w F h_=>⟨(iz _ _ h_).1,⟨(iz _ _ h_).2,e26_U.2.1,e26_U.2.2⟩,⟨fun _=>rfl,(fun e_=>by rw [bq] at e_; cases e_)⟩⟩,ko.pk (env':=[(7,.p 0 0)])⟩
  have iD:=bp.cast (t:=[] ++ ([]:Bs)) (by rw [if_neg (by rw [bq]; decide)])
  clear bp
  have kp:=iD.cast (t:=([]:Bs)) rfl
  clear iD
  refine wp_skip (qab ?_)
  exact ⟨none,[],_,fun w F h_=>⟨h_,⟨MapR.nil _ _,Nat.zero_le _,fun _ h=>by cases h⟩,⟨(fun e_=>by rw [bq] at e_; cases e_),fun _=>rfl⟩⟩,kp.pk (env':=[(7,.p 0 0)])⟩
 rintro _ _ ⟨cZ,bA,lq,aB,iE⟩
 refine qab (wp_seq (qap [0,1] kz (qal (qhH (d:=344) iE qjH Tryz.call93 fun _ iF=>?_))))
 clear iE
 refine qb2 [1] [] [(6,.v (.nilIface))] iF fun _ iG=>qae ?_
 clear iF
 refine qab (wp_ret ?_)
 obtain ⟨A_,m_,c_,hW_,hr_,hE_,hP_⟩:=iG.open_
 refine qaM hE_ hW_.cells (v:=.nilIface) kz ?_
 have h_:=iG.mv.mono qca hP_
 refine ⟨(dvP cZ bA [ap,ar,av,ae,aw]),rfl,Str.of hW_ 1 rfl,?_,?_,hW_.step⟩
 ·unfold qbj
  exact ⟨((jm _ _ (cU _ _ (bL _ _ (aL _ _ (aI _ _ (aB _ _ h_).1).1).1).1).1).2.1),((cU _ _ (bL _ _ (aL _ _ (aI _ _ (aB _ _ h_).1).1).1).1).2.1),((bL _ _ (aL _ _ (aI _ _ (aB _ _ h_).1).1).1).2.1),((aL _ _ (aI _ _ (aB _ _ h_).1).1).2.1),((aI _ _ (aB _ _ h_).1).2.1),(aB _ _ h_).2.1.1,(aB _ _ h_).2.1.2.1,(aB _ _ h_).2.1.2.2,trivial⟩
 unfold qbd
 exact ⟨((jm _ _ (cU _ _ (bL _ _ (aL _ _ (aI _ _ (aB _ _ h_).1).1).1).1).1).2.2),((cU _ _ (bL _ _ (aL _ _ (aI _ _ (aB _ _ h_).1).1).1).1).2.2),((bL _ _ (aL _ _ (aI _ _ (aB _ _ h_).1).1).1).2.2),((aL _ _ (aI _ _ (aB _ _ h_).1).1).2.2),((aI _ _ (aB _ _ h_).1).2.2),(aB _ _ h_).2.2,trivial⟩
theorem qcm:qfU qbj:=by
 intro w w' F F' M d hs hM hF h
 unfold qbj at h ⊢
 obtain ⟨g0,g1,g2,⟨g3,g3l,g3e⟩,⟨g4,g4l,g4e⟩,t1,t2,t3,_⟩:=h
 exact ⟨g0,g1,g2,⟨g3.move hs hM hF,g3l,fun i hi=>qa5 _ hs hM hF (g3e i hi)⟩,⟨g4.move hs hM hF,g4l,fun i hi=>qaX _ hs hM hF (g4e i hi)⟩,t1.move hs hM hF,t2,t3,trivial⟩
end Go.Proofs.YtdlaobdadlmcdaaGreatDoor.ME
namespace Go.Proofs.YtdlaobdadlmcdaaGreatDoor.ME
open Go
open Go.RowKit
open Go.ChangeMaps (setBlock)
set_option linter.unusedVariables false
set_option linter.unusedSimpArgs false
set_option maxRecDepth 20000
abbrev cloV (fc:Nat) (cap:Value):Value:=.func (.func fc) #[] #[cap]
theorem qlM {fc:Nat} {cap:Value} {m:Option Nat} {u:List (Int × Bs)} {b o:Nat} {w:World} {F M:Nat → Nat → Prop} (hcf:∀ args w,(callFunc fc args).run Tryz.prog w = .ok (.enter fc args) w) (I:World → Nat → World → Prop) (hat:AtF w F b o [.map m]) (hm:MapR w F m u) (hMF:∀ b o,F b o → ¬ M b o) (hMlt:∀ b o,M b o → b < w.heap.size)
  (hI0:∀ w7,Step w w7 Nil → I w7 0 w7) (hIs:∀ w7 j w8,I w7 j w8 → Step w7 w8 M)
  (hI1:∀ w7,Step w w7 Nil → ∀ j k x w8 Ax cx,I w7 j w8 → u[j]? = some (k,x) → (0 ≤ k ∧ k < 4294967296) → Octs w8 (fun b o=>F b o ∧ b < w7.heap.size) Ax cx x → Calls Tryz.prog fc [.int .u32 k,.slice Ax x.length cx,cap].toArray w8 (fun e w9=>e = .returned (.tuple #[]) ∧ I w7 (j + 1) w9)) (hul:u.length ≤ 1000000) :
  Calls Tryz.prog 59 [.pointer (some ⟨b,o,none⟩),cloV fc cap].toArray w (fun e w'=>e = .returned (.tuple #[]) ∧ ∃ w7,Step w w7 Nil ∧ I w7 u.length w'):=by
 refine enter (n:=53) Tryz.func59 rfl Tryz.ntmps59 kz fun a hE=>?_
 have hW:WOk w Nil w [⟨b,o,[.map m],false⟩] []:=(WOk.start w Nil).start1 hat rfl rfl
 refine wp_seq (wp_seq ?_)
 refine qap [0,1,2,3,4,5] kz ?_
 refine qbZ [0,1,2,3] [4,5] [0,1,11] hW (EnvOk.ptr0 (cs:=[.map m]) (r:=false) hE) (env':=[(0,.p 0 0),(1,.v (cloV fc cap)),(11,.v (.map m))]) kz rfl fun a1 hE1=>?_
 refine qal (qgU (t:=79) (kt:=64) (et:=22) hE1 (m:=m) (d:=12) kz kz hm fun a2 hE2=>?_)
 refine qbZ [5] [] [0,1,13] hW hE2 (env':=[(0,.p 0 0),(1,.v (cloV fc cap)),(13,.v (.bool (((u.length:Nat):Int) == 0)))]) kz rfl fun a3 hE3=>qae (qab ?_)
 refine qaw hE3 (b:=((u.length:Nat):Int) == 0) kz (fun hb=>?_) (fun hb=>?_)
 ·-- none
  have hu:u = []:=List.eq_nil_of_length_eq_zero (by have:=eq_of_beq hb; omega)
  subst hu
  refine wp_ret (qat ?_)
  exact qaM hE3 hW.cells (v:=.tuple #[]) kz ⟨rfl,w,Step.refl _ _,hI0 w (Step.refl _ _)⟩
 have hu0:0 < u.length:=by have:=ne_of_beq_false hb; omega
 cases m with
 | none=>rw [hm.none_ rfl] at hu0; cases hu0
 | some mb =>
 obtain ⟨hFm,es,clk,hes,hperm,hborn,hnod,hcont⟩:=hm.some_ mb rfl
 have hmlt:mb < w.heap.size:=(Array.getElem?_eq_some_iff.1 hes).1
 have hesz:es.size = u.length:=MapR.size (w:=w) (F:=F) hperm
 refine wp_skip (qab ?_)
 refine qaf [0,1,2,3,4,5,6,7] kz ?_
 refine qbZ [0,1,2,3] [4,5,6,7] [0,1,17] hW hE3 (env':=[(0,.p 0 0),(1,.v (cloV fc cap)),(17,.v (.map (some mb)))]) kz rfl fun a4 hE4=>?_
 refine qal (qgU (t:=79) (kt:=64) (et:=22) hE4 (m:=some mb) (d:=18) kz kz hm fun a5 hE5=>?_)
 refine qal (qil (e:=64) (size:=1) (bytes:=4) (j:=u.length) (t:=155) (d:=19) hW hE5 (p:=0) (q:=((u.length:Nat):Int)) kz kz rfl rfl (by omega) fun kr a6 w1 hkr hkr0 hF1 hW1 hE6=>?_)
 refine qal (qaQ hW1 hE6 (d:=4) (cs:=[.slice none 0 0]) kz fun kb a7 w2 hkb hkb0 hF2 hW2 hE7=>?_)
 refine qal (qao hW2 hE7 (oi:=1) (cs:=[.slice (some ⟨kr,0,none⟩) 0 u.length]) kz fun w3 hF3 hW3 hE8=>qae (qab ?_))
 refine wp_seq (qaf [0,1,2,3,4] kz ?_)
 refine qbZ [0,1,2,3] [4] [0,1,4,23] hW3 hE8 (env':=[(0,.p 0 0),(1,.v (cloV fc cap)),(4,.p 1 0),(23,.v (.map (some mb)))]) kz rfl fun a8 hE9=>?_
 have hes3:=hW3.step.heap (fun o h=>h) hes
 refine qal (qio (t:=79) (kt:=64) (et:=22) (d:=24) (r:=mb) hE9 kz kz hes3 fun a9 hE10=>qae (qab ?_))
 have hW4:=hW3.next_nil (Step.alloc w3 (.mapIter (some mb) clk #[] clk))
 have hr4:(w3.alloc (.mapIter (some mb) clk #[] clk)).heap[w3.heap.size]? = some (.mapIter (some mb) clk #[] clk):=qdw _ _
 have hE11:=hE10.pick (ks:=[0,1,4,24]) (env':=[(0,.p 0 0),(1,.v (cloV fc cap)),(4,.p 1 0),(24,.v (.pointer (some ⟨w3.heap.size,0,none⟩)))]) kz
 have hrlt:w3.heap.size < (w3.alloc (.mapIter (some mb) clk #[] clk)).heap.size:=by rw [qeW]; omega
 have hr0:w.heap.size ≤ w3.heap.size:=hW3.step.size
 have hkbr:kb ≠ w3.heap.size:=by have:=hW3.live 1 _ rfl; show ¬ _; intro e; rw [← e] at this; exact absurd this (Nat.lt_irrefl _)
 have hkrr:kr ≠ w3.heap.size:=by have:=qcc (hW3.own 0 _ rfl) (g:=kr) rfl; omega
 generalize hR:w3.heap.size = R at hr4 hE11 hrlt hkbr hkrr
 generalize hw4:w3.alloc (.mapIter (some mb) clk #[] clk) = w4 at hW4 hr4 hrlt
 refine wp_block ?_
 refine wp_loop_ghost (fun q a_ w_=>∃ (vis:List MapEntry) (seen:Array Nat) (K:Option Addr) (kc c0:Nat),q = (leftOf es seen).size ∧ Vis es.toList vis seen ∧ vis.length + (leftOf es seen).size ≤ es.size ∧
   EnvOk 53 [⟨b,o,[.map (some mb)],false⟩,⟨kb,0,[.slice K vis.length kc],true⟩] [(0,.p 0 0),(1,.v (cloV fc cap)),(4,.p 1 0),(24,.v (.pointer (some ⟨R,0,none⟩)))] a_ ∧
   WOk w Nil w_ [⟨b,o,[.map (some mb)],false⟩,⟨kb,0,[.slice K vis.length kc],true⟩] [⟨K,kc,64,1,vis.length,(vis.map fun e=>kOf e.key).map (Value.int .u32)⟩] ∧
   w_.heap[R]? = some (.mapIter (some mb) clk seen c0) ∧ clk ≤ c0 ∧ K.map (·.block) ≠ some R) (leftOf es #[]).size
  ⟨[],#[],some ⟨kr,0,none⟩,u.length,clk,rfl,Vis.nil _,by rw [List.length_nil,Nat.zero_add]; exact Array.size_filter_le,by rw [← hw4] at *; exact hE11,hW4,hr4,Nat.le_refl _,by simpa using hkrr⟩ ?_
 rintro q a10 w5 ⟨vis,seen,K,kc,c0,rfl,hv,hvl,hE12,hW5,hr5,hc0,hKR⟩
 have hes5:=hW5.step.heap (fun o h=>h) hes
 refine qaf [0,1] kz ?_
 refine qal (qi7 hE12 (d:=25) (r:=R) kz hr5 hes5 hborn hc0 (fun h0 a11 hE13=>?_) (fun e he w6 hw6 a11 hE13=>?_))
 ·-- behind it
  refine qbZ [1] [] [0,1,4,26] hW5 hE13 (env':=[(0,.p 0 0),(1,.v (cloV fc cap)),(4,.p 1 0),(26,.v (.bool false))]) kz rfl fun a12 hE14=>qae (qab (wp_seq ?_))
  refine qaw hE14 (b:=false) kz (fun hb=>by cases hb) (fun _=>?_)
  refine wp_exit (qau (qau (qaI (qab ?_))))
  have hpe:=hv.all h0 hnod
  have hvu:vis.length = u.length:=by rw [hpe.length_eq,Array.length_toList,hesz]
  have hkp:(vis.map fun e=>kOf e.key).Perm (u.map Prod.fst):=by
   have h1:=(hpe.map fun e=>kOf e.key)
   have h2:=hperm.map kOf
   rw [List.map_map,List.map_map] at h2
   exact h1.trans h2
  have hkl:(vis.map fun e=>kOf e.key).length = vis.length:=by simp
  generalize (vis.map fun e=>kOf e.key) = ks at hkp hkl hW5
  have hown4:w5.ownsRow 0 64 1 (.slice K vis.length kc) vis.length (ks.map (Value.int .u32)):=hW5.own 0 _ rfl
  obtain ⟨g,rfl⟩:=qbX hown4 (by omega)
  have hown5:w5.ownsRow 0 64 1 (.slice (some ⟨g,0,none⟩) vis.length kc) vis.length (ks.map (Value.int .u32)):=hown4
  have hg0:w.heap.size ≤ g:=by
   rcases hW5.ownM 0 _ rfl g rfl with h | h
   ·exact h
   exact (h 0).elim
  refine qaf [0,1,2,3] kz ?_
  refine qbZ [0,1] [2,3] [0,1,4,34] hW5 hE14 (env':=[(0,.p 0 0),(1,.v (cloV fc cap)),(4,.p 1 0),(34,.v (.iface 155 (.slice (some ⟨g,0,none⟩) vis.length kc)))]) kz rfl fun a13 hE15=>?_
  refine qal (qeD hE15 (v:=.func (.func 105) #[] #[.pointer (some ⟨kb,0,none⟩)]) (d:=35) kz fun a14 hE16=>?_)
  have hS:=Tryz.sortKeys g kc kb ks.toArray (by simp; omega) (by simp; omega) w5 (by simp only [List.size_toArray,hkl]; exact hW5.cells 1 _ rfl 0 _ rfl) (fun e=>hW5.rtb 0 _ rfl g rfl 1 _ rfl e) (qgW hkl hown5) (qcc (hW5.own 0 _ rfl) (g:=g) rfl) (hW5.live 1 _ rfl)
  rw [List.size_toArray,hkl] at hS
  refine qal (qak hE16 (f:=104) (vs:=[.iface 155 (.slice (some ⟨g,0,none⟩) vis.length kc),.func (.func 105) #[] #[.pointer (some ⟨kb,0,none⟩)]]) (d:=36) kz Tryz.call104 hS ?_)
  rintro e_ w7 ⟨rfl,d',nd,os,hd1,hd2,hd3,rfl⟩
  refine ⟨_,rfl,fun a15 hE17=>qae (qab ?_)⟩
  have hus:d'.toList = u.map Prod.fst:=qi8 hd2 (by rw [hd1]; exact hd3) hkp (List.pairwise_map.2 hm.sorted)
  obtain ⟨hst7,hown7⟩:=qj8 (n:=nd) (os:=os) hkl hown5 (by rw [hd1,hkl])
  rw [hus] at hown7
  generalize Sort.grow (Sort.putRow (Value.int .u32) (Sort.ahead w5 nd) g 0 d') os = w7 at hst7 hown7
  have hW7:WOk w Nil w7 [⟨b,o,[.map (some mb)],false⟩,⟨kb,0,[.slice (some ⟨g,0,none⟩) vis.length kc],true⟩] [⟨some ⟨g,0,none⟩,kc,64,1,vis.length,(u.map Prod.fst).map (Value.int .u32)⟩] :=
   hW5.grow (k:=0) (r':=⟨some ⟨g,0,none⟩,kc,64,1,vis.length,(u.map Prod.fst).map (Value.int .u32)⟩) rfl (hst7.mono fun b' _ _ hb'=>by rw [hb']; rfl) hown7 (fun g' h=>.inl h)
  refine qaf [0,1,2] kz ?_
  refine qbZ [0,1,2] [] [0,1,37,38,39] hW7 hE17 (env':=[(0,.p 0 0),(1,.v (cloV fc cap)),(37,.v (.slice (some ⟨g,0,none⟩) vis.length kc)),(38,.v (.int .i64 ((vis.length:Nat):Int))),(39,.v (.int .i64 0))]) kz rfl fun a16 hE18=>qae (qab ?_)
  have hE19:=EnvOk.cutTb 1 hE18 kz
  have hat7:=hat.move hW7.step nilM qa9
  have hm7:=hm.move hW7.step nilM qa9
  have hg7:g < w7.heap.size:=qcc (hW7.own 0 _ rfl) (g:=g) rfl
  have hkeys:=qgW (by simpa using hvu.symm) hown7
  rw [hvu] at hE19
  refine wp_block ?_
  refine wp_loop_ghost (fun q a_ w_=>∃ (j:Nat),q = u.length - j ∧ j ≤ u.length ∧ EnvOk 53 [⟨b,o,[.map (some mb)],false⟩] [(0,.p 0 0),(1,.v (cloV fc cap)),(37,.v (.slice (some ⟨g,0,none⟩) u.length kc)),(38,.v (.int .i64 ((u.length:Nat):Int))),(39,.v (.int .i64 ((j:Nat):Int)))] a_ ∧
   I w7 j w_) u.length
   ⟨0,by omega,by omega,hE19,hI0 w7 hW7.step⟩ ?_
  rintro q a17 w8 ⟨j,rfl,hj,hE20,hD⟩
  have hS8:=hIs w7 j w8 hD
  have hat8:=hat7.move hS8 (fun b o hf _=>hMF b o hf) qa9
  have hm8:MapR w8 (fun b' o'=>F b' o' ∧ b' < w7.heap.size) (some mb) u:=hm7.move hS8 (fun b o hf _=>hMF b o hf) (fun b' o' hf hl=>⟨hf,hl⟩)
  have hW8:WOk w8 Nil w8 [⟨b,o,[.map (some mb)],false⟩] []:=(WOk.start w8 Nil).start1 hat8 rfl rfl
  refine qaf [0] kz (qbZ [0] [] [0,1,37,38,39,40] hW8 hE20 (env':=[(0,.p 0 0),(1,.v (cloV fc cap)),(37,.v (.slice (some ⟨g,0,none⟩) u.length kc)),(38,.v (.int .i64 ((u.length:Nat):Int))),(39,.v (.int .i64 ((j:Nat):Int))),(40,.v (.bool (decide (((j:Nat):Int) < ((u.length:Nat):Int)))))]) kz rfl fun a18 hE21=>qae (qab (wp_seq ?_)))
  refine qaw hE21 (b:=decide (((j:Nat):Int) < ((u.length:Nat):Int))) kz (fun hc=>?_) (fun hc=>?_)
  ·have hlt:j < u.length:=by have:=zD hc; omega
   refine wp_skip (qab (wp_seq (wp_block ?_)))
   obtain ⟨⟨k,x⟩,hu⟩:∃ y,u[j]? = some y:=⟨_,List.getElem?_eq_getElem hlt⟩
   have hmem:=List.mem_of_getElem? hu
   have hkr:=hm.range _ hmem
   have hcell:At w8 g (0 + j * 1) [.int .u32 k]:=by
    intro i v hi
    have hi0:i = 0:=by
     have:=(List.getElem?_eq_some_iff.1 hi).1
     simp at this; omega
    subst hi0
    simp only [List.getElem?_cons_zero,Option.some.injEq] at hi
    subst hi
    refine hS8.cell (fun hbm=>?_) ?_
    ·have:=hMlt _ _ hbm; omega
    have h1:=(hkeys j (by simpa using hlt)).1
    have h2:(u.map Prod.fst).toArray[j]! = k:=by
     rw [getElem!_pos _ j (by simpa using hlt)]
     have:(u.map Prod.fst)[j]? = some k:=by rw [List.getElem?_map,hu]; rfl
     simpa using (List.getElem?_eq_some_iff.1 this).2
    rw [h2] at h1
    simpa using h1
   refine qaf [0,1,2] kz ?_
   refine qal (qax hE21 (t:=155) (e:=64) (size:=1) (bytes:=4) (d:=41) (b:=g) (o:=0) (m:=u.length) (j:=j) kz kz rfl rfl hlt fun a19 hE22=>?_)
   refine qal (qaU hE22 (t:=64) (d:=42) (cs:=[.int .u32 k]) (v:=.int .u32 k) kz kz hcell fun a20 hE23=>?_)
   refine qbZ [2] [] [0,1,37,38,39,7] hW8 hE23 (env':=[(0,.p 0 0),(1,.v (cloV fc cap)),(37,.v (.slice (some ⟨g,0,none⟩) u.length kc)),(38,.v (.int .i64 ((u.length:Nat):Int))),(39,.v (.int .i64 ((j:Nat):Int))),(7,.v (.int .u32 k))]) kz rfl fun a21 hE24=>qae (qab ?_)
   refine qap [0,1,2,3,4,5,6,7,8] kz ?_
   refine qbZ [0,1,2,3,4,5,6] [7,8] [0,1,37,38,39,43,44,48,49] hW8 hE24 (env':=[(0,.p 0 0),(1,.v (cloV fc cap)),(37,.v (.slice (some ⟨g,0,none⟩) u.length kc)),(38,.v (.int .i64 ((u.length:Nat):Int))),(39,.v (.int .i64 ((j:Nat):Int))),(43,.v (cloV fc cap)),(44,.v (.int .u32 k)),(48,.v (.map (some mb))),(49,.v (.int .u32 k))]) kz rfl fun a22 hE25=>?_
   refine qal (qi5 hE25 (t:=79) (kt:=64) (et:=22) (m:=some mb) (k:=k) (s:=x) (d:=50) kz kz kz hm8 hmem fun a23 Ax cx hox hE26=>?_)
   refine qal (qak hE26 (f:=fc) (vs:=[.int .u32 k,.slice Ax x.length cx,cap]) (d:=51) kz hcf (hI1 w7 hW7.step j k x w8 Ax cx hD hu hkr hox) ?_)
   rintro e_ w9 ⟨rfl,hD2⟩
   refine ⟨_,rfl,fun a24 hE27=>qae (qar (qab ?_))⟩
   have hS9:=hIs w7 (j + 1) w9 hD2
   have hat9:=hat7.move hS9 (fun b o hf _=>hMF b o hf) qa9
   have hW9:WOk w9 Nil w9 [⟨b,o,[.map (some mb)],false⟩] []:=(WOk.start w9 Nil).start1 hat9 rfl rfl
   refine qap [0,1] kz (qbZ [0,1] [] [0,1,37,38,39] hW9 hE27 (env':=[(0,.p 0 0),(1,.v (cloV fc cap)),(37,.v (.slice (some ⟨g,0,none⟩) u.length kc)),(38,.v (.int .i64 ((u.length:Nat):Int))),(39,.v (.int .i64 (IntKind.i64.wrap (((j:Nat):Int) + 1))))]) kz rfl fun a25 hE28=>qae (qab ?_))
   rw [qaO (by omega)] at hE28
   exact ⟨u.length - (j + 1),by omega,j + 1,rfl,by omega,hE28,hD2⟩
  obtain rfl:j = u.length:=by have:=zF hc; omega
  refine wp_exit (qau (qau (qaI ?_)))
  exact qbW hE21 hW8.cells (v:=.tuple #[]) kz ⟨rfl,w7,hW7.step,hD⟩
 -- one more
 have hst6:Step w5 w6 Nil:=by
  rcases hw6 with rfl | rfl
  ·exact Step.refl _ _
  exact Step.drew _
 have hr6:w6.heap[R]? = some (.mapIter (some mb) clk seen c0):=hst6.heap (fun o h=>h) hr5
 have hW6:=hW5.next_nil hst6
 obtain ⟨hml,_⟩:=mem_left he
 obtain ⟨k,sx,Ax,cx,hk1,hk2,hk3,hk4⟩:=hcont e hml
 have hR6:R < w6.heap.size:=(Array.getElem?_eq_some_iff.1 hr6).1
 have hW7:WOk w Nil (setBlock w6 R (.mapIter (some mb) clk (seen.push e.born) clk)) [⟨b,o,[.map (some mb)],false⟩,⟨kb,0,[.slice K vis.length kc],true⟩] [⟨K,kc,64,1,vis.length,(vis.map fun e=>kOf e.key).map (Value.int .u32)⟩]:=by
  refine hW6.next (Step.setBlock w6 R _) (fun b' o' hb' hN=>by omega) (fun i ob hi j hj hN=>?_) (fun i q hi g' hg' o' hN=>?_)
  ·match i,hi with
   | 0,hi =>
    simp only [List.getElem?_cons_zero,Option.some.injEq] at hi; subst hi
    have:=World.lt_of_cell (hat 0 _ rfl).2
    simp only at hN; omega
   | 1,hi =>
    simp only [List.getElem?_cons_succ,List.getElem?_cons_zero,Option.some.injEq] at hi; subst hi
    exact hkbr hN
   | i + 2,hi=>simp at hi
  match i,hi with
  | 0,hi =>
   simp only [List.getElem?_cons_zero,Option.some.injEq] at hi; subst hi
   exact hKR (by rw [← hN]; exact hg')
  | i + 1,hi=>simp at hi
 have hr7:(setBlock w6 R (.mapIter (some mb) clk (seen.push e.born) clk)).heap[R]? = some (.mapIter (some mb) clk (seen.push e.born) clk):=qeC hr6
 generalize hw7:setBlock w6 R (.mapIter (some mb) clk (seen.push e.born) clk) = w7 at hW7 hr7
 refine qbZ [1] [] [0,1,4,24,26] hW7 hE13 (env':=[(0,.p 0 0),(1,.v (cloV fc cap)),(4,.p 1 0),(24,.v (.pointer (some ⟨R,0,none⟩))),(26,.v (.bool true))]) kz rfl fun a12 hE14=>qae (qab (wp_seq ?_))
 refine qaw hE14 (b:=true) kz (fun _=>?_) (fun hb=>by cases hb)
 refine wp_skip (qab (wp_block ?_))
 have hes7:=hW7.step.heap (fun o h=>h) hes
 refine qaf [0,1,2] kz ?_
 refine qal (qip hE14 (d:=27) (r:=R) kz hr7 hes7 hml hnod fun a13 hE15=>?_)
 rw [hk1] at hE15
 refine qbZ [1,2] [] [0,1,4,24,5] hW7 hE15 (env':=[(0,.p 0 0),(1,.v (cloV fc cap)),(4,.p 1 0),(24,.v (.pointer (some ⟨R,0,none⟩))),(5,.v (.int .u32 k))]) kz rfl fun a14 hE16=>qae (qab ?_)
 refine qap [0,1,2,3,4] kz ?_
 refine qbZ [0,1] [2,3,4] [0,1,4,24,29,30] hW7 hE16 (env':=[(0,.p 0 0),(1,.v (cloV fc cap)),(4,.p 1 0),(24,.v (.pointer (some ⟨R,0,none⟩))),(29,.v (.slice K vis.length kc)),(30,.v (.int .u32 k))]) kz rfl fun a15 hE17=>?_
 have hsh:=left_shrinks es seen e he
 refine qcJ (t:=155) (e:=64) (size:=1) (bytes:=4) (len:=1) (cs:=[.int .u32 k]) (d1:=31) (d:=32) (k:=0) hW7 hE17 kz kz (fun _=>by kernel_rfl) rfl kz (by omega) fun K2 kc2 a16 w8 hF8 hW8 hE18=>?_
 obtain ⟨bl,hE18⟩:=hE18
 have hR7:R < w7.heap.size:=(Array.getElem?_eq_some_iff.1 hr7).1
 have hna:∀ {o'},¬ Act_ [⟨b,o,[.map (some mb)],false⟩,⟨kb,0,[.slice K vis.length kc],true⟩] [⟨K,kc,64,1,vis.length,(vis.map fun e=>kOf e.key).map (Value.int .u32)⟩] R o':=by
  rintro o' (⟨i,ob,hi,hrw,hb,_⟩ | ⟨i,q,hi,hq⟩)
  ·match i,hi with
   | 0,hi =>
    simp only [List.getElem?_cons_zero,Option.some.injEq] at hi; subst hi
    cases hrw
   | 1,hi =>
    simp only [List.getElem?_cons_succ,List.getElem?_cons_zero,Option.some.injEq] at hi; subst hi
    exact hkbr hb
   | i + 2,hi=>simp at hi
  match i,hi with
  | 0,hi =>
   simp only [List.getElem?_cons_zero,Option.some.injEq] at hi; subst hi
   exact hKR hq
  | i + 1,hi=>simp at hi
 have hK2:K2.map (·.block) ≠ some R:=fun hk=>by
  exact hF8.imm R 0 hR7 hna (.inr ⟨0,_,rfl,hk⟩)
 refine qal (qao hW8 hE18 (oi:=1) (cs:=[.slice K2 (vis.length + 1) kc2]) kz fun w9 hF9 hW9 hE19=>qae (qar (qab ?_)))
 have hr8:w9.heap[R]? = some (.mapIter (some mb) clk (seen.push e.born) clk) :=
  hF9.step.heap (fun o'=>hF8.imm R o' hR7 hna) (hF8.step.heap (fun o'=>hna) hr7)
 refine ⟨(leftOf es (seen.push e.born)).size,hsh,vis ++ [e],seen.push e.born,K2,kc2,clk,rfl,hv.push he,by rw [List.length_append,List.length_singleton]; omega,?_,?_,hr8,Nat.le_refl _,hK2⟩
 ·rw [List.length_append,List.length_singleton]
  exact hE19.pick (ks:=[0,1,4,24]) kz
 rw [List.length_append,List.length_singleton,List.map_append,List.map_append,List.map_cons,List.map_cons,hk1]
 exact hW9
end Go.Proofs.YtdlaobdadlmcdaaGreatDoor.ME
namespace Go.Proofs.YtdlaobdadlmcdaaGreatDoor.ME
open Go
open Go.RowKit
set_option linter.unusedVariables false
set_option linter.unusedSimpArgs false
set_option maxRecDepth 20000
section
variable {P:Program} {ops:Array Oper} {Q:Exit → Act → World → Prop} {n:Nat} {tb:Tb} {env:Env} {rs:List Rw} {w0:World} {M:Nat → Nat → Prop} {a:Act} {w:World}
theorem qeb {i d j:Nat} {t e:TypeId} {size bytes:Nat} (z:Value) (cs:List Value) {N:Act → World → Prop} (hW:WOk w0 M w tb rs) (hE:EnvOk n tb env a)
  (K:∀ b a' w',b = w.heap.size → w0.heap.size ≤ b → Fr w tb rs w' (tb ++ [⟨b,0,cs,true⟩]) rs → WOk w0 M w' (tb ++ [⟨b,0,cs,true⟩]) rs → EnvOk n (tb ++ [⟨b,0,cs,true⟩]) ((d,.v (.slice (some ⟨b,0,none⟩) j j)) :: env) a' → N a' w')
  (h:qiZ env ops n i = some (t,((j:Nat):Int),((j:Nat):Int),d):=by kernel_rfl) (ht:qcT P t = some (e,size,bytes):=by kernel_rfl) (hz:(P.info? e).bind (·.zero) = some z:=by kernel_rfl) (hcs:(madeCells z.cells (j * size)).toList = cs:=by kernel_rfl) (hb:Nat.ble (bytes * j) 1000000 = true:=by kernel_rfl):wpOp P ops Q i N a w:=by
 obtain ⟨ht',inf,z',hi,hz',hzs,hs1,rfl,hsz,hbp⟩:=qcz ht
 obtain ⟨op,ho,hd,kl,kc,hrun⟩:=qgj (P:=P) (w:=w) hE h
 have hzz:z' = z:=by rw [hi] at hz; simp only [Option.bind_some,hz',Option.some.injEq] at hz; exact hz
 subst hzz
 have hb':=zN hb
 have hjm:j ≤ 1000000:=by
  have:=Nat.le_mul_of_pos_left j hbp
  omega
 have hr:=run_make (P:=P) w t e inf z' ht' hi hz' kl kc (j:Int) (j:Int) (by omega) (Int.le_refl _) (by
  have:((inf.bytes * j:Nat):Int) ≤ 281474976710656:=by omega
  rwa [Int.natCast_mul] at this) (by omega)
 simp only [Int.toNat_natCast,hs1] at hr
 have hca:madeCells z'.cells (j * size) = cs.toArray:=by rw [← hcs]
 rw [hca] at hr
 refine qbh hE ho (fun o hop=>hrun o _ _ hop hr) ?_
 refine K w.heap.size _ _ rfl hW.step.size (Fr.alloc w tb rs _ cs true) (hW.alloc cs e) ?_
 exact (hE.put hd (.v (.slice (some ⟨w.heap.size,0,none⟩) j j)) trivial).grow _
theorem qec {i d:Nat} {src dst e:TypeId} {s:ByteArray} {N:Act → World → Prop} (hW:WOk w0 M w tb rs) (hE:EnvOk n tb env a) (hsm:s.size ≤ 1099511627776)
  (K:∀ b c a' w',Fr w tb rs w' tb rs → WOk w0 M w' tb rs → (∀ G,Octs w' (Imm G w0 w' tb rs) (some ⟨b,0,none⟩) c (sb s)) → EnvOk n tb ((d,.v (.slice (some ⟨b,0,none⟩) (sb s).length c)) :: env) a' → N a' w')
  (h:qkh tb env ops n i = some (src,dst,.string s,d):=by kernel_rfl) (hs:P.underlying src = some .string:=by kernel_rfl) (hd:P.underlying dst = some (.slice e):=by kernel_rfl) (he:P.underlying e = some (.int .u8):=by kernel_rfl):wpOp P ops Q i N a w:=by
 unfold qkh at h
 split at h
 ·rename_i src' dst' x d' hop
  split at h
  ·rename_i v hx
   simp only [Option.some.injEq,Prod.mk.injEq] at h
   obtain ⟨rfl,rfl,rfl,rfl⟩:=h
   have hdn:=(qbD hE hop).choose_spec.2.2.2.1
   have hrun:=Lib.run_convert_string_bytes (P:=P) w src' dst' e s hs hd he
   have hst:Step w (Lib.bytesWorld w e s) Nil:=⟨rfl,rfl,by rw [Lib.bytesWorld_size]; omega,fun b hb=>by rw [Lib.bytesWorld_at_old w e s b hb]; exact Keeps.refl _ _⟩
   have hlen:(sb s).length = s.size:=qiW s
   have e1:=(qbb hE hx).1
   refine qbh hE hop (v:=.slice (some ⟨w.heap.size,0,none⟩) (sb s).length (grownCap w s.size 0 e)) (w':=Lib.bytesWorld w e s) (fun o' ho'=>?_) (K w.heap.size _ _ _ (Fr.nil tb rs hst) (hW.next_nil hst) (fun G=>?_) (hE.put hdn (.v _) trivial))
   ·unfold execOp
    rw [ho']
    simp only [SV.val] at e1
    simp only [e1,Sem.run_bind,hrun,Result.andThen_ok,Sem.run_pure,hlen]
   refine ⟨by rw [hlen]; exact grownCap_ge w s.size 0 e,by rw [hlen]; exact hsm,fun h=>(by cases h),fun ad hA _=>?_⟩
   obtain rfl:=zJ hA
   refine ⟨w.heap.size,0,rfl,fun q hq=>⟨rfl,fun j v hj=>?_⟩⟩
   have hj0:j = 0:=by
    cases j with
    | zero=>rfl
    | succ j=>simp at hj
   subst hj0
   simp only [List.getElem?_cons_zero,Option.some.injEq] at hj
   subst hj
   have h2:(Lib.bytesWorld w e s).heap.size = w.heap.size + 1:=Lib.bytesWorld_size w e s
   refine ⟨⟨.inr hW.step.size,by rw [h2]; exact Nat.lt_succ_self _,fun ha=>?_⟩,?_⟩
   ·have:=hW.act_live ha
    exact absurd this (Nat.lt_irrefl _)
   rw [Nat.zero_add,Nat.mul_one,Nat.add_zero,Lib.bytesWorld_cell w e s q (by rw [← hlen]; exact hq)]
   rfl
  cases h
 cases h
end
structure TBox (w:World) (B eT:Nat) (A:Option Addr) (cp n:Nat) (x0 x1 x2 x3:Value) (xs:List Value):Prop where
 str:Str w B [x0,x1,x2,x3,.slice A n cp]
 own:w.ownsRow 0 eT 2 (.slice A n cp) n xs
 ne:A.map (·.block) ≠ some B
def TM (B:Nat) (A:Option Addr):Nat → Nat → Prop:=fun b o=>(b = B ∧ o < 5) ∨ Blk A b o
def qkn (w:World) (B eT:Nat) (A:Option Addr) (n:Nat) (x0 x1 x2 x3:Value) (xs:List Value) (k:Int) (x:Bs):Ending → World → Prop:=fun en w' =>
 en = .returned (.tuple #[]) ∧ ∃ A' cp' Av cv,TBox w' B eT A' cp' (n + 1) x0 x1 x2 x3 (xs ++ [.int .u32 k,.slice Av x.length cv]) ∧ Octs w' (fun b o=>(w.heap.size ≤ b ∨ A.map (·.block) = some b) ∧ ¬ TM B A' b o) Av cv x ∧ Near w A A' ∧ Step w w' (TM B A)
def qfP (P:Program) (fc eT:Nat):Prop:=∀ (w:World) (B cp c n:Nat) (k:Int) (A Av:Option Addr) (x:Bs) (x0 x1 x2 x3:Value) (xs:List Value) (G:Nat → Nat → Prop),TBox w B eT A cp n x0 x1 x2 x3 xs → Octs w G Av c x → (∀ b o,G b o → ¬ TM B A b o) → n ≤ 1000000 →
 Calls P fc [.int .u32 k,.slice Av x.length c,.pointer (some ⟨B,0,none⟩)].toArray w (qkn w B eT A n x0 x1 x2 x3 xs k x)
theorem TBox.wok {w:World} {B eT cp n:Nat} {A:Option Addr} {x0 x1 x2 x3:Value} {xs:List Value} (h:TBox w B eT A cp n x0 x1 x2 x3 xs):WOk w (TM B A) w [⟨B,0,[x0,x1,x2,x3,.slice A n cp],true⟩] [⟨A,cp,eT,2,n,xs⟩]:=by
 have h1:WOk w (TM B A) w [⟨B,0,[x0,x1,x2,x3,.slice A n cp],true⟩] [] :=
  (WOk.start w _).add ⟨B,0,[x0,x1,x2,x3,.slice A n cp],true⟩ (World.lt_of_cell (h.str.at_ 0 _ rfl)) (fun j v hj=>by rw [Nat.zero_add]; exact h.str.at_ j v hj) (fun _ j hj=>⟨.inr (.inl ⟨rfl,by rw [Nat.zero_add]; exact hj⟩),by rw [Nat.zero_add]; exact h.str.frz j hj⟩) (fun i ob hi=>by simp at hi) (fun i r hi=>by simp at hi)
 refine h1.addRow ⟨A,cp,eT,2,n,xs⟩ h.own (fun g hg=>.inr fun o=>.inr hg) (fun i ob hi=>?_) (fun i r hi=>by simp at hi)
 cases i with
 | zero =>
  simp only [List.getElem?_cons_zero,Option.some.injEq] at hi; subst hi
  exact h.ne
 | succ i=>simp at hi
theorem qgB {w0 w:World} {B eT cp n:Nat} {A0 A:Option Addr} {x0 x1 x2 x3:Value} {xs:List Value} {rs:List Rw} (hW:WOk w0 (TM B A0) w [⟨B,0,[x0,x1,x2,x3,.slice A n cp],true⟩] (⟨A,cp,eT,2,n,xs⟩ :: rs)) (hB:B < w0.heap.size):TBox w B eT A cp n x0 x1 x2 x3 xs ∧ Near w0 A0 A ∧ Step w0 w (TM B A0):=by
 refine ⟨⟨Str.of hW 0 rfl,hW.own 0 _ rfl,fun e=>hW.rtb 0 _ rfl B e 0 _ rfl rfl⟩,fun g hg=>?_,hW.step⟩
 rcases hW.ownM 0 _ rfl g hg with h | h
 ·exact .inr h
 rcases h 5 with ⟨_,h⟩ | h
 ·omega
 exact .inl h
theorem qeO {w0 w:World} {B eT cp n c e8:Nat} {A0 A Av:Option Addr} {cs:List Value} {xs:List Value} {s:Bs} (hl:cs.length = 5) (hW:WOk w0 (TM B A0) w [⟨B,0,cs,true⟩] [⟨A,cp,eT,2,n,xs⟩,brow Av c e8 s]) (hsm:s.length ≤ 1099511627776):Octs w (fun b o=>(w0.heap.size ≤ b ∨ A0.map (·.block) = some b) ∧ ¬ TM B A b o) Av c s:=by
 refine qcA (hW.own 1 _ rfl) hsm fun g hg o=>⟨?_,?_⟩
 ·rcases hW.ownM 1 _ rfl g hg with h | h
  ·exact .inl h
  rcases h 5 with ⟨_,h⟩ | h
  ·omega
  exact .inr h
 rintro (⟨rfl,_⟩ | h)
 ·exact hW.rtb 1 _ rfl g hg 0 _ rfl rfl
 exact hW.rr 1 0 _ _ (by decide) rfl rfl g hg h
theorem qeP {fc eT B b o:Nat} {m:Option Nat} {u:List (Int × Bs)} {w:World} {F:Nat → Nat → Prop} {x0 x1 x2 x3:Value} (hcf:∀ args w,(callFunc fc args).run Tryz.prog w = .ok (.enter fc args) w) (hone:qfP Tryz.prog fc eT) (hat:AtF w F b o [.map m]) (hm:MapR w F m u) (hB:Str w B [x0,x1,x2,x3,.slice none 0 0]) (hF:∀ b o,F b o → ¬ (b = B ∧ o < 5)) (hul:u.length ≤ 1000000) :
  Calls Tryz.prog 59 [.pointer (some ⟨b,o,none⟩),cloV fc (.pointer (some ⟨B,0,none⟩))].toArray w (fun e w'=>e = .returned (.tuple #[]) ∧ ∃ A c,Str w' B [x0,x1,x2,x3,.slice A u.length c] ∧ TagsR w' (fun b o=>w.heap.size ≤ b) A c u ∧ Step w w' (fun b o=>b = B ∧ o < 5)):=by
 have hBl:B < w.heap.size:=World.lt_of_cell (hB.at_ 0 _ rfl)
 refine (qlM (M:=fun b o=>b = B ∧ o < 5) hcf (fun w7 j w8=>∃ A cp xs css,TBox w8 B eT A cp j x0 x1 x2 x3 xs ∧ Tags w8 (fun b o=>w7.heap.size ≤ b ∧ ¬ TM B A b o) xs (u.take j) css ∧ (∀ g,A.map (·.block) = some g → w7.heap.size ≤ g) ∧ Step w7 w8 (fun b o=>b = B ∧ o < 5)) hat hm hF (fun b o h=>by rw [h.1]; exact hBl) (fun w7 hs=>?_) (fun w7 j w8 h=>by obtain ⟨_,_,_,_,_,_,_,h⟩:=h; exact h) (fun w7 hs j k x w8 Ax cx hI hu hk hox=>?_) hul).mono ?_
 ·exact ⟨none,0,[],[],⟨hB.move hs fun _ h=>h,World.ownsRow_nil _ 0 eT 2,fun h=>by cases h⟩,Tags.nil _ _,fun g h=>(by cases h),Step.refl _ _⟩
 ·obtain ⟨A,cp,xs,css,hbx,hT,hA,hs8⟩:=hI
  have hj:j < u.length:=(List.getElem?_eq_some_iff.1 hu).1
  refine (hone w8 B cp cx j k A Ax x x0 x1 x2 x3 xs _ hbx hox (fun b o hf=>?_) (by omega)).mono ?_
  ·rintro (h | h)
   ·exact hF _ _ hf.1 h
   have:=hA b h; have:=hf.2; omega
  rintro e w9 ⟨rfl,A',cp',Av,cv,hbx',ho',hn,hs9⟩
  refine ⟨rfl,A',cp',_,css ++ [(z42 k Av x.length cv)],hbx',?_,fun g hg=>?_,hs8.trans hs9 fun b o hb h=>?_⟩
  ·rw [qdi hu]
   have e1:Tags w9 (fun b o=>w7.heap.size ≤ b ∧ ¬ TM B A' b o) xs (u.take j) css:=hT.move hs9 (fun b o h _=>h.2) (fun b o h hb=>⟨h.1,fun h'=>by
    rcases h' with h' | h'
    ·exact h.2 (.inl h')
    rcases hn b h' with h' | h'
    ·exact h.2 (.inr h')
    omega⟩)
   have e2:Octs w9 (fun b o=>w7.heap.size ≤ b ∧ ¬ TM B A' b o) Av cv x:=ho'.move (Step.refl _ Nil) nilM fun b o h _=>⟨by
    rcases h.1 with h' | h'
    ·exact Nat.le_trans hs8.size h'
    exact hA b h',h.2⟩
   exact e1.snoc (c:=(z42 k Av x.length cv)) (x:=(k,x)) ⟨⟨_,_,rfl,e2⟩,hk.1,hk.2⟩
  ·rcases hn g hg with h | h
   ·exact hA g h
   exact Nat.le_trans hs8.size h
  rcases h with h | h
  ·exact h
  have:=hA b h; omega
 rintro e w' ⟨rfl,w7,hs,A,cp,xs,css,hbx,hT,hA,hs8⟩
 rw [List.take_length] at hT
 refine ⟨rfl,A,cp,hbx.str,?_,(hs.mono (N:=fun b o=>b = B ∧ o < 5) fun _ _ _ f=>f.elim).trans hs8 fun b o _ h=>h⟩
 exact ((hT.move (Step.refl _ Nil) nilM fun b o h _=>Nat.le_trans hs.size h.1).slots (F:=fun b o=>w.heap.size ≤ b) hbx.own rfl (by omega) fun g hg o=>Nat.le_trans hs.size (hA g hg))
def qko (b:Bool):Tree:=.mk (if b = true then 1 else 0) [] false [] []
abbrev NoF:Nat → Nat → Prop:=fun _ _=>False
theorem WOk.strOut {G:Nat → Nat → Prop} {w0 w:World} {tb:Tb} {rs:List Rw} {p:Nat} {cs:List Value} (tb':Tb) (hW:WOk w0 Nil w tb rs) (ht:tb' ++ [⟨p,0,cs,true⟩] = tb:=by rfl):AtF w (Imm G w0 w tb' rs) p 0 cs:=fun j v hj=>by
 subst ht
 have hi:(tb' ++ [(⟨p,0,cs,true⟩:Ob)])[tb'.length]? = some ⟨p,0,cs,true⟩:=by rw [List.getElem?_append_right (Nat.le_refl _),Nat.sub_self]; rfl
 have h1:=hW.cells _ _ hi j v hj
 have hlt:j < cs.length:=(List.getElem?_eq_some_iff.1 hj).1
 refine ⟨⟨?_,hW.live _ _ hi,fun ha=>?_⟩,h1⟩
 ·rcases (hW.rw_ _ _ hi rfl j hlt).1 with h2 | h2
  ·exact .inr h2
  exact h2.elim
 rcases ha with ⟨k,ob,h2,h3,h4,h5,h6⟩ | ⟨k,r,h2,h3⟩
 ·have hk:k < tb'.length:=(List.getElem?_eq_some_iff.1 h2).1
  have h7:(tb' ++ [(⟨p,0,cs,true⟩:Ob)])[k]? = some ob:=by rw [List.getElem?_append_left hk]; exact h2
  rcases hW.apart k _ ob _ (by omega) h7 hi (.inr rfl) with h8 | h8 | h8
  ·exact h8 h4
  ·simp only [Nat.zero_add] at h5 h6; simp only [Nat.le_zero] at h8; omega
  simp only [Nat.zero_add] at h5 h6 h8; omega
 exact hW.rtb k r h2 p h3 _ _ hi rfl
theorem qiF {u:List (Int × Bs)} (h:qdu u) {i j:Nat} {k k':Int} {s s':Bs} (hi:u[i]? = some (k,s)) (hj:u[j]? = some (k',s')) (hij:j < i):¬ k < k':=by
 obtain ⟨h1,h2⟩:=List.getElem?_eq_some_iff.1 hi
 obtain ⟨h3,h4⟩:=List.getElem?_eq_some_iff.1 hj
 have:=List.pairwise_iff_getElem.1 h j i h3 h1 hij
 rw [h2,h4] at this
 simp only at this
 omega
section
variable {w0 w:World} {tb:Tb} {rs:List Rw} {F:Nat → Nat → Prop}
theorem WOk.objFp (hW:WOk w0 Nil w tb rs) (i:Nat) {b:Nat} {cs:List Value} (hi:tb[i]? = some ⟨b,0,cs,true⟩):AtF w (Fp F w0) b 0 cs:=fun j v hj=>by
 have hlt:=(List.getElem?_eq_some_iff.1 hj).1
 refine ⟨?_,hW.cells i _ hi j v hj⟩
 rcases (hW.rw_ i _ hi rfl j hlt).1 with h | h
 ·exact .inr h
 exact h.elim
def TrL (w:World) (F:Nat → Nat → Prop):List (List Value) → List Tree → Prop
 | [],[]=>True
 | c :: cs,x :: xs=>TreeR w F c x ∧ TrL w F cs xs
 | _,_=>False
theorem TrL.move {w w':World} {F F' M:Nat → Nat → Prop} (hs:Step w w' M) (hM:∀ b o,F b o → b < w.heap.size → ¬ M b o) (hF:∀ b o,F b o → b < w.heap.size → F' b o):∀ {cs:List (List Value)} {l:List Tree},TrL w F cs l → TrL w' F' cs l
 | [],[],_=>trivial
 | _ :: _,_ :: _,h=>⟨h.1.move hs hM hF,TrL.move hs hM hF h.2⟩
 | [],_ :: _,h=>h.elim
 | _ :: _,[],h=>h.elim
theorem TrL.len:∀ {cs:List (List Value)} {l:List Tree},TrL w F cs l → cs.length = l.length
 | [],[],_=>rfl
 | _ :: _,_ :: _,h=>congrArg (· + 1) (TrL.len h.2)
 | [],_ :: _,h=>h.elim
 | _ :: _,[],h=>h.elim
theorem TrL.five:∀ {cs:List (List Value)} {l:List Tree},TrL w F cs l → ∀ c ∈ cs,c.length = 5
 | [],[],_=>fun c hc=>by cases hc
 | _ :: _,_ :: _,h=>fun c hc=>by
  rcases List.mem_cons.1 hc with rfl | hc
  ·exact h.1.five
  exact TrL.five h.2 c hc
 | [],_ :: _,h=>h.elim
 | _ :: _,[],h=>h.elim
theorem TrL.get:∀ {cs:List (List Value)} {l:List Tree},TrL w F cs l → ∀ (i:Nat) (x:Tree),l[i]? = some x → TreeR w F (cs.getD i []) x
 | [],[],_,i,x,hx=>by simp at hx
 | _ :: _,_ :: _,h,0,x,hx=>by
  simp only [List.getElem?_cons_zero,Option.some.injEq] at hx
  subst hx
  exact h.1
 | _ :: _,_ :: _,h,i + 1,x,hx=>TrL.get h.2 i x hx
 | [],_ :: _,h,_,_,_=>h.elim
 | _ :: _,[],h,_,_,_=>h.elim
theorem qlN {b:Nat}:∀ (css:List (List Value)) (o:Nat),AtF w F b o css.flatten → (∀ c ∈ css,c.length = 5) → ∀ i,i < css.length → (css.getD i []).length = 5 ∧ AtF w F b (o + i * 5) (css.getD i [])
 | [],o,h,hl,i,hi=>absurd hi (Nat.not_lt_zero _)
 | c :: r,o,h,hl,0,_=>⟨hl c List.mem_cons_self,fun j v hj=>by
   have hj':c[j]? = some v:=hj
   have:=h j v (by rw [List.flatten_cons,List.getElem?_append_left (List.getElem?_eq_some_iff.1 hj').1]; exact hj')
   rw [show o + 0 * 5 + j = o + j by omega]
   exact this⟩
 | c :: r,o,h,hl,i + 1,hi=>by
  have hc:=hl c List.mem_cons_self
  have:=qlN r (o + 5) (fun j v hj=>by
   have:=h (5 + j) v (by rw [List.flatten_cons,List.getElem?_append_right (by omega),show 5 + j - c.length = j by omega]; exact hj)
   rw [show o + 5 + j = o + (5 + j) by omega]
   exact this) (fun d hd=>hl d (List.mem_cons_of_mem _ hd)) i (by simpa using hi)
  rw [show o + (i + 1) * 5 = o + 5 + i * 5 by omega]
  exact this
theorem qiG {b:Nat} {css:List (List Value)} {l:List Tree} (h:AtF w F b 0 css.flatten) (hT:TrL w F css l) (hsm:l.length ≤ 1099511627776):Slots w F 5 (some ⟨b,0,none⟩) l.length l.length (fun i=>css.getD i []) :=
 ⟨Nat.le_refl _,hsm,fun h=>(by cases h),fun ad hA _=>⟨b,0,(Option.some.inj hA).symm,fun i hi=>qlN css 0 h hT.five i (by rw [hT.len]; exact hi)⟩⟩
theorem Trees.xslen {w:World} {xs:List Value} {l:List Tree} {css:List (List Value)} (h:Trees w F xs l css):xs.length = l.length * 5:=by
 have h1:∀ css:List (List Value),(∀ c ∈ css,c.length = 5) → css.flatten.length = css.length * 5:=fun css hc=>by
  induction css with
  | nil=>rfl
  | cons c r ih =>
   rw [List.flatten_cons,List.length_append,hc c List.mem_cons_self,ih fun d hd=>hc d (List.mem_cons_of_mem _ hd),List.length_cons]
   omega
 rw [h.flat.eq,h1 css,h.len]
 intro c hc
 obtain ⟨i,hi,rfl⟩:=List.getElem_of_mem hc
 have hl:=h.len
 exact (h.each i _ _ (List.getElem?_eq_getElem hi) (List.getElem?_eq_getElem (show i < l.length by omega))).five
theorem qcn {xs zs cs:List Value} {k:Nat} (hx:xs.length = k * 5) (hz:zs.length = cs.length:=by rfl):qbt (xs ++ zs) (k * 5) cs = xs ++ cs:=by
 unfold qbt
 rw [List.take_left' hx,List.drop_of_length_le (by rw [List.length_append]; omega),List.append_nil]
theorem qdQ (hW:WOk w0 Nil w tb rs) {k:Nat} {A:Option Addr} {c e n:Nat} {xs:List Value} {l:List Tree} {css:List (List Value)} {b:Bool} (hk:rs[k]? = some ⟨A,c,e,5,n,xs⟩) (hT:Trees w (Imm F w0 w tb rs) xs l css) (hn:n = l.length) (hsm:l.length ≤ 1099511627776):TreeR w (Fp F w0) [.int .i64 0,.slice none 0 0,.bool b,.slice A n c,.slice none 0 0] (.mk 0 [] b l []):=by
 have h:=qhU hW hk hT hn hsm
 subst hn
 exact TreeR.mk (s:=[]) (u:=[]) _ (Octs.nil _ _) h.1 h.2 (TagsR.nil _ _)
theorem qbQ {L k:Nat} {f:Nat → Tree} (h:k < L):((List.range L).map f).take (k + 1) = ((List.range L).map f).take k ++ [f k] :=
 qdi (by rw [List.getElem?_map,List.getElem?_range h]; rfl)
theorem qeQ {L k:Nat} {f:Nat → Tree} (h:L ≤ k):((List.range L).map f).take k = (List.range L).map f:=List.take_of_length_le (by rw [List.length_map,List.length_range]; exact h)
theorem qbG {L:Nat} {f:Nat → Tree}:((List.range L).map f).length = L:=by rw [List.length_map,List.length_range]
theorem qfq (hW:WOk w0 Nil w tb rs) (i:Nat) {b n2 c3:Nat} {A3:Option Addr} {u:List (Int × Bs)} {css:List (List Value)} {cs:List Value} {l:List Tree} (hi:tb[i]? = some ⟨b,0,cs,true⟩) (hT':TrL w (Fp F w0) css l) (hU:TagsR w (Fp F w0) A3 c3 u) (hf:css.flatten = cs:=by rfl) (hl:l.length = n2:=by rfl) (hn:Nat.ble n2 1000000 = true:=by kernel_rfl) :
  qdK w0 F (.mk 0 [] false l u) (.returned (.agg #[.int .i64 0,.slice none 0 0,.bool false,.slice (some ⟨b,0,none⟩) n2 n2,.slice A3 u.length c3])) w:=by
 subst hf
 subst hl
 have hn':=Nat.le_of_ble_eq_true hn
 exact ⟨_,rfl,TreeR.mk (s:=[]) _ (Octs.nil _ _) (qiG (hW.objFp i hi) hT' (by omega)) hT'.get hU,hW.step⟩
end
def qlO (m:Nat):Prop:=∀ (ct:List Value) (t:Tree) (w:World) (F:Nat → Nat → Prop),TreeR w F ct t → t.depth ≤ m →
  Calls Tryz.prog 14 #[.agg ct.toArray] w (qdK w F t)
theorem qjN {m:Nat} (hg:qlO m) (ct:List Value) (t:Tree) (w:World) (F:Nat → Nat → Prop) (ht:TreeR w F ct t) (hd:t.depth ≤ m + 1) :
  Calls Tryz.prog 14 #[.agg ct.toArray] w (qdK w F t):=by
 obtain ⟨n1,s2,b3,l4,u5,A6,c7,A8,c9,ap,ar,dT,rfl,rfl,dw,dx,dU,dV⟩:=ht.open_
 have dy:=dw.small
 have dz:=dx.small
 obtain ⟨dW,dA,dX⟩:=dV.ex
 have dB:=dA.small
 refine enter (n:=49) Tryz.func14 rfl Tryz.ntmps14 kz fun a hE=>?_
 have hW:=WOk.start w Nil
 refine qaf [0,1] kz ?_
 refine qal (qbq hW hE (d:=1) (cs:=(z1 n1 A6 s2.length c7 b3 A8 l4.length c9 ap u5.length ar)) kz fun bF fk fm dY dZ d5 cY cZ=>?_)
 refine qal (qaQ cY cZ (d:=2) (cs:=z0) kz fun bG fo fq d6 d7 d8 bI c5=>?_)
 refine qae (qab ?_)
 refine qaf [0,1,2,3,4,5,6,7,8] kz ?_
 refine qai [0,1,2,3,4,5,6] [7,8] [(1,.p 0 0),(2,.p 1 0),(14,.v (.agg #[.int .i64 n1,.slice A6 s2.length c7,.bool b3,.slice none 0 0,.slice none 0 0]))] bI c5 fun fr c6=>?_
 refine qal (qaQ bI c6 (d:=3) (cs:=z0) kz fun bH ft fu d9 ea eb da db=>?_)
 refine qal (qao da db (oi:=2) (cs:=[.int .i64 n1,.slice A6 s2.length c7,.bool b3,.slice none 0 0,.slice none 0 0]) kz fun fv ec bz dc=>?_)
 refine qae (qab ?_)
 refine wp_seq (qas [(1,.p 0 0),(2,.p 1 0),(3,.p 2 0),(16,.v (.slice A8 l4.length c9)),(17,.v (.int .i64 ((l4.length:Nat):Int))),(18,.v (.int .i64 0))] bz dc fun fw de=>?_)
 refine wp_block ?_
 have bJ:=bz.addNil 26 5
 have ee:=bz.frNil 26 5
 refine wp_loop_ghost (fun n_ a_ w_=>∃ (k:Nat) (A_:Option Addr) (c_:Nat) (xs:List Value) (css:List (List Value)),n_ = l4.length - k ∧ k ≤ l4.length ∧ (Trees w_ (Imm F w w_ [⟨bF,0,[.int .i64 n1,.slice A6 s2.length c7,.bool b3,.slice A8 l4.length c9,.slice ap u5.length ar],true⟩,⟨bG,0,[.int .i64 0,.slice none 0 0,.bool false,.slice none 0 0,.slice none 0 0],true⟩,⟨bH,0,[.int .i64 n1,.slice A6 s2.length c7,.bool b3,.slice A_ k c_,.slice none 0 0],true⟩] [⟨A_,c_,26,5,k,xs⟩]) xs (l4.take k) css) ∧ LInv bJ 49 [⟨bF,0,[.int .i64 n1,.slice A6 s2.length c7,.bool b3,.slice A8 l4.length c9,.slice ap u5.length ar],true⟩,⟨bG,0,[.int .i64 0,.slice none 0 0,.bool false,.slice none 0 0,.slice none 0 0],true⟩,⟨bH,0,[.int .i64 n1,.slice A6 s2.length c7,.bool b3,.slice A_ k c_,.slice none 0 0],true⟩] [⟨A_,c_,26,5,k,xs⟩] [(1,.p 0 0),(2,.p 1 0),(3,.p 2 0),(16,.v (.slice A8 l4.length c9)),(17,.v (.int .i64 ((l4.length:Nat):Int))),(18,.v (.int .i64 ((k:Nat):Int)))] a_ w_) (l4.length) ⟨0,none,0,[],[],by omega,by omega,Trees.nil _ _,de.pk,bJ,Fr.refl _ _ _⟩ ?_
 rintro fx fy fz ⟨k,A_,c_,xs,css,ef,eg,hT,df,aw,dg⟩
 refine qas [(1,.p 0 0),(2,.p 1 0),(3,.p 2 0),(16,.v (.slice A8 l4.length c9)),(17,.v (.int .i64 ((l4.length:Nat):Int))),(18,.v (.int .i64 ((k:Nat):Int))),(19,.v (.bool (decide (((k:Nat):Int) < ((l4.length:Nat):Int)))))] aw df fun fA bA=>?_
 refine wp_seq (qaw bA (b:=decide (((k:Nat):Int) < ((l4.length:Nat):Int))) kz (fun bB=>?_) (fun bB=>?_))
 ·
  have eh:=zD bB
  refine wp_skip (qab (wp_seq (wp_block (qaf [0,1,2,3] kz ?_))))
  obtain ⟨ei,ej,dh,ek,bf⟩:=Slots.get dx (i:=k) (by omega)
  obtain ⟨em,bC⟩:∃ x,l4[k]? = some x:=⟨_,List.getElem?_eq_getElem (by omega)⟩
  have bD:=dU k em bC
  obtain ⟨bK,bL,bM,bN,bO,bP,bQ,bR,bS,bT,bU,eo,rfl,bg,ep,eu,fB,fC⟩:=bD.open_
  rw [bg] at bD
  have dC:=ep.small
  have dD:=eu.small
  rw [bg] at bf
  refine qal (qax bA (t:=34) (A:=A8) (m:=l4.length) (q:=((k:Nat):Int)) (d:=20) kz (e:=37) (size:=5) (bytes:=88) kz dh rfl (by omega) fun fD bV=>?_)
  refine qal (qaU bV (t:=37) (b:=ei) (o:=ej + k * 5) (d:=21) kz (cs:=(z1 bK bP bL.length bQ bM bR bN.length bS bT bO.length bU)) (v:=.agg #[.int .i64 bK,.slice bP bL.length bQ,.bool bM,.slice bR bN.length bS,.slice bT bO.length bU]) kz (AtF.move bf aw.step nilM qa9).at_ fun ev bW=>?_)
  refine qal (qaQ aw bW (d:=5) (cs:=z0) kz fun ew ey ez dE dF ax bX bY=>?_)
  refine qal (qao bX bY (oi:=3) (cs:=(z1 bK bP bL.length bQ bM bR bN.length bS bT bO.length bU)) kz fun eB ay bZ b8=>?_)
  refine qae (qab ?_)
  refine qcu 7 kz bZ fun eC az ag cd=>?_
  refine qaB [0,1,2] [(1,.p 0 0),(2,.p 1 0),(3,.p 2 0),(16,.v (.slice A8 l4.length c9)),(17,.v (.int .i64 ((l4.length:Nat):Int))),(18,.v (.int .i64 ((k:Nat):Int))),(23,.v (.slice A_ k c_)),(24,.v (.agg #[.int .i64 bK,.slice bP bL.length bQ,.bool bM,.slice bR bN.length bS,.slice bT bO.length bU]))] 5 (qac (qaa (qaa (qac (qaa qad))))) (fun _ h=>h.cells) cd b8 fun eD ce=>?_
  refine qam (i:=3) kz (qak ce (f:=14) (vs:=[.agg #[.int .i64 bK,.slice bP bL.length bQ,.bool bM,.slice bR bN.length bS,.slice bT bO.length bU]]) (d:=25) kz Tryz.call14 ( hg _ _ _ _ (bD.move ag.step nilM ag.imm) (by have h_:=qhT bC; rw [qg2] at hd; omega)) ?_)
  rintro e_ eE ⟨dG,rfl,cm,aA⟩
  have aB:=cm.move (Step.refl _ Nil) nilM (ag.laid (G:=F) aA)
  obtain ⟨aC,aD,aE,aF,aG,aH,aI,aJ,aK,aL,aM,dH,dI,aN,di,dj,eF,eG⟩:=aB.open_
  rw [aN] at aB
  have dl:=di.small
  have dp:=dj.small
  rw [aN]
  refine ⟨_,rfl,fun eH cq=>?_⟩
  have bh:=ag.next_nil aA
  have ae:=ag.frN aA
  have cr:=TT.ofW ae bh
  refine ⟨fun _=>cr,?_⟩
  refine qam (i:=4) kz (qbu bh cq (e:=26) (size:=5) (len:=1) (cs:=(z1 aC aH aD.length aI aE aJ aF.length aK aL aG.length aM)) (d:=26) kz kz fun dq eI eJ dJ dK aa au cu=>?_)
  have cw:=TT.ofW (ae.trans aa) au
  refine ⟨fun _=>cw,?_⟩
  refine qam (i:=5) kz (qaR au cu (k:=0) (d:=27) (t:=23) (e:=26) (size:=5) (bytes:=88) (A:=A_) (As:=(some ⟨dq,0,none⟩)) (m0:=k) (c:=c_) (m:=1) (cs:=1) (xs:=xs) (news:=(z1 aC aH aD.length aI aE aJ aF.length aK aL aG.length aM)) kz kz rfl (qby (au.own 1 _ rfl) (qbw kz)) (qbE (au.own 1 _ rfl)) (by omega) fun aO aP eK eL af bi cz=>?_)
  have bj:=TT.ofW ((ae.trans aa).trans af) bi
  refine ⟨fun _=>bj,?_⟩
  refine qaB [6] [(1,.p 0 0),(2,.p 1 0),(3,.p 2 0),(16,.v (.slice A8 l4.length c9)),(17,.v (.int .i64 ((l4.length:Nat):Int))),(18,.v (.int .i64 ((k:Nat):Int))),(27,.v (.slice aO (k + 1) aP)),(28,.p 2 3)] 1 (qac (qaa (qaa (qac (qaa qad))))) (fun _ h=>h.cells) bj cz fun eM cA=>?_
  refine qam (i:=7) kz (qao bi cA (oi:=2) (cs:=[.int .i64 n1,.slice A6 s2.length c7,.bool b3,.slice aO (k + 1) aP,.slice none 0 0]) kz fun eN ah bk cB=>?_)
  refine ⟨fun h=>absurd rfl h,?_⟩
  refine qaz kz ?_ _
  refine qar (qab (qap [0,1] kz ?_))
  refine qai [0,1] [] [(1,.p 0 0),(2,.p 1 0),(3,.p 2 0),(16,.v (.slice A8 l4.length c9)),(17,.v (.int .i64 ((l4.length:Nat):Int))),(18,.v (.int .i64 (IntKind.i64.wrap (((k:Nat):Int) + 1))))] bk cB fun eO cC=>?_
  refine qae (qab ?_)
  obtain ⟨bn,cD,ai⟩:=bk.cutB cC 3 [⟨bF,0,(z1 n1 A6 s2.length c7 b3 A8 l4.length c9 ap u5.length ar),true⟩,⟨bG,0,z0,true⟩,⟨bH,0,[.int .i64 n1,.slice A6 s2.length c7,.bool b3,.slice aO (k + 1) aP,.slice none 0 0],true⟩] [(1,.p 0 0),(2,.p 1 0),(3,.p 2 0),(16,.v (.slice A8 l4.length c9)),(17,.v (.int .i64 ((l4.length:Nat):Int))),(18,.v (.int .i64 (IntKind.i64.wrap (((k:Nat):Int) + 1))))]
  obtain ⟨cE,aj⟩:=cD.cutR 1 [⟨aO,aP,26,5,k + 1,xs ++ (z1 aC aH aD.length aI aE aJ aF.length aK aL aG.length aM)⟩]
  have cG:IntKind.i64.wrap (((k:Nat):Int) + 1) = ((k + 1:Nat):Int):=qaO (by omega)
  rw [cG] at bn
  exact ⟨l4.length - (k + 1),by omega,k + 1,aO,aP,xs ++ [Value.int .i64 aC,.slice aH aD.length aI,.bool aE,.slice aJ aF.length aK,.slice aL aG.length aM],(css ++ [[Value.int .i64 aC,.slice aH aD.length aI,.bool aE,.slice aJ aF.length aK,.slice aL aG.length aM]]),rfl,by omega,by rw [qdi bC]; exact (hT.move ((((((((ax.trans ay).trans az).trans ae).trans aa).trans af).trans ah).trans ai).trans aj).step immM ((((((((ax.trans ay).trans az).trans ae).trans aa).trans af).trans ah).trans ai).trans aj).to').snoc (aB.move ((((aa.trans af).trans ah).trans ai).trans aj).step immM ((((aa.trans af).trans ah).trans ai).trans aj).to'),bn.pk,cE,(((((((((dg.trans ax).trans ay).trans az).trans ae).trans aa).trans af).trans ah).trans ai).trans aj)⟩
 have dL:=zF bB
 refine wp_exit (qau (qau (qaI (qab (wp_seq (qas [(2,.p 1 0),(3,.p 2 0),(31,.v (.slice ap u5.length ar)),(32,.v (.int .i64 ((u5.length:Nat):Int))),(33,.v (.int .i64 0))] aw bA fun eP cH=>?_))))))
 refine wp_block ?_
 have hk0:k = l4.length:=by omega
 have bo:=aw.addNil 66 2
 have bp:=aw.frNil 66 2
 refine wp_loop_ghost (fun n_ a_ w_=>∃ (q:Nat) (A5_:Option Addr) (c5_:Nat) (ys:List Value) (dss:List (List Value)),n_ = u5.length - q ∧ q ≤ u5.length ∧ (Tags w_ (Imm F w w_ [⟨bF,0,[.int .i64 n1,.slice A6 s2.length c7,.bool b3,.slice A8 l4.length c9,.slice ap u5.length ar],true⟩,⟨bG,0,[.int .i64 0,.slice none 0 0,.bool false,.slice none 0 0,.slice none 0 0],true⟩,⟨bH,0,[.int .i64 n1,.slice A6 s2.length c7,.bool b3,.slice A_ k c_,.slice A5_ q c5_],true⟩] [⟨A_,c_,26,5,k,xs⟩,⟨A5_,c5_,66,2,q,ys⟩]) ys (u5.take q) dss) ∧ LInv bo 49 [⟨bF,0,[.int .i64 n1,.slice A6 s2.length c7,.bool b3,.slice A8 l4.length c9,.slice ap u5.length ar],true⟩,⟨bG,0,[.int .i64 0,.slice none 0 0,.bool false,.slice none 0 0,.slice none 0 0],true⟩,⟨bH,0,[.int .i64 n1,.slice A6 s2.length c7,.bool b3,.slice A_ k c_,.slice A5_ q c5_],true⟩] [⟨A_,c_,26,5,k,xs⟩,⟨A5_,c5_,66,2,q,ys⟩] [(2,.p 1 0),(3,.p 2 0),(31,.v (.slice ap u5.length ar)),(32,.v (.int .i64 ((u5.length:Nat):Int))),(33,.v (.int .i64 ((q:Nat):Int)))] a_ w_) (u5.length) ⟨0,none,0,[],[],by omega,by omega,Tags.nil _ _,cH.pk,bo,Fr.refl _ _ _⟩ ?_
 rintro eQ eR eS ⟨q,A5_,c5_,ys,dss,dM,dN,hU,cI,ak,aQ⟩
 refine qas [(2,.p 1 0),(3,.p 2 0),(31,.v (.slice ap u5.length ar)),(32,.v (.int .i64 ((u5.length:Nat):Int))),(33,.v (.int .i64 ((q:Nat):Int))),(34,.v (.bool (decide (((q:Nat):Int) < ((u5.length:Nat):Int)))))] ak cI fun eU aR=>?_
 refine wp_seq (qaw aR (b:=decide (((q:Nat):Int) < ((u5.length:Nat):Int))) kz (fun aS=>?_) (fun aS=>?_))
 ·
  have dO:=zD aS
  refine wp_skip (qab (wp_seq (wp_block (qaf [0,1,2,3] kz ?_))))
  obtain ⟨dr,dt,cJ,dP,aT⟩:=Slots.get dA (i:=q) (by omega)
  obtain ⟨⟨ab,ac⟩,bq⟩:∃ x,u5[q]? = some x:=⟨_,List.getElem?_eq_getElem (by omega)⟩
  obtain ⟨⟨al,am,bE,cK⟩,du,dv⟩:=dX q ab ac bq
  rw [bE] at aT
  refine qal (qax aR (t:=35) (A:=ap) (m:=u5.length) (q:=((q:Nat):Int)) (d:=35) kz (e:=69) (size:=2) (bytes:=32) kz cJ rfl (by omega) fun eV cL=>?_)
  refine qal (qaU cL (t:=69) (b:=dr) (o:=dt + q * 2) (d:=36) kz (cs:=(z42 ab al ac.length am)) (v:=.agg #[.int .u32 ab,.slice al ac.length am]) kz (AtF.move aT ak.step nilM qa9).at_ fun eW cM=>?_)
  refine qal (qaQ ak cM (d:=7) (cs:=z38) kz fun eX eY eZ dQ dR aU cN cO=>?_)
  refine qal (qao cN cO (oi:=3) (cs:=(z42 ab al ac.length am)) kz fun e9 aV bt cP=>?_)
  refine qae (qab ?_)
  refine qap [0,1,2,3,4,5,6,7,8,9,10] kz ?_
  refine qai [0,1,2,3,4,5,6] [7,8,9,10] [(2,.p 1 0),(3,.p 2 0),(31,.v (.slice ap u5.length ar)),(32,.v (.int .i64 ((u5.length:Nat):Int))),(33,.v (.int .i64 ((q:Nat):Int))),(38,.v (.slice A5_ q c5_)),(43,.v (.agg #[.int .u32 ab,.slice al ac.length am]))] bt cP fun fa cQ=>?_
  refine qcJ bt cQ (k:=1) (e:=66) (size:=2) (len:=1) (cs:=(z42 ab al ac.length am)) (d1:=44) (d:=45) kz (t:=24) (bytes:=32) kz (fun _=>by kernel_rfl) rfl kz (by omega) fun ba bd fb fe aW bu ⟨_,cR⟩=>?_
  refine qai [9] [10] [(2,.p 1 0),(3,.p 2 0),(31,.v (.slice ap u5.length ar)),(32,.v (.int .i64 ((u5.length:Nat):Int))),(33,.v (.int .i64 ((q:Nat):Int))),(45,.v (.slice ba (q + 1) bd)),(46,.p 2 4)] bu cR fun ff cS=>?_
  refine qal (qao bu cS (oi:=2) (cs:=[.int .i64 n1,.slice A6 s2.length c7,.bool b3,.slice A_ k c_,.slice ba (q + 1) bd]) kz fun fg aX bw cT=>?_)
  refine qae (qar (qab (qap [0,1] kz ?_)))
  refine qai [0,1] [] [(2,.p 1 0),(3,.p 2 0),(31,.v (.slice ap u5.length ar)),(32,.v (.int .i64 ((u5.length:Nat):Int))),(33,.v (.int .i64 (IntKind.i64.wrap (((q:Nat):Int) + 1))))] bw cT fun fh cU=>?_
  refine qae (qab ?_)
  obtain ⟨bx,aY,aZ⟩:=bw.cutB cU 3 [⟨bF,0,(z1 n1 A6 s2.length c7 b3 A8 l4.length c9 ap u5.length ar),true⟩,⟨bG,0,z0,true⟩,⟨bH,0,[.int .i64 n1,.slice A6 s2.length c7,.bool b3,.slice A_ k c_,.slice ba (q + 1) bd],true⟩] [(2,.p 1 0),(3,.p 2 0),(31,.v (.slice ap u5.length ar)),(32,.v (.int .i64 ((u5.length:Nat):Int))),(33,.v (.int .i64 (IntKind.i64.wrap (((q:Nat):Int) + 1))))]
  have cV:IntKind.i64.wrap (((q:Nat):Int) + 1) = ((q + 1:Nat):Int):=qaO (by omega)
  rw [cV] at bx
  exact ⟨u5.length - (q + 1),by omega,q + 1,ba,bd,ys ++ [Value.int .u32 ab,.slice al ac.length am],(dss ++ [[Value.int .u32 ab,.slice al ac.length am]]),rfl,by omega,by rw [qdi bq]; exact (hU.move ((((aU.trans aV).trans aW).trans aX).trans aZ).step immM ((((aU.trans aV).trans aW).trans aX).trans aZ).to').snoc (c:=[.int .u32 ab,.slice al ac.length am]) (x:=(ab,ac)) ⟨⟨_,_,rfl,(cK.move aY.step nilM aY.imm)⟩,du,dv⟩,bx.pk,aY,(((((aQ.trans aU).trans aV).trans aW).trans aX).trans aZ)⟩
 have dS:=zF aS
 refine wp_exit (qau (qau (qaI (qab (qaf [0,1] kz ?_)))))
 refine qai [0] [1] [(2,.p 1 0),(48,.v (.agg #[.int .i64 n1,.slice A6 s2.length c7,.bool b3,.slice A_ k c_,.slice A5_ q c5_]))] ak aR fun fi cW=>?_
 refine qal (qao ak cW (oi:=1) (cs:=(z1 n1 A6 s2.length c7 b3 A_ k c_ A5_ q c5_)) kz fun fj av ao cX=>?_)
 refine qae (qab ?_)
 refine wp_ret (qaM cX ao.cells (v:=.agg #[.int .i64 n1,.slice A6 s2.length c7,.bool b3,.slice A_ k c_,.slice A5_ q c5_]) kz ?_)
 have hq0:q = u5.length:=by omega
 have hT':=(hT.move ((bp.trans aQ).trans av).step immM ((bp.trans aQ).trans av).to')
 have hU':=(hU.move av.step immM av.to')
 rw [show l4.take k = l4 by rw [hk0,List.take_length]] at hT'
 rw [show u5.take q = u5 by rw [hq0,List.take_length]] at hU'
 exact qke ao rfl (dw.move ao.step nilM qk4) hk0 (qhU ao (k:=0) rfl hT' hk0 (by omega)) hq0 (qk3 ao (k:=1) rfl hU' hq0 (by omega)) rfl
theorem lGot:∀ m,qlO m
 | 0=>fun ct t w F ht hd=>by
  obtain ⟨n,s,b,l,u,A1,c1,A2,c2,A3,c3,xs,rfl,_⟩:=ht.open_
  rw [qg2] at hd; omega
 | m + 1=>qjN (lGot m)
theorem qgC {u:List (Int × Bs)} {A:Option Addr} {c:Nat} {w:World} {F:Nat → Nat → Prop} (hu:TagsR w F A c u) (hsrt:qdu u):Calls Tryz.prog 61 #[.slice A u.length c] w (qcs w (.tuple #[])):=by
 obtain ⟨cs1,h2,h3⟩:=hu.ex
 have hsm4:=h2.small
 refine enter (n:=45) Tryz.func61 rfl Tryz.ntmps61 kz fun a hE=>?_
 have hW:=WOk.start w Nil
 refine qas [(0,.v (.slice A u.length c)),(5,.v (.int .i64 ((u.length:Nat):Int))),(6,.v (.int .i64 0))] hW hE fun a5 hE6=>?_
 refine wp_block (wp_loop_ghost (fun n_ a_ w_=>∃ (k:Nat),n_ = u.length - k ∧ k ≤ u.length ∧ LInv hW 45 [] [] [(0,.v (.slice A u.length c)),(5,.v (.int .i64 ((u.length:Nat):Int))),(6,.v (.int .i64 ((k:Nat):Int)))] a_ w_) (u.length) ⟨0,by omega,by omega,hE6.pk,hW,Fr.refl _ _ _⟩ ?_)
 rintro n7 a8 w9 ⟨k,aW,aX,aB,ab,aj⟩
 refine qas [(0,.v (.slice A u.length c)),(5,.v (.int .i64 ((u.length:Nat):Int))),(6,.v (.int .i64 ((k:Nat):Int))),(7,.v (.bool (decide (((k:Nat):Int) < ((u.length:Nat):Int)))))] ab aB fun bn ah=>?_
 refine wp_seq (qaw ah (b:=decide (((k:Nat):Int) < ((u.length:Nat):Int))) kz (fun ai=>?_) (fun ai=>?_))
 ·
  have aY:=of_decide_eq_true ai
  refine wp_skip (qab (wp_seq (wp_block (qas [(0,.v (.slice A u.length c)),(2,.v (.int .i64 ((k:Nat):Int))),(5,.v (.int .i64 ((u.length:Nat):Int))),(6,.v (.int .i64 ((k:Nat):Int)))] ab ah fun bo aC=>?_))))
  refine qas [(0,.v (.slice A u.length c)),(3,.v (.int .i64 ((k:Nat):Int))),(5,.v (.int .i64 ((u.length:Nat):Int))),(6,.v (.int .i64 ((k:Nat):Int)))] ab aC fun bp aD=>?_
  refine wp_block (qea (wp_seq (qcb kz ab fun bq ak aa=>?_)))
  refine qaB [0,1,2] [(0,.v (.slice A u.length c)),(3,.v (.int .i64 ((k:Nat):Int))),(5,.v (.int .i64 ((u.length:Nat):Int))),(6,.v (.int .i64 ((k:Nat):Int))),(12,.v (.bool (decide (((k:Nat):Int) > 0))))] 13 (qaa (qaa (qaa (qac (qac (qaa (qaa (qac qad)))))))) (fun _ h=>h ▸ aa.cells) rfl aD fun bt al=>?_
  refine (Bool.eq_false_or_eq_true (decide (((k:Nat):Int) > 0))).elim (fun ac=>?_) (fun ac=>?_)
  ·
   have aZ:=of_decide_eq_true ac
   have aE:=al
   rw [ac] at aE
   refine qaB [3,4,8,9,10] [(0,.v (.slice A u.length c)),(3,.v (.int .i64 ((k:Nat):Int))),(5,.v (.int .i64 ((u.length:Nat):Int))),(6,.v (.int .i64 ((k:Nat):Int))),(12,.v (.bool true)),(13,.v (.slice A u.length c)),(14,.v (.int .i64 ((k:Nat):Int))),(18,.v (.slice A u.length c)),(20,.v (.int .i64 (IntKind.i64.wrap (((k:Nat):Int) - 1))))] 8 (qaa (qaa (qaa (qac (qac (qaa (qaa (qac qad)))))))) (fun _ h=>h ▸ aa.cells) rfl aE fun bu aF=>?_
   obtain ⟨az,aA,aG,ba,ae⟩:=Slots.get h2 (i:=k) (by omega)
   obtain ⟨⟨af,bd⟩,am⟩:∃ x,u[k]? = some x:=⟨_,List.getElem?_eq_getElem (by omega)⟩
   obtain ⟨⟨bw,bx,ao,bf⟩,bz,bA⟩:=h3 k af bd am
   rw [ao] at ae
   refine qaD aF (i:=5) (t:=35) (A:=A) (m:=u.length) (q:=((k:Nat):Int)) (d:=15) kz (e:=69) (size:=2) (bytes:=32) kz aG rfl (by omega) kz kz (qaa (qaa (qaa (qac (qac (qaa (qaa (qac qad)))))))) rfl fun bB aH=>?_
   refine qaB [6] [(0,.v (.slice A u.length c)),(3,.v (.int .i64 ((k:Nat):Int))),(5,.v (.int .i64 ((u.length:Nat):Int))),(6,.v (.int .i64 ((k:Nat):Int))),(12,.v (.bool true)),(16,.v (.pointer (some ⟨az,aA + k * 2,none⟩))),(18,.v (.slice A u.length c)),(20,.v (.int .i64 (IntKind.i64.wrap (((k:Nat):Int) - 1))))] 6 (qaa (qaa (qaa (qac (qac (qaa (qaa (qac qad)))))))) (fun _ h=>h ▸ aa.cells) rfl aH fun bC aI=>?_
   refine qa0 aI (i:=7) (t:=64) (b:=az) (o:=aA + k * 2) (d:=17) kz (cs:=[.int .u32 af]) (v:=.int .u32 af) kz (fun w' h'=>h' ▸ (At.drop (AtF.move ae aa.step nilM qa9).at_ 0 1)) kz kz (qaa (qaa (qaa (qac (qac (qaa (qaa (qac qad)))))))) rfl fun bD aJ=>?_
   have aK:IntKind.i64.wrap (((k:Nat):Int) - 1) = (((k - 1):Nat):Int):=by simp only [qaV,qaA,qbO,IntKind.wrap_i64,IntKind.wrap_i32]; omega
   have aL:=EnvOk.pick aJ (ks:=[0,3,5,6,12,16,18,20,17]) (env':=[(0,.v (.slice A u.length c)),(3,.v (.int .i64 ((k:Nat):Int))),(5,.v (.int .i64 ((u.length:Nat):Int))),(6,.v (.int .i64 ((k:Nat):Int))),(12,.v (.bool true)),(16,.v (.pointer (some ⟨az,aA + k * 2,none⟩))),(18,.v (.slice A u.length c)),(20,.v (.int .i64 (IntKind.i64.wrap (((k:Nat):Int) - 1)))),(17,.v (.int .u32 af))]) kz
   have aM:=aL
   rw [aK] at aM
   obtain ⟨aU,aV,aN,bg,ag⟩:=Slots.get h2 (i:=(k - 1)) (by omega)
   obtain ⟨⟨ap,bh⟩,ar⟩:∃ x,u[(k - 1)]? = some x:=⟨_,List.getElem?_eq_getElem (by omega)⟩
   obtain ⟨⟨bE,bF,au,bi⟩,bG,bH⟩:=h3 (k - 1) ap bh ar
   rw [au] at ag
   refine qaD aM (i:=11) (t:=35) (A:=A) (m:=u.length) (q:=(((k - 1):Nat):Int)) (d:=21) kz (e:=69) (size:=2) (bytes:=32) kz aN rfl (by omega) kz kz (qaa (qaa (qaa (qac (qac (qaa (qaa (qac qad)))))))) rfl fun bI aO=>?_
   refine qaB [12] [(0,.v (.slice A u.length c)),(3,.v (.int .i64 ((k:Nat):Int))),(5,.v (.int .i64 ((u.length:Nat):Int))),(6,.v (.int .i64 ((k:Nat):Int))),(12,.v (.bool true)),(17,.v (.int .u32 af)),(22,.v (.pointer (some ⟨aU,aV + (k - 1) * 2,none⟩)))] 3 (qaa (qaa (qaa (qac (qac (qaa (qaa (qac qad)))))))) (fun _ h=>h ▸ aa.cells) rfl aO fun bJ aP=>?_
   refine qa0 aP (i:=13) (t:=64) (b:=aU) (o:=aV + (k - 1) * 2) (d:=23) kz (cs:=[.int .u32 ap]) (v:=.int .u32 ap) kz (fun w' h'=>h' ▸ (At.drop (AtF.move ag aa.step nilM qa9).at_ 0 1)) kz kz (qaa (qaa (qaa (qac (qac (qaa (qaa (qac qad)))))))) rfl fun bK aQ=>?_
   refine qaB [14,15] [(0,.v (.slice A u.length c)),(3,.v (.int .i64 ((k:Nat):Int))),(5,.v (.int .i64 ((u.length:Nat):Int))),(6,.v (.int .i64 ((k:Nat):Int))),(25,.v (.bool (decide (af < ap))))] 0 (qaa (qaa (qaa (qac (qac (qaa (qaa (qac qad)))))))) (fun _ h=>h ▸ aa.cells) rfl aQ fun bL av=>?_
   refine qaz kz ?_ _
   refine qab (qan av (b:=decide (af < ap)) kz (decide_eq_false (qiF hsrt am ar (by omega))) ?_)
   refine wp_exit (qau (qau (qaI (qar (qab (qap [0,1] kz ?_))))))
   refine qai [0,1] [] [(0,.v (.slice A u.length c)),(5,.v (.int .i64 ((u.length:Nat):Int))),(6,.v (.int .i64 (IntKind.i64.wrap (((k:Nat):Int) + 1))))] aa av fun bM aw=>?_
   refine qae (qab ?_)
   have aR:IntKind.i64.wrap (((k:Nat):Int) + 1) = ((k + 1:Nat):Int):=qaO (by omega)
   rw [aR] at aw
   exact ⟨u.length - (k + 1),by omega,k + 1,rfl,by omega,aw.pk,aa,(aj.trans ak)⟩
  have bj:=of_decide_eq_false ac
  have aS:=al
  rw [ac] at aS
  refine qaB [3,4,5,6,7,8,9,10,11,12,13,14,15] [(0,.v (.slice A u.length c)),(3,.v (.int .i64 ((k:Nat):Int))),(5,.v (.int .i64 ((u.length:Nat):Int))),(6,.v (.int .i64 ((k:Nat):Int))),(25,.v (.bool false))] 0 (qaa (qaa (qaa (qac (qac (qaa (qaa (qac qad)))))))) (fun _ h=>h ▸ aa.cells) rfl aS fun bN ax=>?_
  refine qaz kz ?_ _
  refine qab (qan ax (b:=false) kz rfl ?_)
  refine wp_exit (qau (qau (qaI (qar (qab (qap [0,1] kz ?_))))))
  refine qai [0,1] [] [(0,.v (.slice A u.length c)),(5,.v (.int .i64 ((u.length:Nat):Int))),(6,.v (.int .i64 (IntKind.i64.wrap (((k:Nat):Int) + 1))))] aa ax fun bO ay=>?_
  refine qae (qab ?_)
  have aT:IntKind.i64.wrap (((k:Nat):Int) + 1) = ((k + 1:Nat):Int):=qaO (by omega)
  rw [aT] at ay
  exact ⟨u.length - (k + 1),by omega,k + 1,rfl,by omega,ay.pk,aa,(aj.trans ak)⟩
 have bk:=of_decide_eq_false ai
 refine wp_exit (qau (qau (qaI (qbW ah ab.cells (v:=.tuple #[]) kz ?_))))
 exact ⟨rfl,ab.step⟩
theorem qiH (w:World) (F:Nat → Nat → Prop):Calls Tryz.prog 101 #[.bool true] w (qdK w F (.mk 1 [] false [] [])):=by
 refine enter (n:=6) Tryz.func101 rfl Tryz.ntmps101 kz fun a hE=>?_
 have hW:=WOk.start w Nil
 refine qaf [0] kz ?_
 refine qal (qaQ hW hE (d:=2) (cs:=z0) kz fun b1 a2 w3 hb4 hz5 hF6 hW7 hE8=>?_)
 refine qae (qab ?_)
 refine wp_seq (qas [(2,.p 0 0),(3,.v (.bool true))] hW7 hE8 fun a9 aa=>?_)
 refine qa7 aa (b:=true) kz rfl ?_
 refine qaf [0,1] kz ?_
 refine qai [0] [1] [(2,.p 0 0),(4,.v (.agg #[.int .i64 1,.slice none 0 0,.bool false,.slice none 0 0,.slice none 0 0]))] hW7 aa fun ah ac=>?_
 refine qal (qao hW7 ac (oi:=0) (cs:=[.int .i64 1,.slice none 0 0,.bool false,.slice none 0 0,.slice none 0 0]) kz fun af ag ab ae=>?_)
 refine qae (qab ?_)
 refine wp_ret (qat (qaM ae ab.cells (v:=.agg #[.int .i64 1,.slice none 0 0,.bool false,.slice none 0 0,.slice none 0 0]) kz ?_))
 exact ⟨_,rfl,(show TreeR _ (Imm F w af [⟨b1,0,[.int .i64 1,.slice none 0 0,.bool false,.slice none 0 0,.slice none 0 0],true⟩] []) _ (Tree.mk 1 [] false [] []) from (TreeR.mk (n:=1) (b:=false) (s:=[]) (l:=[]) (u:=[]) (fun _=>[]) (Octs.nil _ _) (Slots.nil _ _ _ _) (fun i_ x_ h_=>by simp at h_) (TagsR.nil _ _))).move (Step.refl _ Nil) nilM qca,ab.step⟩
theorem qhK (w:World) (F:Nat → Nat → Prop):Calls Tryz.prog 101 #[.bool false] w (qdK w F (.mk 0 [] false [] [])):=by
 refine enter (n:=6) Tryz.func101 rfl Tryz.ntmps101 kz fun a hE=>?_
 have hW:=WOk.start w Nil
 refine qaf [0] kz ?_
 refine qal (qaQ hW hE (d:=2) (cs:=z0) kz fun b1 a2 w3 hb4 hz5 hF6 hW7 hE8=>?_)
 refine qae (qab ?_)
 refine wp_seq (qas [(2,.p 0 0),(3,.v (.bool false))] hW7 hE8 fun a9 aa=>?_)
 refine qan aa (b:=false) kz rfl ?_
 refine wp_skip (qab (qaf [0,1] kz ?_))
 refine qai [0] [1] [(2,.p 0 0),(5,.v (.agg #[.int .i64 0,.slice none 0 0,.bool false,.slice none 0 0,.slice none 0 0]))] hW7 aa fun ah ac=>?_
 refine qal (qao hW7 ac (oi:=0) (cs:=z0) kz fun af ag ab ae=>?_)
 refine qae (qab ?_)
 refine wp_ret (qaM ae ab.cells (v:=.agg #[.int .i64 0,.slice none 0 0,.bool false,.slice none 0 0,.slice none 0 0]) kz ?_)
 exact ⟨_,rfl,(show TreeR _ (Imm F w af [⟨b1,0,[.int .i64 0,.slice none 0 0,.bool false,.slice none 0 0,.slice none 0 0],true⟩] []) _ (Tree.mk 0 [] false [] []) from (TreeR.mk (n:=0) (b:=false) (s:=[]) (l:=[]) (u:=[]) (fun _=>[]) (Octs.nil _ _) (Slots.nil _ _ _ _) (fun i_ x_ h_=>by simp at h_) (TagsR.nil _ _))).move (Step.refl _ Nil) nilM qca,ab.step⟩
theorem ql7 (b:Bool) (w:World) (F:Nat → Nat → Prop):Calls Tryz.prog 101 #[.bool b] w (qdK w F (qko b)):=by
 cases b
 ·exact qhK w F
 exact qiH w F
abbrev z83 (x0) (x1) (x2) (x3) (x4) (x5) (x6):=([(2,.p 0 0),(6,.v (.slice x0 x1 x2)),(7,.v (.int .u32 x3)),(8,.v (.slice x4 x5 x6))]:Env)
abbrev z84 (x0) (x1) (x2) (x3) (x4) (x5) (x6):=([(2,.p 0 0),(6,.v (.slice x0 x1 x2)),(10,.v (.agg #[.int .u32 x3,.slice x4 x5 x6]))]:Env)
abbrev z96 (x0) (x1) (x2) (x3):=([(0,.v (.int .u32 x0)),(1,.v (.slice x1 x2 x3)),(2,.p 0 0)]:Env)
theorem qcW:qfP Tryz.prog 60 69:=by
 intro w B cp c n k A Av x x0 x1 x2 x3 xs G hbx ho hG hn
 refine enter (n:=14) Tryz.func60 rfl Tryz.ntmps60 kz fun a hE=>?_
 have hW:=hbx.wok
 have hE0:=(hE.grow ⟨B,0,[x0,x1,x2,x3,.slice A n cp],true⟩).recast 2 (.v (.pointer (some ⟨B,0,none⟩))) (.p 0 0) rfl rfl (by simp [SV.ok])
 have hsm:=Slots.small ho
 have ap:=hE0.pk (env':=(z96 k Av x.length c))
 refine qcu 9 kz hW fun w1 hF2 hW3 hT4=>?_
 refine qaB [0,1,2,3] (z83 A n cp k Av x.length c) 6 qad (fun _ h=>h.cells) hT4 ap fun a5 hE6=>?_
 have hW7:=hW3.addNil 5 1
 have hF8:=hW3.frNil 5 1
 refine qam (i:=4) kz (qaR hW7 hE6 (k:=1) (d:=9) (t:=22) (e:=5) (size:=1) (bytes:=1) (A:=none) (As:=Av) (m0:=0) (c:=0) (m:=x.length) (cs:=c) (xs:=[]) (news:=bc x) kz kz rfl (ho.move hW7.step (fun b o h _=>hG b o h) qa9).src (ho.move hW7.step (fun b o h _=>hG b o h) qa9).cap (by first | omega | (simp only [List.length_nil]; omega) | (simp; omega)) fun A9 aa aK aL ac ar au=>?_)
 have av:(⟨A9,aa,5,1,0 + x.length,[] ++ bc x⟩:Rw) = brow A9 aa 5 x:=by rw [List.nil_append,Nat.zero_add]
 obtain ⟨af,ae⟩:=ar.rowEq 1 [⟨A,cp,69,2,n,xs⟩,brow A9 aa 5 x] av
 have aw:=EnvOk.pick au (ks:=[2,6,7,8,9]) (env':=[(2,.p 0 0),(6,.v (.slice A n cp)),(7,.v (.int .u32 k)),(8,.v (.slice Av x.length c)),(9,.v (.slice A9 (0 + x.length) aa))]) kz
 have ax:=aw.cast (env':=[(2,.p 0 0),(6,.v (.slice A n cp)),(7,.v (.int .u32 k)),(8,.v (.slice Av x.length c)),(9,.v (.slice A9 x.length aa))]) (by simp only [List.length_append,List.length_cons,List.length_nil,Nat.zero_add])
 have ag:=TT.ofW ((hF8.trans ac).trans ae) af
 refine ⟨fun _=>ag,?_⟩
 refine qaB [5] (z84 A n cp k A9 x.length aa) 4 qad (fun _ h=>h.cells) ag ax fun aM ay=>?_
 refine qam (i:=6) kz (qbu af ay (e:=69) (size:=2) (len:=1) (cs:=(z42 k A9 x.length aa)) (d:=11) kz kz fun aF aN aO aG aH ah ab az=>?_)
 have aA:=TT.ofW (((hF8.trans ac).trans ae).trans ah) ab
 refine ⟨fun _=>aA,?_⟩
 refine qam (i:=7) kz (qaR ab az (k:=0) (d:=12) (t:=35) (e:=69) (size:=2) (bytes:=32) (A:=A) (As:=(some ⟨aF,0,none⟩)) (m0:=n) (c:=cp) (m:=1) (cs:=1) (xs:=xs) (news:=[.int .u32 k,.slice A9 x.length aa]) kz kz rfl (qby (ab.own 2 _ rfl) (qbw kz)) (qbE (ab.own 2 _ rfl)) (by first | omega | (simp only [List.length_nil]; omega) | (simp; omega)) fun am ao aP aQ aB ai aC=>?_)
 have aj:=TT.ofW ((((hF8.trans ac).trans ae).trans ah).trans aB) ai
 refine ⟨fun _=>aj,?_⟩
 refine qaB [8] [(12,.v (.slice am (n + 1) ao)),(13,.p 0 4)] 1 qad (fun _ h=>h.cells) aj aC fun aR aD=>?_
 refine qam (i:=9) kz (qao ai aD (oi:=0) (cs:=[x0,x1,x2,x3,.slice am (n + 1) ao]) kz fun aS aI ak aE=>?_)
 refine ⟨fun h=>absurd rfl h,?_⟩
 refine qaz kz ?_ _
 refine qbW aE ak.cells (v:=.tuple #[]) kz ?_
 obtain ⟨al,aJ⟩:=ak.cutR 2 [⟨am,ao,69,2,n + 1,xs ++ (z42 k A9 x.length aa)⟩,brow A9 aa 5 x]
 have hoo:=qeO (s:=x) (Av:=A9) (c:=aa) (e8:=5) rfl al (by omega)
 obtain ⟨hb1,hb2,hb3⟩:=qgB al (World.lt_of_cell (hbx.str.at_ 0 _ rfl))
 exact ⟨rfl,am,ao,A9,aa,hb1,hoo,hb2,hb3⟩
theorem qcF:qfP Tryz.prog 100 69:=by
 intro w B cp c n k A Av x x0 x1 x2 x3 xs G hbx ho hG hn
 refine enter (n:=14) Tryz.func100 rfl Tryz.ntmps100 kz fun a hE=>?_
 have hW:=hbx.wok
 have hE0:=(hE.grow ⟨B,0,[x0,x1,x2,x3,.slice A n cp],true⟩).recast 2 (.v (.pointer (some ⟨B,0,none⟩))) (.p 0 0) rfl rfl (by simp [SV.ok])
 have hsm:=Slots.small ho
 have ap:=hE0.pk (env':=(z96 k Av x.length c))
 refine qcu 9 kz hW fun w1 hF2 hW3 hT4=>?_
 refine qaB [0,1,2,3] (z83 A n cp k Av x.length c) 6 qad (fun _ h=>h.cells) hT4 ap fun a5 hE6=>?_
 have hW7:=hW3.addNil 5 1
 have hF8:=hW3.frNil 5 1
 refine qam (i:=4) kz (qaR hW7 hE6 (k:=1) (d:=9) (t:=22) (e:=5) (size:=1) (bytes:=1) (A:=none) (As:=Av) (m0:=0) (c:=0) (m:=x.length) (cs:=c) (xs:=[]) (news:=bc x) kz kz rfl (ho.move hW7.step (fun b o h _=>hG b o h) qa9).src (ho.move hW7.step (fun b o h _=>hG b o h) qa9).cap (by first | omega | (simp only [List.length_nil]; omega) | (simp; omega)) fun A9 aa aK aL ac ar au=>?_)
 have av:(⟨A9,aa,5,1,0 + x.length,[] ++ bc x⟩:Rw) = brow A9 aa 5 x:=by rw [List.nil_append,Nat.zero_add]
 obtain ⟨af,ae⟩:=ar.rowEq 1 [⟨A,cp,69,2,n,xs⟩,brow A9 aa 5 x] av
 have aw:=EnvOk.pick au (ks:=[2,6,7,8,9]) (env':=[(2,.p 0 0),(6,.v (.slice A n cp)),(7,.v (.int .u32 k)),(8,.v (.slice Av x.length c)),(9,.v (.slice A9 (0 + x.length) aa))]) kz
 have ax:=aw.cast (env':=[(2,.p 0 0),(6,.v (.slice A n cp)),(7,.v (.int .u32 k)),(8,.v (.slice Av x.length c)),(9,.v (.slice A9 x.length aa))]) (by simp only [List.length_append,List.length_cons,List.length_nil,Nat.zero_add])
 have ag:=TT.ofW ((hF8.trans ac).trans ae) af
 refine ⟨fun _=>ag,?_⟩
 refine qaB [5] (z84 A n cp k A9 x.length aa) 4 qad (fun _ h=>h.cells) ag ax fun aM ay=>?_
 refine qam (i:=6) kz (qbu af ay (e:=69) (size:=2) (len:=1) (cs:=(z42 k A9 x.length aa)) (d:=11) kz kz fun aF aN aO aG aH ah ab az=>?_)
 have aA:=TT.ofW (((hF8.trans ac).trans ae).trans ah) ab
 refine ⟨fun _=>aA,?_⟩
 refine qam (i:=7) kz (qaR ab az (k:=0) (d:=12) (t:=35) (e:=69) (size:=2) (bytes:=32) (A:=A) (As:=(some ⟨aF,0,none⟩)) (m0:=n) (c:=cp) (m:=1) (cs:=1) (xs:=xs) (news:=[.int .u32 k,.slice A9 x.length aa]) kz kz rfl (qby (ab.own 2 _ rfl) (qbw kz)) (qbE (ab.own 2 _ rfl)) (by first | omega | (simp only [List.length_nil]; omega) | (simp; omega)) fun am ao aP aQ aB ai aC=>?_)
 have aj:=TT.ofW ((((hF8.trans ac).trans ae).trans ah).trans aB) ai
 refine ⟨fun _=>aj,?_⟩
 refine qaB [8] [(12,.v (.slice am (n + 1) ao)),(13,.p 0 4)] 1 qad (fun _ h=>h.cells) aj aC fun aR aD=>?_
 refine qam (i:=9) kz (qao ai aD (oi:=0) (cs:=[x0,x1,x2,x3,.slice am (n + 1) ao]) kz fun aS aI ak aE=>?_)
 refine ⟨fun h=>absurd rfl h,?_⟩
 refine qaz kz ?_ _
 refine qbW aE ak.cells (v:=.tuple #[]) kz ?_
 obtain ⟨al,aJ⟩:=ak.cutR 2 [⟨am,ao,69,2,n + 1,xs ++ (z42 k A9 x.length aa)⟩,brow A9 aa 5 x]
 have hoo:=qeO (s:=x) (Av:=A9) (c:=aa) (e8:=5) rfl al (by omega)
 obtain ⟨hb1,hb2,hb3⟩:=qgB al (World.lt_of_cell (hbx.str.at_ 0 _ rfl))
 exact ⟨rfl,am,ao,A9,aa,hb1,hoo,hb2,hb3⟩
theorem qco:qfP Tryz.prog 103 69:=by
 intro w B cp c n k A Av x x0 x1 x2 x3 xs G hbx ho hG hn
 refine enter (n:=14) Tryz.func103 rfl Tryz.ntmps103 kz fun a hE=>?_
 have hW:=hbx.wok
 have hE0:=(hE.grow ⟨B,0,[x0,x1,x2,x3,.slice A n cp],true⟩).recast 2 (.v (.pointer (some ⟨B,0,none⟩))) (.p 0 0) rfl rfl (by simp [SV.ok])
 have hsm:=Slots.small ho
 have ap:=hE0.pk (env':=(z96 k Av x.length c))
 refine qcu 9 kz hW fun w1 hF2 hW3 hT4=>?_
 refine qaB [0,1,2,3] (z83 A n cp k Av x.length c) 6 qad (fun _ h=>h.cells) hT4 ap fun a5 hE6=>?_
 have hW7:=hW3.addNil 5 1
 have hF8:=hW3.frNil 5 1
 refine qam (i:=4) kz (qaR hW7 hE6 (k:=1) (d:=9) (t:=22) (e:=5) (size:=1) (bytes:=1) (A:=none) (As:=Av) (m0:=0) (c:=0) (m:=x.length) (cs:=c) (xs:=[]) (news:=bc x) kz kz rfl (ho.move hW7.step (fun b o h _=>hG b o h) qa9).src (ho.move hW7.step (fun b o h _=>hG b o h) qa9).cap (by first | omega | (simp only [List.length_nil]; omega) | (simp; omega)) fun A9 aa aK aL ac ar au=>?_)
 have av:(⟨A9,aa,5,1,0 + x.length,[] ++ bc x⟩:Rw) = brow A9 aa 5 x:=by rw [List.nil_append,Nat.zero_add]
 obtain ⟨af,ae⟩:=ar.rowEq 1 [⟨A,cp,69,2,n,xs⟩,brow A9 aa 5 x] av
 have aw:=EnvOk.pick au (ks:=[2,6,7,8,9]) (env':=[(2,.p 0 0),(6,.v (.slice A n cp)),(7,.v (.int .u32 k)),(8,.v (.slice Av x.length c)),(9,.v (.slice A9 (0 + x.length) aa))]) kz
 have ax:=aw.cast (env':=[(2,.p 0 0),(6,.v (.slice A n cp)),(7,.v (.int .u32 k)),(8,.v (.slice Av x.length c)),(9,.v (.slice A9 x.length aa))]) (by simp only [List.length_append,List.length_cons,List.length_nil,Nat.zero_add])
 have ag:=TT.ofW ((hF8.trans ac).trans ae) af
 refine ⟨fun _=>ag,?_⟩
 refine qaB [5] (z84 A n cp k A9 x.length aa) 4 qad (fun _ h=>h.cells) ag ax fun aM ay=>?_
 refine qam (i:=6) kz (qbu af ay (e:=69) (size:=2) (len:=1) (cs:=(z42 k A9 x.length aa)) (d:=11) kz kz fun aF aN aO aG aH ah ab az=>?_)
 have aA:=TT.ofW (((hF8.trans ac).trans ae).trans ah) ab
 refine ⟨fun _=>aA,?_⟩
 refine qam (i:=7) kz (qaR ab az (k:=0) (d:=12) (t:=35) (e:=69) (size:=2) (bytes:=32) (A:=A) (As:=(some ⟨aF,0,none⟩)) (m0:=n) (c:=cp) (m:=1) (cs:=1) (xs:=xs) (news:=[.int .u32 k,.slice A9 x.length aa]) kz kz rfl (qby (ab.own 2 _ rfl) (qbw kz)) (qbE (ab.own 2 _ rfl)) (by first | omega | (simp only [List.length_nil]; omega) | (simp; omega)) fun am ao aP aQ aB ai aC=>?_)
 have aj:=TT.ofW ((((hF8.trans ac).trans ae).trans ah).trans aB) ai
 refine ⟨fun _=>aj,?_⟩
 refine qaB [8] [(12,.v (.slice am (n + 1) ao)),(13,.p 0 4)] 1 qad (fun _ h=>h.cells) aj aC fun aR aD=>?_
 refine qam (i:=9) kz (qao ai aD (oi:=0) (cs:=[x0,x1,x2,x3,.slice am (n + 1) ao]) kz fun aS aI ak aE=>?_)
 refine ⟨fun h=>absurd rfl h,?_⟩
 refine qaz kz ?_ _
 refine qbW aE ak.cells (v:=.tuple #[]) kz ?_
 obtain ⟨al,aJ⟩:=ak.cutR 2 [⟨am,ao,69,2,n + 1,xs ++ (z42 k A9 x.length aa)⟩,brow A9 aa 5 x]
 have hoo:=qeO (s:=x) (Av:=A9) (c:=aa) (e8:=5) rfl al (by omega)
 obtain ⟨hb1,hb2,hb3⟩:=qgB al (World.lt_of_cell (hbx.str.at_ 0 _ rfl))
 exact ⟨rfl,am,ao,A9,aa,hb1,hoo,hb2,hb3⟩
theorem qb8:qfP Tryz.prog 137 69:=by
 intro w B cp c n k A Av x x0 x1 x2 x3 xs G hbx ho hG hn
 refine enter (n:=14) Tryz.func137 rfl Tryz.ntmps137 kz fun a hE=>?_
 have hW:=hbx.wok
 have hE0:=(hE.grow ⟨B,0,[x0,x1,x2,x3,.slice A n cp],true⟩).recast 2 (.v (.pointer (some ⟨B,0,none⟩))) (.p 0 0) rfl rfl (by simp [SV.ok])
 have hsm:=Slots.small ho
 have ap:=hE0.pk (env':=(z96 k Av x.length c))
 refine qcu 9 kz hW fun w1 hF2 hW3 hT4=>?_
 refine qaB [0,1,2,3] (z83 A n cp k Av x.length c) 6 qad (fun _ h=>h.cells) hT4 ap fun a5 hE6=>?_
 have hW7:=hW3.addNil 5 1
 have hF8:=hW3.frNil 5 1
 refine qam (i:=4) kz (qaR hW7 hE6 (k:=1) (d:=9) (t:=22) (e:=5) (size:=1) (bytes:=1) (A:=none) (As:=Av) (m0:=0) (c:=0) (m:=x.length) (cs:=c) (xs:=[]) (news:=bc x) kz kz rfl (ho.move hW7.step (fun b o h _=>hG b o h) qa9).src (ho.move hW7.step (fun b o h _=>hG b o h) qa9).cap (by first | omega | (simp only [List.length_nil]; omega) | (simp; omega)) fun A9 aa aK aL ac ar au=>?_)
 have av:(⟨A9,aa,5,1,0 + x.length,[] ++ bc x⟩:Rw) = brow A9 aa 5 x:=by rw [List.nil_append,Nat.zero_add]
 obtain ⟨af,ae⟩:=ar.rowEq 1 [⟨A,cp,69,2,n,xs⟩,brow A9 aa 5 x] av
 have aw:=EnvOk.pick au (ks:=[2,6,7,8,9]) (env':=[(2,.p 0 0),(6,.v (.slice A n cp)),(7,.v (.int .u32 k)),(8,.v (.slice Av x.length c)),(9,.v (.slice A9 (0 + x.length) aa))]) kz
 have ax:=aw.cast (env':=[(2,.p 0 0),(6,.v (.slice A n cp)),(7,.v (.int .u32 k)),(8,.v (.slice Av x.length c)),(9,.v (.slice A9 x.length aa))]) (by simp only [List.length_append,List.length_cons,List.length_nil,Nat.zero_add])
 have ag:=TT.ofW ((hF8.trans ac).trans ae) af
 refine ⟨fun _=>ag,?_⟩
 refine qaB [5] (z84 A n cp k A9 x.length aa) 4 qad (fun _ h=>h.cells) ag ax fun aM ay=>?_
 refine qam (i:=6) kz (qbu af ay (e:=69) (size:=2) (len:=1) (cs:=(z42 k A9 x.length aa)) (d:=11) kz kz fun aF aN aO aG aH ah ab az=>?_)
 have aA:=TT.ofW (((hF8.trans ac).trans ae).trans ah) ab
 refine ⟨fun _=>aA,?_⟩
 refine qam (i:=7) kz (qaR ab az (k:=0) (d:=12) (t:=35) (e:=69) (size:=2) (bytes:=32) (A:=A) (As:=(some ⟨aF,0,none⟩)) (m0:=n) (c:=cp) (m:=1) (cs:=1) (xs:=xs) (news:=[.int .u32 k,.slice A9 x.length aa]) kz kz rfl (qby (ab.own 2 _ rfl) (qbw kz)) (qbE (ab.own 2 _ rfl)) (by first | omega | (simp only [List.length_nil]; omega) | (simp; omega)) fun am ao aP aQ aB ai aC=>?_)
 have aj:=TT.ofW ((((hF8.trans ac).trans ae).trans ah).trans aB) ai
 refine ⟨fun _=>aj,?_⟩
 refine qaB [8] [(12,.v (.slice am (n + 1) ao)),(13,.p 0 4)] 1 qad (fun _ h=>h.cells) aj aC fun aR aD=>?_
 refine qam (i:=9) kz (qao ai aD (oi:=0) (cs:=[x0,x1,x2,x3,.slice am (n + 1) ao]) kz fun aS aI ak aE=>?_)
 refine ⟨fun h=>absurd rfl h,?_⟩
 refine qaz kz ?_ _
 refine qbW aE ak.cells (v:=.tuple #[]) kz ?_
 obtain ⟨al,aJ⟩:=ak.cutR 2 [⟨am,ao,69,2,n + 1,xs ++ (z42 k A9 x.length aa)⟩,brow A9 aa 5 x]
 have hoo:=qeO (s:=x) (Av:=A9) (c:=aa) (e8:=5) rfl al (by omega)
 obtain ⟨hb1,hb2,hb3⟩:=qgB al (World.lt_of_cell (hbx.str.at_ 0 _ rfl))
 exact ⟨rfl,am,ao,A9,aa,hb1,hoo,hb2,hb3⟩
end Go.Proofs.YtdlaobdadlmcdaaGreatDoor.ME