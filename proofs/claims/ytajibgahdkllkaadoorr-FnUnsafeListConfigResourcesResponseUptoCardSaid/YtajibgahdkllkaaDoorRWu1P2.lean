/- The texts of a claim, put together: the engine, the contracts, the law. Own work. -/
import Derived.Test.YtajibgahdkllkaaDoorRWu1P1
import Derived.Lib.ConvBytes
import Derived.Test.YtajibgahdkllkaaDoorRProg
import Derived.Deep.LoopGhost
namespace Go.Proofs.YtajibgahdkllkaaDoorR.ME
open Go
open Go.RowKit
open Go.ChangeMaps (setBlock)
set_option linter.unusedVariables false
set_option linter.unusedSimpArgs false
set_option maxRecDepth 20000
abbrev cloV (fc:Nat) (cap:Value):Value:=.func (.func fc) #[] #[cap]
theorem qhC {fc:Nat} {cap:Value} {m:Option Nat} {u:List (Int × Bs)} {b o:Nat} {w:World} {F M:Nat → Nat → Prop} (hcf:∀ args w,(callFunc fc args).run Tryd.prog w = .ok (.enter fc args) w) (I:World → Nat → World → Prop) (hat:AtF w F b o [.map m]) (hm:MapR w F m u) (hMF:∀ b o,F b o → ¬ M b o) (hMlt:∀ b o,M b o → b < w.heap.size)
  (hI0:∀ w7,Step w w7 Nil → I w7 0 w7) (hIs:∀ w7 j w8,I w7 j w8 → Step w7 w8 M)
  (hI1:∀ w7,Step w w7 Nil → ∀ j k x w8 Ax cx,I w7 j w8 → u[j]? = some (k,x) → (0 ≤ k ∧ k < 4294967296) → Octs w8 (fun b o=>F b o ∧ b < w7.heap.size) Ax cx x → Calls Tryd.prog fc [.int .u32 k,.slice Ax x.length cx,cap].toArray w8 (fun e w9=>e = .returned (.tuple #[]) ∧ I w7 (j + 1) w9)) (hul:u.length ≤ 1000000) :
  Calls Tryd.prog 61 [.pointer (some ⟨b,o,none⟩),cloV fc cap].toArray w (fun e w'=>e = .returned (.tuple #[]) ∧ ∃ w7,Step w w7 Nil ∧ I w7 u.length w'):=by
 refine enter (n:=53) Tryd.func61 rfl Tryd.ntmps61 kz fun a hE=>?_
 have hW:WOk w Nil w [⟨b,o,[.map m],false⟩] []:=(WOk.start w Nil).start1 hat rfl rfl
 refine wp_seq (wp_seq ?_)
 refine qaC [0,1,2,3,4,5] kz ?_
 refine qbm [0,1,2,3] [4,5] [0,1,11] hW (EnvOk.ptr0 (cs:=[.map m]) (r:=false) hE) (env':=[(0,.p 0 0),(1,.v (cloV fc cap)),(11,.v (.map m))]) kz rfl fun a1 hE1=>?_
 refine qal (qei (t:=89) (kt:=62) (et:=22) hE1 (m:=m) (d:=12) kz kz hm fun a2 hE2=>?_)
 refine qbm [5] [] [0,1,13] hW hE2 (env':=[(0,.p 0 0),(1,.v (cloV fc cap)),(13,.v (.bool (((u.length:Nat):Int) == 0)))]) kz rfl fun a3 hE3=>qag (qab ?_)
 refine qbd hE3 (b:=((u.length:Nat):Int) == 0) kz (fun hb=>?_) (fun hb=>?_)
 ·-- none
  have hu:u = []:=List.eq_nil_of_length_eq_zero (by have:=eq_of_beq hb; omega)
  subst hu
  refine wp_ret (qa2 ?_)
  exact qaZ hE3 hW.cells (v:=.tuple #[]) kz ⟨rfl,w,Step.refl _ _,hI0 w (Step.refl _ _)⟩
 have hu0:0 < u.length:=by have:=ne_of_beq_false hb; omega
 cases m with
 | none=>rw [hm.none_ rfl] at hu0; cases hu0
 | some mb =>
 obtain ⟨hFm,es,clk,hes,hperm,hborn,hnod,hcont⟩:=hm.some_ mb rfl
 have hmlt:mb < w.heap.size:=(Array.getElem?_eq_some_iff.1 hes).1
 have hesz:es.size = u.length:=MapR.size (w:=w) (F:=F) hperm
 refine wp_skip (qab ?_)
 refine qae [0,1,2,3,4,5,6,7] kz ?_
 refine qbm [0,1,2,3] [4,5,6,7] [0,1,17] hW hE3 (env':=[(0,.p 0 0),(1,.v (cloV fc cap)),(17,.v (.map (some mb)))]) kz rfl fun a4 hE4=>?_
 refine qal (qei (t:=89) (kt:=62) (et:=22) hE4 (m:=some mb) (d:=18) kz kz hm fun a5 hE5=>?_)
 refine qal (qe9 (e:=62) (size:=1) (bytes:=4) (j:=u.length) (t:=130) (d:=19) hW hE5 (p:=0) (q:=((u.length:Nat):Int)) kz kz rfl rfl (by omega) fun kr a6 w1 hkr hkr0 hF1 hW1 hE6=>?_)
 refine qal (qaO hW1 hE6 (d:=4) (cs:=[.slice none 0 0]) kz fun kb a7 w2 hkb hkb0 hF2 hW2 hE7=>?_)
 refine qal (qaq hW2 hE7 (oi:=1) (cs:=[.slice (some ⟨kr,0,none⟩) 0 u.length]) kz fun w3 hF3 hW3 hE8=>qag (qab ?_))
 refine wp_seq (qae [0,1,2,3,4] kz ?_)
 refine qbm [0,1,2,3] [4] [0,1,4,23] hW3 hE8 (env':=[(0,.p 0 0),(1,.v (cloV fc cap)),(4,.p 1 0),(23,.v (.map (some mb)))]) kz rfl fun a8 hE9=>?_
 have hes3:=hW3.step.heap (fun o h=>h) hes
 refine qal (qfb (t:=89) (kt:=62) (et:=22) (d:=24) (r:=mb) hE9 kz kz hes3 fun a9 hE10=>qag (qab ?_))
 have hW4:=hW3.next_nil (Step.alloc w3 (.mapIter (some mb) clk #[] clk))
 have hr4:(w3.alloc (.mapIter (some mb) clk #[] clk)).heap[w3.heap.size]? = some (.mapIter (some mb) clk #[] clk):=qcI _ _
 have hE11:=hE10.pick (ks:=[0,1,4,24]) (env':=[(0,.p 0 0),(1,.v (cloV fc cap)),(4,.p 1 0),(24,.v (.pointer (some ⟨w3.heap.size,0,none⟩)))]) kz
 have hrlt:w3.heap.size < (w3.alloc (.mapIter (some mb) clk #[] clk)).heap.size:=by rw [qdc]; omega
 have hr0:w.heap.size ≤ w3.heap.size:=hW3.step.size
 have hkbr:kb ≠ w3.heap.size:=by have:=hW3.live 1 _ rfl; show ¬ _; intro e; rw [← e] at this; exact absurd this (Nat.lt_irrefl _)
 have hkrr:kr ≠ w3.heap.size:=by have:=qbC (hW3.own 0 _ rfl) (g:=kr) rfl; omega
 generalize hR:w3.heap.size = R at hr4 hE11 hrlt hkbr hkrr
 generalize hw4:w3.alloc (.mapIter (some mb) clk #[] clk) = w4 at hW4 hr4 hrlt
 refine wp_block ?_
 refine wp_loop_ghost (fun q a_ w_=>∃ (vis:List MapEntry) (seen:Array Nat) (K:Option Addr) (kc c0:Nat),q = (leftOf es seen).size ∧ Vis es.toList vis seen ∧ vis.length + (leftOf es seen).size ≤ es.size ∧
   EnvOk 53 [⟨b,o,[.map (some mb)],false⟩,⟨kb,0,[.slice K vis.length kc],true⟩] [(0,.p 0 0),(1,.v (cloV fc cap)),(4,.p 1 0),(24,.v (.pointer (some ⟨R,0,none⟩)))] a_ ∧
   WOk w Nil w_ [⟨b,o,[.map (some mb)],false⟩,⟨kb,0,[.slice K vis.length kc],true⟩] [⟨K,kc,62,1,vis.length,(vis.map fun e=>kOf e.key).map (Value.int .u32)⟩] ∧
   w_.heap[R]? = some (.mapIter (some mb) clk seen c0) ∧ clk ≤ c0 ∧ K.map (·.block) ≠ some R) (leftOf es #[]).size
  ⟨[],#[],some ⟨kr,0,none⟩,u.length,clk,rfl,Vis.nil _,by rw [List.length_nil,Nat.zero_add]; exact Array.size_filter_le,by rw [← hw4] at *; exact hE11,hW4,hr4,Nat.le_refl _,by simpa using hkrr⟩ ?_
 rintro q a10 w5 ⟨vis,seen,K,kc,c0,rfl,hv,hvl,hE12,hW5,hr5,hc0,hKR⟩
 have hes5:=hW5.step.heap (fun o h=>h) hes
 refine qae [0,1] kz ?_
 refine qal (qfG hE12 (d:=25) (r:=R) kz hr5 hes5 hborn hc0 (fun h0 a11 hE13=>?_) (fun e he w6 hw6 a11 hE13=>?_))
 ·-- behind it
  refine qbm [1] [] [0,1,4,26] hW5 hE13 (env':=[(0,.p 0 0),(1,.v (cloV fc cap)),(4,.p 1 0),(26,.v (.bool false))]) kz rfl fun a12 hE14=>qag (qab (wp_seq ?_))
  refine qbd hE14 (b:=false) kz (fun hb=>by cases hb) (fun _=>?_)
  refine wp_exit (qaR (qaR (qbh (qab ?_))))
  have hpe:=hv.all h0 hnod
  have hvu:vis.length = u.length:=by rw [hpe.length_eq,Array.length_toList,hesz]
  have hkp:(vis.map fun e=>kOf e.key).Perm (u.map Prod.fst):=by
   have h1:=(hpe.map fun e=>kOf e.key)
   have h2:=hperm.map kOf
   rw [List.map_map,List.map_map] at h2
   exact h1.trans h2
  have hkl:(vis.map fun e=>kOf e.key).length = vis.length:=by simp
  generalize (vis.map fun e=>kOf e.key) = ks at hkp hkl hW5
  have hown4:w5.ownsRow 0 62 1 (.slice K vis.length kc) vis.length (ks.map (Value.int .u32)):=hW5.own 0 _ rfl
  obtain ⟨g,rfl⟩:=qd6 hown4 (by omega)
  have hown5:w5.ownsRow 0 62 1 (.slice (some ⟨g,0,none⟩) vis.length kc) vis.length (ks.map (Value.int .u32)):=hown4
  have hg0:w.heap.size ≤ g:=by
   rcases hW5.ownM 0 _ rfl g rfl with h | h
   ·exact h
   exact (h 0).elim
  refine qae [0,1,2,3] kz ?_
  refine qbm [0,1] [2,3] [0,1,4,34] hW5 hE14 (env':=[(0,.p 0 0),(1,.v (cloV fc cap)),(4,.p 1 0),(34,.v (.iface 130 (.slice (some ⟨g,0,none⟩) vis.length kc)))]) kz rfl fun a13 hE15=>?_
  refine qal (qd7 hE15 (v:=.func (.func 94) #[] #[.pointer (some ⟨kb,0,none⟩)]) (d:=35) kz fun a14 hE16=>?_)
  have hS:=Tryd.sortKeys g kc kb ks.toArray (by simp; omega) (by simp; omega) w5 (by simp only [List.size_toArray,hkl]; exact hW5.cells 1 _ rfl 0 _ rfl) (fun e=>hW5.rtb 0 _ rfl g rfl 1 _ rfl e) (qej hkl hown5) (qbC (hW5.own 0 _ rfl) (g:=g) rfl) (hW5.live 1 _ rfl)
  rw [List.size_toArray,hkl] at hS
  refine qal (qaw hE16 (f:=93) (vs:=[.iface 130 (.slice (some ⟨g,0,none⟩) vis.length kc),.func (.func 94) #[] #[.pointer (some ⟨kb,0,none⟩)]]) (d:=36) kz Tryd.call93 hS ?_)
  rintro e_ w7 ⟨rfl,d',nd,os,hd1,hd2,hd3,rfl⟩
  refine ⟨_,rfl,fun a15 hE17=>qag (qab ?_)⟩
  have hus:d'.toList = u.map Prod.fst:=qfH hd2 (by rw [hd1]; exact hd3) hkp (List.pairwise_map.2 hm.sorted)
  obtain ⟨hst7,hown7⟩:=qgl (n:=nd) (os:=os) hkl hown5 (by rw [hd1,hkl])
  rw [hus] at hown7
  generalize Sort.grow (Sort.putRow (Value.int .u32) (Sort.ahead w5 nd) g 0 d') os = w7 at hst7 hown7
  have hW7:WOk w Nil w7 [⟨b,o,[.map (some mb)],false⟩,⟨kb,0,[.slice (some ⟨g,0,none⟩) vis.length kc],true⟩] [⟨some ⟨g,0,none⟩,kc,62,1,vis.length,(u.map Prod.fst).map (Value.int .u32)⟩] :=
   hW5.grow (k:=0) (r':=⟨some ⟨g,0,none⟩,kc,62,1,vis.length,(u.map Prod.fst).map (Value.int .u32)⟩) rfl (hst7.mono fun b' _ _ hb'=>by rw [hb']; rfl) hown7 (fun g' h=>.inl h)
  refine qae [0,1,2] kz ?_
  refine qbm [0,1,2] [] [0,1,37,38,39] hW7 hE17 (env':=[(0,.p 0 0),(1,.v (cloV fc cap)),(37,.v (.slice (some ⟨g,0,none⟩) vis.length kc)),(38,.v (.int .i64 ((vis.length:Nat):Int))),(39,.v (.int .i64 0))]) kz rfl fun a16 hE18=>qag (qab ?_)
  have hE19:=EnvOk.cutTb 1 hE18 kz
  have hat7:=hat.move hW7.step nilM qaF
  have hm7:=hm.move hW7.step nilM qaF
  have hg7:g < w7.heap.size:=qbC (hW7.own 0 _ rfl) (g:=g) rfl
  have hkeys:=qej (by simpa using hvu.symm) hown7
  rw [hvu] at hE19
  refine wp_block ?_
  refine wp_loop_ghost (fun q a_ w_=>∃ (j:Nat),q = u.length - j ∧ j ≤ u.length ∧ EnvOk 53 [⟨b,o,[.map (some mb)],false⟩] [(0,.p 0 0),(1,.v (cloV fc cap)),(37,.v (.slice (some ⟨g,0,none⟩) u.length kc)),(38,.v (.int .i64 ((u.length:Nat):Int))),(39,.v (.int .i64 ((j:Nat):Int)))] a_ ∧
   I w7 j w_) u.length
   ⟨0,by omega,by omega,hE19,hI0 w7 hW7.step⟩ ?_
  rintro q a17 w8 ⟨j,rfl,hj,hE20,hD⟩
  have hS8:=hIs w7 j w8 hD
  have hat8:=hat7.move hS8 (fun b o hf _=>hMF b o hf) qaF
  have hm8:MapR w8 (fun b' o'=>F b' o' ∧ b' < w7.heap.size) (some mb) u:=hm7.move hS8 (fun b o hf _=>hMF b o hf) (fun b' o' hf hl=>⟨hf,hl⟩)
  have hW8:WOk w8 Nil w8 [⟨b,o,[.map (some mb)],false⟩] []:=(WOk.start w8 Nil).start1 hat8 rfl rfl
  refine qae [0] kz (qbm [0] [] [0,1,37,38,39,40] hW8 hE20 (env':=[(0,.p 0 0),(1,.v (cloV fc cap)),(37,.v (.slice (some ⟨g,0,none⟩) u.length kc)),(38,.v (.int .i64 ((u.length:Nat):Int))),(39,.v (.int .i64 ((j:Nat):Int))),(40,.v (.bool (decide (((j:Nat):Int) < ((u.length:Nat):Int)))))]) kz rfl fun a18 hE21=>qag (qab (wp_seq ?_)))
  refine qbd hE21 (b:=decide (((j:Nat):Int) < ((u.length:Nat):Int))) kz (fun hc=>?_) (fun hc=>?_)
  ·have hlt:j < u.length:=by have:=of_decide_eq_true hc; omega
   refine wp_skip (qab (wp_seq (wp_block ?_)))
   obtain ⟨⟨k,x⟩,hu⟩:∃ y,u[j]? = some y:=⟨_,List.getElem?_eq_getElem hlt⟩
   have hmem:=List.mem_of_getElem? hu
   have hkr:=hm.range _ hmem
   have hcell:At w8 g (0 + j * 1) [.int .u32 k]:=by
    intro i v hi
    have hi0:i = 0:=by
     have:=(List.getElem?_eq_some_iff.1 hi).1
     simp at this; omega
    subst hi0
    simp only [List.getElem?_cons_zero,Option.some.injEq] at hi
    subst hi
    refine hS8.cell (fun hbm=>?_) ?_
    ·have:=hMlt _ _ hbm; omega
    have h1:=(hkeys j (by simpa using hlt)).1
    have h2:(u.map Prod.fst).toArray[j]! = k:=by
     rw [getElem!_pos _ j (by simpa using hlt)]
     have:(u.map Prod.fst)[j]? = some k:=by rw [List.getElem?_map,hu]; rfl
     simpa using (List.getElem?_eq_some_iff.1 this).2
    rw [h2] at h1
    simpa using h1
   refine qae [0,1,2] kz ?_
   refine qal (qao hE21 (t:=130) (e:=62) (size:=1) (bytes:=4) (d:=41) (b:=g) (o:=0) (m:=u.length) (j:=j) kz kz rfl rfl hlt fun a19 hE22=>?_)
   refine qal (qat hE22 (t:=62) (d:=42) (cs:=[.int .u32 k]) (v:=.int .u32 k) kz kz hcell fun a20 hE23=>?_)
   refine qbm [2] [] [0,1,37,38,39,7] hW8 hE23 (env':=[(0,.p 0 0),(1,.v (cloV fc cap)),(37,.v (.slice (some ⟨g,0,none⟩) u.length kc)),(38,.v (.int .i64 ((u.length:Nat):Int))),(39,.v (.int .i64 ((j:Nat):Int))),(7,.v (.int .u32 k))]) kz rfl fun a21 hE24=>qag (qab ?_)
   refine qaC [0,1,2,3,4,5,6,7,8] kz ?_
   refine qbm [0,1,2,3,4,5,6] [7,8] [0,1,37,38,39,43,44,48,49] hW8 hE24 (env':=[(0,.p 0 0),(1,.v (cloV fc cap)),(37,.v (.slice (some ⟨g,0,none⟩) u.length kc)),(38,.v (.int .i64 ((u.length:Nat):Int))),(39,.v (.int .i64 ((j:Nat):Int))),(43,.v (cloV fc cap)),(44,.v (.int .u32 k)),(48,.v (.map (some mb))),(49,.v (.int .u32 k))]) kz rfl fun a22 hE25=>?_
   refine qal (qfE hE25 (t:=89) (kt:=62) (et:=22) (m:=some mb) (k:=k) (s:=x) (d:=50) kz kz kz hm8 hmem fun a23 Ax cx hox hE26=>?_)
   refine qal (qaw hE26 (f:=fc) (vs:=[.int .u32 k,.slice Ax x.length cx,cap]) (d:=51) kz hcf (hI1 w7 hW7.step j k x w8 Ax cx hD hu hkr hox) ?_)
   rintro e_ w9 ⟨rfl,hD2⟩
   refine ⟨_,rfl,fun a24 hE27=>qag (qa3 (qab ?_))⟩
   have hS9:=hIs w7 (j + 1) w9 hD2
   have hat9:=hat7.move hS9 (fun b o hf _=>hMF b o hf) qaF
   have hW9:WOk w9 Nil w9 [⟨b,o,[.map (some mb)],false⟩] []:=(WOk.start w9 Nil).start1 hat9 rfl rfl
   refine qaC [0,1] kz (qbm [0,1] [] [0,1,37,38,39] hW9 hE27 (env':=[(0,.p 0 0),(1,.v (cloV fc cap)),(37,.v (.slice (some ⟨g,0,none⟩) u.length kc)),(38,.v (.int .i64 ((u.length:Nat):Int))),(39,.v (.int .i64 (IntKind.i64.wrap (((j:Nat):Int) + 1))))]) kz rfl fun a25 hE28=>qag (qab ?_))
   rw [qbK (by omega)] at hE28
   exact ⟨u.length - (j + 1),by omega,j + 1,rfl,by omega,hE28,hD2⟩
  obtain rfl:j = u.length:=by have:=of_decide_eq_false hc; omega
  refine wp_exit (qaR (qaR (qbh ?_)))
  exact qbi hE21 hW8.cells (v:=.tuple #[]) kz ⟨rfl,w7,hW7.step,hD⟩
 -- one more
 have hst6:Step w5 w6 Nil:=by
  rcases hw6 with rfl | rfl
  ·exact Step.refl _ _
  exact Step.drew _
 have hr6:w6.heap[R]? = some (.mapIter (some mb) clk seen c0):=hst6.heap (fun o h=>h) hr5
 have hW6:=hW5.next_nil hst6
 obtain ⟨hml,_⟩:=mem_left he
 obtain ⟨k,sx,Ax,cx,hk1,hk2,hk3,hk4⟩:=hcont e hml
 have hR6:R < w6.heap.size:=(Array.getElem?_eq_some_iff.1 hr6).1
 have hW7:WOk w Nil (setBlock w6 R (.mapIter (some mb) clk (seen.push e.born) clk)) [⟨b,o,[.map (some mb)],false⟩,⟨kb,0,[.slice K vis.length kc],true⟩] [⟨K,kc,62,1,vis.length,(vis.map fun e=>kOf e.key).map (Value.int .u32)⟩]:=by
  refine hW6.next (Step.setBlock w6 R _) (fun b' o' hb' hN=>by omega) (fun i ob hi j hj hN=>?_) (fun i q hi g' hg' o' hN=>?_)
  ·match i,hi with
   | 0,hi =>
    simp only [List.getElem?_cons_zero,Option.some.injEq] at hi; subst hi
    have:=World.lt_of_cell (hat 0 _ rfl).2
    simp only at hN; omega
   | 1,hi =>
    simp only [List.getElem?_cons_succ,List.getElem?_cons_zero,Option.some.injEq] at hi; subst hi
    exact hkbr hN
   | i + 2,hi=>simp at hi
  match i,hi with
  | 0,hi =>
   simp only [List.getElem?_cons_zero,Option.some.injEq] at hi; subst hi
   exact hKR (by rw [← hN]; exact hg')
  | i + 1,hi=>simp at hi
 have hr7:(setBlock w6 R (.mapIter (some mb) clk (seen.push e.born) clk)).heap[R]? = some (.mapIter (some mb) clk (seen.push e.born) clk):=qc4 hr6
 generalize hw7:setBlock w6 R (.mapIter (some mb) clk (seen.push e.born) clk) = w7 at hW7 hr7
 refine qbm [1] [] [0,1,4,24,26] hW7 hE13 (env':=[(0,.p 0 0),(1,.v (cloV fc cap)),(4,.p 1 0),(24,.v (.pointer (some ⟨R,0,none⟩))),(26,.v (.bool true))]) kz rfl fun a12 hE14=>qag (qab (wp_seq ?_))
 refine qbd hE14 (b:=true) kz (fun _=>?_) (fun hb=>by cases hb)
 refine wp_skip (qab (wp_block ?_))
 have hes7:=hW7.step.heap (fun o h=>h) hes
 refine qae [0,1,2] kz ?_
 refine qal (qfc hE14 (d:=27) (r:=R) kz hr7 hes7 hml hnod fun a13 hE15=>?_)
 rw [hk1] at hE15
 refine qbm [1,2] [] [0,1,4,24,5] hW7 hE15 (env':=[(0,.p 0 0),(1,.v (cloV fc cap)),(4,.p 1 0),(24,.v (.pointer (some ⟨R,0,none⟩))),(5,.v (.int .u32 k))]) kz rfl fun a14 hE16=>qag (qab ?_)
 refine qaC [0,1,2,3,4] kz ?_
 refine qbm [0,1] [2,3,4] [0,1,4,24,29,30] hW7 hE16 (env':=[(0,.p 0 0),(1,.v (cloV fc cap)),(4,.p 1 0),(24,.v (.pointer (some ⟨R,0,none⟩))),(29,.v (.slice K vis.length kc)),(30,.v (.int .u32 k))]) kz rfl fun a15 hE17=>?_
 have hsh:=left_shrinks es seen e he
 refine qdV (t:=130) (e:=62) (size:=1) (bytes:=4) (len:=1) (cs:=[.int .u32 k]) (d1:=31) (d:=32) (k:=0) hW7 hE17 kz kz (fun _=>by kernel_rfl) rfl kz (by omega) fun K2 kc2 a16 w8 hF8 hW8 hE18=>?_
 obtain ⟨bl,hE18⟩:=hE18
 have hR7:R < w7.heap.size:=(Array.getElem?_eq_some_iff.1 hr7).1
 have hna:∀ {o'},¬ Act_ [⟨b,o,[.map (some mb)],false⟩,⟨kb,0,[.slice K vis.length kc],true⟩] [⟨K,kc,62,1,vis.length,(vis.map fun e=>kOf e.key).map (Value.int .u32)⟩] R o':=by
  rintro o' (⟨i,ob,hi,hrw,hb,_⟩ | ⟨i,q,hi,hq⟩)
  ·match i,hi with
   | 0,hi =>
    simp only [List.getElem?_cons_zero,Option.some.injEq] at hi; subst hi
    cases hrw
   | 1,hi =>
    simp only [List.getElem?_cons_succ,List.getElem?_cons_zero,Option.some.injEq] at hi; subst hi
    exact hkbr hb
   | i + 2,hi=>simp at hi
  match i,hi with
  | 0,hi =>
   simp only [List.getElem?_cons_zero,Option.some.injEq] at hi; subst hi
   exact hKR hq
  | i + 1,hi=>simp at hi
 have hK2:K2.map (·.block) ≠ some R:=fun hk=>by
  exact hF8.imm R 0 hR7 hna (.inr ⟨0,_,rfl,hk⟩)
 refine qal (qaq hW8 hE18 (oi:=1) (cs:=[.slice K2 (vis.length + 1) kc2]) kz fun w9 hF9 hW9 hE19=>qag (qa3 (qab ?_)))
 have hr8:w9.heap[R]? = some (.mapIter (some mb) clk (seen.push e.born) clk) :=
  hF9.step.heap (fun o'=>hF8.imm R o' hR7 hna) (hF8.step.heap (fun o'=>hna) hr7)
 refine ⟨(leftOf es (seen.push e.born)).size,hsh,vis ++ [e],seen.push e.born,K2,kc2,clk,rfl,hv.push he,by rw [List.length_append,List.length_singleton]; omega,?_,?_,hr8,Nat.le_refl _,hK2⟩
 ·rw [List.length_append,List.length_singleton]
  exact hE19.pick (ks:=[0,1,4,24]) kz
 rw [List.length_append,List.length_singleton,List.map_append,List.map_append,List.map_cons,List.map_cons,hk1]
 exact hW9
end Go.Proofs.YtajibgahdkllkaaDoorR.ME
namespace Go.Proofs.YtajibgahdkllkaaDoorR.ME
open Go
open Go.RowKit
set_option linter.unusedVariables false
set_option linter.unusedSimpArgs false
set_option maxRecDepth 20000
section
variable {P:Program} {ops:Array Oper} {Q:Exit → Act → World → Prop} {n:Nat} {tb:Tb} {env:Env} {rs:List Rw} {w0:World} {M:Nat → Nat → Prop} {a:Act} {w:World}
theorem qdY {i d j:Nat} {t e:TypeId} {size bytes:Nat} (z:Value) (cs:List Value) {N:Act → World → Prop} (hW:WOk w0 M w tb rs) (hE:EnvOk n tb env a)
  (K:∀ b a' w',b = w.heap.size → w0.heap.size ≤ b → Fr w tb rs w' (tb ++ [⟨b,0,cs,true⟩]) rs → WOk w0 M w' (tb ++ [⟨b,0,cs,true⟩]) rs → EnvOk n (tb ++ [⟨b,0,cs,true⟩]) ((d,.v (.slice (some ⟨b,0,none⟩) j j)) :: env) a' → N a' w')
  (h:qgh env ops n i = some (t,((j:Nat):Int),((j:Nat):Int),d):=by kernel_rfl) (ht:qck P t = some (e,size,bytes):=by kernel_rfl) (hz:(P.info? e).bind (·.zero) = some z:=by kernel_rfl) (hcs:(madeCells z.cells (j * size)).toList = cs:=by kernel_rfl) (hb:Nat.ble (bytes * j) 1000000 = true:=by kernel_rfl):wpOp P ops Q i N a w:=by
 obtain ⟨ht',inf,z',hi,hz',hzs,hs1,rfl,hsz,hbp⟩:=qce ht
 obtain ⟨op,ho,hd,kl,kc,hrun⟩:=qeQ (P:=P) (w:=w) hE h
 have hzz:z' = z:=by rw [hi] at hz; simp only [Option.bind_some,hz',Option.some.injEq] at hz; exact hz
 subst hzz
 have hb':=Nat.le_of_ble_eq_true hb
 have hjm:j ≤ 1000000:=by
  have:=Nat.le_mul_of_pos_left j hbp
  omega
 have hr:=run_make (P:=P) w t e inf z' ht' hi hz' kl kc (j:Int) (j:Int) (by omega) (Int.le_refl _) (by
  have:((inf.bytes * j:Nat):Int) ≤ 281474976710656:=by omega
  rwa [Int.natCast_mul] at this) (by omega)
 simp only [Int.toNat_natCast,hs1] at hr
 have hca:madeCells z'.cells (j * size) = cs.toArray:=by rw [← hcs]
 rw [hca] at hr
 refine qaY hE ho (fun o hop=>hrun o _ _ hop hr) ?_
 refine K w.heap.size _ _ rfl hW.step.size (Fr.alloc w tb rs _ cs true) (hW.alloc cs e) ?_
 exact (hE.put hd (.v (.slice (some ⟨w.heap.size,0,none⟩) j j)) trivial).grow _
theorem qfm {i d:Nat} {src dst e:TypeId} {s:ByteArray} {N:Act → World → Prop} (hW:WOk w0 M w tb rs) (hE:EnvOk n tb env a) (hsm:s.size ≤ 1099511627776)
  (K:∀ b c a' w',Fr w tb rs w' tb rs → WOk w0 M w' tb rs → (∀ G,Octs w' (Imm G w0 w' tb rs) (some ⟨b,0,none⟩) c (sb s)) → EnvOk n tb ((d,.v (.slice (some ⟨b,0,none⟩) (sb s).length c)) :: env) a' → N a' w')
  (h:qgq tb env ops n i = some (src,dst,.string s,d):=by kernel_rfl) (hs:P.underlying src = some .string:=by kernel_rfl) (hd:P.underlying dst = some (.slice e):=by kernel_rfl) (he:P.underlying e = some (.int .u8):=by kernel_rfl):wpOp P ops Q i N a w:=by
 unfold qgq at h
 split at h
 ·rename_i src' dst' x d' hop
  split at h
  ·rename_i v hx
   simp only [Option.some.injEq,Prod.mk.injEq] at h
   obtain ⟨rfl,rfl,rfl,rfl⟩:=h
   have hdn:=(qbf hE hop).choose_spec.2.2.2.1
   have hrun:=Lib.run_convert_string_bytes (P:=P) w src' dst' e s hs hd he
   have hst:Step w (Lib.bytesWorld w e s) Nil:=⟨rfl,rfl,by rw [Lib.bytesWorld_size]; omega,fun b hb=>by rw [Lib.bytesWorld_at_old w e s b hb]; exact Keeps.refl _ _⟩
   have hlen:(sb s).length = s.size:=qfC s
   have e1:=(qaN hE hx).1
   refine qaY hE hop (v:=.slice (some ⟨w.heap.size,0,none⟩) (sb s).length (grownCap w s.size 0 e)) (w':=Lib.bytesWorld w e s) (fun o' ho'=>?_) (K w.heap.size _ _ _ (Fr.nil tb rs hst) (hW.next_nil hst) (fun G=>?_) (hE.put hdn (.v _) trivial))
   ·unfold execOp
    rw [ho']
    simp only [SV.val] at e1
    simp only [e1,Sem.run_bind,hrun,Result.andThen_ok,Sem.run_pure,hlen]
   refine ⟨by rw [hlen]; exact grownCap_ge w s.size 0 e,by rw [hlen]; exact hsm,fun h=>(by cases h),fun ad hA _=>?_⟩
   obtain rfl:=Option.some.inj hA
   refine ⟨w.heap.size,0,rfl,fun q hq=>⟨rfl,fun j v hj=>?_⟩⟩
   have hj0:j = 0:=by
    cases j with
    | zero=>rfl
    | succ j=>simp at hj
   subst hj0
   simp only [List.getElem?_cons_zero,Option.some.injEq] at hj
   subst hj
   have h2:(Lib.bytesWorld w e s).heap.size = w.heap.size + 1:=Lib.bytesWorld_size w e s
   refine ⟨⟨.inr hW.step.size,by rw [h2]; exact Nat.lt_succ_self _,fun ha=>?_⟩,?_⟩
   ·have:=hW.act_live ha
    exact absurd this (Nat.lt_irrefl _)
   rw [Nat.zero_add,Nat.mul_one,Nat.add_zero,Lib.bytesWorld_cell w e s q (by rw [← hlen]; exact hq)]
   rfl
  cases h
 cases h
end
structure TBox (w:World) (B eT:Nat) (A:Option Addr) (cp n:Nat) (x0 x1 x2 x3:Value) (xs:List Value):Prop where
 str:Str w B [x0,x1,x2,x3,.slice A n cp]
 own:w.ownsRow 0 eT 2 (.slice A n cp) n xs
 ne:A.map (·.block) ≠ some B
def TM (B:Nat) (A:Option Addr):Nat → Nat → Prop:=fun b o=>(b = B ∧ o < 5) ∨ Blk A b o
def qgH (w:World) (B eT:Nat) (A:Option Addr) (n:Nat) (x0 x1 x2 x3:Value) (xs:List Value) (k:Int) (x:Bs):Ending → World → Prop:=fun en w' =>
 en = .returned (.tuple #[]) ∧ ∃ A' cp' Av cv,TBox w' B eT A' cp' (n + 1) x0 x1 x2 x3 (xs ++ [.int .u32 k,.slice Av x.length cv]) ∧ Octs w' (fun b o=>(w.heap.size ≤ b ∨ A.map (·.block) = some b) ∧ ¬ TM B A' b o) Av cv x ∧ Near w A A' ∧ Step w w' (TM B A)
def qee (P:Program) (fc eT:Nat):Prop:=∀ (w:World) (B cp c n:Nat) (k:Int) (A Av:Option Addr) (x:Bs) (x0 x1 x2 x3:Value) (xs:List Value) (G:Nat → Nat → Prop),TBox w B eT A cp n x0 x1 x2 x3 xs → Octs w G Av c x → (∀ b o,G b o → ¬ TM B A b o) → n ≤ 1000000 →
 Calls P fc [.int .u32 k,.slice Av x.length c,.pointer (some ⟨B,0,none⟩)].toArray w (qgH w B eT A n x0 x1 x2 x3 xs k x)
theorem TBox.wok {w:World} {B eT cp n:Nat} {A:Option Addr} {x0 x1 x2 x3:Value} {xs:List Value} (h:TBox w B eT A cp n x0 x1 x2 x3 xs):WOk w (TM B A) w [⟨B,0,[x0,x1,x2,x3,.slice A n cp],true⟩] [⟨A,cp,eT,2,n,xs⟩]:=by
 have h1:WOk w (TM B A) w [⟨B,0,[x0,x1,x2,x3,.slice A n cp],true⟩] [] :=
  (WOk.start w _).add ⟨B,0,[x0,x1,x2,x3,.slice A n cp],true⟩ (World.lt_of_cell (h.str.at_ 0 _ rfl)) (fun j v hj=>by rw [Nat.zero_add]; exact h.str.at_ j v hj) (fun _ j hj=>⟨.inr (.inl ⟨rfl,by rw [Nat.zero_add]; exact hj⟩),by rw [Nat.zero_add]; exact h.str.frz j hj⟩) (fun i ob hi=>by simp at hi) (fun i r hi=>by simp at hi)
 refine h1.addRow ⟨A,cp,eT,2,n,xs⟩ h.own (fun g hg=>.inr fun o=>.inr hg) (fun i ob hi=>?_) (fun i r hi=>by simp at hi)
 cases i with
 | zero =>
  simp only [List.getElem?_cons_zero,Option.some.injEq] at hi; subst hi
  exact h.ne
 | succ i=>simp at hi
theorem qeK {w0 w:World} {B eT cp n:Nat} {A0 A:Option Addr} {x0 x1 x2 x3:Value} {xs:List Value} {rs:List Rw} (hW:WOk w0 (TM B A0) w [⟨B,0,[x0,x1,x2,x3,.slice A n cp],true⟩] (⟨A,cp,eT,2,n,xs⟩ :: rs)) (hB:B < w0.heap.size):TBox w B eT A cp n x0 x1 x2 x3 xs ∧ Near w0 A0 A ∧ Step w0 w (TM B A0):=by
 refine ⟨⟨Str.of hW 0 rfl,hW.own 0 _ rfl,fun e=>hW.rtb 0 _ rfl B e 0 _ rfl rfl⟩,fun g hg=>?_,hW.step⟩
 rcases hW.ownM 0 _ rfl g hg with h | h
 ·exact .inr h
 rcases h 5 with ⟨_,h⟩ | h
 ·omega
 exact .inl h
theorem qdK {w0 w:World} {B eT cp n c e8:Nat} {A0 A Av:Option Addr} {cs:List Value} {xs:List Value} {s:Bs} (hl:cs.length = 5) (hW:WOk w0 (TM B A0) w [⟨B,0,cs,true⟩] [⟨A,cp,eT,2,n,xs⟩,brow Av c e8 s]) (hsm:s.length ≤ 1099511627776):Octs w (fun b o=>(w0.heap.size ≤ b ∨ A0.map (·.block) = some b) ∧ ¬ TM B A b o) Av c s:=by
 refine qeP (hW.own 1 _ rfl) hsm fun g hg o=>⟨?_,?_⟩
 ·rcases hW.ownM 1 _ rfl g hg with h | h
  ·exact .inl h
  rcases h 5 with ⟨_,h⟩ | h
  ·omega
  exact .inr h
 rintro (⟨rfl,_⟩ | h)
 ·exact hW.rtb 1 _ rfl g hg 0 _ rfl rfl
 exact hW.rr 1 0 _ _ (by decide) rfl rfl g hg h
theorem qeq {fc eT B b o:Nat} {m:Option Nat} {u:List (Int × Bs)} {w:World} {F:Nat → Nat → Prop} {x0 x1 x2 x3:Value} (hcf:∀ args w,(callFunc fc args).run Tryd.prog w = .ok (.enter fc args) w) (hone:qee Tryd.prog fc eT) (hat:AtF w F b o [.map m]) (hm:MapR w F m u) (hB:Str w B [x0,x1,x2,x3,.slice none 0 0]) (hF:∀ b o,F b o → ¬ (b = B ∧ o < 5)) (hul:u.length ≤ 1000000) :
  Calls Tryd.prog 61 [.pointer (some ⟨b,o,none⟩),cloV fc (.pointer (some ⟨B,0,none⟩))].toArray w (fun e w'=>e = .returned (.tuple #[]) ∧ ∃ A c,Str w' B [x0,x1,x2,x3,.slice A u.length c] ∧ TagsR w' (fun b o=>w.heap.size ≤ b) A c u ∧ Step w w' (fun b o=>b = B ∧ o < 5)):=by
 have hBl:B < w.heap.size:=World.lt_of_cell (hB.at_ 0 _ rfl)
 refine (qhC (M:=fun b o=>b = B ∧ o < 5) hcf (fun w7 j w8=>∃ A cp xs css,TBox w8 B eT A cp j x0 x1 x2 x3 xs ∧ Tags w8 (fun b o=>w7.heap.size ≤ b ∧ ¬ TM B A b o) xs (u.take j) css ∧ (∀ g,A.map (·.block) = some g → w7.heap.size ≤ g) ∧ Step w7 w8 (fun b o=>b = B ∧ o < 5)) hat hm hF (fun b o h=>by rw [h.1]; exact hBl) (fun w7 hs=>?_) (fun w7 j w8 h=>by obtain ⟨_,_,_,_,_,_,_,h⟩:=h; exact h) (fun w7 hs j k x w8 Ax cx hI hu hk hox=>?_) hul).mono ?_
 ·exact ⟨none,0,[],[],⟨hB.move hs fun _ h=>h,World.ownsRow_nil _ 0 eT 2,fun h=>by cases h⟩,Tags.nil _ _,fun g h=>(by cases h),Step.refl _ _⟩
 ·obtain ⟨A,cp,xs,css,hbx,hT,hA,hs8⟩:=hI
  have hj:j < u.length:=(List.getElem?_eq_some_iff.1 hu).1
  refine (hone w8 B cp cx j k A Ax x x0 x1 x2 x3 xs _ hbx hox (fun b o hf=>?_) (by omega)).mono ?_
  ·rintro (h | h)
   ·exact hF _ _ hf.1 h
   have:=hA b h; have:=hf.2; omega
  rintro e w9 ⟨rfl,A',cp',Av,cv,hbx',ho',hn,hs9⟩
  refine ⟨rfl,A',cp',_,css ++ [[.int .u32 k,.slice Av x.length cv]],hbx',?_,fun g hg=>?_,hs8.trans hs9 fun b o hb h=>?_⟩
  ·rw [qcm hu]
   have e1:Tags w9 (fun b o=>w7.heap.size ≤ b ∧ ¬ TM B A' b o) xs (u.take j) css:=hT.move hs9 (fun b o h _=>h.2) (fun b o h hb=>⟨h.1,fun h'=>by
    rcases h' with h' | h'
    ·exact h.2 (.inl h')
    rcases hn b h' with h' | h'
    ·exact h.2 (.inr h')
    omega⟩)
   have e2:Octs w9 (fun b o=>w7.heap.size ≤ b ∧ ¬ TM B A' b o) Av cv x:=ho'.move (Step.refl _ Nil) nilM fun b o h _=>⟨by
    rcases h.1 with h' | h'
    ·exact Nat.le_trans hs8.size h'
    exact hA b h',h.2⟩
   exact e1.snoc (c:=[.int .u32 k,.slice Av x.length cv]) (x:=(k,x)) ⟨⟨_,_,rfl,e2⟩,hk.1,hk.2⟩
  ·rcases hn g hg with h | h
   ·exact hA g h
   exact Nat.le_trans hs8.size h
  rcases h with h | h
  ·exact h
  have:=hA b h; omega
 rintro e w' ⟨rfl,w7,hs,A,cp,xs,css,hbx,hT,hA,hs8⟩
 rw [List.take_length] at hT
 refine ⟨rfl,A,cp,hbx.str,?_,(hs.mono (N:=fun b o=>b = B ∧ o < 5) fun _ _ _ f=>f.elim).trans hs8 fun b o _ h=>h⟩
 exact ((hT.move (Step.refl _ Nil) nilM fun b o h _=>Nat.le_trans hs.size h.1).slots (F:=fun b o=>w.heap.size ≤ b) hbx.own rfl (by omega) fun g hg o=>Nat.le_trans hs.size (hA g hg))
theorem WOk.strOut {G:Nat → Nat → Prop} {w0 w:World} {tb:Tb} {rs:List Rw} {p:Nat} {cs:List Value} (tb':Tb) (hW:WOk w0 Nil w tb rs) (ht:tb' ++ [⟨p,0,cs,true⟩] = tb:=by rfl):AtF w (Imm G w0 w tb' rs) p 0 cs:=fun j v hj=>by
 subst ht
 have hi:(tb' ++ [(⟨p,0,cs,true⟩:Ob)])[tb'.length]? = some ⟨p,0,cs,true⟩:=by rw [List.getElem?_append_right (Nat.le_refl _),Nat.sub_self]; rfl
 have h1:=hW.cells _ _ hi j v hj
 have hlt:j < cs.length:=(List.getElem?_eq_some_iff.1 hj).1
 refine ⟨⟨?_,hW.live _ _ hi,fun ha=>?_⟩,h1⟩
 ·rcases (hW.rw_ _ _ hi rfl j hlt).1 with h2 | h2
  ·exact .inr h2
  exact h2.elim
 rcases ha with ⟨k,ob,h2,h3,h4,h5,h6⟩ | ⟨k,r,h2,h3⟩
 ·have hk:k < tb'.length:=(List.getElem?_eq_some_iff.1 h2).1
  have h7:(tb' ++ [(⟨p,0,cs,true⟩:Ob)])[k]? = some ob:=by rw [List.getElem?_append_left hk]; exact h2
  rcases hW.apart k _ ob _ (by omega) h7 hi (.inr rfl) with h8 | h8 | h8
  ·exact h8 h4
  ·simp only [Nat.zero_add] at h5 h6; simp only [Nat.le_zero] at h8; omega
  simp only [Nat.zero_add] at h5 h6 h8; omega
 exact hW.rtb k r h2 p h3 _ _ hi rfl
theorem qfn {u:List (Int × Bs)} (h:qcP u) {i j:Nat} {k k':Int} {s s':Bs} (hi:u[i]? = some (k,s)) (hj:u[j]? = some (k',s')) (hij:j < i):¬ k < k':=by
 obtain ⟨h1,h2⟩:=List.getElem?_eq_some_iff.1 hi
 obtain ⟨h3,h4⟩:=List.getElem?_eq_some_iff.1 hj
 have:=List.pairwise_iff_getElem.1 h j i h3 h1 hij
 rw [h2,h4] at this
 simp only at this
 omega
section
variable {w0 w:World} {tb:Tb} {rs:List Rw} {F:Nat → Nat → Prop}
theorem WOk.objFp (hW:WOk w0 Nil w tb rs) (i:Nat) {b:Nat} {cs:List Value} (hi:tb[i]? = some ⟨b,0,cs,true⟩):AtF w (Fp F w0) b 0 cs:=fun j v hj=>by
 have hlt:=(List.getElem?_eq_some_iff.1 hj).1
 refine ⟨?_,hW.cells i _ hi j v hj⟩
 rcases (hW.rw_ i _ hi rfl j hlt).1 with h | h
 ·exact .inr h
 exact h.elim
def TrL (w:World) (F:Nat → Nat → Prop):List (List Value) → List Tree → Prop
 | [],[]=>True
 | c :: cs,x :: xs=>TreeR w F c x ∧ TrL w F cs xs
 | _,_=>False
theorem TrL.move {w w':World} {F F' M:Nat → Nat → Prop} (hs:Step w w' M) (hM:∀ b o,F b o → b < w.heap.size → ¬ M b o) (hF:∀ b o,F b o → b < w.heap.size → F' b o):∀ {cs:List (List Value)} {l:List Tree},TrL w F cs l → TrL w' F' cs l
 | [],[],_=>trivial
 | _ :: _,_ :: _,h=>⟨h.1.move hs hM hF,TrL.move hs hM hF h.2⟩
 | [],_ :: _,h=>h.elim
 | _ :: _,[],h=>h.elim
theorem TrL.len:∀ {cs:List (List Value)} {l:List Tree},TrL w F cs l → cs.length = l.length
 | [],[],_=>rfl
 | _ :: _,_ :: _,h=>congrArg (· + 1) (TrL.len h.2)
 | [],_ :: _,h=>h.elim
 | _ :: _,[],h=>h.elim
theorem TrL.five:∀ {cs:List (List Value)} {l:List Tree},TrL w F cs l → ∀ c ∈ cs,c.length = 5
 | [],[],_=>fun c hc=>by cases hc
 | _ :: _,_ :: _,h=>fun c hc=>by
  rcases List.mem_cons.1 hc with rfl | hc
  ·exact h.1.five
  exact TrL.five h.2 c hc
 | [],_ :: _,h=>h.elim
 | _ :: _,[],h=>h.elim
theorem TrL.get:∀ {cs:List (List Value)} {l:List Tree},TrL w F cs l → ∀ (i:Nat) (x:Tree),l[i]? = some x → TreeR w F (cs.getD i []) x
 | [],[],_,i,x,hx=>by simp at hx
 | _ :: _,_ :: _,h,0,x,hx=>by
  simp only [List.getElem?_cons_zero,Option.some.injEq] at hx
  subst hx
  exact h.1
 | _ :: _,_ :: _,h,i + 1,x,hx=>TrL.get h.2 i x hx
 | [],_ :: _,h,_,_,_=>h.elim
 | _ :: _,[],h,_,_,_=>h.elim
theorem qhD {b:Nat}:∀ (css:List (List Value)) (o:Nat),AtF w F b o css.flatten → (∀ c ∈ css,c.length = 5) → ∀ i,i < css.length → (css.getD i []).length = 5 ∧ AtF w F b (o + i * 5) (css.getD i [])
 | [],o,h,hl,i,hi=>absurd hi (Nat.not_lt_zero _)
 | c :: r,o,h,hl,0,_=>⟨hl c List.mem_cons_self,fun j v hj=>by
   have hj':c[j]? = some v:=hj
   have:=h j v (by rw [List.flatten_cons,List.getElem?_append_left (List.getElem?_eq_some_iff.1 hj').1]; exact hj')
   rw [show o + 0 * 5 + j = o + j by omega]
   exact this⟩
 | c :: r,o,h,hl,i + 1,hi=>by
  have hc:=hl c List.mem_cons_self
  have:=qhD r (o + 5) (fun j v hj=>by
   have:=h (5 + j) v (by rw [List.flatten_cons,List.getElem?_append_right (by omega),show 5 + j - c.length = j by omega]; exact hj)
   rw [show o + 5 + j = o + (5 + j) by omega]
   exact this) (fun d hd=>hl d (List.mem_cons_of_mem _ hd)) i (by simpa using hi)
  rw [show o + (i + 1) * 5 = o + 5 + i * 5 by omega]
  exact this
theorem qfo {b:Nat} {css:List (List Value)} {l:List Tree} (h:AtF w F b 0 css.flatten) (hT:TrL w F css l) (hsm:l.length ≤ 1099511627776):Slots w F 5 (some ⟨b,0,none⟩) l.length l.length (fun i=>css.getD i []) :=
 ⟨Nat.le_refl _,hsm,fun h=>(by cases h),fun ad hA _=>⟨b,0,(Option.some.inj hA).symm,fun i hi=>qhD css 0 h hT.five i (by rw [hT.len]; exact hi)⟩⟩
theorem Trees.xslen {w:World} {xs:List Value} {l:List Tree} {css:List (List Value)} (h:Trees w F xs l css):xs.length = l.length * 5:=by
 have h1:∀ css:List (List Value),(∀ c ∈ css,c.length = 5) → css.flatten.length = css.length * 5:=fun css hc=>by
  induction css with
  | nil=>rfl
  | cons c r ih =>
   rw [List.flatten_cons,List.length_append,hc c List.mem_cons_self,ih fun d hd=>hc d (List.mem_cons_of_mem _ hd),List.length_cons]
   omega
 rw [h.flat.eq,h1 css,h.len]
 intro c hc
 obtain ⟨i,hi,rfl⟩:=List.getElem_of_mem hc
 have hl:=h.len
 exact (h.each i _ _ (List.getElem?_eq_getElem hi) (List.getElem?_eq_getElem (show i < l.length by omega))).five
theorem qdL {xs zs cs:List Value} {k:Nat} (hx:xs.length = k * 5) (hz:zs.length = cs.length:=by rfl):qbV (xs ++ zs) (k * 5) cs = xs ++ cs:=by
 unfold qbV
 rw [List.take_left' hx,List.drop_of_length_le (by rw [List.length_append]; omega),List.append_nil]
theorem qf2 (hW:WOk w0 Nil w tb rs) {k:Nat} {A:Option Addr} {c e n:Nat} {xs:List Value} {l:List Tree} {css:List (List Value)} {b:Bool} (hk:rs[k]? = some ⟨A,c,e,5,n,xs⟩) (hT:Trees w (Imm F w0 w tb rs) xs l css) (hn:n = l.length) (hsm:l.length ≤ 1099511627776):TreeR w (Fp F w0) [.int .i64 0,.slice none 0 0,.bool b,.slice A n c,.slice none 0 0] (.mk 0 [] b l []):=by
 have h:=qeR hW hk hT hn hsm
 subst hn
 exact TreeR.mk (s:=[]) (u:=[]) _ (Octs.nil _ _) h.1 h.2 (TagsR.nil _ _)
theorem qdj {L k:Nat} {f:Nat → Tree} (h:k < L):((List.range L).map f).take (k + 1) = ((List.range L).map f).take k ++ [f k] :=
 qcm (by rw [List.getElem?_map,List.getElem?_range h]; rfl)
theorem qgI {L k:Nat} {f:Nat → Tree} (h:L ≤ k):((List.range L).map f).take k = (List.range L).map f:=List.take_of_length_le (by rw [List.length_map,List.length_range]; exact h)
theorem qda {L:Nat} {f:Nat → Tree}:((List.range L).map f).length = L:=by rw [List.length_map,List.length_range]
theorem qeX (hW:WOk w0 Nil w tb rs) (i:Nat) {b n2 c3:Nat} {A3:Option Addr} {u:List (Int × Bs)} {css:List (List Value)} {cs:List Value} {l:List Tree} (hi:tb[i]? = some ⟨b,0,cs,true⟩) (hT':TrL w (Fp F w0) css l) (hU:TagsR w (Fp F w0) A3 c3 u) (hf:css.flatten = cs:=by rfl) (hl:l.length = n2:=by rfl) (hn:Nat.ble n2 1000000 = true:=by kernel_rfl) :
  qdW w0 F (.mk 0 [] false l u) (.returned (.agg #[.int .i64 0,.slice none 0 0,.bool false,.slice (some ⟨b,0,none⟩) n2 n2,.slice A3 u.length c3])) w:=by
 subst hf
 subst hl
 have hn':=Nat.le_of_ble_eq_true hn
 exact ⟨_,rfl,TreeR.mk (s:=[]) _ (Octs.nil _ _) (qfo (hW.objFp i hi) hT' (by omega)) hT'.get hU,hW.step⟩
end
def qay (w:World) (F:Nat → Nat → Prop) (D:DV):Prop:=((D.f 0).s.size ≤ 1000000) ∧ (True) ∧ MapR w F D.m D.u ∧ D.u.length ≤ 1000000 ∧ (∀ x ∈ D.u,x.2.length < 4294967296) ∧ True
def qaK (w:World) (F:Nat → Nat → Prop) (D:DV):Prop:=(True) ∧ (True) ∧ (Slots w F 3 (D.f 2).A (D.f 2).c (D.f 2).l (fun i=>[.string ((((D.f 2).f i).f 0).s),.int .i8 ((((D.f 2).f i).f 1).n),.map (((D.f 2).f i).m)]) ∧ (D.f 2).l ≤ 1000000 ∧ ∀ i,i < (D.f 2).l → qay w F ((D.f 2).f i)) ∧ MapR w F D.m D.u ∧ D.u.length ≤ 1000000 ∧ (∀ x ∈ D.u,x.2.length < 4294967296) ∧ True
def qbc (d:DV):List Value:=[.string ((d.f 0).s),.int .i8 ((d.f 1).n),.map d.m]
theorem qaA:qez qay:=by
 intro w w' F F' M d hs hM hF h
 unfold qay at h ⊢
 obtain ⟨g0,g1,t1,t2,t3,_⟩:=h
 exact ⟨g0,g1,t1.move hs hM hF,t2,t3,trivial⟩
theorem qa5:qez qaK:=by
 intro w w' F F' M d hs hM hF h
 unfold qaK at h ⊢
 obtain ⟨g0,g1,⟨g2,g2l,g2e⟩,t1,t2,t3,_⟩:=h
 exact ⟨g0,g1,⟨g2.move hs hM hF,g2l,fun i hi=>qaA _ hs hM hF (g2e i hi)⟩,t1.move hs hM hF,t2,t3,trivial⟩
def qas (D:DV):Tree:=.mk 0 [] false [.mk 0 (sb (D.f 0).s) false [] [],.mk (IntKind.i64.wrap (D.f 1).n) [] false [] []] D.u
def qaX (D:DV):Tree:=.mk 0 [] false [.mk (IntKind.i64.wrap (D.f 0).n) [] false [] [],.mk (IntKind.i64.wrap (D.f 1).n) [] false [] [],.mk 0 [] (D.f 2).A.isNone ((List.range (D.f 2).l).map fun i=>qas ((D.f 2).f i)) []] D.u
theorem qhE (A A':Option Addr) (c c':Nat) (s t:Bs) (w:World) (F:Nat → Nat → Prop) (hs:Octs w F A c s) (ht:Octs w F A' c' t) :
  Calls Tryd.prog 31 #[.slice A s.length c,.slice A' t.length c'] w (qcb w (.bool (decide (s = t)))):=by
 refine enter (n:=26) Tryd.func31 rfl Tryd.ntmps31 kz fun a hE=>?_
 have hW:=WOk.start w Nil
 have hl:=Slots.small hs
 refine qau [(0,.v (.slice A s.length c)),(1,.v (.slice A' t.length c'))] hW hE fun a1 hE2=>?_
 refine wp_seq ?_
 refine qau [(0,.v (.slice A s.length c)),(1,.v (.slice A' t.length c')),(10,.v (.bool (((s.length:Nat):Int) != ((t.length:Nat):Int))))] hW hE2 fun a3 hE4=>?_
 refine qbd hE4 (b:=((s.length:Nat):Int) != ((t.length:Nat):Int)) kz (fun hc5=>?_) (fun hc5=>?_)
 ·
  have hf6:((s.length:Nat):Int) ≠ ((t.length:Nat):Int):=by simpa using hc5
  refine qau [(4,.v (.bool false))] hW hE4 fun a7 hE8=>?_
  refine wp_ret ?_
  refine qa2 ?_
  refine qaZ hE8 hW.cells (v:=.bool false) kz ?_
  exact ⟨by first | rw [← qd4 hq (by omega) hlen] | rw [← qew ‹_›] | rw [← qd3 ‹_›],hW.step⟩
 have hf9:((s.length:Nat):Int) = ((t.length:Nat):Int):=by simpa using hc5
 refine wp_skip ?_
 refine qab ?_
 refine wp_seq ?_
 refine qau [(0,.v (.slice A s.length c)),(1,.v (.slice A' t.length c')),(12,.v (.int .i64 ((s.length:Nat):Int))),(13,.v (.int .i64 0))] hW hE4 fun aQ ak=>?_
 refine wp_block ?_
 have hlen:s.length = t.length:=by omega
 refine wp_loop_ghost (fun n_ a_ w_=>∃ (k:Nat),n_ = s.length - k ∧ k ≤ s.length ∧ (s.take k = t.take k) ∧ LInv hW 26 [] [] [(0,.v (.slice A s.length c)),(1,.v (.slice A' t.length c')),(12,.v (.int .i64 ((s.length:Nat):Int))),(13,.v (.int .i64 ((k:Nat):Int)))] a_ w_) (s.length) ⟨0,by omega,by omega,rfl,ak.pk,hW,Fr.refl _ _ _⟩ ?_
 rintro aR aS aT ⟨k,aD,aE,hq,al,ab,am⟩
 refine qau [(0,.v (.slice A s.length c)),(1,.v (.slice A' t.length c')),(12,.v (.int .i64 ((s.length:Nat):Int))),(13,.v (.int .i64 ((k:Nat):Int))),(14,.v (.bool (decide (((k:Nat):Int) < ((s.length:Nat):Int)))))] ab al fun aU ac=>?_
 refine wp_seq ?_
 refine qbd ac (b:=decide (((k:Nat):Int) < ((s.length:Nat):Int))) kz (fun ae=>?_) (fun ae=>?_)
 ·
  have aF:=of_decide_eq_true ae
  refine wp_skip ?_
  refine qab ?_
  refine wp_seq ?_
  refine wp_block ?_
  refine qau [(0,.v (.slice A s.length c)),(1,.v (.slice A' t.length c')),(5,.v (.int .i64 ((k:Nat):Int))),(12,.v (.int .i64 ((s.length:Nat):Int))),(13,.v (.int .i64 ((k:Nat):Int)))] ab ac fun aV ao=>?_
  refine qcl kz ab fun aW ap aa=>?_
  refine qaP [0,1,4,5] [(0,.v (.slice A s.length c)),(1,.v (.slice A' t.length c')),(12,.v (.int .i64 ((s.length:Nat):Int))),(13,.v (.int .i64 ((k:Nat):Int))),(16,.v (.slice A s.length c)),(17,.v (.int .i64 ((k:Nat):Int))),(20,.v (.slice A' t.length c')),(21,.v (.int .i64 ((k:Nat):Int)))] 5 (qac (qaf (qac (qac (qaf (qac qah)))))) (fun _ h=>h ▸ aa.cells) rfl ao fun aX ar=>?_
  obtain ⟨aG,aH,au,aI,ah⟩:=Slots.get hs (i:=k) (by omega)
  refine qaL ar (i:=2) (t:=22) (A:=A) (m:=s.length) (q:=((k:Nat):Int)) (d:=18) kz (e:=5) (size:=1) (bytes:=1) kz au rfl (by omega) kz kz (qac (qaf (qac (qac (qaf (qac qah)))))) rfl fun aY av=>?_
  refine qa4 av (i:=3) (t:=5) (b:=aG) (o:=aH + k * 1) (d:=19) kz (cs:=[.int .u8 ((s.getD k 0).toNat:Int)]) (v:=.int .u8 ((s.getD k 0).toNat:Int)) kz (fun w' h'=>h' ▸ (AtF.move ah aa.step nilM qaF).at_) kz kz (qac (qaf (qac (qac (qaf (qac qah)))))) rfl fun aZ aw=>?_
  obtain ⟨aJ,aK,ax,aL,ai⟩:=Slots.get ht (i:=k) (by omega)
  refine qaL aw (i:=6) (t:=22) (A:=A') (m:=t.length) (q:=((k:Nat):Int)) (d:=22) kz (e:=5) (size:=1) (bytes:=1) kz ax rfl (by omega) kz kz (qac (qaf (qac (qac (qaf (qac qah)))))) rfl fun ba ay=>?_
  refine qa4 ay (i:=7) (t:=5) (b:=aJ) (o:=aK + k * 1) (d:=23) kz (cs:=[.int .u8 ((t.getD k 0).toNat:Int)]) (v:=.int .u8 ((t.getD k 0).toNat:Int)) kz (fun w' h'=>h' ▸ (AtF.move ai aa.step nilM qaF).at_) kz kz (qac (qaf (qac (qac (qaf (qac qah)))))) rfl fun bf az=>?_
  refine qaP [8] [(0,.v (.slice A s.length c)),(1,.v (.slice A' t.length c')),(12,.v (.int .i64 ((s.length:Nat):Int))),(13,.v (.int .i64 ((k:Nat):Int))),(24,.v (.bool (((s.getD k 0).toNat:Int) != ((t.getD k 0).toNat:Int))))] 0 (qac (qaf (qac (qac (qaf (qac qah)))))) (fun _ h=>h ▸ aa.cells) rfl az fun bg af=>?_
  refine qaW kz ?_ _
  refine qab ?_
  refine qbd af (b:=((s.getD k 0).toNat:Int) != ((t.getD k 0).toNat:Int)) kz (fun ag=>?_) (fun ag=>?_)
  ·
   have aM:((s.getD k 0).toNat:Int) ≠ ((t.getD k 0).toNat:Int):=by simpa using ag
   refine qau [(4,.v (.bool false))] aa af fun bh aA=>?_
   refine wp_ret ?_
   refine qeg ?_
   refine qa2 ?_
   refine qa2 ?_
   refine qeg ?_
   refine qa2 ?_
   refine qaZ aA aa.cells (v:=.bool false) kz ?_
   exact ⟨by first | rw [← qd4 hq (by omega) hlen] | rw [← qew ‹_›] | rw [← qd3 ‹_›],aa.step⟩
  have aO:((s.getD k 0).toNat:Int) = ((t.getD k 0).toNat:Int):=by simpa using ag
  refine wp_skip ?_
  refine qa3 ?_
  refine qab ?_
  refine qaC [0,1] kz ?_
  refine qam [0,1] [] [(0,.v (.slice A s.length c)),(1,.v (.slice A' t.length c')),(12,.v (.int .i64 ((s.length:Nat):Int))),(13,.v (.int .i64 (IntKind.i64.wrap (((k:Nat):Int) + 1))))] aa af fun bi aj=>?_
  refine qag (qab ?_)
  have aB:IntKind.i64.wrap (((k:Nat):Int) + 1) = ((k + 1:Nat):Int):=qbK (by omega)
  rw [aB] at aj
  exact ⟨s.length - (k + 1),by omega,k + 1,rfl,by omega,qfA hq (by omega) hlen ‹_›,aj.pk,aa,(am.trans ap)⟩
 have aP:=of_decide_eq_false ae
 refine wp_exit ?_
 refine qaR ?_
 refine qaR ?_
 refine qbh ?_
 refine qab ?_
 refine qau [(4,.v (.bool true))] ab ac fun bj aC=>?_
 refine wp_ret ?_
 refine qaZ aC ab.cells (v:=.bool true) kz ?_
 exact ⟨by first | rw [← qd4 hq (by omega) hlen] | rw [← qew ‹_›] | rw [← qd3 ‹_›],ab.step⟩
theorem qdw (x m:Int) (hx:0 ≤ x) (hx':x < 256) (hm:0 ≤ m) (hm':m < 32768) (w:World):Calls Tryd.prog 15 #[.int .u8 x,.int .i64 m] w (qcb w (.int .i64 (Int.tmod x (m + 1)))):=by
 refine enter (n:=10) Tryd.func15 rfl Tryd.ntmps15 kz fun a hE=>?_
 have hW:=WOk.start w Nil
 refine qau [(0,.v (.int .u8 x)),(1,.v (.int .i64 m))] hW hE fun a1 hE2=>?_
 refine qae [0,1,2,3,4,5] kz ?_
 refine qam [0,1,2,3] [4,5] [(6,.v (.int .i64 (IntKind.i64.wrap x))),(8,.v (.int .i64 (IntKind.i64.wrap (m + 1))))] hW hE2 fun a3 hE4=>?_
 refine qal (qgi hE4 (k:=.i64) (p:=(IntKind.i64.wrap x)) (q:=(IntKind.i64.wrap (m + 1))) (d:=9) kz (by simp only [IntKind.wrap_i64]; omega) fun a5 hE6=>?_)
 refine qam [5] [] [(4,.v (.int .i64 (Int.tmod (IntKind.i64.wrap x) (IntKind.i64.wrap (m + 1)))))] hW hE6 fun a7 hE8=>?_
 refine qag (qab ?_)
 refine wp_ret ?_
 refine qaZ hE8 hW.cells (v:=.int .i64 (Int.tmod (IntKind.i64.wrap x) (IntKind.i64.wrap (m + 1)))) kz ?_
 exact ⟨by rw [wrap_i64 (by omega) (by omega),wrap_i64 (by omega) (by omega)],hW.step⟩
def qhF (m:Nat):Prop:=∀ (ct:List Value) (t:Tree) (w:World) (F:Nat → Nat → Prop),TreeR w F ct t → t.depth ≤ m →
  Calls Tryd.prog 12 #[.agg ct.toArray] w (qdW w F t)
theorem qf3 {m:Nat} (hg:qhF m) (ct:List Value) (t:Tree) (w:World) (F:Nat → Nat → Prop) (ht:TreeR w F ct t) (hd:t.depth ≤ m + 1) :
  Calls Tryd.prog 12 #[.agg ct.toArray] w (qdW w F t):=by
 obtain ⟨n1,s2,b3,l4,u5,A6,c7,A8,c9,ap,ar,dV,rfl,rfl,dx,dy,dW,dX⟩:=ht.open_
 have dA:=dx.small
 have dB:=dy.small
 obtain ⟨dY,dC,dZ⟩:=dX.ex
 have dD:=dC.small
 refine enter (n:=49) Tryd.func12 rfl Tryd.ntmps12 kz fun a hE=>?_
 have hW:=WOk.start w Nil
 refine qae [0,1] kz ?_
 refine qal (qcZ hW hE (d:=1) (cs:=[.int .i64 n1,.slice A6 s2.length c7,.bool b3,.slice A8 l4.length c9,.slice ap u5.length ar]) kz fun bH fo fq d5 d6 d7 cZ c5=>?_)
 refine qal (qaO cZ c5 (d:=2) (cs:=[.int .i64 0,.slice none 0 0,.bool false,.slice none 0 0,.slice none 0 0]) kz fun bI fr ft d8 d9 ea bK c6=>?_)
 refine qag (qab ?_)
 refine qae [0,1,2,3,4,5,6,7,8] kz ?_
 refine qam [0,1,2,3,4,5,6] [7,8] [(1,.p 0 0),(2,.p 1 0),(14,.v (.agg #[.int .i64 n1,.slice A6 s2.length c7,.bool b3,.slice none 0 0,.slice none 0 0]))] bK c6 fun fu da=>?_
 refine qal (qaO bK da (d:=3) (cs:=[.int .i64 0,.slice none 0 0,.bool false,.slice none 0 0,.slice none 0 0]) kz fun bJ fv fw eb ec ee db dc=>?_)
 refine qal (qaq db dc (oi:=2) (cs:=[.int .i64 n1,.slice A6 s2.length c7,.bool b3,.slice none 0 0,.slice none 0 0]) kz fun fx ef bB de=>?_)
 refine qag (qab ?_)
 refine wp_seq ?_
 refine qau [(1,.p 0 0),(2,.p 1 0),(3,.p 2 0),(16,.v (.slice A8 l4.length c9)),(17,.v (.int .i64 ((l4.length:Nat):Int))),(18,.v (.int .i64 0))] bB de fun fy df=>?_
 refine wp_block ?_
 have bL:=bB.addNil 37 5
 have eg:=bB.frNil 37 5
 refine wp_loop_ghost (fun n_ a_ w_=>∃ (k:Nat) (A_:Option Addr) (c_:Nat) (xs:List Value) (css:List (List Value)),n_ = l4.length - k ∧ k ≤ l4.length ∧ (Trees w_ (Imm F w w_ [⟨bH,0,[.int .i64 n1,.slice A6 s2.length c7,.bool b3,.slice A8 l4.length c9,.slice ap u5.length ar],true⟩,⟨bI,0,[.int .i64 0,.slice none 0 0,.bool false,.slice none 0 0,.slice none 0 0],true⟩,⟨bJ,0,[.int .i64 n1,.slice A6 s2.length c7,.bool b3,.slice A_ k c_,.slice none 0 0],true⟩] [⟨A_,c_,37,5,k,xs⟩]) xs (l4.take k) css) ∧ LInv bL 49 [⟨bH,0,[.int .i64 n1,.slice A6 s2.length c7,.bool b3,.slice A8 l4.length c9,.slice ap u5.length ar],true⟩,⟨bI,0,[.int .i64 0,.slice none 0 0,.bool false,.slice none 0 0,.slice none 0 0],true⟩,⟨bJ,0,[.int .i64 n1,.slice A6 s2.length c7,.bool b3,.slice A_ k c_,.slice none 0 0],true⟩] [⟨A_,c_,37,5,k,xs⟩] [(1,.p 0 0),(2,.p 1 0),(3,.p 2 0),(16,.v (.slice A8 l4.length c9)),(17,.v (.int .i64 ((l4.length:Nat):Int))),(18,.v (.int .i64 ((k:Nat):Int)))] a_ w_) (l4.length) ⟨0,none,0,[],[],by omega,by omega,Trees.nil _ _,df.pk,bL,Fr.refl _ _ _⟩ ?_
 rintro fA fB fC ⟨k,A_,c_,xs,css,eh,ei,hT,dg,aw,dh⟩
 refine qau [(1,.p 0 0),(2,.p 1 0),(3,.p 2 0),(16,.v (.slice A8 l4.length c9)),(17,.v (.int .i64 ((l4.length:Nat):Int))),(18,.v (.int .i64 ((k:Nat):Int))),(19,.v (.bool (decide (((k:Nat):Int) < ((l4.length:Nat):Int)))))] aw dg fun fD bC=>?_
 refine wp_seq ?_
 refine qbd bC (b:=decide (((k:Nat):Int) < ((l4.length:Nat):Int))) kz (fun bD=>?_) (fun bD=>?_)
 ·
  have ej:=of_decide_eq_true bD
  refine wp_skip ?_
  refine qab ?_
  refine wp_seq ?_
  refine wp_block ?_
  refine qae [0,1,2,3] kz ?_
  obtain ⟨ek,em,di,eo,bh⟩:=Slots.get dy (i:=k) (by omega)
  obtain ⟨ep,bE⟩:∃ x,l4[k]? = some x:=⟨_,List.getElem?_eq_getElem (by omega)⟩
  have bF:=dW k ep bE
  obtain ⟨bM,bN,bO,bP,bQ,bR,bS,bT,bU,bV,bW,eu,rfl,bi,ew,ey,fE,fF⟩:=bF.open_
  rw [bi] at bF
  have dE:=ew.small
  have dF:=ey.small
  rw [bi] at bh
  refine qal (qao bC (t:=23) (A:=A8) (m:=l4.length) (q:=((k:Nat):Int)) (d:=20) kz (e:=26) (size:=5) (bytes:=88) kz di rfl (by omega) fun fG bX=>?_)
  refine qal (qat bX (t:=26) (b:=ek) (o:=em + k * 5) (d:=21) kz (cs:=[.int .i64 bM,.slice bR bN.length bS,.bool bO,.slice bT bP.length bU,.slice bV bQ.length bW]) (v:=.agg #[.int .i64 bM,.slice bR bN.length bS,.bool bO,.slice bT bP.length bU,.slice bV bQ.length bW]) kz (AtF.move bh aw.step nilM qaF).at_ fun ez bY=>?_)
  refine qal (qaO aw bY (d:=5) (cs:=[.int .i64 0,.slice none 0 0,.bool false,.slice none 0 0,.slice none 0 0]) kz fun eB eC eD dG dH ax bZ b8=>?_)
  refine qal (qaq bZ b8 (oi:=3) (cs:=[.int .i64 bM,.slice bR bN.length bS,.bool bO,.slice bT bP.length bU,.slice bV bQ.length bW]) kz fun eE ay cd ce=>?_)
  refine qag (qab ?_)
  refine qc2 7 kz cd fun eF az ag cg=>?_
  refine qaP [0,1,2] [(1,.p 0 0),(2,.p 1 0),(3,.p 2 0),(16,.v (.slice A8 l4.length c9)),(17,.v (.int .i64 ((l4.length:Nat):Int))),(18,.v (.int .i64 ((k:Nat):Int))),(23,.v (.slice A_ k c_)),(24,.v (.agg #[.int .i64 bM,.slice bR bN.length bS,.bool bO,.slice bT bP.length bU,.slice bV bQ.length bW]))] 5 (qaf (qac (qac (qaf (qac qah))))) (fun _ h=>h.cells) cg ce fun eG cm=>?_
  refine qaE (i:=3) kz (qaw cm (f:=12) (vs:=[.agg #[.int .i64 bM,.slice bR bN.length bS,.bool bO,.slice bT bP.length bU,.slice bV bQ.length bW]]) (d:=25) kz Tryd.call12 ( hg _ _ _ _ (bF.move ag.step nilM ag.imm) (by have h_:=qd8 bE; rw [qc5] at hd; omega)) ?_)
  rintro e_ eH ⟨dI,rfl,cq,aA⟩
  have aB:=cq.move (Step.refl _ Nil) nilM (ag.laid (G:=F) aA)
  obtain ⟨aC,aD,aE,aF,aG,aH,aI,aJ,aK,aL,aM,dJ,dK,aO,dj,dl,eI,eJ⟩:=aB.open_
  rw [aO] at aB
  have dp:=dj.small
  have dq:=dl.small
  rw [aO]
  refine ⟨_,rfl,fun eK cr=>?_⟩
  have bj:=ag.next_nil aA
  have ae:=ag.frN aA
  have cu:=TT.ofW ae bj
  refine ⟨fun _=>cu,?_⟩
  refine qaE (i:=4) kz (qcv bj cr (e:=37) (size:=5) (len:=1) (cs:=[.int .i64 aC,.slice aH aD.length aI,.bool aE,.slice aJ aF.length aK,.slice aL aG.length aM]) (d:=26) kz kz fun dr eL eM dL dM aa au cw=>?_)
  have cz:=TT.ofW (ae.trans aa) au
  refine ⟨fun _=>cz,?_⟩
  refine qaE (i:=5) kz (qa7 au cw (k:=0) (d:=27) (t:=34) (e:=37) (size:=5) (bytes:=88) (A:=A_) (As:=(some ⟨dr,0,none⟩)) (m0:=k) (c:=c_) (m:=1) (cs:=1) (xs:=xs) (news:=[.int .i64 aC,.slice aH aD.length aI,.bool aE,.slice aJ aF.length aK,.slice aL aG.length aM]) kz kz rfl (qcu (au.own 1 _ rfl) (qbI kz)) (qcQ (au.own 1 _ rfl)) (by omega) fun aP aQ eN eO af bk cA=>?_)
  have bn:=TT.ofW ((ae.trans aa).trans af) bk
  refine ⟨fun _=>bn,?_⟩
  refine qaP [6] [(1,.p 0 0),(2,.p 1 0),(3,.p 2 0),(16,.v (.slice A8 l4.length c9)),(17,.v (.int .i64 ((l4.length:Nat):Int))),(18,.v (.int .i64 ((k:Nat):Int))),(27,.v (.slice aP (k + 1) aQ)),(28,.p 2 3)] 1 (qaf (qac (qac (qaf (qac qah))))) (fun _ h=>h.cells) bn cA fun eP cB=>?_
  refine qaE (i:=7) kz (qaq bk cB (oi:=2) (cs:=[.int .i64 n1,.slice A6 s2.length c7,.bool b3,.slice aP (k + 1) aQ,.slice none 0 0]) kz fun eQ ah bo cC=>?_)
  refine ⟨fun h=>absurd rfl h,?_⟩
  refine qaW kz ?_ _
  refine qa3 ?_
  refine qab ?_
  refine qaC [0,1] kz ?_
  refine qam [0,1] [] [(1,.p 0 0),(2,.p 1 0),(3,.p 2 0),(16,.v (.slice A8 l4.length c9)),(17,.v (.int .i64 ((l4.length:Nat):Int))),(18,.v (.int .i64 (IntKind.i64.wrap (((k:Nat):Int) + 1))))] bo cC fun eR cD=>?_
  refine qag (qab ?_)
  obtain ⟨bp,cE,ai⟩:=bo.cutB cD 3 [⟨bH,0,[.int .i64 n1,.slice A6 s2.length c7,.bool b3,.slice A8 l4.length c9,.slice ap u5.length ar],true⟩,⟨bI,0,[.int .i64 0,.slice none 0 0,.bool false,.slice none 0 0,.slice none 0 0],true⟩,⟨bJ,0,[.int .i64 n1,.slice A6 s2.length c7,.bool b3,.slice aP (k + 1) aQ,.slice none 0 0],true⟩] [(1,.p 0 0),(2,.p 1 0),(3,.p 2 0),(16,.v (.slice A8 l4.length c9)),(17,.v (.int .i64 ((l4.length:Nat):Int))),(18,.v (.int .i64 (IntKind.i64.wrap (((k:Nat):Int) + 1))))]
  obtain ⟨cG,aj⟩:=cE.cutR 1 [⟨aP,aQ,37,5,k + 1,xs ++ [.int .i64 aC,.slice aH aD.length aI,.bool aE,.slice aJ aF.length aK,.slice aL aG.length aM]⟩]
  have cH:IntKind.i64.wrap (((k:Nat):Int) + 1) = ((k + 1:Nat):Int):=qbK (by omega)
  rw [cH] at bp
  exact ⟨l4.length - (k + 1),by omega,k + 1,aP,aQ,xs ++ [Value.int .i64 aC,.slice aH aD.length aI,.bool aE,.slice aJ aF.length aK,.slice aL aG.length aM],(css ++ [[Value.int .i64 aC,.slice aH aD.length aI,.bool aE,.slice aJ aF.length aK,.slice aL aG.length aM]]),rfl,by omega,by rw [qcm bE]; exact (hT.move ((((((((ax.trans ay).trans az).trans ae).trans aa).trans af).trans ah).trans ai).trans aj).step immM ((((((((ax.trans ay).trans az).trans ae).trans aa).trans af).trans ah).trans ai).trans aj).to').snoc (aB.move ((((aa.trans af).trans ah).trans ai).trans aj).step immM ((((aa.trans af).trans ah).trans ai).trans aj).to'),bp.pk,cG,(((((((((dh.trans ax).trans ay).trans az).trans ae).trans aa).trans af).trans ah).trans ai).trans aj)⟩
 have dN:=of_decide_eq_false bD
 refine wp_exit ?_
 refine qaR ?_
 refine qaR ?_
 refine qbh ?_
 refine qab ?_
 refine wp_seq ?_
 refine qau [(2,.p 1 0),(3,.p 2 0),(31,.v (.slice ap u5.length ar)),(32,.v (.int .i64 ((u5.length:Nat):Int))),(33,.v (.int .i64 0))] aw bC fun eS cI=>?_
 refine wp_block ?_
 have hk0:k = l4.length:=by omega
 have bq:=aw.addNil 64 2
 have bt:=aw.frNil 64 2
 refine wp_loop_ghost (fun n_ a_ w_=>∃ (q:Nat) (A5_:Option Addr) (c5_:Nat) (ys:List Value) (dss:List (List Value)),n_ = u5.length - q ∧ q ≤ u5.length ∧ (Tags w_ (Imm F w w_ [⟨bH,0,[.int .i64 n1,.slice A6 s2.length c7,.bool b3,.slice A8 l4.length c9,.slice ap u5.length ar],true⟩,⟨bI,0,[.int .i64 0,.slice none 0 0,.bool false,.slice none 0 0,.slice none 0 0],true⟩,⟨bJ,0,[.int .i64 n1,.slice A6 s2.length c7,.bool b3,.slice A_ k c_,.slice A5_ q c5_],true⟩] [⟨A_,c_,37,5,k,xs⟩,⟨A5_,c5_,64,2,q,ys⟩]) ys (u5.take q) dss) ∧ LInv bq 49 [⟨bH,0,[.int .i64 n1,.slice A6 s2.length c7,.bool b3,.slice A8 l4.length c9,.slice ap u5.length ar],true⟩,⟨bI,0,[.int .i64 0,.slice none 0 0,.bool false,.slice none 0 0,.slice none 0 0],true⟩,⟨bJ,0,[.int .i64 n1,.slice A6 s2.length c7,.bool b3,.slice A_ k c_,.slice A5_ q c5_],true⟩] [⟨A_,c_,37,5,k,xs⟩,⟨A5_,c5_,64,2,q,ys⟩] [(2,.p 1 0),(3,.p 2 0),(31,.v (.slice ap u5.length ar)),(32,.v (.int .i64 ((u5.length:Nat):Int))),(33,.v (.int .i64 ((q:Nat):Int)))] a_ w_) (u5.length) ⟨0,none,0,[],[],by omega,by omega,Tags.nil _ _,cI.pk,bq,Fr.refl _ _ _⟩ ?_
 rintro eU eV eW ⟨q,A5_,c5_,ys,dss,dO,dP,hU,cJ,ak,aR⟩
 refine qau [(2,.p 1 0),(3,.p 2 0),(31,.v (.slice ap u5.length ar)),(32,.v (.int .i64 ((u5.length:Nat):Int))),(33,.v (.int .i64 ((q:Nat):Int))),(34,.v (.bool (decide (((q:Nat):Int) < ((u5.length:Nat):Int)))))] ak cJ fun eX aS=>?_
 refine wp_seq ?_
 refine qbd aS (b:=decide (((q:Nat):Int) < ((u5.length:Nat):Int))) kz (fun aT=>?_) (fun aT=>?_)
 ·
  have dQ:=of_decide_eq_true aT
  refine wp_skip ?_
  refine qab ?_
  refine wp_seq ?_
  refine wp_block ?_
  refine qae [0,1,2,3] kz ?_
  obtain ⟨dt,du,cK,dR,aU⟩:=Slots.get dC (i:=q) (by omega)
  obtain ⟨⟨ab,ac⟩,bu⟩:∃ x,u5[q]? = some x:=⟨_,List.getElem?_eq_getElem (by omega)⟩
  obtain ⟨⟨al,am,bG,cL⟩,dv,dw⟩:=dZ q ab ac bu
  rw [bG] at aU
  refine qal (qao aS (t:=24) (A:=ap) (m:=u5.length) (q:=((q:Nat):Int)) (d:=35) kz (e:=65) (size:=2) (bytes:=32) kz cK rfl (by omega) fun eY cM=>?_)
  refine qal (qat cM (t:=65) (b:=dt) (o:=du + q * 2) (d:=36) kz (cs:=[.int .u32 ab,.slice al ac.length am]) (v:=.agg #[.int .u32 ab,.slice al ac.length am]) kz (AtF.move aU ak.step nilM qaF).at_ fun eZ cN=>?_)
  refine qal (qaO ak cN (d:=7) (cs:=[.int .u32 0,.slice none 0 0]) kz fun e9 fa fb dS dT aV cO cP=>?_)
  refine qal (qaq cO cP (oi:=3) (cs:=[.int .u32 ab,.slice al ac.length am]) kz fun fe aW bw cQ=>?_)
  refine qag (qab ?_)
  refine qaC [0,1,2,3,4,5,6,7,8,9,10] kz ?_
  refine qam [0,1,2,3,4,5,6] [7,8,9,10] [(2,.p 1 0),(3,.p 2 0),(31,.v (.slice ap u5.length ar)),(32,.v (.int .i64 ((u5.length:Nat):Int))),(33,.v (.int .i64 ((q:Nat):Int))),(38,.v (.slice A5_ q c5_)),(43,.v (.agg #[.int .u32 ab,.slice al ac.length am]))] bw cQ fun ff cR=>?_
  refine qdV bw cR (k:=1) (e:=64) (size:=2) (len:=1) (cs:=[.int .u32 ab,.slice al ac.length am]) (d1:=44) (d:=45) kz (t:=35) (bytes:=32) kz (fun _=>by kernel_rfl) rfl kz (by omega) fun bf bg fg fh aX bx ⟨_,cS⟩=>?_
  refine qam [9] [10] [(2,.p 1 0),(3,.p 2 0),(31,.v (.slice ap u5.length ar)),(32,.v (.int .i64 ((u5.length:Nat):Int))),(33,.v (.int .i64 ((q:Nat):Int))),(45,.v (.slice bf (q + 1) bg)),(46,.p 2 4)] bx cS fun fi cT=>?_
  refine qal (qaq bx cT (oi:=2) (cs:=[.int .i64 n1,.slice A6 s2.length c7,.bool b3,.slice A_ k c_,.slice bf (q + 1) bg]) kz fun fj aY bz cU=>?_)
  refine qag ?_
  refine qa3 ?_
  refine qab ?_
  refine qaC [0,1] kz ?_
  refine qam [0,1] [] [(2,.p 1 0),(3,.p 2 0),(31,.v (.slice ap u5.length ar)),(32,.v (.int .i64 ((u5.length:Nat):Int))),(33,.v (.int .i64 (IntKind.i64.wrap (((q:Nat):Int) + 1))))] bz cU fun fk cV=>?_
  refine qag (qab ?_)
  obtain ⟨bA,aZ,ba⟩:=bz.cutB cV 3 [⟨bH,0,[.int .i64 n1,.slice A6 s2.length c7,.bool b3,.slice A8 l4.length c9,.slice ap u5.length ar],true⟩,⟨bI,0,[.int .i64 0,.slice none 0 0,.bool false,.slice none 0 0,.slice none 0 0],true⟩,⟨bJ,0,[.int .i64 n1,.slice A6 s2.length c7,.bool b3,.slice A_ k c_,.slice bf (q + 1) bg],true⟩] [(2,.p 1 0),(3,.p 2 0),(31,.v (.slice ap u5.length ar)),(32,.v (.int .i64 ((u5.length:Nat):Int))),(33,.v (.int .i64 (IntKind.i64.wrap (((q:Nat):Int) + 1))))]
  have cW:IntKind.i64.wrap (((q:Nat):Int) + 1) = ((q + 1:Nat):Int):=qbK (by omega)
  rw [cW] at bA
  exact ⟨u5.length - (q + 1),by omega,q + 1,bf,bg,ys ++ [Value.int .u32 ab,.slice al ac.length am],(dss ++ [[Value.int .u32 ab,.slice al ac.length am]]),rfl,by omega,by rw [qcm bu]; exact (hU.move ((((aV.trans aW).trans aX).trans aY).trans ba).step immM ((((aV.trans aW).trans aX).trans aY).trans ba).to').snoc (c:=[.int .u32 ab,.slice al ac.length am]) (x:=(ab,ac)) ⟨⟨_,_,rfl,(cL.move aZ.step nilM aZ.imm)⟩,dv,dw⟩,bA.pk,aZ,(((((aR.trans aV).trans aW).trans aX).trans aY).trans ba)⟩
 have dU:=of_decide_eq_false aT
 refine wp_exit ?_
 refine qaR ?_
 refine qaR ?_
 refine qbh ?_
 refine qab ?_
 refine qae [0,1] kz ?_
 refine qam [0] [1] [(2,.p 1 0),(48,.v (.agg #[.int .i64 n1,.slice A6 s2.length c7,.bool b3,.slice A_ k c_,.slice A5_ q c5_]))] ak aS fun fl cX=>?_
 refine qal (qaq ak cX (oi:=1) (cs:=[.int .i64 n1,.slice A6 s2.length c7,.bool b3,.slice A_ k c_,.slice A5_ q c5_]) kz fun fm av ao cY=>?_)
 refine qag (qab ?_)
 refine wp_ret ?_
 refine qaZ cY ao.cells (v:=.agg #[.int .i64 n1,.slice A6 s2.length c7,.bool b3,.slice A_ k c_,.slice A5_ q c5_]) kz ?_
 have hq0:q = u5.length:=by omega
 have hT':=(hT.move ((bt.trans aR).trans av).step immM ((bt.trans aR).trans av).to')
 have hU':=(hU.move av.step immM av.to')
 rw [show l4.take k = l4 by rw [hk0,List.take_length]] at hT'
 rw [show u5.take q = u5 by rw [hq0,List.take_length]] at hU'
 exact qgm ao rfl (dx.move ao.step nilM qhg) hk0 (qeR ao (k:=0) rfl hT' hk0 (by omega)) hq0 (qhf ao (k:=1) rfl hU' hq0 (by omega)) rfl
theorem lGot:∀ m,qhF m
 | 0=>fun ct t w F ht hd=>by
  obtain ⟨n,s,b,l,u,A1,c1,A2,c2,A3,c3,xs,rfl,_⟩:=ht.open_
  rw [qc5] at hd; omega
 | m + 1=>qf3 (lGot m)
theorem qf4 {u:List (Int × Bs)} {A:Option Addr} {c:Nat} {w:World} {F:Nat → Nat → Prop} (hu:TagsR w F A c u) (hsrt:qcP u):Calls Tryd.prog 63 #[.slice A u.length c] w (qcb w (.tuple #[])):=by
 obtain ⟨cs1,h2,h3⟩:=hu.ex
 have hsm4:=h2.small
 refine enter (n:=45) Tryd.func63 rfl Tryd.ntmps63 kz fun a hE=>?_
 have hW:=WOk.start w Nil
 refine qau [(0,.v (.slice A u.length c)),(5,.v (.int .i64 ((u.length:Nat):Int))),(6,.v (.int .i64 0))] hW hE fun a5 hE6=>?_
 refine wp_block ?_
 refine wp_loop_ghost (fun n_ a_ w_=>∃ (k:Nat),n_ = u.length - k ∧ k ≤ u.length ∧ LInv hW 45 [] [] [(0,.v (.slice A u.length c)),(5,.v (.int .i64 ((u.length:Nat):Int))),(6,.v (.int .i64 ((k:Nat):Int)))] a_ w_) (u.length) ⟨0,by omega,by omega,hE6.pk,hW,Fr.refl _ _ _⟩ ?_
 rintro n7 a8 w9 ⟨k,aX,aY,aB,ab,aj⟩
 refine qau [(0,.v (.slice A u.length c)),(5,.v (.int .i64 ((u.length:Nat):Int))),(6,.v (.int .i64 ((k:Nat):Int))),(7,.v (.bool (decide (((k:Nat):Int) < ((u.length:Nat):Int)))))] ab aB fun bp ah=>?_
 refine wp_seq ?_
 refine qbd ah (b:=decide (((k:Nat):Int) < ((u.length:Nat):Int))) kz (fun ai=>?_) (fun ai=>?_)
 ·
  have aZ:=of_decide_eq_true ai
  refine wp_skip ?_
  refine qab ?_
  refine wp_seq ?_
  refine wp_block ?_
  refine qau [(0,.v (.slice A u.length c)),(2,.v (.int .i64 ((k:Nat):Int))),(5,.v (.int .i64 ((u.length:Nat):Int))),(6,.v (.int .i64 ((k:Nat):Int)))] ab ah fun bq aC=>?_
  refine qau [(0,.v (.slice A u.length c)),(3,.v (.int .i64 ((k:Nat):Int))),(5,.v (.int .i64 ((u.length:Nat):Int))),(6,.v (.int .i64 ((k:Nat):Int)))] ab aC fun bt aD=>?_
  refine wp_block ?_
  refine qeV ?_
  refine wp_seq ?_
  refine qcl kz ab fun bu ak aa=>?_
  refine qaP [0,1,2] [(0,.v (.slice A u.length c)),(3,.v (.int .i64 ((k:Nat):Int))),(5,.v (.int .i64 ((u.length:Nat):Int))),(6,.v (.int .i64 ((k:Nat):Int))),(12,.v (.bool (decide (((k:Nat):Int) > 0))))] 13 (qac (qac (qac (qaf (qaf (qac (qac (qaf qah)))))))) (fun _ h=>h ▸ aa.cells) rfl aD fun bw al=>?_
  refine (Bool.eq_false_or_eq_true (decide (((k:Nat):Int) > 0))).elim (fun ac=>?_) (fun ac=>?_)
  ·
   have ba:=of_decide_eq_true ac
   have aE:=al.cast (env':=[(0,.v (.slice A u.length c)),(3,.v (.int .i64 ((k:Nat):Int))),(5,.v (.int .i64 ((u.length:Nat):Int))),(6,.v (.int .i64 ((k:Nat):Int))),(12,.v (.bool true))]) (by rw [ac])
   refine qaP [3,4,8,9,10] [(0,.v (.slice A u.length c)),(3,.v (.int .i64 ((k:Nat):Int))),(5,.v (.int .i64 ((u.length:Nat):Int))),(6,.v (.int .i64 ((k:Nat):Int))),(12,.v (.bool true)),(13,.v (.slice A u.length c)),(14,.v (.int .i64 ((k:Nat):Int))),(18,.v (.slice A u.length c)),(20,.v (.int .i64 (IntKind.i64.wrap (((k:Nat):Int) - 1))))] 8 (qac (qac (qac (qaf (qaf (qac (qac (qaf qah)))))))) (fun _ h=>h ▸ aa.cells) rfl aE fun bx aF=>?_
   obtain ⟨az,aA,aG,bf,ae⟩:=Slots.get h2 (i:=k) (by omega)
   obtain ⟨⟨af,bg⟩,am⟩:∃ x,u[k]? = some x:=⟨_,List.getElem?_eq_getElem (by omega)⟩
   obtain ⟨⟨bz,bA,ao,bh⟩,bB,bC⟩:=h3 k af bg am
   rw [ao] at ae
   refine qaL aF (i:=5) (t:=24) (A:=A) (m:=u.length) (q:=((k:Nat):Int)) (d:=15) kz (e:=65) (size:=2) (bytes:=32) kz aG rfl (by omega) kz kz (qac (qac (qac (qaf (qaf (qac (qac (qaf qah)))))))) rfl fun bD aH=>?_
   refine qaP [6] [(0,.v (.slice A u.length c)),(3,.v (.int .i64 ((k:Nat):Int))),(5,.v (.int .i64 ((u.length:Nat):Int))),(6,.v (.int .i64 ((k:Nat):Int))),(12,.v (.bool true)),(16,.v (.pointer (some ⟨az,aA + k * 2,none⟩))),(18,.v (.slice A u.length c)),(20,.v (.int .i64 (IntKind.i64.wrap (((k:Nat):Int) - 1))))] 6 (qac (qac (qac (qaf (qaf (qac (qac (qaf qah)))))))) (fun _ h=>h ▸ aa.cells) rfl aH fun bE aI=>?_
   refine qa4 aI (i:=7) (t:=62) (b:=az) (o:=aA + k * 2) (d:=17) kz (cs:=[.int .u32 af]) (v:=.int .u32 af) kz (fun w' h'=>h' ▸ (At.drop (AtF.move ae aa.step nilM qaF).at_ 0 1)) kz kz (qac (qac (qac (qaf (qaf (qac (qac (qaf qah)))))))) rfl fun bF aJ=>?_
   have aK:IntKind.i64.wrap (((k:Nat):Int) - 1) = (((k - 1):Nat):Int):=by simp only [qgf,qap,qcf,IntKind.wrap_i64,IntKind.wrap_i32]; omega
   have aL:=EnvOk.pick aJ (ks:=[0,3,5,6,12,16,18,20,17]) (env':=[(0,.v (.slice A u.length c)),(3,.v (.int .i64 ((k:Nat):Int))),(5,.v (.int .i64 ((u.length:Nat):Int))),(6,.v (.int .i64 ((k:Nat):Int))),(12,.v (.bool true)),(16,.v (.pointer (some ⟨az,aA + k * 2,none⟩))),(18,.v (.slice A u.length c)),(20,.v (.int .i64 (IntKind.i64.wrap (((k:Nat):Int) - 1)))),(17,.v (.int .u32 af))]) kz
   have aM:=aL.cast (env':=[(0,.v (.slice A u.length c)),(3,.v (.int .i64 ((k:Nat):Int))),(5,.v (.int .i64 ((u.length:Nat):Int))),(6,.v (.int .i64 ((k:Nat):Int))),(12,.v (.bool true)),(16,.v (.pointer (some ⟨az,aA + k * 2,none⟩))),(18,.v (.slice A u.length c)),(20,.v (.int .i64 (((k - 1):Nat):Int))),(17,.v (.int .u32 af))]) (by rw [aK])
   obtain ⟨aV,aW,aO,bi,ag⟩:=Slots.get h2 (i:=(k - 1)) (by omega)
   obtain ⟨⟨ap,bj⟩,ar⟩:∃ x,u[(k - 1)]? = some x:=⟨_,List.getElem?_eq_getElem (by omega)⟩
   obtain ⟨⟨bG,bH,au,bk⟩,bI,bJ⟩:=h3 (k - 1) ap bj ar
   rw [au] at ag
   refine qaL aM (i:=11) (t:=24) (A:=A) (m:=u.length) (q:=(((k - 1):Nat):Int)) (d:=21) kz (e:=65) (size:=2) (bytes:=32) kz aO rfl (by omega) kz kz (qac (qac (qac (qaf (qaf (qac (qac (qaf qah)))))))) rfl fun bK aP=>?_
   refine qaP [12] [(0,.v (.slice A u.length c)),(3,.v (.int .i64 ((k:Nat):Int))),(5,.v (.int .i64 ((u.length:Nat):Int))),(6,.v (.int .i64 ((k:Nat):Int))),(12,.v (.bool true)),(17,.v (.int .u32 af)),(22,.v (.pointer (some ⟨aV,aW + (k - 1) * 2,none⟩)))] 3 (qac (qac (qac (qaf (qaf (qac (qac (qaf qah)))))))) (fun _ h=>h ▸ aa.cells) rfl aP fun bL aQ=>?_
   refine qa4 aQ (i:=13) (t:=62) (b:=aV) (o:=aW + (k - 1) * 2) (d:=23) kz (cs:=[.int .u32 ap]) (v:=.int .u32 ap) kz (fun w' h'=>h' ▸ (At.drop (AtF.move ag aa.step nilM qaF).at_ 0 1)) kz kz (qac (qac (qac (qaf (qaf (qac (qac (qaf qah)))))))) rfl fun bM aR=>?_
   refine qaP [14,15] [(0,.v (.slice A u.length c)),(3,.v (.int .i64 ((k:Nat):Int))),(5,.v (.int .i64 ((u.length:Nat):Int))),(6,.v (.int .i64 ((k:Nat):Int))),(25,.v (.bool (decide (af < ap))))] 0 (qac (qac (qac (qaf (qaf (qac (qac (qaf qah)))))))) (fun _ h=>h ▸ aa.cells) rfl aR fun bN av=>?_
   refine qaW kz ?_ _
   refine qab ?_
   refine qan av (b:=decide (af < ap)) kz (decide_eq_false (qfn hsrt am ar (by omega))) ?_
   refine wp_exit ?_
   refine qaR ?_
   refine qaR ?_
   refine qbh ?_
   refine qa3 ?_
   refine qab ?_
   refine qaC [0,1] kz ?_
   refine qam [0,1] [] [(0,.v (.slice A u.length c)),(5,.v (.int .i64 ((u.length:Nat):Int))),(6,.v (.int .i64 (IntKind.i64.wrap (((k:Nat):Int) + 1))))] aa av fun bO aw=>?_
   refine qag (qab ?_)
   have aS:IntKind.i64.wrap (((k:Nat):Int) + 1) = ((k + 1:Nat):Int):=qbK (by omega)
   rw [aS] at aw
   exact ⟨u.length - (k + 1),by omega,k + 1,rfl,by omega,aw.pk,aa,(aj.trans ak)⟩
  have bn:=of_decide_eq_false ac
  have aT:=al.cast (env':=[(0,.v (.slice A u.length c)),(3,.v (.int .i64 ((k:Nat):Int))),(5,.v (.int .i64 ((u.length:Nat):Int))),(6,.v (.int .i64 ((k:Nat):Int))),(12,.v (.bool false))]) (by rw [ac])
  refine qaP [3,4,5,6,7,8,9,10,11,12,13,14,15] [(0,.v (.slice A u.length c)),(3,.v (.int .i64 ((k:Nat):Int))),(5,.v (.int .i64 ((u.length:Nat):Int))),(6,.v (.int .i64 ((k:Nat):Int))),(25,.v (.bool false))] 0 (qac (qac (qac (qaf (qaf (qac (qac (qaf qah)))))))) (fun _ h=>h ▸ aa.cells) rfl aT fun bP ax=>?_
  refine qaW kz ?_ _
  refine qab ?_
  refine qan ax (b:=false) kz rfl ?_
  refine wp_exit ?_
  refine qaR ?_
  refine qaR ?_
  refine qbh ?_
  refine qa3 ?_
  refine qab ?_
  refine qaC [0,1] kz ?_
  refine qam [0,1] [] [(0,.v (.slice A u.length c)),(5,.v (.int .i64 ((u.length:Nat):Int))),(6,.v (.int .i64 (IntKind.i64.wrap (((k:Nat):Int) + 1))))] aa ax fun bQ ay=>?_
  refine qag (qab ?_)
  have aU:IntKind.i64.wrap (((k:Nat):Int) + 1) = ((k + 1:Nat):Int):=qbK (by omega)
  rw [aU] at ay
  exact ⟨u.length - (k + 1),by omega,k + 1,rfl,by omega,ay.pk,aa,(aj.trans ak)⟩
 have bo:=of_decide_eq_false ai
 refine wp_exit ?_
 refine qaR ?_
 refine qaR ?_
 refine qbh ?_
 refine qbi ah ab.cells (v:=.tuple #[]) kz ?_
 exact ⟨rfl,ab.step⟩
theorem qes:qee Tryd.prog 67 65:=by
 intro w B cp c n k A Av x x0 x1 x2 x3 xs G hbx ho hG hn
 refine enter (n:=14) Tryd.func67 rfl Tryd.ntmps67 kz fun a hE=>?_
 have hW:=hbx.wok
 have hE0:=(hE.grow ⟨B,0,[x0,x1,x2,x3,.slice A n cp],true⟩).recast 2 (.v (.pointer (some ⟨B,0,none⟩))) (.p 0 0) rfl rfl (by simp [SV.ok])
 have hsm:=Slots.small ho
 have ap:=hE0.pk (env':=[(0,.v (.int .u32 k)),(1,.v (.slice Av x.length c)),(2,.p 0 0)])
 refine qc2 9 kz hW fun w1 hF2 hW3 hT4=>?_
 refine qaP [0,1,2,3] [(2,.p 0 0),(6,.v (.slice A n cp)),(7,.v (.int .u32 k)),(8,.v (.slice Av x.length c))] 6 qah (fun _ h=>h.cells) hT4 ap fun a5 hE6=>?_
 have hW7:=hW3.addNil 5 1
 have hF8:=hW3.frNil 5 1
 refine qaE (i:=4) kz (qa7 hW7 hE6 (k:=1) (d:=9) (t:=22) (e:=5) (size:=1) (bytes:=1) (A:=none) (As:=Av) (m0:=0) (c:=0) (m:=x.length) (cs:=c) (xs:=[]) (news:=bc x) kz kz rfl (ho.move hW7.step (fun b o h _=>hG b o h) qaF).src (ho.move hW7.step (fun b o h _=>hG b o h) qaF).cap (by first | omega | (simp only [List.length_nil]; omega) | (simp; omega)) fun A9 aa aK aL ac ar au=>?_)
 have av:(⟨A9,aa,5,1,0 + x.length,[] ++ bc x⟩:Rw) = brow A9 aa 5 x:=by rw [List.nil_append,Nat.zero_add]
 obtain ⟨af,ae⟩:=ar.rowEq 1 [⟨A,cp,65,2,n,xs⟩,brow A9 aa 5 x] av
 have aw:=EnvOk.pick au (ks:=[2,6,7,8,9]) (env':=[(2,.p 0 0),(6,.v (.slice A n cp)),(7,.v (.int .u32 k)),(8,.v (.slice Av x.length c)),(9,.v (.slice A9 (0 + x.length) aa))]) kz
 have ax:=aw.cast (env':=[(2,.p 0 0),(6,.v (.slice A n cp)),(7,.v (.int .u32 k)),(8,.v (.slice Av x.length c)),(9,.v (.slice A9 x.length aa))]) (by simp only [List.length_append,List.length_cons,List.length_nil,Nat.zero_add])
 have ag:=TT.ofW ((hF8.trans ac).trans ae) af
 refine ⟨fun _=>ag,?_⟩
 refine qaP [5] [(2,.p 0 0),(6,.v (.slice A n cp)),(10,.v (.agg #[.int .u32 k,.slice A9 x.length aa]))] 4 qah (fun _ h=>h.cells) ag ax fun aM ay=>?_
 refine qaE (i:=6) kz (qcv af ay (e:=65) (size:=2) (len:=1) (cs:=[.int .u32 k,.slice A9 x.length aa]) (d:=11) kz kz fun aF aO aP aG aH ah ab az=>?_)
 have aA:=TT.ofW (((hF8.trans ac).trans ae).trans ah) ab
 refine ⟨fun _=>aA,?_⟩
 refine qaE (i:=7) kz (qa7 ab az (k:=0) (d:=12) (t:=24) (e:=65) (size:=2) (bytes:=32) (A:=A) (As:=(some ⟨aF,0,none⟩)) (m0:=n) (c:=cp) (m:=1) (cs:=1) (xs:=xs) (news:=[.int .u32 k,.slice A9 x.length aa]) kz kz rfl (qcu (ab.own 2 _ rfl) (qbI kz)) (qcQ (ab.own 2 _ rfl)) (by first | omega | (simp only [List.length_nil]; omega) | (simp; omega)) fun am ao aQ aR aB ai aC=>?_)
 have aj:=TT.ofW ((((hF8.trans ac).trans ae).trans ah).trans aB) ai
 refine ⟨fun _=>aj,?_⟩
 refine qaP [8] [(12,.v (.slice am (n + 1) ao)),(13,.p 0 4)] 1 qah (fun _ h=>h.cells) aj aC fun aS aD=>?_
 refine qaE (i:=9) kz (qaq ai aD (oi:=0) (cs:=[x0,x1,x2,x3,.slice am (n + 1) ao]) kz fun aT aI ak aE=>?_)
 refine ⟨fun h=>absurd rfl h,?_⟩
 refine qaW kz ?_ _
 refine qbi aE ak.cells (v:=.tuple #[]) kz ?_
 obtain ⟨al,aJ⟩:=ak.cutR 2 [⟨am,ao,65,2,n + 1,xs ++ [.int .u32 k,.slice A9 x.length aa]⟩,brow A9 aa 5 x]
 have hoo:=qdK (s:=x) (Av:=A9) (c:=aa) (e8:=5) rfl al (by omega)
 obtain ⟨hb1,hb2,hb3⟩:=qeK al (World.lt_of_cell (hbx.str.at_ 0 _ rfl))
 exact ⟨rfl,am,ao,A9,aa,hb1,hoo,hb2,hb3⟩
theorem qca:qee Tryd.prog 62 65:=by
 intro w B cp c n k A Av x x0 x1 x2 x3 xs G hbx ho hG hn
 refine enter (n:=14) Tryd.func62 rfl Tryd.ntmps62 kz fun a hE=>?_
 have hW:=hbx.wok
 have hE0:=(hE.grow ⟨B,0,[x0,x1,x2,x3,.slice A n cp],true⟩).recast 2 (.v (.pointer (some ⟨B,0,none⟩))) (.p 0 0) rfl rfl (by simp [SV.ok])
 have hsm:=Slots.small ho
 have ap:=hE0.pk (env':=[(0,.v (.int .u32 k)),(1,.v (.slice Av x.length c)),(2,.p 0 0)])
 refine qc2 9 kz hW fun w1 hF2 hW3 hT4=>?_
 refine qaP [0,1,2,3] [(2,.p 0 0),(6,.v (.slice A n cp)),(7,.v (.int .u32 k)),(8,.v (.slice Av x.length c))] 6 qah (fun _ h=>h.cells) hT4 ap fun a5 hE6=>?_
 have hW7:=hW3.addNil 5 1
 have hF8:=hW3.frNil 5 1
 refine qaE (i:=4) kz (qa7 hW7 hE6 (k:=1) (d:=9) (t:=22) (e:=5) (size:=1) (bytes:=1) (A:=none) (As:=Av) (m0:=0) (c:=0) (m:=x.length) (cs:=c) (xs:=[]) (news:=bc x) kz kz rfl (ho.move hW7.step (fun b o h _=>hG b o h) qaF).src (ho.move hW7.step (fun b o h _=>hG b o h) qaF).cap (by first | omega | (simp only [List.length_nil]; omega) | (simp; omega)) fun A9 aa aK aL ac ar au=>?_)
 have av:(⟨A9,aa,5,1,0 + x.length,[] ++ bc x⟩:Rw) = brow A9 aa 5 x:=by rw [List.nil_append,Nat.zero_add]
 obtain ⟨af,ae⟩:=ar.rowEq 1 [⟨A,cp,65,2,n,xs⟩,brow A9 aa 5 x] av
 have aw:=EnvOk.pick au (ks:=[2,6,7,8,9]) (env':=[(2,.p 0 0),(6,.v (.slice A n cp)),(7,.v (.int .u32 k)),(8,.v (.slice Av x.length c)),(9,.v (.slice A9 (0 + x.length) aa))]) kz
 have ax:=aw.cast (env':=[(2,.p 0 0),(6,.v (.slice A n cp)),(7,.v (.int .u32 k)),(8,.v (.slice Av x.length c)),(9,.v (.slice A9 x.length aa))]) (by simp only [List.length_append,List.length_cons,List.length_nil,Nat.zero_add])
 have ag:=TT.ofW ((hF8.trans ac).trans ae) af
 refine ⟨fun _=>ag,?_⟩
 refine qaP [5] [(2,.p 0 0),(6,.v (.slice A n cp)),(10,.v (.agg #[.int .u32 k,.slice A9 x.length aa]))] 4 qah (fun _ h=>h.cells) ag ax fun aM ay=>?_
 refine qaE (i:=6) kz (qcv af ay (e:=65) (size:=2) (len:=1) (cs:=[.int .u32 k,.slice A9 x.length aa]) (d:=11) kz kz fun aF aO aP aG aH ah ab az=>?_)
 have aA:=TT.ofW (((hF8.trans ac).trans ae).trans ah) ab
 refine ⟨fun _=>aA,?_⟩
 refine qaE (i:=7) kz (qa7 ab az (k:=0) (d:=12) (t:=24) (e:=65) (size:=2) (bytes:=32) (A:=A) (As:=(some ⟨aF,0,none⟩)) (m0:=n) (c:=cp) (m:=1) (cs:=1) (xs:=xs) (news:=[.int .u32 k,.slice A9 x.length aa]) kz kz rfl (qcu (ab.own 2 _ rfl) (qbI kz)) (qcQ (ab.own 2 _ rfl)) (by first | omega | (simp only [List.length_nil]; omega) | (simp; omega)) fun am ao aQ aR aB ai aC=>?_)
 have aj:=TT.ofW ((((hF8.trans ac).trans ae).trans ah).trans aB) ai
 refine ⟨fun _=>aj,?_⟩
 refine qaP [8] [(12,.v (.slice am (n + 1) ao)),(13,.p 0 4)] 1 qah (fun _ h=>h.cells) aj aC fun aS aD=>?_
 refine qaE (i:=9) kz (qaq ai aD (oi:=0) (cs:=[x0,x1,x2,x3,.slice am (n + 1) ao]) kz fun aT aI ak aE=>?_)
 refine ⟨fun h=>absurd rfl h,?_⟩
 refine qaW kz ?_ _
 refine qbi aE ak.cells (v:=.tuple #[]) kz ?_
 obtain ⟨al,aJ⟩:=ak.cutR 2 [⟨am,ao,65,2,n + 1,xs ++ [.int .u32 k,.slice A9 x.length aa]⟩,brow A9 aa 5 x]
 have hoo:=qdK (s:=x) (Av:=A9) (c:=aa) (e8:=5) rfl al (by omega)
 obtain ⟨hb1,hb2,hb3⟩:=qeK al (World.lt_of_cell (hbx.str.at_ 0 _ rfl))
 exact ⟨rfl,am,ao,A9,aa,hb1,hoo,hb2,hb3⟩
theorem qbA:qee Tryd.prog 92 65:=by
 intro w B cp c n k A Av x x0 x1 x2 x3 xs G hbx ho hG hn
 refine enter (n:=14) Tryd.func92 rfl Tryd.ntmps92 kz fun a hE=>?_
 have hW:=hbx.wok
 have hE0:=(hE.grow ⟨B,0,[x0,x1,x2,x3,.slice A n cp],true⟩).recast 2 (.v (.pointer (some ⟨B,0,none⟩))) (.p 0 0) rfl rfl (by simp [SV.ok])
 have hsm:=Slots.small ho
 have ap:=hE0.pk (env':=[(0,.v (.int .u32 k)),(1,.v (.slice Av x.length c)),(2,.p 0 0)])
 refine qc2 9 kz hW fun w1 hF2 hW3 hT4=>?_
 refine qaP [0,1,2,3] [(2,.p 0 0),(6,.v (.slice A n cp)),(7,.v (.int .u32 k)),(8,.v (.slice Av x.length c))] 6 qah (fun _ h=>h.cells) hT4 ap fun a5 hE6=>?_
 have hW7:=hW3.addNil 5 1
 have hF8:=hW3.frNil 5 1
 refine qaE (i:=4) kz (qa7 hW7 hE6 (k:=1) (d:=9) (t:=22) (e:=5) (size:=1) (bytes:=1) (A:=none) (As:=Av) (m0:=0) (c:=0) (m:=x.length) (cs:=c) (xs:=[]) (news:=bc x) kz kz rfl (ho.move hW7.step (fun b o h _=>hG b o h) qaF).src (ho.move hW7.step (fun b o h _=>hG b o h) qaF).cap (by first | omega | (simp only [List.length_nil]; omega) | (simp; omega)) fun A9 aa aK aL ac ar au=>?_)
 have av:(⟨A9,aa,5,1,0 + x.length,[] ++ bc x⟩:Rw) = brow A9 aa 5 x:=by rw [List.nil_append,Nat.zero_add]
 obtain ⟨af,ae⟩:=ar.rowEq 1 [⟨A,cp,65,2,n,xs⟩,brow A9 aa 5 x] av
 have aw:=EnvOk.pick au (ks:=[2,6,7,8,9]) (env':=[(2,.p 0 0),(6,.v (.slice A n cp)),(7,.v (.int .u32 k)),(8,.v (.slice Av x.length c)),(9,.v (.slice A9 (0 + x.length) aa))]) kz
 have ax:=aw.cast (env':=[(2,.p 0 0),(6,.v (.slice A n cp)),(7,.v (.int .u32 k)),(8,.v (.slice Av x.length c)),(9,.v (.slice A9 x.length aa))]) (by simp only [List.length_append,List.length_cons,List.length_nil,Nat.zero_add])
 have ag:=TT.ofW ((hF8.trans ac).trans ae) af
 refine ⟨fun _=>ag,?_⟩
 refine qaP [5] [(2,.p 0 0),(6,.v (.slice A n cp)),(10,.v (.agg #[.int .u32 k,.slice A9 x.length aa]))] 4 qah (fun _ h=>h.cells) ag ax fun aM ay=>?_
 refine qaE (i:=6) kz (qcv af ay (e:=65) (size:=2) (len:=1) (cs:=[.int .u32 k,.slice A9 x.length aa]) (d:=11) kz kz fun aF aO aP aG aH ah ab az=>?_)
 have aA:=TT.ofW (((hF8.trans ac).trans ae).trans ah) ab
 refine ⟨fun _=>aA,?_⟩
 refine qaE (i:=7) kz (qa7 ab az (k:=0) (d:=12) (t:=24) (e:=65) (size:=2) (bytes:=32) (A:=A) (As:=(some ⟨aF,0,none⟩)) (m0:=n) (c:=cp) (m:=1) (cs:=1) (xs:=xs) (news:=[.int .u32 k,.slice A9 x.length aa]) kz kz rfl (qcu (ab.own 2 _ rfl) (qbI kz)) (qcQ (ab.own 2 _ rfl)) (by first | omega | (simp only [List.length_nil]; omega) | (simp; omega)) fun am ao aQ aR aB ai aC=>?_)
 have aj:=TT.ofW ((((hF8.trans ac).trans ae).trans ah).trans aB) ai
 refine ⟨fun _=>aj,?_⟩
 refine qaP [8] [(12,.v (.slice am (n + 1) ao)),(13,.p 0 4)] 1 qah (fun _ h=>h.cells) aj aC fun aS aD=>?_
 refine qaE (i:=9) kz (qaq ai aD (oi:=0) (cs:=[x0,x1,x2,x3,.slice am (n + 1) ao]) kz fun aT aI ak aE=>?_)
 refine ⟨fun h=>absurd rfl h,?_⟩
 refine qaW kz ?_ _
 refine qbi aE ak.cells (v:=.tuple #[]) kz ?_
 obtain ⟨al,aJ⟩:=ak.cutR 2 [⟨am,ao,65,2,n + 1,xs ++ [.int .u32 k,.slice A9 x.length aa]⟩,brow A9 aa 5 x]
 have hoo:=qdK (s:=x) (Av:=A9) (c:=aa) (e8:=5) rfl al (by omega)
 obtain ⟨hb1,hb2,hb3⟩:=qeK al (World.lt_of_cell (hbx.str.at_ 0 _ rfl))
 exact ⟨rfl,am,ao,A9,aa,hb1,hoo,hb2,hb3⟩
theorem qeY {P:Program} {ops:Array Oper} {Q:Exit → Act → World → Prop} {a:Act} {w:World} {T:World → Prop} {c i j fuel:Nat} {listed:Array Bool} (hr:Region.ready .any ops listed = [i,j]) (h:wpOp P ops Q i (fun a' w'=>(i ≠ c → T w') ∧ qbo P ops Q T c fuel (listed.setIfInBounds i true) a' w') a w)
  (h':wpOp P ops Q j (fun a' w'=>(j ≠ c → T w') ∧ qbo P ops Q T c fuel (listed.setIfInBounds j true) a' w') a w):qbo P ops Q T c (fuel + 1) listed a w:=by
 refine ⟨fun h0=>(by rw [hr] at h0; cases h0),fun q hq=>?_⟩
 rw [hr] at hq
 simp only [List.mem_cons,List.not_mem_nil,or_false] at hq
 rcases hq with rfl | rfl
 ·exact h
 exact h'
end Go.Proofs.YtajibgahdkllkaaDoorR.ME
namespace Go.Proofs.YtajibgahdkllkaaDoorR.ME
open Go
open Go.RowKit
set_option linter.unusedVariables false
set_option linter.unusedSimpArgs false
set_option maxRecDepth 20000
set_option maxHeartbeats 4000000 in
theorem qaU (v:Int) (D:DV) (b o:Nat) (w:World) (F:Nat → Nat → Prop) (hat:AtF w F b o [.string ((D.f 0).s),.int .i8 ((D.f 1).n),.map D.m]) (hok:qay w F D):Calls Tryd.prog 60 #[.pointer (some ⟨b,o,none⟩)] w (qdW w F (qas D)):=by
 refine enter (n:=33) Tryd.func60 rfl Tryd.ntmps60 kz fun a hE=>?_
 have hW:WOk w Nil w [⟨b,o,[.string ((D.f 0).s),.int .i8 ((D.f 1).n),.map D.m],false⟩] []:=(WOk.start w Nil).start1 hat rfl rfl
 unfold qay at hok
 obtain ⟨g1,g2,g3,g3l,g3x,_⟩:=hok
 have hE0:=(EnvOk.ptr0 (cs:=[.string ((D.f 0).s),.int .i8 ((D.f 1).n),.map D.m]) (r:=false) hE).pk (env':=[(0,.p 0 0)])
 refine qae [0] kz ?_
 refine qal (qaO hW hE0 (d:=2) (cs:=[.int .i64 0,.slice none 0 0,.bool false,.slice none 0 0,.slice none 0 0]) kz fun b4 a5 w6 hb7 hz8 hF9 hW10 hE11=>?_)
 refine qag (qab ?_)
 refine qae [0,1,2,3] kz ?_
 refine qal (qdY (t:=23) (e:=26) (size:=5) (bytes:=88) (d:=4) (j:=2) (.agg #[.int .i64 0,.slice none 0 0,.bool false,.slice none 0 0,.slice none 0 0]) [.int .i64 0,.slice none 0 0,.bool false,.slice none 0 0,.slice none 0 0,.int .i64 0,.slice none 0 0,.bool false,.slice none 0 0,.slice none 0 0] hW10 hE11 fun b12 a13 w14 hb15 hz16 hF17 hW18 hE19=>?_)
 refine qam [1] [2,3] [(0,.p 0 0),(2,.p 1 0),(5,.v (.agg #[.int .i64 0,.slice none 0 0,.bool false,.slice (some ⟨b12,0,none⟩) 2 2,.slice none 0 0]))] hW18 hE19 fun a20 hE21=>?_
 refine qal (qaO hW18 hE21 (d:=3) (cs:=[.int .i64 0,.slice none 0 0,.bool false,.slice none 0 0,.slice none 0 0]) kz fun b22 a23 w24 hb25 hz26 hF27 hW28 hE29=>?_)
 refine qal (qaq hW28 hE29 (oi:=3) (cs:=[.int .i64 0,.slice none 0 0,.bool false,.slice (some ⟨b12,0,none⟩) 2 2,.slice none 0 0]) kz fun w30 hF31 hW32 hE33=>?_)
 refine qag (qab ?_)
 refine qa8 9 kz hW32 fun w34 hF35 hW36 hT37=>?_
 refine qaP [0,1,2,3,4,5] [(0,.p 0 0),(2,.p 1 0),(3,.p 3 0),(7,.v (.slice (some ⟨b12,0,none⟩) 2 2)),(11,.v (.string ((D.f 0).s)))] 4 (qac qah) (fun _ h=>h.cells) hT37 hE33 fun a38 hE39=>?_
 refine qaE (i:=6) kz (qfm (d:=12) (src:=9) (dst:=22) (e:=5) (s:=((D.f 0).s)) hW36 hE39 (by omega) fun b40 c41 a42 w43 hF44 hW45 hO46 hE47=>?_)
 have hO48:=hO46 F
 have hT49:=TT.ofW hF44 hW45
 refine ⟨fun _=>hT49,?_⟩
 refine qaP [7] [(0,.p 0 0),(2,.p 1 0),(3,.p 3 0),(7,.v (.slice (some ⟨b12,0,none⟩) 2 2)),(13,.v (.agg #[.int .i64 0,.slice (some ⟨b40,0,none⟩) ((sb ((D.f 0).s)).length) c41,.bool false,.slice none 0 0,.slice none 0 0]))] 2 (qac qah) (fun _ h=>h.cells) hT49 hE47 fun a50 hE51=>?_
 refine qaL hE51 (i:=8) (t:=23) (A:=(some ⟨b12,0,none⟩)) (m:=2) (q:=0) (d:=14) kz (e:=26) (size:=5) (bytes:=88) (j:=0) kz (b:=b12) (o:=0) rfl rfl (by decide) kz kz (qac qah) hT49 fun a52 hE53=>?_
 have hE54:=hE53.recast 14 (.v (.pointer (some ⟨b12,0 + 0 * 5,none⟩))) (.p 2 0) rfl rfl (Nat.le_of_ble_eq_true (n:=3) rfl)
 have hE55:=hE54.pk (env':=[(0,.p 0 0),(2,.p 1 0),(3,.p 3 0),(7,.v (.slice (some ⟨b12,0,none⟩) 2 2)),(13,.v (.agg #[.int .i64 0,.slice (some ⟨b40,0,none⟩) ((sb ((D.f 0).s)).length) c41,.bool false,.slice none 0 0,.slice none 0 0])),(14,.p 2 0)])
 refine qaE (i:=9) kz (qaq hW45 hE55 (oi:=2) (cs:=[.int .i64 0,.slice (some ⟨b40,0,none⟩) ((sb ((D.f 0).s)).length) c41,.bool false,.slice none 0 0,.slice none 0 0,.int .i64 0,.slice none 0 0,.bool false,.slice none 0 0,.slice none 0 0]) kz fun w56 hF57 hW58 hE59=>?_)
 refine ⟨fun h=>absurd rfl h,?_⟩
 refine qaW kz ?_ _
 refine qab ?_
 refine qa8 9 kz hW58 fun w60 hF61 hW62 hT63=>?_
 refine qaP [0,1,2,3,4,5,6,7] [(0,.p 0 0),(2,.p 1 0),(3,.p 3 0),(16,.v (.slice (some ⟨b12,0,none⟩) 2 2)),(22,.v (.agg #[.int .i64 (IntKind.i64.wrap ((D.f 1).n)),.slice none 0 0,.bool false,.slice none 0 0,.slice none 0 0]))] 2 (qac qah) (fun _ h=>h.cells) hT63 hE59 fun a64 hE65=>?_
 refine qaL hE65 (i:=8) (t:=23) (A:=(some ⟨b12,0,none⟩)) (m:=2) (q:=1) (d:=23) kz (e:=26) (size:=5) (bytes:=88) (j:=1) kz (b:=b12) (o:=0) rfl rfl (by decide) kz kz (qac qah) hT63 fun a66 hE67=>?_
 have hE68:=hE67.recast 23 (.v (.pointer (some ⟨b12,0 + 1 * 5,none⟩))) (.p 2 5) rfl rfl (Nat.le_of_ble_eq_true (n:=3) rfl)
 have hE69:=hE68.pk (env':=[(0,.p 0 0),(2,.p 1 0),(3,.p 3 0),(16,.v (.slice (some ⟨b12,0,none⟩) 2 2)),(22,.v (.agg #[.int .i64 (IntKind.i64.wrap ((D.f 1).n)),.slice none 0 0,.bool false,.slice none 0 0,.slice none 0 0])),(23,.p 2 5)])
 refine qaE (i:=9) kz (qaq hW62 hE69 (oi:=2) (cs:=[.int .i64 0,.slice (some ⟨b40,0,none⟩) ((sb ((D.f 0).s)).length) c41,.bool false,.slice none 0 0,.slice none 0 0,.int .i64 (IntKind.i64.wrap ((D.f 1).n)),.slice none 0 0,.bool false,.slice none 0 0,.slice none 0 0]) kz fun w70 hF71 hW72 hE73=>?_)
 refine ⟨fun h=>absurd rfl h,?_⟩
 refine qaW kz ?_ _
 refine qab ?_
 refine qae [0,1,2,3,4] kz ?_
 refine qam [0,1,2] [3,4] [(2,.p 1 0),(3,.p 3 0),(26,.p 0 2)] hW72 hE73 fun a74 hE75=>?_
 refine qal (qd7 hE75 (v:=.func (.func 92) #[] #[.pointer (some ⟨b22,0,none⟩)]) (d:=27) kz fun a76 hE77=>?_)
 refine qal (qaw hE77 (f:=61) (vs:=[.pointer (some ⟨b,o + 2,none⟩),.func (.func 92) #[] #[.pointer (some ⟨b22,0,none⟩)]]) (d:=28) kz Tryd.call61 (qeq (F:=(Imm F w w70 [⟨b,o,[.string ((D.f 0).s),.int .i8 ((D.f 1).n),.map D.m],false⟩,⟨b4,0,[.int .i64 0,.slice none 0 0,.bool false,.slice none 0 0,.slice none 0 0],true⟩,⟨b12,0,[.int .i64 0,.slice (some ⟨b40,0,none⟩) ((sb ((D.f 0).s)).length) c41,.bool false,.slice none 0 0,.slice none 0 0,.int .i64 (IntKind.i64.wrap ((D.f 1).n)),.slice none 0 0,.bool false,.slice none 0 0,.slice none 0 0],true⟩,⟨b22,0,[.int .i64 0,.slice none 0 0,.bool false,.slice (some ⟨b12,0,none⟩) 2 2,.slice none 0 0],true⟩] [])) Tryd.call92 qbA ((hat.one 2 rfl).move hW72.step nilM hW72.imm) (g3.move hW72.step nilM hW72.imm) (Str.of hW72 3 rfl) (qfj 3 rfl) g3l) ?_)
 rintro e_ w78 ⟨rfl,A79,c80,hst81,hU82,hs83⟩
 obtain ⟨hW84,hF85,hl86⟩:=hW72.wrote 3 [⟨b,o,[.string ((D.f 0).s),.int .i8 ((D.f 1).n),.map D.m],false⟩,⟨b4,0,[.int .i64 0,.slice none 0 0,.bool false,.slice none 0 0,.slice none 0 0],true⟩,⟨b12,0,[.int .i64 0,.slice (some ⟨b40,0,none⟩) ((sb ((D.f 0).s)).length) c41,.bool false,.slice none 0 0,.slice none 0 0,.int .i64 (IntKind.i64.wrap ((D.f 1).n)),.slice none 0 0,.bool false,.slice none 0 0,.slice none 0 0],true⟩,⟨b22,0,[.int .i64 0,.slice none 0 0,.bool false,.slice (some ⟨b12,0,none⟩) 2 2,.slice A79 D.u.length c80],true⟩] rfl hs83 hst81
 have hU90:=hU82.move (Step.refl _ Nil) nilM (fun b_ o_ h_ hb_=>hl86 (G:=F) b_ o_ (.inr h_) hb_)
 refine ⟨_,rfl,fun a87 hE88=>?_⟩
 have hE89:=(EnvOk.places (tb':=[⟨b,o,[.string ((D.f 0).s),.int .i8 ((D.f 1).n),.map D.m],false⟩,⟨b4,0,[.int .i64 0,.slice none 0 0,.bool false,.slice none 0 0,.slice none 0 0],true⟩,⟨b12,0,[.int .i64 0,.slice (some ⟨b40,0,none⟩) ((sb ((D.f 0).s)).length) c41,.bool false,.slice none 0 0,.slice none 0 0,.int .i64 (IntKind.i64.wrap ((D.f 1).n)),.slice none 0 0,.bool false,.slice none 0 0,.slice none 0 0],true⟩,⟨b22,0,[.int .i64 0,.slice none 0 0,.bool false,.slice (some ⟨b12,0,none⟩) 2 2,.slice A79 D.u.length c80],true⟩]) hE88 (show Pl [⟨b,o,[.string ((D.f 0).s),.int .i8 ((D.f 1).n),.map D.m],false⟩,⟨b4,0,[.int .i64 0,.slice none 0 0,.bool false,.slice none 0 0,.slice none 0 0],true⟩,⟨b12,0,[.int .i64 0,.slice (some ⟨b40,0,none⟩) ((sb ((D.f 0).s)).length) c41,.bool false,.slice none 0 0,.slice none 0 0,.int .i64 (IntKind.i64.wrap ((D.f 1).n)),.slice none 0 0,.bool false,.slice none 0 0,.slice none 0 0],true⟩,⟨b22,0,[.int .i64 0,.slice none 0 0,.bool false,.slice (some ⟨b12,0,none⟩) 2 2,.slice none 0 0],true⟩] [⟨b,o,[.string ((D.f 0).s),.int .i8 ((D.f 1).n),.map D.m],false⟩,⟨b4,0,[.int .i64 0,.slice none 0 0,.bool false,.slice none 0 0,.slice none 0 0],true⟩,⟨b12,0,[.int .i64 0,.slice (some ⟨b40,0,none⟩) ((sb ((D.f 0).s)).length) c41,.bool false,.slice none 0 0,.slice none 0 0,.int .i64 (IntKind.i64.wrap ((D.f 1).n)),.slice none 0 0,.bool false,.slice none 0 0,.slice none 0 0],true⟩,⟨b22,0,[.int .i64 0,.slice none 0 0,.bool false,.slice (some ⟨b12,0,none⟩) 2 2,.slice A79 D.u.length c80],true⟩] from ⟨rfl,rfl,⟨rfl,rfl,⟨rfl,rfl,⟨rfl,rfl,trivial⟩⟩⟩⟩)).pk (env':=[(28,.v (.tuple #[])),(2,.p 1 0),(3,.p 3 0),(26,.p 0 2),(27,.v (.func (.func 92) #[] #[.pointer (some ⟨b22,0,none⟩)]))])
 refine qag (qab ?_)
 refine qae [0,1,2] kz ?_
 refine qam [0,1] [2] [(2,.p 1 0),(3,.p 3 0),(30,.v (.slice A79 D.u.length c80))] hW84 hE89 fun a91 hE92=>?_
 refine qal (qaw hE92 (f:=63) (vs:=[.slice A79 D.u.length c80]) (d:=31) kz Tryd.call63 (qf4 hU90 g3.sorted) ?_)
 rintro e_ w94 ⟨rfl,hs93⟩
 refine ⟨_,rfl,fun a95 hE96=>?_⟩
 have hW97:=hW84.next_nil hs93
 have hF98:=hW84.frN hs93
 refine qag (qab ?_)
 refine qae [0,1] kz ?_
 refine qam [0] [1] [(2,.p 1 0),(32,.v (.agg #[.int .i64 0,.slice none 0 0,.bool false,.slice (some ⟨b12,0,none⟩) 2 2,.slice A79 D.u.length c80]))] hW97 hE96 fun a99 hE100=>?_
 refine qal (qaq hW97 hE100 (oi:=1) (cs:=[.int .i64 0,.slice none 0 0,.bool false,.slice (some ⟨b12,0,none⟩) 2 2,.slice A79 D.u.length c80]) kz fun w101 hF102 hW103 hE104=>?_)
 refine qag (qab ?_)
 refine wp_ret ?_
 refine qaZ hE104 hW103.cells (v:=.agg #[.int .i64 0,.slice none 0 0,.bool false,.slice (some ⟨b12,0,none⟩) 2 2,.slice A79 D.u.length c80]) kz ?_
 exact qeX (u:=D.u) (l:=[.mk 0 (sb (D.f 0).s) false [] [],.mk (IntKind.i64.wrap (D.f 1).n) [] false [] []]) (css:=[[.int .i64 0,.slice (some ⟨b40,0,none⟩) ((sb ((D.f 0).s)).length) c41,.bool false,.slice none 0 0,.slice none 0 0],[.int .i64 (IntKind.i64.wrap ((D.f 1).n)),.slice none 0 0,.bool false,.slice none 0 0,.slice none 0 0]]) hW103 2 rfl ⟨(show TreeR _ (Imm F w w101 [⟨b,o,[.string ((D.f 0).s),.int .i8 ((D.f 1).n),.map D.m],false⟩,⟨b4,0,[.int .i64 0,.slice none 0 0,.bool false,.slice (some ⟨b12,0,none⟩) 2 2,.slice A79 D.u.length c80],true⟩,⟨b12,0,[.int .i64 0,.slice (some ⟨b40,0,none⟩) ((sb ((D.f 0).s)).length) c41,.bool false,.slice none 0 0,.slice none 0 0,.int .i64 (IntKind.i64.wrap ((D.f 1).n)),.slice none 0 0,.bool false,.slice none 0 0,.slice none 0 0],true⟩,⟨b22,0,[.int .i64 0,.slice none 0 0,.bool false,.slice (some ⟨b12,0,none⟩) 2 2,.slice A79 D.u.length c80],true⟩] []) _ _ from (TreeR.mk (n:=0) (b:=false) (s:=(sb ((D.f 0).s))) (l:=[]) (u:=[]) (fun _=>[]) (hO48.move (((((hF57.trans hF61).trans hF71).trans hF85).trans hF98).trans hF102).step immM (((((hF57.trans hF61).trans hF71).trans hF85).trans hF98).trans hF102).to') (Slots.nil _ _ _ _) (fun i_ x_ h_=>by simp at h_) (TagsR.nil _ _))).move (Step.refl _ Nil) nilM qbW,(show TreeR _ (Imm F w w101 [⟨b,o,[.string ((D.f 0).s),.int .i8 ((D.f 1).n),.map D.m],false⟩,⟨b4,0,[.int .i64 0,.slice none 0 0,.bool false,.slice (some ⟨b12,0,none⟩) 2 2,.slice A79 D.u.length c80],true⟩,⟨b12,0,[.int .i64 0,.slice (some ⟨b40,0,none⟩) ((sb ((D.f 0).s)).length) c41,.bool false,.slice none 0 0,.slice none 0 0,.int .i64 (IntKind.i64.wrap ((D.f 1).n)),.slice none 0 0,.bool false,.slice none 0 0,.slice none 0 0],true⟩,⟨b22,0,[.int .i64 0,.slice none 0 0,.bool false,.slice (some ⟨b12,0,none⟩) 2 2,.slice A79 D.u.length c80],true⟩] []) _ _ from (TreeR.mk (n:=IntKind.i64.wrap ((D.f 1).n)) (b:=false) (s:=[]) (l:=[]) (u:=[]) (fun _=>[]) (Octs.nil _ _) (Slots.nil _ _ _ _) (fun i_ x_ h_=>by simp at h_) (TagsR.nil _ _))).move (Step.refl _ Nil) nilM qbW,trivial⟩ ((show TagsR _ (Imm F w w101 [⟨b,o,[.string ((D.f 0).s),.int .i8 ((D.f 1).n),.map D.m],false⟩,⟨b4,0,[.int .i64 0,.slice none 0 0,.bool false,.slice (some ⟨b12,0,none⟩) 2 2,.slice A79 D.u.length c80],true⟩,⟨b12,0,[.int .i64 0,.slice (some ⟨b40,0,none⟩) ((sb ((D.f 0).s)).length) c41,.bool false,.slice none 0 0,.slice none 0 0,.int .i64 (IntKind.i64.wrap ((D.f 1).n)),.slice none 0 0,.bool false,.slice none 0 0,.slice none 0 0],true⟩,⟨b22,0,[.int .i64 0,.slice none 0 0,.bool false,.slice (some ⟨b12,0,none⟩) 2 2,.slice A79 D.u.length c80],true⟩] []) _ _ _ from (hU90.move (hF98.trans hF102).step immM (hF98.trans hF102).to')).move (Step.refl _ Nil) nilM qbW)
set_option maxHeartbeats 4000000 in
theorem qbG (v:Int) (D:DV) (b o:Nat) (w:World) (F:Nat → Nat → Prop) (hat:AtF w F b o [.int .i16 v,.int .i32 ((D.f 0).n),.int .i16 ((D.f 1).n),.slice ((D.f 2).A) ((D.f 2).l) ((D.f 2).c),.map D.m]) (hok:qaK w F D):Calls Tryd.prog 36 #[.pointer (some ⟨b,o,none⟩)] w (qdW w F (qaX D)):=by
 refine enter (n:=90) Tryd.func36 rfl Tryd.ntmps36 kz fun a hE=>?_
 have hW:WOk w Nil w [⟨b,o,[.int .i16 v,.int .i32 ((D.f 0).n),.int .i16 ((D.f 1).n),.slice ((D.f 2).A) ((D.f 2).l) ((D.f 2).c),.map D.m],false⟩] []:=(WOk.start w Nil).start1 hat rfl rfl
 unfold qaK at hok
 obtain ⟨g1,g2,⟨g3,g3l,g3e⟩,g4,g4l,g4x,_⟩:=hok
 have hE0:=(EnvOk.ptr0 (cs:=[.int .i16 v,.int .i32 ((D.f 0).n),.int .i16 ((D.f 1).n),.slice ((D.f 2).A) ((D.f 2).l) ((D.f 2).c),.map D.m]) (r:=false) hE).pk (env':=[(0,.p 0 0)])
 refine qae [0] kz ?_
 refine qal (qaO hW hE0 (d:=2) (cs:=[.int .i64 0,.slice none 0 0,.bool false,.slice none 0 0,.slice none 0 0]) kz fun b5 a6 w7 hb8 hz9 hF10 hW11 hE12=>?_)
 refine qag (qab ?_)
 refine qae [0,1,2,3] kz ?_
 refine qal (qdY (t:=23) (e:=26) (size:=5) (bytes:=88) (d:=5) (j:=3) (.agg #[.int .i64 0,.slice none 0 0,.bool false,.slice none 0 0,.slice none 0 0]) [.int .i64 0,.slice none 0 0,.bool false,.slice none 0 0,.slice none 0 0,.int .i64 0,.slice none 0 0,.bool false,.slice none 0 0,.slice none 0 0,.int .i64 0,.slice none 0 0,.bool false,.slice none 0 0,.slice none 0 0] hW11 hE12 fun b13 a14 w15 hb16 hz17 hF18 hW19 hE20=>?_)
 refine qam [1] [2,3] [(0,.p 0 0),(2,.p 1 0),(6,.v (.agg #[.int .i64 0,.slice none 0 0,.bool false,.slice (some ⟨b13,0,none⟩) 3 3,.slice none 0 0]))] hW19 hE20 fun a21 hE22=>?_
 refine qal (qaO hW19 hE22 (d:=3) (cs:=[.int .i64 0,.slice none 0 0,.bool false,.slice none 0 0,.slice none 0 0]) kz fun b23 a24 w25 hb26 hz27 hF28 hW29 hE30=>?_)
 refine qal (qaq hW29 hE30 (oi:=3) (cs:=[.int .i64 0,.slice none 0 0,.bool false,.slice (some ⟨b13,0,none⟩) 3 3,.slice none 0 0]) kz fun w31 hF32 hW33 hE34=>?_)
 refine qag (qab ?_)
 refine qa8 9 kz hW33 fun w35 hF36 hW37 hT38=>?_
 refine qaP [0,1,2,3,4,5,6,7] [(0,.p 0 0),(2,.p 1 0),(3,.p 3 0),(8,.v (.slice (some ⟨b13,0,none⟩) 3 3)),(14,.v (.agg #[.int .i64 (IntKind.i64.wrap ((D.f 0).n)),.slice none 0 0,.bool false,.slice none 0 0,.slice none 0 0]))] 2 (qac qah) (fun _ h=>h.cells) hT38 hE34 fun a39 hE40=>?_
 refine qaL hE40 (i:=8) (t:=23) (A:=(some ⟨b13,0,none⟩)) (m:=3) (q:=0) (d:=15) kz (e:=26) (size:=5) (bytes:=88) (j:=0) kz (b:=b13) (o:=0) rfl rfl (by decide) kz kz (qac qah) hT38 fun a41 hE42=>?_
 have hE43:=hE42.recast 15 (.v (.pointer (some ⟨b13,0 + 0 * 5,none⟩))) (.p 2 0) rfl rfl (Nat.le_of_ble_eq_true (n:=3) rfl)
 have hE44:=hE43.pk (env':=[(0,.p 0 0),(2,.p 1 0),(3,.p 3 0),(8,.v (.slice (some ⟨b13,0,none⟩) 3 3)),(14,.v (.agg #[.int .i64 (IntKind.i64.wrap ((D.f 0).n)),.slice none 0 0,.bool false,.slice none 0 0,.slice none 0 0])),(15,.p 2 0)])
 refine qaE (i:=9) kz (qaq hW37 hE44 (oi:=2) (cs:=[.int .i64 (IntKind.i64.wrap ((D.f 0).n)),.slice none 0 0,.bool false,.slice none 0 0,.slice none 0 0,.int .i64 0,.slice none 0 0,.bool false,.slice none 0 0,.slice none 0 0,.int .i64 0,.slice none 0 0,.bool false,.slice none 0 0,.slice none 0 0]) kz fun w45 hF46 hW47 hE48=>?_)
 refine ⟨fun h=>absurd rfl h,?_⟩
 refine qaW kz ?_ _
 refine qab ?_
 refine qa8 9 kz hW47 fun w49 hF50 hW51 hT52=>?_
 refine qaP [0,1,2,3,4,5,6,7] [(0,.p 0 0),(2,.p 1 0),(3,.p 3 0),(17,.v (.slice (some ⟨b13,0,none⟩) 3 3)),(23,.v (.agg #[.int .i64 (IntKind.i64.wrap ((D.f 1).n)),.slice none 0 0,.bool false,.slice none 0 0,.slice none 0 0]))] 2 (qac qah) (fun _ h=>h.cells) hT52 hE48 fun a53 hE54=>?_
 refine qaL hE54 (i:=8) (t:=23) (A:=(some ⟨b13,0,none⟩)) (m:=3) (q:=1) (d:=24) kz (e:=26) (size:=5) (bytes:=88) (j:=1) kz (b:=b13) (o:=0) rfl rfl (by decide) kz kz (qac qah) hT52 fun a55 hE56=>?_
 have hE57:=hE56.recast 24 (.v (.pointer (some ⟨b13,0 + 1 * 5,none⟩))) (.p 2 5) rfl rfl (Nat.le_of_ble_eq_true (n:=3) rfl)
 have hE58:=hE57.pk (env':=[(0,.p 0 0),(2,.p 1 0),(3,.p 3 0),(17,.v (.slice (some ⟨b13,0,none⟩) 3 3)),(23,.v (.agg #[.int .i64 (IntKind.i64.wrap ((D.f 1).n)),.slice none 0 0,.bool false,.slice none 0 0,.slice none 0 0])),(24,.p 2 5)])
 refine qaE (i:=9) kz (qaq hW51 hE58 (oi:=2) (cs:=[.int .i64 (IntKind.i64.wrap ((D.f 0).n)),.slice none 0 0,.bool false,.slice none 0 0,.slice none 0 0,.int .i64 (IntKind.i64.wrap ((D.f 1).n)),.slice none 0 0,.bool false,.slice none 0 0,.slice none 0 0,.int .i64 0,.slice none 0 0,.bool false,.slice none 0 0,.slice none 0 0]) kz fun w59 hF60 hW61 hE62=>?_)
 refine ⟨fun h=>absurd rfl h,?_⟩
 refine qaW kz ?_ _
 refine qab ?_
 refine qa8 9 kz hW61 fun w63 hF64 hW65 hT66=>?_
 refine qaP [0,1,2,3,4,5,6] [(0,.p 0 0),(2,.p 1 0),(3,.p 3 0),(26,.v (.slice (some ⟨b13,0,none⟩) 3 3)),(31,.v (.bool (((D.f 2).A).isNone)))] 3 (qac qah) (fun _ h=>h.cells) hT66 hE62 fun a67 hE68=>?_
 refine qaE (i:=7) kz (qao hE68 (t:=23) (A:=(some ⟨b13,0,none⟩)) (m:=3) (q:=2) (d:=32) kz (e:=26) (size:=5) (bytes:=88) (j:=2) kz (b:=b13) (o:=0) rfl rfl (by decide) fun a69 hE70=>?_)
 have hE71:=hE70.recast 32 (.v (.pointer (some ⟨b13,0 + 2 * 5,none⟩))) (.p 2 10) rfl rfl (Nat.le_of_ble_eq_true (n:=3) rfl)
 have hE72:=hE71.pk (env':=[(0,.p 0 0),(2,.p 1 0),(3,.p 3 0),(26,.v (.slice (some ⟨b13,0,none⟩) 3 3)),(31,.v (.bool (((D.f 2).A).isNone))),(32,.p 2 10)])
 refine ⟨fun _=>hT66,?_⟩
 refine qaP [8] [(0,.p 0 0),(2,.p 1 0),(3,.p 3 0),(31,.v (.bool (((D.f 2).A).isNone))),(33,.p 2 12)] 1 (qac qah) (fun _ h=>h.cells) hT66 hE72 fun a74 hE75=>?_
 refine qaE (i:=9) kz (qaq hW65 hE75 (oi:=2) (cs:=[.int .i64 (IntKind.i64.wrap ((D.f 0).n)),.slice none 0 0,.bool false,.slice none 0 0,.slice none 0 0,.int .i64 (IntKind.i64.wrap ((D.f 1).n)),.slice none 0 0,.bool false,.slice none 0 0,.slice none 0 0,.int .i64 0,.slice none 0 0,.bool (((D.f 2).A).isNone),.slice none 0 0,.slice none 0 0]) kz fun w76 hF77 hW78 hE79=>?_)
 refine ⟨fun h=>absurd rfl h,?_⟩
 refine qaW kz ?_ _
 refine qab ?_
 refine wp_seq ?_
 refine qau [(0,.p 0 0),(2,.p 1 0),(3,.p 3 0),(38,.v (.int .i64 (((D.f 2).l:Nat):Int))),(39,.v (.int .i64 0))] hW78 hE79 fun a80 hE81=>?_
 refine wp_block ?_
 have hW82:=hW78.addNil 26 5
 have hF83:=hW78.frNil 26 5
 refine wp_loop_ghost (fun n_ a_ w_=>∃ (k2_:Nat) (A2_:Option Addr) (c2_:Nat) (xs2_:List Value) (css2_:List (List Value)),n_ = (D.f 2).l - k2_ ∧ k2_ ≤ (D.f 2).l ∧ (Trees w_ (Imm F w w_ [⟨b,o,[.int .i16 v,.int .i32 ((D.f 0).n),.int .i16 ((D.f 1).n),.slice ((D.f 2).A) ((D.f 2).l) ((D.f 2).c),.map D.m],false⟩,⟨b5,0,[.int .i64 0,.slice none 0 0,.bool false,.slice none 0 0,.slice none 0 0],true⟩,⟨b13,0,[.int .i64 (IntKind.i64.wrap ((D.f 0).n)),.slice none 0 0,.bool false,.slice none 0 0,.slice none 0 0,.int .i64 (IntKind.i64.wrap ((D.f 1).n)),.slice none 0 0,.bool false,.slice none 0 0,.slice none 0 0,.int .i64 0,.slice none 0 0,.bool (((D.f 2).A).isNone),.slice A2_ k2_ c2_,.slice none 0 0],true⟩,⟨b23,0,[.int .i64 0,.slice none 0 0,.bool false,.slice (some ⟨b13,0,none⟩) 3 3,.slice none 0 0],true⟩] [⟨A2_,c2_,26,5,k2_,xs2_⟩]) xs2_ (((List.range (D.f 2).l).map (fun i=>qas ((D.f 2).f i))).take k2_) css2_) ∧ LInv hW82 90 [⟨b,o,[.int .i16 v,.int .i32 ((D.f 0).n),.int .i16 ((D.f 1).n),.slice ((D.f 2).A) ((D.f 2).l) ((D.f 2).c),.map D.m],false⟩,⟨b5,0,[.int .i64 0,.slice none 0 0,.bool false,.slice none 0 0,.slice none 0 0],true⟩,⟨b13,0,[.int .i64 (IntKind.i64.wrap ((D.f 0).n)),.slice none 0 0,.bool false,.slice none 0 0,.slice none 0 0,.int .i64 (IntKind.i64.wrap ((D.f 1).n)),.slice none 0 0,.bool false,.slice none 0 0,.slice none 0 0,.int .i64 0,.slice none 0 0,.bool (((D.f 2).A).isNone),.slice A2_ k2_ c2_,.slice none 0 0],true⟩,⟨b23,0,[.int .i64 0,.slice none 0 0,.bool false,.slice (some ⟨b13,0,none⟩) 3 3,.slice none 0 0],true⟩] [⟨A2_,c2_,26,5,k2_,xs2_⟩] [(0,.p 0 0),(2,.p 1 0),(3,.p 3 0),(38,.v (.int .i64 (((D.f 2).l:Nat):Int))),(39,.v (.int .i64 ((k2_:Nat):Int)))] a_ w_) ((D.f 2).l) ⟨0,none,0,[],[],by omega,by omega,Trees.nil _ _,hE81.pk,hW82,Fr.refl _ _ _⟩ ?_
 rintro n84 a85 w86 ⟨k2_,A2_,c2_,xs2_,css2_,hn89,hk90,hT2_,hE87,hW88,hF91⟩
 refine qau [(0,.p 0 0),(2,.p 1 0),(3,.p 3 0),(38,.v (.int .i64 (((D.f 2).l:Nat):Int))),(39,.v (.int .i64 ((k2_:Nat):Int))),(40,.v (.bool (decide (((k2_:Nat):Int) < (((D.f 2).l:Nat):Int)))))] hW88 hE87 fun a92 hE93=>?_
 refine wp_seq ?_
 refine qbd hE93 (b:=decide (((k2_:Nat):Int) < (((D.f 2).l:Nat):Int))) kz (fun hc94=>?_) (fun hc94=>?_)
 ·
  have hf95:=of_decide_eq_true hc94
  refine wp_skip ?_
  refine qab ?_
  refine wp_seq ?_
  refine wp_block ?_
  refine qau [(0,.p 0 0),(2,.p 1 0),(3,.p 3 0),(4,.v (.int .i64 ((k2_:Nat):Int))),(38,.v (.int .i64 (((D.f 2).l:Nat):Int))),(39,.v (.int .i64 ((k2_:Nat):Int)))] hW88 hE93 fun a96 hE97=>?_
  refine qa8 4 kz hW88 fun w98 hF99 hW100 hT101=>?_
  refine qaE (i:=0) kz (qaO hW100 hE97 (d:=42) (cs:=[.bool false]) kz fun b102 a103 w104 hb105 hz106 hF107 hW108 hE109=>?_)
  have hT110:=TT.ofW hF107 hW108
  refine ⟨fun _=>hT110,?_⟩
  refine qeY (i:=1) (j:=2) kz ?_ ?_
  ·
   refine (qaq hW108 hE109 (oi:=4) (cs:=[.bool true]) kz fun w111 hF112 hW113 hE114=>?_)
   have hT115:=TT.ofW (hF107.trans hF112) hW113
   refine ⟨fun _=>hT115,?_⟩
   refine qaE (i:=2) kz (qaq hW113 hE114 (oi:=4) (cs:=[.bool false]) kz fun w116 hF117 hW118 hE119=>?_)
   have hT120:=TT.ofW ((hF107.trans hF112).trans hF117) hW118
   refine ⟨fun _=>hT120,?_⟩
   refine qaE (i:=3) kz (qcr [0,2,3,4,38,39,43] hW118.cells hE119 (env':=[(0,.p 0 0),(2,.p 1 0),(3,.p 3 0),(4,.v (.int .i64 ((k2_:Nat):Int))),(38,.v (.int .i64 (((D.f 2).l:Nat):Int))),(39,.v (.int .i64 ((k2_:Nat):Int))),(43,.v (.bool false))]) kz fun a121 hE122=>?_)
   have hT123:=TT.ofW ((hF107.trans hF112).trans hF117) hW118
   refine ⟨fun _=>hT123,?_⟩
   refine qaW kz ?_ _
   refine qab ?_
   refine qan hE122 (b:=false) kz rfl ?_
   refine qc2 18 kz hW118 fun w124 hF125 hW126 hT127=>?_
   refine qaP [0,1,2,3,7,8,9,10,11] [(0,.p 0 0),(2,.p 1 0),(3,.p 3 0),(38,.v (.int .i64 (((D.f 2).l:Nat):Int))),(39,.v (.int .i64 ((k2_:Nat):Int))),(63,.v (.slice (some ⟨b13,0,none⟩) 3 3)),(65,.v (.slice (some ⟨b13,0,none⟩) 3 3)),(72,.v (.slice ((D.f 2).A) ((D.f 2).l) ((D.f 2).c))),(73,.v (.int .i64 ((k2_:Nat):Int)))] 10 (qaf (qac (qac (qaf (qac qah))))) (fun _ h=>h.cells) hT127 hE122 fun a128 hE129=>?_
   refine qaL hE129 (i:=4) (t:=23) (A:=(some ⟨b13,0,none⟩)) (m:=3) (q:=2) (d:=66) kz (e:=26) (size:=5) (bytes:=88) (j:=2) kz (b:=b13) (o:=0) rfl rfl (by decide) kz kz (qaf (qac (qac (qaf (qac qah))))) hT127 fun a130 hE131=>?_
   have hE132:=hE131.recast 66 (.v (.pointer (some ⟨b13,0 + 2 * 5,none⟩))) (.p 2 10) rfl rfl (Nat.le_of_ble_eq_true (n:=3) rfl)
   have hE133:=hE132.pk (env':=[(0,.p 0 0),(2,.p 1 0),(3,.p 3 0),(38,.v (.int .i64 (((D.f 2).l:Nat):Int))),(39,.v (.int .i64 ((k2_:Nat):Int))),(63,.v (.slice (some ⟨b13,0,none⟩) 3 3)),(65,.v (.slice (some ⟨b13,0,none⟩) 3 3)),(72,.v (.slice ((D.f 2).A) ((D.f 2).l) ((D.f 2).c))),(73,.v (.int .i64 ((k2_:Nat):Int))),(66,.p 2 10)])
   refine qaP [5,6] [(0,.p 0 0),(2,.p 1 0),(3,.p 3 0),(38,.v (.int .i64 (((D.f 2).l:Nat):Int))),(39,.v (.int .i64 ((k2_:Nat):Int))),(63,.v (.slice (some ⟨b13,0,none⟩) 3 3)),(68,.v (.slice A2_ k2_ c2_)),(72,.v (.slice ((D.f 2).A) ((D.f 2).l) ((D.f 2).c))),(73,.v (.int .i64 ((k2_:Nat):Int)))] 7 (qaf (qac (qac (qaf (qac qah))))) (fun _ h=>h.cells) hT127 hE133 fun a134 hE135=>?_
   obtain ⟨b136,o137,hA138,hl139,hat140⟩:=Slots.get g3 (i:=k2_) (by omega)
   refine qaL hE135 (i:=12) (t:=88) (A:=(D.f 2).A) (m:=((D.f 2).l)) (q:=((k2_:Nat):Int)) (d:=74) kz (e:=98) (size:=3) (bytes:=32) kz hA138 rfl (by omega) kz kz (qaf (qac (qac (qaf (qac qah))))) hT127 fun a141 hE142=>?_
   refine qaE (i:=13) kz (qaw hE142 (f:=60) (vs:=[.pointer (some ⟨b136,o137 + k2_ * 3,none⟩)]) (d:=75) kz Tryd.call60 (qaU 0 ((D.f 2).f k2_) _ _ _ _ (hat140.move hW126.step nilM hW126.imm) (qaA _ hW126.step nilM hW126.imm (g3e k2_ (by omega)))) ?_)
   rintro e_ w146 ⟨cs145,rfl,hr144,hs143⟩
   have hr147:=hr144.move (Step.refl _ Nil) nilM (hW126.laid (G:=F) hs143)
   obtain ⟨n148,s149,b150,l151,u152,A153,c154,A155,c156,A157,c158,xs159,ht165,hcs160,h161,h162,h163,h164⟩:=hr147.open_
   rw [hcs160] at hr147
   have hsm166:=h161.small
   have hsm167:=h162.small
   rw [hcs160]
   refine ⟨_,rfl,fun a168 hE169=>?_⟩
   have hW170:=hW126.next_nil hs143
   have hF171:=hW126.frN hs143
   have hT172:=TT.ofW hF171 hW170
   refine ⟨fun _=>hT172,?_⟩
   refine qaE (i:=14) kz (qcv hW170 hE169 (e:=26) (size:=5) (len:=1) (cs:=[.int .i64 n148,.slice A153 s149.length c154,.bool b150,.slice A155 l151.length c156,.slice A157 u152.length c158]) (d:=76) kz kz fun b173 a174 w175 hb176 hz177 hF178 hW179 hE180=>?_)
   have hT181:=TT.ofW (hF171.trans hF178) hW179
   refine ⟨fun _=>hT181,?_⟩
   refine qaE (i:=15) kz (qa7 hW179 hE180 (k:=0) (d:=77) (t:=23) (e:=26) (size:=5) (bytes:=88) (A:=A2_) (As:=(some ⟨b173,0,none⟩)) (m0:=k2_) (c:=c2_) (m:=1) (cs:=1) (xs:=xs2_) (news:=[.int .i64 n148,.slice A153 s149.length c154,.bool b150,.slice A155 l151.length c156,.slice A157 u152.length c158]) kz kz rfl (qcu (hW179.own 1 _ rfl) (qbI kz)) (qcQ (hW179.own 1 _ rfl)) (by omega) fun A182 c183 a184 w185 hF186 hW187 hE188=>?_)
   have hT189:=TT.ofW ((hF171.trans hF178).trans hF186) hW187
   refine ⟨fun _=>hT189,?_⟩
   refine qaE (i:=16) kz (qao hE188 (t:=23) (A:=(some ⟨b13,0,none⟩)) (m:=3) (q:=2) (d:=78) kz (e:=26) (size:=5) (bytes:=88) (j:=2) kz (b:=b13) (o:=0) rfl rfl (by decide) fun a190 hE191=>?_)
   have hE192:=hE191.recast 78 (.v (.pointer (some ⟨b13,0 + 2 * 5,none⟩))) (.p 2 10) rfl rfl (Nat.le_of_ble_eq_true (n:=3) rfl)
   have hE193:=hE192.pk (env':=[(0,.p 0 0),(2,.p 1 0),(3,.p 3 0),(38,.v (.int .i64 (((D.f 2).l:Nat):Int))),(39,.v (.int .i64 ((k2_:Nat):Int))),(63,.v (.slice (some ⟨b13,0,none⟩) 3 3)),(68,.v (.slice A2_ k2_ c2_)),(72,.v (.slice ((D.f 2).A) ((D.f 2).l) ((D.f 2).c))),(73,.v (.int .i64 ((k2_:Nat):Int))),(74,.v (.pointer (some ⟨b136,o137 + k2_ * 3,none⟩))),(75,.v (.agg #[.int .i64 n148,.slice A153 s149.length c154,.bool b150,.slice A155 l151.length c156,.slice A157 u152.length c158])),(76,.v (.slice (some ⟨b173,0,none⟩) 1 1)),(77,.v (.slice A182 (k2_ + 1) c183)),(78,.p 2 10)])
   have hT194:=TT.ofW ((hF171.trans hF178).trans hF186) hW187
   refine ⟨fun _=>hT194,?_⟩
   refine qaP [17] [(0,.p 0 0),(2,.p 1 0),(3,.p 3 0),(38,.v (.int .i64 (((D.f 2).l:Nat):Int))),(39,.v (.int .i64 ((k2_:Nat):Int))),(77,.v (.slice A182 (k2_ + 1) c183)),(79,.p 2 13)] 1 (qaf (qac (qac (qaf (qac qah))))) (fun _ h=>h.cells) hT194 hE193 fun a195 hE196=>?_
   refine qaE (i:=18) kz (qaq hW187 hE196 (oi:=2) (cs:=[.int .i64 (IntKind.i64.wrap ((D.f 0).n)),.slice none 0 0,.bool false,.slice none 0 0,.slice none 0 0,.int .i64 (IntKind.i64.wrap ((D.f 1).n)),.slice none 0 0,.bool false,.slice none 0 0,.slice none 0 0,.int .i64 0,.slice none 0 0,.bool (((D.f 2).A).isNone),.slice A182 (k2_ + 1) c183,.slice none 0 0]) kz fun w197 hF198 hW199 hE200=>?_)
   refine ⟨fun h=>absurd rfl h,?_⟩
   refine qaW kz ?_ _
   refine qa3 ?_
   refine qab ?_
   refine qaC [0,1] kz ?_
   refine qam [0,1] [] [(0,.p 0 0),(2,.p 1 0),(3,.p 3 0),(38,.v (.int .i64 (((D.f 2).l:Nat):Int))),(39,.v (.int .i64 (IntKind.i64.wrap (((k2_:Nat):Int) + 1))))] hW199 hE200 fun a201 hE202=>?_
   refine qag (qab ?_)
   obtain ⟨hE203,hW204,hF205⟩:=hW199.cutB hE202 4 [⟨b,o,[.int .i16 v,.int .i32 ((D.f 0).n),.int .i16 ((D.f 1).n),.slice ((D.f 2).A) ((D.f 2).l) ((D.f 2).c),.map D.m],false⟩,⟨b5,0,[.int .i64 0,.slice none 0 0,.bool false,.slice none 0 0,.slice none 0 0],true⟩,⟨b13,0,[.int .i64 (IntKind.i64.wrap ((D.f 0).n)),.slice none 0 0,.bool false,.slice none 0 0,.slice none 0 0,.int .i64 (IntKind.i64.wrap ((D.f 1).n)),.slice none 0 0,.bool false,.slice none 0 0,.slice none 0 0,.int .i64 0,.slice none 0 0,.bool (((D.f 2).A).isNone),.slice A182 (k2_ + 1) c183,.slice none 0 0],true⟩,⟨b23,0,[.int .i64 0,.slice none 0 0,.bool false,.slice (some ⟨b13,0,none⟩) 3 3,.slice none 0 0],true⟩] [(0,.p 0 0),(2,.p 1 0),(3,.p 3 0),(38,.v (.int .i64 (((D.f 2).l:Nat):Int))),(39,.v (.int .i64 (IntKind.i64.wrap (((k2_:Nat):Int) + 1))))]
   obtain ⟨hW206,hF207⟩:=hW204.cutR 1 [⟨A182,c183,26,5,k2_ + 1,xs2_ ++ [.int .i64 n148,.slice A153 s149.length c154,.bool b150,.slice A155 l151.length c156,.slice A157 u152.length c158]⟩]
   have he208:IntKind.i64.wrap (((k2_:Nat):Int) + 1) = ((k2_ + 1:Nat):Int):=qbK (by omega)
   rw [he208] at hE203
   exact ⟨(D.f 2).l - (k2_ + 1),by omega,k2_ + 1,A182,c183,xs2_ ++ [Value.int .i64 n148,.slice A153 s149.length c154,.bool b150,.slice A155 l151.length c156,.slice A157 u152.length c158],(css2_ ++ [[Value.int .i64 n148,.slice A153 s149.length c154,.bool b150,.slice A155 l151.length c156,.slice A157 u152.length c158]]),rfl,by omega,by rw [qdj (by omega)]; exact (hT2_.move ((((((((((hF99.trans hF107).trans hF112).trans hF117).trans hF125).trans hF171).trans hF178).trans hF186).trans hF198).trans hF205).trans hF207).step immM ((((((((((hF99.trans hF107).trans hF112).trans hF117).trans hF125).trans hF171).trans hF178).trans hF186).trans hF198).trans hF205).trans hF207).to').snoc (x:=(fun i=>qas ((D.f 2).f i)) k2_) (hr147.move ((((hF178.trans hF186).trans hF198).trans hF205).trans hF207).step immM ((((hF178.trans hF186).trans hF198).trans hF205).trans hF207).to'),hE203.pk,hW206,(((((((((((hF91.trans hF99).trans hF107).trans hF112).trans hF117).trans hF125).trans hF171).trans hF178).trans hF186).trans hF198).trans hF205).trans hF207)⟩
  refine (qaq hW108 hE109 (oi:=4) (cs:=[.bool false]) kz fun w209 hF210 hW211 hE212=>?_)
  have hT213:=TT.ofW (hF107.trans hF210) hW211
  refine ⟨fun _=>hT213,?_⟩
  refine qaE (i:=1) kz (qaq hW211 hE212 (oi:=4) (cs:=[.bool true]) kz fun w214 hF215 hW216 hE217=>?_)
  have hT218:=TT.ofW ((hF107.trans hF210).trans hF215) hW216
  refine ⟨fun _=>hT218,?_⟩
  refine qaE (i:=3) kz (qcr [0,2,3,4,38,39,43] hW216.cells hE217 (env':=[(0,.p 0 0),(2,.p 1 0),(3,.p 3 0),(4,.v (.int .i64 ((k2_:Nat):Int))),(38,.v (.int .i64 (((D.f 2).l:Nat):Int))),(39,.v (.int .i64 ((k2_:Nat):Int))),(43,.v (.bool true))]) kz fun a219 hE220=>?_)
  have hT221:=TT.ofW ((hF107.trans hF210).trans hF215) hW216
  refine ⟨fun _=>hT221,?_⟩
  refine qaW kz ?_ _
  refine qab ?_
  refine qaV hE220 (b:=true) kz rfl ?_
  refine qa8 17 kz hW216 fun w222 hF223 hW224 hT225=>?_
  refine qaP [0,1,5,6,7,8,9] [(0,.p 0 0),(2,.p 1 0),(3,.p 3 0),(38,.v (.int .i64 (((D.f 2).l:Nat):Int))),(39,.v (.int .i64 ((k2_:Nat):Int))),(45,.v (.slice (some ⟨b13,0,none⟩) 3 3)),(52,.v (.slice ((D.f 2).A) ((D.f 2).l) ((D.f 2).c))),(53,.v (.int .i64 ((k2_:Nat):Int)))] 11 (qac (qaf (qac (qac (qaf (qac qah)))))) (fun _ h=>h.cells) hT225 hE220 fun a226 hE227=>?_
  refine qaL hE227 (i:=2) (t:=23) (A:=(some ⟨b13,0,none⟩)) (m:=3) (q:=2) (d:=46) kz (e:=26) (size:=5) (bytes:=88) (j:=2) kz (b:=b13) (o:=0) rfl rfl (by decide) kz kz (qac (qaf (qac (qac (qaf (qac qah)))))) hT225 fun a228 hE229=>?_
  have hE230:=hE229.recast 46 (.v (.pointer (some ⟨b13,0 + 2 * 5,none⟩))) (.p 2 10) rfl rfl (Nat.le_of_ble_eq_true (n:=3) rfl)
  have hE231:=hE230.pk (env':=[(0,.p 0 0),(2,.p 1 0),(3,.p 3 0),(38,.v (.int .i64 (((D.f 2).l:Nat):Int))),(39,.v (.int .i64 ((k2_:Nat):Int))),(45,.v (.slice (some ⟨b13,0,none⟩) 3 3)),(52,.v (.slice ((D.f 2).A) ((D.f 2).l) ((D.f 2).c))),(53,.v (.int .i64 ((k2_:Nat):Int))),(46,.p 2 10)])
  refine qaP [3,4,12] [(0,.p 0 0),(2,.p 1 0),(3,.p 3 0),(38,.v (.int .i64 (((D.f 2).l:Nat):Int))),(39,.v (.int .i64 ((k2_:Nat):Int))),(45,.v (.slice (some ⟨b13,0,none⟩) 3 3)),(48,.v (.slice A2_ k2_ c2_)),(52,.v (.slice ((D.f 2).A) ((D.f 2).l) ((D.f 2).c))),(53,.v (.int .i64 ((k2_:Nat):Int))),(56,.v (.int .i64 ((k2_:Nat):Int)))] 7 (qac (qaf (qac (qac (qaf (qac qah)))))) (fun _ h=>h.cells) hT225 hE231 fun a232 hE233=>?_
  obtain ⟨b234,o235,hA236,hl237,hat238⟩:=Slots.get g3 (i:=k2_) (by omega)
  refine qaL hE233 (i:=10) (t:=88) (A:=(D.f 2).A) (m:=((D.f 2).l)) (q:=((k2_:Nat):Int)) (d:=54) kz (e:=98) (size:=3) (bytes:=32) kz hA236 rfl (by omega) kz kz (qac (qaf (qac (qac (qaf (qac qah)))))) hT225 fun a239 hE240=>?_
  refine qeY (i:=11) (j:=13) kz ?_ ?_
  ·
   refine (qaw hE240 (f:=60) (vs:=[.pointer (some ⟨b234,o235 + k2_ * 3,none⟩)]) (d:=55) kz Tryd.call60 (qaU 0 ((D.f 2).f k2_) _ _ _ _ (hat238.move hW224.step nilM hW224.imm) (qaA _ hW224.step nilM hW224.imm (g3e k2_ (by omega)))) ?_)
   rintro e_ w244 ⟨cs243,rfl,hr242,hs241⟩
   have hr245:=hr242.move (Step.refl _ Nil) nilM (hW224.laid (G:=F) hs241)
   obtain ⟨n246,s247,b248,l249,u250,A251,c252,A253,c254,A255,c256,xs257,ht263,hcs258,h259,h260,h261,h262⟩:=hr245.open_
   rw [hcs258] at hr245
   have hsm264:=h259.small
   have hsm265:=h260.small
   rw [hcs258]
   refine ⟨_,rfl,fun a266 hE267=>?_⟩
   have hW268:=hW224.next_nil hs241
   have hF269:=hW224.frN hs241
   have hT270:=TT.ofW hF269 hW268
   refine ⟨fun _=>hT270,?_⟩
   refine qaE (i:=13) kz (qcv hW268 hE267 (e:=26) (size:=5) (len:=1) (cs:=[.int .i64 0,.slice none 0 0,.bool false,.slice none 0 0,.slice none 0 0]) (d:=57) kz kz fun b271 a272 w273 hb274 hz275 hF276 hW277 hE278=>?_)
   have hT279:=TT.ofW (hF269.trans hF276) hW277
   refine ⟨fun _=>hT279,?_⟩
   refine qaE (i:=14) kz (qa7 hW277 hE278 (k:=0) (d:=58) (t:=23) (e:=26) (size:=5) (bytes:=88) (A:=A2_) (As:=(some ⟨b271,0,none⟩)) (m0:=k2_) (c:=c2_) (m:=1) (cs:=1) (xs:=xs2_) (news:=[.int .i64 0,.slice none 0 0,.bool false,.slice none 0 0,.slice none 0 0]) kz kz rfl (qcu (hW277.own 1 _ rfl) (qbI kz)) (qcQ (hW277.own 1 _ rfl)) (by omega) fun A280 c281 a282 w283 hF284 hW285 hE286=>?_)
   have hT287:=TT.ofW ((hF269.trans hF276).trans hF284) hW285
   refine ⟨fun _=>hT287,?_⟩
   refine qaE (i:=15) kz (qao hE286 (t:=23) (A:=(some ⟨b13,0,none⟩)) (m:=3) (q:=2) (d:=59) kz (e:=26) (size:=5) (bytes:=88) (j:=2) kz (b:=b13) (o:=0) rfl rfl (by decide) fun a288 hE289=>?_)
   have hE290:=hE289.recast 59 (.v (.pointer (some ⟨b13,0 + 2 * 5,none⟩))) (.p 2 10) rfl rfl (Nat.le_of_ble_eq_true (n:=3) rfl)
   have hE291:=hE290.pk (env':=[(0,.p 0 0),(2,.p 1 0),(3,.p 3 0),(38,.v (.int .i64 (((D.f 2).l:Nat):Int))),(39,.v (.int .i64 ((k2_:Nat):Int))),(45,.v (.slice (some ⟨b13,0,none⟩) 3 3)),(48,.v (.slice A2_ k2_ c2_)),(52,.v (.slice ((D.f 2).A) ((D.f 2).l) ((D.f 2).c))),(53,.v (.int .i64 ((k2_:Nat):Int))),(56,.v (.int .i64 ((k2_:Nat):Int))),(54,.v (.pointer (some ⟨b234,o235 + k2_ * 3,none⟩))),(55,.v (.agg #[.int .i64 n246,.slice A251 s247.length c252,.bool b248,.slice A253 l249.length c254,.slice A255 u250.length c256])),(57,.v (.slice (some ⟨b271,0,none⟩) 1 1)),(58,.v (.slice A280 (k2_ + 1) c281)),(59,.p 2 10)])
   have hT292:=TT.ofW ((hF269.trans hF276).trans hF284) hW285
   refine ⟨fun _=>hT292,?_⟩
   refine qaP [16] [(0,.p 0 0),(2,.p 1 0),(3,.p 3 0),(38,.v (.int .i64 (((D.f 2).l:Nat):Int))),(39,.v (.int .i64 ((k2_:Nat):Int))),(55,.v (.agg #[.int .i64 n246,.slice A251 s247.length c252,.bool b248,.slice A253 l249.length c254,.slice A255 u250.length c256])),(56,.v (.int .i64 ((k2_:Nat):Int))),(58,.v (.slice A280 (k2_ + 1) c281)),(60,.p 2 13)] 1 (qac (qaf (qac (qac (qaf (qac qah)))))) (fun _ h=>h.cells) hT292 hE291 fun a293 hE294=>?_
   refine qaE (i:=17) kz (qaq hW285 hE294 (oi:=2) (cs:=[.int .i64 (IntKind.i64.wrap ((D.f 0).n)),.slice none 0 0,.bool false,.slice none 0 0,.slice none 0 0,.int .i64 (IntKind.i64.wrap ((D.f 1).n)),.slice none 0 0,.bool false,.slice none 0 0,.slice none 0 0,.int .i64 0,.slice none 0 0,.bool (((D.f 2).A).isNone),.slice A280 (k2_ + 1) c281,.slice none 0 0]) kz fun w295 hF296 hW297 hE298=>?_)
   refine ⟨fun h=>absurd rfl h,?_⟩
   refine qaW kz ?_ _
   refine qab ?_
   refine qaC [0,1] kz ?_
   have ho301:World.ownsRow w295 0 26 5 (.slice A280 (k2_ + 1) c281) (k2_ + 1) (xs2_ ++ [.int .i64 0,.slice none 0 0,.bool false,.slice none 0 0,.slice none 0 0]):=hW297.own 0 _ rfl
   obtain ⟨g299,hA300⟩:=qd6 ho301 (by omega)
   refine qal (qao hE298 (t:=23) (A:=A280) (m:=(k2_ + 1)) (q:=((k2_:Nat):Int)) (d:=61) kz (e:=26) (size:=5) (bytes:=88) kz (b:=g299) (o:=0) (j:=k2_) hA300 (rfl) (by omega) fun a302 hE303=>?_)
   refine qal (qdG hW297 hE303 (k:=0) (g:=g299) (o:=k2_ * 5) (c:=c281) (m:=(k2_ + 1)) (size:=5) (e:=26) (A:=A280) (xs:=(xs2_ ++ [.int .i64 0,.slice none 0 0,.bool false,.slice none 0 0,.slice none 0 0])) (vs:=[.int .i64 n246,.slice A251 s247.length c252,.bool b248,.slice A253 l249.length c254,.slice A255 u250.length c256]) kz rfl hA300 (by simp only [List.length_cons,List.length_nil]; omega) fun w304 hF305 hW306 hE307=>?_)
   have er308:(⟨A280,c281,26,5,k2_ + 1,qbV (xs2_ ++ [.int .i64 0,.slice none 0 0,.bool false,.slice none 0 0,.slice none 0 0]) (k2_ * 5) [.int .i64 n246,.slice A251 s247.length c252,.bool b248,.slice A253 l249.length c254,.slice A255 u250.length c256]⟩:Rw) = ⟨A280,c281,26,5,k2_ + 1,xs2_ ++ [.int .i64 n246,.slice A251 s247.length c252,.bool b248,.slice A253 l249.length c254,.slice A255 u250.length c256]⟩:=by rw [qdL (by rw [hT2_.xslen,List.length_take,qda]; omega)]
   obtain ⟨hW309,hF311⟩:=hW306.rowEq 0 [⟨A280,c281,26,5,k2_ + 1,xs2_ ++ [.int .i64 n246,.slice A251 s247.length c252,.bool b248,.slice A253 l249.length c254,.slice A255 u250.length c256]⟩,⟨some ⟨b271,0,none⟩,1,26,5,1,[.int .i64 0,.slice none 0 0,.bool false,.slice none 0 0,.slice none 0 0]⟩] er308
   refine qag ?_
   refine qa3 ?_
   refine qab ?_
   refine qaC [0,1] kz ?_
   refine qam [0,1] [] [(0,.p 0 0),(2,.p 1 0),(3,.p 3 0),(38,.v (.int .i64 (((D.f 2).l:Nat):Int))),(39,.v (.int .i64 (IntKind.i64.wrap (((k2_:Nat):Int) + 1))))] hW309 hE307 fun a312 hE313=>?_
   refine qag (qab ?_)
   obtain ⟨hE314,hW315,hF316⟩:=hW309.cutB hE313 4 [⟨b,o,[.int .i16 v,.int .i32 ((D.f 0).n),.int .i16 ((D.f 1).n),.slice ((D.f 2).A) ((D.f 2).l) ((D.f 2).c),.map D.m],false⟩,⟨b5,0,[.int .i64 0,.slice none 0 0,.bool false,.slice none 0 0,.slice none 0 0],true⟩,⟨b13,0,[.int .i64 (IntKind.i64.wrap ((D.f 0).n)),.slice none 0 0,.bool false,.slice none 0 0,.slice none 0 0,.int .i64 (IntKind.i64.wrap ((D.f 1).n)),.slice none 0 0,.bool false,.slice none 0 0,.slice none 0 0,.int .i64 0,.slice none 0 0,.bool (((D.f 2).A).isNone),.slice A280 (k2_ + 1) c281,.slice none 0 0],true⟩,⟨b23,0,[.int .i64 0,.slice none 0 0,.bool false,.slice (some ⟨b13,0,none⟩) 3 3,.slice none 0 0],true⟩] [(0,.p 0 0),(2,.p 1 0),(3,.p 3 0),(38,.v (.int .i64 (((D.f 2).l:Nat):Int))),(39,.v (.int .i64 (IntKind.i64.wrap (((k2_:Nat):Int) + 1))))]
   obtain ⟨hW317,hF318⟩:=hW315.cutR 1 [⟨A280,c281,26,5,k2_ + 1,xs2_ ++ [.int .i64 n246,.slice A251 s247.length c252,.bool b248,.slice A253 l249.length c254,.slice A255 u250.length c256]⟩]
   have he319:IntKind.i64.wrap (((k2_:Nat):Int) + 1) = ((k2_ + 1:Nat):Int):=qbK (by omega)
   rw [he319] at hE314
   exact ⟨(D.f 2).l - (k2_ + 1),by omega,k2_ + 1,A280,c281,xs2_ ++ [Value.int .i64 n246,.slice A251 s247.length c252,.bool b248,.slice A253 l249.length c254,.slice A255 u250.length c256],(css2_ ++ [[Value.int .i64 n246,.slice A251 s247.length c252,.bool b248,.slice A253 l249.length c254,.slice A255 u250.length c256]]),rfl,by omega,by rw [qdj (by omega)]; exact (hT2_.move ((((((((((((hF99.trans hF107).trans hF210).trans hF215).trans hF223).trans hF269).trans hF276).trans hF284).trans hF296).trans hF305).trans hF311).trans hF316).trans hF318).step immM ((((((((((((hF99.trans hF107).trans hF210).trans hF215).trans hF223).trans hF269).trans hF276).trans hF284).trans hF296).trans hF305).trans hF311).trans hF316).trans hF318).to').snoc (x:=(fun i=>qas ((D.f 2).f i)) k2_) (hr245.move ((((((hF276.trans hF284).trans hF296).trans hF305).trans hF311).trans hF316).trans hF318).step immM ((((((hF276.trans hF284).trans hF296).trans hF305).trans hF311).trans hF316).trans hF318).to'),hE314.pk,hW317,(((((((((((((hF91.trans hF99).trans hF107).trans hF210).trans hF215).trans hF223).trans hF269).trans hF276).trans hF284).trans hF296).trans hF305).trans hF311).trans hF316).trans hF318)⟩
  refine (qcv hW224 hE240 (e:=26) (size:=5) (len:=1) (cs:=[.int .i64 0,.slice none 0 0,.bool false,.slice none 0 0,.slice none 0 0]) (d:=57) kz kz fun b320 a321 w322 hb323 hz324 hF325 hW326 hE327=>?_)
  have hT328:=TT.ofW hF325 hW326
  refine ⟨fun _=>hT328,?_⟩
  refine qaE (i:=11) kz (qaw hE327 (f:=60) (vs:=[.pointer (some ⟨b234,o235 + k2_ * 3,none⟩)]) (d:=55) kz Tryd.call60 (qaU 0 ((D.f 2).f k2_) _ _ _ _ (hat238.move hW326.step nilM hW326.imm) (qaA _ hW326.step nilM hW326.imm (g3e k2_ (by omega)))) ?_)
  rintro e_ w332 ⟨cs331,rfl,hr330,hs329⟩
  have hr333:=hr330.move (Step.refl _ Nil) nilM (hW326.laid (G:=F) hs329)
  obtain ⟨n334,s335,b336,l337,u338,A339,c340,A341,c342,A343,c344,xs345,ht351,hcs346,h347,h348,h349,h350⟩:=hr333.open_
  rw [hcs346] at hr333
  have hsm352:=h347.small
  have hsm353:=h348.small
  rw [hcs346]
  refine ⟨_,rfl,fun a354 hE355=>?_⟩
  have hW356:=hW326.next_nil hs329
  have hF357:=hW326.frN hs329
  have hT358:=TT.ofW (hF325.trans hF357) hW356
  refine ⟨fun _=>hT358,?_⟩
  refine qaE (i:=14) kz (qa7 hW356 hE355 (k:=0) (d:=58) (t:=23) (e:=26) (size:=5) (bytes:=88) (A:=A2_) (As:=(some ⟨b320,0,none⟩)) (m0:=k2_) (c:=c2_) (m:=1) (cs:=1) (xs:=xs2_) (news:=[.int .i64 0,.slice none 0 0,.bool false,.slice none 0 0,.slice none 0 0]) kz kz rfl (qcu (hW356.own 1 _ rfl) (qbI kz)) (qcQ (hW356.own 1 _ rfl)) (by omega) fun A359 c360 a361 w362 hF363 hW364 hE365=>?_)
  have hT366:=TT.ofW ((hF325.trans hF357).trans hF363) hW364
  refine ⟨fun _=>hT366,?_⟩
  refine qaE (i:=15) kz (qao hE365 (t:=23) (A:=(some ⟨b13,0,none⟩)) (m:=3) (q:=2) (d:=59) kz (e:=26) (size:=5) (bytes:=88) (j:=2) kz (b:=b13) (o:=0) rfl rfl (by decide) fun a367 hE368=>?_)
  have hE369:=hE368.recast 59 (.v (.pointer (some ⟨b13,0 + 2 * 5,none⟩))) (.p 2 10) rfl rfl (Nat.le_of_ble_eq_true (n:=3) rfl)
  have hE370:=hE369.pk (env':=[(0,.p 0 0),(2,.p 1 0),(3,.p 3 0),(38,.v (.int .i64 (((D.f 2).l:Nat):Int))),(39,.v (.int .i64 ((k2_:Nat):Int))),(45,.v (.slice (some ⟨b13,0,none⟩) 3 3)),(48,.v (.slice A2_ k2_ c2_)),(52,.v (.slice ((D.f 2).A) ((D.f 2).l) ((D.f 2).c))),(53,.v (.int .i64 ((k2_:Nat):Int))),(56,.v (.int .i64 ((k2_:Nat):Int))),(54,.v (.pointer (some ⟨b234,o235 + k2_ * 3,none⟩))),(57,.v (.slice (some ⟨b320,0,none⟩) 1 1)),(55,.v (.agg #[.int .i64 n334,.slice A339 s335.length c340,.bool b336,.slice A341 l337.length c342,.slice A343 u338.length c344])),(58,.v (.slice A359 (k2_ + 1) c360)),(59,.p 2 10)])
  have hT371:=TT.ofW ((hF325.trans hF357).trans hF363) hW364
  refine ⟨fun _=>hT371,?_⟩
  refine qaP [16] [(0,.p 0 0),(2,.p 1 0),(3,.p 3 0),(38,.v (.int .i64 (((D.f 2).l:Nat):Int))),(39,.v (.int .i64 ((k2_:Nat):Int))),(55,.v (.agg #[.int .i64 n334,.slice A339 s335.length c340,.bool b336,.slice A341 l337.length c342,.slice A343 u338.length c344])),(56,.v (.int .i64 ((k2_:Nat):Int))),(58,.v (.slice A359 (k2_ + 1) c360)),(60,.p 2 13)] 1 (qac (qaf (qac (qac (qaf (qac qah)))))) (fun _ h=>h.cells) hT371 hE370 fun a372 hE373=>?_
  refine qaE (i:=17) kz (qaq hW364 hE373 (oi:=2) (cs:=[.int .i64 (IntKind.i64.wrap ((D.f 0).n)),.slice none 0 0,.bool false,.slice none 0 0,.slice none 0 0,.int .i64 (IntKind.i64.wrap ((D.f 1).n)),.slice none 0 0,.bool false,.slice none 0 0,.slice none 0 0,.int .i64 0,.slice none 0 0,.bool (((D.f 2).A).isNone),.slice A359 (k2_ + 1) c360,.slice none 0 0]) kz fun w374 hF375 hW376 hE377=>?_)
  refine ⟨fun h=>absurd rfl h,?_⟩
  refine qaW kz ?_ _
  refine qab ?_
  refine qaC [0,1] kz ?_
  have ho380:World.ownsRow w374 0 26 5 (.slice A359 (k2_ + 1) c360) (k2_ + 1) (xs2_ ++ [.int .i64 0,.slice none 0 0,.bool false,.slice none 0 0,.slice none 0 0]):=hW376.own 0 _ rfl
  obtain ⟨g378,hA379⟩:=qd6 ho380 (by omega)
  refine qal (qao hE377 (t:=23) (A:=A359) (m:=(k2_ + 1)) (q:=((k2_:Nat):Int)) (d:=61) kz (e:=26) (size:=5) (bytes:=88) kz (b:=g378) (o:=0) (j:=k2_) hA379 (rfl) (by omega) fun a381 hE382=>?_)
  refine qal (qdG hW376 hE382 (k:=0) (g:=g378) (o:=k2_ * 5) (c:=c360) (m:=(k2_ + 1)) (size:=5) (e:=26) (A:=A359) (xs:=(xs2_ ++ [.int .i64 0,.slice none 0 0,.bool false,.slice none 0 0,.slice none 0 0])) (vs:=[.int .i64 n334,.slice A339 s335.length c340,.bool b336,.slice A341 l337.length c342,.slice A343 u338.length c344]) kz rfl hA379 (by simp only [List.length_cons,List.length_nil]; omega) fun w383 hF384 hW385 hE386=>?_)
  have er387:(⟨A359,c360,26,5,k2_ + 1,qbV (xs2_ ++ [.int .i64 0,.slice none 0 0,.bool false,.slice none 0 0,.slice none 0 0]) (k2_ * 5) [.int .i64 n334,.slice A339 s335.length c340,.bool b336,.slice A341 l337.length c342,.slice A343 u338.length c344]⟩:Rw) = ⟨A359,c360,26,5,k2_ + 1,xs2_ ++ [.int .i64 n334,.slice A339 s335.length c340,.bool b336,.slice A341 l337.length c342,.slice A343 u338.length c344]⟩:=by rw [qdL (by rw [hT2_.xslen,List.length_take,qda]; omega)]
  obtain ⟨hW388,hF390⟩:=hW385.rowEq 0 [⟨A359,c360,26,5,k2_ + 1,xs2_ ++ [.int .i64 n334,.slice A339 s335.length c340,.bool b336,.slice A341 l337.length c342,.slice A343 u338.length c344]⟩,⟨some ⟨b320,0,none⟩,1,26,5,1,[.int .i64 0,.slice none 0 0,.bool false,.slice none 0 0,.slice none 0 0]⟩] er387
  refine qag ?_
  refine qa3 ?_
  refine qab ?_
  refine qaC [0,1] kz ?_
  refine qam [0,1] [] [(0,.p 0 0),(2,.p 1 0),(3,.p 3 0),(38,.v (.int .i64 (((D.f 2).l:Nat):Int))),(39,.v (.int .i64 (IntKind.i64.wrap (((k2_:Nat):Int) + 1))))] hW388 hE386 fun a391 hE392=>?_
  refine qag (qab ?_)
  obtain ⟨hE393,hW394,hF395⟩:=hW388.cutB hE392 4 [⟨b,o,[.int .i16 v,.int .i32 ((D.f 0).n),.int .i16 ((D.f 1).n),.slice ((D.f 2).A) ((D.f 2).l) ((D.f 2).c),.map D.m],false⟩,⟨b5,0,[.int .i64 0,.slice none 0 0,.bool false,.slice none 0 0,.slice none 0 0],true⟩,⟨b13,0,[.int .i64 (IntKind.i64.wrap ((D.f 0).n)),.slice none 0 0,.bool false,.slice none 0 0,.slice none 0 0,.int .i64 (IntKind.i64.wrap ((D.f 1).n)),.slice none 0 0,.bool false,.slice none 0 0,.slice none 0 0,.int .i64 0,.slice none 0 0,.bool (((D.f 2).A).isNone),.slice A359 (k2_ + 1) c360,.slice none 0 0],true⟩,⟨b23,0,[.int .i64 0,.slice none 0 0,.bool false,.slice (some ⟨b13,0,none⟩) 3 3,.slice none 0 0],true⟩] [(0,.p 0 0),(2,.p 1 0),(3,.p 3 0),(38,.v (.int .i64 (((D.f 2).l:Nat):Int))),(39,.v (.int .i64 (IntKind.i64.wrap (((k2_:Nat):Int) + 1))))]
  obtain ⟨hW396,hF397⟩:=hW394.cutR 1 [⟨A359,c360,26,5,k2_ + 1,xs2_ ++ [.int .i64 n334,.slice A339 s335.length c340,.bool b336,.slice A341 l337.length c342,.slice A343 u338.length c344]⟩]
  have he398:IntKind.i64.wrap (((k2_:Nat):Int) + 1) = ((k2_ + 1:Nat):Int):=qbK (by omega)
  rw [he398] at hE393
  exact ⟨(D.f 2).l - (k2_ + 1),by omega,k2_ + 1,A359,c360,xs2_ ++ [Value.int .i64 n334,.slice A339 s335.length c340,.bool b336,.slice A341 l337.length c342,.slice A343 u338.length c344],(css2_ ++ [[Value.int .i64 n334,.slice A339 s335.length c340,.bool b336,.slice A341 l337.length c342,.slice A343 u338.length c344]]),rfl,by omega,by rw [qdj (by omega)]; exact (hT2_.move ((((((((((((hF99.trans hF107).trans hF210).trans hF215).trans hF223).trans hF325).trans hF357).trans hF363).trans hF375).trans hF384).trans hF390).trans hF395).trans hF397).step immM ((((((((((((hF99.trans hF107).trans hF210).trans hF215).trans hF223).trans hF325).trans hF357).trans hF363).trans hF375).trans hF384).trans hF390).trans hF395).trans hF397).to').snoc (x:=(fun i=>qas ((D.f 2).f i)) k2_) (hr333.move (((((hF363.trans hF375).trans hF384).trans hF390).trans hF395).trans hF397).step immM (((((hF363.trans hF375).trans hF384).trans hF390).trans hF395).trans hF397).to'),hE393.pk,hW396,(((((((((((((hF91.trans hF99).trans hF107).trans hF210).trans hF215).trans hF223).trans hF325).trans hF357).trans hF363).trans hF375).trans hF384).trans hF390).trans hF395).trans hF397)⟩
 have hf399:=of_decide_eq_false hc94
 refine wp_exit ?_
 refine qaR ?_
 refine qaR ?_
 refine qbh ?_
 refine qab ?_
 refine qae [0,1,2,3,4] kz ?_
 refine qam [0,1,2] [3,4] [(2,.p 1 0),(3,.p 3 0),(83,.p 0 4)] hW88 hE93 fun a400 hE401=>?_
 refine qal (qd7 hE401 (v:=.func (.func 62) #[] #[.pointer (some ⟨b23,0,none⟩)]) (d:=84) kz fun a402 hE403=>?_)
 refine qal (qaw hE403 (f:=61) (vs:=[.pointer (some ⟨b,o + 4,none⟩),.func (.func 62) #[] #[.pointer (some ⟨b23,0,none⟩)]]) (d:=85) kz Tryd.call61 (qeq (F:=(Imm F w w86 [⟨b,o,[.int .i16 v,.int .i32 ((D.f 0).n),.int .i16 ((D.f 1).n),.slice ((D.f 2).A) ((D.f 2).l) ((D.f 2).c),.map D.m],false⟩,⟨b5,0,[.int .i64 0,.slice none 0 0,.bool false,.slice none 0 0,.slice none 0 0],true⟩,⟨b13,0,[.int .i64 (IntKind.i64.wrap ((D.f 0).n)),.slice none 0 0,.bool false,.slice none 0 0,.slice none 0 0,.int .i64 (IntKind.i64.wrap ((D.f 1).n)),.slice none 0 0,.bool false,.slice none 0 0,.slice none 0 0,.int .i64 0,.slice none 0 0,.bool (((D.f 2).A).isNone),.slice A2_ k2_ c2_,.slice none 0 0],true⟩,⟨b23,0,[.int .i64 0,.slice none 0 0,.bool false,.slice (some ⟨b13,0,none⟩) 3 3,.slice none 0 0],true⟩] [⟨A2_,c2_,26,5,k2_,xs2_⟩])) Tryd.call62 qca ((hat.one 4 rfl).move hW88.step nilM hW88.imm) (g4.move hW88.step nilM hW88.imm) (Str.of hW88 3 rfl) (qfj 3 rfl) g4l) ?_)
 rintro e_ w404 ⟨rfl,A405,c406,hst407,hU408,hs409⟩
 obtain ⟨hW410,hF411,hl412⟩:=hW88.wrote 3 [⟨b,o,[.int .i16 v,.int .i32 ((D.f 0).n),.int .i16 ((D.f 1).n),.slice ((D.f 2).A) ((D.f 2).l) ((D.f 2).c),.map D.m],false⟩,⟨b5,0,[.int .i64 0,.slice none 0 0,.bool false,.slice none 0 0,.slice none 0 0],true⟩,⟨b13,0,[.int .i64 (IntKind.i64.wrap ((D.f 0).n)),.slice none 0 0,.bool false,.slice none 0 0,.slice none 0 0,.int .i64 (IntKind.i64.wrap ((D.f 1).n)),.slice none 0 0,.bool false,.slice none 0 0,.slice none 0 0,.int .i64 0,.slice none 0 0,.bool (((D.f 2).A).isNone),.slice A2_ k2_ c2_,.slice none 0 0],true⟩,⟨b23,0,[.int .i64 0,.slice none 0 0,.bool false,.slice (some ⟨b13,0,none⟩) 3 3,.slice A405 D.u.length c406],true⟩] rfl hs409 hst407
 have hU416:=hU408.move (Step.refl _ Nil) nilM (fun b_ o_ h_ hb_=>hl412 (G:=F) b_ o_ (.inr h_) hb_)
 refine ⟨_,rfl,fun a413 hE414=>?_⟩
 have hE415:=(EnvOk.places (tb':=[⟨b,o,[.int .i16 v,.int .i32 ((D.f 0).n),.int .i16 ((D.f 1).n),.slice ((D.f 2).A) ((D.f 2).l) ((D.f 2).c),.map D.m],false⟩,⟨b5,0,[.int .i64 0,.slice none 0 0,.bool false,.slice none 0 0,.slice none 0 0],true⟩,⟨b13,0,[.int .i64 (IntKind.i64.wrap ((D.f 0).n)),.slice none 0 0,.bool false,.slice none 0 0,.slice none 0 0,.int .i64 (IntKind.i64.wrap ((D.f 1).n)),.slice none 0 0,.bool false,.slice none 0 0,.slice none 0 0,.int .i64 0,.slice none 0 0,.bool (((D.f 2).A).isNone),.slice A2_ k2_ c2_,.slice none 0 0],true⟩,⟨b23,0,[.int .i64 0,.slice none 0 0,.bool false,.slice (some ⟨b13,0,none⟩) 3 3,.slice A405 D.u.length c406],true⟩]) hE414 (show Pl [⟨b,o,[.int .i16 v,.int .i32 ((D.f 0).n),.int .i16 ((D.f 1).n),.slice ((D.f 2).A) ((D.f 2).l) ((D.f 2).c),.map D.m],false⟩,⟨b5,0,[.int .i64 0,.slice none 0 0,.bool false,.slice none 0 0,.slice none 0 0],true⟩,⟨b13,0,[.int .i64 (IntKind.i64.wrap ((D.f 0).n)),.slice none 0 0,.bool false,.slice none 0 0,.slice none 0 0,.int .i64 (IntKind.i64.wrap ((D.f 1).n)),.slice none 0 0,.bool false,.slice none 0 0,.slice none 0 0,.int .i64 0,.slice none 0 0,.bool (((D.f 2).A).isNone),.slice A2_ k2_ c2_,.slice none 0 0],true⟩,⟨b23,0,[.int .i64 0,.slice none 0 0,.bool false,.slice (some ⟨b13,0,none⟩) 3 3,.slice none 0 0],true⟩] [⟨b,o,[.int .i16 v,.int .i32 ((D.f 0).n),.int .i16 ((D.f 1).n),.slice ((D.f 2).A) ((D.f 2).l) ((D.f 2).c),.map D.m],false⟩,⟨b5,0,[.int .i64 0,.slice none 0 0,.bool false,.slice none 0 0,.slice none 0 0],true⟩,⟨b13,0,[.int .i64 (IntKind.i64.wrap ((D.f 0).n)),.slice none 0 0,.bool false,.slice none 0 0,.slice none 0 0,.int .i64 (IntKind.i64.wrap ((D.f 1).n)),.slice none 0 0,.bool false,.slice none 0 0,.slice none 0 0,.int .i64 0,.slice none 0 0,.bool (((D.f 2).A).isNone),.slice A2_ k2_ c2_,.slice none 0 0],true⟩,⟨b23,0,[.int .i64 0,.slice none 0 0,.bool false,.slice (some ⟨b13,0,none⟩) 3 3,.slice A405 D.u.length c406],true⟩] from ⟨rfl,rfl,⟨rfl,rfl,⟨rfl,rfl,⟨rfl,rfl,trivial⟩⟩⟩⟩)).pk (env':=[(85,.v (.tuple #[])),(2,.p 1 0),(3,.p 3 0),(83,.p 0 4),(84,.v (.func (.func 62) #[] #[.pointer (some ⟨b23,0,none⟩)]))])
 refine qag (qab ?_)
 refine qae [0,1,2] kz ?_
 refine qam [0,1] [2] [(2,.p 1 0),(3,.p 3 0),(87,.v (.slice A405 D.u.length c406))] hW410 hE415 fun a417 hE418=>?_
 refine qal (qaw hE418 (f:=63) (vs:=[.slice A405 D.u.length c406]) (d:=88) kz Tryd.call63 (qf4 hU416 g4.sorted) ?_)
 rintro e_ w420 ⟨rfl,hs419⟩
 refine ⟨_,rfl,fun a421 hE422=>?_⟩
 have hW423:=hW410.next_nil hs419
 have hF424:=hW410.frN hs419
 refine qag (qab ?_)
 refine qae [0,1] kz ?_
 refine qam [0] [1] [(2,.p 1 0),(89,.v (.agg #[.int .i64 0,.slice none 0 0,.bool false,.slice (some ⟨b13,0,none⟩) 3 3,.slice A405 D.u.length c406]))] hW423 hE422 fun a425 hE426=>?_
 refine qal (qaq hW423 hE426 (oi:=1) (cs:=[.int .i64 0,.slice none 0 0,.bool false,.slice (some ⟨b13,0,none⟩) 3 3,.slice A405 D.u.length c406]) kz fun w427 hF428 hW429 hE430=>?_)
 refine qag (qab ?_)
 refine wp_ret ?_
 refine qaZ hE430 hW429.cells (v:=.agg #[.int .i64 0,.slice none 0 0,.bool false,.slice (some ⟨b13,0,none⟩) 3 3,.slice A405 D.u.length c406]) kz ?_
 have hT431:=(hT2_.move ((hF411.trans hF424).trans hF428).step immM ((hF411.trans hF424).trans hF428).to')
 rw [qgI (by omega)] at hT431
 exact qeX (u:=D.u) (l:=[.mk (IntKind.i64.wrap (D.f 0).n) [] false [] [],.mk (IntKind.i64.wrap (D.f 1).n) [] false [] [],.mk 0 [] (D.f 2).A.isNone ((List.range (D.f 2).l).map fun i=>qas ((D.f 2).f i)) []]) (css:=[[.int .i64 (IntKind.i64.wrap ((D.f 0).n)),.slice none 0 0,.bool false,.slice none 0 0,.slice none 0 0],[.int .i64 (IntKind.i64.wrap ((D.f 1).n)),.slice none 0 0,.bool false,.slice none 0 0,.slice none 0 0],[.int .i64 0,.slice none 0 0,.bool (((D.f 2).A).isNone),.slice A2_ k2_ c2_,.slice none 0 0]]) hW429 2 rfl ⟨(show TreeR _ (Imm F w w427 [⟨b,o,[.int .i16 v,.int .i32 ((D.f 0).n),.int .i16 ((D.f 1).n),.slice ((D.f 2).A) ((D.f 2).l) ((D.f 2).c),.map D.m],false⟩,⟨b5,0,[.int .i64 0,.slice none 0 0,.bool false,.slice (some ⟨b13,0,none⟩) 3 3,.slice A405 D.u.length c406],true⟩,⟨b13,0,[.int .i64 (IntKind.i64.wrap ((D.f 0).n)),.slice none 0 0,.bool false,.slice none 0 0,.slice none 0 0,.int .i64 (IntKind.i64.wrap ((D.f 1).n)),.slice none 0 0,.bool false,.slice none 0 0,.slice none 0 0,.int .i64 0,.slice none 0 0,.bool (((D.f 2).A).isNone),.slice A2_ k2_ c2_,.slice none 0 0],true⟩,⟨b23,0,[.int .i64 0,.slice none 0 0,.bool false,.slice (some ⟨b13,0,none⟩) 3 3,.slice A405 D.u.length c406],true⟩] [⟨A2_,c2_,26,5,k2_,xs2_⟩]) _ _ from (TreeR.mk (n:=IntKind.i64.wrap ((D.f 0).n)) (b:=false) (s:=[]) (l:=[]) (u:=[]) (fun _=>[]) (Octs.nil _ _) (Slots.nil _ _ _ _) (fun i_ x_ h_=>by simp at h_) (TagsR.nil _ _))).move (Step.refl _ Nil) nilM qbW,(show TreeR _ (Imm F w w427 [⟨b,o,[.int .i16 v,.int .i32 ((D.f 0).n),.int .i16 ((D.f 1).n),.slice ((D.f 2).A) ((D.f 2).l) ((D.f 2).c),.map D.m],false⟩,⟨b5,0,[.int .i64 0,.slice none 0 0,.bool false,.slice (some ⟨b13,0,none⟩) 3 3,.slice A405 D.u.length c406],true⟩,⟨b13,0,[.int .i64 (IntKind.i64.wrap ((D.f 0).n)),.slice none 0 0,.bool false,.slice none 0 0,.slice none 0 0,.int .i64 (IntKind.i64.wrap ((D.f 1).n)),.slice none 0 0,.bool false,.slice none 0 0,.slice none 0 0,.int .i64 0,.slice none 0 0,.bool (((D.f 2).A).isNone),.slice A2_ k2_ c2_,.slice none 0 0],true⟩,⟨b23,0,[.int .i64 0,.slice none 0 0,.bool false,.slice (some ⟨b13,0,none⟩) 3 3,.slice A405 D.u.length c406],true⟩] [⟨A2_,c2_,26,5,k2_,xs2_⟩]) _ _ from (TreeR.mk (n:=IntKind.i64.wrap ((D.f 1).n)) (b:=false) (s:=[]) (l:=[]) (u:=[]) (fun _=>[]) (Octs.nil _ _) (Slots.nil _ _ _ _) (fun i_ x_ h_=>by simp at h_) (TagsR.nil _ _))).move (Step.refl _ Nil) nilM qbW,qf2 hW429 (k:=0) rfl hT431 (by rw [qda]; omega) (by rw [qda]; omega),trivial⟩ ((show TagsR _ (Imm F w w427 [⟨b,o,[.int .i16 v,.int .i32 ((D.f 0).n),.int .i16 ((D.f 1).n),.slice ((D.f 2).A) ((D.f 2).l) ((D.f 2).c),.map D.m],false⟩,⟨b5,0,[.int .i64 0,.slice none 0 0,.bool false,.slice (some ⟨b13,0,none⟩) 3 3,.slice A405 D.u.length c406],true⟩,⟨b13,0,[.int .i64 (IntKind.i64.wrap ((D.f 0).n)),.slice none 0 0,.bool false,.slice none 0 0,.slice none 0 0,.int .i64 (IntKind.i64.wrap ((D.f 1).n)),.slice none 0 0,.bool false,.slice none 0 0,.slice none 0 0,.int .i64 0,.slice none 0 0,.bool (((D.f 2).A).isNone),.slice A2_ k2_ c2_,.slice none 0 0],true⟩,⟨b23,0,[.int .i64 0,.slice none 0 0,.bool false,.slice (some ⟨b13,0,none⟩) 3 3,.slice A405 D.u.length c406],true⟩] [⟨A2_,c2_,26,5,k2_,xs2_⟩]) _ _ _ from (hU416.move (hF424.trans hF428).step immM (hF424.trans hF428).to')).move (Step.refl _ Nil) nilM qbW)
end Go.Proofs.YtajibgahdkllkaaDoorR.ME
namespace Go.Proofs.YtajibgahdkllkaaDoorR.ME
open Go
open Go.RowKit
set_option linter.unusedVariables false
set_option linter.unusedSimpArgs false
set_option maxRecDepth 20000
structure UTR (w w':World) (br p2 p3:Nat) (F:Nat → Nat → Prop) (A:Option Addr) (n c:Nat) (σ:Sg) (m:Option Nat) (u:List (Int × Bs)):Prop where
 step:Step w w' (RdM br)
 old:br < w.heap.size
 new2:w.heap.size ≤ p2
 new3:w.heap.size ≤ p3
 ne:p2 ≠ p3
 rd:Str w' br [.slice A n c,.bool σ.1]
 s2:Str w' p2 [.map none]
 s3:Str w' p3 [.map m]
 oct:RdS w' (fun b o=>F b o ∧ b < w.heap.size) A n c σ.2
 own:OwnM w' (fun b o=>F b o ∧ b < w.heap.size) m u
 new:∀ r,m = some r → w.heap.size ≤ r
theorem UTR.mne {w w':World} {br p2 p3:Nat} {F:Nat → Nat → Prop} {A:Option Addr} {n c:Nat} {s:Sg} {m:Option Nat} {u:List (Int × Bs)} (h:UTR w w' br p2 p3 F A n c s m u):m ≠ some p2 ∧ m ≠ some p3:=by
 refine ⟨fun e=>?_,fun e=>?_⟩
 ·obtain ⟨es,clk,h1,_⟩:=h.own.some_ p2 e
  exact qdf (h.s2.at_ 0 _ rfl) h1 rfl
 obtain ⟨es,clk,h1,_⟩:=h.own.some_ p3 e
 exact qdf (h.s3.at_ 0 _ rfl) h1 rfl
theorem UTR.read {w w' w1:World} {br p2 p3:Nat} {F:Nat → Nat → Prop} {A A':Option Addr} {n c n' c':Nat} {s s':Sg} {m:Option Nat} {u:List (Int × Bs)} (h:UTR w w' br p2 p3 F A n c s m u) (hFd:∀ b o,F b o → ¬ RdM br b o) (hs:Str w1 br [.slice A' n' c',.bool s'.1]) (hr:RdS w1 (fun b o=>F b o ∧ b < w.heap.size) A' n' c' s'.2) (hst:Step w' w1 (RdM br)):UTR w w1 br p2 p3 F A' n' c' s' m u:=by
 have ho:=h.old
 have h2:=h.new2
 have h3:=h.new3
 refine ⟨h.step.trans hst fun _ _ _ e=>e,ho,h2,h3,h.ne,hs,h.s2.move hst fun o e=>?_,h.s3.move hst fun o e=>?_,hr,h.own.move hst (fun b o hg _=>hFd b o hg.1) qaF (fun r o e he=>?_),h.new⟩
 ·have:=e.1; omega
 ·have:=e.1; omega
 have:=h.new r e; have:=he.1; omega
theorem UTR.set {w w':World} {br p2 p3:Nat} {F:Nat → Nat → Prop} {A A1:Option Addr} {n c c1:Nat} {s:Sg} {x:Bs} {k:Int} {m:Option Nat} {u:List (Int × Bs)} (h:UTR w w' br p2 p3 F A n c s m u) (hx:Octs w' (fun b o=>F b o ∧ b < w.heap.size) A1 c1 x) (hk:0 ≤ k ∧ k < 4294967296) :
  Calls Tryd.prog 111 [.pointer (some ⟨p3,0,none⟩),.int .u32 k,.slice A1 x.length c1].toArray w' (fun e w1=>e = .returned (.tuple #[]) ∧ ∃ r,UTR w w1 br p2 p3 F A n c s (some r) (setT u k x)):=by
 have hcell:w'.cell? ⟨p3,0,none⟩ = some (.map m):=h.s3.at_ 0 _ rfl
 have hfz:w'.frozen? ⟨p3,0,none⟩ = false:=h.s3.frz 0 (by simp)
 have hnew:=h.new
 have h2:=h.new2
 have h3:=h.new3
 have ho:=h.old
 have hsz:=h.step.size
 obtain ⟨m2,m3⟩:=h.mne
 refine (qgk hcell hfz h.own hx hk (fun b' o' hg=>⟨fun e=>?_,fun e=>?_⟩) (fun b' o' hg=>Nat.lt_of_lt_of_le hg.2 hsz)).mono ?_
 ·have:=hg.2; omega
 ·have:=hnew b' e; have:=hg.2; omega
 rintro e w1 ⟨rfl,r,g1,g2,g3,g4,g5⟩
 refine ⟨rfl,r,h.step.trans g5 fun b o hl e=>?_,ho,h2,h3,h.ne,h.rd.move g5 fun o e=>?_,h.s2.move g5 fun o e=>?_,⟨fun i v hi=>?_,fun i hi=>?_⟩,⟨h.oct.len,Octs.move h.oct.oct g5 (fun b o hg _ e=>?_) qaF⟩,g3,fun r' hr'=>?_⟩
 ·rcases e with ⟨e1,_⟩ | e1
  ·omega
  have:=hnew b e1; omega
 ·rcases e with ⟨e1,_⟩ | e1
  ·omega
  have:=hnew br e1; omega
 ·rcases e with ⟨e1,_⟩ | e1
  ·exact h.ne e1
  exact m2 e1
 ·cases i with
  | zero =>
   simp only [List.getElem?_cons_zero,Option.some.injEq] at hi
   subst hi
   exact g1
  | succ i=>simp at hi
 ·have:i = 0:=by simp at hi; omega
  subst this
  exact g2
 ·have:=hg.2
  rcases e with ⟨e1,_⟩ | e1
  ·omega
  have:=hnew b e1; omega
 obtain rfl:=Option.some.inj hr'
 rcases g4 with g4 | g4
 ·exact hnew _ g4
 exact Nat.le_trans hsz g4
theorem qgJ (σ:Sg) {br:Nat} {A:Option Addr} {m c:Nat} {w:World} {F:Nat → Nat → Prop} (hst:Str w br [.slice A m c,.bool σ.1]) (hr:RdS w F A m c σ.2) (hFd:∀ b o,F b o → ¬ RdM br b o) :
  Calls Tryd.prog 91 #[.pointer (some ⟨br,0,none⟩)] w (RdPostT w br (Fp F w) (qeF σ) fun v w'=>∃ mm,v = .agg #[.map mm] ∧ MapR w' (Fp F w) mm (qdi σ)):=by
 have hbr:br < w.heap.size:=World.lt_of_cell (hst.at_ 0 _ rfl)
 refine enter (n:=24) (vs:=[.pointer (some ⟨br,0,none⟩)]) Tryd.func91 rfl Tryd.ntmps91 kz fun a hE=>?_
 have hW:=WOk.start w Nil
 refine qae [0] kz ?_
 refine qal (qaO hW hE (d:=2) (cs:=[.map none]) kz fun p2 a1 w1 hp2 hz2 hF1 hW1 hE1=>qag (qab ?_))
 refine qae [0] kz ?_
 refine qal (qaO hW1 hE1 (d:=3) (cs:=[.map none]) kz fun p3 a2 w2 hp3 hz3 hF2 hW2 hE2=>qag (qab ?_))
 have hne:p2 ≠ p3:=by
  have h1:=hW1.live 0 _ rfl
  simp only at h1
  omega
 have hS:Step w w2 Nil:=hW2.step
 have hT0:UTR w w2 br p2 p3 F A m c σ none []:=by
  refine ⟨hS.mono fun _ _ _ h=>h.elim,hbr,hz2,hz3,hne,hst.move hS (fun _ h=>h),Str.of hW2 0 rfl,Str.of hW2 1 rfl,hr.move hS nilM (fun b o h hb=>⟨h,hb⟩),?_,fun _ h=>by cases h⟩
  exact OwnM.nil _ _
 refine wp_seq ?_
 have hE3:=(((hE2.recast 2 (.p 0 0) (.v (.pointer (some ⟨p2,0,none⟩))) rfl rfl trivial).recast 3 (.p 1 0) (.v (.pointer (some ⟨p3,0,none⟩))) rfl rfl trivial).pick (ks:=[0,2,3]) (env':=[(0,.v (.pointer (some ⟨br,0,none⟩))),(2,.v (.pointer (some ⟨p2,0,none⟩))),(3,.v (.pointer (some ⟨p3,0,none⟩)))]) kz).cutTb 0 kz
 have hWz:=WOk.start w2 Nil
 refine qae [0,1,2] kz ?_
 refine qam [0] [1,2] [(0,.v (.pointer (some ⟨br,0,none⟩))),(2,.v (.pointer (some ⟨p2,0,none⟩))),(3,.v (.pointer (some ⟨p3,0,none⟩))),(7,.v (.pointer (some ⟨br,0,none⟩)))] hWz hE3 fun a3 hE4=>?_
 have hFd':∀ b o,(F b o ∧ b < w.heap.size) → ¬ RdM br b o:=fun b o h=>hFd b o h.1
 refine qal (qaw hE4 (f:=110) (vs:=[.pointer (some ⟨br,0,none⟩)]) (d:=8) kz Tryd.call110 (qc9 σ hT0.rd hT0.oct hFd') ?_)
 rintro e_ w3 ⟨_,A3,n3,c3,rfl,hs3,hr3,hst3,rfl⟩
 have hT1:=hT0.read hFd hs3 hr3 hst3
 refine ⟨_,rfl,fun a4 hE5=>?_⟩
 refine qam [2] [] [(0,.v (.pointer (some ⟨br,0,none⟩))),(2,.v (.pointer (some ⟨p2,0,none⟩))),(3,.v (.pointer (some ⟨p3,0,none⟩))),(4,.v (.int .u32 ((uUv σ:Nat):Int)))] (WOk.start w3 Nil) hE5 fun a5 hE6=>qag (qab ?_)
 refine wp_block ?_
 refine wp_loop_ghost (fun q a_ w_=>∃ (p:Nat) (u_:List (Int × Bs)) (σ_:Sg) (m_:Option Nat) (A_:Option Addr) (n_ c_:Nat),q = p ∧ p < 4294967296 ∧ qdM p u_ σ_ = qdM (uUv σ) [] (aUv σ) ∧ qcP u_ ∧ (∀ x ∈ u_,0 ≤ x.1 ∧ x.1 < 4294967296) ∧ EnvOk 24 [] [(0,.v (.pointer (some ⟨br,0,none⟩))),(2,.v (.pointer (some ⟨p2,0,none⟩))),(3,.v (.pointer (some ⟨p3,0,none⟩))),(4,.v (.int .u32 ((p:Nat):Int)))] a_ ∧ UTR w w_ br p2 p3 F A_ n_ c_ σ_ m_ u_) (uUv σ)
  ⟨uUv σ,[],aUv σ,none,A3,n3,c3,rfl,qcx σ,rfl,List.Pairwise.nil,(fun x hx=>by cases hx),hE6,hT1⟩ ?_
 rintro q aq wq ⟨p,u,σ_,m_,A_,n_,c_,rfl,hplt,htg,hsort,hk,hEq,hT⟩
 have hWq:=WOk.start wq Nil
 refine wp_seq (qau [(0,.v (.pointer (some ⟨br,0,none⟩))),(2,.v (.pointer (some ⟨p2,0,none⟩))),(3,.v (.pointer (some ⟨p3,0,none⟩))),(4,.v (.int .u32 ((q:Nat):Int))),(10,.v (.bool (decide (((q:Nat):Int) > 0))))] hWq hEq fun aq1 hE7=>?_)
 refine qbd hE7 (b:=decide (((q:Nat):Int) > 0)) kz (fun hc=>?_) (fun hc=>?_)
 ·obtain ⟨p,rfl⟩:∃ p,q = p + 1:=⟨q - 1,by have:=of_decide_eq_true hc; omega⟩
  have hka:=qcx σ_
  have hkb:=qcx (aUv σ_)
  refine wp_skip (qab (wp_seq (wp_block ?_)))
  refine qae [0,1,2,3,4,5] kz ?_
  refine qam [0] [1,2,3,4,5] [(0,.v (.pointer (some ⟨br,0,none⟩))),(2,.v (.pointer (some ⟨p2,0,none⟩))),(3,.v (.pointer (some ⟨p3,0,none⟩))),(4,.v (.int .u32 ((p + 1:Nat):Int))),(13,.v (.pointer (some ⟨br,0,none⟩)))] hWq hE7 fun aq2 hE8=>?_
  refine qal (qaw hE8 (f:=110) (vs:=[.pointer (some ⟨br,0,none⟩)]) (d:=14) kz Tryd.call110 (qc9 σ_ hT.rd hT.oct hFd') ?_)
  rintro e_ wa ⟨_,Aa,na,ca,rfl,hsa,hra,hsta,rfl⟩
  have hTa:=hT.read hFd hsa hra hsta
  refine ⟨_,rfl,fun aq3 hE9=>?_⟩
  refine qam [2] [3,4,5] [(0,.v (.pointer (some ⟨br,0,none⟩))),(2,.v (.pointer (some ⟨p2,0,none⟩))),(3,.v (.pointer (some ⟨p3,0,none⟩))),(4,.v (.int .u32 ((p + 1:Nat):Int))),(14,.v (.int .u32 ((uUv σ_:Nat):Int))),(15,.v (.pointer (some ⟨br,0,none⟩)))] (WOk.start wa Nil) hE9 fun aq4 hE10=>?_
  refine qal (qaw hE10 (f:=110) (vs:=[.pointer (some ⟨br,0,none⟩)]) (d:=16) kz Tryd.call110 (qc9 (aUv σ_) hTa.rd hTa.oct hFd') ?_)
  rintro e_ wb ⟨_,Ab,nb,cb,rfl,hsb,hrb,hstb,rfl⟩
  have hTb:=hTa.read hFd hsb hrb hstb
  refine ⟨_,rfl,fun aq5 hE11=>?_⟩
  refine qam [4,5] [] [(0,.v (.pointer (some ⟨br,0,none⟩))),(2,.v (.pointer (some ⟨p2,0,none⟩))),(3,.v (.pointer (some ⟨p3,0,none⟩))),(4,.v (.int .u32 ((p + 1:Nat):Int))),(5,.v (.int .u32 ((uUv σ_:Nat):Int))),(6,.v (.int .u32 ((uUv (aUv σ_):Nat):Int)))] (WOk.start wb Nil) hE11 fun aq6 hE12=>qag (qab ?_)
  refine qaC [0,1,2,3,4,5] kz ?_
  refine qam [0,1,2,3] [4,5] [(0,.v (.pointer (some ⟨br,0,none⟩))),(2,.v (.pointer (some ⟨p2,0,none⟩))),(3,.v (.pointer (some ⟨p3,0,none⟩))),(4,.v (.int .u32 ((p + 1:Nat):Int))),(17,.v (.int .u32 ((uUv σ_:Nat):Int))),(18,.v (.pointer (some ⟨br,0,none⟩))),(20,.v (.int .i64 (IntKind.i64.wrap ((uUv (aUv σ_):Nat):Int))))] (WOk.start wb Nil) hE12 fun aq7 hE13=>?_
  rw [show IntKind.i64.wrap ((uUv (aUv σ_):Nat):Int) = ((uUv (aUv σ_):Nat):Int) by rw [i64w]; omega] at hE13
  refine qal (qaw hE13 (f:=106) (vs:=[.pointer (some ⟨br,0,none⟩),.int .i64 ((uUv (aUv σ_):Nat):Int)]) (d:=21) kz Tryd.call106 (qfZ ((uUv (aUv σ_):Nat):Int) (aUv (aUv σ_)) hTb.rd hTb.oct hFd') ?_)
  rintro e_ wc ⟨_,Ac,nc,cc,rfl,hsc,hrc,hstc,Ax,cx,rfl,hox⟩
  have hTc:=hTb.read hFd hsc hrc hstc
  refine ⟨_,rfl,fun aq8 hE14=>?_⟩
  refine qal (qaw hE14 (f:=111) (vs:=[.pointer (some ⟨p3,0,none⟩),.int .u32 ((uUv σ_:Nat):Int),.slice Ax (uSp ((uUv (aUv σ_):Nat):Int) (aUv (aUv σ_))).length cx]) (d:=22) kz Tryd.call111 (hTc.set hox ⟨by omega,by omega⟩) ?_)
  rintro e_ wd ⟨rfl,r,hTd⟩
  refine ⟨_,rfl,fun aq9 hE15=>qag (qa3 (qab ?_))⟩
  refine qaC [0,1,2] kz (qam [0,1,2] [] [(0,.v (.pointer (some ⟨br,0,none⟩))),(2,.v (.pointer (some ⟨p2,0,none⟩))),(3,.v (.pointer (some ⟨p3,0,none⟩))),(4,.v (.int .u32 (IntKind.u32.wrap (((p + 1:Nat):Int) - 1))))] (WOk.start wd Nil) hE15 fun aqa hE16=>qag (qab ?_))
  rw [show IntKind.u32.wrap (((p + 1:Nat):Int) - 1) = ((p:Nat):Int) by rw [qap]; omega] at hE16
  exact ⟨p,by omega,p,_,_,some r,Ac,nc,cc,rfl,by omega,htg,qcw hsort,(fun x hx=>by
   rcases (qbk hsort x).1 hx with rfl | ⟨h,_⟩
   ·exact ⟨by dsimp only; omega,by dsimp only; omega⟩
   exact hk x h),hE16,hTd⟩
 obtain rfl:q = 0:=by have:=of_decide_eq_false hc; omega
 have hu:u = qdi σ:=congrArg Prod.fst htg
 have hs_:σ_ = qeF σ:=congrArg Prod.snd htg
 subst hu
 subst hs_
 refine wp_exit (qaR (qaR (qbh (qab ?_))))
 have hT':UTR w wq br p2 p3 F A_ n_ c_ (qeF σ) m_ (qdi σ):=hT
 have h2:=hT'.new2
 have h3:=hT'.new3
 have hW9:WOk w (RdM br) wq ([] ++ [⟨p3,0,[.map m_],true⟩] ++ [⟨p2,0,[.map none],true⟩]) []:=by
  have hb:WOk w (RdM br) wq [] []:=⟨hT'.step,fun i o hi=>by simp at hi,fun i o hi=>by simp at hi,fun i o hi=>by simp at hi,fun i j o o' _ hi=>by simp at hi,fun i r hi=>by simp at hi,fun i r hi=>by simp at hi,fun i r hi=>by simp at hi,fun i j r r' _ hi=>by simp at hi⟩
  have h4:=hb.add ⟨p3,0,[.map m_],true⟩ (World.lt_of_cell (hT'.s3.at_ 0 _ rfl)) (fun j v hj=>by rw [Nat.zero_add]; exact hT'.s3.at_ j v hj) (fun _ j hj=>⟨.inl h3,by rw [Nat.zero_add]; exact hT'.s3.frz j hj⟩) (fun i o hi=>by simp at hi) (fun i r hi=>by simp at hi)
  refine h4.add ⟨p2,0,[.map none],true⟩ (World.lt_of_cell (hT'.s2.at_ 0 _ rfl)) (fun j v hj=>by rw [Nat.zero_add]; exact hT'.s2.at_ j v hj) (fun _ j hj=>⟨.inl h2,by rw [Nat.zero_add]; exact hT'.s2.frz j hj⟩) (fun i o hi _=>.inl ?_) (fun i r hi=>by simp at hi)
  have:o = ⟨p3,0,[.map m_],true⟩:=by
   have hm:=List.mem_of_getElem? hi
   simpa using hm
  rw [this]
  exact fun e=>hT'.ne e.symm
 have hE17:=(((hE7.retable [⟨p3,0,[.map m_],true⟩,⟨p2,0,[.map none],true⟩]).recast 3 (.v (.pointer (some ⟨p3,0,none⟩))) (.p 0 0) rfl rfl (Nat.le_of_ble_eq_true (n:=1) rfl)).recast 2 (.v (.pointer (some ⟨p2,0,none⟩))) (.p 1 0) rfl rfl (Nat.le_of_ble_eq_true (n:=2) rfl))
 have hE18:EnvOk 24 [⟨p3,0,[.map m_],true⟩,⟨p2,0,[.map none],true⟩] [(2,.p 1 0),(3,.p 0 0)] _:=hE17.pk
 refine qae [0,1] kz ?_
 refine qam [0] [1] [(2,.p 1 0),(23,.v (.agg #[.map m_]))] hW9 hE18 fun aqb hE19=>?_
 refine qal (qaq hW9 hE19 (oi:=1) (cs:=[.map m_]) kz fun wz hFz hWz hEz=>qag (qab (wp_ret ?_)))
 have hsz:=hT'.step.size
 have hstz:Step wq wz (fun b o=>b = p2 ∨ b = p3):=hFz.step.mono fun b o _ ha=>by
  rcases ha with ⟨i,ob,hi,_,rfl,_⟩ | ⟨i,r,hi,_⟩
  ·have hm:=List.mem_of_getElem? hi
   simp only [List.nil_append,List.cons_append,List.mem_cons,List.not_mem_nil,or_false] at hm
   rcases hm with rfl | rfl
   ·exact .inr rfl
   exact .inl rfl
  simp at hi
 obtain ⟨m2,m3⟩:=hT'.mne
 refine qaZ hEz hWz.cells (v:=.agg #[.map m_]) kz ⟨_,A_,n_,c_,rfl,hT'.rd.move hstz (fun o e=>?_),hT'.oct.move hstz (fun b o hg _ e=>?_) (fun b o hg _=>.inl hg.1),hWz.step,m_,rfl,?_⟩
 ·have:=hT'.old; rcases e with e | e <;> omega
 ·have:=hg.2; rcases e with e | e <;> omega
 refine (hT'.own.move hstz (fun b o hg _ e=>?_) qaF (fun r o e he=>?_)).map (fun b o h=>.inl h.1) (fun r o e=>.inr (hT'.new r e)) hsort hk
 ·have:=hg.2; rcases e with e | e <;> omega
 rcases he with he | he
 ·exact m2 (by rw [e,he])
 exact m3 (by rw [e,he])
theorem qhG (σ:Sg):RPrimU Tryd.prog 91 σ (qeF σ) (fun m:Option Nat=>.agg #[.map m]) (fun m=>qhx m (qdi σ)):=⟨mn_Tags.len σ,fun hst hr hF=>(qgJ σ hst hr hF).mono fun e w' hp=>hp.q fun v w' h=>h⟩
theorem trc {l l':List Tree} {u u':List (Int × Bs)} (h:l = l') (h':u = u'):Tree.mk 0 [] false l u = Tree.mk 0 [] false l' u':=by rw [h,h']
theorem tlc {a b:Tree} {l l':List Tree} (h:a = b) (h':l = l'):a :: l = b :: l':=by rw [h,h']
theorem qgK {N:Nat} {b b':Bool} {g g':Nat → Tree} (hb:b = b') (h:∀ i,i < N → g i = g' i):Tree.mk 0 [] b ((List.range N).map g) [] = Tree.mk 0 [] b' ((List.range N).map g') []:=by
 rw [hb,List.map_congr_left fun i hi=>h i (List.mem_range.1 hi)]
theorem qf5 {N:Nat} {b b':Bool} {g g':Nat → Tree} (hb:b = b') (h:N = 0):Tree.mk 0 [] b ((List.range 0).map g) [] = Tree.mk 0 [] b' ((List.range N).map g') []:=by
 subst h
 rw [hb]; rfl
theorem qeZ {u:List (Int × Bs)} {k:Int} {s:Bs}:(setT u k s).length ≤ u.length + 1:=by
 induction u with
 | nil=>exact Nat.le_refl _
 | cons x r ih =>
  unfold setT
  repeat' split
  all_goals simp only [List.length_cons]
  all_goals omega
theorem qgL {u:List (Int × Bs)} {k:Int} {s:Bs} (hs:qcP u) (h:∃ x ∈ u,x.1 = k):(setT u k s).length ≤ u.length:=by
 induction u with
 | nil=>obtain ⟨x,hx,_⟩:=h; cases hx
 | cons x r ih =>
  have h1:=@List.rel_of_pairwise_cons _ _ _ _ hs
  unfold setT
  by_cases hk:k < x.1
  ·exfalso
   obtain ⟨y,hy,rfl⟩:=h
   rcases List.mem_cons.1 hy with rfl | hy
   ·omega
   have:=h1 hy; omega
  rw [if_neg hk]
  by_cases he:k = x.1
  ·rw [if_pos he]; exact Nat.le_refl _
  rw [if_neg he,List.length_cons,List.length_cons]
  refine Nat.succ_le_succ (ih (List.Pairwise.of_cons hs) ?_)
  obtain ⟨y,hy,rfl⟩:=h
  rcases List.mem_cons.1 hy with rfl | hy
  ·exact absurd rfl he
  exact ⟨y,hy,rfl⟩
def zkey (u:List (Int × Bs)):Nat:=if ∃ x ∈ u,x.1 = 0 then 0 else 1
theorem qgM {u:List (Int × Bs)} (hs:qcP u) (k:Int) (s:Bs):zkey (setT u k s) ≤ zkey u:=by
 unfold zkey
 by_cases h:∃ x ∈ u,x.1 = 0
 ·rw [if_pos h,if_pos ?_]; exact Nat.le_refl _
  obtain ⟨x,hx,h0⟩:=h
  by_cases hk:k = 0
  ·exact ⟨(k,s),(qbk hs _).2 (.inl rfl),hk⟩
  exact ⟨x,(qbk hs _).2 (.inr ⟨hx,by omega⟩),h0⟩
 rw [if_neg h]
 split <;> omega
theorem qf6 {u:List (Int × Bs)} (hs:qcP u) (s:Bs):zkey (setT u 0 s) = 0:=if_pos ⟨(0,s),(qbk hs _).2 (.inl rfl),rfl⟩
theorem qf7 (σ:Sg):(uUv σ = 0 ∧ (aUv σ).2 = []) ∨ (aUv σ).2.length + 1 ≤ σ.2.length:=by
 have h:=(qea σ.2).1
 unfold uUv aUv
 by_cases hp:(uvG σ.2).2 ≤ 0
 ·rw [if_pos hp,if_pos hp]; exact .inl ⟨rfl,rfl⟩
 rw [if_neg hp,if_neg hp]
 right
 dsimp only
 rw [List.length_drop]; omega
theorem qe0:∀ (n:Nat) (u:List (Int × Bs)) (σ:Sg) (L:Nat),qcP u → (∀ x ∈ u,0 ≤ x.1 ∧ x.1 < 4294967296 ∧ x.2.length ≤ L) → σ.2.length ≤ L →
  qcP (qdM n u σ).1 ∧ (qdM n u σ).1.length ≤ u.length + σ.2.length + zkey u ∧ ∀ x ∈ (qdM n u σ).1,0 ≤ x.1 ∧ x.1 < 4294967296 ∧ x.2.length ≤ L
 | 0,u,σ,L,hs,hu,hL=>⟨hs,by show u.length ≤ _; omega,hu⟩
 | n + 1,u,σ,L,hs,hu,hL=>by
  have hlt:=qcx σ
  have hs1:qcP (tag1 u σ):=qcw hs
  have hx:=qeH (uUv (aUv σ):Int) (aUv (aUv σ))
  have h1:=mn_Uv.len σ
  have h2:=mn_Uv.len (aUv σ)
  have h3:=(qeG (uUv (aUv σ):Int)).len (aUv (aUv σ))
  have hu1:∀ x ∈ tag1 u σ,0 ≤ x.1 ∧ x.1 < 4294967296 ∧ x.2.length ≤ L:=fun x hx_=>by
   rcases (qbk hs x).1 hx_ with rfl | ⟨h,_⟩
   ·exact ⟨by dsimp only; omega,by dsimp only; omega,by dsimp only; omega⟩
   exact hu x h
  have ih:=qe0 n (tag1 u σ) (aTag σ) L hs1 hu1 (by unfold aTag; omega)
  unfold qdM
  refine ⟨ih.1,Nat.le_trans ih.2.1 ?_,ih.2.2⟩
  rcases qf7 σ with ⟨h0,hn⟩ | hlen
  ·have e1:(tag1 u σ) = setT u 0 (uSp (uUv (aUv σ):Int) (aUv (aUv σ))):=by unfold tag1; rw [h0]; rfl
   have hz:=qf6 hs (uSp (uUv (aUv σ):Int) (aUv (aUv σ)))
   have hl0:(aUv σ).2.length = 0:=by rw [hn]; rfl
   have hA:(aTag σ).2.length = 0:=by unfold aTag; omega
   rw [e1,hz,hA]
   by_cases hk:∃ x ∈ u,x.1 = 0
   ·have:=qgL (s:=uSp (uUv (aUv σ):Int) (aUv (aUv σ))) hs hk; omega
   have:=qeZ (u:=u) (k:=0) (s:=uSp (uUv (aUv σ):Int) (aUv (aUv σ)))
   have hz1:zkey u = 1:=if_neg hk
   omega
  have hk:=qgM hs (uUv σ:Int) (uSp (uUv (aUv σ):Int) (aUv (aUv σ)))
  have hl:=qeZ (u:=u) (k:=(uUv σ:Int)) (s:=uSp (uUv (aUv σ):Int) (aUv (aUv σ)))
  have e1:(tag1 u σ) = setT u (uUv σ:Int) (uSp (uUv (aUv σ):Int) (aUv (aUv σ))):=rfl
  have e2:(aTag σ).2.length ≤ (aUv σ).2.length:=by unfold aTag; omega
  rw [e1]; omega
theorem qer (σ:Sg):qcP (qdi σ) ∧ (qdi σ).length ≤ σ.2.length + 1 ∧ ∀ x ∈ qdi σ,0 ≤ x.1 ∧ x.1 < 4294967296 ∧ x.2.length ≤ σ.2.length:=by
 have h:=qe0 (uUv σ) [] (aUv σ) σ.2.length List.Pairwise.nil (fun x hx=>by cases hx) (mn_Uv.len σ)
 have h1:=mn_Uv.len σ
 refine ⟨h.1,Nat.le_trans h.2.1 ?_,h.2.2⟩
 have:zkey [] ≤ 1:=by unfold zkey; split <;> omega
 simp only [List.length_nil]; omega
theorem qdx (σ:Sg):(qdi σ).length ≤ σ.2.length + 1 ∧ ∀ x ∈ qdi σ,x.2.length ≤ σ.2.length:=⟨(qer σ).2.1,fun x hx=>((qer σ).2.2 x hx).2.2⟩
theorem qg2 {f:Bool} {σ:Sg} (h:f = true):aTxt f σ = qeE σ:=by unfold aTxt; exact if_pos h
theorem qg3 {f:Bool} {σ:Sg} (h:f = false):aTxt f σ = aStr σ:=by unfold aTxt; exact if_neg (by rw [h]; decide)
theorem qg4 {f:Bool} {σ:Sg} (h:f = true):uTxt f σ = qeD σ:=by unfold uTxt; exact if_pos h
theorem qg5 {f:Bool} {σ:Sg} (h:f = false):uTxt f σ = uStr σ:=by unfold uTxt; exact if_neg (by rw [h]; decide)
theorem qhH {f:Bool} {σ:Sg} (h:f = true):aLen f σ = aCAL σ:=by unfold aLen; exact if_pos h
theorem qhI {f:Bool} {σ:Sg} (h:f = false):aLen f σ = aAL σ:=by unfold aLen; exact if_neg (by rw [h]; decide)
theorem qhJ {f:Bool} {σ:Sg} (h:f = true):uLen f σ = uCAL σ:=by unfold uLen; exact if_pos h
theorem qhK {f:Bool} {σ:Sg} (h:f = false):uLen f σ = uAL σ:=by unfold uLen; exact if_neg (by rw [h]; decide)
section
variable {f:Bool}
theorem qhl (h:f = false) (σ:Sg):RPrim0U Tryd.prog 79 σ (aTxt f σ) (.string (bs (uTxt f σ))):=by rw [qg3 h,qg5 h]; exact qhk σ
theorem qef (h:f = false) (σ:Sg):RPrim0U Tryd.prog 78 σ (aTxt f σ) (.string (bs (uTxt f σ))):=by rw [qg3 h,qg5 h]; exact qed σ
theorem qdP (h:f = true) (σ:Sg):RPrim0U Tryd.prog 89 σ (aTxt f σ) (.string (bs (uTxt f σ))):=by rw [qg2 h,qg4 h]; exact qdO σ
theorem qcN (h:f = true) (σ:Sg):RPrim0U Tryd.prog 88 σ (aTxt f σ) (.string (bs (uTxt f σ))):=by rw [qg2 h,qg4 h]; exact qcM σ
theorem qf8 (h:f = false) (σ:Sg):RPrim0U Tryd.prog 85 σ (aLen f σ) (.int .i32 (uLen f σ)):=by rw [qhI h,qhK h]; exact qf1 σ
theorem qdo (h:f = true) (σ:Sg):RPrim0U Tryd.prog 84 σ (aLen f σ) (.int .i32 (uLen f σ)):=by rw [qhH h,qhJ h]; exact qdn σ
end
section
variable {Pr:Program} {ops:Array Oper} {Q:Exit → Act → World → Prop} {w0:World} {M F:Nat → Nat → Prop} {n br:Nat} {tb:Tb} {env:Env} {P:qcc} {σ:Sg} {a:Act} {w:World}
theorem qdb {i d g:Nat} {f:FuncId} {ev:Value} {N:Act → World → Prop} (h:RSU w0 M F n br tb env P σ a w) (hb:σ.1 = true) (hg:∀ w F,P w F → AtF w F g 0 [ev])
  (hc:∀ {br:Nat} {A:Option Addr} {m c:Nat} {w:World} {F:Nat → Nat → Prop},Str w br [.slice A m c,.bool true] → AtF w F g 0 [ev] → (∀ b o,F b o → ¬ RdM br b o) → Calls Pr f #[.pointer (some ⟨br,0,none⟩)] w (fun e w'=>e = .returned ev ∧ w' = w))
  (hf:∀ args w,(callFunc f args).run Pr w = .ok (.enter f args) w) (K:∀ a',RSU w0 M F n br tb ((d,.v ev) :: env) P σ a' w → N a' w)
  (he:∀ bd A m c,qdm (rdoU br bd A m c :: tb) env ops n i = some (f,[.pointer (some ⟨br,0,none⟩)],d):=by intro _ _ _ _; kernel_rfl):wpOp Pr ops Q i N a w:=by
 obtain ⟨A,m,c,hW,hr,hE,hP⟩:=h.open_
 have hs:=Str.of hW 0 rfl
 rw [hb] at hs
 refine qaw hE (he _ A m c) hf (hc hs (hg _ _ hP) (qcj 0 rfl)) ?_
 rintro e_ _ ⟨rfl,rfl⟩
 exact ⟨_,rfl,fun a1 hE1=>K a1 (RSU.mk' hW hr hE1 h.mv hP h.lim)⟩
end
theorem RSU.startG {w0 w:World} {M F:Nat → Nat → Prop} {n br c g:Nat} {ev:Value} {A:Option Addr} {o1:Ob} {env:Env} {s:Bs} {a:Act} (hW:WOk w0 M w [o1,rdoU br false A s.length c] []) (hE:EnvOk n [o1,rdoU br false A s.length c] env a) (ho:Octs w (Imm F w0 w [o1,rdoU br false A s.length c] []) A c s) (hg:AtF w (Imm F w0 w [o1,rdoU br false A s.length c] []) g 0 [ev]) (hl:s.length ≤ 1000) (env':Env) (he:pick (qeB env) (qbE env') = some env':=by kernel_rfl):RSU w0 M F n br [o1] env' (atF g 0 [ev]) (false,s) a w :=
 RSU.mk' hW.swap2 ⟨rfl,ho.move (Step.refl w Nil) nilM fun b o h _=>⟨h.1,h.2.1,fun ha=>h.2.2 (qeU ha)⟩⟩ ((qhi hE).pick he) (MvF.at_ _ _ _) (hg.move (Step.refl w Nil) nilM fun b o h _=>⟨h.1,h.2.1,fun ha=>h.2.2 (qeU ha)⟩) hl
def qaj (v:Int) (σ:Sg):Sg:=σ
def qbY (v:Int) (σ:Sg):Sg:=(aN 4 σ)
def qak (v:Int) (σ:Sg):Sg:=qbY v (qaj v σ)
def qbZ (v:Int) (σ:Sg):Tree:=.mk (IntKind.i64.wrap (uI32 σ)) [] false [] []
def qb0 (v:Int) (σ:Sg):Tree:=qbZ v (qaj v σ)
def qb1 (v:Int) (σ:Sg):Sg:=(aN 2 σ)
def qaa (v:Int) (σ:Sg):Sg:=qb1 v (qak v σ)
def qb2 (v:Int) (σ:Sg):Tree:=.mk (IntKind.i64.wrap (uI16 σ)) [] false [] []
def qb3 (v:Int) (σ:Sg):Tree:=qb2 v (qak v σ)
def qai (v:Int) (σ:Sg):Sg:=σ
def qba (v:Int) (σ:Sg):Sg:=(aTxt (decide (v ≥ 0)) σ)
theorem qbp (v:Int):Mn (qba v):=qhA _
def qav (v:Int) (σ:Sg):Sg:=qba v (qai v σ)
def qbq (v:Int) (σ:Sg):Tree:=.mk 0 (sb (bs (uTxt (decide (v ≥ 0)) σ))) false [] []
def qbr (v:Int) (σ:Sg):Tree:=qbq v (qai v σ)
def qaG (v:Int) (σ:Sg):Sg:=if decide (v ≥ 1) = true then (aN 1 σ) else σ
theorem qbs (v:Int):Mn (qaG v):=Mn.ite (p:=fun _=>decide (v ≥ 1) = true) (mn_N 1) Mn.id_
def qar (v:Int) (σ:Sg):Sg:=qaG v (qav v σ)
def qaS (v:Int) (σ:Sg):Tree:=if decide (v ≥ 1) = true then .mk (IntKind.i64.wrap (uI8 σ)) [] false [] [] else .mk (IntKind.i64.wrap (16)) [] false [] []
def qaH (v:Int) (σ:Sg):Tree:=qaS v (qav v σ)
def qaI (v:Int) (σ:Sg):Sg:=if decide (v ≥ 0) = true then (qeF σ) else σ
theorem qbt (v:Int):Mn (qaI v):=Mn.ite (p:=fun _=>decide (v ≥ 0) = true) (mn_Tags) Mn.id_
def qaz (v:Int) (σ:Sg):Sg:=qaI v (qar v σ)
def qaT (v:Int) (σ:Sg):List (Int × Bs):=if decide (v ≥ 0) = true then qdi σ else []
def qaJ (v:Int) (σ:Sg):List (Int × Bs):=qaT v (qar v σ)
def qad (v:Int) (σ:Sg):Sg:=qaz v σ
def qaM (v:Int) (σ:Sg):Tree:=.mk 0 [] false [qbr v σ,qaH v σ] (qaJ v σ)
theorem qbu (v:Int):Mn (qai v):=Mn.id_
theorem qbv (v:Int):Mn (qav v):=(qbu v).comp (qbp v)
theorem qbw (v:Int):Mn (qar v):=(qbv v).comp (qbs v)
theorem qbx (v:Int):Mn (qaz v):=(qbw v).comp (qbt v)
theorem qbD (v:Int):Mn (qad v):=qbx v
def qb4 (v:Int) (σ:Sg):Sg:=(itS (qad v) (uLen (decide (v ≥ 0)) σ).toNat (aLen (decide (v ≥ 0)) σ))
def qaD (v:Int) (σ:Sg):Sg:=qb4 v (qaa v σ)
def qb5 (v:Int) (σ:Sg):Tree:=.mk 0 [] (decide (uLen (decide (v ≥ 0)) σ ≤ 0)) ((List.range (uLen (decide (v ≥ 0)) σ).toNat).map fun k_=>qaM v (itS (qad v) k_ (aLen (decide (v ≥ 0)) σ))) []
def qb6 (v:Int) (σ:Sg):Tree:=qb5 v (qaa v σ)
def qa0 (v:Int) (σ:Sg):Sg:=if decide (v ≥ 0) = true then (qeF σ) else σ
theorem qb7 (v:Int):Mn (qa0 v):=Mn.ite (p:=fun _=>decide (v ≥ 0) = true) (mn_Tags) Mn.id_
def qaB (v:Int) (σ:Sg):Sg:=qa0 v (qaD v σ)
def qbe (v:Int) (σ:Sg):List (Int × Bs):=if decide (v ≥ 0) = true then qdi σ else []
def qa1 (v:Int) (σ:Sg):List (Int × Bs):=qbe v (qaD v σ)
def qax (v:Int) (σ:Sg):Sg:=qaB v σ
def qa6 (v:Int) (σ:Sg):Tree:=.mk 0 [] false [qb0 v σ,qb3 v σ,qb6 v σ] (qa1 v σ)
theorem qb8 (v:Int) (σ:Sg) (h:(qaB v σ).1 = true):(qax v σ).1 = true:=h
theorem qb9 (v:Int) (σ:Sg) (h:(qaD v σ).1 = true):(qax v σ).1 = true:=qb8 v σ ((qb7 v).bad _ h)
set_option maxHeartbeats 4000000 in
theorem qbH (v:Int) (un:Bool) (s:Bs) (hl:s.length ≤ 1000) {ev:Value} {bv:Nat} {A:Option Addr} {c:Nat} {w:World} {F:Nat → Nat → Prop} (hst:Str w bv [.int .i16 v,.int .i32 0,.int .i16 0,.slice none 0 0,.map none]) (ho:Octs w F A c s) (hgl:AtF w F 1 0 [ev]) (hFd:∀ b o,F b o → ¬ (b = bv ∧ o < 5)) :
  Calls Tryd.prog 59 #[.pointer (some ⟨bv,0,none⟩),.slice A s.length c,.bool un] w (fun e w'=>((qax v (false,s)).1 = true ∧ e = .returned ev ∧ (∃ cs,Str w' bv cs ∧ cs.length = 5) ∧ Step w w' (fun b o=>b = bv ∧ o < 5)) ∨ ((qax v (false,s)).1 = false ∧ ∃ D:DV,e = .returned .nilIface ∧ Str w' bv [.int .i16 v,.int .i32 ((D.f 0).n),.int .i16 ((D.f 1).n),.slice ((D.f 2).A) ((D.f 2).l) ((D.f 2).c),.map D.m] ∧ qaK w' (Fp F w) D ∧ qaX D = qa6 v (false,s) ∧ Step w w' (fun b o=>b = bv ∧ o < 5))):=by
 refine enter (n:=107) Tryd.func59 rfl Tryd.ntmps59 kz fun a hE=>?_
 have hW:=WOk.startStr hst
 have hE1:=(hE.grow ⟨bv,0,[.int .i16 v,.int .i32 0,.int .i16 0,.slice none 0 0,.map none],true⟩).recast 0 (.v (.pointer (some ⟨bv,0,none⟩))) (.p 0 0) rfl rfl (Nat.le_of_ble_eq_true (n:=1) rfl)
 refine qau [(0,.p 0 0),(1,.v (.slice A s.length c)),(2,.v (.bool un))] hW hE1 fun a1 hE2=>?_
 refine qae [0,1] kz ?_
 refine qam [0] [1] [(0,.p 0 0),(1,.v (.slice A s.length c)),(2,.v (.bool un)),(21,.p 0 0)] hW hE2 fun a3 hE4=>?_
 refine qal (qaQ hE4 (f:=58) (vs:=[.pointer (some ⟨bv,0,none⟩)]) (d:=22) (n':=2) kz Tryd.call58 Tryd.func58 rfl Tryd.ntmps58 kz fun a5 hE6=>?_)
 have hE7:=hE6.recast 0 (.v (.pointer (some ⟨bv,0,none⟩))) (.p 0 0) rfl rfl (Nat.le_of_ble_eq_true (n:=1) rfl)
 refine wp_skip ?_
 refine qbi hE7 hW.cells (v:=.tuple #[]) kz ?_
 refine ⟨_,rfl,fun a8 hE9=>?_⟩
 have hE10:=(EnvOk.places (tb':=[⟨bv,0,[.int .i16 v,.int .i32 0,.int .i16 0,.slice none 0 0,.map none],true⟩]) hE9 (show Pl [⟨bv,0,[.int .i16 v,.int .i32 0,.int .i16 0,.slice none 0 0,.map none],true⟩] [⟨bv,0,[.int .i16 v,.int .i32 0,.int .i16 0,.slice none 0 0,.map none],true⟩] from ⟨rfl,rfl,trivial⟩)).pk (env':=[(22,.v (.tuple #[])),(0,.p 0 0),(1,.v (.slice A s.length c)),(2,.v (.bool un)),(21,.p 0 0)])
 refine qag (qab ?_)
 refine qae [0,1,2,3] kz ?_
 refine qam [0,1] [2,3] [(0,.p 0 0),(2,.v (.bool un)),(24,.v (.agg #[.slice A s.length c,.bool false]))] hW hE10 fun a11 hE12=>?_
 refine qal (qaO hW hE12 (d:=7) (cs:=[.slice none 0 0,.bool false]) kz fun b13 a14 w15 hb16 hz17 hF18 hW19 hE20=>?_)
 refine qal (qaq hW19 hE20 (oi:=1) (cs:=[.slice A s.length c,.bool false]) kz fun w21 hF22 hW23 hE24=>?_)
 refine qag (qab ?_)
 have hS25:=RSU.startG (F:=F) (s:=s) hW23 hE24 (ho.move hW23.step (fun b_ o_ h_ _=>hFd b_ o_ h_) (hW23.immM hFd)) (hgl.move hW23.step (fun b_ o_ h_ _=>hFd b_ o_ h_) (hW23.immM hFd)) hl [(0,.p 1 0),(2,.v (.bool un)),(7,.p 0 0)]
 have hS27:=hS25.cast (σ':=(qaj v (false,s))) rfl
 clear hS25
 refine wp_seq ?_
 refine qbF [(0,.p 1 0),(2,.v (.bool un)),(7,.p 0 0),(8,.v (.int .i16 v))] hS27 fun _ hS28=>?_
 clear hS27
 refine qab ?_
 refine wp_seq ?_
 refine qbF [(0,.p 1 0),(2,.v (.bool un)),(7,.p 0 0),(8,.v (.int .i16 v))] hS28 fun _ hS29=>?_
 clear hS28
 refine qab ?_
 refine wp_seq ?_
 refine qbF [(0,.p 1 0),(2,.v (.bool un)),(7,.p 0 0),(8,.v (.int .i16 v)),(9,.v (.bool (decide (v ≥ 0))))] hS29 fun _ hS30=>?_
 clear hS29
 refine qab ?_
 refine wp_seq ?_
 refine qbF [(0,.p 1 0),(2,.v (.bool un)),(7,.p 0 0),(8,.v (.int .i16 v)),(9,.v (.bool (decide (v ≥ 0))))] hS30 fun _ hS31=>?_
 clear hS30
 refine qab ?_
 refine wp_seq ?_
 refine qbF [(2,.v (.bool un)),(7,.p 0 0),(8,.v (.int .i16 v)),(9,.v (.bool (decide (v ≥ 0)))),(10,.p 1 0)] hS31 fun _ hS32=>?_
 clear hS31
 refine qab ?_
 refine wp_seq ?_
 refine wp_seq ?_
 have l33:=hS32.lim
 refine qco (d:=34) [(2,.v (.bool un)),(7,.p 0 0),(8,.v (.int .i16 v)),(9,.v (.bool (decide (v ≥ 0)))),(10,.p 1 0),(11,.v (.int .i32 (uI32 (qaj v (false,s)))))] hS32 (qfY (qaj v (false,s))) Tryd.call80 fun _ _ hS35=>?_
 clear hS32
 refine qab ?_
 refine qdh [⟨bv,0,[.int .i16 v,.int .i32 (uI32 (qaj v (false,s))),.int .i16 0,.slice none 0 0,.map none],true⟩] 0 [(2,.v (.bool un)),(7,.p 0 0),(8,.v (.int .i16 v)),(9,.v (.bool (decide (v ≥ 0)))),(10,.p 1 0)] hS35 fun _ _ hS36=>?_
 clear hS35
 have hS37:=hS36.cast (σ':=(qak v (false,s))) rfl
 clear hS36
 refine qab ?_
 refine wp_seq ?_
 refine wp_seq ?_
 have l38:=hS37.lim
 refine qco (d:=39) [(2,.v (.bool un)),(7,.p 0 0),(8,.v (.int .i16 v)),(9,.v (.bool (decide (v ≥ 0)))),(10,.p 1 0),(12,.v (.int .i16 (uI16 (qak v (false,s)))))] hS37 (qfX (qak v (false,s))) Tryd.call77 fun _ _ hS40=>?_
 clear hS37
 refine qab ?_
 refine qdh [⟨bv,0,[.int .i16 v,.int .i32 (uI32 (qaj v (false,s))),.int .i16 (uI16 (qak v (false,s))),.slice none 0 0,.map none],true⟩] 0 [(2,.v (.bool un)),(7,.p 0 0),(8,.v (.int .i16 v)),(9,.v (.bool (decide (v ≥ 0)))),(10,.p 1 0)] hS40 fun _ _ hS41=>?_
 clear hS40
 have hS42:=hS41.cast (σ':=(qaa v (false,s))) rfl
 clear hS41
 refine qab ?_
 refine wp_seq ?_
 refine wp_seq ?_
 refine qbF [(2,.v (.bool un)),(7,.p 0 0),(8,.v (.int .i16 v)),(9,.v (.bool (decide (v ≥ 0)))),(10,.p 1 0),(13,.v (.slice none 0 0))] hS42 fun _ hS43=>?_
 clear hS42
 refine qab ?_
 refine wp_seq ?_
 refine qbF [(2,.v (.bool un)),(7,.p 0 0),(8,.v (.int .i16 v)),(9,.v (.bool (decide (v ≥ 0)))),(10,.p 1 0),(14,.v (.slice none 0 0))] hS43 fun _ hS44=>?_
 clear hS43
 refine qab ?_
 refine wp_seq ?_
 refine qbF [(2,.v (.bool un)),(7,.p 0 0),(8,.v (.int .i16 v)),(9,.v (.bool (decide (v ≥ 0)))),(10,.p 1 0),(14,.v (.slice none 0 0))] hS44 fun _ hS45=>?_
 clear hS44
 refine qab ?_
 refine wp_seq ?_
 have l46:=hS45.lim
 refine qgu (d1:=50) (d2:=51) [(2,.v (.bool un)),(7,.p 0 0),(8,.v (.int .i16 v)),(9,.v (.bool (decide (v ≥ 0)))),(10,.p 1 0),(14,.v (.slice none 0 0)),(49,.v (.bool (decide (v ≥ 0))))] [(2,.v (.bool un)),(7,.p 0 0),(8,.v (.int .i16 v)),(9,.v (.bool (decide (v ≥ 0)))),(10,.p 1 0),(14,.v (.slice none 0 0)),(15,.v (.int .i32 (uLen (decide (v ≥ 0)) (qaa v (false,s)))))] hS45 (fun hb_=>qdo (f:=(decide (v ≥ 0))) hb_ (qaa v (false,s))) Tryd.call84 (fun hb_=>qf8 (f:=(decide (v ≥ 0))) hb_ (qaa v (false,s))) Tryd.call85 fun _ _ hS47=>?_
 clear hS45
 refine qab ?_
 refine wp_seq ?_
 refine wp_seq ?_
 refine qhz (d:=52) [(2,.v (.bool un)),(7,.p 0 0),(8,.v (.int .i16 v)),(9,.v (.bool (decide (v ≥ 0)))),(10,.p 1 0),(14,.v (.slice none 0 0)),(15,.v (.int .i32 (uLen (decide (v ≥ 0)) (qaa v (false,s))))),(53,.v (.bool (!(!((aLen (decide (v ≥ 0)) (qaa v (false,s)))).1))))] hS47 (qOk (aLen (decide (v ≥ 0)) (qaa v (false,s)))) Tryd.call86 fun _ _ hS49=>?_
 clear hS47
 refine qab ?_
 refine qbd hS49.env_ (b:=!(!((aLen (decide (v ≥ 0)) (qaa v (false,s)))).1)) kz (fun hc50=>?_) (fun hc50=>?_)
 ·
  refine wp_seq ?_
  refine qaC [0,1] kz (qal (qdb (d:=54) (ev:=ev) hS49 (by simpa using hc50) (fun w F h_=>h_) (fun hs_ hg_ hf_=>qdX hs_ hg_ hf_) Tryd.call81 fun _ hS51=>?_))
  clear hS49
  refine qcd [1] [] [(6,.v (ev))] hS51 fun _ hS52=>qag ?_
  clear hS51
  refine qab ?_
  refine wp_ret ?_
  refine qa2 ?_
  refine qa2 ?_
  obtain ⟨A_,m_,c_,hW_,hr_,hE_,hP_⟩:=hS52.open_
  refine qaZ hE_ hW_.cells (v:=ev) kz (.inl ⟨(qb9 v (false,s) (show (qaD v (false,s)).1 = true from ((qhB (qbD v) _).bad _ (by simpa using hc50)))),rfl,⟨_,Str.of hW_ 1 rfl,rfl⟩,hW_.step⟩)
 refine wp_skip ?_
 refine qab ?_
 refine wp_seq ?_
 refine qgy (t:=88) (e:=98) (size:=3) (bytes:=32) (d:=56) (A0:=none) (m:=0) (cp:=0) [(2,.v (.bool un)),(7,.p 0 0),(8,.v (.int .i16 v)),(9,.v (.bool (decide (v ≥ 0)))),(10,.p 1 0),(15,.v (.int .i32 (uLen (decide (v ≥ 0)) (qaa v (false,s))))),(55,.v (.slice none 0 0))] [(2,.v (.bool un)),(7,.p 0 0),(8,.v (.int .i16 v)),(9,.v (.bool (decide (v ≥ 0)))),(10,.p 1 0),(14,.v (.slice none 0 0)),(15,.v (.int .i32 (uLen (decide (v ≥ 0)) (qaa v (false,s)))))] 1 hS49 fun _ hS53=>?_
 clear hS49
 refine qab ?_
 have hN58:(uLen (decide (v ≥ 0)) (qaa v (false,s))).toNat ≤ 1000:=by have h_:=qhj (decide (v ≥ 0)) (qaa v (false,s)); have:=l46; omega
 refine qgr (Mid:=fun a_ w_=>∃ (D54:DV) (P':qcc),(∀ w F,P' w F → (atF 1 0 [ev]) w F ∧ (Slots w F 3 D54.A D54.c D54.l (fun i=>[.string (((D54.f i).f 0).s),.int .i8 (((D54.f i).f 1).n),.map ((D54.f i).m)]) ∧ D54.l ≤ 1000000 ∧ ∀ i,i < D54.l → qay w F (D54.f i)) ∧ (.mk 0 [] D54.A.isNone ((List.range D54.l).map fun i=>qas (D54.f i)) []:Tree) = .mk 0 [] (decide (uLen (decide (v ≥ 0)) (qaa v (false,s)) ≤ 0)) ((List.range (uLen (decide (v ≥ 0)) (qaa v (false,s))).toNat).map fun k_=>qaM v (itS (qad v) k_ (aLen (decide (v ≥ 0)) (qaa v (false,s))))) []) ∧ RSU w (fun b o=>b = bv ∧ o < 5) F 107 b13 [⟨bv,0,[.int .i16 v,.int .i32 (uI32 (qaj v (false,s))),.int .i16 (uI16 (qak v (false,s))),.slice none 0 0,.map none],true⟩] [(7,.p 0 0),(9,.v (.bool (decide (v ≥ 0)))),(10,.p 1 0),(14,.v (.slice D54.A D54.l D54.c))] P' (itS (qad v) (uLen (decide (v ≥ 0)) (qaa v (false,s))).toNat (aLen (decide (v ≥ 0)) (qaa v (false,s)))) a_ w_) ?_ ?_
 ·
  refine wp_seq ?_
  refine qbF [(2,.v (.bool un)),(7,.p 0 0),(8,.v (.int .i16 v)),(9,.v (.bool (decide (v ≥ 0)))),(10,.p 1 0),(14,.v (.slice none 0 0)),(15,.v (.int .i32 (uLen (decide (v ≥ 0)) (qaa v (false,s))))),(58,.v (.bool (decide ((uLen (decide (v ≥ 0)) (qaa v (false,s))) > 0))))] hS53 fun _ hS59=>qab ?_
  clear hS53
  refine qbd hS59.env_ (b:=decide ((uLen (decide (v ≥ 0)) (qaa v (false,s))) > 0)) kz (fun hc60=>?_) (fun hc60=>?_)
  ·
   have hp_g61:0 < uLen (decide (v ≥ 0)) (qaa v (false,s)):=of_decide_eq_true hc60
   have hn_g61:0 < (uLen (decide (v ≥ 0)) (qaa v (false,s))).toNat:=by omega
   have hl63:uLen (decide (v ≥ 0)) (qaa v (false,s)) = (((uLen (decide (v ≥ 0)) (qaa v (false,s))).toNat:Nat):Int):=by omega
   have hS64:=hS59.envEq (env':=[(2,.v (.bool un)),(7,.p 0 0),(8,.v (.int .i16 v)),(9,.v (.bool (decide (v ≥ 0)))),(10,.p 1 0),(14,.v (.slice none 0 0)),(15,.v (.int .i32 (((uLen (decide (v ≥ 0)) (qaa v (false,s))).toNat:Nat):Int))),(58,.v (.bool (decide ((uLen (decide (v ≥ 0)) (qaa v (false,s))) > 0))))]) (by rw [← hl63])
   clear hS59
   refine qaC [0,1,2,3] kz ?_
   refine qcd [0,1] [2,3] [(2,.v (.bool un)),(7,.p 0 0),(8,.v (.int .i16 v)),(9,.v (.bool (decide (v ≥ 0)))),(10,.p 1 0),(15,.v (.int .i32 (((uLen (decide (v ≥ 0)) (qaa v (false,s))).toNat:Nat):Int))),(59,.v (.slice none 0 0)),(60,.v (.int .i32 (((uLen (decide (v ≥ 0)) (qaa v (false,s))).toNat:Nat):Int)))] hS64 fun _ hS65=>?_
   clear hS64
   refine qal (qeC (A0:=none) (d:=61) (t:=88) (tn:=21) (e:=98) (size:=3) (bytes:=32) (k:=.i32) (kn:=.i32) (q:=(((uLen (decide (v ≥ 0)) (qaa v (false,s))).toNat:Nat):Int)) (j:=(uLen (decide (v ≥ 0)) (qaa v (false,s))).toNat) (.agg #[.string ByteArray.empty,.int .i8 0,.map none]) hS65 (fun g61 c62 _ _ hg_g61 hcap_g61 hS66=>?_) rfl hn_g61 (by omega))
   clear hS65
   refine qcd [3] [] [(2,.v (.bool un)),(7,.p 0 0),(8,.v (.int .i16 v)),(9,.v (.bool (decide (v ≥ 0)))),(10,.p 1 0),(14,.v (.slice (some ⟨g61,0,none⟩) ((uLen (decide (v ≥ 0)) (qaa v (false,s))).toNat) c62)),(15,.v (.int .i32 (((uLen (decide (v ≥ 0)) (qaa v (false,s))).toNat:Nat):Int)))] hS66 fun _ hS67=>qag ?_
   clear hS66
   refine qab ?_
   refine wp_seq ?_
   refine qbF [(2,.v (.bool un)),(7,.p 0 0),(8,.v (.int .i16 v)),(9,.v (.bool (decide (v ≥ 0)))),(10,.p 1 0),(14,.v (.slice (some ⟨g61,0,none⟩) ((uLen (decide (v ≥ 0)) (qaa v (false,s))).toNat) c62)),(15,.v (.int .i32 (((uLen (decide (v ≥ 0)) (qaa v (false,s))).toNat:Nat):Int))),(16,.v (.int .i32 0))] hS67 fun _ hS68=>?_
   clear hS67
   refine qab ?_
   refine wp_block ?_
   have hmP72:=hS68.mv
   have hS73:=hS68.pk (env':=[(2,.v (.bool un)),(7,.p 0 0),(8,.v (.int .i16 v)),(9,.v (.bool (decide (v ≥ 0)))),(10,.p 1 0),(14,.v (.slice (some ⟨g61,0,none⟩) ((uLen (decide (v ≥ 0)) (qaa v (false,s))).toNat) c62)),(15,.v (.int .i32 (((uLen (decide (v ≥ 0)) (qaa v (false,s))).toNat:Nat):Int))),(16,.v (.int .i32 ((0:Nat):Int)))])
   clear hS68
   refine qgx (tb:=[⟨bv,0,[.int .i16 v,.int .i32 (uI32 (qaj v (false,s))),.int .i16 (uI16 (qak v (false,s))),.slice none 0 0,.map none],true⟩]) (z:=.agg #[.string ByteArray.empty,.int .i8 0,.map none]) (cl:=qbc) (ok:=qay) (rel:=(fun i_ d=>(qas d:Tree) = qaM v (itS (qad v) i_ (aLen (decide (v ≥ 0)) (qaa v (false,s)))))) (N:=(uLen (decide (v ≥ 0)) (qaa v (false,s))).toNat) (size:=3) (fun k_=>(itS (qad v) k_ (aLen (decide (v ≥ 0)) (qaa v (false,s))))) (fun k=>[(2,.v (.bool un)),(7,.p 0 0),(8,.v (.int .i16 v)),(9,.v (.bool (decide (v ≥ 0)))),(10,.p 1 0),(14,.v (.slice (some ⟨g61,0,none⟩) ((uLen (decide (v ≥ 0)) (qaa v (false,s))).toNat) c62)),(15,.v (.int .i32 (((uLen (decide (v ≥ 0)) (qaa v (false,s))).toNat:Nat):Int))),(16,.v (.int .i32 ((k:Nat):Int)))]) hS73 qaA (fun k69 _ _ hk70 hS71=>?_) (fun _ _ hS74=>?_)
   ·
    obtain ⟨P75,hP76,hS77⟩:∃ P',(∀ w F,P' w F → ((atF 1 0 [ev]) w F ∧ qc7 g61 3 qbc qay (fun i_ d=>(qas d:Tree) = qaM v (itS (qad v) i_ (aLen (decide (v ≥ 0)) (qaa v (false,s))))) k69 w F)) ∧ RSU w (fun b o=>b = bv ∧ o < 5) F 107 b13 [⟨bv,0,[.int .i16 v,.int .i32 (uI32 (qaj v (false,s))),.int .i16 (uI16 (qak v (false,s))),.slice none 0 0,.map none],true⟩,qbg g61 3 (.agg #[.string ByteArray.empty,.int .i8 0,.map none]) ((uLen (decide (v ≥ 0)) (qaa v (false,s))).toNat) k69] [(2,.v (.bool un)),(7,.p 0 0),(8,.v (.int .i16 v)),(9,.v (.bool (decide (v ≥ 0)))),(10,.p 1 0),(14,.v (.slice (some ⟨g61,0,none⟩) ((uLen (decide (v ≥ 0)) (qaa v (false,s))).toNat) c62)),(15,.v (.int .i32 (((uLen (decide (v ≥ 0)) (qaa v (false,s))).toNat:Nat):Int))),(16,.v (.int .i32 ((k69:Nat):Int)))] P' (itS (qad v) k69 (aLen (decide (v ≥ 0)) (qaa v (false,s)))) _ _:=⟨_,fun _ _ h=>h,hS71⟩
    clear hS71
    have hS78:=hS77.cast (σ':=(qai v (itS (qad v) k69 (aLen (decide (v ≥ 0)) (qaa v (false,s)))))) rfl
    clear hS77
    refine wp_seq ?_
    refine wp_seq ?_
    refine qbF [(2,.v (.bool un)),(7,.p 0 0),(8,.v (.int .i16 v)),(9,.v (.bool (decide (v ≥ 0)))),(10,.p 1 0),(14,.v (.slice (some ⟨g61,0,none⟩) ((uLen (decide (v ≥ 0)) (qaa v (false,s))).toNat) c62)),(15,.v (.int .i32 (((uLen (decide (v ≥ 0)) (qaa v (false,s))).toNat:Nat):Int))),(16,.v (.int .i32 ((k69:Nat):Int))),(64,.v (.bool (decide (((k69:Nat):Int) < (((uLen (decide (v ≥ 0)) (qaa v (false,s))).toNat:Nat):Int)))))] hS78 fun _ hS79=>qab ?_
    clear hS78
    refine qaV hS79.env_ (b:=decide (((k69:Nat):Int) < (((uLen (decide (v ≥ 0)) (qaa v (false,s))).toNat:Nat):Int))) kz (decide_eq_true (by omega)) ?_
    refine wp_skip ?_
    refine qab ?_
    refine wp_seq ?_
    refine wp_block ?_
    refine wp_seq ?_
    refine qgz (t:=88) (e:=98) (size:=3) (bytes:=32) (d:=69) (tb:=[⟨bv,0,[.int .i16 v,.int .i32 (uI32 (qaj v (false,s))),.int .i16 (uI16 (qak v (false,s))),.slice none 0 0,.map none],true⟩]) (z:=.agg #[.string ByteArray.empty,.int .i8 0,.map none]) [(2,.v (.bool un)),(7,.p 0 0),(8,.v (.int .i16 v)),(9,.v (.bool (decide (v ≥ 0)))),(10,.p 1 0),(14,.v (.slice (some ⟨g61,0,none⟩) ((uLen (decide (v ≥ 0)) (qaa v (false,s))).toNat) c62)),(15,.v (.int .i32 (((uLen (decide (v ≥ 0)) (qaa v (false,s))).toNat:Nat):Int))),(16,.v (.int .i32 ((k69:Nat):Int))),(67,.v (.slice (some ⟨g61,0,none⟩) ((uLen (decide (v ≥ 0)) (qaa v (false,s))).toNat) c62)),(68,.v (.int .i32 ((k69:Nat):Int)))] [(2,.v (.bool un)),(7,.p 0 0),(8,.v (.int .i16 v)),(9,.v (.bool (decide (v ≥ 0)))),(10,.p 1 0),(14,.v (.slice (some ⟨g61,0,none⟩) ((uLen (decide (v ≥ 0)) (qaa v (false,s))).toNat) c62)),(15,.v (.int .i32 (((uLen (decide (v ≥ 0)) (qaa v (false,s))).toNat:Nat):Int))),(16,.v (.int .i32 ((k69:Nat):Int))),(17,.p 3 0)] 2 hS79 hk70 rfl kz fun _ hS80=>?_
    clear hS79
    have hS81:=hS80.tbEq (tb':=[⟨bv,0,[.int .i16 v,.int .i32 (uI32 (qaj v (false,s))),.int .i16 (uI16 (qak v (false,s))),.slice none 0 0,.map none],true⟩,qbg g61 3 (.agg #[.string ByteArray.empty,.int .i8 0,.map none]) ((uLen (decide (v ≥ 0)) (qaa v (false,s))).toNat) (k69 + 1),⟨g61,k69 * 3,[.string ByteArray.empty,.int .i8 0,.map none],true⟩]) rfl
    clear hS80
    refine qab ?_
    refine wp_seq ?_
    refine qaC [0,1] kz ?_
    refine qcd [0] [1] [(2,.v (.bool un)),(7,.p 0 0),(8,.v (.int .i16 v)),(9,.v (.bool (decide (v ≥ 0)))),(10,.p 1 0),(14,.v (.slice (some ⟨g61,0,none⟩) ((uLen (decide (v ≥ 0)) (qaa v (false,s))).toNat) c62)),(15,.v (.int .i32 (((uLen (decide (v ≥ 0)) (qaa v (false,s))).toNat:Nat):Int))),(16,.v (.int .i32 ((k69:Nat):Int))),(17,.p 3 0),(70,.p 3 0)] hS81 fun _ hS82=>?_
    clear hS81
    refine qal (qfl (d:=71) (vs:=[.pointer (some ⟨g61,k69 * 3,none⟩)]) hS82 Tryd.call87 Tryd.func87 rfl Tryd.ntmps87 (fun _ hS83=>?_))
    clear hS82
    have hS84:=(hS83.recast 0 (.v (.pointer (some ⟨g61,k69 * 3,none⟩))) (.p 3 0) rfl rfl (Nat.le_of_ble_eq_true (n:=4) rfl)).pk (env':=[(0,.p 3 0)])
    clear hS83
    refine qdh [⟨bv,0,[.int .i16 v,.int .i32 (uI32 (qaj v (false,s))),.int .i16 (uI16 (qak v (false,s))),.slice none 0 0,.map none],true⟩,qbg g61 3 (.agg #[.string ByteArray.empty,.int .i8 0,.map none]) ((uLen (decide (v ≥ 0)) (qaa v (false,s))).toNat) (k69 + 1),⟨g61,k69 * 3,[.string ByteArray.empty,.int .i8 16,.map none],true⟩] 2 [] hS84 fun _ _ hS85=>?_
    clear hS84
    refine qfR (v:=.tuple #[]) hS85 (fun _ hS86=>?_) (⟨rfl,rfl,⟨rfl,rfl,⟨rfl,rfl,⟨rfl,rfl,trivial⟩⟩⟩⟩)
    clear hS85
    refine qag ?_
    have hS87:=hS86.pk (env':=[(2,.v (.bool un)),(7,.p 0 0),(8,.v (.int .i16 v)),(9,.v (.bool (decide (v ≥ 0)))),(10,.p 1 0),(14,.v (.slice (some ⟨g61,0,none⟩) ((uLen (decide (v ≥ 0)) (qaa v (false,s))).toNat) c62)),(15,.v (.int .i32 (((uLen (decide (v ≥ 0)) (qaa v (false,s))).toNat:Nat):Int))),(16,.v (.int .i32 ((k69:Nat):Int))),(17,.p 3 0)])
    clear hS86
    refine qab ?_
    refine wp_seq ?_
    refine qbF [(2,.v (.bool un)),(7,.p 0 0),(8,.v (.int .i16 v)),(9,.v (.bool (decide (v ≥ 0)))),(10,.p 1 0),(14,.v (.slice (some ⟨g61,0,none⟩) ((uLen (decide (v ≥ 0)) (qaa v (false,s))).toNat) c62)),(15,.v (.int .i32 (((uLen (decide (v ≥ 0)) (qaa v (false,s))).toNat:Nat):Int))),(16,.v (.int .i32 ((k69:Nat):Int))),(18,.p 3 0)] hS87 fun _ hS88=>?_
    clear hS87
    refine qab ?_
    refine wp_seq ?_
    refine wp_seq ?_
    refine qbF [(2,.v (.bool un)),(7,.p 0 0),(8,.v (.int .i16 v)),(9,.v (.bool (decide (v ≥ 0)))),(10,.p 1 0),(14,.v (.slice (some ⟨g61,0,none⟩) ((uLen (decide (v ≥ 0)) (qaa v (false,s))).toNat) c62)),(15,.v (.int .i32 (((uLen (decide (v ≥ 0)) (qaa v (false,s))).toNat:Nat):Int))),(16,.v (.int .i32 ((k69:Nat):Int))),(18,.p 3 0)] hS88 fun _ hS89=>?_
    clear hS88
    refine qab ?_
    refine wp_seq ?_
    have l90:=hS89.lim
    refine qds (Mid:=fun a_ w_=>RSU w (fun b o=>b = bv ∧ o < 5) F 107 b13 [⟨bv,0,[.int .i16 v,.int .i32 (uI32 (qaj v (false,s))),.int .i16 (uI16 (qak v (false,s))),.slice none 0 0,.map none],true⟩,qbg g61 3 (.agg #[.string ByteArray.empty,.int .i8 0,.map none]) ((uLen (decide (v ≥ 0)) (qaa v (false,s))).toNat) (k69 + 1),⟨g61,k69 * 3,[.string ByteArray.empty,.int .i8 16,.map none],true⟩] [(2,.v (.bool un)),(7,.p 0 0),(8,.v (.int .i16 v)),(9,.v (.bool (decide (v ≥ 0)))),(10,.p 1 0),(14,.v (.slice (some ⟨g61,0,none⟩) ((uLen (decide (v ≥ 0)) (qaa v (false,s))).toNat) c62)),(15,.v (.int .i32 (((uLen (decide (v ≥ 0)) (qaa v (false,s))).toNat:Nat):Int))),(16,.v (.int .i32 ((k69:Nat):Int))),(18,.p 3 0),(19,.v (.string (bs (uTxt (decide (v ≥ 0)) (qai v (itS (qad v) k69 (aLen (decide (v ≥ 0)) (qaa v (false,s)))))))))] P75 (aTxt (decide (v ≥ 0)) (qai v (itS (qad v) k69 (aLen (decide (v ≥ 0)) (qaa v (false,s)))))) a_ w_) ?_ ?_
    ·
     refine wp_seq ?_
     refine qbF [(2,.v (.bool un)),(7,.p 0 0),(8,.v (.int .i16 v)),(9,.v (.bool (decide (v ≥ 0)))),(10,.p 1 0),(14,.v (.slice (some ⟨g61,0,none⟩) ((uLen (decide (v ≥ 0)) (qaa v (false,s))).toNat) c62)),(15,.v (.int .i32 (((uLen (decide (v ≥ 0)) (qaa v (false,s))).toNat:Nat):Int))),(16,.v (.int .i32 ((k69:Nat):Int))),(18,.p 3 0),(73,.v (.bool un))] hS89 fun _ hS95=>qab ?_
     clear hS89
     refine qbd hS95.env_ (b:=un) kz (fun hc96=>?_) (fun hc96=>?_)
     ·
      refine wp_seq ?_
      refine qbF [(2,.v (.bool un)),(7,.p 0 0),(8,.v (.int .i16 v)),(9,.v (.bool (decide (v ≥ 0)))),(10,.p 1 0),(14,.v (.slice (some ⟨g61,0,none⟩) ((uLen (decide (v ≥ 0)) (qaa v (false,s))).toNat) c62)),(15,.v (.int .i32 (((uLen (decide (v ≥ 0)) (qaa v (false,s))).toNat:Nat):Int))),(16,.v (.int .i32 ((k69:Nat):Int))),(18,.p 3 0),(74,.v (.bool (decide (v ≥ 0))))] hS95 fun _ hS97=>qab ?_
      clear hS95
      refine qbd hS97.env_ (b:=decide (v ≥ 0)) kz (fun hc98=>?_) (fun hc98=>?_)
      ·
       refine qco (d:=75) [(2,.v (.bool un)),(7,.p 0 0),(8,.v (.int .i16 v)),(9,.v (.bool (decide (v ≥ 0)))),(10,.p 1 0),(14,.v (.slice (some ⟨g61,0,none⟩) ((uLen (decide (v ≥ 0)) (qaa v (false,s))).toNat) c62)),(15,.v (.int .i32 (((uLen (decide (v ≥ 0)) (qaa v (false,s))).toNat:Nat):Int))),(16,.v (.int .i32 ((k69:Nat):Int))),(18,.p 3 0),(19,.v (.string (bs (uTxt (decide (v ≥ 0)) (qai v (itS (qad v) k69 (aLen (decide (v ≥ 0)) (qaa v (false,s)))))))))] hS97 (qcN (f:=(decide (v ≥ 0))) (hc98) (qai v (itS (qad v) k69 (aLen (decide (v ≥ 0)) (qaa v (false,s)))))) Tryd.call88 fun _ _ hS100=>?_
       clear hS97
       refine qab ?_
       exact hS100.pk (env':=[(2,.v (.bool un)),(7,.p 0 0),(8,.v (.int .i16 v)),(9,.v (.bool (decide (v ≥ 0)))),(10,.p 1 0),(14,.v (.slice (some ⟨g61,0,none⟩) ((uLen (decide (v ≥ 0)) (qaa v (false,s))).toNat) c62)),(15,.v (.int .i32 (((uLen (decide (v ≥ 0)) (qaa v (false,s))).toNat:Nat):Int))),(16,.v (.int .i32 ((k69:Nat):Int))),(18,.p 3 0),(19,.v (.string (bs (uTxt (decide (v ≥ 0)) (qai v (itS (qad v) k69 (aLen (decide (v ≥ 0)) (qaa v (false,s)))))))))])
      refine qco (d:=76) [(2,.v (.bool un)),(7,.p 0 0),(8,.v (.int .i16 v)),(9,.v (.bool (decide (v ≥ 0)))),(10,.p 1 0),(14,.v (.slice (some ⟨g61,0,none⟩) ((uLen (decide (v ≥ 0)) (qaa v (false,s))).toNat) c62)),(15,.v (.int .i32 (((uLen (decide (v ≥ 0)) (qaa v (false,s))).toNat:Nat):Int))),(16,.v (.int .i32 ((k69:Nat):Int))),(18,.p 3 0),(19,.v (.string (bs (uTxt (decide (v ≥ 0)) (qai v (itS (qad v) k69 (aLen (decide (v ≥ 0)) (qaa v (false,s)))))))))] hS97 (qef (f:=(decide (v ≥ 0))) (hc98) (qai v (itS (qad v) k69 (aLen (decide (v ≥ 0)) (qaa v (false,s)))))) Tryd.call78 fun _ _ hS102=>?_
      clear hS97
      refine qab ?_
      exact hS102.pk (env':=[(2,.v (.bool un)),(7,.p 0 0),(8,.v (.int .i16 v)),(9,.v (.bool (decide (v ≥ 0)))),(10,.p 1 0),(14,.v (.slice (some ⟨g61,0,none⟩) ((uLen (decide (v ≥ 0)) (qaa v (false,s))).toNat) c62)),(15,.v (.int .i32 (((uLen (decide (v ≥ 0)) (qaa v (false,s))).toNat:Nat):Int))),(16,.v (.int .i32 ((k69:Nat):Int))),(18,.p 3 0),(19,.v (.string (bs (uTxt (decide (v ≥ 0)) (qai v (itS (qad v) k69 (aLen (decide (v ≥ 0)) (qaa v (false,s)))))))))])
     refine wp_seq ?_
     refine qbF [(2,.v (.bool un)),(7,.p 0 0),(8,.v (.int .i16 v)),(9,.v (.bool (decide (v ≥ 0)))),(10,.p 1 0),(14,.v (.slice (some ⟨g61,0,none⟩) ((uLen (decide (v ≥ 0)) (qaa v (false,s))).toNat) c62)),(15,.v (.int .i32 (((uLen (decide (v ≥ 0)) (qaa v (false,s))).toNat:Nat):Int))),(16,.v (.int .i32 ((k69:Nat):Int))),(18,.p 3 0),(77,.v (.bool (decide (v ≥ 0))))] hS95 fun _ hS103=>qab ?_
     clear hS95
     refine qbd hS103.env_ (b:=decide (v ≥ 0)) kz (fun hc104=>?_) (fun hc104=>?_)
     ·
      refine qco (d:=78) [(2,.v (.bool un)),(7,.p 0 0),(8,.v (.int .i16 v)),(9,.v (.bool (decide (v ≥ 0)))),(10,.p 1 0),(14,.v (.slice (some ⟨g61,0,none⟩) ((uLen (decide (v ≥ 0)) (qaa v (false,s))).toNat) c62)),(15,.v (.int .i32 (((uLen (decide (v ≥ 0)) (qaa v (false,s))).toNat:Nat):Int))),(16,.v (.int .i32 ((k69:Nat):Int))),(18,.p 3 0),(19,.v (.string (bs (uTxt (decide (v ≥ 0)) (qai v (itS (qad v) k69 (aLen (decide (v ≥ 0)) (qaa v (false,s)))))))))] hS103 (qdP (f:=(decide (v ≥ 0))) (hc104) (qai v (itS (qad v) k69 (aLen (decide (v ≥ 0)) (qaa v (false,s)))))) Tryd.call89 fun _ _ hS106=>?_
      clear hS103
      refine qab ?_
      exact hS106.pk (env':=[(2,.v (.bool un)),(7,.p 0 0),(8,.v (.int .i16 v)),(9,.v (.bool (decide (v ≥ 0)))),(10,.p 1 0),(14,.v (.slice (some ⟨g61,0,none⟩) ((uLen (decide (v ≥ 0)) (qaa v (false,s))).toNat) c62)),(15,.v (.int .i32 (((uLen (decide (v ≥ 0)) (qaa v (false,s))).toNat:Nat):Int))),(16,.v (.int .i32 ((k69:Nat):Int))),(18,.p 3 0),(19,.v (.string (bs (uTxt (decide (v ≥ 0)) (qai v (itS (qad v) k69 (aLen (decide (v ≥ 0)) (qaa v (false,s)))))))))])
     refine qco (d:=79) [(2,.v (.bool un)),(7,.p 0 0),(8,.v (.int .i16 v)),(9,.v (.bool (decide (v ≥ 0)))),(10,.p 1 0),(14,.v (.slice (some ⟨g61,0,none⟩) ((uLen (decide (v ≥ 0)) (qaa v (false,s))).toNat) c62)),(15,.v (.int .i32 (((uLen (decide (v ≥ 0)) (qaa v (false,s))).toNat:Nat):Int))),(16,.v (.int .i32 ((k69:Nat):Int))),(18,.p 3 0),(19,.v (.string (bs (uTxt (decide (v ≥ 0)) (qai v (itS (qad v) k69 (aLen (decide (v ≥ 0)) (qaa v (false,s)))))))))] hS103 (qhl (f:=(decide (v ≥ 0))) (hc104) (qai v (itS (qad v) k69 (aLen (decide (v ≥ 0)) (qaa v (false,s)))))) Tryd.call79 fun _ _ hS108=>?_
     clear hS103
     refine qab ?_
     exact hS108.pk (env':=[(2,.v (.bool un)),(7,.p 0 0),(8,.v (.int .i16 v)),(9,.v (.bool (decide (v ≥ 0)))),(10,.p 1 0),(14,.v (.slice (some ⟨g61,0,none⟩) ((uLen (decide (v ≥ 0)) (qaa v (false,s))).toNat) c62)),(15,.v (.int .i32 (((uLen (decide (v ≥ 0)) (qaa v (false,s))).toNat:Nat):Int))),(16,.v (.int .i32 ((k69:Nat):Int))),(18,.p 3 0),(19,.v (.string (bs (uTxt (decide (v ≥ 0)) (qai v (itS (qad v) k69 (aLen (decide (v ≥ 0)) (qaa v (false,s)))))))))])
    rintro _ _ hS94
    refine qab ?_
    refine qdh [⟨bv,0,[.int .i16 v,.int .i32 (uI32 (qaj v (false,s))),.int .i16 (uI16 (qak v (false,s))),.slice none 0 0,.map none],true⟩,qbg g61 3 (.agg #[.string ByteArray.empty,.int .i8 0,.map none]) ((uLen (decide (v ≥ 0)) (qaa v (false,s))).toNat) (k69 + 1),⟨g61,k69 * 3,[.string (bs (uTxt (decide (v ≥ 0)) (qai v (itS (qad v) k69 (aLen (decide (v ≥ 0)) (qaa v (false,s))))))),.int .i8 16,.map none],true⟩] 2 [(2,.v (.bool un)),(7,.p 0 0),(8,.v (.int .i16 v)),(9,.v (.bool (decide (v ≥ 0)))),(10,.p 1 0),(14,.v (.slice (some ⟨g61,0,none⟩) ((uLen (decide (v ≥ 0)) (qaa v (false,s))).toNat) c62)),(15,.v (.int .i32 (((uLen (decide (v ≥ 0)) (qaa v (false,s))).toNat:Nat):Int))),(16,.v (.int .i32 ((k69:Nat):Int))),(18,.p 3 0)] hS94 fun _ _ hS109=>?_
    clear hS94
    have hS110:=hS109.cast (σ':=(qav v (itS (qad v) k69 (aLen (decide (v ≥ 0)) (qaa v (false,s)))))) rfl
    clear hS109
    refine qab ?_
    refine wp_seq ?_
    have l111:=hS110.lim
    refine qds (Mid:=fun a_ w_=>∃ (D112:DV) (P':qcc),(∀ w F,P' w F → P75 w F ∧ (True) ∧ (.mk (IntKind.i64.wrap D112.n) [] false [] []:Tree) = qaH v (itS (qad v) k69 (aLen (decide (v ≥ 0)) (qaa v (false,s))))) ∧ RSU w (fun b o=>b = bv ∧ o < 5) F 107 b13 [⟨bv,0,[.int .i16 v,.int .i32 (uI32 (qaj v (false,s))),.int .i16 (uI16 (qak v (false,s))),.slice none 0 0,.map none],true⟩,qbg g61 3 (.agg #[.string ByteArray.empty,.int .i8 0,.map none]) ((uLen (decide (v ≥ 0)) (qaa v (false,s))).toNat) (k69 + 1),⟨g61,k69 * 3,[.string (bs (uTxt (decide (v ≥ 0)) (qai v (itS (qad v) k69 (aLen (decide (v ≥ 0)) (qaa v (false,s))))))),.int .i8 D112.n,.map none],true⟩] [(2,.v (.bool un)),(7,.p 0 0),(8,.v (.int .i16 v)),(9,.v (.bool (decide (v ≥ 0)))),(10,.p 1 0),(14,.v (.slice (some ⟨g61,0,none⟩) ((uLen (decide (v ≥ 0)) (qaa v (false,s))).toNat) c62)),(15,.v (.int .i32 (((uLen (decide (v ≥ 0)) (qaa v (false,s))).toNat:Nat):Int))),(16,.v (.int .i32 ((k69:Nat):Int))),(18,.p 3 0)] P' (qar v (itS (qad v) k69 (aLen (decide (v ≥ 0)) (qaa v (false,s))))) a_ w_) ?_ ?_
    ·
     refine wp_seq ?_
     refine qbF [(2,.v (.bool un)),(7,.p 0 0),(8,.v (.int .i16 v)),(9,.v (.bool (decide (v ≥ 0)))),(10,.p 1 0),(14,.v (.slice (some ⟨g61,0,none⟩) ((uLen (decide (v ≥ 0)) (qaa v (false,s))).toNat) c62)),(15,.v (.int .i32 (((uLen (decide (v ≥ 0)) (qaa v (false,s))).toNat:Nat):Int))),(16,.v (.int .i32 ((k69:Nat):Int))),(18,.p 3 0),(85,.v (.bool (decide (v ≥ 1))))] hS110 fun _ hS116=>qab ?_
     clear hS110
     refine qbd hS116.env_ (b:=decide (v ≥ 1)) kz (fun hc117=>?_) (fun hc117=>?_)
     ·
      refine wp_seq ?_
      refine qco (d:=86) [(2,.v (.bool un)),(7,.p 0 0),(8,.v (.int .i16 v)),(9,.v (.bool (decide (v ≥ 0)))),(10,.p 1 0),(14,.v (.slice (some ⟨g61,0,none⟩) ((uLen (decide (v ≥ 0)) (qaa v (false,s))).toNat) c62)),(15,.v (.int .i32 (((uLen (decide (v ≥ 0)) (qaa v (false,s))).toNat:Nat):Int))),(16,.v (.int .i32 ((k69:Nat):Int))),(18,.p 3 0),(20,.v (.int .i8 (uI8 (qav v (itS (qad v) k69 (aLen (decide (v ≥ 0)) (qaa v (false,s))))))))] hS116 (qhN (qav v (itS (qad v) k69 (aLen (decide (v ≥ 0)) (qaa v (false,s)))))) Tryd.call90 fun _ _ hS119=>?_
      clear hS116
      refine qab ?_
      refine qdh [⟨bv,0,[.int .i16 v,.int .i32 (uI32 (qaj v (false,s))),.int .i16 (uI16 (qak v (false,s))),.slice none 0 0,.map none],true⟩,qbg g61 3 (.agg #[.string ByteArray.empty,.int .i8 0,.map none]) ((uLen (decide (v ≥ 0)) (qaa v (false,s))).toNat) (k69 + 1),⟨g61,k69 * 3,[.string (bs (uTxt (decide (v ≥ 0)) (qai v (itS (qad v) k69 (aLen (decide (v ≥ 0)) (qaa v (false,s))))))),.int .i8 (uI8 (qav v (itS (qad v) k69 (aLen (decide (v ≥ 0)) (qaa v (false,s)))))),.map none],true⟩] 2 [(2,.v (.bool un)),(7,.p 0 0),(8,.v (.int .i16 v)),(9,.v (.bool (decide (v ≥ 0)))),(10,.p 1 0),(14,.v (.slice (some ⟨g61,0,none⟩) ((uLen (decide (v ≥ 0)) (qaa v (false,s))).toNat) c62)),(15,.v (.int .i32 (((uLen (decide (v ≥ 0)) (qaa v (false,s))).toNat:Nat):Int))),(16,.v (.int .i32 ((k69:Nat):Int))),(18,.p 3 0)] hS119 fun _ _ hS120=>?_
      clear hS119
      refine qab ?_
      have hS121:=hS120.cast (σ':=(qar v (itS (qad v) k69 (aLen (decide (v ≥ 0)) (qaa v (false,s)))))) (by unfold qar qaG; rw [if_pos hc117])
      exact ⟨dvN (uI8 (qav v (itS (qad v) k69 (aLen (decide (v ≥ 0)) (qaa v (false,s)))))),_,fun w F h_=>⟨h_,trivial,by unfold qaH qaS; rw [if_pos hc117] <;> exact rfl⟩,hS121.pk (env':=[(2,.v (.bool un)),(7,.p 0 0),(8,.v (.int .i16 v)),(9,.v (.bool (decide (v ≥ 0)))),(10,.p 1 0),(14,.v (.slice (some ⟨g61,0,none⟩) ((uLen (decide (v ≥ 0)) (qaa v (false,s))).toNat) c62)),(15,.v (.int .i32 (((uLen (decide (v ≥ 0)) (qaa v (false,s))).toNat:Nat):Int))),(16,.v (.int .i32 ((k69:Nat):Int))),(18,.p 3 0)])⟩
     refine wp_skip (qab ?_)
     have hS122:=hS116.cast (σ':=(qar v (itS (qad v) k69 (aLen (decide (v ≥ 0)) (qaa v (false,s)))))) (by unfold qar qaG; rw [if_neg (by rw [hc117]; decide)])
     exact ⟨dvN (16),_,fun w F h_=>⟨h_,trivial,by unfold qaH qaS; rw [if_neg (by rw [hc117]; decide)] <;> exact rfl⟩,hS122.pk (env':=[(2,.v (.bool un)),(7,.p 0 0),(8,.v (.int .i16 v)),(9,.v (.bool (decide (v ≥ 0)))),(10,.p 1 0),(14,.v (.slice (some ⟨g61,0,none⟩) ((uLen (decide (v ≥ 0)) (qaa v (false,s))).toNat) c62)),(15,.v (.int .i32 (((uLen (decide (v ≥ 0)) (qaa v (false,s))).toNat:Nat):Int))),(16,.v (.int .i32 ((k69:Nat):Int))),(18,.p 3 0)])⟩
    rintro _ _ ⟨D112,P113,hP114,hS115⟩
    refine qab ?_
    have l123:=hS115.lim
    refine qds (Mid:=fun a_ w_=>∃ (m125:Option Nat) (u126:List (Int × Bs)) (P':qcc),(∀ w F,P' w F → P113 w F ∧ (MapR w F m125 u126 ∧ u126.length ≤ 1000000 ∧ ∀ x ∈ u126,x.2.length < 4294967296) ∧ u126 = qaJ v (itS (qad v) k69 (aLen (decide (v ≥ 0)) (qaa v (false,s))))) ∧ RSU w (fun b o=>b = bv ∧ o < 5) F 107 b13 [⟨bv,0,[.int .i16 v,.int .i32 (uI32 (qaj v (false,s))),.int .i16 (uI16 (qak v (false,s))),.slice none 0 0,.map none],true⟩,qbg g61 3 (.agg #[.string ByteArray.empty,.int .i8 0,.map none]) ((uLen (decide (v ≥ 0)) (qaa v (false,s))).toNat) (k69 + 1),⟨g61,k69 * 3,[.string (bs (uTxt (decide (v ≥ 0)) (qai v (itS (qad v) k69 (aLen (decide (v ≥ 0)) (qaa v (false,s))))))),.int .i8 D112.n,.map m125],true⟩] [(2,.v (.bool un)),(7,.p 0 0),(8,.v (.int .i16 v)),(9,.v (.bool (decide (v ≥ 0)))),(10,.p 1 0),(14,.v (.slice (some ⟨g61,0,none⟩) ((uLen (decide (v ≥ 0)) (qaa v (false,s))).toNat) c62)),(15,.v (.int .i32 (((uLen (decide (v ≥ 0)) (qaa v (false,s))).toNat:Nat):Int))),(16,.v (.int .i32 ((k69:Nat):Int)))] P' (qaz v (itS (qad v) k69 (aLen (decide (v ≥ 0)) (qaa v (false,s))))) a_ w_) ?_ ?_
    ·
     refine wp_seq ?_
     refine qbF [(2,.v (.bool un)),(7,.p 0 0),(8,.v (.int .i16 v)),(9,.v (.bool (decide (v ≥ 0)))),(10,.p 1 0),(14,.v (.slice (some ⟨g61,0,none⟩) ((uLen (decide (v ≥ 0)) (qaa v (false,s))).toNat) c62)),(15,.v (.int .i32 (((uLen (decide (v ≥ 0)) (qaa v (false,s))).toNat:Nat):Int))),(16,.v (.int .i32 ((k69:Nat):Int))),(18,.p 3 0),(91,.v (.bool (decide (v ≥ 0))))] hS115 fun _ hS130=>qab ?_
     clear hS115
     refine qbd hS130.env_ (b:=decide (v ≥ 0)) kz (fun hc131=>?_) (fun hc131=>?_)
     ·
      refine qaC [0,1,2,3,4] kz ?_
      refine qcd [0] [1,2,3,4] [(2,.v (.bool un)),(7,.p 0 0),(8,.v (.int .i16 v)),(9,.v (.bool (decide (v ≥ 0)))),(10,.p 1 0),(14,.v (.slice (some ⟨g61,0,none⟩) ((uLen (decide (v ≥ 0)) (qaa v (false,s))).toNat) c62)),(15,.v (.int .i32 (((uLen (decide (v ≥ 0)) (qaa v (false,s))).toNat:Nat):Int))),(16,.v (.int .i32 ((k69:Nat):Int))),(92,.p 3 0)] hS130 fun _ hS132=>?_
      clear hS130
      refine qal (qeW (d:=93) hS132 (qhG (qar v (itS (qad v) k69 (aLen (decide (v ≥ 0)) (qaa v (false,s)))))) (fun _=>MvF.tags _ _) Tryd.call91 fun m133 P134 _ _ hP135 hS136=>?_)
      clear hS132
      refine qcd [2,3] [4] [(2,.v (.bool un)),(7,.p 0 0),(8,.v (.int .i16 v)),(9,.v (.bool (decide (v ≥ 0)))),(10,.p 1 0),(14,.v (.slice (some ⟨g61,0,none⟩) ((uLen (decide (v ≥ 0)) (qaa v (false,s))).toNat) c62)),(15,.v (.int .i32 (((uLen (decide (v ≥ 0)) (qaa v (false,s))).toNat:Nat):Int))),(16,.v (.int .i32 ((k69:Nat):Int))),(93,.v (.agg #[.map m133])),(95,.p 3 2)] hS136 fun _ hS137=>?_
      clear hS136
      refine qal (qen [⟨bv,0,[.int .i16 v,.int .i32 (uI32 (qaj v (false,s))),.int .i16 (uI16 (qak v (false,s))),.slice none 0 0,.map none],true⟩,qbg g61 3 (.agg #[.string ByteArray.empty,.int .i8 0,.map none]) ((uLen (decide (v ≥ 0)) (qaa v (false,s))).toNat) (k69 + 1),⟨g61,k69 * 3,[.string (bs (uTxt (decide (v ≥ 0)) (qai v (itS (qad v) k69 (aLen (decide (v ≥ 0)) (qaa v (false,s))))))),.int .i8 D112.n,.map m133],true⟩] 2 hS137 fun _ hS138=>?_)
      clear hS137
      refine qag ?_
      have hS139:=hS138.pk (env':=[(2,.v (.bool un)),(7,.p 0 0),(8,.v (.int .i16 v)),(9,.v (.bool (decide (v ≥ 0)))),(10,.p 1 0),(14,.v (.slice (some ⟨g61,0,none⟩) ((uLen (decide (v ≥ 0)) (qaa v (false,s))).toNat) c62)),(15,.v (.int .i32 (((uLen (decide (v ≥ 0)) (qaa v (false,s))).toNat:Nat):Int))),(16,.v (.int .i32 ((k69:Nat):Int)))])
      clear hS138
      refine qab ?_
      have hS140:=hS139.cast (σ':=(qaz v (itS (qad v) k69 (aLen (decide (v ≥ 0)) (qaa v (false,s)))))) (by unfold qaz qaI; rw [if_pos hc131])
      exact ⟨m133,qdi (qar v (itS (qad v) k69 (aLen (decide (v ≥ 0)) (qaa v (false,s))))),_,fun w F h_=>⟨(hP135 _ _ h_).1,⟨(hP135 _ _ h_).2,Nat.le_trans (qdx _).1 (by have:=l123; omega),fun x_ hx_=>Nat.lt_of_le_of_lt ((qdx _).2 x_ hx_) (by have:=l123; omega)⟩,by unfold qaJ qaT; rw [if_pos hc131] <;> exact rfl⟩,hS140.pk (env':=[(2,.v (.bool un)),(7,.p 0 0),(8,.v (.int .i16 v)),(9,.v (.bool (decide (v ≥ 0)))),(10,.p 1 0),(14,.v (.slice (some ⟨g61,0,none⟩) ((uLen (decide (v ≥ 0)) (qaa v (false,s))).toNat) c62)),(15,.v (.int .i32 (((uLen (decide (v ≥ 0)) (qaa v (false,s))).toNat:Nat):Int))),(16,.v (.int .i32 ((k69:Nat):Int)))])⟩
     refine wp_skip (qab ?_)
     have hS141:=hS130.cast (σ':=(qaz v (itS (qad v) k69 (aLen (decide (v ≥ 0)) (qaa v (false,s)))))) (by unfold qaz qaI; rw [if_neg (by rw [hc131]; decide)])
     exact ⟨none,[],_,fun w F h_=>⟨h_,⟨MapR.nil _ _,Nat.zero_le _,fun _ h=>by cases h⟩,by unfold qaJ qaT; rw [if_neg (by rw [hc131]; decide)] <;> exact rfl⟩,hS141.pk (env':=[(2,.v (.bool un)),(7,.p 0 0),(8,.v (.int .i16 v)),(9,.v (.bool (decide (v ≥ 0)))),(10,.p 1 0),(14,.v (.slice (some ⟨g61,0,none⟩) ((uLen (decide (v ≥ 0)) (qaa v (false,s))).toNat) c62)),(15,.v (.int .i32 (((uLen (decide (v ≥ 0)) (qaa v (false,s))).toNat:Nat):Int))),(16,.v (.int .i32 ((k69:Nat):Int)))])⟩
    rintro _ _ ⟨m125,u126,P127,hP128,hS129⟩
    refine qa3 ?_
    refine qab ?_
    refine qbF [(2,.v (.bool un)),(7,.p 0 0),(8,.v (.int .i16 v)),(9,.v (.bool (decide (v ≥ 0)))),(10,.p 1 0),(14,.v (.slice (some ⟨g61,0,none⟩) ((uLen (decide (v ≥ 0)) (qaa v (false,s))).toNat) c62)),(15,.v (.int .i32 (((uLen (decide (v ≥ 0)) (qaa v (false,s))).toNat:Nat):Int))),(16,.v (.int .i32 (IntKind.i32.wrap (((k69:Nat):Int) + 1))))] hS129 fun _ hS142=>?_
    clear hS129
    refine qab ?_
    have hS143:=(hS142.envEq (env':=[(2,.v (.bool un)),(7,.p 0 0),(8,.v (.int .i16 v)),(9,.v (.bool (decide (v ≥ 0)))),(10,.p 1 0),(14,.v (.slice (some ⟨g61,0,none⟩) ((uLen (decide (v ≥ 0)) (qaa v (false,s))).toNat) c62)),(15,.v (.int .i32 (((uLen (decide (v ≥ 0)) (qaa v (false,s))).toNat:Nat):Int))),(16,.v (.int .i32 ((k69 + 1:Nat):Int)))]) (by rw [qgs (by omega)])).pk (env':=[(2,.v (.bool un)),(7,.p 0 0),(8,.v (.int .i16 v)),(9,.v (.bool (decide (v ≥ 0)))),(10,.p 1 0),(14,.v (.slice (some ⟨g61,0,none⟩) ((uLen (decide (v ≥ 0)) (qaa v (false,s))).toNat) c62)),(15,.v (.int .i32 (((uLen (decide (v ≥ 0)) (qaa v (false,s))).toNat:Nat):Int))),(16,.v (.int .i32 ((k69 + 1:Nat):Int)))])
    clear hS142
    exact (RSU.thing (tb:=[⟨bv,0,[.int .i16 v,.int .i32 (uI32 (qaj v (false,s))),.int .i16 (uI16 (qak v (false,s))),.slice none 0 0,.map none],true⟩]) (z:=.agg #[.string ByteArray.empty,.int .i8 0,.map none]) (D:=(dvP m125 u126 [dvS (bs (uTxt (decide (v ≥ 0)) (qai v (itS (qad v) k69 (aLen (decide (v ≥ 0)) (qaa v (false,s))))))),D112])) (hS143.cast (σ':=(itS (qad v) (k69 + 1) (aLen (decide (v ≥ 0)) (qaa v (false,s))))) rfl) hg_g61 qaA hmP72 rfl (fun w F h_=>⟨(hP76 _ _ (hP114 _ _ (hP128 _ _ h_).1).1).1,(hP76 _ _ (hP114 _ _ (hP128 _ _ h_).1).1).2,⟨(by show ByteArray.size (bs _) ≤ 1000000; rw [qhh]; exact Nat.le_trans (qgA _ _) (Nat.le_trans l90 (by decide))),((hP114 _ _ (hP128 _ _ h_).1).2.1),(hP128 _ _ h_).2.1.1,(hP128 _ _ h_).2.1.2.1,(hP128 _ _ h_).2.1.2.2,trivial⟩,(trc (tlc (rfl) (tlc ((hP114 _ _ (hP128 _ _ h_).1).2.2) rfl)) (hP128 _ _ h_).2.2)⟩) kz)
   refine wp_seq ?_
   refine wp_seq ?_
   refine qbF [(2,.v (.bool un)),(7,.p 0 0),(8,.v (.int .i16 v)),(9,.v (.bool (decide (v ≥ 0)))),(10,.p 1 0),(14,.v (.slice (some ⟨g61,0,none⟩) ((uLen (decide (v ≥ 0)) (qaa v (false,s))).toNat) c62)),(15,.v (.int .i32 (((uLen (decide (v ≥ 0)) (qaa v (false,s))).toNat:Nat):Int))),(16,.v (.int .i32 (((uLen (decide (v ≥ 0)) (qaa v (false,s))).toNat:Nat):Int))),(64,.v (.bool (decide ((((uLen (decide (v ≥ 0)) (qaa v (false,s))).toNat:Nat):Int) < (((uLen (decide (v ≥ 0)) (qaa v (false,s))).toNat:Nat):Int)))))] hS74 fun _ hS144=>qab ?_
   clear hS74
   refine qan hS144.env_ (b:=decide ((((uLen (decide (v ≥ 0)) (qaa v (false,s))).toNat:Nat):Int) < (((uLen (decide (v ≥ 0)) (qaa v (false,s))).toNat:Nat):Int))) kz (decide_eq_false (by omega)) ?_
   refine wp_exit ?_
   refine qaR ?_
   refine qaR ?_
   refine qbh ?_
   refine qab ?_
   obtain ⟨f145,hS146⟩:=RSU.listEnd (tb:=[⟨bv,0,[.int .i16 v,.int .i32 (uI32 (qaj v (false,s))),.int .i16 (uI16 (qak v (false,s))),.slice none 0 0,.map none],true⟩]) (c:=c62) (hS144.pk (env':=[(7,.p 0 0),(9,.v (.bool (decide (v ≥ 0)))),(10,.p 1 0),(14,.v (.slice (some ⟨g61,0,none⟩) ((uLen (decide (v ≥ 0)) (qaa v (false,s))).toNat) c62))])) hg_g61 qaA hmP72 hcap_g61 (by omega) hn_g61 kz
   exact ⟨dvL (some ⟨g61,0,none⟩) (uLen (decide (v ≥ 0)) (qaa v (false,s))).toNat c62 f145,_,fun w F h_=>⟨h_.1,⟨h_.2.1,Nat.le_trans hN58 (by decide),h_.2.2.1⟩,qgK (decide_eq_false (by omega)).symm h_.2.2.2⟩,hS146⟩
  have hnp_g61:¬ (0 < uLen (decide (v ≥ 0)) (qaa v (false,s))):=of_decide_eq_false hc60
  refine wp_skip ?_
  refine qab ?_
  refine wp_seq ?_
  refine qbF [(2,.v (.bool un)),(7,.p 0 0),(8,.v (.int .i16 v)),(9,.v (.bool (decide (v ≥ 0)))),(10,.p 1 0),(14,.v (.slice none 0 0)),(15,.v (.int .i32 (uLen (decide (v ≥ 0)) (qaa v (false,s))))),(16,.v (.int .i32 0))] hS59 fun _ hS147=>?_
  clear hS59
  refine qab ?_
  refine wp_block ?_
  refine qeV ?_
  refine wp_seq ?_
  refine wp_seq ?_
  refine qbF [(2,.v (.bool un)),(7,.p 0 0),(8,.v (.int .i16 v)),(9,.v (.bool (decide (v ≥ 0)))),(10,.p 1 0),(14,.v (.slice none 0 0)),(15,.v (.int .i32 (uLen (decide (v ≥ 0)) (qaa v (false,s))))),(16,.v (.int .i32 0)),(64,.v (.bool (decide (0 < (uLen (decide (v ≥ 0)) (qaa v (false,s)))))))] hS147 fun _ hS148=>qab ?_
  clear hS147
  refine qan hS148.env_ (b:=decide (0 < (uLen (decide (v ≥ 0)) (qaa v (false,s))))) kz (hc60) ?_
  refine wp_exit ?_
  refine qaR ?_
  refine qaR ?_
  refine qbh ?_
  refine qab ?_
  have hz149:(uLen (decide (v ≥ 0)) (qaa v (false,s))).toNat = 0:=by omega
  exact ⟨dvL none 0 0 (fun _=>dv0),_,fun w F h_=>⟨h_,⟨Slots.nil _ _ _ _,Nat.zero_le _,fun _ h=>absurd h (Nat.not_lt_zero _)⟩,qf5 (decide_eq_true (by omega)).symm hz149⟩,(hS148.cast (σ':=(itS (qad v) (uLen (decide (v ≥ 0)) (qaa v (false,s))).toNat (aLen (decide (v ≥ 0)) (qaa v (false,s))))) (by rw [hz149]; rfl)).pk (env':=[(7,.p 0 0),(9,.v (.bool (decide (v ≥ 0)))),(10,.p 1 0),(14,.v (.slice none 0 0))])⟩
 rintro _ _ ⟨D54,P55,hP56,hS57⟩
 refine wp_seq ?_
 refine qbF [(7,.p 0 0),(9,.v (.bool (decide (v ≥ 0)))),(10,.p 1 0),(13,.v (.slice D54.A D54.l D54.c))] hS57 fun _ hS150=>?_
 clear hS57
 refine qab ?_
 refine qdh [⟨bv,0,[.int .i16 v,.int .i32 (uI32 (qaj v (false,s))),.int .i16 (uI16 (qak v (false,s))),.slice D54.A D54.l D54.c,.map none],true⟩] 0 [(7,.p 0 0),(9,.v (.bool (decide (v ≥ 0)))),(10,.p 1 0)] hS150 fun _ _ hS151=>?_
 clear hS150
 have hS152:=hS151.cast (σ':=(qaD v (false,s))) rfl
 clear hS151
 refine qab ?_
 refine wp_seq ?_
 have l153:=hS152.lim
 refine qds (Mid:=fun a_ w_=>∃ (m155:Option Nat) (u156:List (Int × Bs)) (P':qcc),(∀ w F,P' w F → P55 w F ∧ (MapR w F m155 u156 ∧ u156.length ≤ 1000000 ∧ ∀ x ∈ u156,x.2.length < 4294967296) ∧ u156 = qa1 v (false,s)) ∧ RSU w (fun b o=>b = bv ∧ o < 5) F 107 b13 [⟨bv,0,[.int .i16 v,.int .i32 (uI32 (qaj v (false,s))),.int .i16 (uI16 (qak v (false,s))),.slice D54.A D54.l D54.c,.map m155],true⟩] [(7,.p 0 0)] P' (qaB v (false,s)) a_ w_) ?_ ?_
 ·
  refine wp_seq ?_
  refine qbF [(7,.p 0 0),(10,.p 1 0),(101,.v (.bool (decide (v ≥ 0))))] hS152 fun _ hS160=>qab ?_
  clear hS152
  refine qbd hS160.env_ (b:=decide (v ≥ 0)) kz (fun hc161=>?_) (fun hc161=>?_)
  ·
   refine qaC [0,1,2,3,4] kz ?_
   refine qcd [0] [1,2,3,4] [(7,.p 0 0),(102,.p 1 0)] hS160 fun _ hS162=>?_
   clear hS160
   refine qal (qeW (d:=103) hS162 (qhG (qaD v (false,s))) (fun _=>MvF.tags _ _) Tryd.call91 fun m163 P164 _ _ hP165 hS166=>?_)
   clear hS162
   refine qcd [2,3] [4] [(7,.p 0 0),(103,.v (.agg #[.map m163])),(105,.p 1 4)] hS166 fun _ hS167=>?_
   clear hS166
   refine qal (qen [⟨bv,0,[.int .i16 v,.int .i32 (uI32 (qaj v (false,s))),.int .i16 (uI16 (qak v (false,s))),.slice D54.A D54.l D54.c,.map m163],true⟩] 0 hS167 fun _ hS168=>?_)
   clear hS167
   refine qag ?_
   have hS169:=hS168.pk (env':=[(7,.p 0 0)])
   clear hS168
   refine qab ?_
   have hS170:=hS169.cast (σ':=(qaB v (false,s))) (by unfold qaB qa0; rw [if_pos hc161])
   exact ⟨m163,qdi (qaD v (false,s)),_,fun w F h_=>⟨(hP165 _ _ h_).1,⟨(hP165 _ _ h_).2,Nat.le_trans (qdx _).1 (by have:=l153; omega),fun x_ hx_=>Nat.lt_of_le_of_lt ((qdx _).2 x_ hx_) (by have:=l153; omega)⟩,by unfold qa1 qbe; rw [if_pos hc161] <;> exact rfl⟩,hS170.pk (env':=[(7,.p 0 0)])⟩
  refine wp_skip (qab ?_)
  have hS171:=hS160.cast (σ':=(qaB v (false,s))) (by unfold qaB qa0; rw [if_neg (by rw [hc161]; decide)])
  exact ⟨none,[],_,fun w F h_=>⟨h_,⟨MapR.nil _ _,Nat.zero_le _,fun _ h=>by cases h⟩,by unfold qa1 qbe; rw [if_neg (by rw [hc161]; decide)] <;> exact rfl⟩,hS171.pk (env':=[(7,.p 0 0)])⟩
 rintro _ _ ⟨m155,u156,P157,hP158,hS159⟩
 refine qab ?_
 refine wp_seq ?_
 refine (Bool.eq_false_or_eq_true ((qaB v (false,s))).1).elim (fun hb172=>?_) (fun hb172=>?_)
 ·
  refine qaC [0,1] kz (qal (qdb (d:=106) (ev:=ev) hS159 (hb172) (fun w F h_=>(hP56 _ _ (hP158 _ _ h_).1).1) (fun hs_ hg_ hf_=>qdX hs_ hg_ hf_) Tryd.call81 fun _ hS173=>?_))
  clear hS159
  refine qcd [1] [] [(6,.v (ev))] hS173 fun _ hS174=>qag ?_
  clear hS173
  refine qab ?_
  refine wp_ret ?_
  obtain ⟨A_,m_,c_,hW_,hr_,hE_,hP_⟩:=hS174.open_
  refine qaZ hE_ hW_.cells (v:=ev) kz (.inl ⟨(hb172),rfl,⟨_,Str.of hW_ 1 rfl,rfl⟩,hW_.step⟩)
 refine qaC [0,1] kz (qal (qem (d:=106) hS159 (fun hs_=>qfP (by rw [hb172] at hs_; exact hs_)) Tryd.call81 fun _ hS175=>?_))
 clear hS159
 refine qcd [1] [] [(6,.v (.nilIface))] hS175 fun _ hS176=>qag ?_
 clear hS175
 refine qab ?_
 refine wp_ret ?_
 obtain ⟨A_,m_,c_,hW_,hr_,hE_,hP_⟩:=hS176.open_
 refine qaZ hE_ hW_.cells (v:=.nilIface) kz ?_
 have h_:=hS176.mv.mono qbW hP_
 refine .inr ⟨hb172,(dvP m155 u156 [dvN (uI32 (qaj v (false,s))),dvN (uI16 (qak v (false,s))),D54]),rfl,Str.of hW_ 1 rfl,?_,(trc (tlc (rfl) (tlc (rfl) (tlc ((hP56 _ _ (hP158 _ _ h_).1).2.2) rfl))) (hP158 _ _ h_).2.2),hW_.step⟩
 unfold qaK
 exact ⟨(trivial),(trivial),((hP56 _ _ (hP158 _ _ h_).1).2.1),(hP158 _ _ h_).2.1.1,(hP158 _ _ h_).2.1.2.1,(hP158 _ _ h_).2.1.2.2,trivial⟩
theorem qby (v:Int) (un:Bool) (s:Bs) (hl:s.length ≤ 1000) {ev:Value} {bv:Nat} {A:Option Addr} {c:Nat} {w:World} {F:Nat → Nat → Prop} (hst:Str w bv [.int .i16 v,.int .i32 0,.int .i16 0,.slice none 0 0,.map none]) (ho:Octs w F A c s) (hgl:AtF w F 1 0 [ev]) (hFd:∀ b o,F b o → ¬ (b = bv ∧ o < 5)) (hb:(qax v (false,s)).1 = true) :
  Calls Tryd.prog 59 #[.pointer (some ⟨bv,0,none⟩),.slice A s.length c,.bool un] w (fun e w'=>e = .returned ev ∧ (∃ cs,Str w' bv cs ∧ cs.length = 5) ∧ Step w w' (fun b o=>b = bv ∧ o < 5)):=(qbH v un s hl hst ho hgl hFd).mono fun e w' h=>by
 rcases h with ⟨_,h⟩ | ⟨h,_⟩
 ·exact h
 rw [hb] at h; cases h
theorem qbz (v:Int) (un:Bool) (s:Bs) (hl:s.length ≤ 1000) {ev:Value} {bv:Nat} {A:Option Addr} {c:Nat} {w:World} {F:Nat → Nat → Prop} (hst:Str w bv [.int .i16 v,.int .i32 0,.int .i16 0,.slice none 0 0,.map none]) (ho:Octs w F A c s) (hgl:AtF w F 1 0 [ev]) (hFd:∀ b o,F b o → ¬ (b = bv ∧ o < 5)) (hb:(qax v (false,s)).1 = false) :
  Calls Tryd.prog 59 #[.pointer (some ⟨bv,0,none⟩),.slice A s.length c,.bool un] w (fun e w'=>∃ D:DV,e = .returned .nilIface ∧ Str w' bv [.int .i16 v,.int .i32 ((D.f 0).n),.int .i16 ((D.f 1).n),.slice ((D.f 2).A) ((D.f 2).l) ((D.f 2).c),.map D.m] ∧ qaK w' (Fp F w) D ∧ qaX D = qa6 v (false,s) ∧ Step w w' (fun b o=>b = bv ∧ o < 5)):=(qbH v un s hl hst ho hgl hFd).mono fun e w' h=>by
 rcases h with ⟨h,_⟩ | ⟨_,h⟩
 ·rw [hb] at h; cases h
 exact h
end Go.Proofs.YtajibgahdkllkaaDoorR.ME