/- The texts of a claim, put together: the engine, the contracts, the law. Own work. -/
import Derived.Test.YtgolpmkenmedoaaGreatDoorWt5P3
import Derived.Lib.ConvBytes
namespace Go.Proofs.YtgolpmkenmedoaaGreatDoor.ME
open Go
open Go.RowKit
open Go.ChangeMaps (setBlock)
set_option linter.unusedVariables false
set_option linter.unusedSimpArgs false
set_option maxRecDepth 20000
abbrev cloV (fc : Nat) (cap : Value) : Value:=.func (.func fc) #[] #[cap]
theorem qlG {fc : Nat} {cap : Value} {m : Option Nat} {u : List (Int × Bs)} {b o : Nat} {w : World} {F M : Nat → Nat → Prop} (hcf : ∀ args w,(callFunc fc args).run Tryz.prog w = .ok (.enter fc args) w) (I : World → Nat → World → Prop) (hat : AtF w F b o [.map m]) (hm : MapR w F m u) (hMF : ∀ b o,F b o → ¬ M b o) (hMlt : ∀ b o,M b o → b < w.heap.size)
  (hI0 : ∀ w7,Step w w7 Nil → I w7 0 w7) (hIs : ∀ w7 j w8,I w7 j w8 → Step w7 w8 M)
  (hI1 : ∀ w7,Step w w7 Nil → ∀ j k x w8 Ax cx,I w7 j w8 → u[j]? = some (k,x) → (0 ≤ k ∧ k < 4294967296) → Octs w8 (fun b o=>F b o ∧ b < w7.heap.size) Ax cx x → Calls Tryz.prog fc [.int .u32 k,.slice Ax x.length cx,cap].toArray w8 (fun e w9=>e = .returned (.tuple #[]) ∧ I w7 (j + 1) w9)) (hul : u.length ≤ 1000000) :
  Calls Tryz.prog 122 [.pointer (some ⟨b,o,none⟩),cloV fc cap].toArray w (fun e w'=>e = .returned (.tuple #[]) ∧ ∃ w7,Step w w7 Nil ∧ I w7 u.length w'):=by
 refine enter (n:=53) Tryz.func122 rfl Tryz.ntmps122 kz fun a hE=>?_
 have hW : WOk w Nil w [⟨b,o,[.map m],false⟩] []:=(WOk.start w Nil).start1 hat rfl rfl
 refine wp_seq (wp_seq ?_)
 refine qas [0,1,2,3,4,5] kz ?_
 refine qbH [0,1,2,3] [4,5] [0,1,11] hW (EnvOk.ptr0 (cs:=[.map m]) (r:=false) hE) (env':=[(0,.p 0 0),(1,.v (cloV fc cap)),(11,.v (.map m))]) kz rfl fun a1 hE1=>?_
 refine qan (qgs (t:=99) (kt:=64) (et:=22) hE1 (m:=m) (d:=12) kz kz hm fun a2 hE2=>?_)
 refine qbH [5] [] [0,1,13] hW hE2 (env':=[(0,.p 0 0),(1,.v (cloV fc cap)),(13,.v (.bool (((u.length : Nat) : Int) == 0)))]) kz rfl fun a3 hE3=>qaf (qab ?_)
 refine qax hE3 (b:=((u.length : Nat) : Int) == 0) kz (fun hb=>?_) (fun hb=>?_)
 ·-- none
  have hu : u = []:=List.eq_nil_of_length_eq_zero (by have:=eq_of_beq hb; omega)
  subst hu
  refine wp_ret (qap ?_)
  exact qaK hE3 hW.cells (v:=.tuple #[]) kz ⟨rfl,w,Step.refl _ _,hI0 w (Step.refl _ _)⟩
 have hu0 : 0 < u.length:=by have:=ne_of_beq_false hb; omega
 cases m with
 | none=>rw [hm.none_ rfl] at hu0; cases hu0
 | some mb =>
 obtain ⟨hFm,es,clk,hes,hperm,hborn,hnod,hcont⟩:=hm.some_ mb rfl
 have hmlt : mb < w.heap.size:=(Array.getElem?_eq_some_iff.1 hes).1
 have hesz : es.size = u.length:=MapR.size (w:=w) (F:=F) hperm
 refine wp_skip (qab ?_)
 refine qae [0,1,2,3,4,5,6,7] kz ?_
 refine qbH [0,1,2,3] [4,5,6,7] [0,1,17] hW hE3 (env':=[(0,.p 0 0),(1,.v (cloV fc cap)),(17,.v (.map (some mb)))]) kz rfl fun a4 hE4=>?_
 refine qan (qgs (t:=99) (kt:=64) (et:=22) hE4 (m:=some mb) (d:=18) kz kz hm fun a5 hE5=>?_)
 refine qan (qh1 (e:=64) (size:=1) (bytes:=4) (j:=u.length) (t:=200) (d:=19) hW hE5 (p:=0) (q:=((u.length : Nat) : Int)) kz kz rfl rfl (by omega) fun kr a6 w1 hkr hkr0 hF1 hW1 hE6=>?_)
 refine qan (qaO hW1 hE6 (d:=4) (cs:=[.slice none 0 0]) kz fun kb a7 w2 hkb hkb0 hF2 hW2 hE7=>?_)
 refine qan (qav hW2 hE7 (oi:=1) (cs:=[.slice (some ⟨kr,0,none⟩) 0 u.length]) kz fun w3 hF3 hW3 hE8=>qaf (qab ?_))
 refine wp_seq (qae [0,1,2,3,4] kz ?_)
 refine qbH [0,1,2,3] [4] [0,1,4,23] hW3 hE8 (env':=[(0,.p 0 0),(1,.v (cloV fc cap)),(4,.p 1 0),(23,.v (.map (some mb)))]) kz rfl fun a8 hE9=>?_
 have hes3:=hW3.step.heap (fun o h=>h) hes
 refine qan (qh4 (t:=99) (kt:=64) (et:=22) (d:=24) (r:=mb) hE9 kz kz hes3 fun a9 hE10=>qaf (qab ?_))
 have hW4:=hW3.next_nil (Step.alloc w3 (.mapIter (some mb) clk #[] clk))
 have hr4 : (w3.alloc (.mapIter (some mb) clk #[] clk)).heap[w3.heap.size]? = some (.mapIter (some mb) clk #[] clk):=qcL _ _
 have hE11:=hE10.pick (ks:=[0,1,4,24]) (env':=[(0,.p 0 0),(1,.v (cloV fc cap)),(4,.p 1 0),(24,.v (.pointer (some ⟨w3.heap.size,0,none⟩)))]) kz
 have hrlt : w3.heap.size < (w3.alloc (.mapIter (some mb) clk #[] clk)).heap.size:=by rw [qda]; omega
 have hr0 : w.heap.size ≤ w3.heap.size:=hW3.step.size
 have hkbr : kb ≠ w3.heap.size:=by have:=hW3.live 1 _ rfl; show ¬ _; intro e; rw [← e] at this; exact absurd this (Nat.lt_irrefl _)
 have hkrr : kr ≠ w3.heap.size:=by have:=qbW (hW3.own 0 _ rfl) (g:=kr) rfl; omega
 generalize hR : w3.heap.size = R at hr4 hE11 hrlt hkbr hkrr
 generalize hw4 : w3.alloc (.mapIter (some mb) clk #[] clk) = w4 at hW4 hr4 hrlt
 refine wp_block ?_
 refine wp_loop_ghost (fun q a_ w_=>∃ (vis : List MapEntry) (seen : Array Nat) (K : Option Addr) (kc c0 : Nat),q = (leftOf es seen).size ∧ Vis es.toList vis seen ∧ vis.length + (leftOf es seen).size ≤ es.size ∧
   EnvOk 53 [⟨b,o,[.map (some mb)],false⟩,⟨kb,0,[.slice K vis.length kc],true⟩] [(0,.p 0 0),(1,.v (cloV fc cap)),(4,.p 1 0),(24,.v (.pointer (some ⟨R,0,none⟩)))] a_ ∧
   WOk w Nil w_ [⟨b,o,[.map (some mb)],false⟩,⟨kb,0,[.slice K vis.length kc],true⟩] [⟨K,kc,64,1,vis.length,(vis.map fun e=>kOf e.key).map (Value.int .u32)⟩] ∧
   w_.heap[R]? = some (.mapIter (some mb) clk seen c0) ∧ clk ≤ c0 ∧ K.map (·.block) ≠ some R) (leftOf es #[]).size
  ⟨[],#[],some ⟨kr,0,none⟩,u.length,clk,rfl,Vis.nil _,by rw [List.length_nil,Nat.zero_add]; exact Array.size_filter_le,by rw [← hw4] at *; exact hE11,hW4,hr4,Nat.le_refl _,by simpa using hkrr⟩ ?_
 rintro q a10 w5 ⟨vis,seen,K,kc,c0,rfl,hv,hvl,hE12,hW5,hr5,hc0,hKR⟩
 have hes5:=hW5.step.heap (fun o h=>h) hes
 refine qae [0,1] kz ?_
 refine qan (qiP hE12 (d:=25) (r:=R) kz hr5 hes5 hborn hc0 (fun h0 a11 hE13=>?_) (fun e he w6 hw6 a11 hE13=>?_))
 ·-- behind it
  refine qbH [1] [] [0,1,4,26] hW5 hE13 (env':=[(0,.p 0 0),(1,.v (cloV fc cap)),(4,.p 1 0),(26,.v (.bool false))]) kz rfl fun a12 hE14=>qaf (qab (wp_seq ?_))
  refine qax hE14 (b:=false) kz (fun hb=>by cases hb) (fun _=>?_)
  refine wp_exit (qaB (qaB (qaP (qab ?_))))
  have hpe:=hv.all h0 hnod
  have hvu : vis.length = u.length:=by rw [hpe.length_eq,Array.length_toList,hesz]
  have hkp : (vis.map fun e=>kOf e.key).Perm (u.map Prod.fst):=by
   have h1:=(hpe.map fun e=>kOf e.key)
   have h2:=hperm.map kOf
   rw [List.map_map,List.map_map] at h2
   exact h1.trans h2
  have hkl : (vis.map fun e=>kOf e.key).length = vis.length:=by simp
  generalize (vis.map fun e=>kOf e.key) = ks at hkp hkl hW5
  have hown4 : w5.ownsRow 0 64 1 (.slice K vis.length kc) vis.length (ks.map (Value.int .u32)):=hW5.own 0 _ rfl
  obtain ⟨g,rfl⟩:=qb5 hown4 (by omega)
  have hown5 : w5.ownsRow 0 64 1 (.slice (some ⟨g,0,none⟩) vis.length kc) vis.length (ks.map (Value.int .u32)):=hown4
  have hg0 : w.heap.size ≤ g:=by
   rcases hW5.ownM 0 _ rfl g rfl with h | h
   ·exact h
   exact (h 0).elim
  refine qae [0,1,2,3] kz ?_
  refine qbH [0,1] [2,3] [0,1,4,34] hW5 hE14 (env':=[(0,.p 0 0),(1,.v (cloV fc cap)),(4,.p 1 0),(34,.v (.iface 200 (.slice (some ⟨g,0,none⟩) vis.length kc)))]) kz rfl fun a13 hE15=>?_
  refine qan (qeU hE15 (v:=.func (.func 185) #[] #[.pointer (some ⟨kb,0,none⟩)]) (d:=35) kz fun a14 hE16=>?_)
  have hS:=Tryz.sortKeys g kc kb ks.toArray (by simp; omega) (by simp; omega) w5 (by simp only [List.size_toArray,hkl]; exact hW5.cells 1 _ rfl 0 _ rfl) (fun e=>hW5.rtb 0 _ rfl g rfl 1 _ rfl e) (qgu hkl hown5) (qbW (hW5.own 0 _ rfl) (g:=g) rfl) (hW5.live 1 _ rfl)
  rw [List.size_toArray,hkl] at hS
  refine qan (qam hE16 (f:=184) (vs:=[.iface 200 (.slice (some ⟨g,0,none⟩) vis.length kc),.func (.func 185) #[] #[.pointer (some ⟨kb,0,none⟩)]]) (d:=36) kz Tryz.call184 hS ?_)
  rintro e_ w7 ⟨rfl,d',nd,os,hd1,hd2,hd3,rfl⟩
  refine ⟨_,rfl,fun a15 hE17=>qaf (qab ?_)⟩
  have hus : d'.toList = u.map Prod.fst:=qiQ hd2 (by rw [hd1]; exact hd3) hkp (List.pairwise_map.2 hm.sorted)
  obtain ⟨hst7,hown7⟩:=qjV (n:=nd) (os:=os) hkl hown5 (by rw [hd1,hkl])
  rw [hus] at hown7
  generalize Sort.grow (Sort.putRow (Value.int .u32) (Sort.ahead w5 nd) g 0 d') os = w7 at hst7 hown7
  have hW7 : WOk w Nil w7 [⟨b,o,[.map (some mb)],false⟩,⟨kb,0,[.slice (some ⟨g,0,none⟩) vis.length kc],true⟩] [⟨some ⟨g,0,none⟩,kc,64,1,vis.length,(u.map Prod.fst).map (Value.int .u32)⟩] :=
   hW5.grow (k:=0) (r':=⟨some ⟨g,0,none⟩,kc,64,1,vis.length,(u.map Prod.fst).map (Value.int .u32)⟩) rfl (hst7.mono fun b' _ _ hb'=>by rw [hb']; rfl) hown7 (fun g' h=>.inl h)
  refine qae [0,1,2] kz ?_
  refine qbH [0,1,2] [] [0,1,37,38,39] hW7 hE17 (env':=[(0,.p 0 0),(1,.v (cloV fc cap)),(37,.v (.slice (some ⟨g,0,none⟩) vis.length kc)),(38,.v (.int .i64 ((vis.length : Nat) : Int))),(39,.v (.int .i64 0))]) kz rfl fun a16 hE18=>qaf (qab ?_)
  have hE19:=EnvOk.cutTb 1 hE18 kz
  have hat7:=hat.move hW7.step nilM qbc
  have hm7:=hm.move hW7.step nilM qbc
  have hg7 : g < w7.heap.size:=qbW (hW7.own 0 _ rfl) (g:=g) rfl
  have hkeys:=qgu (by simpa using hvu.symm) hown7
  rw [hvu] at hE19
  refine wp_block ?_
  refine wp_loop_ghost (fun q a_ w_=>∃ (j : Nat),q = u.length - j ∧ j ≤ u.length ∧ EnvOk 53 [⟨b,o,[.map (some mb)],false⟩] [(0,.p 0 0),(1,.v (cloV fc cap)),(37,.v (.slice (some ⟨g,0,none⟩) u.length kc)),(38,.v (.int .i64 ((u.length : Nat) : Int))),(39,.v (.int .i64 ((j : Nat) : Int)))] a_ ∧
   I w7 j w_) u.length
   ⟨0,by omega,by omega,hE19,hI0 w7 hW7.step⟩ ?_
  rintro q a17 w8 ⟨j,rfl,hj,hE20,hD⟩
  have hS8:=hIs w7 j w8 hD
  have hat8:=hat7.move hS8 (fun b o hf _=>hMF b o hf) qbc
  have hm8 : MapR w8 (fun b' o'=>F b' o' ∧ b' < w7.heap.size) (some mb) u:=hm7.move hS8 (fun b o hf _=>hMF b o hf) (fun b' o' hf hl=>⟨hf,hl⟩)
  have hW8 : WOk w8 Nil w8 [⟨b,o,[.map (some mb)],false⟩] []:=(WOk.start w8 Nil).start1 hat8 rfl rfl
  refine qae [0] kz (qbH [0] [] [0,1,37,38,39,40] hW8 hE20 (env':=[(0,.p 0 0),(1,.v (cloV fc cap)),(37,.v (.slice (some ⟨g,0,none⟩) u.length kc)),(38,.v (.int .i64 ((u.length : Nat) : Int))),(39,.v (.int .i64 ((j : Nat) : Int))),(40,.v (.bool (decide (((j : Nat) : Int) < ((u.length : Nat) : Int)))))]) kz rfl fun a18 hE21=>qaf (qab (wp_seq ?_)))
  refine qax hE21 (b:=decide (((j : Nat) : Int) < ((u.length : Nat) : Int))) kz (fun hc=>?_) (fun hc=>?_)
  ·have hlt : j < u.length:=by have:=of_decide_eq_true hc; omega
   refine wp_skip (qab (wp_seq (wp_block ?_)))
   obtain ⟨⟨k,x⟩,hu⟩ : ∃ y,u[j]? = some y:=⟨_,List.getElem?_eq_getElem hlt⟩
   have hmem:=List.mem_of_getElem? hu
   have hkr:=hm.range _ hmem
   have hcell : At w8 g (0 + j * 1) [.int .u32 k]:=by
    intro i v hi
    have hi0 : i = 0:=by
     have:=(List.getElem?_eq_some_iff.1 hi).1
     simp at this; omega
    subst hi0
    simp only [List.getElem?_cons_zero,Option.some.injEq] at hi
    subst hi
    refine hS8.cell (fun hbm=>?_) ?_
    ·have:=hMlt _ _ hbm; omega
    have h1:=(hkeys j (by simpa using hlt)).1
    have h2 : (u.map Prod.fst).toArray[j]! = k:=by
     rw [getElem!_pos _ j (by simpa using hlt)]
     have : (u.map Prod.fst)[j]? = some k:=by rw [List.getElem?_map,hu]; rfl
     simpa using (List.getElem?_eq_some_iff.1 this).2
    rw [h2] at h1
    simpa using h1
   refine qae [0,1,2] kz ?_
   refine qan (qaC hE21 (t:=200) (e:=64) (size:=1) (bytes:=4) (d:=41) (b:=g) (o:=0) (m:=u.length) (j:=j) kz kz rfl rfl hlt fun a19 hE22=>?_)
   refine qan (qaQ hE22 (t:=64) (d:=42) (cs:=[.int .u32 k]) (v:=.int .u32 k) kz kz hcell fun a20 hE23=>?_)
   refine qbH [2] [] [0,1,37,38,39,7] hW8 hE23 (env':=[(0,.p 0 0),(1,.v (cloV fc cap)),(37,.v (.slice (some ⟨g,0,none⟩) u.length kc)),(38,.v (.int .i64 ((u.length : Nat) : Int))),(39,.v (.int .i64 ((j : Nat) : Int))),(7,.v (.int .u32 k))]) kz rfl fun a21 hE24=>qaf (qab ?_)
   refine qas [0,1,2,3,4,5,6,7,8] kz ?_
   refine qbH [0,1,2,3,4,5,6] [7,8] [0,1,37,38,39,43,44,48,49] hW8 hE24 (env':=[(0,.p 0 0),(1,.v (cloV fc cap)),(37,.v (.slice (some ⟨g,0,none⟩) u.length kc)),(38,.v (.int .i64 ((u.length : Nat) : Int))),(39,.v (.int .i64 ((j : Nat) : Int))),(43,.v (cloV fc cap)),(44,.v (.int .u32 k)),(48,.v (.map (some mb))),(49,.v (.int .u32 k))]) kz rfl fun a22 hE25=>?_
   refine qan (qiN hE25 (t:=99) (kt:=64) (et:=22) (m:=some mb) (k:=k) (s:=x) (d:=50) kz kz kz hm8 hmem fun a23 Ax cx hox hE26=>?_)
   refine qan (qam hE26 (f:=fc) (vs:=[.int .u32 k,.slice Ax x.length cx,cap]) (d:=51) kz hcf (hI1 w7 hW7.step j k x w8 Ax cx hD hu hkr hox) ?_)
   rintro e_ w9 ⟨rfl,hD2⟩
   refine ⟨_,rfl,fun a24 hE27=>qaf (qat (qab ?_))⟩
   have hS9:=hIs w7 (j + 1) w9 hD2
   have hat9:=hat7.move hS9 (fun b o hf _=>hMF b o hf) qbc
   have hW9 : WOk w9 Nil w9 [⟨b,o,[.map (some mb)],false⟩] []:=(WOk.start w9 Nil).start1 hat9 rfl rfl
   refine qas [0,1] kz (qbH [0,1] [] [0,1,37,38,39] hW9 hE27 (env':=[(0,.p 0 0),(1,.v (cloV fc cap)),(37,.v (.slice (some ⟨g,0,none⟩) u.length kc)),(38,.v (.int .i64 ((u.length : Nat) : Int))),(39,.v (.int .i64 (IntKind.i64.wrap (((j : Nat) : Int) + 1))))]) kz rfl fun a25 hE28=>qaf (qab ?_))
   rw [qaR (by omega)] at hE28
   exact ⟨u.length - (j + 1),by omega,j + 1,rfl,by omega,hE28,hD2⟩
  obtain rfl : j = u.length:=by have:=of_decide_eq_false hc; omega
  refine wp_exit (qaB (qaB (qaP ?_)))
  exact qbO hE21 hW8.cells (v:=.tuple #[]) kz ⟨rfl,w7,hW7.step,hD⟩
 -- one more
 have hst6 : Step w5 w6 Nil:=by
  rcases hw6 with rfl | rfl
  ·exact Step.refl _ _
  exact Step.drew _
 have hr6 : w6.heap[R]? = some (.mapIter (some mb) clk seen c0):=hst6.heap (fun o h=>h) hr5
 have hW6:=hW5.next_nil hst6
 obtain ⟨hml,_⟩:=mem_left he
 obtain ⟨k,sx,Ax,cx,hk1,hk2,hk3,hk4⟩:=hcont e hml
 have hR6 : R < w6.heap.size:=(Array.getElem?_eq_some_iff.1 hr6).1
 have hW7 : WOk w Nil (setBlock w6 R (.mapIter (some mb) clk (seen.push e.born) clk)) [⟨b,o,[.map (some mb)],false⟩,⟨kb,0,[.slice K vis.length kc],true⟩] [⟨K,kc,64,1,vis.length,(vis.map fun e=>kOf e.key).map (Value.int .u32)⟩]:=by
  refine hW6.next (Step.setBlock w6 R _) (fun b' o' hb' hN=>by omega) (fun i ob hi j hj hN=>?_) (fun i q hi g' hg' o' hN=>?_)
  ·match i,hi with
   | 0,hi =>
    simp only [List.getElem?_cons_zero,Option.some.injEq] at hi; subst hi
    have:=World.lt_of_cell (hat 0 _ rfl).2
    simp only at hN; omega
   | 1,hi =>
    simp only [List.getElem?_cons_succ,List.getElem?_cons_zero,Option.some.injEq] at hi; subst hi
    exact hkbr hN
   | i + 2,hi=>simp at hi
  match i,hi with
  | 0,hi =>
   simp only [List.getElem?_cons_zero,Option.some.injEq] at hi; subst hi
   exact hKR (by rw [← hN]; exact hg')
  | i + 1,hi=>simp at hi
 have hr7 : (setBlock w6 R (.mapIter (some mb) clk (seen.push e.born) clk)).heap[R]? = some (.mapIter (some mb) clk (seen.push e.born) clk):=qen hr6
 generalize hw7 : setBlock w6 R (.mapIter (some mb) clk (seen.push e.born) clk) = w7 at hW7 hr7
 refine qbH [1] [] [0,1,4,24,26] hW7 hE13 (env':=[(0,.p 0 0),(1,.v (cloV fc cap)),(4,.p 1 0),(24,.v (.pointer (some ⟨R,0,none⟩))),(26,.v (.bool true))]) kz rfl fun a12 hE14=>qaf (qab (wp_seq ?_))
 refine qax hE14 (b:=true) kz (fun _=>?_) (fun hb=>by cases hb)
 refine wp_skip (qab (wp_block ?_))
 have hes7:=hW7.step.heap (fun o h=>h) hes
 refine qae [0,1,2] kz ?_
 refine qan (qh5 hE14 (d:=27) (r:=R) kz hr7 hes7 hml hnod fun a13 hE15=>?_)
 rw [hk1] at hE15
 refine qbH [1,2] [] [0,1,4,24,5] hW7 hE15 (env':=[(0,.p 0 0),(1,.v (cloV fc cap)),(4,.p 1 0),(24,.v (.pointer (some ⟨R,0,none⟩))),(5,.v (.int .u32 k))]) kz rfl fun a14 hE16=>qaf (qab ?_)
 refine qas [0,1,2,3,4] kz ?_
 refine qbH [0,1] [2,3,4] [0,1,4,24,29,30] hW7 hE16 (env':=[(0,.p 0 0),(1,.v (cloV fc cap)),(4,.p 1 0),(24,.v (.pointer (some ⟨R,0,none⟩))),(29,.v (.slice K vis.length kc)),(30,.v (.int .u32 k))]) kz rfl fun a15 hE17=>?_
 have hsh:=left_shrinks es seen e he
 refine qcy (t:=200) (e:=64) (size:=1) (bytes:=4) (len:=1) (cs:=[.int .u32 k]) (d1:=31) (d:=32) (k:=0) hW7 hE17 kz kz (fun _=>by kernel_rfl) rfl kz (by omega) fun K2 kc2 a16 w8 hF8 hW8 hE18=>?_
 obtain ⟨bl,hE18⟩:=hE18
 have hR7 : R < w7.heap.size:=(Array.getElem?_eq_some_iff.1 hr7).1
 have hna : ∀ {o'},¬ Act_ [⟨b,o,[.map (some mb)],false⟩,⟨kb,0,[.slice K vis.length kc],true⟩] [⟨K,kc,64,1,vis.length,(vis.map fun e=>kOf e.key).map (Value.int .u32)⟩] R o':=by
  rintro o' (⟨i,ob,hi,hrw,hb,_⟩ | ⟨i,q,hi,hq⟩)
  ·match i,hi with
   | 0,hi =>
    simp only [List.getElem?_cons_zero,Option.some.injEq] at hi; subst hi
    cases hrw
   | 1,hi =>
    simp only [List.getElem?_cons_succ,List.getElem?_cons_zero,Option.some.injEq] at hi; subst hi
    exact hkbr hb
   | i + 2,hi=>simp at hi
  match i,hi with
  | 0,hi =>
   simp only [List.getElem?_cons_zero,Option.some.injEq] at hi; subst hi
   exact hKR hq
  | i + 1,hi=>simp at hi
 have hK2 : K2.map (·.block) ≠ some R:=fun hk=>by
  exact hF8.imm R 0 hR7 hna (.inr ⟨0,_,rfl,hk⟩)
 refine qan (qav hW8 hE18 (oi:=1) (cs:=[.slice K2 (vis.length + 1) kc2]) kz fun w9 hF9 hW9 hE19=>qaf (qat (qab ?_)))
 have hr8 : w9.heap[R]? = some (.mapIter (some mb) clk (seen.push e.born) clk) :=
  hF9.step.heap (fun o'=>hF8.imm R o' hR7 hna) (hF8.step.heap (fun o'=>hna) hr7)
 refine ⟨(leftOf es (seen.push e.born)).size,hsh,vis ++ [e],seen.push e.born,K2,kc2,clk,rfl,hv.push he,by rw [List.length_append,List.length_singleton]; omega,?_,?_,hr8,Nat.le_refl _,hK2⟩
 ·rw [List.length_append,List.length_singleton]
  exact hE19.pick (ks:=[0,1,4,24]) kz
 rw [List.length_append,List.length_singleton,List.map_append,List.map_append,List.map_cons,List.map_cons,hk1]
 exact hW9
end Go.Proofs.YtgolpmkenmedoaaGreatDoor.ME
namespace Go.Proofs.YtgolpmkenmedoaaGreatDoor.ME
open Go
open Go.RowKit
set_option linter.unusedVariables false
set_option linter.unusedSimpArgs false
set_option maxRecDepth 20000
section
variable {P : Program} {ops : Array Oper} {Q : Exit → Act → World → Prop} {n : Nat} {tb : Tb} {env : Env} {rs : List Rw} {w0 : World} {M : Nat → Nat → Prop} {a : Act} {w : World}
theorem qeH {i d j : Nat} {t e : TypeId} {size bytes : Nat} (z : Value) (cs : List Value) {N : Act → World → Prop} (hW : WOk w0 M w tb rs) (hE : EnvOk n tb env a)
  (K : ∀ b a' w',b = w.heap.size → w0.heap.size ≤ b → Fr w tb rs w' (tb ++ [⟨b,0,cs,true⟩]) rs → WOk w0 M w' (tb ++ [⟨b,0,cs,true⟩]) rs → EnvOk n (tb ++ [⟨b,0,cs,true⟩]) ((d,.v (.slice (some ⟨b,0,none⟩) j j)) :: env) a' → N a' w')
  (h : qiH env ops n i = some (t,((j : Nat) : Int),((j : Nat) : Int),d):=by kernel_rfl) (ht : qcK P t = some (e,size,bytes):=by kernel_rfl) (hz : (P.info? e).bind (·.zero) = some z:=by kernel_rfl) (hcs : (madeCells z.cells (j * size)).toList = cs:=by kernel_rfl) (hb : Nat.ble (bytes * j) 1000000 = true:=by kernel_rfl) : wpOp P ops Q i N a w:=by
 obtain ⟨ht',inf,z',hi,hz',hzs,hs1,rfl,hsz,hbp⟩:=qcf ht
 obtain ⟨op,ho,hd,kl,kc,hrun⟩:=qfW (P:=P) (w:=w) hE h
 have hzz : z' = z:=by rw [hi] at hz; simp only [Option.bind_some,hz',Option.some.injEq] at hz; exact hz
 subst hzz
 have hb':=Nat.le_of_ble_eq_true hb
 have hjm : j ≤ 1000000:=by
  have:=Nat.le_mul_of_pos_left j hbp
  omega
 have hr:=run_make (P:=P) w t e inf z' ht' hi hz' kl kc (j : Int) (j : Int) (by omega) (Int.le_refl _) (by
  have : ((inf.bytes * j : Nat) : Int) ≤ 281474976710656:=by omega
  rwa [Int.natCast_mul] at this) (by omega)
 simp only [Int.toNat_natCast,hs1] at hr
 have hca : madeCells z'.cells (j * size) = cs.toArray:=by rw [← hcs]
 rw [hca] at hr
 refine qa9 hE ho (fun o hop=>hrun o _ _ hop hr) ?_
 refine K w.heap.size _ _ rfl hW.step.size (Fr.alloc w tb rs _ cs true) (hW.alloc cs e) ?_
 exact (hE.put hd (.v (.slice (some ⟨w.heap.size,0,none⟩) j j)) trivial).grow _
theorem qil {i d : Nat} {src dst e : TypeId} {s : ByteArray} {N : Act → World → Prop} (hW : WOk w0 M w tb rs) (hE : EnvOk n tb env a) (hsm : s.size ≤ 1099511627776)
  (K : ∀ b c a' w',Fr w tb rs w' tb rs → WOk w0 M w' tb rs → (∀ G,Octs w' (Imm G w0 w' tb rs) (some ⟨b,0,none⟩) c (sb s)) → EnvOk n tb ((d,.v (.slice (some ⟨b,0,none⟩) (sb s).length c)) :: env) a' → N a' w')
  (h : qj4 tb env ops n i = some (src,dst,.string s,d):=by kernel_rfl) (hs : P.underlying src = some .string:=by kernel_rfl) (hd : P.underlying dst = some (.slice e):=by kernel_rfl) (he : P.underlying e = some (.int .u8):=by kernel_rfl) : wpOp P ops Q i N a w:=by
 unfold qj4 at h
 split at h
 ·rename_i src' dst' x d' hop
  split at h
  ·rename_i v hx
   simp only [Option.some.injEq,Prod.mk.injEq] at h
   obtain ⟨rfl,rfl,rfl,rfl⟩:=h
   have hdn:=(qbs hE hop).choose_spec.2.2.2.1
   have hrun:=Lib.run_convert_string_bytes (P:=P) w src' dst' e s hs hd he
   have hst : Step w (Lib.bytesWorld w e s) Nil:=⟨rfl,rfl,by rw [Lib.bytesWorld_size]; omega,fun b hb=>by rw [Lib.bytesWorld_at_old w e s b hb]; exact Keeps.refl _ _⟩
   have hlen : (sb s).length = s.size:=qiE s
   have e1:=(qa7 hE hx).1
   refine qa9 hE hop (v:=.slice (some ⟨w.heap.size,0,none⟩) (sb s).length (grownCap w s.size 0 e)) (w':=Lib.bytesWorld w e s) (fun o' ho'=>?_) (K w.heap.size _ _ _ (Fr.nil tb rs hst) (hW.next_nil hst) (fun G=>?_) (hE.put hdn (.v _) trivial))
   ·unfold execOp
    rw [ho']
    simp only [SV.val] at e1
    simp only [e1,Sem.run_bind,hrun,Result.andThen_ok,Sem.run_pure,hlen]
   refine ⟨by rw [hlen]; exact grownCap_ge w s.size 0 e,by rw [hlen]; exact hsm,fun h=>(by cases h),fun ad hA _=>?_⟩
   obtain rfl:=Option.some.inj hA
   refine ⟨w.heap.size,0,rfl,fun q hq=>⟨rfl,fun j v hj=>?_⟩⟩
   have hj0 : j = 0:=by
    cases j with
    | zero=>rfl
    | succ j=>simp at hj
   subst hj0
   simp only [List.getElem?_cons_zero,Option.some.injEq] at hj
   subst hj
   have h2 : (Lib.bytesWorld w e s).heap.size = w.heap.size + 1:=Lib.bytesWorld_size w e s
   refine ⟨⟨.inr hW.step.size,by rw [h2]; exact Nat.lt_succ_self _,fun ha=>?_⟩,?_⟩
   ·have:=hW.act_live ha
    exact absurd this (Nat.lt_irrefl _)
   rw [Nat.zero_add,Nat.mul_one,Nat.add_zero,Lib.bytesWorld_cell w e s q (by rw [← hlen]; exact hq)]
   rfl
  cases h
 cases h
end
structure TBox (w : World) (B eT : Nat) (A : Option Addr) (cp n : Nat) (x0 x1 x2 x3 : Value) (xs : List Value) : Prop where
 str : Str w B [x0,x1,x2,x3,.slice A n cp]
 own : w.ownsRow 0 eT 2 (.slice A n cp) n xs
 ne : A.map (·.block) ≠ some B
def TM (B : Nat) (A : Option Addr) : Nat → Nat → Prop:=fun b o=>(b = B ∧ o < 5) ∨ Blk A b o
def qkc (w : World) (B eT : Nat) (A : Option Addr) (n : Nat) (x0 x1 x2 x3 : Value) (xs : List Value) (k : Int) (x : Bs) : Ending → World → Prop:=fun en w' =>
 en = .returned (.tuple #[]) ∧ ∃ A' cp' Av cv,TBox w' B eT A' cp' (n + 1) x0 x1 x2 x3 (xs ++ [.int .u32 k,.slice Av x.length cv]) ∧ Octs w' (fun b o=>(w.heap.size ≤ b ∨ A.map (·.block) = some b) ∧ ¬ TM B A' b o) Av cv x ∧ Near w A A' ∧ Step w w' (TM B A)
def qfo (P : Program) (fc eT : Nat) : Prop:=∀ (w : World) (B cp c n : Nat) (k : Int) (A Av : Option Addr) (x : Bs) (x0 x1 x2 x3 : Value) (xs : List Value) (G : Nat → Nat → Prop),TBox w B eT A cp n x0 x1 x2 x3 xs → Octs w G Av c x → (∀ b o,G b o → ¬ TM B A b o) → n ≤ 1000000 →
 Calls P fc [.int .u32 k,.slice Av x.length c,.pointer (some ⟨B,0,none⟩)].toArray w (qkc w B eT A n x0 x1 x2 x3 xs k x)
theorem TBox.wok {w : World} {B eT cp n : Nat} {A : Option Addr} {x0 x1 x2 x3 : Value} {xs : List Value} (h : TBox w B eT A cp n x0 x1 x2 x3 xs) : WOk w (TM B A) w [⟨B,0,[x0,x1,x2,x3,.slice A n cp],true⟩] [⟨A,cp,eT,2,n,xs⟩]:=by
 have h1 : WOk w (TM B A) w [⟨B,0,[x0,x1,x2,x3,.slice A n cp],true⟩] [] :=
  (WOk.start w _).add ⟨B,0,[x0,x1,x2,x3,.slice A n cp],true⟩ (World.lt_of_cell (h.str.at_ 0 _ rfl)) (fun j v hj=>by rw [Nat.zero_add]; exact h.str.at_ j v hj) (fun _ j hj=>⟨.inr (.inl ⟨rfl,by rw [Nat.zero_add]; exact hj⟩),by rw [Nat.zero_add]; exact h.str.frz j hj⟩) (fun i ob hi=>by simp at hi) (fun i r hi=>by simp at hi)
 refine h1.addRow ⟨A,cp,eT,2,n,xs⟩ h.own (fun g hg=>.inr fun o=>.inr hg) (fun i ob hi=>?_) (fun i r hi=>by simp at hi)
 cases i with
 | zero =>
  simp only [List.getElem?_cons_zero,Option.some.injEq] at hi; subst hi
  exact h.ne
 | succ i=>simp at hi
theorem qga {w0 w : World} {B eT cp n : Nat} {A0 A : Option Addr} {x0 x1 x2 x3 : Value} {xs : List Value} {rs : List Rw} (hW : WOk w0 (TM B A0) w [⟨B,0,[x0,x1,x2,x3,.slice A n cp],true⟩] (⟨A,cp,eT,2,n,xs⟩ :: rs)) (hB : B < w0.heap.size) : TBox w B eT A cp n x0 x1 x2 x3 xs ∧ Near w0 A0 A ∧ Step w0 w (TM B A0):=by
 refine ⟨⟨Str.of hW 0 rfl,hW.own 0 _ rfl,fun e=>hW.rtb 0 _ rfl B e 0 _ rfl rfl⟩,fun g hg=>?_,hW.step⟩
 rcases hW.ownM 0 _ rfl g hg with h | h
 ·exact .inr h
 rcases h 5 with ⟨_,h⟩ | h
 ·omega
 exact .inl h
theorem qet {w0 w : World} {B eT cp n c e8 : Nat} {A0 A Av : Option Addr} {cs : List Value} {xs : List Value} {s : Bs} (hl : cs.length = 5) (hW : WOk w0 (TM B A0) w [⟨B,0,cs,true⟩] [⟨A,cp,eT,2,n,xs⟩,brow Av c e8 s]) (hsm : s.length ≤ 1099511627776) : Octs w (fun b o=>(w0.heap.size ≤ b ∨ A0.map (·.block) = some b) ∧ ¬ TM B A b o) Av c s:=by
 refine qcg (hW.own 1 _ rfl) hsm fun g hg o=>⟨?_,?_⟩
 ·rcases hW.ownM 1 _ rfl g hg with h | h
  ·exact .inl h
  rcases h 5 with ⟨_,h⟩ | h
  ·omega
  exact .inr h
 rintro (⟨rfl,_⟩ | h)
 ·exact hW.rtb 1 _ rfl g hg 0 _ rfl rfl
 exact hW.rr 1 0 _ _ (by decide) rfl rfl g hg h
theorem qfp {fc eT B b o : Nat} {m : Option Nat} {u : List (Int × Bs)} {w : World} {F : Nat → Nat → Prop} {x0 x1 x2 x3 : Value} (hcf : ∀ args w,(callFunc fc args).run Tryz.prog w = .ok (.enter fc args) w) (hone : qfo Tryz.prog fc eT) (hat : AtF w F b o [.map m]) (hm : MapR w F m u) (hB : Str w B [x0,x1,x2,x3,.slice none 0 0]) (hF : ∀ b o,F b o → ¬ (b = B ∧ o < 5)) (hul : u.length ≤ 1000000) :
  Calls Tryz.prog 122 [.pointer (some ⟨b,o,none⟩),cloV fc (.pointer (some ⟨B,0,none⟩))].toArray w (fun e w'=>e = .returned (.tuple #[]) ∧ ∃ A c,Str w' B [x0,x1,x2,x3,.slice A u.length c] ∧ TagsR w' (fun b o=>w.heap.size ≤ b) A c u ∧ Step w w' (fun b o=>b = B ∧ o < 5)):=by
 have hBl : B < w.heap.size:=World.lt_of_cell (hB.at_ 0 _ rfl)
 refine (qlG (M:=fun b o=>b = B ∧ o < 5) hcf (fun w7 j w8=>∃ A cp xs css,TBox w8 B eT A cp j x0 x1 x2 x3 xs ∧ Tags w8 (fun b o=>w7.heap.size ≤ b ∧ ¬ TM B A b o) xs (u.take j) css ∧ (∀ g,A.map (·.block) = some g → w7.heap.size ≤ g) ∧ Step w7 w8 (fun b o=>b = B ∧ o < 5)) hat hm hF (fun b o h=>by rw [h.1]; exact hBl) (fun w7 hs=>?_) (fun w7 j w8 h=>by obtain ⟨_,_,_,_,_,_,_,h⟩:=h; exact h) (fun w7 hs j k x w8 Ax cx hI hu hk hox=>?_) hul).mono ?_
 ·exact ⟨none,0,[],[],⟨hB.move hs fun _ h=>h,World.ownsRow_nil _ 0 eT 2,fun h=>by cases h⟩,Tags.nil _ _,fun g h=>(by cases h),Step.refl _ _⟩
 ·obtain ⟨A,cp,xs,css,hbx,hT,hA,hs8⟩:=hI
  have hj : j < u.length:=(List.getElem?_eq_some_iff.1 hu).1
  refine (hone w8 B cp cx j k A Ax x x0 x1 x2 x3 xs _ hbx hox (fun b o hf=>?_) (by omega)).mono ?_
  ·rintro (h | h)
   ·exact hF _ _ hf.1 h
   have:=hA b h; have:=hf.2; omega
  rintro e w9 ⟨rfl,A',cp',Av,cv,hbx',ho',hn,hs9⟩
  refine ⟨rfl,A',cp',_,css ++ [[.int .u32 k,.slice Av x.length cv]],hbx',?_,fun g hg=>?_,hs8.trans hs9 fun b o hb h=>?_⟩
  ·rw [qc2 hu]
   have e1 : Tags w9 (fun b o=>w7.heap.size ≤ b ∧ ¬ TM B A' b o) xs (u.take j) css:=hT.move hs9 (fun b o h _=>h.2) (fun b o h hb=>⟨h.1,fun h'=>by
    rcases h' with h' | h'
    ·exact h.2 (.inl h')
    rcases hn b h' with h' | h'
    ·exact h.2 (.inr h')
    omega⟩)
   have e2 : Octs w9 (fun b o=>w7.heap.size ≤ b ∧ ¬ TM B A' b o) Av cv x:=ho'.move (Step.refl _ Nil) nilM fun b o h _=>⟨by
    rcases h.1 with h' | h'
    ·exact Nat.le_trans hs8.size h'
    exact hA b h',h.2⟩
   exact e1.snoc (c:=[.int .u32 k,.slice Av x.length cv]) (x:=(k,x)) ⟨⟨_,_,rfl,e2⟩,hk.1,hk.2⟩
  ·rcases hn g hg with h | h
   ·exact hA g h
   exact Nat.le_trans hs8.size h
  rcases h with h | h
  ·exact h
  have:=hA b h; omega
 rintro e w' ⟨rfl,w7,hs,A,cp,xs,css,hbx,hT,hA,hs8⟩
 rw [List.take_length] at hT
 refine ⟨rfl,A,cp,hbx.str,?_,(hs.mono (N:=fun b o=>b = B ∧ o < 5) fun _ _ _ f=>f.elim).trans hs8 fun b o _ h=>h⟩
 exact ((hT.move (Step.refl _ Nil) nilM fun b o h _=>Nat.le_trans hs.size h.1).slots (F:=fun b o=>w.heap.size ≤ b) hbx.own rfl (by omega) fun g hg o=>Nat.le_trans hs.size (hA g hg))
def qim (A : Option Addr) (s : ByteArray) : Tree:=.mk 0 (if A.isNone = true then [] else sb s) A.isNone [] []
abbrev NoF : Nat → Nat → Prop:=fun _ _=>False
theorem WOk.strOut {G : Nat → Nat → Prop} {w0 w : World} {tb : Tb} {rs : List Rw} {p : Nat} {cs : List Value} (tb' : Tb) (hW : WOk w0 Nil w tb rs) (ht : tb' ++ [⟨p,0,cs,true⟩] = tb:=by rfl) : AtF w (Imm G w0 w tb' rs) p 0 cs:=fun j v hj=>by
 subst ht
 have hi : (tb' ++ [(⟨p,0,cs,true⟩ : Ob)])[tb'.length]? = some ⟨p,0,cs,true⟩:=by rw [List.getElem?_append_right (Nat.le_refl _),Nat.sub_self]; rfl
 have h1:=hW.cells _ _ hi j v hj
 have hlt : j < cs.length:=(List.getElem?_eq_some_iff.1 hj).1
 refine ⟨⟨?_,hW.live _ _ hi,fun ha=>?_⟩,h1⟩
 ·rcases (hW.rw_ _ _ hi rfl j hlt).1 with h2 | h2
  ·exact .inr h2
  exact h2.elim
 rcases ha with ⟨k,ob,h2,h3,h4,h5,h6⟩ | ⟨k,r,h2,h3⟩
 ·have hk : k < tb'.length:=(List.getElem?_eq_some_iff.1 h2).1
  have h7 : (tb' ++ [(⟨p,0,cs,true⟩ : Ob)])[k]? = some ob:=by rw [List.getElem?_append_left hk]; exact h2
  rcases hW.apart k _ ob _ (by omega) h7 hi (.inr rfl) with h8 | h8 | h8
  ·exact h8 h4
  ·simp only [Nat.zero_add] at h5 h6; simp only [Nat.le_zero] at h8; omega
  simp only [Nat.zero_add] at h5 h6 h8; omega
 exact hW.rtb k r h2 p h3 _ _ hi rfl
theorem qin {u : List (Int × Bs)} (h : qdf u) {i j : Nat} {k k' : Int} {s s' : Bs} (hi : u[i]? = some (k,s)) (hj : u[j]? = some (k',s')) (hij : j < i) : ¬ k < k':=by
 obtain ⟨h1,h2⟩:=List.getElem?_eq_some_iff.1 hi
 obtain ⟨h3,h4⟩:=List.getElem?_eq_some_iff.1 hj
 have:=List.pairwise_iff_getElem.1 h j i h3 h1 hij
 rw [h2,h4] at this
 simp only at this
 omega
section
variable {w0 w : World} {tb : Tb} {rs : List Rw} {F : Nat → Nat → Prop}
theorem WOk.objFp (hW : WOk w0 Nil w tb rs) (i : Nat) {b : Nat} {cs : List Value} (hi : tb[i]? = some ⟨b,0,cs,true⟩) : AtF w (Fp F w0) b 0 cs:=fun j v hj=>by
 have hlt:=(List.getElem?_eq_some_iff.1 hj).1
 refine ⟨?_,hW.cells i _ hi j v hj⟩
 rcases (hW.rw_ i _ hi rfl j hlt).1 with h | h
 ·exact .inr h
 exact h.elim
def TrL (w : World) (F : Nat → Nat → Prop) : List (List Value) → List Tree → Prop
 | [],[]=>True
 | c :: cs,x :: xs=>TreeR w F c x ∧ TrL w F cs xs
 | _,_=>False
theorem TrL.move {w w' : World} {F F' M : Nat → Nat → Prop} (hs : Step w w' M) (hM : ∀ b o,F b o → b < w.heap.size → ¬ M b o) (hF : ∀ b o,F b o → b < w.heap.size → F' b o) : ∀ {cs : List (List Value)} {l : List Tree},TrL w F cs l → TrL w' F' cs l
 | [],[],_=>trivial
 | _ :: _,_ :: _,h=>⟨h.1.move hs hM hF,TrL.move hs hM hF h.2⟩
 | [],_ :: _,h=>h.elim
 | _ :: _,[],h=>h.elim
theorem TrL.len : ∀ {cs : List (List Value)} {l : List Tree},TrL w F cs l → cs.length = l.length
 | [],[],_=>rfl
 | _ :: _,_ :: _,h=>congrArg (· + 1) (TrL.len h.2)
 | [],_ :: _,h=>h.elim
 | _ :: _,[],h=>h.elim
theorem TrL.five : ∀ {cs : List (List Value)} {l : List Tree},TrL w F cs l → ∀ c ∈ cs,c.length = 5
 | [],[],_=>fun c hc=>by cases hc
 | _ :: _,_ :: _,h=>fun c hc=>by
  rcases List.mem_cons.1 hc with rfl | hc
  ·exact h.1.five
  exact TrL.five h.2 c hc
 | [],_ :: _,h=>h.elim
 | _ :: _,[],h=>h.elim
theorem TrL.get : ∀ {cs : List (List Value)} {l : List Tree},TrL w F cs l → ∀ (i : Nat) (x : Tree),l[i]? = some x → TreeR w F (cs.getD i []) x
 | [],[],_,i,x,hx=>by simp at hx
 | _ :: _,_ :: _,h,0,x,hx=>by
  simp only [List.getElem?_cons_zero,Option.some.injEq] at hx
  subst hx
  exact h.1
 | _ :: _,_ :: _,h,i + 1,x,hx=>TrL.get h.2 i x hx
 | [],_ :: _,h,_,_,_=>h.elim
 | _ :: _,[],h,_,_,_=>h.elim
theorem qlH {b : Nat} : ∀ (css : List (List Value)) (o : Nat),AtF w F b o css.flatten → (∀ c ∈ css,c.length = 5) → ∀ i,i < css.length → (css.getD i []).length = 5 ∧ AtF w F b (o + i * 5) (css.getD i [])
 | [],o,h,hl,i,hi=>absurd hi (Nat.not_lt_zero _)
 | c :: r,o,h,hl,0,_=>⟨hl c List.mem_cons_self,fun j v hj=>by
   have hj' : c[j]? = some v:=hj
   have:=h j v (by rw [List.flatten_cons,List.getElem?_append_left (List.getElem?_eq_some_iff.1 hj').1]; exact hj')
   rw [show o + 0 * 5 + j = o + j by omega]
   exact this⟩
 | c :: r,o,h,hl,i + 1,hi=>by
  have hc:=hl c List.mem_cons_self
  have:=qlH r (o + 5) (fun j v hj=>by
   have:=h (5 + j) v (by rw [List.flatten_cons,List.getElem?_append_right (by omega),show 5 + j - c.length = j by omega]; exact hj)
   rw [show o + 5 + j = o + (5 + j) by omega]
   exact this) (fun d hd=>hl d (List.mem_cons_of_mem _ hd)) i (by simpa using hi)
  rw [show o + (i + 1) * 5 = o + 5 + i * 5 by omega]
  exact this
theorem qio {b : Nat} {css : List (List Value)} {l : List Tree} (h : AtF w F b 0 css.flatten) (hT : TrL w F css l) (hsm : l.length ≤ 1099511627776) : Slots w F 5 (some ⟨b,0,none⟩) l.length l.length (fun i=>css.getD i []) :=
 ⟨Nat.le_refl _,hsm,fun h=>(by cases h),fun ad hA _=>⟨b,0,(Option.some.inj hA).symm,fun i hi=>qlH css 0 h hT.five i (by rw [hT.len]; exact hi)⟩⟩
theorem Trees.xslen {w : World} {xs : List Value} {l : List Tree} {css : List (List Value)} (h : Trees w F xs l css) : xs.length = l.length * 5:=by
 have h1 : ∀ css : List (List Value),(∀ c ∈ css,c.length = 5) → css.flatten.length = css.length * 5:=fun css hc=>by
  induction css with
  | nil=>rfl
  | cons c r ih =>
   rw [List.flatten_cons,List.length_append,hc c List.mem_cons_self,ih fun d hd=>hc d (List.mem_cons_of_mem _ hd),List.length_cons]
   omega
 rw [h.flat.eq,h1 css,h.len]
 intro c hc
 obtain ⟨i,hi,rfl⟩:=List.getElem_of_mem hc
 have hl:=h.len
 exact (h.each i _ _ (List.getElem?_eq_getElem hi) (List.getElem?_eq_getElem (show i < l.length by omega))).five
theorem qdo {xs zs cs : List Value} {k : Nat} (hx : xs.length = k * 5) (hz : zs.length = cs.length:=by rfl) : qbm (xs ++ zs) (k * 5) cs = xs ++ cs:=by
 unfold qbm
 rw [List.take_left' hx,List.drop_of_length_le (by rw [List.length_append]; omega),List.append_nil]
structure O16 (w : World) (F : Nat → Nat → Prop) (A : Option Addr) (c : Nat) (s : Bs) : Prop where
 o : Octs w F A c s
 l : s.length = 16
theorem O16.move {w w' : World} {F F' M : Nat → Nat → Prop} {A : Option Addr} {c : Nat} {s : Bs} (h : O16 w F A c s) (hs : Step w w' M) (hM : ∀ b o,F b o → b < w.heap.size → ¬ M b o) (hF : ∀ b o,F b o → b < w.heap.size → F' b o) : O16 w' F' A c s:=⟨h.o.move hs hM hF,h.l⟩
theorem O16.src {w : World} {F : Nat → Nat → Prop} {A : Option Addr} {c : Nat} {s : Bs} (h : O16 w F A c s) : Src w A 16 1 (bc s):=by
 have:=h.o.src
 rwa [h.l] at this
theorem O16.cap {w : World} {F : Nat → Nat → Prop} {A : Option Addr} {c : Nat} {s : Bs} (h : O16 w F A c s) : A = none → c = 0:=h.o.cap
theorem qlI {w : World} {F : Nat → Nat → Prop} {b o k : Nat} {cs : List Value} {s : Bs} (h : AtF w F b o cs) (hl : s.length = 16) (hc : ∀ j,j < 16 → cs[k + j]? = some (qad (s.getD j 0))) : O16 w F (some ⟨b,o + k,none⟩) 16 s:=by
 refine ⟨⟨by omega,by omega,fun h=>(by cases h),fun ad hA _=>⟨b,o + k,(Option.some.inj hA).symm,fun i hi=>⟨rfl,fun j v hj=>?_⟩⟩⟩,hl⟩
 have hj0 : j = 0:=by
  cases j with
  | zero=>rfl
  | succ j=>simp at hj
 subst hj0
 simp only [List.getElem?_cons_zero,Option.some.injEq] at hj
 subst hj
 have:=h (k + i) _ (hc i (by omega))
 rw [show o + k + i * 1 + 0 = o + (k + i) by omega]
 exact this
theorem qgS (hW : WOk w0 Nil w tb rs) {k : Nat} {A : Option Addr} {c e n : Nat} {xs : List Value} {l : List Tree} {css : List (List Value)} {b : Bool} (hk : rs[k]? = some ⟨A,c,e,5,n,xs⟩) (hT : Trees w (Imm F w0 w tb rs) xs l css) (hn : n = l.length) (hsm : l.length ≤ 1099511627776) : TreeR w (Fp F w0) [.int .i64 0,.slice none 0 0,.bool b,.slice A n c,.slice none 0 0] (.mk 0 [] b l []):=by
 have h:=qhu hW hk hT hn hsm
 subst hn
 exact TreeR.mk (s:=[]) (u:=[]) _ (Octs.nil _ _) h.1 h.2 (TagsR.nil _ _)
theorem qcT {L k : Nat} {f : Nat → Tree} (h : k < L) : ((List.range L).map f).take (k + 1) = ((List.range L).map f).take k ++ [f k] :=
 qc2 (by rw [List.getElem?_map,List.getElem?_range h]; rfl)
theorem qhK {L k : Nat} {f : Nat → Tree} (h : L ≤ k) : ((List.range L).map f).take k = (List.range L).map f:=List.take_of_length_le (by rw [List.length_map,List.length_range]; exact h)
theorem qcI {L : Nat} {f : Nat → Tree} : ((List.range L).map f).length = L:=by rw [List.length_map,List.length_range]
theorem qgb (hW : WOk w0 Nil w tb rs) (i : Nat) {b n2 c3 : Nat} {A3 : Option Addr} {u : List (Int × Bs)} {css : List (List Value)} {cs : List Value} {l : List Tree} (hi : tb[i]? = some ⟨b,0,cs,true⟩) (hT' : TrL w (Fp F w0) css l) (hU : TagsR w (Fp F w0) A3 c3 u) (hf : css.flatten = cs:=by rfl) (hl : l.length = n2:=by rfl) (hn : Nat.ble n2 1000000 = true:=by kernel_rfl) :
  qdZ w0 F (.mk 0 [] false l u) (.returned (.agg #[.int .i64 0,.slice none 0 0,.bool false,.slice (some ⟨b,0,none⟩) n2 n2,.slice A3 u.length c3])) w:=by
 subst hf
 subst hl
 have hn':=Nat.le_of_ble_eq_true hn
 exact ⟨_,rfl,TreeR.mk (s:=[]) _ (Octs.nil _ _) (qio (hW.objFp i hi) hT' (by omega)) hT'.get hU,hW.step⟩
end
def qlJ (m : Nat) : Prop:=∀ (ct : List Value) (t : Tree) (w : World) (F : Nat → Nat → Prop),TreeR w F ct t → t.depth ≤ m →
  Calls Tryz.prog 21 #[.agg ct.toArray] w (qdZ w F t)
theorem qjy {m : Nat} (hg : qlJ m) (ct : List Value) (t : Tree) (w : World) (F : Nat → Nat → Prop) (ht : TreeR w F ct t) (hd : t.depth ≤ m + 1) :
  Calls Tryz.prog 21 #[.agg ct.toArray] w (qdZ w F t):=by
 obtain ⟨n1,s2,b3,l4,u5,A6,c7,A8,c9,ap,ar,dT,rfl,rfl,dw,dx,dU,dV⟩:=ht.open_
 have dy:=dw.small
 have dz:=dx.small
 obtain ⟨dW,dA,dX⟩:=dV.ex
 have dB:=dA.small
 refine enter (n:=49) Tryz.func21 rfl Tryz.ntmps21 kz fun a hE=>?_
 have hW:=WOk.start w Nil
 refine qae [0,1] kz ?_
 refine qan (qbk hW hE (d:=1) (cs:=[.int .i64 n1,.slice A6 s2.length c7,.bool b3,.slice A8 l4.length c9,.slice ap u5.length ar]) kz fun bF fk fm dY dZ d5 cY cZ=>?_)
 refine qan (qaO cY cZ (d:=2) (cs:=[.int .i64 0,.slice none 0 0,.bool false,.slice none 0 0,.slice none 0 0]) kz fun bG fo fq d6 d7 d8 bI c5=>?_)
 refine qaf (qab ?_)
 refine qae [0,1,2,3,4,5,6,7,8] kz ?_
 refine qal [0,1,2,3,4,5,6] [7,8] [(1,.p 0 0),(2,.p 1 0),(14,.v (.agg #[.int .i64 n1,.slice A6 s2.length c7,.bool b3,.slice none 0 0,.slice none 0 0]))] bI c5 fun fr c6=>?_
 refine qan (qaO bI c6 (d:=3) (cs:=[.int .i64 0,.slice none 0 0,.bool false,.slice none 0 0,.slice none 0 0]) kz fun bH ft fu d9 ea eb da db=>?_)
 refine qan (qav da db (oi:=2) (cs:=[.int .i64 n1,.slice A6 s2.length c7,.bool b3,.slice none 0 0,.slice none 0 0]) kz fun fv ec bz dc=>?_)
 refine qaf (qab ?_)
 refine wp_seq ?_
 refine qaq [(1,.p 0 0),(2,.p 1 0),(3,.p 2 0),(16,.v (.slice A8 l4.length c9)),(17,.v (.int .i64 ((l4.length : Nat) : Int))),(18,.v (.int .i64 0))] bz dc fun fw de=>?_
 refine wp_block ?_
 have bJ:=bz.addNil 26 5
 have ee:=bz.frNil 26 5
 refine wp_loop_ghost (fun n_ a_ w_=>∃ (k : Nat) (A_ : Option Addr) (c_ : Nat) (xs : List Value) (css : List (List Value)),n_ = l4.length - k ∧ k ≤ l4.length ∧ (Trees w_ (Imm F w w_ [⟨bF,0,[.int .i64 n1,.slice A6 s2.length c7,.bool b3,.slice A8 l4.length c9,.slice ap u5.length ar],true⟩,⟨bG,0,[.int .i64 0,.slice none 0 0,.bool false,.slice none 0 0,.slice none 0 0],true⟩,⟨bH,0,[.int .i64 n1,.slice A6 s2.length c7,.bool b3,.slice A_ k c_,.slice none 0 0],true⟩] [⟨A_,c_,26,5,k,xs⟩]) xs (l4.take k) css) ∧ LInv bJ 49 [⟨bF,0,[.int .i64 n1,.slice A6 s2.length c7,.bool b3,.slice A8 l4.length c9,.slice ap u5.length ar],true⟩,⟨bG,0,[.int .i64 0,.slice none 0 0,.bool false,.slice none 0 0,.slice none 0 0],true⟩,⟨bH,0,[.int .i64 n1,.slice A6 s2.length c7,.bool b3,.slice A_ k c_,.slice none 0 0],true⟩] [⟨A_,c_,26,5,k,xs⟩] [(1,.p 0 0),(2,.p 1 0),(3,.p 2 0),(16,.v (.slice A8 l4.length c9)),(17,.v (.int .i64 ((l4.length : Nat) : Int))),(18,.v (.int .i64 ((k : Nat) : Int)))] a_ w_) (l4.length) ⟨0,none,0,[],[],by omega,by omega,Trees.nil _ _,de.pk,bJ,Fr.refl _ _ _⟩ ?_
 rintro fx fy fz ⟨k,A_,c_,xs,css,ef,eg,hT,df,aw,dg⟩
 refine qaq [(1,.p 0 0),(2,.p 1 0),(3,.p 2 0),(16,.v (.slice A8 l4.length c9)),(17,.v (.int .i64 ((l4.length : Nat) : Int))),(18,.v (.int .i64 ((k : Nat) : Int))),(19,.v (.bool (decide (((k : Nat) : Int) < ((l4.length : Nat) : Int)))))] aw df fun fA bA=>?_
 refine wp_seq ?_
 refine qax bA (b:=decide (((k : Nat) : Int) < ((l4.length : Nat) : Int))) kz (fun bB=>?_) (fun bB=>?_)
 ·
  have eh:=of_decide_eq_true bB
  refine wp_skip ?_
  refine qab ?_
  refine wp_seq ?_
  refine wp_block ?_
  refine qae [0,1,2,3] kz ?_
  obtain ⟨ei,ej,dh,ek,bf⟩:=Slots.get dx (i:=k) (by omega)
  obtain ⟨em,bC⟩ : ∃ x,l4[k]? = some x:=⟨_,List.getElem?_eq_getElem (by omega)⟩
  have bD:=dU k em bC
  obtain ⟨bK,bL,bM,bN,bO,bP,bQ,bR,bS,bT,bU,eo,rfl,bg,ep,eu,fB,fC⟩:=bD.open_
  rw [bg] at bD
  have dC:=ep.small
  have dD:=eu.small
  rw [bg] at bf
  refine qan (qaC bA (t:=34) (A:=A8) (m:=l4.length) (q:=((k : Nat) : Int)) (d:=20) kz (e:=37) (size:=5) (bytes:=88) kz dh rfl (by omega) fun fD bV=>?_)
  refine qan (qaQ bV (t:=37) (b:=ei) (o:=ej + k * 5) (d:=21) kz (cs:=[.int .i64 bK,.slice bP bL.length bQ,.bool bM,.slice bR bN.length bS,.slice bT bO.length bU]) (v:=.agg #[.int .i64 bK,.slice bP bL.length bQ,.bool bM,.slice bR bN.length bS,.slice bT bO.length bU]) kz (AtF.move bf aw.step nilM qbc).at_ fun ev bW=>?_)
  refine qan (qaO aw bW (d:=5) (cs:=[.int .i64 0,.slice none 0 0,.bool false,.slice none 0 0,.slice none 0 0]) kz fun ew ey ez dE dF ax bX bY=>?_)
  refine qan (qav bX bY (oi:=3) (cs:=[.int .i64 bK,.slice bP bL.length bQ,.bool bM,.slice bR bN.length bS,.slice bT bO.length bU]) kz fun eB ay bZ b8=>?_)
  refine qaf (qab ?_)
  refine qcM 7 kz bZ fun eC az ag cd=>?_
  refine qaI [0,1,2] [(1,.p 0 0),(2,.p 1 0),(3,.p 2 0),(16,.v (.slice A8 l4.length c9)),(17,.v (.int .i64 ((l4.length : Nat) : Int))),(18,.v (.int .i64 ((k : Nat) : Int))),(23,.v (.slice A_ k c_)),(24,.v (.agg #[.int .i64 bK,.slice bP bL.length bQ,.bool bM,.slice bR bN.length bS,.slice bT bO.length bU]))] 5 (qac (qaa (qaa (qac (qaa qag))))) (fun _ h=>h.cells) cd b8 fun eD ce=>?_
  refine qaw (i:=3) kz (qam ce (f:=21) (vs:=[.agg #[.int .i64 bK,.slice bP bL.length bQ,.bool bM,.slice bR bN.length bS,.slice bT bO.length bU]]) (d:=25) kz Tryz.call21 ( hg _ _ _ _ (bD.move ag.step nilM ag.imm) (by have h_:=qhs bC; rw [qgA] at hd; omega)) ?_)
  rintro e_ eE ⟨dG,rfl,cm,aA⟩
  have aB:=cm.move (Step.refl _ Nil) nilM (ag.laid (G:=F) aA)
  obtain ⟨aC,aD,aE,aF,aG,aH,aI,aJ,aK,aL,aM,dH,dI,aN,di,dj,eF,eG⟩:=aB.open_
  rw [aN] at aB
  have dl:=di.small
  have dp:=dj.small
  rw [aN]
  refine ⟨_,rfl,fun eH cq=>?_⟩
  have bh:=ag.next_nil aA
  have ae:=ag.frN aA
  have cr:=TT.ofW ae bh
  refine ⟨fun _=>cr,?_⟩
  refine qaw (i:=4) kz (qbx bh cq (e:=26) (size:=5) (len:=1) (cs:=[.int .i64 aC,.slice aH aD.length aI,.bool aE,.slice aJ aF.length aK,.slice aL aG.length aM]) (d:=26) kz kz fun dq eI eJ dJ dK aa au cu=>?_)
  have cw:=TT.ofW (ae.trans aa) au
  refine ⟨fun _=>cw,?_⟩
  refine qaw (i:=5) kz (qaW au cu (k:=0) (d:=27) (t:=23) (e:=26) (size:=5) (bytes:=88) (A:=A_) (As:=(some ⟨dq,0,none⟩)) (m0:=k) (c:=c_) (m:=1) (cs:=1) (xs:=xs) (news:=[.int .i64 aC,.slice aH aD.length aI,.bool aE,.slice aJ aF.length aK,.slice aL aG.length aM]) kz kz rfl (qbE (au.own 1 _ rfl) (qbD kz)) (qbI (au.own 1 _ rfl)) (by omega) fun aO aP eK eL af bi cz=>?_)
  have bj:=TT.ofW ((ae.trans aa).trans af) bi
  refine ⟨fun _=>bj,?_⟩
  refine qaI [6] [(1,.p 0 0),(2,.p 1 0),(3,.p 2 0),(16,.v (.slice A8 l4.length c9)),(17,.v (.int .i64 ((l4.length : Nat) : Int))),(18,.v (.int .i64 ((k : Nat) : Int))),(27,.v (.slice aO (k + 1) aP)),(28,.p 2 3)] 1 (qac (qaa (qaa (qac (qaa qag))))) (fun _ h=>h.cells) bj cz fun eM cA=>?_
  refine qaw (i:=7) kz (qav bi cA (oi:=2) (cs:=[.int .i64 n1,.slice A6 s2.length c7,.bool b3,.slice aO (k + 1) aP,.slice none 0 0]) kz fun eN ah bk cB=>?_)
  refine ⟨fun h=>absurd rfl h,?_⟩
  refine qaF kz ?_ _
  refine qat ?_
  refine qab ?_
  refine qas [0,1] kz ?_
  refine qal [0,1] [] [(1,.p 0 0),(2,.p 1 0),(3,.p 2 0),(16,.v (.slice A8 l4.length c9)),(17,.v (.int .i64 ((l4.length : Nat) : Int))),(18,.v (.int .i64 (IntKind.i64.wrap (((k : Nat) : Int) + 1))))] bk cB fun eO cC=>?_
  refine qaf (qab ?_)
  obtain ⟨bn,cD,ai⟩:=bk.cutB cC 3 [⟨bF,0,[.int .i64 n1,.slice A6 s2.length c7,.bool b3,.slice A8 l4.length c9,.slice ap u5.length ar],true⟩,⟨bG,0,[.int .i64 0,.slice none 0 0,.bool false,.slice none 0 0,.slice none 0 0],true⟩,⟨bH,0,[.int .i64 n1,.slice A6 s2.length c7,.bool b3,.slice aO (k + 1) aP,.slice none 0 0],true⟩] [(1,.p 0 0),(2,.p 1 0),(3,.p 2 0),(16,.v (.slice A8 l4.length c9)),(17,.v (.int .i64 ((l4.length : Nat) : Int))),(18,.v (.int .i64 (IntKind.i64.wrap (((k : Nat) : Int) + 1))))]
  obtain ⟨cE,aj⟩:=cD.cutR 1 [⟨aO,aP,26,5,k + 1,xs ++ [.int .i64 aC,.slice aH aD.length aI,.bool aE,.slice aJ aF.length aK,.slice aL aG.length aM]⟩]
  have cG : IntKind.i64.wrap (((k : Nat) : Int) + 1) = ((k + 1 : Nat) : Int):=qaR (by omega)
  rw [cG] at bn
  exact ⟨l4.length - (k + 1),by omega,k + 1,aO,aP,xs ++ [Value.int .i64 aC,.slice aH aD.length aI,.bool aE,.slice aJ aF.length aK,.slice aL aG.length aM],(css ++ [[Value.int .i64 aC,.slice aH aD.length aI,.bool aE,.slice aJ aF.length aK,.slice aL aG.length aM]]),rfl,by omega,by rw [qc2 bC]; exact (hT.move ((((((((ax.trans ay).trans az).trans ae).trans aa).trans af).trans ah).trans ai).trans aj).step immM ((((((((ax.trans ay).trans az).trans ae).trans aa).trans af).trans ah).trans ai).trans aj).to').snoc (aB.move ((((aa.trans af).trans ah).trans ai).trans aj).step immM ((((aa.trans af).trans ah).trans ai).trans aj).to'),bn.pk,cE,(((((((((dg.trans ax).trans ay).trans az).trans ae).trans aa).trans af).trans ah).trans ai).trans aj)⟩
 have dL:=of_decide_eq_false bB
 refine wp_exit ?_
 refine qaB ?_
 refine qaB ?_
 refine qaP ?_
 refine qab ?_
 refine wp_seq ?_
 refine qaq [(2,.p 1 0),(3,.p 2 0),(31,.v (.slice ap u5.length ar)),(32,.v (.int .i64 ((u5.length : Nat) : Int))),(33,.v (.int .i64 0))] aw bA fun eP cH=>?_
 refine wp_block ?_
 have hk0 : k = l4.length:=by omega
 have bo:=aw.addNil 66 2
 have bp:=aw.frNil 66 2
 refine wp_loop_ghost (fun n_ a_ w_=>∃ (q : Nat) (A5_ : Option Addr) (c5_ : Nat) (ys : List Value) (dss : List (List Value)),n_ = u5.length - q ∧ q ≤ u5.length ∧ (Tags w_ (Imm F w w_ [⟨bF,0,[.int .i64 n1,.slice A6 s2.length c7,.bool b3,.slice A8 l4.length c9,.slice ap u5.length ar],true⟩,⟨bG,0,[.int .i64 0,.slice none 0 0,.bool false,.slice none 0 0,.slice none 0 0],true⟩,⟨bH,0,[.int .i64 n1,.slice A6 s2.length c7,.bool b3,.slice A_ k c_,.slice A5_ q c5_],true⟩] [⟨A_,c_,26,5,k,xs⟩,⟨A5_,c5_,66,2,q,ys⟩]) ys (u5.take q) dss) ∧ LInv bo 49 [⟨bF,0,[.int .i64 n1,.slice A6 s2.length c7,.bool b3,.slice A8 l4.length c9,.slice ap u5.length ar],true⟩,⟨bG,0,[.int .i64 0,.slice none 0 0,.bool false,.slice none 0 0,.slice none 0 0],true⟩,⟨bH,0,[.int .i64 n1,.slice A6 s2.length c7,.bool b3,.slice A_ k c_,.slice A5_ q c5_],true⟩] [⟨A_,c_,26,5,k,xs⟩,⟨A5_,c5_,66,2,q,ys⟩] [(2,.p 1 0),(3,.p 2 0),(31,.v (.slice ap u5.length ar)),(32,.v (.int .i64 ((u5.length : Nat) : Int))),(33,.v (.int .i64 ((q : Nat) : Int)))] a_ w_) (u5.length) ⟨0,none,0,[],[],by omega,by omega,Tags.nil _ _,cH.pk,bo,Fr.refl _ _ _⟩ ?_
 rintro eQ eR eS ⟨q,A5_,c5_,ys,dss,dM,dN,hU,cI,ak,aQ⟩
 refine qaq [(2,.p 1 0),(3,.p 2 0),(31,.v (.slice ap u5.length ar)),(32,.v (.int .i64 ((u5.length : Nat) : Int))),(33,.v (.int .i64 ((q : Nat) : Int))),(34,.v (.bool (decide (((q : Nat) : Int) < ((u5.length : Nat) : Int)))))] ak cI fun eU aR=>?_
 refine wp_seq ?_
 refine qax aR (b:=decide (((q : Nat) : Int) < ((u5.length : Nat) : Int))) kz (fun aS=>?_) (fun aS=>?_)
 ·
  have dO:=of_decide_eq_true aS
  refine wp_skip ?_
  refine qab ?_
  refine wp_seq ?_
  refine wp_block ?_
  refine qae [0,1,2,3] kz ?_
  obtain ⟨dr,dt,cJ,dP,aT⟩:=Slots.get dA (i:=q) (by omega)
  obtain ⟨⟨ab,ac⟩,bq⟩ : ∃ x,u5[q]? = some x:=⟨_,List.getElem?_eq_getElem (by omega)⟩
  obtain ⟨⟨al,am,bE,cK⟩,du,dv⟩:=dX q ab ac bq
  rw [bE] at aT
  refine qan (qaC aR (t:=35) (A:=ap) (m:=u5.length) (q:=((q : Nat) : Int)) (d:=35) kz (e:=69) (size:=2) (bytes:=32) kz cJ rfl (by omega) fun eV cL=>?_)
  refine qan (qaQ cL (t:=69) (b:=dr) (o:=dt + q * 2) (d:=36) kz (cs:=[.int .u32 ab,.slice al ac.length am]) (v:=.agg #[.int .u32 ab,.slice al ac.length am]) kz (AtF.move aT ak.step nilM qbc).at_ fun eW cM=>?_)
  refine qan (qaO ak cM (d:=7) (cs:=[.int .u32 0,.slice none 0 0]) kz fun eX eY eZ dQ dR aU cN cO=>?_)
  refine qan (qav cN cO (oi:=3) (cs:=[.int .u32 ab,.slice al ac.length am]) kz fun e9 aV bt cP=>?_)
  refine qaf (qab ?_)
  refine qas [0,1,2,3,4,5,6,7,8,9,10] kz ?_
  refine qal [0,1,2,3,4,5,6] [7,8,9,10] [(2,.p 1 0),(3,.p 2 0),(31,.v (.slice ap u5.length ar)),(32,.v (.int .i64 ((u5.length : Nat) : Int))),(33,.v (.int .i64 ((q : Nat) : Int))),(38,.v (.slice A5_ q c5_)),(43,.v (.agg #[.int .u32 ab,.slice al ac.length am]))] bt cP fun fa cQ=>?_
  refine qcy bt cQ (k:=1) (e:=66) (size:=2) (len:=1) (cs:=[.int .u32 ab,.slice al ac.length am]) (d1:=44) (d:=45) kz (t:=24) (bytes:=32) kz (fun _=>by kernel_rfl) rfl kz (by omega) fun ba bd fb fe aW bu ⟨_,cR⟩=>?_
  refine qal [9] [10] [(2,.p 1 0),(3,.p 2 0),(31,.v (.slice ap u5.length ar)),(32,.v (.int .i64 ((u5.length : Nat) : Int))),(33,.v (.int .i64 ((q : Nat) : Int))),(45,.v (.slice ba (q + 1) bd)),(46,.p 2 4)] bu cR fun ff cS=>?_
  refine qan (qav bu cS (oi:=2) (cs:=[.int .i64 n1,.slice A6 s2.length c7,.bool b3,.slice A_ k c_,.slice ba (q + 1) bd]) kz fun fg aX bw cT=>?_)
  refine qaf ?_
  refine qat ?_
  refine qab ?_
  refine qas [0,1] kz ?_
  refine qal [0,1] [] [(2,.p 1 0),(3,.p 2 0),(31,.v (.slice ap u5.length ar)),(32,.v (.int .i64 ((u5.length : Nat) : Int))),(33,.v (.int .i64 (IntKind.i64.wrap (((q : Nat) : Int) + 1))))] bw cT fun fh cU=>?_
  refine qaf (qab ?_)
  obtain ⟨bx,aY,aZ⟩:=bw.cutB cU 3 [⟨bF,0,[.int .i64 n1,.slice A6 s2.length c7,.bool b3,.slice A8 l4.length c9,.slice ap u5.length ar],true⟩,⟨bG,0,[.int .i64 0,.slice none 0 0,.bool false,.slice none 0 0,.slice none 0 0],true⟩,⟨bH,0,[.int .i64 n1,.slice A6 s2.length c7,.bool b3,.slice A_ k c_,.slice ba (q + 1) bd],true⟩] [(2,.p 1 0),(3,.p 2 0),(31,.v (.slice ap u5.length ar)),(32,.v (.int .i64 ((u5.length : Nat) : Int))),(33,.v (.int .i64 (IntKind.i64.wrap (((q : Nat) : Int) + 1))))]
  have cV : IntKind.i64.wrap (((q : Nat) : Int) + 1) = ((q + 1 : Nat) : Int):=qaR (by omega)
  rw [cV] at bx
  exact ⟨u5.length - (q + 1),by omega,q + 1,ba,bd,ys ++ [Value.int .u32 ab,.slice al ac.length am],(dss ++ [[Value.int .u32 ab,.slice al ac.length am]]),rfl,by omega,by rw [qc2 bq]; exact (hU.move ((((aU.trans aV).trans aW).trans aX).trans aZ).step immM ((((aU.trans aV).trans aW).trans aX).trans aZ).to').snoc (c:=[.int .u32 ab,.slice al ac.length am]) (x:=(ab,ac)) ⟨⟨_,_,rfl,(cK.move aY.step nilM aY.imm)⟩,du,dv⟩,bx.pk,aY,(((((aQ.trans aU).trans aV).trans aW).trans aX).trans aZ)⟩
 have dS:=of_decide_eq_false aS
 refine wp_exit ?_
 refine qaB ?_
 refine qaB ?_
 refine qaP ?_
 refine qab ?_
 refine qae [0,1] kz ?_
 refine qal [0] [1] [(2,.p 1 0),(48,.v (.agg #[.int .i64 n1,.slice A6 s2.length c7,.bool b3,.slice A_ k c_,.slice A5_ q c5_]))] ak aR fun fi cW=>?_
 refine qan (qav ak cW (oi:=1) (cs:=[.int .i64 n1,.slice A6 s2.length c7,.bool b3,.slice A_ k c_,.slice A5_ q c5_]) kz fun fj av ao cX=>?_)
 refine qaf (qab ?_)
 refine wp_ret ?_
 refine qaK cX ao.cells (v:=.agg #[.int .i64 n1,.slice A6 s2.length c7,.bool b3,.slice A_ k c_,.slice A5_ q c5_]) kz ?_
 have hq0 : q = u5.length:=by omega
 have hT':=(hT.move ((bp.trans aQ).trans av).step immM ((bp.trans aQ).trans av).to')
 have hU':=(hU.move av.step immM av.to')
 rw [show l4.take k = l4 by rw [hk0,List.take_length]] at hT'
 rw [show u5.take q = u5 by rw [hq0,List.take_length]] at hU'
 exact qj0 ao rfl (dw.move ao.step nilM qkS) hk0 (qhu ao (k:=0) rfl hT' hk0 (by omega)) hq0 (qkR ao (k:=1) rfl hU' hq0 (by omega)) rfl
theorem lGot : ∀ m,qlJ m
 | 0=>fun ct t w F ht hd=>by
  obtain ⟨n,s,b,l,u,A1,c1,A2,c2,A3,c3,xs,rfl,_⟩:=ht.open_
  rw [qgA] at hd; omega
 | m + 1=>qjy (lGot m)
theorem qhk {u : List (Int × Bs)} {A : Option Addr} {c : Nat} {w : World} {F : Nat → Nat → Prop} (hu : TagsR w F A c u) (hsrt : qdf u) : Calls Tryz.prog 124 #[.slice A u.length c] w (qcj w (.tuple #[])):=by
 obtain ⟨cs1,h2,h3⟩:=hu.ex
 have hsm4:=h2.small
 refine enter (n:=45) Tryz.func124 rfl Tryz.ntmps124 kz fun a hE=>?_
 have hW:=WOk.start w Nil
 refine qaq [(0,.v (.slice A u.length c)),(5,.v (.int .i64 ((u.length : Nat) : Int))),(6,.v (.int .i64 0))] hW hE fun a5 hE6=>?_
 refine wp_block ?_
 refine wp_loop_ghost (fun n_ a_ w_=>∃ (k : Nat),n_ = u.length - k ∧ k ≤ u.length ∧ LInv hW 45 [] [] [(0,.v (.slice A u.length c)),(5,.v (.int .i64 ((u.length : Nat) : Int))),(6,.v (.int .i64 ((k : Nat) : Int)))] a_ w_) (u.length) ⟨0,by omega,by omega,hE6.pk,hW,Fr.refl _ _ _⟩ ?_
 rintro n7 a8 w9 ⟨k,aW,aX,aB,ab,aj⟩
 refine qaq [(0,.v (.slice A u.length c)),(5,.v (.int .i64 ((u.length : Nat) : Int))),(6,.v (.int .i64 ((k : Nat) : Int))),(7,.v (.bool (decide (((k : Nat) : Int) < ((u.length : Nat) : Int)))))] ab aB fun bn ah=>?_
 refine wp_seq ?_
 refine qax ah (b:=decide (((k : Nat) : Int) < ((u.length : Nat) : Int))) kz (fun ai=>?_) (fun ai=>?_)
 ·
  have aY:=of_decide_eq_true ai
  refine wp_skip ?_
  refine qab ?_
  refine wp_seq ?_
  refine wp_block ?_
  refine qaq [(0,.v (.slice A u.length c)),(2,.v (.int .i64 ((k : Nat) : Int))),(5,.v (.int .i64 ((u.length : Nat) : Int))),(6,.v (.int .i64 ((k : Nat) : Int)))] ab ah fun bo aC=>?_
  refine qaq [(0,.v (.slice A u.length c)),(3,.v (.int .i64 ((k : Nat) : Int))),(5,.v (.int .i64 ((u.length : Nat) : Int))),(6,.v (.int .i64 ((k : Nat) : Int)))] ab aC fun bp aD=>?_
  refine wp_block ?_
  refine qf9 ?_
  refine wp_seq ?_
  refine qb2 kz ab fun bq ak aa=>?_
  refine qaI [0,1,2] [(0,.v (.slice A u.length c)),(3,.v (.int .i64 ((k : Nat) : Int))),(5,.v (.int .i64 ((u.length : Nat) : Int))),(6,.v (.int .i64 ((k : Nat) : Int))),(12,.v (.bool (decide (((k : Nat) : Int) > 0))))] 13 (qaa (qaa (qaa (qac (qac (qaa (qaa (qac qag)))))))) (fun _ h=>h ▸ aa.cells) rfl aD fun bt al=>?_
  refine (Bool.eq_false_or_eq_true (decide (((k : Nat) : Int) > 0))).elim (fun ac=>?_) (fun ac=>?_)
  ·
   have aZ:=of_decide_eq_true ac
   have aE:=al.cast (env':=[(0,.v (.slice A u.length c)),(3,.v (.int .i64 ((k : Nat) : Int))),(5,.v (.int .i64 ((u.length : Nat) : Int))),(6,.v (.int .i64 ((k : Nat) : Int))),(12,.v (.bool true))]) (by rw [ac])
   refine qaI [3,4,8,9,10] [(0,.v (.slice A u.length c)),(3,.v (.int .i64 ((k : Nat) : Int))),(5,.v (.int .i64 ((u.length : Nat) : Int))),(6,.v (.int .i64 ((k : Nat) : Int))),(12,.v (.bool true)),(13,.v (.slice A u.length c)),(14,.v (.int .i64 ((k : Nat) : Int))),(18,.v (.slice A u.length c)),(20,.v (.int .i64 (IntKind.i64.wrap (((k : Nat) : Int) - 1))))] 8 (qaa (qaa (qaa (qac (qac (qaa (qaa (qac qag)))))))) (fun _ h=>h ▸ aa.cells) rfl aE fun bu aF=>?_
   obtain ⟨az,aA,aG,ba,ae⟩:=Slots.get h2 (i:=k) (by omega)
   obtain ⟨⟨af,bd⟩,am⟩ : ∃ x,u[k]? = some x:=⟨_,List.getElem?_eq_getElem (by omega)⟩
   obtain ⟨⟨bw,bx,ao,bf⟩,bz,bA⟩:=h3 k af bd am
   rw [ao] at ae
   refine qaV aF (i:=5) (t:=35) (A:=A) (m:=u.length) (q:=((k : Nat) : Int)) (d:=15) kz (e:=69) (size:=2) (bytes:=32) kz aG rfl (by omega) kz kz (qaa (qaa (qaa (qac (qac (qaa (qaa (qac qag)))))))) rfl fun bB aH=>?_
   refine qaI [6] [(0,.v (.slice A u.length c)),(3,.v (.int .i64 ((k : Nat) : Int))),(5,.v (.int .i64 ((u.length : Nat) : Int))),(6,.v (.int .i64 ((k : Nat) : Int))),(12,.v (.bool true)),(16,.v (.pointer (some ⟨az,aA + k * 2,none⟩))),(18,.v (.slice A u.length c)),(20,.v (.int .i64 (IntKind.i64.wrap (((k : Nat) : Int) - 1))))] 6 (qaa (qaa (qaa (qac (qac (qaa (qaa (qac qag)))))))) (fun _ h=>h ▸ aa.cells) rfl aH fun bC aI=>?_
   refine qbb aI (i:=7) (t:=64) (b:=az) (o:=aA + k * 2) (d:=17) kz (cs:=[.int .u32 af]) (v:=.int .u32 af) kz (fun w' h'=>h' ▸ (At.drop (AtF.move ae aa.step nilM qbc).at_ 0 1)) kz kz (qaa (qaa (qaa (qac (qac (qaa (qaa (qac qag)))))))) rfl fun bD aJ=>?_
   have aK : IntKind.i64.wrap (((k : Nat) : Int) - 1) = (((k - 1) : Nat) : Int):=by simp only [qcN,qaz,qbB,IntKind.wrap_i64,IntKind.wrap_i32]; omega
   have aL:=EnvOk.pick aJ (ks:=[0,3,5,6,12,16,18,20,17]) (env':=[(0,.v (.slice A u.length c)),(3,.v (.int .i64 ((k : Nat) : Int))),(5,.v (.int .i64 ((u.length : Nat) : Int))),(6,.v (.int .i64 ((k : Nat) : Int))),(12,.v (.bool true)),(16,.v (.pointer (some ⟨az,aA + k * 2,none⟩))),(18,.v (.slice A u.length c)),(20,.v (.int .i64 (IntKind.i64.wrap (((k : Nat) : Int) - 1)))),(17,.v (.int .u32 af))]) kz
   have aM:=aL.cast (env':=[(0,.v (.slice A u.length c)),(3,.v (.int .i64 ((k : Nat) : Int))),(5,.v (.int .i64 ((u.length : Nat) : Int))),(6,.v (.int .i64 ((k : Nat) : Int))),(12,.v (.bool true)),(16,.v (.pointer (some ⟨az,aA + k * 2,none⟩))),(18,.v (.slice A u.length c)),(20,.v (.int .i64 (((k - 1) : Nat) : Int))),(17,.v (.int .u32 af))]) (by rw [aK])
   obtain ⟨aU,aV,aN,bg,ag⟩:=Slots.get h2 (i:=(k - 1)) (by omega)
   obtain ⟨⟨ap,bh⟩,ar⟩ : ∃ x,u[(k - 1)]? = some x:=⟨_,List.getElem?_eq_getElem (by omega)⟩
   obtain ⟨⟨bE,bF,au,bi⟩,bG,bH⟩:=h3 (k - 1) ap bh ar
   rw [au] at ag
   refine qaV aM (i:=11) (t:=35) (A:=A) (m:=u.length) (q:=(((k - 1) : Nat) : Int)) (d:=21) kz (e:=69) (size:=2) (bytes:=32) kz aN rfl (by omega) kz kz (qaa (qaa (qaa (qac (qac (qaa (qaa (qac qag)))))))) rfl fun bI aO=>?_
   refine qaI [12] [(0,.v (.slice A u.length c)),(3,.v (.int .i64 ((k : Nat) : Int))),(5,.v (.int .i64 ((u.length : Nat) : Int))),(6,.v (.int .i64 ((k : Nat) : Int))),(12,.v (.bool true)),(17,.v (.int .u32 af)),(22,.v (.pointer (some ⟨aU,aV + (k - 1) * 2,none⟩)))] 3 (qaa (qaa (qaa (qac (qac (qaa (qaa (qac qag)))))))) (fun _ h=>h ▸ aa.cells) rfl aO fun bJ aP=>?_
   refine qbb aP (i:=13) (t:=64) (b:=aU) (o:=aV + (k - 1) * 2) (d:=23) kz (cs:=[.int .u32 ap]) (v:=.int .u32 ap) kz (fun w' h'=>h' ▸ (At.drop (AtF.move ag aa.step nilM qbc).at_ 0 1)) kz kz (qaa (qaa (qaa (qac (qac (qaa (qaa (qac qag)))))))) rfl fun bK aQ=>?_
   refine qaI [14,15] [(0,.v (.slice A u.length c)),(3,.v (.int .i64 ((k : Nat) : Int))),(5,.v (.int .i64 ((u.length : Nat) : Int))),(6,.v (.int .i64 ((k : Nat) : Int))),(25,.v (.bool (decide (af < ap))))] 0 (qaa (qaa (qaa (qac (qac (qaa (qaa (qac qag)))))))) (fun _ h=>h ▸ aa.cells) rfl aQ fun bL av=>?_
   refine qaF kz ?_ _
   refine qab ?_
   refine qar av (b:=decide (af < ap)) kz (decide_eq_false (qin hsrt am ar (by omega))) ?_
   refine wp_exit ?_
   refine qaB ?_
   refine qaB ?_
   refine qaP ?_
   refine qat ?_
   refine qab ?_
   refine qas [0,1] kz ?_
   refine qal [0,1] [] [(0,.v (.slice A u.length c)),(5,.v (.int .i64 ((u.length : Nat) : Int))),(6,.v (.int .i64 (IntKind.i64.wrap (((k : Nat) : Int) + 1))))] aa av fun bM aw=>?_
   refine qaf (qab ?_)
   have aR : IntKind.i64.wrap (((k : Nat) : Int) + 1) = ((k + 1 : Nat) : Int):=qaR (by omega)
   rw [aR] at aw
   exact ⟨u.length - (k + 1),by omega,k + 1,rfl,by omega,aw.pk,aa,(aj.trans ak)⟩
  have bj:=of_decide_eq_false ac
  have aS:=al.cast (env':=[(0,.v (.slice A u.length c)),(3,.v (.int .i64 ((k : Nat) : Int))),(5,.v (.int .i64 ((u.length : Nat) : Int))),(6,.v (.int .i64 ((k : Nat) : Int))),(12,.v (.bool false))]) (by rw [ac])
  refine qaI [3,4,5,6,7,8,9,10,11,12,13,14,15] [(0,.v (.slice A u.length c)),(3,.v (.int .i64 ((k : Nat) : Int))),(5,.v (.int .i64 ((u.length : Nat) : Int))),(6,.v (.int .i64 ((k : Nat) : Int))),(25,.v (.bool false))] 0 (qaa (qaa (qaa (qac (qac (qaa (qaa (qac qag)))))))) (fun _ h=>h ▸ aa.cells) rfl aS fun bN ax=>?_
  refine qaF kz ?_ _
  refine qab ?_
  refine qar ax (b:=false) kz rfl ?_
  refine wp_exit ?_
  refine qaB ?_
  refine qaB ?_
  refine qaP ?_
  refine qat ?_
  refine qab ?_
  refine qas [0,1] kz ?_
  refine qal [0,1] [] [(0,.v (.slice A u.length c)),(5,.v (.int .i64 ((u.length : Nat) : Int))),(6,.v (.int .i64 (IntKind.i64.wrap (((k : Nat) : Int) + 1))))] aa ax fun bO ay=>?_
  refine qaf (qab ?_)
  have aT : IntKind.i64.wrap (((k : Nat) : Int) + 1) = ((k + 1 : Nat) : Int):=qaR (by omega)
  rw [aT] at ay
  exact ⟨u.length - (k + 1),by omega,k + 1,rfl,by omega,ay.pk,aa,(aj.trans ak)⟩
 have bk:=of_decide_eq_false ai
 refine wp_exit ?_
 refine qaB ?_
 refine qaB ?_
 refine qaP ?_
 refine qbO ah ab.cells (v:=.tuple #[]) kz ?_
 exact ⟨rfl,ab.step⟩
theorem qlK (s : ByteArray) (w : World) (F : Nat → Nat → Prop) : Calls Tryz.prog 139 #[.pointer none] w (qdZ w F (.mk 0 [] true [] [])):=by
 refine enter (n:=11) Tryz.func139 rfl Tryz.ntmps139 kz fun a hE=>?_
 have hW:=WOk.start w Nil
 refine qae [0] kz ?_
 refine qan (qaO hW hE (d:=2) (cs:=[.int .i64 0,.slice none 0 0,.bool false,.slice none 0 0,.slice none 0 0]) kz fun b1 a2 w3 hb4 hz5 hF6 hW7 hE8=>?_)
 refine qaf (qab ?_)
 refine wp_seq ?_
 refine qaq [(0,.v (.pointer none)),(2,.p 0 0),(4,.v (.bool true))] hW7 hE8 fun a9 aa=>?_
 refine qa8 aa (b:=true) kz rfl ?_
 refine qae [0,1] kz ?_
 refine qal [0] [1] [(2,.p 0 0),(5,.v (.agg #[.int .i64 0,.slice none 0 0,.bool true,.slice none 0 0,.slice none 0 0]))] hW7 aa fun ah ac=>?_
 refine qan (qav hW7 ac (oi:=0) (cs:=[.int .i64 0,.slice none 0 0,.bool true,.slice none 0 0,.slice none 0 0]) kz fun af ag ab ae=>?_)
 refine qaf (qab ?_)
 refine wp_ret ?_
 refine qap ?_
 refine qaK ae ab.cells (v:=.agg #[.int .i64 0,.slice none 0 0,.bool true,.slice none 0 0,.slice none 0 0]) kz ?_
 exact ⟨_,rfl,(show TreeR _ (Imm F w af [⟨b1,0,[.int .i64 0,.slice none 0 0,.bool true,.slice none 0 0,.slice none 0 0],true⟩] []) _ (Tree.mk 0 [] true [] []) from (TreeR.mk (n:=0) (b:=true) (s:=[]) (l:=[]) (u:=[]) (fun _=>[]) (Octs.nil _ _) (Slots.nil _ _ _ _) (fun i_ x_ h_=>by simp at h_) (TagsR.nil _ _))).move (Step.refl _ Nil) nilM qca,ab.step⟩
theorem qlL (b o : Nat) (s : ByteArray) (w : World) (F : Nat → Nat → Prop) (hat : AtF w F b o [.string s]) (hs : s.size ≤ 1000000) : Calls Tryz.prog 139 #[.pointer (some ⟨b,o,none⟩)] w (qdZ w F (.mk 0 (sb s) false [] [])):=by
 refine enter (n:=11) Tryz.func139 rfl Tryz.ntmps139 kz fun a hE=>?_
 have hW:=WOk.start w Nil
 refine qae [0] kz ?_
 refine qan (qaO hW hE (d:=2) (cs:=[.int .i64 0,.slice none 0 0,.bool false,.slice none 0 0,.slice none 0 0]) kz fun b1 a2 w3 hb4 hz5 hF6 hW7 hE8=>?_)
 refine qaf (qab ?_)
 refine wp_seq ?_
 refine qaq [(0,.v (.pointer (some ⟨b,o,none⟩))),(2,.p 0 0),(4,.v (.bool false))] hW7 hE8 fun a9 aa=>?_
 refine qar aa (b:=false) kz rfl ?_
 refine wp_skip ?_
 refine qab ?_
 refine qae [0,1,2,3,4,5] kz ?_
 refine qal [0,1] [2,3,4,5] [(2,.p 0 0),(7,.v (.pointer (some ⟨b,o,none⟩)))] hW7 aa fun au ah=>?_
 refine qan (qaQ ah (t:=9) (b:=b) (o:=o) (d:=8) kz (cs:=[.string s]) (v:=.string s) kz (AtF.move hat hW7.step nilM qbc).at_ fun av ai=>?_)
 refine qan (qil (d:=9) (src:=9) (dst:=22) (e:=5) (s:=s) hW7 ai (by omega) fun af ag aw ax ap ab aj ak=>?_)
 have al:=aj F
 refine qal [4] [5] [(2,.p 0 0),(10,.v (.agg #[.int .i64 0,.slice (some ⟨af,0,none⟩) ((sb s).length) ag,.bool false,.slice none 0 0,.slice none 0 0]))] ab ak fun ay am=>?_
 refine qan (qav ab am (oi:=0) (cs:=[.int .i64 0,.slice (some ⟨af,0,none⟩) ((sb s).length) ag,.bool false,.slice none 0 0,.slice none 0 0]) kz fun ar ac ae ao=>?_)
 refine qaf (qab ?_)
 refine wp_ret ?_
 refine qaK ao ae.cells (v:=.agg #[.int .i64 0,.slice (some ⟨af,0,none⟩) ((sb s).length) ag,.bool false,.slice none 0 0,.slice none 0 0]) kz ?_
 exact ⟨_,rfl,(show TreeR _ (Imm F w ar [⟨b1,0,[.int .i64 0,.slice (some ⟨af,0,none⟩) ((sb s).length) ag,.bool false,.slice none 0 0,.slice none 0 0],true⟩] []) _ (Tree.mk 0 (sb s) false [] []) from (TreeR.mk (n:=0) (b:=false) (s:=(sb s)) (l:=[]) (u:=[]) (fun _=>[]) (al.move ac.step immM ac.to') (Slots.nil _ _ _ _) (fun i_ x_ h_=>by simp at h_) (TagsR.nil _ _))).move (Step.refl _ Nil) nilM qca,ae.step⟩
theorem ql2 (A : Option Addr) (s : ByteArray) (w : World) (F : Nat → Nat → Prop) (hO : ∀ ad,A = some ad → ∃ b o,ad = ⟨b,o,none⟩ ∧ AtF w F b o [.string s]) (hs : s.size ≤ 1000000) : Calls Tryz.prog 139 #[.pointer A] w (qdZ w F (qim A s)):=by
 cases A with
 | none=>exact qlK s w F
 | some ad =>
  obtain ⟨b,o,rfl,h⟩:=hO ad rfl
  exact qlL b o s w F h hs
theorem qeI : qfo Tryz.prog 153 69:=by
 intro w B cp c n k A Av x x0 x1 x2 x3 xs G hbx ho hG hn
 refine enter (n:=14) Tryz.func153 rfl Tryz.ntmps153 kz fun a hE=>?_
 have hW:=hbx.wok
 have hE0:=(hE.grow ⟨B,0,[x0,x1,x2,x3,.slice A n cp],true⟩).recast 2 (.v (.pointer (some ⟨B,0,none⟩))) (.p 0 0) rfl rfl (by simp [SV.ok])
 have hsm:=Slots.small ho
 have ap:=hE0.pk (env':=[(0,.v (.int .u32 k)),(1,.v (.slice Av x.length c)),(2,.p 0 0)])
 refine qcM 9 kz hW fun w1 hF2 hW3 hT4=>?_
 refine qaI [0,1,2,3] [(2,.p 0 0),(6,.v (.slice A n cp)),(7,.v (.int .u32 k)),(8,.v (.slice Av x.length c))] 6 qag (fun _ h=>h.cells) hT4 ap fun a5 hE6=>?_
 have hW7:=hW3.addNil 5 1
 have hF8:=hW3.frNil 5 1
 refine qaw (i:=4) kz (qaW hW7 hE6 (k:=1) (d:=9) (t:=22) (e:=5) (size:=1) (bytes:=1) (A:=none) (As:=Av) (m0:=0) (c:=0) (m:=x.length) (cs:=c) (xs:=[]) (news:=bc x) kz kz rfl (ho.move hW7.step (fun b o h _=>hG b o h) qbc).src (ho.move hW7.step (fun b o h _=>hG b o h) qbc).cap (by first | omega | (simp only [List.length_nil]; omega) | (simp; omega)) fun A9 aa aK aL ac ar au=>?_)
 have av : (⟨A9,aa,5,1,0 + x.length,[] ++ bc x⟩ : Rw) = brow A9 aa 5 x:=by rw [List.nil_append,Nat.zero_add]
 obtain ⟨af,ae⟩:=ar.rowEq 1 [⟨A,cp,69,2,n,xs⟩,brow A9 aa 5 x] av
 have aw:=EnvOk.pick au (ks:=[2,6,7,8,9]) (env':=[(2,.p 0 0),(6,.v (.slice A n cp)),(7,.v (.int .u32 k)),(8,.v (.slice Av x.length c)),(9,.v (.slice A9 (0 + x.length) aa))]) kz
 have ax:=aw.cast (env':=[(2,.p 0 0),(6,.v (.slice A n cp)),(7,.v (.int .u32 k)),(8,.v (.slice Av x.length c)),(9,.v (.slice A9 x.length aa))]) (by simp only [List.length_append,List.length_cons,List.length_nil,Nat.zero_add])
 have ag:=TT.ofW ((hF8.trans ac).trans ae) af
 refine ⟨fun _=>ag,?_⟩
 refine qaI [5] [(2,.p 0 0),(6,.v (.slice A n cp)),(10,.v (.agg #[.int .u32 k,.slice A9 x.length aa]))] 4 qag (fun _ h=>h.cells) ag ax fun aM ay=>?_
 refine qaw (i:=6) kz (qbx af ay (e:=69) (size:=2) (len:=1) (cs:=[.int .u32 k,.slice A9 x.length aa]) (d:=11) kz kz fun aF aN aO aG aH ah ab az=>?_)
 have aA:=TT.ofW (((hF8.trans ac).trans ae).trans ah) ab
 refine ⟨fun _=>aA,?_⟩
 refine qaw (i:=7) kz (qaW ab az (k:=0) (d:=12) (t:=35) (e:=69) (size:=2) (bytes:=32) (A:=A) (As:=(some ⟨aF,0,none⟩)) (m0:=n) (c:=cp) (m:=1) (cs:=1) (xs:=xs) (news:=[.int .u32 k,.slice A9 x.length aa]) kz kz rfl (qbE (ab.own 2 _ rfl) (qbD kz)) (qbI (ab.own 2 _ rfl)) (by first | omega | (simp only [List.length_nil]; omega) | (simp; omega)) fun am ao aP aQ aB ai aC=>?_)
 have aj:=TT.ofW ((((hF8.trans ac).trans ae).trans ah).trans aB) ai
 refine ⟨fun _=>aj,?_⟩
 refine qaI [8] [(12,.v (.slice am (n + 1) ao)),(13,.p 0 4)] 1 qag (fun _ h=>h.cells) aj aC fun aR aD=>?_
 refine qaw (i:=9) kz (qav ai aD (oi:=0) (cs:=[x0,x1,x2,x3,.slice am (n + 1) ao]) kz fun aS aI ak aE=>?_)
 refine ⟨fun h=>absurd rfl h,?_⟩
 refine qaF kz ?_ _
 refine qbO aE ak.cells (v:=.tuple #[]) kz ?_
 obtain ⟨al,aJ⟩:=ak.cutR 2 [⟨am,ao,69,2,n + 1,xs ++ [.int .u32 k,.slice A9 x.length aa]⟩,brow A9 aa 5 x]
 have hoo:=qet (s:=x) (Av:=A9) (c:=aa) (e8:=5) rfl al (by omega)
 obtain ⟨hb1,hb2,hb3⟩:=qga al (World.lt_of_cell (hbx.str.at_ 0 _ rfl))
 exact ⟨rfl,am,ao,A9,aa,hb1,hoo,hb2,hb3⟩
theorem qcv : qfo Tryz.prog 158 69:=by
 intro w B cp c n k A Av x x0 x1 x2 x3 xs G hbx ho hG hn
 refine enter (n:=14) Tryz.func158 rfl Tryz.ntmps158 kz fun a hE=>?_
 have hW:=hbx.wok
 have hE0:=(hE.grow ⟨B,0,[x0,x1,x2,x3,.slice A n cp],true⟩).recast 2 (.v (.pointer (some ⟨B,0,none⟩))) (.p 0 0) rfl rfl (by simp [SV.ok])
 have hsm:=Slots.small ho
 have ap:=hE0.pk (env':=[(0,.v (.int .u32 k)),(1,.v (.slice Av x.length c)),(2,.p 0 0)])
 refine qcM 9 kz hW fun w1 hF2 hW3 hT4=>?_
 refine qaI [0,1,2,3] [(2,.p 0 0),(6,.v (.slice A n cp)),(7,.v (.int .u32 k)),(8,.v (.slice Av x.length c))] 6 qag (fun _ h=>h.cells) hT4 ap fun a5 hE6=>?_
 have hW7:=hW3.addNil 5 1
 have hF8:=hW3.frNil 5 1
 refine qaw (i:=4) kz (qaW hW7 hE6 (k:=1) (d:=9) (t:=22) (e:=5) (size:=1) (bytes:=1) (A:=none) (As:=Av) (m0:=0) (c:=0) (m:=x.length) (cs:=c) (xs:=[]) (news:=bc x) kz kz rfl (ho.move hW7.step (fun b o h _=>hG b o h) qbc).src (ho.move hW7.step (fun b o h _=>hG b o h) qbc).cap (by first | omega | (simp only [List.length_nil]; omega) | (simp; omega)) fun A9 aa aK aL ac ar au=>?_)
 have av : (⟨A9,aa,5,1,0 + x.length,[] ++ bc x⟩ : Rw) = brow A9 aa 5 x:=by rw [List.nil_append,Nat.zero_add]
 obtain ⟨af,ae⟩:=ar.rowEq 1 [⟨A,cp,69,2,n,xs⟩,brow A9 aa 5 x] av
 have aw:=EnvOk.pick au (ks:=[2,6,7,8,9]) (env':=[(2,.p 0 0),(6,.v (.slice A n cp)),(7,.v (.int .u32 k)),(8,.v (.slice Av x.length c)),(9,.v (.slice A9 (0 + x.length) aa))]) kz
 have ax:=aw.cast (env':=[(2,.p 0 0),(6,.v (.slice A n cp)),(7,.v (.int .u32 k)),(8,.v (.slice Av x.length c)),(9,.v (.slice A9 x.length aa))]) (by simp only [List.length_append,List.length_cons,List.length_nil,Nat.zero_add])
 have ag:=TT.ofW ((hF8.trans ac).trans ae) af
 refine ⟨fun _=>ag,?_⟩
 refine qaI [5] [(2,.p 0 0),(6,.v (.slice A n cp)),(10,.v (.agg #[.int .u32 k,.slice A9 x.length aa]))] 4 qag (fun _ h=>h.cells) ag ax fun aM ay=>?_
 refine qaw (i:=6) kz (qbx af ay (e:=69) (size:=2) (len:=1) (cs:=[.int .u32 k,.slice A9 x.length aa]) (d:=11) kz kz fun aF aN aO aG aH ah ab az=>?_)
 have aA:=TT.ofW (((hF8.trans ac).trans ae).trans ah) ab
 refine ⟨fun _=>aA,?_⟩
 refine qaw (i:=7) kz (qaW ab az (k:=0) (d:=12) (t:=35) (e:=69) (size:=2) (bytes:=32) (A:=A) (As:=(some ⟨aF,0,none⟩)) (m0:=n) (c:=cp) (m:=1) (cs:=1) (xs:=xs) (news:=[.int .u32 k,.slice A9 x.length aa]) kz kz rfl (qbE (ab.own 2 _ rfl) (qbD kz)) (qbI (ab.own 2 _ rfl)) (by first | omega | (simp only [List.length_nil]; omega) | (simp; omega)) fun am ao aP aQ aB ai aC=>?_)
 have aj:=TT.ofW ((((hF8.trans ac).trans ae).trans ah).trans aB) ai
 refine ⟨fun _=>aj,?_⟩
 refine qaI [8] [(12,.v (.slice am (n + 1) ao)),(13,.p 0 4)] 1 qag (fun _ h=>h.cells) aj aC fun aR aD=>?_
 refine qaw (i:=9) kz (qav ai aD (oi:=0) (cs:=[x0,x1,x2,x3,.slice am (n + 1) ao]) kz fun aS aI ak aE=>?_)
 refine ⟨fun h=>absurd rfl h,?_⟩
 refine qaF kz ?_ _
 refine qbO aE ak.cells (v:=.tuple #[]) kz ?_
 obtain ⟨al,aJ⟩:=ak.cutR 2 [⟨am,ao,69,2,n + 1,xs ++ [.int .u32 k,.slice A9 x.length aa]⟩,brow A9 aa 5 x]
 have hoo:=qet (s:=x) (Av:=A9) (c:=aa) (e8:=5) rfl al (by omega)
 obtain ⟨hb1,hb2,hb3⟩:=qga al (World.lt_of_cell (hbx.str.at_ 0 _ rfl))
 exact ⟨rfl,am,ao,A9,aa,hb1,hoo,hb2,hb3⟩
theorem qcc : qfo Tryz.prog 211 69:=by
 intro w B cp c n k A Av x x0 x1 x2 x3 xs G hbx ho hG hn
 refine enter (n:=14) Tryz.func211 rfl Tryz.ntmps211 kz fun a hE=>?_
 have hW:=hbx.wok
 have hE0:=(hE.grow ⟨B,0,[x0,x1,x2,x3,.slice A n cp],true⟩).recast 2 (.v (.pointer (some ⟨B,0,none⟩))) (.p 0 0) rfl rfl (by simp [SV.ok])
 have hsm:=Slots.small ho
 have ap:=hE0.pk (env':=[(0,.v (.int .u32 k)),(1,.v (.slice Av x.length c)),(2,.p 0 0)])
 refine qcM 9 kz hW fun w1 hF2 hW3 hT4=>?_
 refine qaI [0,1,2,3] [(2,.p 0 0),(6,.v (.slice A n cp)),(7,.v (.int .u32 k)),(8,.v (.slice Av x.length c))] 6 qag (fun _ h=>h.cells) hT4 ap fun a5 hE6=>?_
 have hW7:=hW3.addNil 5 1
 have hF8:=hW3.frNil 5 1
 refine qaw (i:=4) kz (qaW hW7 hE6 (k:=1) (d:=9) (t:=22) (e:=5) (size:=1) (bytes:=1) (A:=none) (As:=Av) (m0:=0) (c:=0) (m:=x.length) (cs:=c) (xs:=[]) (news:=bc x) kz kz rfl (ho.move hW7.step (fun b o h _=>hG b o h) qbc).src (ho.move hW7.step (fun b o h _=>hG b o h) qbc).cap (by first | omega | (simp only [List.length_nil]; omega) | (simp; omega)) fun A9 aa aK aL ac ar au=>?_)
 have av : (⟨A9,aa,5,1,0 + x.length,[] ++ bc x⟩ : Rw) = brow A9 aa 5 x:=by rw [List.nil_append,Nat.zero_add]
 obtain ⟨af,ae⟩:=ar.rowEq 1 [⟨A,cp,69,2,n,xs⟩,brow A9 aa 5 x] av
 have aw:=EnvOk.pick au (ks:=[2,6,7,8,9]) (env':=[(2,.p 0 0),(6,.v (.slice A n cp)),(7,.v (.int .u32 k)),(8,.v (.slice Av x.length c)),(9,.v (.slice A9 (0 + x.length) aa))]) kz
 have ax:=aw.cast (env':=[(2,.p 0 0),(6,.v (.slice A n cp)),(7,.v (.int .u32 k)),(8,.v (.slice Av x.length c)),(9,.v (.slice A9 x.length aa))]) (by simp only [List.length_append,List.length_cons,List.length_nil,Nat.zero_add])
 have ag:=TT.ofW ((hF8.trans ac).trans ae) af
 refine ⟨fun _=>ag,?_⟩
 refine qaI [5] [(2,.p 0 0),(6,.v (.slice A n cp)),(10,.v (.agg #[.int .u32 k,.slice A9 x.length aa]))] 4 qag (fun _ h=>h.cells) ag ax fun aM ay=>?_
 refine qaw (i:=6) kz (qbx af ay (e:=69) (size:=2) (len:=1) (cs:=[.int .u32 k,.slice A9 x.length aa]) (d:=11) kz kz fun aF aN aO aG aH ah ab az=>?_)
 have aA:=TT.ofW (((hF8.trans ac).trans ae).trans ah) ab
 refine ⟨fun _=>aA,?_⟩
 refine qaw (i:=7) kz (qaW ab az (k:=0) (d:=12) (t:=35) (e:=69) (size:=2) (bytes:=32) (A:=A) (As:=(some ⟨aF,0,none⟩)) (m0:=n) (c:=cp) (m:=1) (cs:=1) (xs:=xs) (news:=[.int .u32 k,.slice A9 x.length aa]) kz kz rfl (qbE (ab.own 2 _ rfl) (qbD kz)) (qbI (ab.own 2 _ rfl)) (by first | omega | (simp only [List.length_nil]; omega) | (simp; omega)) fun am ao aP aQ aB ai aC=>?_)
 have aj:=TT.ofW ((((hF8.trans ac).trans ae).trans ah).trans aB) ai
 refine ⟨fun _=>aj,?_⟩
 refine qaI [8] [(12,.v (.slice am (n + 1) ao)),(13,.p 0 4)] 1 qag (fun _ h=>h.cells) aj aC fun aR aD=>?_
 refine qaw (i:=9) kz (qav ai aD (oi:=0) (cs:=[x0,x1,x2,x3,.slice am (n + 1) ao]) kz fun aS aI ak aE=>?_)
 refine ⟨fun h=>absurd rfl h,?_⟩
 refine qaF kz ?_ _
 refine qbO aE ak.cells (v:=.tuple #[]) kz ?_
 obtain ⟨al,aJ⟩:=ak.cutR 2 [⟨am,ao,69,2,n + 1,xs ++ [.int .u32 k,.slice A9 x.length aa]⟩,brow A9 aa 5 x]
 have hoo:=qet (s:=x) (Av:=A9) (c:=aa) (e8:=5) rfl al (by omega)
 obtain ⟨hb1,hb2,hb3⟩:=qga al (World.lt_of_cell (hbx.str.at_ 0 _ rfl))
 exact ⟨rfl,am,ao,A9,aa,hb1,hoo,hb2,hb3⟩
theorem qbM : qfo Tryz.prog 235 69:=by
 intro w B cp c n k A Av x x0 x1 x2 x3 xs G hbx ho hG hn
 refine enter (n:=14) Tryz.func235 rfl Tryz.ntmps235 kz fun a hE=>?_
 have hW:=hbx.wok
 have hE0:=(hE.grow ⟨B,0,[x0,x1,x2,x3,.slice A n cp],true⟩).recast 2 (.v (.pointer (some ⟨B,0,none⟩))) (.p 0 0) rfl rfl (by simp [SV.ok])
 have hsm:=Slots.small ho
 have ap:=hE0.pk (env':=[(0,.v (.int .u32 k)),(1,.v (.slice Av x.length c)),(2,.p 0 0)])
 refine qcM 9 kz hW fun w1 hF2 hW3 hT4=>?_
 refine qaI [0,1,2,3] [(2,.p 0 0),(6,.v (.slice A n cp)),(7,.v (.int .u32 k)),(8,.v (.slice Av x.length c))] 6 qag (fun _ h=>h.cells) hT4 ap fun a5 hE6=>?_
 have hW7:=hW3.addNil 5 1
 have hF8:=hW3.frNil 5 1
 refine qaw (i:=4) kz (qaW hW7 hE6 (k:=1) (d:=9) (t:=22) (e:=5) (size:=1) (bytes:=1) (A:=none) (As:=Av) (m0:=0) (c:=0) (m:=x.length) (cs:=c) (xs:=[]) (news:=bc x) kz kz rfl (ho.move hW7.step (fun b o h _=>hG b o h) qbc).src (ho.move hW7.step (fun b o h _=>hG b o h) qbc).cap (by first | omega | (simp only [List.length_nil]; omega) | (simp; omega)) fun A9 aa aK aL ac ar au=>?_)
 have av : (⟨A9,aa,5,1,0 + x.length,[] ++ bc x⟩ : Rw) = brow A9 aa 5 x:=by rw [List.nil_append,Nat.zero_add]
 obtain ⟨af,ae⟩:=ar.rowEq 1 [⟨A,cp,69,2,n,xs⟩,brow A9 aa 5 x] av
 have aw:=EnvOk.pick au (ks:=[2,6,7,8,9]) (env':=[(2,.p 0 0),(6,.v (.slice A n cp)),(7,.v (.int .u32 k)),(8,.v (.slice Av x.length c)),(9,.v (.slice A9 (0 + x.length) aa))]) kz
 have ax:=aw.cast (env':=[(2,.p 0 0),(6,.v (.slice A n cp)),(7,.v (.int .u32 k)),(8,.v (.slice Av x.length c)),(9,.v (.slice A9 x.length aa))]) (by simp only [List.length_append,List.length_cons,List.length_nil,Nat.zero_add])
 have ag:=TT.ofW ((hF8.trans ac).trans ae) af
 refine ⟨fun _=>ag,?_⟩
 refine qaI [5] [(2,.p 0 0),(6,.v (.slice A n cp)),(10,.v (.agg #[.int .u32 k,.slice A9 x.length aa]))] 4 qag (fun _ h=>h.cells) ag ax fun aM ay=>?_
 refine qaw (i:=6) kz (qbx af ay (e:=69) (size:=2) (len:=1) (cs:=[.int .u32 k,.slice A9 x.length aa]) (d:=11) kz kz fun aF aN aO aG aH ah ab az=>?_)
 have aA:=TT.ofW (((hF8.trans ac).trans ae).trans ah) ab
 refine ⟨fun _=>aA,?_⟩
 refine qaw (i:=7) kz (qaW ab az (k:=0) (d:=12) (t:=35) (e:=69) (size:=2) (bytes:=32) (A:=A) (As:=(some ⟨aF,0,none⟩)) (m0:=n) (c:=cp) (m:=1) (cs:=1) (xs:=xs) (news:=[.int .u32 k,.slice A9 x.length aa]) kz kz rfl (qbE (ab.own 2 _ rfl) (qbD kz)) (qbI (ab.own 2 _ rfl)) (by first | omega | (simp only [List.length_nil]; omega) | (simp; omega)) fun am ao aP aQ aB ai aC=>?_)
 have aj:=TT.ofW ((((hF8.trans ac).trans ae).trans ah).trans aB) ai
 refine ⟨fun _=>aj,?_⟩
 refine qaI [8] [(12,.v (.slice am (n + 1) ao)),(13,.p 0 4)] 1 qag (fun _ h=>h.cells) aj aC fun aR aD=>?_
 refine qaw (i:=9) kz (qav ai aD (oi:=0) (cs:=[x0,x1,x2,x3,.slice am (n + 1) ao]) kz fun aS aI ak aE=>?_)
 refine ⟨fun h=>absurd rfl h,?_⟩
 refine qaF kz ?_ _
 refine qbO aE ak.cells (v:=.tuple #[]) kz ?_
 obtain ⟨al,aJ⟩:=ak.cutR 2 [⟨am,ao,69,2,n + 1,xs ++ [.int .u32 k,.slice A9 x.length aa]⟩,brow A9 aa 5 x]
 have hoo:=qet (s:=x) (Av:=A9) (c:=aa) (e8:=5) rfl al (by omega)
 obtain ⟨hb1,hb2,hb3⟩:=qga al (World.lt_of_cell (hbx.str.at_ 0 _ rfl))
 exact ⟨rfl,am,ao,A9,aa,hb1,hoo,hb2,hb3⟩
theorem n8w (x : Int) : IntKind.i8.wrap x = (x + 128) % 256 - 128:=by simp [IntKind.wrap,IntKind.signed,IntKind.bits]; omega
theorem n16w (x : Int) : IntKind.i16.wrap x = (x + 32768) % 65536 - 32768:=by simp [IntKind.wrap,IntKind.signed,IntKind.bits]; omega
theorem n32w (x : Int) : IntKind.i32.wrap x = (x + 2147483648) % 4294967296 - 2147483648:=by simp [IntKind.wrap,IntKind.signed,IntKind.bits]; omega
theorem n64w (x : Int) : IntKind.i64.wrap x = (x + 9223372036854775808) % 18446744073709551616 - 9223372036854775808:=by simp [IntKind.wrap,IntKind.signed,IntKind.bits]; omega
theorem qip (x : Int) : IntKind.i64.wrap (IntKind.i8.wrap x) = IntKind.i8.wrap x:=by rw [n64w,n8w]; omega
theorem qfq (x : Int) : IntKind.i64.wrap (IntKind.i16.wrap x) = IntKind.i16.wrap x:=by rw [n64w,n16w]; omega
theorem qfr (x : Int) : IntKind.i64.wrap (IntKind.i32.wrap x) = IntKind.i32.wrap x:=by rw [n64w,n32w]; omega
theorem qeJ (x : Int) : IntKind.i64.wrap (IntKind.u16.wrap x) = IntKind.u16.wrap x:=by rw [n64w,qbB]; omega
def qbw (k n : Int) : Int:=if k = 0 then n % 2 else if k = 1 then IntKind.i8.wrap n else if k = 2 then IntKind.i16.wrap n else if k = 3 then IntKind.i32.wrap n else if k = 5 then IntKind.u16.wrap n else n
structure UsQ (U : List Fld → Tree → Prop) (k x1 x2 x3 x4 x5 x6 : Int) (sub : List Fld) (n : Int) (s : Bs) (b : Bool) (l : List Tree) (u : List (Int × Bs)) : Prop where
 text : k = 8 → b = decide (x3 ≥ 0) ∧ s = []
 uuid : k = 7 → s = List.replicate 16 0
 octs : k = 9 ∨ k = 11 → s = [] ∧ l = []
 part : k = 10 → (x3 ≥ 0 → b = true) ∧ (x3 < 0 → U sub (.mk n s b l u))
 num : k ≠ 7 → k ≠ 8 → k ≠ 9 → k ≠ 10 → k ≠ 11 → n = qbw k x5
def UsF (U : List Fld → Tree → Prop) : Fld → Tree → Prop
 | .mk k x1 x2 x3 x4 x5 x6 sub,.mk n s b l u=>UsQ U k x1 x2 x3 x4 x5 x6 sub n s b l u
def UsP (U : List Fld → Tree → Prop) (l : List Fld) (g : Tree) : Prop:=g.U = [] ∧ ∀ (i : Nat) (f : Fld),l[i]? = some f → UsF U f (g.at_ i)
def qjz : Nat → List Fld → Tree → Prop
 | 0=>UsP fun _ _=>False
 | d + 1=>UsP (qjz d)
structure ToQ (T : List Fld → Tree → Tree → Prop) (v : Int) (f : Fld) (k x3 : Int) (sub : List Fld) (t : Tree) (tn : Int) (ts : Bs) (n : Int) (s : Bs) (b : Bool) (g : Tree) : Prop where
 null : k = 8 ∨ k = 10 ∨ (x3 ≥ 0 ∧ v ≥ x3) → b = f.nul v t
 text : f.nul v t = false → k = 8 ∨ k = 9 → s = qaE ts
 uuid : f.nul v t = false → k = 7 → s = qbp ts
 part : f.nul v t = false → k = 10 → T sub t g
 num : f.nul v t = false → k ≠ 7 → k ≠ 8 → k ≠ 9 → k ≠ 10 → k ≠ 11 → n = qbw k tn
def ToF0 (T : List Fld → Tree → Tree → Prop) (v : Int) : Fld → Tree → Tree → Prop
 | .mk k x1 x2 x3 x4 x5 x6 sub,.mk tn ts tb tl tu,.mk n s b l u=>ToQ T v (.mk k x1 x2 x3 x4 x5 x6 sub) k x3 sub (.mk tn ts tb tl tu) tn ts n s b (.mk n s b l u)
def ToF (T : List Fld → Tree → Tree → Prop) (v : Int) (f : Fld) (t g : Tree) : Prop :=
 ToF0 T v f t g ∧ (f.kind = 11 → f.nul v t = false → g.L.length = (qao t.L).length ∧ ∀ (i : Nat) (x y : Tree),(qao t.L)[i]? = some x → g.L[i]? = some y → ToF0 T v f.elem x y)
def Fld.pres (f : Fld) (v : Int) (flex : Bool) (x : Tree) : Bool:=(decide (f.tag < 0) && f.has v) || (decide (f.tag ≥ 0) && (flex && !f.usual x))
def ToP (T : List Fld → Tree → Tree → Prop) (U : List Fld → Tree → Prop) (l : List Fld) (v : Int) (flex : Bool) (t g : Tree) : Prop :=
 g.L.length = l.length ∧ (∀ (i : Nat) (f : Fld) (y : Tree),l[i]? = some f → g.L[i]? = some y → (f.pres v flex (t.at_ i) = true → ToF T v f (t.at_ i) y) ∧ (f.pres v flex (t.at_ i) = false → UsF U f y)) ∧
  g.U = (if flex = true then qco (qak l t.U) else [])
def qiq (v : Int) (flex : Bool) : Nat → List Fld → Tree → Tree → Prop
 | 0=>fun l t g=>ToP (fun _ _ _=>False) (fun _ _=>False) l v flex t g
 | d + 1=>fun l t g=>ToP (qiq v flex d) (qjz d) l v flex t g
theorem qky {U : List Fld → Tree → Prop} {f : Fld} {y : Tree} (h : UsF U f y) : UsP U [f] (.mk 0 [] false [y] []):=by
 refine ⟨rfl,fun i g hg=>?_⟩
 cases i with
 | zero =>
  simp only [List.getElem?_cons_zero,Option.some.injEq] at hg
  subst hg
  exact h
 | succ i=>simp at hg
theorem qjA {w : World} {e : Nat} {A : Option Addr} {c : Nat} {F : Nat → Nat → Prop} (h : w.ownsRow 0 e 1 (.slice A 16 c) 16 (List.replicate 16 (.int .u8 0))) (hF : ∀ g,A.map (·.block) = some g → ∀ o,F g o) : Octs w F A c (List.replicate 16 0) :=
 qcg (s:=List.replicate 16 0) h (by decide) hF
section
variable {U : List Fld → Tree → Prop} {k x1 x2 x3 x4 x5 x6 n : Int} {sub : List Fld} {s : Bs} {b : Bool} {l : List Tree} {u : List (Int × Bs)}
abbrev UsH (U : List Fld → Tree → Prop) (k x1 x2 x3 x4 x5 x6 : Int) (sub : List Fld) (n : Int) (s : Bs) (b : Bool) (l : List Tree) (u : List (Int × Bs)) : Prop:=UsF U (.mk k x1 x2 x3 x4 x5 x6 sub) (.mk n s b l u)
theorem us_q (h : UsH U k x1 x2 x3 x4 x5 x6 sub n s b l u) : UsQ U k x1 x2 x3 x4 x5 x6 sub n s b l u:=h
theorem qgc (h : UsH U k x1 x2 x3 x4 x5 x6 sub n s b l u) (hk : k = 8) (hc : (b != decide (x3 ≥ 0)) = true) : False:=by
 have:=((us_q h).text hk).1
 rw [this] at hc; simp at hc
theorem qgd (h : UsH U k x1 x2 x3 x4 x5 x6 sub n s b l u) (hk : k = 8) (hc : ((s.length : Nat) : Int) > 0) : False:=by
 have:=((us_q h).text hk).2
 rw [this] at hc; simp at hc
theorem us_7 (h : UsH U k x1 x2 x3 x4 x5 x6 sub n s b l u) (hk : k = 7) (hc : (!decide (s = (List.replicate 16 0 : Bs))) = true) : False:=by
 have:=(us_q h).uuid hk
 rw [this] at hc; simp at hc
theorem qge (h : UsH U k x1 x2 x3 x4 x5 x6 sub n s b l u) (hk : k = 9) (hc : ((s.length : Nat) : Int) > 0) : False:=by
 have:=((us_q h).octs (.inl hk)).1
 rw [this] at hc; simp at hc
theorem qgf (h : UsH U k x1 x2 x3 x4 x5 x6 sub n s b l u) (hk : k = 9) (hc : ((l.length : Nat) : Int) > 0) : False:=by
 have:=((us_q h).octs (.inl hk)).2
 rw [this] at hc; simp at hc
theorem qeu (h : UsH U k x1 x2 x3 x4 x5 x6 sub n s b l u) (hk : k = 11) (hc : ((s.length : Nat) : Int) > 0) : False:=by
 have:=((us_q h).octs (.inr hk)).1
 rw [this] at hc; simp at hc
theorem qev (h : UsH U k x1 x2 x3 x4 x5 x6 sub n s b l u) (hk : k = 11) (hc : ((l.length : Nat) : Int) > 0) : False:=by
 have:=((us_q h).octs (.inr hk)).2
 rw [this] at hc; simp at hc
theorem qgg (h : UsH U k x1 x2 x3 x4 x5 x6 sub n s b l u) (hk : k = 10) (h3 : x3 ≥ 0) (hc : (!b) = true) : False:=by
 have:=((us_q h).part hk).1 h3
 rw [this] at hc; simp at hc
theorem qkz (h : UsH U k x1 x2 x3 x4 x5 x6 sub n s b l u) (hk : k = 10) (h3 : x3 < 0) : U sub (.mk n s b l u):=((us_q h).part hk).2 h3
theorem us_n (h : UsH U k x1 x2 x3 x4 x5 x6 sub n s b l u) (h7 : k ≠ 7) (h8 : k ≠ 8) (h9 : k ≠ 9) (h10 : k ≠ 10) (h11 : k ≠ 11) (hc : n ≠ qbw k x5) : False:=hc ((us_q h).num h7 h8 h9 h10 h11)
theorem us_u {g : Tree} (h : g.U = []) {u : List (Int × Bs)} (e : g.U = u) (hc : ((u.length : Nat) : Int) > 0) : False:=by
 rw [← e,h] at hc; simp at hc
end
section
variable {T : List Fld → Tree → Tree → Prop} {v k x1 x2 x3 x4 x5 x6 tn n : Int} {sub : List Fld} {ts s : Bs} {tb b : Bool} {tl l : List Tree} {tu u : List (Int × Bs)}
abbrev ToH (T : List Fld → Tree → Tree → Prop) (v k x1 x2 x3 x4 x5 x6 : Int) (sub : List Fld) (tn : Int) (ts : Bs) (tb : Bool) (tl : List Tree) (tu : List (Int × Bs)) (n : Int) (s : Bs) (b : Bool) (l : List Tree) (u : List (Int × Bs)) : Prop:=ToF0 T v (.mk k x1 x2 x3 x4 x5 x6 sub) (.mk tn ts tb tl tu) (.mk n s b l u)
abbrev NulH (v k x1 x2 x3 x4 x5 x6 : Int) (sub : List Fld) (tn : Int) (ts : Bs) (tb : Bool) (tl : List Tree) (tu : List (Int × Bs)) : Bool:=Fld.nul (.mk k x1 x2 x3 x4 x5 x6 sub) v (.mk tn ts tb tl tu)
theorem to_q (h : ToH T v k x1 x2 x3 x4 x5 x6 sub tn ts tb tl tu n s b l u) : ToQ T v (.mk k x1 x2 x3 x4 x5 x6 sub) k x3 sub (.mk tn ts tb tl tu) tn ts n s b (.mk n s b l u):=h
theorem qjB (h : ToH T v k x1 x2 x3 x4 x5 x6 sub tn ts tb tl tu n s b l u) (hk : k = 8) (hc : (b != NulH v k x1 x2 x3 x4 x5 x6 sub tn ts tb tl tu) = true) : False:=by
 rw [(to_q h).null (.inl hk)] at hc; simp at hc
theorem qgT (h : ToH T v k x1 x2 x3 x4 x5 x6 sub tn ts tb tl tu n s b l u) (hk : k = 10) (hc : (b != NulH v k x1 x2 x3 x4 x5 x6 sub tn ts tb tl tu) = true) : False:=by
 rw [(to_q h).null (.inr (.inl hk))] at hc; simp at hc
theorem qgh (h : ToH T v k x1 x2 x3 x4 x5 x6 sub tn ts tb tl tu n s b l u) (h1 : x3 ≥ 0) (h2 : v ≥ x3) (hc : (b != NulH v k x1 x2 x3 x4 x5 x6 sub tn ts tb tl tu) = true) : False:=by
 rw [(to_q h).null (.inr (.inr ⟨h1,h2⟩))] at hc; simp at hc
theorem qjC (h : ToH T v k x1 x2 x3 x4 x5 x6 sub tn ts tb tl tu n s b l u) (hn : NulH v k x1 x2 x3 x4 x5 x6 sub tn ts tb tl tu = false) (hk : k = 10) : T sub (.mk tn ts tb tl tu) (.mk n s b l u):=(to_q h).part hn hk
theorem qee (h : ToH T v k x1 x2 x3 x4 x5 x6 sub tn ts tb tl tu n s b l u) (hn : NulH v k x1 x2 x3 x4 x5 x6 sub tn ts tb tl tu = false) (hk : k = 8) : decide (s = qaE ts) = true:=decide_eq_true ((to_q h).text hn (.inl hk))
theorem qef (h : ToH T v k x1 x2 x3 x4 x5 x6 sub tn ts tb tl tu n s b l u) (hn : NulH v k x1 x2 x3 x4 x5 x6 sub tn ts tb tl tu = false) (hk : k = 9) : decide (s = qaE ts) = true:=decide_eq_true ((to_q h).text hn (.inr hk))
theorem to_u (h : ToH T v k x1 x2 x3 x4 x5 x6 sub tn ts tb tl tu n s b l u) (hn : NulH v k x1 x2 x3 x4 x5 x6 sub tn ts tb tl tu = false) (hk : k = 7) : decide (s = qbp ts) = true:=decide_eq_true ((to_q h).uuid hn hk)
theorem to_m (h : ToH T v k x1 x2 x3 x4 x5 x6 sub tn ts tb tl tu n s b l u) (hn : NulH v k x1 x2 x3 x4 x5 x6 sub tn ts tb tl tu = false) (h8 : k ≠ 8) (h9 : k ≠ 9) (h7 : k ≠ 7) (h10 : k ≠ 10) (h11 : k ≠ 11) : (n == qbw k tn) = true:=by
 rw [(to_q h).num hn h7 h8 h9 h10 h11]; simp
theorem qhL {a c : Nat} (h : a = c) (hc : ((a : Nat) : Int) ≠ ((c : Nat) : Int)) : False:=hc (by rw [h])
end
theorem qew {P : Program} {ops : Array Oper} {Q : Exit → Act → World → Prop} {a : Act} {w : World} {T : World → Prop} {c i j fuel : Nat} {listed : Array Bool} (hr : Region.ready .any ops listed = [i,j]) (h : wpOp P ops Q i (fun a' w'=>(i ≠ c → T w') ∧ qbP P ops Q T c fuel (listed.setIfInBounds i true) a' w') a w)
  (h' : wpOp P ops Q j (fun a' w'=>(j ≠ c → T w') ∧ qbP P ops Q T c fuel (listed.setIfInBounds j true) a' w') a w) : qbP P ops Q T c (fuel + 1) listed a w:=by
 refine ⟨fun h0=>(by rw [hr] at h0; cases h0),fun q hq=>?_⟩
 rw [hr] at hq
 simp only [List.mem_cons,List.not_mem_nil,or_false] at hq
 rcases hq with rfl | rfl
 ·exact h
 exact h'
theorem qlM {k x1 x2 x3 x4 x5 x6 v : Int} {sub : List Fld} {flex : Bool} {x : Tree} (h : x4 < 0) (h2 : Fld.has (.mk k x1 x2 x3 x4 x5 x6 sub) v = true) : Fld.pres (.mk k x1 x2 x3 x4 x5 x6 sub) v flex x = true:=by
 simp [Fld.pres,Fld.tag,h,h2]
theorem qlN {k x1 x2 x3 x4 x5 x6 v : Int} {sub : List Fld} {flex : Bool} {x : Tree} (h : x4 ≥ 0) (h2 : flex = true) (h3 : (!Fld.usual (.mk k x1 x2 x3 x4 x5 x6 sub) x) = true) : Fld.pres (.mk k x1 x2 x3 x4 x5 x6 sub) v flex x = true:=by
 subst h2
 simp only [Bool.not_eq_true'] at h3
 simp [Fld.pres,Fld.tag,h,h3]
theorem qhM {k x1 x2 x3 x4 x5 x6 v : Int} {sub : List Fld} {flex : Bool} {x : Tree} (h : x4 < 0) (h2 : Fld.has (.mk k x1 x2 x3 x4 x5 x6 sub) v = false) : Fld.pres (.mk k x1 x2 x3 x4 x5 x6 sub) v flex x = false:=by
 have : ¬ x4 ≥ 0:=by omega
 simp [Fld.pres,Fld.tag,h2,this]
theorem qhN {k x1 x2 x3 x4 x5 x6 v : Int} {sub : List Fld} {flex : Bool} {x : Tree} (h : ¬ x4 < 0) (h2 : flex = false) : Fld.pres (.mk k x1 x2 x3 x4 x5 x6 sub) v flex x = false:=by
 subst h2
 simp [Fld.pres,Fld.tag,h]
theorem qhO {k x1 x2 x3 x4 x5 x6 v : Int} {sub : List Fld} {flex : Bool} {x : Tree} (h : ¬ x4 < 0) (h3 : (!Fld.usual (.mk k x1 x2 x3 x4 x5 x6 sub) x) = false) : Fld.pres (.mk k x1 x2 x3 x4 x5 x6 sub) v flex x = false:=by
 simp only [Bool.not_eq_false'] at h3
 simp [Fld.pres,Fld.tag,h,h3]
theorem qkA {k x1 x2 x3 x4 x5 x6 v : Int} {sub : List Fld} {flex : Bool} {x : Tree} (h : ¬ x4 < 0) (h2 : flex = true) : Fld.pres (.mk k x1 x2 x3 x4 x5 x6 sub) v flex x = !Fld.usual (.mk k x1 x2 x3 x4 x5 x6 sub) x:=by
 subst h2
 have : x4 ≥ 0:=by omega
 simp [Fld.pres,Fld.tag,h,this]
theorem qkB {k x1 x2 x3 x4 x5 x6 v : Int} {sub : List Fld} {flex : Bool} {x : Tree} (h : x4 < 0) : Fld.pres (.mk k x1 x2 x3 x4 x5 x6 sub) v flex x = Fld.has (.mk k x1 x2 x3 x4 x5 x6 sub) v:=by
 have : ¬ x4 ≥ 0:=by omega
 simp [Fld.pres,Fld.tag,h,this]
section
variable {w : World} {F : Nat → Nat → Prop}
theorem qkC {e size b c : Nat} {xs : List Value} {n : Nat} (h : w.ownsRow 0 e size (.slice (some ⟨b,0,none⟩) n c) n xs) : AtF w (fun _ _=>True) b 0 xs:=fun j v hj=>⟨trivial,by
 have:=h.cells (g:=b) rfl j v hj
 rw [qbN] at this
 exact this⟩
theorem qhP {e b c : Nat} {cf : List Value} {f : Fld} (h : w.ownsRow 0 e 8 (.slice (some ⟨b,0,none⟩) 1 c) 1 cf) (hf : FldR w F cf f) (hc : 1 ≤ c) : FldsR w (fun _ _=>True) (some ⟨b,0,none⟩) c [f]:=by
 refine ⟨fun _=>cf,⟨hc,(by show 1 ≤ 1099511627776; decide),fun h=>(by cases h),fun ad hA _=>?_⟩,fun i x hx=>?_⟩
 ·obtain rfl:=Option.some.inj hA
  refine ⟨b,0,rfl,fun i hi=>⟨hf.eight,?_⟩⟩
  have : i = 0:=by simp at hi; omega
  subst this
  simpa using qkC h
 cases i with
 | zero =>
  simp only [List.getElem?_cons_zero,Option.some.injEq] at hx
  subst hx
  exact hf.move (Step.refl _ Nil) nilM fun _ _ _ _=>trivial
 | succ i=>simp at hx
theorem qhQ {e b c : Nat} {cy : List Value} {y : Tree} (h : w.ownsRow 0 e 5 (.slice (some ⟨b,0,none⟩) 1 c) 1 cy) (hy : TreeR w F cy y) (hc : 1 ≤ c) : TreeR w (fun _ _=>True) [.int .i64 0,.slice none 0 0,.bool false,.slice (some ⟨b,0,none⟩) 1 c,.slice none 0 0] (.mk 0 [] false [y] []):=by
 refine TreeR.mk (l:=[y]) (s:=[]) (u:=[]) (fun _=>cy) (Octs.nil _ _) ⟨hc,(by show 1 ≤ 1099511627776; decide),fun h=>(by cases h),fun ad hA _=>?_⟩ (fun i x hx=>?_) (TagsR.nil _ _)
 ·obtain rfl:=Option.some.inj hA
  refine ⟨b,0,rfl,fun i hi=>⟨hy.five,?_⟩⟩
  have : i = 0:=by simp at hi; omega
  subst this
  simpa using qkC h
 cases i with
 | zero =>
  simp only [List.getElem?_cons_zero,Option.some.injEq] at hx
  subst hx
  exact hy.move (Step.refl _ Nil) nilM fun _ _ _ _=>trivial
 | succ i=>simp at hx
end
section
variable {gu tu : List (Int × Bs)} {l : List Fld} {flex : Bool} {i : Nat} {k k' : Int} {s s' : Bs}
theorem qex (h : gu = if flex = true then qco (qak l tu) else []) (hf : (!flex) = false) (hc : ((gu.length : Nat) : Int) ≠ (((qak l tu).length : Nat) : Int)) : False:=by
 cases flex
 ·cases hf
 rw [if_pos rfl] at h
 rw [h,qcS] at hc
 exact hc rfl
theorem qdE (h : gu = if flex = true then qco (qak l tu) else []) (hf : (!flex) = true) (hc : ((gu.length : Nat) : Int) ≠ 0) : False:=by
 cases flex
 ·rw [if_neg (by decide)] at h
  rw [h] at hc
  exact hc rfl
 cases hf
theorem qjD (h : gu = if flex = true then qco (qak l tu) else []) (hf : (!flex) = false) (hu : (qak l tu)[i]? = some (k,s)) (hg : gu[i]? = some (k',s')) : k' = k ∧ s' = qaE s:=by
 cases flex
 ·cases hf
 rw [if_pos rfl] at h
 rw [h,qic hu] at hg
 have:=Option.some.inj hg
 exact ⟨(Prod.mk.injEq .. ▸ this).1.symm,(Prod.mk.injEq .. ▸ this).2.symm⟩
theorem qey (h : gu = if flex = true then qco (qak l tu) else []) (hf : (!flex) = false) (hu : (qak l tu)[i]? = some (k,s)) (hg : gu[i]? = some (k',s')) (hc : k' ≠ k) : False:=hc (qjD h hf hu hg).1
theorem qez (h : gu = if flex = true then qco (qak l tu) else []) (hf : (!flex) = false) (hu : (qak l tu)[i]? = some (k,s)) (hg : gu[i]? = some (k',s')) (hc : (!decide (s' = qaE s)) = true) : False:=by
 rw [(qjD h hf hu hg).2] at hc; simp at hc
theorem qcs (h : gu = if flex = true then qco (qak l tu) else []) (hf : (!flex) = false) : gu.length = (qak l tu).length:=by
 cases flex
 ·cases hf
 rw [if_pos rfl] at h
 rw [h,qcS]
end
def qaH (D : DV) : Tree:=.mk 0 [] false [.mk (IntKind.i64.wrap (D.f 0).n) [] false [] [],.mk (IntKind.i64.wrap (D.f 1).n) [] false [] [],qim (D.f 2).A (D.f 2).s] D.u
def qaT (D : DV) : Tree:=.mk 0 [] false [.mk 0 (D.f 0).o false [] [],.mk 0 [] (D.f 1).A.isNone ((List.range (D.f 1).l).map fun i=>qaH ((D.f 1).f i)) []] D.u
def qa4 (D : DV) : Tree:=.mk 0 [] false [.mk 0 [] (D.f 0).A.isNone ((List.range (D.f 0).l).map fun i=>qaT ((D.f 0).f i)) []] D.u
set_option maxHeartbeats 4000000 in
theorem qbf (v : Int) (D : DV) (b o : Nat) (w : World) (F : Nat → Nat → Prop) (hat : AtF w F b o [.int .i32 ((D.f 0).n),.int .i16 ((D.f 1).n),.pointer ((D.f 2).A),.map D.m]) (hok : qaG w F D) : Calls Tryz.prog 210 #[.pointer (some ⟨b,o,none⟩)] w (qdZ w F (qaH D)):=by
 refine enter (n:=41) Tryz.func210 rfl Tryz.ntmps210 kz fun a hE=>?_
 have hW : WOk w Nil w [⟨b,o,[.int .i32 ((D.f 0).n),.int .i16 ((D.f 1).n),.pointer ((D.f 2).A),.map D.m],false⟩] []:=(WOk.start w Nil).start1 hat rfl rfl
 unfold qaG at hok
 obtain ⟨g1,g2,⟨g3,g3l⟩,g4,g4l,g4x,_⟩:=hok
 have hE0:=(EnvOk.ptr0 (cs:=[.int .i32 ((D.f 0).n),.int .i16 ((D.f 1).n),.pointer ((D.f 2).A),.map D.m]) (r:=false) hE).pk (env':=[(0,.p 0 0)])
 refine qae [0] kz ?_
 refine qan (qaO hW hE0 (d:=2) (cs:=[.int .i64 0,.slice none 0 0,.bool false,.slice none 0 0,.slice none 0 0]) kz fun b5 a6 w7 hb8 hz9 bR bh bi=>?_)
 refine qaf (qab ?_)
 refine qae [0,1,2,3] kz ?_
 refine qan (qeH (t:=34) (e:=37) (size:=5) (bytes:=88) (d:=4) (j:=3) (.agg #[.int .i64 0,.slice none 0 0,.bool false,.slice none 0 0,.slice none 0 0]) [.int .i64 0,.slice none 0 0,.bool false,.slice none 0 0,.slice none 0 0,.int .i64 0,.slice none 0 0,.bool false,.slice none 0 0,.slice none 0 0,.int .i64 0,.slice none 0 0,.bool false,.slice none 0 0,.slice none 0 0] bh bi fun aa cK cL bS bT bU aK bj=>?_)
 refine qal [1] [2,3] [(0,.p 0 0),(2,.p 1 0),(5,.v (.agg #[.int .i64 0,.slice none 0 0,.bool false,.slice (some ⟨aa,0,none⟩) 3 3,.slice none 0 0]))] aK bj fun cM bk=>?_
 refine qan (qaO aK bk (d:=3) (cs:=[.int .i64 0,.slice none 0 0,.bool false,.slice none 0 0,.slice none 0 0]) kz fun ah cN cO bV bW bX bn bo=>?_)
 refine qan (qav bn bo (oi:=3) (cs:=[.int .i64 0,.slice none 0 0,.bool false,.slice (some ⟨aa,0,none⟩) 3 3,.slice none 0 0]) kz fun cP bY bp bq=>?_)
 refine qaf (qab ?_)
 refine qaL 9 kz bp fun cQ bZ bt aL=>?_
 refine qaI [0,1,2,3,4,5,6,7] [(0,.p 0 0),(2,.p 1 0),(3,.p 3 0),(7,.v (.slice (some ⟨aa,0,none⟩) 3 3)),(13,.v (.agg #[.int .i64 (IntKind.i64.wrap ((D.f 0).n)),.slice none 0 0,.bool false,.slice none 0 0,.slice none 0 0]))] 2 (qaa qag) (fun _ h=>h.cells) aL bq fun cR bu=>?_
 refine qaV bu (i:=8) (t:=34) (A:=(some ⟨aa,0,none⟩)) (m:=3) (q:=0) (d:=14) kz (e:=37) (size:=5) (bytes:=88) (j:=0) kz (b:=aa) (o:=0) rfl rfl (by decide) kz kz (qaa qag) aL fun cS bw=>?_
 have bx:=bw.recast 14 (.v (.pointer (some ⟨aa,0 + 0 * 5,none⟩))) (.p 2 0) rfl rfl (Nat.le_of_ble_eq_true (n:=3) rfl)
 have bz:=bx.pk (env':=[(0,.p 0 0),(2,.p 1 0),(3,.p 3 0),(7,.v (.slice (some ⟨aa,0,none⟩) 3 3)),(13,.v (.agg #[.int .i64 (IntKind.i64.wrap ((D.f 0).n)),.slice none 0 0,.bool false,.slice none 0 0,.slice none 0 0])),(14,.p 2 0)])
 refine qaw (i:=9) kz (qav bt bz (oi:=2) (cs:=[.int .i64 (IntKind.i64.wrap ((D.f 0).n)),.slice none 0 0,.bool false,.slice none 0 0,.slice none 0 0,.int .i64 0,.slice none 0 0,.bool false,.slice none 0 0,.slice none 0 0,.int .i64 0,.slice none 0 0,.bool false,.slice none 0 0,.slice none 0 0]) kz fun cT b8 bA bB=>?_)
 refine ⟨fun h=>absurd rfl h,?_⟩
 refine qaF kz ?_ _
 refine qab ?_
 refine qaL 9 kz bA fun cU cd bC aM=>?_
 refine qaI [0,1,2,3,4,5,6,7] [(0,.p 0 0),(2,.p 1 0),(3,.p 3 0),(16,.v (.slice (some ⟨aa,0,none⟩) 3 3)),(22,.v (.agg #[.int .i64 (IntKind.i64.wrap ((D.f 1).n)),.slice none 0 0,.bool false,.slice none 0 0,.slice none 0 0]))] 2 (qaa qag) (fun _ h=>h.cells) aM bB fun cV bD=>?_
 refine qaV bD (i:=8) (t:=34) (A:=(some ⟨aa,0,none⟩)) (m:=3) (q:=1) (d:=23) kz (e:=37) (size:=5) (bytes:=88) (j:=1) kz (b:=aa) (o:=0) rfl rfl (by decide) kz kz (qaa qag) aM fun cW bE=>?_
 have bF:=bE.recast 23 (.v (.pointer (some ⟨aa,0 + 1 * 5,none⟩))) (.p 2 5) rfl rfl (Nat.le_of_ble_eq_true (n:=3) rfl)
 have bG:=bF.pk (env':=[(0,.p 0 0),(2,.p 1 0),(3,.p 3 0),(16,.v (.slice (some ⟨aa,0,none⟩) 3 3)),(22,.v (.agg #[.int .i64 (IntKind.i64.wrap ((D.f 1).n)),.slice none 0 0,.bool false,.slice none 0 0,.slice none 0 0])),(23,.p 2 5)])
 refine qaw (i:=9) kz (qav bC bG (oi:=2) (cs:=[.int .i64 (IntKind.i64.wrap ((D.f 0).n)),.slice none 0 0,.bool false,.slice none 0 0,.slice none 0 0,.int .i64 (IntKind.i64.wrap ((D.f 1).n)),.slice none 0 0,.bool false,.slice none 0 0,.slice none 0 0,.int .i64 0,.slice none 0 0,.bool false,.slice none 0 0,.slice none 0 0]) kz fun cX ce bH bI=>?_)
 refine ⟨fun h=>absurd rfl h,?_⟩
 refine qaF kz ?_ _
 refine qab ?_
 refine qaL 8 kz bH fun cm cq ax bJ=>?_
 refine qaI [0,1,2,3,4,5] [(0,.p 0 0),(2,.p 1 0),(3,.p 3 0),(25,.v (.slice (some ⟨aa,0,none⟩) 3 3)),(29,.v (.pointer ((D.f 2).A)))] 3 (qaa qag) (fun _ h=>h.cells) bJ bI fun cY bK=>?_
 refine qaw (i:=6) kz (qam bK (f:=139) (vs:=[.pointer ((D.f 2).A)]) (d:=30) kz Tryz.call139 (ql2 _ (D.f 2).s _ (Imm F w cm [⟨b,o,[.int .i32 ((D.f 0).n),.int .i16 ((D.f 1).n),.pointer ((D.f 2).A),.map D.m],false⟩,⟨b5,0,[.int .i64 0,.slice none 0 0,.bool false,.slice none 0 0,.slice none 0 0],true⟩,⟨aa,0,[.int .i64 (IntKind.i64.wrap ((D.f 0).n)),.slice none 0 0,.bool false,.slice none 0 0,.slice none 0 0,.int .i64 (IntKind.i64.wrap ((D.f 1).n)),.slice none 0 0,.bool false,.slice none 0 0,.slice none 0 0,.int .i64 0,.slice none 0 0,.bool false,.slice none 0 0,.slice none 0 0],true⟩,⟨ah,0,[.int .i64 0,.slice none 0 0,.bool false,.slice (some ⟨aa,0,none⟩) 3 3,.slice none 0 0],true⟩] []) (fun ad h_=>by obtain ⟨b',o',g1,g2⟩:=g3 ad h_; exact ⟨b',o',g1,g2.move ax.step nilM ax.imm⟩) g3l) ?_)
 rintro e_ cZ ⟨cr,rfl,bL,aH⟩
 have aI:=bL.move (Step.refl _ Nil) nilM (ax.laid (G:=F) aH)
 obtain ⟨ai,aj,ak,al,am,ao,ap,ar,au,av,aw,cu,cw,aA,cz,cA,c5,c6⟩:=aI.open_
 rw [aA] at aI
 have bP:=cz.small
 have bQ:=cA.small
 rw [aA]
 refine ⟨_,rfl,fun da bM=>?_⟩
 have aN:=ax.next_nil aH
 have bN:=ax.frN aH
 have aO:=TT.ofW bN aN
 refine ⟨fun _=>aO,?_⟩
 refine qaV bM (i:=7) (t:=34) (A:=(some ⟨aa,0,none⟩)) (m:=3) (q:=2) (d:=31) kz (e:=37) (size:=5) (bytes:=88) (j:=2) kz (b:=aa) (o:=0) rfl rfl (by decide) kz kz (qaa qag) aO fun db aP=>?_
 have aQ:=aP.recast 31 (.v (.pointer (some ⟨aa,0 + 2 * 5,none⟩))) (.p 2 10) rfl rfl (Nat.le_of_ble_eq_true (n:=3) rfl)
 have aR:=aQ.pk (env':=[(0,.p 0 0),(2,.p 1 0),(3,.p 3 0),(25,.v (.slice (some ⟨aa,0,none⟩) 3 3)),(29,.v (.pointer ((D.f 2).A))),(30,.v (.agg #[.int .i64 ai,.slice ao aj.length ap,.bool ak,.slice ar al.length au,.slice av am.length aw])),(31,.p 2 10)])
 refine qaw (i:=8) kz (qav aN aR (oi:=2) (cs:=[.int .i64 (IntKind.i64.wrap ((D.f 0).n)),.slice none 0 0,.bool false,.slice none 0 0,.slice none 0 0,.int .i64 (IntKind.i64.wrap ((D.f 1).n)),.slice none 0 0,.bool false,.slice none 0 0,.slice none 0 0,.int .i64 ai,.slice ao aj.length ap,.bool ak,.slice ar al.length au,.slice av am.length aw]) kz fun bO aB ae aS=>?_)
 refine ⟨fun h=>absurd rfl h,?_⟩
 refine qaF kz ?_ _
 refine qab ?_
 refine qae [0,1,2,3,4] kz ?_
 refine qal [0,1,2] [3,4] [(2,.p 1 0),(3,.p 3 0),(34,.p 0 3)] ae aS fun cB aT=>?_
 refine qan (qeU aT (v:=.func (.func 235) #[] #[.pointer (some ⟨ah,0,none⟩)]) (d:=35) kz fun cC aU=>?_)
 refine qan (qam aU (f:=122) (vs:=[.pointer (some ⟨b,o + 3,none⟩),.func (.func 235) #[] #[.pointer (some ⟨ah,0,none⟩)]]) (d:=36) kz Tryz.call122 (qfp (F:=(Imm F w bO [⟨b,o,[.int .i32 ((D.f 0).n),.int .i16 ((D.f 1).n),.pointer ((D.f 2).A),.map D.m],false⟩,⟨b5,0,[.int .i64 0,.slice none 0 0,.bool false,.slice none 0 0,.slice none 0 0],true⟩,⟨aa,0,[.int .i64 (IntKind.i64.wrap ((D.f 0).n)),.slice none 0 0,.bool false,.slice none 0 0,.slice none 0 0,.int .i64 (IntKind.i64.wrap ((D.f 1).n)),.slice none 0 0,.bool false,.slice none 0 0,.slice none 0 0,.int .i64 ai,.slice ao aj.length ap,.bool ak,.slice ar al.length au,.slice av am.length aw],true⟩,⟨ah,0,[.int .i64 0,.slice none 0 0,.bool false,.slice (some ⟨aa,0,none⟩) 3 3,.slice none 0 0],true⟩] [])) Tryz.call235 qbM ((hat.one 3 rfl).move ae.step nilM ae.imm) (g4.move ae.step nilM ae.imm) (Str.of ae 3 rfl) (qj6 3 rfl) g4l) ?_)
 rintro e_ cD ⟨rfl,ab,ac,aJ,aV,aW⟩
 obtain ⟨ay,aC,aX⟩:=ae.wrote 3 [⟨b,o,[.int .i32 ((D.f 0).n),.int .i16 ((D.f 1).n),.pointer ((D.f 2).A),.map D.m],false⟩,⟨b5,0,[.int .i64 0,.slice none 0 0,.bool false,.slice none 0 0,.slice none 0 0],true⟩,⟨aa,0,[.int .i64 (IntKind.i64.wrap ((D.f 0).n)),.slice none 0 0,.bool false,.slice none 0 0,.slice none 0 0,.int .i64 (IntKind.i64.wrap ((D.f 1).n)),.slice none 0 0,.bool false,.slice none 0 0,.slice none 0 0,.int .i64 ai,.slice ao aj.length ap,.bool ak,.slice ar al.length au,.slice av am.length aw],true⟩,⟨ah,0,[.int .i64 0,.slice none 0 0,.bool false,.slice (some ⟨aa,0,none⟩) 3 3,.slice ab D.u.length ac],true⟩] rfl aW aJ
 have aD:=aV.move (Step.refl _ Nil) nilM (fun b_ o_ h_ hb_=>aX (G:=F) b_ o_ (.inr h_) hb_)
 refine ⟨_,rfl,fun cE aY=>?_⟩
 have aZ:=(EnvOk.places (tb':=[⟨b,o,[.int .i32 ((D.f 0).n),.int .i16 ((D.f 1).n),.pointer ((D.f 2).A),.map D.m],false⟩,⟨b5,0,[.int .i64 0,.slice none 0 0,.bool false,.slice none 0 0,.slice none 0 0],true⟩,⟨aa,0,[.int .i64 (IntKind.i64.wrap ((D.f 0).n)),.slice none 0 0,.bool false,.slice none 0 0,.slice none 0 0,.int .i64 (IntKind.i64.wrap ((D.f 1).n)),.slice none 0 0,.bool false,.slice none 0 0,.slice none 0 0,.int .i64 ai,.slice ao aj.length ap,.bool ak,.slice ar al.length au,.slice av am.length aw],true⟩,⟨ah,0,[.int .i64 0,.slice none 0 0,.bool false,.slice (some ⟨aa,0,none⟩) 3 3,.slice ab D.u.length ac],true⟩]) aY (show Pl [⟨b,o,[.int .i32 ((D.f 0).n),.int .i16 ((D.f 1).n),.pointer ((D.f 2).A),.map D.m],false⟩,⟨b5,0,[.int .i64 0,.slice none 0 0,.bool false,.slice none 0 0,.slice none 0 0],true⟩,⟨aa,0,[.int .i64 (IntKind.i64.wrap ((D.f 0).n)),.slice none 0 0,.bool false,.slice none 0 0,.slice none 0 0,.int .i64 (IntKind.i64.wrap ((D.f 1).n)),.slice none 0 0,.bool false,.slice none 0 0,.slice none 0 0,.int .i64 ai,.slice ao aj.length ap,.bool ak,.slice ar al.length au,.slice av am.length aw],true⟩,⟨ah,0,[.int .i64 0,.slice none 0 0,.bool false,.slice (some ⟨aa,0,none⟩) 3 3,.slice none 0 0],true⟩] [⟨b,o,[.int .i32 ((D.f 0).n),.int .i16 ((D.f 1).n),.pointer ((D.f 2).A),.map D.m],false⟩,⟨b5,0,[.int .i64 0,.slice none 0 0,.bool false,.slice none 0 0,.slice none 0 0],true⟩,⟨aa,0,[.int .i64 (IntKind.i64.wrap ((D.f 0).n)),.slice none 0 0,.bool false,.slice none 0 0,.slice none 0 0,.int .i64 (IntKind.i64.wrap ((D.f 1).n)),.slice none 0 0,.bool false,.slice none 0 0,.slice none 0 0,.int .i64 ai,.slice ao aj.length ap,.bool ak,.slice ar al.length au,.slice av am.length aw],true⟩,⟨ah,0,[.int .i64 0,.slice none 0 0,.bool false,.slice (some ⟨aa,0,none⟩) 3 3,.slice ab D.u.length ac],true⟩] from ⟨rfl,rfl,⟨rfl,rfl,⟨rfl,rfl,⟨rfl,rfl,trivial⟩⟩⟩⟩)).pk (env':=[(36,.v (.tuple #[])),(2,.p 1 0),(3,.p 3 0),(34,.p 0 3),(35,.v (.func (.func 235) #[] #[.pointer (some ⟨ah,0,none⟩)]))])
 refine qaf (qab ?_)
 refine qae [0,1,2] kz ?_
 refine qal [0,1] [2] [(2,.p 1 0),(3,.p 3 0),(38,.v (.slice ab D.u.length ac))] ay aZ fun cG ba=>?_
 refine qan (qam ba (f:=124) (vs:=[.slice ab D.u.length ac]) (d:=39) kz Tryz.call124 (qhk aD g4.sorted) ?_)
 rintro e_ cH ⟨rfl,aE⟩
 refine ⟨_,rfl,fun cI bd=>?_⟩
 have aF:=ay.next_nil aE
 have af:=ay.frN aE
 refine qaf (qab ?_)
 refine qae [0,1] kz ?_
 refine qal [0] [1] [(2,.p 1 0),(40,.v (.agg #[.int .i64 0,.slice none 0 0,.bool false,.slice (some ⟨aa,0,none⟩) 3 3,.slice ab D.u.length ac]))] aF bd fun cJ bf=>?_
 refine qan (qav aF bf (oi:=1) (cs:=[.int .i64 0,.slice none 0 0,.bool false,.slice (some ⟨aa,0,none⟩) 3 3,.slice ab D.u.length ac]) kz fun az ag aG bg=>?_)
 refine qaf (qab ?_)
 refine wp_ret ?_
 refine qaK bg aG.cells (v:=.agg #[.int .i64 0,.slice none 0 0,.bool false,.slice (some ⟨aa,0,none⟩) 3 3,.slice ab D.u.length ac]) kz ?_
 exact qgb (u:=D.u) (l:=[.mk (IntKind.i64.wrap (D.f 0).n) [] false [] [],.mk (IntKind.i64.wrap (D.f 1).n) [] false [] [],qim (D.f 2).A (D.f 2).s]) (css:=[[.int .i64 (IntKind.i64.wrap ((D.f 0).n)),.slice none 0 0,.bool false,.slice none 0 0,.slice none 0 0],[.int .i64 (IntKind.i64.wrap ((D.f 1).n)),.slice none 0 0,.bool false,.slice none 0 0,.slice none 0 0],[.int .i64 ai,.slice ao aj.length ap,.bool ak,.slice ar al.length au,.slice av am.length aw]]) aG 2 rfl ⟨(show TreeR _ (Imm F w az [⟨b,o,[.int .i32 ((D.f 0).n),.int .i16 ((D.f 1).n),.pointer ((D.f 2).A),.map D.m],false⟩,⟨b5,0,[.int .i64 0,.slice none 0 0,.bool false,.slice (some ⟨aa,0,none⟩) 3 3,.slice ab D.u.length ac],true⟩,⟨aa,0,[.int .i64 (IntKind.i64.wrap ((D.f 0).n)),.slice none 0 0,.bool false,.slice none 0 0,.slice none 0 0,.int .i64 (IntKind.i64.wrap ((D.f 1).n)),.slice none 0 0,.bool false,.slice none 0 0,.slice none 0 0,.int .i64 ai,.slice ao aj.length ap,.bool ak,.slice ar al.length au,.slice av am.length aw],true⟩,⟨ah,0,[.int .i64 0,.slice none 0 0,.bool false,.slice (some ⟨aa,0,none⟩) 3 3,.slice ab D.u.length ac],true⟩] []) _ _ from (TreeR.mk (n:=IntKind.i64.wrap ((D.f 0).n)) (b:=false) (s:=[]) (l:=[]) (u:=[]) (fun _=>[]) (Octs.nil _ _) (Slots.nil _ _ _ _) (fun i_ x_ h_=>by simp at h_) (TagsR.nil _ _))).move (Step.refl _ Nil) nilM qca,(show TreeR _ (Imm F w az [⟨b,o,[.int .i32 ((D.f 0).n),.int .i16 ((D.f 1).n),.pointer ((D.f 2).A),.map D.m],false⟩,⟨b5,0,[.int .i64 0,.slice none 0 0,.bool false,.slice (some ⟨aa,0,none⟩) 3 3,.slice ab D.u.length ac],true⟩,⟨aa,0,[.int .i64 (IntKind.i64.wrap ((D.f 0).n)),.slice none 0 0,.bool false,.slice none 0 0,.slice none 0 0,.int .i64 (IntKind.i64.wrap ((D.f 1).n)),.slice none 0 0,.bool false,.slice none 0 0,.slice none 0 0,.int .i64 ai,.slice ao aj.length ap,.bool ak,.slice ar al.length au,.slice av am.length aw],true⟩,⟨ah,0,[.int .i64 0,.slice none 0 0,.bool false,.slice (some ⟨aa,0,none⟩) 3 3,.slice ab D.u.length ac],true⟩] []) _ _ from (TreeR.mk (n:=IntKind.i64.wrap ((D.f 1).n)) (b:=false) (s:=[]) (l:=[]) (u:=[]) (fun _=>[]) (Octs.nil _ _) (Slots.nil _ _ _ _) (fun i_ x_ h_=>by simp at h_) (TagsR.nil _ _))).move (Step.refl _ Nil) nilM qca,(show TreeR _ (Imm F w az [⟨b,o,[.int .i32 ((D.f 0).n),.int .i16 ((D.f 1).n),.pointer ((D.f 2).A),.map D.m],false⟩,⟨b5,0,[.int .i64 0,.slice none 0 0,.bool false,.slice (some ⟨aa,0,none⟩) 3 3,.slice ab D.u.length ac],true⟩,⟨aa,0,[.int .i64 (IntKind.i64.wrap ((D.f 0).n)),.slice none 0 0,.bool false,.slice none 0 0,.slice none 0 0,.int .i64 (IntKind.i64.wrap ((D.f 1).n)),.slice none 0 0,.bool false,.slice none 0 0,.slice none 0 0,.int .i64 ai,.slice ao aj.length ap,.bool ak,.slice ar al.length au,.slice av am.length aw],true⟩,⟨ah,0,[.int .i64 0,.slice none 0 0,.bool false,.slice (some ⟨aa,0,none⟩) 3 3,.slice ab D.u.length ac],true⟩] []) _ _ from (aI.move (((aB.trans aC).trans af).trans ag).step immM (((aB.trans aC).trans af).trans ag).to')).move (Step.refl _ Nil) nilM qca,trivial⟩ ((show TagsR _ (Imm F w az [⟨b,o,[.int .i32 ((D.f 0).n),.int .i16 ((D.f 1).n),.pointer ((D.f 2).A),.map D.m],false⟩,⟨b5,0,[.int .i64 0,.slice none 0 0,.bool false,.slice (some ⟨aa,0,none⟩) 3 3,.slice ab D.u.length ac],true⟩,⟨aa,0,[.int .i64 (IntKind.i64.wrap ((D.f 0).n)),.slice none 0 0,.bool false,.slice none 0 0,.slice none 0 0,.int .i64 (IntKind.i64.wrap ((D.f 1).n)),.slice none 0 0,.bool false,.slice none 0 0,.slice none 0 0,.int .i64 ai,.slice ao aj.length ap,.bool ak,.slice ar al.length au,.slice av am.length aw],true⟩,⟨ah,0,[.int .i64 0,.slice none 0 0,.bool false,.slice (some ⟨aa,0,none⟩) 3 3,.slice ab D.u.length ac],true⟩] []) _ _ _ from (aD.move (af.trans ag).step immM (af.trans ag).to')).move (Step.refl _ Nil) nilM qca)
set_option maxHeartbeats 4000000 in
theorem qbn (v : Int) (D : DV) (b o : Nat) (w : World) (F : Nat → Nat → Prop) (hat : AtF w F b o [qad ((D.f 0).o.getD 0 0),qad ((D.f 0).o.getD 1 0),qad ((D.f 0).o.getD 2 0),qad ((D.f 0).o.getD 3 0),qad ((D.f 0).o.getD 4 0),qad ((D.f 0).o.getD 5 0),qad ((D.f 0).o.getD 6 0),qad ((D.f 0).o.getD 7 0),qad ((D.f 0).o.getD 8 0),qad ((D.f 0).o.getD 9 0),qad ((D.f 0).o.getD 10 0),qad ((D.f 0).o.getD 11 0),qad ((D.f 0).o.getD 12 0),qad ((D.f 0).o.getD 13 0),qad ((D.f 0).o.getD 14 0),qad ((D.f 0).o.getD 15 0),.slice ((D.f 1).A) ((D.f 1).l) ((D.f 1).c),.map D.m]) (hok : qaS w F D) : Calls Tryz.prog 157 #[.pointer (some ⟨b,o,none⟩)] w (qdZ w F (qaT D)):=by
 refine enter (n:=81) Tryz.func157 rfl Tryz.ntmps157 kz fun a hE=>?_
 have hW : WOk w Nil w [⟨b,o,[qad ((D.f 0).o.getD 0 0),qad ((D.f 0).o.getD 1 0),qad ((D.f 0).o.getD 2 0),qad ((D.f 0).o.getD 3 0),qad ((D.f 0).o.getD 4 0),qad ((D.f 0).o.getD 5 0),qad ((D.f 0).o.getD 6 0),qad ((D.f 0).o.getD 7 0),qad ((D.f 0).o.getD 8 0),qad ((D.f 0).o.getD 9 0),qad ((D.f 0).o.getD 10 0),qad ((D.f 0).o.getD 11 0),qad ((D.f 0).o.getD 12 0),qad ((D.f 0).o.getD 13 0),qad ((D.f 0).o.getD 14 0),qad ((D.f 0).o.getD 15 0),.slice ((D.f 1).A) ((D.f 1).l) ((D.f 1).c),.map D.m],false⟩] []:=(WOk.start w Nil).start1 hat rfl rfl
 unfold qaS at hok
 obtain ⟨g1,⟨g2,g2l,g2e⟩,g3,g3l,g3x,_⟩:=hok
 have hE0:=(EnvOk.ptr0 (cs:=[qad ((D.f 0).o.getD 0 0),qad ((D.f 0).o.getD 1 0),qad ((D.f 0).o.getD 2 0),qad ((D.f 0).o.getD 3 0),qad ((D.f 0).o.getD 4 0),qad ((D.f 0).o.getD 5 0),qad ((D.f 0).o.getD 6 0),qad ((D.f 0).o.getD 7 0),qad ((D.f 0).o.getD 8 0),qad ((D.f 0).o.getD 9 0),qad ((D.f 0).o.getD 10 0),qad ((D.f 0).o.getD 11 0),qad ((D.f 0).o.getD 12 0),qad ((D.f 0).o.getD 13 0),qad ((D.f 0).o.getD 14 0),qad ((D.f 0).o.getD 15 0),.slice ((D.f 1).A) ((D.f 1).l) ((D.f 1).c),.map D.m]) (r:=false) hE).pk (env':=[(0,.p 0 0)])
 have hu4:=qlI (k:=0) (s:=(D.f 0).o) hat g1 (fun j hj=>by match j,hj with | 0,_=>rfl | 1,_=>rfl | 2,_=>rfl | 3,_=>rfl | 4,_=>rfl | 5,_=>rfl | 6,_=>rfl | 7,_=>rfl | 8,_=>rfl | 9,_=>rfl | 10,_=>rfl | 11,_=>rfl | 12,_=>rfl | 13,_=>rfl | 14,_=>rfl | 15,_=>rfl | n_ + 16,h_=>exact absurd h_ (by omega))
 refine qae [0] kz ?_
 refine qan (qaO hW hE0 (d:=2) (cs:=[.int .i64 0,.slice none 0 0,.bool false,.slice none 0 0,.slice none 0 0]) kz fun b5 a6 w7 hb8 hz9 g6 fH fI=>?_)
 refine qaf (qab ?_)
 refine qae [0,1,2,3] kz ?_
 refine qan (qeH (t:=34) (e:=37) (size:=5) (bytes:=88) (d:=5) (j:=2) (.agg #[.int .i64 0,.slice none 0 0,.bool false,.slice none 0 0,.slice none 0 0]) [.int .i64 0,.slice none 0 0,.bool false,.slice none 0 0,.slice none 0 0,.int .i64 0,.slice none 0 0,.bool false,.slice none 0 0,.slice none 0 0] fH fI fun aa jC jD g7 g8 g9 dx fJ=>?_)
 refine qal [1] [2,3] [(0,.p 0 0),(2,.p 1 0),(6,.v (.agg #[.int .i64 0,.slice none 0 0,.bool false,.slice (some ⟨aa,0,none⟩) 2 2,.slice none 0 0]))] dx fJ fun jE fK=>?_
 refine qan (qaO dx fK (d:=3) (cs:=[.int .i64 0,.slice none 0 0,.bool false,.slice none 0 0,.slice none 0 0]) kz fun bB jF jG hC hJ hK fL fM=>?_)
 refine qan (qav fL fM (oi:=3) (cs:=[.int .i64 0,.slice none 0 0,.bool false,.slice (some ⟨aa,0,none⟩) 2 2,.slice none 0 0]) kz fun jH hZ fN fO=>?_)
 refine qaf (qab ?_)
 refine qaL 9 kz fN fun jI ia dy fP=>?_
 refine qaI [0,1,2,3,4,5] [(0,.p 0 0),(2,.p 1 0),(3,.p 3 0),(8,.v (.slice (some ⟨aa,0,none⟩) 2 2)),(12,.v (.slice (some ⟨b,o,none⟩) 16 16))] 4 (qaa qag) (fun _ h=>h.cells) fP fO fun jJ fQ=>?_
 have bY:=dy.addNil 5 1
 have fR:=dy.frNil 5 1
 refine qaw (i:=6) kz (qaW bY fQ (k:=0) (d:=13) (t:=22) (e:=5) (size:=1) (bytes:=1) (A:=none) (As:=(some ⟨b,o,none⟩)) (m0:=0) (c:=0) (m:=16) (cs:=16) (xs:=[]) (news:=bc ((D.f 0).o)) kz kz rfl (hu4.move bY.step nilM bY.imm).src (hu4.move bY.step nilM bY.imm).cap (by omega) fun ac ae jK jL fS fT fU=>?_)
 have fV : (⟨ac,ae,5,1,0 + 16,[] ++ bc ((D.f 0).o)⟩ : Rw) = brow ac ae 5 ((D.f 0).o):=by rw [List.nil_append]; unfold brow; rw [g1]
 obtain ⟨dz,fW⟩:=fT.rowEq 0 [brow ac ae 5 ((D.f 0).o)] fV
 have fX:=EnvOk.pick fU (ks:=[0,2,3,8,12,13]) (env':=[(0,.p 0 0),(2,.p 1 0),(3,.p 3 0),(8,.v (.slice (some ⟨aa,0,none⟩) 2 2)),(12,.v (.slice (some ⟨b,o,none⟩) 16 16)),(13,.v (.slice ac (0 + 16) ae))]) kz
 have fY:=fX.cast (env':=[(0,.p 0 0),(2,.p 1 0),(3,.p 3 0),(8,.v (.slice (some ⟨aa,0,none⟩) 2 2)),(12,.v (.slice (some ⟨b,o,none⟩) 16 16)),(13,.v (.slice ac (((D.f 0).o).length) ae))]) (by rw [g1])
 have di:=TT.ofW ((fR.trans fS).trans fW) dz
 refine ⟨fun _=>di,?_⟩
 refine qaI [7] [(0,.p 0 0),(2,.p 1 0),(3,.p 3 0),(8,.v (.slice (some ⟨aa,0,none⟩) 2 2)),(14,.v (.agg #[.int .i64 0,.slice ac (((D.f 0).o).length) ae,.bool false,.slice none 0 0,.slice none 0 0]))] 2 (qaa qag) (fun _ h=>h.cells) di fY fun jM fZ=>?_
 refine qaV fZ (i:=8) (t:=34) (A:=(some ⟨aa,0,none⟩)) (m:=2) (q:=0) (d:=15) kz (e:=37) (size:=5) (bytes:=88) (j:=0) kz (b:=aa) (o:=0) rfl rfl (by decide) kz kz (qaa qag) di fun jN f5=>?_
 have f7:=f5.recast 15 (.v (.pointer (some ⟨aa,0 + 0 * 5,none⟩))) (.p 2 0) rfl rfl (Nat.le_of_ble_eq_true (n:=3) rfl)
 have f8:=f7.pk (env':=[(0,.p 0 0),(2,.p 1 0),(3,.p 3 0),(8,.v (.slice (some ⟨aa,0,none⟩) 2 2)),(14,.v (.agg #[.int .i64 0,.slice ac (((D.f 0).o).length) ae,.bool false,.slice none 0 0,.slice none 0 0])),(15,.p 2 0)])
 refine qaw (i:=9) kz (qav dz f8 (oi:=2) (cs:=[.int .i64 0,.slice ac (((D.f 0).o).length) ae,.bool false,.slice none 0 0,.slice none 0 0,.int .i64 0,.slice none 0 0,.bool false,.slice none 0 0,.slice none 0 0]) kz fun jO ib ga gb=>?_)
 refine ⟨fun h=>absurd rfl h,?_⟩
 refine qaF kz ?_ _
 refine qab ?_
 refine qaL 9 kz ga fun jP ic gc dj=>?_
 refine qaI [0,1,2,3,4,5,6] [(0,.p 0 0),(2,.p 1 0),(3,.p 3 0),(17,.v (.slice (some ⟨aa,0,none⟩) 2 2)),(22,.v (.bool (((D.f 1).A).isNone)))] 3 (qaa qag) (fun _ h=>h.cells) dj gb fun jQ gd=>?_
 refine qaw (i:=7) kz (qaC gd (t:=34) (A:=(some ⟨aa,0,none⟩)) (m:=2) (q:=1) (d:=23) kz (e:=37) (size:=5) (bytes:=88) (j:=1) kz (b:=aa) (o:=0) rfl rfl (by decide) fun jR ge=>?_)
 have gg:=ge.recast 23 (.v (.pointer (some ⟨aa,0 + 1 * 5,none⟩))) (.p 2 5) rfl rfl (Nat.le_of_ble_eq_true (n:=3) rfl)
 have gh:=gg.pk (env':=[(0,.p 0 0),(2,.p 1 0),(3,.p 3 0),(17,.v (.slice (some ⟨aa,0,none⟩) 2 2)),(22,.v (.bool (((D.f 1).A).isNone))),(23,.p 2 5)])
 refine ⟨fun _=>dj,?_⟩
 refine qaI [8] [(0,.p 0 0),(2,.p 1 0),(3,.p 3 0),(22,.v (.bool (((D.f 1).A).isNone))),(24,.p 2 7)] 1 (qaa qag) (fun _ h=>h.cells) dj gh fun jS gi=>?_
 refine qaw (i:=9) kz (qav gc gi (oi:=2) (cs:=[.int .i64 0,.slice ac (((D.f 0).o).length) ae,.bool false,.slice none 0 0,.slice none 0 0,.int .i64 0,.slice none 0 0,.bool (((D.f 1).A).isNone),.slice none 0 0,.slice none 0 0]) kz fun jT ig dl gj=>?_)
 refine ⟨fun h=>absurd rfl h,?_⟩
 refine qaF kz ?_ _
 refine qab ?_
 refine wp_seq ?_
 refine qaq [(0,.p 0 0),(2,.p 1 0),(3,.p 3 0),(29,.v (.int .i64 (((D.f 1).l : Nat) : Int))),(30,.v (.int .i64 0))] dl gj fun jU gk=>?_
 refine wp_block ?_
 have dA:=dl.addNil 37 5
 have ii:=dl.frNil 37 5
 refine wp_loop_ghost (fun n_ a_ w_=>∃ (k1_ : Nat) (A1_ : Option Addr) (c1_ : Nat) (xs1_ : List Value) (css1_ : List (List Value)),n_ = (D.f 1).l - k1_ ∧ k1_ ≤ (D.f 1).l ∧ (Trees w_ (Imm F w w_ [⟨b,o,[qad ((D.f 0).o.getD 0 0),qad ((D.f 0).o.getD 1 0),qad ((D.f 0).o.getD 2 0),qad ((D.f 0).o.getD 3 0),qad ((D.f 0).o.getD 4 0),qad ((D.f 0).o.getD 5 0),qad ((D.f 0).o.getD 6 0),qad ((D.f 0).o.getD 7 0),qad ((D.f 0).o.getD 8 0),qad ((D.f 0).o.getD 9 0),qad ((D.f 0).o.getD 10 0),qad ((D.f 0).o.getD 11 0),qad ((D.f 0).o.getD 12 0),qad ((D.f 0).o.getD 13 0),qad ((D.f 0).o.getD 14 0),qad ((D.f 0).o.getD 15 0),.slice ((D.f 1).A) ((D.f 1).l) ((D.f 1).c),.map D.m],false⟩,⟨b5,0,[.int .i64 0,.slice none 0 0,.bool false,.slice none 0 0,.slice none 0 0],true⟩,⟨aa,0,[.int .i64 0,.slice ac (((D.f 0).o).length) ae,.bool false,.slice none 0 0,.slice none 0 0,.int .i64 0,.slice none 0 0,.bool (((D.f 1).A).isNone),.slice A1_ k1_ c1_,.slice none 0 0],true⟩,⟨bB,0,[.int .i64 0,.slice none 0 0,.bool false,.slice (some ⟨aa,0,none⟩) 2 2,.slice none 0 0],true⟩] [brow ac ae 5 ((D.f 0).o),⟨A1_,c1_,37,5,k1_,xs1_⟩]) xs1_ (((List.range (D.f 1).l).map (fun i=>qaH ((D.f 1).f i))).take k1_) css1_) ∧ LInv dA 81 [⟨b,o,[qad ((D.f 0).o.getD 0 0),qad ((D.f 0).o.getD 1 0),qad ((D.f 0).o.getD 2 0),qad ((D.f 0).o.getD 3 0),qad ((D.f 0).o.getD 4 0),qad ((D.f 0).o.getD 5 0),qad ((D.f 0).o.getD 6 0),qad ((D.f 0).o.getD 7 0),qad ((D.f 0).o.getD 8 0),qad ((D.f 0).o.getD 9 0),qad ((D.f 0).o.getD 10 0),qad ((D.f 0).o.getD 11 0),qad ((D.f 0).o.getD 12 0),qad ((D.f 0).o.getD 13 0),qad ((D.f 0).o.getD 14 0),qad ((D.f 0).o.getD 15 0),.slice ((D.f 1).A) ((D.f 1).l) ((D.f 1).c),.map D.m],false⟩,⟨b5,0,[.int .i64 0,.slice none 0 0,.bool false,.slice none 0 0,.slice none 0 0],true⟩,⟨aa,0,[.int .i64 0,.slice ac (((D.f 0).o).length) ae,.bool false,.slice none 0 0,.slice none 0 0,.int .i64 0,.slice none 0 0,.bool (((D.f 1).A).isNone),.slice A1_ k1_ c1_,.slice none 0 0],true⟩,⟨bB,0,[.int .i64 0,.slice none 0 0,.bool false,.slice (some ⟨aa,0,none⟩) 2 2,.slice none 0 0],true⟩] [brow ac ae 5 ((D.f 0).o),⟨A1_,c1_,37,5,k1_,xs1_⟩] [(0,.p 0 0),(2,.p 1 0),(3,.p 3 0),(29,.v (.int .i64 (((D.f 1).l : Nat) : Int))),(30,.v (.int .i64 ((k1_ : Nat) : Int)))] a_ w_) ((D.f 1).l) ⟨0,none,0,[],[],by omega,by omega,Trees.nil _ _,gk.pk,dA,Fr.refl _ _ _⟩ ?_
 rintro jV jW ij ⟨k1_,A1_,c1_,xs1_,css1_,ik,il,hT1_,gl,aB,dp⟩
 refine qaq [(0,.p 0 0),(2,.p 1 0),(3,.p 3 0),(29,.v (.int .i64 (((D.f 1).l : Nat) : Int))),(30,.v (.int .i64 ((k1_ : Nat) : Int))),(31,.v (.bool (decide (((k1_ : Nat) : Int) < (((D.f 1).l : Nat) : Int)))))] aB gl fun jX dq=>?_
 refine wp_seq ?_
 refine qax dq (b:=decide (((k1_ : Nat) : Int) < (((D.f 1).l : Nat) : Int))) kz (fun dr=>?_) (fun dr=>?_)
 ·
  have im:=of_decide_eq_true dr
  refine wp_skip ?_
  refine qab ?_
  refine wp_seq ?_
  refine wp_block ?_
  refine qaq [(0,.p 0 0),(2,.p 1 0),(3,.p 3 0),(4,.v (.int .i64 ((k1_ : Nat) : Int))),(29,.v (.int .i64 (((D.f 1).l : Nat) : Int))),(30,.v (.int .i64 ((k1_ : Nat) : Int)))] aB dq fun jY dB=>?_
  refine qaL 4 kz aB fun io af dC gF=>?_
  refine qaw (i:=0) kz (qaO dC dB (d:=33) (cs:=[.bool false]) kz fun ip iq ir gG gH ab bZ cJ=>?_)
  have dD:=TT.ofW ab bZ
  refine ⟨fun _=>dD,?_⟩
  refine qew (i:=1) (j:=2) kz ?_ ?_
  ·
   refine (qav bZ cJ (oi:=4) (cs:=[.bool true]) kz fun iu aE cK dE=>?_)
   have dF:=TT.ofW (ab.trans aE) cK
   refine ⟨fun _=>dF,?_⟩
   refine qaw (i:=2) kz (qav cK dE (oi:=4) (cs:=[.bool false]) kz fun iv bg bC dG=>?_)
   have dH:=TT.ofW ((ab.trans aE).trans bg) bC
   refine ⟨fun _=>dH,?_⟩
   refine qaw (i:=3) kz (qbl [0,2,3,4,29,30,34] bC.cells dG (env':=[(0,.p 0 0),(2,.p 1 0),(3,.p 3 0),(4,.v (.int .i64 ((k1_ : Nat) : Int))),(29,.v (.int .i64 (((D.f 1).l : Nat) : Int))),(30,.v (.int .i64 ((k1_ : Nat) : Int))),(34,.v (.bool false))]) kz fun iw cL=>?_)
   have dI:=TT.ofW ((ab.trans aE).trans bg) bC
   refine ⟨fun _=>dI,?_⟩
   refine qaF kz ?_ _
   refine qab ?_
   refine qar cL (b:=false) kz rfl ?_
   refine qcM 18 kz bC fun ix b8 ap bD=>?_
   refine qaI [0,1,2,3,7,8,9,10,11] [(0,.p 0 0),(2,.p 1 0),(3,.p 3 0),(29,.v (.int .i64 (((D.f 1).l : Nat) : Int))),(30,.v (.int .i64 ((k1_ : Nat) : Int))),(54,.v (.slice (some ⟨aa,0,none⟩) 2 2)),(56,.v (.slice (some ⟨aa,0,none⟩) 2 2)),(63,.v (.slice ((D.f 1).A) ((D.f 1).l) ((D.f 1).c))),(64,.v (.int .i64 ((k1_ : Nat) : Int)))] 10 (qac (qaa (qaa (qac (qaa qag))))) (fun _ h=>h.cells) bD cL fun iy dJ=>?_
   refine qaV dJ (i:=4) (t:=34) (A:=(some ⟨aa,0,none⟩)) (m:=2) (q:=1) (d:=57) kz (e:=37) (size:=5) (bytes:=88) (j:=1) kz (b:=aa) (o:=0) rfl rfl (by decide) kz kz (qac (qaa (qaa (qac (qaa qag))))) bD fun iz dK=>?_
   have dL:=dK.recast 57 (.v (.pointer (some ⟨aa,0 + 1 * 5,none⟩))) (.p 2 5) rfl rfl (Nat.le_of_ble_eq_true (n:=3) rfl)
   have dM:=dL.pk (env':=[(0,.p 0 0),(2,.p 1 0),(3,.p 3 0),(29,.v (.int .i64 (((D.f 1).l : Nat) : Int))),(30,.v (.int .i64 ((k1_ : Nat) : Int))),(54,.v (.slice (some ⟨aa,0,none⟩) 2 2)),(56,.v (.slice (some ⟨aa,0,none⟩) 2 2)),(63,.v (.slice ((D.f 1).A) ((D.f 1).l) ((D.f 1).c))),(64,.v (.int .i64 ((k1_ : Nat) : Int))),(57,.p 2 5)])
   refine qaI [5,6] [(0,.p 0 0),(2,.p 1 0),(3,.p 3 0),(29,.v (.int .i64 (((D.f 1).l : Nat) : Int))),(30,.v (.int .i64 ((k1_ : Nat) : Int))),(54,.v (.slice (some ⟨aa,0,none⟩) 2 2)),(59,.v (.slice A1_ k1_ c1_)),(63,.v (.slice ((D.f 1).A) ((D.f 1).l) ((D.f 1).c))),(64,.v (.int .i64 ((k1_ : Nat) : Int)))] 7 (qac (qaa (qaa (qac (qaa qag))))) (fun _ h=>h.cells) bD dM fun iA dN=>?_
   obtain ⟨dO,dP,dQ,gI,dt⟩:=Slots.get g2 (i:=k1_) (by omega)
   refine qaV dN (i:=12) (t:=165) (A:=(D.f 1).A) (m:=((D.f 1).l)) (q:=((k1_ : Nat) : Int)) (d:=65) kz (e:=220) (size:=4) (bytes:=24) kz dQ rfl (by omega) kz kz (qac (qaa (qaa (qac (qaa qag))))) bD fun iB dR=>?_
   refine qaw (i:=13) kz (qam dR (f:=210) (vs:=[.pointer (some ⟨dO,dP + k1_ * 4,none⟩)]) (d:=66) kz Tryz.call210 (qbf 0 ((D.f 1).f k1_) _ _ _ _ (dt.move ap.step nilM ap.imm) (qaN _ ap.step nilM ap.imm (g2e k1_ (by omega)))) ?_)
   rintro e_ iC ⟨gJ,rfl,dS,cd⟩
   have ce:=dS.move (Step.refl _ Nil) nilM (ap.laid (G:=F) cd)
   obtain ⟨bL,bM,bN,bO,bP,bQ,bR,bS,bT,bU,bV,gK,gL,cm,gm,gn,iD,iE⟩:=ce.open_
   rw [cm] at ce
   have gp:=gm.small
   have gq:=gn.small
   rw [cm]
   refine ⟨_,rfl,fun iF dT=>?_⟩
   have cM:=ap.next_nil cd
   have ar:=ap.frN cd
   have dU:=TT.ofW ar cM
   refine ⟨fun _=>dU,?_⟩
   refine qaw (i:=14) kz (qbx cM dT (e:=37) (size:=5) (len:=1) (cs:=[.int .i64 bL,.slice bQ bM.length bR,.bool bN,.slice bS bO.length bT,.slice bU bP.length bV]) (d:=67) kz kz fun dV iG iH gM gN ah bE dW=>?_)
   have dX:=TT.ofW (ar.trans ah) bE
   refine ⟨fun _=>dX,?_⟩
   refine qaw (i:=15) kz (qaW bE dW (k:=1) (d:=68) (t:=34) (e:=37) (size:=5) (bytes:=88) (A:=A1_) (As:=(some ⟨dV,0,none⟩)) (m0:=k1_) (c:=c1_) (m:=1) (cs:=1) (xs:=xs1_) (news:=[.int .i64 bL,.slice bQ bM.length bR,.bool bN,.slice bS bO.length bT,.slice bU bP.length bV]) kz kz rfl (qbE (bE.own 2 _ rfl) (qbD kz)) (qbI (bE.own 2 _ rfl)) (by omega) fun bW bX iI iJ au cq dY=>?_)
   have dZ:=TT.ofW ((ar.trans ah).trans au) cq
   refine ⟨fun _=>dZ,?_⟩
   refine qaw (i:=16) kz (qaC dY (t:=34) (A:=(some ⟨aa,0,none⟩)) (m:=2) (q:=1) (d:=69) kz (e:=37) (size:=5) (bytes:=88) (j:=1) kz (b:=aa) (o:=0) rfl rfl (by decide) fun iK d5=>?_)
   have d6:=d5.recast 69 (.v (.pointer (some ⟨aa,0 + 1 * 5,none⟩))) (.p 2 5) rfl rfl (Nat.le_of_ble_eq_true (n:=3) rfl)
   have d7:=d6.pk (env':=[(0,.p 0 0),(2,.p 1 0),(3,.p 3 0),(29,.v (.int .i64 (((D.f 1).l : Nat) : Int))),(30,.v (.int .i64 ((k1_ : Nat) : Int))),(54,.v (.slice (some ⟨aa,0,none⟩) 2 2)),(59,.v (.slice A1_ k1_ c1_)),(63,.v (.slice ((D.f 1).A) ((D.f 1).l) ((D.f 1).c))),(64,.v (.int .i64 ((k1_ : Nat) : Int))),(65,.v (.pointer (some ⟨dO,dP + k1_ * 4,none⟩))),(66,.v (.agg #[.int .i64 bL,.slice bQ bM.length bR,.bool bN,.slice bS bO.length bT,.slice bU bP.length bV])),(67,.v (.slice (some ⟨dV,0,none⟩) 1 1)),(68,.v (.slice bW (k1_ + 1) bX)),(69,.p 2 5)])
   have cN:=TT.ofW ((ar.trans ah).trans au) cq
   refine ⟨fun _=>cN,?_⟩
   refine qaI [17] [(0,.p 0 0),(2,.p 1 0),(3,.p 3 0),(29,.v (.int .i64 (((D.f 1).l : Nat) : Int))),(30,.v (.int .i64 ((k1_ : Nat) : Int))),(68,.v (.slice bW (k1_ + 1) bX)),(70,.p 2 8)] 1 (qac (qaa (qaa (qac (qaa qag))))) (fun _ h=>h.cells) cN d7 fun iL d8=>?_
   refine qaw (i:=18) kz (qav cq d8 (oi:=2) (cs:=[.int .i64 0,.slice ac (((D.f 0).o).length) ae,.bool false,.slice none 0 0,.slice none 0 0,.int .i64 0,.slice none 0 0,.bool (((D.f 1).A).isNone),.slice bW (k1_ + 1) bX,.slice none 0 0]) kz fun iM bh cO d9=>?_)
   refine ⟨fun h=>absurd rfl h,?_⟩
   refine qaF kz ?_ _
   refine qat ?_
   refine qab ?_
   refine qas [0,1] kz ?_
   refine qal [0,1] [] [(0,.p 0 0),(2,.p 1 0),(3,.p 3 0),(29,.v (.int .i64 (((D.f 1).l : Nat) : Int))),(30,.v (.int .i64 (IntKind.i64.wrap (((k1_ : Nat) : Int) + 1))))] cO d9 fun iN ea=>?_
   refine qaf (qab ?_)
   obtain ⟨cP,eb,bi⟩:=cO.cutB ea 4 [⟨b,o,[qad ((D.f 0).o.getD 0 0),qad ((D.f 0).o.getD 1 0),qad ((D.f 0).o.getD 2 0),qad ((D.f 0).o.getD 3 0),qad ((D.f 0).o.getD 4 0),qad ((D.f 0).o.getD 5 0),qad ((D.f 0).o.getD 6 0),qad ((D.f 0).o.getD 7 0),qad ((D.f 0).o.getD 8 0),qad ((D.f 0).o.getD 9 0),qad ((D.f 0).o.getD 10 0),qad ((D.f 0).o.getD 11 0),qad ((D.f 0).o.getD 12 0),qad ((D.f 0).o.getD 13 0),qad ((D.f 0).o.getD 14 0),qad ((D.f 0).o.getD 15 0),.slice ((D.f 1).A) ((D.f 1).l) ((D.f 1).c),.map D.m],false⟩,⟨b5,0,[.int .i64 0,.slice none 0 0,.bool false,.slice none 0 0,.slice none 0 0],true⟩,⟨aa,0,[.int .i64 0,.slice ac (((D.f 0).o).length) ae,.bool false,.slice none 0 0,.slice none 0 0,.int .i64 0,.slice none 0 0,.bool (((D.f 1).A).isNone),.slice bW (k1_ + 1) bX,.slice none 0 0],true⟩,⟨bB,0,[.int .i64 0,.slice none 0 0,.bool false,.slice (some ⟨aa,0,none⟩) 2 2,.slice none 0 0],true⟩] [(0,.p 0 0),(2,.p 1 0),(3,.p 3 0),(29,.v (.int .i64 (((D.f 1).l : Nat) : Int))),(30,.v (.int .i64 (IntKind.i64.wrap (((k1_ : Nat) : Int) + 1))))]
   obtain ⟨ec,bj⟩:=eb.cutR 2 [brow ac ae 5 ((D.f 0).o),⟨bW,bX,37,5,k1_ + 1,xs1_ ++ [.int .i64 bL,.slice bQ bM.length bR,.bool bN,.slice bS bO.length bT,.slice bU bP.length bV]⟩]
   have ee : IntKind.i64.wrap (((k1_ : Nat) : Int) + 1) = ((k1_ + 1 : Nat) : Int):=qaR (by omega)
   rw [ee] at cP
   exact ⟨(D.f 1).l - (k1_ + 1),by omega,k1_ + 1,bW,bX,xs1_ ++ [Value.int .i64 bL,.slice bQ bM.length bR,.bool bN,.slice bS bO.length bT,.slice bU bP.length bV],(css1_ ++ [[Value.int .i64 bL,.slice bQ bM.length bR,.bool bN,.slice bS bO.length bT,.slice bU bP.length bV]]),rfl,by omega,by rw [qcT (by omega)]; exact (hT1_.move ((((((((((af.trans ab).trans aE).trans bg).trans b8).trans ar).trans ah).trans au).trans bh).trans bi).trans bj).step immM ((((((((((af.trans ab).trans aE).trans bg).trans b8).trans ar).trans ah).trans au).trans bh).trans bi).trans bj).to').snoc (x:=(fun i=>qaH ((D.f 1).f i)) k1_) (ce.move ((((ah.trans au).trans bh).trans bi).trans bj).step immM ((((ah.trans au).trans bh).trans bi).trans bj).to'),cP.pk,ec,(((((((((((dp.trans af).trans ab).trans aE).trans bg).trans b8).trans ar).trans ah).trans au).trans bh).trans bi).trans bj)⟩
  refine (qav bZ cJ (oi:=4) (cs:=[.bool false]) kz fun iO ag cQ ef=>?_)
  have eg:=TT.ofW (ab.trans ag) cQ
  refine ⟨fun _=>eg,?_⟩
  refine qaw (i:=1) kz (qav cQ ef (oi:=4) (cs:=[.bool true]) kz fun iP ai bF eh=>?_)
  have ei:=TT.ofW ((ab.trans ag).trans ai) bF
  refine ⟨fun _=>ei,?_⟩
  refine qaw (i:=3) kz (qbl [0,2,3,4,29,30,34] bF.cells eh (env':=[(0,.p 0 0),(2,.p 1 0),(3,.p 3 0),(4,.v (.int .i64 ((k1_ : Nat) : Int))),(29,.v (.int .i64 (((D.f 1).l : Nat) : Int))),(30,.v (.int .i64 ((k1_ : Nat) : Int))),(34,.v (.bool true))]) kz fun iQ cR=>?_)
  have ej:=TT.ofW ((ab.trans ag).trans ai) bF
  refine ⟨fun _=>ej,?_⟩
  refine qaF kz ?_ _
  refine qab ?_
  refine qa8 cR (b:=true) kz rfl ?_
  refine qaL 17 kz bF fun iR aF aj bG=>?_
  refine qaI [0,1,5,6,7,8,9] [(0,.p 0 0),(2,.p 1 0),(3,.p 3 0),(29,.v (.int .i64 (((D.f 1).l : Nat) : Int))),(30,.v (.int .i64 ((k1_ : Nat) : Int))),(36,.v (.slice (some ⟨aa,0,none⟩) 2 2)),(43,.v (.slice ((D.f 1).A) ((D.f 1).l) ((D.f 1).c))),(44,.v (.int .i64 ((k1_ : Nat) : Int)))] 11 (qaa (qac (qaa (qaa (qac (qaa qag)))))) (fun _ h=>h.cells) bG cR fun iS ek=>?_
  refine qaV ek (i:=2) (t:=34) (A:=(some ⟨aa,0,none⟩)) (m:=2) (q:=1) (d:=37) kz (e:=37) (size:=5) (bytes:=88) (j:=1) kz (b:=aa) (o:=0) rfl rfl (by decide) kz kz (qaa (qac (qaa (qaa (qac (qaa qag)))))) bG fun iT em=>?_
  have eo:=em.recast 37 (.v (.pointer (some ⟨aa,0 + 1 * 5,none⟩))) (.p 2 5) rfl rfl (Nat.le_of_ble_eq_true (n:=3) rfl)
  have ep:=eo.pk (env':=[(0,.p 0 0),(2,.p 1 0),(3,.p 3 0),(29,.v (.int .i64 (((D.f 1).l : Nat) : Int))),(30,.v (.int .i64 ((k1_ : Nat) : Int))),(36,.v (.slice (some ⟨aa,0,none⟩) 2 2)),(43,.v (.slice ((D.f 1).A) ((D.f 1).l) ((D.f 1).c))),(44,.v (.int .i64 ((k1_ : Nat) : Int))),(37,.p 2 5)])
  refine qaI [3,4,12] [(0,.p 0 0),(2,.p 1 0),(3,.p 3 0),(29,.v (.int .i64 (((D.f 1).l : Nat) : Int))),(30,.v (.int .i64 ((k1_ : Nat) : Int))),(36,.v (.slice (some ⟨aa,0,none⟩) 2 2)),(39,.v (.slice A1_ k1_ c1_)),(43,.v (.slice ((D.f 1).A) ((D.f 1).l) ((D.f 1).c))),(44,.v (.int .i64 ((k1_ : Nat) : Int))),(47,.v (.int .i64 ((k1_ : Nat) : Int)))] 7 (qaa (qac (qaa (qaa (qac (qaa qag)))))) (fun _ h=>h.cells) bG ep fun iU eu=>?_
  obtain ⟨cH,cI,ev,gO,cr⟩:=Slots.get g2 (i:=k1_) (by omega)
  refine qaV eu (i:=10) (t:=165) (A:=(D.f 1).A) (m:=((D.f 1).l)) (q:=((k1_ : Nat) : Int)) (d:=45) kz (e:=220) (size:=4) (bytes:=24) kz ev rfl (by omega) kz kz (qaa (qac (qaa (qaa (qac (qaa qag)))))) bG fun iV cS=>?_
  refine qew (i:=11) (j:=13) kz ?_ ?_
  ·
   refine (qam cS (f:=210) (vs:=[.pointer (some ⟨cH,cI + k1_ * 4,none⟩)]) (d:=46) kz Tryz.call210 (qbf 0 ((D.f 1).f k1_) _ _ _ _ (cr.move aj.step nilM aj.imm) (qaN _ aj.step nilM aj.imm (g2e k1_ (by omega)))) ?_)
   rintro e_ iW ⟨gP,rfl,ew,cu⟩
   have cw:=ew.move (Step.refl _ Nil) nilM (aj.laid (G:=F) cu)
   obtain ⟨aH,aI,aJ,aK,aL,aM,aN,aO,aP,aQ,aR,gQ,gR,cz,gt,gv,iX,iY⟩:=cw.open_
   rw [cz] at cw
   have gw:=gt.small
   have gx:=gv.small
   rw [cz]
   refine ⟨_,rfl,fun iZ ey=>?_⟩
   have cT:=aj.next_nil cu
   have av:=aj.frN cu
   have ez:=TT.ofW av cT
   refine ⟨fun _=>ez,?_⟩
   refine qaw (i:=13) kz (qbx cT ey (e:=37) (size:=5) (len:=1) (cs:=[.int .i64 0,.slice none 0 0,.bool false,.slice none 0 0,.slice none 0 0]) (d:=48) kz kz fun du i6 i7 gS gT ak bH eB=>?_)
   have eC:=TT.ofW (av.trans ak) bH
   refine ⟨fun _=>eC,?_⟩
   refine qaw (i:=14) kz (qaW bH eB (k:=1) (d:=49) (t:=34) (e:=37) (size:=5) (bytes:=88) (A:=A1_) (As:=(some ⟨du,0,none⟩)) (m0:=k1_) (c:=c1_) (m:=1) (cs:=1) (xs:=xs1_) (news:=[.int .i64 0,.slice none 0 0,.bool false,.slice none 0 0,.slice none 0 0]) kz kz rfl (qbE (bH.own 2 _ rfl) (qbD kz)) (qbI (bH.own 2 _ rfl)) (by omega) fun am aw ja jb ax cA eD=>?_)
   have eE:=TT.ofW ((av.trans ak).trans ax) cA
   refine ⟨fun _=>eE,?_⟩
   refine qaw (i:=15) kz (qaC eD (t:=34) (A:=(some ⟨aa,0,none⟩)) (m:=2) (q:=1) (d:=50) kz (e:=37) (size:=5) (bytes:=88) (j:=1) kz (b:=aa) (o:=0) rfl rfl (by decide) fun jc eF=>?_)
   have eG:=eF.recast 50 (.v (.pointer (some ⟨aa,0 + 1 * 5,none⟩))) (.p 2 5) rfl rfl (Nat.le_of_ble_eq_true (n:=3) rfl)
   have eH:=eG.pk (env':=[(0,.p 0 0),(2,.p 1 0),(3,.p 3 0),(29,.v (.int .i64 (((D.f 1).l : Nat) : Int))),(30,.v (.int .i64 ((k1_ : Nat) : Int))),(36,.v (.slice (some ⟨aa,0,none⟩) 2 2)),(39,.v (.slice A1_ k1_ c1_)),(43,.v (.slice ((D.f 1).A) ((D.f 1).l) ((D.f 1).c))),(44,.v (.int .i64 ((k1_ : Nat) : Int))),(47,.v (.int .i64 ((k1_ : Nat) : Int))),(45,.v (.pointer (some ⟨cH,cI + k1_ * 4,none⟩))),(46,.v (.agg #[.int .i64 aH,.slice aM aI.length aN,.bool aJ,.slice aO aK.length aP,.slice aQ aL.length aR])),(48,.v (.slice (some ⟨du,0,none⟩) 1 1)),(49,.v (.slice am (k1_ + 1) aw)),(50,.p 2 5)])
   have cU:=TT.ofW ((av.trans ak).trans ax) cA
   refine ⟨fun _=>cU,?_⟩
   refine qaI [16] [(0,.p 0 0),(2,.p 1 0),(3,.p 3 0),(29,.v (.int .i64 (((D.f 1).l : Nat) : Int))),(30,.v (.int .i64 ((k1_ : Nat) : Int))),(46,.v (.agg #[.int .i64 aH,.slice aM aI.length aN,.bool aJ,.slice aO aK.length aP,.slice aQ aL.length aR])),(47,.v (.int .i64 ((k1_ : Nat) : Int))),(49,.v (.slice am (k1_ + 1) aw)),(51,.p 2 8)] 1 (qaa (qac (qaa (qaa (qac (qaa qag)))))) (fun _ h=>h.cells) cU eH fun jd eI=>?_
   refine qaw (i:=17) kz (qav cA eI (oi:=2) (cs:=[.int .i64 0,.slice ac (((D.f 0).o).length) ae,.bool false,.slice none 0 0,.slice none 0 0,.int .i64 0,.slice none 0 0,.bool (((D.f 1).A).isNone),.slice am (k1_ + 1) aw,.slice none 0 0]) kz fun gy bk cV eJ=>?_)
   refine ⟨fun h=>absurd rfl h,?_⟩
   refine qaF kz ?_ _
   refine qab ?_
   refine qas [0,1] kz ?_
   have eK : World.ownsRow gy 0 37 5 (.slice am (k1_ + 1) aw) (k1_ + 1) (xs1_ ++ [.int .i64 0,.slice none 0 0,.bool false,.slice none 0 0,.slice none 0 0]):=cV.own 1 _ rfl
   obtain ⟨eL,cW⟩:=qb5 eK (by omega)
   refine qan (qaC eJ (t:=34) (A:=am) (m:=(k1_ + 1)) (q:=((k1_ : Nat) : Int)) (d:=52) kz (e:=37) (size:=5) (bytes:=88) kz (b:=eL) (o:=0) (j:=k1_) cW (rfl) (by omega) fun je eM=>?_)
   refine qan (qb1 cV eM (k:=1) (g:=eL) (o:=k1_ * 5) (c:=aw) (m:=(k1_ + 1)) (size:=5) (e:=37) (A:=am) (xs:=(xs1_ ++ [.int .i64 0,.slice none 0 0,.bool false,.slice none 0 0,.slice none 0 0])) (vs:=[.int .i64 aH,.slice aM aI.length aN,.bool aJ,.slice aO aK.length aP,.slice aQ aL.length aR]) kz rfl cW (by simp only [List.length_cons,List.length_nil]; omega) fun jf bn eN eO=>?_)
   have eP : (⟨am,aw,37,5,k1_ + 1,qbm (xs1_ ++ [.int .i64 0,.slice none 0 0,.bool false,.slice none 0 0,.slice none 0 0]) (k1_ * 5) [.int .i64 aH,.slice aM aI.length aN,.bool aJ,.slice aO aK.length aP,.slice aQ aL.length aR]⟩ : Rw) = ⟨am,aw,37,5,k1_ + 1,xs1_ ++ [.int .i64 aH,.slice aM aI.length aN,.bool aJ,.slice aO aK.length aP,.slice aQ aL.length aR]⟩:=by rw [qdo (by rw [hT1_.xslen,List.length_take,qcI]; omega)]
   obtain ⟨cX,bo⟩:=eN.rowEq 1 [brow ac ae 5 ((D.f 0).o),⟨am,aw,37,5,k1_ + 1,xs1_ ++ [.int .i64 aH,.slice aM aI.length aN,.bool aJ,.slice aO aK.length aP,.slice aQ aL.length aR]⟩,⟨some ⟨du,0,none⟩,1,37,5,1,[.int .i64 0,.slice none 0 0,.bool false,.slice none 0 0,.slice none 0 0]⟩] eP
   refine qaf ?_
   refine qat ?_
   refine qab ?_
   refine qas [0,1] kz ?_
   refine qal [0,1] [] [(0,.p 0 0),(2,.p 1 0),(3,.p 3 0),(29,.v (.int .i64 (((D.f 1).l : Nat) : Int))),(30,.v (.int .i64 (IntKind.i64.wrap (((k1_ : Nat) : Int) + 1))))] cX eO fun jg eQ=>?_
   refine qaf (qab ?_)
   obtain ⟨cY,eR,bp⟩:=cX.cutB eQ 4 [⟨b,o,[qad ((D.f 0).o.getD 0 0),qad ((D.f 0).o.getD 1 0),qad ((D.f 0).o.getD 2 0),qad ((D.f 0).o.getD 3 0),qad ((D.f 0).o.getD 4 0),qad ((D.f 0).o.getD 5 0),qad ((D.f 0).o.getD 6 0),qad ((D.f 0).o.getD 7 0),qad ((D.f 0).o.getD 8 0),qad ((D.f 0).o.getD 9 0),qad ((D.f 0).o.getD 10 0),qad ((D.f 0).o.getD 11 0),qad ((D.f 0).o.getD 12 0),qad ((D.f 0).o.getD 13 0),qad ((D.f 0).o.getD 14 0),qad ((D.f 0).o.getD 15 0),.slice ((D.f 1).A) ((D.f 1).l) ((D.f 1).c),.map D.m],false⟩,⟨b5,0,[.int .i64 0,.slice none 0 0,.bool false,.slice none 0 0,.slice none 0 0],true⟩,⟨aa,0,[.int .i64 0,.slice ac (((D.f 0).o).length) ae,.bool false,.slice none 0 0,.slice none 0 0,.int .i64 0,.slice none 0 0,.bool (((D.f 1).A).isNone),.slice am (k1_ + 1) aw,.slice none 0 0],true⟩,⟨bB,0,[.int .i64 0,.slice none 0 0,.bool false,.slice (some ⟨aa,0,none⟩) 2 2,.slice none 0 0],true⟩] [(0,.p 0 0),(2,.p 1 0),(3,.p 3 0),(29,.v (.int .i64 (((D.f 1).l : Nat) : Int))),(30,.v (.int .i64 (IntKind.i64.wrap (((k1_ : Nat) : Int) + 1))))]
   obtain ⟨eS,bq⟩:=eR.cutR 2 [brow ac ae 5 ((D.f 0).o),⟨am,aw,37,5,k1_ + 1,xs1_ ++ [.int .i64 aH,.slice aM aI.length aN,.bool aJ,.slice aO aK.length aP,.slice aQ aL.length aR]⟩]
   have eU : IntKind.i64.wrap (((k1_ : Nat) : Int) + 1) = ((k1_ + 1 : Nat) : Int):=qaR (by omega)
   rw [eU] at cY
   exact ⟨(D.f 1).l - (k1_ + 1),by omega,k1_ + 1,am,aw,xs1_ ++ [Value.int .i64 aH,.slice aM aI.length aN,.bool aJ,.slice aO aK.length aP,.slice aQ aL.length aR],(css1_ ++ [[Value.int .i64 aH,.slice aM aI.length aN,.bool aJ,.slice aO aK.length aP,.slice aQ aL.length aR]]),rfl,by omega,by rw [qcT (by omega)]; exact (hT1_.move ((((((((((((af.trans ab).trans ag).trans ai).trans aF).trans av).trans ak).trans ax).trans bk).trans bn).trans bo).trans bp).trans bq).step immM ((((((((((((af.trans ab).trans ag).trans ai).trans aF).trans av).trans ak).trans ax).trans bk).trans bn).trans bo).trans bp).trans bq).to').snoc (x:=(fun i=>qaH ((D.f 1).f i)) k1_) (cw.move ((((((ak.trans ax).trans bk).trans bn).trans bo).trans bp).trans bq).step immM ((((((ak.trans ax).trans bk).trans bn).trans bo).trans bp).trans bq).to'),cY.pk,eS,(((((((((((((dp.trans af).trans ab).trans ag).trans ai).trans aF).trans av).trans ak).trans ax).trans bk).trans bn).trans bo).trans bp).trans bq)⟩
  refine (qbx aj cS (e:=37) (size:=5) (len:=1) (cs:=[.int .i64 0,.slice none 0 0,.bool false,.slice none 0 0,.slice none 0 0]) (d:=48) kz kz fun dv jh ji gU gV ay al eV=>?_)
  have eW:=TT.ofW ay al
  refine ⟨fun _=>eW,?_⟩
  refine qaw (i:=11) kz (qam eV (f:=210) (vs:=[.pointer (some ⟨cH,cI + k1_ * 4,none⟩)]) (d:=46) kz Tryz.call210 (qbf 0 ((D.f 1).f k1_) _ _ _ _ (cr.move al.step nilM al.imm) (qaN _ al.step nilM al.imm (g2e k1_ (by omega)))) ?_)
  rintro e_ jj ⟨gW,rfl,eX,cB⟩
  have cC:=eX.move (Step.refl _ Nil) nilM (al.laid (G:=F) cB)
  obtain ⟨aS,aT,aU,aV,aW,aX,aY,aZ,ba,bd,bf,gX,gY,cD,gz,gA,jk,jl⟩:=cC.open_
  rw [cD] at cC
  have gB:=gz.small
  have gC:=gA.small
  rw [cD]
  refine ⟨_,rfl,fun jm eY=>?_⟩
  have bI:=al.next_nil cB
  have aG:=al.frN cB
  have eZ:=TT.ofW (ay.trans aG) bI
  refine ⟨fun _=>eZ,?_⟩
  refine qaw (i:=14) kz (qaW bI eY (k:=1) (d:=49) (t:=34) (e:=37) (size:=5) (bytes:=88) (A:=A1_) (As:=(some ⟨dv,0,none⟩)) (m0:=k1_) (c:=c1_) (m:=1) (cs:=1) (xs:=xs1_) (news:=[.int .i64 0,.slice none 0 0,.bool false,.slice none 0 0,.slice none 0 0]) kz kz rfl (qbE (bI.own 2 _ rfl) (qbD kz)) (qbI (bI.own 2 _ rfl)) (by omega) fun ao az jn jo aA cE e9=>?_)
  have fa:=TT.ofW ((ay.trans aG).trans aA) cE
  refine ⟨fun _=>fa,?_⟩
  refine qaw (i:=15) kz (qaC e9 (t:=34) (A:=(some ⟨aa,0,none⟩)) (m:=2) (q:=1) (d:=50) kz (e:=37) (size:=5) (bytes:=88) (j:=1) kz (b:=aa) (o:=0) rfl rfl (by decide) fun jp fb=>?_)
  have fe:=fb.recast 50 (.v (.pointer (some ⟨aa,0 + 1 * 5,none⟩))) (.p 2 5) rfl rfl (Nat.le_of_ble_eq_true (n:=3) rfl)
  have ff:=fe.pk (env':=[(0,.p 0 0),(2,.p 1 0),(3,.p 3 0),(29,.v (.int .i64 (((D.f 1).l : Nat) : Int))),(30,.v (.int .i64 ((k1_ : Nat) : Int))),(36,.v (.slice (some ⟨aa,0,none⟩) 2 2)),(39,.v (.slice A1_ k1_ c1_)),(43,.v (.slice ((D.f 1).A) ((D.f 1).l) ((D.f 1).c))),(44,.v (.int .i64 ((k1_ : Nat) : Int))),(47,.v (.int .i64 ((k1_ : Nat) : Int))),(45,.v (.pointer (some ⟨cH,cI + k1_ * 4,none⟩))),(48,.v (.slice (some ⟨dv,0,none⟩) 1 1)),(46,.v (.agg #[.int .i64 aS,.slice aX aT.length aY,.bool aU,.slice aZ aV.length ba,.slice bd aW.length bf])),(49,.v (.slice ao (k1_ + 1) az)),(50,.p 2 5)])
  have cZ:=TT.ofW ((ay.trans aG).trans aA) cE
  refine ⟨fun _=>cZ,?_⟩
  refine qaI [16] [(0,.p 0 0),(2,.p 1 0),(3,.p 3 0),(29,.v (.int .i64 (((D.f 1).l : Nat) : Int))),(30,.v (.int .i64 ((k1_ : Nat) : Int))),(46,.v (.agg #[.int .i64 aS,.slice aX aT.length aY,.bool aU,.slice aZ aV.length ba,.slice bd aW.length bf])),(47,.v (.int .i64 ((k1_ : Nat) : Int))),(49,.v (.slice ao (k1_ + 1) az)),(51,.p 2 8)] 1 (qaa (qac (qaa (qaa (qac (qaa qag)))))) (fun _ h=>h.cells) cZ ff fun jq fg=>?_
  refine qaw (i:=17) kz (qav cE fg (oi:=2) (cs:=[.int .i64 0,.slice ac (((D.f 0).o).length) ae,.bool false,.slice none 0 0,.slice none 0 0,.int .i64 0,.slice none 0 0,.bool (((D.f 1).A).isNone),.slice ao (k1_ + 1) az,.slice none 0 0]) kz fun gD bt c5 fh=>?_)
  refine ⟨fun h=>absurd rfl h,?_⟩
  refine qaF kz ?_ _
  refine qab ?_
  refine qas [0,1] kz ?_
  have fi : World.ownsRow gD 0 37 5 (.slice ao (k1_ + 1) az) (k1_ + 1) (xs1_ ++ [.int .i64 0,.slice none 0 0,.bool false,.slice none 0 0,.slice none 0 0]):=c5.own 1 _ rfl
  obtain ⟨fj,c6⟩:=qb5 fi (by omega)
  refine qan (qaC fh (t:=34) (A:=ao) (m:=(k1_ + 1)) (q:=((k1_ : Nat) : Int)) (d:=52) kz (e:=37) (size:=5) (bytes:=88) kz (b:=fj) (o:=0) (j:=k1_) c6 (rfl) (by omega) fun jr fk=>?_)
  refine qan (qb1 c5 fk (k:=1) (g:=fj) (o:=k1_ * 5) (c:=az) (m:=(k1_ + 1)) (size:=5) (e:=37) (A:=ao) (xs:=(xs1_ ++ [.int .i64 0,.slice none 0 0,.bool false,.slice none 0 0,.slice none 0 0])) (vs:=[.int .i64 aS,.slice aX aT.length aY,.bool aU,.slice aZ aV.length ba,.slice bd aW.length bf]) kz rfl c6 (by simp only [List.length_cons,List.length_nil]; omega) fun js bu fm fo=>?_)
  have fq : (⟨ao,az,37,5,k1_ + 1,qbm (xs1_ ++ [.int .i64 0,.slice none 0 0,.bool false,.slice none 0 0,.slice none 0 0]) (k1_ * 5) [.int .i64 aS,.slice aX aT.length aY,.bool aU,.slice aZ aV.length ba,.slice bd aW.length bf]⟩ : Rw) = ⟨ao,az,37,5,k1_ + 1,xs1_ ++ [.int .i64 aS,.slice aX aT.length aY,.bool aU,.slice aZ aV.length ba,.slice bd aW.length bf]⟩:=by rw [qdo (by rw [hT1_.xslen,List.length_take,qcI]; omega)]
  obtain ⟨da,bw⟩:=fm.rowEq 1 [brow ac ae 5 ((D.f 0).o),⟨ao,az,37,5,k1_ + 1,xs1_ ++ [.int .i64 aS,.slice aX aT.length aY,.bool aU,.slice aZ aV.length ba,.slice bd aW.length bf]⟩,⟨some ⟨dv,0,none⟩,1,37,5,1,[.int .i64 0,.slice none 0 0,.bool false,.slice none 0 0,.slice none 0 0]⟩] fq
  refine qaf ?_
  refine qat ?_
  refine qab ?_
  refine qas [0,1] kz ?_
  refine qal [0,1] [] [(0,.p 0 0),(2,.p 1 0),(3,.p 3 0),(29,.v (.int .i64 (((D.f 1).l : Nat) : Int))),(30,.v (.int .i64 (IntKind.i64.wrap (((k1_ : Nat) : Int) + 1))))] da fo fun jt fr=>?_
  refine qaf (qab ?_)
  obtain ⟨db,ft,bx⟩:=da.cutB fr 4 [⟨b,o,[qad ((D.f 0).o.getD 0 0),qad ((D.f 0).o.getD 1 0),qad ((D.f 0).o.getD 2 0),qad ((D.f 0).o.getD 3 0),qad ((D.f 0).o.getD 4 0),qad ((D.f 0).o.getD 5 0),qad ((D.f 0).o.getD 6 0),qad ((D.f 0).o.getD 7 0),qad ((D.f 0).o.getD 8 0),qad ((D.f 0).o.getD 9 0),qad ((D.f 0).o.getD 10 0),qad ((D.f 0).o.getD 11 0),qad ((D.f 0).o.getD 12 0),qad ((D.f 0).o.getD 13 0),qad ((D.f 0).o.getD 14 0),qad ((D.f 0).o.getD 15 0),.slice ((D.f 1).A) ((D.f 1).l) ((D.f 1).c),.map D.m],false⟩,⟨b5,0,[.int .i64 0,.slice none 0 0,.bool false,.slice none 0 0,.slice none 0 0],true⟩,⟨aa,0,[.int .i64 0,.slice ac (((D.f 0).o).length) ae,.bool false,.slice none 0 0,.slice none 0 0,.int .i64 0,.slice none 0 0,.bool (((D.f 1).A).isNone),.slice ao (k1_ + 1) az,.slice none 0 0],true⟩,⟨bB,0,[.int .i64 0,.slice none 0 0,.bool false,.slice (some ⟨aa,0,none⟩) 2 2,.slice none 0 0],true⟩] [(0,.p 0 0),(2,.p 1 0),(3,.p 3 0),(29,.v (.int .i64 (((D.f 1).l : Nat) : Int))),(30,.v (.int .i64 (IntKind.i64.wrap (((k1_ : Nat) : Int) + 1))))]
  obtain ⟨fu,bz⟩:=ft.cutR 2 [brow ac ae 5 ((D.f 0).o),⟨ao,az,37,5,k1_ + 1,xs1_ ++ [.int .i64 aS,.slice aX aT.length aY,.bool aU,.slice aZ aV.length ba,.slice bd aW.length bf]⟩]
  have fv : IntKind.i64.wrap (((k1_ : Nat) : Int) + 1) = ((k1_ + 1 : Nat) : Int):=qaR (by omega)
  rw [fv] at db
  exact ⟨(D.f 1).l - (k1_ + 1),by omega,k1_ + 1,ao,az,xs1_ ++ [Value.int .i64 aS,.slice aX aT.length aY,.bool aU,.slice aZ aV.length ba,.slice bd aW.length bf],(css1_ ++ [[Value.int .i64 aS,.slice aX aT.length aY,.bool aU,.slice aZ aV.length ba,.slice bd aW.length bf]]),rfl,by omega,by rw [qcT (by omega)]; exact (hT1_.move ((((((((((((af.trans ab).trans ag).trans ai).trans aF).trans ay).trans aG).trans aA).trans bt).trans bu).trans bw).trans bx).trans bz).step immM ((((((((((((af.trans ab).trans ag).trans ai).trans aF).trans ay).trans aG).trans aA).trans bt).trans bu).trans bw).trans bx).trans bz).to').snoc (x:=(fun i=>qaH ((D.f 1).f i)) k1_) (cC.move (((((aA.trans bt).trans bu).trans bw).trans bx).trans bz).step immM (((((aA.trans bt).trans bu).trans bw).trans bx).trans bz).to'),db.pk,fu,(((((((((((((dp.trans af).trans ab).trans ag).trans ai).trans aF).trans ay).trans aG).trans aA).trans bt).trans bu).trans bw).trans bx).trans bz)⟩
 have gZ:=of_decide_eq_false dr
 refine wp_exit ?_
 refine qaB ?_
 refine qaB ?_
 refine qaP ?_
 refine qab ?_
 refine qae [0,1,2,3,4] kz ?_
 refine qal [0,1,2] [3,4] [(2,.p 1 0),(3,.p 3 0),(74,.p 0 17)] aB dq fun ju fw=>?_
 refine qan (qeU fw (v:=.func (.func 211) #[] #[.pointer (some ⟨bB,0,none⟩)]) (d:=75) kz fun jv fx=>?_)
 refine qan (qam fx (f:=122) (vs:=[.pointer (some ⟨b,o + 17,none⟩),.func (.func 211) #[] #[.pointer (some ⟨bB,0,none⟩)]]) (d:=76) kz Tryz.call122 (qfp (F:=(Imm F w ij [⟨b,o,[qad ((D.f 0).o.getD 0 0),qad ((D.f 0).o.getD 1 0),qad ((D.f 0).o.getD 2 0),qad ((D.f 0).o.getD 3 0),qad ((D.f 0).o.getD 4 0),qad ((D.f 0).o.getD 5 0),qad ((D.f 0).o.getD 6 0),qad ((D.f 0).o.getD 7 0),qad ((D.f 0).o.getD 8 0),qad ((D.f 0).o.getD 9 0),qad ((D.f 0).o.getD 10 0),qad ((D.f 0).o.getD 11 0),qad ((D.f 0).o.getD 12 0),qad ((D.f 0).o.getD 13 0),qad ((D.f 0).o.getD 14 0),qad ((D.f 0).o.getD 15 0),.slice ((D.f 1).A) ((D.f 1).l) ((D.f 1).c),.map D.m],false⟩,⟨b5,0,[.int .i64 0,.slice none 0 0,.bool false,.slice none 0 0,.slice none 0 0],true⟩,⟨aa,0,[.int .i64 0,.slice ac (((D.f 0).o).length) ae,.bool false,.slice none 0 0,.slice none 0 0,.int .i64 0,.slice none 0 0,.bool (((D.f 1).A).isNone),.slice A1_ k1_ c1_,.slice none 0 0],true⟩,⟨bB,0,[.int .i64 0,.slice none 0 0,.bool false,.slice (some ⟨aa,0,none⟩) 2 2,.slice none 0 0],true⟩] [brow ac ae 5 ((D.f 0).o),⟨A1_,c1_,37,5,k1_,xs1_⟩])) Tryz.call211 qcc ((hat.one 17 rfl).move aB.step nilM aB.imm) (g3.move aB.step nilM aB.imm) (Str.of aB 3 rfl) (qj6 3 rfl) g3l) ?_)
 rintro e_ jw ⟨rfl,aC,aD,dw,fy,fz⟩
 obtain ⟨cG,dc,fA⟩:=aB.wrote 3 [⟨b,o,[qad ((D.f 0).o.getD 0 0),qad ((D.f 0).o.getD 1 0),qad ((D.f 0).o.getD 2 0),qad ((D.f 0).o.getD 3 0),qad ((D.f 0).o.getD 4 0),qad ((D.f 0).o.getD 5 0),qad ((D.f 0).o.getD 6 0),qad ((D.f 0).o.getD 7 0),qad ((D.f 0).o.getD 8 0),qad ((D.f 0).o.getD 9 0),qad ((D.f 0).o.getD 10 0),qad ((D.f 0).o.getD 11 0),qad ((D.f 0).o.getD 12 0),qad ((D.f 0).o.getD 13 0),qad ((D.f 0).o.getD 14 0),qad ((D.f 0).o.getD 15 0),.slice ((D.f 1).A) ((D.f 1).l) ((D.f 1).c),.map D.m],false⟩,⟨b5,0,[.int .i64 0,.slice none 0 0,.bool false,.slice none 0 0,.slice none 0 0],true⟩,⟨aa,0,[.int .i64 0,.slice ac (((D.f 0).o).length) ae,.bool false,.slice none 0 0,.slice none 0 0,.int .i64 0,.slice none 0 0,.bool (((D.f 1).A).isNone),.slice A1_ k1_ c1_,.slice none 0 0],true⟩,⟨bB,0,[.int .i64 0,.slice none 0 0,.bool false,.slice (some ⟨aa,0,none⟩) 2 2,.slice aC D.u.length aD],true⟩] rfl fz dw
 have de:=fy.move (Step.refl _ Nil) nilM (fun b_ o_ h_ hb_=>fA (G:=F) b_ o_ (.inr h_) hb_)
 refine ⟨_,rfl,fun jx fB=>?_⟩
 have fC:=(EnvOk.places (tb':=[⟨b,o,[qad ((D.f 0).o.getD 0 0),qad ((D.f 0).o.getD 1 0),qad ((D.f 0).o.getD 2 0),qad ((D.f 0).o.getD 3 0),qad ((D.f 0).o.getD 4 0),qad ((D.f 0).o.getD 5 0),qad ((D.f 0).o.getD 6 0),qad ((D.f 0).o.getD 7 0),qad ((D.f 0).o.getD 8 0),qad ((D.f 0).o.getD 9 0),qad ((D.f 0).o.getD 10 0),qad ((D.f 0).o.getD 11 0),qad ((D.f 0).o.getD 12 0),qad ((D.f 0).o.getD 13 0),qad ((D.f 0).o.getD 14 0),qad ((D.f 0).o.getD 15 0),.slice ((D.f 1).A) ((D.f 1).l) ((D.f 1).c),.map D.m],false⟩,⟨b5,0,[.int .i64 0,.slice none 0 0,.bool false,.slice none 0 0,.slice none 0 0],true⟩,⟨aa,0,[.int .i64 0,.slice ac (((D.f 0).o).length) ae,.bool false,.slice none 0 0,.slice none 0 0,.int .i64 0,.slice none 0 0,.bool (((D.f 1).A).isNone),.slice A1_ k1_ c1_,.slice none 0 0],true⟩,⟨bB,0,[.int .i64 0,.slice none 0 0,.bool false,.slice (some ⟨aa,0,none⟩) 2 2,.slice aC D.u.length aD],true⟩]) fB (show Pl [⟨b,o,[qad ((D.f 0).o.getD 0 0),qad ((D.f 0).o.getD 1 0),qad ((D.f 0).o.getD 2 0),qad ((D.f 0).o.getD 3 0),qad ((D.f 0).o.getD 4 0),qad ((D.f 0).o.getD 5 0),qad ((D.f 0).o.getD 6 0),qad ((D.f 0).o.getD 7 0),qad ((D.f 0).o.getD 8 0),qad ((D.f 0).o.getD 9 0),qad ((D.f 0).o.getD 10 0),qad ((D.f 0).o.getD 11 0),qad ((D.f 0).o.getD 12 0),qad ((D.f 0).o.getD 13 0),qad ((D.f 0).o.getD 14 0),qad ((D.f 0).o.getD 15 0),.slice ((D.f 1).A) ((D.f 1).l) ((D.f 1).c),.map D.m],false⟩,⟨b5,0,[.int .i64 0,.slice none 0 0,.bool false,.slice none 0 0,.slice none 0 0],true⟩,⟨aa,0,[.int .i64 0,.slice ac (((D.f 0).o).length) ae,.bool false,.slice none 0 0,.slice none 0 0,.int .i64 0,.slice none 0 0,.bool (((D.f 1).A).isNone),.slice A1_ k1_ c1_,.slice none 0 0],true⟩,⟨bB,0,[.int .i64 0,.slice none 0 0,.bool false,.slice (some ⟨aa,0,none⟩) 2 2,.slice none 0 0],true⟩] [⟨b,o,[qad ((D.f 0).o.getD 0 0),qad ((D.f 0).o.getD 1 0),qad ((D.f 0).o.getD 2 0),qad ((D.f 0).o.getD 3 0),qad ((D.f 0).o.getD 4 0),qad ((D.f 0).o.getD 5 0),qad ((D.f 0).o.getD 6 0),qad ((D.f 0).o.getD 7 0),qad ((D.f 0).o.getD 8 0),qad ((D.f 0).o.getD 9 0),qad ((D.f 0).o.getD 10 0),qad ((D.f 0).o.getD 11 0),qad ((D.f 0).o.getD 12 0),qad ((D.f 0).o.getD 13 0),qad ((D.f 0).o.getD 14 0),qad ((D.f 0).o.getD 15 0),.slice ((D.f 1).A) ((D.f 1).l) ((D.f 1).c),.map D.m],false⟩,⟨b5,0,[.int .i64 0,.slice none 0 0,.bool false,.slice none 0 0,.slice none 0 0],true⟩,⟨aa,0,[.int .i64 0,.slice ac (((D.f 0).o).length) ae,.bool false,.slice none 0 0,.slice none 0 0,.int .i64 0,.slice none 0 0,.bool (((D.f 1).A).isNone),.slice A1_ k1_ c1_,.slice none 0 0],true⟩,⟨bB,0,[.int .i64 0,.slice none 0 0,.bool false,.slice (some ⟨aa,0,none⟩) 2 2,.slice aC D.u.length aD],true⟩] from ⟨rfl,rfl,⟨rfl,rfl,⟨rfl,rfl,⟨rfl,rfl,trivial⟩⟩⟩⟩)).pk (env':=[(76,.v (.tuple #[])),(2,.p 1 0),(3,.p 3 0),(74,.p 0 17),(75,.v (.func (.func 211) #[] #[.pointer (some ⟨bB,0,none⟩)]))])
 refine qaf (qab ?_)
 refine qae [0,1,2] kz ?_
 refine qal [0,1] [2] [(2,.p 1 0),(3,.p 3 0),(78,.v (.slice aC D.u.length aD))] cG fC fun jy fD=>?_
 refine qan (qam fD (f:=124) (vs:=[.slice aC D.u.length aD]) (d:=79) kz Tryz.call124 (qhk de g3.sorted) ?_)
 rintro e_ jz ⟨rfl,df⟩
 refine ⟨_,rfl,fun jA fE=>?_⟩
 have dg:=cG.next_nil df
 have bJ:=cG.frN df
 refine qaf (qab ?_)
 refine qae [0,1] kz ?_
 refine qal [0] [1] [(2,.p 1 0),(80,.v (.agg #[.int .i64 0,.slice none 0 0,.bool false,.slice (some ⟨aa,0,none⟩) 2 2,.slice aC D.u.length aD]))] dg fE fun jB fF=>?_
 refine qan (qav dg fF (oi:=1) (cs:=[.int .i64 0,.slice none 0 0,.bool false,.slice (some ⟨aa,0,none⟩) 2 2,.slice aC D.u.length aD]) kz fun gE bK bA fG=>?_)
 refine qaf (qab ?_)
 refine wp_ret ?_
 refine qaK fG bA.cells (v:=.agg #[.int .i64 0,.slice none 0 0,.bool false,.slice (some ⟨aa,0,none⟩) 2 2,.slice aC D.u.length aD]) kz ?_
 have dh:=(hT1_.move ((dc.trans bJ).trans bK).step immM ((dc.trans bJ).trans bK).to')
 rw [qhK (by omega)] at dh
 exact qgb (u:=D.u) (l:=[.mk 0 (D.f 0).o false [] [],.mk 0 [] (D.f 1).A.isNone ((List.range (D.f 1).l).map fun i=>qaH ((D.f 1).f i)) []]) (css:=[[.int .i64 0,.slice ac (((D.f 0).o).length) ae,.bool false,.slice none 0 0,.slice none 0 0],[.int .i64 0,.slice none 0 0,.bool (((D.f 1).A).isNone),.slice A1_ k1_ c1_,.slice none 0 0]]) bA 2 rfl ⟨TreeR.mk (n:=0) (b:=false) (l:=[]) (u:=[]) (fun _=>[]) (qcg (bA.own 0 _ rfl) (by rw [g1]; decide) (qht (F:=F) bA (k:=0) rfl)) (Slots.nil _ _ 5 _) (fun _ _ h_=>by simp at h_) (TagsR.nil _ _),qgS bA (k:=1) rfl dh (by rw [qcI]; omega) (by rw [qcI]; omega),trivial⟩ ((show TagsR _ (Imm F w gE [⟨b,o,[qad ((D.f 0).o.getD 0 0),qad ((D.f 0).o.getD 1 0),qad ((D.f 0).o.getD 2 0),qad ((D.f 0).o.getD 3 0),qad ((D.f 0).o.getD 4 0),qad ((D.f 0).o.getD 5 0),qad ((D.f 0).o.getD 6 0),qad ((D.f 0).o.getD 7 0),qad ((D.f 0).o.getD 8 0),qad ((D.f 0).o.getD 9 0),qad ((D.f 0).o.getD 10 0),qad ((D.f 0).o.getD 11 0),qad ((D.f 0).o.getD 12 0),qad ((D.f 0).o.getD 13 0),qad ((D.f 0).o.getD 14 0),qad ((D.f 0).o.getD 15 0),.slice ((D.f 1).A) ((D.f 1).l) ((D.f 1).c),.map D.m],false⟩,⟨b5,0,[.int .i64 0,.slice none 0 0,.bool false,.slice (some ⟨aa,0,none⟩) 2 2,.slice aC D.u.length aD],true⟩,⟨aa,0,[.int .i64 0,.slice ac (((D.f 0).o).length) ae,.bool false,.slice none 0 0,.slice none 0 0,.int .i64 0,.slice none 0 0,.bool (((D.f 1).A).isNone),.slice A1_ k1_ c1_,.slice none 0 0],true⟩,⟨bB,0,[.int .i64 0,.slice none 0 0,.bool false,.slice (some ⟨aa,0,none⟩) 2 2,.slice aC D.u.length aD],true⟩] [brow ac ae 5 ((D.f 0).o),⟨A1_,c1_,37,5,k1_,xs1_⟩]) _ _ _ from (de.move (bJ.trans bK).step immM (bJ.trans bK).to')).move (Step.refl _ Nil) nilM qca)
set_option maxHeartbeats 4000000 in
theorem qcD (v : Int) (D : DV) (b o : Nat) (w : World) (F : Nat → Nat → Prop) (hat : AtF w F b o [.int .i16 v,.slice ((D.f 0).A) ((D.f 0).l) ((D.f 0).c),.map D.m]) (hok : qba w F D) : Calls Tryz.prog 99 #[.pointer (some ⟨b,o,none⟩)] w (qdZ w F (qa4 D)):=by
 refine enter (n:=72) Tryz.func99 rfl Tryz.ntmps99 kz fun a hE=>?_
 have hW : WOk w Nil w [⟨b,o,[.int .i16 v,.slice ((D.f 0).A) ((D.f 0).l) ((D.f 0).c),.map D.m],false⟩] []:=(WOk.start w Nil).start1 hat rfl rfl
 unfold qba at hok
 obtain ⟨⟨g1,g1l,g1e⟩,g2,g2l,g2x,_⟩:=hok
 have hE0:=(EnvOk.ptr0 (cs:=[.int .i16 v,.slice ((D.f 0).A) ((D.f 0).l) ((D.f 0).c),.map D.m]) (r:=false) hE).pk (env':=[(0,.p 0 0)])
 refine qae [0] kz ?_
 refine qan (qaO hW hE0 (d:=2) (cs:=[.int .i64 0,.slice none 0 0,.bool false,.slice none 0 0,.slice none 0 0]) kz fun b3 a4 w5 hb6 hz7 hF8 hW9 fr=>?_)
 refine qaf (qab ?_)
 refine qae [0,1,2,3] kz ?_
 refine qan (qeH (t:=34) (e:=37) (size:=5) (bytes:=88) (d:=5) (j:=1) (.agg #[.int .i64 0,.slice none 0 0,.bool false,.slice none 0 0,.slice none 0 0]) [.int .i64 0,.slice none 0 0,.bool false,.slice none 0 0,.slice none 0 0] hW9 fr fun aa iV iW gA gB gC dp ft=>?_)
 refine qal [1] [2,3] [(0,.p 0 0),(2,.p 1 0),(6,.v (.agg #[.int .i64 0,.slice none 0 0,.bool false,.slice (some ⟨aa,0,none⟩) 1 1,.slice none 0 0]))] dp ft fun iX fu=>?_
 refine qan (qaO dp fu (d:=3) (cs:=[.int .i64 0,.slice none 0 0,.bool false,.slice none 0 0,.slice none 0 0]) kz fun bu iY iZ gD gE gF fv fw=>?_)
 refine qan (qav fv fw (oi:=3) (cs:=[.int .i64 0,.slice none 0 0,.bool false,.slice (some ⟨aa,0,none⟩) 1 1,.slice none 0 0]) kz fun i6 gG fx fy=>?_)
 refine qaf (qab ?_)
 refine qaL 9 kz fx fun i7 gH fz c6=>?_
 refine qaI [0,1,2,3,4,5,6] [(0,.p 0 0),(2,.p 1 0),(3,.p 3 0),(8,.v (.slice (some ⟨aa,0,none⟩) 1 1)),(13,.v (.bool (((D.f 0).A).isNone)))] 3 (qaa qag) (fun _ h=>h.cells) c6 fy fun ja fA=>?_
 refine qaw (i:=7) kz (qaC fA (t:=34) (A:=(some ⟨aa,0,none⟩)) (m:=1) (q:=0) (d:=14) kz (e:=37) (size:=5) (bytes:=88) (j:=0) kz (b:=aa) (o:=0) rfl rfl (by decide) fun jb fB=>?_)
 have fC:=fB.recast 14 (.v (.pointer (some ⟨aa,0 + 0 * 5,none⟩))) (.p 2 0) rfl rfl (Nat.le_of_ble_eq_true (n:=3) rfl)
 have fD:=fC.pk (env':=[(0,.p 0 0),(2,.p 1 0),(3,.p 3 0),(8,.v (.slice (some ⟨aa,0,none⟩) 1 1)),(13,.v (.bool (((D.f 0).A).isNone))),(14,.p 2 0)])
 refine ⟨fun _=>c6,?_⟩
 refine qaI [8] [(0,.p 0 0),(2,.p 1 0),(3,.p 3 0),(13,.v (.bool (((D.f 0).A).isNone))),(15,.p 2 2)] 1 (qaa qag) (fun _ h=>h.cells) c6 fD fun jc fE=>?_
 refine qaw (i:=9) kz (qav fz fE (oi:=2) (cs:=[.int .i64 0,.slice none 0 0,.bool (((D.f 0).A).isNone),.slice none 0 0,.slice none 0 0]) kz fun jd gI da fF=>?_)
 refine ⟨fun h=>absurd rfl h,?_⟩
 refine qaF kz ?_ _
 refine qab ?_
 refine wp_seq ?_
 refine qaq [(0,.p 0 0),(2,.p 1 0),(3,.p 3 0),(20,.v (.int .i64 (((D.f 0).l : Nat) : Int))),(21,.v (.int .i64 0))] da fF fun je fG=>?_
 refine wp_block ?_
 have dq:=da.addNil 37 5
 have gJ:=da.frNil 37 5
 refine wp_loop_ghost (fun n_ a_ w_=>∃ (k0_ : Nat) (A0_ : Option Addr) (c0_ : Nat) (xs0_ : List Value) (css0_ : List (List Value)),n_ = (D.f 0).l - k0_ ∧ k0_ ≤ (D.f 0).l ∧ (Trees w_ (Imm F w w_ [⟨b,o,[.int .i16 v,.slice ((D.f 0).A) ((D.f 0).l) ((D.f 0).c),.map D.m],false⟩,⟨b3,0,[.int .i64 0,.slice none 0 0,.bool false,.slice none 0 0,.slice none 0 0],true⟩,⟨aa,0,[.int .i64 0,.slice none 0 0,.bool (((D.f 0).A).isNone),.slice A0_ k0_ c0_,.slice none 0 0],true⟩,⟨bu,0,[.int .i64 0,.slice none 0 0,.bool false,.slice (some ⟨aa,0,none⟩) 1 1,.slice none 0 0],true⟩] [⟨A0_,c0_,37,5,k0_,xs0_⟩]) xs0_ (((List.range (D.f 0).l).map (fun i=>qaT ((D.f 0).f i))).take k0_) css0_) ∧ LInv dq 72 [⟨b,o,[.int .i16 v,.slice ((D.f 0).A) ((D.f 0).l) ((D.f 0).c),.map D.m],false⟩,⟨b3,0,[.int .i64 0,.slice none 0 0,.bool false,.slice none 0 0,.slice none 0 0],true⟩,⟨aa,0,[.int .i64 0,.slice none 0 0,.bool (((D.f 0).A).isNone),.slice A0_ k0_ c0_,.slice none 0 0],true⟩,⟨bu,0,[.int .i64 0,.slice none 0 0,.bool false,.slice (some ⟨aa,0,none⟩) 1 1,.slice none 0 0],true⟩] [⟨A0_,c0_,37,5,k0_,xs0_⟩] [(0,.p 0 0),(2,.p 1 0),(3,.p 3 0),(20,.v (.int .i64 (((D.f 0).l : Nat) : Int))),(21,.v (.int .i64 ((k0_ : Nat) : Int)))] a_ w_) ((D.f 0).l) ⟨0,none,0,[],[],by omega,by omega,Trees.nil _ _,fG.pk,dq,Fr.refl _ _ _⟩ ?_
 rintro jf jg gK ⟨k0_,A0_,c0_,xs0_,css0_,gL,gM,hT0_,fH,ax,db⟩
 refine qaq [(0,.p 0 0),(2,.p 1 0),(3,.p 3 0),(20,.v (.int .i64 (((D.f 0).l : Nat) : Int))),(21,.v (.int .i64 ((k0_ : Nat) : Int))),(22,.v (.bool (decide (((k0_ : Nat) : Int) < (((D.f 0).l : Nat) : Int)))))] ax fH fun jh dc=>?_
 refine wp_seq ?_
 refine qax dc (b:=decide (((k0_ : Nat) : Int) < (((D.f 0).l : Nat) : Int))) kz (fun de=>?_) (fun de=>?_)
 ·
  have gN:=of_decide_eq_true de
  refine wp_skip ?_
  refine qab ?_
  refine wp_seq ?_
  refine wp_block ?_
  refine qaq [(0,.p 0 0),(2,.p 1 0),(3,.p 3 0),(4,.v (.int .i64 ((k0_ : Nat) : Int))),(20,.v (.int .i64 (((D.f 0).l : Nat) : Int))),(21,.v (.int .i64 ((k0_ : Nat) : Int)))] ax dc fun ji fI=>?_
  refine qaL 4 kz ax fun jj aC fJ gO=>?_
  refine qaw (i:=0) kz (qaO fJ fI (d:=24) (cs:=[.bool false]) kz fun jk jl jm gP gQ ab df dr=>?_)
  have fK:=TT.ofW ab df
  refine ⟨fun _=>fK,?_⟩
  refine qew (i:=1) (j:=2) kz ?_ ?_
  ·
   refine (qav df dr (oi:=4) (cs:=[.bool true]) kz fun jn bE dt fL=>?_)
   have fM:=TT.ofW (ab.trans bE) dt
   refine ⟨fun _=>fM,?_⟩
   refine qaw (i:=2) kz (qav dt fL (oi:=4) (cs:=[.bool false]) kz fun jo bS cz fN=>?_)
   have fO:=TT.ofW ((ab.trans bE).trans bS) cz
   refine ⟨fun _=>fO,?_⟩
   refine qaw (i:=3) kz (qbl [0,2,3,4,20,21,25] cz.cells fN (env':=[(0,.p 0 0),(2,.p 1 0),(3,.p 3 0),(4,.v (.int .i64 ((k0_ : Nat) : Int))),(20,.v (.int .i64 (((D.f 0).l : Nat) : Int))),(21,.v (.int .i64 ((k0_ : Nat) : Int))),(25,.v (.bool false))]) kz fun jp du=>?_)
   have fP:=TT.ofW ((ab.trans bE).trans bS) cz
   refine ⟨fun _=>fP,?_⟩
   refine qaF kz ?_ _
   refine qab ?_
   refine qar du (b:=false) kz rfl ?_
   refine qcM 18 kz cz fun jq dg bt cA=>?_
   refine qaI [0,1,2,3,7,8,9,10,11] [(0,.p 0 0),(2,.p 1 0),(3,.p 3 0),(20,.v (.int .i64 (((D.f 0).l : Nat) : Int))),(21,.v (.int .i64 ((k0_ : Nat) : Int))),(45,.v (.slice (some ⟨aa,0,none⟩) 1 1)),(47,.v (.slice (some ⟨aa,0,none⟩) 1 1)),(54,.v (.slice ((D.f 0).A) ((D.f 0).l) ((D.f 0).c))),(55,.v (.int .i64 ((k0_ : Nat) : Int)))] 10 (qac (qaa (qaa (qac (qaa qag))))) (fun _ h=>h.cells) cA du fun jr fQ=>?_
   refine qaV fQ (i:=4) (t:=34) (A:=(some ⟨aa,0,none⟩)) (m:=1) (q:=0) (d:=48) kz (e:=37) (size:=5) (bytes:=88) (j:=0) kz (b:=aa) (o:=0) rfl rfl (by decide) kz kz (qac (qaa (qaa (qac (qaa qag))))) cA fun gR dv=>?_
   have dw:=dv.recast 48 (.v (.pointer (some ⟨aa,0 + 0 * 5,none⟩))) (.p 2 0) rfl rfl (Nat.le_of_ble_eq_true (n:=3) rfl)
   have dx:=dw.pk (env':=[(0,.p 0 0),(2,.p 1 0),(3,.p 3 0),(20,.v (.int .i64 (((D.f 0).l : Nat) : Int))),(21,.v (.int .i64 ((k0_ : Nat) : Int))),(45,.v (.slice (some ⟨aa,0,none⟩) 1 1)),(47,.v (.slice (some ⟨aa,0,none⟩) 1 1)),(54,.v (.slice ((D.f 0).A) ((D.f 0).l) ((D.f 0).c))),(55,.v (.int .i64 ((k0_ : Nat) : Int))),(48,.p 2 0)])
   refine qaI [5,6] [(0,.p 0 0),(2,.p 1 0),(3,.p 3 0),(20,.v (.int .i64 (((D.f 0).l : Nat) : Int))),(21,.v (.int .i64 ((k0_ : Nat) : Int))),(45,.v (.slice (some ⟨aa,0,none⟩) 1 1)),(50,.v (.slice A0_ k0_ c0_)),(54,.v (.slice ((D.f 0).A) ((D.f 0).l) ((D.f 0).c))),(55,.v (.int .i64 ((k0_ : Nat) : Int)))] 7 (qac (qaa (qaa (qac (qaa qag))))) (fun _ h=>h.cells) cA dx fun gS dy=>?_
   obtain ⟨dz,dA,dB,gd,dh⟩:=Slots.get g1 (i:=k0_) (by omega)
   refine qaV dy (i:=12) (t:=160) (A:=(D.f 0).A) (m:=((D.f 0).l)) (q:=((k0_ : Nat) : Int)) (d:=56) kz (e:=167) (size:=18) (bytes:=48) kz dB rfl (by omega) kz kz (qac (qaa (qaa (qac (qaa qag))))) cA fun gT dC=>?_
   refine qaw (i:=13) kz (qam dC (f:=157) (vs:=[.pointer (some ⟨dz,dA + k0_ * 18,none⟩)]) (d:=57) kz Tryz.call157 (qbn 0 ((D.f 0).f k0_) _ _ _ _ (dh.move bt.step nilM bt.imm) (qaY _ bt.step nilM bt.imm (g1e k0_ (by omega)))) ?_)
   rintro e_ gU ⟨ge,rfl,dD,bT⟩
   have bU:=dD.move (Step.refl _ Nil) nilM (bt.laid (G:=F) bT)
   obtain ⟨bF,bG,bH,bI,bJ,bK,bL,bM,bN,bO,bP,gg,gh,bV,fR,fS,gV,gW⟩:=bU.open_
   rw [bV] at bU
   have fT:=fR.small
   have fU:=fS.small
   rw [bV]
   refine ⟨_,rfl,fun gX dE=>?_⟩
   have cD:=bt.next_nil bT
   have al:=bt.frN bT
   have dF:=TT.ofW al cD
   refine ⟨fun _=>dF,?_⟩
   refine qaw (i:=14) kz (qbx cD dE (e:=37) (size:=5) (len:=1) (cs:=[.int .i64 bF,.slice bK bG.length bL,.bool bH,.slice bM bI.length bN,.slice bO bJ.length bP]) (d:=58) kz kz fun dG gY gZ gi gj ae bw dH=>?_)
   have dI:=TT.ofW (al.trans ae) bw
   refine ⟨fun _=>dI,?_⟩
   refine qaw (i:=15) kz (qaW bw dH (k:=0) (d:=59) (t:=34) (e:=37) (size:=5) (bytes:=88) (A:=A0_) (As:=(some ⟨dG,0,none⟩)) (m0:=k0_) (c:=c0_) (m:=1) (cs:=1) (xs:=xs0_) (news:=[.int .i64 bF,.slice bK bG.length bL,.bool bH,.slice bM bI.length bN,.slice bO bJ.length bP]) kz kz rfl (qbE (bw.own 1 _ rfl) (qbD kz)) (qbI (bw.own 1 _ rfl)) (by omega) fun bQ bR g6 g7 am bW dJ=>?_)
   have dK:=TT.ofW ((al.trans ae).trans am) bW
   refine ⟨fun _=>dK,?_⟩
   refine qaw (i:=16) kz (qaC dJ (t:=34) (A:=(some ⟨aa,0,none⟩)) (m:=1) (q:=0) (d:=60) kz (e:=37) (size:=5) (bytes:=88) (j:=0) kz (b:=aa) (o:=0) rfl rfl (by decide) fun g8 dL=>?_)
   have dM:=dL.recast 60 (.v (.pointer (some ⟨aa,0 + 0 * 5,none⟩))) (.p 2 0) rfl rfl (Nat.le_of_ble_eq_true (n:=3) rfl)
   have dN:=dM.pk (env':=[(0,.p 0 0),(2,.p 1 0),(3,.p 3 0),(20,.v (.int .i64 (((D.f 0).l : Nat) : Int))),(21,.v (.int .i64 ((k0_ : Nat) : Int))),(45,.v (.slice (some ⟨aa,0,none⟩) 1 1)),(50,.v (.slice A0_ k0_ c0_)),(54,.v (.slice ((D.f 0).A) ((D.f 0).l) ((D.f 0).c))),(55,.v (.int .i64 ((k0_ : Nat) : Int))),(56,.v (.pointer (some ⟨dz,dA + k0_ * 18,none⟩))),(57,.v (.agg #[.int .i64 bF,.slice bK bG.length bL,.bool bH,.slice bM bI.length bN,.slice bO bJ.length bP])),(58,.v (.slice (some ⟨dG,0,none⟩) 1 1)),(59,.v (.slice bQ (k0_ + 1) bR)),(60,.p 2 0)])
   have cE:=TT.ofW ((al.trans ae).trans am) bW
   refine ⟨fun _=>cE,?_⟩
   refine qaI [17] [(0,.p 0 0),(2,.p 1 0),(3,.p 3 0),(20,.v (.int .i64 (((D.f 0).l : Nat) : Int))),(21,.v (.int .i64 ((k0_ : Nat) : Int))),(59,.v (.slice bQ (k0_ + 1) bR)),(61,.p 2 3)] 1 (qac (qaa (qaa (qac (qaa qag))))) (fun _ h=>h.cells) cE dN fun g9 dO=>?_
   refine qaw (i:=18) kz (qav bW dO (oi:=2) (cs:=[.int .i64 0,.slice none 0 0,.bool (((D.f 0).A).isNone),.slice bQ (k0_ + 1) bR,.slice none 0 0]) kz fun hC aZ cG dP=>?_)
   refine ⟨fun h=>absurd rfl h,?_⟩
   refine qaF kz ?_ _
   refine qat ?_
   refine qab ?_
   refine qas [0,1] kz ?_
   refine qal [0,1] [] [(0,.p 0 0),(2,.p 1 0),(3,.p 3 0),(20,.v (.int .i64 (((D.f 0).l : Nat) : Int))),(21,.v (.int .i64 (IntKind.i64.wrap (((k0_ : Nat) : Int) + 1))))] cG dP fun hJ dQ=>?_
   refine qaf (qab ?_)
   obtain ⟨cH,dR,ba⟩:=cG.cutB dQ 4 [⟨b,o,[.int .i16 v,.slice ((D.f 0).A) ((D.f 0).l) ((D.f 0).c),.map D.m],false⟩,⟨b3,0,[.int .i64 0,.slice none 0 0,.bool false,.slice none 0 0,.slice none 0 0],true⟩,⟨aa,0,[.int .i64 0,.slice none 0 0,.bool (((D.f 0).A).isNone),.slice bQ (k0_ + 1) bR,.slice none 0 0],true⟩,⟨bu,0,[.int .i64 0,.slice none 0 0,.bool false,.slice (some ⟨aa,0,none⟩) 1 1,.slice none 0 0],true⟩] [(0,.p 0 0),(2,.p 1 0),(3,.p 3 0),(20,.v (.int .i64 (((D.f 0).l : Nat) : Int))),(21,.v (.int .i64 (IntKind.i64.wrap (((k0_ : Nat) : Int) + 1))))]
   obtain ⟨dS,bd⟩:=dR.cutR 1 [⟨bQ,bR,37,5,k0_ + 1,xs0_ ++ [.int .i64 bF,.slice bK bG.length bL,.bool bH,.slice bM bI.length bN,.slice bO bJ.length bP]⟩]
   have dT : IntKind.i64.wrap (((k0_ : Nat) : Int) + 1) = ((k0_ + 1 : Nat) : Int):=qaR (by omega)
   rw [dT] at cH
   exact ⟨(D.f 0).l - (k0_ + 1),by omega,k0_ + 1,bQ,bR,xs0_ ++ [Value.int .i64 bF,.slice bK bG.length bL,.bool bH,.slice bM bI.length bN,.slice bO bJ.length bP],(css0_ ++ [[Value.int .i64 bF,.slice bK bG.length bL,.bool bH,.slice bM bI.length bN,.slice bO bJ.length bP]]),rfl,by omega,by rw [qcT (by omega)]; exact (hT0_.move ((((((((((aC.trans ab).trans bE).trans bS).trans dg).trans al).trans ae).trans am).trans aZ).trans ba).trans bd).step immM ((((((((((aC.trans ab).trans bE).trans bS).trans dg).trans al).trans ae).trans am).trans aZ).trans ba).trans bd).to').snoc (x:=(fun i=>qaT ((D.f 0).f i)) k0_) (bU.move ((((ae.trans am).trans aZ).trans ba).trans bd).step immM ((((ae.trans am).trans aZ).trans ba).trans bd).to'),cH.pk,dS,(((((((((((db.trans aC).trans ab).trans bE).trans bS).trans dg).trans al).trans ae).trans am).trans aZ).trans ba).trans bd)⟩
  refine (qav df dr (oi:=4) (cs:=[.bool false]) kz fun hK ac cI dU=>?_)
  have dV:=TT.ofW (ab.trans ac) cI
  refine ⟨fun _=>dV,?_⟩
  refine qaw (i:=1) kz (qav cI dU (oi:=4) (cs:=[.bool true]) kz fun hZ af bx dW=>?_)
  have dX:=TT.ofW ((ab.trans ac).trans af) bx
  refine ⟨fun _=>dX,?_⟩
  refine qaw (i:=3) kz (qbl [0,2,3,4,20,21,25] bx.cells dW (env':=[(0,.p 0 0),(2,.p 1 0),(3,.p 3 0),(4,.v (.int .i64 ((k0_ : Nat) : Int))),(20,.v (.int .i64 (((D.f 0).l : Nat) : Int))),(21,.v (.int .i64 ((k0_ : Nat) : Int))),(25,.v (.bool true))]) kz fun ia cJ=>?_)
  have dY:=TT.ofW ((ab.trans ac).trans af) bx
  refine ⟨fun _=>dY,?_⟩
  refine qaF kz ?_ _
  refine qab ?_
  refine qa8 cJ (b:=true) kz rfl ?_
  refine qaL 17 kz bx fun ib aA ag bz=>?_
  refine qaI [0,1,5,6,7,8,9] [(0,.p 0 0),(2,.p 1 0),(3,.p 3 0),(20,.v (.int .i64 (((D.f 0).l : Nat) : Int))),(21,.v (.int .i64 ((k0_ : Nat) : Int))),(27,.v (.slice (some ⟨aa,0,none⟩) 1 1)),(34,.v (.slice ((D.f 0).A) ((D.f 0).l) ((D.f 0).c))),(35,.v (.int .i64 ((k0_ : Nat) : Int)))] 11 (qaa (qac (qaa (qaa (qac (qaa qag)))))) (fun _ h=>h.cells) bz cJ fun ic dZ=>?_
  refine qaV dZ (i:=2) (t:=34) (A:=(some ⟨aa,0,none⟩)) (m:=1) (q:=0) (d:=28) kz (e:=37) (size:=5) (bytes:=88) (j:=0) kz (b:=aa) (o:=0) rfl rfl (by decide) kz kz (qaa (qac (qaa (qaa (qac (qaa qag)))))) bz fun ig d5=>?_
  have d6:=d5.recast 28 (.v (.pointer (some ⟨aa,0 + 0 * 5,none⟩))) (.p 2 0) rfl rfl (Nat.le_of_ble_eq_true (n:=3) rfl)
  have d7:=d6.pk (env':=[(0,.p 0 0),(2,.p 1 0),(3,.p 3 0),(20,.v (.int .i64 (((D.f 0).l : Nat) : Int))),(21,.v (.int .i64 ((k0_ : Nat) : Int))),(27,.v (.slice (some ⟨aa,0,none⟩) 1 1)),(34,.v (.slice ((D.f 0).A) ((D.f 0).l) ((D.f 0).c))),(35,.v (.int .i64 ((k0_ : Nat) : Int))),(28,.p 2 0)])
  refine qaI [3,4,12] [(0,.p 0 0),(2,.p 1 0),(3,.p 3 0),(20,.v (.int .i64 (((D.f 0).l : Nat) : Int))),(21,.v (.int .i64 ((k0_ : Nat) : Int))),(27,.v (.slice (some ⟨aa,0,none⟩) 1 1)),(30,.v (.slice A0_ k0_ c0_)),(34,.v (.slice ((D.f 0).A) ((D.f 0).l) ((D.f 0).c))),(35,.v (.int .i64 ((k0_ : Nat) : Int))),(38,.v (.int .i64 ((k0_ : Nat) : Int)))] 7 (qaa (qac (qaa (qaa (qac (qaa qag)))))) (fun _ h=>h.cells) bz d7 fun ii d8=>?_
  obtain ⟨cB,cC,d9,gk,bX⟩:=Slots.get g1 (i:=k0_) (by omega)
  refine qaV d8 (i:=10) (t:=160) (A:=(D.f 0).A) (m:=((D.f 0).l)) (q:=((k0_ : Nat) : Int)) (d:=36) kz (e:=167) (size:=18) (bytes:=48) kz d9 rfl (by omega) kz kz (qaa (qac (qaa (qaa (qac (qaa qag)))))) bz fun ij cK=>?_
  refine qew (i:=11) (j:=13) kz ?_ ?_
  ·
   refine (qam cK (f:=157) (vs:=[.pointer (some ⟨cB,cC + k0_ * 18,none⟩)]) (d:=37) kz Tryz.call157 (qbn 0 ((D.f 0).f k0_) _ _ _ _ (bX.move ag.step nilM ag.imm) (qaY _ ag.step nilM ag.imm (g1e k0_ (by omega)))) ?_)
   rintro e_ ik ⟨gl,rfl,ea,bY⟩
   have bZ:=ea.move (Step.refl _ Nil) nilM (ag.laid (G:=F) bY)
   obtain ⟨aD,aE,aF,aG,aH,aI,aJ,aK,aL,aM,aN,gm,gn,b8,fV,fW,il,im⟩:=bZ.open_
   rw [b8] at bZ
   have fX:=fV.small
   have fY:=fW.small
   rw [b8]
   refine ⟨_,rfl,fun io eb=>?_⟩
   have cL:=ag.next_nil bY
   have ao:=ag.frN bY
   have ec:=TT.ofW ao cL
   refine ⟨fun _=>ec,?_⟩
   refine qaw (i:=13) kz (qbx cL eb (e:=37) (size:=5) (len:=1) (cs:=[.int .i64 0,.slice none 0 0,.bool false,.slice none 0 0,.slice none 0 0]) (d:=39) kz kz fun di ip iq gp gq ah bA ee=>?_)
   have ef:=TT.ofW (ao.trans ah) bA
   refine ⟨fun _=>ef,?_⟩
   refine qaw (i:=14) kz (qaW bA ee (k:=0) (d:=40) (t:=34) (e:=37) (size:=5) (bytes:=88) (A:=A0_) (As:=(some ⟨di,0,none⟩)) (m0:=k0_) (c:=c0_) (m:=1) (cs:=1) (xs:=xs0_) (news:=[.int .i64 0,.slice none 0 0,.bool false,.slice none 0 0,.slice none 0 0]) kz kz rfl (qbE (bA.own 1 _ rfl) (qbD kz)) (qbI (bA.own 1 _ rfl)) (by omega) fun aj ap ir iu ar cd eg=>?_)
   have eh:=TT.ofW ((ao.trans ah).trans ar) cd
   refine ⟨fun _=>eh,?_⟩
   refine qaw (i:=15) kz (qaC eg (t:=34) (A:=(some ⟨aa,0,none⟩)) (m:=1) (q:=0) (d:=41) kz (e:=37) (size:=5) (bytes:=88) (j:=0) kz (b:=aa) (o:=0) rfl rfl (by decide) fun iv ei=>?_)
   have ej:=ei.recast 41 (.v (.pointer (some ⟨aa,0 + 0 * 5,none⟩))) (.p 2 0) rfl rfl (Nat.le_of_ble_eq_true (n:=3) rfl)
   have ek:=ej.pk (env':=[(0,.p 0 0),(2,.p 1 0),(3,.p 3 0),(20,.v (.int .i64 (((D.f 0).l : Nat) : Int))),(21,.v (.int .i64 ((k0_ : Nat) : Int))),(27,.v (.slice (some ⟨aa,0,none⟩) 1 1)),(30,.v (.slice A0_ k0_ c0_)),(34,.v (.slice ((D.f 0).A) ((D.f 0).l) ((D.f 0).c))),(35,.v (.int .i64 ((k0_ : Nat) : Int))),(38,.v (.int .i64 ((k0_ : Nat) : Int))),(36,.v (.pointer (some ⟨cB,cC + k0_ * 18,none⟩))),(37,.v (.agg #[.int .i64 aD,.slice aI aE.length aJ,.bool aF,.slice aK aG.length aL,.slice aM aH.length aN])),(39,.v (.slice (some ⟨di,0,none⟩) 1 1)),(40,.v (.slice aj (k0_ + 1) ap)),(41,.p 2 0)])
   have cM:=TT.ofW ((ao.trans ah).trans ar) cd
   refine ⟨fun _=>cM,?_⟩
   refine qaI [16] [(0,.p 0 0),(2,.p 1 0),(3,.p 3 0),(20,.v (.int .i64 (((D.f 0).l : Nat) : Int))),(21,.v (.int .i64 ((k0_ : Nat) : Int))),(37,.v (.agg #[.int .i64 aD,.slice aI aE.length aJ,.bool aF,.slice aK aG.length aL,.slice aM aH.length aN])),(38,.v (.int .i64 ((k0_ : Nat) : Int))),(40,.v (.slice aj (k0_ + 1) ap)),(42,.p 2 3)] 1 (qaa (qac (qaa (qaa (qac (qaa qag)))))) (fun _ h=>h.cells) cM ek fun iw em=>?_
   refine qaw (i:=17) kz (qav cd em (oi:=2) (cs:=[.int .i64 0,.slice none 0 0,.bool (((D.f 0).A).isNone),.slice aj (k0_ + 1) ap,.slice none 0 0]) kz fun fZ bf cN eo=>?_)
   refine ⟨fun h=>absurd rfl h,?_⟩
   refine qaF kz ?_ _
   refine qab ?_
   refine qas [0,1] kz ?_
   have ep : World.ownsRow fZ 0 37 5 (.slice aj (k0_ + 1) ap) (k0_ + 1) (xs0_ ++ [.int .i64 0,.slice none 0 0,.bool false,.slice none 0 0,.slice none 0 0]):=cN.own 0 _ rfl
   obtain ⟨eu,cO⟩:=qb5 ep (by omega)
   refine qan (qaC eo (t:=34) (A:=aj) (m:=(k0_ + 1)) (q:=((k0_ : Nat) : Int)) (d:=43) kz (e:=37) (size:=5) (bytes:=88) kz (b:=eu) (o:=0) (j:=k0_) cO (rfl) (by omega) fun ix ev=>?_)
   refine qan (qb1 cN ev (k:=0) (g:=eu) (o:=k0_ * 5) (c:=ap) (m:=(k0_ + 1)) (size:=5) (e:=37) (A:=aj) (xs:=(xs0_ ++ [.int .i64 0,.slice none 0 0,.bool false,.slice none 0 0,.slice none 0 0])) (vs:=[.int .i64 aD,.slice aI aE.length aJ,.bool aF,.slice aK aG.length aL,.slice aM aH.length aN]) kz rfl cO (by simp only [List.length_cons,List.length_nil]; omega) fun iy bg ew ey=>?_)
   have ez : (⟨aj,ap,37,5,k0_ + 1,qbm (xs0_ ++ [.int .i64 0,.slice none 0 0,.bool false,.slice none 0 0,.slice none 0 0]) (k0_ * 5) [.int .i64 aD,.slice aI aE.length aJ,.bool aF,.slice aK aG.length aL,.slice aM aH.length aN]⟩ : Rw) = ⟨aj,ap,37,5,k0_ + 1,xs0_ ++ [.int .i64 aD,.slice aI aE.length aJ,.bool aF,.slice aK aG.length aL,.slice aM aH.length aN]⟩:=by rw [qdo (by rw [hT0_.xslen,List.length_take,qcI]; omega)]
   obtain ⟨cP,bh⟩:=ew.rowEq 0 [⟨aj,ap,37,5,k0_ + 1,xs0_ ++ [.int .i64 aD,.slice aI aE.length aJ,.bool aF,.slice aK aG.length aL,.slice aM aH.length aN]⟩,⟨some ⟨di,0,none⟩,1,37,5,1,[.int .i64 0,.slice none 0 0,.bool false,.slice none 0 0,.slice none 0 0]⟩] ez
   refine qaf ?_
   refine qat ?_
   refine qab ?_
   refine qas [0,1] kz ?_
   refine qal [0,1] [] [(0,.p 0 0),(2,.p 1 0),(3,.p 3 0),(20,.v (.int .i64 (((D.f 0).l : Nat) : Int))),(21,.v (.int .i64 (IntKind.i64.wrap (((k0_ : Nat) : Int) + 1))))] cP ey fun iz eB=>?_
   refine qaf (qab ?_)
   obtain ⟨cQ,eC,bi⟩:=cP.cutB eB 4 [⟨b,o,[.int .i16 v,.slice ((D.f 0).A) ((D.f 0).l) ((D.f 0).c),.map D.m],false⟩,⟨b3,0,[.int .i64 0,.slice none 0 0,.bool false,.slice none 0 0,.slice none 0 0],true⟩,⟨aa,0,[.int .i64 0,.slice none 0 0,.bool (((D.f 0).A).isNone),.slice aj (k0_ + 1) ap,.slice none 0 0],true⟩,⟨bu,0,[.int .i64 0,.slice none 0 0,.bool false,.slice (some ⟨aa,0,none⟩) 1 1,.slice none 0 0],true⟩] [(0,.p 0 0),(2,.p 1 0),(3,.p 3 0),(20,.v (.int .i64 (((D.f 0).l : Nat) : Int))),(21,.v (.int .i64 (IntKind.i64.wrap (((k0_ : Nat) : Int) + 1))))]
   obtain ⟨eD,bj⟩:=eC.cutR 1 [⟨aj,ap,37,5,k0_ + 1,xs0_ ++ [.int .i64 aD,.slice aI aE.length aJ,.bool aF,.slice aK aG.length aL,.slice aM aH.length aN]⟩]
   have eE : IntKind.i64.wrap (((k0_ : Nat) : Int) + 1) = ((k0_ + 1 : Nat) : Int):=qaR (by omega)
   rw [eE] at cQ
   exact ⟨(D.f 0).l - (k0_ + 1),by omega,k0_ + 1,aj,ap,xs0_ ++ [Value.int .i64 aD,.slice aI aE.length aJ,.bool aF,.slice aK aG.length aL,.slice aM aH.length aN],(css0_ ++ [[Value.int .i64 aD,.slice aI aE.length aJ,.bool aF,.slice aK aG.length aL,.slice aM aH.length aN]]),rfl,by omega,by rw [qcT (by omega)]; exact (hT0_.move ((((((((((((aC.trans ab).trans ac).trans af).trans aA).trans ao).trans ah).trans ar).trans bf).trans bg).trans bh).trans bi).trans bj).step immM ((((((((((((aC.trans ab).trans ac).trans af).trans aA).trans ao).trans ah).trans ar).trans bf).trans bg).trans bh).trans bi).trans bj).to').snoc (x:=(fun i=>qaT ((D.f 0).f i)) k0_) (bZ.move ((((((ah.trans ar).trans bf).trans bg).trans bh).trans bi).trans bj).step immM ((((((ah.trans ar).trans bf).trans bg).trans bh).trans bi).trans bj).to'),cQ.pk,eD,(((((((((((((db.trans aC).trans ab).trans ac).trans af).trans aA).trans ao).trans ah).trans ar).trans bf).trans bg).trans bh).trans bi).trans bj)⟩
  refine (qbx ag cK (e:=37) (size:=5) (len:=1) (cs:=[.int .i64 0,.slice none 0 0,.bool false,.slice none 0 0,.slice none 0 0]) (d:=39) kz kz fun dj iA iB gt gv au ai eF=>?_)
  have eG:=TT.ofW au ai
  refine ⟨fun _=>eG,?_⟩
  refine qaw (i:=11) kz (qam eF (f:=157) (vs:=[.pointer (some ⟨cB,cC + k0_ * 18,none⟩)]) (d:=37) kz Tryz.call157 (qbn 0 ((D.f 0).f k0_) _ _ _ _ (bX.move ai.step nilM ai.imm) (qaY _ ai.step nilM ai.imm (g1e k0_ (by omega)))) ?_)
  rintro e_ iC ⟨gw,rfl,eH,ce⟩
  have cm:=eH.move (Step.refl _ Nil) nilM (ai.laid (G:=F) ce)
  obtain ⟨aO,aP,aQ,aR,aS,aT,aU,aV,aW,aX,aY,gx,gy,cq,f5,f7,iD,iE⟩:=cm.open_
  rw [cq] at cm
  have f8:=f5.small
  have ga:=f7.small
  rw [cq]
  refine ⟨_,rfl,fun iF eI=>?_⟩
  have bB:=ai.next_nil ce
  have aB:=ai.frN ce
  have eJ:=TT.ofW (au.trans aB) bB
  refine ⟨fun _=>eJ,?_⟩
  refine qaw (i:=14) kz (qaW bB eI (k:=0) (d:=40) (t:=34) (e:=37) (size:=5) (bytes:=88) (A:=A0_) (As:=(some ⟨dj,0,none⟩)) (m0:=k0_) (c:=c0_) (m:=1) (cs:=1) (xs:=xs0_) (news:=[.int .i64 0,.slice none 0 0,.bool false,.slice none 0 0,.slice none 0 0]) kz kz rfl (qbE (bB.own 1 _ rfl) (qbD kz)) (qbI (bB.own 1 _ rfl)) (by omega) fun ak av iG iH aw cr eK=>?_)
  have eL:=TT.ofW ((au.trans aB).trans aw) cr
  refine ⟨fun _=>eL,?_⟩
  refine qaw (i:=15) kz (qaC eK (t:=34) (A:=(some ⟨aa,0,none⟩)) (m:=1) (q:=0) (d:=41) kz (e:=37) (size:=5) (bytes:=88) (j:=0) kz (b:=aa) (o:=0) rfl rfl (by decide) fun iI eM=>?_)
  have eN:=eM.recast 41 (.v (.pointer (some ⟨aa,0 + 0 * 5,none⟩))) (.p 2 0) rfl rfl (Nat.le_of_ble_eq_true (n:=3) rfl)
  have eO:=eN.pk (env':=[(0,.p 0 0),(2,.p 1 0),(3,.p 3 0),(20,.v (.int .i64 (((D.f 0).l : Nat) : Int))),(21,.v (.int .i64 ((k0_ : Nat) : Int))),(27,.v (.slice (some ⟨aa,0,none⟩) 1 1)),(30,.v (.slice A0_ k0_ c0_)),(34,.v (.slice ((D.f 0).A) ((D.f 0).l) ((D.f 0).c))),(35,.v (.int .i64 ((k0_ : Nat) : Int))),(38,.v (.int .i64 ((k0_ : Nat) : Int))),(36,.v (.pointer (some ⟨cB,cC + k0_ * 18,none⟩))),(39,.v (.slice (some ⟨dj,0,none⟩) 1 1)),(37,.v (.agg #[.int .i64 aO,.slice aT aP.length aU,.bool aQ,.slice aV aR.length aW,.slice aX aS.length aY])),(40,.v (.slice ak (k0_ + 1) av)),(41,.p 2 0)])
  have cR:=TT.ofW ((au.trans aB).trans aw) cr
  refine ⟨fun _=>cR,?_⟩
  refine qaI [16] [(0,.p 0 0),(2,.p 1 0),(3,.p 3 0),(20,.v (.int .i64 (((D.f 0).l : Nat) : Int))),(21,.v (.int .i64 ((k0_ : Nat) : Int))),(37,.v (.agg #[.int .i64 aO,.slice aT aP.length aU,.bool aQ,.slice aV aR.length aW,.slice aX aS.length aY])),(38,.v (.int .i64 ((k0_ : Nat) : Int))),(40,.v (.slice ak (k0_ + 1) av)),(42,.p 2 3)] 1 (qaa (qac (qaa (qaa (qac (qaa qag)))))) (fun _ h=>h.cells) cR eO fun iJ eP=>?_
  refine qaw (i:=17) kz (qav cr eP (oi:=2) (cs:=[.int .i64 0,.slice none 0 0,.bool (((D.f 0).A).isNone),.slice ak (k0_ + 1) av,.slice none 0 0]) kz fun gb bk cS eQ=>?_)
  refine ⟨fun h=>absurd rfl h,?_⟩
  refine qaF kz ?_ _
  refine qab ?_
  refine qas [0,1] kz ?_
  have eR : World.ownsRow gb 0 37 5 (.slice ak (k0_ + 1) av) (k0_ + 1) (xs0_ ++ [.int .i64 0,.slice none 0 0,.bool false,.slice none 0 0,.slice none 0 0]):=cS.own 0 _ rfl
  obtain ⟨eS,cT⟩:=qb5 eR (by omega)
  refine qan (qaC eQ (t:=34) (A:=ak) (m:=(k0_ + 1)) (q:=((k0_ : Nat) : Int)) (d:=43) kz (e:=37) (size:=5) (bytes:=88) kz (b:=eS) (o:=0) (j:=k0_) cT (rfl) (by omega) fun iK eU=>?_)
  refine qan (qb1 cS eU (k:=0) (g:=eS) (o:=k0_ * 5) (c:=av) (m:=(k0_ + 1)) (size:=5) (e:=37) (A:=ak) (xs:=(xs0_ ++ [.int .i64 0,.slice none 0 0,.bool false,.slice none 0 0,.slice none 0 0])) (vs:=[.int .i64 aO,.slice aT aP.length aU,.bool aQ,.slice aV aR.length aW,.slice aX aS.length aY]) kz rfl cT (by simp only [List.length_cons,List.length_nil]; omega) fun iL bn eV eW=>?_)
  have eX : (⟨ak,av,37,5,k0_ + 1,qbm (xs0_ ++ [.int .i64 0,.slice none 0 0,.bool false,.slice none 0 0,.slice none 0 0]) (k0_ * 5) [.int .i64 aO,.slice aT aP.length aU,.bool aQ,.slice aV aR.length aW,.slice aX aS.length aY]⟩ : Rw) = ⟨ak,av,37,5,k0_ + 1,xs0_ ++ [.int .i64 aO,.slice aT aP.length aU,.bool aQ,.slice aV aR.length aW,.slice aX aS.length aY]⟩:=by rw [qdo (by rw [hT0_.xslen,List.length_take,qcI]; omega)]
  obtain ⟨cU,bo⟩:=eV.rowEq 0 [⟨ak,av,37,5,k0_ + 1,xs0_ ++ [.int .i64 aO,.slice aT aP.length aU,.bool aQ,.slice aV aR.length aW,.slice aX aS.length aY]⟩,⟨some ⟨dj,0,none⟩,1,37,5,1,[.int .i64 0,.slice none 0 0,.bool false,.slice none 0 0,.slice none 0 0]⟩] eX
  refine qaf ?_
  refine qat ?_
  refine qab ?_
  refine qas [0,1] kz ?_
  refine qal [0,1] [] [(0,.p 0 0),(2,.p 1 0),(3,.p 3 0),(20,.v (.int .i64 (((D.f 0).l : Nat) : Int))),(21,.v (.int .i64 (IntKind.i64.wrap (((k0_ : Nat) : Int) + 1))))] cU eW fun iM eY=>?_
  refine qaf (qab ?_)
  obtain ⟨cV,eZ,bp⟩:=cU.cutB eY 4 [⟨b,o,[.int .i16 v,.slice ((D.f 0).A) ((D.f 0).l) ((D.f 0).c),.map D.m],false⟩,⟨b3,0,[.int .i64 0,.slice none 0 0,.bool false,.slice none 0 0,.slice none 0 0],true⟩,⟨aa,0,[.int .i64 0,.slice none 0 0,.bool (((D.f 0).A).isNone),.slice ak (k0_ + 1) av,.slice none 0 0],true⟩,⟨bu,0,[.int .i64 0,.slice none 0 0,.bool false,.slice (some ⟨aa,0,none⟩) 1 1,.slice none 0 0],true⟩] [(0,.p 0 0),(2,.p 1 0),(3,.p 3 0),(20,.v (.int .i64 (((D.f 0).l : Nat) : Int))),(21,.v (.int .i64 (IntKind.i64.wrap (((k0_ : Nat) : Int) + 1))))]
  obtain ⟨e9,bq⟩:=eZ.cutR 1 [⟨ak,av,37,5,k0_ + 1,xs0_ ++ [.int .i64 aO,.slice aT aP.length aU,.bool aQ,.slice aV aR.length aW,.slice aX aS.length aY]⟩]
  have fa : IntKind.i64.wrap (((k0_ : Nat) : Int) + 1) = ((k0_ + 1 : Nat) : Int):=qaR (by omega)
  rw [fa] at cV
  exact ⟨(D.f 0).l - (k0_ + 1),by omega,k0_ + 1,ak,av,xs0_ ++ [Value.int .i64 aO,.slice aT aP.length aU,.bool aQ,.slice aV aR.length aW,.slice aX aS.length aY],(css0_ ++ [[Value.int .i64 aO,.slice aT aP.length aU,.bool aQ,.slice aV aR.length aW,.slice aX aS.length aY]]),rfl,by omega,by rw [qcT (by omega)]; exact (hT0_.move ((((((((((((aC.trans ab).trans ac).trans af).trans aA).trans au).trans aB).trans aw).trans bk).trans bn).trans bo).trans bp).trans bq).step immM ((((((((((((aC.trans ab).trans ac).trans af).trans aA).trans au).trans aB).trans aw).trans bk).trans bn).trans bo).trans bp).trans bq).to').snoc (x:=(fun i=>qaT ((D.f 0).f i)) k0_) (cm.move (((((aw.trans bk).trans bn).trans bo).trans bp).trans bq).step immM (((((aw.trans bk).trans bn).trans bo).trans bp).trans bq).to'),cV.pk,e9,(((((((((((((db.trans aC).trans ab).trans ac).trans af).trans aA).trans au).trans aB).trans aw).trans bk).trans bn).trans bo).trans bp).trans bq)⟩
 have gz:=of_decide_eq_false de
 refine wp_exit ?_
 refine qaB ?_
 refine qaB ?_
 refine qaP ?_
 refine qab ?_
 refine qae [0,1,2,3,4] kz ?_
 refine qal [0,1,2] [3,4] [(2,.p 1 0),(3,.p 3 0),(65,.p 0 2)] ax dc fun iN fb=>?_
 refine qan (qeU fb (v:=.func (.func 158) #[] #[.pointer (some ⟨bu,0,none⟩)]) (d:=66) kz fun iO fe=>?_)
 refine qan (qam fe (f:=122) (vs:=[.pointer (some ⟨b,o + 2,none⟩),.func (.func 158) #[] #[.pointer (some ⟨bu,0,none⟩)]]) (d:=67) kz Tryz.call122 (qfp (F:=(Imm F w gK [⟨b,o,[.int .i16 v,.slice ((D.f 0).A) ((D.f 0).l) ((D.f 0).c),.map D.m],false⟩,⟨b3,0,[.int .i64 0,.slice none 0 0,.bool false,.slice none 0 0,.slice none 0 0],true⟩,⟨aa,0,[.int .i64 0,.slice none 0 0,.bool (((D.f 0).A).isNone),.slice A0_ k0_ c0_,.slice none 0 0],true⟩,⟨bu,0,[.int .i64 0,.slice none 0 0,.bool false,.slice (some ⟨aa,0,none⟩) 1 1,.slice none 0 0],true⟩] [⟨A0_,c0_,37,5,k0_,xs0_⟩])) Tryz.call158 qcv ((hat.one 2 rfl).move ax.step nilM ax.imm) (g2.move ax.step nilM ax.imm) (Str.of ax 3 rfl) (qj6 3 rfl) g2l) ?_)
 rintro e_ iP ⟨rfl,ay,az,dl,ff,fg⟩
 obtain ⟨cu,cW,fh⟩:=ax.wrote 3 [⟨b,o,[.int .i16 v,.slice ((D.f 0).A) ((D.f 0).l) ((D.f 0).c),.map D.m],false⟩,⟨b3,0,[.int .i64 0,.slice none 0 0,.bool false,.slice none 0 0,.slice none 0 0],true⟩,⟨aa,0,[.int .i64 0,.slice none 0 0,.bool (((D.f 0).A).isNone),.slice A0_ k0_ c0_,.slice none 0 0],true⟩,⟨bu,0,[.int .i64 0,.slice none 0 0,.bool false,.slice (some ⟨aa,0,none⟩) 1 1,.slice ay D.u.length az],true⟩] rfl fg dl
 have cX:=ff.move (Step.refl _ Nil) nilM (fun b_ o_ h_ hb_=>fh (G:=F) b_ o_ (.inr h_) hb_)
 refine ⟨_,rfl,fun iQ fi=>?_⟩
 have fj:=(EnvOk.places (tb':=[⟨b,o,[.int .i16 v,.slice ((D.f 0).A) ((D.f 0).l) ((D.f 0).c),.map D.m],false⟩,⟨b3,0,[.int .i64 0,.slice none 0 0,.bool false,.slice none 0 0,.slice none 0 0],true⟩,⟨aa,0,[.int .i64 0,.slice none 0 0,.bool (((D.f 0).A).isNone),.slice A0_ k0_ c0_,.slice none 0 0],true⟩,⟨bu,0,[.int .i64 0,.slice none 0 0,.bool false,.slice (some ⟨aa,0,none⟩) 1 1,.slice ay D.u.length az],true⟩]) fi (show Pl [⟨b,o,[.int .i16 v,.slice ((D.f 0).A) ((D.f 0).l) ((D.f 0).c),.map D.m],false⟩,⟨b3,0,[.int .i64 0,.slice none 0 0,.bool false,.slice none 0 0,.slice none 0 0],true⟩,⟨aa,0,[.int .i64 0,.slice none 0 0,.bool (((D.f 0).A).isNone),.slice A0_ k0_ c0_,.slice none 0 0],true⟩,⟨bu,0,[.int .i64 0,.slice none 0 0,.bool false,.slice (some ⟨aa,0,none⟩) 1 1,.slice none 0 0],true⟩] [⟨b,o,[.int .i16 v,.slice ((D.f 0).A) ((D.f 0).l) ((D.f 0).c),.map D.m],false⟩,⟨b3,0,[.int .i64 0,.slice none 0 0,.bool false,.slice none 0 0,.slice none 0 0],true⟩,⟨aa,0,[.int .i64 0,.slice none 0 0,.bool (((D.f 0).A).isNone),.slice A0_ k0_ c0_,.slice none 0 0],true⟩,⟨bu,0,[.int .i64 0,.slice none 0 0,.bool false,.slice (some ⟨aa,0,none⟩) 1 1,.slice ay D.u.length az],true⟩] from ⟨rfl,rfl,⟨rfl,rfl,⟨rfl,rfl,⟨rfl,rfl,trivial⟩⟩⟩⟩)).pk (env':=[(67,.v (.tuple #[])),(2,.p 1 0),(3,.p 3 0),(65,.p 0 2),(66,.v (.func (.func 158) #[] #[.pointer (some ⟨bu,0,none⟩)]))])
 refine qaf (qab ?_)
 refine qae [0,1,2] kz ?_
 refine qal [0,1] [2] [(2,.p 1 0),(3,.p 3 0),(69,.v (.slice ay D.u.length az))] cu fj fun iR fk=>?_
 refine qan (qam fk (f:=124) (vs:=[.slice ay D.u.length az]) (d:=70) kz Tryz.call124 (qhk cX g2.sorted) ?_)
 rintro e_ iS ⟨rfl,cY⟩
 refine ⟨_,rfl,fun iT fm=>?_⟩
 have cZ:=cu.next_nil cY
 have bC:=cu.frN cY
 refine qaf (qab ?_)
 refine qae [0,1] kz ?_
 refine qal [0] [1] [(2,.p 1 0),(71,.v (.agg #[.int .i64 0,.slice none 0 0,.bool false,.slice (some ⟨aa,0,none⟩) 1 1,.slice ay D.u.length az]))] cZ fm fun iU fo=>?_
 refine qan (qav cZ fo (oi:=1) (cs:=[.int .i64 0,.slice none 0 0,.bool false,.slice (some ⟨aa,0,none⟩) 1 1,.slice ay D.u.length az]) kz fun gc bD cw fq=>?_)
 refine qaf (qab ?_)
 refine wp_ret ?_
 refine qaK fq cw.cells (v:=.agg #[.int .i64 0,.slice none 0 0,.bool false,.slice (some ⟨aa,0,none⟩) 1 1,.slice ay D.u.length az]) kz ?_
 have c5:=(hT0_.move ((cW.trans bC).trans bD).step immM ((cW.trans bC).trans bD).to')
 rw [qhK (by omega)] at c5
 exact qgb (u:=D.u) (l:=[.mk 0 [] (D.f 0).A.isNone ((List.range (D.f 0).l).map fun i=>qaT ((D.f 0).f i)) []]) (css:=[[.int .i64 0,.slice none 0 0,.bool (((D.f 0).A).isNone),.slice A0_ k0_ c0_,.slice none 0 0]]) cw 2 rfl ⟨qgS cw (k:=0) rfl c5 (by rw [qcI]; omega) (by rw [qcI]; omega),trivial⟩ ((show TagsR _ (Imm F w gc [⟨b,o,[.int .i16 v,.slice ((D.f 0).A) ((D.f 0).l) ((D.f 0).c),.map D.m],false⟩,⟨b3,0,[.int .i64 0,.slice none 0 0,.bool false,.slice (some ⟨aa,0,none⟩) 1 1,.slice ay D.u.length az],true⟩,⟨aa,0,[.int .i64 0,.slice none 0 0,.bool (((D.f 0).A).isNone),.slice A0_ k0_ c0_,.slice none 0 0],true⟩,⟨bu,0,[.int .i64 0,.slice none 0 0,.bool false,.slice (some ⟨aa,0,none⟩) 1 1,.slice ay D.u.length az],true⟩] [⟨A0_,c0_,37,5,k0_,xs0_⟩]) _ _ _ from (cX.move (bC.trans bD).step immM (bC.trans bD).to')).move (Step.refl _ Nil) nilM qca)
theorem qkD {t : Tree} (h : t.i64s) (i : Nat) : (t.at_ i).i64s:=by
 cases t with
 | mk n s b l u =>
  have h1 : ∀ x ∈ l,x.i64s:=qfe h.2
  show (l.getD i .zero).i64s
  rw [List.getD_eq_getElem?_getD]
  cases hx : l[i]? with
  | none=>exact ⟨by decide,trivial⟩
  | some x=>exact h1 x (List.mem_of_getElem? hx)
theorem qgU {t x : Tree} (h : t.i64s) {i : Nat} (hx : (qao t.L)[i]? = some x) : x.i64s:=by
 cases t with
 | mk n s b l u =>
  have h1 : ∀ x ∈ l,x.i64s:=qfe h.2
  exact h1 x (List.mem_of_mem_take (List.mem_of_getElem? hx))
theorem qdW {k x1 x2 x3 x5 x6 v : Int} {s : List Fld} {flex : Bool} {x : Tree} : Fld.pres (.mk k x1 x2 x3 (-1) x5 x6 s) v flex x = (decide (x1 ≤ v) && (decide (x2 < 0) || decide (v ≤ x2))):=by simp [Fld.pres,Fld.tag,Fld.has]
section
variable {T : List Fld → Tree → Tree → Prop} {U : List Fld → Tree → Prop} {v k x1 x2 x3 x4 x5 x6 n : Int} {sub : List Fld} {x T' : Tree} {A : Option Addr} {s : ByteArray} {o : Bs} {b : Bool}
theorem qk7 (hn : n = qbw k x.N) (hk : k < 7:=by decide) : ToF0 T v (.mk k x1 x2 (-1) x4 x5 x6 sub) x (.mk n [] false [] []):=by
 cases x
 exact ⟨fun h=>by omega,fun _ h=>by omega,fun _ h=>by omega,fun _ h=>by omega,fun _ _ _ _ _ _=>hn⟩
theorem qkE (hn : n = qbw k x.N) (hk : k < 7:=by decide) : ToF T v (.mk k x1 x2 (-1) x4 x5 x6 sub) x (.mk n [] false [] []):=⟨qk7 hn hk,fun h=>absurd (show k = 11 from h) (by omega)⟩
theorem qlQ (hs : o = qaE x.S) : ToF0 T v (.mk 8 x1 x2 (-1) x4 x5 x6 sub) x (.mk 0 o false [] []):=by
 cases x with
 | mk a1 a2 a3 a4 a5 =>
  exact ⟨fun _=>nul_no.symm,fun _ _=>hs,fun _ h=>by omega,fun _ h=>by omega,fun _ _ h=>absurd rfl h⟩
theorem qkd (h : s = bs (qb7 T') ∧ A.isNone = T'.null) (h1 : qb7 T' = (if Fld.nul (.mk 8 x1 x2 x3 x4 x5 x6 sub) v x = true then [] else qaE x.S) ∧ T'.null = Fld.nul (.mk 8 x1 x2 x3 x4 x5 x6 sub) v x) : ToF T v (.mk 8 x1 x2 x3 x4 x5 x6 sub) x (qim A s):=by
 refine ⟨?_,fun h=>absurd (show (8 : Int) = 11 from h) (by decide)⟩
 have e : qim A s = .mk 0 (if Fld.nul (.mk 8 x1 x2 x3 x4 x5 x6 sub) v x = true then [] else qaE x.S) (Fld.nul (.mk 8 x1 x2 x3 x4 x5 x6 sub) v x) [] []:=by
  unfold qim
  rw [h.2,h1.2,h.1,qlU,h1.1]
  split <;> rfl
 rw [e]
 cases x with
 | mk a1 a2 a3 a4 a5 =>
  exact ⟨fun _=>rfl,fun hn _=>by rw [if_neg (by rw [hn]; decide)]; rfl,fun _ h=>by omega,fun _ h=>by omega,fun _ _ h=>absurd rfl h⟩
theorem qke (hs : o = qbp x.S) : ToF0 T v (.mk 7 x1 x2 (-1) x4 x5 x6 sub) x (.mk 0 o false [] []):=by
 cases x with
 | mk a1 a2 a3 a4 a5 =>
  exact ⟨fun h=>by omega,fun _ h=>by omega,fun _ _=>hs,fun _ h=>by omega,fun _ h=>absurd rfl h⟩
theorem qk8 (h : o = qah T'.S) (h1 : T'.S = x.S) : ToF T v (.mk 7 x1 x2 (-1) x4 x5 x6 sub) x (.mk 0 o false [] []) :=
 ⟨qke (by rw [h,qcO,h1]),fun h=>absurd (show (7 : Int) = 11 from h) (by decide)⟩
theorem qhR {g : Tree} (hg : g.null = false) (h : T sub x g) : ToF0 T v (.mk 10 x1 x2 (-1) x4 x5 x6 sub) x g:=by
 cases x with
 | mk a1 a2 a3 a4 a5 =>
  cases g with
  | mk g1 g2 g3 g4 g5 =>
   exact ⟨fun _=>by rw [nul_no]; exact hg,fun _ h=>by omega,fun _ h=>by omega,fun _ _=>h,fun _ _ _ _ h=>absurd rfl h⟩
theorem qjE {l : Nat} {g : Nat → Tree} {W : Tree → Tree} (hb : x3 ≥ 0 ∧ v ≥ x3 → b = Fld.nul (.mk 11 x1 x2 x3 x4 x5 x6 sub) v x) (hl : l = (lst T').length) (hlst : lst T' = (if Fld.nul (.mk 11 x1 x2 x3 (-1) x5 x6 sub) v x = true then [] else qao x.L).map W)
  (he : ∀ i y,i < l → (lst T').getD i .zero = W y → (qao x.L)[i]? = some y → ToF0 T v (.mk x6 x1 x2 (-1) (-1) x5 x6 sub) y (g i)) : ToF T v (.mk 11 x1 x2 x3 x4 x5 x6 sub) x (.mk 0 [] b ((List.range l).map g) []):=by
 have hn : Fld.nul (.mk 11 x1 x2 x3 (-1) x5 x6 sub) v x = Fld.nul (.mk 11 x1 x2 x3 x4 x5 x6 sub) v x:=by cases x; rfl
 refine ⟨?_,fun _ hnn=>?_⟩
 ·cases x with
  | mk a1 a2 a3 a4 a5 =>
   refine ⟨fun h=>hb ?_,fun _ h=>by omega,fun _ h=>by omega,fun _ h=>by omega,fun _ _ _ _ _ h=>absurd rfl h⟩
   rcases h with h | h | h
   ·omega
   ·omega
   exact h
 rw [hn,hnn,if_neg (by decide)] at hlst
 have hll : l = (qao x.L).length:=by rw [hl,hlst,List.length_map]
 refine ⟨by show ((List.range l).map g).length = _; rw [List.length_map,List.length_range,hll],fun i y z hy hz=>?_⟩
 have hi : i < l:=by rw [hll]; exact (List.getElem?_eq_some_iff.1 hy).1
 have hz' : ((List.range l).map g)[i]? = some z:=hz
 rw [List.getElem?_map,List.getElem?_range hi] at hz'
 obtain rfl:=Option.some.inj hz'
 refine he i y hi ?_ hy
 rw [hlst,List.getD_eq_getElem?_getD,List.getElem?_map,hy]
 rfl
end
theorem qbK (v : Int) (h0 : 0 ≤ v) (t Y : Tree) (hY : ∀ i,Y.at_ i = (fitT v 6 [(Fld.mk 3 0 (-1) (-1) (-1) 0 0 []),(Fld.mk 2 0 (-1) (-1) (-1) 0 0 []),(Fld.mk 8 0 (-1) 0 (-1) 0 0 [])] t).at_ i) (hU : Y.U = (fitT v 6 [(Fld.mk 3 0 (-1) (-1) (-1) 0 0 []),(Fld.mk 2 0 (-1) (-1) (-1) 0 0 []),(Fld.mk 8 0 (-1) 0 (-1) 0 0 [])] t).U) (hi : t.i64s) (D : DV) (h : qaU v D Y) : qiq v (decide (v ≥ qaj)) 6 [(Fld.mk 3 0 (-1) (-1) (-1) 0 0 []),(Fld.mk 2 0 (-1) (-1) (-1) 0 0 []),(Fld.mk 8 0 (-1) 0 (-1) 0 0 [])] t (qaH D):=by
 unfold qaU at h
 obtain ⟨r0,r1,r2,rU,_⟩:=h
 refine ⟨rfl,fun i f y hf hy=>?_,?_⟩
 ·match i,hf,hy with
  | 0,hf,hy =>
   obtain rfl:=Option.some.inj hf
   obtain rfl:=Option.some.inj hy
   have e:=hY 0
   refine ⟨fun hp=>?_,fun hp=>?_⟩
   ·have hc : True:=trivial
    have r:=r0
    rw [e] at r
    rw [(qj2 (v:=v) (d:=5) (t:=t) (show [(Fld.mk 3 0 (-1) (-1) (-1) 0 0 []),(Fld.mk 2 0 (-1) (-1) (-1) 0 0 []),(Fld.mk 8 0 (-1) 0 (-1) 0 0 [])][0]? = _ from rfl) (by decide))] at r
    exact qkE (by rw [r,qfr]; rfl)
   rw [qdW] at hp; simp at hp; omega
  | 1,hf,hy =>
   obtain rfl:=Option.some.inj hf
   obtain rfl:=Option.some.inj hy
   have e:=hY 1
   refine ⟨fun hp=>?_,fun hp=>?_⟩
   ·have hc : True:=trivial
    have r:=r1
    rw [e] at r
    rw [(qj2 (v:=v) (d:=5) (t:=t) (show [(Fld.mk 3 0 (-1) (-1) (-1) 0 0 []),(Fld.mk 2 0 (-1) (-1) (-1) 0 0 []),(Fld.mk 8 0 (-1) 0 (-1) 0 0 [])][1]? = _ from rfl) (by decide))] at r
    exact qkE (by rw [r,qfq]; rfl)
   rw [qdW] at hp; simp at hp; omega
  | 2,hf,hy =>
   obtain rfl:=Option.some.inj hf
   obtain rfl:=Option.some.inj hy
   have e:=hY 2
   refine ⟨fun hp=>?_,fun hp=>?_⟩
   ·have hc : True:=trivial
    have r:=r2
    rw [e] at r
    exact qkd r (qkW (v:=v) (d:=5) (t:=t) (show [(Fld.mk 3 0 (-1) (-1) (-1) 0 0 []),(Fld.mk 2 0 (-1) (-1) (-1) 0 0 []),(Fld.mk 8 0 (-1) 0 (-1) 0 0 [])][2]? = _ from rfl) (by decide))
   rw [qdW] at hp; simp at hp; omega
  | n_ + 3,hf,hy=>exact absurd (List.getElem?_eq_some_iff.1 hf).1 (by show ¬ n_ + 3 < 3; omega)
 show D.u = if (decide (v ≥ qaj)) = true then qco (qak [(Fld.mk 3 0 (-1) (-1) (-1) 0 0 []),(Fld.mk 2 0 (-1) (-1) (-1) 0 0 []),(Fld.mk 8 0 (-1) 0 (-1) 0 0 [])] t.U) else []
 by_cases hc : (decide (v ≥ 0)) = true
 ·rw [if_pos (show (decide (v ≥ qaj)) = true from hc),rU.1 hc,hU,qg8]
 rw [if_neg (show ¬ (decide (v ≥ qaj)) = true from hc),rU.2 (by simpa using hc)]
theorem qb9 (v : Int) (h0 : 0 ≤ v) (t Y : Tree) (hY : ∀ i,Y.at_ i = (fitT v 7 [(Fld.mk 7 0 (-1) (-1) (-1) 0 0 []),(Fld.mk 11 0 (-1) (-1) (-1) 0 10 [(Fld.mk 3 0 (-1) (-1) (-1) 0 0 []),(Fld.mk 2 0 (-1) (-1) (-1) 0 0 []),(Fld.mk 8 0 (-1) 0 (-1) 0 0 [])])] t).at_ i) (hU : Y.U = (fitT v 7 [(Fld.mk 7 0 (-1) (-1) (-1) 0 0 []),(Fld.mk 11 0 (-1) (-1) (-1) 0 10 [(Fld.mk 3 0 (-1) (-1) (-1) 0 0 []),(Fld.mk 2 0 (-1) (-1) (-1) 0 0 []),(Fld.mk 8 0 (-1) 0 (-1) 0 0 [])])] t).U) (hi : t.i64s) (D : DV) (h : qa2 v D Y) : qiq v (decide (v ≥ qaj)) 7 [(Fld.mk 7 0 (-1) (-1) (-1) 0 0 []),(Fld.mk 11 0 (-1) (-1) (-1) 0 10 [(Fld.mk 3 0 (-1) (-1) (-1) 0 0 []),(Fld.mk 2 0 (-1) (-1) (-1) 0 0 []),(Fld.mk 8 0 (-1) 0 (-1) 0 0 [])])] t (qaT D):=by
 unfold qa2 at h
 obtain ⟨r0,r1,rU,_⟩:=h
 refine ⟨rfl,fun i f y hf hy=>?_,?_⟩
 ·match i,hf,hy with
  | 0,hf,hy =>
   obtain rfl:=Option.some.inj hf
   obtain rfl:=Option.some.inj hy
   have e:=hY 0
   refine ⟨fun hp=>?_,fun hp=>?_⟩
   ·have hc : True:=trivial
    have r:=r0
    rw [e] at r
    exact qk8 r (qkr (v:=v) (d:=6) (t:=t) (show [(Fld.mk 7 0 (-1) (-1) (-1) 0 0 []),(Fld.mk 11 0 (-1) (-1) (-1) 0 10 [(Fld.mk 3 0 (-1) (-1) (-1) 0 0 []),(Fld.mk 2 0 (-1) (-1) (-1) 0 0 []),(Fld.mk 8 0 (-1) 0 (-1) 0 0 [])])][0]? = _ from rfl) (by decide))
   rw [qdW] at hp; simp at hp; omega
  | 1,hf,hy =>
   obtain rfl:=Option.some.inj hf
   obtain rfl:=Option.some.inj hy
   have e:=hY 1
   refine ⟨fun hp=>?_,fun hp=>?_⟩
   ·have hc : True:=trivial
    have r:=r1
    rw [e] at r
    obtain ⟨_,fl⟩:=qfJ (v:=v) (d:=6) (t:=t) (show [(Fld.mk 7 0 (-1) (-1) (-1) 0 0 []),(Fld.mk 11 0 (-1) (-1) (-1) 0 10 [(Fld.mk 3 0 (-1) (-1) (-1) 0 0 []),(Fld.mk 2 0 (-1) (-1) (-1) 0 0 []),(Fld.mk 8 0 (-1) 0 (-1) 0 0 [])])][1]? = _ from rfl)
    refine qjE (fun h_=>absurd h_.1 (by decide)) r.1 fl fun i_ y_ hi_ hg_ hy_=>?_
    have q:=r.2 i_ hi_
    rw [hg_] at q
    exact qhR rfl (qbK v h0 y_ _ (fun i=>fit_10.1 i) fit_10.2 (qgU (qkD hi 1) hy_) _ q)
   rw [qdW] at hp; simp at hp; omega
  | n_ + 2,hf,hy=>exact absurd (List.getElem?_eq_some_iff.1 hf).1 (by show ¬ n_ + 2 < 2; omega)
 show D.u = if (decide (v ≥ qaj)) = true then qco (qak [(Fld.mk 7 0 (-1) (-1) (-1) 0 0 []),(Fld.mk 11 0 (-1) (-1) (-1) 0 10 [(Fld.mk 3 0 (-1) (-1) (-1) 0 0 []),(Fld.mk 2 0 (-1) (-1) (-1) 0 0 []),(Fld.mk 8 0 (-1) 0 (-1) 0 0 [])])] t.U) else []
 by_cases hc : (decide (v ≥ 0)) = true
 ·rw [if_pos (show (decide (v ≥ qaj)) = true from hc),rU.1 hc,hU,qg8]
 rw [if_neg (show ¬ (decide (v ≥ qaj)) = true from hc),rU.2 (by simpa using hc)]
theorem qct (v : Int) (h0 : 0 ≤ v) (t Y : Tree) (hY : ∀ i,Y.at_ i = (fitT v 8 sDeleteShareGroupStateResponseF t).at_ i) (hU : Y.U = (fitT v 8 sDeleteShareGroupStateResponseF t).U) (hi : t.i64s) (D : DV) (h : qa3 v D Y) : qiq v (decide (v ≥ qaj)) 8 sDeleteShareGroupStateResponseF t (qa4 D):=by
 unfold qa3 at h
 obtain ⟨r0,rU,_⟩:=h
 refine ⟨rfl,fun i f y hf hy=>?_,?_⟩
 ·match i,hf,hy with
  | 0,hf,hy =>
   obtain rfl:=Option.some.inj hf
   obtain rfl:=Option.some.inj hy
   have e:=hY 0
   refine ⟨fun hp=>?_,fun hp=>?_⟩
   ·have hc : True:=trivial
    have r:=r0
    rw [e] at r
    obtain ⟨_,fl⟩:=qfJ (v:=v) (d:=7) (t:=t) (show sDeleteShareGroupStateResponseF[0]? = _ from rfl)
    refine qjE (fun h_=>absurd h_.1 (by decide)) r.1 fl fun i_ y_ hi_ hg_ hy_=>?_
    have q:=r.2 i_ hi_
    rw [hg_] at q
    exact qhR rfl (qb9 v h0 y_ _ (fun i=>fit_10.1 i) fit_10.2 (qgU (qkD hi 0) hy_) _ q)
   rw [qdW] at hp; simp at hp; omega
  | n_ + 1,hf,hy=>exact absurd (List.getElem?_eq_some_iff.1 hf).1 (by show ¬ n_ + 1 < 1; omega)
 show D.u = if (decide (v ≥ qaj)) = true then qco (qak sDeleteShareGroupStateResponseF t.U) else []
 by_cases hc : (decide (v ≥ 0)) = true
 ·rw [if_pos (show (decide (v ≥ qaj)) = true from hc),rU.1 hc,hU,qg8]
 rw [if_neg (show ¬ (decide (v ≥ qaj)) = true from hc),rU.2 (by simpa using hc)]
set_option maxHeartbeats 4000000 in
theorem qcE (v : Int) (T : Tree) {A2 : Option Addr} {c2 : Nat} {w : World} {F : Nat → Nat → Prop} (hs_ : Octs w F A2 c2 (qai (IntKind.i16.wrap v) T)) (hc : qa1 T) (hkey : T.ranged) (hroom : (qai (IntKind.i16.wrap v) T).length + 16 ≤ 1099511627776) :
  Calls Tryz.prog 39 #[.int .i64 v,.slice A2 (qai (IntKind.i16.wrap v) T).length c2] w (fun e w'=>∃ D cs,e = .returned (.tuple #[.agg cs.toArray,.bool true]) ∧ TreeR w' (Fp NoF w) cs (qa4 D) ∧ qa3 (IntKind.i16.wrap v) D T ∧ Step w w' Nil):=by
 refine enter (n:=20) Tryz.func39 rfl Tryz.ntmps39 kz fun a hE=>?_
 have hW:=WOk.start w Nil
 have hsm2:=Slots.small hs_
 refine qae [0,1] kz ?_
 refine qan (qaO hW hE (d:=4) (cs:=[.int .i64 0,.slice none 0 0,.bool false,.slice none 0 0,.slice none 0 0]) kz fun b1 a2 w3 hb4 hz5 hF6 hW7 hE8=>?_)
 refine qal [1] [] [(0,.v (.int .i64 v)),(1,.v (.slice A2 ((qai (IntKind.i16.wrap v) T).length) c2)),(4,.p 0 0)] hW7 hE8 fun a9 aT=>?_
 refine qaf (qab ?_)
 refine qae [0,1] kz ?_
 refine qan (qbJ aT (f:=94) (vs:=[]) (d:=7) (n':=3) kz Tryz.call94 Tryz.func94 rfl Tryz.ntmps94 kz fun cI aU=>?_)
 refine qaq [] hW7 aU fun cJ aV=>?_
 refine qae [0] kz ?_
 refine qan (qaO hW7 aV (d:=1) (cs:=[.int .i16 0,.slice none 0 0,.map none]) kz fun aa cK cL ce cm cq ac aW=>?_)
 refine qaf (qab ?_)
 refine qae [0] kz ?_
 refine qan (qbJ aW (f:=154) (vs:=[.pointer (some ⟨aa,0,none⟩)]) (d:=2) (n':=2) kz Tryz.call154 Tryz.func154 rfl Tryz.ntmps154 kz fun cM aX=>?_)
 have aY:=aX.recast 0 (.v (.pointer (some ⟨aa,0,none⟩))) (.p 1 0) rfl rfl (Nat.le_of_ble_eq_true (n:=2) rfl)
 refine wp_skip ?_
 refine qbO aY ac.cells (v:=.tuple #[]) kz ?_
 refine ⟨_,rfl,fun cN aZ=>?_⟩
 have ba : EnvOk 3 [⟨b1,0,[.int .i64 0,.slice none 0 0,.bool false,.slice none 0 0,.slice none 0 0],true⟩,⟨aa,0,[.int .i16 0,.slice none 0 0,.map none],true⟩] [(2,.v (.tuple #[])),(1,.p 1 0)] _:=aZ.places (⟨rfl,rfl,⟨rfl,rfl,trivial⟩⟩)
 refine qaf (qab ?_)
 refine qaq [(0,.p 1 0)] ac ba fun cO bd=>?_
 refine wp_ret ?_
 refine qaK bd ac.cells (v:=.pointer (some ⟨aa,0,none⟩)) kz ?_
 refine ⟨_,rfl,fun cP bf=>?_⟩
 have bg : EnvOk 20 [⟨b1,0,[.int .i64 0,.slice none 0 0,.bool false,.slice none 0 0,.slice none 0 0],true⟩,⟨aa,0,[.int .i16 0,.slice none 0 0,.map none],true⟩] [(7,.v (.pointer (some ⟨aa,0,none⟩))),(0,.v (.int .i64 v)),(1,.v (.slice A2 ((qai (IntKind.i16.wrap v) T).length) c2)),(4,.p 0 0)] _:=bf.places (⟨rfl,rfl,trivial⟩)
 have bh:=bg.recast 7 (.v (.pointer (some ⟨aa,0,none⟩))) (.p 1 0) rfl rfl (Nat.le_of_ble_eq_true (n:=2) rfl)
 have bi:=bh.pick (ks:=[0,1,4,7]) (env':=[(0,.v (.int .i64 v)),(1,.v (.slice A2 ((qai (IntKind.i16.wrap v) T).length) c2)),(4,.p 0 0),(7,.p 1 0)]) kz
 refine qal [1] [] [(0,.v (.int .i64 v)),(1,.v (.slice A2 ((qai (IntKind.i16.wrap v) T).length) c2)),(4,.p 0 0),(6,.p 1 0)] ac bi fun cQ bj=>?_
 refine qaf (qab ?_)
 refine qae [0,1,2,3] kz ?_
 refine qal [0,1,2] [3] [(1,.v (.slice A2 ((qai (IntKind.i16.wrap v) T).length) c2)),(4,.p 0 0),(6,.p 1 0),(8,.p 1 0),(10,.v (.int .i16 (IntKind.i16.wrap v)))] ac bj fun cR bk=>?_
 refine qan (qbJ bk (f:=97) (vs:=[.pointer (some ⟨aa,0,none⟩),.int .i16 (IntKind.i16.wrap v)]) (d:=11) (n':=8) kz Tryz.call97 Tryz.func97 rfl Tryz.ntmps97 kz fun cS bn=>?_)
 have bo:=bn.recast 0 (.v (.pointer (some ⟨aa,0,none⟩))) (.p 1 0) rfl rfl (Nat.le_of_ble_eq_true (n:=2) rfl)
 refine qas [0,1,2,3,4] kz ?_
 refine qal [0,1,2,3] [4] [(5,.v (.int .i16 (IntKind.i16.wrap v))),(7,.p 1 0)] ac bo fun cT bp=>?_
 refine qan (qav ac bp (oi:=1) (cs:=[.int .i16 (IntKind.i16.wrap v),.slice none 0 0,.map none]) kz fun cU cr ao bq=>?_)
 refine qaf ?_
 refine qbO bq ao.cells (v:=.tuple #[]) kz ?_
 refine ⟨_,rfl,fun cV bt=>?_⟩
 have bu : EnvOk 20 [⟨b1,0,[.int .i64 0,.slice none 0 0,.bool false,.slice none 0 0,.slice none 0 0],true⟩,⟨aa,0,[.int .i16 (IntKind.i16.wrap v),.slice none 0 0,.map none],true⟩] [(11,.v (.tuple #[])),(1,.v (.slice A2 ((qai (IntKind.i16.wrap v) T).length) c2)),(4,.p 0 0),(6,.p 1 0),(8,.p 1 0),(10,.v (.int .i16 (IntKind.i16.wrap v)))] _:=bt.places (⟨rfl,rfl,⟨rfl,rfl,trivial⟩⟩)
 refine qaf (qab ?_)
 refine wp_seq ?_
 refine qae [0,1,2,3,4] kz ?_
 refine qal [0,1] [2,3,4] [(4,.p 0 0),(6,.p 1 0),(12,.p 1 0),(13,.v (.slice A2 ((qai (IntKind.i16.wrap v) T).length) c2))] ao bu fun cW bw=>?_
 have ah:=ao.addNil 5 1
 have cu:=ao.frNil 5 1
 refine qan (qaW ah bw (k:=0) (d:=14) (t:=22) (e:=5) (size:=1) (bytes:=1) (A:=none) (As:=A2) (m0:=0) (c:=0) (m:=((qai (IntKind.i16.wrap v) T).length)) (cs:=c2) (xs:=[]) (news:=bc (qai (IntKind.i16.wrap v) T)) kz kz rfl (hs_.move ah.step nilM ah.imm).src (hs_.move ah.step nilM ah.imm).cap (by first | omega | (simp only [List.length_nil]; omega) | (simp; omega)) fun af ag cX cY cw bx bz=>?_)
 have bA : (⟨af,ag,5,1,0 + (qai (IntKind.i16.wrap v) T).length,[] ++ bc (qai (IntKind.i16.wrap v) T)⟩ : Rw) = brow af ag 5 (qai (IntKind.i16.wrap v) T):=by rw [List.nil_append,Nat.zero_add]
 obtain ⟨ap,cz⟩:=bx.rowEq 0 [brow af ag 5 (qai (IntKind.i16.wrap v) T)] bA
 have bB:=EnvOk.pick bz (ks:=[4,6,12,13,14]) (env':=[(4,.p 0 0),(6,.p 1 0),(12,.p 1 0),(13,.v (.slice A2 ((qai (IntKind.i16.wrap v) T).length) c2)),(14,.v (.slice af (0 + (qai (IntKind.i16.wrap v) T).length) ag))]) kz
 have bC:=bB.cast (env':=[(4,.p 0 0),(6,.p 1 0),(12,.p 1 0),(13,.v (.slice A2 ((qai (IntKind.i16.wrap v) T).length) c2)),(14,.v (.slice af ((qai (IntKind.i16.wrap v) T).length) ag))]) (by simp only [List.length_append,List.length_cons,List.length_nil,Nat.zero_add])
 refine qan (qbJ bC (f:=98) (vs:=[.pointer (some ⟨aa,0,none⟩),.slice af ((qai (IntKind.i16.wrap v) T).length) ag]) (d:=15) (n':=8) kz Tryz.call98 Tryz.func98 rfl Tryz.ntmps98 kz fun cZ bD=>?_)
 have bE:=bD.recast 0 (.v (.pointer (some ⟨aa,0,none⟩))) (.p 1 0) rfl rfl (Nat.le_of_ble_eq_true (n:=2) rfl)
 refine qaq [(0,.p 1 0),(1,.v (.slice af ((qai (IntKind.i16.wrap v) T).length) ag))] ap bE fun c5 bF=>?_
 refine qae [0,1,2,3] kz ?_
 refine qal [0,1] [2,3] [(5,.p 1 0),(6,.v (.slice af ((qai (IntKind.i16.wrap v) T).length) ag))] ap bF fun c6 bG=>?_
 have bH:=ap.giveUp (G:=NoF) 0 [] (show _ = some (brow af ag 5 (qai (IntKind.i16.wrap v) T)) from rfl) (by omega)
 obtain ⟨aH,cA⟩:=ap.cutR 0 []
 refine qan (qam bG (f:=156) (vs:=[.pointer (some ⟨aa,0,none⟩),.slice af ((qai (IntKind.i16.wrap v) T).length) ag,.bool false]) (d:=7) kz Tryz.call156 (qcC (IntKind.i16.wrap v) T (Str.of aH 1 rfl) bH (qj6 1 rfl) hc hkey) ?_)
 rintro e_ da ⟨ab,rfl,bI,bJ,bK,aI⟩
 obtain ⟨ae,cB,bL⟩:=aH.wrote 1 [⟨b1,0,[.int .i64 0,.slice none 0 0,.bool false,.slice none 0 0,.slice none 0 0],true⟩,⟨aa,0,[.int .i16 (IntKind.i16.wrap v),.slice ((ab.f 0).A) ((ab.f 0).l) ((ab.f 0).c),.map ab.m],true⟩] rfl aI bI
 have bM:=qbS _ (Step.refl _ Nil) nilM bL bJ
 refine ⟨_,rfl,fun db bN=>?_⟩
 have bO:=(EnvOk.places (tb':=[⟨b1,0,[.int .i64 0,.slice none 0 0,.bool false,.slice none 0 0,.slice none 0 0],true⟩,⟨aa,0,[.int .i16 (IntKind.i16.wrap v),.slice ((ab.f 0).A) ((ab.f 0).l) ((ab.f 0).c),.map ab.m],true⟩]) bN (show Pl [⟨b1,0,[.int .i64 0,.slice none 0 0,.bool false,.slice none 0 0,.slice none 0 0],true⟩,⟨aa,0,[.int .i16 (IntKind.i16.wrap v),.slice none 0 0,.map none],true⟩] [⟨b1,0,[.int .i64 0,.slice none 0 0,.bool false,.slice none 0 0,.slice none 0 0],true⟩,⟨aa,0,[.int .i16 (IntKind.i16.wrap v),.slice ((ab.f 0).A) ((ab.f 0).l) ((ab.f 0).c),.map ab.m],true⟩] from ⟨rfl,rfl,⟨rfl,rfl,trivial⟩⟩)).pk (env':=[(7,.v (.nilIface)),(5,.p 1 0),(6,.v (.slice af ((qai (IntKind.i16.wrap v) T).length) ag))])
 refine qal [3] [] [(4,.v (.nilIface))] ae bO fun dc bP=>?_
 refine qaf (qab ?_)
 refine wp_ret ?_
 refine qaK bP ae.cells (v:=.nilIface) kz ?_
 refine ⟨_,rfl,fun de bQ=>?_⟩
 have bR : EnvOk 20 [⟨b1,0,[.int .i64 0,.slice none 0 0,.bool false,.slice none 0 0,.slice none 0 0],true⟩,⟨aa,0,[.int .i16 (IntKind.i16.wrap v),.slice ((ab.f 0).A) ((ab.f 0).l) ((ab.f 0).c),.map ab.m],true⟩] [(15,.v (.nilIface)),(4,.p 0 0),(6,.p 1 0),(12,.p 1 0),(13,.v (.slice A2 ((qai (IntKind.i16.wrap v) T).length) c2)),(14,.v (.slice af ((qai (IntKind.i16.wrap v) T).length) ag))] _:=bQ.places (⟨rfl,rfl,⟨rfl,rfl,trivial⟩⟩)
 refine qal [4] [] [(4,.p 0 0),(6,.p 1 0),(16,.v (.bool false))] ae bR fun df aJ=>?_
 refine qaf (qab ?_)
 refine qar aJ (b:=false) kz rfl ?_
 refine wp_skip ?_
 refine qab ?_
 refine qae [0,1,2,3] kz ?_
 refine qal [0] [1,2,3] [(4,.p 0 0),(18,.p 1 0)] ae aJ fun dg bS=>?_
 have aK:=bS.recast 18 (.p 1 0) (.v (.pointer (some ⟨aa,0,none⟩))) rfl rfl trivial
 have aL:=aK.pk (env':=[(4,.p 0 0),(18,.v (.pointer (some ⟨aa,0,none⟩)))])
 have av:=WOk.strOut (G:=NoF) [⟨b1,0,[.int .i64 0,.slice none 0 0,.bool false,.slice none 0 0,.slice none 0 0],true⟩] ae
 obtain ⟨aM,ai,ar⟩:=ae.cutB aL 1 [⟨b1,0,[.int .i64 0,.slice none 0 0,.bool false,.slice none 0 0,.slice none 0 0],true⟩] [(4,.p 0 0),(18,.v (.pointer (some ⟨aa,0,none⟩)))]
 have aN:=qbS _ ar.step immM ar.to' bM
 refine qan (qam aM (f:=99) (vs:=[.pointer (some ⟨aa,0,none⟩)]) (d:=19) kz Tryz.call99 (qcD (IntKind.i16.wrap v) ab aa 0 _ _ av aN) ?_)
 rintro e_ cC ⟨bY,rfl,aO,aj⟩
 have ak:=aO.move (Step.refl _ Nil) nilM (ai.laid (G:=NoF) aj)
 obtain ⟨aw,ax,ay,az,aA,aB,aC,aD,aE,aF,aG,bZ,b8,al,bT,bU,cD,cE⟩:=ak.open_
 rw [al] at ak
 have bV:=bT.small
 have bW:=bU.small
 rw [al]
 refine ⟨_,rfl,fun cG aP=>?_⟩
 have aQ:=ai.next_nil aj
 have cd:=ai.frN aj
 refine qan (qav aQ aP (oi:=0) (cs:=[.int .i64 aw,.slice aB ax.length aC,.bool ay,.slice aD az.length aE,.slice aF aA.length aG]) kz fun bX au am aR=>?_)
 refine qal [3] [] [(4,.p 0 0),(5,.v (.bool true))] am aR fun cH aS=>?_
 refine qaf (qab ?_)
 refine wp_ret ?_
 refine qaK aS am.cells (v:=.tuple #[.agg #[.int .i64 aw,.slice aB ax.length aC,.bool ay,.slice aD az.length aE,.slice aF aA.length aG],.bool true]) kz ?_
 exact ⟨ab,_,rfl,(show TreeR _ (Imm NoF w bX [⟨b1,0,[.int .i64 aw,.slice aB ax.length aC,.bool ay,.slice aD az.length aE,.slice aF aA.length aG],true⟩] []) _ (qa4 ab) from (ak.move au.step immM au.to')).move (Step.refl _ Nil) nilM qca,bK,am.step⟩
theorem qcw (v : Int) (T : Tree) (B : Bs) {A2 : Option Addr} {c2 : Nat} {w : World} {F : Nat → Nat → Prop} (hB : qai (IntKind.i16.wrap v) T = B) (hs_ : Octs w F A2 c2 B) (hc : qa1 T) (hkey : T.ranged) (hroom : B.length + 16 ≤ 1099511627776) :
  Calls Tryz.prog 39 #[.int .i64 v,.slice A2 B.length c2] w (fun e w'=>∃ D cs,e = .returned (.tuple #[.agg cs.toArray,.bool true]) ∧ TreeR w' (Fp NoF w) cs (qa4 D) ∧ qa3 (IntKind.i16.wrap v) D T ∧ Step w w' Nil):=by
 subst hB
 exact qcE v T hs_ hc hkey hroom
end Go.Proofs.YtgolpmkenmedoaaGreatDoor.ME