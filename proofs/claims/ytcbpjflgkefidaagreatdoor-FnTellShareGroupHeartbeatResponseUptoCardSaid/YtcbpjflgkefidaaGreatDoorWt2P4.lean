/- The texts of a claim, put together: the engine, the contracts, the law. Own work. -/
import Derived.Test.YtcbpjflgkefidaaGreatDoorWt2P3
import Derived.Lib.ConvBytes
namespace Go.Proofs.YtcbpjflgkefidaaGreatDoor.ME
open Go
open Go.RowKit
open Go.ChangeMaps (setBlock)
set_option linter.unusedVariables false
set_option linter.unusedSimpArgs false
set_option maxRecDepth 20000
abbrev cloV (fc:Nat) (cap:Value):Value:=.func (.func fc) #[] #[cap]
theorem qlS {fc:Nat} {cap:Value} {m:Option Nat} {u:List (Int × Bs)} {b o:Nat} {w:World} {F M:Nat → Nat → Prop} (hcf:∀ args w,(callFunc fc args).run Tryz.prog w = .ok (.enter fc args) w) (I:World → Nat → World → Prop) (hat:AtF w F b o [.map m]) (hm:MapR w F m u) (hMF:∀ b o,F b o → ¬ M b o) (hMlt:∀ b o,M b o → b < w.heap.size)
  (hI0:∀ w7,Step w w7 Nil → I w7 0 w7) (hIs:∀ w7 j w8,I w7 j w8 → Step w7 w8 M)
  (hI1:∀ w7,Step w w7 Nil → ∀ j k x w8 Ax cx,I w7 j w8 → u[j]? = some (k,x) → (0 ≤ k ∧ k < 4294967296) → Octs w8 (fun b o=>F b o ∧ b < w7.heap.size) Ax cx x → Calls Tryz.prog fc [.int .u32 k,.slice Ax x.length cx,cap].toArray w8 (fun e w9=>e = .returned (.tuple #[]) ∧ I w7 (j + 1) w9)) (hul:u.length ≤ 1000000) :
  Calls Tryz.prog 103 [.pointer (some ⟨b,o,none⟩),cloV fc cap].toArray w (fun e w'=>e = .returned (.tuple #[]) ∧ ∃ w7,Step w w7 Nil ∧ I w7 u.length w'):=by
 refine enter (n:=53) Tryz.func103 rfl Tryz.ntmps103 kz fun a hE=>?_
 have hW:WOk w Nil w [⟨b,o,[.map m],false⟩] []:=(WOk.start w Nil).start1 hat rfl rfl
 refine wp_seq (wp_seq ?_)
 refine qas [0,1,2,3,4,5] kz ?_
 refine qbI [0,1,2,3] [4,5] [0,1,11] hW (EnvOk.ptr0 (cs:=[.map m]) (r:=false) hE) (env':=[(0,.p 0 0),(1,.v (cloV fc cap)),(11,.v (.map m))]) kz rfl fun a1 hE1=>?_
 refine qan (qgw (t:=92) (kt:=62) (et:=22) hE1 (m:=m) (d:=12) kz kz hm fun a2 hE2=>?_)
 refine qbI [5] [] [0,1,13] hW hE2 (env':=[(0,.p 0 0),(1,.v (cloV fc cap)),(13,.v (.bool (((u.length:Nat):Int) == 0)))]) kz rfl fun a3 hE3=>qaf (qab ?_)
 refine qay hE3 (b:=((u.length:Nat):Int) == 0) kz (fun hb=>?_) (fun hb=>?_)
 ·-- none
  have hu:u = []:=List.eq_nil_of_length_eq_zero (by have:=eq_of_beq hb; omega)
  subst hu
  refine wp_ret (qaq ?_)
  exact qaL hE3 hW.cells (v:=.tuple #[]) kz ⟨rfl,w,Step.refl _ _,hI0 w (Step.refl _ _)⟩
 have hu0:0 < u.length:=by have:=ne_of_beq_false hb; omega
 cases m with
 | none=>rw [hm.none_ rfl] at hu0; cases hu0
 | some mb =>
 obtain ⟨hFm,es,clk,hes,hperm,hborn,hnod,hcont⟩:=hm.some_ mb rfl
 have hmlt:mb < w.heap.size:=(Array.getElem?_eq_some_iff.1 hes).1
 have hesz:es.size = u.length:=MapR.size (w:=w) (F:=F) hperm
 refine wp_skip (qab ?_)
 refine qae [0,1,2,3,4,5,6,7] kz ?_
 refine qbI [0,1,2,3] [4,5,6,7] [0,1,17] hW hE3 (env':=[(0,.p 0 0),(1,.v (cloV fc cap)),(17,.v (.map (some mb)))]) kz rfl fun a4 hE4=>?_
 refine qan (qgw (t:=92) (kt:=62) (et:=22) hE4 (m:=some mb) (d:=18) kz kz hm fun a5 hE5=>?_)
 refine qan (qh8 (e:=62) (size:=1) (bytes:=4) (j:=u.length) (t:=186) (d:=19) hW hE5 (p:=0) (q:=((u.length:Nat):Int)) kz kz rfl rfl (by omega) fun kr a6 w1 hkr hkr0 hF1 hW1 hE6=>?_)
 refine qan (qaP hW1 hE6 (d:=4) (cs:=[.slice none 0 0]) kz fun kb a7 w2 hkb hkb0 hF2 hW2 hE7=>?_)
 refine qan (qat hW2 hE7 (oi:=1) (cs:=[.slice (some ⟨kr,0,none⟩) 0 u.length]) kz fun w3 hF3 hW3 hE8=>qaf (qab ?_))
 refine wp_seq (qae [0,1,2,3,4] kz ?_)
 refine qbI [0,1,2,3] [4] [0,1,4,23] hW3 hE8 (env':=[(0,.p 0 0),(1,.v (cloV fc cap)),(4,.p 1 0),(23,.v (.map (some mb)))]) kz rfl fun a8 hE9=>?_
 have hes3:=hW3.step.heap (fun o h=>h) hes
 refine qan (qib (t:=92) (kt:=62) (et:=22) (d:=24) (r:=mb) hE9 kz kz hes3 fun a9 hE10=>qaf (qab ?_))
 have hW4:=hW3.next_nil (Step.alloc w3 (.mapIter (some mb) clk #[] clk))
 have hr4:(w3.alloc (.mapIter (some mb) clk #[] clk)).heap[w3.heap.size]? = some (.mapIter (some mb) clk #[] clk):=qcP _ _
 have hE11:=hE10.pick (ks:=[0,1,4,24]) (env':=[(0,.p 0 0),(1,.v (cloV fc cap)),(4,.p 1 0),(24,.v (.pointer (some ⟨w3.heap.size,0,none⟩)))]) kz
 have hrlt:w3.heap.size < (w3.alloc (.mapIter (some mb) clk #[] clk)).heap.size:=by rw [qde]; omega
 have hr0:w.heap.size ≤ w3.heap.size:=hW3.step.size
 have hkbr:kb ≠ w3.heap.size:=by have:=hW3.live 1 _ rfl; show ¬ _; intro e; rw [← e] at this; exact absurd this (Nat.lt_irrefl _)
 have hkrr:kr ≠ w3.heap.size:=by have:=qbV (hW3.own 0 _ rfl) (g:=kr) rfl; omega
 generalize hR:w3.heap.size = R at hr4 hE11 hrlt hkbr hkrr
 generalize hw4:w3.alloc (.mapIter (some mb) clk #[] clk) = w4 at hW4 hr4 hrlt
 refine wp_block ?_
 refine wp_loop_ghost (fun q a_ w_=>∃ (vis:List MapEntry) (seen:Array Nat) (K:Option Addr) (kc c0:Nat),q = (leftOf es seen).size ∧ Vis es.toList vis seen ∧ vis.length + (leftOf es seen).size ≤ es.size ∧
   EnvOk 53 [⟨b,o,[.map (some mb)],false⟩,⟨kb,0,[.slice K vis.length kc],true⟩] [(0,.p 0 0),(1,.v (cloV fc cap)),(4,.p 1 0),(24,.v (.pointer (some ⟨R,0,none⟩)))] a_ ∧
   WOk w Nil w_ [⟨b,o,[.map (some mb)],false⟩,⟨kb,0,[.slice K vis.length kc],true⟩] [⟨K,kc,62,1,vis.length,(vis.map fun e=>kOf e.key).map (Value.int .u32)⟩] ∧
   w_.heap[R]? = some (.mapIter (some mb) clk seen c0) ∧ clk ≤ c0 ∧ K.map (·.block) ≠ some R) (leftOf es #[]).size
  ⟨[],#[],some ⟨kr,0,none⟩,u.length,clk,rfl,Vis.nil _,by rw [List.length_nil,Nat.zero_add]; exact Array.size_filter_le,by rw [← hw4] at *; exact hE11,hW4,hr4,Nat.le_refl _,by simpa using hkrr⟩ ?_
 rintro q a10 w5 ⟨vis,seen,K,kc,c0,rfl,hv,hvl,hE12,hW5,hr5,hc0,hKR⟩
 have hes5:=hW5.step.heap (fun o h=>h) hes
 refine qae [0,1] kz ?_
 refine qan (qiX hE12 (d:=25) (r:=R) kz hr5 hes5 hborn hc0 (fun h0 a11 hE13=>?_) (fun e he w6 hw6 a11 hE13=>?_))
 ·-- behind it
  refine qbI [1] [] [0,1,4,26] hW5 hE13 (env':=[(0,.p 0 0),(1,.v (cloV fc cap)),(4,.p 1 0),(26,.v (.bool false))]) kz rfl fun a12 hE14=>qaf (qab (wp_seq ?_))
  refine qay hE14 (b:=false) kz (fun hb=>by cases hb) (fun _=>?_)
  refine wp_exit (qaC (qaC (qaS (qab ?_))))
  have hpe:=hv.all h0 hnod
  have hvu:vis.length = u.length:=by rw [hpe.length_eq,Array.length_toList,hesz]
  have hkp:(vis.map fun e=>kOf e.key).Perm (u.map Prod.fst):=by
   have h1:=(hpe.map fun e=>kOf e.key)
   have h2:=hperm.map kOf
   rw [List.map_map,List.map_map] at h2
   exact h1.trans h2
  have hkl:(vis.map fun e=>kOf e.key).length = vis.length:=by simp
  generalize (vis.map fun e=>kOf e.key) = ks at hkp hkl hW5
  have hown4:w5.ownsRow 0 62 1 (.slice K vis.length kc) vis.length (ks.map (Value.int .u32)):=hW5.own 0 _ rfl
  obtain ⟨g,rfl⟩:=qce hown4 (by omega)
  have hown5:w5.ownsRow 0 62 1 (.slice (some ⟨g,0,none⟩) vis.length kc) vis.length (ks.map (Value.int .u32)):=hown4
  have hg0:w.heap.size ≤ g:=by
   rcases hW5.ownM 0 _ rfl g rfl with h | h
   ·exact h
   exact (h 0).elim
  refine qae [0,1,2,3] kz ?_
  refine qbI [0,1] [2,3] [0,1,4,34] hW5 hE14 (env':=[(0,.p 0 0),(1,.v (cloV fc cap)),(4,.p 1 0),(34,.v (.iface 186 (.slice (some ⟨g,0,none⟩) vis.length kc)))]) kz rfl fun a13 hE15=>?_
  refine qan (qe0 hE15 (v:=.func (.func 160) #[] #[.pointer (some ⟨kb,0,none⟩)]) (d:=35) kz fun a14 hE16=>?_)
  have hS:=Tryz.sortKeys g kc kb ks.toArray (by simp; omega) (by simp; omega) w5 (by simp only [List.size_toArray,hkl]; exact hW5.cells 1 _ rfl 0 _ rfl) (fun e=>hW5.rtb 0 _ rfl g rfl 1 _ rfl e) (qgy hkl hown5) (qbV (hW5.own 0 _ rfl) (g:=g) rfl) (hW5.live 1 _ rfl)
  rw [List.size_toArray,hkl] at hS
  refine qan (qam hE16 (f:=159) (vs:=[.iface 186 (.slice (some ⟨g,0,none⟩) vis.length kc),.func (.func 160) #[] #[.pointer (some ⟨kb,0,none⟩)]]) (d:=36) kz Tryz.call159 hS ?_)
  rintro e_ w7 ⟨rfl,d',nd,os,hd1,hd2,hd3,rfl⟩
  refine ⟨_,rfl,fun a15 hE17=>qaf (qab ?_)⟩
  have hus:d'.toList = u.map Prod.fst:=qiY hd2 (by rw [hd1]; exact hd3) hkp (List.pairwise_map.2 hm.sorted)
  obtain ⟨hst7,hown7⟩:=qkc (n:=nd) (os:=os) hkl hown5 (by rw [hd1,hkl])
  rw [hus] at hown7
  generalize Sort.grow (Sort.putRow (Value.int .u32) (Sort.ahead w5 nd) g 0 d') os = w7 at hst7 hown7
  have hW7:WOk w Nil w7 [⟨b,o,[.map (some mb)],false⟩,⟨kb,0,[.slice (some ⟨g,0,none⟩) vis.length kc],true⟩] [⟨some ⟨g,0,none⟩,kc,62,1,vis.length,(u.map Prod.fst).map (Value.int .u32)⟩] :=
   hW5.grow (k:=0) (r':=⟨some ⟨g,0,none⟩,kc,62,1,vis.length,(u.map Prod.fst).map (Value.int .u32)⟩) rfl (hst7.mono fun b' _ _ hb'=>by rw [hb']; rfl) hown7 (fun g' h=>.inl h)
  refine qae [0,1,2] kz ?_
  refine qbI [0,1,2] [] [0,1,37,38,39] hW7 hE17 (env':=[(0,.p 0 0),(1,.v (cloV fc cap)),(37,.v (.slice (some ⟨g,0,none⟩) vis.length kc)),(38,.v (.int .i64 ((vis.length:Nat):Int))),(39,.v (.int .i64 0))]) kz rfl fun a16 hE18=>qaf (qab ?_)
  have hE19:=EnvOk.cutTb 1 hE18 kz
  have hat7:=hat.move hW7.step nilM qba
  have hm7:=hm.move hW7.step nilM qba
  have hg7:g < w7.heap.size:=qbV (hW7.own 0 _ rfl) (g:=g) rfl
  have hkeys:=qgy (by simpa using hvu.symm) hown7
  rw [hvu] at hE19
  refine wp_block ?_
  refine wp_loop_ghost (fun q a_ w_=>∃ (j:Nat),q = u.length - j ∧ j ≤ u.length ∧ EnvOk 53 [⟨b,o,[.map (some mb)],false⟩] [(0,.p 0 0),(1,.v (cloV fc cap)),(37,.v (.slice (some ⟨g,0,none⟩) u.length kc)),(38,.v (.int .i64 ((u.length:Nat):Int))),(39,.v (.int .i64 ((j:Nat):Int)))] a_ ∧
   I w7 j w_) u.length
   ⟨0,by omega,by omega,hE19,hI0 w7 hW7.step⟩ ?_
  rintro q a17 w8 ⟨j,rfl,hj,hE20,hD⟩
  have hS8:=hIs w7 j w8 hD
  have hat8:=hat7.move hS8 (fun b o hf _=>hMF b o hf) qba
  have hm8:MapR w8 (fun b' o'=>F b' o' ∧ b' < w7.heap.size) (some mb) u:=hm7.move hS8 (fun b o hf _=>hMF b o hf) (fun b' o' hf hl=>⟨hf,hl⟩)
  have hW8:WOk w8 Nil w8 [⟨b,o,[.map (some mb)],false⟩] []:=(WOk.start w8 Nil).start1 hat8 rfl rfl
  refine qae [0] kz (qbI [0] [] [0,1,37,38,39,40] hW8 hE20 (env':=[(0,.p 0 0),(1,.v (cloV fc cap)),(37,.v (.slice (some ⟨g,0,none⟩) u.length kc)),(38,.v (.int .i64 ((u.length:Nat):Int))),(39,.v (.int .i64 ((j:Nat):Int))),(40,.v (.bool (decide (((j:Nat):Int) < ((u.length:Nat):Int)))))]) kz rfl fun a18 hE21=>qaf (qab (wp_seq ?_)))
  refine qay hE21 (b:=decide (((j:Nat):Int) < ((u.length:Nat):Int))) kz (fun hc=>?_) (fun hc=>?_)
  ·have hlt:j < u.length:=by have:=of_decide_eq_true hc; omega
   refine wp_skip (qab (wp_seq (wp_block ?_)))
   obtain ⟨⟨k,x⟩,hu⟩:∃ y,u[j]? = some y:=⟨_,List.getElem?_eq_getElem hlt⟩
   have hmem:=List.mem_of_getElem? hu
   have hkr:=hm.range _ hmem
   have hcell:At w8 g (0 + j * 1) [.int .u32 k]:=by
    intro i v hi
    have hi0:i = 0:=by
     have:=(List.getElem?_eq_some_iff.1 hi).1
     simp at this; omega
    subst hi0
    simp only [List.getElem?_cons_zero,Option.some.injEq] at hi
    subst hi
    refine hS8.cell (fun hbm=>?_) ?_
    ·have:=hMlt _ _ hbm; omega
    have h1:=(hkeys j (by simpa using hlt)).1
    have h2:(u.map Prod.fst).toArray[j]! = k:=by
     rw [getElem!_pos _ j (by simpa using hlt)]
     have:(u.map Prod.fst)[j]? = some k:=by rw [List.getElem?_map,hu]; rfl
     simpa using (List.getElem?_eq_some_iff.1 this).2
    rw [h2] at h1
    simpa using h1
   refine qae [0,1,2] kz ?_
   refine qan (qaD hE21 (t:=186) (e:=62) (size:=1) (bytes:=4) (d:=41) (b:=g) (o:=0) (m:=u.length) (j:=j) kz kz rfl rfl hlt fun a19 hE22=>?_)
   refine qan (qaR hE22 (t:=62) (d:=42) (cs:=[.int .u32 k]) (v:=.int .u32 k) kz kz hcell fun a20 hE23=>?_)
   refine qbI [2] [] [0,1,37,38,39,7] hW8 hE23 (env':=[(0,.p 0 0),(1,.v (cloV fc cap)),(37,.v (.slice (some ⟨g,0,none⟩) u.length kc)),(38,.v (.int .i64 ((u.length:Nat):Int))),(39,.v (.int .i64 ((j:Nat):Int))),(7,.v (.int .u32 k))]) kz rfl fun a21 hE24=>qaf (qab ?_)
   refine qas [0,1,2,3,4,5,6,7,8] kz ?_
   refine qbI [0,1,2,3,4,5,6] [7,8] [0,1,37,38,39,43,44,48,49] hW8 hE24 (env':=[(0,.p 0 0),(1,.v (cloV fc cap)),(37,.v (.slice (some ⟨g,0,none⟩) u.length kc)),(38,.v (.int .i64 ((u.length:Nat):Int))),(39,.v (.int .i64 ((j:Nat):Int))),(43,.v (cloV fc cap)),(44,.v (.int .u32 k)),(48,.v (.map (some mb))),(49,.v (.int .u32 k))]) kz rfl fun a22 hE25=>?_
   refine qan (qiV hE25 (t:=92) (kt:=62) (et:=22) (m:=some mb) (k:=k) (s:=x) (d:=50) kz kz kz hm8 hmem fun a23 Ax cx hox hE26=>?_)
   refine qan (qam hE26 (f:=fc) (vs:=[.int .u32 k,.slice Ax x.length cx,cap]) (d:=51) kz hcf (hI1 w7 hW7.step j k x w8 Ax cx hD hu hkr hox) ?_)
   rintro e_ w9 ⟨rfl,hD2⟩
   refine ⟨_,rfl,fun a24 hE27=>qaf (qau (qab ?_))⟩
   have hS9:=hIs w7 (j + 1) w9 hD2
   have hat9:=hat7.move hS9 (fun b o hf _=>hMF b o hf) qba
   have hW9:WOk w9 Nil w9 [⟨b,o,[.map (some mb)],false⟩] []:=(WOk.start w9 Nil).start1 hat9 rfl rfl
   refine qas [0,1] kz (qbI [0,1] [] [0,1,37,38,39] hW9 hE27 (env':=[(0,.p 0 0),(1,.v (cloV fc cap)),(37,.v (.slice (some ⟨g,0,none⟩) u.length kc)),(38,.v (.int .i64 ((u.length:Nat):Int))),(39,.v (.int .i64 (IntKind.i64.wrap (((j:Nat):Int) + 1))))]) kz rfl fun a25 hE28=>qaf (qab ?_))
   rw [qaT (by omega)] at hE28
   exact ⟨u.length - (j + 1),by omega,j + 1,rfl,by omega,hE28,hD2⟩
  obtain rfl:j = u.length:=by have:=of_decide_eq_false hc; omega
  refine wp_exit (qaC (qaC (qaS ?_)))
  exact qbM hE21 hW8.cells (v:=.tuple #[]) kz ⟨rfl,w7,hW7.step,hD⟩
 -- one more
 have hst6:Step w5 w6 Nil:=by
  rcases hw6 with rfl | rfl
  ·exact Step.refl _ _
  exact Step.drew _
 have hr6:w6.heap[R]? = some (.mapIter (some mb) clk seen c0):=hst6.heap (fun o h=>h) hr5
 have hW6:=hW5.next_nil hst6
 obtain ⟨hml,_⟩:=mem_left he
 obtain ⟨k,sx,Ax,cx,hk1,hk2,hk3,hk4⟩:=hcont e hml
 have hR6:R < w6.heap.size:=(Array.getElem?_eq_some_iff.1 hr6).1
 have hW7:WOk w Nil (setBlock w6 R (.mapIter (some mb) clk (seen.push e.born) clk)) [⟨b,o,[.map (some mb)],false⟩,⟨kb,0,[.slice K vis.length kc],true⟩] [⟨K,kc,62,1,vis.length,(vis.map fun e=>kOf e.key).map (Value.int .u32)⟩]:=by
  refine hW6.next (Step.setBlock w6 R _) (fun b' o' hb' hN=>by omega) (fun i ob hi j hj hN=>?_) (fun i q hi g' hg' o' hN=>?_)
  ·match i,hi with
   | 0,hi =>
    simp only [List.getElem?_cons_zero,Option.some.injEq] at hi; subst hi
    have:=World.lt_of_cell (hat 0 _ rfl).2
    simp only at hN; omega
   | 1,hi =>
    simp only [List.getElem?_cons_succ,List.getElem?_cons_zero,Option.some.injEq] at hi; subst hi
    exact hkbr hN
   | i + 2,hi=>simp at hi
  match i,hi with
  | 0,hi =>
   simp only [List.getElem?_cons_zero,Option.some.injEq] at hi; subst hi
   exact hKR (by rw [← hN]; exact hg')
  | i + 1,hi=>simp at hi
 have hr7:(setBlock w6 R (.mapIter (some mb) clk (seen.push e.born) clk)).heap[R]? = some (.mapIter (some mb) clk (seen.push e.born) clk):=qet hr6
 generalize hw7:setBlock w6 R (.mapIter (some mb) clk (seen.push e.born) clk) = w7 at hW7 hr7
 refine qbI [1] [] [0,1,4,24,26] hW7 hE13 (env':=[(0,.p 0 0),(1,.v (cloV fc cap)),(4,.p 1 0),(24,.v (.pointer (some ⟨R,0,none⟩))),(26,.v (.bool true))]) kz rfl fun a12 hE14=>qaf (qab (wp_seq ?_))
 refine qay hE14 (b:=true) kz (fun _=>?_) (fun hb=>by cases hb)
 refine wp_skip (qab (wp_block ?_))
 have hes7:=hW7.step.heap (fun o h=>h) hes
 refine qae [0,1,2] kz ?_
 refine qan (qic hE14 (d:=27) (r:=R) kz hr7 hes7 hml hnod fun a13 hE15=>?_)
 rw [hk1] at hE15
 refine qbI [1,2] [] [0,1,4,24,5] hW7 hE15 (env':=[(0,.p 0 0),(1,.v (cloV fc cap)),(4,.p 1 0),(24,.v (.pointer (some ⟨R,0,none⟩))),(5,.v (.int .u32 k))]) kz rfl fun a14 hE16=>qaf (qab ?_)
 refine qas [0,1,2,3,4] kz ?_
 refine qbI [0,1] [2,3,4] [0,1,4,24,29,30] hW7 hE16 (env':=[(0,.p 0 0),(1,.v (cloV fc cap)),(4,.p 1 0),(24,.v (.pointer (some ⟨R,0,none⟩))),(29,.v (.slice K vis.length kc)),(30,.v (.int .u32 k))]) kz rfl fun a15 hE17=>?_
 have hsh:=left_shrinks es seen e he
 refine qcv (t:=186) (e:=62) (size:=1) (bytes:=4) (len:=1) (cs:=[.int .u32 k]) (d1:=31) (d:=32) (k:=0) hW7 hE17 kz kz (fun _=>by kernel_rfl) rfl kz (by omega) fun K2 kc2 a16 w8 hF8 hW8 hE18=>?_
 obtain ⟨bl,hE18⟩:=hE18
 have hR7:R < w7.heap.size:=(Array.getElem?_eq_some_iff.1 hr7).1
 have hna:∀ {o'},¬ Act_ [⟨b,o,[.map (some mb)],false⟩,⟨kb,0,[.slice K vis.length kc],true⟩] [⟨K,kc,62,1,vis.length,(vis.map fun e=>kOf e.key).map (Value.int .u32)⟩] R o':=by
  rintro o' (⟨i,ob,hi,hrw,hb,_⟩ | ⟨i,q,hi,hq⟩)
  ·match i,hi with
   | 0,hi =>
    simp only [List.getElem?_cons_zero,Option.some.injEq] at hi; subst hi
    cases hrw
   | 1,hi =>
    simp only [List.getElem?_cons_succ,List.getElem?_cons_zero,Option.some.injEq] at hi; subst hi
    exact hkbr hb
   | i + 2,hi=>simp at hi
  match i,hi with
  | 0,hi =>
   simp only [List.getElem?_cons_zero,Option.some.injEq] at hi; subst hi
   exact hKR hq
  | i + 1,hi=>simp at hi
 have hK2:K2.map (·.block) ≠ some R:=fun hk=>by
  exact hF8.imm R 0 hR7 hna (.inr ⟨0,_,rfl,hk⟩)
 refine qan (qat hW8 hE18 (oi:=1) (cs:=[.slice K2 (vis.length + 1) kc2]) kz fun w9 hF9 hW9 hE19=>qaf (qau (qab ?_)))
 have hr8:w9.heap[R]? = some (.mapIter (some mb) clk (seen.push e.born) clk) :=
  hF9.step.heap (fun o'=>hF8.imm R o' hR7 hna) (hF8.step.heap (fun o'=>hna) hr7)
 refine ⟨(leftOf es (seen.push e.born)).size,hsh,vis ++ [e],seen.push e.born,K2,kc2,clk,rfl,hv.push he,by rw [List.length_append,List.length_singleton]; omega,?_,?_,hr8,Nat.le_refl _,hK2⟩
 ·rw [List.length_append,List.length_singleton]
  exact hE19.pick (ks:=[0,1,4,24]) kz
 rw [List.length_append,List.length_singleton,List.map_append,List.map_append,List.map_cons,List.map_cons,hk1]
 exact hW9
end Go.Proofs.YtcbpjflgkefidaaGreatDoor.ME
namespace Go.Proofs.YtcbpjflgkefidaaGreatDoor.ME
open Go
open Go.RowKit
set_option linter.unusedVariables false
set_option linter.unusedSimpArgs false
set_option maxRecDepth 20000
section
variable {P:Program} {ops:Array Oper} {Q:Exit → Act → World → Prop} {n:Nat} {tb:Tb} {env:Env} {rs:List Rw} {w0:World} {M:Nat → Nat → Prop} {a:Act} {w:World}
theorem qeQ {i d j:Nat} {t e:TypeId} {size bytes:Nat} (z:Value) (cs:List Value) {N:Act → World → Prop} (hW:WOk w0 M w tb rs) (hE:EnvOk n tb env a)
  (K:∀ b a' w',b = w.heap.size → w0.heap.size ≤ b → Fr w tb rs w' (tb ++ [⟨b,0,cs,true⟩]) rs → WOk w0 M w' (tb ++ [⟨b,0,cs,true⟩]) rs → EnvOk n (tb ++ [⟨b,0,cs,true⟩]) ((d,.v (.slice (some ⟨b,0,none⟩) j j)) :: env) a' → N a' w')
  (h:qiP env ops n i = some (t,((j:Nat):Int),((j:Nat):Int),d):=by kernel_rfl) (ht:qcF P t = some (e,size,bytes):=by kernel_rfl) (hz:(P.info? e).bind (·.zero) = some z:=by kernel_rfl) (hcs:(madeCells z.cells (j * size)).toList = cs:=by kernel_rfl) (hb:Nat.ble (bytes * j) 1000000 = true:=by kernel_rfl):wpOp P ops Q i N a w:=by
 obtain ⟨ht',inf,z',hi,hz',hzs,hs1,rfl,hsz,hbp⟩:=qcc ht
 obtain ⟨op,ho,hd,kl,kc,hrun⟩:=qfY (P:=P) (w:=w) hE h
 have hzz:z' = z:=by rw [hi] at hz; simp only [Option.bind_some,hz',Option.some.injEq] at hz; exact hz
 subst hzz
 have hb':=Nat.le_of_ble_eq_true hb
 have hjm:j ≤ 1000000:=by
  have:=Nat.le_mul_of_pos_left j hbp
  omega
 have hr:=run_make (P:=P) w t e inf z' ht' hi hz' kl kc (j:Int) (j:Int) (by omega) (Int.le_refl _) (by
  have:((inf.bytes * j:Nat):Int) ≤ 281474976710656:=by omega
  rwa [Int.natCast_mul] at this) (by omega)
 simp only [Int.toNat_natCast,hs1] at hr
 have hca:madeCells z'.cells (j * size) = cs.toArray:=by rw [← hcs]
 rw [hca] at hr
 refine qa8 hE ho (fun o hop=>hrun o _ _ hop hr) ?_
 refine K w.heap.size _ _ rfl hW.step.size (Fr.alloc w tb rs _ cs true) (hW.alloc cs e) ?_
 exact (hE.put hd (.v (.slice (some ⟨w.heap.size,0,none⟩) j j)) trivial).grow _
theorem qiu {i d:Nat} {src dst e:TypeId} {s:ByteArray} {N:Act → World → Prop} (hW:WOk w0 M w tb rs) (hE:EnvOk n tb env a) (hsm:s.size ≤ 1099511627776)
  (K:∀ b c a' w',Fr w tb rs w' tb rs → WOk w0 M w' tb rs → (∀ G,Octs w' (Imm G w0 w' tb rs) (some ⟨b,0,none⟩) c (sb s)) → EnvOk n tb ((d,.v (.slice (some ⟨b,0,none⟩) (sb s).length c)) :: env) a' → N a' w')
  (h:qkk tb env ops n i = some (src,dst,.string s,d):=by kernel_rfl) (hs:P.underlying src = some .string:=by kernel_rfl) (hd:P.underlying dst = some (.slice e):=by kernel_rfl) (he:P.underlying e = some (.int .u8):=by kernel_rfl):wpOp P ops Q i N a w:=by
 unfold qkk at h
 split at h
 ·rename_i src' dst' x d' hop
  split at h
  ·rename_i v hx
   simp only [Option.some.injEq,Prod.mk.injEq] at h
   obtain ⟨rfl,rfl,rfl,rfl⟩:=h
   have hdn:=(qbr hE hop).choose_spec.2.2.2.1
   have hrun:=Lib.run_convert_string_bytes (P:=P) w src' dst' e s hs hd he
   have hst:Step w (Lib.bytesWorld w e s) Nil:=⟨rfl,rfl,by rw [Lib.bytesWorld_size]; omega,fun b hb=>by rw [Lib.bytesWorld_at_old w e s b hb]; exact Keeps.refl _ _⟩
   have hlen:(sb s).length = s.size:=qiM s
   have e1:=(qa6 hE hx).1
   refine qa8 hE hop (v:=.slice (some ⟨w.heap.size,0,none⟩) (sb s).length (grownCap w s.size 0 e)) (w':=Lib.bytesWorld w e s) (fun o' ho'=>?_) (K w.heap.size _ _ _ (Fr.nil tb rs hst) (hW.next_nil hst) (fun G=>?_) (hE.put hdn (.v _) trivial))
   ·unfold execOp
    rw [ho']
    simp only [SV.val] at e1
    simp only [e1,Sem.run_bind,hrun,Result.andThen_ok,Sem.run_pure,hlen]
   refine ⟨by rw [hlen]; exact grownCap_ge w s.size 0 e,by rw [hlen]; exact hsm,fun h=>(by cases h),fun ad hA _=>?_⟩
   obtain rfl:=Option.some.inj hA
   refine ⟨w.heap.size,0,rfl,fun q hq=>⟨rfl,fun j v hj=>?_⟩⟩
   have hj0:j = 0:=by
    cases j with
    | zero=>rfl
    | succ j=>simp at hj
   subst hj0
   simp only [List.getElem?_cons_zero,Option.some.injEq] at hj
   subst hj
   have h2:(Lib.bytesWorld w e s).heap.size = w.heap.size + 1:=Lib.bytesWorld_size w e s
   refine ⟨⟨.inr hW.step.size,by rw [h2]; exact Nat.lt_succ_self _,fun ha=>?_⟩,?_⟩
   ·have:=hW.act_live ha
    exact absurd this (Nat.lt_irrefl _)
   rw [Nat.zero_add,Nat.mul_one,Nat.add_zero,Lib.bytesWorld_cell w e s q (by rw [← hlen]; exact hq)]
   rfl
  cases h
 cases h
end
structure TBox (w:World) (B eT:Nat) (A:Option Addr) (cp n:Nat) (x0 x1 x2 x3:Value) (xs:List Value):Prop where
 str:Str w B [x0,x1,x2,x3,.slice A n cp]
 own:w.ownsRow 0 eT 2 (.slice A n cp) n xs
 ne:A.map (·.block) ≠ some B
def TM (B:Nat) (A:Option Addr):Nat → Nat → Prop:=fun b o=>(b = B ∧ o < 5) ∨ Blk A b o
def qkp (w:World) (B eT:Nat) (A:Option Addr) (n:Nat) (x0 x1 x2 x3:Value) (xs:List Value) (k:Int) (x:Bs):Ending → World → Prop:=fun en w' =>
 en = .returned (.tuple #[]) ∧ ∃ A' cp' Av cv,TBox w' B eT A' cp' (n + 1) x0 x1 x2 x3 (xs ++ [.int .u32 k,.slice Av x.length cv]) ∧ Octs w' (fun b o=>(w.heap.size ≤ b ∨ A.map (·.block) = some b) ∧ ¬ TM B A' b o) Av cv x ∧ Near w A A' ∧ Step w w' (TM B A)
def qfu (P:Program) (fc eT:Nat):Prop:=∀ (w:World) (B cp c n:Nat) (k:Int) (A Av:Option Addr) (x:Bs) (x0 x1 x2 x3:Value) (xs:List Value) (G:Nat → Nat → Prop),TBox w B eT A cp n x0 x1 x2 x3 xs → Octs w G Av c x → (∀ b o,G b o → ¬ TM B A b o) → n ≤ 1000000 →
 Calls P fc [.int .u32 k,.slice Av x.length c,.pointer (some ⟨B,0,none⟩)].toArray w (qkp w B eT A n x0 x1 x2 x3 xs k x)
theorem TBox.wok {w:World} {B eT cp n:Nat} {A:Option Addr} {x0 x1 x2 x3:Value} {xs:List Value} (h:TBox w B eT A cp n x0 x1 x2 x3 xs):WOk w (TM B A) w [⟨B,0,[x0,x1,x2,x3,.slice A n cp],true⟩] [⟨A,cp,eT,2,n,xs⟩]:=by
 have h1:WOk w (TM B A) w [⟨B,0,[x0,x1,x2,x3,.slice A n cp],true⟩] [] :=
  (WOk.start w _).add ⟨B,0,[x0,x1,x2,x3,.slice A n cp],true⟩ (World.lt_of_cell (h.str.at_ 0 _ rfl)) (fun j v hj=>by rw [Nat.zero_add]; exact h.str.at_ j v hj) (fun _ j hj=>⟨.inr (.inl ⟨rfl,by rw [Nat.zero_add]; exact hj⟩),by rw [Nat.zero_add]; exact h.str.frz j hj⟩) (fun i ob hi=>by simp at hi) (fun i r hi=>by simp at hi)
 refine h1.addRow ⟨A,cp,eT,2,n,xs⟩ h.own (fun g hg=>.inr fun o=>.inr hg) (fun i ob hi=>?_) (fun i r hi=>by simp at hi)
 cases i with
 | zero =>
  simp only [List.getElem?_cons_zero,Option.some.injEq] at hi; subst hi
  exact h.ne
 | succ i=>simp at hi
theorem qge {w0 w:World} {B eT cp n:Nat} {A0 A:Option Addr} {x0 x1 x2 x3:Value} {xs:List Value} {rs:List Rw} (hW:WOk w0 (TM B A0) w [⟨B,0,[x0,x1,x2,x3,.slice A n cp],true⟩] (⟨A,cp,eT,2,n,xs⟩ :: rs)) (hB:B < w0.heap.size):TBox w B eT A cp n x0 x1 x2 x3 xs ∧ Near w0 A0 A ∧ Step w0 w (TM B A0):=by
 refine ⟨⟨Str.of hW 0 rfl,hW.own 0 _ rfl,fun e=>hW.rtb 0 _ rfl B e 0 _ rfl rfl⟩,fun g hg=>?_,hW.step⟩
 rcases hW.ownM 0 _ rfl g hg with h | h
 ·exact .inr h
 rcases h 5 with ⟨_,h⟩ | h
 ·omega
 exact .inl h
theorem qeA {w0 w:World} {B eT cp n c e8:Nat} {A0 A Av:Option Addr} {cs:List Value} {xs:List Value} {s:Bs} (hl:cs.length = 5) (hW:WOk w0 (TM B A0) w [⟨B,0,cs,true⟩] [⟨A,cp,eT,2,n,xs⟩,brow Av c e8 s]) (hsm:s.length ≤ 1099511627776):Octs w (fun b o=>(w0.heap.size ≤ b ∨ A0.map (·.block) = some b) ∧ ¬ TM B A b o) Av c s:=by
 refine qcd (hW.own 1 _ rfl) hsm fun g hg o=>⟨?_,?_⟩
 ·rcases hW.ownM 1 _ rfl g hg with h | h
  ·exact .inl h
  rcases h 5 with ⟨_,h⟩ | h
  ·omega
  exact .inr h
 rintro (⟨rfl,_⟩ | h)
 ·exact hW.rtb 1 _ rfl g hg 0 _ rfl rfl
 exact hW.rr 1 0 _ _ (by decide) rfl rfl g hg h
theorem qfv {fc eT B b o:Nat} {m:Option Nat} {u:List (Int × Bs)} {w:World} {F:Nat → Nat → Prop} {x0 x1 x2 x3:Value} (hcf:∀ args w,(callFunc fc args).run Tryz.prog w = .ok (.enter fc args) w) (hone:qfu Tryz.prog fc eT) (hat:AtF w F b o [.map m]) (hm:MapR w F m u) (hB:Str w B [x0,x1,x2,x3,.slice none 0 0]) (hF:∀ b o,F b o → ¬ (b = B ∧ o < 5)) (hul:u.length ≤ 1000000) :
  Calls Tryz.prog 103 [.pointer (some ⟨b,o,none⟩),cloV fc (.pointer (some ⟨B,0,none⟩))].toArray w (fun e w'=>e = .returned (.tuple #[]) ∧ ∃ A c,Str w' B [x0,x1,x2,x3,.slice A u.length c] ∧ TagsR w' (fun b o=>w.heap.size ≤ b) A c u ∧ Step w w' (fun b o=>b = B ∧ o < 5)):=by
 have hBl:B < w.heap.size:=World.lt_of_cell (hB.at_ 0 _ rfl)
 refine (qlS (M:=fun b o=>b = B ∧ o < 5) hcf (fun w7 j w8=>∃ A cp xs css,TBox w8 B eT A cp j x0 x1 x2 x3 xs ∧ Tags w8 (fun b o=>w7.heap.size ≤ b ∧ ¬ TM B A b o) xs (u.take j) css ∧ (∀ g,A.map (·.block) = some g → w7.heap.size ≤ g) ∧ Step w7 w8 (fun b o=>b = B ∧ o < 5)) hat hm hF (fun b o h=>by rw [h.1]; exact hBl) (fun w7 hs=>?_) (fun w7 j w8 h=>by obtain ⟨_,_,_,_,_,_,_,h⟩:=h; exact h) (fun w7 hs j k x w8 Ax cx hI hu hk hox=>?_) hul).mono ?_
 ·exact ⟨none,0,[],[],⟨hB.move hs fun _ h=>h,World.ownsRow_nil _ 0 eT 2,fun h=>by cases h⟩,Tags.nil _ _,fun g h=>(by cases h),Step.refl _ _⟩
 ·obtain ⟨A,cp,xs,css,hbx,hT,hA,hs8⟩:=hI
  have hj:j < u.length:=(List.getElem?_eq_some_iff.1 hu).1
  refine (hone w8 B cp cx j k A Ax x x0 x1 x2 x3 xs _ hbx hox (fun b o hf=>?_) (by omega)).mono ?_
  ·rintro (h | h)
   ·exact hF _ _ hf.1 h
   have:=hA b h; have:=hf.2; omega
  rintro e w9 ⟨rfl,A',cp',Av,cv,hbx',ho',hn,hs9⟩
  refine ⟨rfl,A',cp',_,css ++ [[.int .u32 k,.slice Av x.length cv]],hbx',?_,fun g hg=>?_,hs8.trans hs9 fun b o hb h=>?_⟩
  ·rw [qc6 hu]
   have e1:Tags w9 (fun b o=>w7.heap.size ≤ b ∧ ¬ TM B A' b o) xs (u.take j) css:=hT.move hs9 (fun b o h _=>h.2) (fun b o h hb=>⟨h.1,fun h'=>by
    rcases h' with h' | h'
    ·exact h.2 (.inl h')
    rcases hn b h' with h' | h'
    ·exact h.2 (.inr h')
    omega⟩)
   have e2:Octs w9 (fun b o=>w7.heap.size ≤ b ∧ ¬ TM B A' b o) Av cv x:=ho'.move (Step.refl _ Nil) nilM fun b o h _=>⟨by
    rcases h.1 with h' | h'
    ·exact Nat.le_trans hs8.size h'
    exact hA b h',h.2⟩
   exact e1.snoc (c:=[.int .u32 k,.slice Av x.length cv]) (x:=(k,x)) ⟨⟨_,_,rfl,e2⟩,hk.1,hk.2⟩
  ·rcases hn g hg with h | h
   ·exact hA g h
   exact Nat.le_trans hs8.size h
  rcases h with h | h
  ·exact h
  have:=hA b h; omega
 rintro e w' ⟨rfl,w7,hs,A,cp,xs,css,hbx,hT,hA,hs8⟩
 rw [List.take_length] at hT
 refine ⟨rfl,A,cp,hbx.str,?_,(hs.mono (N:=fun b o=>b = B ∧ o < 5) fun _ _ _ f=>f.elim).trans hs8 fun b o _ h=>h⟩
 exact ((hT.move (Step.refl _ Nil) nilM fun b o h _=>Nat.le_trans hs.size h.1).slots (F:=fun b o=>w.heap.size ≤ b) hbx.own rfl (by omega) fun g hg o=>Nat.le_trans hs.size (hA g hg))
def qgW (A:Option Addr) (s:ByteArray):Tree:=.mk 0 (if A.isNone = true then [] else sb s) A.isNone [] []
abbrev NoF:Nat → Nat → Prop:=fun _ _=>False
theorem WOk.strOut {G:Nat → Nat → Prop} {w0 w:World} {tb:Tb} {rs:List Rw} {p:Nat} {cs:List Value} (tb':Tb) (hW:WOk w0 Nil w tb rs) (ht:tb' ++ [⟨p,0,cs,true⟩] = tb:=by rfl):AtF w (Imm G w0 w tb' rs) p 0 cs:=fun j v hj=>by
 subst ht
 have hi:(tb' ++ [(⟨p,0,cs,true⟩:Ob)])[tb'.length]? = some ⟨p,0,cs,true⟩:=by rw [List.getElem?_append_right (Nat.le_refl _),Nat.sub_self]; rfl
 have h1:=hW.cells _ _ hi j v hj
 have hlt:j < cs.length:=(List.getElem?_eq_some_iff.1 hj).1
 refine ⟨⟨?_,hW.live _ _ hi,fun ha=>?_⟩,h1⟩
 ·rcases (hW.rw_ _ _ hi rfl j hlt).1 with h2 | h2
  ·exact .inr h2
  exact h2.elim
 rcases ha with ⟨k,ob,h2,h3,h4,h5,h6⟩ | ⟨k,r,h2,h3⟩
 ·have hk:k < tb'.length:=(List.getElem?_eq_some_iff.1 h2).1
  have h7:(tb' ++ [(⟨p,0,cs,true⟩:Ob)])[k]? = some ob:=by rw [List.getElem?_append_left hk]; exact h2
  rcases hW.apart k _ ob _ (by omega) h7 hi (.inr rfl) with h8 | h8 | h8
  ·exact h8 h4
  ·simp only [Nat.zero_add] at h5 h6; simp only [Nat.le_zero] at h8; omega
  simp only [Nat.zero_add] at h5 h6 h8; omega
 exact hW.rtb k r h2 p h3 _ _ hi rfl
theorem qiv {u:List (Int × Bs)} (h:qdj u) {i j:Nat} {k k':Int} {s s':Bs} (hi:u[i]? = some (k,s)) (hj:u[j]? = some (k',s')) (hij:j < i):¬ k < k':=by
 obtain ⟨h1,h2⟩:=List.getElem?_eq_some_iff.1 hi
 obtain ⟨h3,h4⟩:=List.getElem?_eq_some_iff.1 hj
 have:=List.pairwise_iff_getElem.1 h j i h3 h1 hij
 rw [h2,h4] at this
 simp only at this
 omega
section
variable {w0 w:World} {tb:Tb} {rs:List Rw} {F:Nat → Nat → Prop}
theorem WOk.objFp (hW:WOk w0 Nil w tb rs) (i:Nat) {b:Nat} {cs:List Value} (hi:tb[i]? = some ⟨b,0,cs,true⟩):AtF w (Fp F w0) b 0 cs:=fun j v hj=>by
 have hlt:=(List.getElem?_eq_some_iff.1 hj).1
 refine ⟨?_,hW.cells i _ hi j v hj⟩
 rcases (hW.rw_ i _ hi rfl j hlt).1 with h | h
 ·exact .inr h
 exact h.elim
def TrL (w:World) (F:Nat → Nat → Prop):List (List Value) → List Tree → Prop
 | [],[]=>True
 | c :: cs,x :: xs=>TreeR w F c x ∧ TrL w F cs xs
 | _,_=>False
theorem TrL.move {w w':World} {F F' M:Nat → Nat → Prop} (hs:Step w w' M) (hM:∀ b o,F b o → b < w.heap.size → ¬ M b o) (hF:∀ b o,F b o → b < w.heap.size → F' b o):∀ {cs:List (List Value)} {l:List Tree},TrL w F cs l → TrL w' F' cs l
 | [],[],_=>trivial
 | _ :: _,_ :: _,h=>⟨h.1.move hs hM hF,TrL.move hs hM hF h.2⟩
 | [],_ :: _,h=>h.elim
 | _ :: _,[],h=>h.elim
theorem TrL.len:∀ {cs:List (List Value)} {l:List Tree},TrL w F cs l → cs.length = l.length
 | [],[],_=>rfl
 | _ :: _,_ :: _,h=>congrArg (· + 1) (TrL.len h.2)
 | [],_ :: _,h=>h.elim
 | _ :: _,[],h=>h.elim
theorem TrL.five:∀ {cs:List (List Value)} {l:List Tree},TrL w F cs l → ∀ c ∈ cs,c.length = 5
 | [],[],_=>fun c hc=>by cases hc
 | _ :: _,_ :: _,h=>fun c hc=>by
  rcases List.mem_cons.1 hc with rfl | hc
  ·exact h.1.five
  exact TrL.five h.2 c hc
 | [],_ :: _,h=>h.elim
 | _ :: _,[],h=>h.elim
theorem TrL.get:∀ {cs:List (List Value)} {l:List Tree},TrL w F cs l → ∀ (i:Nat) (x:Tree),l[i]? = some x → TreeR w F (cs.getD i []) x
 | [],[],_,i,x,hx=>by simp at hx
 | _ :: _,_ :: _,h,0,x,hx=>by
  simp only [List.getElem?_cons_zero,Option.some.injEq] at hx
  subst hx
  exact h.1
 | _ :: _,_ :: _,h,i + 1,x,hx=>TrL.get h.2 i x hx
 | [],_ :: _,h,_,_,_=>h.elim
 | _ :: _,[],h,_,_,_=>h.elim
theorem qlT {b:Nat}:∀ (css:List (List Value)) (o:Nat),AtF w F b o css.flatten → (∀ c ∈ css,c.length = 5) → ∀ i,i < css.length → (css.getD i []).length = 5 ∧ AtF w F b (o + i * 5) (css.getD i [])
 | [],o,h,hl,i,hi=>absurd hi (Nat.not_lt_zero _)
 | c :: r,o,h,hl,0,_=>⟨hl c List.mem_cons_self,fun j v hj=>by
   have hj':c[j]? = some v:=hj
   have:=h j v (by rw [List.flatten_cons,List.getElem?_append_left (List.getElem?_eq_some_iff.1 hj').1]; exact hj')
   rw [show o + 0 * 5 + j = o + j by omega]
   exact this⟩
 | c :: r,o,h,hl,i + 1,hi=>by
  have hc:=hl c List.mem_cons_self
  have:=qlT r (o + 5) (fun j v hj=>by
   have:=h (5 + j) v (by rw [List.flatten_cons,List.getElem?_append_right (by omega),show 5 + j - c.length = j by omega]; exact hj)
   rw [show o + 5 + j = o + (5 + j) by omega]
   exact this) (fun d hd=>hl d (List.mem_cons_of_mem _ hd)) i (by simpa using hi)
  rw [show o + (i + 1) * 5 = o + 5 + i * 5 by omega]
  exact this
theorem qiw {b:Nat} {css:List (List Value)} {l:List Tree} (h:AtF w F b 0 css.flatten) (hT:TrL w F css l) (hsm:l.length ≤ 1099511627776):Slots w F 5 (some ⟨b,0,none⟩) l.length l.length (fun i=>css.getD i []) :=
 ⟨Nat.le_refl _,hsm,fun h=>(by cases h),fun ad hA _=>⟨b,0,(Option.some.inj hA).symm,fun i hi=>qlT css 0 h hT.five i (by rw [hT.len]; exact hi)⟩⟩
theorem Trees.xslen {w:World} {xs:List Value} {l:List Tree} {css:List (List Value)} (h:Trees w F xs l css):xs.length = l.length * 5:=by
 have h1:∀ css:List (List Value),(∀ c ∈ css,c.length = 5) → css.flatten.length = css.length * 5:=fun css hc=>by
  induction css with
  | nil=>rfl
  | cons c r ih =>
   rw [List.flatten_cons,List.length_append,hc c List.mem_cons_self,ih fun d hd=>hc d (List.mem_cons_of_mem _ hd),List.length_cons]
   omega
 rw [h.flat.eq,h1 css,h.len]
 intro c hc
 obtain ⟨i,hi,rfl⟩:=List.getElem_of_mem hc
 have hl:=h.len
 exact (h.each i _ _ (List.getElem?_eq_getElem hi) (List.getElem?_eq_getElem (show i < l.length by omega))).five
theorem qek {xs zs cs:List Value} {k:Nat} (hx:xs.length = k * 5) (hz:zs.length = cs.length:=by rfl):qbo (xs ++ zs) (k * 5) cs = xs ++ cs:=by
 unfold qbo
 rw [List.take_left' hx,List.drop_of_length_le (by rw [List.length_append]; omega),List.append_nil]
structure O16 (w:World) (F:Nat → Nat → Prop) (A:Option Addr) (c:Nat) (s:Bs):Prop where
 o:Octs w F A c s
 l:s.length = 16
theorem O16.move {w w':World} {F F' M:Nat → Nat → Prop} {A:Option Addr} {c:Nat} {s:Bs} (h:O16 w F A c s) (hs:Step w w' M) (hM:∀ b o,F b o → b < w.heap.size → ¬ M b o) (hF:∀ b o,F b o → b < w.heap.size → F' b o):O16 w' F' A c s:=⟨h.o.move hs hM hF,h.l⟩
theorem O16.src {w:World} {F:Nat → Nat → Prop} {A:Option Addr} {c:Nat} {s:Bs} (h:O16 w F A c s):Src w A 16 1 (bc s):=by
 have:=h.o.src
 rwa [h.l] at this
theorem O16.cap {w:World} {F:Nat → Nat → Prop} {A:Option Addr} {c:Nat} {s:Bs} (h:O16 w F A c s):A = none → c = 0:=h.o.cap
theorem qlU {w:World} {F:Nat → Nat → Prop} {b o k:Nat} {cs:List Value} {s:Bs} (h:AtF w F b o cs) (hl:s.length = 16) (hc:∀ j,j < 16 → cs[k + j]? = some (qad (s.getD j 0))):O16 w F (some ⟨b,o + k,none⟩) 16 s:=by
 refine ⟨⟨by omega,by omega,fun h=>(by cases h),fun ad hA _=>⟨b,o + k,(Option.some.inj hA).symm,fun i hi=>⟨rfl,fun j v hj=>?_⟩⟩⟩,hl⟩
 have hj0:j = 0:=by
  cases j with
  | zero=>rfl
  | succ j=>simp at hj
 subst hj0
 simp only [List.getElem?_cons_zero,Option.some.injEq] at hj
 subst hj
 have:=h (k + i) _ (hc i (by omega))
 rw [show o + k + i * 1 + 0 = o + (k + i) by omega]
 exact this
theorem qgX (hW:WOk w0 Nil w tb rs) {k:Nat} {A:Option Addr} {c e n:Nat} {xs:List Value} {l:List Tree} {css:List (List Value)} {b:Bool} (hk:rs[k]? = some ⟨A,c,e,5,n,xs⟩) (hT:Trees w (Imm F w0 w tb rs) xs l css) (hn:n = l.length) (hsm:l.length ≤ 1099511627776):TreeR w (Fp F w0) [.int .i64 0,.slice none 0 0,.bool b,.slice A n c,.slice none 0 0] (.mk 0 [] b l []):=by
 have h:=qhy hW hk hT hn hsm
 subst hn
 exact TreeR.mk (s:=[]) (u:=[]) _ (Octs.nil _ _) h.1 h.2 (TagsR.nil _ _)
theorem qdl {L k:Nat} {f:Nat → Tree} (h:k < L):((List.range L).map f).take (k + 1) = ((List.range L).map f).take k ++ [f k] :=
 qc6 (by rw [List.getElem?_map,List.getElem?_range h]; rfl)
theorem qhQ {L k:Nat} {f:Nat → Tree} (h:L ≤ k):((List.range L).map f).take k = (List.range L).map f:=List.take_of_length_le (by rw [List.length_map,List.length_range]; exact h)
theorem qc4 {L:Nat} {f:Nat → Tree}:((List.range L).map f).length = L:=by rw [List.length_map,List.length_range]
theorem qgf (hW:WOk w0 Nil w tb rs) (i:Nat) {b n2 c3:Nat} {A3:Option Addr} {u:List (Int × Bs)} {css:List (List Value)} {cs:List Value} {l:List Tree} (hi:tb[i]? = some ⟨b,0,cs,true⟩) (hT':TrL w (Fp F w0) css l) (hU:TagsR w (Fp F w0) A3 c3 u) (hf:css.flatten = cs:=by rfl) (hl:l.length = n2:=by rfl) (hn:Nat.ble n2 1000000 = true:=by kernel_rfl) :
  qdg w0 F (.mk 0 [] false l u) (.returned (.agg #[.int .i64 0,.slice none 0 0,.bool false,.slice (some ⟨b,0,none⟩) n2 n2,.slice A3 u.length c3])) w:=by
 subst hf
 subst hl
 have hn':=Nat.le_of_ble_eq_true hn
 exact ⟨_,rfl,TreeR.mk (s:=[]) _ (Octs.nil _ _) (qiw (hW.objFp i hi) hT' (by omega)) hT'.get hU,hW.step⟩
end
def qlV (m:Nat):Prop:=∀ (ct:List Value) (t:Tree) (w:World) (F:Nat → Nat → Prop),TreeR w F ct t → t.depth ≤ m →
  Calls Tryz.prog 17 #[.agg ct.toArray] w (qdg w F t)
theorem qjN {m:Nat} (hg:qlV m) (ct:List Value) (t:Tree) (w:World) (F:Nat → Nat → Prop) (ht:TreeR w F ct t) (hd:t.depth ≤ m + 1) :
  Calls Tryz.prog 17 #[.agg ct.toArray] w (qdg w F t):=by
 obtain ⟨n1,s2,b3,l4,u5,A6,c7,A8,c9,ap,ar,dT,rfl,rfl,dw,dx,dU,dV⟩:=ht.open_
 have dy:=dw.small
 have dz:=dx.small
 obtain ⟨dW,dA,dX⟩:=dV.ex
 have dB:=dA.small
 refine enter (n:=49) Tryz.func17 rfl Tryz.ntmps17 kz fun a hE=>?_
 have hW:=WOk.start w Nil
 refine qae [0,1] kz ?_
 refine qan (qbl hW hE (d:=1) (cs:=(z3 n1 A6 s2.length c7 b3 A8 l4.length c9 ap u5.length ar)) kz fun bF fm fo dY dZ d5 cY cZ=>?_)
 refine qan (qaP cY cZ (d:=2) (cs:=z1) kz fun bG fq fr d6 d7 d8 bI c5=>?_)
 refine qaf (qab ?_)
 refine qae [0,1,2,3,4,5,6,7,8] kz ?_
 refine qal [0,1,2,3,4,5,6] [7,8] [(1,.p 0 0),(2,.p 1 0),(14,.v (.agg #[.int .i64 n1,.slice A6 s2.length c7,.bool b3,.slice none 0 0,.slice none 0 0]))] bI c5 fun ft c6=>?_
 refine qan (qaP bI c6 (d:=3) (cs:=z1) kz fun bH fv fw d9 ea eb da db=>?_)
 refine qan (qat da db (oi:=2) (cs:=[.int .i64 n1,.slice A6 s2.length c7,.bool b3,.slice none 0 0,.slice none 0 0]) kz fun fx ec bz dc=>?_)
 refine qaf (qab ?_)
 refine wp_seq (qap [(1,.p 0 0),(2,.p 1 0),(3,.p 2 0),(16,.v (.slice A8 l4.length c9)),(17,.v (.int .i64 ((l4.length:Nat):Int))),(18,.v (.int .i64 0))] bz dc fun fy de=>?_)
 refine wp_block ?_
 have bJ:=bz.addNil 26 5
 have ee:=bz.frNil 26 5
 refine wp_loop_ghost (fun n_ a_ w_=>∃ (k:Nat) (A_:Option Addr) (c_:Nat) (xs:List Value) (css:List (List Value)),n_ = l4.length - k ∧ k ≤ l4.length ∧ (Trees w_ (Imm F w w_ [⟨bF,0,[.int .i64 n1,.slice A6 s2.length c7,.bool b3,.slice A8 l4.length c9,.slice ap u5.length ar],true⟩,⟨bG,0,[.int .i64 0,.slice none 0 0,.bool false,.slice none 0 0,.slice none 0 0],true⟩,⟨bH,0,[.int .i64 n1,.slice A6 s2.length c7,.bool b3,.slice A_ k c_,.slice none 0 0],true⟩] [⟨A_,c_,26,5,k,xs⟩]) xs (l4.take k) css) ∧ LInv bJ 49 [⟨bF,0,[.int .i64 n1,.slice A6 s2.length c7,.bool b3,.slice A8 l4.length c9,.slice ap u5.length ar],true⟩,⟨bG,0,[.int .i64 0,.slice none 0 0,.bool false,.slice none 0 0,.slice none 0 0],true⟩,⟨bH,0,[.int .i64 n1,.slice A6 s2.length c7,.bool b3,.slice A_ k c_,.slice none 0 0],true⟩] [⟨A_,c_,26,5,k,xs⟩] [(1,.p 0 0),(2,.p 1 0),(3,.p 2 0),(16,.v (.slice A8 l4.length c9)),(17,.v (.int .i64 ((l4.length:Nat):Int))),(18,.v (.int .i64 ((k:Nat):Int)))] a_ w_) (l4.length) ⟨0,none,0,[],[],by omega,by omega,Trees.nil _ _,de.pk,bJ,Fr.refl _ _ _⟩ ?_
 rintro fz fA fB ⟨k,A_,c_,xs,css,ef,eg,hT,df,aw,dg⟩
 refine qap [(1,.p 0 0),(2,.p 1 0),(3,.p 2 0),(16,.v (.slice A8 l4.length c9)),(17,.v (.int .i64 ((l4.length:Nat):Int))),(18,.v (.int .i64 ((k:Nat):Int))),(19,.v (.bool (decide (((k:Nat):Int) < ((l4.length:Nat):Int)))))] aw df fun fC bA=>?_
 refine wp_seq (qay bA (b:=decide (((k:Nat):Int) < ((l4.length:Nat):Int))) kz (fun bB=>?_) (fun bB=>?_))
 ·
  have eh:=of_decide_eq_true bB
  refine wp_skip (qab (wp_seq (wp_block (qae [0,1,2,3] kz ?_))))
  obtain ⟨ei,ej,dh,ek,bf⟩:=Slots.get dx (i:=k) (by omega)
  obtain ⟨em,bC⟩:∃ x,l4[k]? = some x:=⟨_,List.getElem?_eq_getElem (by omega)⟩
  have bD:=dU k em bC
  obtain ⟨bK,bL,bM,bN,bO,bP,bQ,bR,bS,bT,bU,eo,rfl,bg,ep,eu,fD,fE⟩:=bD.open_
  rw [bg] at bD
  have dC:=ep.small
  have dD:=eu.small
  rw [bg] at bf
  refine qan (qaD bA (t:=34) (A:=A8) (m:=l4.length) (q:=((k:Nat):Int)) (d:=20) kz (e:=37) (size:=5) (bytes:=88) kz dh rfl (by omega) fun fF bV=>?_)
  refine qan (qaR bV (t:=37) (b:=ei) (o:=ej + k * 5) (d:=21) kz (cs:=(z3 bK bP bL.length bQ bM bR bN.length bS bT bO.length bU)) (v:=.agg #[.int .i64 bK,.slice bP bL.length bQ,.bool bM,.slice bR bN.length bS,.slice bT bO.length bU]) kz (AtF.move bf aw.step nilM qba).at_ fun ev bW=>?_)
  refine qan (qaP aw bW (d:=5) (cs:=z1) kz fun ew ey ez dE dF ax bX bY=>?_)
  refine qan (qat bX bY (oi:=3) (cs:=(z3 bK bP bL.length bQ bM bR bN.length bS bT bO.length bU)) kz fun eB ay bZ b8=>?_)
  refine qaf (qab ?_)
  refine qcQ 7 kz bZ fun eC az ag cd=>?_
  refine qaJ [0,1,2] [(1,.p 0 0),(2,.p 1 0),(3,.p 2 0),(16,.v (.slice A8 l4.length c9)),(17,.v (.int .i64 ((l4.length:Nat):Int))),(18,.v (.int .i64 ((k:Nat):Int))),(23,.v (.slice A_ k c_)),(24,.v (.agg #[.int .i64 bK,.slice bP bL.length bQ,.bool bM,.slice bR bN.length bS,.slice bT bO.length bU]))] 5 (qac (qaa (qaa (qac (qaa qag))))) (fun _ h=>h.cells) cd b8 fun eD ce=>?_
  refine qaw (i:=3) kz (qam ce (f:=17) (vs:=[.agg #[.int .i64 bK,.slice bP bL.length bQ,.bool bM,.slice bR bN.length bS,.slice bT bO.length bU]]) (d:=25) kz Tryz.call17 ( hg _ _ _ _ (bD.move ag.step nilM ag.imm) (by have h_:=qhw bC; rw [qgE] at hd; omega)) ?_)
  rintro e_ eE ⟨dG,rfl,cm,aA⟩
  have aB:=cm.move (Step.refl _ Nil) nilM (ag.laid (G:=F) aA)
  obtain ⟨aC,aD,aE,aF,aG,aH,aI,aJ,aK,aL,aM,dH,dI,aN,di,dj,eF,eG⟩:=aB.open_
  rw [aN] at aB
  have dl:=di.small
  have dp:=dj.small
  rw [aN]
  refine ⟨_,rfl,fun eH cq=>?_⟩
  have bh:=ag.next_nil aA
  have ae:=ag.frN aA
  have cr:=TT.ofW ae bh
  refine ⟨fun _=>cr,?_⟩
  refine qaw (i:=4) kz (qbz bh cq (e:=26) (size:=5) (len:=1) (cs:=(z3 aC aH aD.length aI aE aJ aF.length aK aL aG.length aM)) (d:=26) kz kz fun dq eI eJ dJ dK aa au cu=>?_)
  have cw:=TT.ofW (ae.trans aa) au
  refine ⟨fun _=>cw,?_⟩
  refine qaw (i:=5) kz (qaV au cu (k:=0) (d:=27) (t:=23) (e:=26) (size:=5) (bytes:=88) (A:=A_) (As:=(some ⟨dq,0,none⟩)) (m0:=k) (c:=c_) (m:=1) (cs:=1) (xs:=xs) (news:=(z3 aC aH aD.length aI aE aJ aF.length aK aL aG.length aM)) kz kz rfl (qbD (au.own 1 _ rfl) (qbG kz)) (qbO (au.own 1 _ rfl)) (by omega) fun aO aP eK eL af bi cz=>?_)
  have bj:=TT.ofW ((ae.trans aa).trans af) bi
  refine ⟨fun _=>bj,?_⟩
  refine qaJ [6] [(1,.p 0 0),(2,.p 1 0),(3,.p 2 0),(16,.v (.slice A8 l4.length c9)),(17,.v (.int .i64 ((l4.length:Nat):Int))),(18,.v (.int .i64 ((k:Nat):Int))),(27,.v (.slice aO (k + 1) aP)),(28,.p 2 3)] 1 (qac (qaa (qaa (qac (qaa qag))))) (fun _ h=>h.cells) bj cz fun eM cA=>?_
  refine qaw (i:=7) kz (qat bi cA (oi:=2) (cs:=[.int .i64 n1,.slice A6 s2.length c7,.bool b3,.slice aO (k + 1) aP,.slice none 0 0]) kz fun eN ah bk cB=>?_)
  refine ⟨fun h=>absurd rfl h,?_⟩
  refine qaG kz ?_ _
  refine qau (qab (qas [0,1] kz ?_))
  refine qal [0,1] [] [(1,.p 0 0),(2,.p 1 0),(3,.p 2 0),(16,.v (.slice A8 l4.length c9)),(17,.v (.int .i64 ((l4.length:Nat):Int))),(18,.v (.int .i64 (IntKind.i64.wrap (((k:Nat):Int) + 1))))] bk cB fun eO cC=>?_
  refine qaf (qab ?_)
  obtain ⟨bn,cD,ai⟩:=bk.cutB cC 3 [⟨bF,0,(z3 n1 A6 s2.length c7 b3 A8 l4.length c9 ap u5.length ar),true⟩,⟨bG,0,z1,true⟩,⟨bH,0,[.int .i64 n1,.slice A6 s2.length c7,.bool b3,.slice aO (k + 1) aP,.slice none 0 0],true⟩] [(1,.p 0 0),(2,.p 1 0),(3,.p 2 0),(16,.v (.slice A8 l4.length c9)),(17,.v (.int .i64 ((l4.length:Nat):Int))),(18,.v (.int .i64 (IntKind.i64.wrap (((k:Nat):Int) + 1))))]
  obtain ⟨cE,aj⟩:=cD.cutR 1 [⟨aO,aP,26,5,k + 1,xs ++ (z3 aC aH aD.length aI aE aJ aF.length aK aL aG.length aM)⟩]
  have cG:IntKind.i64.wrap (((k:Nat):Int) + 1) = ((k + 1:Nat):Int):=qaT (by omega)
  rw [cG] at bn
  exact ⟨l4.length - (k + 1),by omega,k + 1,aO,aP,xs ++ [Value.int .i64 aC,.slice aH aD.length aI,.bool aE,.slice aJ aF.length aK,.slice aL aG.length aM],(css ++ [[Value.int .i64 aC,.slice aH aD.length aI,.bool aE,.slice aJ aF.length aK,.slice aL aG.length aM]]),rfl,by omega,by rw [qc6 bC]; exact (hT.move ((((((((ax.trans ay).trans az).trans ae).trans aa).trans af).trans ah).trans ai).trans aj).step immM ((((((((ax.trans ay).trans az).trans ae).trans aa).trans af).trans ah).trans ai).trans aj).to').snoc (aB.move ((((aa.trans af).trans ah).trans ai).trans aj).step immM ((((aa.trans af).trans ah).trans ai).trans aj).to'),bn.pk,cE,(((((((((dg.trans ax).trans ay).trans az).trans ae).trans aa).trans af).trans ah).trans ai).trans aj)⟩
 have dL:=of_decide_eq_false bB
 refine wp_exit (qaC (qaC (qaS (qab (wp_seq (qap [(2,.p 1 0),(3,.p 2 0),(31,.v (.slice ap u5.length ar)),(32,.v (.int .i64 ((u5.length:Nat):Int))),(33,.v (.int .i64 0))] aw bA fun eP cH=>?_))))))
 refine wp_block ?_
 have hk0:k = l4.length:=by omega
 have bo:=aw.addNil 65 2
 have bp:=aw.frNil 65 2
 refine wp_loop_ghost (fun n_ a_ w_=>∃ (q:Nat) (A5_:Option Addr) (c5_:Nat) (ys:List Value) (dss:List (List Value)),n_ = u5.length - q ∧ q ≤ u5.length ∧ (Tags w_ (Imm F w w_ [⟨bF,0,[.int .i64 n1,.slice A6 s2.length c7,.bool b3,.slice A8 l4.length c9,.slice ap u5.length ar],true⟩,⟨bG,0,[.int .i64 0,.slice none 0 0,.bool false,.slice none 0 0,.slice none 0 0],true⟩,⟨bH,0,[.int .i64 n1,.slice A6 s2.length c7,.bool b3,.slice A_ k c_,.slice A5_ q c5_],true⟩] [⟨A_,c_,26,5,k,xs⟩,⟨A5_,c5_,65,2,q,ys⟩]) ys (u5.take q) dss) ∧ LInv bo 49 [⟨bF,0,[.int .i64 n1,.slice A6 s2.length c7,.bool b3,.slice A8 l4.length c9,.slice ap u5.length ar],true⟩,⟨bG,0,[.int .i64 0,.slice none 0 0,.bool false,.slice none 0 0,.slice none 0 0],true⟩,⟨bH,0,[.int .i64 n1,.slice A6 s2.length c7,.bool b3,.slice A_ k c_,.slice A5_ q c5_],true⟩] [⟨A_,c_,26,5,k,xs⟩,⟨A5_,c5_,65,2,q,ys⟩] [(2,.p 1 0),(3,.p 2 0),(31,.v (.slice ap u5.length ar)),(32,.v (.int .i64 ((u5.length:Nat):Int))),(33,.v (.int .i64 ((q:Nat):Int)))] a_ w_) (u5.length) ⟨0,none,0,[],[],by omega,by omega,Tags.nil _ _,cH.pk,bo,Fr.refl _ _ _⟩ ?_
 rintro eQ eR eS ⟨q,A5_,c5_,ys,dss,dM,dN,hU,cI,ak,aQ⟩
 refine qap [(2,.p 1 0),(3,.p 2 0),(31,.v (.slice ap u5.length ar)),(32,.v (.int .i64 ((u5.length:Nat):Int))),(33,.v (.int .i64 ((q:Nat):Int))),(34,.v (.bool (decide (((q:Nat):Int) < ((u5.length:Nat):Int)))))] ak cI fun eU aR=>?_
 refine wp_seq (qay aR (b:=decide (((q:Nat):Int) < ((u5.length:Nat):Int))) kz (fun aS=>?_) (fun aS=>?_))
 ·
  have dO:=of_decide_eq_true aS
  refine wp_skip (qab (wp_seq (wp_block (qae [0,1,2,3] kz ?_))))
  obtain ⟨dr,dt,cJ,dP,aT⟩:=Slots.get dA (i:=q) (by omega)
  obtain ⟨⟨ab,ac⟩,bq⟩:∃ x,u5[q]? = some x:=⟨_,List.getElem?_eq_getElem (by omega)⟩
  obtain ⟨⟨al,am,bE,cK⟩,du,dv⟩:=dX q ab ac bq
  rw [bE] at aT
  refine qan (qaD aR (t:=35) (A:=ap) (m:=u5.length) (q:=((q:Nat):Int)) (d:=35) kz (e:=64) (size:=2) (bytes:=32) kz cJ rfl (by omega) fun eV cL=>?_)
  refine qan (qaR cL (t:=64) (b:=dr) (o:=dt + q * 2) (d:=36) kz (cs:=(z50 ab al ac.length am)) (v:=.agg #[.int .u32 ab,.slice al ac.length am]) kz (AtF.move aT ak.step nilM qba).at_ fun eW cM=>?_)
  refine qan (qaP ak cM (d:=7) (cs:=[.int .u32 0,.slice none 0 0]) kz fun eX eY eZ dQ dR aU cN cO=>?_)
  refine qan (qat cN cO (oi:=3) (cs:=(z50 ab al ac.length am)) kz fun e9 aV bt cP=>?_)
  refine qaf (qab ?_)
  refine qas [0,1,2,3,4,5,6,7,8,9,10] kz ?_
  refine qal [0,1,2,3,4,5,6] [7,8,9,10] [(2,.p 1 0),(3,.p 2 0),(31,.v (.slice ap u5.length ar)),(32,.v (.int .i64 ((u5.length:Nat):Int))),(33,.v (.int .i64 ((q:Nat):Int))),(38,.v (.slice A5_ q c5_)),(43,.v (.agg #[.int .u32 ab,.slice al ac.length am]))] bt cP fun fb cQ=>?_
  refine qcv bt cQ (k:=1) (e:=65) (size:=2) (len:=1) (cs:=(z50 ab al ac.length am)) (d1:=44) (d:=45) kz (t:=24) (bytes:=32) kz (fun _=>by kernel_rfl) rfl kz (by omega) fun ba bd fe ff aW bu ⟨_,cR⟩=>?_
  refine qal [9] [10] [(2,.p 1 0),(3,.p 2 0),(31,.v (.slice ap u5.length ar)),(32,.v (.int .i64 ((u5.length:Nat):Int))),(33,.v (.int .i64 ((q:Nat):Int))),(45,.v (.slice ba (q + 1) bd)),(46,.p 2 4)] bu cR fun fg cS=>?_
  refine qan (qat bu cS (oi:=2) (cs:=[.int .i64 n1,.slice A6 s2.length c7,.bool b3,.slice A_ k c_,.slice ba (q + 1) bd]) kz fun fh aX bw cT=>?_)
  refine qaf (qau (qab (qas [0,1] kz ?_)))
  refine qal [0,1] [] [(2,.p 1 0),(3,.p 2 0),(31,.v (.slice ap u5.length ar)),(32,.v (.int .i64 ((u5.length:Nat):Int))),(33,.v (.int .i64 (IntKind.i64.wrap (((q:Nat):Int) + 1))))] bw cT fun fi cU=>?_
  refine qaf (qab ?_)
  obtain ⟨bx,aY,aZ⟩:=bw.cutB cU 3 [⟨bF,0,(z3 n1 A6 s2.length c7 b3 A8 l4.length c9 ap u5.length ar),true⟩,⟨bG,0,z1,true⟩,⟨bH,0,[.int .i64 n1,.slice A6 s2.length c7,.bool b3,.slice A_ k c_,.slice ba (q + 1) bd],true⟩] [(2,.p 1 0),(3,.p 2 0),(31,.v (.slice ap u5.length ar)),(32,.v (.int .i64 ((u5.length:Nat):Int))),(33,.v (.int .i64 (IntKind.i64.wrap (((q:Nat):Int) + 1))))]
  have cV:IntKind.i64.wrap (((q:Nat):Int) + 1) = ((q + 1:Nat):Int):=qaT (by omega)
  rw [cV] at bx
  exact ⟨u5.length - (q + 1),by omega,q + 1,ba,bd,ys ++ [Value.int .u32 ab,.slice al ac.length am],(dss ++ [[Value.int .u32 ab,.slice al ac.length am]]),rfl,by omega,by rw [qc6 bq]; exact (hU.move ((((aU.trans aV).trans aW).trans aX).trans aZ).step immM ((((aU.trans aV).trans aW).trans aX).trans aZ).to').snoc (c:=[.int .u32 ab,.slice al ac.length am]) (x:=(ab,ac)) ⟨⟨_,_,rfl,(cK.move aY.step nilM aY.imm)⟩,du,dv⟩,bx.pk,aY,(((((aQ.trans aU).trans aV).trans aW).trans aX).trans aZ)⟩
 have dS:=of_decide_eq_false aS
 refine wp_exit (qaC (qaC (qaS (qab (qae [0,1] kz ?_)))))
 refine qal [0] [1] [(2,.p 1 0),(48,.v (.agg #[.int .i64 n1,.slice A6 s2.length c7,.bool b3,.slice A_ k c_,.slice A5_ q c5_]))] ak aR fun fj cW=>?_
 refine qan (qat ak cW (oi:=1) (cs:=(z3 n1 A6 s2.length c7 b3 A_ k c_ A5_ q c5_)) kz fun fk av ao cX=>?_)
 refine qaf (qab ?_)
 refine wp_ret (qaL cX ao.cells (v:=.agg #[.int .i64 n1,.slice A6 s2.length c7,.bool b3,.slice A_ k c_,.slice A5_ q c5_]) kz ?_)
 have hq0:q = u5.length:=by omega
 have hT':=(hT.move ((bp.trans aQ).trans av).step immM ((bp.trans aQ).trans av).to')
 have hU':=(hU.move av.step immM av.to')
 rw [show l4.take k = l4 by rw [hk0,List.take_length]] at hT'
 rw [show u5.take q = u5 by rw [hq0,List.take_length]] at hU'
 exact qkh ao rfl (dw.move ao.step nilM qk5) hk0 (qhy ao (k:=0) rfl hT' hk0 (by omega)) hq0 (qk4 ao (k:=1) rfl hU' hq0 (by omega)) rfl
theorem lGot:∀ m,qlV m
 | 0=>fun ct t w F ht hd=>by
  obtain ⟨n,s,b,l,u,A1,c1,A2,c2,A3,c3,xs,rfl,_⟩:=ht.open_
  rw [qgE] at hd; omega
 | m + 1=>qjN (lGot m)
theorem qhn {u:List (Int × Bs)} {A:Option Addr} {c:Nat} {w:World} {F:Nat → Nat → Prop} (hu:TagsR w F A c u) (hsrt:qdj u):Calls Tryz.prog 105 #[.slice A u.length c] w (qch w (.tuple #[])):=by
 obtain ⟨cs1,h2,h3⟩:=hu.ex
 have hsm4:=h2.small
 refine enter (n:=45) Tryz.func105 rfl Tryz.ntmps105 kz fun a hE=>?_
 have hW:=WOk.start w Nil
 refine qap [(0,.v (.slice A u.length c)),(5,.v (.int .i64 ((u.length:Nat):Int))),(6,.v (.int .i64 0))] hW hE fun a5 hE6=>?_
 refine wp_block (wp_loop_ghost (fun n_ a_ w_=>∃ (k:Nat),n_ = u.length - k ∧ k ≤ u.length ∧ LInv hW 45 [] [] [(0,.v (.slice A u.length c)),(5,.v (.int .i64 ((u.length:Nat):Int))),(6,.v (.int .i64 ((k:Nat):Int)))] a_ w_) (u.length) ⟨0,by omega,by omega,hE6.pk,hW,Fr.refl _ _ _⟩ ?_)
 rintro n7 a8 w9 ⟨k,aW,aX,aB,ab,aj⟩
 refine qap [(0,.v (.slice A u.length c)),(5,.v (.int .i64 ((u.length:Nat):Int))),(6,.v (.int .i64 ((k:Nat):Int))),(7,.v (.bool (decide (((k:Nat):Int) < ((u.length:Nat):Int)))))] ab aB fun bn ah=>?_
 refine wp_seq (qay ah (b:=decide (((k:Nat):Int) < ((u.length:Nat):Int))) kz (fun ai=>?_) (fun ai=>?_))
 ·
  have aY:=of_decide_eq_true ai
  refine wp_skip (qab (wp_seq (wp_block (qap [(0,.v (.slice A u.length c)),(2,.v (.int .i64 ((k:Nat):Int))),(5,.v (.int .i64 ((u.length:Nat):Int))),(6,.v (.int .i64 ((k:Nat):Int)))] ab ah fun bo aC=>?_))))
  refine qap [(0,.v (.slice A u.length c)),(3,.v (.int .i64 ((k:Nat):Int))),(5,.v (.int .i64 ((u.length:Nat):Int))),(6,.v (.int .i64 ((k:Nat):Int)))] ab aC fun bp aD=>?_
  refine wp_block (qgd (wp_seq (qb5 kz ab fun bq ak aa=>?_)))
  refine qaJ [0,1,2] [(0,.v (.slice A u.length c)),(3,.v (.int .i64 ((k:Nat):Int))),(5,.v (.int .i64 ((u.length:Nat):Int))),(6,.v (.int .i64 ((k:Nat):Int))),(12,.v (.bool (decide (((k:Nat):Int) > 0))))] 13 (qaa (qaa (qaa (qac (qac (qaa (qaa (qac qag)))))))) (fun _ h=>h ▸ aa.cells) rfl aD fun bt al=>?_
  refine (Bool.eq_false_or_eq_true (decide (((k:Nat):Int) > 0))).elim (fun ac=>?_) (fun ac=>?_)
  ·
   have aZ:=of_decide_eq_true ac
   have aE:=al
   rw [ac] at aE
   refine qaJ [3,4,8,9,10] [(0,.v (.slice A u.length c)),(3,.v (.int .i64 ((k:Nat):Int))),(5,.v (.int .i64 ((u.length:Nat):Int))),(6,.v (.int .i64 ((k:Nat):Int))),(12,.v (.bool true)),(13,.v (.slice A u.length c)),(14,.v (.int .i64 ((k:Nat):Int))),(18,.v (.slice A u.length c)),(20,.v (.int .i64 (IntKind.i64.wrap (((k:Nat):Int) - 1))))] 8 (qaa (qaa (qaa (qac (qac (qaa (qaa (qac qag)))))))) (fun _ h=>h ▸ aa.cells) rfl aE fun bu aF=>?_
   obtain ⟨az,aA,aG,ba,ae⟩:=Slots.get h2 (i:=k) (by omega)
   obtain ⟨⟨af,bd⟩,am⟩:∃ x,u[k]? = some x:=⟨_,List.getElem?_eq_getElem (by omega)⟩
   obtain ⟨⟨bw,bx,ao,bf⟩,bz,bA⟩:=h3 k af bd am
   rw [ao] at ae
   refine qaQ aF (i:=5) (t:=35) (A:=A) (m:=u.length) (q:=((k:Nat):Int)) (d:=15) kz (e:=64) (size:=2) (bytes:=32) kz aG rfl (by omega) kz kz (qaa (qaa (qaa (qac (qac (qaa (qaa (qac qag)))))))) rfl fun bB aH=>?_
   refine qaJ [6] [(0,.v (.slice A u.length c)),(3,.v (.int .i64 ((k:Nat):Int))),(5,.v (.int .i64 ((u.length:Nat):Int))),(6,.v (.int .i64 ((k:Nat):Int))),(12,.v (.bool true)),(16,.v (.pointer (some ⟨az,aA + k * 2,none⟩))),(18,.v (.slice A u.length c)),(20,.v (.int .i64 (IntKind.i64.wrap (((k:Nat):Int) - 1))))] 6 (qaa (qaa (qaa (qac (qac (qaa (qaa (qac qag)))))))) (fun _ h=>h ▸ aa.cells) rfl aH fun bC aI=>?_
   refine qa9 aI (i:=7) (t:=62) (b:=az) (o:=aA + k * 2) (d:=17) kz (cs:=[.int .u32 af]) (v:=.int .u32 af) kz (fun w' h'=>h' ▸ (At.drop (AtF.move ae aa.step nilM qba).at_ 0 1)) kz kz (qaa (qaa (qaa (qac (qac (qaa (qaa (qac qag)))))))) rfl fun bD aJ=>?_
   have aK:IntKind.i64.wrap (((k:Nat):Int) - 1) = (((k - 1):Nat):Int):=by simp only [qcR,qaA,qbA,IntKind.wrap_i64,IntKind.wrap_i32]; omega
   have aL:=EnvOk.pick aJ (ks:=[0,3,5,6,12,16,18,20,17]) (env':=[(0,.v (.slice A u.length c)),(3,.v (.int .i64 ((k:Nat):Int))),(5,.v (.int .i64 ((u.length:Nat):Int))),(6,.v (.int .i64 ((k:Nat):Int))),(12,.v (.bool true)),(16,.v (.pointer (some ⟨az,aA + k * 2,none⟩))),(18,.v (.slice A u.length c)),(20,.v (.int .i64 (IntKind.i64.wrap (((k:Nat):Int) - 1)))),(17,.v (.int .u32 af))]) kz
   have aM:=aL
   rw [aK] at aM
   obtain ⟨aU,aV,aN,bg,ag⟩:=Slots.get h2 (i:=(k - 1)) (by omega)
   obtain ⟨⟨ap,bh⟩,ar⟩:∃ x,u[(k - 1)]? = some x:=⟨_,List.getElem?_eq_getElem (by omega)⟩
   obtain ⟨⟨bE,bF,au,bi⟩,bG,bH⟩:=h3 (k - 1) ap bh ar
   rw [au] at ag
   refine qaQ aM (i:=11) (t:=35) (A:=A) (m:=u.length) (q:=(((k - 1):Nat):Int)) (d:=21) kz (e:=64) (size:=2) (bytes:=32) kz aN rfl (by omega) kz kz (qaa (qaa (qaa (qac (qac (qaa (qaa (qac qag)))))))) rfl fun bI aO=>?_
   refine qaJ [12] [(0,.v (.slice A u.length c)),(3,.v (.int .i64 ((k:Nat):Int))),(5,.v (.int .i64 ((u.length:Nat):Int))),(6,.v (.int .i64 ((k:Nat):Int))),(12,.v (.bool true)),(17,.v (.int .u32 af)),(22,.v (.pointer (some ⟨aU,aV + (k - 1) * 2,none⟩)))] 3 (qaa (qaa (qaa (qac (qac (qaa (qaa (qac qag)))))))) (fun _ h=>h ▸ aa.cells) rfl aO fun bJ aP=>?_
   refine qa9 aP (i:=13) (t:=62) (b:=aU) (o:=aV + (k - 1) * 2) (d:=23) kz (cs:=[.int .u32 ap]) (v:=.int .u32 ap) kz (fun w' h'=>h' ▸ (At.drop (AtF.move ag aa.step nilM qba).at_ 0 1)) kz kz (qaa (qaa (qaa (qac (qac (qaa (qaa (qac qag)))))))) rfl fun bK aQ=>?_
   refine qaJ [14,15] [(0,.v (.slice A u.length c)),(3,.v (.int .i64 ((k:Nat):Int))),(5,.v (.int .i64 ((u.length:Nat):Int))),(6,.v (.int .i64 ((k:Nat):Int))),(25,.v (.bool (decide (af < ap))))] 0 (qaa (qaa (qaa (qac (qac (qaa (qaa (qac qag)))))))) (fun _ h=>h ▸ aa.cells) rfl aQ fun bL av=>?_
   refine qaG kz ?_ _
   refine qab (qar av (b:=decide (af < ap)) kz (decide_eq_false (qiv hsrt am ar (by omega))) ?_)
   refine wp_exit (qaC (qaC (qaS (qau (qab (qas [0,1] kz ?_))))))
   refine qal [0,1] [] [(0,.v (.slice A u.length c)),(5,.v (.int .i64 ((u.length:Nat):Int))),(6,.v (.int .i64 (IntKind.i64.wrap (((k:Nat):Int) + 1))))] aa av fun bM aw=>?_
   refine qaf (qab ?_)
   have aR:IntKind.i64.wrap (((k:Nat):Int) + 1) = ((k + 1:Nat):Int):=qaT (by omega)
   rw [aR] at aw
   exact ⟨u.length - (k + 1),by omega,k + 1,rfl,by omega,aw.pk,aa,(aj.trans ak)⟩
  have bj:=of_decide_eq_false ac
  have aS:=al
  rw [ac] at aS
  refine qaJ [3,4,5,6,7,8,9,10,11,12,13,14,15] [(0,.v (.slice A u.length c)),(3,.v (.int .i64 ((k:Nat):Int))),(5,.v (.int .i64 ((u.length:Nat):Int))),(6,.v (.int .i64 ((k:Nat):Int))),(25,.v (.bool false))] 0 (qaa (qaa (qaa (qac (qac (qaa (qaa (qac qag)))))))) (fun _ h=>h ▸ aa.cells) rfl aS fun bN ax=>?_
  refine qaG kz ?_ _
  refine qab (qar ax (b:=false) kz rfl ?_)
  refine wp_exit (qaC (qaC (qaS (qau (qab (qas [0,1] kz ?_))))))
  refine qal [0,1] [] [(0,.v (.slice A u.length c)),(5,.v (.int .i64 ((u.length:Nat):Int))),(6,.v (.int .i64 (IntKind.i64.wrap (((k:Nat):Int) + 1))))] aa ax fun bO ay=>?_
  refine qaf (qab ?_)
  have aT:IntKind.i64.wrap (((k:Nat):Int) + 1) = ((k + 1:Nat):Int):=qaT (by omega)
  rw [aT] at ay
  exact ⟨u.length - (k + 1),by omega,k + 1,rfl,by omega,ay.pk,aa,(aj.trans ak)⟩
 have bk:=of_decide_eq_false ai
 refine wp_exit (qaC (qaC (qaS (qbM ah ab.cells (v:=.tuple #[]) kz ?_))))
 exact ⟨rfl,ab.step⟩
theorem qlW (s:ByteArray) (w:World) (F:Nat → Nat → Prop):Calls Tryz.prog 101 #[.pointer none] w (qdg w F (.mk 0 [] true [] [])):=by
 refine enter (n:=11) Tryz.func101 rfl Tryz.ntmps101 kz fun a hE=>?_
 have hW:=WOk.start w Nil
 refine qae [0] kz ?_
 refine qan (qaP hW hE (d:=2) (cs:=z1) kz fun b1 a2 w3 hb4 hz5 hF6 hW7 hE8=>?_)
 refine qaf (qab ?_)
 refine wp_seq (qap [(0,.v (.pointer none)),(2,.p 0 0),(4,.v (.bool true))] hW7 hE8 fun a9 aa=>?_)
 refine qa2 aa (b:=true) kz rfl ?_
 refine qae [0,1] kz ?_
 refine qal [0] [1] [(2,.p 0 0),(5,.v (.agg #[.int .i64 0,.slice none 0 0,.bool true,.slice none 0 0,.slice none 0 0]))] hW7 aa fun ah ac=>?_
 refine qan (qat hW7 ac (oi:=0) (cs:=[.int .i64 0,.slice none 0 0,.bool true,.slice none 0 0,.slice none 0 0]) kz fun af ag ab ae=>?_)
 refine qaf (qab ?_)
 refine wp_ret (qaq (qaL ae ab.cells (v:=.agg #[.int .i64 0,.slice none 0 0,.bool true,.slice none 0 0,.slice none 0 0]) kz ?_))
 exact ⟨_,rfl,(show TreeR _ (Imm F w af [⟨b1,0,[.int .i64 0,.slice none 0 0,.bool true,.slice none 0 0,.slice none 0 0],true⟩] []) _ (Tree.mk 0 [] true [] []) from (TreeR.mk (n:=0) (b:=true) (s:=[]) (l:=[]) (u:=[]) (fun _=>[]) (Octs.nil _ _) (Slots.nil _ _ _ _) (fun i_ x_ h_=>by simp at h_) (TagsR.nil _ _))).move (Step.refl _ Nil) nilM qbL,ab.step⟩
theorem qlX (b o:Nat) (s:ByteArray) (w:World) (F:Nat → Nat → Prop) (hat:AtF w F b o [.string s]) (hs:s.size ≤ 1000000):Calls Tryz.prog 101 #[.pointer (some ⟨b,o,none⟩)] w (qdg w F (.mk 0 (sb s) false [] [])):=by
 refine enter (n:=11) Tryz.func101 rfl Tryz.ntmps101 kz fun a hE=>?_
 have hW:=WOk.start w Nil
 refine qae [0] kz ?_
 refine qan (qaP hW hE (d:=2) (cs:=z1) kz fun b1 a2 w3 hb4 hz5 hF6 hW7 hE8=>?_)
 refine qaf (qab ?_)
 refine wp_seq (qap [(0,.v (.pointer (some ⟨b,o,none⟩))),(2,.p 0 0),(4,.v (.bool false))] hW7 hE8 fun a9 aa=>?_)
 refine qar aa (b:=false) kz rfl ?_
 refine wp_skip (qab (qae [0,1,2,3,4,5] kz ?_))
 refine qal [0,1] [2,3,4,5] [(2,.p 0 0),(7,.v (.pointer (some ⟨b,o,none⟩)))] hW7 aa fun au ah=>?_
 refine qan (qaR ah (t:=9) (b:=b) (o:=o) (d:=8) kz (cs:=[.string s]) (v:=.string s) kz (AtF.move hat hW7.step nilM qba).at_ fun av ai=>?_)
 refine qan (qiu (d:=9) (src:=9) (dst:=22) (e:=5) (s:=s) hW7 ai (by omega) fun af ag aw ax ap ab aj ak=>?_)
 have al:=aj F
 refine qal [4] [5] [(2,.p 0 0),(10,.v (.agg #[.int .i64 0,.slice (some ⟨af,0,none⟩) ((sb s).length) ag,.bool false,.slice none 0 0,.slice none 0 0]))] ab ak fun ay am=>?_
 refine qan (qat ab am (oi:=0) (cs:=[.int .i64 0,.slice (some ⟨af,0,none⟩) ((sb s).length) ag,.bool false,.slice none 0 0,.slice none 0 0]) kz fun ar ac ae ao=>?_)
 refine qaf (qab ?_)
 refine wp_ret (qaL ao ae.cells (v:=.agg #[.int .i64 0,.slice (some ⟨af,0,none⟩) ((sb s).length) ag,.bool false,.slice none 0 0,.slice none 0 0]) kz ?_)
 exact ⟨_,rfl,(show TreeR _ (Imm F w ar [⟨b1,0,[.int .i64 0,.slice (some ⟨af,0,none⟩) ((sb s).length) ag,.bool false,.slice none 0 0,.slice none 0 0],true⟩] []) _ (Tree.mk 0 (sb s) false [] []) from (TreeR.mk (n:=0) (b:=false) (s:=(sb s)) (l:=[]) (u:=[]) (fun _=>[]) (al.move ac.step immM ac.to') (Slots.nil _ _ _ _) (fun i_ x_ h_=>by simp at h_) (TagsR.nil _ _))).move (Step.refl _ Nil) nilM qbL,ae.step⟩
theorem qlY (A:Option Addr) (s:ByteArray) (w:World) (F:Nat → Nat → Prop) (hO:∀ ad,A = some ad → ∃ b o,ad = ⟨b,o,none⟩ ∧ AtF w F b o [.string s]) (hs:s.size ≤ 1000000):Calls Tryz.prog 101 #[.pointer A] w (qdg w F (qgW A s)):=by
 cases A with
 | none=>exact qlW s w F
 | some ad =>
  obtain ⟨b,o,rfl,h⟩:=hO ad rfl
  exact qlX b o s w F h hs
theorem qe6:qfu Tryz.prog 133 64:=by
 intro w B cp c n k A Av x x0 x1 x2 x3 xs G hbx ho hG hn
 refine enter (n:=14) Tryz.func133 rfl Tryz.ntmps133 kz fun a hE=>?_
 have hW:=hbx.wok
 have hE0:=(hE.grow ⟨B,0,[x0,x1,x2,x3,.slice A n cp],true⟩).recast 2 (.v (.pointer (some ⟨B,0,none⟩))) (.p 0 0) rfl rfl (by simp [SV.ok])
 have hsm:=Slots.small ho
 have ap:=hE0.pk (env':=[(0,.v (.int .u32 k)),(1,.v (.slice Av x.length c)),(2,.p 0 0)])
 refine qcQ 9 kz hW fun w1 hF2 hW3 hT4=>?_
 refine qaJ [0,1,2,3] [(2,.p 0 0),(6,.v (.slice A n cp)),(7,.v (.int .u32 k)),(8,.v (.slice Av x.length c))] 6 qag (fun _ h=>h.cells) hT4 ap fun a5 hE6=>?_
 have hW7:=hW3.addNil 5 1
 have hF8:=hW3.frNil 5 1
 refine qaw (i:=4) kz (qaV hW7 hE6 (k:=1) (d:=9) (t:=22) (e:=5) (size:=1) (bytes:=1) (A:=none) (As:=Av) (m0:=0) (c:=0) (m:=x.length) (cs:=c) (xs:=[]) (news:=bc x) kz kz rfl (ho.move hW7.step (fun b o h _=>hG b o h) qba).src (ho.move hW7.step (fun b o h _=>hG b o h) qba).cap (by first | omega | (simp only [List.length_nil]; omega) | (simp; omega)) fun A9 aa aK aL ac ar au=>?_)
 have av:(⟨A9,aa,5,1,0 + x.length,[] ++ bc x⟩:Rw) = brow A9 aa 5 x:=by rw [List.nil_append,Nat.zero_add]
 obtain ⟨af,ae⟩:=ar.rowEq 1 [⟨A,cp,64,2,n,xs⟩,brow A9 aa 5 x] av
 have aw:=EnvOk.pick au (ks:=[2,6,7,8,9]) (env':=[(2,.p 0 0),(6,.v (.slice A n cp)),(7,.v (.int .u32 k)),(8,.v (.slice Av x.length c)),(9,.v (.slice A9 (0 + x.length) aa))]) kz
 have ax:=aw.cast (env':=[(2,.p 0 0),(6,.v (.slice A n cp)),(7,.v (.int .u32 k)),(8,.v (.slice Av x.length c)),(9,.v (.slice A9 x.length aa))]) (by simp only [List.length_append,List.length_cons,List.length_nil,Nat.zero_add])
 have ag:=TT.ofW ((hF8.trans ac).trans ae) af
 refine ⟨fun _=>ag,?_⟩
 refine qaJ [5] [(2,.p 0 0),(6,.v (.slice A n cp)),(10,.v (.agg #[.int .u32 k,.slice A9 x.length aa]))] 4 qag (fun _ h=>h.cells) ag ax fun aM ay=>?_
 refine qaw (i:=6) kz (qbz af ay (e:=64) (size:=2) (len:=1) (cs:=[.int .u32 k,.slice A9 x.length aa]) (d:=11) kz kz fun aF aN aO aG aH ah ab az=>?_)
 have aA:=TT.ofW (((hF8.trans ac).trans ae).trans ah) ab
 refine ⟨fun _=>aA,?_⟩
 refine qaw (i:=7) kz (qaV ab az (k:=0) (d:=12) (t:=35) (e:=64) (size:=2) (bytes:=32) (A:=A) (As:=(some ⟨aF,0,none⟩)) (m0:=n) (c:=cp) (m:=1) (cs:=1) (xs:=xs) (news:=[.int .u32 k,.slice A9 x.length aa]) kz kz rfl (qbD (ab.own 2 _ rfl) (qbG kz)) (qbO (ab.own 2 _ rfl)) (by first | omega | (simp only [List.length_nil]; omega) | (simp; omega)) fun am ao aP aQ aB ai aC=>?_)
 have aj:=TT.ofW ((((hF8.trans ac).trans ae).trans ah).trans aB) ai
 refine ⟨fun _=>aj,?_⟩
 refine qaJ [8] [(12,.v (.slice am (n + 1) ao)),(13,.p 0 4)] 1 qag (fun _ h=>h.cells) aj aC fun aR aD=>?_
 refine qaw (i:=9) kz (qat ai aD (oi:=0) (cs:=[x0,x1,x2,x3,.slice am (n + 1) ao]) kz fun aS aI ak aE=>?_)
 refine ⟨fun h=>absurd rfl h,?_⟩
 refine qaG kz ?_ _
 refine qbM aE ak.cells (v:=.tuple #[]) kz ?_
 obtain ⟨al,aJ⟩:=ak.cutR 2 [⟨am,ao,64,2,n + 1,xs ++ [.int .u32 k,.slice A9 x.length aa]⟩,brow A9 aa 5 x]
 have hoo:=qeA (s:=x) (Av:=A9) (c:=aa) (e8:=5) rfl al (by omega)
 obtain ⟨hb1,hb2,hb3⟩:=qge al (World.lt_of_cell (hbx.str.at_ 0 _ rfl))
 exact ⟨rfl,am,ao,A9,aa,hb1,hoo,hb2,hb3⟩
theorem qcC:qfu Tryz.prog 138 64:=by
 intro w B cp c n k A Av x x0 x1 x2 x3 xs G hbx ho hG hn
 refine enter (n:=14) Tryz.func138 rfl Tryz.ntmps138 kz fun a hE=>?_
 have hW:=hbx.wok
 have hE0:=(hE.grow ⟨B,0,[x0,x1,x2,x3,.slice A n cp],true⟩).recast 2 (.v (.pointer (some ⟨B,0,none⟩))) (.p 0 0) rfl rfl (by simp [SV.ok])
 have hsm:=Slots.small ho
 have ap:=hE0.pk (env':=[(0,.v (.int .u32 k)),(1,.v (.slice Av x.length c)),(2,.p 0 0)])
 refine qcQ 9 kz hW fun w1 hF2 hW3 hT4=>?_
 refine qaJ [0,1,2,3] [(2,.p 0 0),(6,.v (.slice A n cp)),(7,.v (.int .u32 k)),(8,.v (.slice Av x.length c))] 6 qag (fun _ h=>h.cells) hT4 ap fun a5 hE6=>?_
 have hW7:=hW3.addNil 5 1
 have hF8:=hW3.frNil 5 1
 refine qaw (i:=4) kz (qaV hW7 hE6 (k:=1) (d:=9) (t:=22) (e:=5) (size:=1) (bytes:=1) (A:=none) (As:=Av) (m0:=0) (c:=0) (m:=x.length) (cs:=c) (xs:=[]) (news:=bc x) kz kz rfl (ho.move hW7.step (fun b o h _=>hG b o h) qba).src (ho.move hW7.step (fun b o h _=>hG b o h) qba).cap (by first | omega | (simp only [List.length_nil]; omega) | (simp; omega)) fun A9 aa aK aL ac ar au=>?_)
 have av:(⟨A9,aa,5,1,0 + x.length,[] ++ bc x⟩:Rw) = brow A9 aa 5 x:=by rw [List.nil_append,Nat.zero_add]
 obtain ⟨af,ae⟩:=ar.rowEq 1 [⟨A,cp,64,2,n,xs⟩,brow A9 aa 5 x] av
 have aw:=EnvOk.pick au (ks:=[2,6,7,8,9]) (env':=[(2,.p 0 0),(6,.v (.slice A n cp)),(7,.v (.int .u32 k)),(8,.v (.slice Av x.length c)),(9,.v (.slice A9 (0 + x.length) aa))]) kz
 have ax:=aw.cast (env':=[(2,.p 0 0),(6,.v (.slice A n cp)),(7,.v (.int .u32 k)),(8,.v (.slice Av x.length c)),(9,.v (.slice A9 x.length aa))]) (by simp only [List.length_append,List.length_cons,List.length_nil,Nat.zero_add])
 have ag:=TT.ofW ((hF8.trans ac).trans ae) af
 refine ⟨fun _=>ag,?_⟩
 refine qaJ [5] [(2,.p 0 0),(6,.v (.slice A n cp)),(10,.v (.agg #[.int .u32 k,.slice A9 x.length aa]))] 4 qag (fun _ h=>h.cells) ag ax fun aM ay=>?_
 refine qaw (i:=6) kz (qbz af ay (e:=64) (size:=2) (len:=1) (cs:=[.int .u32 k,.slice A9 x.length aa]) (d:=11) kz kz fun aF aN aO aG aH ah ab az=>?_)
 have aA:=TT.ofW (((hF8.trans ac).trans ae).trans ah) ab
 refine ⟨fun _=>aA,?_⟩
 refine qaw (i:=7) kz (qaV ab az (k:=0) (d:=12) (t:=35) (e:=64) (size:=2) (bytes:=32) (A:=A) (As:=(some ⟨aF,0,none⟩)) (m0:=n) (c:=cp) (m:=1) (cs:=1) (xs:=xs) (news:=[.int .u32 k,.slice A9 x.length aa]) kz kz rfl (qbD (ab.own 2 _ rfl) (qbG kz)) (qbO (ab.own 2 _ rfl)) (by first | omega | (simp only [List.length_nil]; omega) | (simp; omega)) fun am ao aP aQ aB ai aC=>?_)
 have aj:=TT.ofW ((((hF8.trans ac).trans ae).trans ah).trans aB) ai
 refine ⟨fun _=>aj,?_⟩
 refine qaJ [8] [(12,.v (.slice am (n + 1) ao)),(13,.p 0 4)] 1 qag (fun _ h=>h.cells) aj aC fun aR aD=>?_
 refine qaw (i:=9) kz (qat ai aD (oi:=0) (cs:=[x0,x1,x2,x3,.slice am (n + 1) ao]) kz fun aS aI ak aE=>?_)
 refine ⟨fun h=>absurd rfl h,?_⟩
 refine qaG kz ?_ _
 refine qbM aE ak.cells (v:=.tuple #[]) kz ?_
 obtain ⟨al,aJ⟩:=ak.cutR 2 [⟨am,ao,64,2,n + 1,xs ++ [.int .u32 k,.slice A9 x.length aa]⟩,brow A9 aa 5 x]
 have hoo:=qeA (s:=x) (Av:=A9) (c:=aa) (e8:=5) rfl al (by omega)
 obtain ⟨hb1,hb2,hb3⟩:=qge al (World.lt_of_cell (hbx.str.at_ 0 _ rfl))
 exact ⟨rfl,am,ao,A9,aa,hb1,hoo,hb2,hb3⟩
theorem qb3:qfu Tryz.prog 204 64:=by
 intro w B cp c n k A Av x x0 x1 x2 x3 xs G hbx ho hG hn
 refine enter (n:=14) Tryz.func204 rfl Tryz.ntmps204 kz fun a hE=>?_
 have hW:=hbx.wok
 have hE0:=(hE.grow ⟨B,0,[x0,x1,x2,x3,.slice A n cp],true⟩).recast 2 (.v (.pointer (some ⟨B,0,none⟩))) (.p 0 0) rfl rfl (by simp [SV.ok])
 have hsm:=Slots.small ho
 have ap:=hE0.pk (env':=[(0,.v (.int .u32 k)),(1,.v (.slice Av x.length c)),(2,.p 0 0)])
 refine qcQ 9 kz hW fun w1 hF2 hW3 hT4=>?_
 refine qaJ [0,1,2,3] [(2,.p 0 0),(6,.v (.slice A n cp)),(7,.v (.int .u32 k)),(8,.v (.slice Av x.length c))] 6 qag (fun _ h=>h.cells) hT4 ap fun a5 hE6=>?_
 have hW7:=hW3.addNil 5 1
 have hF8:=hW3.frNil 5 1
 refine qaw (i:=4) kz (qaV hW7 hE6 (k:=1) (d:=9) (t:=22) (e:=5) (size:=1) (bytes:=1) (A:=none) (As:=Av) (m0:=0) (c:=0) (m:=x.length) (cs:=c) (xs:=[]) (news:=bc x) kz kz rfl (ho.move hW7.step (fun b o h _=>hG b o h) qba).src (ho.move hW7.step (fun b o h _=>hG b o h) qba).cap (by first | omega | (simp only [List.length_nil]; omega) | (simp; omega)) fun A9 aa aK aL ac ar au=>?_)
 have av:(⟨A9,aa,5,1,0 + x.length,[] ++ bc x⟩:Rw) = brow A9 aa 5 x:=by rw [List.nil_append,Nat.zero_add]
 obtain ⟨af,ae⟩:=ar.rowEq 1 [⟨A,cp,64,2,n,xs⟩,brow A9 aa 5 x] av
 have aw:=EnvOk.pick au (ks:=[2,6,7,8,9]) (env':=[(2,.p 0 0),(6,.v (.slice A n cp)),(7,.v (.int .u32 k)),(8,.v (.slice Av x.length c)),(9,.v (.slice A9 (0 + x.length) aa))]) kz
 have ax:=aw.cast (env':=[(2,.p 0 0),(6,.v (.slice A n cp)),(7,.v (.int .u32 k)),(8,.v (.slice Av x.length c)),(9,.v (.slice A9 x.length aa))]) (by simp only [List.length_append,List.length_cons,List.length_nil,Nat.zero_add])
 have ag:=TT.ofW ((hF8.trans ac).trans ae) af
 refine ⟨fun _=>ag,?_⟩
 refine qaJ [5] [(2,.p 0 0),(6,.v (.slice A n cp)),(10,.v (.agg #[.int .u32 k,.slice A9 x.length aa]))] 4 qag (fun _ h=>h.cells) ag ax fun aM ay=>?_
 refine qaw (i:=6) kz (qbz af ay (e:=64) (size:=2) (len:=1) (cs:=[.int .u32 k,.slice A9 x.length aa]) (d:=11) kz kz fun aF aN aO aG aH ah ab az=>?_)
 have aA:=TT.ofW (((hF8.trans ac).trans ae).trans ah) ab
 refine ⟨fun _=>aA,?_⟩
 refine qaw (i:=7) kz (qaV ab az (k:=0) (d:=12) (t:=35) (e:=64) (size:=2) (bytes:=32) (A:=A) (As:=(some ⟨aF,0,none⟩)) (m0:=n) (c:=cp) (m:=1) (cs:=1) (xs:=xs) (news:=[.int .u32 k,.slice A9 x.length aa]) kz kz rfl (qbD (ab.own 2 _ rfl) (qbG kz)) (qbO (ab.own 2 _ rfl)) (by first | omega | (simp only [List.length_nil]; omega) | (simp; omega)) fun am ao aP aQ aB ai aC=>?_)
 have aj:=TT.ofW ((((hF8.trans ac).trans ae).trans ah).trans aB) ai
 refine ⟨fun _=>aj,?_⟩
 refine qaJ [8] [(12,.v (.slice am (n + 1) ao)),(13,.p 0 4)] 1 qag (fun _ h=>h.cells) aj aC fun aR aD=>?_
 refine qaw (i:=9) kz (qat ai aD (oi:=0) (cs:=[x0,x1,x2,x3,.slice am (n + 1) ao]) kz fun aS aI ak aE=>?_)
 refine ⟨fun h=>absurd rfl h,?_⟩
 refine qaG kz ?_ _
 refine qbM aE ak.cells (v:=.tuple #[]) kz ?_
 obtain ⟨al,aJ⟩:=ak.cutR 2 [⟨am,ao,64,2,n + 1,xs ++ [.int .u32 k,.slice A9 x.length aa]⟩,brow A9 aa 5 x]
 have hoo:=qeA (s:=x) (Av:=A9) (c:=aa) (e8:=5) rfl al (by omega)
 obtain ⟨hb1,hb2,hb3⟩:=qge al (World.lt_of_cell (hbx.str.at_ 0 _ rfl))
 exact ⟨rfl,am,ao,A9,aa,hb1,hoo,hb2,hb3⟩
theorem qbx:qfu Tryz.prog 226 64:=by
 intro w B cp c n k A Av x x0 x1 x2 x3 xs G hbx ho hG hn
 refine enter (n:=14) Tryz.func226 rfl Tryz.ntmps226 kz fun a hE=>?_
 have hW:=hbx.wok
 have hE0:=(hE.grow ⟨B,0,[x0,x1,x2,x3,.slice A n cp],true⟩).recast 2 (.v (.pointer (some ⟨B,0,none⟩))) (.p 0 0) rfl rfl (by simp [SV.ok])
 have hsm:=Slots.small ho
 have ap:=hE0.pk (env':=[(0,.v (.int .u32 k)),(1,.v (.slice Av x.length c)),(2,.p 0 0)])
 refine qcQ 9 kz hW fun w1 hF2 hW3 hT4=>?_
 refine qaJ [0,1,2,3] [(2,.p 0 0),(6,.v (.slice A n cp)),(7,.v (.int .u32 k)),(8,.v (.slice Av x.length c))] 6 qag (fun _ h=>h.cells) hT4 ap fun a5 hE6=>?_
 have hW7:=hW3.addNil 5 1
 have hF8:=hW3.frNil 5 1
 refine qaw (i:=4) kz (qaV hW7 hE6 (k:=1) (d:=9) (t:=22) (e:=5) (size:=1) (bytes:=1) (A:=none) (As:=Av) (m0:=0) (c:=0) (m:=x.length) (cs:=c) (xs:=[]) (news:=bc x) kz kz rfl (ho.move hW7.step (fun b o h _=>hG b o h) qba).src (ho.move hW7.step (fun b o h _=>hG b o h) qba).cap (by first | omega | (simp only [List.length_nil]; omega) | (simp; omega)) fun A9 aa aK aL ac ar au=>?_)
 have av:(⟨A9,aa,5,1,0 + x.length,[] ++ bc x⟩:Rw) = brow A9 aa 5 x:=by rw [List.nil_append,Nat.zero_add]
 obtain ⟨af,ae⟩:=ar.rowEq 1 [⟨A,cp,64,2,n,xs⟩,brow A9 aa 5 x] av
 have aw:=EnvOk.pick au (ks:=[2,6,7,8,9]) (env':=[(2,.p 0 0),(6,.v (.slice A n cp)),(7,.v (.int .u32 k)),(8,.v (.slice Av x.length c)),(9,.v (.slice A9 (0 + x.length) aa))]) kz
 have ax:=aw.cast (env':=[(2,.p 0 0),(6,.v (.slice A n cp)),(7,.v (.int .u32 k)),(8,.v (.slice Av x.length c)),(9,.v (.slice A9 x.length aa))]) (by simp only [List.length_append,List.length_cons,List.length_nil,Nat.zero_add])
 have ag:=TT.ofW ((hF8.trans ac).trans ae) af
 refine ⟨fun _=>ag,?_⟩
 refine qaJ [5] [(2,.p 0 0),(6,.v (.slice A n cp)),(10,.v (.agg #[.int .u32 k,.slice A9 x.length aa]))] 4 qag (fun _ h=>h.cells) ag ax fun aM ay=>?_
 refine qaw (i:=6) kz (qbz af ay (e:=64) (size:=2) (len:=1) (cs:=[.int .u32 k,.slice A9 x.length aa]) (d:=11) kz kz fun aF aN aO aG aH ah ab az=>?_)
 have aA:=TT.ofW (((hF8.trans ac).trans ae).trans ah) ab
 refine ⟨fun _=>aA,?_⟩
 refine qaw (i:=7) kz (qaV ab az (k:=0) (d:=12) (t:=35) (e:=64) (size:=2) (bytes:=32) (A:=A) (As:=(some ⟨aF,0,none⟩)) (m0:=n) (c:=cp) (m:=1) (cs:=1) (xs:=xs) (news:=[.int .u32 k,.slice A9 x.length aa]) kz kz rfl (qbD (ab.own 2 _ rfl) (qbG kz)) (qbO (ab.own 2 _ rfl)) (by first | omega | (simp only [List.length_nil]; omega) | (simp; omega)) fun am ao aP aQ aB ai aC=>?_)
 have aj:=TT.ofW ((((hF8.trans ac).trans ae).trans ah).trans aB) ai
 refine ⟨fun _=>aj,?_⟩
 refine qaJ [8] [(12,.v (.slice am (n + 1) ao)),(13,.p 0 4)] 1 qag (fun _ h=>h.cells) aj aC fun aR aD=>?_
 refine qaw (i:=9) kz (qat ai aD (oi:=0) (cs:=[x0,x1,x2,x3,.slice am (n + 1) ao]) kz fun aS aI ak aE=>?_)
 refine ⟨fun h=>absurd rfl h,?_⟩
 refine qaG kz ?_ _
 refine qbM aE ak.cells (v:=.tuple #[]) kz ?_
 obtain ⟨al,aJ⟩:=ak.cutR 2 [⟨am,ao,64,2,n + 1,xs ++ [.int .u32 k,.slice A9 x.length aa]⟩,brow A9 aa 5 x]
 have hoo:=qeA (s:=x) (Av:=A9) (c:=aa) (e8:=5) rfl al (by omega)
 obtain ⟨hb1,hb2,hb3⟩:=qge al (World.lt_of_cell (hbx.str.at_ 0 _ rfl))
 exact ⟨rfl,am,ao,A9,aa,hb1,hoo,hb2,hb3⟩
theorem n8w (x:Int):IntKind.i8.wrap x = (x + 128) % 256 - 128:=by simp [IntKind.wrap,IntKind.signed,IntKind.bits]; omega
theorem n16w (x:Int):IntKind.i16.wrap x = (x + 32768) % 65536 - 32768:=by simp [IntKind.wrap,IntKind.signed,IntKind.bits]; omega
theorem n32w (x:Int):IntKind.i32.wrap x = (x + 2147483648) % 4294967296 - 2147483648:=by simp [IntKind.wrap,IntKind.signed,IntKind.bits]; omega
theorem n64w (x:Int):IntKind.i64.wrap x = (x + 9223372036854775808) % 18446744073709551616 - 9223372036854775808:=by simp [IntKind.wrap,IntKind.signed,IntKind.bits]; omega
theorem qix (x:Int):IntKind.i64.wrap (IntKind.i8.wrap x) = IntKind.i8.wrap x:=by rw [n64w,n8w]; omega
theorem qfw (x:Int):IntKind.i64.wrap (IntKind.i16.wrap x) = IntKind.i16.wrap x:=by rw [n64w,n16w]; omega
theorem qd9 (x:Int):IntKind.i64.wrap (IntKind.i32.wrap x) = IntKind.i32.wrap x:=by rw [n64w,n32w]; omega
theorem qeR (x:Int):IntKind.i64.wrap (IntKind.u16.wrap x) = IntKind.u16.wrap x:=by rw [n64w,qbA]; omega
def qbs (k n:Int):Int:=if k = 0 then n % 2 else if k = 1 then IntKind.i8.wrap n else if k = 2 then IntKind.i16.wrap n else if k = 3 then IntKind.i32.wrap n else if k = 5 then IntKind.u16.wrap n else n
structure UsQ (U:List Fld → Tree → Prop) (k x1 x2 x3 x4 x5 x6:Int) (sub:List Fld) (n:Int) (s:Bs) (b:Bool) (l:List Tree) (u:List (Int × Bs)):Prop where
 text:k = 8 → b = decide (x3 ≥ 0) ∧ s = []
 uuid:k = 7 → s = List.replicate 16 0
 octs:k = 9 ∨ k = 11 → s = [] ∧ l = []
 part:k = 10 → (x3 ≥ 0 → b = true) ∧ (x3 < 0 → U sub (.mk n s b l u))
 num:k ≠ 7 → k ≠ 8 → k ≠ 9 → k ≠ 10 → k ≠ 11 → n = qbs k x5
def UsF (U:List Fld → Tree → Prop):Fld → Tree → Prop
 | .mk k x1 x2 x3 x4 x5 x6 sub,.mk n s b l u=>UsQ U k x1 x2 x3 x4 x5 x6 sub n s b l u
def UsP (U:List Fld → Tree → Prop) (l:List Fld) (g:Tree):Prop:=g.U = [] ∧ ∀ (i:Nat) (f:Fld),l[i]? = some f → UsF U f (g.at_ i)
def qjO:Nat → List Fld → Tree → Prop
 | 0=>UsP fun _ _=>False
 | d + 1=>UsP (qjO d)
structure ToQ (T:List Fld → Tree → Tree → Prop) (v:Int) (f:Fld) (k x3:Int) (sub:List Fld) (t:Tree) (tn:Int) (ts:Bs) (n:Int) (s:Bs) (b:Bool) (g:Tree):Prop where
 null:k = 8 ∨ k = 10 ∨ (x3 ≥ 0 ∧ v ≥ x3) → b = f.nul v t
 text:f.nul v t = false → k = 8 ∨ k = 9 → s = qaH ts
 uuid:f.nul v t = false → k = 7 → s = qbp ts
 part:f.nul v t = false → k = 10 → T sub t g
 num:f.nul v t = false → k ≠ 7 → k ≠ 8 → k ≠ 9 → k ≠ 10 → k ≠ 11 → n = qbs k tn
def ToF0 (T:List Fld → Tree → Tree → Prop) (v:Int):Fld → Tree → Tree → Prop
 | .mk k x1 x2 x3 x4 x5 x6 sub,.mk tn ts tb tl tu,.mk n s b l u=>ToQ T v (.mk k x1 x2 x3 x4 x5 x6 sub) k x3 sub (.mk tn ts tb tl tu) tn ts n s b (.mk n s b l u)
def ToF (T:List Fld → Tree → Tree → Prop) (v:Int) (f:Fld) (t g:Tree):Prop :=
 ToF0 T v f t g ∧ (f.kind = 11 → f.nul v t = false → g.L.length = (qao t.L).length ∧ ∀ (i:Nat) (x y:Tree),(qao t.L)[i]? = some x → g.L[i]? = some y → ToF0 T v f.elem x y)
def Fld.pres (f:Fld) (v:Int) (flex:Bool) (x:Tree):Bool:=(decide (f.tag < 0) && f.has v) || (decide (f.tag ≥ 0) && (flex && !f.usual x))
def ToP (T:List Fld → Tree → Tree → Prop) (U:List Fld → Tree → Prop) (l:List Fld) (v:Int) (flex:Bool) (t g:Tree):Prop :=
 g.L.length = l.length ∧ (∀ (i:Nat) (f:Fld) (y:Tree),l[i]? = some f → g.L[i]? = some y → (f.pres v flex (t.at_ i) = true → ToF T v f (t.at_ i) y) ∧ (f.pres v flex (t.at_ i) = false → UsF U f y)) ∧
  g.U = (if flex = true then qco (qai l t.U) else [])
def qiy (v:Int) (flex:Bool):Nat → List Fld → Tree → Tree → Prop
 | 0=>fun l t g=>ToP (fun _ _ _=>False) (fun _ _=>False) l v flex t g
 | d + 1=>fun l t g=>ToP (qiy v flex d) (qjO d) l v flex t g
theorem qkM {U:List Fld → Tree → Prop} {f:Fld} {y:Tree} (h:UsF U f y):UsP U [f] (.mk 0 [] false [y] []):=by
 refine ⟨rfl,fun i g hg=>?_⟩
 cases i with
 | zero =>
  simp only [List.getElem?_cons_zero,Option.some.injEq] at hg
  subst hg
  exact h
 | succ i=>simp at hg
theorem qjP {w:World} {e:Nat} {A:Option Addr} {c:Nat} {F:Nat → Nat → Prop} (h:w.ownsRow 0 e 1 (.slice A 16 c) 16 (List.replicate 16 (.int .u8 0))) (hF:∀ g,A.map (·.block) = some g → ∀ o,F g o):Octs w F A c (List.replicate 16 0) :=
 qcd (s:=List.replicate 16 0) h (by decide) hF
section
variable {U:List Fld → Tree → Prop} {k x1 x2 x3 x4 x5 x6 n:Int} {sub:List Fld} {s:Bs} {b:Bool} {l:List Tree} {u:List (Int × Bs)}
abbrev UsH (U:List Fld → Tree → Prop) (k x1 x2 x3 x4 x5 x6:Int) (sub:List Fld) (n:Int) (s:Bs) (b:Bool) (l:List Tree) (u:List (Int × Bs)):Prop:=UsF U (.mk k x1 x2 x3 x4 x5 x6 sub) (.mk n s b l u)
theorem us_q (h:UsH U k x1 x2 x3 x4 x5 x6 sub n s b l u):UsQ U k x1 x2 x3 x4 x5 x6 sub n s b l u:=h
theorem qgg (h:UsH U k x1 x2 x3 x4 x5 x6 sub n s b l u) (hk:k = 8) (hc:(b != decide (x3 ≥ 0)) = true):False:=by
 have:=((us_q h).text hk).1
 rw [this] at hc; simp at hc
theorem qgh (h:UsH U k x1 x2 x3 x4 x5 x6 sub n s b l u) (hk:k = 8) (hc:((s.length:Nat):Int) > 0):False:=by
 have:=((us_q h).text hk).2
 rw [this] at hc; simp at hc
theorem us_7 (h:UsH U k x1 x2 x3 x4 x5 x6 sub n s b l u) (hk:k = 7) (hc:(!decide (s = (List.replicate 16 0:Bs))) = true):False:=by
 have:=(us_q h).uuid hk
 rw [this] at hc; simp at hc
theorem qgi (h:UsH U k x1 x2 x3 x4 x5 x6 sub n s b l u) (hk:k = 9) (hc:((s.length:Nat):Int) > 0):False:=by
 have:=((us_q h).octs (.inl hk)).1
 rw [this] at hc; simp at hc
theorem qgj (h:UsH U k x1 x2 x3 x4 x5 x6 sub n s b l u) (hk:k = 9) (hc:((l.length:Nat):Int) > 0):False:=by
 have:=((us_q h).octs (.inl hk)).2
 rw [this] at hc; simp at hc
theorem qeB (h:UsH U k x1 x2 x3 x4 x5 x6 sub n s b l u) (hk:k = 11) (hc:((s.length:Nat):Int) > 0):False:=by
 have:=((us_q h).octs (.inr hk)).1
 rw [this] at hc; simp at hc
theorem qeC (h:UsH U k x1 x2 x3 x4 x5 x6 sub n s b l u) (hk:k = 11) (hc:((l.length:Nat):Int) > 0):False:=by
 have:=((us_q h).octs (.inr hk)).2
 rw [this] at hc; simp at hc
theorem qgk (h:UsH U k x1 x2 x3 x4 x5 x6 sub n s b l u) (hk:k = 10) (h3:x3 ≥ 0) (hc:(!b) = true):False:=by
 have:=((us_q h).part hk).1 h3
 rw [this] at hc; simp at hc
theorem qkN (h:UsH U k x1 x2 x3 x4 x5 x6 sub n s b l u) (hk:k = 10) (h3:x3 < 0):U sub (.mk n s b l u):=((us_q h).part hk).2 h3
theorem us_n (h:UsH U k x1 x2 x3 x4 x5 x6 sub n s b l u) (h7:k ≠ 7) (h8:k ≠ 8) (h9:k ≠ 9) (h10:k ≠ 10) (h11:k ≠ 11) (hc:n ≠ qbs k x5):False:=hc ((us_q h).num h7 h8 h9 h10 h11)
theorem us_u {g:Tree} (h:g.U = []) {u:List (Int × Bs)} (e:g.U = u) (hc:((u.length:Nat):Int) > 0):False:=by
 rw [← e,h] at hc; simp at hc
end
section
variable {T:List Fld → Tree → Tree → Prop} {v k x1 x2 x3 x4 x5 x6 tn n:Int} {sub:List Fld} {ts s:Bs} {tb b:Bool} {tl l:List Tree} {tu u:List (Int × Bs)}
abbrev ToH (T:List Fld → Tree → Tree → Prop) (v k x1 x2 x3 x4 x5 x6:Int) (sub:List Fld) (tn:Int) (ts:Bs) (tb:Bool) (tl:List Tree) (tu:List (Int × Bs)) (n:Int) (s:Bs) (b:Bool) (l:List Tree) (u:List (Int × Bs)):Prop:=ToF0 T v (.mk k x1 x2 x3 x4 x5 x6 sub) (.mk tn ts tb tl tu) (.mk n s b l u)
abbrev NulH (v k x1 x2 x3 x4 x5 x6:Int) (sub:List Fld) (tn:Int) (ts:Bs) (tb:Bool) (tl:List Tree) (tu:List (Int × Bs)):Bool:=Fld.nul (.mk k x1 x2 x3 x4 x5 x6 sub) v (.mk tn ts tb tl tu)
theorem to_q (h:ToH T v k x1 x2 x3 x4 x5 x6 sub tn ts tb tl tu n s b l u):ToQ T v (.mk k x1 x2 x3 x4 x5 x6 sub) k x3 sub (.mk tn ts tb tl tu) tn ts n s b (.mk n s b l u):=h
theorem qjQ (h:ToH T v k x1 x2 x3 x4 x5 x6 sub tn ts tb tl tu n s b l u) (hk:k = 8) (hc:(b != NulH v k x1 x2 x3 x4 x5 x6 sub tn ts tb tl tu) = true):False:=by
 rw [(to_q h).null (.inl hk)] at hc; simp at hc
theorem qgY (h:ToH T v k x1 x2 x3 x4 x5 x6 sub tn ts tb tl tu n s b l u) (hk:k = 10) (hc:(b != NulH v k x1 x2 x3 x4 x5 x6 sub tn ts tb tl tu) = true):False:=by
 rw [(to_q h).null (.inr (.inl hk))] at hc; simp at hc
theorem qgl (h:ToH T v k x1 x2 x3 x4 x5 x6 sub tn ts tb tl tu n s b l u) (h1:x3 ≥ 0) (h2:v ≥ x3) (hc:(b != NulH v k x1 x2 x3 x4 x5 x6 sub tn ts tb tl tu) = true):False:=by
 rw [(to_q h).null (.inr (.inr ⟨h1,h2⟩))] at hc; simp at hc
theorem qjR (h:ToH T v k x1 x2 x3 x4 x5 x6 sub tn ts tb tl tu n s b l u) (hn:NulH v k x1 x2 x3 x4 x5 x6 sub tn ts tb tl tu = false) (hk:k = 10):T sub (.mk tn ts tb tl tu) (.mk n s b l u):=(to_q h).part hn hk
theorem qel (h:ToH T v k x1 x2 x3 x4 x5 x6 sub tn ts tb tl tu n s b l u) (hn:NulH v k x1 x2 x3 x4 x5 x6 sub tn ts tb tl tu = false) (hk:k = 8):decide (s = qaH ts) = true:=decide_eq_true ((to_q h).text hn (.inl hk))
theorem qem (h:ToH T v k x1 x2 x3 x4 x5 x6 sub tn ts tb tl tu n s b l u) (hn:NulH v k x1 x2 x3 x4 x5 x6 sub tn ts tb tl tu = false) (hk:k = 9):decide (s = qaH ts) = true:=decide_eq_true ((to_q h).text hn (.inr hk))
theorem to_u (h:ToH T v k x1 x2 x3 x4 x5 x6 sub tn ts tb tl tu n s b l u) (hn:NulH v k x1 x2 x3 x4 x5 x6 sub tn ts tb tl tu = false) (hk:k = 7):decide (s = qbp ts) = true:=decide_eq_true ((to_q h).uuid hn hk)
theorem to_m (h:ToH T v k x1 x2 x3 x4 x5 x6 sub tn ts tb tl tu n s b l u) (hn:NulH v k x1 x2 x3 x4 x5 x6 sub tn ts tb tl tu = false) (h8:k ≠ 8) (h9:k ≠ 9) (h7:k ≠ 7) (h10:k ≠ 10) (h11:k ≠ 11):(n == qbs k tn) = true:=by
 rw [(to_q h).num hn h7 h8 h9 h10 h11]; simp
theorem qhR {a c:Nat} (h:a = c) (hc:((a:Nat):Int) ≠ ((c:Nat):Int)):False:=hc (by rw [h])
end
theorem qe7 {P:Program} {ops:Array Oper} {Q:Exit → Act → World → Prop} {a:Act} {w:World} {T:World → Prop} {c i j fuel:Nat} {listed:Array Bool} (hr:Region.ready .any ops listed = [i,j]) (h:wpOp P ops Q i (fun a' w'=>(i ≠ c → T w') ∧ qbN P ops Q T c fuel (listed.setIfInBounds i true) a' w') a w)
  (h':wpOp P ops Q j (fun a' w'=>(j ≠ c → T w') ∧ qbN P ops Q T c fuel (listed.setIfInBounds j true) a' w') a w):qbN P ops Q T c (fuel + 1) listed a w:=by
 refine ⟨fun h0=>(by rw [hr] at h0; cases h0),fun q hq=>?_⟩
 rw [hr] at hq
 simp only [List.mem_cons,List.not_mem_nil,or_false] at hq
 rcases hq with rfl | rfl
 ·exact h
 exact h'
theorem qlZ {k x1 x2 x3 x4 x5 x6 v:Int} {sub:List Fld} {flex:Bool} {x:Tree} (h:x4 < 0) (h2:Fld.has (.mk k x1 x2 x3 x4 x5 x6 sub) v = true):Fld.pres (.mk k x1 x2 x3 x4 x5 x6 sub) v flex x = true:=by
 simp [Fld.pres,Fld.tag,h,h2]
theorem ql0 {k x1 x2 x3 x4 x5 x6 v:Int} {sub:List Fld} {flex:Bool} {x:Tree} (h:x4 ≥ 0) (h2:flex = true) (h3:(!Fld.usual (.mk k x1 x2 x3 x4 x5 x6 sub) x) = true):Fld.pres (.mk k x1 x2 x3 x4 x5 x6 sub) v flex x = true:=by
 subst h2
 simp only [Bool.not_eq_true'] at h3
 simp [Fld.pres,Fld.tag,h,h3]
theorem qhS {k x1 x2 x3 x4 x5 x6 v:Int} {sub:List Fld} {flex:Bool} {x:Tree} (h:x4 < 0) (h2:Fld.has (.mk k x1 x2 x3 x4 x5 x6 sub) v = false):Fld.pres (.mk k x1 x2 x3 x4 x5 x6 sub) v flex x = false:=by
 have:¬ x4 ≥ 0:=by omega
 simp [Fld.pres,Fld.tag,h2,this]
theorem qhT {k x1 x2 x3 x4 x5 x6 v:Int} {sub:List Fld} {flex:Bool} {x:Tree} (h:¬ x4 < 0) (h2:flex = false):Fld.pres (.mk k x1 x2 x3 x4 x5 x6 sub) v flex x = false:=by
 subst h2
 simp [Fld.pres,Fld.tag,h]
theorem qhU {k x1 x2 x3 x4 x5 x6 v:Int} {sub:List Fld} {flex:Bool} {x:Tree} (h:¬ x4 < 0) (h3:(!Fld.usual (.mk k x1 x2 x3 x4 x5 x6 sub) x) = false):Fld.pres (.mk k x1 x2 x3 x4 x5 x6 sub) v flex x = false:=by
 simp only [Bool.not_eq_false'] at h3
 simp [Fld.pres,Fld.tag,h,h3]
theorem qkO {k x1 x2 x3 x4 x5 x6 v:Int} {sub:List Fld} {flex:Bool} {x:Tree} (h:¬ x4 < 0) (h2:flex = true):Fld.pres (.mk k x1 x2 x3 x4 x5 x6 sub) v flex x = !Fld.usual (.mk k x1 x2 x3 x4 x5 x6 sub) x:=by
 subst h2
 have:x4 ≥ 0:=by omega
 simp [Fld.pres,Fld.tag,h,this]
theorem qkP {k x1 x2 x3 x4 x5 x6 v:Int} {sub:List Fld} {flex:Bool} {x:Tree} (h:x4 < 0):Fld.pres (.mk k x1 x2 x3 x4 x5 x6 sub) v flex x = Fld.has (.mk k x1 x2 x3 x4 x5 x6 sub) v:=by
 have:¬ x4 ≥ 0:=by omega
 simp [Fld.pres,Fld.tag,h,this]
section
variable {w:World} {F:Nat → Nat → Prop}
theorem qkQ {e size b c:Nat} {xs:List Value} {n:Nat} (h:w.ownsRow 0 e size (.slice (some ⟨b,0,none⟩) n c) n xs):AtF w (fun _ _=>True) b 0 xs:=fun j v hj=>⟨trivial,by
 have:=h.cells (g:=b) rfl j v hj
 rw [qbF] at this
 exact this⟩
theorem qhV {e b c:Nat} {cf:List Value} {f:Fld} (h:w.ownsRow 0 e 8 (.slice (some ⟨b,0,none⟩) 1 c) 1 cf) (hf:FldR w F cf f) (hc:1 ≤ c):FldsR w (fun _ _=>True) (some ⟨b,0,none⟩) c [f]:=by
 refine ⟨fun _=>cf,⟨hc,(by show 1 ≤ 1099511627776; decide),fun h=>(by cases h),fun ad hA _=>?_⟩,fun i x hx=>?_⟩
 ·obtain rfl:=Option.some.inj hA
  refine ⟨b,0,rfl,fun i hi=>⟨hf.eight,?_⟩⟩
  have:i = 0:=by simp at hi; omega
  subst this
  simpa using qkQ h
 cases i with
 | zero =>
  simp only [List.getElem?_cons_zero,Option.some.injEq] at hx
  subst hx
  exact hf.move (Step.refl _ Nil) nilM fun _ _ _ _=>trivial
 | succ i=>simp at hx
theorem qhW {e b c:Nat} {cy:List Value} {y:Tree} (h:w.ownsRow 0 e 5 (.slice (some ⟨b,0,none⟩) 1 c) 1 cy) (hy:TreeR w F cy y) (hc:1 ≤ c):TreeR w (fun _ _=>True) [.int .i64 0,.slice none 0 0,.bool false,.slice (some ⟨b,0,none⟩) 1 c,.slice none 0 0] (.mk 0 [] false [y] []):=by
 refine TreeR.mk (l:=[y]) (s:=[]) (u:=[]) (fun _=>cy) (Octs.nil _ _) ⟨hc,(by show 1 ≤ 1099511627776; decide),fun h=>(by cases h),fun ad hA _=>?_⟩ (fun i x hx=>?_) (TagsR.nil _ _)
 ·obtain rfl:=Option.some.inj hA
  refine ⟨b,0,rfl,fun i hi=>⟨hy.five,?_⟩⟩
  have:i = 0:=by simp at hi; omega
  subst this
  simpa using qkQ h
 cases i with
 | zero =>
  simp only [List.getElem?_cons_zero,Option.some.injEq] at hx
  subst hx
  exact hy.move (Step.refl _ Nil) nilM fun _ _ _ _=>trivial
 | succ i=>simp at hx
end
section
variable {gu tu:List (Int × Bs)} {l:List Fld} {flex:Bool} {i:Nat} {k k':Int} {s s':Bs}
theorem qeD (h:gu = if flex = true then qco (qai l tu) else []) (hf:(!flex) = false) (hc:((gu.length:Nat):Int) ≠ (((qai l tu).length:Nat):Int)):False:=by
 cases flex
 ·cases hf
 rw [if_pos rfl] at h
 rw [h,qdk] at hc
 exact hc rfl
theorem qdI (h:gu = if flex = true then qco (qai l tu) else []) (hf:(!flex) = true) (hc:((gu.length:Nat):Int) ≠ 0):False:=by
 cases flex
 ·rw [if_neg (by decide)] at h
  rw [h] at hc
  exact hc rfl
 cases hf
theorem qjS (h:gu = if flex = true then qco (qai l tu) else []) (hf:(!flex) = false) (hu:(qai l tu)[i]? = some (k,s)) (hg:gu[i]? = some (k',s')):k' = k ∧ s' = qaH s:=by
 cases flex
 ·cases hf
 rw [if_pos rfl] at h
 rw [h,qij hu] at hg
 have:=Option.some.inj hg
 exact ⟨(Prod.mk.injEq .. ▸ this).1.symm,(Prod.mk.injEq .. ▸ this).2.symm⟩
theorem qeE (h:gu = if flex = true then qco (qai l tu) else []) (hf:(!flex) = false) (hu:(qai l tu)[i]? = some (k,s)) (hg:gu[i]? = some (k',s')) (hc:k' ≠ k):False:=hc (qjS h hf hu hg).1
theorem qeF (h:gu = if flex = true then qco (qai l tu) else []) (hf:(!flex) = false) (hu:(qai l tu)[i]? = some (k,s)) (hg:gu[i]? = some (k',s')) (hc:(!decide (s' = qaH s)) = true):False:=by
 rw [(qjS h hf hu hg).2] at hc; simp at hc
theorem qcs (h:gu = if flex = true then qco (qai l tu) else []) (hf:(!flex) = false):gu.length = (qai l tu).length:=by
 cases flex
 ·cases hf
 rw [if_pos rfl] at h
 rw [h,qdk]
end
def qaF (D:DV):Tree:=.mk 0 [] false [.mk 0 (D.f 0).o false [] [],.mk 0 [] (D.f 1).A.isNone ((List.range (D.f 1).l).map fun i=>.mk (IntKind.i64.wrap ((D.f 1).f i).n) [] false [] []) []] D.u
def qaU (D:DV):Tree:=.mk 0 [] false [.mk 0 [] (D.f 0).A.isNone ((List.range (D.f 0).l).map fun i=>qaF ((D.f 0).f i)) []] D.u
def qa4 (D:DV):Tree:=.mk 0 [] false [.mk (IntKind.i64.wrap (D.f 0).n) [] false [] [],.mk (IntKind.i64.wrap (D.f 1).n) [] false [] [],qgW (D.f 2).A (D.f 2).s,qgW (D.f 3).A (D.f 3).s,.mk (IntKind.i64.wrap (D.f 4).n) [] false [] [],.mk (IntKind.i64.wrap (D.f 5).n) [] false [] [],(if (D.f 6).A.isNone = true then .mk 0 [] true [] [] else qaU (D.f 6))] D.u
abbrev z15 (x0) (x1) (x2:DV) (x3) (x4) (x5) (x6) (x7) (x8) (x9) (x10):=([⟨x0,x1,[qad ((x2.f 0).o.getD 0 0),qad ((x2.f 0).o.getD 1 0),qad ((x2.f 0).o.getD 2 0),qad ((x2.f 0).o.getD 3 0),qad ((x2.f 0).o.getD 4 0),qad ((x2.f 0).o.getD 5 0),qad ((x2.f 0).o.getD 6 0),qad ((x2.f 0).o.getD 7 0),qad ((x2.f 0).o.getD 8 0),qad ((x2.f 0).o.getD 9 0),qad ((x2.f 0).o.getD 10 0),qad ((x2.f 0).o.getD 11 0),qad ((x2.f 0).o.getD 12 0),qad ((x2.f 0).o.getD 13 0),qad ((x2.f 0).o.getD 14 0),qad ((x2.f 0).o.getD 15 0),.slice ((x2.f 1).A) ((x2.f 1).l) ((x2.f 1).c),.map x2.m],false⟩,⟨x3,0,z1,true⟩,⟨x4,0,[.int .i64 0,.slice x5 (((x2.f 0).o).length) x6,.bool false,.slice none 0 0,.slice none 0 0,.int .i64 0,.slice none 0 0,.bool (((x2.f 1).A).isNone),.slice x7 (x8 + 1) x9,.slice none 0 0],true⟩,⟨x10,0,[.int .i64 0,.slice none 0 0,.bool false,.slice (some ⟨x4,0,none⟩) 2 2,.slice none 0 0],true⟩]:Tb)
abbrev z19 (x0:DV) (x1):=([.int .i64 (IntKind.i64.wrap (((x0.f 1).f x1).n)),.slice none 0 0,.bool false,.slice none 0 0,.slice none 0 0]:List Value)
set_option maxHeartbeats 4000000 in
theorem qa7 (v:Int) (D:DV) (b o:Nat) (w:World) (F:Nat → Nat → Prop) (hat:AtF w F b o [qad ((D.f 0).o.getD 0 0),qad ((D.f 0).o.getD 1 0),qad ((D.f 0).o.getD 2 0),qad ((D.f 0).o.getD 3 0),qad ((D.f 0).o.getD 4 0),qad ((D.f 0).o.getD 5 0),qad ((D.f 0).o.getD 6 0),qad ((D.f 0).o.getD 7 0),qad ((D.f 0).o.getD 8 0),qad ((D.f 0).o.getD 9 0),qad ((D.f 0).o.getD 10 0),qad ((D.f 0).o.getD 11 0),qad ((D.f 0).o.getD 12 0),qad ((D.f 0).o.getD 13 0),qad ((D.f 0).o.getD 14 0),qad ((D.f 0).o.getD 15 0),.slice ((D.f 1).A) ((D.f 1).l) ((D.f 1).c),.map D.m]) (hok:qaE w F D):Calls Tryz.prog 203 #[.pointer (some ⟨b,o,none⟩)] w (qdg w F (qaF D)):=by
 refine enter (n:=85) Tryz.func203 rfl Tryz.ntmps203 kz fun a hE=>?_
 have hW:WOk w Nil w [⟨b,o,[qad ((D.f 0).o.getD 0 0),qad ((D.f 0).o.getD 1 0),qad ((D.f 0).o.getD 2 0),qad ((D.f 0).o.getD 3 0),qad ((D.f 0).o.getD 4 0),qad ((D.f 0).o.getD 5 0),qad ((D.f 0).o.getD 6 0),qad ((D.f 0).o.getD 7 0),qad ((D.f 0).o.getD 8 0),qad ((D.f 0).o.getD 9 0),qad ((D.f 0).o.getD 10 0),qad ((D.f 0).o.getD 11 0),qad ((D.f 0).o.getD 12 0),qad ((D.f 0).o.getD 13 0),qad ((D.f 0).o.getD 14 0),qad ((D.f 0).o.getD 15 0),.slice ((D.f 1).A) ((D.f 1).l) ((D.f 1).c),.map D.m],false⟩] []:=(WOk.start w Nil).start1 hat rfl rfl
 unfold qaE at hok
 obtain ⟨g1,⟨g2,g2l,g2e⟩,g3,g3l,g3x,_⟩:=hok
 have hE0:=(EnvOk.ptr0 (cs:=[qad ((D.f 0).o.getD 0 0),qad ((D.f 0).o.getD 1 0),qad ((D.f 0).o.getD 2 0),qad ((D.f 0).o.getD 3 0),qad ((D.f 0).o.getD 4 0),qad ((D.f 0).o.getD 5 0),qad ((D.f 0).o.getD 6 0),qad ((D.f 0).o.getD 7 0),qad ((D.f 0).o.getD 8 0),qad ((D.f 0).o.getD 9 0),qad ((D.f 0).o.getD 10 0),qad ((D.f 0).o.getD 11 0),qad ((D.f 0).o.getD 12 0),qad ((D.f 0).o.getD 13 0),qad ((D.f 0).o.getD 14 0),qad ((D.f 0).o.getD 15 0),.slice ((D.f 1).A) ((D.f 1).l) ((D.f 1).c),.map D.m]) (r:=false) hE).pk (env':=[(0,.p 0 0)])
 have hu4:=qlU (k:=0) (s:=(D.f 0).o) hat g1 (fun j hj=>by match j,hj with | 0,_=>rfl | 1,_=>rfl | 2,_=>rfl | 3,_=>rfl | 4,_=>rfl | 5,_=>rfl | 6,_=>rfl | 7,_=>rfl | 8,_=>rfl | 9,_=>rfl | 10,_=>rfl | 11,_=>rfl | 12,_=>rfl | 13,_=>rfl | 14,_=>rfl | 15,_=>rfl | n_ + 16,h_=>exact absurd h_ (by omega))
 refine qae [0] kz ?_
 refine qan (qaP hW hE0 (d:=2) (cs:=z1) kz fun b5 a6 w7 hb8 hz9 eJ dI dJ=>?_)
 refine qaf (qab ?_)
 refine qae [0,1,2,3] kz ?_
 refine qan (qeQ (t:=34) (e:=37) (size:=5) (bytes:=88) (d:=5) (j:=2) (.agg #[.int .i64 0,.slice none 0 0,.bool false,.slice none 0 0,.slice none 0 0]) [.int .i64 0,.slice none 0 0,.bool false,.slice none 0 0,.slice none 0 0,.int .i64 0,.slice none 0 0,.bool false,.slice none 0 0,.slice none 0 0] dI dJ fun aa gc gd eK eL eM bK dK=>?_)
 refine qal [1] [2,3] [(0,.p 0 0),(2,.p 1 0),(6,.v (.agg #[.int .i64 0,.slice none 0 0,.bool false,.slice (some ⟨aa,0,none⟩) 2 2,.slice none 0 0]))] bK dK fun ge dL=>?_
 refine qan (qaP bK dL (d:=3) (cs:=z1) kz fun aG gg gh eN eO eP dM dN=>?_)
 refine qan (qat dM dN (oi:=3) (cs:=[.int .i64 0,.slice none 0 0,.bool false,.slice (some ⟨aa,0,none⟩) 2 2,.slice none 0 0]) kz fun gi eQ dO dP=>?_)
 refine qaf (qab ?_)
 refine qaK 9 kz dO fun gj eR bL dQ=>?_
 refine qaJ [0,1,2,3,4,5] [(0,.p 0 0),(2,.p 1 0),(3,.p 3 0),(8,.v (.slice (some ⟨aa,0,none⟩) 2 2)),(12,.v (.slice (some ⟨b,o,none⟩) 16 16))] 4 (qaa qag) (fun _ h=>h.cells) dQ dP fun gk dR=>?_
 have aJ:=bL.addNil 5 1
 have dS:=bL.frNil 5 1
 refine qaw (i:=6) kz (qaV aJ dR (k:=0) (d:=13) (t:=22) (e:=5) (size:=1) (bytes:=1) (A:=none) (As:=(some ⟨b,o,none⟩)) (m0:=0) (c:=0) (m:=16) (cs:=16) (xs:=[]) (news:=bc ((D.f 0).o)) kz kz rfl (hu4.move aJ.step nilM aJ.imm).src (hu4.move aJ.step nilM aJ.imm).cap (by omega) fun ac ae gl gm dT dU dV=>?_)
 have dW:(⟨ac,ae,5,1,0 + 16,[] ++ bc ((D.f 0).o)⟩:Rw) = brow ac ae 5 ((D.f 0).o):=by rw [List.nil_append]; unfold brow; rw [g1]
 obtain ⟨bM,dX⟩:=dU.rowEq 0 [brow ac ae 5 ((D.f 0).o)] dW
 have dY:=EnvOk.pick dV (ks:=[0,2,3,8,12,13]) (env':=[(0,.p 0 0),(2,.p 1 0),(3,.p 3 0),(8,.v (.slice (some ⟨aa,0,none⟩) 2 2)),(12,.v (.slice (some ⟨b,o,none⟩) 16 16)),(13,.v (.slice ac (0 + 16) ae))]) kz
 have dZ:=dY.cast (env':=[(0,.p 0 0),(2,.p 1 0),(3,.p 3 0),(8,.v (.slice (some ⟨aa,0,none⟩) 2 2)),(12,.v (.slice (some ⟨b,o,none⟩) 16 16)),(13,.v (.slice ac (((D.f 0).o).length) ae))]) (by rw [g1])
 have bB:=TT.ofW ((dS.trans dT).trans dX) bM
 refine ⟨fun _=>bB,?_⟩
 refine qaJ [7] [(0,.p 0 0),(2,.p 1 0),(3,.p 3 0),(8,.v (.slice (some ⟨aa,0,none⟩) 2 2)),(14,.v (.agg #[.int .i64 0,.slice ac (((D.f 0).o).length) ae,.bool false,.slice none 0 0,.slice none 0 0]))] 2 (qaa qag) (fun _ h=>h.cells) bB dZ fun gn d5=>?_
 refine qaQ d5 (i:=8) (t:=34) (A:=(some ⟨aa,0,none⟩)) (m:=2) (q:=0) (d:=15) kz (e:=37) (size:=5) (bytes:=88) (j:=0) kz (b:=aa) (o:=0) rfl rfl (by decide) kz kz (qaa qag) bB fun gp d6=>?_
 have d7:=d6.recast 15 (.v (.pointer (some ⟨aa,0 + 0 * 5,none⟩))) (.p 2 0) rfl rfl (Nat.le_of_ble_eq_true (n:=3) rfl)
 have d8:=d7.pk (env':=[(0,.p 0 0),(2,.p 1 0),(3,.p 3 0),(8,.v (.slice (some ⟨aa,0,none⟩) 2 2)),(14,.v (.agg #[.int .i64 0,.slice ac (((D.f 0).o).length) ae,.bool false,.slice none 0 0,.slice none 0 0])),(15,.p 2 0)])
 refine qaw (i:=9) kz (qat bM d8 (oi:=2) (cs:=[.int .i64 0,.slice ac (((D.f 0).o).length) ae,.bool false,.slice none 0 0,.slice none 0 0,.int .i64 0,.slice none 0 0,.bool false,.slice none 0 0,.slice none 0 0]) kz fun gq eS d9 ea=>?_)
 refine ⟨fun h=>absurd rfl h,?_⟩
 refine qaG kz ?_ _
 refine qab (qaK 9 kz d9 fun gt eU eb bC=>?_)
 refine qaJ [0,1,2,3,4,5,6] [(0,.p 0 0),(2,.p 1 0),(3,.p 3 0),(17,.v (.slice (some ⟨aa,0,none⟩) 2 2)),(22,.v (.bool (((D.f 1).A).isNone)))] 3 (qaa qag) (fun _ h=>h.cells) bC ea fun gv ec=>?_
 refine qaw (i:=7) kz (qaD ec (t:=34) (A:=(some ⟨aa,0,none⟩)) (m:=2) (q:=1) (d:=23) kz (e:=37) (size:=5) (bytes:=88) (j:=1) kz (b:=aa) (o:=0) rfl rfl (by decide) fun gw ee=>?_)
 have ef:=ee.recast 23 (.v (.pointer (some ⟨aa,0 + 1 * 5,none⟩))) (.p 2 5) rfl rfl (Nat.le_of_ble_eq_true (n:=3) rfl)
 have eg:=ef.pk (env':=[(0,.p 0 0),(2,.p 1 0),(3,.p 3 0),(17,.v (.slice (some ⟨aa,0,none⟩) 2 2)),(22,.v (.bool (((D.f 1).A).isNone))),(23,.p 2 5)])
 refine ⟨fun _=>bC,?_⟩
 refine qaJ [8] [(0,.p 0 0),(2,.p 1 0),(3,.p 3 0),(22,.v (.bool (((D.f 1).A).isNone))),(24,.p 2 7)] 1 (qaa qag) (fun _ h=>h.cells) bC eg fun gx eh=>?_
 refine qaw (i:=9) kz (qat eb eh (oi:=2) (cs:=[.int .i64 0,.slice ac (((D.f 0).o).length) ae,.bool false,.slice none 0 0,.slice none 0 0,.int .i64 0,.slice none 0 0,.bool (((D.f 1).A).isNone),.slice none 0 0,.slice none 0 0]) kz fun gy eV bD ei=>?_)
 refine ⟨fun h=>absurd rfl h,?_⟩
 refine qaG kz ?_ _
 refine qab (wp_seq (qap [(0,.p 0 0),(2,.p 1 0),(3,.p 3 0),(29,.v (.int .i64 (((D.f 1).l:Nat):Int))),(30,.v (.int .i64 0))] bD ei fun gz ej=>?_))
 refine wp_block ?_
 have bN:=bD.addNil 37 5
 have eW:=bD.frNil 37 5
 refine wp_loop_ghost (fun n_ a_ w_=>∃ (k1_:Nat) (A1_:Option Addr) (c1_:Nat) (xs1_:List Value) (css1_:List (List Value)),n_ = (D.f 1).l - k1_ ∧ k1_ ≤ (D.f 1).l ∧ (Trees w_ (Imm F w w_ [⟨b,o,[qad ((D.f 0).o.getD 0 0),qad ((D.f 0).o.getD 1 0),qad ((D.f 0).o.getD 2 0),qad ((D.f 0).o.getD 3 0),qad ((D.f 0).o.getD 4 0),qad ((D.f 0).o.getD 5 0),qad ((D.f 0).o.getD 6 0),qad ((D.f 0).o.getD 7 0),qad ((D.f 0).o.getD 8 0),qad ((D.f 0).o.getD 9 0),qad ((D.f 0).o.getD 10 0),qad ((D.f 0).o.getD 11 0),qad ((D.f 0).o.getD 12 0),qad ((D.f 0).o.getD 13 0),qad ((D.f 0).o.getD 14 0),qad ((D.f 0).o.getD 15 0),.slice ((D.f 1).A) ((D.f 1).l) ((D.f 1).c),.map D.m],false⟩,⟨b5,0,[.int .i64 0,.slice none 0 0,.bool false,.slice none 0 0,.slice none 0 0],true⟩,⟨aa,0,[.int .i64 0,.slice ac (((D.f 0).o).length) ae,.bool false,.slice none 0 0,.slice none 0 0,.int .i64 0,.slice none 0 0,.bool (((D.f 1).A).isNone),.slice A1_ k1_ c1_,.slice none 0 0],true⟩,⟨aG,0,[.int .i64 0,.slice none 0 0,.bool false,.slice (some ⟨aa,0,none⟩) 2 2,.slice none 0 0],true⟩] [brow ac ae 5 ((D.f 0).o),⟨A1_,c1_,37,5,k1_,xs1_⟩]) xs1_ (((List.range (D.f 1).l).map (fun i=>Tree.mk (IntKind.i64.wrap ((D.f 1).f i).n) [] false [] [])).take k1_) css1_) ∧ LInv bN 85 [⟨b,o,[qad ((D.f 0).o.getD 0 0),qad ((D.f 0).o.getD 1 0),qad ((D.f 0).o.getD 2 0),qad ((D.f 0).o.getD 3 0),qad ((D.f 0).o.getD 4 0),qad ((D.f 0).o.getD 5 0),qad ((D.f 0).o.getD 6 0),qad ((D.f 0).o.getD 7 0),qad ((D.f 0).o.getD 8 0),qad ((D.f 0).o.getD 9 0),qad ((D.f 0).o.getD 10 0),qad ((D.f 0).o.getD 11 0),qad ((D.f 0).o.getD 12 0),qad ((D.f 0).o.getD 13 0),qad ((D.f 0).o.getD 14 0),qad ((D.f 0).o.getD 15 0),.slice ((D.f 1).A) ((D.f 1).l) ((D.f 1).c),.map D.m],false⟩,⟨b5,0,[.int .i64 0,.slice none 0 0,.bool false,.slice none 0 0,.slice none 0 0],true⟩,⟨aa,0,[.int .i64 0,.slice ac (((D.f 0).o).length) ae,.bool false,.slice none 0 0,.slice none 0 0,.int .i64 0,.slice none 0 0,.bool (((D.f 1).A).isNone),.slice A1_ k1_ c1_,.slice none 0 0],true⟩,⟨aG,0,[.int .i64 0,.slice none 0 0,.bool false,.slice (some ⟨aa,0,none⟩) 2 2,.slice none 0 0],true⟩] [brow ac ae 5 ((D.f 0).o),⟨A1_,c1_,37,5,k1_,xs1_⟩] [(0,.p 0 0),(2,.p 1 0),(3,.p 3 0),(29,.v (.int .i64 (((D.f 1).l:Nat):Int))),(30,.v (.int .i64 ((k1_:Nat):Int)))] a_ w_) ((D.f 1).l) ⟨0,none,0,[],[],by omega,by omega,Trees.nil _ _,ej.pk,bN,Fr.refl _ _ _⟩ ?_
 rintro gA gB eX ⟨k1_,A1_,c1_,xs1_,css1_,eY,eZ,hT1_,ek,ah,bO⟩
 refine qap [(0,.p 0 0),(2,.p 1 0),(3,.p 3 0),(29,.v (.int .i64 (((D.f 1).l:Nat):Int))),(30,.v (.int .i64 ((k1_:Nat):Int))),(31,.v (.bool (decide (((k1_:Nat):Int) < (((D.f 1).l:Nat):Int)))))] ah ek fun gC bE=>?_
 refine wp_seq (qay bE (b:=decide (((k1_:Nat):Int) < (((D.f 1).l:Nat):Int))) kz (fun bF=>?_) (fun bF=>?_))
 ·
  have e9:=of_decide_eq_true bF
  refine wp_skip (qab (wp_seq (wp_block (qap [(0,.p 0 0),(2,.p 1 0),(3,.p 3 0),(4,.v (.int .i64 ((k1_:Nat):Int))),(29,.v (.int .i64 (((D.f 1).l:Nat):Int))),(30,.v (.int .i64 ((k1_:Nat):Int)))] ah bE fun gD bP=>?_))))
  refine qaK 4 kz ah fun fb ak bQ ey=>?_
  refine qaw (i:=0) kz (qaP bQ bP (d:=33) (cs:=[.bool false]) kz fun fe ff fg ez eB ab aK aY=>?_)
  have bR:=TT.ofW ab aK
  refine ⟨fun _=>bR,?_⟩
  refine qe7 (i:=1) (j:=2) kz ?_ ?_
  ·
   refine (qat aK aY (oi:=4) (cs:=[.bool true]) kz fun fh al aZ bS=>?_)
   have bT:=TT.ofW (ab.trans al) aZ
   refine ⟨fun _=>bT,?_⟩
   refine qaw (i:=2) kz (qat aZ bS (oi:=4) (cs:=[.bool false]) kz fun fi av aA bU=>?_)
   have bV:=TT.ofW ((ab.trans al).trans av) aA
   refine ⟨fun _=>bV,?_⟩
   refine qaw (i:=3) kz (qbm [0,2,3,4,29,30,34] aA.cells bU (env':=[(0,.p 0 0),(2,.p 1 0),(3,.p 3 0),(4,.v (.int .i64 ((k1_:Nat):Int))),(29,.v (.int .i64 (((D.f 1).l:Nat):Int))),(30,.v (.int .i64 ((k1_:Nat):Int))),(34,.v (.bool false))]) kz fun fj ba=>?_)
   have bW:=TT.ofW ((ab.trans al).trans av) aA
   refine ⟨fun _=>bW,?_⟩
   refine qaG kz ?_ _
   refine qab (qar ba (b:=false) kz rfl ?_)
   refine qcQ 20 kz aA fun fk aL bd am=>?_
   refine qaJ [0,1,2,3,7,8,9,10,11] [(0,.p 0 0),(2,.p 1 0),(3,.p 3 0),(29,.v (.int .i64 (((D.f 1).l:Nat):Int))),(30,.v (.int .i64 ((k1_:Nat):Int))),(56,.v (.slice (some ⟨aa,0,none⟩) 2 2)),(58,.v (.slice (some ⟨aa,0,none⟩) 2 2)),(65,.v (.slice ((D.f 1).A) ((D.f 1).l) ((D.f 1).c))),(66,.v (.int .i64 ((k1_:Nat):Int)))] 12 (qac (qaa (qaa (qac (qaa qag))))) (fun _ h=>h.cells) am ba fun fm bX=>?_
   refine qaQ bX (i:=4) (t:=34) (A:=(some ⟨aa,0,none⟩)) (m:=2) (q:=1) (d:=59) kz (e:=37) (size:=5) (bytes:=88) (j:=1) kz (b:=aa) (o:=0) rfl rfl (by decide) kz kz (qac (qaa (qaa (qac (qaa qag))))) am fun fo bY=>?_
   have bZ:=bY.recast 59 (.v (.pointer (some ⟨aa,0 + 1 * 5,none⟩))) (.p 2 5) rfl rfl (Nat.le_of_ble_eq_true (n:=3) rfl)
   have b8:=bZ.pk (env':=[(0,.p 0 0),(2,.p 1 0),(3,.p 3 0),(29,.v (.int .i64 (((D.f 1).l:Nat):Int))),(30,.v (.int .i64 ((k1_:Nat):Int))),(56,.v (.slice (some ⟨aa,0,none⟩) 2 2)),(58,.v (.slice (some ⟨aa,0,none⟩) 2 2)),(65,.v (.slice ((D.f 1).A) ((D.f 1).l) ((D.f 1).c))),(66,.v (.int .i64 ((k1_:Nat):Int))),(59,.p 2 5)])
   refine qaJ [5,6] [(0,.p 0 0),(2,.p 1 0),(3,.p 3 0),(29,.v (.int .i64 (((D.f 1).l:Nat):Int))),(30,.v (.int .i64 ((k1_:Nat):Int))),(56,.v (.slice (some ⟨aa,0,none⟩) 2 2)),(61,.v (.slice A1_ k1_ c1_)),(65,.v (.slice ((D.f 1).A) ((D.f 1).l) ((D.f 1).c))),(66,.v (.int .i64 ((k1_:Nat):Int)))] 9 (qac (qaa (qaa (qac (qaa qag))))) (fun _ h=>h.cells) am b8 fun fq cd=>?_
   obtain ⟨em,eo,ce,eC,bG⟩:=Slots.get g2 (i:=k1_) (by omega)
   refine qaQ cd (i:=12) (t:=160) (A:=(D.f 1).A) (m:=((D.f 1).l)) (q:=((k1_:Nat):Int)) (d:=67) kz (e:=21) (size:=1) (bytes:=4) kz ce rfl (by omega) kz kz (qac (qaa (qaa (qac (qaa qag))))) am fun fr cm=>?_
   refine qa9 cm (i:=13) (t:=21) (b:=em) (o:=eo + k1_ * 1) (d:=68) kz (cs:=[.int .i32 (((D.f 1).f k1_).n)]) (v:=.int .i32 (((D.f 1).f k1_).n)) kz (fun w' h'=>(AtF.move bG (TT.step0 bd h') nilM qba).at_) kz kz (qac (qaa (qaa (qac (qaa qag))))) am fun ft cq=>?_
   refine qaJ [14,15] [(0,.p 0 0),(2,.p 1 0),(3,.p 3 0),(29,.v (.int .i64 (((D.f 1).l:Nat):Int))),(30,.v (.int .i64 ((k1_:Nat):Int))),(56,.v (.slice (some ⟨aa,0,none⟩) 2 2)),(61,.v (.slice A1_ k1_ c1_)),(70,.v (.agg #[.int .i64 (IntKind.i64.wrap (((D.f 1).f k1_).n)),.slice none 0 0,.bool false,.slice none 0 0,.slice none 0 0]))] 5 (qac (qaa (qaa (qac (qaa qag))))) (fun _ h=>h.cells) am cq fun fv cr=>?_
   refine qaw (i:=16) kz (qbz bd cr (e:=37) (size:=5) (len:=1) (cs:=(z19 D k1_)) (d:=71) kz kz fun cu fw fx eD eE ao aB cw=>?_)
   have cz:=TT.ofW ao aB
   refine ⟨fun _=>cz,?_⟩
   refine qaw (i:=17) kz (qaV aB cw (k:=1) (d:=72) (t:=34) (e:=37) (size:=5) (bytes:=88) (A:=A1_) (As:=(some ⟨cu,0,none⟩)) (m0:=k1_) (c:=c1_) (m:=1) (cs:=1) (xs:=xs1_) (news:=(z19 D k1_)) kz kz rfl (qbD (aB.own 2 _ rfl) (qbG kz)) (qbO (aB.own 2 _ rfl)) (by omega) fun aH aI fy fz aw aM cA=>?_)
   have cB:=TT.ofW (ao.trans aw) aM
   refine ⟨fun _=>cB,?_⟩
   refine qaw (i:=18) kz (qaD cA (t:=34) (A:=(some ⟨aa,0,none⟩)) (m:=2) (q:=1) (d:=73) kz (e:=37) (size:=5) (bytes:=88) (j:=1) kz (b:=aa) (o:=0) rfl rfl (by decide) fun fA cC=>?_)
   have cD:=cC.recast 73 (.v (.pointer (some ⟨aa,0 + 1 * 5,none⟩))) (.p 2 5) rfl rfl (Nat.le_of_ble_eq_true (n:=3) rfl)
   have cE:=cD.pk (env':=[(0,.p 0 0),(2,.p 1 0),(3,.p 3 0),(29,.v (.int .i64 (((D.f 1).l:Nat):Int))),(30,.v (.int .i64 ((k1_:Nat):Int))),(56,.v (.slice (some ⟨aa,0,none⟩) 2 2)),(61,.v (.slice A1_ k1_ c1_)),(70,.v (.agg #[.int .i64 (IntKind.i64.wrap (((D.f 1).f k1_).n)),.slice none 0 0,.bool false,.slice none 0 0,.slice none 0 0])),(71,.v (.slice (some ⟨cu,0,none⟩) 1 1)),(72,.v (.slice aH (k1_ + 1) aI)),(73,.p 2 5)])
   have bf:=TT.ofW (ao.trans aw) aM
   refine ⟨fun _=>bf,?_⟩
   refine qaJ [19] [(0,.p 0 0),(2,.p 1 0),(3,.p 3 0),(29,.v (.int .i64 (((D.f 1).l:Nat):Int))),(30,.v (.int .i64 ((k1_:Nat):Int))),(72,.v (.slice aH (k1_ + 1) aI)),(74,.p 2 8)] 1 (qac (qaa (qaa (qac (qaa qag))))) (fun _ h=>h.cells) bf cE fun fB cG=>?_
   refine qaw (i:=20) kz (qat aM cG (oi:=2) (cs:=[.int .i64 0,.slice ac (((D.f 0).o).length) ae,.bool false,.slice none 0 0,.slice none 0 0,.int .i64 0,.slice none 0 0,.bool (((D.f 1).A).isNone),.slice aH (k1_ + 1) aI,.slice none 0 0]) kz fun fC aN bg cH=>?_)
   refine ⟨fun h=>absurd rfl h,?_⟩
   refine qaG kz ?_ _
   refine qau (qab (qas [0,1] kz ?_))
   refine qal [0,1] [] [(0,.p 0 0),(2,.p 1 0),(3,.p 3 0),(29,.v (.int .i64 (((D.f 1).l:Nat):Int))),(30,.v (.int .i64 (IntKind.i64.wrap (((k1_:Nat):Int) + 1))))] bg cH fun fD cI=>?_
   refine qaf (qab ?_)
   obtain ⟨bh,cJ,aO⟩:=bg.cutB cI 4 (z15 b o D b5 aa ac ae aH k1_ aI aG) [(0,.p 0 0),(2,.p 1 0),(3,.p 3 0),(29,.v (.int .i64 (((D.f 1).l:Nat):Int))),(30,.v (.int .i64 (IntKind.i64.wrap (((k1_:Nat):Int) + 1))))]
   obtain ⟨cK,aP⟩:=cJ.cutR 2 [brow ac ae 5 ((D.f 0).o),⟨aH,aI,37,5,k1_ + 1,xs1_ ++ (z19 D k1_)⟩]
   have cL:IntKind.i64.wrap (((k1_:Nat):Int) + 1) = ((k1_ + 1:Nat):Int):=qaT (by omega)
   rw [cL] at bh
   exact ⟨(D.f 1).l - (k1_ + 1),by omega,k1_ + 1,aH,aI,xs1_ ++ [Value.int .i64 (IntKind.i64.wrap (((D.f 1).f k1_).n)),.slice none 0 0,.bool false,.slice none 0 0,.slice none 0 0],(css1_ ++ [[Value.int .i64 (IntKind.i64.wrap (((D.f 1).f k1_).n)),.slice none 0 0,.bool false,.slice none 0 0,.slice none 0 0]]),rfl,by omega,by rw [qdl (by omega)]; exact (hT1_.move (((((((((ak.trans ab).trans al).trans av).trans aL).trans ao).trans aw).trans aN).trans aO).trans aP).step immM (((((((((ak.trans ab).trans al).trans av).trans aL).trans ao).trans aw).trans aN).trans aO).trans aP).to').snoc (x:=(fun i=>Tree.mk (IntKind.i64.wrap ((D.f 1).f i).n) [] false [] []) k1_) (TreeR.mk (n:=IntKind.i64.wrap (((D.f 1).f k1_).n)) (b:=false) (s:=[]) (l:=[]) (u:=[]) (fun _=>[]) (Octs.nil _ _) (Slots.nil _ _ _ _) (fun i_ x_ h_=>by simp at h_) (TagsR.nil _ _)),bh.pk,cK,((((((((((bO.trans ak).trans ab).trans al).trans av).trans aL).trans ao).trans aw).trans aN).trans aO).trans aP)⟩
  refine (qat aK aY (oi:=4) (cs:=[.bool false]) kz fun fE ap bi cM=>?_)
  have cN:=TT.ofW (ab.trans ap) bi
  refine ⟨fun _=>cN,?_⟩
  refine qaw (i:=1) kz (qat bi cM (oi:=4) (cs:=[.bool true]) kz fun fF ax aC cO=>?_)
  have cP:=TT.ofW ((ab.trans ap).trans ax) aC
  refine ⟨fun _=>cP,?_⟩
  refine qaw (i:=3) kz (qbm [0,2,3,4,29,30,34] aC.cells cO (env':=[(0,.p 0 0),(2,.p 1 0),(3,.p 3 0),(4,.v (.int .i64 ((k1_:Nat):Int))),(29,.v (.int .i64 (((D.f 1).l:Nat):Int))),(30,.v (.int .i64 ((k1_:Nat):Int))),(34,.v (.bool true))]) kz fun fG bj=>?_)
  have cQ:=TT.ofW ((ab.trans ap).trans ax) aC
  refine ⟨fun _=>cQ,?_⟩
  refine qaG kz ?_ _
  refine qab (qa2 bj (b:=true) kz rfl ?_)
  refine qaK 19 kz aC fun fH aQ bk ar=>?_
  refine qaJ [0,1,5,6,7,8,9] [(0,.p 0 0),(2,.p 1 0),(3,.p 3 0),(29,.v (.int .i64 (((D.f 1).l:Nat):Int))),(30,.v (.int .i64 ((k1_:Nat):Int))),(36,.v (.slice (some ⟨aa,0,none⟩) 2 2)),(43,.v (.slice ((D.f 1).A) ((D.f 1).l) ((D.f 1).c))),(44,.v (.int .i64 ((k1_:Nat):Int)))] 13 (qaa (qac (qaa (qaa (qac (qaa qag)))))) (fun _ h=>h.cells) ar bj fun fI cR=>?_
  refine qaQ cR (i:=2) (t:=34) (A:=(some ⟨aa,0,none⟩)) (m:=2) (q:=1) (d:=37) kz (e:=37) (size:=5) (bytes:=88) (j:=1) kz (b:=aa) (o:=0) rfl rfl (by decide) kz kz (qaa (qac (qaa (qaa (qac (qaa qag)))))) ar fun fJ cS=>?_
  have cT:=cS.recast 37 (.v (.pointer (some ⟨aa,0 + 1 * 5,none⟩))) (.p 2 5) rfl rfl (Nat.le_of_ble_eq_true (n:=3) rfl)
  have cU:=cT.pk (env':=[(0,.p 0 0),(2,.p 1 0),(3,.p 3 0),(29,.v (.int .i64 (((D.f 1).l:Nat):Int))),(30,.v (.int .i64 ((k1_:Nat):Int))),(36,.v (.slice (some ⟨aa,0,none⟩) 2 2)),(43,.v (.slice ((D.f 1).A) ((D.f 1).l) ((D.f 1).c))),(44,.v (.int .i64 ((k1_:Nat):Int))),(37,.p 2 5)])
  refine qaJ [3,4,14] [(0,.p 0 0),(2,.p 1 0),(3,.p 3 0),(29,.v (.int .i64 (((D.f 1).l:Nat):Int))),(30,.v (.int .i64 ((k1_:Nat):Int))),(36,.v (.slice (some ⟨aa,0,none⟩) 2 2)),(39,.v (.slice A1_ k1_ c1_)),(43,.v (.slice ((D.f 1).A) ((D.f 1).l) ((D.f 1).c))),(44,.v (.int .i64 ((k1_:Nat):Int))),(49,.v (.int .i64 ((k1_:Nat):Int)))] 9 (qaa (qac (qaa (qaa (qac (qaa qag)))))) (fun _ h=>h.cells) ar cU fun fK cV=>?_
  obtain ⟨ep,eu,cW,eF,bH⟩:=Slots.get g2 (i:=k1_) (by omega)
  refine qaQ cV (i:=10) (t:=160) (A:=(D.f 1).A) (m:=((D.f 1).l)) (q:=((k1_:Nat):Int)) (d:=45) kz (e:=21) (size:=1) (bytes:=4) kz cW rfl (by omega) kz kz (qaa (qac (qaa (qaa (qac (qaa qag)))))) ar fun fL cX=>?_
  refine qa9 cX (i:=11) (t:=21) (b:=ep) (o:=eu + k1_ * 1) (d:=46) kz (cs:=[.int .i32 (((D.f 1).f k1_).n)]) (v:=.int .i32 (((D.f 1).f k1_).n)) kz (fun w' h'=>(AtF.move bH (TT.step0 bk h') nilM qba).at_) kz kz (qaa (qac (qaa (qaa (qac (qaa qag)))))) ar fun fM cY=>?_
  refine qaJ [12,13] [(0,.p 0 0),(2,.p 1 0),(3,.p 3 0),(29,.v (.int .i64 (((D.f 1).l:Nat):Int))),(30,.v (.int .i64 ((k1_:Nat):Int))),(36,.v (.slice (some ⟨aa,0,none⟩) 2 2)),(39,.v (.slice A1_ k1_ c1_)),(48,.v (.agg #[.int .i64 (IntKind.i64.wrap (((D.f 1).f k1_).n)),.slice none 0 0,.bool false,.slice none 0 0,.slice none 0 0])),(49,.v (.int .i64 ((k1_:Nat):Int)))] 5 (qaa (qac (qaa (qaa (qac (qaa qag)))))) (fun _ h=>h.cells) ar cY fun fN cZ=>?_
  refine qaw (i:=15) kz (qbz bk cZ (e:=37) (size:=5) (len:=1) (cs:=z1) (d:=50) kz kz fun bI fO fP eG eH au aD c5=>?_)
  have c6:=TT.ofW au aD
  refine ⟨fun _=>c6,?_⟩
  refine qaw (i:=16) kz (qaV aD c5 (k:=1) (d:=51) (t:=34) (e:=37) (size:=5) (bytes:=88) (A:=A1_) (As:=(some ⟨bI,0,none⟩)) (m0:=k1_) (c:=c1_) (m:=1) (cs:=1) (xs:=xs1_) (news:=z1) kz kz rfl (qbD (aD.own 2 _ rfl) (qbG kz)) (qbO (aD.own 2 _ rfl)) (by omega) fun af ag fQ fR ay aR da=>?_)
  have db:=TT.ofW (au.trans ay) aR
  refine ⟨fun _=>db,?_⟩
  refine qaw (i:=17) kz (qaD da (t:=34) (A:=(some ⟨aa,0,none⟩)) (m:=2) (q:=1) (d:=52) kz (e:=37) (size:=5) (bytes:=88) (j:=1) kz (b:=aa) (o:=0) rfl rfl (by decide) fun fS dc=>?_)
  have de:=dc.recast 52 (.v (.pointer (some ⟨aa,0 + 1 * 5,none⟩))) (.p 2 5) rfl rfl (Nat.le_of_ble_eq_true (n:=3) rfl)
  have df:=de.pk (env':=[(0,.p 0 0),(2,.p 1 0),(3,.p 3 0),(29,.v (.int .i64 (((D.f 1).l:Nat):Int))),(30,.v (.int .i64 ((k1_:Nat):Int))),(36,.v (.slice (some ⟨aa,0,none⟩) 2 2)),(39,.v (.slice A1_ k1_ c1_)),(48,.v (.agg #[.int .i64 (IntKind.i64.wrap (((D.f 1).f k1_).n)),.slice none 0 0,.bool false,.slice none 0 0,.slice none 0 0])),(49,.v (.int .i64 ((k1_:Nat):Int))),(50,.v (.slice (some ⟨bI,0,none⟩) 1 1)),(51,.v (.slice af (k1_ + 1) ag)),(52,.p 2 5)])
  have bn:=TT.ofW (au.trans ay) aR
  refine ⟨fun _=>bn,?_⟩
  refine qaJ [18] [(0,.p 0 0),(2,.p 1 0),(3,.p 3 0),(29,.v (.int .i64 (((D.f 1).l:Nat):Int))),(30,.v (.int .i64 ((k1_:Nat):Int))),(48,.v (.agg #[.int .i64 (IntKind.i64.wrap (((D.f 1).f k1_).n)),.slice none 0 0,.bool false,.slice none 0 0,.slice none 0 0])),(49,.v (.int .i64 ((k1_:Nat):Int))),(51,.v (.slice af (k1_ + 1) ag)),(53,.p 2 8)] 1 (qaa (qac (qaa (qaa (qac (qaa qag)))))) (fun _ h=>h.cells) bn df fun fT dg=>?_
  refine qaw (i:=19) kz (qat aR dg (oi:=2) (cs:=[.int .i64 0,.slice ac (((D.f 0).o).length) ae,.bool false,.slice none 0 0,.slice none 0 0,.int .i64 0,.slice none 0 0,.bool (((D.f 1).A).isNone),.slice af (k1_ + 1) ag,.slice none 0 0]) kz fun ev aS bo dh=>?_)
  refine ⟨fun h=>absurd rfl h,?_⟩
  refine qaG kz ?_ _
  refine qab (qas [0,1] kz ?_)
  have di:World.ownsRow ev 0 37 5 (.slice af (k1_ + 1) ag) (k1_ + 1) (xs1_ ++ z1):=bo.own 1 _ rfl
  obtain ⟨dj,bp⟩:=qce di (by omega)
  refine qan (qaD dh (t:=34) (A:=af) (m:=(k1_ + 1)) (q:=((k1_:Nat):Int)) (d:=54) kz (e:=37) (size:=5) (bytes:=88) kz (b:=dj) (o:=0) (j:=k1_) bp (rfl) (by omega) fun fU dl=>?_)
  refine qan (qci bo dl (k:=1) (g:=dj) (o:=k1_ * 5) (c:=ag) (m:=(k1_ + 1)) (size:=5) (e:=37) (A:=af) (xs:=(xs1_ ++ [.int .i64 0,.slice none 0 0,.bool false,.slice none 0 0,.slice none 0 0])) (vs:=[.int .i64 (IntKind.i64.wrap (((D.f 1).f k1_).n)),.slice none 0 0,.bool false,.slice none 0 0,.slice none 0 0]) kz rfl bp (by simp only [List.length_cons,List.length_nil]; omega) fun fV aT dp dq=>?_)
  have dr:(⟨af,ag,37,5,k1_ + 1,qbo (xs1_ ++ [.int .i64 0,.slice none 0 0,.bool false,.slice none 0 0,.slice none 0 0]) (k1_ * 5) [.int .i64 (IntKind.i64.wrap (((D.f 1).f k1_).n)),.slice none 0 0,.bool false,.slice none 0 0,.slice none 0 0]⟩:Rw) = ⟨af,ag,37,5,k1_ + 1,xs1_ ++ [.int .i64 (IntKind.i64.wrap (((D.f 1).f k1_).n)),.slice none 0 0,.bool false,.slice none 0 0,.slice none 0 0]⟩:=by rw [qek (by rw [hT1_.xslen,List.length_take,qc4]; omega)]
  obtain ⟨bq,aU⟩:=dp.rowEq 1 [brow ac ae 5 ((D.f 0).o),⟨af,ag,37,5,k1_ + 1,xs1_ ++ (z19 D k1_)⟩,⟨some ⟨bI,0,none⟩,1,37,5,1,z1⟩] dr
  refine qaf (qau (qab (qas [0,1] kz ?_)))
  refine qal [0,1] [] [(0,.p 0 0),(2,.p 1 0),(3,.p 3 0),(29,.v (.int .i64 (((D.f 1).l:Nat):Int))),(30,.v (.int .i64 (IntKind.i64.wrap (((k1_:Nat):Int) + 1))))] bq dq fun fW dt=>?_
  refine qaf (qab ?_)
  obtain ⟨bt,du,aV⟩:=bq.cutB dt 4 (z15 b o D b5 aa ac ae af k1_ ag aG) [(0,.p 0 0),(2,.p 1 0),(3,.p 3 0),(29,.v (.int .i64 (((D.f 1).l:Nat):Int))),(30,.v (.int .i64 (IntKind.i64.wrap (((k1_:Nat):Int) + 1))))]
  obtain ⟨dv,aW⟩:=du.cutR 2 [brow ac ae 5 ((D.f 0).o),⟨af,ag,37,5,k1_ + 1,xs1_ ++ (z19 D k1_)⟩]
  have dw:IntKind.i64.wrap (((k1_:Nat):Int) + 1) = ((k1_ + 1:Nat):Int):=qaT (by omega)
  rw [dw] at bt
  exact ⟨(D.f 1).l - (k1_ + 1),by omega,k1_ + 1,af,ag,xs1_ ++ [Value.int .i64 (IntKind.i64.wrap (((D.f 1).f k1_).n)),.slice none 0 0,.bool false,.slice none 0 0,.slice none 0 0],(css1_ ++ [[Value.int .i64 (IntKind.i64.wrap (((D.f 1).f k1_).n)),.slice none 0 0,.bool false,.slice none 0 0,.slice none 0 0]]),rfl,by omega,by rw [qdl (by omega)]; exact (hT1_.move (((((((((((ak.trans ab).trans ap).trans ax).trans aQ).trans au).trans ay).trans aS).trans aT).trans aU).trans aV).trans aW).step immM (((((((((((ak.trans ab).trans ap).trans ax).trans aQ).trans au).trans ay).trans aS).trans aT).trans aU).trans aV).trans aW).to').snoc (x:=(fun i=>Tree.mk (IntKind.i64.wrap ((D.f 1).f i).n) [] false [] []) k1_) (TreeR.mk (n:=IntKind.i64.wrap (((D.f 1).f k1_).n)) (b:=false) (s:=[]) (l:=[]) (u:=[]) (fun _=>[]) (Octs.nil _ _) (Slots.nil _ _ _ _) (fun i_ x_ h_=>by simp at h_) (TagsR.nil _ _)),bt.pk,dv,((((((((((((bO.trans ak).trans ab).trans ap).trans ax).trans aQ).trans au).trans ay).trans aS).trans aT).trans aU).trans aV).trans aW)⟩
 have eI:=of_decide_eq_false bF
 refine wp_exit (qaC (qaC (qaS (qab (qae [0,1,2,3,4] kz ?_)))))
 refine qal [0,1,2] [3,4] [(2,.p 1 0),(3,.p 3 0),(78,.p 0 17)] ah bE fun fX dx=>?_
 refine qan (qe0 dx (v:=.func (.func 226) #[] #[.pointer (some ⟨aG,0,none⟩)]) (d:=79) kz fun fY dy=>?_)
 refine qan (qam dy (f:=103) (vs:=[.pointer (some ⟨b,o + 17,none⟩),.func (.func 226) #[] #[.pointer (some ⟨aG,0,none⟩)]]) (d:=80) kz Tryz.call103 (qfv (F:=(Imm F w eX [⟨b,o,[qad ((D.f 0).o.getD 0 0),qad ((D.f 0).o.getD 1 0),qad ((D.f 0).o.getD 2 0),qad ((D.f 0).o.getD 3 0),qad ((D.f 0).o.getD 4 0),qad ((D.f 0).o.getD 5 0),qad ((D.f 0).o.getD 6 0),qad ((D.f 0).o.getD 7 0),qad ((D.f 0).o.getD 8 0),qad ((D.f 0).o.getD 9 0),qad ((D.f 0).o.getD 10 0),qad ((D.f 0).o.getD 11 0),qad ((D.f 0).o.getD 12 0),qad ((D.f 0).o.getD 13 0),qad ((D.f 0).o.getD 14 0),qad ((D.f 0).o.getD 15 0),.slice ((D.f 1).A) ((D.f 1).l) ((D.f 1).c),.map D.m],false⟩,⟨b5,0,z1,true⟩,⟨aa,0,[.int .i64 0,.slice ac (((D.f 0).o).length) ae,.bool false,.slice none 0 0,.slice none 0 0,.int .i64 0,.slice none 0 0,.bool (((D.f 1).A).isNone),.slice A1_ k1_ c1_,.slice none 0 0],true⟩,⟨aG,0,[.int .i64 0,.slice none 0 0,.bool false,.slice (some ⟨aa,0,none⟩) 2 2,.slice none 0 0],true⟩] [brow ac ae 5 ((D.f 0).o),⟨A1_,c1_,37,5,k1_,xs1_⟩])) Tryz.call226 qbx ((hat.one 17 rfl).move ah.step nilM ah.imm) (g3.move ah.step nilM ah.imm) (Str.of ah 3 rfl) (qkl 3 rfl) g3l) ?_)
 rintro e_ fZ ⟨rfl,ai,aj,bJ,dz,dA⟩
 obtain ⟨aX,bu,dB⟩:=ah.wrote 3 [⟨b,o,[qad ((D.f 0).o.getD 0 0),qad ((D.f 0).o.getD 1 0),qad ((D.f 0).o.getD 2 0),qad ((D.f 0).o.getD 3 0),qad ((D.f 0).o.getD 4 0),qad ((D.f 0).o.getD 5 0),qad ((D.f 0).o.getD 6 0),qad ((D.f 0).o.getD 7 0),qad ((D.f 0).o.getD 8 0),qad ((D.f 0).o.getD 9 0),qad ((D.f 0).o.getD 10 0),qad ((D.f 0).o.getD 11 0),qad ((D.f 0).o.getD 12 0),qad ((D.f 0).o.getD 13 0),qad ((D.f 0).o.getD 14 0),qad ((D.f 0).o.getD 15 0),.slice ((D.f 1).A) ((D.f 1).l) ((D.f 1).c),.map D.m],false⟩,⟨b5,0,z1,true⟩,⟨aa,0,[.int .i64 0,.slice ac (((D.f 0).o).length) ae,.bool false,.slice none 0 0,.slice none 0 0,.int .i64 0,.slice none 0 0,.bool (((D.f 1).A).isNone),.slice A1_ k1_ c1_,.slice none 0 0],true⟩,⟨aG,0,[.int .i64 0,.slice none 0 0,.bool false,.slice (some ⟨aa,0,none⟩) 2 2,.slice ai D.u.length aj],true⟩] rfl dA bJ
 have bw:=dz.move (Step.refl _ Nil) nilM (fun b_ o_ h_ hb_=>dB (G:=F) b_ o_ (.inr h_) hb_)
 refine ⟨_,rfl,fun f5 dC=>?_⟩
 have dD:=(EnvOk.places (tb':=[⟨b,o,[qad ((D.f 0).o.getD 0 0),qad ((D.f 0).o.getD 1 0),qad ((D.f 0).o.getD 2 0),qad ((D.f 0).o.getD 3 0),qad ((D.f 0).o.getD 4 0),qad ((D.f 0).o.getD 5 0),qad ((D.f 0).o.getD 6 0),qad ((D.f 0).o.getD 7 0),qad ((D.f 0).o.getD 8 0),qad ((D.f 0).o.getD 9 0),qad ((D.f 0).o.getD 10 0),qad ((D.f 0).o.getD 11 0),qad ((D.f 0).o.getD 12 0),qad ((D.f 0).o.getD 13 0),qad ((D.f 0).o.getD 14 0),qad ((D.f 0).o.getD 15 0),.slice ((D.f 1).A) ((D.f 1).l) ((D.f 1).c),.map D.m],false⟩,⟨b5,0,[.int .i64 0,.slice none 0 0,.bool false,.slice none 0 0,.slice none 0 0],true⟩,⟨aa,0,[.int .i64 0,.slice ac (((D.f 0).o).length) ae,.bool false,.slice none 0 0,.slice none 0 0,.int .i64 0,.slice none 0 0,.bool (((D.f 1).A).isNone),.slice A1_ k1_ c1_,.slice none 0 0],true⟩,⟨aG,0,[.int .i64 0,.slice none 0 0,.bool false,.slice (some ⟨aa,0,none⟩) 2 2,.slice ai D.u.length aj],true⟩]) dC (show Pl [⟨b,o,[qad ((D.f 0).o.getD 0 0),qad ((D.f 0).o.getD 1 0),qad ((D.f 0).o.getD 2 0),qad ((D.f 0).o.getD 3 0),qad ((D.f 0).o.getD 4 0),qad ((D.f 0).o.getD 5 0),qad ((D.f 0).o.getD 6 0),qad ((D.f 0).o.getD 7 0),qad ((D.f 0).o.getD 8 0),qad ((D.f 0).o.getD 9 0),qad ((D.f 0).o.getD 10 0),qad ((D.f 0).o.getD 11 0),qad ((D.f 0).o.getD 12 0),qad ((D.f 0).o.getD 13 0),qad ((D.f 0).o.getD 14 0),qad ((D.f 0).o.getD 15 0),.slice ((D.f 1).A) ((D.f 1).l) ((D.f 1).c),.map D.m],false⟩,⟨b5,0,[.int .i64 0,.slice none 0 0,.bool false,.slice none 0 0,.slice none 0 0],true⟩,⟨aa,0,[.int .i64 0,.slice ac (((D.f 0).o).length) ae,.bool false,.slice none 0 0,.slice none 0 0,.int .i64 0,.slice none 0 0,.bool (((D.f 1).A).isNone),.slice A1_ k1_ c1_,.slice none 0 0],true⟩,⟨aG,0,[.int .i64 0,.slice none 0 0,.bool false,.slice (some ⟨aa,0,none⟩) 2 2,.slice none 0 0],true⟩] [⟨b,o,[qad ((D.f 0).o.getD 0 0),qad ((D.f 0).o.getD 1 0),qad ((D.f 0).o.getD 2 0),qad ((D.f 0).o.getD 3 0),qad ((D.f 0).o.getD 4 0),qad ((D.f 0).o.getD 5 0),qad ((D.f 0).o.getD 6 0),qad ((D.f 0).o.getD 7 0),qad ((D.f 0).o.getD 8 0),qad ((D.f 0).o.getD 9 0),qad ((D.f 0).o.getD 10 0),qad ((D.f 0).o.getD 11 0),qad ((D.f 0).o.getD 12 0),qad ((D.f 0).o.getD 13 0),qad ((D.f 0).o.getD 14 0),qad ((D.f 0).o.getD 15 0),.slice ((D.f 1).A) ((D.f 1).l) ((D.f 1).c),.map D.m],false⟩,⟨b5,0,[.int .i64 0,.slice none 0 0,.bool false,.slice none 0 0,.slice none 0 0],true⟩,⟨aa,0,[.int .i64 0,.slice ac (((D.f 0).o).length) ae,.bool false,.slice none 0 0,.slice none 0 0,.int .i64 0,.slice none 0 0,.bool (((D.f 1).A).isNone),.slice A1_ k1_ c1_,.slice none 0 0],true⟩,⟨aG,0,[.int .i64 0,.slice none 0 0,.bool false,.slice (some ⟨aa,0,none⟩) 2 2,.slice ai D.u.length aj],true⟩] from ⟨rfl,rfl,⟨rfl,rfl,⟨rfl,rfl,⟨rfl,rfl,trivial⟩⟩⟩⟩)).pk (env':=[(80,.v (.tuple #[])),(2,.p 1 0),(3,.p 3 0),(78,.p 0 17),(79,.v (.func (.func 226) #[] #[.pointer (some ⟨aG,0,none⟩)]))])
 refine qaf (qab ?_)
 refine qae [0,1,2] kz ?_
 refine qal [0,1] [2] [(2,.p 1 0),(3,.p 3 0),(82,.v (.slice ai D.u.length aj))] aX dD fun f7 dE=>?_
 refine qan (qam dE (f:=105) (vs:=[.slice ai D.u.length aj]) (d:=83) kz Tryz.call105 (qhn bw g3.sorted) ?_)
 rintro e_ f8 ⟨rfl,bx⟩
 refine ⟨_,rfl,fun ga dF=>?_⟩
 have bz:=aX.next_nil bx
 have aE:=aX.frN bx
 refine qaf (qab ?_)
 refine qae [0,1] kz ?_
 refine qal [0] [1] [(2,.p 1 0),(84,.v (.agg #[.int .i64 0,.slice none 0 0,.bool false,.slice (some ⟨aa,0,none⟩) 2 2,.slice ai D.u.length aj]))] bz dF fun gb dG=>?_
 refine qan (qat bz dG (oi:=1) (cs:=[.int .i64 0,.slice none 0 0,.bool false,.slice (some ⟨aa,0,none⟩) 2 2,.slice ai D.u.length aj]) kz fun ew aF az dH=>?_)
 refine qaf (qab ?_)
 refine wp_ret (qaL dH az.cells (v:=.agg #[.int .i64 0,.slice none 0 0,.bool false,.slice (some ⟨aa,0,none⟩) 2 2,.slice ai D.u.length aj]) kz ?_)
 have bA:=(hT1_.move ((bu.trans aE).trans aF).step immM ((bu.trans aE).trans aF).to')
 rw [qhQ (by omega)] at bA
 exact qgf (u:=D.u) (l:=[.mk 0 (D.f 0).o false [] [],.mk 0 [] (D.f 1).A.isNone ((List.range (D.f 1).l).map fun i=>.mk (IntKind.i64.wrap ((D.f 1).f i).n) [] false [] []) []]) (css:=[[.int .i64 0,.slice ac (((D.f 0).o).length) ae,.bool false,.slice none 0 0,.slice none 0 0],[.int .i64 0,.slice none 0 0,.bool (((D.f 1).A).isNone),.slice A1_ k1_ c1_,.slice none 0 0]]) az 2 rfl ⟨TreeR.mk (n:=0) (b:=false) (l:=[]) (u:=[]) (fun _=>[]) (qcd (az.own 0 _ rfl) (by rw [g1]; decide) (qhx (F:=F) az (k:=0) rfl)) (Slots.nil _ _ 5 _) (fun _ _ h_=>by simp at h_) (TagsR.nil _ _),qgX az (k:=1) rfl bA (by rw [qc4]; omega) (by rw [qc4]; omega),trivial⟩ ((show TagsR _ (Imm F w ew [⟨b,o,[qad ((D.f 0).o.getD 0 0),qad ((D.f 0).o.getD 1 0),qad ((D.f 0).o.getD 2 0),qad ((D.f 0).o.getD 3 0),qad ((D.f 0).o.getD 4 0),qad ((D.f 0).o.getD 5 0),qad ((D.f 0).o.getD 6 0),qad ((D.f 0).o.getD 7 0),qad ((D.f 0).o.getD 8 0),qad ((D.f 0).o.getD 9 0),qad ((D.f 0).o.getD 10 0),qad ((D.f 0).o.getD 11 0),qad ((D.f 0).o.getD 12 0),qad ((D.f 0).o.getD 13 0),qad ((D.f 0).o.getD 14 0),qad ((D.f 0).o.getD 15 0),.slice ((D.f 1).A) ((D.f 1).l) ((D.f 1).c),.map D.m],false⟩,⟨b5,0,[.int .i64 0,.slice none 0 0,.bool false,.slice (some ⟨aa,0,none⟩) 2 2,.slice ai D.u.length aj],true⟩,⟨aa,0,[.int .i64 0,.slice ac (((D.f 0).o).length) ae,.bool false,.slice none 0 0,.slice none 0 0,.int .i64 0,.slice none 0 0,.bool (((D.f 1).A).isNone),.slice A1_ k1_ c1_,.slice none 0 0],true⟩,⟨aG,0,[.int .i64 0,.slice none 0 0,.bool false,.slice (some ⟨aa,0,none⟩) 2 2,.slice ai D.u.length aj],true⟩] [brow ac ae 5 ((D.f 0).o),⟨A1_,c1_,37,5,k1_,xs1_⟩]) _ _ _ from (bw.move (aE.trans aF).step immM (aE.trans aF).to')).move (Step.refl _ Nil) nilM qbL)
abbrev z23 (x0):=([.int .i64 0,.slice none 0 0,.bool false,.slice (some ⟨x0,0,none⟩) 1 1,.slice none 0 0]:List Value)
abbrev z20 (x0:DV) (x1) (x2) (x3):=([.int .i64 0,.slice none 0 0,.bool (((x0.f 0).A).isNone),.slice x1 (x2 + 1) x3,.slice none 0 0]:List Value)
abbrev z16 (x0) (x1) (x2:DV) (x3) (x4) (x5) (x6) (x7) (x8):=([⟨x0,x1,[.slice ((x2.f 0).A) ((x2.f 0).l) ((x2.f 0).c),.map x2.m],false⟩,⟨x3,0,z1,true⟩,⟨x4,0,[.int .i64 0,.slice none 0 0,.bool (((x2.f 0).A).isNone),.slice x5 (x6 + 1) x7,.slice none 0 0],true⟩,⟨x8,0,[.int .i64 0,.slice none 0 0,.bool false,.slice (some ⟨x4,0,none⟩) 1 1,.slice none 0 0],true⟩]:Tb)
abbrev z54 (x0:DV):=([.slice ((x0.f 0).A) ((x0.f 0).l) ((x0.f 0).c),.map x0.m]:List Value)
set_option maxHeartbeats 4000000 in
theorem qb8 (v:Int) (D:DV) (b o:Nat) (w:World) (F:Nat → Nat → Prop) (hat:AtF w F b o [.slice ((D.f 0).A) ((D.f 0).l) ((D.f 0).c),.map D.m]) (hok:qaO w F D):Calls Tryz.prog 187 #[.pointer (some ⟨b,o,none⟩)] w (qdg w F (qaU D)):=by
 refine enter (n:=72) Tryz.func187 rfl Tryz.ntmps187 kz fun a hE=>?_
 have hW:WOk w Nil w [⟨b,o,(z54 D),false⟩] []:=(WOk.start w Nil).start1 hat rfl rfl
 unfold qaO at hok
 obtain ⟨⟨g1,g1l,g1e⟩,g2,g2l,g2x,_⟩:=hok
 have hE0:=(EnvOk.ptr0 (cs:=(z54 D)) (r:=false) hE).pk (env':=[(0,.p 0 0)])
 refine qae [0] kz ?_
 refine qan (qaP hW hE0 (d:=2) (cs:=z1) kz fun b3 a4 w5 hb6 hz7 hF8 hW9 ft=>?_)
 refine qaf (qab ?_)
 refine qae [0,1,2,3] kz ?_
 refine qan (qeQ (t:=34) (e:=37) (size:=5) (bytes:=88) (d:=5) (j:=1) (.agg #[.int .i64 0,.slice none 0 0,.bool false,.slice none 0 0,.slice none 0 0]) z1 hW9 ft fun aa i6 i7 gC gD gE dp fv=>?_)
 refine qal [1] [2,3] [(0,.p 0 0),(2,.p 1 0),(6,.v (.agg #[.int .i64 0,.slice none 0 0,.bool false,.slice (some ⟨aa,0,none⟩) 1 1,.slice none 0 0]))] dp fv fun ja fw=>?_
 refine qan (qaP dp fw (d:=3) (cs:=z1) kz fun bu jb jc gF gG gH fx fy=>?_)
 refine qan (qat fx fy (oi:=3) (cs:=(z23 aa)) kz fun jd gI fz fA=>?_)
 refine qaf (qab ?_)
 refine qaK 9 kz fz fun je gJ fB c6=>?_
 refine qaJ [0,1,2,3,4,5,6] [(0,.p 0 0),(2,.p 1 0),(3,.p 3 0),(8,.v (.slice (some ⟨aa,0,none⟩) 1 1)),(13,.v (.bool (((D.f 0).A).isNone)))] 3 (qaa qag) (fun _ h=>h.cells) c6 fA fun jf fC=>?_
 refine qaw (i:=7) kz (qaD fC (t:=34) (A:=(some ⟨aa,0,none⟩)) (m:=1) (q:=0) (d:=14) kz (e:=37) (size:=5) (bytes:=88) (j:=0) kz (b:=aa) (o:=0) rfl rfl (by decide) fun jg fD=>?_)
 have fE:=fD.recast 14 (.v (.pointer (some ⟨aa,0 + 0 * 5,none⟩))) (.p 2 0) rfl rfl (Nat.le_of_ble_eq_true (n:=3) rfl)
 have fF:=fE.pk (env':=[(0,.p 0 0),(2,.p 1 0),(3,.p 3 0),(8,.v (.slice (some ⟨aa,0,none⟩) 1 1)),(13,.v (.bool (((D.f 0).A).isNone))),(14,.p 2 0)])
 refine ⟨fun _=>c6,?_⟩
 refine qaJ [8] [(0,.p 0 0),(2,.p 1 0),(3,.p 3 0),(13,.v (.bool (((D.f 0).A).isNone))),(15,.p 2 2)] 1 (qaa qag) (fun _ h=>h.cells) c6 fF fun jh fG=>?_
 refine qaw (i:=9) kz (qat fB fG (oi:=2) (cs:=[.int .i64 0,.slice none 0 0,.bool (((D.f 0).A).isNone),.slice none 0 0,.slice none 0 0]) kz fun ji gK da fH=>?_)
 refine ⟨fun h=>absurd rfl h,?_⟩
 refine qaG kz ?_ _
 refine qab (wp_seq (qap [(0,.p 0 0),(2,.p 1 0),(3,.p 3 0),(20,.v (.int .i64 (((D.f 0).l:Nat):Int))),(21,.v (.int .i64 0))] da fH fun jj fI=>?_))
 refine wp_block ?_
 have dq:=da.addNil 37 5
 have gL:=da.frNil 37 5
 refine wp_loop_ghost (fun n_ a_ w_=>∃ (k0_:Nat) (A0_:Option Addr) (c0_:Nat) (xs0_:List Value) (css0_:List (List Value)),n_ = (D.f 0).l - k0_ ∧ k0_ ≤ (D.f 0).l ∧ (Trees w_ (Imm F w w_ [⟨b,o,[.slice ((D.f 0).A) ((D.f 0).l) ((D.f 0).c),.map D.m],false⟩,⟨b3,0,[.int .i64 0,.slice none 0 0,.bool false,.slice none 0 0,.slice none 0 0],true⟩,⟨aa,0,[.int .i64 0,.slice none 0 0,.bool (((D.f 0).A).isNone),.slice A0_ k0_ c0_,.slice none 0 0],true⟩,⟨bu,0,[.int .i64 0,.slice none 0 0,.bool false,.slice (some ⟨aa,0,none⟩) 1 1,.slice none 0 0],true⟩] [⟨A0_,c0_,37,5,k0_,xs0_⟩]) xs0_ (((List.range (D.f 0).l).map (fun i=>qaF ((D.f 0).f i))).take k0_) css0_) ∧ LInv dq 72 [⟨b,o,[.slice ((D.f 0).A) ((D.f 0).l) ((D.f 0).c),.map D.m],false⟩,⟨b3,0,[.int .i64 0,.slice none 0 0,.bool false,.slice none 0 0,.slice none 0 0],true⟩,⟨aa,0,[.int .i64 0,.slice none 0 0,.bool (((D.f 0).A).isNone),.slice A0_ k0_ c0_,.slice none 0 0],true⟩,⟨bu,0,[.int .i64 0,.slice none 0 0,.bool false,.slice (some ⟨aa,0,none⟩) 1 1,.slice none 0 0],true⟩] [⟨A0_,c0_,37,5,k0_,xs0_⟩] [(0,.p 0 0),(2,.p 1 0),(3,.p 3 0),(20,.v (.int .i64 (((D.f 0).l:Nat):Int))),(21,.v (.int .i64 ((k0_:Nat):Int)))] a_ w_) ((D.f 0).l) ⟨0,none,0,[],[],by omega,by omega,Trees.nil _ _,fI.pk,dq,Fr.refl _ _ _⟩ ?_
 rintro jk jl gM ⟨k0_,A0_,c0_,xs0_,css0_,gN,gO,hT0_,fJ,ax,db⟩
 refine qap [(0,.p 0 0),(2,.p 1 0),(3,.p 3 0),(20,.v (.int .i64 (((D.f 0).l:Nat):Int))),(21,.v (.int .i64 ((k0_:Nat):Int))),(22,.v (.bool (decide (((k0_:Nat):Int) < (((D.f 0).l:Nat):Int)))))] ax fJ fun jm dc=>?_
 refine wp_seq (qay dc (b:=decide (((k0_:Nat):Int) < (((D.f 0).l:Nat):Int))) kz (fun de=>?_) (fun de=>?_))
 ·
  have gP:=of_decide_eq_true de
  refine wp_skip (qab (wp_seq (wp_block (qap [(0,.p 0 0),(2,.p 1 0),(3,.p 3 0),(4,.v (.int .i64 ((k0_:Nat):Int))),(20,.v (.int .i64 (((D.f 0).l:Nat):Int))),(21,.v (.int .i64 ((k0_:Nat):Int)))] ax dc fun jn fK=>?_))))
  refine qaK 4 kz ax fun jo aC fL gQ=>?_
  refine qaw (i:=0) kz (qaP fL fK (d:=24) (cs:=[.bool false]) kz fun jp jq jr gR gS ab df dr=>?_)
  have fM:=TT.ofW ab df
  refine ⟨fun _=>fM,?_⟩
  refine qe7 (i:=1) (j:=2) kz ?_ ?_
  ·
   refine (qat df dr (oi:=4) (cs:=[.bool true]) kz fun js bE dt fN=>?_)
   have fO:=TT.ofW (ab.trans bE) dt
   refine ⟨fun _=>fO,?_⟩
   refine qaw (i:=2) kz (qat dt fN (oi:=4) (cs:=[.bool false]) kz fun jt bS cz fP=>?_)
   have fQ:=TT.ofW ((ab.trans bE).trans bS) cz
   refine ⟨fun _=>fQ,?_⟩
   refine qaw (i:=3) kz (qbm [0,2,3,4,20,21,25] cz.cells fP (env':=[(0,.p 0 0),(2,.p 1 0),(3,.p 3 0),(4,.v (.int .i64 ((k0_:Nat):Int))),(20,.v (.int .i64 (((D.f 0).l:Nat):Int))),(21,.v (.int .i64 ((k0_:Nat):Int))),(25,.v (.bool false))]) kz fun ju du=>?_)
   have fR:=TT.ofW ((ab.trans bE).trans bS) cz
   refine ⟨fun _=>fR,?_⟩
   refine qaG kz ?_ _
   refine qab (qar du (b:=false) kz rfl ?_)
   refine qcQ 18 kz cz fun jv dg bt cA=>?_
   refine qaJ [0,1,2,3,7,8,9,10,11] [(0,.p 0 0),(2,.p 1 0),(3,.p 3 0),(20,.v (.int .i64 (((D.f 0).l:Nat):Int))),(21,.v (.int .i64 ((k0_:Nat):Int))),(45,.v (.slice (some ⟨aa,0,none⟩) 1 1)),(47,.v (.slice (some ⟨aa,0,none⟩) 1 1)),(54,.v (.slice ((D.f 0).A) ((D.f 0).l) ((D.f 0).c))),(55,.v (.int .i64 ((k0_:Nat):Int)))] 10 (qac (qaa (qaa (qac (qaa qag))))) (fun _ h=>h.cells) cA du fun jw fS=>?_
   refine qaQ fS (i:=4) (t:=34) (A:=(some ⟨aa,0,none⟩)) (m:=1) (q:=0) (d:=48) kz (e:=37) (size:=5) (bytes:=88) (j:=0) kz (b:=aa) (o:=0) rfl rfl (by decide) kz kz (qac (qaa (qaa (qac (qaa qag))))) cA fun gT dv=>?_
   have dw:=dv.recast 48 (.v (.pointer (some ⟨aa,0 + 0 * 5,none⟩))) (.p 2 0) rfl rfl (Nat.le_of_ble_eq_true (n:=3) rfl)
   have dx:=dw.pk (env':=[(0,.p 0 0),(2,.p 1 0),(3,.p 3 0),(20,.v (.int .i64 (((D.f 0).l:Nat):Int))),(21,.v (.int .i64 ((k0_:Nat):Int))),(45,.v (.slice (some ⟨aa,0,none⟩) 1 1)),(47,.v (.slice (some ⟨aa,0,none⟩) 1 1)),(54,.v (.slice ((D.f 0).A) ((D.f 0).l) ((D.f 0).c))),(55,.v (.int .i64 ((k0_:Nat):Int))),(48,.p 2 0)])
   refine qaJ [5,6] [(0,.p 0 0),(2,.p 1 0),(3,.p 3 0),(20,.v (.int .i64 (((D.f 0).l:Nat):Int))),(21,.v (.int .i64 ((k0_:Nat):Int))),(45,.v (.slice (some ⟨aa,0,none⟩) 1 1)),(50,.v (.slice A0_ k0_ c0_)),(54,.v (.slice ((D.f 0).A) ((D.f 0).l) ((D.f 0).c))),(55,.v (.int .i64 ((k0_:Nat):Int)))] 7 (qac (qaa (qaa (qac (qaa qag))))) (fun _ h=>h.cells) cA dx fun gU dy=>?_
   obtain ⟨dz,dA,dB,gg,dh⟩:=Slots.get g1 (i:=k0_) (by omega)
   refine qaQ dy (i:=12) (t:=204) (A:=(D.f 0).A) (m:=((D.f 0).l)) (q:=((k0_:Nat):Int)) (d:=56) kz (e:=209) (size:=18) (bytes:=48) kz dB rfl (by omega) kz kz (qac (qaa (qaa (qac (qaa qag))))) cA fun gV dC=>?_
   refine qaw (i:=13) kz (qam dC (f:=203) (vs:=[.pointer (some ⟨dz,dA + k0_ * 18,none⟩)]) (d:=57) kz Tryz.call203 (qa7 0 ((D.f 0).f k0_) _ _ _ _ (dh.move bt.step nilM bt.imm) (qaI _ bt.step nilM bt.imm (g1e k0_ (by omega)))) ?_)
   rintro e_ gW ⟨gh,rfl,dD,bT⟩
   have bU:=dD.move (Step.refl _ Nil) nilM (bt.laid (G:=F) bT)
   obtain ⟨bF,bG,bH,bI,bJ,bK,bL,bM,bN,bO,bP,gi,gj,bV,fT,fU,gX,gY⟩:=bU.open_
   rw [bV] at bU
   have fV:=fT.small
   have fW:=fU.small
   rw [bV]
   refine ⟨_,rfl,fun gZ dE=>?_⟩
   have cD:=bt.next_nil bT
   have al:=bt.frN bT
   have dF:=TT.ofW al cD
   refine ⟨fun _=>dF,?_⟩
   refine qaw (i:=14) kz (qbz cD dE (e:=37) (size:=5) (len:=1) (cs:=(z3 bF bK bG.length bL bH bM bI.length bN bO bJ.length bP)) (d:=58) kz kz fun dG g9 hC gk gl ae bw dH=>?_)
   have dI:=TT.ofW (al.trans ae) bw
   refine ⟨fun _=>dI,?_⟩
   refine qaw (i:=15) kz (qaV bw dH (k:=0) (d:=59) (t:=34) (e:=37) (size:=5) (bytes:=88) (A:=A0_) (As:=(some ⟨dG,0,none⟩)) (m0:=k0_) (c:=c0_) (m:=1) (cs:=1) (xs:=xs0_) (news:=(z3 bF bK bG.length bL bH bM bI.length bN bO bJ.length bP)) kz kz rfl (qbD (bw.own 1 _ rfl) (qbG kz)) (qbO (bw.own 1 _ rfl)) (by omega) fun bQ bR hJ hK am bW dJ=>?_)
   have dK:=TT.ofW ((al.trans ae).trans am) bW
   refine ⟨fun _=>dK,?_⟩
   refine qaw (i:=16) kz (qaD dJ (t:=34) (A:=(some ⟨aa,0,none⟩)) (m:=1) (q:=0) (d:=60) kz (e:=37) (size:=5) (bytes:=88) (j:=0) kz (b:=aa) (o:=0) rfl rfl (by decide) fun hZ dL=>?_)
   have dM:=dL.recast 60 (.v (.pointer (some ⟨aa,0 + 0 * 5,none⟩))) (.p 2 0) rfl rfl (Nat.le_of_ble_eq_true (n:=3) rfl)
   have dN:=dM.pk (env':=[(0,.p 0 0),(2,.p 1 0),(3,.p 3 0),(20,.v (.int .i64 (((D.f 0).l:Nat):Int))),(21,.v (.int .i64 ((k0_:Nat):Int))),(45,.v (.slice (some ⟨aa,0,none⟩) 1 1)),(50,.v (.slice A0_ k0_ c0_)),(54,.v (.slice ((D.f 0).A) ((D.f 0).l) ((D.f 0).c))),(55,.v (.int .i64 ((k0_:Nat):Int))),(56,.v (.pointer (some ⟨dz,dA + k0_ * 18,none⟩))),(57,.v (.agg #[.int .i64 bF,.slice bK bG.length bL,.bool bH,.slice bM bI.length bN,.slice bO bJ.length bP])),(58,.v (.slice (some ⟨dG,0,none⟩) 1 1)),(59,.v (.slice bQ (k0_ + 1) bR)),(60,.p 2 0)])
   have cE:=TT.ofW ((al.trans ae).trans am) bW
   refine ⟨fun _=>cE,?_⟩
   refine qaJ [17] [(0,.p 0 0),(2,.p 1 0),(3,.p 3 0),(20,.v (.int .i64 (((D.f 0).l:Nat):Int))),(21,.v (.int .i64 ((k0_:Nat):Int))),(59,.v (.slice bQ (k0_ + 1) bR)),(61,.p 2 3)] 1 (qac (qaa (qaa (qac (qaa qag))))) (fun _ h=>h.cells) cE dN fun ia dO=>?_
   refine qaw (i:=18) kz (qat bW dO (oi:=2) (cs:=(z20 D bQ k0_ bR)) kz fun ib aZ cG dP=>?_)
   refine ⟨fun h=>absurd rfl h,?_⟩
   refine qaG kz ?_ _
   refine qau (qab (qas [0,1] kz ?_))
   refine qal [0,1] [] [(0,.p 0 0),(2,.p 1 0),(3,.p 3 0),(20,.v (.int .i64 (((D.f 0).l:Nat):Int))),(21,.v (.int .i64 (IntKind.i64.wrap (((k0_:Nat):Int) + 1))))] cG dP fun ic dQ=>?_
   refine qaf (qab ?_)
   obtain ⟨cH,dR,ba⟩:=cG.cutB dQ 4 (z16 b o D b3 aa bQ k0_ bR bu) [(0,.p 0 0),(2,.p 1 0),(3,.p 3 0),(20,.v (.int .i64 (((D.f 0).l:Nat):Int))),(21,.v (.int .i64 (IntKind.i64.wrap (((k0_:Nat):Int) + 1))))]
   obtain ⟨dS,bd⟩:=dR.cutR 1 [⟨bQ,bR,37,5,k0_ + 1,xs0_ ++ (z3 bF bK bG.length bL bH bM bI.length bN bO bJ.length bP)⟩]
   have dT:IntKind.i64.wrap (((k0_:Nat):Int) + 1) = ((k0_ + 1:Nat):Int):=qaT (by omega)
   rw [dT] at cH
   exact ⟨(D.f 0).l - (k0_ + 1),by omega,k0_ + 1,bQ,bR,xs0_ ++ [Value.int .i64 bF,.slice bK bG.length bL,.bool bH,.slice bM bI.length bN,.slice bO bJ.length bP],(css0_ ++ [[Value.int .i64 bF,.slice bK bG.length bL,.bool bH,.slice bM bI.length bN,.slice bO bJ.length bP]]),rfl,by omega,by rw [qdl (by omega)]; exact (hT0_.move ((((((((((aC.trans ab).trans bE).trans bS).trans dg).trans al).trans ae).trans am).trans aZ).trans ba).trans bd).step immM ((((((((((aC.trans ab).trans bE).trans bS).trans dg).trans al).trans ae).trans am).trans aZ).trans ba).trans bd).to').snoc (x:=(fun i=>qaF ((D.f 0).f i)) k0_) (bU.move ((((ae.trans am).trans aZ).trans ba).trans bd).step immM ((((ae.trans am).trans aZ).trans ba).trans bd).to'),cH.pk,dS,(((((((((((db.trans aC).trans ab).trans bE).trans bS).trans dg).trans al).trans ae).trans am).trans aZ).trans ba).trans bd)⟩
  refine (qat df dr (oi:=4) (cs:=[.bool false]) kz fun ig ac cI dU=>?_)
  have dV:=TT.ofW (ab.trans ac) cI
  refine ⟨fun _=>dV,?_⟩
  refine qaw (i:=1) kz (qat cI dU (oi:=4) (cs:=[.bool true]) kz fun ii af bx dW=>?_)
  have dX:=TT.ofW ((ab.trans ac).trans af) bx
  refine ⟨fun _=>dX,?_⟩
  refine qaw (i:=3) kz (qbm [0,2,3,4,20,21,25] bx.cells dW (env':=[(0,.p 0 0),(2,.p 1 0),(3,.p 3 0),(4,.v (.int .i64 ((k0_:Nat):Int))),(20,.v (.int .i64 (((D.f 0).l:Nat):Int))),(21,.v (.int .i64 ((k0_:Nat):Int))),(25,.v (.bool true))]) kz fun ij cJ=>?_)
  have dY:=TT.ofW ((ab.trans ac).trans af) bx
  refine ⟨fun _=>dY,?_⟩
  refine qaG kz ?_ _
  refine qab (qa2 cJ (b:=true) kz rfl ?_)
  refine qaK 17 kz bx fun ik aA ag bz=>?_
  refine qaJ [0,1,5,6,7,8,9] [(0,.p 0 0),(2,.p 1 0),(3,.p 3 0),(20,.v (.int .i64 (((D.f 0).l:Nat):Int))),(21,.v (.int .i64 ((k0_:Nat):Int))),(27,.v (.slice (some ⟨aa,0,none⟩) 1 1)),(34,.v (.slice ((D.f 0).A) ((D.f 0).l) ((D.f 0).c))),(35,.v (.int .i64 ((k0_:Nat):Int)))] 11 (qaa (qac (qaa (qaa (qac (qaa qag)))))) (fun _ h=>h.cells) bz cJ fun il dZ=>?_
  refine qaQ dZ (i:=2) (t:=34) (A:=(some ⟨aa,0,none⟩)) (m:=1) (q:=0) (d:=28) kz (e:=37) (size:=5) (bytes:=88) (j:=0) kz (b:=aa) (o:=0) rfl rfl (by decide) kz kz (qaa (qac (qaa (qaa (qac (qaa qag)))))) bz fun im d5=>?_
  have d6:=d5.recast 28 (.v (.pointer (some ⟨aa,0 + 0 * 5,none⟩))) (.p 2 0) rfl rfl (Nat.le_of_ble_eq_true (n:=3) rfl)
  have d7:=d6.pk (env':=[(0,.p 0 0),(2,.p 1 0),(3,.p 3 0),(20,.v (.int .i64 (((D.f 0).l:Nat):Int))),(21,.v (.int .i64 ((k0_:Nat):Int))),(27,.v (.slice (some ⟨aa,0,none⟩) 1 1)),(34,.v (.slice ((D.f 0).A) ((D.f 0).l) ((D.f 0).c))),(35,.v (.int .i64 ((k0_:Nat):Int))),(28,.p 2 0)])
  refine qaJ [3,4,12] [(0,.p 0 0),(2,.p 1 0),(3,.p 3 0),(20,.v (.int .i64 (((D.f 0).l:Nat):Int))),(21,.v (.int .i64 ((k0_:Nat):Int))),(27,.v (.slice (some ⟨aa,0,none⟩) 1 1)),(30,.v (.slice A0_ k0_ c0_)),(34,.v (.slice ((D.f 0).A) ((D.f 0).l) ((D.f 0).c))),(35,.v (.int .i64 ((k0_:Nat):Int))),(38,.v (.int .i64 ((k0_:Nat):Int)))] 7 (qaa (qac (qaa (qaa (qac (qaa qag)))))) (fun _ h=>h.cells) bz d7 fun io d8=>?_
  obtain ⟨cB,cC,d9,gm,bX⟩:=Slots.get g1 (i:=k0_) (by omega)
  refine qaQ d8 (i:=10) (t:=204) (A:=(D.f 0).A) (m:=((D.f 0).l)) (q:=((k0_:Nat):Int)) (d:=36) kz (e:=209) (size:=18) (bytes:=48) kz d9 rfl (by omega) kz kz (qaa (qac (qaa (qaa (qac (qaa qag)))))) bz fun ip cK=>?_
  refine qe7 (i:=11) (j:=13) kz ?_ ?_
  ·
   refine (qam cK (f:=203) (vs:=[.pointer (some ⟨cB,cC + k0_ * 18,none⟩)]) (d:=37) kz Tryz.call203 (qa7 0 ((D.f 0).f k0_) _ _ _ _ (bX.move ag.step nilM ag.imm) (qaI _ ag.step nilM ag.imm (g1e k0_ (by omega)))) ?_)
   rintro e_ iq ⟨gn,rfl,ea,bY⟩
   have bZ:=ea.move (Step.refl _ Nil) nilM (ag.laid (G:=F) bY)
   obtain ⟨aD,aE,aF,aG,aH,aI,aJ,aK,aL,aM,aN,gp,gq,b8,fX,fY,ir,iu⟩:=bZ.open_
   rw [b8] at bZ
   have fZ:=fX.small
   have f5:=fY.small
   rw [b8]
   refine ⟨_,rfl,fun iv eb=>?_⟩
   have cL:=ag.next_nil bY
   have ao:=ag.frN bY
   have ec:=TT.ofW ao cL
   refine ⟨fun _=>ec,?_⟩
   refine qaw (i:=13) kz (qbz cL eb (e:=37) (size:=5) (len:=1) (cs:=z1) (d:=39) kz kz fun di iw ix gt gv ah bA ee=>?_)
   have ef:=TT.ofW (ao.trans ah) bA
   refine ⟨fun _=>ef,?_⟩
   refine qaw (i:=14) kz (qaV bA ee (k:=0) (d:=40) (t:=34) (e:=37) (size:=5) (bytes:=88) (A:=A0_) (As:=(some ⟨di,0,none⟩)) (m0:=k0_) (c:=c0_) (m:=1) (cs:=1) (xs:=xs0_) (news:=z1) kz kz rfl (qbD (bA.own 1 _ rfl) (qbG kz)) (qbO (bA.own 1 _ rfl)) (by omega) fun aj ap iy iz ar cd eg=>?_)
   have eh:=TT.ofW ((ao.trans ah).trans ar) cd
   refine ⟨fun _=>eh,?_⟩
   refine qaw (i:=15) kz (qaD eg (t:=34) (A:=(some ⟨aa,0,none⟩)) (m:=1) (q:=0) (d:=41) kz (e:=37) (size:=5) (bytes:=88) (j:=0) kz (b:=aa) (o:=0) rfl rfl (by decide) fun iA ei=>?_)
   have ej:=ei.recast 41 (.v (.pointer (some ⟨aa,0 + 0 * 5,none⟩))) (.p 2 0) rfl rfl (Nat.le_of_ble_eq_true (n:=3) rfl)
   have ek:=ej.pk (env':=[(0,.p 0 0),(2,.p 1 0),(3,.p 3 0),(20,.v (.int .i64 (((D.f 0).l:Nat):Int))),(21,.v (.int .i64 ((k0_:Nat):Int))),(27,.v (.slice (some ⟨aa,0,none⟩) 1 1)),(30,.v (.slice A0_ k0_ c0_)),(34,.v (.slice ((D.f 0).A) ((D.f 0).l) ((D.f 0).c))),(35,.v (.int .i64 ((k0_:Nat):Int))),(38,.v (.int .i64 ((k0_:Nat):Int))),(36,.v (.pointer (some ⟨cB,cC + k0_ * 18,none⟩))),(37,.v (.agg #[.int .i64 aD,.slice aI aE.length aJ,.bool aF,.slice aK aG.length aL,.slice aM aH.length aN])),(39,.v (.slice (some ⟨di,0,none⟩) 1 1)),(40,.v (.slice aj (k0_ + 1) ap)),(41,.p 2 0)])
   have cM:=TT.ofW ((ao.trans ah).trans ar) cd
   refine ⟨fun _=>cM,?_⟩
   refine qaJ [16] [(0,.p 0 0),(2,.p 1 0),(3,.p 3 0),(20,.v (.int .i64 (((D.f 0).l:Nat):Int))),(21,.v (.int .i64 ((k0_:Nat):Int))),(37,.v (.agg #[.int .i64 aD,.slice aI aE.length aJ,.bool aF,.slice aK aG.length aL,.slice aM aH.length aN])),(38,.v (.int .i64 ((k0_:Nat):Int))),(40,.v (.slice aj (k0_ + 1) ap)),(42,.p 2 3)] 1 (qaa (qac (qaa (qaa (qac (qaa qag)))))) (fun _ h=>h.cells) cM ek fun iB em=>?_
   refine qaw (i:=17) kz (qat cd em (oi:=2) (cs:=(z20 D aj k0_ ap)) kz fun f7 bf cN eo=>?_)
   refine ⟨fun h=>absurd rfl h,?_⟩
   refine qaG kz ?_ _
   refine qab (qas [0,1] kz ?_)
   have ep:World.ownsRow f7 0 37 5 (.slice aj (k0_ + 1) ap) (k0_ + 1) (xs0_ ++ z1):=cN.own 0 _ rfl
   obtain ⟨eu,cO⟩:=qce ep (by omega)
   refine qan (qaD eo (t:=34) (A:=aj) (m:=(k0_ + 1)) (q:=((k0_:Nat):Int)) (d:=43) kz (e:=37) (size:=5) (bytes:=88) kz (b:=eu) (o:=0) (j:=k0_) cO (rfl) (by omega) fun iC ev=>?_)
   refine qan (qci cN ev (k:=0) (g:=eu) (o:=k0_ * 5) (c:=ap) (m:=(k0_ + 1)) (size:=5) (e:=37) (A:=aj) (xs:=(xs0_ ++ [.int .i64 0,.slice none 0 0,.bool false,.slice none 0 0,.slice none 0 0])) (vs:=[.int .i64 aD,.slice aI aE.length aJ,.bool aF,.slice aK aG.length aL,.slice aM aH.length aN]) kz rfl cO (by simp only [List.length_cons,List.length_nil]; omega) fun iD bg ew ey=>?_)
   have ez:(⟨aj,ap,37,5,k0_ + 1,qbo (xs0_ ++ [.int .i64 0,.slice none 0 0,.bool false,.slice none 0 0,.slice none 0 0]) (k0_ * 5) [.int .i64 aD,.slice aI aE.length aJ,.bool aF,.slice aK aG.length aL,.slice aM aH.length aN]⟩:Rw) = ⟨aj,ap,37,5,k0_ + 1,xs0_ ++ [.int .i64 aD,.slice aI aE.length aJ,.bool aF,.slice aK aG.length aL,.slice aM aH.length aN]⟩:=by rw [qek (by rw [hT0_.xslen,List.length_take,qc4]; omega)]
   obtain ⟨cP,bh⟩:=ew.rowEq 0 [⟨aj,ap,37,5,k0_ + 1,xs0_ ++ (z3 aD aI aE.length aJ aF aK aG.length aL aM aH.length aN)⟩,⟨some ⟨di,0,none⟩,1,37,5,1,z1⟩] ez
   refine qaf (qau (qab (qas [0,1] kz ?_)))
   refine qal [0,1] [] [(0,.p 0 0),(2,.p 1 0),(3,.p 3 0),(20,.v (.int .i64 (((D.f 0).l:Nat):Int))),(21,.v (.int .i64 (IntKind.i64.wrap (((k0_:Nat):Int) + 1))))] cP ey fun iE eB=>?_
   refine qaf (qab ?_)
   obtain ⟨cQ,eC,bi⟩:=cP.cutB eB 4 (z16 b o D b3 aa aj k0_ ap bu) [(0,.p 0 0),(2,.p 1 0),(3,.p 3 0),(20,.v (.int .i64 (((D.f 0).l:Nat):Int))),(21,.v (.int .i64 (IntKind.i64.wrap (((k0_:Nat):Int) + 1))))]
   obtain ⟨eD,bj⟩:=eC.cutR 1 [⟨aj,ap,37,5,k0_ + 1,xs0_ ++ (z3 aD aI aE.length aJ aF aK aG.length aL aM aH.length aN)⟩]
   have eE:IntKind.i64.wrap (((k0_:Nat):Int) + 1) = ((k0_ + 1:Nat):Int):=qaT (by omega)
   rw [eE] at cQ
   exact ⟨(D.f 0).l - (k0_ + 1),by omega,k0_ + 1,aj,ap,xs0_ ++ [Value.int .i64 aD,.slice aI aE.length aJ,.bool aF,.slice aK aG.length aL,.slice aM aH.length aN],(css0_ ++ [[Value.int .i64 aD,.slice aI aE.length aJ,.bool aF,.slice aK aG.length aL,.slice aM aH.length aN]]),rfl,by omega,by rw [qdl (by omega)]; exact (hT0_.move ((((((((((((aC.trans ab).trans ac).trans af).trans aA).trans ao).trans ah).trans ar).trans bf).trans bg).trans bh).trans bi).trans bj).step immM ((((((((((((aC.trans ab).trans ac).trans af).trans aA).trans ao).trans ah).trans ar).trans bf).trans bg).trans bh).trans bi).trans bj).to').snoc (x:=(fun i=>qaF ((D.f 0).f i)) k0_) (bZ.move ((((((ah.trans ar).trans bf).trans bg).trans bh).trans bi).trans bj).step immM ((((((ah.trans ar).trans bf).trans bg).trans bh).trans bi).trans bj).to'),cQ.pk,eD,(((((((((((((db.trans aC).trans ab).trans ac).trans af).trans aA).trans ao).trans ah).trans ar).trans bf).trans bg).trans bh).trans bi).trans bj)⟩
  refine (qbz ag cK (e:=37) (size:=5) (len:=1) (cs:=z1) (d:=39) kz kz fun dj iF iG gw gx au ai eF=>?_)
  have eG:=TT.ofW au ai
  refine ⟨fun _=>eG,?_⟩
  refine qaw (i:=11) kz (qam eF (f:=203) (vs:=[.pointer (some ⟨cB,cC + k0_ * 18,none⟩)]) (d:=37) kz Tryz.call203 (qa7 0 ((D.f 0).f k0_) _ _ _ _ (bX.move ai.step nilM ai.imm) (qaI _ ai.step nilM ai.imm (g1e k0_ (by omega)))) ?_)
  rintro e_ iH ⟨gy,rfl,eH,ce⟩
  have cm:=eH.move (Step.refl _ Nil) nilM (ai.laid (G:=F) ce)
  obtain ⟨aO,aP,aQ,aR,aS,aT,aU,aV,aW,aX,aY,gz,gA,cq,f8,ga,iI,iJ⟩:=cm.open_
  rw [cq] at cm
  have gb:=f8.small
  have gc:=ga.small
  rw [cq]
  refine ⟨_,rfl,fun iK eI=>?_⟩
  have bB:=ai.next_nil ce
  have aB:=ai.frN ce
  have eJ:=TT.ofW (au.trans aB) bB
  refine ⟨fun _=>eJ,?_⟩
  refine qaw (i:=14) kz (qaV bB eI (k:=0) (d:=40) (t:=34) (e:=37) (size:=5) (bytes:=88) (A:=A0_) (As:=(some ⟨dj,0,none⟩)) (m0:=k0_) (c:=c0_) (m:=1) (cs:=1) (xs:=xs0_) (news:=z1) kz kz rfl (qbD (bB.own 1 _ rfl) (qbG kz)) (qbO (bB.own 1 _ rfl)) (by omega) fun ak av iL iM aw cr eK=>?_)
  have eL:=TT.ofW ((au.trans aB).trans aw) cr
  refine ⟨fun _=>eL,?_⟩
  refine qaw (i:=15) kz (qaD eK (t:=34) (A:=(some ⟨aa,0,none⟩)) (m:=1) (q:=0) (d:=41) kz (e:=37) (size:=5) (bytes:=88) (j:=0) kz (b:=aa) (o:=0) rfl rfl (by decide) fun iN eM=>?_)
  have eN:=eM.recast 41 (.v (.pointer (some ⟨aa,0 + 0 * 5,none⟩))) (.p 2 0) rfl rfl (Nat.le_of_ble_eq_true (n:=3) rfl)
  have eO:=eN.pk (env':=[(0,.p 0 0),(2,.p 1 0),(3,.p 3 0),(20,.v (.int .i64 (((D.f 0).l:Nat):Int))),(21,.v (.int .i64 ((k0_:Nat):Int))),(27,.v (.slice (some ⟨aa,0,none⟩) 1 1)),(30,.v (.slice A0_ k0_ c0_)),(34,.v (.slice ((D.f 0).A) ((D.f 0).l) ((D.f 0).c))),(35,.v (.int .i64 ((k0_:Nat):Int))),(38,.v (.int .i64 ((k0_:Nat):Int))),(36,.v (.pointer (some ⟨cB,cC + k0_ * 18,none⟩))),(39,.v (.slice (some ⟨dj,0,none⟩) 1 1)),(37,.v (.agg #[.int .i64 aO,.slice aT aP.length aU,.bool aQ,.slice aV aR.length aW,.slice aX aS.length aY])),(40,.v (.slice ak (k0_ + 1) av)),(41,.p 2 0)])
  have cR:=TT.ofW ((au.trans aB).trans aw) cr
  refine ⟨fun _=>cR,?_⟩
  refine qaJ [16] [(0,.p 0 0),(2,.p 1 0),(3,.p 3 0),(20,.v (.int .i64 (((D.f 0).l:Nat):Int))),(21,.v (.int .i64 ((k0_:Nat):Int))),(37,.v (.agg #[.int .i64 aO,.slice aT aP.length aU,.bool aQ,.slice aV aR.length aW,.slice aX aS.length aY])),(38,.v (.int .i64 ((k0_:Nat):Int))),(40,.v (.slice ak (k0_ + 1) av)),(42,.p 2 3)] 1 (qaa (qac (qaa (qaa (qac (qaa qag)))))) (fun _ h=>h.cells) cR eO fun iO eP=>?_
  refine qaw (i:=17) kz (qat cr eP (oi:=2) (cs:=(z20 D ak k0_ av)) kz fun gd bk cS eQ=>?_)
  refine ⟨fun h=>absurd rfl h,?_⟩
  refine qaG kz ?_ _
  refine qab (qas [0,1] kz ?_)
  have eR:World.ownsRow gd 0 37 5 (.slice ak (k0_ + 1) av) (k0_ + 1) (xs0_ ++ z1):=cS.own 0 _ rfl
  obtain ⟨eS,cT⟩:=qce eR (by omega)
  refine qan (qaD eQ (t:=34) (A:=ak) (m:=(k0_ + 1)) (q:=((k0_:Nat):Int)) (d:=43) kz (e:=37) (size:=5) (bytes:=88) kz (b:=eS) (o:=0) (j:=k0_) cT (rfl) (by omega) fun iP eU=>?_)
  refine qan (qci cS eU (k:=0) (g:=eS) (o:=k0_ * 5) (c:=av) (m:=(k0_ + 1)) (size:=5) (e:=37) (A:=ak) (xs:=(xs0_ ++ [.int .i64 0,.slice none 0 0,.bool false,.slice none 0 0,.slice none 0 0])) (vs:=[.int .i64 aO,.slice aT aP.length aU,.bool aQ,.slice aV aR.length aW,.slice aX aS.length aY]) kz rfl cT (by simp only [List.length_cons,List.length_nil]; omega) fun iQ bn eV eW=>?_)
  have eX:(⟨ak,av,37,5,k0_ + 1,qbo (xs0_ ++ [.int .i64 0,.slice none 0 0,.bool false,.slice none 0 0,.slice none 0 0]) (k0_ * 5) [.int .i64 aO,.slice aT aP.length aU,.bool aQ,.slice aV aR.length aW,.slice aX aS.length aY]⟩:Rw) = ⟨ak,av,37,5,k0_ + 1,xs0_ ++ [.int .i64 aO,.slice aT aP.length aU,.bool aQ,.slice aV aR.length aW,.slice aX aS.length aY]⟩:=by rw [qek (by rw [hT0_.xslen,List.length_take,qc4]; omega)]
  obtain ⟨cU,bo⟩:=eV.rowEq 0 [⟨ak,av,37,5,k0_ + 1,xs0_ ++ (z3 aO aT aP.length aU aQ aV aR.length aW aX aS.length aY)⟩,⟨some ⟨dj,0,none⟩,1,37,5,1,z1⟩] eX
  refine qaf (qau (qab (qas [0,1] kz ?_)))
  refine qal [0,1] [] [(0,.p 0 0),(2,.p 1 0),(3,.p 3 0),(20,.v (.int .i64 (((D.f 0).l:Nat):Int))),(21,.v (.int .i64 (IntKind.i64.wrap (((k0_:Nat):Int) + 1))))] cU eW fun iR eY=>?_
  refine qaf (qab ?_)
  obtain ⟨cV,eZ,bp⟩:=cU.cutB eY 4 (z16 b o D b3 aa ak k0_ av bu) [(0,.p 0 0),(2,.p 1 0),(3,.p 3 0),(20,.v (.int .i64 (((D.f 0).l:Nat):Int))),(21,.v (.int .i64 (IntKind.i64.wrap (((k0_:Nat):Int) + 1))))]
  obtain ⟨e9,bq⟩:=eZ.cutR 1 [⟨ak,av,37,5,k0_ + 1,xs0_ ++ (z3 aO aT aP.length aU aQ aV aR.length aW aX aS.length aY)⟩]
  have fb:IntKind.i64.wrap (((k0_:Nat):Int) + 1) = ((k0_ + 1:Nat):Int):=qaT (by omega)
  rw [fb] at cV
  exact ⟨(D.f 0).l - (k0_ + 1),by omega,k0_ + 1,ak,av,xs0_ ++ [Value.int .i64 aO,.slice aT aP.length aU,.bool aQ,.slice aV aR.length aW,.slice aX aS.length aY],(css0_ ++ [[Value.int .i64 aO,.slice aT aP.length aU,.bool aQ,.slice aV aR.length aW,.slice aX aS.length aY]]),rfl,by omega,by rw [qdl (by omega)]; exact (hT0_.move ((((((((((((aC.trans ab).trans ac).trans af).trans aA).trans au).trans aB).trans aw).trans bk).trans bn).trans bo).trans bp).trans bq).step immM ((((((((((((aC.trans ab).trans ac).trans af).trans aA).trans au).trans aB).trans aw).trans bk).trans bn).trans bo).trans bp).trans bq).to').snoc (x:=(fun i=>qaF ((D.f 0).f i)) k0_) (cm.move (((((aw.trans bk).trans bn).trans bo).trans bp).trans bq).step immM (((((aw.trans bk).trans bn).trans bo).trans bp).trans bq).to'),cV.pk,e9,(((((((((((((db.trans aC).trans ab).trans ac).trans af).trans aA).trans au).trans aB).trans aw).trans bk).trans bn).trans bo).trans bp).trans bq)⟩
 have gB:=of_decide_eq_false de
 refine wp_exit (qaC (qaC (qaS (qab (qae [0,1,2,3,4] kz ?_)))))
 refine qal [0,1,2] [3,4] [(2,.p 1 0),(3,.p 3 0),(65,.p 0 1)] ax dc fun iS fe=>?_
 refine qan (qe0 fe (v:=.func (.func 204) #[] #[.pointer (some ⟨bu,0,none⟩)]) (d:=66) kz fun iT ff=>?_)
 refine qan (qam ff (f:=103) (vs:=[.pointer (some ⟨b,o + 1,none⟩),.func (.func 204) #[] #[.pointer (some ⟨bu,0,none⟩)]]) (d:=67) kz Tryz.call103 (qfv (F:=(Imm F w gM [⟨b,o,(z54 D),false⟩,⟨b3,0,z1,true⟩,⟨aa,0,[.int .i64 0,.slice none 0 0,.bool (((D.f 0).A).isNone),.slice A0_ k0_ c0_,.slice none 0 0],true⟩,⟨bu,0,(z23 aa),true⟩] [⟨A0_,c0_,37,5,k0_,xs0_⟩])) Tryz.call204 qb3 ((hat.one 1 rfl).move ax.step nilM ax.imm) (g2.move ax.step nilM ax.imm) (Str.of ax 3 rfl) (qkl 3 rfl) g2l) ?_)
 rintro e_ iU ⟨rfl,ay,az,dl,fg,fh⟩
 obtain ⟨cu,cW,fi⟩:=ax.wrote 3 [⟨b,o,(z54 D),false⟩,⟨b3,0,z1,true⟩,⟨aa,0,[.int .i64 0,.slice none 0 0,.bool (((D.f 0).A).isNone),.slice A0_ k0_ c0_,.slice none 0 0],true⟩,⟨bu,0,[.int .i64 0,.slice none 0 0,.bool false,.slice (some ⟨aa,0,none⟩) 1 1,.slice ay D.u.length az],true⟩] rfl fh dl
 have cX:=fg.move (Step.refl _ Nil) nilM (fun b_ o_ h_ hb_=>fi (G:=F) b_ o_ (.inr h_) hb_)
 refine ⟨_,rfl,fun iV fj=>?_⟩
 have fk:=(EnvOk.places (tb':=[⟨b,o,[.slice ((D.f 0).A) ((D.f 0).l) ((D.f 0).c),.map D.m],false⟩,⟨b3,0,[.int .i64 0,.slice none 0 0,.bool false,.slice none 0 0,.slice none 0 0],true⟩,⟨aa,0,[.int .i64 0,.slice none 0 0,.bool (((D.f 0).A).isNone),.slice A0_ k0_ c0_,.slice none 0 0],true⟩,⟨bu,0,[.int .i64 0,.slice none 0 0,.bool false,.slice (some ⟨aa,0,none⟩) 1 1,.slice ay D.u.length az],true⟩]) fj (show Pl [⟨b,o,[.slice ((D.f 0).A) ((D.f 0).l) ((D.f 0).c),.map D.m],false⟩,⟨b3,0,[.int .i64 0,.slice none 0 0,.bool false,.slice none 0 0,.slice none 0 0],true⟩,⟨aa,0,[.int .i64 0,.slice none 0 0,.bool (((D.f 0).A).isNone),.slice A0_ k0_ c0_,.slice none 0 0],true⟩,⟨bu,0,[.int .i64 0,.slice none 0 0,.bool false,.slice (some ⟨aa,0,none⟩) 1 1,.slice none 0 0],true⟩] [⟨b,o,[.slice ((D.f 0).A) ((D.f 0).l) ((D.f 0).c),.map D.m],false⟩,⟨b3,0,[.int .i64 0,.slice none 0 0,.bool false,.slice none 0 0,.slice none 0 0],true⟩,⟨aa,0,[.int .i64 0,.slice none 0 0,.bool (((D.f 0).A).isNone),.slice A0_ k0_ c0_,.slice none 0 0],true⟩,⟨bu,0,[.int .i64 0,.slice none 0 0,.bool false,.slice (some ⟨aa,0,none⟩) 1 1,.slice ay D.u.length az],true⟩] from ⟨rfl,rfl,⟨rfl,rfl,⟨rfl,rfl,⟨rfl,rfl,trivial⟩⟩⟩⟩)).pk (env':=[(67,.v (.tuple #[])),(2,.p 1 0),(3,.p 3 0),(65,.p 0 1),(66,.v (.func (.func 204) #[] #[.pointer (some ⟨bu,0,none⟩)]))])
 refine qaf (qab ?_)
 refine qae [0,1,2] kz ?_
 refine qal [0,1] [2] [(2,.p 1 0),(3,.p 3 0),(69,.v (.slice ay D.u.length az))] cu fk fun iW fm=>?_
 refine qan (qam fm (f:=105) (vs:=[.slice ay D.u.length az]) (d:=70) kz Tryz.call105 (qhn cX g2.sorted) ?_)
 rintro e_ iX ⟨rfl,cY⟩
 refine ⟨_,rfl,fun iY fo=>?_⟩
 have cZ:=cu.next_nil cY
 have bC:=cu.frN cY
 refine qaf (qab ?_)
 refine qae [0,1] kz ?_
 refine qal [0] [1] [(2,.p 1 0),(71,.v (.agg #[.int .i64 0,.slice none 0 0,.bool false,.slice (some ⟨aa,0,none⟩) 1 1,.slice ay D.u.length az]))] cZ fo fun iZ fq=>?_
 refine qan (qat cZ fq (oi:=1) (cs:=[.int .i64 0,.slice none 0 0,.bool false,.slice (some ⟨aa,0,none⟩) 1 1,.slice ay D.u.length az]) kz fun ge bD cw fr=>?_)
 refine qaf (qab ?_)
 refine wp_ret (qaL fr cw.cells (v:=.agg #[.int .i64 0,.slice none 0 0,.bool false,.slice (some ⟨aa,0,none⟩) 1 1,.slice ay D.u.length az]) kz ?_)
 have c5:=(hT0_.move ((cW.trans bC).trans bD).step immM ((cW.trans bC).trans bD).to')
 rw [qhQ (by omega)] at c5
 exact qgf (u:=D.u) (l:=[.mk 0 [] (D.f 0).A.isNone ((List.range (D.f 0).l).map fun i=>qaF ((D.f 0).f i)) []]) (css:=[[.int .i64 0,.slice none 0 0,.bool (((D.f 0).A).isNone),.slice A0_ k0_ c0_,.slice none 0 0]]) cw 2 rfl ⟨qgX cw (k:=0) rfl c5 (by rw [qc4]; omega) (by rw [qc4]; omega),trivial⟩ ((show TagsR _ (Imm F w ge [⟨b,o,[.slice ((D.f 0).A) ((D.f 0).l) ((D.f 0).c),.map D.m],false⟩,⟨b3,0,[.int .i64 0,.slice none 0 0,.bool false,.slice (some ⟨aa,0,none⟩) 1 1,.slice ay D.u.length az],true⟩,⟨aa,0,[.int .i64 0,.slice none 0 0,.bool (((D.f 0).A).isNone),.slice A0_ k0_ c0_,.slice none 0 0],true⟩,⟨bu,0,[.int .i64 0,.slice none 0 0,.bool false,.slice (some ⟨aa,0,none⟩) 1 1,.slice ay D.u.length az],true⟩] [⟨A0_,c0_,37,5,k0_,xs0_⟩]) _ _ _ from (cX.move (bC.trans bD).step immM (bC.trans bD).to')).move (Step.refl _ Nil) nilM qbL)
theorem qb0 (w:World) (F:Nat → Nat → Prop):Calls Tryz.prog 137 #[.pointer none] w (qdg w F (.mk 0 [] true [] [])):=by
 refine enter (n:=8) Tryz.func137 rfl Tryz.ntmps137 kz fun a hE=>?_
 have hW:=WOk.start w Nil
 refine qae [0] kz ?_
 refine qan (qaP hW hE (d:=2) (cs:=z1) kz fun b1 a2 w3 hb4 hz5 hF6 hW7 hE8=>?_)
 refine qaf (qab ?_)
 refine wp_seq (qap [(0,.v (.pointer none)),(2,.p 0 0),(4,.v (.bool true))] hW7 hE8 fun a9 aa=>?_)
 refine qa2 aa (b:=true) kz rfl ?_
 refine qae [0,1] kz ?_
 refine qal [0] [1] [(2,.p 0 0),(5,.v (.agg #[.int .i64 0,.slice none 0 0,.bool true,.slice none 0 0,.slice none 0 0]))] hW7 aa fun ah ac=>?_
 refine qan (qat hW7 ac (oi:=0) (cs:=[.int .i64 0,.slice none 0 0,.bool true,.slice none 0 0,.slice none 0 0]) kz fun af ag ab ae=>?_)
 refine qaf (qab ?_)
 refine wp_ret (qaq (qaL ae ab.cells (v:=.agg #[.int .i64 0,.slice none 0 0,.bool true,.slice none 0 0,.slice none 0 0]) kz ?_))
 exact ⟨_,rfl,(show TreeR _ (Imm F w af [⟨b1,0,[.int .i64 0,.slice none 0 0,.bool true,.slice none 0 0,.slice none 0 0],true⟩] []) _ (Tree.mk 0 [] true [] []) from (TreeR.mk (n:=0) (b:=true) (s:=[]) (l:=[]) (u:=[]) (fun _=>[]) (Octs.nil _ _) (Slots.nil _ _ _ _) (fun i_ x_ h_=>by simp at h_) (TagsR.nil _ _))).move (Step.refl _ Nil) nilM qbL,ab.step⟩
theorem qb1 (D:DV) (b o:Nat) (w:World) (F:Nat → Nat → Prop) (hat:AtF w F b o [.slice ((D.f 0).A) ((D.f 0).l) ((D.f 0).c),.map D.m]) (hok:qaO w F D):Calls Tryz.prog 137 #[.pointer (some ⟨b,o,none⟩)] w (qdg w F (qaU D)):=by
 refine enter (n:=8) Tryz.func137 rfl Tryz.ntmps137 kz fun a hE=>?_
 have hW:=WOk.start w Nil
 refine qae [0] kz ?_
 refine qan (qaP hW hE (d:=2) (cs:=z1) kz fun b1 a2 w3 hb4 hz5 hF6 hW7 hE8=>?_)
 refine qaf (qab ?_)
 refine wp_seq (qap [(0,.v (.pointer (some ⟨b,o,none⟩))),(2,.p 0 0),(4,.v (.bool false))] hW7 hE8 fun a9 ae=>?_)
 refine qar ae (b:=false) kz rfl ?_
 refine wp_skip (qab (qae [0,1,2] kz ?_))
 refine qal [0] [1,2] [(2,.p 0 0),(6,.v (.pointer (some ⟨b,o,none⟩)))] hW7 ae fun aK ah=>?_
 refine qan (qam ah (f:=187) (vs:=[.pointer (some ⟨b,o,none⟩)]) (d:=7) kz Tryz.call187 (qb8 0 D _ _ _ (Imm F w w3 [⟨b1,0,z1,true⟩] []) (hat.move hW7.step nilM hW7.imm) (qbn _ hW7.step nilM hW7.imm hok)) ?_)
 rintro e_ aL ⟨aD,rfl,ai,ab⟩
 have ac:=ai.move (Step.refl _ Nil) nilM (hW7.laid (G:=F) ab)
 obtain ⟨aj,ak,al,am,ao,ap,ar,au,av,aw,ax,aE,aF,aa,aG,aH,aM,aN⟩:=ac.open_
 rw [aa] at ac
 have aB:=aG.small
 have aC:=aH.small
 rw [aa]
 refine ⟨_,rfl,fun aO ay=>?_⟩
 have az:=hW7.next_nil ab
 have aI:=hW7.frN ab
 refine qan (qat az ay (oi:=0) (cs:=(z3 aj ap ak.length ar al au am.length av aw ao.length ax)) kz fun aJ af ag aA=>?_)
 refine qaf (qab ?_)
 refine wp_ret (qaL aA ag.cells (v:=.agg #[.int .i64 aj,.slice ap ak.length ar,.bool al,.slice au am.length av,.slice aw ao.length ax]) kz ?_)
 exact ⟨_,rfl,(show TreeR _ (Imm F w aJ [⟨b1,0,[.int .i64 aj,.slice ap ak.length ar,.bool al,.slice au am.length av,.slice aw ao.length ax],true⟩] []) _ (qaU D) from (ac.move af.step immM af.to')).move (Step.refl _ Nil) nilM qbL,ag.step⟩
theorem qb9 (D:DV) (w:World) (F:Nat → Nat → Prop) (hO:∀ ad,D.A = some ad → (∃ b o,ad = ⟨b,o,none⟩ ∧ AtF w F b o [.slice ((D.f 0).A) ((D.f 0).l) ((D.f 0).c),.map D.m]) ∧ qaO w F D):Calls Tryz.prog 137 #[.pointer D.A] w (qdg w F (if D.A.isNone = true then .mk 0 [] true [] [] else qaU D)):=by
 cases hA:D.A with
 | none=>exact qb0 w F
 | some ad =>
  obtain ⟨⟨b,o,rfl,h⟩,h2⟩:=hO ad hA
  exact qb1 D b o w F h h2
abbrev z6 (x0) (x1:DV):=([.int .i16 x0,.int .i32 ((x1.f 0).n),.int .i16 ((x1.f 1).n),.pointer ((x1.f 2).A),.pointer ((x1.f 3).A),.int .i32 ((x1.f 4).n),.int .i32 ((x1.f 5).n),.pointer ((x1.f 6).A),.map x1.m]:List Value)
abbrev z24 (x0):=([.int .i64 0,.slice none 0 0,.bool false,.slice (some ⟨x0,0,none⟩) 7 7,.slice none 0 0]:List Value)
set_option maxHeartbeats 4000000 in
theorem qcK (v:Int) (D:DV) (b o:Nat) (w:World) (F:Nat → Nat → Prop) (hat:AtF w F b o [.int .i16 v,.int .i32 ((D.f 0).n),.int .i16 ((D.f 1).n),.pointer ((D.f 2).A),.pointer ((D.f 3).A),.int .i32 ((D.f 4).n),.int .i32 ((D.f 5).n),.pointer ((D.f 6).A),.map D.m]) (hok:qbb w F D):Calls Tryz.prog 96 #[.pointer (some ⟨b,o,none⟩)] w (qdg w F (qa4 D)):=by
 refine enter (n:=75) Tryz.func96 rfl Tryz.ntmps96 kz fun a hE=>?_
 have hW:WOk w Nil w [⟨b,o,(z6 v D),false⟩] []:=(WOk.start w Nil).start1 hat rfl rfl
 unfold qbb at hok
 obtain ⟨g1,g2,⟨g3,g3l⟩,⟨g4,g4l⟩,g5,g6,g7,g8,g8l,g8x,_⟩:=hok
 have hE0:=(EnvOk.ptr0 (cs:=(z6 v D)) (r:=false) hE).pk (env':=[(0,.p 0 0)])
 refine qae [0] kz ?_
 refine qan (qaP hW hE0 (d:=2) (cs:=z1) kz fun b9 fk fm d8 d9 ea df dg=>?_)
 refine qaf (qab ?_)
 refine qae [0,1,2,3] kz ?_
 refine qan (qeQ (t:=34) (e:=37) (size:=5) (bytes:=88) (d:=4) (j:=7) (.agg #[.int .i64 0,.slice none 0 0,.bool false,.slice none 0 0,.slice none 0 0]) (.int .i64 0 :: .slice none 0 0 :: .bool false :: .slice none 0 0 :: .slice none 0 0 :: .int .i64 0 :: .slice none 0 0 :: .bool false :: .slice none 0 0 :: .slice none 0 0 :: .int .i64 0 :: .slice none 0 0 :: .bool false :: .slice none 0 0 :: .slice none 0 0 :: .int .i64 0 :: .slice none 0 0 :: .bool false :: .slice none 0 0 :: .slice none 0 0 :: .int .i64 0 :: .slice none 0 0 :: .bool false :: .slice none 0 0 :: .slice none 0 0 :: .int .i64 0 :: .slice none 0 0 :: .bool false :: .slice none 0 0 :: .slice none 0 0 :: .int .i64 0 :: .slice none 0 0 :: .bool false :: .slice none 0 0 :: .slice none 0 0 :: []) df dg fun aa fo fq eb ec ee bP dh=>?_)
 refine qal [1] [2,3] [(0,.p 0 0),(2,.p 1 0),(5,.v (.agg #[.int .i64 0,.slice none 0 0,.bool false,.slice (some ⟨aa,0,none⟩) 7 7,.slice none 0 0]))] bP dh fun fr di=>?_
 refine qan (qaP bP di (d:=3) (cs:=z1) kz fun aV ft fv ef eg eh dj dl=>?_)
 refine qan (qat dj dl (oi:=3) (cs:=(z24 aa)) kz fun fw ei dp dq=>?_)
 refine qaf (qab ?_)
 refine qaK 9 kz dp fun fx ej dr bQ=>?_
 refine qaJ [0,1,2,3,4,5,6,7] [(0,.p 0 0),(2,.p 1 0),(3,.p 3 0),(7,.v (.slice (some ⟨aa,0,none⟩) 7 7)),(13,.v (.agg #[.int .i64 (IntKind.i64.wrap ((D.f 0).n)),.slice none 0 0,.bool false,.slice none 0 0,.slice none 0 0]))] 2 (qaa qag) (fun _ h=>h.cells) bQ dq fun fy dt=>?_
 refine qaQ dt (i:=8) (t:=34) (A:=(some ⟨aa,0,none⟩)) (m:=7) (q:=0) (d:=14) kz (e:=37) (size:=5) (bytes:=88) (j:=0) kz (b:=aa) (o:=0) rfl rfl (by decide) kz kz (qaa qag) bQ fun fz du=>?_
 have dv:=du.recast 14 (.v (.pointer (some ⟨aa,0 + 0 * 5,none⟩))) (.p 2 0) rfl rfl (Nat.le_of_ble_eq_true (n:=3) rfl)
 have dw:=dv.pk (env':=[(0,.p 0 0),(2,.p 1 0),(3,.p 3 0),(7,.v (.slice (some ⟨aa,0,none⟩) 7 7)),(13,.v (.agg #[.int .i64 (IntKind.i64.wrap ((D.f 0).n)),.slice none 0 0,.bool false,.slice none 0 0,.slice none 0 0])),(14,.p 2 0)])
 refine qaw (i:=9) kz (qat dr dw (oi:=2) (cs:=(.int .i64 (IntKind.i64.wrap ((D.f 0).n)) :: .slice none 0 0 :: .bool false :: .slice none 0 0 :: .slice none 0 0 :: .int .i64 0 :: .slice none 0 0 :: .bool false :: .slice none 0 0 :: .slice none 0 0 :: .int .i64 0 :: .slice none 0 0 :: .bool false :: .slice none 0 0 :: .slice none 0 0 :: .int .i64 0 :: .slice none 0 0 :: .bool false :: .slice none 0 0 :: .slice none 0 0 :: .int .i64 0 :: .slice none 0 0 :: .bool false :: .slice none 0 0 :: .slice none 0 0 :: .int .i64 0 :: .slice none 0 0 :: .bool false :: .slice none 0 0 :: .slice none 0 0 :: .int .i64 0 :: .slice none 0 0 :: .bool false :: .slice none 0 0 :: .slice none 0 0 :: [])) kz fun fA ek dx dy=>?_)
 refine ⟨fun h=>absurd rfl h,?_⟩
 refine qaG kz ?_ _
 refine qab (qaK 9 kz dx fun fB em dz bR=>?_)
 refine qaJ [0,1,2,3,4,5,6,7] [(0,.p 0 0),(2,.p 1 0),(3,.p 3 0),(16,.v (.slice (some ⟨aa,0,none⟩) 7 7)),(22,.v (.agg #[.int .i64 (IntKind.i64.wrap ((D.f 1).n)),.slice none 0 0,.bool false,.slice none 0 0,.slice none 0 0]))] 2 (qaa qag) (fun _ h=>h.cells) bR dy fun fC dA=>?_
 refine qaQ dA (i:=8) (t:=34) (A:=(some ⟨aa,0,none⟩)) (m:=7) (q:=1) (d:=23) kz (e:=37) (size:=5) (bytes:=88) (j:=1) kz (b:=aa) (o:=0) rfl rfl (by decide) kz kz (qaa qag) bR fun fD dB=>?_
 have dC:=dB.recast 23 (.v (.pointer (some ⟨aa,0 + 1 * 5,none⟩))) (.p 2 5) rfl rfl (Nat.le_of_ble_eq_true (n:=3) rfl)
 have dD:=dC.pk (env':=[(0,.p 0 0),(2,.p 1 0),(3,.p 3 0),(16,.v (.slice (some ⟨aa,0,none⟩) 7 7)),(22,.v (.agg #[.int .i64 (IntKind.i64.wrap ((D.f 1).n)),.slice none 0 0,.bool false,.slice none 0 0,.slice none 0 0])),(23,.p 2 5)])
 refine qaw (i:=9) kz (qat dz dD (oi:=2) (cs:=(.int .i64 (IntKind.i64.wrap ((D.f 0).n)) :: .slice none 0 0 :: .bool false :: .slice none 0 0 :: .slice none 0 0 :: .int .i64 (IntKind.i64.wrap ((D.f 1).n)) :: .slice none 0 0 :: .bool false :: .slice none 0 0 :: .slice none 0 0 :: .int .i64 0 :: .slice none 0 0 :: .bool false :: .slice none 0 0 :: .slice none 0 0 :: .int .i64 0 :: .slice none 0 0 :: .bool false :: .slice none 0 0 :: .slice none 0 0 :: .int .i64 0 :: .slice none 0 0 :: .bool false :: .slice none 0 0 :: .slice none 0 0 :: .int .i64 0 :: .slice none 0 0 :: .bool false :: .slice none 0 0 :: .slice none 0 0 :: .int .i64 0 :: .slice none 0 0 :: .bool false :: .slice none 0 0 :: .slice none 0 0 :: [])) kz fun fE eo dE dF=>?_)
 refine ⟨fun h=>absurd rfl h,?_⟩
 refine qaG kz ?_ _
 refine qab (qaK 8 kz dE fun ep eu bi dG=>?_)
 refine qaJ [0,1,2,3,4,5] [(0,.p 0 0),(2,.p 1 0),(3,.p 3 0),(25,.v (.slice (some ⟨aa,0,none⟩) 7 7)),(29,.v (.pointer ((D.f 2).A)))] 3 (qaa qag) (fun _ h=>h.cells) dG dF fun fF dH=>?_
 refine qaw (i:=6) kz (qam dH (f:=101) (vs:=[.pointer ((D.f 2).A)]) (d:=30) kz Tryz.call101 (qlY _ (D.f 2).s _ (Imm F w ep [⟨b,o,(z6 v D),false⟩,⟨b9,0,z1,true⟩,⟨aa,0,(.int .i64 (IntKind.i64.wrap ((D.f 0).n)) :: .slice none 0 0 :: .bool false :: .slice none 0 0 :: .slice none 0 0 :: .int .i64 (IntKind.i64.wrap ((D.f 1).n)) :: .slice none 0 0 :: .bool false :: .slice none 0 0 :: .slice none 0 0 :: .int .i64 0 :: .slice none 0 0 :: .bool false :: .slice none 0 0 :: .slice none 0 0 :: .int .i64 0 :: .slice none 0 0 :: .bool false :: .slice none 0 0 :: .slice none 0 0 :: .int .i64 0 :: .slice none 0 0 :: .bool false :: .slice none 0 0 :: .slice none 0 0 :: .int .i64 0 :: .slice none 0 0 :: .bool false :: .slice none 0 0 :: .slice none 0 0 :: .int .i64 0 :: .slice none 0 0 :: .bool false :: .slice none 0 0 :: .slice none 0 0 :: []),true⟩,⟨aV,0,(z24 aa),true⟩] []) (fun ad h_=>by obtain ⟨b',o',g1,g2⟩:=g3 ad h_; exact ⟨b',o',g1,g2.move bi.step nilM bi.imm⟩) g3l) ?_)
 rintro e_ fG ⟨ev,rfl,dI,bM⟩
 have bN:=dI.move (Step.refl _ Nil) nilM (bi.laid (G:=F) bM)
 obtain ⟨aI,aJ,aK,aL,aM,aN,aO,aP,aQ,aR,aS,ew,ey,bw,ez,eB,fH,fI⟩:=bN.open_
 rw [bw] at bN
 have dV:=ez.small
 have dW:=eB.small
 rw [bw]
 refine ⟨_,rfl,fun fJ dJ=>?_⟩
 have bx:=bi.next_nil bM
 have bS:=bi.frN bM
 have bz:=TT.ofW bS bx
 refine ⟨fun _=>bz,?_⟩
 refine qaQ dJ (i:=7) (t:=34) (A:=(some ⟨aa,0,none⟩)) (m:=7) (q:=2) (d:=31) kz (e:=37) (size:=5) (bytes:=88) (j:=2) kz (b:=aa) (o:=0) rfl rfl (by decide) kz kz (qaa qag) bz fun eC bT=>?_
 have bU:=bT.recast 31 (.v (.pointer (some ⟨aa,0 + 2 * 5,none⟩))) (.p 2 10) rfl rfl (Nat.le_of_ble_eq_true (n:=3) rfl)
 have bV:=bU.pk (env':=[(0,.p 0 0),(2,.p 1 0),(3,.p 3 0),(25,.v (.slice (some ⟨aa,0,none⟩) 7 7)),(29,.v (.pointer ((D.f 2).A))),(30,.v (.agg #[.int .i64 aI,.slice aN aJ.length aO,.bool aK,.slice aP aL.length aQ,.slice aR aM.length aS])),(31,.p 2 10)])
 refine qaw (i:=8) kz (qat bx bV (oi:=2) (cs:=(.int .i64 (IntKind.i64.wrap ((D.f 0).n)) :: .slice none 0 0 :: .bool false :: .slice none 0 0 :: .slice none 0 0 :: .int .i64 (IntKind.i64.wrap ((D.f 1).n)) :: .slice none 0 0 :: .bool false :: .slice none 0 0 :: .slice none 0 0 :: .int .i64 aI :: .slice aN aJ.length aO :: .bool aK :: .slice aP aL.length aQ :: .slice aR aM.length aS :: .int .i64 0 :: .slice none 0 0 :: .bool false :: .slice none 0 0 :: .slice none 0 0 :: .int .i64 0 :: .slice none 0 0 :: .bool false :: .slice none 0 0 :: .slice none 0 0 :: .int .i64 0 :: .slice none 0 0 :: .bool false :: .slice none 0 0 :: .slice none 0 0 :: .int .i64 0 :: .slice none 0 0 :: .bool false :: .slice none 0 0 :: .slice none 0 0 :: [])) kz fun eD bA bW bX=>?_)
 refine ⟨fun h=>absurd rfl h,?_⟩
 refine qaG kz ?_ _
 refine qab (qaK 8 kz bW fun dK bB aW bY=>?_)
 refine qaJ [0,1,2,3,4,5] [(0,.p 0 0),(2,.p 1 0),(3,.p 3 0),(33,.v (.slice (some ⟨aa,0,none⟩) 7 7)),(37,.v (.pointer ((D.f 3).A)))] 3 (qaa qag) (fun _ h=>h.cells) bY bX fun eE bZ=>?_
 refine qaw (i:=6) kz (qam bZ (f:=101) (vs:=[.pointer ((D.f 3).A)]) (d:=38) kz Tryz.call101 (qlY _ (D.f 3).s _ (Imm F w dK [⟨b,o,(z6 v D),false⟩,⟨b9,0,z1,true⟩,⟨aa,0,(.int .i64 (IntKind.i64.wrap ((D.f 0).n)) :: .slice none 0 0 :: .bool false :: .slice none 0 0 :: .slice none 0 0 :: .int .i64 (IntKind.i64.wrap ((D.f 1).n)) :: .slice none 0 0 :: .bool false :: .slice none 0 0 :: .slice none 0 0 :: .int .i64 aI :: .slice aN aJ.length aO :: .bool aK :: .slice aP aL.length aQ :: .slice aR aM.length aS :: .int .i64 0 :: .slice none 0 0 :: .bool false :: .slice none 0 0 :: .slice none 0 0 :: .int .i64 0 :: .slice none 0 0 :: .bool false :: .slice none 0 0 :: .slice none 0 0 :: .int .i64 0 :: .slice none 0 0 :: .bool false :: .slice none 0 0 :: .slice none 0 0 :: .int .i64 0 :: .slice none 0 0 :: .bool false :: .slice none 0 0 :: .slice none 0 0 :: []),true⟩,⟨aV,0,(z24 aa),true⟩] []) (fun ad h_=>by obtain ⟨b',o',g1,g2⟩:=g4 ad h_; exact ⟨b',o',g1,g2.move aW.step nilM aW.imm⟩) g4l) ?_)
 rintro e_ eF ⟨dX,rfl,b8,bj⟩
 have bk:=b8.move (Step.refl _ Nil) nilM (aW.laid (G:=F) bj)
 obtain ⟨ae,af,ag,ah,ai,aj,ak,al,am,ao,ap,dY,dZ,bn,dL,dM,eG,eH⟩:=bk.open_
 rw [bn] at bk
 have dN:=dL.small
 have dO:=dM.small
 rw [bn]
 refine ⟨_,rfl,fun eI cd=>?_⟩
 have bC:=aW.next_nil bj
 have bo:=aW.frN bj
 have bD:=TT.ofW bo bC
 refine ⟨fun _=>bD,?_⟩
 refine qaQ cd (i:=7) (t:=34) (A:=(some ⟨aa,0,none⟩)) (m:=7) (q:=3) (d:=39) kz (e:=37) (size:=5) (bytes:=88) (j:=3) kz (b:=aa) (o:=0) rfl rfl (by decide) kz kz (qaa qag) bD fun eJ ce=>?_
 have cm:=ce.recast 39 (.v (.pointer (some ⟨aa,0 + 3 * 5,none⟩))) (.p 2 15) rfl rfl (Nat.le_of_ble_eq_true (n:=3) rfl)
 have cq:=cm.pk (env':=[(0,.p 0 0),(2,.p 1 0),(3,.p 3 0),(33,.v (.slice (some ⟨aa,0,none⟩) 7 7)),(37,.v (.pointer ((D.f 3).A))),(38,.v (.agg #[.int .i64 ae,.slice aj af.length ak,.bool ag,.slice al ah.length am,.slice ao ai.length ap])),(39,.p 2 15)])
 refine qaw (i:=8) kz (qat bC cq (oi:=2) (cs:=(.int .i64 (IntKind.i64.wrap ((D.f 0).n)) :: .slice none 0 0 :: .bool false :: .slice none 0 0 :: .slice none 0 0 :: .int .i64 (IntKind.i64.wrap ((D.f 1).n)) :: .slice none 0 0 :: .bool false :: .slice none 0 0 :: .slice none 0 0 :: .int .i64 aI :: .slice aN aJ.length aO :: .bool aK :: .slice aP aL.length aQ :: .slice aR aM.length aS :: .int .i64 ae :: .slice aj af.length ak :: .bool ag :: .slice al ah.length am :: .slice ao ai.length ap :: .int .i64 0 :: .slice none 0 0 :: .bool false :: .slice none 0 0 :: .slice none 0 0 :: .int .i64 0 :: .slice none 0 0 :: .bool false :: .slice none 0 0 :: .slice none 0 0 :: .int .i64 0 :: .slice none 0 0 :: .bool false :: .slice none 0 0 :: .slice none 0 0 :: [])) kz fun eK aZ cr cu=>?_)
 refine ⟨fun h=>absurd rfl h,?_⟩
 refine qaG kz ?_ _
 refine qab (qaK 9 kz cr fun eL ba cw bE=>?_)
 refine qaJ [0,1,2,3,4,5,6,7] [(0,.p 0 0),(2,.p 1 0),(3,.p 3 0),(41,.v (.slice (some ⟨aa,0,none⟩) 7 7)),(47,.v (.agg #[.int .i64 (IntKind.i64.wrap ((D.f 4).n)),.slice none 0 0,.bool false,.slice none 0 0,.slice none 0 0]))] 2 (qaa qag) (fun _ h=>h.cells) bE cu fun eM cz=>?_
 refine qaQ cz (i:=8) (t:=34) (A:=(some ⟨aa,0,none⟩)) (m:=7) (q:=4) (d:=48) kz (e:=37) (size:=5) (bytes:=88) (j:=4) kz (b:=aa) (o:=0) rfl rfl (by decide) kz kz (qaa qag) bE fun eN cA=>?_
 have cB:=cA.recast 48 (.v (.pointer (some ⟨aa,0 + 4 * 5,none⟩))) (.p 2 20) rfl rfl (Nat.le_of_ble_eq_true (n:=3) rfl)
 have cC:=cB.pk (env':=[(0,.p 0 0),(2,.p 1 0),(3,.p 3 0),(41,.v (.slice (some ⟨aa,0,none⟩) 7 7)),(47,.v (.agg #[.int .i64 (IntKind.i64.wrap ((D.f 4).n)),.slice none 0 0,.bool false,.slice none 0 0,.slice none 0 0])),(48,.p 2 20)])
 refine qaw (i:=9) kz (qat cw cC (oi:=2) (cs:=(.int .i64 (IntKind.i64.wrap ((D.f 0).n)) :: .slice none 0 0 :: .bool false :: .slice none 0 0 :: .slice none 0 0 :: .int .i64 (IntKind.i64.wrap ((D.f 1).n)) :: .slice none 0 0 :: .bool false :: .slice none 0 0 :: .slice none 0 0 :: .int .i64 aI :: .slice aN aJ.length aO :: .bool aK :: .slice aP aL.length aQ :: .slice aR aM.length aS :: .int .i64 ae :: .slice aj af.length ak :: .bool ag :: .slice al ah.length am :: .slice ao ai.length ap :: .int .i64 (IntKind.i64.wrap ((D.f 4).n)) :: .slice none 0 0 :: .bool false :: .slice none 0 0 :: .slice none 0 0 :: .int .i64 0 :: .slice none 0 0 :: .bool false :: .slice none 0 0 :: .slice none 0 0 :: .int .i64 0 :: .slice none 0 0 :: .bool false :: .slice none 0 0 :: .slice none 0 0 :: [])) kz fun eO bd cD cE=>?_)
 refine ⟨fun h=>absurd rfl h,?_⟩
 refine qaG kz ?_ _
 refine qab (qaK 9 kz cD fun eP bf cG bF=>?_)
 refine qaJ [0,1,2,3,4,5,6,7] [(0,.p 0 0),(2,.p 1 0),(3,.p 3 0),(50,.v (.slice (some ⟨aa,0,none⟩) 7 7)),(56,.v (.agg #[.int .i64 (IntKind.i64.wrap ((D.f 5).n)),.slice none 0 0,.bool false,.slice none 0 0,.slice none 0 0]))] 2 (qaa qag) (fun _ h=>h.cells) bF cE fun eQ cH=>?_
 refine qaQ cH (i:=8) (t:=34) (A:=(some ⟨aa,0,none⟩)) (m:=7) (q:=5) (d:=57) kz (e:=37) (size:=5) (bytes:=88) (j:=5) kz (b:=aa) (o:=0) rfl rfl (by decide) kz kz (qaa qag) bF fun eR cI=>?_
 have cJ:=cI.recast 57 (.v (.pointer (some ⟨aa,0 + 5 * 5,none⟩))) (.p 2 25) rfl rfl (Nat.le_of_ble_eq_true (n:=3) rfl)
 have cK:=cJ.pk (env':=[(0,.p 0 0),(2,.p 1 0),(3,.p 3 0),(50,.v (.slice (some ⟨aa,0,none⟩) 7 7)),(56,.v (.agg #[.int .i64 (IntKind.i64.wrap ((D.f 5).n)),.slice none 0 0,.bool false,.slice none 0 0,.slice none 0 0])),(57,.p 2 25)])
 refine qaw (i:=9) kz (qat cG cK (oi:=2) (cs:=(.int .i64 (IntKind.i64.wrap ((D.f 0).n)) :: .slice none 0 0 :: .bool false :: .slice none 0 0 :: .slice none 0 0 :: .int .i64 (IntKind.i64.wrap ((D.f 1).n)) :: .slice none 0 0 :: .bool false :: .slice none 0 0 :: .slice none 0 0 :: .int .i64 aI :: .slice aN aJ.length aO :: .bool aK :: .slice aP aL.length aQ :: .slice aR aM.length aS :: .int .i64 ae :: .slice aj af.length ak :: .bool ag :: .slice al ah.length am :: .slice ao ai.length ap :: .int .i64 (IntKind.i64.wrap ((D.f 4).n)) :: .slice none 0 0 :: .bool false :: .slice none 0 0 :: .slice none 0 0 :: .int .i64 (IntKind.i64.wrap ((D.f 5).n)) :: .slice none 0 0 :: .bool false :: .slice none 0 0 :: .slice none 0 0 :: .int .i64 0 :: .slice none 0 0 :: .bool false :: .slice none 0 0 :: .slice none 0 0 :: [])) kz fun eS bg cL cM=>?_)
 refine ⟨fun h=>absurd rfl h,?_⟩
 refine qaG kz ?_ _
 refine qab (qaK 8 kz cL fun dP bh aG cN=>?_)
 refine qaJ [0,1,2,3,4,5] [(0,.p 0 0),(2,.p 1 0),(3,.p 3 0),(59,.v (.slice (some ⟨aa,0,none⟩) 7 7)),(63,.v (.pointer ((D.f 6).A)))] 3 (qaa qag) (fun _ h=>h.cells) cN cM fun eU cO=>?_
 refine qaw (i:=6) kz (qam cO (f:=137) (vs:=[.pointer ((D.f 6).A)]) (d:=64) kz Tryz.call137 (qb9 (D.f 6) _ (Imm F w dP [⟨b,o,(z6 v D),false⟩,⟨b9,0,z1,true⟩,⟨aa,0,(.int .i64 (IntKind.i64.wrap ((D.f 0).n)) :: .slice none 0 0 :: .bool false :: .slice none 0 0 :: .slice none 0 0 :: .int .i64 (IntKind.i64.wrap ((D.f 1).n)) :: .slice none 0 0 :: .bool false :: .slice none 0 0 :: .slice none 0 0 :: .int .i64 aI :: .slice aN aJ.length aO :: .bool aK :: .slice aP aL.length aQ :: .slice aR aM.length aS :: .int .i64 ae :: .slice aj af.length ak :: .bool ag :: .slice al ah.length am :: .slice ao ai.length ap :: .int .i64 (IntKind.i64.wrap ((D.f 4).n)) :: .slice none 0 0 :: .bool false :: .slice none 0 0 :: .slice none 0 0 :: .int .i64 (IntKind.i64.wrap ((D.f 5).n)) :: .slice none 0 0 :: .bool false :: .slice none 0 0 :: .slice none 0 0 :: .int .i64 0 :: .slice none 0 0 :: .bool false :: .slice none 0 0 :: .slice none 0 0 :: []),true⟩,⟨aV,0,(z24 aa),true⟩] []) (fun ad_ h_=>by obtain ⟨⟨b',o',g1,g2⟩,g3⟩:=g7 ad_ h_; exact ⟨⟨b',o',g1,g2.move aG.step nilM aG.imm⟩,qbn _ aG.step nilM aG.imm g3⟩)) ?_)
 rintro e_ eV ⟨d5,rfl,cP,bp⟩
 have bq:=cP.move (Step.refl _ Nil) nilM (aG.laid (G:=F) bp)
 obtain ⟨ar,au,av,aw,ax,ay,az,aA,aB,aC,aD,d6,d7,bt,dQ,dR,eW,eX⟩:=bq.open_
 rw [bt] at bq
 have dS:=dQ.small
 have dT:=dR.small
 rw [bt]
 refine ⟨_,rfl,fun eY cQ=>?_⟩
 have bG:=aG.next_nil bp
 have aX:=aG.frN bp
 have bH:=TT.ofW aX bG
 refine ⟨fun _=>bH,?_⟩
 refine qaQ cQ (i:=7) (t:=34) (A:=(some ⟨aa,0,none⟩)) (m:=7) (q:=6) (d:=65) kz (e:=37) (size:=5) (bytes:=88) (j:=6) kz (b:=aa) (o:=0) rfl rfl (by decide) kz kz (qaa qag) bH fun eZ cR=>?_
 have cS:=cR.recast 65 (.v (.pointer (some ⟨aa,0 + 6 * 5,none⟩))) (.p 2 30) rfl rfl (Nat.le_of_ble_eq_true (n:=3) rfl)
 have cT:=cS.pk (env':=[(0,.p 0 0),(2,.p 1 0),(3,.p 3 0),(59,.v (.slice (some ⟨aa,0,none⟩) 7 7)),(63,.v (.pointer ((D.f 6).A))),(64,.v (.agg #[.int .i64 ar,.slice ay au.length az,.bool av,.slice aA aw.length aB,.slice aC ax.length aD])),(65,.p 2 30)])
 refine qaw (i:=8) kz (qat bG cT (oi:=2) (cs:=(.int .i64 (IntKind.i64.wrap ((D.f 0).n)) :: .slice none 0 0 :: .bool false :: .slice none 0 0 :: .slice none 0 0 :: .int .i64 (IntKind.i64.wrap ((D.f 1).n)) :: .slice none 0 0 :: .bool false :: .slice none 0 0 :: .slice none 0 0 :: .int .i64 aI :: .slice aN aJ.length aO :: .bool aK :: .slice aP aL.length aQ :: .slice aR aM.length aS :: .int .i64 ae :: .slice aj af.length ak :: .bool ag :: .slice al ah.length am :: .slice ao ai.length ap :: .int .i64 (IntKind.i64.wrap ((D.f 4).n)) :: .slice none 0 0 :: .bool false :: .slice none 0 0 :: .slice none 0 0 :: .int .i64 (IntKind.i64.wrap ((D.f 5).n)) :: .slice none 0 0 :: .bool false :: .slice none 0 0 :: .slice none 0 0 :: .int .i64 ar :: .slice ay au.length az :: .bool av :: .slice aA aw.length aB :: .slice aC ax.length aD :: [])) kz fun dU aT aH cU=>?_)
 refine ⟨fun h=>absurd rfl h,?_⟩
 refine qaG kz ?_ _
 refine qab (qae [0,1,2,3,4] kz ?_)
 refine qal [0,1,2] [3,4] [(2,.p 1 0),(3,.p 3 0),(68,.p 0 8)] aH cU fun e9 cV=>?_
 refine qan (qe0 cV (v:=.func (.func 138) #[] #[.pointer (some ⟨aV,0,none⟩)]) (d:=69) kz fun fb cW=>?_)
 refine qan (qam cW (f:=103) (vs:=[.pointer (some ⟨b,o + 8,none⟩),.func (.func 138) #[] #[.pointer (some ⟨aV,0,none⟩)]]) (d:=70) kz Tryz.call103 (qfv (F:=(Imm F w dU [⟨b,o,(z6 v D),false⟩,⟨b9,0,z1,true⟩,⟨aa,0,(.int .i64 (IntKind.i64.wrap ((D.f 0).n)) :: .slice none 0 0 :: .bool false :: .slice none 0 0 :: .slice none 0 0 :: .int .i64 (IntKind.i64.wrap ((D.f 1).n)) :: .slice none 0 0 :: .bool false :: .slice none 0 0 :: .slice none 0 0 :: .int .i64 aI :: .slice aN aJ.length aO :: .bool aK :: .slice aP aL.length aQ :: .slice aR aM.length aS :: .int .i64 ae :: .slice aj af.length ak :: .bool ag :: .slice al ah.length am :: .slice ao ai.length ap :: .int .i64 (IntKind.i64.wrap ((D.f 4).n)) :: .slice none 0 0 :: .bool false :: .slice none 0 0 :: .slice none 0 0 :: .int .i64 (IntKind.i64.wrap ((D.f 5).n)) :: .slice none 0 0 :: .bool false :: .slice none 0 0 :: .slice none 0 0 :: .int .i64 ar :: .slice ay au.length az :: .bool av :: .slice aA aw.length aB :: .slice aC ax.length aD :: []),true⟩,⟨aV,0,(z24 aa),true⟩] [])) Tryz.call138 qcC ((hat.one 8 rfl).move aH.step nilM aH.imm) (g8.move aH.step nilM aH.imm) (Str.of aH 3 rfl) (qkl 3 rfl) g8l) ?_)
 rintro e_ fe ⟨rfl,ab,ac,bO,cX,cY⟩
 obtain ⟨bu,aU,cZ⟩:=aH.wrote 3 [⟨b,o,(z6 v D),false⟩,⟨b9,0,z1,true⟩,⟨aa,0,(.int .i64 (IntKind.i64.wrap ((D.f 0).n)) :: .slice none 0 0 :: .bool false :: .slice none 0 0 :: .slice none 0 0 :: .int .i64 (IntKind.i64.wrap ((D.f 1).n)) :: .slice none 0 0 :: .bool false :: .slice none 0 0 :: .slice none 0 0 :: .int .i64 aI :: .slice aN aJ.length aO :: .bool aK :: .slice aP aL.length aQ :: .slice aR aM.length aS :: .int .i64 ae :: .slice aj af.length ak :: .bool ag :: .slice al ah.length am :: .slice ao ai.length ap :: .int .i64 (IntKind.i64.wrap ((D.f 4).n)) :: .slice none 0 0 :: .bool false :: .slice none 0 0 :: .slice none 0 0 :: .int .i64 (IntKind.i64.wrap ((D.f 5).n)) :: .slice none 0 0 :: .bool false :: .slice none 0 0 :: .slice none 0 0 :: .int .i64 ar :: .slice ay au.length az :: .bool av :: .slice aA aw.length aB :: .slice aC ax.length aD :: []),true⟩,⟨aV,0,[.int .i64 0,.slice none 0 0,.bool false,.slice (some ⟨aa,0,none⟩) 7 7,.slice ab D.u.length ac],true⟩] rfl cY bO
 have bI:=cX.move (Step.refl _ Nil) nilM (fun b_ o_ h_ hb_=>cZ (G:=F) b_ o_ (.inr h_) hb_)
 refine ⟨_,rfl,fun ff c5=>?_⟩
 have c6:=(EnvOk.places (tb':=[⟨b,o,[.int .i16 v,.int .i32 ((D.f 0).n),.int .i16 ((D.f 1).n),.pointer ((D.f 2).A),.pointer ((D.f 3).A),.int .i32 ((D.f 4).n),.int .i32 ((D.f 5).n),.pointer ((D.f 6).A),.map D.m],false⟩,⟨b9,0,[.int .i64 0,.slice none 0 0,.bool false,.slice none 0 0,.slice none 0 0],true⟩,⟨aa,0,(.int .i64 (IntKind.i64.wrap ((D.f 0).n)) :: .slice none 0 0 :: .bool false :: .slice none 0 0 :: .slice none 0 0 :: .int .i64 (IntKind.i64.wrap ((D.f 1).n)) :: .slice none 0 0 :: .bool false :: .slice none 0 0 :: .slice none 0 0 :: .int .i64 aI :: .slice aN aJ.length aO :: .bool aK :: .slice aP aL.length aQ :: .slice aR aM.length aS :: .int .i64 ae :: .slice aj af.length ak :: .bool ag :: .slice al ah.length am :: .slice ao ai.length ap :: .int .i64 (IntKind.i64.wrap ((D.f 4).n)) :: .slice none 0 0 :: .bool false :: .slice none 0 0 :: .slice none 0 0 :: .int .i64 (IntKind.i64.wrap ((D.f 5).n)) :: .slice none 0 0 :: .bool false :: .slice none 0 0 :: .slice none 0 0 :: .int .i64 ar :: .slice ay au.length az :: .bool av :: .slice aA aw.length aB :: .slice aC ax.length aD :: []),true⟩,⟨aV,0,[.int .i64 0,.slice none 0 0,.bool false,.slice (some ⟨aa,0,none⟩) 7 7,.slice ab D.u.length ac],true⟩]) c5 (show Pl [⟨b,o,[.int .i16 v,.int .i32 ((D.f 0).n),.int .i16 ((D.f 1).n),.pointer ((D.f 2).A),.pointer ((D.f 3).A),.int .i32 ((D.f 4).n),.int .i32 ((D.f 5).n),.pointer ((D.f 6).A),.map D.m],false⟩,⟨b9,0,[.int .i64 0,.slice none 0 0,.bool false,.slice none 0 0,.slice none 0 0],true⟩,⟨aa,0,(.int .i64 (IntKind.i64.wrap ((D.f 0).n)) :: .slice none 0 0 :: .bool false :: .slice none 0 0 :: .slice none 0 0 :: .int .i64 (IntKind.i64.wrap ((D.f 1).n)) :: .slice none 0 0 :: .bool false :: .slice none 0 0 :: .slice none 0 0 :: .int .i64 aI :: .slice aN aJ.length aO :: .bool aK :: .slice aP aL.length aQ :: .slice aR aM.length aS :: .int .i64 ae :: .slice aj af.length ak :: .bool ag :: .slice al ah.length am :: .slice ao ai.length ap :: .int .i64 (IntKind.i64.wrap ((D.f 4).n)) :: .slice none 0 0 :: .bool false :: .slice none 0 0 :: .slice none 0 0 :: .int .i64 (IntKind.i64.wrap ((D.f 5).n)) :: .slice none 0 0 :: .bool false :: .slice none 0 0 :: .slice none 0 0 :: .int .i64 ar :: .slice ay au.length az :: .bool av :: .slice aA aw.length aB :: .slice aC ax.length aD :: []),true⟩,⟨aV,0,[.int .i64 0,.slice none 0 0,.bool false,.slice (some ⟨aa,0,none⟩) 7 7,.slice none 0 0],true⟩] [⟨b,o,[.int .i16 v,.int .i32 ((D.f 0).n),.int .i16 ((D.f 1).n),.pointer ((D.f 2).A),.pointer ((D.f 3).A),.int .i32 ((D.f 4).n),.int .i32 ((D.f 5).n),.pointer ((D.f 6).A),.map D.m],false⟩,⟨b9,0,[.int .i64 0,.slice none 0 0,.bool false,.slice none 0 0,.slice none 0 0],true⟩,⟨aa,0,(.int .i64 (IntKind.i64.wrap ((D.f 0).n)) :: .slice none 0 0 :: .bool false :: .slice none 0 0 :: .slice none 0 0 :: .int .i64 (IntKind.i64.wrap ((D.f 1).n)) :: .slice none 0 0 :: .bool false :: .slice none 0 0 :: .slice none 0 0 :: .int .i64 aI :: .slice aN aJ.length aO :: .bool aK :: .slice aP aL.length aQ :: .slice aR aM.length aS :: .int .i64 ae :: .slice aj af.length ak :: .bool ag :: .slice al ah.length am :: .slice ao ai.length ap :: .int .i64 (IntKind.i64.wrap ((D.f 4).n)) :: .slice none 0 0 :: .bool false :: .slice none 0 0 :: .slice none 0 0 :: .int .i64 (IntKind.i64.wrap ((D.f 5).n)) :: .slice none 0 0 :: .bool false :: .slice none 0 0 :: .slice none 0 0 :: .int .i64 ar :: .slice ay au.length az :: .bool av :: .slice aA aw.length aB :: .slice aC ax.length aD :: []),true⟩,⟨aV,0,[.int .i64 0,.slice none 0 0,.bool false,.slice (some ⟨aa,0,none⟩) 7 7,.slice ab D.u.length ac],true⟩] from ⟨rfl,rfl,⟨rfl,rfl,⟨rfl,rfl,⟨rfl,rfl,trivial⟩⟩⟩⟩)).pk (env':=[(70,.v (.tuple #[])),(2,.p 1 0),(3,.p 3 0),(68,.p 0 8),(69,.v (.func (.func 138) #[] #[.pointer (some ⟨aV,0,none⟩)]))])
 refine qaf (qab ?_)
 refine qae [0,1,2] kz ?_
 refine qal [0,1] [2] [(2,.p 1 0),(3,.p 3 0),(72,.v (.slice ab D.u.length ac))] bu c6 fun fg da=>?_
 refine qan (qam da (f:=105) (vs:=[.slice ab D.u.length ac]) (d:=73) kz Tryz.call105 (qhn bI g8.sorted) ?_)
 rintro e_ fh ⟨rfl,bJ⟩
 refine ⟨_,rfl,fun fi db=>?_⟩
 have bK:=bu.next_nil bJ
 have aE:=bu.frN bJ
 refine qaf (qab ?_)
 refine qae [0,1] kz ?_
 refine qal [0] [1] [(2,.p 1 0),(74,.v (.agg #[.int .i64 0,.slice none 0 0,.bool false,.slice (some ⟨aa,0,none⟩) 7 7,.slice ab D.u.length ac]))] bK db fun fj dc=>?_
 refine qan (qat bK dc (oi:=1) (cs:=[.int .i64 0,.slice none 0 0,.bool false,.slice (some ⟨aa,0,none⟩) 7 7,.slice ab D.u.length ac]) kz fun aY aF bL de=>?_)
 refine qaf (qab ?_)
 refine wp_ret (qaL de bL.cells (v:=.agg #[.int .i64 0,.slice none 0 0,.bool false,.slice (some ⟨aa,0,none⟩) 7 7,.slice ab D.u.length ac]) kz ?_)
 exact qgf (u:=D.u) (l:=[.mk (IntKind.i64.wrap (D.f 0).n) [] false [] [],.mk (IntKind.i64.wrap (D.f 1).n) [] false [] [],qgW (D.f 2).A (D.f 2).s,qgW (D.f 3).A (D.f 3).s,.mk (IntKind.i64.wrap (D.f 4).n) [] false [] [],.mk (IntKind.i64.wrap (D.f 5).n) [] false [] [],(if (D.f 6).A.isNone = true then .mk 0 [] true [] [] else qaU (D.f 6))]) (css:=[[.int .i64 (IntKind.i64.wrap ((D.f 0).n)),.slice none 0 0,.bool false,.slice none 0 0,.slice none 0 0],[.int .i64 (IntKind.i64.wrap ((D.f 1).n)),.slice none 0 0,.bool false,.slice none 0 0,.slice none 0 0],[.int .i64 aI,.slice aN aJ.length aO,.bool aK,.slice aP aL.length aQ,.slice aR aM.length aS],[.int .i64 ae,.slice aj af.length ak,.bool ag,.slice al ah.length am,.slice ao ai.length ap],[.int .i64 (IntKind.i64.wrap ((D.f 4).n)),.slice none 0 0,.bool false,.slice none 0 0,.slice none 0 0],[.int .i64 (IntKind.i64.wrap ((D.f 5).n)),.slice none 0 0,.bool false,.slice none 0 0,.slice none 0 0],[.int .i64 ar,.slice ay au.length az,.bool av,.slice aA aw.length aB,.slice aC ax.length aD]]) bL 2 rfl ⟨(show TreeR _ (Imm F w aY [⟨b,o,[.int .i16 v,.int .i32 ((D.f 0).n),.int .i16 ((D.f 1).n),.pointer ((D.f 2).A),.pointer ((D.f 3).A),.int .i32 ((D.f 4).n),.int .i32 ((D.f 5).n),.pointer ((D.f 6).A),.map D.m],false⟩,⟨b9,0,[.int .i64 0,.slice none 0 0,.bool false,.slice (some ⟨aa,0,none⟩) 7 7,.slice ab D.u.length ac],true⟩,⟨aa,0,(.int .i64 (IntKind.i64.wrap ((D.f 0).n)) :: .slice none 0 0 :: .bool false :: .slice none 0 0 :: .slice none 0 0 :: .int .i64 (IntKind.i64.wrap ((D.f 1).n)) :: .slice none 0 0 :: .bool false :: .slice none 0 0 :: .slice none 0 0 :: .int .i64 aI :: .slice aN aJ.length aO :: .bool aK :: .slice aP aL.length aQ :: .slice aR aM.length aS :: .int .i64 ae :: .slice aj af.length ak :: .bool ag :: .slice al ah.length am :: .slice ao ai.length ap :: .int .i64 (IntKind.i64.wrap ((D.f 4).n)) :: .slice none 0 0 :: .bool false :: .slice none 0 0 :: .slice none 0 0 :: .int .i64 (IntKind.i64.wrap ((D.f 5).n)) :: .slice none 0 0 :: .bool false :: .slice none 0 0 :: .slice none 0 0 :: .int .i64 ar :: .slice ay au.length az :: .bool av :: .slice aA aw.length aB :: .slice aC ax.length aD :: []),true⟩,⟨aV,0,[.int .i64 0,.slice none 0 0,.bool false,.slice (some ⟨aa,0,none⟩) 7 7,.slice ab D.u.length ac],true⟩] []) _ _ from (TreeR.mk (n:=IntKind.i64.wrap ((D.f 0).n)) (b:=false) (s:=[]) (l:=[]) (u:=[]) (fun _=>[]) (Octs.nil _ _) (Slots.nil _ _ _ _) (fun i_ x_ h_=>by simp at h_) (TagsR.nil _ _))).move (Step.refl _ Nil) nilM qbL,(show TreeR _ (Imm F w aY [⟨b,o,[.int .i16 v,.int .i32 ((D.f 0).n),.int .i16 ((D.f 1).n),.pointer ((D.f 2).A),.pointer ((D.f 3).A),.int .i32 ((D.f 4).n),.int .i32 ((D.f 5).n),.pointer ((D.f 6).A),.map D.m],false⟩,⟨b9,0,[.int .i64 0,.slice none 0 0,.bool false,.slice (some ⟨aa,0,none⟩) 7 7,.slice ab D.u.length ac],true⟩,⟨aa,0,(.int .i64 (IntKind.i64.wrap ((D.f 0).n)) :: .slice none 0 0 :: .bool false :: .slice none 0 0 :: .slice none 0 0 :: .int .i64 (IntKind.i64.wrap ((D.f 1).n)) :: .slice none 0 0 :: .bool false :: .slice none 0 0 :: .slice none 0 0 :: .int .i64 aI :: .slice aN aJ.length aO :: .bool aK :: .slice aP aL.length aQ :: .slice aR aM.length aS :: .int .i64 ae :: .slice aj af.length ak :: .bool ag :: .slice al ah.length am :: .slice ao ai.length ap :: .int .i64 (IntKind.i64.wrap ((D.f 4).n)) :: .slice none 0 0 :: .bool false :: .slice none 0 0 :: .slice none 0 0 :: .int .i64 (IntKind.i64.wrap ((D.f 5).n)) :: .slice none 0 0 :: .bool false :: .slice none 0 0 :: .slice none 0 0 :: .int .i64 ar :: .slice ay au.length az :: .bool av :: .slice aA aw.length aB :: .slice aC ax.length aD :: []),true⟩,⟨aV,0,[.int .i64 0,.slice none 0 0,.bool false,.slice (some ⟨aa,0,none⟩) 7 7,.slice ab D.u.length ac],true⟩] []) _ _ from (TreeR.mk (n:=IntKind.i64.wrap ((D.f 1).n)) (b:=false) (s:=[]) (l:=[]) (u:=[]) (fun _=>[]) (Octs.nil _ _) (Slots.nil _ _ _ _) (fun i_ x_ h_=>by simp at h_) (TagsR.nil _ _))).move (Step.refl _ Nil) nilM qbL,(show TreeR _ (Imm F w aY [⟨b,o,[.int .i16 v,.int .i32 ((D.f 0).n),.int .i16 ((D.f 1).n),.pointer ((D.f 2).A),.pointer ((D.f 3).A),.int .i32 ((D.f 4).n),.int .i32 ((D.f 5).n),.pointer ((D.f 6).A),.map D.m],false⟩,⟨b9,0,[.int .i64 0,.slice none 0 0,.bool false,.slice (some ⟨aa,0,none⟩) 7 7,.slice ab D.u.length ac],true⟩,⟨aa,0,(.int .i64 (IntKind.i64.wrap ((D.f 0).n)) :: .slice none 0 0 :: .bool false :: .slice none 0 0 :: .slice none 0 0 :: .int .i64 (IntKind.i64.wrap ((D.f 1).n)) :: .slice none 0 0 :: .bool false :: .slice none 0 0 :: .slice none 0 0 :: .int .i64 aI :: .slice aN aJ.length aO :: .bool aK :: .slice aP aL.length aQ :: .slice aR aM.length aS :: .int .i64 ae :: .slice aj af.length ak :: .bool ag :: .slice al ah.length am :: .slice ao ai.length ap :: .int .i64 (IntKind.i64.wrap ((D.f 4).n)) :: .slice none 0 0 :: .bool false :: .slice none 0 0 :: .slice none 0 0 :: .int .i64 (IntKind.i64.wrap ((D.f 5).n)) :: .slice none 0 0 :: .bool false :: .slice none 0 0 :: .slice none 0 0 :: .int .i64 ar :: .slice ay au.length az :: .bool av :: .slice aA aw.length aB :: .slice aC ax.length aD :: []),true⟩,⟨aV,0,[.int .i64 0,.slice none 0 0,.bool false,.slice (some ⟨aa,0,none⟩) 7 7,.slice ab D.u.length ac],true⟩] []) _ _ from (bN.move (((((((((((((bA.trans bB).trans bo).trans aZ).trans ba).trans bd).trans bf).trans bg).trans bh).trans aX).trans aT).trans aU).trans aE).trans aF).step immM (((((((((((((bA.trans bB).trans bo).trans aZ).trans ba).trans bd).trans bf).trans bg).trans bh).trans aX).trans aT).trans aU).trans aE).trans aF).to')).move (Step.refl _ Nil) nilM qbL,(show TreeR _ (Imm F w aY [⟨b,o,[.int .i16 v,.int .i32 ((D.f 0).n),.int .i16 ((D.f 1).n),.pointer ((D.f 2).A),.pointer ((D.f 3).A),.int .i32 ((D.f 4).n),.int .i32 ((D.f 5).n),.pointer ((D.f 6).A),.map D.m],false⟩,⟨b9,0,[.int .i64 0,.slice none 0 0,.bool false,.slice (some ⟨aa,0,none⟩) 7 7,.slice ab D.u.length ac],true⟩,⟨aa,0,(.int .i64 (IntKind.i64.wrap ((D.f 0).n)) :: .slice none 0 0 :: .bool false :: .slice none 0 0 :: .slice none 0 0 :: .int .i64 (IntKind.i64.wrap ((D.f 1).n)) :: .slice none 0 0 :: .bool false :: .slice none 0 0 :: .slice none 0 0 :: .int .i64 aI :: .slice aN aJ.length aO :: .bool aK :: .slice aP aL.length aQ :: .slice aR aM.length aS :: .int .i64 ae :: .slice aj af.length ak :: .bool ag :: .slice al ah.length am :: .slice ao ai.length ap :: .int .i64 (IntKind.i64.wrap ((D.f 4).n)) :: .slice none 0 0 :: .bool false :: .slice none 0 0 :: .slice none 0 0 :: .int .i64 (IntKind.i64.wrap ((D.f 5).n)) :: .slice none 0 0 :: .bool false :: .slice none 0 0 :: .slice none 0 0 :: .int .i64 ar :: .slice ay au.length az :: .bool av :: .slice aA aw.length aB :: .slice aC ax.length aD :: []),true⟩,⟨aV,0,[.int .i64 0,.slice none 0 0,.bool false,.slice (some ⟨aa,0,none⟩) 7 7,.slice ab D.u.length ac],true⟩] []) _ _ from (bk.move ((((((((((aZ.trans ba).trans bd).trans bf).trans bg).trans bh).trans aX).trans aT).trans aU).trans aE).trans aF).step immM ((((((((((aZ.trans ba).trans bd).trans bf).trans bg).trans bh).trans aX).trans aT).trans aU).trans aE).trans aF).to')).move (Step.refl _ Nil) nilM qbL,(show TreeR _ (Imm F w aY [⟨b,o,[.int .i16 v,.int .i32 ((D.f 0).n),.int .i16 ((D.f 1).n),.pointer ((D.f 2).A),.pointer ((D.f 3).A),.int .i32 ((D.f 4).n),.int .i32 ((D.f 5).n),.pointer ((D.f 6).A),.map D.m],false⟩,⟨b9,0,[.int .i64 0,.slice none 0 0,.bool false,.slice (some ⟨aa,0,none⟩) 7 7,.slice ab D.u.length ac],true⟩,⟨aa,0,(.int .i64 (IntKind.i64.wrap ((D.f 0).n)) :: .slice none 0 0 :: .bool false :: .slice none 0 0 :: .slice none 0 0 :: .int .i64 (IntKind.i64.wrap ((D.f 1).n)) :: .slice none 0 0 :: .bool false :: .slice none 0 0 :: .slice none 0 0 :: .int .i64 aI :: .slice aN aJ.length aO :: .bool aK :: .slice aP aL.length aQ :: .slice aR aM.length aS :: .int .i64 ae :: .slice aj af.length ak :: .bool ag :: .slice al ah.length am :: .slice ao ai.length ap :: .int .i64 (IntKind.i64.wrap ((D.f 4).n)) :: .slice none 0 0 :: .bool false :: .slice none 0 0 :: .slice none 0 0 :: .int .i64 (IntKind.i64.wrap ((D.f 5).n)) :: .slice none 0 0 :: .bool false :: .slice none 0 0 :: .slice none 0 0 :: .int .i64 ar :: .slice ay au.length az :: .bool av :: .slice aA aw.length aB :: .slice aC ax.length aD :: []),true⟩,⟨aV,0,[.int .i64 0,.slice none 0 0,.bool false,.slice (some ⟨aa,0,none⟩) 7 7,.slice ab D.u.length ac],true⟩] []) _ _ from (TreeR.mk (n:=IntKind.i64.wrap ((D.f 4).n)) (b:=false) (s:=[]) (l:=[]) (u:=[]) (fun _=>[]) (Octs.nil _ _) (Slots.nil _ _ _ _) (fun i_ x_ h_=>by simp at h_) (TagsR.nil _ _))).move (Step.refl _ Nil) nilM qbL,(show TreeR _ (Imm F w aY [⟨b,o,[.int .i16 v,.int .i32 ((D.f 0).n),.int .i16 ((D.f 1).n),.pointer ((D.f 2).A),.pointer ((D.f 3).A),.int .i32 ((D.f 4).n),.int .i32 ((D.f 5).n),.pointer ((D.f 6).A),.map D.m],false⟩,⟨b9,0,[.int .i64 0,.slice none 0 0,.bool false,.slice (some ⟨aa,0,none⟩) 7 7,.slice ab D.u.length ac],true⟩,⟨aa,0,(.int .i64 (IntKind.i64.wrap ((D.f 0).n)) :: .slice none 0 0 :: .bool false :: .slice none 0 0 :: .slice none 0 0 :: .int .i64 (IntKind.i64.wrap ((D.f 1).n)) :: .slice none 0 0 :: .bool false :: .slice none 0 0 :: .slice none 0 0 :: .int .i64 aI :: .slice aN aJ.length aO :: .bool aK :: .slice aP aL.length aQ :: .slice aR aM.length aS :: .int .i64 ae :: .slice aj af.length ak :: .bool ag :: .slice al ah.length am :: .slice ao ai.length ap :: .int .i64 (IntKind.i64.wrap ((D.f 4).n)) :: .slice none 0 0 :: .bool false :: .slice none 0 0 :: .slice none 0 0 :: .int .i64 (IntKind.i64.wrap ((D.f 5).n)) :: .slice none 0 0 :: .bool false :: .slice none 0 0 :: .slice none 0 0 :: .int .i64 ar :: .slice ay au.length az :: .bool av :: .slice aA aw.length aB :: .slice aC ax.length aD :: []),true⟩,⟨aV,0,[.int .i64 0,.slice none 0 0,.bool false,.slice (some ⟨aa,0,none⟩) 7 7,.slice ab D.u.length ac],true⟩] []) _ _ from (TreeR.mk (n:=IntKind.i64.wrap ((D.f 5).n)) (b:=false) (s:=[]) (l:=[]) (u:=[]) (fun _=>[]) (Octs.nil _ _) (Slots.nil _ _ _ _) (fun i_ x_ h_=>by simp at h_) (TagsR.nil _ _))).move (Step.refl _ Nil) nilM qbL,(show TreeR _ (Imm F w aY [⟨b,o,[.int .i16 v,.int .i32 ((D.f 0).n),.int .i16 ((D.f 1).n),.pointer ((D.f 2).A),.pointer ((D.f 3).A),.int .i32 ((D.f 4).n),.int .i32 ((D.f 5).n),.pointer ((D.f 6).A),.map D.m],false⟩,⟨b9,0,[.int .i64 0,.slice none 0 0,.bool false,.slice (some ⟨aa,0,none⟩) 7 7,.slice ab D.u.length ac],true⟩,⟨aa,0,(.int .i64 (IntKind.i64.wrap ((D.f 0).n)) :: .slice none 0 0 :: .bool false :: .slice none 0 0 :: .slice none 0 0 :: .int .i64 (IntKind.i64.wrap ((D.f 1).n)) :: .slice none 0 0 :: .bool false :: .slice none 0 0 :: .slice none 0 0 :: .int .i64 aI :: .slice aN aJ.length aO :: .bool aK :: .slice aP aL.length aQ :: .slice aR aM.length aS :: .int .i64 ae :: .slice aj af.length ak :: .bool ag :: .slice al ah.length am :: .slice ao ai.length ap :: .int .i64 (IntKind.i64.wrap ((D.f 4).n)) :: .slice none 0 0 :: .bool false :: .slice none 0 0 :: .slice none 0 0 :: .int .i64 (IntKind.i64.wrap ((D.f 5).n)) :: .slice none 0 0 :: .bool false :: .slice none 0 0 :: .slice none 0 0 :: .int .i64 ar :: .slice ay au.length az :: .bool av :: .slice aA aw.length aB :: .slice aC ax.length aD :: []),true⟩,⟨aV,0,[.int .i64 0,.slice none 0 0,.bool false,.slice (some ⟨aa,0,none⟩) 7 7,.slice ab D.u.length ac],true⟩] []) _ _ from (bq.move (((aT.trans aU).trans aE).trans aF).step immM (((aT.trans aU).trans aE).trans aF).to')).move (Step.refl _ Nil) nilM qbL,trivial⟩ ((show TagsR _ (Imm F w aY [⟨b,o,[.int .i16 v,.int .i32 ((D.f 0).n),.int .i16 ((D.f 1).n),.pointer ((D.f 2).A),.pointer ((D.f 3).A),.int .i32 ((D.f 4).n),.int .i32 ((D.f 5).n),.pointer ((D.f 6).A),.map D.m],false⟩,⟨b9,0,[.int .i64 0,.slice none 0 0,.bool false,.slice (some ⟨aa,0,none⟩) 7 7,.slice ab D.u.length ac],true⟩,⟨aa,0,(.int .i64 (IntKind.i64.wrap ((D.f 0).n)) :: .slice none 0 0 :: .bool false :: .slice none 0 0 :: .slice none 0 0 :: .int .i64 (IntKind.i64.wrap ((D.f 1).n)) :: .slice none 0 0 :: .bool false :: .slice none 0 0 :: .slice none 0 0 :: .int .i64 aI :: .slice aN aJ.length aO :: .bool aK :: .slice aP aL.length aQ :: .slice aR aM.length aS :: .int .i64 ae :: .slice aj af.length ak :: .bool ag :: .slice al ah.length am :: .slice ao ai.length ap :: .int .i64 (IntKind.i64.wrap ((D.f 4).n)) :: .slice none 0 0 :: .bool false :: .slice none 0 0 :: .slice none 0 0 :: .int .i64 (IntKind.i64.wrap ((D.f 5).n)) :: .slice none 0 0 :: .bool false :: .slice none 0 0 :: .slice none 0 0 :: .int .i64 ar :: .slice ay au.length az :: .bool av :: .slice aA aw.length aB :: .slice aC ax.length aD :: []),true⟩,⟨aV,0,[.int .i64 0,.slice none 0 0,.bool false,.slice (some ⟨aa,0,none⟩) 7 7,.slice ab D.u.length ac],true⟩] []) _ _ _ from (bI.move (aE.trans aF).step immM (aE.trans aF).to')).move (Step.refl _ Nil) nilM qbL)
theorem qkR {t:Tree} (h:t.i64s) (i:Nat):(t.at_ i).i64s:=by
 cases t with
 | mk n s b l u =>
  have h1:∀ x ∈ l,x.i64s:=qfl h.2
  show (l.getD i .zero).i64s
  rw [List.getD_eq_getElem?_getD]
  cases hx:l[i]? with
  | none=>exact ⟨by decide,trivial⟩
  | some x=>exact h1 x (List.mem_of_getElem? hx)
theorem qjT {t x:Tree} (h:t.i64s) {i:Nat} (hx:(qao t.L)[i]? = some x):x.i64s:=by
 cases t with
 | mk n s b l u =>
  have h1:∀ x ∈ l,x.i64s:=qfl h.2
  exact h1 x (List.mem_of_mem_take (List.mem_of_getElem? hx))
theorem qcB {k x1 x2 x3 x5 x6 v:Int} {s:List Fld} {flex:Bool} {x:Tree}:Fld.pres (.mk k x1 x2 x3 (-1) x5 x6 s) v flex x = (decide (x1 ≤ v) && (decide (x2 < 0) || decide (v ≤ x2))):=by simp [Fld.pres,Fld.tag,Fld.has]
section
variable {T:List Fld → Tree → Tree → Prop} {U:List Fld → Tree → Prop} {v k x1 x2 x3 x4 x5 x6 n:Int} {sub:List Fld} {x T':Tree} {A:Option Addr} {s:ByteArray} {o:Bs} {b:Bool}
theorem qjU (hn:n = qbs k x.N) (hk:k < 7:=by decide):ToF0 T v (.mk k x1 x2 (-1) x4 x5 x6 sub) x (.mk n [] false [] []):=by
 cases x
 exact ⟨fun h=>by omega,fun _ h=>by omega,fun _ h=>by omega,fun _ h=>by omega,fun _ _ _ _ _ _=>hn⟩
theorem qhX (hn:n = qbs k x.N) (hk:k < 7:=by decide):ToF T v (.mk k x1 x2 (-1) x4 x5 x6 sub) x (.mk n [] false [] []):=⟨qjU hn hk,fun h=>absurd (show k = 11 from h) (by omega)⟩
theorem ql3 (hs:o = qaH x.S):ToF0 T v (.mk 8 x1 x2 (-1) x4 x5 x6 sub) x (.mk 0 o false [] []):=by
 cases x with
 | mk a1 a2 a3 a4 a5 =>
  exact ⟨fun _=>nul_no.symm,fun _ _=>hs,fun _ h=>by omega,fun _ h=>by omega,fun _ _ h=>absurd rfl h⟩
theorem qhY (h:s = bs (qbB T') ∧ A.isNone = T'.null) (h1:qbB T' = (if Fld.nul (.mk 8 x1 x2 x3 x4 x5 x6 sub) v x = true then [] else qaH x.S) ∧ T'.null = Fld.nul (.mk 8 x1 x2 x3 x4 x5 x6 sub) v x):ToF T v (.mk 8 x1 x2 x3 x4 x5 x6 sub) x (qgW A s):=by
 refine ⟨?_,fun h=>absurd (show (8:Int) = 11 from h) (by decide)⟩
 have e:qgW A s = .mk 0 (if Fld.nul (.mk 8 x1 x2 x3 x4 x5 x6 sub) v x = true then [] else qaH x.S) (Fld.nul (.mk 8 x1 x2 x3 x4 x5 x6 sub) v x) [] []:=by
  unfold qgW
  rw [h.2,h1.2,h.1,ql7,h1.1]
  split <;> rfl
 rw [e]
 cases x with
 | mk a1 a2 a3 a4 a5 =>
  exact ⟨fun _=>rfl,fun hn _=>by rw [if_neg (by rw [hn]; decide)]; rfl,fun _ h=>by omega,fun _ h=>by omega,fun _ _ h=>absurd rfl h⟩
theorem qkq (hs:o = qbp x.S):ToF0 T v (.mk 7 x1 x2 (-1) x4 x5 x6 sub) x (.mk 0 o false [] []):=by
 cases x with
 | mk a1 a2 a3 a4 a5 =>
  exact ⟨fun h=>by omega,fun _ h=>by omega,fun _ _=>hs,fun _ h=>by omega,fun _ h=>absurd rfl h⟩
theorem qlj (h:o = qah T'.S) (h1:T'.S = x.S):ToF T v (.mk 7 x1 x2 (-1) x4 x5 x6 sub) x (.mk 0 o false [] []) :=
 ⟨qkq (by rw [h,qdp,h1]),fun h=>absurd (show (7:Int) = 11 from h) (by decide)⟩
theorem qkr {g:Tree} (hg:g.null = false) (h:T sub x g):ToF0 T v (.mk 10 x1 x2 (-1) x4 x5 x6 sub) x g:=by
 cases x with
 | mk a1 a2 a3 a4 a5 =>
  cases g with
  | mk g1 g2 g3 g4 g5 =>
   exact ⟨fun _=>by rw [nul_no]; exact hg,fun _ h=>by omega,fun _ h=>by omega,fun _ _=>h,fun _ _ _ _ h=>absurd rfl h⟩
theorem qjV {l:Nat} {g:Nat → Tree} {W:Tree → Tree} (hb:x3 ≥ 0 ∧ v ≥ x3 → b = Fld.nul (.mk 11 x1 x2 x3 x4 x5 x6 sub) v x) (hl:l = (lst T').length) (hlst:lst T' = (if Fld.nul (.mk 11 x1 x2 x3 (-1) x5 x6 sub) v x = true then [] else qao x.L).map W)
  (he:∀ i y,i < l → (lst T').getD i .zero = W y → (qao x.L)[i]? = some y → ToF0 T v (.mk x6 x1 x2 (-1) (-1) x5 x6 sub) y (g i)):ToF T v (.mk 11 x1 x2 x3 x4 x5 x6 sub) x (.mk 0 [] b ((List.range l).map g) []):=by
 have hn:Fld.nul (.mk 11 x1 x2 x3 (-1) x5 x6 sub) v x = Fld.nul (.mk 11 x1 x2 x3 x4 x5 x6 sub) v x:=by cases x; rfl
 refine ⟨?_,fun _ hnn=>?_⟩
 ·cases x with
  | mk a1 a2 a3 a4 a5 =>
   refine ⟨fun h=>hb ?_,fun _ h=>by omega,fun _ h=>by omega,fun _ h=>by omega,fun _ _ _ _ _ h=>absurd rfl h⟩
   rcases h with h | h | h
   ·omega
   ·omega
   exact h
 rw [hn,hnn,if_neg (by decide)] at hlst
 have hll:l = (qao x.L).length:=by rw [hl,hlst,List.length_map]
 refine ⟨by show ((List.range l).map g).length = _; rw [List.length_map,List.length_range,hll],fun i y z hy hz=>?_⟩
 have hi:i < l:=by rw [hll]; exact (List.getElem?_eq_some_iff.1 hy).1
 have hz':((List.range l).map g)[i]? = some z:=hz
 rw [List.getElem?_map,List.getElem?_range hi] at hz'
 obtain rfl:=Option.some.inj hz'
 refine he i y hi ?_ hy
 rw [hlst,List.getD_eq_getElem?_getD,List.getElem?_map,hy]
 rfl
theorem qks {g:Tree} {p:Prop} (r:A.isNone = T'.null ∧ p) (fn:T'.null = Fld.nul (.mk 10 x1 x2 x3 x4 x5 x6 sub) v x) (h:Fld.nul (.mk 10 x1 x2 x3 x4 x5 x6 sub) v x = false → T sub x g) (hg:g.null = false:=by rfl):ToF T v (.mk 10 x1 x2 x3 x4 x5 x6 sub) x (if A.isNone = true then .mk 0 [] true [] [] else g):=by
 refine ⟨?_,fun h=>absurd (show (10:Int) = 11 from h) (by decide)⟩
 rw [r.1,fn]
 cases x with
 | mk a1 a2 a3 a4 a5 =>
  cases hn:Fld.nul (.mk 10 x1 x2 x3 x4 x5 x6 sub) v (.mk a1 a2 a3 a4 a5) with
  | true=>exact ⟨fun _=>hn.symm,fun h0 _=>(by rw [hn] at h0; cases h0),fun h0 _=>(by rw [hn] at h0; cases h0),fun h0 _=>(by rw [hn] at h0; cases h0),fun _ _ _ _ h=>absurd rfl h⟩
  | false =>
   have hT:=h hn
   cases g with
   | mk g1 g2 g3 g4 g5 =>
    have hg':g3 = false:=hg
    exact ⟨fun _=>hg'.trans hn.symm,fun _ h=>by omega,fun _ h=>by omega,fun _ _=>hT,fun _ _ _ _ h=>absurd rfl h⟩
end
theorem qbv (v:Int) (h0:0 ≤ v) (t Y:Tree) (hY:∀ i,Y.at_ i = (fitT v 6 [(Fld.mk 7 0 (-1) (-1) (-1) 0 0 []),(Fld.mk 11 0 (-1) (-1) (-1) 0 3 [])] t).at_ i) (hU:Y.U = (fitT v 6 [(Fld.mk 7 0 (-1) (-1) (-1) 0 0 []),(Fld.mk 11 0 (-1) (-1) (-1) 0 3 [])] t).U) (hi:t.i64s) (D:DV) (h:qaM v D Y):qiy v (decide (v ≥ qak)) 6 [(Fld.mk 7 0 (-1) (-1) (-1) 0 0 []),(Fld.mk 11 0 (-1) (-1) (-1) 0 3 [])] t (qaF D):=by
 unfold qaM at h
 obtain ⟨r0,r1,rU,_⟩:=h
 refine ⟨rfl,fun i f y hf hy=>?_,?_⟩
 ·match i,hf,hy with
  | 0,hf,hy =>
   obtain rfl:=Option.some.inj hf
   obtain rfl:=Option.some.inj hy
   have e:=hY 0
   refine ⟨fun hp=>?_,fun hp=>?_⟩
   ·have hc:True:=trivial
    have r:=r0
    rw [e] at r
    exact qlj r (qkF (v:=v) (d:=5) (t:=t) (show [(Fld.mk 7 0 (-1) (-1) (-1) 0 0 []),(Fld.mk 11 0 (-1) (-1) (-1) 0 3 [])][0]? = _ from rfl) (by decide))
   rw [qcB] at hp; simp at hp; omega
  | 1,hf,hy =>
   obtain rfl:=Option.some.inj hf
   obtain rfl:=Option.some.inj hy
   have e:=hY 1
   refine ⟨fun hp=>?_,fun hp=>?_⟩
   ·have hc:True:=trivial
    have r:=r1
    rw [e] at r
    obtain ⟨fn_,fl⟩:=qfO (v:=v) (d:=5) (t:=t) (show [(Fld.mk 7 0 (-1) (-1) (-1) 0 0 []),(Fld.mk 11 0 (-1) (-1) (-1) 0 3 [])][1]? = _ from rfl)
    refine qjV (fun h_=>absurd h_.1 (by decide)) r.1 fl fun i_ y_ hi_ hg_ hy_=>?_
    have q:=r.2 i_ hi_
    rw [hg_] at q
    exact qjU (by rw [q,qd9]; cases y_; simp [qbW,Fld.kind,Tree.N,qbs])
   rw [qcB] at hp; simp at hp; omega
  | n_ + 2,hf,hy=>exact absurd (List.getElem?_eq_some_iff.1 hf).1 (by show ¬ n_ + 2 < 2; omega)
 show D.u = if (decide (v ≥ qak)) = true then qco (qai [(Fld.mk 7 0 (-1) (-1) (-1) 0 0 []),(Fld.mk 11 0 (-1) (-1) (-1) 0 3 [])] t.U) else []
 by_cases hc:(decide (v ≥ 0)) = true
 ·rw [if_pos (show (decide (v ≥ qak)) = true from hc),rU.1 hc,hU,qik]
 rw [if_neg (show ¬ (decide (v ≥ qak)) = true from hc),rU.2 (by simpa using hc)]
theorem qb2 (v:Int) (h0:0 ≤ v) (t Y:Tree) (hY:∀ i,Y.at_ i = (fitT v 7 [(Fld.mk 11 0 (-1) (-1) (-1) 0 10 [(Fld.mk 7 0 (-1) (-1) (-1) 0 0 []),(Fld.mk 11 0 (-1) (-1) (-1) 0 3 [])])] t).at_ i) (hU:Y.U = (fitT v 7 [(Fld.mk 11 0 (-1) (-1) (-1) 0 10 [(Fld.mk 7 0 (-1) (-1) (-1) 0 0 []),(Fld.mk 11 0 (-1) (-1) (-1) 0 3 [])])] t).U) (hi:t.i64s) (D:DV) (h:qbc v D Y):qiy v (decide (v ≥ qak)) 7 [(Fld.mk 11 0 (-1) (-1) (-1) 0 10 [(Fld.mk 7 0 (-1) (-1) (-1) 0 0 []),(Fld.mk 11 0 (-1) (-1) (-1) 0 3 [])])] t (qaU D):=by
 unfold qbc at h
 obtain ⟨r0,rU,_⟩:=h
 refine ⟨rfl,fun i f y hf hy=>?_,?_⟩
 ·match i,hf,hy with
  | 0,hf,hy =>
   obtain rfl:=Option.some.inj hf
   obtain rfl:=Option.some.inj hy
   have e:=hY 0
   refine ⟨fun hp=>?_,fun hp=>?_⟩
   ·have hc:True:=trivial
    have r:=r0
    rw [e] at r
    obtain ⟨fn_,fl⟩:=qfO (v:=v) (d:=6) (t:=t) (show [(Fld.mk 11 0 (-1) (-1) (-1) 0 10 [(Fld.mk 7 0 (-1) (-1) (-1) 0 0 []),(Fld.mk 11 0 (-1) (-1) (-1) 0 3 [])])][0]? = _ from rfl)
    refine qjV (fun h_=>absurd h_.1 (by decide)) r.1 fl fun i_ y_ hi_ hg_ hy_=>?_
    have q:=r.2 i_ hi_
    rw [hg_] at q
    exact qkr rfl (qbv v h0 y_ _ (fun i=>fit_10.1 i) fit_10.2 (qjT (qkR hi 0) hy_) _ q)
   rw [qcB] at hp; simp at hp; omega
  | n_ + 1,hf,hy=>exact absurd (List.getElem?_eq_some_iff.1 hf).1 (by show ¬ n_ + 1 < 1; omega)
 show D.u = if (decide (v ≥ qak)) = true then qco (qai [(Fld.mk 11 0 (-1) (-1) (-1) 0 10 [(Fld.mk 7 0 (-1) (-1) (-1) 0 0 []),(Fld.mk 11 0 (-1) (-1) (-1) 0 3 [])])] t.U) else []
 by_cases hc:(decide (v ≥ 0)) = true
 ·rw [if_pos (show (decide (v ≥ qak)) = true from hc),rU.1 hc,hU,qik]
 rw [if_neg (show ¬ (decide (v ≥ qak)) = true from hc),rU.2 (by simpa using hc)]
theorem qcz (v:Int) (h0:0 ≤ v) (t Y:Tree) (hY:∀ i,Y.at_ i = (fitT v 8 sShareGroupHeartbeatResponseF t).at_ i) (hU:Y.U = (fitT v 8 sShareGroupHeartbeatResponseF t).U) (hi:t.i64s) (D:DV) (h:qa3 v D Y):qiy v (decide (v ≥ qak)) 8 sShareGroupHeartbeatResponseF t (qa4 D):=by
 unfold qa3 at h
 obtain ⟨r0,r1,r2,r3,r4,r5,r6,rU,_⟩:=h
 refine ⟨rfl,fun i f y hf hy=>?_,?_⟩
 ·match i,hf,hy with
  | 0,hf,hy =>
   obtain rfl:=Option.some.inj hf
   obtain rfl:=Option.some.inj hy
   have e:=hY 0
   refine ⟨fun hp=>?_,fun hp=>?_⟩
   ·have hc:True:=trivial
    have r:=r0
    rw [e] at r
    rw [(qgL (v:=v) (d:=7) (t:=t) (show sShareGroupHeartbeatResponseF[0]? = _ from rfl) (by decide))] at r
    exact qhX (by rw [r,qd9]; rfl)
   rw [qcB] at hp; simp at hp; omega
  | 1,hf,hy =>
   obtain rfl:=Option.some.inj hf
   obtain rfl:=Option.some.inj hy
   have e:=hY 1
   refine ⟨fun hp=>?_,fun hp=>?_⟩
   ·have hc:True:=trivial
    have r:=r1
    rw [e] at r
    rw [(qgL (v:=v) (d:=7) (t:=t) (show sShareGroupHeartbeatResponseF[1]? = _ from rfl) (by decide))] at r
    exact qhX (by rw [r,qfw]; rfl)
   rw [qcB] at hp; simp at hp; omega
  | 2,hf,hy =>
   obtain rfl:=Option.some.inj hf
   obtain rfl:=Option.some.inj hy
   have e:=hY 2
   refine ⟨fun hp=>?_,fun hp=>?_⟩
   ·have hc:True:=trivial
    have r:=r2
    rw [e] at r
    exact qhY r (qjo (v:=v) (d:=7) (t:=t) (show sShareGroupHeartbeatResponseF[2]? = _ from rfl) (by decide))
   rw [qcB] at hp; simp at hp; omega
  | 3,hf,hy =>
   obtain rfl:=Option.some.inj hf
   obtain rfl:=Option.some.inj hy
   have e:=hY 3
   refine ⟨fun hp=>?_,fun hp=>?_⟩
   ·have hc:True:=trivial
    have r:=r3
    rw [e] at r
    exact qhY r (qjo (v:=v) (d:=7) (t:=t) (show sShareGroupHeartbeatResponseF[3]? = _ from rfl) (by decide))
   rw [qcB] at hp; simp at hp; omega
  | 4,hf,hy =>
   obtain rfl:=Option.some.inj hf
   obtain rfl:=Option.some.inj hy
   have e:=hY 4
   refine ⟨fun hp=>?_,fun hp=>?_⟩
   ·have hc:True:=trivial
    have r:=r4
    rw [e] at r
    rw [(qgL (v:=v) (d:=7) (t:=t) (show sShareGroupHeartbeatResponseF[4]? = _ from rfl) (by decide))] at r
    exact qhX (by rw [r,qd9]; rfl)
   rw [qcB] at hp; simp at hp; omega
  | 5,hf,hy =>
   obtain rfl:=Option.some.inj hf
   obtain rfl:=Option.some.inj hy
   have e:=hY 5
   refine ⟨fun hp=>?_,fun hp=>?_⟩
   ·have hc:True:=trivial
    have r:=r5
    rw [e] at r
    rw [(qgL (v:=v) (d:=7) (t:=t) (show sShareGroupHeartbeatResponseF[5]? = _ from rfl) (by decide))] at r
    exact qhX (by rw [r,qd9]; rfl)
   rw [qcB] at hp; simp at hp; omega
  | 6,hf,hy =>
   obtain rfl:=Option.some.inj hf
   obtain rfl:=Option.some.inj hy
   have e:=hY 6
   refine ⟨fun hp=>?_,fun hp=>?_⟩
   ·have hc:True:=trivial
    have r:=r6
    rw [e] at r
    obtain ⟨fa,fu,fn⟩:=qhg (v:=v) (d:=7) (t:=t) (show sShareGroupHeartbeatResponseF[6]? = _ from rfl)
    refine qks r fn fun hn_=>?_
    exact qb2 v h0 (t.at_ 6) _ fa fu (qkR hi 6) _ (r.2 (by rw [fn]; exact hn_))
   rw [qcB] at hp; simp at hp; omega
  | n_ + 7,hf,hy=>exact absurd (List.getElem?_eq_some_iff.1 hf).1 (by show ¬ n_ + 7 < 7; omega)
 show D.u = if (decide (v ≥ qak)) = true then qco (qai sShareGroupHeartbeatResponseF t.U) else []
 by_cases hc:(decide (v ≥ 0)) = true
 ·rw [if_pos (show (decide (v ≥ qak)) = true from hc),rU.1 hc,hU,qik]
 rw [if_neg (show ¬ (decide (v ≥ qak)) = true from hc),rU.2 (by simpa using hc)]
abbrev z12 :=([.int .i16 0,.int .i32 0,.int .i16 0,.pointer none,.pointer none,.int .i32 0,.int .i32 0,.pointer none,.map none]:List Value)
abbrev z44 (x0) (x1:DV):=([.int .i16 (IntKind.i16.wrap x0),.int .i32 ((x1.f 0).n),.int .i16 ((x1.f 1).n),.pointer ((x1.f 2).A),.pointer ((x1.f 3).A),.int .i32 ((x1.f 4).n),.int .i32 ((x1.f 5).n),.pointer ((x1.f 6).A),.map x1.m]:List Value)
abbrev z42 (x0) (x1) (x2) (x3:DV):=([⟨x0,0,z1,true⟩,⟨x1,0,[.int .i16 (IntKind.i16.wrap x2),.int .i32 ((x3.f 0).n),.int .i16 ((x3.f 1).n),.pointer ((x3.f 2).A),.pointer ((x3.f 3).A),.int .i32 ((x3.f 4).n),.int .i32 ((x3.f 5).n),.pointer ((x3.f 6).A),.map x3.m],true⟩]:Tb)
abbrev z51 (x0):=([.int .i16 (IntKind.i16.wrap x0),.int .i32 0,.int .i16 0,.pointer none,.pointer none,.int .i32 0,.int .i32 0,.pointer none,.map none]:List Value)
set_option maxHeartbeats 4000000 in
theorem qcL (v:Int) (T:Tree) {A2:Option Addr} {c2:Nat} {w:World} {F:Nat → Nat → Prop} (hs_:Octs w F A2 c2 (qaj (IntKind.i16.wrap v) T)) (hc:qa0 T) (hkey:T.ranged) (hroom:(qaj (IntKind.i16.wrap v) T).length + 16 ≤ 1099511627776) :
  Calls Tryz.prog 37 #[.int .i64 v,.slice A2 (qaj (IntKind.i16.wrap v) T).length c2] w (fun e w'=>∃ D cs,e = .returned (.tuple #[.agg cs.toArray,.bool true]) ∧ TreeR w' (Fp NoF w) cs (qa4 D) ∧ qa3 (IntKind.i16.wrap v) D T ∧ Step w w' Nil):=by
 refine enter (n:=20) Tryz.func37 rfl Tryz.ntmps37 kz fun a hE=>?_
 have hW:=WOk.start w Nil
 have hsm2:=Slots.small hs_
 refine qae [0,1] kz ?_
 refine qan (qaP hW hE (d:=4) (cs:=z1) kz fun b1 a2 w3 hb4 hz5 hF6 hW7 hE8=>?_)
 refine qal [1] [] [(0,.v (.int .i64 v)),(1,.v (.slice A2 ((qaj (IntKind.i16.wrap v) T).length) c2)),(4,.p 0 0)] hW7 hE8 fun a9 aU=>?_
 refine qaf (qab ?_)
 refine qae [0,1] kz ?_
 refine qan (qbJ aU (f:=91) (vs:=[]) (d:=7) (n':=3) kz Tryz.call91 Tryz.func91 rfl Tryz.ntmps91 kz fun cM aV=>?_)
 refine qap [] hW7 aV fun cN aW=>?_
 refine qae [0] kz ?_
 refine qan (qaP hW7 aW (d:=1) (cs:=z12) kz fun ab cO cP cq cr cu ac aX=>?_)
 refine qaf (qab ?_)
 refine qae [0] kz ?_
 refine qan (qbJ aX (f:=134) (vs:=[.pointer (some ⟨ab,0,none⟩)]) (d:=2) (n':=7) kz Tryz.call134 Tryz.func134 rfl Tryz.ntmps134 kz fun cQ aY=>?_)
 have aZ:=aY.recast 0 (.v (.pointer (some ⟨ab,0,none⟩))) (.p 1 0) rfl rfl (Nat.le_of_ble_eq_true (n:=2) rfl)
 refine qap [(2,.p 1 7)] ac aZ fun cR ba=>?_
 refine qas [0] kz ?_
 refine qal [0] [] [] ac ba fun cS bd=>?_
 refine qaf (qbM bd ac.cells (v:=.tuple #[]) kz ?_)
 refine ⟨_,rfl,fun cT bf=>?_⟩
 have bg:EnvOk 3 [⟨b1,0,z1,true⟩,⟨ab,0,z12,true⟩] [(2,.v (.tuple #[])),(1,.p 1 0)] _:=bf.places (⟨rfl,rfl,⟨rfl,rfl,trivial⟩⟩)
 refine qaf (qab ?_)
 refine qap [(0,.p 1 0)] ac bg fun cU bh=>?_
 refine wp_ret (qaL bh ac.cells (v:=.pointer (some ⟨ab,0,none⟩)) kz ?_)
 refine ⟨_,rfl,fun cV bi=>?_⟩
 have bj:EnvOk 20 [⟨b1,0,z1,true⟩,⟨ab,0,z12,true⟩] [(7,.v (.pointer (some ⟨ab,0,none⟩))),(0,.v (.int .i64 v)),(1,.v (.slice A2 ((qaj (IntKind.i16.wrap v) T).length) c2)),(4,.p 0 0)] _:=bi.places (⟨rfl,rfl,trivial⟩)
 have bk:=bj.recast 7 (.v (.pointer (some ⟨ab,0,none⟩))) (.p 1 0) rfl rfl (Nat.le_of_ble_eq_true (n:=2) rfl)
 have bn:=bk.pick (ks:=[0,1,4,7]) (env':=[(0,.v (.int .i64 v)),(1,.v (.slice A2 ((qaj (IntKind.i16.wrap v) T).length) c2)),(4,.p 0 0),(7,.p 1 0)]) kz
 refine qal [1] [] [(0,.v (.int .i64 v)),(1,.v (.slice A2 ((qaj (IntKind.i16.wrap v) T).length) c2)),(4,.p 0 0),(6,.p 1 0)] ac bn fun cW bo=>?_
 refine qaf (qab ?_)
 refine qae [0,1,2,3] kz ?_
 refine qal [0,1,2] [3] [(1,.v (.slice A2 ((qaj (IntKind.i16.wrap v) T).length) c2)),(4,.p 0 0),(6,.p 1 0),(8,.p 1 0),(10,.v (.int .i16 (IntKind.i16.wrap v)))] ac bo fun cX bp=>?_
 refine qan (qbJ bp (f:=94) (vs:=[.pointer (some ⟨ab,0,none⟩),.int .i16 (IntKind.i16.wrap v)]) (d:=11) (n':=8) kz Tryz.call94 Tryz.func94 rfl Tryz.ntmps94 kz fun cY bq=>?_)
 have bt:=bq.recast 0 (.v (.pointer (some ⟨ab,0,none⟩))) (.p 1 0) rfl rfl (Nat.le_of_ble_eq_true (n:=2) rfl)
 refine qas [0,1,2,3,4] kz ?_
 refine qal [0,1,2,3] [4] [(5,.v (.int .i16 (IntKind.i16.wrap v))),(7,.p 1 0)] ac bt fun cZ bu=>?_
 refine qan (qat ac bu (oi:=1) (cs:=(z51 v)) kz fun c5 cw ao bw=>?_)
 refine qaf (qbM bw ao.cells (v:=.tuple #[]) kz ?_)
 refine ⟨_,rfl,fun c6 bx=>?_⟩
 have bz:EnvOk 20 [⟨b1,0,z1,true⟩,⟨ab,0,(z51 v),true⟩] [(11,.v (.tuple #[])),(1,.v (.slice A2 ((qaj (IntKind.i16.wrap v) T).length) c2)),(4,.p 0 0),(6,.p 1 0),(8,.p 1 0),(10,.v (.int .i16 (IntKind.i16.wrap v)))] _:=bx.places (⟨rfl,rfl,⟨rfl,rfl,trivial⟩⟩)
 refine qaf (qab ?_)
 refine wp_seq (qae [0,1,2,3,4] kz ?_)
 refine qal [0,1] [2,3,4] [(4,.p 0 0),(6,.p 1 0),(12,.p 1 0),(13,.v (.slice A2 ((qaj (IntKind.i16.wrap v) T).length) c2))] ao bz fun da bA=>?_
 have ah:=ao.addNil 5 1
 have cz:=ao.frNil 5 1
 refine qan (qaV ah bA (k:=0) (d:=14) (t:=22) (e:=5) (size:=1) (bytes:=1) (A:=none) (As:=A2) (m0:=0) (c:=0) (m:=((qaj (IntKind.i16.wrap v) T).length)) (cs:=c2) (xs:=[]) (news:=bc (qaj (IntKind.i16.wrap v) T)) kz kz rfl (hs_.move ah.step nilM ah.imm).src (hs_.move ah.step nilM ah.imm).cap (by first | omega | (simp only [List.length_nil]; omega) | (simp; omega)) fun af ag db dc cA bB bC=>?_)
 have bD:(⟨af,ag,5,1,0 + (qaj (IntKind.i16.wrap v) T).length,[] ++ bc (qaj (IntKind.i16.wrap v) T)⟩:Rw) = brow af ag 5 (qaj (IntKind.i16.wrap v) T):=by rw [List.nil_append,Nat.zero_add]
 obtain ⟨ap,cB⟩:=bB.rowEq 0 [brow af ag 5 (qaj (IntKind.i16.wrap v) T)] bD
 have bE:=EnvOk.pick bC (ks:=[4,6,12,13,14]) (env':=[(4,.p 0 0),(6,.p 1 0),(12,.p 1 0),(13,.v (.slice A2 ((qaj (IntKind.i16.wrap v) T).length) c2)),(14,.v (.slice af (0 + (qaj (IntKind.i16.wrap v) T).length) ag))]) kz
 have bF:=bE.cast (env':=[(4,.p 0 0),(6,.p 1 0),(12,.p 1 0),(13,.v (.slice A2 ((qaj (IntKind.i16.wrap v) T).length) c2)),(14,.v (.slice af ((qaj (IntKind.i16.wrap v) T).length) ag))]) (by simp only [List.length_append,List.length_cons,List.length_nil,Nat.zero_add])
 refine qan (qbJ bF (f:=95) (vs:=[.pointer (some ⟨ab,0,none⟩),.slice af ((qaj (IntKind.i16.wrap v) T).length) ag]) (d:=15) (n':=8) kz Tryz.call95 Tryz.func95 rfl Tryz.ntmps95 kz fun de bG=>?_)
 have bH:=bG.recast 0 (.v (.pointer (some ⟨ab,0,none⟩))) (.p 1 0) rfl rfl (Nat.le_of_ble_eq_true (n:=2) rfl)
 refine qap [(0,.p 1 0),(1,.v (.slice af ((qaj (IntKind.i16.wrap v) T).length) ag))] ap bH fun df bI=>?_
 refine qae [0,1,2,3] kz ?_
 refine qal [0,1] [2,3] [(5,.p 1 0),(6,.v (.slice af ((qaj (IntKind.i16.wrap v) T).length) ag))] ap bI fun dg bJ=>?_
 have bK:=ap.giveUp (G:=NoF) 0 [] (show _ = some (brow af ag 5 (qaj (IntKind.i16.wrap v) T)) from rfl) (by omega)
 obtain ⟨aI,cC⟩:=ap.cutR 0 []
 refine qan (qam bJ (f:=136) (vs:=[.pointer (some ⟨ab,0,none⟩),.slice af ((qaj (IntKind.i16.wrap v) T).length) ag,.bool false]) (d:=7) kz Tryz.call136 (qcJ (IntKind.i16.wrap v) T (Str.of aI 1 rfl) bK (qkl 1 rfl) hc hkey) ?_)
 rintro e_ dh ⟨aa,rfl,bL,bM,bN,aJ⟩
 obtain ⟨ae,cD,bO⟩:=aI.wrote 1 (z42 b1 ab v aa) rfl aJ bL
 have bP:=qbY _ (Step.refl _ Nil) nilM bO bM
 refine ⟨_,rfl,fun di bQ=>?_⟩
 have bR:=(EnvOk.places (tb':=[⟨b1,0,[.int .i64 0,.slice none 0 0,.bool false,.slice none 0 0,.slice none 0 0],true⟩,⟨ab,0,[.int .i16 (IntKind.i16.wrap v),.int .i32 ((aa.f 0).n),.int .i16 ((aa.f 1).n),.pointer ((aa.f 2).A),.pointer ((aa.f 3).A),.int .i32 ((aa.f 4).n),.int .i32 ((aa.f 5).n),.pointer ((aa.f 6).A),.map aa.m],true⟩]) bQ (show Pl [⟨b1,0,[.int .i64 0,.slice none 0 0,.bool false,.slice none 0 0,.slice none 0 0],true⟩,⟨ab,0,[.int .i16 (IntKind.i16.wrap v),.int .i32 0,.int .i16 0,.pointer none,.pointer none,.int .i32 0,.int .i32 0,.pointer none,.map none],true⟩] [⟨b1,0,[.int .i64 0,.slice none 0 0,.bool false,.slice none 0 0,.slice none 0 0],true⟩,⟨ab,0,[.int .i16 (IntKind.i16.wrap v),.int .i32 ((aa.f 0).n),.int .i16 ((aa.f 1).n),.pointer ((aa.f 2).A),.pointer ((aa.f 3).A),.int .i32 ((aa.f 4).n),.int .i32 ((aa.f 5).n),.pointer ((aa.f 6).A),.map aa.m],true⟩] from ⟨rfl,rfl,⟨rfl,rfl,trivial⟩⟩)).pk (env':=[(7,.v (.nilIface)),(5,.p 1 0),(6,.v (.slice af ((qaj (IntKind.i16.wrap v) T).length) ag))])
 refine qal [3] [] [(4,.v (.nilIface))] ae bR fun dj bS=>?_
 refine qaf (qab ?_)
 refine wp_ret (qaL bS ae.cells (v:=.nilIface) kz ?_)
 refine ⟨_,rfl,fun dl bT=>?_⟩
 have bU:EnvOk 20 (z42 b1 ab v aa) [(15,.v (.nilIface)),(4,.p 0 0),(6,.p 1 0),(12,.p 1 0),(13,.v (.slice A2 ((qaj (IntKind.i16.wrap v) T).length) c2)),(14,.v (.slice af ((qaj (IntKind.i16.wrap v) T).length) ag))] _:=bT.places (⟨rfl,rfl,⟨rfl,rfl,trivial⟩⟩)
 refine qal [4] [] [(4,.p 0 0),(6,.p 1 0),(16,.v (.bool false))] ae bU fun cE ar=>?_
 refine qaf (qab ?_)
 refine qar ar (b:=false) kz rfl ?_
 refine wp_skip (qab (qae [0,1,2,3] kz ?_))
 refine qal [0] [1,2,3] [(4,.p 0 0),(18,.p 1 0)] ae ar fun cG aK=>?_
 have aL:=aK.recast 18 (.p 1 0) (.v (.pointer (some ⟨ab,0,none⟩))) rfl rfl trivial
 have aM:=aL.pk (env':=[(4,.p 0 0),(18,.v (.pointer (some ⟨ab,0,none⟩)))])
 have aw:=WOk.strOut (G:=NoF) [⟨b1,0,z1,true⟩] ae
 obtain ⟨aN,ai,au⟩:=ae.cutB aM 1 [⟨b1,0,z1,true⟩] [(4,.p 0 0),(18,.v (.pointer (some ⟨ab,0,none⟩)))]
 have aO:=qbY _ au.step immM au.to' bP
 refine qan (qam aN (f:=96) (vs:=[.pointer (some ⟨ab,0,none⟩)]) (d:=19) kz Tryz.call96 (qcK (IntKind.i16.wrap v) aa ab 0 _ _ aw aO) ?_)
 rintro e_ cH ⟨b8,rfl,aP,aj⟩
 have ak:=aP.move (Step.refl _ Nil) nilM (ai.laid (G:=NoF) aj)
 obtain ⟨ax,ay,az,aA,aB,aC,aD,aE,aF,aG,aH,cd,ce,al,bV,bW,cI,cJ⟩:=ak.open_
 rw [al] at ak
 have bX:=bV.small
 have bY:=bW.small
 rw [al]
 refine ⟨_,rfl,fun cK aQ=>?_⟩
 have aR:=ai.next_nil aj
 have cm:=ai.frN aj
 refine qan (qat aR aQ (oi:=0) (cs:=(z3 ax aC ay.length aD az aE aA.length aF aG aB.length aH)) kz fun bZ av am aS=>?_)
 refine qal [3] [] [(4,.p 0 0),(5,.v (.bool true))] am aS fun cL aT=>?_
 refine qaf (qab ?_)
 refine wp_ret (qaL aT am.cells (v:=.tuple #[.agg #[.int .i64 ax,.slice aC ay.length aD,.bool az,.slice aE aA.length aF,.slice aG aB.length aH],.bool true]) kz ?_)
 exact ⟨aa,_,rfl,(show TreeR _ (Imm NoF w bZ [⟨b1,0,[.int .i64 ax,.slice aC ay.length aD,.bool az,.slice aE aA.length aF,.slice aG aB.length aH],true⟩] []) _ (qa4 aa) from (ak.move av.step immM av.to')).move (Step.refl _ Nil) nilM qbL,bN,am.step⟩
theorem qcD (v:Int) (T:Tree) (B:Bs) {A2:Option Addr} {c2:Nat} {w:World} {F:Nat → Nat → Prop} (hB:qaj (IntKind.i16.wrap v) T = B) (hs_:Octs w F A2 c2 B) (hc:qa0 T) (hkey:T.ranged) (hroom:B.length + 16 ≤ 1099511627776) :
  Calls Tryz.prog 37 #[.int .i64 v,.slice A2 B.length c2] w (fun e w'=>∃ D cs,e = .returned (.tuple #[.agg cs.toArray,.bool true]) ∧ TreeR w' (Fp NoF w) cs (qa4 D) ∧ qa3 (IntKind.i16.wrap v) D T ∧ Step w w' Nil):=by
 subst hB
 exact qcL v T hs_ hc hkey hroom
end Go.Proofs.YtcbpjflgkefidaaGreatDoor.ME