/- The texts of a claim, put together: the engine, the contracts, the law. Own work. -/
import Derived.Test.YtcbpjflgkefidaaGreatDoorWt1P3
import Derived.Lib.ConvBytes
namespace Go.Proofs.YtcbpjflgkefidaaGreatDoor.ME
open Go
open Go.RowKit
open Go.ChangeMaps (setBlock)
set_option linter.unusedVariables false
set_option linter.unusedSimpArgs false
set_option maxRecDepth 20000
abbrev cloV (fc:Nat) (cap:Value):Value:=.func (.func fc) #[] #[cap]
theorem qlJ {fc:Nat} {cap:Value} {m:Option Nat} {u:List (Int × Bs)} {b o:Nat} {w:World} {F M:Nat → Nat → Prop} (hcf:∀ args w,(callFunc fc args).run Tryz.prog w = .ok (.enter fc args) w) (I:World → Nat → World → Prop) (hat:AtF w F b o [.map m]) (hm:MapR w F m u) (hMF:∀ b o,F b o → ¬ M b o) (hMlt:∀ b o,M b o → b < w.heap.size)
  (hI0:∀ w7,Step w w7 Nil → I w7 0 w7) (hIs:∀ w7 j w8,I w7 j w8 → Step w7 w8 M)
  (hI1:∀ w7,Step w w7 Nil → ∀ j k x w8 Ax cx,I w7 j w8 → u[j]? = some (k,x) → (0 ≤ k ∧ k < 4294967296) → Octs w8 (fun b o=>F b o ∧ b < w7.heap.size) Ax cx x → Calls Tryz.prog fc [.int .u32 k,.slice Ax x.length cx,cap].toArray w8 (fun e w9=>e = .returned (.tuple #[]) ∧ I w7 (j + 1) w9)) (hul:u.length ≤ 1000000) :
  Calls Tryz.prog 103 [.pointer (some ⟨b,o,none⟩),cloV fc cap].toArray w (fun e w'=>e = .returned (.tuple #[]) ∧ ∃ w7,Step w w7 Nil ∧ I w7 u.length w'):=by
 refine enter (n:=53) Tryz.func103 rfl Tryz.ntmps103 kz fun a hE=>?_
 have hW:WOk w Nil w [⟨b,o,[.map m],false⟩] []:=(WOk.start w Nil).start1 hat rfl rfl
 refine wp_seq (wp_seq ?_)
 refine qap [0,1,2,3,4,5] kz ?_
 refine qbt [0,1,2,3] [4,5] [0,1,11] hW (EnvOk.ptr0 (cs:=[.map m]) (r:=false) hE) (env':=[(0,.p 0 0),(1,.v (cloV fc cap)),(11,.v (.map m))]) kz rfl fun a1 hE1=>?_
 refine qak (qgd (t:=92) (kt:=62) (et:=22) hE1 (m:=m) (d:=12) kz kz hm fun a2 hE2=>?_)
 refine qbt [5] [] [0,1,13] hW hE2 (env':=[(0,.p 0 0),(1,.v (cloV fc cap)),(13,.v (.bool (((u.length:Nat):Int) == 0)))]) kz rfl fun a3 hE3=>qaf (qab ?_)
 refine qas hE3 (b:=((u.length:Nat):Int) == 0) kz (fun hb=>?_) (fun hb=>?_)
 ·-- none
  have hu:u = []:=List.eq_nil_of_length_eq_zero (by have:=eq_of_beq hb; omega)
  subst hu
  refine wp_ret (qam ?_)
  exact qaF hE3 hW.cells (v:=.tuple #[]) kz ⟨rfl,w,Step.refl _ _,hI0 w (Step.refl _ _)⟩
 have hu0:0 < u.length:=by have:=ne_of_beq_false hb; omega
 cases m with
 | none=>rw [hm.none_ rfl] at hu0; cases hu0
 | some mb =>
 obtain ⟨hFm,es,clk,hes,hperm,hborn,hnod,hcont⟩:=hm.some_ mb rfl
 have hmlt:mb < w.heap.size:=(Array.getElem?_eq_some_iff.1 hes).1
 have hesz:es.size = u.length:=MapR.size (w:=w) (F:=F) hperm
 refine wp_skip (qab ?_)
 refine qae [0,1,2,3,4,5,6,7] kz ?_
 refine qbt [0,1,2,3] [4,5,6,7] [0,1,17] hW hE3 (env':=[(0,.p 0 0),(1,.v (cloV fc cap)),(17,.v (.map (some mb)))]) kz rfl fun a4 hE4=>?_
 refine qak (qgd (t:=92) (kt:=62) (et:=22) hE4 (m:=some mb) (d:=18) kz kz hm fun a5 hE5=>?_)
 refine qak (qhM (e:=62) (size:=1) (bytes:=4) (j:=u.length) (t:=186) (d:=19) hW hE5 (p:=0) (q:=((u.length:Nat):Int)) kz kz rfl rfl (by omega) fun kr a6 w1 hkr hkr0 hF1 hW1 hE6=>?_)
 refine qak (qaK hW1 hE6 (d:=4) (cs:=[.slice none 0 0]) kz fun kb a7 w2 hkb hkb0 hF2 hW2 hE7=>?_)
 refine qak (qav hW2 hE7 (oi:=1) (cs:=[.slice (some ⟨kr,0,none⟩) 0 u.length]) kz fun w3 hF3 hW3 hE8=>qaf (qab ?_))
 refine wp_seq (qae [0,1,2,3,4] kz ?_)
 refine qbt [0,1,2,3] [4] [0,1,4,23] hW3 hE8 (env':=[(0,.p 0 0),(1,.v (cloV fc cap)),(4,.p 1 0),(23,.v (.map (some mb)))]) kz rfl fun a8 hE9=>?_
 have hes3:=hW3.step.heap (fun o h=>h) hes
 refine qak (qhP (t:=92) (kt:=62) (et:=22) (d:=24) (r:=mb) hE9 kz kz hes3 fun a9 hE10=>qaf (qab ?_))
 have hW4:=hW3.next_nil (Step.alloc w3 (.mapIter (some mb) clk #[] clk))
 have hr4:(w3.alloc (.mapIter (some mb) clk #[] clk)).heap[w3.heap.size]? = some (.mapIter (some mb) clk #[] clk):=qcf _ _
 have hE11:=hE10.pick (ks:=[0,1,4,24]) (env':=[(0,.p 0 0),(1,.v (cloV fc cap)),(4,.p 1 0),(24,.v (.pointer (some ⟨w3.heap.size,0,none⟩)))]) kz
 have hrlt:w3.heap.size < (w3.alloc (.mapIter (some mb) clk #[] clk)).heap.size:=by rw [qcG]; omega
 have hr0:w.heap.size ≤ w3.heap.size:=hW3.step.size
 have hkbr:kb ≠ w3.heap.size:=by have:=hW3.live 1 _ rfl; show ¬ _; intro e; rw [← e] at this; exact absurd this (Nat.lt_irrefl _)
 have hkrr:kr ≠ w3.heap.size:=by have:=qbB (hW3.own 0 _ rfl) (g:=kr) rfl; omega
 generalize hR:w3.heap.size = R at hr4 hE11 hrlt hkbr hkrr
 generalize hw4:w3.alloc (.mapIter (some mb) clk #[] clk) = w4 at hW4 hr4 hrlt
 refine wp_block ?_
 refine wp_loop_ghost (fun q a_ w_=>∃ (vis:List MapEntry) (seen:Array Nat) (K:Option Addr) (kc c0:Nat),q = (leftOf es seen).size ∧ Vis es.toList vis seen ∧ vis.length + (leftOf es seen).size ≤ es.size ∧
   EnvOk 53 [⟨b,o,[.map (some mb)],false⟩,⟨kb,0,[.slice K vis.length kc],true⟩] [(0,.p 0 0),(1,.v (cloV fc cap)),(4,.p 1 0),(24,.v (.pointer (some ⟨R,0,none⟩)))] a_ ∧
   WOk w Nil w_ [⟨b,o,[.map (some mb)],false⟩,⟨kb,0,[.slice K vis.length kc],true⟩] [⟨K,kc,62,1,vis.length,(vis.map fun e=>kOf e.key).map (Value.int .u32)⟩] ∧
   w_.heap[R]? = some (.mapIter (some mb) clk seen c0) ∧ clk ≤ c0 ∧ K.map (·.block) ≠ some R) (leftOf es #[]).size
  ⟨[],#[],some ⟨kr,0,none⟩,u.length,clk,rfl,Vis.nil _,by rw [List.length_nil,Nat.zero_add]; exact Array.size_filter_le,by rw [← hw4] at *; exact hE11,hW4,hr4,Nat.le_refl _,by simpa using hkrr⟩ ?_
 rintro q a10 w5 ⟨vis,seen,K,kc,c0,rfl,hv,hvl,hE12,hW5,hr5,hc0,hKR⟩
 have hes5:=hW5.step.heap (fun o h=>h) hes
 refine qae [0,1] kz ?_
 refine qak (qiE hE12 (d:=25) (r:=R) kz hr5 hes5 hborn hc0 (fun h0 a11 hE13=>?_) (fun e he w6 hw6 a11 hE13=>?_))
 ·-- behind it
  refine qbt [1] [] [0,1,4,26] hW5 hE13 (env':=[(0,.p 0 0),(1,.v (cloV fc cap)),(4,.p 1 0),(26,.v (.bool false))]) kz rfl fun a12 hE14=>qaf (qab (wp_seq ?_))
  refine qas hE14 (b:=false) kz (fun hb=>by cases hb) (fun _=>?_)
  refine wp_exit (qaB (qaB (qaL (qab ?_))))
  have hpe:=hv.all h0 hnod
  have hvu:vis.length = u.length:=by rw [hpe.length_eq,Array.length_toList,hesz]
  have hkp:(vis.map fun e=>kOf e.key).Perm (u.map Prod.fst):=by
   have h1:=(hpe.map fun e=>kOf e.key)
   have h2:=hperm.map kOf
   rw [List.map_map,List.map_map] at h2
   exact h1.trans h2
  have hkl:(vis.map fun e=>kOf e.key).length = vis.length:=by simp
  generalize (vis.map fun e=>kOf e.key) = ks at hkp hkl hW5
  have hown4:w5.ownsRow 0 62 1 (.slice K vis.length kc) vis.length (ks.map (Value.int .u32)):=hW5.own 0 _ rfl
  obtain ⟨g,rfl⟩:=qb0 hown4 (by omega)
  have hown5:w5.ownsRow 0 62 1 (.slice (some ⟨g,0,none⟩) vis.length kc) vis.length (ks.map (Value.int .u32)):=hown4
  have hg0:w.heap.size ≤ g:=by
   rcases hW5.ownM 0 _ rfl g rfl with h | h
   ·exact h
   exact (h 0).elim
  refine qae [0,1,2,3] kz ?_
  refine qbt [0,1] [2,3] [0,1,4,34] hW5 hE14 (env':=[(0,.p 0 0),(1,.v (cloV fc cap)),(4,.p 1 0),(34,.v (.iface 186 (.slice (some ⟨g,0,none⟩) vis.length kc)))]) kz rfl fun a13 hE15=>?_
  refine qak (qfH hE15 (v:=.func (.func 160) #[] #[.pointer (some ⟨kb,0,none⟩)]) (d:=35) kz fun a14 hE16=>?_)
  have hS:=Tryz.sortKeys g kc kb ks.toArray (by simp; omega) (by simp; omega) w5 (by simp only [List.size_toArray,hkl]; exact hW5.cells 1 _ rfl 0 _ rfl) (fun e=>hW5.rtb 0 _ rfl g rfl 1 _ rfl e) (qgf hkl hown5) (qbB (hW5.own 0 _ rfl) (g:=g) rfl) (hW5.live 1 _ rfl)
  rw [List.size_toArray,hkl] at hS
  refine qak (qaj hE16 (f:=159) (vs:=[.iface 186 (.slice (some ⟨g,0,none⟩) vis.length kc),.func (.func 160) #[] #[.pointer (some ⟨kb,0,none⟩)]]) (d:=36) kz Tryz.call159 hS ?_)
  rintro e_ w7 ⟨rfl,d',nd,os,hd1,hd2,hd3,rfl⟩
  refine ⟨_,rfl,fun a15 hE17=>qaf (qab ?_)⟩
  have hus:d'.toList = u.map Prod.fst:=qiF hd2 (by rw [hd1]; exact hd3) hkp (List.pairwise_map.2 hm.sorted)
  obtain ⟨hst7,hown7⟩:=qjP (n:=nd) (os:=os) hkl hown5 (by rw [hd1,hkl])
  rw [hus] at hown7
  generalize Sort.grow (Sort.putRow (Value.int .u32) (Sort.ahead w5 nd) g 0 d') os = w7 at hst7 hown7
  have hW7:WOk w Nil w7 [⟨b,o,[.map (some mb)],false⟩,⟨kb,0,[.slice (some ⟨g,0,none⟩) vis.length kc],true⟩] [⟨some ⟨g,0,none⟩,kc,62,1,vis.length,(u.map Prod.fst).map (Value.int .u32)⟩] :=
   hW5.grow (k:=0) (r':=⟨some ⟨g,0,none⟩,kc,62,1,vis.length,(u.map Prod.fst).map (Value.int .u32)⟩) rfl (hst7.mono fun b' _ _ hb'=>by rw [hb']; rfl) hown7 (fun g' h=>.inl h)
  refine qae [0,1,2] kz ?_
  refine qbt [0,1,2] [] [0,1,37,38,39] hW7 hE17 (env':=[(0,.p 0 0),(1,.v (cloV fc cap)),(37,.v (.slice (some ⟨g,0,none⟩) vis.length kc)),(38,.v (.int .i64 ((vis.length:Nat):Int))),(39,.v (.int .i64 0))]) kz rfl fun a16 hE18=>qaf (qab ?_)
  have hE19:=EnvOk.cutTb 1 hE18 kz
  have hat7:=hat.move hW7.step nilM qaY
  have hm7:=hm.move hW7.step nilM qaY
  have hg7:g < w7.heap.size:=qbB (hW7.own 0 _ rfl) (g:=g) rfl
  have hkeys:=qgf (by simpa using hvu.symm) hown7
  rw [hvu] at hE19
  refine wp_block ?_
  refine wp_loop_ghost (fun q a_ w_=>∃ (j:Nat),q = u.length - j ∧ j ≤ u.length ∧ EnvOk 53 [⟨b,o,[.map (some mb)],false⟩] [(0,.p 0 0),(1,.v (cloV fc cap)),(37,.v (.slice (some ⟨g,0,none⟩) u.length kc)),(38,.v (.int .i64 ((u.length:Nat):Int))),(39,.v (.int .i64 ((j:Nat):Int)))] a_ ∧
   I w7 j w_) u.length
   ⟨0,by omega,by omega,hE19,hI0 w7 hW7.step⟩ ?_
  rintro q a17 w8 ⟨j,rfl,hj,hE20,hD⟩
  have hS8:=hIs w7 j w8 hD
  have hat8:=hat7.move hS8 (fun b o hf _=>hMF b o hf) qaY
  have hm8:MapR w8 (fun b' o'=>F b' o' ∧ b' < w7.heap.size) (some mb) u:=hm7.move hS8 (fun b o hf _=>hMF b o hf) (fun b' o' hf hl=>⟨hf,hl⟩)
  have hW8:WOk w8 Nil w8 [⟨b,o,[.map (some mb)],false⟩] []:=(WOk.start w8 Nil).start1 hat8 rfl rfl
  refine qae [0] kz (qbt [0] [] [0,1,37,38,39,40] hW8 hE20 (env':=[(0,.p 0 0),(1,.v (cloV fc cap)),(37,.v (.slice (some ⟨g,0,none⟩) u.length kc)),(38,.v (.int .i64 ((u.length:Nat):Int))),(39,.v (.int .i64 ((j:Nat):Int))),(40,.v (.bool (decide (((j:Nat):Int) < ((u.length:Nat):Int)))))]) kz rfl fun a18 hE21=>qaf (qab (wp_seq ?_)))
  refine qas hE21 (b:=decide (((j:Nat):Int) < ((u.length:Nat):Int))) kz (fun hc=>?_) (fun hc=>?_)
  ·have hlt:j < u.length:=by have:=of_decide_eq_true hc; omega
   refine wp_skip (qab (wp_seq (wp_block ?_)))
   obtain ⟨⟨k,x⟩,hu⟩:∃ y,u[j]? = some y:=⟨_,List.getElem?_eq_getElem hlt⟩
   have hmem:=List.mem_of_getElem? hu
   have hkr:=hm.range _ hmem
   have hcell:At w8 g (0 + j * 1) [.int .u32 k]:=by
    intro i v hi
    have hi0:i = 0:=by
     have:=(List.getElem?_eq_some_iff.1 hi).1
     simp at this; omega
    subst hi0
    simp only [List.getElem?_cons_zero,Option.some.injEq] at hi
    subst hi
    refine hS8.cell (fun hbm=>?_) ?_
    ·have:=hMlt _ _ hbm; omega
    have h1:=(hkeys j (by simpa using hlt)).1
    have h2:(u.map Prod.fst).toArray[j]! = k:=by
     rw [getElem!_pos _ j (by simpa using hlt)]
     have:(u.map Prod.fst)[j]? = some k:=by rw [List.getElem?_map,hu]; rfl
     simpa using (List.getElem?_eq_some_iff.1 this).2
    rw [h2] at h1
    simpa using h1
   refine qae [0,1,2] kz ?_
   refine qak (qaC hE21 (t:=186) (e:=62) (size:=1) (bytes:=4) (d:=41) (b:=g) (o:=0) (m:=u.length) (j:=j) kz kz rfl rfl hlt fun a19 hE22=>?_)
   refine qak (qaJ hE22 (t:=62) (d:=42) (cs:=[.int .u32 k]) (v:=.int .u32 k) kz kz hcell fun a20 hE23=>?_)
   refine qbt [2] [] [0,1,37,38,39,7] hW8 hE23 (env':=[(0,.p 0 0),(1,.v (cloV fc cap)),(37,.v (.slice (some ⟨g,0,none⟩) u.length kc)),(38,.v (.int .i64 ((u.length:Nat):Int))),(39,.v (.int .i64 ((j:Nat):Int))),(7,.v (.int .u32 k))]) kz rfl fun a21 hE24=>qaf (qab ?_)
   refine qap [0,1,2,3,4,5,6,7,8] kz ?_
   refine qbt [0,1,2,3,4,5,6] [7,8] [0,1,37,38,39,43,44,48,49] hW8 hE24 (env':=[(0,.p 0 0),(1,.v (cloV fc cap)),(37,.v (.slice (some ⟨g,0,none⟩) u.length kc)),(38,.v (.int .i64 ((u.length:Nat):Int))),(39,.v (.int .i64 ((j:Nat):Int))),(43,.v (cloV fc cap)),(44,.v (.int .u32 k)),(48,.v (.map (some mb))),(49,.v (.int .u32 k))]) kz rfl fun a22 hE25=>?_
   refine qak (qiC hE25 (t:=92) (kt:=62) (et:=22) (m:=some mb) (k:=k) (s:=x) (d:=50) kz kz kz hm8 hmem fun a23 Ax cx hox hE26=>?_)
   refine qak (qaj hE26 (f:=fc) (vs:=[.int .u32 k,.slice Ax x.length cx,cap]) (d:=51) kz hcf (hI1 w7 hW7.step j k x w8 Ax cx hD hu hkr hox) ?_)
   rintro e_ w9 ⟨rfl,hD2⟩
   refine ⟨_,rfl,fun a24 hE27=>qaf (qaq (qab ?_))⟩
   have hS9:=hIs w7 (j + 1) w9 hD2
   have hat9:=hat7.move hS9 (fun b o hf _=>hMF b o hf) qaY
   have hW9:WOk w9 Nil w9 [⟨b,o,[.map (some mb)],false⟩] []:=(WOk.start w9 Nil).start1 hat9 rfl rfl
   refine qap [0,1] kz (qbt [0,1] [] [0,1,37,38,39] hW9 hE27 (env':=[(0,.p 0 0),(1,.v (cloV fc cap)),(37,.v (.slice (some ⟨g,0,none⟩) u.length kc)),(38,.v (.int .i64 ((u.length:Nat):Int))),(39,.v (.int .i64 (IntKind.i64.wrap (((j:Nat):Int) + 1))))]) kz rfl fun a25 hE28=>qaf (qab ?_))
   rw [qaM (by omega)] at hE28
   exact ⟨u.length - (j + 1),by omega,j + 1,rfl,by omega,hE28,hD2⟩
  obtain rfl:j = u.length:=by have:=of_decide_eq_false hc; omega
  refine wp_exit (qaB (qaB (qaL ?_)))
  exact qbK hE21 hW8.cells (v:=.tuple #[]) kz ⟨rfl,w7,hW7.step,hD⟩
 -- one more
 have hst6:Step w5 w6 Nil:=by
  rcases hw6 with rfl | rfl
  ·exact Step.refl _ _
  exact Step.drew _
 have hr6:w6.heap[R]? = some (.mapIter (some mb) clk seen c0):=hst6.heap (fun o h=>h) hr5
 have hW6:=hW5.next_nil hst6
 obtain ⟨hml,_⟩:=mem_left he
 obtain ⟨k,sx,Ax,cx,hk1,hk2,hk3,hk4⟩:=hcont e hml
 have hR6:R < w6.heap.size:=(Array.getElem?_eq_some_iff.1 hr6).1
 have hW7:WOk w Nil (setBlock w6 R (.mapIter (some mb) clk (seen.push e.born) clk)) [⟨b,o,[.map (some mb)],false⟩,⟨kb,0,[.slice K vis.length kc],true⟩] [⟨K,kc,62,1,vis.length,(vis.map fun e=>kOf e.key).map (Value.int .u32)⟩]:=by
  refine hW6.next (Step.setBlock w6 R _) (fun b' o' hb' hN=>by omega) (fun i ob hi j hj hN=>?_) (fun i q hi g' hg' o' hN=>?_)
  ·match i,hi with
   | 0,hi =>
    simp only [List.getElem?_cons_zero,Option.some.injEq] at hi; subst hi
    have:=World.lt_of_cell (hat 0 _ rfl).2
    simp only at hN; omega
   | 1,hi =>
    simp only [List.getElem?_cons_succ,List.getElem?_cons_zero,Option.some.injEq] at hi; subst hi
    exact hkbr hN
   | i + 2,hi=>simp at hi
  match i,hi with
  | 0,hi =>
   simp only [List.getElem?_cons_zero,Option.some.injEq] at hi; subst hi
   exact hKR (by rw [← hN]; exact hg')
  | i + 1,hi=>simp at hi
 have hr7:(setBlock w6 R (.mapIter (some mb) clk (seen.push e.born) clk)).heap[R]? = some (.mapIter (some mb) clk (seen.push e.born) clk):=qdZ hr6
 generalize hw7:setBlock w6 R (.mapIter (some mb) clk (seen.push e.born) clk) = w7 at hW7 hr7
 refine qbt [1] [] [0,1,4,24,26] hW7 hE13 (env':=[(0,.p 0 0),(1,.v (cloV fc cap)),(4,.p 1 0),(24,.v (.pointer (some ⟨R,0,none⟩))),(26,.v (.bool true))]) kz rfl fun a12 hE14=>qaf (qab (wp_seq ?_))
 refine qas hE14 (b:=true) kz (fun _=>?_) (fun hb=>by cases hb)
 refine wp_skip (qab (wp_block ?_))
 have hes7:=hW7.step.heap (fun o h=>h) hes
 refine qae [0,1,2] kz ?_
 refine qak (qhQ hE14 (d:=27) (r:=R) kz hr7 hes7 hml hnod fun a13 hE15=>?_)
 rw [hk1] at hE15
 refine qbt [1,2] [] [0,1,4,24,5] hW7 hE15 (env':=[(0,.p 0 0),(1,.v (cloV fc cap)),(4,.p 1 0),(24,.v (.pointer (some ⟨R,0,none⟩))),(5,.v (.int .u32 k))]) kz rfl fun a14 hE16=>qaf (qab ?_)
 refine qap [0,1,2,3,4] kz ?_
 refine qbt [0,1] [2,3,4] [0,1,4,24,29,30] hW7 hE16 (env':=[(0,.p 0 0),(1,.v (cloV fc cap)),(4,.p 1 0),(24,.v (.pointer (some ⟨R,0,none⟩))),(29,.v (.slice K vis.length kc)),(30,.v (.int .u32 k))]) kz rfl fun a15 hE17=>?_
 have hsh:=left_shrinks es seen e he
 refine qb9 (t:=186) (e:=62) (size:=1) (bytes:=4) (len:=1) (cs:=[.int .u32 k]) (d1:=31) (d:=32) (k:=0) hW7 hE17 kz kz (fun _=>by kernel_rfl) rfl kz (by omega) fun K2 kc2 a16 w8 hF8 hW8 hE18=>?_
 obtain ⟨bl,hE18⟩:=hE18
 have hR7:R < w7.heap.size:=(Array.getElem?_eq_some_iff.1 hr7).1
 have hna:∀ {o'},¬ Act_ [⟨b,o,[.map (some mb)],false⟩,⟨kb,0,[.slice K vis.length kc],true⟩] [⟨K,kc,62,1,vis.length,(vis.map fun e=>kOf e.key).map (Value.int .u32)⟩] R o':=by
  rintro o' (⟨i,ob,hi,hrw,hb,_⟩ | ⟨i,q,hi,hq⟩)
  ·match i,hi with
   | 0,hi =>
    simp only [List.getElem?_cons_zero,Option.some.injEq] at hi; subst hi
    cases hrw
   | 1,hi =>
    simp only [List.getElem?_cons_succ,List.getElem?_cons_zero,Option.some.injEq] at hi; subst hi
    exact hkbr hb
   | i + 2,hi=>simp at hi
  match i,hi with
  | 0,hi =>
   simp only [List.getElem?_cons_zero,Option.some.injEq] at hi; subst hi
   exact hKR hq
  | i + 1,hi=>simp at hi
 have hK2:K2.map (·.block) ≠ some R:=fun hk=>by
  exact hF8.imm R 0 hR7 hna (.inr ⟨0,_,rfl,hk⟩)
 refine qak (qav hW8 hE18 (oi:=1) (cs:=[.slice K2 (vis.length + 1) kc2]) kz fun w9 hF9 hW9 hE19=>qaf (qaq (qab ?_)))
 have hr8:w9.heap[R]? = some (.mapIter (some mb) clk (seen.push e.born) clk) :=
  hF9.step.heap (fun o'=>hF8.imm R o' hR7 hna) (hF8.step.heap (fun o'=>hna) hr7)
 refine ⟨(leftOf es (seen.push e.born)).size,hsh,vis ++ [e],seen.push e.born,K2,kc2,clk,rfl,hv.push he,by rw [List.length_append,List.length_singleton]; omega,?_,?_,hr8,Nat.le_refl _,hK2⟩
 ·rw [List.length_append,List.length_singleton]
  exact hE19.pick (ks:=[0,1,4,24]) kz
 rw [List.length_append,List.length_singleton,List.map_append,List.map_append,List.map_cons,List.map_cons,hk1]
 exact hW9
end Go.Proofs.YtcbpjflgkefidaaGreatDoor.ME
namespace Go.Proofs.YtcbpjflgkefidaaGreatDoor.ME
open Go
open Go.RowKit
set_option linter.unusedVariables false
set_option linter.unusedSimpArgs false
set_option maxRecDepth 20000
section
variable {P:Program} {ops:Array Oper} {Q:Exit → Act → World → Prop} {n:Nat} {tb:Tb} {env:Env} {rs:List Rw} {w0:World} {M:Nat → Nat → Prop} {a:Act} {w:World}
theorem qfw {i d j:Nat} {t e:TypeId} {size bytes:Nat} (z:Value) (cs:List Value) {N:Act → World → Prop} (hW:WOk w0 M w tb rs) (hE:EnvOk n tb env a)
  (K:∀ b a' w',b = w.heap.size → w0.heap.size ≤ b → Fr w tb rs w' (tb ++ [⟨b,0,cs,true⟩]) rs → WOk w0 M w' (tb ++ [⟨b,0,cs,true⟩]) rs → EnvOk n (tb ++ [⟨b,0,cs,true⟩]) ((d,.v (.slice (some ⟨b,0,none⟩) j j)) :: env) a' → N a' w')
  (h:qiv env ops n i = some (t,((j:Nat):Int),((j:Nat):Int),d):=by kernel_rfl) (ht:qce P t = some (e,size,bytes):=by kernel_rfl) (hz:(P.info? e).bind (·.zero) = some z:=by kernel_rfl) (hcs:(madeCells z.cells (j * size)).toList = cs:=by kernel_rfl) (hb:Nat.ble (bytes * j) 1000000 = true:=by kernel_rfl):wpOp P ops Q i N a w:=by
 obtain ⟨ht',inf,z',hi,hz',hzs,hs1,rfl,hsz,hbp⟩:=qbT ht
 obtain ⟨op,ho,hd,kl,kc,hrun⟩:=qfG (P:=P) (w:=w) hE h
 have hzz:z' = z:=by rw [hi] at hz; simp only [Option.bind_some,hz',Option.some.injEq] at hz; exact hz
 subst hzz
 have hb':=Nat.le_of_ble_eq_true hb
 have hjm:j ≤ 1000000:=by
  have:=Nat.le_mul_of_pos_left j hbp
  omega
 have hr:=run_make (P:=P) w t e inf z' ht' hi hz' kl kc (j:Int) (j:Int) (by omega) (Int.le_refl _) (by
  have:((inf.bytes * j:Nat):Int) ≤ 281474976710656:=by omega
  rwa [Int.natCast_mul] at this) (by omega)
 simp only [Int.toNat_natCast,hs1] at hr
 have hca:madeCells z'.cells (j * size) = cs.toArray:=by rw [← hcs]
 rw [hca] at hr
 refine qaV hE ho (fun o hop=>hrun o _ _ hop hr) ?_
 refine K w.heap.size _ _ rfl hW.step.size (Fr.alloc w tb rs _ cs true) (hW.alloc cs e) ?_
 exact (hE.put hd (.v (.slice (some ⟨w.heap.size,0,none⟩) j j)) trivial).grow _
theorem qia {i d:Nat} {src dst e:TypeId} {s:ByteArray} {N:Act → World → Prop} (hW:WOk w0 M w tb rs) (hE:EnvOk n tb env a) (hsm:s.size ≤ 1099511627776)
  (K:∀ b c a' w',Fr w tb rs w' tb rs → WOk w0 M w' tb rs → (∀ G,Octs w' (Imm G w0 w' tb rs) (some ⟨b,0,none⟩) c (sb s)) → EnvOk n tb ((d,.v (.slice (some ⟨b,0,none⟩) (sb s).length c)) :: env) a' → N a' w')
  (h:qjY tb env ops n i = some (src,dst,.string s,d):=by kernel_rfl) (hs:P.underlying src = some .string:=by kernel_rfl) (hd:P.underlying dst = some (.slice e):=by kernel_rfl) (he:P.underlying e = some (.int .u8):=by kernel_rfl):wpOp P ops Q i N a w:=by
 unfold qjY at h
 split at h
 ·rename_i src' dst' x d' hop
  split at h
  ·rename_i v hx
   simp only [Option.some.injEq,Prod.mk.injEq] at h
   obtain ⟨rfl,rfl,rfl,rfl⟩:=h
   have hdn:=(qbf hE hop).choose_spec.2.2.2.1
   have hrun:=Lib.run_convert_string_bytes (P:=P) w src' dst' e s hs hd he
   have hst:Step w (Lib.bytesWorld w e s) Nil:=⟨rfl,rfl,by rw [Lib.bytesWorld_size]; omega,fun b hb=>by rw [Lib.bytesWorld_at_old w e s b hb]; exact Keeps.refl _ _⟩
   have hlen:(sb s).length = s.size:=qis s
   have e1:=(qaU hE hx).1
   refine qaV hE hop (v:=.slice (some ⟨w.heap.size,0,none⟩) (sb s).length (grownCap w s.size 0 e)) (w':=Lib.bytesWorld w e s) (fun o' ho'=>?_) (K w.heap.size _ _ _ (Fr.nil tb rs hst) (hW.next_nil hst) (fun G=>?_) (hE.put hdn (.v _) trivial))
   ·unfold execOp
    rw [ho']
    simp only [SV.val] at e1
    simp only [e1,Sem.run_bind,hrun,Result.andThen_ok,Sem.run_pure,hlen]
   refine ⟨by rw [hlen]; exact grownCap_ge w s.size 0 e,by rw [hlen]; exact hsm,fun h=>(by cases h),fun ad hA _=>?_⟩
   obtain rfl:=Option.some.inj hA
   refine ⟨w.heap.size,0,rfl,fun q hq=>⟨rfl,fun j v hj=>?_⟩⟩
   have hj0:j = 0:=by
    cases j with
    | zero=>rfl
    | succ j=>simp at hj
   subst hj0
   simp only [List.getElem?_cons_zero,Option.some.injEq] at hj
   subst hj
   have h2:(Lib.bytesWorld w e s).heap.size = w.heap.size + 1:=Lib.bytesWorld_size w e s
   refine ⟨⟨.inr hW.step.size,by rw [h2]; exact Nat.lt_succ_self _,fun ha=>?_⟩,?_⟩
   ·have:=hW.act_live ha
    exact absurd this (Nat.lt_irrefl _)
   rw [Nat.zero_add,Nat.mul_one,Nat.add_zero,Lib.bytesWorld_cell w e s q (by rw [← hlen]; exact hq)]
   rfl
  cases h
 cases h
end
structure TBox (w:World) (B eT:Nat) (A:Option Addr) (cp n:Nat) (x0 x1 x2 x3:Value) (xs:List Value):Prop where
 str:Str w B [x0,x1,x2,x3,.slice A n cp]
 own:w.ownsRow 0 eT 2 (.slice A n cp) n xs
 ne:A.map (·.block) ≠ some B
def TM (B:Nat) (A:Option Addr):Nat → Nat → Prop:=fun b o=>(b = B ∧ o < 5) ∨ Blk A b o
def qj7 (w:World) (B eT:Nat) (A:Option Addr) (n:Nat) (x0 x1 x2 x3:Value) (xs:List Value) (k:Int) (x:Bs):Ending → World → Prop:=fun en w' =>
 en = .returned (.tuple #[]) ∧ ∃ A' cp' Av cv,TBox w' B eT A' cp' (n + 1) x0 x1 x2 x3 (xs ++ [.int .u32 k,.slice Av x.length cv]) ∧ Octs w' (fun b o=>(w.heap.size ≤ b ∨ A.map (·.block) = some b) ∧ ¬ TM B A' b o) Av cv x ∧ Near w A A' ∧ Step w w' (TM B A)
def qfU (P:Program) (fc eT:Nat):Prop:=∀ (w:World) (B cp c n:Nat) (k:Int) (A Av:Option Addr) (x:Bs) (x0 x1 x2 x3:Value) (xs:List Value) (G:Nat → Nat → Prop),TBox w B eT A cp n x0 x1 x2 x3 xs → Octs w G Av c x → (∀ b o,G b o → ¬ TM B A b o) → n ≤ 1000000 →
 Calls P fc [.int .u32 k,.slice Av x.length c,.pointer (some ⟨B,0,none⟩)].toArray w (qj7 w B eT A n x0 x1 x2 x3 xs k x)
theorem TBox.wok {w:World} {B eT cp n:Nat} {A:Option Addr} {x0 x1 x2 x3:Value} {xs:List Value} (h:TBox w B eT A cp n x0 x1 x2 x3 xs):WOk w (TM B A) w [⟨B,0,[x0,x1,x2,x3,.slice A n cp],true⟩] [⟨A,cp,eT,2,n,xs⟩]:=by
 have h1:WOk w (TM B A) w [⟨B,0,[x0,x1,x2,x3,.slice A n cp],true⟩] [] :=
  (WOk.start w _).add ⟨B,0,[x0,x1,x2,x3,.slice A n cp],true⟩ (World.lt_of_cell (h.str.at_ 0 _ rfl)) (fun j v hj=>by rw [Nat.zero_add]; exact h.str.at_ j v hj) (fun _ j hj=>⟨.inr (.inl ⟨rfl,by rw [Nat.zero_add]; exact hj⟩),by rw [Nat.zero_add]; exact h.str.frz j hj⟩) (fun i ob hi=>by simp at hi) (fun i r hi=>by simp at hi)
 refine h1.addRow ⟨A,cp,eT,2,n,xs⟩ h.own (fun g hg=>.inr fun o=>.inr hg) (fun i ob hi=>?_) (fun i r hi=>by simp at hi)
 cases i with
 | zero =>
  simp only [List.getElem?_cons_zero,Option.some.injEq] at hi; subst hi
  exact h.ne
 | succ i=>simp at hi
theorem qg3 {w0 w:World} {B eT cp n:Nat} {A0 A:Option Addr} {x0 x1 x2 x3:Value} {xs:List Value} {rs:List Rw} (hW:WOk w0 (TM B A0) w [⟨B,0,[x0,x1,x2,x3,.slice A n cp],true⟩] (⟨A,cp,eT,2,n,xs⟩ :: rs)) (hB:B < w0.heap.size):TBox w B eT A cp n x0 x1 x2 x3 xs ∧ Near w0 A0 A ∧ Step w0 w (TM B A0):=by
 refine ⟨⟨Str.of hW 0 rfl,hW.own 0 _ rfl,fun e=>hW.rtb 0 _ rfl B e 0 _ rfl rfl⟩,fun g hg=>?_,hW.step⟩
 rcases hW.ownM 0 _ rfl g hg with h | h
 ·exact .inr h
 rcases h 5 with ⟨_,h⟩ | h
 ·omega
 exact .inl h
theorem qfa {w0 w:World} {B eT cp n c e8:Nat} {A0 A Av:Option Addr} {cs:List Value} {xs:List Value} {s:Bs} (hl:cs.length = 5) (hW:WOk w0 (TM B A0) w [⟨B,0,cs,true⟩] [⟨A,cp,eT,2,n,xs⟩,brow Av c e8 s]) (hsm:s.length ≤ 1099511627776):Octs w (fun b o=>(w0.heap.size ≤ b ∨ A0.map (·.block) = some b) ∧ ¬ TM B A b o) Av c s:=by
 refine qbU (hW.own 1 _ rfl) hsm fun g hg o=>⟨?_,?_⟩
 ·rcases hW.ownM 1 _ rfl g hg with h | h
  ·exact .inl h
  rcases h 5 with ⟨_,h⟩ | h
  ·omega
  exact .inr h
 rintro (⟨rfl,_⟩ | h)
 ·exact hW.rtb 1 _ rfl g hg 0 _ rfl rfl
 exact hW.rr 1 0 _ _ (by decide) rfl rfl g hg h
theorem qgD {fc eT B b o:Nat} {m:Option Nat} {u:List (Int × Bs)} {w:World} {F:Nat → Nat → Prop} {x0 x1 x2 x3:Value} (hcf:∀ args w,(callFunc fc args).run Tryz.prog w = .ok (.enter fc args) w) (hone:qfU Tryz.prog fc eT) (hat:AtF w F b o [.map m]) (hm:MapR w F m u) (hB:Str w B [x0,x1,x2,x3,.slice none 0 0]) (hF:∀ b o,F b o → ¬ (b = B ∧ o < 5)) (hul:u.length ≤ 1000000) :
  Calls Tryz.prog 103 [.pointer (some ⟨b,o,none⟩),cloV fc (.pointer (some ⟨B,0,none⟩))].toArray w (fun e w'=>e = .returned (.tuple #[]) ∧ ∃ A c,Str w' B [x0,x1,x2,x3,.slice A u.length c] ∧ TagsR w' (fun b o=>w.heap.size ≤ b) A c u ∧ Step w w' (fun b o=>b = B ∧ o < 5)):=by
 have hBl:B < w.heap.size:=World.lt_of_cell (hB.at_ 0 _ rfl)
 refine (qlJ (M:=fun b o=>b = B ∧ o < 5) hcf (fun w7 j w8=>∃ A cp xs css,TBox w8 B eT A cp j x0 x1 x2 x3 xs ∧ Tags w8 (fun b o=>w7.heap.size ≤ b ∧ ¬ TM B A b o) xs (u.take j) css ∧ (∀ g,A.map (·.block) = some g → w7.heap.size ≤ g) ∧ Step w7 w8 (fun b o=>b = B ∧ o < 5)) hat hm hF (fun b o h=>by rw [h.1]; exact hBl) (fun w7 hs=>?_) (fun w7 j w8 h=>by obtain ⟨_,_,_,_,_,_,_,h⟩:=h; exact h) (fun w7 hs j k x w8 Ax cx hI hu hk hox=>?_) hul).mono ?_
 ·exact ⟨none,0,[],[],⟨hB.move hs fun _ h=>h,World.ownsRow_nil _ 0 eT 2,fun h=>by cases h⟩,Tags.nil _ _,fun g h=>(by cases h),Step.refl _ _⟩
 ·obtain ⟨A,cp,xs,css,hbx,hT,hA,hs8⟩:=hI
  have hj:j < u.length:=(List.getElem?_eq_some_iff.1 hu).1
  refine (hone w8 B cp cx j k A Ax x x0 x1 x2 x3 xs _ hbx hox (fun b o hf=>?_) (by omega)).mono ?_
  ·rintro (h | h)
   ·exact hF _ _ hf.1 h
   have:=hA b h; have:=hf.2; omega
  rintro e w9 ⟨rfl,A',cp',Av,cv,hbx',ho',hn,hs9⟩
  refine ⟨rfl,A',cp',_,css ++ [[.int .u32 k,.slice Av x.length cv]],hbx',?_,fun g hg=>?_,hs8.trans hs9 fun b o hb h=>?_⟩
  ·rw [qcv hu]
   have e1:Tags w9 (fun b o=>w7.heap.size ≤ b ∧ ¬ TM B A' b o) xs (u.take j) css:=hT.move hs9 (fun b o h _=>h.2) (fun b o h hb=>⟨h.1,fun h'=>by
    rcases h' with h' | h'
    ·exact h.2 (.inl h')
    rcases hn b h' with h' | h'
    ·exact h.2 (.inr h')
    omega⟩)
   have e2:Octs w9 (fun b o=>w7.heap.size ≤ b ∧ ¬ TM B A' b o) Av cv x:=ho'.move (Step.refl _ Nil) nilM fun b o h _=>⟨by
    rcases h.1 with h' | h'
    ·exact Nat.le_trans hs8.size h'
    exact hA b h',h.2⟩
   exact e1.snoc (c:=[.int .u32 k,.slice Av x.length cv]) (x:=(k,x)) ⟨⟨_,_,rfl,e2⟩,hk.1,hk.2⟩
  ·rcases hn g hg with h | h
   ·exact hA g h
   exact Nat.le_trans hs8.size h
  rcases h with h | h
  ·exact h
  have:=hA b h; omega
 rintro e w' ⟨rfl,w7,hs,A,cp,xs,css,hbx,hT,hA,hs8⟩
 rw [List.take_length] at hT
 refine ⟨rfl,A,cp,hbx.str,?_,(hs.mono (N:=fun b o=>b = B ∧ o < 5) fun _ _ _ f=>f.elim).trans hs8 fun b o _ h=>h⟩
 exact ((hT.move (Step.refl _ Nil) nilM fun b o h _=>Nat.le_trans hs.size h.1).slots (F:=fun b o=>w.heap.size ≤ b) hbx.own rfl (by omega) fun g hg o=>Nat.le_trans hs.size (hA g hg))
def qib (A:Option Addr) (s:ByteArray):Tree:=.mk 0 (if A.isNone = true then [] else sb s) A.isNone [] []
def qfV (b:Bool):Tree:=.mk (if b = true then 1 else 0) [] false [] []
abbrev NoF:Nat → Nat → Prop:=fun _ _=>False
theorem WOk.strOut {G:Nat → Nat → Prop} {w0 w:World} {tb:Tb} {rs:List Rw} {p:Nat} {cs:List Value} (tb':Tb) (hW:WOk w0 Nil w tb rs) (ht:tb' ++ [⟨p,0,cs,true⟩] = tb:=by rfl):AtF w (Imm G w0 w tb' rs) p 0 cs:=fun j v hj=>by
 subst ht
 have hi:(tb' ++ [(⟨p,0,cs,true⟩:Ob)])[tb'.length]? = some ⟨p,0,cs,true⟩:=by rw [List.getElem?_append_right (Nat.le_refl _),Nat.sub_self]; rfl
 have h1:=hW.cells _ _ hi j v hj
 have hlt:j < cs.length:=(List.getElem?_eq_some_iff.1 hj).1
 refine ⟨⟨?_,hW.live _ _ hi,fun ha=>?_⟩,h1⟩
 ·rcases (hW.rw_ _ _ hi rfl j hlt).1 with h2 | h2
  ·exact .inr h2
  exact h2.elim
 rcases ha with ⟨k,ob,h2,h3,h4,h5,h6⟩ | ⟨k,r,h2,h3⟩
 ·have hk:k < tb'.length:=(List.getElem?_eq_some_iff.1 h2).1
  have h7:(tb' ++ [(⟨p,0,cs,true⟩:Ob)])[k]? = some ob:=by rw [List.getElem?_append_left hk]; exact h2
  rcases hW.apart k _ ob _ (by omega) h7 hi (.inr rfl) with h8 | h8 | h8
  ·exact h8 h4
  ·simp only [Nat.zero_add] at h5 h6; simp only [Nat.le_zero] at h8; omega
  simp only [Nat.zero_add] at h5 h6 h8; omega
 exact hW.rtb k r h2 p h3 _ _ hi rfl
theorem qic {u:List (Int × Bs)} (h:qcK u) {i j:Nat} {k k':Int} {s s':Bs} (hi:u[i]? = some (k,s)) (hj:u[j]? = some (k',s')) (hij:j < i):¬ k < k':=by
 obtain ⟨h1,h2⟩:=List.getElem?_eq_some_iff.1 hi
 obtain ⟨h3,h4⟩:=List.getElem?_eq_some_iff.1 hj
 have:=List.pairwise_iff_getElem.1 h j i h3 h1 hij
 rw [h2,h4] at this
 simp only at this
 omega
section
variable {w0 w:World} {tb:Tb} {rs:List Rw} {F:Nat → Nat → Prop}
theorem WOk.objFp (hW:WOk w0 Nil w tb rs) (i:Nat) {b:Nat} {cs:List Value} (hi:tb[i]? = some ⟨b,0,cs,true⟩):AtF w (Fp F w0) b 0 cs:=fun j v hj=>by
 have hlt:=(List.getElem?_eq_some_iff.1 hj).1
 refine ⟨?_,hW.cells i _ hi j v hj⟩
 rcases (hW.rw_ i _ hi rfl j hlt).1 with h | h
 ·exact .inr h
 exact h.elim
def TrL (w:World) (F:Nat → Nat → Prop):List (List Value) → List Tree → Prop
 | [],[]=>True
 | c :: cs,x :: xs=>TreeR w F c x ∧ TrL w F cs xs
 | _,_=>False
theorem TrL.move {w w':World} {F F' M:Nat → Nat → Prop} (hs:Step w w' M) (hM:∀ b o,F b o → b < w.heap.size → ¬ M b o) (hF:∀ b o,F b o → b < w.heap.size → F' b o):∀ {cs:List (List Value)} {l:List Tree},TrL w F cs l → TrL w' F' cs l
 | [],[],_=>trivial
 | _ :: _,_ :: _,h=>⟨h.1.move hs hM hF,TrL.move hs hM hF h.2⟩
 | [],_ :: _,h=>h.elim
 | _ :: _,[],h=>h.elim
theorem TrL.len:∀ {cs:List (List Value)} {l:List Tree},TrL w F cs l → cs.length = l.length
 | [],[],_=>rfl
 | _ :: _,_ :: _,h=>congrArg (· + 1) (TrL.len h.2)
 | [],_ :: _,h=>h.elim
 | _ :: _,[],h=>h.elim
theorem TrL.five:∀ {cs:List (List Value)} {l:List Tree},TrL w F cs l → ∀ c ∈ cs,c.length = 5
 | [],[],_=>fun c hc=>by cases hc
 | _ :: _,_ :: _,h=>fun c hc=>by
  rcases List.mem_cons.1 hc with rfl | hc
  ·exact h.1.five
  exact TrL.five h.2 c hc
 | [],_ :: _,h=>h.elim
 | _ :: _,[],h=>h.elim
theorem TrL.get:∀ {cs:List (List Value)} {l:List Tree},TrL w F cs l → ∀ (i:Nat) (x:Tree),l[i]? = some x → TreeR w F (cs.getD i []) x
 | [],[],_,i,x,hx=>by simp at hx
 | _ :: _,_ :: _,h,0,x,hx=>by
  simp only [List.getElem?_cons_zero,Option.some.injEq] at hx
  subst hx
  exact h.1
 | _ :: _,_ :: _,h,i + 1,x,hx=>TrL.get h.2 i x hx
 | [],_ :: _,h,_,_,_=>h.elim
 | _ :: _,[],h,_,_,_=>h.elim
theorem qlK {b:Nat}:∀ (css:List (List Value)) (o:Nat),AtF w F b o css.flatten → (∀ c ∈ css,c.length = 5) → ∀ i,i < css.length → (css.getD i []).length = 5 ∧ AtF w F b (o + i * 5) (css.getD i [])
 | [],o,h,hl,i,hi=>absurd hi (Nat.not_lt_zero _)
 | c :: r,o,h,hl,0,_=>⟨hl c List.mem_cons_self,fun j v hj=>by
   have hj':c[j]? = some v:=hj
   have:=h j v (by rw [List.flatten_cons,List.getElem?_append_left (List.getElem?_eq_some_iff.1 hj').1]; exact hj')
   rw [show o + 0 * 5 + j = o + j by omega]
   exact this⟩
 | c :: r,o,h,hl,i + 1,hi=>by
  have hc:=hl c List.mem_cons_self
  have:=qlK r (o + 5) (fun j v hj=>by
   have:=h (5 + j) v (by rw [List.flatten_cons,List.getElem?_append_right (by omega),show 5 + j - c.length = j by omega]; exact hj)
   rw [show o + 5 + j = o + (5 + j) by omega]
   exact this) (fun d hd=>hl d (List.mem_cons_of_mem _ hd)) i (by simpa using hi)
  rw [show o + (i + 1) * 5 = o + 5 + i * 5 by omega]
  exact this
theorem qid {b:Nat} {css:List (List Value)} {l:List Tree} (h:AtF w F b 0 css.flatten) (hT:TrL w F css l) (hsm:l.length ≤ 1099511627776):Slots w F 5 (some ⟨b,0,none⟩) l.length l.length (fun i=>css.getD i []) :=
 ⟨Nat.le_refl _,hsm,fun h=>(by cases h),fun ad hA _=>⟨b,0,(Option.some.inj hA).symm,fun i hi=>qlK css 0 h hT.five i (by rw [hT.len]; exact hi)⟩⟩
theorem Trees.xslen {w:World} {xs:List Value} {l:List Tree} {css:List (List Value)} (h:Trees w F xs l css):xs.length = l.length * 5:=by
 have h1:∀ css:List (List Value),(∀ c ∈ css,c.length = 5) → css.flatten.length = css.length * 5:=fun css hc=>by
  induction css with
  | nil=>rfl
  | cons c r ih =>
   rw [List.flatten_cons,List.length_append,hc c List.mem_cons_self,ih fun d hd=>hc d (List.mem_cons_of_mem _ hd),List.length_cons]
   omega
 rw [h.flat.eq,h1 css,h.len]
 intro c hc
 obtain ⟨i,hi,rfl⟩:=List.getElem_of_mem hc
 have hl:=h.len
 exact (h.each i _ _ (List.getElem?_eq_getElem hi) (List.getElem?_eq_getElem (show i < l.length by omega))).five
theorem qfb {xs zs cs:List Value} {k:Nat} (hx:xs.length = k * 5) (hz:zs.length = cs.length:=by rfl):qba (xs ++ zs) (k * 5) cs = xs ++ cs:=by
 unfold qba
 rw [List.take_left' hx,List.drop_of_length_le (by rw [List.length_append]; omega),List.append_nil]
structure O16 (w:World) (F:Nat → Nat → Prop) (A:Option Addr) (c:Nat) (s:Bs):Prop where
 o:Octs w F A c s
 l:s.length = 16
theorem O16.move {w w':World} {F F' M:Nat → Nat → Prop} {A:Option Addr} {c:Nat} {s:Bs} (h:O16 w F A c s) (hs:Step w w' M) (hM:∀ b o,F b o → b < w.heap.size → ¬ M b o) (hF:∀ b o,F b o → b < w.heap.size → F' b o):O16 w' F' A c s:=⟨h.o.move hs hM hF,h.l⟩
theorem O16.src {w:World} {F:Nat → Nat → Prop} {A:Option Addr} {c:Nat} {s:Bs} (h:O16 w F A c s):Src w A 16 1 (bc s):=by
 have:=h.o.src
 rwa [h.l] at this
theorem O16.cap {w:World} {F:Nat → Nat → Prop} {A:Option Addr} {c:Nat} {s:Bs} (h:O16 w F A c s):A = none → c = 0:=h.o.cap
theorem qlL {w:World} {F:Nat → Nat → Prop} {b o k:Nat} {cs:List Value} {s:Bs} (h:AtF w F b o cs) (hl:s.length = 16) (hc:∀ j,j < 16 → cs[k + j]? = some (qad (s.getD j 0))):O16 w F (some ⟨b,o + k,none⟩) 16 s:=by
 refine ⟨⟨by omega,by omega,fun h=>(by cases h),fun ad hA _=>⟨b,o + k,(Option.some.inj hA).symm,fun i hi=>⟨rfl,fun j v hj=>?_⟩⟩⟩,hl⟩
 have hj0:j = 0:=by
  cases j with
  | zero=>rfl
  | succ j=>simp at hj
 subst hj0
 simp only [List.getElem?_cons_zero,Option.some.injEq] at hj
 subst hj
 have:=h (k + i) _ (hc i (by omega))
 rw [show o + k + i * 1 + 0 = o + (k + i) by omega]
 exact this
theorem qjq (hW:WOk w0 Nil w tb rs) {k:Nat} {A:Option Addr} {c e n:Nat} {xs:List Value} {l:List Tree} {css:List (List Value)} {b:Bool} (hk:rs[k]? = some ⟨A,c,e,5,n,xs⟩) (hT:Trees w (Imm F w0 w tb rs) xs l css) (hn:n = l.length) (hsm:l.length ≤ 1099511627776):TreeR w (Fp F w0) [.int .i64 0,.slice none 0 0,.bool b,.slice A n c,.slice none 0 0] (.mk 0 [] b l []):=by
 have h:=qhg hW hk hT hn hsm
 subst hn
 exact TreeR.mk (s:=[]) (u:=[]) _ (Octs.nil _ _) h.1 h.2 (TagsR.nil _ _)
theorem qer {L k:Nat} {f:Nat → Tree} (h:k < L):((List.range L).map f).take (k + 1) = ((List.range L).map f).take k ++ [f k] :=
 qcv (by rw [List.getElem?_map,List.getElem?_range h]; rfl)
theorem qj8 {L k:Nat} {f:Nat → Tree} (h:L ≤ k):((List.range L).map f).take k = (List.range L).map f:=List.take_of_length_le (by rw [List.length_map,List.length_range]; exact h)
theorem qd6 {L:Nat} {f:Nat → Tree}:((List.range L).map f).length = L:=by rw [List.length_map,List.length_range]
theorem qhw (hW:WOk w0 Nil w tb rs) (i:Nat) {b n2 c3:Nat} {A3:Option Addr} {u:List (Int × Bs)} {css:List (List Value)} {cs:List Value} {l:List Tree} (hi:tb[i]? = some ⟨b,0,cs,true⟩) (hT':TrL w (Fp F w0) css l) (hU:TagsR w (Fp F w0) A3 c3 u) (hf:css.flatten = cs:=by rfl) (hl:l.length = n2:=by rfl) (hn:Nat.ble n2 1000000 = true:=by kernel_rfl) :
  qcZ w0 F (.mk 0 [] false l u) (.returned (.agg #[.int .i64 0,.slice none 0 0,.bool false,.slice (some ⟨b,0,none⟩) n2 n2,.slice A3 u.length c3])) w:=by
 subst hf
 subst hl
 have hn':=Nat.le_of_ble_eq_true hn
 exact ⟨_,rfl,TreeR.mk (s:=[]) _ (Octs.nil _ _) (qid (hW.objFp i hi) hT' (by omega)) hT'.get hU,hW.step⟩
end
def qlM (m:Nat):Prop:=∀ (ct:List Value) (t:Tree) (w:World) (F:Nat → Nat → Prop),TreeR w F ct t → t.depth ≤ m →
  Calls Tryz.prog 17 #[.agg ct.toArray] w (qcZ w F t)
theorem qjr {m:Nat} (hg:qlM m) (ct:List Value) (t:Tree) (w:World) (F:Nat → Nat → Prop) (ht:TreeR w F ct t) (hd:t.depth ≤ m + 1) :
  Calls Tryz.prog 17 #[.agg ct.toArray] w (qcZ w F t):=by
 obtain ⟨n1,s2,b3,l4,u5,A6,c7,A8,c9,ap,ar,dT,rfl,rfl,dw,dx,dU,dV⟩:=ht.open_
 have dy:=dw.small
 have dz:=dx.small
 obtain ⟨dW,dA,dX⟩:=dV.ex
 have dB:=dA.small
 refine enter (n:=49) Tryz.func17 rfl Tryz.ntmps17 kz fun a hE=>?_
 have hW:=WOk.start w Nil
 refine qae [0,1] kz ?_
 refine qak (qa7 hW hE (d:=1) (cs:=[.int .i64 n1,.slice A6 s2.length c7,.bool b3,.slice A8 l4.length c9,.slice ap u5.length ar]) kz fun bF fk fm dY dZ d5 cY cZ=>?_)
 refine qak (qaK cY cZ (d:=2) (cs:=[.int .i64 0,.slice none 0 0,.bool false,.slice none 0 0,.slice none 0 0]) kz fun bG fo fq d6 d7 d8 bI c5=>?_)
 refine qaf (qab ?_)
 refine qae [0,1,2,3,4,5,6,7,8] kz ?_
 refine qai [0,1,2,3,4,5,6] [7,8] [(1,.p 0 0),(2,.p 1 0),(14,.v (.agg #[.int .i64 n1,.slice A6 s2.length c7,.bool b3,.slice none 0 0,.slice none 0 0]))] bI c5 fun fr c6=>?_
 refine qak (qaK bI c6 (d:=3) (cs:=[.int .i64 0,.slice none 0 0,.bool false,.slice none 0 0,.slice none 0 0]) kz fun bH ft fu d9 ea eb da db=>?_)
 refine qak (qav da db (oi:=2) (cs:=[.int .i64 n1,.slice A6 s2.length c7,.bool b3,.slice none 0 0,.slice none 0 0]) kz fun fv ec bz dc=>?_)
 refine qaf (qab ?_)
 refine wp_seq ?_
 refine qan [(1,.p 0 0),(2,.p 1 0),(3,.p 2 0),(16,.v (.slice A8 l4.length c9)),(17,.v (.int .i64 ((l4.length:Nat):Int))),(18,.v (.int .i64 0))] bz dc fun fw de=>?_
 refine wp_block ?_
 have bJ:=bz.addNil 26 5
 have ee:=bz.frNil 26 5
 refine wp_loop_ghost (fun n_ a_ w_=>∃ (k:Nat) (A_:Option Addr) (c_:Nat) (xs:List Value) (css:List (List Value)),n_ = l4.length - k ∧ k ≤ l4.length ∧ (Trees w_ (Imm F w w_ [⟨bF,0,[.int .i64 n1,.slice A6 s2.length c7,.bool b3,.slice A8 l4.length c9,.slice ap u5.length ar],true⟩,⟨bG,0,[.int .i64 0,.slice none 0 0,.bool false,.slice none 0 0,.slice none 0 0],true⟩,⟨bH,0,[.int .i64 n1,.slice A6 s2.length c7,.bool b3,.slice A_ k c_,.slice none 0 0],true⟩] [⟨A_,c_,26,5,k,xs⟩]) xs (l4.take k) css) ∧ LInv bJ 49 [⟨bF,0,[.int .i64 n1,.slice A6 s2.length c7,.bool b3,.slice A8 l4.length c9,.slice ap u5.length ar],true⟩,⟨bG,0,[.int .i64 0,.slice none 0 0,.bool false,.slice none 0 0,.slice none 0 0],true⟩,⟨bH,0,[.int .i64 n1,.slice A6 s2.length c7,.bool b3,.slice A_ k c_,.slice none 0 0],true⟩] [⟨A_,c_,26,5,k,xs⟩] [(1,.p 0 0),(2,.p 1 0),(3,.p 2 0),(16,.v (.slice A8 l4.length c9)),(17,.v (.int .i64 ((l4.length:Nat):Int))),(18,.v (.int .i64 ((k:Nat):Int)))] a_ w_) (l4.length) ⟨0,none,0,[],[],by omega,by omega,Trees.nil _ _,de.pk,bJ,Fr.refl _ _ _⟩ ?_
 rintro fx fy fz ⟨k,A_,c_,xs,css,ef,eg,hT,df,aw,dg⟩
 refine qan [(1,.p 0 0),(2,.p 1 0),(3,.p 2 0),(16,.v (.slice A8 l4.length c9)),(17,.v (.int .i64 ((l4.length:Nat):Int))),(18,.v (.int .i64 ((k:Nat):Int))),(19,.v (.bool (decide (((k:Nat):Int) < ((l4.length:Nat):Int)))))] aw df fun fA bA=>?_
 refine wp_seq ?_
 refine qas bA (b:=decide (((k:Nat):Int) < ((l4.length:Nat):Int))) kz (fun bB=>?_) (fun bB=>?_)
 ·
  have eh:=of_decide_eq_true bB
  refine wp_skip ?_
  refine qab ?_
  refine wp_seq ?_
  refine wp_block ?_
  refine qae [0,1,2,3] kz ?_
  obtain ⟨ei,ej,dh,ek,bf⟩:=Slots.get dx (i:=k) (by omega)
  obtain ⟨em,bC⟩:∃ x,l4[k]? = some x:=⟨_,List.getElem?_eq_getElem (by omega)⟩
  have bD:=dU k em bC
  obtain ⟨bK,bL,bM,bN,bO,bP,bQ,bR,bS,bT,bU,eo,rfl,bg,ep,eu,fB,fC⟩:=bD.open_
  rw [bg] at bD
  have dC:=ep.small
  have dD:=eu.small
  rw [bg] at bf
  refine qak (qaC bA (t:=34) (A:=A8) (m:=l4.length) (q:=((k:Nat):Int)) (d:=20) kz (e:=37) (size:=5) (bytes:=88) kz dh rfl (by omega) fun fD bV=>?_)
  refine qak (qaJ bV (t:=37) (b:=ei) (o:=ej + k * 5) (d:=21) kz (cs:=[.int .i64 bK,.slice bP bL.length bQ,.bool bM,.slice bR bN.length bS,.slice bT bO.length bU]) (v:=.agg #[.int .i64 bK,.slice bP bL.length bQ,.bool bM,.slice bR bN.length bS,.slice bT bO.length bU]) kz (AtF.move bf aw.step nilM qaY).at_ fun ev bW=>?_)
  refine qak (qaK aw bW (d:=5) (cs:=[.int .i64 0,.slice none 0 0,.bool false,.slice none 0 0,.slice none 0 0]) kz fun ew ey ez dE dF ax bX bY=>?_)
  refine qak (qav bX bY (oi:=3) (cs:=[.int .i64 bK,.slice bP bL.length bQ,.bool bM,.slice bR bN.length bS,.slice bT bO.length bU]) kz fun eB ay bZ b8=>?_)
  refine qaf (qab ?_)
  refine qcQ 7 kz bZ fun eC az ag cd=>?_
  refine qaG [0,1,2] [(1,.p 0 0),(2,.p 1 0),(3,.p 2 0),(16,.v (.slice A8 l4.length c9)),(17,.v (.int .i64 ((l4.length:Nat):Int))),(18,.v (.int .i64 ((k:Nat):Int))),(23,.v (.slice A_ k c_)),(24,.v (.agg #[.int .i64 bK,.slice bP bL.length bQ,.bool bM,.slice bR bN.length bS,.slice bT bO.length bU]))] 5 (qac (qaa (qaa (qac (qaa qag))))) (fun _ h=>h.cells) cd b8 fun eD ce=>?_
  refine qaA (i:=3) kz (qaj ce (f:=17) (vs:=[.agg #[.int .i64 bK,.slice bP bL.length bQ,.bool bM,.slice bR bN.length bS,.slice bT bO.length bU]]) (d:=25) kz Tryz.call17 ( hg _ _ _ _ (bD.move ag.step nilM ag.imm) (by have h_:=qhe bC; rw [qgl] at hd; omega)) ?_)
  rintro e_ eE ⟨dG,rfl,cm,aA⟩
  have aB:=cm.move (Step.refl _ Nil) nilM (ag.laid (G:=F) aA)
  obtain ⟨aC,aD,aE,aF,aG,aH,aI,aJ,aK,aL,aM,dH,dI,aN,di,dj,eF,eG⟩:=aB.open_
  rw [aN] at aB
  have dl:=di.small
  have dp:=dj.small
  rw [aN]
  refine ⟨_,rfl,fun eH cq=>?_⟩
  have bh:=ag.next_nil aA
  have ae:=ag.frN aA
  have cr:=TT.ofW ae bh
  refine ⟨fun _=>cr,?_⟩
  refine qaA (i:=4) kz (qbD bh cq (e:=26) (size:=5) (len:=1) (cs:=[.int .i64 aC,.slice aH aD.length aI,.bool aE,.slice aJ aF.length aK,.slice aL aG.length aM]) (d:=26) kz kz fun dq eI eJ dJ dK aa au cu=>?_)
  have cw:=TT.ofW (ae.trans aa) au
  refine ⟨fun _=>cw,?_⟩
  refine qaA (i:=5) kz (qaR au cu (k:=0) (d:=27) (t:=23) (e:=26) (size:=5) (bytes:=88) (A:=A_) (As:=(some ⟨dq,0,none⟩)) (m0:=k) (c:=c_) (m:=1) (cs:=1) (xs:=xs) (news:=[.int .i64 aC,.slice aH aD.length aI,.bool aE,.slice aJ aF.length aK,.slice aL aG.length aM]) kz kz rfl (qbC (au.own 1 _ rfl) (qbJ kz)) (qbM (au.own 1 _ rfl)) (by omega) fun aO aP eK eL af bi cz=>?_)
  have bj:=TT.ofW ((ae.trans aa).trans af) bi
  refine ⟨fun _=>bj,?_⟩
  refine qaG [6] [(1,.p 0 0),(2,.p 1 0),(3,.p 2 0),(16,.v (.slice A8 l4.length c9)),(17,.v (.int .i64 ((l4.length:Nat):Int))),(18,.v (.int .i64 ((k:Nat):Int))),(27,.v (.slice aO (k + 1) aP)),(28,.p 2 3)] 1 (qac (qaa (qaa (qac (qaa qag))))) (fun _ h=>h.cells) bj cz fun eM cA=>?_
  refine qaA (i:=7) kz (qav bi cA (oi:=2) (cs:=[.int .i64 n1,.slice A6 s2.length c7,.bool b3,.slice aO (k + 1) aP,.slice none 0 0]) kz fun eN ah bk cB=>?_)
  refine ⟨fun h=>absurd rfl h,?_⟩
  refine qaE kz ?_ _
  refine qaq ?_
  refine qab ?_
  refine qap [0,1] kz ?_
  refine qai [0,1] [] [(1,.p 0 0),(2,.p 1 0),(3,.p 2 0),(16,.v (.slice A8 l4.length c9)),(17,.v (.int .i64 ((l4.length:Nat):Int))),(18,.v (.int .i64 (IntKind.i64.wrap (((k:Nat):Int) + 1))))] bk cB fun eO cC=>?_
  refine qaf (qab ?_)
  obtain ⟨bn,cD,ai⟩:=bk.cutB cC 3 [⟨bF,0,[.int .i64 n1,.slice A6 s2.length c7,.bool b3,.slice A8 l4.length c9,.slice ap u5.length ar],true⟩,⟨bG,0,[.int .i64 0,.slice none 0 0,.bool false,.slice none 0 0,.slice none 0 0],true⟩,⟨bH,0,[.int .i64 n1,.slice A6 s2.length c7,.bool b3,.slice aO (k + 1) aP,.slice none 0 0],true⟩] [(1,.p 0 0),(2,.p 1 0),(3,.p 2 0),(16,.v (.slice A8 l4.length c9)),(17,.v (.int .i64 ((l4.length:Nat):Int))),(18,.v (.int .i64 (IntKind.i64.wrap (((k:Nat):Int) + 1))))]
  obtain ⟨cE,aj⟩:=cD.cutR 1 [⟨aO,aP,26,5,k + 1,xs ++ [.int .i64 aC,.slice aH aD.length aI,.bool aE,.slice aJ aF.length aK,.slice aL aG.length aM]⟩]
  have cG:IntKind.i64.wrap (((k:Nat):Int) + 1) = ((k + 1:Nat):Int):=qaM (by omega)
  rw [cG] at bn
  exact ⟨l4.length - (k + 1),by omega,k + 1,aO,aP,xs ++ [Value.int .i64 aC,.slice aH aD.length aI,.bool aE,.slice aJ aF.length aK,.slice aL aG.length aM],(css ++ [[Value.int .i64 aC,.slice aH aD.length aI,.bool aE,.slice aJ aF.length aK,.slice aL aG.length aM]]),rfl,by omega,by rw [qcv bC]; exact (hT.move ((((((((ax.trans ay).trans az).trans ae).trans aa).trans af).trans ah).trans ai).trans aj).step immM ((((((((ax.trans ay).trans az).trans ae).trans aa).trans af).trans ah).trans ai).trans aj).to').snoc (aB.move ((((aa.trans af).trans ah).trans ai).trans aj).step immM ((((aa.trans af).trans ah).trans ai).trans aj).to'),bn.pk,cE,(((((((((dg.trans ax).trans ay).trans az).trans ae).trans aa).trans af).trans ah).trans ai).trans aj)⟩
 have dL:=of_decide_eq_false bB
 refine wp_exit ?_
 refine qaB ?_
 refine qaB ?_
 refine qaL ?_
 refine qab ?_
 refine wp_seq ?_
 refine qan [(2,.p 1 0),(3,.p 2 0),(31,.v (.slice ap u5.length ar)),(32,.v (.int .i64 ((u5.length:Nat):Int))),(33,.v (.int .i64 0))] aw bA fun eP cH=>?_
 refine wp_block ?_
 have hk0:k = l4.length:=by omega
 have bo:=aw.addNil 65 2
 have bp:=aw.frNil 65 2
 refine wp_loop_ghost (fun n_ a_ w_=>∃ (q:Nat) (A5_:Option Addr) (c5_:Nat) (ys:List Value) (dss:List (List Value)),n_ = u5.length - q ∧ q ≤ u5.length ∧ (Tags w_ (Imm F w w_ [⟨bF,0,[.int .i64 n1,.slice A6 s2.length c7,.bool b3,.slice A8 l4.length c9,.slice ap u5.length ar],true⟩,⟨bG,0,[.int .i64 0,.slice none 0 0,.bool false,.slice none 0 0,.slice none 0 0],true⟩,⟨bH,0,[.int .i64 n1,.slice A6 s2.length c7,.bool b3,.slice A_ k c_,.slice A5_ q c5_],true⟩] [⟨A_,c_,26,5,k,xs⟩,⟨A5_,c5_,65,2,q,ys⟩]) ys (u5.take q) dss) ∧ LInv bo 49 [⟨bF,0,[.int .i64 n1,.slice A6 s2.length c7,.bool b3,.slice A8 l4.length c9,.slice ap u5.length ar],true⟩,⟨bG,0,[.int .i64 0,.slice none 0 0,.bool false,.slice none 0 0,.slice none 0 0],true⟩,⟨bH,0,[.int .i64 n1,.slice A6 s2.length c7,.bool b3,.slice A_ k c_,.slice A5_ q c5_],true⟩] [⟨A_,c_,26,5,k,xs⟩,⟨A5_,c5_,65,2,q,ys⟩] [(2,.p 1 0),(3,.p 2 0),(31,.v (.slice ap u5.length ar)),(32,.v (.int .i64 ((u5.length:Nat):Int))),(33,.v (.int .i64 ((q:Nat):Int)))] a_ w_) (u5.length) ⟨0,none,0,[],[],by omega,by omega,Tags.nil _ _,cH.pk,bo,Fr.refl _ _ _⟩ ?_
 rintro eQ eR eS ⟨q,A5_,c5_,ys,dss,dM,dN,hU,cI,ak,aQ⟩
 refine qan [(2,.p 1 0),(3,.p 2 0),(31,.v (.slice ap u5.length ar)),(32,.v (.int .i64 ((u5.length:Nat):Int))),(33,.v (.int .i64 ((q:Nat):Int))),(34,.v (.bool (decide (((q:Nat):Int) < ((u5.length:Nat):Int)))))] ak cI fun eU aR=>?_
 refine wp_seq ?_
 refine qas aR (b:=decide (((q:Nat):Int) < ((u5.length:Nat):Int))) kz (fun aS=>?_) (fun aS=>?_)
 ·
  have dO:=of_decide_eq_true aS
  refine wp_skip ?_
  refine qab ?_
  refine wp_seq ?_
  refine wp_block ?_
  refine qae [0,1,2,3] kz ?_
  obtain ⟨dr,dt,cJ,dP,aT⟩:=Slots.get dA (i:=q) (by omega)
  obtain ⟨⟨ab,ac⟩,bq⟩:∃ x,u5[q]? = some x:=⟨_,List.getElem?_eq_getElem (by omega)⟩
  obtain ⟨⟨al,am,bE,cK⟩,du,dv⟩:=dX q ab ac bq
  rw [bE] at aT
  refine qak (qaC aR (t:=35) (A:=ap) (m:=u5.length) (q:=((q:Nat):Int)) (d:=35) kz (e:=64) (size:=2) (bytes:=32) kz cJ rfl (by omega) fun eV cL=>?_)
  refine qak (qaJ cL (t:=64) (b:=dr) (o:=dt + q * 2) (d:=36) kz (cs:=[.int .u32 ab,.slice al ac.length am]) (v:=.agg #[.int .u32 ab,.slice al ac.length am]) kz (AtF.move aT ak.step nilM qaY).at_ fun eW cM=>?_)
  refine qak (qaK ak cM (d:=7) (cs:=[.int .u32 0,.slice none 0 0]) kz fun eX eY eZ dQ dR aU cN cO=>?_)
  refine qak (qav cN cO (oi:=3) (cs:=[.int .u32 ab,.slice al ac.length am]) kz fun e9 aV bt cP=>?_)
  refine qaf (qab ?_)
  refine qap [0,1,2,3,4,5,6,7,8,9,10] kz ?_
  refine qai [0,1,2,3,4,5,6] [7,8,9,10] [(2,.p 1 0),(3,.p 2 0),(31,.v (.slice ap u5.length ar)),(32,.v (.int .i64 ((u5.length:Nat):Int))),(33,.v (.int .i64 ((q:Nat):Int))),(38,.v (.slice A5_ q c5_)),(43,.v (.agg #[.int .u32 ab,.slice al ac.length am]))] bt cP fun fa cQ=>?_
  refine qb9 bt cQ (k:=1) (e:=65) (size:=2) (len:=1) (cs:=[.int .u32 ab,.slice al ac.length am]) (d1:=44) (d:=45) kz (t:=24) (bytes:=32) kz (fun _=>by kernel_rfl) rfl kz (by omega) fun ba bd fb fe aW bu ⟨_,cR⟩=>?_
  refine qai [9] [10] [(2,.p 1 0),(3,.p 2 0),(31,.v (.slice ap u5.length ar)),(32,.v (.int .i64 ((u5.length:Nat):Int))),(33,.v (.int .i64 ((q:Nat):Int))),(45,.v (.slice ba (q + 1) bd)),(46,.p 2 4)] bu cR fun ff cS=>?_
  refine qak (qav bu cS (oi:=2) (cs:=[.int .i64 n1,.slice A6 s2.length c7,.bool b3,.slice A_ k c_,.slice ba (q + 1) bd]) kz fun fg aX bw cT=>?_)
  refine qaf ?_
  refine qaq ?_
  refine qab ?_
  refine qap [0,1] kz ?_
  refine qai [0,1] [] [(2,.p 1 0),(3,.p 2 0),(31,.v (.slice ap u5.length ar)),(32,.v (.int .i64 ((u5.length:Nat):Int))),(33,.v (.int .i64 (IntKind.i64.wrap (((q:Nat):Int) + 1))))] bw cT fun fh cU=>?_
  refine qaf (qab ?_)
  obtain ⟨bx,aY,aZ⟩:=bw.cutB cU 3 [⟨bF,0,[.int .i64 n1,.slice A6 s2.length c7,.bool b3,.slice A8 l4.length c9,.slice ap u5.length ar],true⟩,⟨bG,0,[.int .i64 0,.slice none 0 0,.bool false,.slice none 0 0,.slice none 0 0],true⟩,⟨bH,0,[.int .i64 n1,.slice A6 s2.length c7,.bool b3,.slice A_ k c_,.slice ba (q + 1) bd],true⟩] [(2,.p 1 0),(3,.p 2 0),(31,.v (.slice ap u5.length ar)),(32,.v (.int .i64 ((u5.length:Nat):Int))),(33,.v (.int .i64 (IntKind.i64.wrap (((q:Nat):Int) + 1))))]
  have cV:IntKind.i64.wrap (((q:Nat):Int) + 1) = ((q + 1:Nat):Int):=qaM (by omega)
  rw [cV] at bx
  exact ⟨u5.length - (q + 1),by omega,q + 1,ba,bd,ys ++ [Value.int .u32 ab,.slice al ac.length am],(dss ++ [[Value.int .u32 ab,.slice al ac.length am]]),rfl,by omega,by rw [qcv bq]; exact (hU.move ((((aU.trans aV).trans aW).trans aX).trans aZ).step immM ((((aU.trans aV).trans aW).trans aX).trans aZ).to').snoc (c:=[.int .u32 ab,.slice al ac.length am]) (x:=(ab,ac)) ⟨⟨_,_,rfl,(cK.move aY.step nilM aY.imm)⟩,du,dv⟩,bx.pk,aY,(((((aQ.trans aU).trans aV).trans aW).trans aX).trans aZ)⟩
 have dS:=of_decide_eq_false aS
 refine wp_exit ?_
 refine qaB ?_
 refine qaB ?_
 refine qaL ?_
 refine qab ?_
 refine qae [0,1] kz ?_
 refine qai [0] [1] [(2,.p 1 0),(48,.v (.agg #[.int .i64 n1,.slice A6 s2.length c7,.bool b3,.slice A_ k c_,.slice A5_ q c5_]))] ak aR fun fi cW=>?_
 refine qak (qav ak cW (oi:=1) (cs:=[.int .i64 n1,.slice A6 s2.length c7,.bool b3,.slice A_ k c_,.slice A5_ q c5_]) kz fun fj av ao cX=>?_)
 refine qaf (qab ?_)
 refine wp_ret ?_
 refine qaF cX ao.cells (v:=.agg #[.int .i64 n1,.slice A6 s2.length c7,.bool b3,.slice A_ k c_,.slice A5_ q c5_]) kz ?_
 have hq0:q = u5.length:=by omega
 have hT':=(hT.move ((bp.trans aQ).trans av).step immM ((bp.trans aQ).trans av).to')
 have hU':=(hU.move av.step immM av.to')
 rw [show l4.take k = l4 by rw [hk0,List.take_length]] at hT'
 rw [show u5.take q = u5 by rw [hq0,List.take_length]] at hU'
 exact qjV ao rfl (dw.move ao.step nilM qkM) hk0 (qhg ao (k:=0) rfl hT' hk0 (by omega)) hq0 (qkL ao (k:=1) rfl hU' hq0 (by omega)) rfl
theorem lGot:∀ m,qlM m
 | 0=>fun ct t w F ht hd=>by
  obtain ⟨n,s,b,l,u,A1,c1,A2,c2,A3,c3,xs,rfl,_⟩:=ht.open_
  rw [qgl] at hd; omega
 | m + 1=>qjr (lGot m)
theorem qjs {u:List (Int × Bs)} {A:Option Addr} {c:Nat} {w:World} {F:Nat → Nat → Prop} (hu:TagsR w F A c u) (hsrt:qcK u):Calls Tryz.prog 105 #[.slice A u.length c] w (qbX w (.tuple #[])):=by
 obtain ⟨cs1,h2,h3⟩:=hu.ex
 have hsm4:=h2.small
 refine enter (n:=45) Tryz.func105 rfl Tryz.ntmps105 kz fun a hE=>?_
 have hW:=WOk.start w Nil
 refine qan [(0,.v (.slice A u.length c)),(5,.v (.int .i64 ((u.length:Nat):Int))),(6,.v (.int .i64 0))] hW hE fun a5 hE6=>?_
 refine wp_block ?_
 refine wp_loop_ghost (fun n_ a_ w_=>∃ (k:Nat),n_ = u.length - k ∧ k ≤ u.length ∧ LInv hW 45 [] [] [(0,.v (.slice A u.length c)),(5,.v (.int .i64 ((u.length:Nat):Int))),(6,.v (.int .i64 ((k:Nat):Int)))] a_ w_) (u.length) ⟨0,by omega,by omega,hE6.pk,hW,Fr.refl _ _ _⟩ ?_
 rintro n7 a8 w9 ⟨k,aW,aX,aB,ab,aj⟩
 refine qan [(0,.v (.slice A u.length c)),(5,.v (.int .i64 ((u.length:Nat):Int))),(6,.v (.int .i64 ((k:Nat):Int))),(7,.v (.bool (decide (((k:Nat):Int) < ((u.length:Nat):Int)))))] ab aB fun bn ah=>?_
 refine wp_seq ?_
 refine qas ah (b:=decide (((k:Nat):Int) < ((u.length:Nat):Int))) kz (fun ai=>?_) (fun ai=>?_)
 ·
  have aY:=of_decide_eq_true ai
  refine wp_skip ?_
  refine qab ?_
  refine wp_seq ?_
  refine wp_block ?_
  refine qan [(0,.v (.slice A u.length c)),(2,.v (.int .i64 ((k:Nat):Int))),(5,.v (.int .i64 ((u.length:Nat):Int))),(6,.v (.int .i64 ((k:Nat):Int)))] ab ah fun bo aC=>?_
  refine qan [(0,.v (.slice A u.length c)),(3,.v (.int .i64 ((k:Nat):Int))),(5,.v (.int .i64 ((u.length:Nat):Int))),(6,.v (.int .i64 ((k:Nat):Int)))] ab aC fun bp aD=>?_
  refine wp_block ?_
  refine qhv ?_
  refine wp_seq ?_
  refine qbN kz ab fun bq ak aa=>?_
  refine qaG [0,1,2] [(0,.v (.slice A u.length c)),(3,.v (.int .i64 ((k:Nat):Int))),(5,.v (.int .i64 ((u.length:Nat):Int))),(6,.v (.int .i64 ((k:Nat):Int))),(12,.v (.bool (decide (((k:Nat):Int) > 0))))] 13 (qaa (qaa (qaa (qac (qac (qaa (qaa (qac qag)))))))) (fun _ h=>h ▸ aa.cells) rfl aD fun bt al=>?_
  refine (Bool.eq_false_or_eq_true (decide (((k:Nat):Int) > 0))).elim (fun ac=>?_) (fun ac=>?_)
  ·
   have aZ:=of_decide_eq_true ac
   have aE:=al.cast (env':=[(0,.v (.slice A u.length c)),(3,.v (.int .i64 ((k:Nat):Int))),(5,.v (.int .i64 ((u.length:Nat):Int))),(6,.v (.int .i64 ((k:Nat):Int))),(12,.v (.bool true))]) (by rw [ac])
   refine qaG [3,4,8,9,10] [(0,.v (.slice A u.length c)),(3,.v (.int .i64 ((k:Nat):Int))),(5,.v (.int .i64 ((u.length:Nat):Int))),(6,.v (.int .i64 ((k:Nat):Int))),(12,.v (.bool true)),(13,.v (.slice A u.length c)),(14,.v (.int .i64 ((k:Nat):Int))),(18,.v (.slice A u.length c)),(20,.v (.int .i64 (IntKind.i64.wrap (((k:Nat):Int) - 1))))] 8 (qaa (qaa (qaa (qac (qac (qaa (qaa (qac qag)))))))) (fun _ h=>h ▸ aa.cells) rfl aE fun bu aF=>?_
   obtain ⟨az,aA,aG,ba,ae⟩:=Slots.get h2 (i:=k) (by omega)
   obtain ⟨⟨af,bd⟩,am⟩:∃ x,u[k]? = some x:=⟨_,List.getElem?_eq_getElem (by omega)⟩
   obtain ⟨⟨bw,bx,ao,bf⟩,bz,bA⟩:=h3 k af bd am
   rw [ao] at ae
   refine qaN aF (i:=5) (t:=35) (A:=A) (m:=u.length) (q:=((k:Nat):Int)) (d:=15) kz (e:=64) (size:=2) (bytes:=32) kz aG rfl (by omega) kz kz (qaa (qaa (qaa (qac (qac (qaa (qaa (qac qag)))))))) rfl fun bB aH=>?_
   refine qaG [6] [(0,.v (.slice A u.length c)),(3,.v (.int .i64 ((k:Nat):Int))),(5,.v (.int .i64 ((u.length:Nat):Int))),(6,.v (.int .i64 ((k:Nat):Int))),(12,.v (.bool true)),(16,.v (.pointer (some ⟨az,aA + k * 2,none⟩))),(18,.v (.slice A u.length c)),(20,.v (.int .i64 (IntKind.i64.wrap (((k:Nat):Int) - 1))))] 6 (qaa (qaa (qaa (qac (qac (qaa (qaa (qac qag)))))))) (fun _ h=>h ▸ aa.cells) rfl aH fun bC aI=>?_
   refine qaX aI (i:=7) (t:=62) (b:=az) (o:=aA + k * 2) (d:=17) kz (cs:=[.int .u32 af]) (v:=.int .u32 af) kz (fun w' h'=>h' ▸ (At.drop (AtF.move ae aa.step nilM qaY).at_ 0 1)) kz kz (qaa (qaa (qaa (qac (qac (qaa (qaa (qac qag)))))))) rfl fun bD aJ=>?_
   have aK:IntKind.i64.wrap (((k:Nat):Int) - 1) = (((k - 1):Nat):Int):=by simp only [qcg,qax,qbn,IntKind.wrap_i64,IntKind.wrap_i32]; omega
   have aL:=EnvOk.pick aJ (ks:=[0,3,5,6,12,16,18,20,17]) (env':=[(0,.v (.slice A u.length c)),(3,.v (.int .i64 ((k:Nat):Int))),(5,.v (.int .i64 ((u.length:Nat):Int))),(6,.v (.int .i64 ((k:Nat):Int))),(12,.v (.bool true)),(16,.v (.pointer (some ⟨az,aA + k * 2,none⟩))),(18,.v (.slice A u.length c)),(20,.v (.int .i64 (IntKind.i64.wrap (((k:Nat):Int) - 1)))),(17,.v (.int .u32 af))]) kz
   have aM:=aL.cast (env':=[(0,.v (.slice A u.length c)),(3,.v (.int .i64 ((k:Nat):Int))),(5,.v (.int .i64 ((u.length:Nat):Int))),(6,.v (.int .i64 ((k:Nat):Int))),(12,.v (.bool true)),(16,.v (.pointer (some ⟨az,aA + k * 2,none⟩))),(18,.v (.slice A u.length c)),(20,.v (.int .i64 (((k - 1):Nat):Int))),(17,.v (.int .u32 af))]) (by rw [aK])
   obtain ⟨aU,aV,aN,bg,ag⟩:=Slots.get h2 (i:=(k - 1)) (by omega)
   obtain ⟨⟨ap,bh⟩,ar⟩:∃ x,u[(k - 1)]? = some x:=⟨_,List.getElem?_eq_getElem (by omega)⟩
   obtain ⟨⟨bE,bF,au,bi⟩,bG,bH⟩:=h3 (k - 1) ap bh ar
   rw [au] at ag
   refine qaN aM (i:=11) (t:=35) (A:=A) (m:=u.length) (q:=(((k - 1):Nat):Int)) (d:=21) kz (e:=64) (size:=2) (bytes:=32) kz aN rfl (by omega) kz kz (qaa (qaa (qaa (qac (qac (qaa (qaa (qac qag)))))))) rfl fun bI aO=>?_
   refine qaG [12] [(0,.v (.slice A u.length c)),(3,.v (.int .i64 ((k:Nat):Int))),(5,.v (.int .i64 ((u.length:Nat):Int))),(6,.v (.int .i64 ((k:Nat):Int))),(12,.v (.bool true)),(17,.v (.int .u32 af)),(22,.v (.pointer (some ⟨aU,aV + (k - 1) * 2,none⟩)))] 3 (qaa (qaa (qaa (qac (qac (qaa (qaa (qac qag)))))))) (fun _ h=>h ▸ aa.cells) rfl aO fun bJ aP=>?_
   refine qaX aP (i:=13) (t:=62) (b:=aU) (o:=aV + (k - 1) * 2) (d:=23) kz (cs:=[.int .u32 ap]) (v:=.int .u32 ap) kz (fun w' h'=>h' ▸ (At.drop (AtF.move ag aa.step nilM qaY).at_ 0 1)) kz kz (qaa (qaa (qaa (qac (qac (qaa (qaa (qac qag)))))))) rfl fun bK aQ=>?_
   refine qaG [14,15] [(0,.v (.slice A u.length c)),(3,.v (.int .i64 ((k:Nat):Int))),(5,.v (.int .i64 ((u.length:Nat):Int))),(6,.v (.int .i64 ((k:Nat):Int))),(25,.v (.bool (decide (af < ap))))] 0 (qaa (qaa (qaa (qac (qac (qaa (qaa (qac qag)))))))) (fun _ h=>h ▸ aa.cells) rfl aQ fun bL av=>?_
   refine qaE kz ?_ _
   refine qab ?_
   refine qao av (b:=decide (af < ap)) kz (decide_eq_false (qic hsrt am ar (by omega))) ?_
   refine wp_exit ?_
   refine qaB ?_
   refine qaB ?_
   refine qaL ?_
   refine qaq ?_
   refine qab ?_
   refine qap [0,1] kz ?_
   refine qai [0,1] [] [(0,.v (.slice A u.length c)),(5,.v (.int .i64 ((u.length:Nat):Int))),(6,.v (.int .i64 (IntKind.i64.wrap (((k:Nat):Int) + 1))))] aa av fun bM aw=>?_
   refine qaf (qab ?_)
   have aR:IntKind.i64.wrap (((k:Nat):Int) + 1) = ((k + 1:Nat):Int):=qaM (by omega)
   rw [aR] at aw
   exact ⟨u.length - (k + 1),by omega,k + 1,rfl,by omega,aw.pk,aa,(aj.trans ak)⟩
  have bj:=of_decide_eq_false ac
  have aS:=al.cast (env':=[(0,.v (.slice A u.length c)),(3,.v (.int .i64 ((k:Nat):Int))),(5,.v (.int .i64 ((u.length:Nat):Int))),(6,.v (.int .i64 ((k:Nat):Int))),(12,.v (.bool false))]) (by rw [ac])
  refine qaG [3,4,5,6,7,8,9,10,11,12,13,14,15] [(0,.v (.slice A u.length c)),(3,.v (.int .i64 ((k:Nat):Int))),(5,.v (.int .i64 ((u.length:Nat):Int))),(6,.v (.int .i64 ((k:Nat):Int))),(25,.v (.bool false))] 0 (qaa (qaa (qaa (qac (qac (qaa (qaa (qac qag)))))))) (fun _ h=>h ▸ aa.cells) rfl aS fun bN ax=>?_
  refine qaE kz ?_ _
  refine qab ?_
  refine qao ax (b:=false) kz rfl ?_
  refine wp_exit ?_
  refine qaB ?_
  refine qaB ?_
  refine qaL ?_
  refine qaq ?_
  refine qab ?_
  refine qap [0,1] kz ?_
  refine qai [0,1] [] [(0,.v (.slice A u.length c)),(5,.v (.int .i64 ((u.length:Nat):Int))),(6,.v (.int .i64 (IntKind.i64.wrap (((k:Nat):Int) + 1))))] aa ax fun bO ay=>?_
  refine qaf (qab ?_)
  have aT:IntKind.i64.wrap (((k:Nat):Int) + 1) = ((k + 1:Nat):Int):=qaM (by omega)
  rw [aT] at ay
  exact ⟨u.length - (k + 1),by omega,k + 1,rfl,by omega,ay.pk,aa,(aj.trans ak)⟩
 have bk:=of_decide_eq_false ai
 refine wp_exit ?_
 refine qaB ?_
 refine qaB ?_
 refine qaL ?_
 refine qbK ah ab.cells (v:=.tuple #[]) kz ?_
 exact ⟨rfl,ab.step⟩
theorem qlN (s:ByteArray) (w:World) (F:Nat → Nat → Prop):Calls Tryz.prog 101 #[.pointer none] w (qcZ w F (.mk 0 [] true [] [])):=by
 refine enter (n:=11) Tryz.func101 rfl Tryz.ntmps101 kz fun a hE=>?_
 have hW:=WOk.start w Nil
 refine qae [0] kz ?_
 refine qak (qaK hW hE (d:=2) (cs:=[.int .i64 0,.slice none 0 0,.bool false,.slice none 0 0,.slice none 0 0]) kz fun b1 a2 w3 hb4 hz5 hF6 hW7 hE8=>?_)
 refine qaf (qab ?_)
 refine wp_seq ?_
 refine qan [(0,.v (.pointer none)),(2,.p 0 0),(4,.v (.bool true))] hW7 hE8 fun a9 aa=>?_
 refine qaW aa (b:=true) kz rfl ?_
 refine qae [0,1] kz ?_
 refine qai [0] [1] [(2,.p 0 0),(5,.v (.agg #[.int .i64 0,.slice none 0 0,.bool true,.slice none 0 0,.slice none 0 0]))] hW7 aa fun ah ac=>?_
 refine qak (qav hW7 ac (oi:=0) (cs:=[.int .i64 0,.slice none 0 0,.bool true,.slice none 0 0,.slice none 0 0]) kz fun af ag ab ae=>?_)
 refine qaf (qab ?_)
 refine wp_ret ?_
 refine qam ?_
 refine qaF ae ab.cells (v:=.agg #[.int .i64 0,.slice none 0 0,.bool true,.slice none 0 0,.slice none 0 0]) kz ?_
 exact ⟨_,rfl,(show TreeR _ (Imm F w af [⟨b1,0,[.int .i64 0,.slice none 0 0,.bool true,.slice none 0 0,.slice none 0 0],true⟩] []) _ (Tree.mk 0 [] true [] []) from (TreeR.mk (n:=0) (b:=true) (s:=[]) (l:=[]) (u:=[]) (fun _=>[]) (Octs.nil _ _) (Slots.nil _ _ _ _) (fun i_ x_ h_=>by simp at h_) (TagsR.nil _ _))).move (Step.refl _ Nil) nilM qbI,ab.step⟩
theorem qlO (b o:Nat) (s:ByteArray) (w:World) (F:Nat → Nat → Prop) (hat:AtF w F b o [.string s]) (hs:s.size ≤ 1000000):Calls Tryz.prog 101 #[.pointer (some ⟨b,o,none⟩)] w (qcZ w F (.mk 0 (sb s) false [] [])):=by
 refine enter (n:=11) Tryz.func101 rfl Tryz.ntmps101 kz fun a hE=>?_
 have hW:=WOk.start w Nil
 refine qae [0] kz ?_
 refine qak (qaK hW hE (d:=2) (cs:=[.int .i64 0,.slice none 0 0,.bool false,.slice none 0 0,.slice none 0 0]) kz fun b1 a2 w3 hb4 hz5 hF6 hW7 hE8=>?_)
 refine qaf (qab ?_)
 refine wp_seq ?_
 refine qan [(0,.v (.pointer (some ⟨b,o,none⟩))),(2,.p 0 0),(4,.v (.bool false))] hW7 hE8 fun a9 aa=>?_
 refine qao aa (b:=false) kz rfl ?_
 refine wp_skip ?_
 refine qab ?_
 refine qae [0,1,2,3,4,5] kz ?_
 refine qai [0,1] [2,3,4,5] [(2,.p 0 0),(7,.v (.pointer (some ⟨b,o,none⟩)))] hW7 aa fun au ah=>?_
 refine qak (qaJ ah (t:=9) (b:=b) (o:=o) (d:=8) kz (cs:=[.string s]) (v:=.string s) kz (AtF.move hat hW7.step nilM qaY).at_ fun av ai=>?_)
 refine qak (qia (d:=9) (src:=9) (dst:=22) (e:=5) (s:=s) hW7 ai (by omega) fun af ag aw ax ap ab aj ak=>?_)
 have al:=aj F
 refine qai [4] [5] [(2,.p 0 0),(10,.v (.agg #[.int .i64 0,.slice (some ⟨af,0,none⟩) ((sb s).length) ag,.bool false,.slice none 0 0,.slice none 0 0]))] ab ak fun ay am=>?_
 refine qak (qav ab am (oi:=0) (cs:=[.int .i64 0,.slice (some ⟨af,0,none⟩) ((sb s).length) ag,.bool false,.slice none 0 0,.slice none 0 0]) kz fun ar ac ae ao=>?_)
 refine qaf (qab ?_)
 refine wp_ret ?_
 refine qaF ao ae.cells (v:=.agg #[.int .i64 0,.slice (some ⟨af,0,none⟩) ((sb s).length) ag,.bool false,.slice none 0 0,.slice none 0 0]) kz ?_
 exact ⟨_,rfl,(show TreeR _ (Imm F w ar [⟨b1,0,[.int .i64 0,.slice (some ⟨af,0,none⟩) ((sb s).length) ag,.bool false,.slice none 0 0,.slice none 0 0],true⟩] []) _ (Tree.mk 0 (sb s) false [] []) from (TreeR.mk (n:=0) (b:=false) (s:=(sb s)) (l:=[]) (u:=[]) (fun _=>[]) (al.move ac.step immM ac.to') (Slots.nil _ _ _ _) (fun i_ x_ h_=>by simp at h_) (TagsR.nil _ _))).move (Step.refl _ Nil) nilM qbI,ae.step⟩
theorem ql8 (A:Option Addr) (s:ByteArray) (w:World) (F:Nat → Nat → Prop) (hO:∀ ad,A = some ad → ∃ b o,ad = ⟨b,o,none⟩ ∧ AtF w F b o [.string s]) (hs:s.size ≤ 1000000):Calls Tryz.prog 101 #[.pointer A] w (qcZ w F (qib A s)):=by
 cases A with
 | none=>exact qlN s w F
 | some ad =>
  obtain ⟨b,o,rfl,h⟩:=hO ad rfl
  exact qlO b o s w F h hs
theorem qie (w:World) (F:Nat → Nat → Prop):Calls Tryz.prog 100 #[.bool true] w (qcZ w F (.mk 1 [] false [] [])):=by
 refine enter (n:=6) Tryz.func100 rfl Tryz.ntmps100 kz fun a hE=>?_
 have hW:=WOk.start w Nil
 refine qae [0] kz ?_
 refine qak (qaK hW hE (d:=2) (cs:=[.int .i64 0,.slice none 0 0,.bool false,.slice none 0 0,.slice none 0 0]) kz fun b1 a2 w3 hb4 hz5 hF6 hW7 hE8=>?_)
 refine qaf (qab ?_)
 refine wp_seq ?_
 refine qan [(2,.p 0 0),(3,.v (.bool true))] hW7 hE8 fun a9 aa=>?_
 refine qaW aa (b:=true) kz rfl ?_
 refine qae [0,1] kz ?_
 refine qai [0] [1] [(2,.p 0 0),(4,.v (.agg #[.int .i64 1,.slice none 0 0,.bool false,.slice none 0 0,.slice none 0 0]))] hW7 aa fun ah ac=>?_
 refine qak (qav hW7 ac (oi:=0) (cs:=[.int .i64 1,.slice none 0 0,.bool false,.slice none 0 0,.slice none 0 0]) kz fun af ag ab ae=>?_)
 refine qaf (qab ?_)
 refine wp_ret ?_
 refine qam ?_
 refine qaF ae ab.cells (v:=.agg #[.int .i64 1,.slice none 0 0,.bool false,.slice none 0 0,.slice none 0 0]) kz ?_
 exact ⟨_,rfl,(show TreeR _ (Imm F w af [⟨b1,0,[.int .i64 1,.slice none 0 0,.bool false,.slice none 0 0,.slice none 0 0],true⟩] []) _ (Tree.mk 1 [] false [] []) from (TreeR.mk (n:=1) (b:=false) (s:=[]) (l:=[]) (u:=[]) (fun _=>[]) (Octs.nil _ _) (Slots.nil _ _ _ _) (fun i_ x_ h_=>by simp at h_) (TagsR.nil _ _))).move (Step.refl _ Nil) nilM qbI,ab.step⟩
theorem qg4 (w:World) (F:Nat → Nat → Prop):Calls Tryz.prog 100 #[.bool false] w (qcZ w F (.mk 0 [] false [] [])):=by
 refine enter (n:=6) Tryz.func100 rfl Tryz.ntmps100 kz fun a hE=>?_
 have hW:=WOk.start w Nil
 refine qae [0] kz ?_
 refine qak (qaK hW hE (d:=2) (cs:=[.int .i64 0,.slice none 0 0,.bool false,.slice none 0 0,.slice none 0 0]) kz fun b1 a2 w3 hb4 hz5 hF6 hW7 hE8=>?_)
 refine qaf (qab ?_)
 refine wp_seq ?_
 refine qan [(2,.p 0 0),(3,.v (.bool false))] hW7 hE8 fun a9 aa=>?_
 refine qao aa (b:=false) kz rfl ?_
 refine wp_skip ?_
 refine qab ?_
 refine qae [0,1] kz ?_
 refine qai [0] [1] [(2,.p 0 0),(5,.v (.agg #[.int .i64 0,.slice none 0 0,.bool false,.slice none 0 0,.slice none 0 0]))] hW7 aa fun ah ac=>?_
 refine qak (qav hW7 ac (oi:=0) (cs:=[.int .i64 0,.slice none 0 0,.bool false,.slice none 0 0,.slice none 0 0]) kz fun af ag ab ae=>?_)
 refine qaf (qab ?_)
 refine wp_ret ?_
 refine qaF ae ab.cells (v:=.agg #[.int .i64 0,.slice none 0 0,.bool false,.slice none 0 0,.slice none 0 0]) kz ?_
 exact ⟨_,rfl,(show TreeR _ (Imm F w af [⟨b1,0,[.int .i64 0,.slice none 0 0,.bool false,.slice none 0 0,.slice none 0 0],true⟩] []) _ (Tree.mk 0 [] false [] []) from (TreeR.mk (n:=0) (b:=false) (s:=[]) (l:=[]) (u:=[]) (fun _=>[]) (Octs.nil _ _) (Slots.nil _ _ _ _) (fun i_ x_ h_=>by simp at h_) (TagsR.nil _ _))).move (Step.refl _ Nil) nilM qbI,ab.step⟩
theorem qk9 (b:Bool) (w:World) (F:Nat → Nat → Prop):Calls Tryz.prog 100 #[.bool b] w (qcZ w F (qfV b)):=by
 cases b
 ·exact qg4 w F
 exact qie w F
theorem qeN:qfU Tryz.prog 133 64:=by
 intro w B cp c n k A Av x x0 x1 x2 x3 xs G hbx ho hG hn
 refine enter (n:=14) Tryz.func133 rfl Tryz.ntmps133 kz fun a hE=>?_
 have hW:=hbx.wok
 have hE0:=(hE.grow ⟨B,0,[x0,x1,x2,x3,.slice A n cp],true⟩).recast 2 (.v (.pointer (some ⟨B,0,none⟩))) (.p 0 0) rfl rfl (by simp [SV.ok])
 have hsm:=Slots.small ho
 have ap:=hE0.pk (env':=[(0,.v (.int .u32 k)),(1,.v (.slice Av x.length c)),(2,.p 0 0)])
 refine qcQ 9 kz hW fun w1 hF2 hW3 hT4=>?_
 refine qaG [0,1,2,3] [(2,.p 0 0),(6,.v (.slice A n cp)),(7,.v (.int .u32 k)),(8,.v (.slice Av x.length c))] 6 qag (fun _ h=>h.cells) hT4 ap fun a5 hE6=>?_
 have hW7:=hW3.addNil 5 1
 have hF8:=hW3.frNil 5 1
 refine qaA (i:=4) kz (qaR hW7 hE6 (k:=1) (d:=9) (t:=22) (e:=5) (size:=1) (bytes:=1) (A:=none) (As:=Av) (m0:=0) (c:=0) (m:=x.length) (cs:=c) (xs:=[]) (news:=bc x) kz kz rfl (ho.move hW7.step (fun b o h _=>hG b o h) qaY).src (ho.move hW7.step (fun b o h _=>hG b o h) qaY).cap (by first | omega | (simp only [List.length_nil]; omega) | (simp; omega)) fun A9 aa aK aL ac ar au=>?_)
 have av:(⟨A9,aa,5,1,0 + x.length,[] ++ bc x⟩:Rw) = brow A9 aa 5 x:=by rw [List.nil_append,Nat.zero_add]
 obtain ⟨af,ae⟩:=ar.rowEq 1 [⟨A,cp,64,2,n,xs⟩,brow A9 aa 5 x] av
 have aw:=EnvOk.pick au (ks:=[2,6,7,8,9]) (env':=[(2,.p 0 0),(6,.v (.slice A n cp)),(7,.v (.int .u32 k)),(8,.v (.slice Av x.length c)),(9,.v (.slice A9 (0 + x.length) aa))]) kz
 have ax:=aw.cast (env':=[(2,.p 0 0),(6,.v (.slice A n cp)),(7,.v (.int .u32 k)),(8,.v (.slice Av x.length c)),(9,.v (.slice A9 x.length aa))]) (by simp only [List.length_append,List.length_cons,List.length_nil,Nat.zero_add])
 have ag:=TT.ofW ((hF8.trans ac).trans ae) af
 refine ⟨fun _=>ag,?_⟩
 refine qaG [5] [(2,.p 0 0),(6,.v (.slice A n cp)),(10,.v (.agg #[.int .u32 k,.slice A9 x.length aa]))] 4 qag (fun _ h=>h.cells) ag ax fun aM ay=>?_
 refine qaA (i:=6) kz (qbD af ay (e:=64) (size:=2) (len:=1) (cs:=[.int .u32 k,.slice A9 x.length aa]) (d:=11) kz kz fun aF aN aO aG aH ah ab az=>?_)
 have aA:=TT.ofW (((hF8.trans ac).trans ae).trans ah) ab
 refine ⟨fun _=>aA,?_⟩
 refine qaA (i:=7) kz (qaR ab az (k:=0) (d:=12) (t:=35) (e:=64) (size:=2) (bytes:=32) (A:=A) (As:=(some ⟨aF,0,none⟩)) (m0:=n) (c:=cp) (m:=1) (cs:=1) (xs:=xs) (news:=[.int .u32 k,.slice A9 x.length aa]) kz kz rfl (qbC (ab.own 2 _ rfl) (qbJ kz)) (qbM (ab.own 2 _ rfl)) (by first | omega | (simp only [List.length_nil]; omega) | (simp; omega)) fun am ao aP aQ aB ai aC=>?_)
 have aj:=TT.ofW ((((hF8.trans ac).trans ae).trans ah).trans aB) ai
 refine ⟨fun _=>aj,?_⟩
 refine qaG [8] [(12,.v (.slice am (n + 1) ao)),(13,.p 0 4)] 1 qag (fun _ h=>h.cells) aj aC fun aR aD=>?_
 refine qaA (i:=9) kz (qav ai aD (oi:=0) (cs:=[x0,x1,x2,x3,.slice am (n + 1) ao]) kz fun aS aI ak aE=>?_)
 refine ⟨fun h=>absurd rfl h,?_⟩
 refine qaE kz ?_ _
 refine qbK aE ak.cells (v:=.tuple #[]) kz ?_
 obtain ⟨al,aJ⟩:=ak.cutR 2 [⟨am,ao,64,2,n + 1,xs ++ [.int .u32 k,.slice A9 x.length aa]⟩,brow A9 aa 5 x]
 have hoo:=qfa (s:=x) (Av:=A9) (c:=aa) (e8:=5) rfl al (by omega)
 obtain ⟨hb1,hb2,hb3⟩:=qg3 al (World.lt_of_cell (hbx.str.at_ 0 _ rfl))
 exact ⟨rfl,am,ao,A9,aa,hb1,hoo,hb2,hb3⟩
theorem qd7:qfU Tryz.prog 123 64:=by
 intro w B cp c n k A Av x x0 x1 x2 x3 xs G hbx ho hG hn
 refine enter (n:=14) Tryz.func123 rfl Tryz.ntmps123 kz fun a hE=>?_
 have hW:=hbx.wok
 have hE0:=(hE.grow ⟨B,0,[x0,x1,x2,x3,.slice A n cp],true⟩).recast 2 (.v (.pointer (some ⟨B,0,none⟩))) (.p 0 0) rfl rfl (by simp [SV.ok])
 have hsm:=Slots.small ho
 have ap:=hE0.pk (env':=[(0,.v (.int .u32 k)),(1,.v (.slice Av x.length c)),(2,.p 0 0)])
 refine qcQ 9 kz hW fun w1 hF2 hW3 hT4=>?_
 refine qaG [0,1,2,3] [(2,.p 0 0),(6,.v (.slice A n cp)),(7,.v (.int .u32 k)),(8,.v (.slice Av x.length c))] 6 qag (fun _ h=>h.cells) hT4 ap fun a5 hE6=>?_
 have hW7:=hW3.addNil 5 1
 have hF8:=hW3.frNil 5 1
 refine qaA (i:=4) kz (qaR hW7 hE6 (k:=1) (d:=9) (t:=22) (e:=5) (size:=1) (bytes:=1) (A:=none) (As:=Av) (m0:=0) (c:=0) (m:=x.length) (cs:=c) (xs:=[]) (news:=bc x) kz kz rfl (ho.move hW7.step (fun b o h _=>hG b o h) qaY).src (ho.move hW7.step (fun b o h _=>hG b o h) qaY).cap (by first | omega | (simp only [List.length_nil]; omega) | (simp; omega)) fun A9 aa aK aL ac ar au=>?_)
 have av:(⟨A9,aa,5,1,0 + x.length,[] ++ bc x⟩:Rw) = brow A9 aa 5 x:=by rw [List.nil_append,Nat.zero_add]
 obtain ⟨af,ae⟩:=ar.rowEq 1 [⟨A,cp,64,2,n,xs⟩,brow A9 aa 5 x] av
 have aw:=EnvOk.pick au (ks:=[2,6,7,8,9]) (env':=[(2,.p 0 0),(6,.v (.slice A n cp)),(7,.v (.int .u32 k)),(8,.v (.slice Av x.length c)),(9,.v (.slice A9 (0 + x.length) aa))]) kz
 have ax:=aw.cast (env':=[(2,.p 0 0),(6,.v (.slice A n cp)),(7,.v (.int .u32 k)),(8,.v (.slice Av x.length c)),(9,.v (.slice A9 x.length aa))]) (by simp only [List.length_append,List.length_cons,List.length_nil,Nat.zero_add])
 have ag:=TT.ofW ((hF8.trans ac).trans ae) af
 refine ⟨fun _=>ag,?_⟩
 refine qaG [5] [(2,.p 0 0),(6,.v (.slice A n cp)),(10,.v (.agg #[.int .u32 k,.slice A9 x.length aa]))] 4 qag (fun _ h=>h.cells) ag ax fun aM ay=>?_
 refine qaA (i:=6) kz (qbD af ay (e:=64) (size:=2) (len:=1) (cs:=[.int .u32 k,.slice A9 x.length aa]) (d:=11) kz kz fun aF aN aO aG aH ah ab az=>?_)
 have aA:=TT.ofW (((hF8.trans ac).trans ae).trans ah) ab
 refine ⟨fun _=>aA,?_⟩
 refine qaA (i:=7) kz (qaR ab az (k:=0) (d:=12) (t:=35) (e:=64) (size:=2) (bytes:=32) (A:=A) (As:=(some ⟨aF,0,none⟩)) (m0:=n) (c:=cp) (m:=1) (cs:=1) (xs:=xs) (news:=[.int .u32 k,.slice A9 x.length aa]) kz kz rfl (qbC (ab.own 2 _ rfl) (qbJ kz)) (qbM (ab.own 2 _ rfl)) (by first | omega | (simp only [List.length_nil]; omega) | (simp; omega)) fun am ao aP aQ aB ai aC=>?_)
 have aj:=TT.ofW ((((hF8.trans ac).trans ae).trans ah).trans aB) ai
 refine ⟨fun _=>aj,?_⟩
 refine qaG [8] [(12,.v (.slice am (n + 1) ao)),(13,.p 0 4)] 1 qag (fun _ h=>h.cells) aj aC fun aR aD=>?_
 refine qaA (i:=9) kz (qav ai aD (oi:=0) (cs:=[x0,x1,x2,x3,.slice am (n + 1) ao]) kz fun aS aI ak aE=>?_)
 refine ⟨fun h=>absurd rfl h,?_⟩
 refine qaE kz ?_ _
 refine qbK aE ak.cells (v:=.tuple #[]) kz ?_
 obtain ⟨al,aJ⟩:=ak.cutR 2 [⟨am,ao,64,2,n + 1,xs ++ [.int .u32 k,.slice A9 x.length aa]⟩,brow A9 aa 5 x]
 have hoo:=qfa (s:=x) (Av:=A9) (c:=aa) (e8:=5) rfl al (by omega)
 obtain ⟨hb1,hb2,hb3⟩:=qg3 al (World.lt_of_cell (hbx.str.at_ 0 _ rfl))
 exact ⟨rfl,am,ao,A9,aa,hb1,hoo,hb2,hb3⟩
theorem qcW:qfU Tryz.prog 178 64:=by
 intro w B cp c n k A Av x x0 x1 x2 x3 xs G hbx ho hG hn
 refine enter (n:=14) Tryz.func178 rfl Tryz.ntmps178 kz fun a hE=>?_
 have hW:=hbx.wok
 have hE0:=(hE.grow ⟨B,0,[x0,x1,x2,x3,.slice A n cp],true⟩).recast 2 (.v (.pointer (some ⟨B,0,none⟩))) (.p 0 0) rfl rfl (by simp [SV.ok])
 have hsm:=Slots.small ho
 have ap:=hE0.pk (env':=[(0,.v (.int .u32 k)),(1,.v (.slice Av x.length c)),(2,.p 0 0)])
 refine qcQ 9 kz hW fun w1 hF2 hW3 hT4=>?_
 refine qaG [0,1,2,3] [(2,.p 0 0),(6,.v (.slice A n cp)),(7,.v (.int .u32 k)),(8,.v (.slice Av x.length c))] 6 qag (fun _ h=>h.cells) hT4 ap fun a5 hE6=>?_
 have hW7:=hW3.addNil 5 1
 have hF8:=hW3.frNil 5 1
 refine qaA (i:=4) kz (qaR hW7 hE6 (k:=1) (d:=9) (t:=22) (e:=5) (size:=1) (bytes:=1) (A:=none) (As:=Av) (m0:=0) (c:=0) (m:=x.length) (cs:=c) (xs:=[]) (news:=bc x) kz kz rfl (ho.move hW7.step (fun b o h _=>hG b o h) qaY).src (ho.move hW7.step (fun b o h _=>hG b o h) qaY).cap (by first | omega | (simp only [List.length_nil]; omega) | (simp; omega)) fun A9 aa aK aL ac ar au=>?_)
 have av:(⟨A9,aa,5,1,0 + x.length,[] ++ bc x⟩:Rw) = brow A9 aa 5 x:=by rw [List.nil_append,Nat.zero_add]
 obtain ⟨af,ae⟩:=ar.rowEq 1 [⟨A,cp,64,2,n,xs⟩,brow A9 aa 5 x] av
 have aw:=EnvOk.pick au (ks:=[2,6,7,8,9]) (env':=[(2,.p 0 0),(6,.v (.slice A n cp)),(7,.v (.int .u32 k)),(8,.v (.slice Av x.length c)),(9,.v (.slice A9 (0 + x.length) aa))]) kz
 have ax:=aw.cast (env':=[(2,.p 0 0),(6,.v (.slice A n cp)),(7,.v (.int .u32 k)),(8,.v (.slice Av x.length c)),(9,.v (.slice A9 x.length aa))]) (by simp only [List.length_append,List.length_cons,List.length_nil,Nat.zero_add])
 have ag:=TT.ofW ((hF8.trans ac).trans ae) af
 refine ⟨fun _=>ag,?_⟩
 refine qaG [5] [(2,.p 0 0),(6,.v (.slice A n cp)),(10,.v (.agg #[.int .u32 k,.slice A9 x.length aa]))] 4 qag (fun _ h=>h.cells) ag ax fun aM ay=>?_
 refine qaA (i:=6) kz (qbD af ay (e:=64) (size:=2) (len:=1) (cs:=[.int .u32 k,.slice A9 x.length aa]) (d:=11) kz kz fun aF aN aO aG aH ah ab az=>?_)
 have aA:=TT.ofW (((hF8.trans ac).trans ae).trans ah) ab
 refine ⟨fun _=>aA,?_⟩
 refine qaA (i:=7) kz (qaR ab az (k:=0) (d:=12) (t:=35) (e:=64) (size:=2) (bytes:=32) (A:=A) (As:=(some ⟨aF,0,none⟩)) (m0:=n) (c:=cp) (m:=1) (cs:=1) (xs:=xs) (news:=[.int .u32 k,.slice A9 x.length aa]) kz kz rfl (qbC (ab.own 2 _ rfl) (qbJ kz)) (qbM (ab.own 2 _ rfl)) (by first | omega | (simp only [List.length_nil]; omega) | (simp; omega)) fun am ao aP aQ aB ai aC=>?_)
 have aj:=TT.ofW ((((hF8.trans ac).trans ae).trans ah).trans aB) ai
 refine ⟨fun _=>aj,?_⟩
 refine qaG [8] [(12,.v (.slice am (n + 1) ao)),(13,.p 0 4)] 1 qag (fun _ h=>h.cells) aj aC fun aR aD=>?_
 refine qaA (i:=9) kz (qav ai aD (oi:=0) (cs:=[x0,x1,x2,x3,.slice am (n + 1) ao]) kz fun aS aI ak aE=>?_)
 refine ⟨fun h=>absurd rfl h,?_⟩
 refine qaE kz ?_ _
 refine qbK aE ak.cells (v:=.tuple #[]) kz ?_
 obtain ⟨al,aJ⟩:=ak.cutR 2 [⟨am,ao,64,2,n + 1,xs ++ [.int .u32 k,.slice A9 x.length aa]⟩,brow A9 aa 5 x]
 have hoo:=qfa (s:=x) (Av:=A9) (c:=aa) (e8:=5) rfl al (by omega)
 obtain ⟨hb1,hb2,hb3⟩:=qg3 al (World.lt_of_cell (hbx.str.at_ 0 _ rfl))
 exact ⟨rfl,am,ao,A9,aa,hb1,hoo,hb2,hb3⟩
theorem n8w (x:Int):IntKind.i8.wrap x = (x + 128) % 256 - 128:=by simp [IntKind.wrap,IntKind.signed,IntKind.bits]; omega
theorem n16w (x:Int):IntKind.i16.wrap x = (x + 32768) % 65536 - 32768:=by simp [IntKind.wrap,IntKind.signed,IntKind.bits]; omega
theorem n32w (x:Int):IntKind.i32.wrap x = (x + 2147483648) % 4294967296 - 2147483648:=by simp [IntKind.wrap,IntKind.signed,IntKind.bits]; omega
theorem n64w (x:Int):IntKind.i64.wrap x = (x + 9223372036854775808) % 18446744073709551616 - 9223372036854775808:=by simp [IntKind.wrap,IntKind.signed,IntKind.bits]; omega
theorem qif (x:Int):IntKind.i64.wrap (IntKind.i8.wrap x) = IntKind.i8.wrap x:=by rw [n64w,n8w]; omega
theorem qfx (x:Int):IntKind.i64.wrap (IntKind.i16.wrap x) = IntKind.i16.wrap x:=by rw [n64w,n16w]; omega
theorem qfy (x:Int):IntKind.i64.wrap (IntKind.i32.wrap x) = IntKind.i32.wrap x:=by rw [n64w,n32w]; omega
theorem qes (x:Int):IntKind.i64.wrap (IntKind.u16.wrap x) = IntKind.u16.wrap x:=by rw [n64w,qbn]; omega
def qbc (k n:Int):Int:=if k = 0 then n % 2 else if k = 1 then IntKind.i8.wrap n else if k = 2 then IntKind.i16.wrap n else if k = 3 then IntKind.i32.wrap n else if k = 5 then IntKind.u16.wrap n else n
structure UsQ (U:List Fld → Tree → Prop) (k x1 x2 x3 x4 x5 x6:Int) (sub:List Fld) (n:Int) (s:Bs) (b:Bool) (l:List Tree) (u:List (Int × Bs)):Prop where
 text:k = 8 → b = decide (x3 ≥ 0) ∧ s = []
 uuid:k = 7 → s = List.replicate 16 0
 octs:k = 9 ∨ k = 11 → s = [] ∧ l = []
 part:k = 10 → (x3 ≥ 0 → b = true) ∧ (x3 < 0 → U sub (.mk n s b l u))
 num:k ≠ 7 → k ≠ 8 → k ≠ 9 → k ≠ 10 → k ≠ 11 → n = qbc k x5
def UsF (U:List Fld → Tree → Prop):Fld → Tree → Prop
 | .mk k x1 x2 x3 x4 x5 x6 sub,.mk n s b l u=>UsQ U k x1 x2 x3 x4 x5 x6 sub n s b l u
def UsP (U:List Fld → Tree → Prop) (l:List Fld) (g:Tree):Prop:=g.U = [] ∧ ∀ (i:Nat) (f:Fld),l[i]? = some f → UsF U f (g.at_ i)
def qjt:Nat → List Fld → Tree → Prop
 | 0=>UsP fun _ _=>False
 | d + 1=>UsP (qjt d)
structure ToQ (T:List Fld → Tree → Tree → Prop) (v:Int) (f:Fld) (k x3:Int) (sub:List Fld) (t:Tree) (tn:Int) (ts:Bs) (n:Int) (s:Bs) (b:Bool) (g:Tree):Prop where
 null:k = 8 ∨ k = 10 ∨ (x3 ≥ 0 ∧ v ≥ x3) → b = f.nul v t
 text:f.nul v t = false → k = 8 ∨ k = 9 → s = qaD ts
 uuid:f.nul v t = false → k = 7 → s = qbd ts
 part:f.nul v t = false → k = 10 → T sub t g
 num:f.nul v t = false → k ≠ 7 → k ≠ 8 → k ≠ 9 → k ≠ 10 → k ≠ 11 → n = qbc k tn
def ToF0 (T:List Fld → Tree → Tree → Prop) (v:Int):Fld → Tree → Tree → Prop
 | .mk k x1 x2 x3 x4 x5 x6 sub,.mk tn ts tb tl tu,.mk n s b l u=>ToQ T v (.mk k x1 x2 x3 x4 x5 x6 sub) k x3 sub (.mk tn ts tb tl tu) tn ts n s b (.mk n s b l u)
def ToF (T:List Fld → Tree → Tree → Prop) (v:Int) (f:Fld) (t g:Tree):Prop :=
 ToF0 T v f t g ∧ (f.kind = 11 → f.nul v t = false → g.L.length = (qal t.L).length ∧ ∀ (i:Nat) (x y:Tree),(qal t.L)[i]? = some x → g.L[i]? = some y → ToF0 T v f.elem x y)
def Fld.pres (f:Fld) (v:Int) (flex:Bool) (x:Tree):Bool:=(decide (f.tag < 0) && f.has v) || (decide (f.tag ≥ 0) && (flex && !f.usual x))
def ToP (T:List Fld → Tree → Tree → Prop) (U:List Fld → Tree → Prop) (l:List Fld) (v:Int) (flex:Bool) (t g:Tree):Prop :=
 g.L.length = l.length ∧ (∀ (i:Nat) (f:Fld) (y:Tree),l[i]? = some f → g.L[i]? = some y → (f.pres v flex (t.at_ i) = true → ToF T v f (t.at_ i) y) ∧ (f.pres v flex (t.at_ i) = false → UsF U f y)) ∧
  g.U = (if flex = true then qb7 (qah l t.U) else [])
def qju (v:Int) (flex:Bool):Nat → List Fld → Tree → Tree → Prop
 | 0=>fun l t g=>ToP (fun _ _ _=>False) (fun _ _=>False) l v flex t g
 | d + 1=>fun l t g=>ToP (qju v flex d) (qjt d) l v flex t g
theorem qku {U:List Fld → Tree → Prop} {f:Fld} {y:Tree} (h:UsF U f y):UsP U [f] (.mk 0 [] false [y] []):=by
 refine ⟨rfl,fun i g hg=>?_⟩
 cases i with
 | zero =>
  simp only [List.getElem?_cons_zero,Option.some.injEq] at hg
  subst hg
  exact h
 | succ i=>simp at hg
theorem qjv {w:World} {e:Nat} {A:Option Addr} {c:Nat} {F:Nat → Nat → Prop} (h:w.ownsRow 0 e 1 (.slice A 16 c) 16 (List.replicate 16 (.int .u8 0))) (hF:∀ g,A.map (·.block) = some g → ∀ o,F g o):Octs w F A c (List.replicate 16 0) :=
 qbU (s:=List.replicate 16 0) h (by decide) hF
section
variable {U:List Fld → Tree → Prop} {k x1 x2 x3 x4 x5 x6 n:Int} {sub:List Fld} {s:Bs} {b:Bool} {l:List Tree} {u:List (Int × Bs)}
abbrev UsH (U:List Fld → Tree → Prop) (k x1 x2 x3 x4 x5 x6:Int) (sub:List Fld) (n:Int) (s:Bs) (b:Bool) (l:List Tree) (u:List (Int × Bs)):Prop:=UsF U (.mk k x1 x2 x3 x4 x5 x6 sub) (.mk n s b l u)
theorem us_q (h:UsH U k x1 x2 x3 x4 x5 x6 sub n s b l u):UsQ U k x1 x2 x3 x4 x5 x6 sub n s b l u:=h
theorem qfW (h:UsH U k x1 x2 x3 x4 x5 x6 sub n s b l u) (hk:k = 8) (hc:(b != decide (x3 ≥ 0)) = true):False:=by
 have:=((us_q h).text hk).1
 rw [this] at hc; simp at hc
theorem qfX (h:UsH U k x1 x2 x3 x4 x5 x6 sub n s b l u) (hk:k = 8) (hc:((s.length:Nat):Int) > 0):False:=by
 have:=((us_q h).text hk).2
 rw [this] at hc; simp at hc
theorem us_7 (h:UsH U k x1 x2 x3 x4 x5 x6 sub n s b l u) (hk:k = 7) (hc:(!decide (s = (List.replicate 16 0:Bs))) = true):False:=by
 have:=(us_q h).uuid hk
 rw [this] at hc; simp at hc
theorem qfY (h:UsH U k x1 x2 x3 x4 x5 x6 sub n s b l u) (hk:k = 9) (hc:((s.length:Nat):Int) > 0):False:=by
 have:=((us_q h).octs (.inl hk)).1
 rw [this] at hc; simp at hc
theorem qfZ (h:UsH U k x1 x2 x3 x4 x5 x6 sub n s b l u) (hk:k = 9) (hc:((l.length:Nat):Int) > 0):False:=by
 have:=((us_q h).octs (.inl hk)).2
 rw [this] at hc; simp at hc
theorem qd8 (h:UsH U k x1 x2 x3 x4 x5 x6 sub n s b l u) (hk:k = 11) (hc:((s.length:Nat):Int) > 0):False:=by
 have:=((us_q h).octs (.inr hk)).1
 rw [this] at hc; simp at hc
theorem qd9 (h:UsH U k x1 x2 x3 x4 x5 x6 sub n s b l u) (hk:k = 11) (hc:((l.length:Nat):Int) > 0):False:=by
 have:=((us_q h).octs (.inr hk)).2
 rw [this] at hc; simp at hc
theorem qf0 (h:UsH U k x1 x2 x3 x4 x5 x6 sub n s b l u) (hk:k = 10) (h3:x3 ≥ 0) (hc:(!b) = true):False:=by
 have:=((us_q h).part hk).1 h3
 rw [this] at hc; simp at hc
theorem qkv (h:UsH U k x1 x2 x3 x4 x5 x6 sub n s b l u) (hk:k = 10) (h3:x3 < 0):U sub (.mk n s b l u):=((us_q h).part hk).2 h3
theorem us_n (h:UsH U k x1 x2 x3 x4 x5 x6 sub n s b l u) (h7:k ≠ 7) (h8:k ≠ 8) (h9:k ≠ 9) (h10:k ≠ 10) (h11:k ≠ 11) (hc:n ≠ qbc k x5):False:=hc ((us_q h).num h7 h8 h9 h10 h11)
theorem us_u {g:Tree} (h:g.U = []) {u:List (Int × Bs)} (e:g.U = u) (hc:((u.length:Nat):Int) > 0):False:=by
 rw [← e,h] at hc; simp at hc
end
section
variable {T:List Fld → Tree → Tree → Prop} {v k x1 x2 x3 x4 x5 x6 tn n:Int} {sub:List Fld} {ts s:Bs} {tb b:Bool} {tl l:List Tree} {tu u:List (Int × Bs)}
abbrev ToH (T:List Fld → Tree → Tree → Prop) (v k x1 x2 x3 x4 x5 x6:Int) (sub:List Fld) (tn:Int) (ts:Bs) (tb:Bool) (tl:List Tree) (tu:List (Int × Bs)) (n:Int) (s:Bs) (b:Bool) (l:List Tree) (u:List (Int × Bs)):Prop:=ToF0 T v (.mk k x1 x2 x3 x4 x5 x6 sub) (.mk tn ts tb tl tu) (.mk n s b l u)
abbrev NulH (v k x1 x2 x3 x4 x5 x6:Int) (sub:List Fld) (tn:Int) (ts:Bs) (tb:Bool) (tl:List Tree) (tu:List (Int × Bs)):Bool:=Fld.nul (.mk k x1 x2 x3 x4 x5 x6 sub) v (.mk tn ts tb tl tu)
theorem to_q (h:ToH T v k x1 x2 x3 x4 x5 x6 sub tn ts tb tl tu n s b l u):ToQ T v (.mk k x1 x2 x3 x4 x5 x6 sub) k x3 sub (.mk tn ts tb tl tu) tn ts n s b (.mk n s b l u):=h
theorem qjw (h:ToH T v k x1 x2 x3 x4 x5 x6 sub tn ts tb tl tu n s b l u) (hk:k = 8) (hc:(b != NulH v k x1 x2 x3 x4 x5 x6 sub tn ts tb tl tu) = true):False:=by
 rw [(to_q h).null (.inl hk)] at hc; simp at hc
theorem qgE (h:ToH T v k x1 x2 x3 x4 x5 x6 sub tn ts tb tl tu n s b l u) (hk:k = 10) (hc:(b != NulH v k x1 x2 x3 x4 x5 x6 sub tn ts tb tl tu) = true):False:=by
 rw [(to_q h).null (.inr (.inl hk))] at hc; simp at hc
theorem qf1 (h:ToH T v k x1 x2 x3 x4 x5 x6 sub tn ts tb tl tu n s b l u) (h1:x3 ≥ 0) (h2:v ≥ x3) (hc:(b != NulH v k x1 x2 x3 x4 x5 x6 sub tn ts tb tl tu) = true):False:=by
 rw [(to_q h).null (.inr (.inr ⟨h1,h2⟩))] at hc; simp at hc
theorem qjx (h:ToH T v k x1 x2 x3 x4 x5 x6 sub tn ts tb tl tu n s b l u) (hn:NulH v k x1 x2 x3 x4 x5 x6 sub tn ts tb tl tu = false) (hk:k = 10):T sub (.mk tn ts tb tl tu) (.mk n s b l u):=(to_q h).part hn hk
theorem qdQ (h:ToH T v k x1 x2 x3 x4 x5 x6 sub tn ts tb tl tu n s b l u) (hn:NulH v k x1 x2 x3 x4 x5 x6 sub tn ts tb tl tu = false) (hk:k = 8):decide (s = qaD ts) = true:=decide_eq_true ((to_q h).text hn (.inl hk))
theorem qdR (h:ToH T v k x1 x2 x3 x4 x5 x6 sub tn ts tb tl tu n s b l u) (hn:NulH v k x1 x2 x3 x4 x5 x6 sub tn ts tb tl tu = false) (hk:k = 9):decide (s = qaD ts) = true:=decide_eq_true ((to_q h).text hn (.inr hk))
theorem to_u (h:ToH T v k x1 x2 x3 x4 x5 x6 sub tn ts tb tl tu n s b l u) (hn:NulH v k x1 x2 x3 x4 x5 x6 sub tn ts tb tl tu = false) (hk:k = 7):decide (s = qbd ts) = true:=decide_eq_true ((to_q h).uuid hn hk)
theorem to_m (h:ToH T v k x1 x2 x3 x4 x5 x6 sub tn ts tb tl tu n s b l u) (hn:NulH v k x1 x2 x3 x4 x5 x6 sub tn ts tb tl tu = false) (h8:k ≠ 8) (h9:k ≠ 9) (h7:k ≠ 7) (h10:k ≠ 10) (h11:k ≠ 11):(n == qbc k tn) = true:=by
 rw [(to_q h).num hn h7 h8 h9 h10 h11]; simp
theorem qhx {a c:Nat} (h:a = c) (hc:((a:Nat):Int) ≠ ((c:Nat):Int)):False:=hc (by rw [h])
end
theorem qf2 {P:Program} {ops:Array Oper} {Q:Exit → Act → World → Prop} {a:Act} {w:World} {T:World → Prop} {c i j fuel:Nat} {listed:Array Bool} (hr:Region.ready .any ops listed = [i,j]) (h:wpOp P ops Q i (fun a' w'=>(i ≠ c → T w') ∧ qbv P ops Q T c fuel (listed.setIfInBounds i true) a' w') a w)
  (h':wpOp P ops Q j (fun a' w'=>(j ≠ c → T w') ∧ qbv P ops Q T c fuel (listed.setIfInBounds j true) a' w') a w):qbv P ops Q T c (fuel + 1) listed a w:=by
 refine ⟨fun h0=>(by rw [hr] at h0; cases h0),fun q hq=>?_⟩
 rw [hr] at hq
 simp only [List.mem_cons,List.not_mem_nil,or_false] at hq
 rcases hq with rfl | rfl
 ·exact h
 exact h'
theorem qlP {k x1 x2 x3 x4 x5 x6 v:Int} {sub:List Fld} {flex:Bool} {x:Tree} (h:x4 < 0) (h2:Fld.has (.mk k x1 x2 x3 x4 x5 x6 sub) v = true):Fld.pres (.mk k x1 x2 x3 x4 x5 x6 sub) v flex x = true:=by
 simp [Fld.pres,Fld.tag,h,h2]
theorem qlQ {k x1 x2 x3 x4 x5 x6 v:Int} {sub:List Fld} {flex:Bool} {x:Tree} (h:x4 ≥ 0) (h2:flex = true) (h3:(!Fld.usual (.mk k x1 x2 x3 x4 x5 x6 sub) x) = true):Fld.pres (.mk k x1 x2 x3 x4 x5 x6 sub) v flex x = true:=by
 subst h2
 simp only [Bool.not_eq_true'] at h3
 simp [Fld.pres,Fld.tag,h,h3]
theorem qhy {k x1 x2 x3 x4 x5 x6 v:Int} {sub:List Fld} {flex:Bool} {x:Tree} (h:x4 < 0) (h2:Fld.has (.mk k x1 x2 x3 x4 x5 x6 sub) v = false):Fld.pres (.mk k x1 x2 x3 x4 x5 x6 sub) v flex x = false:=by
 have:¬ x4 ≥ 0:=by omega
 simp [Fld.pres,Fld.tag,h2,this]
theorem qhz {k x1 x2 x3 x4 x5 x6 v:Int} {sub:List Fld} {flex:Bool} {x:Tree} (h:¬ x4 < 0) (h2:flex = false):Fld.pres (.mk k x1 x2 x3 x4 x5 x6 sub) v flex x = false:=by
 subst h2
 simp [Fld.pres,Fld.tag,h]
theorem qhA {k x1 x2 x3 x4 x5 x6 v:Int} {sub:List Fld} {flex:Bool} {x:Tree} (h:¬ x4 < 0) (h3:(!Fld.usual (.mk k x1 x2 x3 x4 x5 x6 sub) x) = false):Fld.pres (.mk k x1 x2 x3 x4 x5 x6 sub) v flex x = false:=by
 simp only [Bool.not_eq_false'] at h3
 simp [Fld.pres,Fld.tag,h,h3]
theorem qkw {k x1 x2 x3 x4 x5 x6 v:Int} {sub:List Fld} {flex:Bool} {x:Tree} (h:¬ x4 < 0) (h2:flex = true):Fld.pres (.mk k x1 x2 x3 x4 x5 x6 sub) v flex x = !Fld.usual (.mk k x1 x2 x3 x4 x5 x6 sub) x:=by
 subst h2
 have:x4 ≥ 0:=by omega
 simp [Fld.pres,Fld.tag,h,this]
theorem qkx {k x1 x2 x3 x4 x5 x6 v:Int} {sub:List Fld} {flex:Bool} {x:Tree} (h:x4 < 0):Fld.pres (.mk k x1 x2 x3 x4 x5 x6 sub) v flex x = Fld.has (.mk k x1 x2 x3 x4 x5 x6 sub) v:=by
 have:¬ x4 ≥ 0:=by omega
 simp [Fld.pres,Fld.tag,h,this]
section
variable {w:World} {F:Nat → Nat → Prop}
theorem qky {e size b c:Nat} {xs:List Value} {n:Nat} (h:w.ownsRow 0 e size (.slice (some ⟨b,0,none⟩) n c) n xs):AtF w (fun _ _=>True) b 0 xs:=fun j v hj=>⟨trivial,by
 have:=h.cells (g:=b) rfl j v hj
 rw [qbs] at this
 exact this⟩
theorem qhB {e b c:Nat} {cf:List Value} {f:Fld} (h:w.ownsRow 0 e 8 (.slice (some ⟨b,0,none⟩) 1 c) 1 cf) (hf:FldR w F cf f) (hc:1 ≤ c):FldsR w (fun _ _=>True) (some ⟨b,0,none⟩) c [f]:=by
 refine ⟨fun _=>cf,⟨hc,(by show 1 ≤ 1099511627776; decide),fun h=>(by cases h),fun ad hA _=>?_⟩,fun i x hx=>?_⟩
 ·obtain rfl:=Option.some.inj hA
  refine ⟨b,0,rfl,fun i hi=>⟨hf.eight,?_⟩⟩
  have:i = 0:=by simp at hi; omega
  subst this
  simpa using qky h
 cases i with
 | zero =>
  simp only [List.getElem?_cons_zero,Option.some.injEq] at hx
  subst hx
  exact hf.move (Step.refl _ Nil) nilM fun _ _ _ _=>trivial
 | succ i=>simp at hx
theorem qhC {e b c:Nat} {cy:List Value} {y:Tree} (h:w.ownsRow 0 e 5 (.slice (some ⟨b,0,none⟩) 1 c) 1 cy) (hy:TreeR w F cy y) (hc:1 ≤ c):TreeR w (fun _ _=>True) [.int .i64 0,.slice none 0 0,.bool false,.slice (some ⟨b,0,none⟩) 1 c,.slice none 0 0] (.mk 0 [] false [y] []):=by
 refine TreeR.mk (l:=[y]) (s:=[]) (u:=[]) (fun _=>cy) (Octs.nil _ _) ⟨hc,(by show 1 ≤ 1099511627776; decide),fun h=>(by cases h),fun ad hA _=>?_⟩ (fun i x hx=>?_) (TagsR.nil _ _)
 ·obtain rfl:=Option.some.inj hA
  refine ⟨b,0,rfl,fun i hi=>⟨hy.five,?_⟩⟩
  have:i = 0:=by simp at hi; omega
  subst this
  simpa using qky h
 cases i with
 | zero =>
  simp only [List.getElem?_cons_zero,Option.some.injEq] at hx
  subst hx
  exact hy.move (Step.refl _ Nil) nilM fun _ _ _ _=>trivial
 | succ i=>simp at hx
end
section
variable {gu tu:List (Int × Bs)} {l:List Fld} {flex:Bool} {i:Nat} {k k':Int} {s s':Bs}
theorem qea (h:gu = if flex = true then qb7 (qah l tu) else []) (hf:(!flex) = false) (hc:((gu.length:Nat):Int) ≠ (((qah l tu).length:Nat):Int)):False:=by
 cases flex
 ·cases hf
 rw [if_pos rfl] at h
 rw [h,qcL] at hc
 exact hc rfl
theorem qdf (h:gu = if flex = true then qb7 (qah l tu) else []) (hf:(!flex) = true) (hc:((gu.length:Nat):Int) ≠ 0):False:=by
 cases flex
 ·rw [if_neg (by decide)] at h
  rw [h] at hc
  exact hc rfl
 cases hf
theorem qjy (h:gu = if flex = true then qb7 (qah l tu) else []) (hf:(!flex) = false) (hu:(qah l tu)[i]? = some (k,s)) (hg:gu[i]? = some (k',s')):k' = k ∧ s' = qaD s:=by
 cases flex
 ·cases hf
 rw [if_pos rfl] at h
 rw [h,qhX hu] at hg
 have:=Option.some.inj hg
 exact ⟨(Prod.mk.injEq .. ▸ this).1.symm,(Prod.mk.injEq .. ▸ this).2.symm⟩
theorem qeb (h:gu = if flex = true then qb7 (qah l tu) else []) (hf:(!flex) = false) (hu:(qah l tu)[i]? = some (k,s)) (hg:gu[i]? = some (k',s')) (hc:k' ≠ k):False:=hc (qjy h hf hu hg).1
theorem qec (h:gu = if flex = true then qb7 (qah l tu) else []) (hf:(!flex) = false) (hu:(qah l tu)[i]? = some (k,s)) (hg:gu[i]? = some (k',s')) (hc:(!decide (s' = qaD s)) = true):False:=by
 rw [(qjy h hf hu hg).2] at hc; simp at hc
theorem qb6 (h:gu = if flex = true then qb7 (qah l tu) else []) (hf:(!flex) = false):gu.length = (qah l tu).length:=by
 cases flex
 ·cases hf
 rw [if_pos rfl] at h
 rw [h,qcL]
end
def qa1 (D:DV):Tree:=.mk 0 [] false [.mk 0 (D.f 0).o false [] [],qib (D.f 1).A (D.f 1).s] D.u
def qbi (D:DV):Tree:=.mk 0 [] false [.mk 0 [] (D.f 0).A.isNone ((List.range (D.f 0).l).map fun i=>qa1 ((D.f 0).f i)) [],qfV (D.f 1).b,qfV (D.f 2).b,qfV (D.f 3).b] D.u
set_option maxHeartbeats 4000000 in
theorem qbH (v:Int) (D:DV) (b o:Nat) (w:World) (F:Nat → Nat → Prop) (hat:AtF w F b o [qad ((D.f 0).o.getD 0 0),qad ((D.f 0).o.getD 1 0),qad ((D.f 0).o.getD 2 0),qad ((D.f 0).o.getD 3 0),qad ((D.f 0).o.getD 4 0),qad ((D.f 0).o.getD 5 0),qad ((D.f 0).o.getD 6 0),qad ((D.f 0).o.getD 7 0),qad ((D.f 0).o.getD 8 0),qad ((D.f 0).o.getD 9 0),qad ((D.f 0).o.getD 10 0),qad ((D.f 0).o.getD 11 0),qad ((D.f 0).o.getD 12 0),qad ((D.f 0).o.getD 13 0),qad ((D.f 0).o.getD 14 0),qad ((D.f 0).o.getD 15 0),.pointer ((D.f 1).A),.map D.m]) (hok:qa0 w F D):Calls Tryz.prog 122 #[.pointer (some ⟨b,o,none⟩)] w (qcZ w F (qa1 D)):=by
 refine enter (n:=32) Tryz.func122 rfl Tryz.ntmps122 kz fun a hE=>?_
 have hW:WOk w Nil w [⟨b,o,[qad ((D.f 0).o.getD 0 0),qad ((D.f 0).o.getD 1 0),qad ((D.f 0).o.getD 2 0),qad ((D.f 0).o.getD 3 0),qad ((D.f 0).o.getD 4 0),qad ((D.f 0).o.getD 5 0),qad ((D.f 0).o.getD 6 0),qad ((D.f 0).o.getD 7 0),qad ((D.f 0).o.getD 8 0),qad ((D.f 0).o.getD 9 0),qad ((D.f 0).o.getD 10 0),qad ((D.f 0).o.getD 11 0),qad ((D.f 0).o.getD 12 0),qad ((D.f 0).o.getD 13 0),qad ((D.f 0).o.getD 14 0),qad ((D.f 0).o.getD 15 0),.pointer ((D.f 1).A),.map D.m],false⟩] []:=(WOk.start w Nil).start1 hat rfl rfl
 unfold qa0 at hok
 obtain ⟨g1,⟨g2,g2l⟩,g3,g3l,g3x,_⟩:=hok
 have hE0:=(EnvOk.ptr0 (cs:=[qad ((D.f 0).o.getD 0 0),qad ((D.f 0).o.getD 1 0),qad ((D.f 0).o.getD 2 0),qad ((D.f 0).o.getD 3 0),qad ((D.f 0).o.getD 4 0),qad ((D.f 0).o.getD 5 0),qad ((D.f 0).o.getD 6 0),qad ((D.f 0).o.getD 7 0),qad ((D.f 0).o.getD 8 0),qad ((D.f 0).o.getD 9 0),qad ((D.f 0).o.getD 10 0),qad ((D.f 0).o.getD 11 0),qad ((D.f 0).o.getD 12 0),qad ((D.f 0).o.getD 13 0),qad ((D.f 0).o.getD 14 0),qad ((D.f 0).o.getD 15 0),.pointer ((D.f 1).A),.map D.m]) (r:=false) hE).pk (env':=[(0,.p 0 0)])
 have hu4:=qlL (k:=0) (s:=(D.f 0).o) hat g1 (fun j hj=>by match j,hj with | 0,_=>rfl | 1,_=>rfl | 2,_=>rfl | 3,_=>rfl | 4,_=>rfl | 5,_=>rfl | 6,_=>rfl | 7,_=>rfl | 8,_=>rfl | 9,_=>rfl | 10,_=>rfl | 11,_=>rfl | 12,_=>rfl | 13,_=>rfl | 14,_=>rfl | 15,_=>rfl | n_ + 16,h_=>exact absurd h_ (by omega))
 refine qae [0] kz ?_
 refine qak (qaK hW hE0 (d:=2) (cs:=[.int .i64 0,.slice none 0 0,.bool false,.slice none 0 0,.slice none 0 0]) kz fun b5 a6 w7 hb8 hz9 bX bo bp=>?_)
 refine qaf (qab ?_)
 refine qae [0,1,2,3] kz ?_
 refine qak (qfw (t:=34) (e:=37) (size:=5) (bytes:=88) (d:=4) (j:=2) (.agg #[.int .i64 0,.slice none 0 0,.bool false,.slice none 0 0,.slice none 0 0]) [.int .i64 0,.slice none 0 0,.bool false,.slice none 0 0,.slice none 0 0,.int .i64 0,.slice none 0 0,.bool false,.slice none 0 0,.slice none 0 0] bo bp fun aa cP cQ bY bZ b8 aO bq=>?_)
 refine qai [1] [2,3] [(0,.p 0 0),(2,.p 1 0),(5,.v (.agg #[.int .i64 0,.slice none 0 0,.bool false,.slice (some ⟨aa,0,none⟩) 2 2,.slice none 0 0]))] aO bq fun cR bt=>?_
 refine qak (qaK aO bt (d:=3) (cs:=[.int .i64 0,.slice none 0 0,.bool false,.slice none 0 0,.slice none 0 0]) kz fun ak cS cT cd ce cm bu bw=>?_)
 refine qak (qav bu bw (oi:=3) (cs:=[.int .i64 0,.slice none 0 0,.bool false,.slice (some ⟨aa,0,none⟩) 2 2,.slice none 0 0]) kz fun cU cq bx bz=>?_)
 refine qaf (qab ?_)
 refine qaI 9 kz bx fun cV cr aP bA=>?_
 refine qaG [0,1,2,3,4,5] [(0,.p 0 0),(2,.p 1 0),(3,.p 3 0),(7,.v (.slice (some ⟨aa,0,none⟩) 2 2)),(11,.v (.slice (some ⟨b,o,none⟩) 16 16))] 4 (qaa qag) (fun _ h=>h.cells) bA bz fun cW bB=>?_
 have al:=aP.addNil 5 1
 have bC:=aP.frNil 5 1
 refine qaA (i:=6) kz (qaR al bB (k:=0) (d:=12) (t:=22) (e:=5) (size:=1) (bytes:=1) (A:=none) (As:=(some ⟨b,o,none⟩)) (m0:=0) (c:=0) (m:=16) (cs:=16) (xs:=[]) (news:=bc ((D.f 0).o)) kz kz rfl (hu4.move al.step nilM al.imm).src (hu4.move al.step nilM al.imm).cap (by omega) fun af ag cX cY bD bE bF=>?_)
 have bG:(⟨af,ag,5,1,0 + 16,[] ++ bc ((D.f 0).o)⟩:Rw) = brow af ag 5 ((D.f 0).o):=by rw [List.nil_append]; unfold brow; rw [g1]
 obtain ⟨aQ,bH⟩:=bE.rowEq 0 [brow af ag 5 ((D.f 0).o)] bG
 have bI:=EnvOk.pick bF (ks:=[0,2,3,7,11,12]) (env':=[(0,.p 0 0),(2,.p 1 0),(3,.p 3 0),(7,.v (.slice (some ⟨aa,0,none⟩) 2 2)),(11,.v (.slice (some ⟨b,o,none⟩) 16 16)),(12,.v (.slice af (0 + 16) ag))]) kz
 have bJ:=bI.cast (env':=[(0,.p 0 0),(2,.p 1 0),(3,.p 3 0),(7,.v (.slice (some ⟨aa,0,none⟩) 2 2)),(11,.v (.slice (some ⟨b,o,none⟩) 16 16)),(12,.v (.slice af (((D.f 0).o).length) ag))]) (by rw [g1])
 have aK:=TT.ofW ((bC.trans bD).trans bH) aQ
 refine ⟨fun _=>aK,?_⟩
 refine qaG [7] [(0,.p 0 0),(2,.p 1 0),(3,.p 3 0),(7,.v (.slice (some ⟨aa,0,none⟩) 2 2)),(13,.v (.agg #[.int .i64 0,.slice af (((D.f 0).o).length) ag,.bool false,.slice none 0 0,.slice none 0 0]))] 2 (qaa qag) (fun _ h=>h.cells) aK bJ fun cZ bK=>?_
 refine qaN bK (i:=8) (t:=34) (A:=(some ⟨aa,0,none⟩)) (m:=2) (q:=0) (d:=14) kz (e:=37) (size:=5) (bytes:=88) (j:=0) kz (b:=aa) (o:=0) rfl rfl (by decide) kz kz (qaa qag) aK fun c5 bL=>?_
 have bM:=bL.recast 14 (.v (.pointer (some ⟨aa,0 + 0 * 5,none⟩))) (.p 2 0) rfl rfl (Nat.le_of_ble_eq_true (n:=3) rfl)
 have bN:=bM.pk (env':=[(0,.p 0 0),(2,.p 1 0),(3,.p 3 0),(7,.v (.slice (some ⟨aa,0,none⟩) 2 2)),(13,.v (.agg #[.int .i64 0,.slice af (((D.f 0).o).length) ag,.bool false,.slice none 0 0,.slice none 0 0])),(14,.p 2 0)])
 refine qaA (i:=9) kz (qav aQ bN (oi:=2) (cs:=[.int .i64 0,.slice af (((D.f 0).o).length) ag,.bool false,.slice none 0 0,.slice none 0 0,.int .i64 0,.slice none 0 0,.bool false,.slice none 0 0,.slice none 0 0]) kz fun c6 cu bO bP=>?_)
 refine ⟨fun h=>absurd rfl h,?_⟩
 refine qaE kz ?_ _
 refine qab ?_
 refine qaI 8 kz bO fun cw cz am bQ=>?_
 refine qaG [0,1,2,3,4,5] [(0,.p 0 0),(2,.p 1 0),(3,.p 3 0),(16,.v (.slice (some ⟨aa,0,none⟩) 2 2)),(20,.v (.pointer ((D.f 1).A)))] 3 (qaa qag) (fun _ h=>h.cells) bQ bP fun da bR=>?_
 refine qaA (i:=6) kz (qaj bR (f:=101) (vs:=[.pointer ((D.f 1).A)]) (d:=21) kz Tryz.call101 (ql8 _ (D.f 1).s _ (Imm F w cw [⟨b,o,[qad ((D.f 0).o.getD 0 0),qad ((D.f 0).o.getD 1 0),qad ((D.f 0).o.getD 2 0),qad ((D.f 0).o.getD 3 0),qad ((D.f 0).o.getD 4 0),qad ((D.f 0).o.getD 5 0),qad ((D.f 0).o.getD 6 0),qad ((D.f 0).o.getD 7 0),qad ((D.f 0).o.getD 8 0),qad ((D.f 0).o.getD 9 0),qad ((D.f 0).o.getD 10 0),qad ((D.f 0).o.getD 11 0),qad ((D.f 0).o.getD 12 0),qad ((D.f 0).o.getD 13 0),qad ((D.f 0).o.getD 14 0),qad ((D.f 0).o.getD 15 0),.pointer ((D.f 1).A),.map D.m],false⟩,⟨b5,0,[.int .i64 0,.slice none 0 0,.bool false,.slice none 0 0,.slice none 0 0],true⟩,⟨aa,0,[.int .i64 0,.slice af (((D.f 0).o).length) ag,.bool false,.slice none 0 0,.slice none 0 0,.int .i64 0,.slice none 0 0,.bool false,.slice none 0 0,.slice none 0 0],true⟩,⟨ak,0,[.int .i64 0,.slice none 0 0,.bool false,.slice (some ⟨aa,0,none⟩) 2 2,.slice none 0 0],true⟩] [brow af ag 5 ((D.f 0).o)]) (fun ad h_=>by obtain ⟨b',o',g1,g2⟩:=g2 ad h_; exact ⟨b',o',g1,g2.move am.step nilM am.imm⟩) g2l) ?_)
 rintro e_ db ⟨cA,rfl,bS,aL⟩
 have aM:=bS.move (Step.refl _ Nil) nilM (am.laid (G:=F) aL)
 obtain ⟨ap,ar,au,av,aw,ax,ay,az,aA,aB,aC,cB,cC,aD,cD,cE,dc,de⟩:=aM.open_
 rw [aD] at aM
 have bV:=cD.small
 have bW:=cE.small
 rw [aD]
 refine ⟨_,rfl,fun df bT=>?_⟩
 have aR:=am.next_nil aL
 have aS:=am.frN aL
 have aE:=TT.ofW aS aR
 refine ⟨fun _=>aE,?_⟩
 refine qaN bT (i:=7) (t:=34) (A:=(some ⟨aa,0,none⟩)) (m:=2) (q:=1) (d:=22) kz (e:=37) (size:=5) (bytes:=88) (j:=1) kz (b:=aa) (o:=0) rfl rfl (by decide) kz kz (qaa qag) aE fun cG aT=>?_
 have aU:=aT.recast 22 (.v (.pointer (some ⟨aa,0 + 1 * 5,none⟩))) (.p 2 5) rfl rfl (Nat.le_of_ble_eq_true (n:=3) rfl)
 have aV:=aU.pk (env':=[(0,.p 0 0),(2,.p 1 0),(3,.p 3 0),(16,.v (.slice (some ⟨aa,0,none⟩) 2 2)),(20,.v (.pointer ((D.f 1).A))),(21,.v (.agg #[.int .i64 ap,.slice ax ar.length ay,.bool au,.slice az av.length aA,.slice aB aw.length aC])),(22,.p 2 5)])
 refine qaA (i:=8) kz (qav aR aV (oi:=2) (cs:=[.int .i64 0,.slice af (((D.f 0).o).length) ag,.bool false,.slice none 0 0,.slice none 0 0,.int .i64 ap,.slice ax ar.length ay,.bool au,.slice az av.length aA,.slice aB aw.length aC]) kz fun bU aF ae aW=>?_)
 refine ⟨fun h=>absurd rfl h,?_⟩
 refine qaE kz ?_ _
 refine qab ?_
 refine qae [0,1,2,3,4] kz ?_
 refine qai [0,1,2] [3,4] [(2,.p 1 0),(3,.p 3 0),(25,.p 0 17)] ae aW fun cH aX=>?_
 refine qak (qfH aX (v:=.func (.func 178) #[] #[.pointer (some ⟨ak,0,none⟩)]) (d:=26) kz fun cI aY=>?_)
 refine qak (qaj aY (f:=103) (vs:=[.pointer (some ⟨b,o + 17,none⟩),.func (.func 178) #[] #[.pointer (some ⟨ak,0,none⟩)]]) (d:=27) kz Tryz.call103 (qgD (F:=(Imm F w bU [⟨b,o,[qad ((D.f 0).o.getD 0 0),qad ((D.f 0).o.getD 1 0),qad ((D.f 0).o.getD 2 0),qad ((D.f 0).o.getD 3 0),qad ((D.f 0).o.getD 4 0),qad ((D.f 0).o.getD 5 0),qad ((D.f 0).o.getD 6 0),qad ((D.f 0).o.getD 7 0),qad ((D.f 0).o.getD 8 0),qad ((D.f 0).o.getD 9 0),qad ((D.f 0).o.getD 10 0),qad ((D.f 0).o.getD 11 0),qad ((D.f 0).o.getD 12 0),qad ((D.f 0).o.getD 13 0),qad ((D.f 0).o.getD 14 0),qad ((D.f 0).o.getD 15 0),.pointer ((D.f 1).A),.map D.m],false⟩,⟨b5,0,[.int .i64 0,.slice none 0 0,.bool false,.slice none 0 0,.slice none 0 0],true⟩,⟨aa,0,[.int .i64 0,.slice af (((D.f 0).o).length) ag,.bool false,.slice none 0 0,.slice none 0 0,.int .i64 ap,.slice ax ar.length ay,.bool au,.slice az av.length aA,.slice aB aw.length aC],true⟩,⟨ak,0,[.int .i64 0,.slice none 0 0,.bool false,.slice (some ⟨aa,0,none⟩) 2 2,.slice none 0 0],true⟩] [brow af ag 5 ((D.f 0).o)])) Tryz.call178 qcW ((hat.one 17 rfl).move ae.step nilM ae.imm) (g3.move ae.step nilM ae.imm) (Str.of ae 3 rfl) (qkY 3 rfl) g3l) ?_)
 rintro e_ cJ ⟨rfl,ab,ac,aN,aZ,ba⟩
 obtain ⟨ao,aG,bd⟩:=ae.wrote 3 [⟨b,o,[qad ((D.f 0).o.getD 0 0),qad ((D.f 0).o.getD 1 0),qad ((D.f 0).o.getD 2 0),qad ((D.f 0).o.getD 3 0),qad ((D.f 0).o.getD 4 0),qad ((D.f 0).o.getD 5 0),qad ((D.f 0).o.getD 6 0),qad ((D.f 0).o.getD 7 0),qad ((D.f 0).o.getD 8 0),qad ((D.f 0).o.getD 9 0),qad ((D.f 0).o.getD 10 0),qad ((D.f 0).o.getD 11 0),qad ((D.f 0).o.getD 12 0),qad ((D.f 0).o.getD 13 0),qad ((D.f 0).o.getD 14 0),qad ((D.f 0).o.getD 15 0),.pointer ((D.f 1).A),.map D.m],false⟩,⟨b5,0,[.int .i64 0,.slice none 0 0,.bool false,.slice none 0 0,.slice none 0 0],true⟩,⟨aa,0,[.int .i64 0,.slice af (((D.f 0).o).length) ag,.bool false,.slice none 0 0,.slice none 0 0,.int .i64 ap,.slice ax ar.length ay,.bool au,.slice az av.length aA,.slice aB aw.length aC],true⟩,⟨ak,0,[.int .i64 0,.slice none 0 0,.bool false,.slice (some ⟨aa,0,none⟩) 2 2,.slice ab D.u.length ac],true⟩] rfl ba aN
 have aH:=aZ.move (Step.refl _ Nil) nilM (fun b_ o_ h_ hb_=>bd (G:=F) b_ o_ (.inr h_) hb_)
 refine ⟨_,rfl,fun cK bf=>?_⟩
 have bg:=(EnvOk.places (tb':=[⟨b,o,[qad ((D.f 0).o.getD 0 0),qad ((D.f 0).o.getD 1 0),qad ((D.f 0).o.getD 2 0),qad ((D.f 0).o.getD 3 0),qad ((D.f 0).o.getD 4 0),qad ((D.f 0).o.getD 5 0),qad ((D.f 0).o.getD 6 0),qad ((D.f 0).o.getD 7 0),qad ((D.f 0).o.getD 8 0),qad ((D.f 0).o.getD 9 0),qad ((D.f 0).o.getD 10 0),qad ((D.f 0).o.getD 11 0),qad ((D.f 0).o.getD 12 0),qad ((D.f 0).o.getD 13 0),qad ((D.f 0).o.getD 14 0),qad ((D.f 0).o.getD 15 0),.pointer ((D.f 1).A),.map D.m],false⟩,⟨b5,0,[.int .i64 0,.slice none 0 0,.bool false,.slice none 0 0,.slice none 0 0],true⟩,⟨aa,0,[.int .i64 0,.slice af (((D.f 0).o).length) ag,.bool false,.slice none 0 0,.slice none 0 0,.int .i64 ap,.slice ax ar.length ay,.bool au,.slice az av.length aA,.slice aB aw.length aC],true⟩,⟨ak,0,[.int .i64 0,.slice none 0 0,.bool false,.slice (some ⟨aa,0,none⟩) 2 2,.slice ab D.u.length ac],true⟩]) bf (show Pl [⟨b,o,[qad ((D.f 0).o.getD 0 0),qad ((D.f 0).o.getD 1 0),qad ((D.f 0).o.getD 2 0),qad ((D.f 0).o.getD 3 0),qad ((D.f 0).o.getD 4 0),qad ((D.f 0).o.getD 5 0),qad ((D.f 0).o.getD 6 0),qad ((D.f 0).o.getD 7 0),qad ((D.f 0).o.getD 8 0),qad ((D.f 0).o.getD 9 0),qad ((D.f 0).o.getD 10 0),qad ((D.f 0).o.getD 11 0),qad ((D.f 0).o.getD 12 0),qad ((D.f 0).o.getD 13 0),qad ((D.f 0).o.getD 14 0),qad ((D.f 0).o.getD 15 0),.pointer ((D.f 1).A),.map D.m],false⟩,⟨b5,0,[.int .i64 0,.slice none 0 0,.bool false,.slice none 0 0,.slice none 0 0],true⟩,⟨aa,0,[.int .i64 0,.slice af (((D.f 0).o).length) ag,.bool false,.slice none 0 0,.slice none 0 0,.int .i64 ap,.slice ax ar.length ay,.bool au,.slice az av.length aA,.slice aB aw.length aC],true⟩,⟨ak,0,[.int .i64 0,.slice none 0 0,.bool false,.slice (some ⟨aa,0,none⟩) 2 2,.slice none 0 0],true⟩] [⟨b,o,[qad ((D.f 0).o.getD 0 0),qad ((D.f 0).o.getD 1 0),qad ((D.f 0).o.getD 2 0),qad ((D.f 0).o.getD 3 0),qad ((D.f 0).o.getD 4 0),qad ((D.f 0).o.getD 5 0),qad ((D.f 0).o.getD 6 0),qad ((D.f 0).o.getD 7 0),qad ((D.f 0).o.getD 8 0),qad ((D.f 0).o.getD 9 0),qad ((D.f 0).o.getD 10 0),qad ((D.f 0).o.getD 11 0),qad ((D.f 0).o.getD 12 0),qad ((D.f 0).o.getD 13 0),qad ((D.f 0).o.getD 14 0),qad ((D.f 0).o.getD 15 0),.pointer ((D.f 1).A),.map D.m],false⟩,⟨b5,0,[.int .i64 0,.slice none 0 0,.bool false,.slice none 0 0,.slice none 0 0],true⟩,⟨aa,0,[.int .i64 0,.slice af (((D.f 0).o).length) ag,.bool false,.slice none 0 0,.slice none 0 0,.int .i64 ap,.slice ax ar.length ay,.bool au,.slice az av.length aA,.slice aB aw.length aC],true⟩,⟨ak,0,[.int .i64 0,.slice none 0 0,.bool false,.slice (some ⟨aa,0,none⟩) 2 2,.slice ab D.u.length ac],true⟩] from ⟨rfl,rfl,⟨rfl,rfl,⟨rfl,rfl,⟨rfl,rfl,trivial⟩⟩⟩⟩)).pk (env':=[(27,.v (.tuple #[])),(2,.p 1 0),(3,.p 3 0),(25,.p 0 17),(26,.v (.func (.func 178) #[] #[.pointer (some ⟨ak,0,none⟩)]))])
 refine qaf (qab ?_)
 refine qae [0,1,2] kz ?_
 refine qai [0,1] [2] [(2,.p 1 0),(3,.p 3 0),(29,.v (.slice ab D.u.length ac))] ao bg fun cL bh=>?_
 refine qak (qaj bh (f:=105) (vs:=[.slice ab D.u.length ac]) (d:=30) kz Tryz.call105 (qjs aH g3.sorted) ?_)
 rintro e_ cM ⟨rfl,aI⟩
 refine ⟨_,rfl,fun cN bi=>?_⟩
 have aJ:=ao.next_nil aI
 have ah:=ao.frN aI
 refine qaf (qab ?_)
 refine qae [0,1] kz ?_
 refine qai [0] [1] [(2,.p 1 0),(31,.v (.agg #[.int .i64 0,.slice none 0 0,.bool false,.slice (some ⟨aa,0,none⟩) 2 2,.slice ab D.u.length ac]))] aJ bi fun cO bj=>?_
 refine qak (qav aJ bj (oi:=1) (cs:=[.int .i64 0,.slice none 0 0,.bool false,.slice (some ⟨aa,0,none⟩) 2 2,.slice ab D.u.length ac]) kz fun bk ai aj bn=>?_)
 refine qaf (qab ?_)
 refine wp_ret ?_
 refine qaF bn aj.cells (v:=.agg #[.int .i64 0,.slice none 0 0,.bool false,.slice (some ⟨aa,0,none⟩) 2 2,.slice ab D.u.length ac]) kz ?_
 exact qhw (u:=D.u) (l:=[.mk 0 (D.f 0).o false [] [],qib (D.f 1).A (D.f 1).s]) (css:=[[.int .i64 0,.slice af (((D.f 0).o).length) ag,.bool false,.slice none 0 0,.slice none 0 0],[.int .i64 ap,.slice ax ar.length ay,.bool au,.slice az av.length aA,.slice aB aw.length aC]]) aj 2 rfl ⟨TreeR.mk (n:=0) (b:=false) (l:=[]) (u:=[]) (fun _=>[]) (qbU (aj.own 0 _ rfl) (by rw [g1]; decide) (qhf (F:=F) aj (k:=0) rfl)) (Slots.nil _ _ 5 _) (fun _ _ h_=>by simp at h_) (TagsR.nil _ _),(show TreeR _ (Imm F w bk [⟨b,o,[qad ((D.f 0).o.getD 0 0),qad ((D.f 0).o.getD 1 0),qad ((D.f 0).o.getD 2 0),qad ((D.f 0).o.getD 3 0),qad ((D.f 0).o.getD 4 0),qad ((D.f 0).o.getD 5 0),qad ((D.f 0).o.getD 6 0),qad ((D.f 0).o.getD 7 0),qad ((D.f 0).o.getD 8 0),qad ((D.f 0).o.getD 9 0),qad ((D.f 0).o.getD 10 0),qad ((D.f 0).o.getD 11 0),qad ((D.f 0).o.getD 12 0),qad ((D.f 0).o.getD 13 0),qad ((D.f 0).o.getD 14 0),qad ((D.f 0).o.getD 15 0),.pointer ((D.f 1).A),.map D.m],false⟩,⟨b5,0,[.int .i64 0,.slice none 0 0,.bool false,.slice (some ⟨aa,0,none⟩) 2 2,.slice ab D.u.length ac],true⟩,⟨aa,0,[.int .i64 0,.slice af (((D.f 0).o).length) ag,.bool false,.slice none 0 0,.slice none 0 0,.int .i64 ap,.slice ax ar.length ay,.bool au,.slice az av.length aA,.slice aB aw.length aC],true⟩,⟨ak,0,[.int .i64 0,.slice none 0 0,.bool false,.slice (some ⟨aa,0,none⟩) 2 2,.slice ab D.u.length ac],true⟩] [brow af ag 5 ((D.f 0).o)]) _ _ from (aM.move (((aF.trans aG).trans ah).trans ai).step immM (((aF.trans aG).trans ah).trans ai).to')).move (Step.refl _ Nil) nilM qbI,trivial⟩ ((show TagsR _ (Imm F w bk [⟨b,o,[qad ((D.f 0).o.getD 0 0),qad ((D.f 0).o.getD 1 0),qad ((D.f 0).o.getD 2 0),qad ((D.f 0).o.getD 3 0),qad ((D.f 0).o.getD 4 0),qad ((D.f 0).o.getD 5 0),qad ((D.f 0).o.getD 6 0),qad ((D.f 0).o.getD 7 0),qad ((D.f 0).o.getD 8 0),qad ((D.f 0).o.getD 9 0),qad ((D.f 0).o.getD 10 0),qad ((D.f 0).o.getD 11 0),qad ((D.f 0).o.getD 12 0),qad ((D.f 0).o.getD 13 0),qad ((D.f 0).o.getD 14 0),qad ((D.f 0).o.getD 15 0),.pointer ((D.f 1).A),.map D.m],false⟩,⟨b5,0,[.int .i64 0,.slice none 0 0,.bool false,.slice (some ⟨aa,0,none⟩) 2 2,.slice ab D.u.length ac],true⟩,⟨aa,0,[.int .i64 0,.slice af (((D.f 0).o).length) ag,.bool false,.slice none 0 0,.slice none 0 0,.int .i64 ap,.slice ax ar.length ay,.bool au,.slice az av.length aA,.slice aB aw.length aC],true⟩,⟨ak,0,[.int .i64 0,.slice none 0 0,.bool false,.slice (some ⟨aa,0,none⟩) 2 2,.slice ab D.u.length ac],true⟩] [brow af ag 5 ((D.f 0).o)]) _ _ _ from (aH.move (ah.trans ai).step immM (ah.trans ai).to')).move (Step.refl _ Nil) nilM qbI)
set_option maxHeartbeats 4000000 in
theorem qet (v:Int) (D:DV) (b o:Nat) (w:World) (F:Nat → Nat → Prop) (hat:AtF w F b o [.int .i16 v,.slice ((D.f 0).A) ((D.f 0).l) ((D.f 0).c),.bool ((D.f 1).b),.bool ((D.f 2).b),.bool ((D.f 3).b),.map D.m]) (hok:qbp w F D):Calls Tryz.prog 76 #[.pointer (some ⟨b,o,none⟩)] w (qcZ w F (qbi D)):=by
 refine enter (n:=96) Tryz.func76 rfl Tryz.ntmps76 kz fun a hE=>?_
 have hW:WOk w Nil w [⟨b,o,[.int .i16 v,.slice ((D.f 0).A) ((D.f 0).l) ((D.f 0).c),.bool ((D.f 1).b),.bool ((D.f 2).b),.bool ((D.f 3).b),.map D.m],false⟩] []:=(WOk.start w Nil).start1 hat rfl rfl
 unfold qbp at hok
 obtain ⟨⟨g1,g1l,g1e⟩,g2,g3,g4,g5,g5l,g5x,_⟩:=hok
 have hE0:=(EnvOk.ptr0 (cs:=[.int .i16 v,.slice ((D.f 0).A) ((D.f 0).l) ((D.f 0).c),.bool ((D.f 1).b),.bool ((D.f 2).b),.bool ((D.f 3).b),.map D.m]) (r:=false) hE).pk (env':=[(0,.p 0 0)])
 refine qae [0] kz ?_
 refine qak (qaK hW hE0 (d:=2) (cs:=[.int .i64 0,.slice none 0 0,.bool false,.slice none 0 0,.slice none 0 0]) kz fun b6 a7 w8 hb9 jG jH hJ hK=>?_)
 refine qaf (qab ?_)
 refine qae [0,1,2,3] kz ?_
 refine qak (qfw (t:=34) (e:=37) (size:=5) (bytes:=88) (d:=5) (j:=4) (.agg #[.int .i64 0,.slice none 0 0,.bool false,.slice none 0 0,.slice none 0 0]) [.int .i64 0,.slice none 0 0,.bool false,.slice none 0 0,.slice none 0 0,.int .i64 0,.slice none 0 0,.bool false,.slice none 0 0,.slice none 0 0,.int .i64 0,.slice none 0 0,.bool false,.slice none 0 0,.slice none 0 0,.int .i64 0,.slice none 0 0,.bool false,.slice none 0 0,.slice none 0 0] hJ hK fun aa lx ly jI jJ jK eE hZ=>?_)
 refine qai [1] [2,3] [(0,.p 0 0),(2,.p 1 0),(6,.v (.agg #[.int .i64 0,.slice none 0 0,.bool false,.slice (some ⟨aa,0,none⟩) 4 4,.slice none 0 0]))] eE hZ fun lz ia=>?_
 refine qak (qaK eE ia (d:=3) (cs:=[.int .i64 0,.slice none 0 0,.bool false,.slice none 0 0,.slice none 0 0]) kz fun bt lA lB jL jM jN ib ic=>?_)
 refine qak (qav ib ic (oi:=3) (cs:=[.int .i64 0,.slice none 0 0,.bool false,.slice (some ⟨aa,0,none⟩) 4 4,.slice none 0 0]) kz fun lC jO ig ii=>?_)
 refine qaf (qab ?_)
 refine qaI 9 kz ig fun lD jP ij em=>?_
 refine qaG [0,1,2,3,4,5,6] [(0,.p 0 0),(2,.p 1 0),(3,.p 3 0),(8,.v (.slice (some ⟨aa,0,none⟩) 4 4)),(13,.v (.bool (((D.f 0).A).isNone)))] 3 (qaa qag) (fun _ h=>h.cells) em ii fun lE ik=>?_
 refine qaA (i:=7) kz (qaC ik (t:=34) (A:=(some ⟨aa,0,none⟩)) (m:=4) (q:=0) (d:=14) kz (e:=37) (size:=5) (bytes:=88) (j:=0) kz (b:=aa) (o:=0) rfl rfl (by decide) fun lF il=>?_)
 have im:=il.recast 14 (.v (.pointer (some ⟨aa,0 + 0 * 5,none⟩))) (.p 2 0) rfl rfl (Nat.le_of_ble_eq_true (n:=3) rfl)
 have io:=im.pk (env':=[(0,.p 0 0),(2,.p 1 0),(3,.p 3 0),(8,.v (.slice (some ⟨aa,0,none⟩) 4 4)),(13,.v (.bool (((D.f 0).A).isNone))),(14,.p 2 0)])
 refine ⟨fun _=>em,?_⟩
 refine qaG [8] [(0,.p 0 0),(2,.p 1 0),(3,.p 3 0),(13,.v (.bool (((D.f 0).A).isNone))),(15,.p 2 2)] 1 (qaa qag) (fun _ h=>h.cells) em io fun lG ip=>?_
 refine qaA (i:=9) kz (qav ij ip (oi:=2) (cs:=[.int .i64 0,.slice none 0 0,.bool (((D.f 0).A).isNone),.slice none 0 0,.slice none 0 0,.int .i64 0,.slice none 0 0,.bool false,.slice none 0 0,.slice none 0 0,.int .i64 0,.slice none 0 0,.bool false,.slice none 0 0,.slice none 0 0,.int .i64 0,.slice none 0 0,.bool false,.slice none 0 0,.slice none 0 0]) kz fun lH jQ eo iq=>?_)
 refine ⟨fun h=>absurd rfl h,?_⟩
 refine qaE kz ?_ _
 refine qab ?_
 refine wp_seq ?_
 refine qan [(0,.p 0 0),(2,.p 1 0),(3,.p 3 0),(20,.v (.int .i64 (((D.f 0).l:Nat):Int))),(21,.v (.int .i64 0))] eo iq fun lI ir=>?_
 refine wp_block ?_
 have eF:=eo.addNil 37 5
 have jR:=eo.frNil 37 5
 refine wp_loop_ghost (fun n_ a_ w_=>∃ (k0_:Nat) (A0_:Option Addr) (c0_:Nat) (xs0_:List Value) (css0_:List (List Value)),n_ = (D.f 0).l - k0_ ∧ k0_ ≤ (D.f 0).l ∧ (Trees w_ (Imm F w w_ [⟨b,o,[.int .i16 v,.slice ((D.f 0).A) ((D.f 0).l) ((D.f 0).c),.bool ((D.f 1).b),.bool ((D.f 2).b),.bool ((D.f 3).b),.map D.m],false⟩,⟨b6,0,[.int .i64 0,.slice none 0 0,.bool false,.slice none 0 0,.slice none 0 0],true⟩,⟨aa,0,[.int .i64 0,.slice none 0 0,.bool (((D.f 0).A).isNone),.slice A0_ k0_ c0_,.slice none 0 0,.int .i64 0,.slice none 0 0,.bool false,.slice none 0 0,.slice none 0 0,.int .i64 0,.slice none 0 0,.bool false,.slice none 0 0,.slice none 0 0,.int .i64 0,.slice none 0 0,.bool false,.slice none 0 0,.slice none 0 0],true⟩,⟨bt,0,[.int .i64 0,.slice none 0 0,.bool false,.slice (some ⟨aa,0,none⟩) 4 4,.slice none 0 0],true⟩] [⟨A0_,c0_,37,5,k0_,xs0_⟩]) xs0_ (((List.range (D.f 0).l).map (fun i=>qa1 ((D.f 0).f i))).take k0_) css0_) ∧ LInv eF 96 [⟨b,o,[.int .i16 v,.slice ((D.f 0).A) ((D.f 0).l) ((D.f 0).c),.bool ((D.f 1).b),.bool ((D.f 2).b),.bool ((D.f 3).b),.map D.m],false⟩,⟨b6,0,[.int .i64 0,.slice none 0 0,.bool false,.slice none 0 0,.slice none 0 0],true⟩,⟨aa,0,[.int .i64 0,.slice none 0 0,.bool (((D.f 0).A).isNone),.slice A0_ k0_ c0_,.slice none 0 0,.int .i64 0,.slice none 0 0,.bool false,.slice none 0 0,.slice none 0 0,.int .i64 0,.slice none 0 0,.bool false,.slice none 0 0,.slice none 0 0,.int .i64 0,.slice none 0 0,.bool false,.slice none 0 0,.slice none 0 0],true⟩,⟨bt,0,[.int .i64 0,.slice none 0 0,.bool false,.slice (some ⟨aa,0,none⟩) 4 4,.slice none 0 0],true⟩] [⟨A0_,c0_,37,5,k0_,xs0_⟩] [(0,.p 0 0),(2,.p 1 0),(3,.p 3 0),(20,.v (.int .i64 (((D.f 0).l:Nat):Int))),(21,.v (.int .i64 ((k0_:Nat):Int)))] a_ w_) ((D.f 0).l) ⟨0,none,0,[],[],by omega,by omega,Trees.nil _ _,ir.pk,eF,Fr.refl _ _ _⟩ ?_
 rintro lJ lK lL ⟨k0_,A0_,c0_,xs0_,css0_,jS,jT,hT0_,iu,dH,ep⟩
 refine qan [(0,.p 0 0),(2,.p 1 0),(3,.p 3 0),(20,.v (.int .i64 (((D.f 0).l:Nat):Int))),(21,.v (.int .i64 ((k0_:Nat):Int))),(22,.v (.bool (decide (((k0_:Nat):Int) < (((D.f 0).l:Nat):Int)))))] dH iu fun lM eu=>?_
 refine wp_seq ?_
 refine qas eu (b:=decide (((k0_:Nat):Int) < (((D.f 0).l:Nat):Int))) kz (fun ev=>?_) (fun ev=>?_)
 ·
  have jU:=of_decide_eq_true ev
  refine wp_skip ?_
  refine qab ?_
  refine wp_seq ?_
  refine wp_block ?_
  refine qan [(0,.p 0 0),(2,.p 1 0),(3,.p 3 0),(4,.v (.int .i64 ((k0_:Nat):Int))),(20,.v (.int .i64 (((D.f 0).l:Nat):Int))),(21,.v (.int .i64 ((k0_:Nat):Int)))] dH eu fun lN iv=>?_
  refine qaI 4 kz dH fun lO bA iw jV=>?_
  refine qaA (i:=0) kz (qaK iw iv (d:=24) (cs:=[.bool false]) kz fun lP lQ lR jW jX ab ew eG=>?_)
  have ix:=TT.ofW ab ew
  refine ⟨fun _=>ix,?_⟩
  refine qf2 (i:=1) (j:=2) kz ?_ ?_
  ·
   refine (qav ew eG (oi:=4) (cs:=[.bool true]) kz fun lS cM eH iy=>?_)
   have iz:=TT.ofW (ab.trans cM) eH
   refine ⟨fun _=>iz,?_⟩
   refine qaA (i:=2) kz (qav eH iy (oi:=4) (cs:=[.bool false]) kz fun lT c5 dI iA=>?_)
   have iB:=TT.ofW ((ab.trans cM).trans c5) dI
   refine ⟨fun _=>iB,?_⟩
   refine qaA (i:=3) kz (qa9 [0,2,3,4,20,21,25] dI.cells iA (env':=[(0,.p 0 0),(2,.p 1 0),(3,.p 3 0),(4,.v (.int .i64 ((k0_:Nat):Int))),(20,.v (.int .i64 (((D.f 0).l:Nat):Int))),(21,.v (.int .i64 ((k0_:Nat):Int))),(25,.v (.bool false))]) kz fun lU eI=>?_)
   have iC:=TT.ofW ((ab.trans cM).trans c5) dI
   refine ⟨fun _=>iC,?_⟩
   refine qaE kz ?_ _
   refine qab ?_
   refine qao eI (b:=false) kz rfl ?_
   refine qcQ 18 kz dI fun lV ey cC cD=>?_
   refine qaG [0,1,2,3,7,8,9,10,11] [(0,.p 0 0),(2,.p 1 0),(3,.p 3 0),(20,.v (.int .i64 (((D.f 0).l:Nat):Int))),(21,.v (.int .i64 ((k0_:Nat):Int))),(45,.v (.slice (some ⟨aa,0,none⟩) 4 4)),(47,.v (.slice (some ⟨aa,0,none⟩) 4 4)),(54,.v (.slice ((D.f 0).A) ((D.f 0).l) ((D.f 0).c))),(55,.v (.int .i64 ((k0_:Nat):Int)))] 10 (qac (qaa (qaa (qac (qaa qag))))) (fun _ h=>h.cells) cD eI fun jY eJ=>?_
   refine qaN eJ (i:=4) (t:=34) (A:=(some ⟨aa,0,none⟩)) (m:=4) (q:=0) (d:=48) kz (e:=37) (size:=5) (bytes:=88) (j:=0) kz (b:=aa) (o:=0) rfl rfl (by decide) kz kz (qac (qaa (qaa (qac (qaa qag))))) cD fun jZ eK=>?_
   have eL:=eK.recast 48 (.v (.pointer (some ⟨aa,0 + 0 * 5,none⟩))) (.p 2 0) rfl rfl (Nat.le_of_ble_eq_true (n:=3) rfl)
   have eM:=eL.pk (env':=[(0,.p 0 0),(2,.p 1 0),(3,.p 3 0),(20,.v (.int .i64 (((D.f 0).l:Nat):Int))),(21,.v (.int .i64 ((k0_:Nat):Int))),(45,.v (.slice (some ⟨aa,0,none⟩) 4 4)),(47,.v (.slice (some ⟨aa,0,none⟩) 4 4)),(54,.v (.slice ((D.f 0).A) ((D.f 0).l) ((D.f 0).c))),(55,.v (.int .i64 ((k0_:Nat):Int))),(48,.p 2 0)])
   refine qaG [5,6] [(0,.p 0 0),(2,.p 1 0),(3,.p 3 0),(20,.v (.int .i64 (((D.f 0).l:Nat):Int))),(21,.v (.int .i64 ((k0_:Nat):Int))),(45,.v (.slice (some ⟨aa,0,none⟩) 4 4)),(50,.v (.slice A0_ k0_ c0_)),(54,.v (.slice ((D.f 0).A) ((D.f 0).l) ((D.f 0).c))),(55,.v (.int .i64 ((k0_:Nat):Int)))] 7 (qac (qaa (qaa (qac (qaa qag))))) (fun _ h=>h.cells) cD eM fun j0 eN=>?_
   obtain ⟨eO,eP,eQ,jf,ez⟩:=Slots.get g1 (i:=k0_) (by omega)
   refine qaN eN (i:=12) (t:=143) (A:=(D.f 0).A) (m:=((D.f 0).l)) (q:=((k0_:Nat):Int)) (d:=56) kz (e:=149) (size:=18) (bytes:=32) kz eQ rfl (by omega) kz kz (qac (qaa (qaa (qac (qaa qag))))) cD fun j1 eR=>?_
   refine qaA (i:=13) kz (qaj eR (f:=122) (vs:=[.pointer (some ⟨eO,eP + k0_ * 18,none⟩)]) (d:=57) kz Tryz.call122 (qbH 0 ((D.f 0).f k0_) _ _ _ _ (ez.move cC.step nilM cC.imm) (qa4 _ cC.step nilM cC.imm (g1e k0_ (by omega)))) ?_)
   rintro e_ j2 ⟨jg,rfl,eS,c6⟩
   have da:=eS.move (Step.refl _ Nil) nilM (cC.laid (G:=F) c6)
   obtain ⟨cN,cO,cP,cQ,cR,cS,cT,cU,cV,cW,cX,jh,ji,db,iD,iE,j3,j4⟩:=da.open_
   rw [db] at da
   have iF:=iD.small
   have iG:=iE.small
   rw [db]
   refine ⟨_,rfl,fun j5 eU=>?_⟩
   have dM:=cC.next_nil c6
   have bf:=cC.frN c6
   have eV:=TT.ofW bf dM
   refine ⟨fun _=>eV,?_⟩
   refine qaA (i:=14) kz (qbD dM eU (e:=37) (size:=5) (len:=1) (cs:=[.int .i64 cN,.slice cS cO.length cT,.bool cP,.slice cU cQ.length cV,.slice cW cR.length cX]) (d:=58) kz kz fun eW j6 j7 jj jk aI cE eX=>?_)
   have eY:=TT.ofW (bf.trans aI) cE
   refine ⟨fun _=>eY,?_⟩
   refine qaA (i:=15) kz (qaR cE eX (k:=0) (d:=59) (t:=34) (e:=37) (size:=5) (bytes:=88) (A:=A0_) (As:=(some ⟨eW,0,none⟩)) (m0:=k0_) (c:=c0_) (m:=1) (cs:=1) (xs:=xs0_) (news:=[.int .i64 cN,.slice cS cO.length cT,.bool cP,.slice cU cQ.length cV,.slice cW cR.length cX]) kz kz rfl (qbC (cE.own 1 _ rfl) (qbJ kz)) (qbM (cE.own 1 _ rfl)) (by omega) fun cY cZ j8 j9 bg dc eZ=>?_)
   have e9:=TT.ofW ((bf.trans aI).trans bg) dc
   refine ⟨fun _=>e9,?_⟩
   refine qaA (i:=16) kz (qaC eZ (t:=34) (A:=(some ⟨aa,0,none⟩)) (m:=4) (q:=0) (d:=60) kz (e:=37) (size:=5) (bytes:=88) (j:=0) kz (b:=aa) (o:=0) rfl rfl (by decide) fun ka fa=>?_)
   have fb:=fa.recast 60 (.v (.pointer (some ⟨aa,0 + 0 * 5,none⟩))) (.p 2 0) rfl rfl (Nat.le_of_ble_eq_true (n:=3) rfl)
   have fe:=fb.pk (env':=[(0,.p 0 0),(2,.p 1 0),(3,.p 3 0),(20,.v (.int .i64 (((D.f 0).l:Nat):Int))),(21,.v (.int .i64 ((k0_:Nat):Int))),(45,.v (.slice (some ⟨aa,0,none⟩) 4 4)),(50,.v (.slice A0_ k0_ c0_)),(54,.v (.slice ((D.f 0).A) ((D.f 0).l) ((D.f 0).c))),(55,.v (.int .i64 ((k0_:Nat):Int))),(56,.v (.pointer (some ⟨eO,eP + k0_ * 18,none⟩))),(57,.v (.agg #[.int .i64 cN,.slice cS cO.length cT,.bool cP,.slice cU cQ.length cV,.slice cW cR.length cX])),(58,.v (.slice (some ⟨eW,0,none⟩) 1 1)),(59,.v (.slice cY (k0_ + 1) cZ)),(60,.p 2 0)])
   have dN:=TT.ofW ((bf.trans aI).trans bg) dc
   refine ⟨fun _=>dN,?_⟩
   refine qaG [17] [(0,.p 0 0),(2,.p 1 0),(3,.p 3 0),(20,.v (.int .i64 (((D.f 0).l:Nat):Int))),(21,.v (.int .i64 ((k0_:Nat):Int))),(59,.v (.slice cY (k0_ + 1) cZ)),(61,.p 2 3)] 1 (qac (qaa (qaa (qac (qaa qag))))) (fun _ h=>h.cells) dN fe fun kd ff=>?_
   refine qaA (i:=18) kz (qav dc ff (oi:=2) (cs:=[.int .i64 0,.slice none 0 0,.bool (((D.f 0).A).isNone),.slice cY (k0_ + 1) cZ,.slice none 0 0,.int .i64 0,.slice none 0 0,.bool false,.slice none 0 0,.slice none 0 0,.int .i64 0,.slice none 0 0,.bool false,.slice none 0 0,.slice none 0 0,.int .i64 0,.slice none 0 0,.bool false,.slice none 0 0,.slice none 0 0]) kz fun ke bX dO fg=>?_)
   refine ⟨fun h=>absurd rfl h,?_⟩
   refine qaE kz ?_ _
   refine qaq ?_
   refine qab ?_
   refine qap [0,1] kz ?_
   refine qai [0,1] [] [(0,.p 0 0),(2,.p 1 0),(3,.p 3 0),(20,.v (.int .i64 (((D.f 0).l:Nat):Int))),(21,.v (.int .i64 (IntKind.i64.wrap (((k0_:Nat):Int) + 1))))] dO fg fun kf fh=>?_
   refine qaf (qab ?_)
   obtain ⟨dP,fi,bY⟩:=dO.cutB fh 4 [⟨b,o,[.int .i16 v,.slice ((D.f 0).A) ((D.f 0).l) ((D.f 0).c),.bool ((D.f 1).b),.bool ((D.f 2).b),.bool ((D.f 3).b),.map D.m],false⟩,⟨b6,0,[.int .i64 0,.slice none 0 0,.bool false,.slice none 0 0,.slice none 0 0],true⟩,⟨aa,0,[.int .i64 0,.slice none 0 0,.bool (((D.f 0).A).isNone),.slice cY (k0_ + 1) cZ,.slice none 0 0,.int .i64 0,.slice none 0 0,.bool false,.slice none 0 0,.slice none 0 0,.int .i64 0,.slice none 0 0,.bool false,.slice none 0 0,.slice none 0 0,.int .i64 0,.slice none 0 0,.bool false,.slice none 0 0,.slice none 0 0],true⟩,⟨bt,0,[.int .i64 0,.slice none 0 0,.bool false,.slice (some ⟨aa,0,none⟩) 4 4,.slice none 0 0],true⟩] [(0,.p 0 0),(2,.p 1 0),(3,.p 3 0),(20,.v (.int .i64 (((D.f 0).l:Nat):Int))),(21,.v (.int .i64 (IntKind.i64.wrap (((k0_:Nat):Int) + 1))))]
   obtain ⟨fj,bZ⟩:=fi.cutR 1 [⟨cY,cZ,37,5,k0_ + 1,xs0_ ++ [.int .i64 cN,.slice cS cO.length cT,.bool cP,.slice cU cQ.length cV,.slice cW cR.length cX]⟩]
   have fk:IntKind.i64.wrap (((k0_:Nat):Int) + 1) = ((k0_ + 1:Nat):Int):=qaM (by omega)
   rw [fk] at dP
   exact ⟨(D.f 0).l - (k0_ + 1),by omega,k0_ + 1,cY,cZ,xs0_ ++ [Value.int .i64 cN,.slice cS cO.length cT,.bool cP,.slice cU cQ.length cV,.slice cW cR.length cX],(css0_ ++ [[Value.int .i64 cN,.slice cS cO.length cT,.bool cP,.slice cU cQ.length cV,.slice cW cR.length cX]]),rfl,by omega,by rw [qer (by omega)]; exact (hT0_.move ((((((((((bA.trans ab).trans cM).trans c5).trans ey).trans bf).trans aI).trans bg).trans bX).trans bY).trans bZ).step immM ((((((((((bA.trans ab).trans cM).trans c5).trans ey).trans bf).trans aI).trans bg).trans bX).trans bY).trans bZ).to').snoc (x:=(fun i=>qa1 ((D.f 0).f i)) k0_) (da.move ((((aI.trans bg).trans bX).trans bY).trans bZ).step immM ((((aI.trans bg).trans bX).trans bY).trans bZ).to'),dP.pk,fj,(((((((((((ep.trans bA).trans ab).trans cM).trans c5).trans ey).trans bf).trans aI).trans bg).trans bX).trans bY).trans bZ)⟩
  refine (qav ew eG (oi:=4) (cs:=[.bool false]) kz fun kg aw dQ fm=>?_)
  have fo:=TT.ofW (ab.trans aw) dQ
  refine ⟨fun _=>fo,?_⟩
  refine qaA (i:=1) kz (qav dQ fm (oi:=4) (cs:=[.bool true]) kz fun kh aJ cG fq=>?_)
  have fr:=TT.ofW ((ab.trans aw).trans aJ) cG
  refine ⟨fun _=>fr,?_⟩
  refine qaA (i:=3) kz (qa9 [0,2,3,4,20,21,25] cG.cells fq (env':=[(0,.p 0 0),(2,.p 1 0),(3,.p 3 0),(4,.v (.int .i64 ((k0_:Nat):Int))),(20,.v (.int .i64 (((D.f 0).l:Nat):Int))),(21,.v (.int .i64 ((k0_:Nat):Int))),(25,.v (.bool true))]) kz fun ki dR=>?_)
  have ft:=TT.ofW ((ab.trans aw).trans aJ) cG
  refine ⟨fun _=>ft,?_⟩
  refine qaE kz ?_ _
  refine qab ?_
  refine qaW dR (b:=true) kz rfl ?_
  refine qaI 17 kz cG fun kj bu aK cH=>?_
  refine qaG [0,1,5,6,7,8,9] [(0,.p 0 0),(2,.p 1 0),(3,.p 3 0),(20,.v (.int .i64 (((D.f 0).l:Nat):Int))),(21,.v (.int .i64 ((k0_:Nat):Int))),(27,.v (.slice (some ⟨aa,0,none⟩) 4 4)),(34,.v (.slice ((D.f 0).A) ((D.f 0).l) ((D.f 0).c))),(35,.v (.int .i64 ((k0_:Nat):Int)))] 11 (qaa (qac (qaa (qaa (qac (qaa qag)))))) (fun _ h=>h.cells) cH dR fun km fu=>?_
  refine qaN fu (i:=2) (t:=34) (A:=(some ⟨aa,0,none⟩)) (m:=4) (q:=0) (d:=28) kz (e:=37) (size:=5) (bytes:=88) (j:=0) kz (b:=aa) (o:=0) rfl rfl (by decide) kz kz (qaa (qac (qaa (qaa (qac (qaa qag)))))) cH fun ko fv=>?_
  have fw:=fv.recast 28 (.v (.pointer (some ⟨aa,0 + 0 * 5,none⟩))) (.p 2 0) rfl rfl (Nat.le_of_ble_eq_true (n:=3) rfl)
  have fx:=fw.pk (env':=[(0,.p 0 0),(2,.p 1 0),(3,.p 3 0),(20,.v (.int .i64 (((D.f 0).l:Nat):Int))),(21,.v (.int .i64 ((k0_:Nat):Int))),(27,.v (.slice (some ⟨aa,0,none⟩) 4 4)),(34,.v (.slice ((D.f 0).A) ((D.f 0).l) ((D.f 0).c))),(35,.v (.int .i64 ((k0_:Nat):Int))),(28,.p 2 0)])
  refine qaG [3,4,12] [(0,.p 0 0),(2,.p 1 0),(3,.p 3 0),(20,.v (.int .i64 (((D.f 0).l:Nat):Int))),(21,.v (.int .i64 ((k0_:Nat):Int))),(27,.v (.slice (some ⟨aa,0,none⟩) 4 4)),(30,.v (.slice A0_ k0_ c0_)),(34,.v (.slice ((D.f 0).A) ((D.f 0).l) ((D.f 0).c))),(35,.v (.int .i64 ((k0_:Nat):Int))),(38,.v (.int .i64 ((k0_:Nat):Int)))] 7 (qaa (qac (qaa (qaa (qac (qaa qag)))))) (fun _ h=>h.cells) cH fx fun kp fy=>?_
  obtain ⟨dJ,dK,fz,jl,de⟩:=Slots.get g1 (i:=k0_) (by omega)
  refine qaN fy (i:=10) (t:=143) (A:=(D.f 0).A) (m:=((D.f 0).l)) (q:=((k0_:Nat):Int)) (d:=36) kz (e:=149) (size:=18) (bytes:=32) kz fz rfl (by omega) kz kz (qaa (qac (qaa (qaa (qac (qaa qag)))))) cH fun kq dS=>?_
  refine qf2 (i:=11) (j:=13) kz ?_ ?_
  ·
   refine (qaj dS (f:=122) (vs:=[.pointer (some ⟨dJ,dK + k0_ * 18,none⟩)]) (d:=37) kz Tryz.call122 (qbH 0 ((D.f 0).f k0_) _ _ _ _ (de.move aK.step nilM aK.imm) (qa4 _ aK.step nilM aK.imm (g1e k0_ (by omega)))) ?_)
   rintro e_ ku ⟨jm,rfl,fA,df⟩
   have dg:=fA.move (Step.refl _ Nil) nilM (aK.laid (G:=F) df)
   obtain ⟨bB,bC,bD,bE,bF,bG,bH,bI,bJ,bK,bL,jn,jo,dh,iH,iI,kv,kw⟩:=dg.open_
   rw [dh] at dg
   have iJ:=iH.small
   have iK:=iI.small
   rw [dh]
   refine ⟨_,rfl,fun kx fB=>?_⟩
   have dT:=aK.next_nil df
   have bh:=aK.frN df
   have fC:=TT.ofW bh dT
   refine ⟨fun _=>fC,?_⟩
   refine qaA (i:=13) kz (qbD dT fB (e:=37) (size:=5) (len:=1) (cs:=[.int .i64 0,.slice none 0 0,.bool false,.slice none 0 0,.slice none 0 0]) (d:=39) kz kz fun eB ky kA jp jq aL cI fD=>?_)
   have fE:=TT.ofW (bh.trans aL) cI
   refine ⟨fun _=>fE,?_⟩
   refine qaA (i:=14) kz (qaR cI fD (k:=0) (d:=40) (t:=34) (e:=37) (size:=5) (bytes:=88) (A:=A0_) (As:=(some ⟨eB,0,none⟩)) (m0:=k0_) (c:=c0_) (m:=1) (cs:=1) (xs:=xs0_) (news:=[.int .i64 0,.slice none 0 0,.bool false,.slice none 0 0,.slice none 0 0]) kz kz rfl (qbC (cI.own 1 _ rfl) (qbJ kz)) (qbM (cI.own 1 _ rfl)) (by omega) fun aP bi kB kC bj di fF=>?_)
   have fG:=TT.ofW ((bh.trans aL).trans bj) di
   refine ⟨fun _=>fG,?_⟩
   refine qaA (i:=15) kz (qaC fF (t:=34) (A:=(some ⟨aa,0,none⟩)) (m:=4) (q:=0) (d:=41) kz (e:=37) (size:=5) (bytes:=88) (j:=0) kz (b:=aa) (o:=0) rfl rfl (by decide) fun kD fH=>?_)
   have fI:=fH.recast 41 (.v (.pointer (some ⟨aa,0 + 0 * 5,none⟩))) (.p 2 0) rfl rfl (Nat.le_of_ble_eq_true (n:=3) rfl)
   have fJ:=fI.pk (env':=[(0,.p 0 0),(2,.p 1 0),(3,.p 3 0),(20,.v (.int .i64 (((D.f 0).l:Nat):Int))),(21,.v (.int .i64 ((k0_:Nat):Int))),(27,.v (.slice (some ⟨aa,0,none⟩) 4 4)),(30,.v (.slice A0_ k0_ c0_)),(34,.v (.slice ((D.f 0).A) ((D.f 0).l) ((D.f 0).c))),(35,.v (.int .i64 ((k0_:Nat):Int))),(38,.v (.int .i64 ((k0_:Nat):Int))),(36,.v (.pointer (some ⟨dJ,dK + k0_ * 18,none⟩))),(37,.v (.agg #[.int .i64 bB,.slice bG bC.length bH,.bool bD,.slice bI bE.length bJ,.slice bK bF.length bL])),(39,.v (.slice (some ⟨eB,0,none⟩) 1 1)),(40,.v (.slice aP (k0_ + 1) bi)),(41,.p 2 0)])
   have dU:=TT.ofW ((bh.trans aL).trans bj) di
   refine ⟨fun _=>dU,?_⟩
   refine qaG [16] [(0,.p 0 0),(2,.p 1 0),(3,.p 3 0),(20,.v (.int .i64 (((D.f 0).l:Nat):Int))),(21,.v (.int .i64 ((k0_:Nat):Int))),(37,.v (.agg #[.int .i64 bB,.slice bG bC.length bH,.bool bD,.slice bI bE.length bJ,.slice bK bF.length bL])),(38,.v (.int .i64 ((k0_:Nat):Int))),(40,.v (.slice aP (k0_ + 1) bi)),(42,.p 2 3)] 1 (qaa (qac (qaa (qaa (qac (qaa qag)))))) (fun _ h=>h.cells) dU fJ fun kE fK=>?_
   refine qaA (i:=17) kz (qav di fK (oi:=2) (cs:=[.int .i64 0,.slice none 0 0,.bool (((D.f 0).A).isNone),.slice aP (k0_ + 1) bi,.slice none 0 0,.int .i64 0,.slice none 0 0,.bool false,.slice none 0 0,.slice none 0 0,.int .i64 0,.slice none 0 0,.bool false,.slice none 0 0,.slice none 0 0,.int .i64 0,.slice none 0 0,.bool false,.slice none 0 0,.slice none 0 0]) kz fun iL b8 dV fL=>?_)
   refine ⟨fun h=>absurd rfl h,?_⟩
   refine qaE kz ?_ _
   refine qab ?_
   refine qap [0,1] kz ?_
   have fM:World.ownsRow iL 0 37 5 (.slice aP (k0_ + 1) bi) (k0_ + 1) (xs0_ ++ [.int .i64 0,.slice none 0 0,.bool false,.slice none 0 0,.slice none 0 0]):=dV.own 0 _ rfl
   obtain ⟨fN,dW⟩:=qb0 fM (by omega)
   refine qak (qaC fL (t:=34) (A:=aP) (m:=(k0_ + 1)) (q:=((k0_:Nat):Int)) (d:=43) kz (e:=37) (size:=5) (bytes:=88) kz (b:=fN) (o:=0) (j:=k0_) dW (rfl) (by omega) fun kF fO=>?_)
   refine qak (qca dV fO (k:=0) (g:=fN) (o:=k0_ * 5) (c:=bi) (m:=(k0_ + 1)) (size:=5) (e:=37) (A:=aP) (xs:=(xs0_ ++ [.int .i64 0,.slice none 0 0,.bool false,.slice none 0 0,.slice none 0 0])) (vs:=[.int .i64 bB,.slice bG bC.length bH,.bool bD,.slice bI bE.length bJ,.slice bK bF.length bL]) kz rfl dW (by simp only [List.length_cons,List.length_nil]; omega) fun kG cd fP fQ=>?_)
   have fR:(⟨aP,bi,37,5,k0_ + 1,qba (xs0_ ++ [.int .i64 0,.slice none 0 0,.bool false,.slice none 0 0,.slice none 0 0]) (k0_ * 5) [.int .i64 bB,.slice bG bC.length bH,.bool bD,.slice bI bE.length bJ,.slice bK bF.length bL]⟩:Rw) = ⟨aP,bi,37,5,k0_ + 1,xs0_ ++ [.int .i64 bB,.slice bG bC.length bH,.bool bD,.slice bI bE.length bJ,.slice bK bF.length bL]⟩:=by rw [qfb (by rw [hT0_.xslen,List.length_take,qd6]; omega)]
   obtain ⟨dX,ce⟩:=fP.rowEq 0 [⟨aP,bi,37,5,k0_ + 1,xs0_ ++ [.int .i64 bB,.slice bG bC.length bH,.bool bD,.slice bI bE.length bJ,.slice bK bF.length bL]⟩,⟨some ⟨eB,0,none⟩,1,37,5,1,[.int .i64 0,.slice none 0 0,.bool false,.slice none 0 0,.slice none 0 0]⟩] fR
   refine qaf ?_
   refine qaq ?_
   refine qab ?_
   refine qap [0,1] kz ?_
   refine qai [0,1] [] [(0,.p 0 0),(2,.p 1 0),(3,.p 3 0),(20,.v (.int .i64 (((D.f 0).l:Nat):Int))),(21,.v (.int .i64 (IntKind.i64.wrap (((k0_:Nat):Int) + 1))))] dX fQ fun kH fS=>?_
   refine qaf (qab ?_)
   obtain ⟨dY,fT,cm⟩:=dX.cutB fS 4 [⟨b,o,[.int .i16 v,.slice ((D.f 0).A) ((D.f 0).l) ((D.f 0).c),.bool ((D.f 1).b),.bool ((D.f 2).b),.bool ((D.f 3).b),.map D.m],false⟩,⟨b6,0,[.int .i64 0,.slice none 0 0,.bool false,.slice none 0 0,.slice none 0 0],true⟩,⟨aa,0,[.int .i64 0,.slice none 0 0,.bool (((D.f 0).A).isNone),.slice aP (k0_ + 1) bi,.slice none 0 0,.int .i64 0,.slice none 0 0,.bool false,.slice none 0 0,.slice none 0 0,.int .i64 0,.slice none 0 0,.bool false,.slice none 0 0,.slice none 0 0,.int .i64 0,.slice none 0 0,.bool false,.slice none 0 0,.slice none 0 0],true⟩,⟨bt,0,[.int .i64 0,.slice none 0 0,.bool false,.slice (some ⟨aa,0,none⟩) 4 4,.slice none 0 0],true⟩] [(0,.p 0 0),(2,.p 1 0),(3,.p 3 0),(20,.v (.int .i64 (((D.f 0).l:Nat):Int))),(21,.v (.int .i64 (IntKind.i64.wrap (((k0_:Nat):Int) + 1))))]
   obtain ⟨fU,cq⟩:=fT.cutR 1 [⟨aP,bi,37,5,k0_ + 1,xs0_ ++ [.int .i64 bB,.slice bG bC.length bH,.bool bD,.slice bI bE.length bJ,.slice bK bF.length bL]⟩]
   have fV:IntKind.i64.wrap (((k0_:Nat):Int) + 1) = ((k0_ + 1:Nat):Int):=qaM (by omega)
   rw [fV] at dY
   exact ⟨(D.f 0).l - (k0_ + 1),by omega,k0_ + 1,aP,bi,xs0_ ++ [Value.int .i64 bB,.slice bG bC.length bH,.bool bD,.slice bI bE.length bJ,.slice bK bF.length bL],(css0_ ++ [[Value.int .i64 bB,.slice bG bC.length bH,.bool bD,.slice bI bE.length bJ,.slice bK bF.length bL]]),rfl,by omega,by rw [qer (by omega)]; exact (hT0_.move ((((((((((((bA.trans ab).trans aw).trans aJ).trans bu).trans bh).trans aL).trans bj).trans b8).trans cd).trans ce).trans cm).trans cq).step immM ((((((((((((bA.trans ab).trans aw).trans aJ).trans bu).trans bh).trans aL).trans bj).trans b8).trans cd).trans ce).trans cm).trans cq).to').snoc (x:=(fun i=>qa1 ((D.f 0).f i)) k0_) (dg.move ((((((aL.trans bj).trans b8).trans cd).trans ce).trans cm).trans cq).step immM ((((((aL.trans bj).trans b8).trans cd).trans ce).trans cm).trans cq).to'),dY.pk,fU,(((((((((((((ep.trans bA).trans ab).trans aw).trans aJ).trans bu).trans bh).trans aL).trans bj).trans b8).trans cd).trans ce).trans cm).trans cq)⟩
  refine (qbD aK dS (e:=37) (size:=5) (len:=1) (cs:=[.int .i64 0,.slice none 0 0,.bool false,.slice none 0 0,.slice none 0 0]) (d:=39) kz kz fun eC kI kJ jr js bk aM fW=>?_)
  have fX:=TT.ofW bk aM
  refine ⟨fun _=>fX,?_⟩
  refine qaA (i:=11) kz (qaj fW (f:=122) (vs:=[.pointer (some ⟨dJ,dK + k0_ * 18,none⟩)]) (d:=37) kz Tryz.call122 (qbH 0 ((D.f 0).f k0_) _ _ _ _ (de.move aM.step nilM aM.imm) (qa4 _ aM.step nilM aM.imm (g1e k0_ (by omega)))) ?_)
  rintro e_ kK ⟨jt,rfl,fY,dj⟩
  have dl:=fY.move (Step.refl _ Nil) nilM (aM.laid (G:=F) dj)
  obtain ⟨bM,bN,bO,bP,bQ,bR,bS,bT,bU,bV,bW,ju,jv,dp,iM,iN,kL,kM⟩:=dl.open_
  rw [dp] at dl
  have iO:=iM.small
  have iP:=iN.small
  rw [dp]
  refine ⟨_,rfl,fun kN fZ=>?_⟩
  have cJ:=aM.next_nil dj
  have bw:=aM.frN dj
  have f5:=TT.ofW (bk.trans bw) cJ
  refine ⟨fun _=>f5,?_⟩
  refine qaA (i:=14) kz (qaR cJ fZ (k:=0) (d:=40) (t:=34) (e:=37) (size:=5) (bytes:=88) (A:=A0_) (As:=(some ⟨eC,0,none⟩)) (m0:=k0_) (c:=c0_) (m:=1) (cs:=1) (xs:=xs0_) (news:=[.int .i64 0,.slice none 0 0,.bool false,.slice none 0 0,.slice none 0 0]) kz kz rfl (qbC (cJ.own 1 _ rfl) (qbJ kz)) (qbM (cJ.own 1 _ rfl)) (by omega) fun aQ bn kO kP bo dq f8=>?_)
  have f9:=TT.ofW ((bk.trans bw).trans bo) dq
  refine ⟨fun _=>f9,?_⟩
  refine qaA (i:=15) kz (qaC f8 (t:=34) (A:=(some ⟨aa,0,none⟩)) (m:=4) (q:=0) (d:=41) kz (e:=37) (size:=5) (bytes:=88) (j:=0) kz (b:=aa) (o:=0) rfl rfl (by decide) fun kQ ga=>?_)
  have gb:=ga.recast 41 (.v (.pointer (some ⟨aa,0 + 0 * 5,none⟩))) (.p 2 0) rfl rfl (Nat.le_of_ble_eq_true (n:=3) rfl)
  have gc:=gb.pk (env':=[(0,.p 0 0),(2,.p 1 0),(3,.p 3 0),(20,.v (.int .i64 (((D.f 0).l:Nat):Int))),(21,.v (.int .i64 ((k0_:Nat):Int))),(27,.v (.slice (some ⟨aa,0,none⟩) 4 4)),(30,.v (.slice A0_ k0_ c0_)),(34,.v (.slice ((D.f 0).A) ((D.f 0).l) ((D.f 0).c))),(35,.v (.int .i64 ((k0_:Nat):Int))),(38,.v (.int .i64 ((k0_:Nat):Int))),(36,.v (.pointer (some ⟨dJ,dK + k0_ * 18,none⟩))),(39,.v (.slice (some ⟨eC,0,none⟩) 1 1)),(37,.v (.agg #[.int .i64 bM,.slice bR bN.length bS,.bool bO,.slice bT bP.length bU,.slice bV bQ.length bW])),(40,.v (.slice aQ (k0_ + 1) bn)),(41,.p 2 0)])
  have dZ:=TT.ofW ((bk.trans bw).trans bo) dq
  refine ⟨fun _=>dZ,?_⟩
  refine qaG [16] [(0,.p 0 0),(2,.p 1 0),(3,.p 3 0),(20,.v (.int .i64 (((D.f 0).l:Nat):Int))),(21,.v (.int .i64 ((k0_:Nat):Int))),(37,.v (.agg #[.int .i64 bM,.slice bR bN.length bS,.bool bO,.slice bT bP.length bU,.slice bV bQ.length bW])),(38,.v (.int .i64 ((k0_:Nat):Int))),(40,.v (.slice aQ (k0_ + 1) bn)),(42,.p 2 3)] 1 (qaa (qac (qaa (qaa (qac (qaa qag)))))) (fun _ h=>h.cells) dZ gc fun kR gd=>?_
  refine qaA (i:=17) kz (qav dq gd (oi:=2) (cs:=[.int .i64 0,.slice none 0 0,.bool (((D.f 0).A).isNone),.slice aQ (k0_ + 1) bn,.slice none 0 0,.int .i64 0,.slice none 0 0,.bool false,.slice none 0 0,.slice none 0 0,.int .i64 0,.slice none 0 0,.bool false,.slice none 0 0,.slice none 0 0,.int .i64 0,.slice none 0 0,.bool false,.slice none 0 0,.slice none 0 0]) kz fun iQ cr d5 ge=>?_)
  refine ⟨fun h=>absurd rfl h,?_⟩
  refine qaE kz ?_ _
  refine qab ?_
  refine qap [0,1] kz ?_
  have gg:World.ownsRow iQ 0 37 5 (.slice aQ (k0_ + 1) bn) (k0_ + 1) (xs0_ ++ [.int .i64 0,.slice none 0 0,.bool false,.slice none 0 0,.slice none 0 0]):=d5.own 0 _ rfl
  obtain ⟨gh,d6⟩:=qb0 gg (by omega)
  refine qak (qaC ge (t:=34) (A:=aQ) (m:=(k0_ + 1)) (q:=((k0_:Nat):Int)) (d:=43) kz (e:=37) (size:=5) (bytes:=88) kz (b:=gh) (o:=0) (j:=k0_) d6 (rfl) (by omega) fun kS gi=>?_)
  refine qak (qca d5 gi (k:=0) (g:=gh) (o:=k0_ * 5) (c:=bn) (m:=(k0_ + 1)) (size:=5) (e:=37) (A:=aQ) (xs:=(xs0_ ++ [.int .i64 0,.slice none 0 0,.bool false,.slice none 0 0,.slice none 0 0])) (vs:=[.int .i64 bM,.slice bR bN.length bS,.bool bO,.slice bT bP.length bU,.slice bV bQ.length bW]) kz rfl d6 (by simp only [List.length_cons,List.length_nil]; omega) fun kT cu gj gk=>?_)
  have gl:(⟨aQ,bn,37,5,k0_ + 1,qba (xs0_ ++ [.int .i64 0,.slice none 0 0,.bool false,.slice none 0 0,.slice none 0 0]) (k0_ * 5) [.int .i64 bM,.slice bR bN.length bS,.bool bO,.slice bT bP.length bU,.slice bV bQ.length bW]⟩:Rw) = ⟨aQ,bn,37,5,k0_ + 1,xs0_ ++ [.int .i64 bM,.slice bR bN.length bS,.bool bO,.slice bT bP.length bU,.slice bV bQ.length bW]⟩:=by rw [qfb (by rw [hT0_.xslen,List.length_take,qd6]; omega)]
  obtain ⟨d7,cw⟩:=gj.rowEq 0 [⟨aQ,bn,37,5,k0_ + 1,xs0_ ++ [.int .i64 bM,.slice bR bN.length bS,.bool bO,.slice bT bP.length bU,.slice bV bQ.length bW]⟩,⟨some ⟨eC,0,none⟩,1,37,5,1,[.int .i64 0,.slice none 0 0,.bool false,.slice none 0 0,.slice none 0 0]⟩] gl
  refine qaf ?_
  refine qaq ?_
  refine qab ?_
  refine qap [0,1] kz ?_
  refine qai [0,1] [] [(0,.p 0 0),(2,.p 1 0),(3,.p 3 0),(20,.v (.int .i64 (((D.f 0).l:Nat):Int))),(21,.v (.int .i64 (IntKind.i64.wrap (((k0_:Nat):Int) + 1))))] d7 gk fun kU gm=>?_
  refine qaf (qab ?_)
  obtain ⟨d8,gn,cz⟩:=d7.cutB gm 4 [⟨b,o,[.int .i16 v,.slice ((D.f 0).A) ((D.f 0).l) ((D.f 0).c),.bool ((D.f 1).b),.bool ((D.f 2).b),.bool ((D.f 3).b),.map D.m],false⟩,⟨b6,0,[.int .i64 0,.slice none 0 0,.bool false,.slice none 0 0,.slice none 0 0],true⟩,⟨aa,0,[.int .i64 0,.slice none 0 0,.bool (((D.f 0).A).isNone),.slice aQ (k0_ + 1) bn,.slice none 0 0,.int .i64 0,.slice none 0 0,.bool false,.slice none 0 0,.slice none 0 0,.int .i64 0,.slice none 0 0,.bool false,.slice none 0 0,.slice none 0 0,.int .i64 0,.slice none 0 0,.bool false,.slice none 0 0,.slice none 0 0],true⟩,⟨bt,0,[.int .i64 0,.slice none 0 0,.bool false,.slice (some ⟨aa,0,none⟩) 4 4,.slice none 0 0],true⟩] [(0,.p 0 0),(2,.p 1 0),(3,.p 3 0),(20,.v (.int .i64 (((D.f 0).l:Nat):Int))),(21,.v (.int .i64 (IntKind.i64.wrap (((k0_:Nat):Int) + 1))))]
  obtain ⟨gp,cA⟩:=gn.cutR 1 [⟨aQ,bn,37,5,k0_ + 1,xs0_ ++ [.int .i64 bM,.slice bR bN.length bS,.bool bO,.slice bT bP.length bU,.slice bV bQ.length bW]⟩]
  have gq:IntKind.i64.wrap (((k0_:Nat):Int) + 1) = ((k0_ + 1:Nat):Int):=qaM (by omega)
  rw [gq] at d8
  exact ⟨(D.f 0).l - (k0_ + 1),by omega,k0_ + 1,aQ,bn,xs0_ ++ [Value.int .i64 bM,.slice bR bN.length bS,.bool bO,.slice bT bP.length bU,.slice bV bQ.length bW],(css0_ ++ [[Value.int .i64 bM,.slice bR bN.length bS,.bool bO,.slice bT bP.length bU,.slice bV bQ.length bW]]),rfl,by omega,by rw [qer (by omega)]; exact (hT0_.move ((((((((((((bA.trans ab).trans aw).trans aJ).trans bu).trans bk).trans bw).trans bo).trans cr).trans cu).trans cw).trans cz).trans cA).step immM ((((((((((((bA.trans ab).trans aw).trans aJ).trans bu).trans bk).trans bw).trans bo).trans cr).trans cu).trans cw).trans cz).trans cA).to').snoc (x:=(fun i=>qa1 ((D.f 0).f i)) k0_) (dl.move (((((bo.trans cr).trans cu).trans cw).trans cz).trans cA).step immM (((((bo.trans cr).trans cu).trans cw).trans cz).trans cA).to'),d8.pk,gp,(((((((((((((ep.trans bA).trans ab).trans aw).trans aJ).trans bu).trans bk).trans bw).trans bo).trans cr).trans cu).trans cw).trans cz).trans cA)⟩
 have jw:=of_decide_eq_false ev
 refine wp_exit ?_
 refine qaB ?_
 refine qaB ?_
 refine qaL ?_
 refine qab ?_
 refine qaI 8 kz dH fun iR d9 dr gt=>?_
 refine qaG [0,1,2,3,4,5] [(0,.p 0 0),(2,.p 1 0),(3,.p 3 0),(64,.v (.slice (some ⟨aa,0,none⟩) 4 4)),(68,.v (.bool ((D.f 1).b)))] 3 (qaa qag) (fun _ h=>h.cells) gt eu fun kV gv=>?_
 refine qaA (i:=6) kz (qaj gv (f:=100) (vs:=[.bool ((D.f 1).b)]) (d:=69) kz Tryz.call100 (qk9 _ _ (Imm F w iR [⟨b,o,[.int .i16 v,.slice ((D.f 0).A) ((D.f 0).l) ((D.f 0).c),.bool ((D.f 1).b),.bool ((D.f 2).b),.bool ((D.f 3).b),.map D.m],false⟩,⟨b6,0,[.int .i64 0,.slice none 0 0,.bool false,.slice none 0 0,.slice none 0 0],true⟩,⟨aa,0,[.int .i64 0,.slice none 0 0,.bool (((D.f 0).A).isNone),.slice A0_ k0_ c0_,.slice none 0 0,.int .i64 0,.slice none 0 0,.bool false,.slice none 0 0,.slice none 0 0,.int .i64 0,.slice none 0 0,.bool false,.slice none 0 0,.slice none 0 0,.int .i64 0,.slice none 0 0,.bool false,.slice none 0 0,.slice none 0 0],true⟩,⟨bt,0,[.int .i64 0,.slice none 0 0,.bool false,.slice (some ⟨aa,0,none⟩) 4 4,.slice none 0 0],true⟩] [⟨A0_,c0_,37,5,k0_,xs0_⟩])) ?_)
 rintro e_ kW ⟨jx,rfl,gw,dt⟩
 have du:=gw.move (Step.refl _ Nil) nilM (dr.laid (G:=F) dt)
 obtain ⟨ac,ae,af,ag,ah,ai,aj,ak,al,am,ao,jy,jz,dv,iS,iT,kX,kY⟩:=du.open_
 rw [dv] at du
 have iU:=iS.small
 have iV:=iT.small
 rw [dv]
 refine ⟨_,rfl,fun kZ gx=>?_⟩
 have ea:=dr.next_nil dt
 have dw:=dr.frN dt
 have eb:=TT.ofW dw ea
 refine ⟨fun _=>eb,?_⟩
 refine qaN gx (i:=7) (t:=34) (A:=(some ⟨aa,0,none⟩)) (m:=4) (q:=1) (d:=70) kz (e:=37) (size:=5) (bytes:=88) (j:=1) kz (b:=aa) (o:=0) rfl rfl (by decide) kz kz (qaa qag) eb fun k5 gy=>?_
 have gz:=gy.recast 70 (.v (.pointer (some ⟨aa,0 + 1 * 5,none⟩))) (.p 2 5) rfl rfl (Nat.le_of_ble_eq_true (n:=3) rfl)
 have gA:=gz.pk (env':=[(0,.p 0 0),(2,.p 1 0),(3,.p 3 0),(64,.v (.slice (some ⟨aa,0,none⟩) 4 4)),(68,.v (.bool ((D.f 1).b))),(69,.v (.agg #[.int .i64 ac,.slice ai ae.length aj,.bool af,.slice ak ag.length al,.slice am ah.length ao])),(70,.p 2 5)])
 refine qaA (i:=8) kz (qav ea gA (oi:=2) (cs:=[.int .i64 0,.slice none 0 0,.bool (((D.f 0).A).isNone),.slice A0_ k0_ c0_,.slice none 0 0,.int .i64 ac,.slice ai ae.length aj,.bool af,.slice ak ag.length al,.slice am ah.length ao,.int .i64 0,.slice none 0 0,.bool false,.slice none 0 0,.slice none 0 0,.int .i64 0,.slice none 0 0,.bool false,.slice none 0 0,.slice none 0 0]) kz fun k6 cK gB gC=>?_)
 refine ⟨fun h=>absurd rfl h,?_⟩
 refine qaE kz ?_ _
 refine qab ?_
 refine qaI 8 kz gB fun iW cL dx gD=>?_
 refine qaG [0,1,2,3,4,5] [(0,.p 0 0),(2,.p 1 0),(3,.p 3 0),(72,.v (.slice (some ⟨aa,0,none⟩) 4 4)),(76,.v (.bool ((D.f 2).b)))] 3 (qaa qag) (fun _ h=>h.cells) gD gC fun k7 gE=>?_
 refine qaA (i:=6) kz (qaj gE (f:=100) (vs:=[.bool ((D.f 2).b)]) (d:=77) kz Tryz.call100 (qk9 _ _ (Imm F w iW [⟨b,o,[.int .i16 v,.slice ((D.f 0).A) ((D.f 0).l) ((D.f 0).c),.bool ((D.f 1).b),.bool ((D.f 2).b),.bool ((D.f 3).b),.map D.m],false⟩,⟨b6,0,[.int .i64 0,.slice none 0 0,.bool false,.slice none 0 0,.slice none 0 0],true⟩,⟨aa,0,[.int .i64 0,.slice none 0 0,.bool (((D.f 0).A).isNone),.slice A0_ k0_ c0_,.slice none 0 0,.int .i64 ac,.slice ai ae.length aj,.bool af,.slice ak ag.length al,.slice am ah.length ao,.int .i64 0,.slice none 0 0,.bool false,.slice none 0 0,.slice none 0 0,.int .i64 0,.slice none 0 0,.bool false,.slice none 0 0,.slice none 0 0],true⟩,⟨bt,0,[.int .i64 0,.slice none 0 0,.bool false,.slice (some ⟨aa,0,none⟩) 4 4,.slice none 0 0],true⟩] [⟨A0_,c0_,37,5,k0_,xs0_⟩])) ?_)
 rintro e_ k8 ⟨jA,rfl,gF,dy⟩
 have dz:=gF.move (Step.refl _ Nil) nilM (dx.laid (G:=F) dy)
 obtain ⟨ax,ay,az,aA,aB,aC,aD,aE,aF,aG,aH,jB,jC,dA,iX,iY,k9,la⟩:=dz.open_
 rw [dA] at dz
 have iZ:=iX.small
 have i6:=iY.small
 rw [dA]
 refine ⟨_,rfl,fun lb gG=>?_⟩
 have ec:=dx.next_nil dy
 have cB:=dx.frN dy
 have ee:=TT.ofW cB ec
 refine ⟨fun _=>ee,?_⟩
 refine qaN gG (i:=7) (t:=34) (A:=(some ⟨aa,0,none⟩)) (m:=4) (q:=2) (d:=78) kz (e:=37) (size:=5) (bytes:=88) (j:=2) kz (b:=aa) (o:=0) rfl rfl (by decide) kz kz (qaa qag) ee fun lc gH=>?_
 have gI:=gH.recast 78 (.v (.pointer (some ⟨aa,0 + 2 * 5,none⟩))) (.p 2 10) rfl rfl (Nat.le_of_ble_eq_true (n:=3) rfl)
 have gJ:=gI.pk (env':=[(0,.p 0 0),(2,.p 1 0),(3,.p 3 0),(72,.v (.slice (some ⟨aa,0,none⟩) 4 4)),(76,.v (.bool ((D.f 2).b))),(77,.v (.agg #[.int .i64 ax,.slice aC ay.length aD,.bool az,.slice aE aA.length aF,.slice aG aB.length aH])),(78,.p 2 10)])
 refine qaA (i:=8) kz (qav ec gJ (oi:=2) (cs:=[.int .i64 0,.slice none 0 0,.bool (((D.f 0).A).isNone),.slice A0_ k0_ c0_,.slice none 0 0,.int .i64 ac,.slice ai ae.length aj,.bool af,.slice ak ag.length al,.slice am ah.length ao,.int .i64 ax,.slice aC ay.length aD,.bool az,.slice aE aA.length aF,.slice aG aB.length aH,.int .i64 0,.slice none 0 0,.bool false,.slice none 0 0,.slice none 0 0]) kz fun ld bx gK gL=>?_)
 refine ⟨fun h=>absurd rfl h,?_⟩
 refine qaE kz ?_ _
 refine qab ?_
 refine qaI 8 kz gK fun i7 bz dB gM=>?_
 refine qaG [0,1,2,3,4,5] [(0,.p 0 0),(2,.p 1 0),(3,.p 3 0),(80,.v (.slice (some ⟨aa,0,none⟩) 4 4)),(84,.v (.bool ((D.f 3).b)))] 3 (qaa qag) (fun _ h=>h.cells) gM gL fun lf gN=>?_
 refine qaA (i:=6) kz (qaj gN (f:=100) (vs:=[.bool ((D.f 3).b)]) (d:=85) kz Tryz.call100 (qk9 _ _ (Imm F w i7 [⟨b,o,[.int .i16 v,.slice ((D.f 0).A) ((D.f 0).l) ((D.f 0).c),.bool ((D.f 1).b),.bool ((D.f 2).b),.bool ((D.f 3).b),.map D.m],false⟩,⟨b6,0,[.int .i64 0,.slice none 0 0,.bool false,.slice none 0 0,.slice none 0 0],true⟩,⟨aa,0,[.int .i64 0,.slice none 0 0,.bool (((D.f 0).A).isNone),.slice A0_ k0_ c0_,.slice none 0 0,.int .i64 ac,.slice ai ae.length aj,.bool af,.slice ak ag.length al,.slice am ah.length ao,.int .i64 ax,.slice aC ay.length aD,.bool az,.slice aE aA.length aF,.slice aG aB.length aH,.int .i64 0,.slice none 0 0,.bool false,.slice none 0 0,.slice none 0 0],true⟩,⟨bt,0,[.int .i64 0,.slice none 0 0,.bool false,.slice (some ⟨aa,0,none⟩) 4 4,.slice none 0 0],true⟩] [⟨A0_,c0_,37,5,k0_,xs0_⟩])) ?_)
 rintro e_ lg ⟨jD,rfl,gO,dC⟩
 have dD:=gO.move (Step.refl _ Nil) nilM (dB.laid (G:=F) dC)
 obtain ⟨aR,aS,aT,aU,aV,aW,aX,aY,aZ,ba,bd,jE,jF,dE,ja,jb,lh,li⟩:=dD.open_
 rw [dE] at dD
 have jc:=ja.small
 have jd:=jb.small
 rw [dE]
 refine ⟨_,rfl,fun lj gP=>?_⟩
 have ef:=dB.next_nil dC
 have bp:=dB.frN dC
 have eg:=TT.ofW bp ef
 refine ⟨fun _=>eg,?_⟩
 refine qaN gP (i:=7) (t:=34) (A:=(some ⟨aa,0,none⟩)) (m:=4) (q:=3) (d:=86) kz (e:=37) (size:=5) (bytes:=88) (j:=3) kz (b:=aa) (o:=0) rfl rfl (by decide) kz kz (qaa qag) eg fun lm gQ=>?_
 have gR:=gQ.recast 86 (.v (.pointer (some ⟨aa,0 + 3 * 5,none⟩))) (.p 2 15) rfl rfl (Nat.le_of_ble_eq_true (n:=3) rfl)
 have gS:=gR.pk (env':=[(0,.p 0 0),(2,.p 1 0),(3,.p 3 0),(80,.v (.slice (some ⟨aa,0,none⟩) 4 4)),(84,.v (.bool ((D.f 3).b))),(85,.v (.agg #[.int .i64 aR,.slice aW aS.length aX,.bool aT,.slice aY aU.length aZ,.slice ba aV.length bd])),(86,.p 2 15)])
 refine qaA (i:=8) kz (qav ef gS (oi:=2) (cs:=[.int .i64 0,.slice none 0 0,.bool (((D.f 0).A).isNone),.slice A0_ k0_ c0_,.slice none 0 0,.int .i64 ac,.slice ai ae.length aj,.bool af,.slice ak ag.length al,.slice am ah.length ao,.int .i64 ax,.slice aC ay.length aD,.bool az,.slice aE aA.length aF,.slice aG aB.length aH,.int .i64 aR,.slice aW aS.length aX,.bool aT,.slice aY aU.length aZ,.slice ba aV.length bd]) kz fun je aN bq gT=>?_)
 refine ⟨fun h=>absurd rfl h,?_⟩
 refine qaE kz ?_ _
 refine qab ?_
 refine qae [0,1,2,3,4] kz ?_
 refine qai [0,1,2] [3,4] [(2,.p 1 0),(3,.p 3 0),(89,.p 0 5)] bq gT fun ln gU=>?_
 refine qak (qfH gU (v:=.func (.func 123) #[] #[.pointer (some ⟨bt,0,none⟩)]) (d:=90) kz fun lp gV=>?_)
 refine qak (qaj gV (f:=103) (vs:=[.pointer (some ⟨b,o + 5,none⟩),.func (.func 123) #[] #[.pointer (some ⟨bt,0,none⟩)]]) (d:=91) kz Tryz.call103 (qgD (F:=(Imm F w je [⟨b,o,[.int .i16 v,.slice ((D.f 0).A) ((D.f 0).l) ((D.f 0).c),.bool ((D.f 1).b),.bool ((D.f 2).b),.bool ((D.f 3).b),.map D.m],false⟩,⟨b6,0,[.int .i64 0,.slice none 0 0,.bool false,.slice none 0 0,.slice none 0 0],true⟩,⟨aa,0,[.int .i64 0,.slice none 0 0,.bool (((D.f 0).A).isNone),.slice A0_ k0_ c0_,.slice none 0 0,.int .i64 ac,.slice ai ae.length aj,.bool af,.slice ak ag.length al,.slice am ah.length ao,.int .i64 ax,.slice aC ay.length aD,.bool az,.slice aE aA.length aF,.slice aG aB.length aH,.int .i64 aR,.slice aW aS.length aX,.bool aT,.slice aY aU.length aZ,.slice ba aV.length bd],true⟩,⟨bt,0,[.int .i64 0,.slice none 0 0,.bool false,.slice (some ⟨aa,0,none⟩) 4 4,.slice none 0 0],true⟩] [⟨A0_,c0_,37,5,k0_,xs0_⟩])) Tryz.call123 qd7 ((hat.one 5 rfl).move bq.step nilM bq.imm) (g5.move bq.step nilM bq.imm) (Str.of bq 3 rfl) (qkY 3 rfl) g5l) ?_)
 rintro e_ lq ⟨rfl,ap,ar,eD,gW,gX⟩
 obtain ⟨dF,aO,gY⟩:=bq.wrote 3 [⟨b,o,[.int .i16 v,.slice ((D.f 0).A) ((D.f 0).l) ((D.f 0).c),.bool ((D.f 1).b),.bool ((D.f 2).b),.bool ((D.f 3).b),.map D.m],false⟩,⟨b6,0,[.int .i64 0,.slice none 0 0,.bool false,.slice none 0 0,.slice none 0 0],true⟩,⟨aa,0,[.int .i64 0,.slice none 0 0,.bool (((D.f 0).A).isNone),.slice A0_ k0_ c0_,.slice none 0 0,.int .i64 ac,.slice ai ae.length aj,.bool af,.slice ak ag.length al,.slice am ah.length ao,.int .i64 ax,.slice aC ay.length aD,.bool az,.slice aE aA.length aF,.slice aG aB.length aH,.int .i64 aR,.slice aW aS.length aX,.bool aT,.slice aY aU.length aZ,.slice ba aV.length bd],true⟩,⟨bt,0,[.int .i64 0,.slice none 0 0,.bool false,.slice (some ⟨aa,0,none⟩) 4 4,.slice ap D.u.length ar],true⟩] rfl gX eD
 have eh:=gW.move (Step.refl _ Nil) nilM (fun b_ o_ h_ hb_=>gY (G:=F) b_ o_ (.inr h_) hb_)
 refine ⟨_,rfl,fun lr gZ=>?_⟩
 have g6:=(EnvOk.places (tb':=[⟨b,o,[.int .i16 v,.slice ((D.f 0).A) ((D.f 0).l) ((D.f 0).c),.bool ((D.f 1).b),.bool ((D.f 2).b),.bool ((D.f 3).b),.map D.m],false⟩,⟨b6,0,[.int .i64 0,.slice none 0 0,.bool false,.slice none 0 0,.slice none 0 0],true⟩,⟨aa,0,[.int .i64 0,.slice none 0 0,.bool (((D.f 0).A).isNone),.slice A0_ k0_ c0_,.slice none 0 0,.int .i64 ac,.slice ai ae.length aj,.bool af,.slice ak ag.length al,.slice am ah.length ao,.int .i64 ax,.slice aC ay.length aD,.bool az,.slice aE aA.length aF,.slice aG aB.length aH,.int .i64 aR,.slice aW aS.length aX,.bool aT,.slice aY aU.length aZ,.slice ba aV.length bd],true⟩,⟨bt,0,[.int .i64 0,.slice none 0 0,.bool false,.slice (some ⟨aa,0,none⟩) 4 4,.slice ap D.u.length ar],true⟩]) gZ (show Pl [⟨b,o,[.int .i16 v,.slice ((D.f 0).A) ((D.f 0).l) ((D.f 0).c),.bool ((D.f 1).b),.bool ((D.f 2).b),.bool ((D.f 3).b),.map D.m],false⟩,⟨b6,0,[.int .i64 0,.slice none 0 0,.bool false,.slice none 0 0,.slice none 0 0],true⟩,⟨aa,0,[.int .i64 0,.slice none 0 0,.bool (((D.f 0).A).isNone),.slice A0_ k0_ c0_,.slice none 0 0,.int .i64 ac,.slice ai ae.length aj,.bool af,.slice ak ag.length al,.slice am ah.length ao,.int .i64 ax,.slice aC ay.length aD,.bool az,.slice aE aA.length aF,.slice aG aB.length aH,.int .i64 aR,.slice aW aS.length aX,.bool aT,.slice aY aU.length aZ,.slice ba aV.length bd],true⟩,⟨bt,0,[.int .i64 0,.slice none 0 0,.bool false,.slice (some ⟨aa,0,none⟩) 4 4,.slice none 0 0],true⟩] [⟨b,o,[.int .i16 v,.slice ((D.f 0).A) ((D.f 0).l) ((D.f 0).c),.bool ((D.f 1).b),.bool ((D.f 2).b),.bool ((D.f 3).b),.map D.m],false⟩,⟨b6,0,[.int .i64 0,.slice none 0 0,.bool false,.slice none 0 0,.slice none 0 0],true⟩,⟨aa,0,[.int .i64 0,.slice none 0 0,.bool (((D.f 0).A).isNone),.slice A0_ k0_ c0_,.slice none 0 0,.int .i64 ac,.slice ai ae.length aj,.bool af,.slice ak ag.length al,.slice am ah.length ao,.int .i64 ax,.slice aC ay.length aD,.bool az,.slice aE aA.length aF,.slice aG aB.length aH,.int .i64 aR,.slice aW aS.length aX,.bool aT,.slice aY aU.length aZ,.slice ba aV.length bd],true⟩,⟨bt,0,[.int .i64 0,.slice none 0 0,.bool false,.slice (some ⟨aa,0,none⟩) 4 4,.slice ap D.u.length ar],true⟩] from ⟨rfl,rfl,⟨rfl,rfl,⟨rfl,rfl,⟨rfl,rfl,trivial⟩⟩⟩⟩)).pk (env':=[(91,.v (.tuple #[])),(2,.p 1 0),(3,.p 3 0),(89,.p 0 5),(90,.v (.func (.func 123) #[] #[.pointer (some ⟨bt,0,none⟩)]))])
 refine qaf (qab ?_)
 refine qae [0,1,2] kz ?_
 refine qai [0,1] [2] [(2,.p 1 0),(3,.p 3 0),(93,.v (.slice ap D.u.length ar))] dF g6 fun ls g7=>?_
 refine qak (qaj g7 (f:=105) (vs:=[.slice ap D.u.length ar]) (d:=94) kz Tryz.call105 (qjs eh g5.sorted) ?_)
 rintro e_ lu ⟨rfl,ei⟩
 refine ⟨_,rfl,fun lv g8=>?_⟩
 have ej:=dF.next_nil ei
 have au:=dF.frN ei
 refine qaf (qab ?_)
 refine qae [0,1] kz ?_
 refine qai [0] [1] [(2,.p 1 0),(95,.v (.agg #[.int .i64 0,.slice none 0 0,.bool false,.slice (some ⟨aa,0,none⟩) 4 4,.slice ap D.u.length ar]))] ej g8 fun lw g9=>?_
 refine qak (qav ej g9 (oi:=1) (cs:=[.int .i64 0,.slice none 0 0,.bool false,.slice (some ⟨aa,0,none⟩) 4 4,.slice ap D.u.length ar]) kz fun dL av dG hC=>?_)
 refine qaf (qab ?_)
 refine wp_ret ?_
 refine qaF hC dG.cells (v:=.agg #[.int .i64 0,.slice none 0 0,.bool false,.slice (some ⟨aa,0,none⟩) 4 4,.slice ap D.u.length ar]) kz ?_
 have ek:=(hT0_.move (((((((((((d9.trans dw).trans cK).trans cL).trans cB).trans bx).trans bz).trans bp).trans aN).trans aO).trans au).trans av).step immM (((((((((((d9.trans dw).trans cK).trans cL).trans cB).trans bx).trans bz).trans bp).trans aN).trans aO).trans au).trans av).to')
 rw [qj8 (by omega)] at ek
 exact qhw (u:=D.u) (l:=[.mk 0 [] (D.f 0).A.isNone ((List.range (D.f 0).l).map fun i=>qa1 ((D.f 0).f i)) [],qfV (D.f 1).b,qfV (D.f 2).b,qfV (D.f 3).b]) (css:=[[.int .i64 0,.slice none 0 0,.bool (((D.f 0).A).isNone),.slice A0_ k0_ c0_,.slice none 0 0],[.int .i64 ac,.slice ai ae.length aj,.bool af,.slice ak ag.length al,.slice am ah.length ao],[.int .i64 ax,.slice aC ay.length aD,.bool az,.slice aE aA.length aF,.slice aG aB.length aH],[.int .i64 aR,.slice aW aS.length aX,.bool aT,.slice aY aU.length aZ,.slice ba aV.length bd]]) dG 2 rfl ⟨qjq dG (k:=0) rfl ek (by rw [qd6]; omega) (by rw [qd6]; omega),(show TreeR _ (Imm F w dL [⟨b,o,[.int .i16 v,.slice ((D.f 0).A) ((D.f 0).l) ((D.f 0).c),.bool ((D.f 1).b),.bool ((D.f 2).b),.bool ((D.f 3).b),.map D.m],false⟩,⟨b6,0,[.int .i64 0,.slice none 0 0,.bool false,.slice (some ⟨aa,0,none⟩) 4 4,.slice ap D.u.length ar],true⟩,⟨aa,0,[.int .i64 0,.slice none 0 0,.bool (((D.f 0).A).isNone),.slice A0_ k0_ c0_,.slice none 0 0,.int .i64 ac,.slice ai ae.length aj,.bool af,.slice ak ag.length al,.slice am ah.length ao,.int .i64 ax,.slice aC ay.length aD,.bool az,.slice aE aA.length aF,.slice aG aB.length aH,.int .i64 aR,.slice aW aS.length aX,.bool aT,.slice aY aU.length aZ,.slice ba aV.length bd],true⟩,⟨bt,0,[.int .i64 0,.slice none 0 0,.bool false,.slice (some ⟨aa,0,none⟩) 4 4,.slice ap D.u.length ar],true⟩] [⟨A0_,c0_,37,5,k0_,xs0_⟩]) _ _ from (du.move (((((((((cK.trans cL).trans cB).trans bx).trans bz).trans bp).trans aN).trans aO).trans au).trans av).step immM (((((((((cK.trans cL).trans cB).trans bx).trans bz).trans bp).trans aN).trans aO).trans au).trans av).to')).move (Step.refl _ Nil) nilM qbI,(show TreeR _ (Imm F w dL [⟨b,o,[.int .i16 v,.slice ((D.f 0).A) ((D.f 0).l) ((D.f 0).c),.bool ((D.f 1).b),.bool ((D.f 2).b),.bool ((D.f 3).b),.map D.m],false⟩,⟨b6,0,[.int .i64 0,.slice none 0 0,.bool false,.slice (some ⟨aa,0,none⟩) 4 4,.slice ap D.u.length ar],true⟩,⟨aa,0,[.int .i64 0,.slice none 0 0,.bool (((D.f 0).A).isNone),.slice A0_ k0_ c0_,.slice none 0 0,.int .i64 ac,.slice ai ae.length aj,.bool af,.slice ak ag.length al,.slice am ah.length ao,.int .i64 ax,.slice aC ay.length aD,.bool az,.slice aE aA.length aF,.slice aG aB.length aH,.int .i64 aR,.slice aW aS.length aX,.bool aT,.slice aY aU.length aZ,.slice ba aV.length bd],true⟩,⟨bt,0,[.int .i64 0,.slice none 0 0,.bool false,.slice (some ⟨aa,0,none⟩) 4 4,.slice ap D.u.length ar],true⟩] [⟨A0_,c0_,37,5,k0_,xs0_⟩]) _ _ from (dz.move ((((((bx.trans bz).trans bp).trans aN).trans aO).trans au).trans av).step immM ((((((bx.trans bz).trans bp).trans aN).trans aO).trans au).trans av).to')).move (Step.refl _ Nil) nilM qbI,(show TreeR _ (Imm F w dL [⟨b,o,[.int .i16 v,.slice ((D.f 0).A) ((D.f 0).l) ((D.f 0).c),.bool ((D.f 1).b),.bool ((D.f 2).b),.bool ((D.f 3).b),.map D.m],false⟩,⟨b6,0,[.int .i64 0,.slice none 0 0,.bool false,.slice (some ⟨aa,0,none⟩) 4 4,.slice ap D.u.length ar],true⟩,⟨aa,0,[.int .i64 0,.slice none 0 0,.bool (((D.f 0).A).isNone),.slice A0_ k0_ c0_,.slice none 0 0,.int .i64 ac,.slice ai ae.length aj,.bool af,.slice ak ag.length al,.slice am ah.length ao,.int .i64 ax,.slice aC ay.length aD,.bool az,.slice aE aA.length aF,.slice aG aB.length aH,.int .i64 aR,.slice aW aS.length aX,.bool aT,.slice aY aU.length aZ,.slice ba aV.length bd],true⟩,⟨bt,0,[.int .i64 0,.slice none 0 0,.bool false,.slice (some ⟨aa,0,none⟩) 4 4,.slice ap D.u.length ar],true⟩] [⟨A0_,c0_,37,5,k0_,xs0_⟩]) _ _ from (dD.move (((aN.trans aO).trans au).trans av).step immM (((aN.trans aO).trans au).trans av).to')).move (Step.refl _ Nil) nilM qbI,trivial⟩ ((show TagsR _ (Imm F w dL [⟨b,o,[.int .i16 v,.slice ((D.f 0).A) ((D.f 0).l) ((D.f 0).c),.bool ((D.f 1).b),.bool ((D.f 2).b),.bool ((D.f 3).b),.map D.m],false⟩,⟨b6,0,[.int .i64 0,.slice none 0 0,.bool false,.slice (some ⟨aa,0,none⟩) 4 4,.slice ap D.u.length ar],true⟩,⟨aa,0,[.int .i64 0,.slice none 0 0,.bool (((D.f 0).A).isNone),.slice A0_ k0_ c0_,.slice none 0 0,.int .i64 ac,.slice ai ae.length aj,.bool af,.slice ak ag.length al,.slice am ah.length ao,.int .i64 ax,.slice aC ay.length aD,.bool az,.slice aE aA.length aF,.slice aG aB.length aH,.int .i64 aR,.slice aW aS.length aX,.bool aT,.slice aY aU.length aZ,.slice ba aV.length bd],true⟩,⟨bt,0,[.int .i64 0,.slice none 0 0,.bool false,.slice (some ⟨aa,0,none⟩) 4 4,.slice ap D.u.length ar],true⟩] [⟨A0_,c0_,37,5,k0_,xs0_⟩]) _ _ _ from (eh.move (au.trans av).step immM (au.trans av).to')).move (Step.refl _ Nil) nilM qbI)
theorem qlR {t:Tree} (h:t.i64s) (i:Nat):(t.at_ i).i64s:=by
 cases t with
 | mk n s b l u =>
  have h1:∀ x ∈ l,x.i64s:=qe1 h.2
  show (l.getD i .zero).i64s
  rw [List.getD_eq_getElem?_getD]
  cases hx:l[i]? with
  | none=>exact ⟨by decide,trivial⟩
  | some x=>exact h1 x (List.mem_of_getElem? hx)
theorem qjz {t x:Tree} (h:t.i64s) {i:Nat} (hx:(qal t.L)[i]? = some x):x.i64s:=by
 cases t with
 | mk n s b l u =>
  have h1:∀ x ∈ l,x.i64s:=qe1 h.2
  exact h1 x (List.mem_of_mem_take (List.mem_of_getElem? hx))
theorem qcd {k x1 x2 x3 x5 x6 v:Int} {s:List Fld} {flex:Bool} {x:Tree}:Fld.pres (.mk k x1 x2 x3 (-1) x5 x6 s) v flex x = (decide (x1 ≤ v) && (decide (x2 < 0) || decide (v ≤ x2))):=by simp [Fld.pres,Fld.tag,Fld.has]
theorem qla {A:Option Addr} {v x1 x2 n x4 x5 x6:Int} {s:List Fld} {T' x:Tree} (h:(decide (v ≥ n) = true → A.isNone = T'.null) ∧ (decide (v ≥ n) = false → A.isNone = false)) (hn:T'.null = Fld.nul (.mk 8 x1 x2 n x4 x5 x6 s) v x):A.isNone = T'.null:=by
 cases hd:decide (v ≥ n) with
 | true=>exact h.1 hd
 | false =>
  rw [h.2 hd,hn]
  cases hf:Fld.nul (.mk 8 x1 x2 n x4 x5 x6 s) v x with
  | false=>rfl
  | true=>exact absurd (qi6 hf) (of_decide_eq_false hd)
section
variable {T:List Fld → Tree → Tree → Prop} {U:List Fld → Tree → Prop} {v k x1 x2 x3 x4 x5 x6 n:Int} {sub:List Fld} {x T':Tree} {A:Option Addr} {s:ByteArray} {o:Bs} {b:Bool}
theorem qlb (hn:n = qbc k x.N) (hk:k < 7:=by decide):ToF0 T v (.mk k x1 x2 (-1) x4 x5 x6 sub) x (.mk n [] false [] []):=by
 cases x
 exact ⟨fun h=>by omega,fun _ h=>by omega,fun _ h=>by omega,fun _ h=>by omega,fun _ _ _ _ _ _=>hn⟩
theorem qlS (hn:n = qbc k x.N) (hk:k < 7:=by decide):ToF T v (.mk k x1 x2 (-1) x4 x5 x6 sub) x (.mk n [] false [] []):=⟨qlb hn hk,fun h=>absurd (show k = 11 from h) (by omega)⟩
theorem qg5 (hb:b = decide (T'.N % 2 = 1)) (h1:T'.N = x.N):ToF T v (.mk 0 x1 x2 (-1) x4 x5 x6 sub) x (qfV b):=by
 refine qlS ?_
 subst hb
 rw [h1]
 show (if decide (x.N % 2 = 1) = true then (1:Int) else 0) = qbc 0 x.N
 simp only [qbc,if_true,decide_eq_true_eq]
 split <;> omega
theorem qlV (hs:o = qaD x.S):ToF0 T v (.mk 8 x1 x2 (-1) x4 x5 x6 sub) x (.mk 0 o false [] []):=by
 cases x with
 | mk a1 a2 a3 a4 a5 =>
  exact ⟨fun _=>nul_no.symm,fun _ _=>hs,fun _ h=>by omega,fun _ h=>by omega,fun _ _ h=>absurd rfl h⟩
theorem qj9 (h:s = bs (qbb T') ∧ A.isNone = T'.null) (h1:qbb T' = (if Fld.nul (.mk 8 x1 x2 x3 x4 x5 x6 sub) v x = true then [] else qaD x.S) ∧ T'.null = Fld.nul (.mk 8 x1 x2 x3 x4 x5 x6 sub) v x):ToF T v (.mk 8 x1 x2 x3 x4 x5 x6 sub) x (qib A s):=by
 refine ⟨?_,fun h=>absurd (show (8:Int) = 11 from h) (by decide)⟩
 have e:qib A s = .mk 0 (if Fld.nul (.mk 8 x1 x2 x3 x4 x5 x6 sub) v x = true then [] else qaD x.S) (Fld.nul (.mk 8 x1 x2 x3 x4 x5 x6 sub) v x) [] []:=by
  unfold qib
  rw [h.2,h1.2,h.1,qlY,h1.1]
  split <;> rfl
 rw [e]
 cases x with
 | mk a1 a2 a3 a4 a5 =>
  exact ⟨fun _=>rfl,fun hn _=>by rw [if_neg (by rw [hn]; decide)]; rfl,fun _ h=>by omega,fun _ h=>by omega,fun _ _ h=>absurd rfl h⟩
theorem qka (hs:o = qbd x.S):ToF0 T v (.mk 7 x1 x2 (-1) x4 x5 x6 sub) x (.mk 0 o false [] []):=by
 cases x with
 | mk a1 a2 a3 a4 a5 =>
  exact ⟨fun h=>by omega,fun _ h=>by omega,fun _ _=>hs,fun _ h=>by omega,fun _ h=>absurd rfl h⟩
theorem qlc (h:o = qat T'.S) (h1:T'.S = x.S):ToF T v (.mk 7 x1 x2 (-1) x4 x5 x6 sub) x (.mk 0 o false [] []) :=
 ⟨qka (by rw [h,qcS,h1]),fun h=>absurd (show (7:Int) = 11 from h) (by decide)⟩
theorem qkb {g:Tree} (hg:g.null = false) (h:T sub x g):ToF0 T v (.mk 10 x1 x2 (-1) x4 x5 x6 sub) x g:=by
 cases x with
 | mk a1 a2 a3 a4 a5 =>
  cases g with
  | mk g1 g2 g3 g4 g5 =>
   exact ⟨fun _=>by rw [nul_no]; exact hg,fun _ h=>by omega,fun _ h=>by omega,fun _ _=>h,fun _ _ _ _ h=>absurd rfl h⟩
theorem qld {l:Nat} {g:Nat → Tree} {W:Tree → Tree} (hb:x3 ≥ 0 ∧ v ≥ x3 → b = Fld.nul (.mk 11 x1 x2 x3 x4 x5 x6 sub) v x) (hl:l = (lst T').length) (hlst:lst T' = (if Fld.nul (.mk 11 x1 x2 x3 (-1) x5 x6 sub) v x = true then [] else qal x.L).map W)
  (he:∀ i y,i < l → (lst T').getD i .zero = W y → (qal x.L)[i]? = some y → ToF0 T v (.mk x6 x1 x2 (-1) (-1) x5 x6 sub) y (g i)):ToF T v (.mk 11 x1 x2 x3 x4 x5 x6 sub) x (.mk 0 [] b ((List.range l).map g) []):=by
 have hn:Fld.nul (.mk 11 x1 x2 x3 (-1) x5 x6 sub) v x = Fld.nul (.mk 11 x1 x2 x3 x4 x5 x6 sub) v x:=by cases x; rfl
 refine ⟨?_,fun _ hnn=>?_⟩
 ·cases x with
  | mk a1 a2 a3 a4 a5 =>
   refine ⟨fun h=>hb ?_,fun _ h=>by omega,fun _ h=>by omega,fun _ h=>by omega,fun _ _ _ _ _ h=>absurd rfl h⟩
   rcases h with h | h | h
   ·omega
   ·omega
   exact h
 rw [hn,hnn,if_neg (by decide)] at hlst
 have hll:l = (qal x.L).length:=by rw [hl,hlst,List.length_map]
 refine ⟨by show ((List.range l).map g).length = _; rw [List.length_map,List.length_range,hll],fun i y z hy hz=>?_⟩
 have hi:i < l:=by rw [hll]; exact (List.getElem?_eq_some_iff.1 hy).1
 have hz':((List.range l).map g)[i]? = some z:=hz
 rw [List.getElem?_map,List.getElem?_range hi] at hz'
 obtain rfl:=Option.some.inj hz'
 refine he i y hi ?_ hy
 rw [hlst,List.getD_eq_getElem?_getD,List.getElem?_map,hy]
 rfl
theorem us_num' (hn:n = qbc k x5) (hk:k < 7:=by decide):UsF U (.mk k x1 x2 x3 x4 x5 x6 sub) (.mk n [] false [] []):=⟨fun h=>by omega,fun h=>by omega,fun h=>by omega,fun h=>by omega,fun _ _ _ _ _=>hn⟩
theorem us_bool' (hn:b = decide (x5 % 2 = 1)):UsF U (.mk 0 x1 x2 x3 x4 x5 x6 sub) (qfV b):=by
 refine us_num' ?_
 subst hn
 show (if decide (x5 % 2 = 1) = true then (1:Int) else 0) = qbc 0 x5
 simp only [qbc,if_true,decide_eq_true_eq]
 split <;> omega
theorem us_uuid' (h:o = List.replicate 16 0):UsF U (.mk 7 x1 x2 x3 x4 x5 x6 sub) (.mk 0 o false [] []):=⟨fun h=>by omega,fun _=>h,fun h=>by omega,fun h=>by omega,fun h=>absurd rfl h⟩
end
theorem qcN (v:Int) (h0:0 ≤ v) (t Y:Tree) (hY:∀ i,Y.at_ i = (fitT v 7 [(Fld.mk 7 10 (-1) (-1) (-1) 0 0 []),(Fld.mk 8 0 (-1) 10 (-1) 0 0 [])] t).at_ i) (hU:Y.U = (fitT v 7 [(Fld.mk 7 10 (-1) (-1) (-1) 0 0 []),(Fld.mk 8 0 (-1) 10 (-1) 0 0 [])] t).U) (hi:t.i64s) (D:DV) (h:qa8 v D Y):qju v (decide (v ≥ qaz)) 7 [(Fld.mk 7 10 (-1) (-1) (-1) 0 0 []),(Fld.mk 8 0 (-1) 10 (-1) 0 0 [])] t (qa1 D):=by
 unfold qa8 at h
 obtain ⟨r0,r1,rU,_⟩:=h
 refine ⟨rfl,fun i f y hf hy=>?_,?_⟩
 ·match i,hf,hy with
  | 0,hf,hy =>
   obtain rfl:=Option.some.inj hf
   obtain rfl:=Option.some.inj hy
   have e:=hY 0
   refine ⟨fun hp=>?_,fun hp=>?_⟩
   ·have hc:(decide (v ≥ 10)) = true:=by rw [qcd] at hp; simp at hp ⊢; try omega
    have r:=(r0.1 hc)
    rw [e] at r
    exact qlc r (qko (v:=v) (d:=6) (t:=t) (show [(Fld.mk 7 10 (-1) (-1) (-1) 0 0 []),(Fld.mk 8 0 (-1) 10 (-1) 0 0 [])][0]? = _ from rfl) (by decide))
   have hc:(decide (v ≥ 10)) = false:=by rw [qcd] at hp; simp at hp ⊢; try omega
   have r:=(r0.2 hc)
   exact us_uuid' r
  | 1,hf,hy =>
   obtain rfl:=Option.some.inj hf
   obtain rfl:=Option.some.inj hy
   have e:=hY 1
   refine ⟨fun hp=>?_,fun hp=>?_⟩
   ·have hc:True:=trivial
    have r:=r1
    rw [e] at r
    exact qj9 ⟨r.1,qla r.2 ((qjZ (v:=v) (d:=6) (t:=t) (show [(Fld.mk 7 10 (-1) (-1) (-1) 0 0 []),(Fld.mk 8 0 (-1) 10 (-1) 0 0 [])][1]? = _ from rfl) (by decide))).2⟩ (qjZ (v:=v) (d:=6) (t:=t) (show [(Fld.mk 7 10 (-1) (-1) (-1) 0 0 []),(Fld.mk 8 0 (-1) 10 (-1) 0 0 [])][1]? = _ from rfl) (by decide))
   rw [qcd] at hp; simp at hp; omega
  | n_ + 2,hf,hy=>exact absurd (List.getElem?_eq_some_iff.1 hf).1 (by show ¬ n_ + 2 < 2; omega)
 show D.u = if (decide (v ≥ qaz)) = true then qb7 (qah [(Fld.mk 7 10 (-1) (-1) (-1) 0 0 []),(Fld.mk 8 0 (-1) 10 (-1) 0 0 [])] t.U) else []
 by_cases hc:(decide (v ≥ 9)) = true
 ·rw [if_pos (show (decide (v ≥ qaz)) = true from hc),rU.1 hc,hU,qiT]
 rw [if_neg (show ¬ (decide (v ≥ qaz)) = true from hc),rU.2 (by simpa using hc)]
theorem qdS (v:Int) (h0:0 ≤ v) (t Y:Tree) (hY:∀ i,Y.at_ i = (fitT v 8 sMetadataRequestF t).at_ i) (hU:Y.U = (fitT v 8 sMetadataRequestF t).U) (hi:t.i64s) (D:DV) (h:qbh v D Y):qju v (decide (v ≥ qaz)) 8 sMetadataRequestF t (qbi D):=by
 unfold qbh at h
 obtain ⟨r0,r1,r2,r3,rU,_⟩:=h
 refine ⟨rfl,fun i f y hf hy=>?_,?_⟩
 ·match i,hf,hy with
  | 0,hf,hy =>
   obtain rfl:=Option.some.inj hf
   obtain rfl:=Option.some.inj hy
   have e:=hY 0
   refine ⟨fun hp=>?_,fun hp=>?_⟩
   ·have hc:True:=trivial
    have r:=r0
    rw [e] at r
    obtain ⟨fn_,fl⟩:=qhr (v:=v) (d:=7) (t:=t) (show sMetadataRequestF[0]? = _ from rfl)
    refine qld (fun h_=>(r.1 (decide_eq_true h_.2)).trans fn_) r.2.1 fl fun i_ y_ hi_ hg_ hy_=>?_
    have q:=r.2.2 i_ hi_
    rw [hg_] at q
    exact qkb rfl (qcN v h0 y_ _ (fun i=>fit_10.1 i) fit_10.2 (qjz (qlR hi 0) hy_) _ q)
   rw [qcd] at hp; simp at hp; omega
  | 1,hf,hy =>
   obtain rfl:=Option.some.inj hf
   obtain rfl:=Option.some.inj hy
   have e:=hY 1
   refine ⟨fun hp=>?_,fun hp=>?_⟩
   ·have hc:(decide (v ≥ 4)) = true:=by rw [qcd] at hp; simp at hp ⊢; try omega
    have r:=(r1.1 hc)
    rw [e] at r
    exact qg5 r (qhY (v:=v) (d:=7) (t:=t) (show sMetadataRequestF[1]? = _ from rfl) (by decide))
   have hc:(decide (v ≥ 4)) = false:=by rw [qcd] at hp; simp at hp ⊢; try omega
   have r:=(r1.2 hc)
   exact us_bool' (by rw [r]; first | rfl | decide)
  | 2,hf,hy =>
   obtain rfl:=Option.some.inj hf
   obtain rfl:=Option.some.inj hy
   have e:=hY 2
   refine ⟨fun hp=>?_,fun hp=>?_⟩
   ·have hc:((if (decide (v ≥ 8)) = true then decide (v ≤ 10) else false)) = true:=by rw [qcd] at hp; simp at hp ⊢; try omega
    have r:=(r2.1 hc)
    rw [e] at r
    exact qg5 r (qhY (v:=v) (d:=7) (t:=t) (show sMetadataRequestF[2]? = _ from rfl) (by decide))
   have hc:((if (decide (v ≥ 8)) = true then decide (v ≤ 10) else false)) = false:=by rw [qcd] at hp; simp at hp ⊢; try omega
   have r:=(r2.2 hc)
   exact us_bool' (by rw [r]; first | rfl | decide)
  | 3,hf,hy =>
   obtain rfl:=Option.some.inj hf
   obtain rfl:=Option.some.inj hy
   have e:=hY 3
   refine ⟨fun hp=>?_,fun hp=>?_⟩
   ·have hc:(decide (v ≥ 8)) = true:=by rw [qcd] at hp; simp at hp ⊢; try omega
    have r:=(r3.1 hc)
    rw [e] at r
    exact qg5 r (qhY (v:=v) (d:=7) (t:=t) (show sMetadataRequestF[3]? = _ from rfl) (by decide))
   have hc:(decide (v ≥ 8)) = false:=by rw [qcd] at hp; simp at hp ⊢; try omega
   have r:=(r3.2 hc)
   exact us_bool' (by rw [r]; first | rfl | decide)
  | n_ + 4,hf,hy=>exact absurd (List.getElem?_eq_some_iff.1 hf).1 (by show ¬ n_ + 4 < 4; omega)
 show D.u = if (decide (v ≥ qaz)) = true then qb7 (qah sMetadataRequestF t.U) else []
 by_cases hc:(decide (v ≥ 9)) = true
 ·rw [if_pos (show (decide (v ≥ qaz)) = true from hc),rU.1 hc,hU,qiT]
 rw [if_neg (show ¬ (decide (v ≥ qaz)) = true from hc),rU.2 (by simpa using hc)]
set_option maxHeartbeats 4000000 in
theorem qeu (v:Int) (T:Tree) {A2:Option Addr} {c2:Nat} {w:World} {F:Nat → Nat → Prop} (hs_:Octs w F A2 c2 (qau (IntKind.i16.wrap v) T)) (hc:qbg T) (hkey:T.ranged) (hroom:(qau (IntKind.i16.wrap v) T).length + 16 ≤ 1099511627776) :
  Calls Tryz.prog 29 #[.int .i64 v,.slice A2 (qau (IntKind.i16.wrap v) T).length c2] w (fun e w'=>∃ D cs,e = .returned (.tuple #[.agg cs.toArray,.bool true]) ∧ TreeR w' (Fp NoF w) cs (qbi D) ∧ qbh (IntKind.i16.wrap v) D T ∧ Step w w' Nil):=by
 refine enter (n:=20) Tryz.func29 rfl Tryz.ntmps29 kz fun a hE=>?_
 have hW:=WOk.start w Nil
 have hsm2:=Slots.small hs_
 refine qae [0,1] kz ?_
 refine qak (qaK hW hE (d:=4) (cs:=[.int .i64 0,.slice none 0 0,.bool false,.slice none 0 0,.slice none 0 0]) kz fun b1 a2 w3 hb4 hz5 hF6 hW7 hE8=>?_)
 refine qai [1] [] [(0,.v (.int .i64 v)),(1,.v (.slice A2 ((qau (IntKind.i16.wrap v) T).length) c2)),(4,.p 0 0)] hW7 hE8 fun a9 aT=>?_
 refine qaf (qab ?_)
 refine qae [0,1] kz ?_
 refine qak (qbF aT (f:=71) (vs:=[]) (d:=7) (n':=3) kz Tryz.call71 Tryz.func71 rfl Tryz.ntmps71 kz fun cI aU=>?_)
 refine qan [] hW7 aU fun cJ aV=>?_
 refine qae [0] kz ?_
 refine qak (qaK hW7 aV (d:=1) (cs:=[.int .i16 0,.slice none 0 0,.bool false,.bool false,.bool false,.map none]) kz fun ab cK cL ce cm cq ac aW=>?_)
 refine qaf (qab ?_)
 refine qae [0] kz ?_
 refine qak (qbF aW (f:=120) (vs:=[.pointer (some ⟨ab,0,none⟩)]) (d:=2) (n':=2) kz Tryz.call120 Tryz.func120 rfl Tryz.ntmps120 kz fun cM aX=>?_)
 have aY:=aX.recast 0 (.v (.pointer (some ⟨ab,0,none⟩))) (.p 1 0) rfl rfl (Nat.le_of_ble_eq_true (n:=2) rfl)
 refine wp_skip ?_
 refine qbK aY ac.cells (v:=.tuple #[]) kz ?_
 refine ⟨_,rfl,fun cN aZ=>?_⟩
 have ba:EnvOk 3 [⟨b1,0,[.int .i64 0,.slice none 0 0,.bool false,.slice none 0 0,.slice none 0 0],true⟩,⟨ab,0,[.int .i16 0,.slice none 0 0,.bool false,.bool false,.bool false,.map none],true⟩] [(2,.v (.tuple #[])),(1,.p 1 0)] _:=aZ.places (⟨rfl,rfl,⟨rfl,rfl,trivial⟩⟩)
 refine qaf (qab ?_)
 refine qan [(0,.p 1 0)] ac ba fun cO bd=>?_
 refine wp_ret ?_
 refine qaF bd ac.cells (v:=.pointer (some ⟨ab,0,none⟩)) kz ?_
 refine ⟨_,rfl,fun cP bf=>?_⟩
 have bg:EnvOk 20 [⟨b1,0,[.int .i64 0,.slice none 0 0,.bool false,.slice none 0 0,.slice none 0 0],true⟩,⟨ab,0,[.int .i16 0,.slice none 0 0,.bool false,.bool false,.bool false,.map none],true⟩] [(7,.v (.pointer (some ⟨ab,0,none⟩))),(0,.v (.int .i64 v)),(1,.v (.slice A2 ((qau (IntKind.i16.wrap v) T).length) c2)),(4,.p 0 0)] _:=bf.places (⟨rfl,rfl,trivial⟩)
 have bh:=bg.recast 7 (.v (.pointer (some ⟨ab,0,none⟩))) (.p 1 0) rfl rfl (Nat.le_of_ble_eq_true (n:=2) rfl)
 have bi:=bh.pick (ks:=[0,1,4,7]) (env':=[(0,.v (.int .i64 v)),(1,.v (.slice A2 ((qau (IntKind.i16.wrap v) T).length) c2)),(4,.p 0 0),(7,.p 1 0)]) kz
 refine qai [1] [] [(0,.v (.int .i64 v)),(1,.v (.slice A2 ((qau (IntKind.i16.wrap v) T).length) c2)),(4,.p 0 0),(6,.p 1 0)] ac bi fun cQ bj=>?_
 refine qaf (qab ?_)
 refine qae [0,1,2,3] kz ?_
 refine qai [0,1,2] [3] [(1,.v (.slice A2 ((qau (IntKind.i16.wrap v) T).length) c2)),(4,.p 0 0),(6,.p 1 0),(8,.p 1 0),(10,.v (.int .i16 (IntKind.i16.wrap v)))] ac bj fun cR bk=>?_
 refine qak (qbF bk (f:=74) (vs:=[.pointer (some ⟨ab,0,none⟩),.int .i16 (IntKind.i16.wrap v)]) (d:=11) (n':=8) kz Tryz.call74 Tryz.func74 rfl Tryz.ntmps74 kz fun cS bn=>?_)
 have bo:=bn.recast 0 (.v (.pointer (some ⟨ab,0,none⟩))) (.p 1 0) rfl rfl (Nat.le_of_ble_eq_true (n:=2) rfl)
 refine qap [0,1,2,3,4] kz ?_
 refine qai [0,1,2,3] [4] [(5,.v (.int .i16 (IntKind.i16.wrap v))),(7,.p 1 0)] ac bo fun cT bp=>?_
 refine qak (qav ac bp (oi:=1) (cs:=[.int .i16 (IntKind.i16.wrap v),.slice none 0 0,.bool false,.bool false,.bool false,.map none]) kz fun cU cr ao bq=>?_)
 refine qaf ?_
 refine qbK bq ao.cells (v:=.tuple #[]) kz ?_
 refine ⟨_,rfl,fun cV bt=>?_⟩
 have bu:EnvOk 20 [⟨b1,0,[.int .i64 0,.slice none 0 0,.bool false,.slice none 0 0,.slice none 0 0],true⟩,⟨ab,0,[.int .i16 (IntKind.i16.wrap v),.slice none 0 0,.bool false,.bool false,.bool false,.map none],true⟩] [(11,.v (.tuple #[])),(1,.v (.slice A2 ((qau (IntKind.i16.wrap v) T).length) c2)),(4,.p 0 0),(6,.p 1 0),(8,.p 1 0),(10,.v (.int .i16 (IntKind.i16.wrap v)))] _:=bt.places (⟨rfl,rfl,⟨rfl,rfl,trivial⟩⟩)
 refine qaf (qab ?_)
 refine wp_seq ?_
 refine qae [0,1,2,3,4] kz ?_
 refine qai [0,1] [2,3,4] [(4,.p 0 0),(6,.p 1 0),(12,.p 1 0),(13,.v (.slice A2 ((qau (IntKind.i16.wrap v) T).length) c2))] ao bu fun cW bw=>?_
 have ah:=ao.addNil 5 1
 have cu:=ao.frNil 5 1
 refine qak (qaR ah bw (k:=0) (d:=14) (t:=22) (e:=5) (size:=1) (bytes:=1) (A:=none) (As:=A2) (m0:=0) (c:=0) (m:=((qau (IntKind.i16.wrap v) T).length)) (cs:=c2) (xs:=[]) (news:=bc (qau (IntKind.i16.wrap v) T)) kz kz rfl (hs_.move ah.step nilM ah.imm).src (hs_.move ah.step nilM ah.imm).cap (by first | omega | (simp only [List.length_nil]; omega) | (simp; omega)) fun af ag cX cY cw bx bz=>?_)
 have bA:(⟨af,ag,5,1,0 + (qau (IntKind.i16.wrap v) T).length,[] ++ bc (qau (IntKind.i16.wrap v) T)⟩:Rw) = brow af ag 5 (qau (IntKind.i16.wrap v) T):=by rw [List.nil_append,Nat.zero_add]
 obtain ⟨ap,cz⟩:=bx.rowEq 0 [brow af ag 5 (qau (IntKind.i16.wrap v) T)] bA
 have bB:=EnvOk.pick bz (ks:=[4,6,12,13,14]) (env':=[(4,.p 0 0),(6,.p 1 0),(12,.p 1 0),(13,.v (.slice A2 ((qau (IntKind.i16.wrap v) T).length) c2)),(14,.v (.slice af (0 + (qau (IntKind.i16.wrap v) T).length) ag))]) kz
 have bC:=bB.cast (env':=[(4,.p 0 0),(6,.p 1 0),(12,.p 1 0),(13,.v (.slice A2 ((qau (IntKind.i16.wrap v) T).length) c2)),(14,.v (.slice af ((qau (IntKind.i16.wrap v) T).length) ag))]) (by simp only [List.length_append,List.length_cons,List.length_nil,Nat.zero_add])
 refine qak (qbF bC (f:=75) (vs:=[.pointer (some ⟨ab,0,none⟩),.slice af ((qau (IntKind.i16.wrap v) T).length) ag]) (d:=15) (n':=8) kz Tryz.call75 Tryz.func75 rfl Tryz.ntmps75 kz fun cZ bD=>?_)
 have bE:=bD.recast 0 (.v (.pointer (some ⟨ab,0,none⟩))) (.p 1 0) rfl rfl (Nat.le_of_ble_eq_true (n:=2) rfl)
 refine qan [(0,.p 1 0),(1,.v (.slice af ((qau (IntKind.i16.wrap v) T).length) ag))] ap bE fun c5 bF=>?_
 refine qae [0,1,2,3] kz ?_
 refine qai [0,1] [2,3] [(5,.p 1 0),(6,.v (.slice af ((qau (IntKind.i16.wrap v) T).length) ag))] ap bF fun c6 bG=>?_
 have bH:=ap.giveUp (G:=NoF) 0 [] (show _ = some (brow af ag 5 (qau (IntKind.i16.wrap v) T)) from rfl) (by omega)
 obtain ⟨aH,cA⟩:=ap.cutR 0 []
 refine qak (qaj bG (f:=121) (vs:=[.pointer (some ⟨ab,0,none⟩),.slice af ((qau (IntKind.i16.wrap v) T).length) ag,.bool false]) (d:=7) kz Tryz.call121 (qeq (IntKind.i16.wrap v) T (Str.of aH 1 rfl) bH (qkY 1 rfl) hc hkey) ?_)
 rintro e_ da ⟨aa,rfl,bI,bJ,bK,aI⟩
 obtain ⟨ae,cB,bL⟩:=aH.wrote 1 [⟨b1,0,[.int .i64 0,.slice none 0 0,.bool false,.slice none 0 0,.slice none 0 0],true⟩,⟨ab,0,[.int .i16 (IntKind.i16.wrap v),.slice ((aa.f 0).A) ((aa.f 0).l) ((aa.f 0).c),.bool ((aa.f 1).b),.bool ((aa.f 2).b),.bool ((aa.f 3).b),.map aa.m],true⟩] rfl aI bI
 have bM:=qcM _ (Step.refl _ Nil) nilM bL bJ
 refine ⟨_,rfl,fun db bN=>?_⟩
 have bO:=(EnvOk.places (tb':=[⟨b1,0,[.int .i64 0,.slice none 0 0,.bool false,.slice none 0 0,.slice none 0 0],true⟩,⟨ab,0,[.int .i16 (IntKind.i16.wrap v),.slice ((aa.f 0).A) ((aa.f 0).l) ((aa.f 0).c),.bool ((aa.f 1).b),.bool ((aa.f 2).b),.bool ((aa.f 3).b),.map aa.m],true⟩]) bN (show Pl [⟨b1,0,[.int .i64 0,.slice none 0 0,.bool false,.slice none 0 0,.slice none 0 0],true⟩,⟨ab,0,[.int .i16 (IntKind.i16.wrap v),.slice none 0 0,.bool false,.bool false,.bool false,.map none],true⟩] [⟨b1,0,[.int .i64 0,.slice none 0 0,.bool false,.slice none 0 0,.slice none 0 0],true⟩,⟨ab,0,[.int .i16 (IntKind.i16.wrap v),.slice ((aa.f 0).A) ((aa.f 0).l) ((aa.f 0).c),.bool ((aa.f 1).b),.bool ((aa.f 2).b),.bool ((aa.f 3).b),.map aa.m],true⟩] from ⟨rfl,rfl,⟨rfl,rfl,trivial⟩⟩)).pk (env':=[(7,.v (.nilIface)),(5,.p 1 0),(6,.v (.slice af ((qau (IntKind.i16.wrap v) T).length) ag))])
 refine qai [3] [] [(4,.v (.nilIface))] ae bO fun dc bP=>?_
 refine qaf (qab ?_)
 refine wp_ret ?_
 refine qaF bP ae.cells (v:=.nilIface) kz ?_
 refine ⟨_,rfl,fun de bQ=>?_⟩
 have bR:EnvOk 20 [⟨b1,0,[.int .i64 0,.slice none 0 0,.bool false,.slice none 0 0,.slice none 0 0],true⟩,⟨ab,0,[.int .i16 (IntKind.i16.wrap v),.slice ((aa.f 0).A) ((aa.f 0).l) ((aa.f 0).c),.bool ((aa.f 1).b),.bool ((aa.f 2).b),.bool ((aa.f 3).b),.map aa.m],true⟩] [(15,.v (.nilIface)),(4,.p 0 0),(6,.p 1 0),(12,.p 1 0),(13,.v (.slice A2 ((qau (IntKind.i16.wrap v) T).length) c2)),(14,.v (.slice af ((qau (IntKind.i16.wrap v) T).length) ag))] _:=bQ.places (⟨rfl,rfl,⟨rfl,rfl,trivial⟩⟩)
 refine qai [4] [] [(4,.p 0 0),(6,.p 1 0),(16,.v (.bool false))] ae bR fun df aJ=>?_
 refine qaf (qab ?_)
 refine qao aJ (b:=false) kz rfl ?_
 refine wp_skip ?_
 refine qab ?_
 refine qae [0,1,2,3] kz ?_
 refine qai [0] [1,2,3] [(4,.p 0 0),(18,.p 1 0)] ae aJ fun dg bS=>?_
 have aK:=bS.recast 18 (.p 1 0) (.v (.pointer (some ⟨ab,0,none⟩))) rfl rfl trivial
 have aL:=aK.pk (env':=[(4,.p 0 0),(18,.v (.pointer (some ⟨ab,0,none⟩)))])
 have av:=WOk.strOut (G:=NoF) [⟨b1,0,[.int .i64 0,.slice none 0 0,.bool false,.slice none 0 0,.slice none 0 0],true⟩] ae
 obtain ⟨aM,ai,ar⟩:=ae.cutB aL 1 [⟨b1,0,[.int .i64 0,.slice none 0 0,.bool false,.slice none 0 0,.slice none 0 0],true⟩] [(4,.p 0 0),(18,.v (.pointer (some ⟨ab,0,none⟩)))]
 have aN:=qcM _ ar.step immM ar.to' bM
 refine qak (qaj aM (f:=76) (vs:=[.pointer (some ⟨ab,0,none⟩)]) (d:=19) kz Tryz.call76 (qet (IntKind.i16.wrap v) aa ab 0 _ _ av aN) ?_)
 rintro e_ cC ⟨bY,rfl,aO,aj⟩
 have ak:=aO.move (Step.refl _ Nil) nilM (ai.laid (G:=NoF) aj)
 obtain ⟨aw,ax,ay,az,aA,aB,aC,aD,aE,aF,aG,bZ,b8,al,bT,bU,cD,cE⟩:=ak.open_
 rw [al] at ak
 have bV:=bT.small
 have bW:=bU.small
 rw [al]
 refine ⟨_,rfl,fun cG aP=>?_⟩
 have aQ:=ai.next_nil aj
 have cd:=ai.frN aj
 refine qak (qav aQ aP (oi:=0) (cs:=[.int .i64 aw,.slice aB ax.length aC,.bool ay,.slice aD az.length aE,.slice aF aA.length aG]) kz fun bX au am aR=>?_)
 refine qai [3] [] [(4,.p 0 0),(5,.v (.bool true))] am aR fun cH aS=>?_
 refine qaf (qab ?_)
 refine wp_ret ?_
 refine qaF aS am.cells (v:=.tuple #[.agg #[.int .i64 aw,.slice aB ax.length aC,.bool ay,.slice aD az.length aE,.slice aF aA.length aG],.bool true]) kz ?_
 exact ⟨aa,_,rfl,(show TreeR _ (Imm NoF w bX [⟨b1,0,[.int .i64 aw,.slice aB ax.length aC,.bool ay,.slice aD az.length aE,.slice aF aA.length aG],true⟩] []) _ (qbi aa) from (ak.move au.step immM au.to')).move (Step.refl _ Nil) nilM qbI,bK,am.step⟩
theorem qed (v:Int) (T:Tree) (B:Bs) {A2:Option Addr} {c2:Nat} {w:World} {F:Nat → Nat → Prop} (hB:qau (IntKind.i16.wrap v) T = B) (hs_:Octs w F A2 c2 B) (hc:qbg T) (hkey:T.ranged) (hroom:B.length + 16 ≤ 1099511627776) :
  Calls Tryz.prog 29 #[.int .i64 v,.slice A2 B.length c2] w (fun e w'=>∃ D cs,e = .returned (.tuple #[.agg cs.toArray,.bool true]) ∧ TreeR w' (Fp NoF w) cs (qbi D) ∧ qbh (IntKind.i16.wrap v) D T ∧ Step w w' Nil):=by
 subst hB
 exact qeu v T hs_ hc hkey hroom
end Go.Proofs.YtcbpjflgkefidaaGreatDoor.ME