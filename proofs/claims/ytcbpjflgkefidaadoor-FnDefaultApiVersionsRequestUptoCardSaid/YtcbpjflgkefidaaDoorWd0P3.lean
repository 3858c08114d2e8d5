/- The texts of a claim, put together: the engine, the contracts, the law. Own work. -/
import Derived.Test.YtcbpjflgkefidaaDoorWd0P2
import Derived.Deep.LoopGhost
import Derived.Lib.ConvBytes
namespace Go.Proofs.YtcbpjflgkefidaaDoor.ME
open Go
open Go.RowKit
set_option linter.unusedVariables false
set_option linter.unusedSimpArgs false
set_option maxRecDepth 20000
structure TR (w w':World) (br p2 p3:Nat) (F:Nat → Nat → Prop) (A:Option Addr) (n c:Nat) (s:Bs) (m:Option Nat) (u:List (Int × Bs)):Prop where
 step:Step w w' (RdM br)
 old:br < w.heap.size
 new2:w.heap.size ≤ p2
 new3:w.heap.size ≤ p3
 ne:p2 ≠ p3
 rd:Str w' br [.slice A n c,.bool false]
 s2:Str w' p2 [.map none]
 s3:Str w' p3 [.map m]
 oct:RdS w' (fun b o=>F b o ∧ b < w.heap.size) A n c s
 own:OwnM w' (fun b o=>F b o ∧ b < w.heap.size) m u
 new:∀ r,m = some r → w.heap.size ≤ r
theorem TR.mne {w w':World} {br p2 p3:Nat} {F:Nat → Nat → Prop} {A:Option Addr} {n c:Nat} {s:Bs} {m:Option Nat} {u:List (Int × Bs)} (h:TR w w' br p2 p3 F A n c s m u):m ≠ some p2 ∧ m ≠ some p3:=by
 refine ⟨fun e=>?_,fun e=>?_⟩
 ·obtain ⟨es,clk,h1,_⟩:=h.own.some_ p2 e
  exact qdC (h.s2.at_ 0 _ rfl) h1 rfl
 obtain ⟨es,clk,h1,_⟩:=h.own.some_ p3 e
 exact qdC (h.s3.at_ 0 _ rfl) h1 rfl
theorem TR.read {w w' w1:World} {br p2 p3:Nat} {F:Nat → Nat → Prop} {A A':Option Addr} {n c n' c':Nat} {s s':Bs} {m:Option Nat} {u:List (Int × Bs)} (h:TR w w' br p2 p3 F A n c s m u) (hFd:∀ b o,F b o → ¬ RdM br b o) (hs:Str w1 br [.slice A' n' c',.bool false]) (hr:RdS w1 (fun b o=>F b o ∧ b < w.heap.size) A' n' c' s') (hst:Step w' w1 (RdM br)):TR w w1 br p2 p3 F A' n' c' s' m u:=by
 have ho:=h.old
 have h2:=h.new2
 have h3:=h.new3
 refine ⟨h.step.trans hst fun _ _ _ e=>e,ho,h2,h3,h.ne,hs,h.s2.move hst fun o e=>?_,h.s3.move hst fun o e=>?_,hr,h.own.move hst (fun b o hg _=>hFd b o hg.1) qaV (fun r o e he=>?_),h.new⟩
 ·have:=e.1; omega
 ·have:=e.1; omega
 have:=h.new r e; have:=he.1; omega
theorem TR.set {w w':World} {br p2 p3:Nat} {F:Nat → Nat → Prop} {A A1:Option Addr} {n c c1 j:Nat} {s x:Bs} {k:Int} {m:Option Nat} {u:List (Int × Bs)} (h:TR w w' br p2 p3 F A n c s m (u.take j)) (hsort:qcc u) (hj:u[j]? = some (k,x)) (hx:Octs w' (fun b o=>F b o ∧ b < w.heap.size) A1 c1 x) (hk:0 ≤ k ∧ k < 4294967296) :
  Calls Tryd.prog 60 [.pointer (some ⟨p3,0,none⟩),.int .u32 k,.slice A1 x.length c1].toArray w' (fun e w1=>e = .returned (.tuple #[]) ∧ ∃ r,TR w w1 br p2 p3 F A n c s (some r) (u.take (j + 1))):=by
 have hcell:w'.cell? ⟨p3,0,none⟩ = some (.map m):=h.s3.at_ 0 _ rfl
 have hfz:w'.frozen? ⟨p3,0,none⟩ = false:=h.s3.frz 0 (by simp)
 have hnew:=h.new
 have h2:=h.new2
 have h3:=h.new3
 have ho:=h.old
 have hsz:=h.step.size
 obtain ⟨m2,m3⟩:=h.mne
 refine (qh4 hcell hfz h.own hx hk (fun b' o' hg=>⟨fun e=>?_,fun e=>?_⟩) (fun b' o' hg=>Nat.lt_of_lt_of_le hg.2 hsz)).mono ?_
 ·have:=hg.2; omega
 ·have:=hnew b' e; have:=hg.2; omega
 rintro e w1 ⟨rfl,r,g1,g2,g3,g4,g5⟩
 rw [qg4 hsort hj] at g3
 refine ⟨rfl,r,h.step.trans g5 fun b o hl e=>?_,ho,h2,h3,h.ne,h.rd.move g5 fun o e=>?_,h.s2.move g5 fun o e=>?_,⟨fun i v hi=>?_,fun i hi=>?_⟩,⟨h.oct.len,Octs.move h.oct.oct g5 (fun b o hg _ e=>?_) qaV⟩,g3,fun r' hr'=>?_⟩
 ·rcases e with ⟨e1,_⟩ | e1
  ·omega
  have:=hnew b e1; omega
 ·rcases e with ⟨e1,_⟩ | e1
  ·omega
  have:=hnew br e1; omega
 ·rcases e with ⟨e1,_⟩ | e1
  ·exact h.ne e1
  exact m2 e1
 ·cases i with
  | zero =>
   simp only [List.getElem?_cons_zero,Option.some.injEq] at hi
   subst hi
   exact g1
  | succ i=>simp at hi
 ·have:i = 0:=by simp at hi; omega
  subst this
  exact g2
 ·have:=hg.2
  rcases e with ⟨e1,_⟩ | e1
  ·omega
  have:=hnew b e1; omega
 obtain rfl:=Option.some.inj hr'
 rcases g4 with g4 | g4
 ·exact hnew _ g4
 exact Nat.le_trans hsz g4
theorem qgz (x:Int × Bs) (u:List (Int × Bs)):qc0 (x :: u) = tagR x.1 x.2 ++ qc0 u:=by unfold qc0; rw [List.flatMap_cons]
theorem qgA {u:List (Int × Bs)} {j:Nat} {k:Int} {x:Bs} (h:u[j]? = some (k,x)) (rest:Bs):qc0 (u.drop j) ++ rest = uv k.toNat ++ (uv x.length ++ (x ++ (qc0 (u.drop (j + 1)) ++ rest))):=by
 obtain ⟨hlt,he⟩:=List.getElem?_eq_some_iff.1 h
 rw [List.drop_eq_getElem_cons hlt,he,qgz]
 simp only [tagR,List.append_assoc]
theorem qjZ (u:List (Int × Bs)) (rest:Bs) (hsort:qcc u) (hk:∀ x ∈ u,0 ≤ x.1 ∧ x.1 < 4294967296) (hul:u.length ≤ 1000000) (hxl:∀ x ∈ u,x.2.length < 4294967296) {br:Nat} {A:Option Addr} {m c:Nat} {w:World} {F:Nat → Nat → Prop} (hst:Str w br [.slice A m c,.bool false]) (hr:RdS w F A m c (uv u.length ++ (qc0 u ++ rest))) (hFd:∀ b o,F b o → ¬ RdM br b o) :
  Calls Tryd.prog 44 #[.pointer (some ⟨br,0,none⟩)] w (RdPost w br (Fp F w) rest fun v w'=>∃ mm,v = .agg #[.map mm] ∧ MapR w' (Fp F w) mm u):=by
 have hbr:br < w.heap.size:=World.lt_of_cell (hst.at_ 0 _ rfl)
 refine enter (n:=24) (vs:=[.pointer (some ⟨br,0,none⟩)]) Tryd.func44 rfl Tryd.ntmps44 kz fun a hE=>?_
 have hW:=WOk.start w Nil
 refine qac [0] kz ?_
 refine qaj (qaI hW hE (d:=2) (cs:=[.map none]) kz fun p2 a1 w1 hp2 hz2 hF1 hW1 hE1=>qae (qab ?_))
 refine qac [0] kz ?_
 refine qaj (qaI hW1 hE1 (d:=3) (cs:=[.map none]) kz fun p3 a2 w2 hp3 hz3 hF2 hW2 hE2=>qae (qab ?_))
 have hne:p2 ≠ p3:=by
  have h1:=hW1.live 0 _ rfl
  simp only at h1
  omega
 have hS:Step w w2 Nil:=hW2.step
 have hT0:TR w w2 br p2 p3 F A m c (uv u.length ++ (qc0 u ++ rest)) none (u.take 0):=by
  refine ⟨hS.mono fun _ _ _ h=>h.elim,hbr,hz2,hz3,hne,hst.move hS (fun _ h=>h),Str.of hW2 0 rfl,Str.of hW2 1 rfl,hr.move hS nilM (fun b o h hb=>⟨h,hb⟩),?_,fun _ h=>by cases h⟩
  rw [List.take_zero]
  exact OwnM.nil _ _
 refine wp_seq ?_
 have hE3:=(((hE2.recast 2 (.p 0 0) (.v (.pointer (some ⟨p2,0,none⟩))) rfl rfl trivial).recast 3 (.p 1 0) (.v (.pointer (some ⟨p3,0,none⟩))) rfl rfl trivial).pick (ks:=[0,2,3]) (env':=[(0,.v (.pointer (some ⟨br,0,none⟩))),(2,.v (.pointer (some ⟨p2,0,none⟩))),(3,.v (.pointer (some ⟨p3,0,none⟩)))]) kz).cutTb 0 kz
 have hWz:=WOk.start w2 Nil
 refine qac [0,1,2] kz ?_
 refine qai [0] [1,2] [(0,.v (.pointer (some ⟨br,0,none⟩))),(2,.v (.pointer (some ⟨p2,0,none⟩))),(3,.v (.pointer (some ⟨p3,0,none⟩))),(7,.v (.pointer (some ⟨br,0,none⟩)))] hWz hE3 fun a3 hE4=>?_
 have hFd':∀ b o,(F b o ∧ b < w.heap.size) → ¬ RdM br b o:=fun b o h=>hFd b o h.1
 refine qaj (qal hE4 (f:=55) (vs:=[.pointer (some ⟨br,0,none⟩)]) (d:=8) kz Tryd.call55 (qcY u.length (by omega) (qc0 u ++ rest) hT0.rd hT0.oct hFd') ?_)
 rintro e_ w3 ⟨_,A3,n3,c3,rfl,hs3,hr3,hst3,rfl⟩
 have hT1:=hT0.read hFd hs3 hr3 hst3
 refine ⟨_,rfl,fun a4 hE5=>?_⟩
 refine qai [2] [] [(0,.v (.pointer (some ⟨br,0,none⟩))),(2,.v (.pointer (some ⟨p2,0,none⟩))),(3,.v (.pointer (some ⟨p3,0,none⟩))),(4,.v (.int .u32 ((u.length:Nat):Int)))] (WOk.start w3 Nil) hE5 fun a5 hE6=>qae (qab ?_)
 refine wp_block ?_
 refine wp_loop_ghost (fun q a_ w_=>∃ (j:Nat) (m_:Option Nat) (A_:Option Addr) (n_ c_:Nat),q = u.length - j ∧ j ≤ u.length ∧ EnvOk 24 [] [(0,.v (.pointer (some ⟨br,0,none⟩))),(2,.v (.pointer (some ⟨p2,0,none⟩))),(3,.v (.pointer (some ⟨p3,0,none⟩))),(4,.v (.int .u32 ((u.length - j:Nat):Int)))] a_ ∧ TR w w_ br p2 p3 F A_ n_ c_ (qc0 (u.drop j) ++ rest) m_ (u.take j)) u.length
  ⟨0,none,A3,n3,c3,by omega,by omega,hE6,hT1⟩ ?_
 rintro q aq wq ⟨j,m_,A_,n_,c_,rfl,hj,hEq,hT⟩
 have hWq:=WOk.start wq Nil
 refine wp_seq (qao [(0,.v (.pointer (some ⟨br,0,none⟩))),(2,.v (.pointer (some ⟨p2,0,none⟩))),(3,.v (.pointer (some ⟨p3,0,none⟩))),(4,.v (.int .u32 ((u.length - j:Nat):Int))),(10,.v (.bool (decide (((u.length - j:Nat):Int) > 0))))] hWq hEq fun aq1 hE7=>?_)
 refine qax hE7 (b:=decide (((u.length - j:Nat):Int) > 0)) kz (fun hc=>?_) (fun hc=>?_)
 ·have hlt:j < u.length:=by have:=of_decide_eq_true hc; omega
  obtain ⟨⟨k,x⟩,hu⟩:∃ y,u[j]? = some y:=⟨_,List.getElem?_eq_getElem hlt⟩
  have hk':=hk (k,x) (List.mem_of_getElem? hu)
  have hx':=hxl (k,x) (List.mem_of_getElem? hu)
  dsimp only at hk' hx'
  have hoct:=hT.oct
  rw [qgA hu rest] at hoct
  refine wp_skip (qab (wp_seq (wp_block ?_)))
  refine qac [0,1,2,3,4,5] kz ?_
  refine qai [0] [1,2,3,4,5] [(0,.v (.pointer (some ⟨br,0,none⟩))),(2,.v (.pointer (some ⟨p2,0,none⟩))),(3,.v (.pointer (some ⟨p3,0,none⟩))),(4,.v (.int .u32 ((u.length - j:Nat):Int))),(13,.v (.pointer (some ⟨br,0,none⟩)))] hWq hE7 fun aq2 hE8=>?_
  refine qaj (qal hE8 (f:=55) (vs:=[.pointer (some ⟨br,0,none⟩)]) (d:=14) kz Tryd.call55 (qcY k.toNat (by omega) _ hT.rd hoct hFd') ?_)
  rintro e_ wa ⟨_,Aa,na,ca,rfl,hsa,hra,hsta,rfl⟩
  have hTa:=hT.read hFd hsa hra hsta
  refine ⟨_,rfl,fun aq3 hE9=>?_⟩
  refine qai [2] [3,4,5] [(0,.v (.pointer (some ⟨br,0,none⟩))),(2,.v (.pointer (some ⟨p2,0,none⟩))),(3,.v (.pointer (some ⟨p3,0,none⟩))),(4,.v (.int .u32 ((u.length - j:Nat):Int))),(14,.v (.int .u32 ((k.toNat:Nat):Int))),(15,.v (.pointer (some ⟨br,0,none⟩)))] (WOk.start wa Nil) hE9 fun aq4 hE10=>?_
  refine qaj (qal hE10 (f:=55) (vs:=[.pointer (some ⟨br,0,none⟩)]) (d:=16) kz Tryd.call55 (qcY x.length hx' _ hTa.rd hTa.oct hFd') ?_)
  rintro e_ wb ⟨_,Ab,nb,cb,rfl,hsb,hrb,hstb,rfl⟩
  have hTb:=hTa.read hFd hsb hrb hstb
  refine ⟨_,rfl,fun aq5 hE11=>?_⟩
  refine qai [4,5] [] [(0,.v (.pointer (some ⟨br,0,none⟩))),(2,.v (.pointer (some ⟨p2,0,none⟩))),(3,.v (.pointer (some ⟨p3,0,none⟩))),(4,.v (.int .u32 ((u.length - j:Nat):Int))),(5,.v (.int .u32 ((k.toNat:Nat):Int))),(6,.v (.int .u32 ((x.length:Nat):Int)))] (WOk.start wb Nil) hE11 fun aq6 hE12=>qae (qab ?_)
  refine qap [0,1,2,3,4,5] kz ?_
  refine qai [0,1,2,3] [4,5] [(0,.v (.pointer (some ⟨br,0,none⟩))),(2,.v (.pointer (some ⟨p2,0,none⟩))),(3,.v (.pointer (some ⟨p3,0,none⟩))),(4,.v (.int .u32 ((u.length - j:Nat):Int))),(17,.v (.int .u32 ((k.toNat:Nat):Int))),(18,.v (.pointer (some ⟨br,0,none⟩))),(20,.v (.int .i64 (IntKind.i64.wrap ((x.length:Nat):Int))))] (WOk.start wb Nil) hE12 fun aq7 hE13=>?_
  rw [show IntKind.i64.wrap ((x.length:Nat):Int) = ((x.length:Nat):Int) by rw [i64w]; omega,show ((k.toNat:Nat):Int) = k by omega] at hE13
  refine qaj (qal hE13 (f:=57) (vs:=[.pointer (some ⟨br,0,none⟩),.int .i64 ((x.length:Nat):Int)]) (d:=21) kz Tryd.call57 (qhI x _ hTb.rd hTb.oct hFd') ?_)
  rintro e_ wc ⟨_,Ac,nc,cc,rfl,hsc,hrc,hstc,Ax,rfl,hox⟩
  have hTc:=hTb.read hFd hsc hrc hstc
  refine ⟨_,rfl,fun aq8 hE14=>?_⟩
  refine qaj (qal hE14 (f:=60) (vs:=[.pointer (some ⟨p3,0,none⟩),.int .u32 k,.slice Ax x.length x.length]) (d:=22) kz Tryd.call60 (hTc.set hsort hu hox hk') ?_)
  rintro e_ wd ⟨rfl,r,hTd⟩
  refine ⟨_,rfl,fun aq9 hE15=>qae (qav (qab ?_))⟩
  refine qap [0,1,2] kz (qai [0,1,2] [] [(0,.v (.pointer (some ⟨br,0,none⟩))),(2,.v (.pointer (some ⟨p2,0,none⟩))),(3,.v (.pointer (some ⟨p3,0,none⟩))),(4,.v (.int .u32 (IntKind.u32.wrap (((u.length - j:Nat):Int) - 1))))] (WOk.start wd Nil) hE15 fun aqa hE16=>qae (qab ?_))
  rw [show IntKind.u32.wrap (((u.length - j:Nat):Int) - 1) = ((u.length - (j + 1):Nat):Int) by rw [qam]; omega] at hE16
  exact ⟨u.length - (j + 1),by omega,j + 1,some r,Ac,nc,cc,rfl,by omega,hE16,hTd⟩
 obtain rfl:j = u.length:=by have:=of_decide_eq_false hc; omega
 refine wp_exit (qau (qau (qaH (qab ?_))))
 rw [List.take_length,List.drop_length] at hT
 have hT':TR w wq br p2 p3 F A_ n_ c_ rest m_ u:=hT
 have h2:=hT'.new2
 have h3:=hT'.new3
 have hW9:WOk w (RdM br) wq ([] ++ [⟨p3,0,[.map m_],true⟩] ++ [⟨p2,0,[.map none],true⟩]) []:=by
  have hb:WOk w (RdM br) wq [] []:=⟨hT'.step,fun i o hi=>by simp at hi,fun i o hi=>by simp at hi,fun i o hi=>by simp at hi,fun i j o o' _ hi=>by simp at hi,fun i r hi=>by simp at hi,fun i r hi=>by simp at hi,fun i r hi=>by simp at hi,fun i j r r' _ hi=>by simp at hi⟩
  have h4:=hb.add ⟨p3,0,[.map m_],true⟩ (World.lt_of_cell (hT'.s3.at_ 0 _ rfl)) (fun j v hj=>by rw [Nat.zero_add]; exact hT'.s3.at_ j v hj) (fun _ j hj=>⟨.inl h3,by rw [Nat.zero_add]; exact hT'.s3.frz j hj⟩) (fun i o hi=>by simp at hi) (fun i r hi=>by simp at hi)
  refine h4.add ⟨p2,0,[.map none],true⟩ (World.lt_of_cell (hT'.s2.at_ 0 _ rfl)) (fun j v hj=>by rw [Nat.zero_add]; exact hT'.s2.at_ j v hj) (fun _ j hj=>⟨.inl h2,by rw [Nat.zero_add]; exact hT'.s2.frz j hj⟩) (fun i o hi _=>.inl ?_) (fun i r hi=>by simp at hi)
  have:o = ⟨p3,0,[.map m_],true⟩:=by
   have hm:=List.mem_of_getElem? hi
   simpa using hm
  rw [this]
  exact fun e=>hT'.ne e.symm
 have hE17:=(((hE7.retable [⟨p3,0,[.map m_],true⟩,⟨p2,0,[.map none],true⟩]).recast 3 (.v (.pointer (some ⟨p3,0,none⟩))) (.p 0 0) rfl rfl (Nat.le_of_ble_eq_true (n:=1) rfl)).recast 2 (.v (.pointer (some ⟨p2,0,none⟩))) (.p 1 0) rfl rfl (Nat.le_of_ble_eq_true (n:=2) rfl))
 have hE18:EnvOk 24 [⟨p3,0,[.map m_],true⟩,⟨p2,0,[.map none],true⟩] [(2,.p 1 0),(3,.p 0 0)] _:=hE17.pk
 refine qac [0,1] kz ?_
 refine qai [0] [1] [(2,.p 1 0),(23,.v (.agg #[.map m_]))] hW9 hE18 fun aqb hE19=>?_
 refine qaj (qaw hW9 hE19 (oi:=1) (cs:=[.map m_]) kz fun wz hFz hWz hEz=>qae (qab (wp_ret ?_)))
 have hsz:=hT'.step.size
 have hstz:Step wq wz (fun b o=>b = p2 ∨ b = p3):=hFz.step.mono fun b o _ ha=>by
  rcases ha with ⟨i,ob,hi,_,rfl,_⟩ | ⟨i,r,hi,_⟩
  ·have hm:=List.mem_of_getElem? hi
   simp only [List.nil_append,List.cons_append,List.mem_cons,List.not_mem_nil,or_false] at hm
   rcases hm with rfl | rfl
   ·exact .inr rfl
   exact .inl rfl
  simp at hi
 obtain ⟨m2,m3⟩:=hT'.mne
 refine qaG hEz hWz.cells (v:=.agg #[.map m_]) kz ⟨_,A_,n_,c_,rfl,hT'.rd.move hstz (fun o e=>?_),hT'.oct.move hstz (fun b o hg _ e=>?_) (fun b o hg _=>.inl hg.1),hWz.step,m_,rfl,?_⟩
 ·have:=hT'.old; rcases e with e | e <;> omega
 ·have:=hg.2; rcases e with e | e <;> omega
 refine (hT'.own.move hstz (fun b o hg _ e=>?_) qaV (fun r o e he=>?_)).map (fun b o h=>.inl h.1) (fun r o e=>.inr (hT'.new r e)) hsort hk
 ·have:=hg.2; rcases e with e | e <;> omega
 rcases he with he | he
 ·exact m2 (by rw [e,he])
 exact m3 (by rw [e,he])
theorem qj0 (X:Bs) (hX:X.length ≤ 32767) (rest:Bs)  {br:Nat} {A:Option Addr} {m c:Nat} {w:World} {F:Nat → Nat → Prop} (hst:Str w br [.slice A m c,.bool false]) (hr:RdS w F A m c ((be 2 ((X.length:Nat):Int)) ++ (X ++ rest))) (hFd:∀ b o,F b o → ¬ RdM br b o) :
  Calls Tryd.prog 38 #[.pointer (some ⟨br,0,none⟩)] w (RdPost w br (Fp F w) rest fun v w'=>v = .string (bs X)):=by
 refine enter (n:=11) Tryd.func38 rfl Tryd.ntmps38 kz fun a hE=>?_
 have hW:WOk w (RdM br) w [⟨br,0,[.slice A m c,.bool false],true⟩] []:=WOk.startStr hst
 have hE1:=(hE.grow ⟨br,0,[.slice A m c,.bool false],true⟩).recast 0 (.v (.pointer (some ⟨br,0,none⟩))) (.p 0 0) rfl rfl (Nat.le_of_ble_eq_true (n:=1) rfl)
 refine qao [(0,.p 0 0)] hW hE1 fun a1 hE2=>?_
 refine qac [0,1,2] kz ?_
 refine qai [0] [1,2] [(0,.p 0 0),(4,.p 0 0)] hW hE2 fun a3 hE4=>?_
 refine qaj (qal hE4 (f:=58) (vs:=[.pointer (some ⟨br,0,none⟩)]) (d:=5) kz Tryd.call58 (qhH ((X.length:Nat):Int) (X ++ rest) (Str.of hW 0 rfl) (hr.move hW.step (fun b_ o_ h_ _=>hFd b_ o_ h_) (hW.immM hFd)) (qco 0 rfl)) ?_)
 rintro e_ w5 ⟨_,A6,n7,c8,rfl,hs9,ag,ac,rfl⟩
 obtain ⟨aa,ah,aG⟩:=hW.wrote 0 [⟨br,0,[.slice A6 n7 c8,.bool false],true⟩] rfl ac hs9
 have ai:=ag.move (Step.refl _ Nil) nilM (fun b_ o_ h_ _=>ah.to b_ o_ h_)
 refine ⟨_,rfl,fun aJ aj=>?_⟩
 have ak:EnvOk 11 [⟨br,0,[.slice A6 n7 c8,.bool false],true⟩] [(5,.v (.int .i16 (IntKind.i16.wrap ((X.length:Nat):Int)))),(0,.p 0 0),(4,.p 0 0)] _:=aj.places (⟨rfl,rfl,trivial⟩)
 refine qai [2] [] [(0,.p 0 0),(3,.v (.int .i16 (IntKind.i16.wrap ((X.length:Nat):Int))))] aa ak fun aK al=>?_
 refine qae (qab ?_)
 refine qac [0,1,2,3,4,5] kz ?_
 refine qai [0,1,2] [3,4,5] [(6,.p 0 0),(8,.v (.int .i64 (IntKind.i64.wrap (IntKind.i16.wrap ((X.length:Nat):Int)))))] aa al fun aL am=>?_
 have ao:IntKind.i64.wrap (IntKind.i16.wrap ((X.length:Nat):Int)) = ((X.length:Nat):Int):=by simp only [i16w,i32w,i64w]; omega
 have ap:=EnvOk.pick am (ks:=[6,8]) (env':=[(6,.p 0 0),(8,.v (.int .i64 (IntKind.i64.wrap (IntKind.i16.wrap ((X.length:Nat):Int)))))]) kz
 have ar:=ap.cast (env':=[(6,.p 0 0),(8,.v (.int .i64 ((X.length:Nat):Int)))]) (by rw [ao])
 refine qaj (qal ar (f:=57) (vs:=[.pointer (some ⟨br,0,none⟩),.int .i64 ((X.length:Nat):Int)]) (d:=9) kz Tryd.call57 (qhI X (rest) (Str.of aa 0 rfl) ai (qco 0 rfl)) ?_)
 rintro e_ aM ⟨_,aD,aE,aF,rfl,au,av,ae,⟨aH,rfl,aw⟩⟩
 obtain ⟨ab,af,aI⟩:=aa.wrote 0 [⟨br,0,[.slice aD aE aF,.bool false],true⟩] rfl ae au
 have ax:=av.move (Step.refl _ Nil) nilM (fun b_ o_ h_ _=>af.to b_ o_ h_)
 refine ⟨_,rfl,fun aN ay=>?_⟩
 have az:EnvOk 11 [⟨br,0,[.slice aD aE aF,.bool false],true⟩] [(9,.v (.slice aH X.length X.length)),(6,.p 0 0),(8,.v (.int .i64 ((X.length:Nat):Int)))] _:=ay.places (⟨rfl,rfl,trivial⟩)
 have aA:=aw.move (Step.refl _ Nil) nilM (fun b_ o_ h_ _=>af.to b_ o_ h_)
 refine qaj (qdA az (src:=22) (dst:=9) (e:=5) (d:=10) kz kz kz kz aA fun aO aB=>?_)
 refine qai [5] [] [(2,.v (.string (bs X)))] ab aB fun aP aC=>?_
 refine qae (qab ?_)
 refine wp_ret ?_
 refine qaG aC ab.cells (v:=.string (bs X)) kz ?_
 refine ⟨_,_,_,_,rfl,Str.of ab 0 rfl,(ax.move (Step.refl _ Nil) nilM qbH),ab.step,rfl⟩
theorem qek (X:Bs) (hX:X.length ≤ 1000000) (rest:Bs)  {br:Nat} {A:Option Addr} {m c:Nat} {w:World} {F:Nat → Nat → Prop} (hst:Str w br [.slice A m c,.bool false]) (hr:RdS w F A m c ((uv (X.length + 1)) ++ (X ++ rest))) (hFd:∀ b o,F b o → ¬ RdM br b o) :
  Calls Tryd.prog 37 #[.pointer (some ⟨br,0,none⟩)] w (RdPost w br (Fp F w) rest fun v w'=>v = .string (bs X)):=by
 refine enter (n:=12) Tryd.func37 rfl Tryd.ntmps37 kz fun a hE=>?_
 have hW:WOk w (RdM br) w [⟨br,0,[.slice A m c,.bool false],true⟩] []:=WOk.startStr hst
 have hE1:=(hE.grow ⟨br,0,[.slice A m c,.bool false],true⟩).recast 0 (.v (.pointer (some ⟨br,0,none⟩))) (.p 0 0) rfl rfl (Nat.le_of_ble_eq_true (n:=1) rfl)
 refine qao [(0,.p 0 0)] hW hE1 fun a1 hE2=>?_
 refine qac [0,1,2,3,4] kz ?_
 refine qai [0] [1,2,3,4] [(0,.p 0 0),(4,.p 0 0)] hW hE2 fun a3 hE4=>?_
 refine qaj (qal hE4 (f:=55) (vs:=[.pointer (some ⟨br,0,none⟩)]) (d:=5) kz Tryd.call55 (qcY (X.length + 1) (by omega) (X ++ rest) (Str.of hW 0 rfl) (hr.move hW.step (fun b_ o_ h_ _=>hFd b_ o_ h_) (hW.immM hFd)) (qco 0 rfl)) ?_)
 rintro e_ w5 ⟨_,A6,n7,c8,rfl,hs9,ag,ac,rfl⟩
 obtain ⟨aa,ah,aG⟩:=hW.wrote 0 [⟨br,0,[.slice A6 n7 c8,.bool false],true⟩] rfl ac hs9
 have ai:=ag.move (Step.refl _ Nil) nilM (fun b_ o_ h_ _=>ah.to b_ o_ h_)
 refine ⟨_,rfl,fun aJ aj=>?_⟩
 have ak:EnvOk 12 [⟨br,0,[.slice A6 n7 c8,.bool false],true⟩] [(5,.v (.int .u32 ((X.length + 1:Nat):Int))),(0,.p 0 0),(4,.p 0 0)] _:=aj.places (⟨rfl,rfl,trivial⟩)
 refine qai [2,3,4] [] [(0,.p 0 0),(3,.v (.int .i64 (IntKind.i64.wrap ((IntKind.i64.wrap ((X.length + 1:Nat):Int)) - 1))))] aa ak fun aK al=>?_
 refine qae (qab ?_)
 refine qac [0,1,2,3,4] kz ?_
 refine qai [0,1] [2,3,4] [(8,.p 0 0),(9,.v (.int .i64 (IntKind.i64.wrap ((IntKind.i64.wrap ((X.length + 1:Nat):Int)) - 1))))] aa al fun aL am=>?_
 have ao:IntKind.i64.wrap ((IntKind.i64.wrap ((X.length + 1:Nat):Int)) - 1) = ((X.length:Nat):Int):=by simp only [i16w,i32w,i64w]; omega
 have ap:=EnvOk.pick am (ks:=[8,9]) (env':=[(8,.p 0 0),(9,.v (.int .i64 (IntKind.i64.wrap ((IntKind.i64.wrap ((X.length + 1:Nat):Int)) - 1))))]) kz
 have ar:=ap.cast (env':=[(8,.p 0 0),(9,.v (.int .i64 ((X.length:Nat):Int)))]) (by rw [ao])
 refine qaj (qal ar (f:=57) (vs:=[.pointer (some ⟨br,0,none⟩),.int .i64 ((X.length:Nat):Int)]) (d:=10) kz Tryd.call57 (qhI X (rest) (Str.of aa 0 rfl) ai (qco 0 rfl)) ?_)
 rintro e_ aM ⟨_,aD,aE,aF,rfl,au,av,ae,⟨aH,rfl,aw⟩⟩
 obtain ⟨ab,af,aI⟩:=aa.wrote 0 [⟨br,0,[.slice aD aE aF,.bool false],true⟩] rfl ae au
 have ax:=av.move (Step.refl _ Nil) nilM (fun b_ o_ h_ _=>af.to b_ o_ h_)
 refine ⟨_,rfl,fun aN ay=>?_⟩
 have az:EnvOk 12 [⟨br,0,[.slice aD aE aF,.bool false],true⟩] [(10,.v (.slice aH X.length X.length)),(8,.p 0 0),(9,.v (.int .i64 ((X.length:Nat):Int)))] _:=ay.places (⟨rfl,rfl,trivial⟩)
 have aA:=aw.move (Step.refl _ Nil) nilM (fun b_ o_ h_ _=>af.to b_ o_ h_)
 refine qaj (qdA az (src:=22) (dst:=9) (e:=5) (d:=11) kz kz kz kz aA fun aO aB=>?_)
 refine qai [4] [] [(2,.v (.string (bs X)))] ab aB fun aP aC=>?_
 refine qae (qab ?_)
 refine wp_ret ?_
 refine qaG aC ab.cells (v:=.string (bs X)) kz ?_
 refine ⟨_,_,_,_,rfl,Str.of ab 0 rfl,(ax.move (Step.refl _ Nil) nilM qbH),ab.step,rfl⟩
theorem qdS (X:Bs) (rest:Bs)  {br:Nat} {A:Option Addr} {m c:Nat} {w:World} {F:Nat → Nat → Prop} (hst:Str w br [.slice A m c,.bool false]) (hr:RdS w F A m c ((be 2 (-1)) ++ rest)) (hFd:∀ b o,F b o → ¬ RdM br b o) :
  Calls Tryd.prog 42 #[.pointer (some ⟨br,0,none⟩)] w (RdPost w br (Fp F w) rest fun v w'=>∃ A2,v = .pointer A2 ∧ (∀ ad,A2 = some ad → ∃ b o,ad = ⟨b,o,none⟩ ∧ AtF w' (Fp F w) b o [.string (bs X)]) ∧ A2.isNone = true):=by
 refine enter (n:=14) Tryd.func42 rfl Tryd.ntmps42 kz fun a hE=>?_
 have hW:WOk w (RdM br) w [⟨br,0,[.slice A m c,.bool false],true⟩] []:=WOk.startStr hst
 have hE1:=(hE.grow ⟨br,0,[.slice A m c,.bool false],true⟩).recast 0 (.v (.pointer (some ⟨br,0,none⟩))) (.p 0 0) rfl rfl (Nat.le_of_ble_eq_true (n:=1) rfl)
 refine qao [(0,.p 0 0)] hW hE1 fun a1 hE2=>?_
 refine qac [0,1,2] kz ?_
 refine qai [0] [1,2] [(0,.p 0 0),(5,.p 0 0)] hW hE2 fun a3 hE4=>?_
 refine qaj (qal hE4 (f:=58) (vs:=[.pointer (some ⟨br,0,none⟩)]) (d:=6) kz Tryd.call58 (qhH (-1) (rest) (Str.of hW 0 rfl) (hr.move hW.step (fun b_ o_ h_ _=>hFd b_ o_ h_) (hW.immM hFd)) (qco 0 rfl)) ?_)
 rintro e_ w5 ⟨_,A6,n7,c8,rfl,hs9,ae,ab,rfl⟩
 obtain ⟨aa,af,al⟩:=hW.wrote 0 [⟨br,0,[.slice A6 n7 c8,.bool false],true⟩] rfl ab hs9
 have ag:=ae.move (Step.refl _ Nil) nilM (fun b_ o_ h_ _=>af.to b_ o_ h_)
 refine ⟨_,rfl,fun am ah=>?_⟩
 have ai:EnvOk 14 [⟨br,0,[.slice A6 n7 c8,.bool false],true⟩] [(6,.v (.int .i16 (IntKind.i16.wrap (-1)))),(0,.p 0 0),(5,.p 0 0)] _:=ah.places (⟨rfl,rfl,trivial⟩)
 refine qai [2] [] [(0,.p 0 0),(3,.v (.int .i16 (IntKind.i16.wrap (-1))))] aa ai fun ao aj=>?_
 refine qae (qab ?_)
 refine wp_seq ?_
 refine qao [(0,.p 0 0),(3,.v (.int .i16 (IntKind.i16.wrap (-1)))),(8,.v (.bool (decide ((IntKind.i16.wrap (-1)) < 0))))] aa aj fun ap ac=>?_
 refine qbb ac (b:=decide ((IntKind.i16.wrap (-1)) < 0)) kz (decide_eq_true (by simp only [i16w,i32w,i64w]; omega)) ?_
 refine qao [(2,.v (.pointer none))] aa ac fun ar ak=>?_
 refine wp_ret ?_
 refine qat ?_
 refine qaG ak aa.cells (v:=.pointer none) kz ?_
 refine ⟨_,_,_,_,rfl,Str.of aa 0 rfl,(ag.move (Step.refl _ Nil) nilM qbH),aa.step,_,rfl,(fun ad h_=>by cases h_),rfl⟩
theorem qdT (X:Bs) (hX:X.length ≤ 32767) (rest:Bs)  {br:Nat} {A:Option Addr} {m c:Nat} {w:World} {F:Nat → Nat → Prop} (hst:Str w br [.slice A m c,.bool false]) (hr:RdS w F A m c ((be 2 ((X.length:Nat):Int)) ++ (X ++ rest))) (hFd:∀ b o,F b o → ¬ RdM br b o) :
  Calls Tryd.prog 42 #[.pointer (some ⟨br,0,none⟩)] w (RdPost w br (Fp F w) rest fun v w'=>∃ A2,v = .pointer A2 ∧ (∀ ad,A2 = some ad → ∃ b o,ad = ⟨b,o,none⟩ ∧ AtF w' (Fp F w) b o [.string (bs X)]) ∧ A2.isNone = false):=by
 refine enter (n:=14) Tryd.func42 rfl Tryd.ntmps42 kz fun a hE=>?_
 have hW:WOk w (RdM br) w [⟨br,0,[.slice A m c,.bool false],true⟩] []:=WOk.startStr hst
 have hE1:=(hE.grow ⟨br,0,[.slice A m c,.bool false],true⟩).recast 0 (.v (.pointer (some ⟨br,0,none⟩))) (.p 0 0) rfl rfl (Nat.le_of_ble_eq_true (n:=1) rfl)
 refine qao [(0,.p 0 0)] hW hE1 fun a1 hE2=>?_
 refine qac [0,1,2] kz ?_
 refine qai [0] [1,2] [(0,.p 0 0),(5,.p 0 0)] hW hE2 fun a3 hE4=>?_
 refine qaj (qal hE4 (f:=58) (vs:=[.pointer (some ⟨br,0,none⟩)]) (d:=6) kz Tryd.call58 (qhH ((X.length:Nat):Int) (X ++ rest) (Str.of hW 0 rfl) (hr.move hW.step (fun b_ o_ h_ _=>hFd b_ o_ h_) (hW.immM hFd)) (qco 0 rfl)) ?_)
 rintro e_ w5 ⟨_,A6,n7,c8,rfl,hs9,aj,ac,rfl⟩
 obtain ⟨aa,ak,aN⟩:=hW.wrote 0 [⟨br,0,[.slice A6 n7 c8,.bool false],true⟩] rfl ac hs9
 have al:=aj.move (Step.refl _ Nil) nilM (fun b_ o_ h_ _=>ak.to b_ o_ h_)
 refine ⟨_,rfl,fun aT am=>?_⟩
 have ao:EnvOk 14 [⟨br,0,[.slice A6 n7 c8,.bool false],true⟩] [(6,.v (.int .i16 (IntKind.i16.wrap ((X.length:Nat):Int)))),(0,.p 0 0),(5,.p 0 0)] _:=am.places (⟨rfl,rfl,trivial⟩)
 refine qai [2] [] [(0,.p 0 0),(3,.v (.int .i16 (IntKind.i16.wrap ((X.length:Nat):Int))))] aa ao fun aU ap=>?_
 refine qae (qab ?_)
 refine wp_seq ?_
 refine qao [(0,.p 0 0),(3,.v (.int .i16 (IntKind.i16.wrap ((X.length:Nat):Int)))),(8,.v (.bool (decide ((IntKind.i16.wrap ((X.length:Nat):Int)) < 0))))] aa ap fun aV ae=>?_
 refine qar ae (b:=decide ((IntKind.i16.wrap ((X.length:Nat):Int)) < 0)) kz (decide_eq_false (by simp only [i16w,i32w,i64w]; omega)) ?_
 refine wp_skip ?_
 refine qab ?_
 refine qac [0,1,2,3,4,5,6] kz ?_
 refine qai [0,1,2] [3,4,5,6] [(9,.p 0 0),(11,.v (.int .i64 (IntKind.i64.wrap (IntKind.i16.wrap ((X.length:Nat):Int)))))] aa ae fun aW ar=>?_
 have au:IntKind.i64.wrap (IntKind.i16.wrap ((X.length:Nat):Int)) = ((X.length:Nat):Int):=by simp only [i16w,i32w,i64w]; omega
 have av:=EnvOk.pick ar (ks:=[9,11]) (env':=[(9,.p 0 0),(11,.v (.int .i64 (IntKind.i64.wrap (IntKind.i16.wrap ((X.length:Nat):Int)))))]) kz
 have aw:=av.cast (env':=[(9,.p 0 0),(11,.v (.int .i64 ((X.length:Nat):Int)))]) (by rw [au])
 refine qaj (qal aw (f:=57) (vs:=[.pointer (some ⟨br,0,none⟩),.int .i64 ((X.length:Nat):Int)]) (d:=12) kz Tryd.call57 (qhI X (rest) (Str.of aa 0 rfl) al (qco 0 rfl)) ?_)
 rintro e_ aX ⟨_,aK,aL,aM,rfl,ax,ay,af,⟨aO,rfl,az⟩⟩
 obtain ⟨aA,ag,aP⟩:=aa.wrote 0 [⟨br,0,[.slice aK aL aM,.bool false],true⟩] rfl af ax
 have aB:=ay.move (Step.refl _ Nil) nilM (fun b_ o_ h_ _=>ag.to b_ o_ h_)
 refine ⟨_,rfl,fun aY aC=>?_⟩
 have aD:EnvOk 14 [⟨br,0,[.slice aK aL aM,.bool false],true⟩] [(12,.v (.slice aO X.length X.length)),(9,.p 0 0),(11,.v (.int .i64 ((X.length:Nat):Int)))] _:=aC.places (⟨rfl,rfl,trivial⟩)
 have aE:=az.move (Step.refl _ Nil) nilM (fun b_ o_ h_ _=>ag.to b_ o_ h_)
 refine qaj (qdA aD (src:=22) (dst:=9) (e:=5) (d:=13) kz kz kz kz aE fun aZ aF=>?_)
 refine qaj (qaI aA aF (d:=4) (cs:=[.string ByteArray.empty]) kz fun aQ ba bd aR aS ah aG aH=>?_)
 refine qaj (qaw aG aH (oi:=1) (cs:=[.string (bs X)]) kz fun bf ai ab aI=>?_)
 refine qae (qab ?_)
 refine qao [(2,.p 1 0)] ab aI fun bg aJ=>?_
 refine wp_ret ?_
 refine qaG aJ ab.cells (v:=.pointer (some ⟨aQ,0,none⟩)) kz ?_
 refine ⟨_,_,_,_,rfl,Str.of ab 0 rfl,((aB.move (ah.trans ai).step immM (ah.trans ai).to').move (Step.refl _ Nil) nilM qbH),ab.step,_,rfl,(fun ad h_=>by
  obtain rfl:=Option.some.inj h_
  exact ⟨_,0,rfl,fun j v_ hj=>⟨.inr ‹_›,ab.cells 1 _ rfl j v_ hj⟩⟩),rfl⟩
theorem qeh (nul:Bool) (X:Bs) (hX:X.length ≤ 32767) (rest:Bs) {br:Nat} {A:Option Addr} {m c:Nat} {w:World} {F:Nat → Nat → Prop} (hst:Str w br [.slice A m c,.bool false]) (hr:RdS w F A m c ((if nul = true then be 2 (-1) else be 2 ((X.length:Nat):Int) ++ X) ++ rest)) (hFd:∀ b o,F b o → ¬ RdM br b o) :
  Calls Tryd.prog 42 #[.pointer (some ⟨br,0,none⟩)] w (RdPost w br (Fp F w) rest fun v w'=>∃ A2,v = .pointer A2 ∧ (∀ ad,A2 = some ad → ∃ b o,ad = ⟨b,o,none⟩ ∧ AtF w' (Fp F w) b o [.string (bs X)]) ∧ A2.isNone = nul):=by
 cases nul
 ·exact qdT X hX rest hst (hr.cast (by simp only [Bool.false_eq_true,if_false,List.append_assoc])) hFd
 exact qdS X rest hst (hr.cast (by simp only [if_true])) hFd
theorem qcj (X:Bs) (rest:Bs)  {br:Nat} {A:Option Addr} {m c:Nat} {w:World} {F:Nat → Nat → Prop} (hst:Str w br [.slice A m c,.bool false]) (hr:RdS w F A m c ((uv 0) ++ rest)) (hFd:∀ b o,F b o → ¬ RdM br b o) :
  Calls Tryd.prog 40 #[.pointer (some ⟨br,0,none⟩)] w (RdPost w br (Fp F w) rest fun v w'=>∃ A2,v = .pointer A2 ∧ (∀ ad,A2 = some ad → ∃ b o,ad = ⟨b,o,none⟩ ∧ AtF w' (Fp F w) b o [.string (bs X)]) ∧ A2.isNone = true):=by
 refine enter (n:=15) Tryd.func40 rfl Tryd.ntmps40 kz fun a hE=>?_
 have hW:WOk w (RdM br) w [⟨br,0,[.slice A m c,.bool false],true⟩] []:=WOk.startStr hst
 have hE1:=(hE.grow ⟨br,0,[.slice A m c,.bool false],true⟩).recast 0 (.v (.pointer (some ⟨br,0,none⟩))) (.p 0 0) rfl rfl (Nat.le_of_ble_eq_true (n:=1) rfl)
 refine qao [(0,.p 0 0)] hW hE1 fun a1 hE2=>?_
 refine qac [0,1,2,3,4] kz ?_
 refine qai [0] [1,2,3,4] [(0,.p 0 0),(5,.p 0 0)] hW hE2 fun a3 hE4=>?_
 refine qaj (qal hE4 (f:=55) (vs:=[.pointer (some ⟨br,0,none⟩)]) (d:=6) kz Tryd.call55 (qcY 0 (by omega) (rest) (Str.of hW 0 rfl) (hr.move hW.step (fun b_ o_ h_ _=>hFd b_ o_ h_) (hW.immM hFd)) (qco 0 rfl)) ?_)
 rintro e_ w5 ⟨_,A6,n7,c8,rfl,hs9,ae,ab,rfl⟩
 obtain ⟨aa,af,al⟩:=hW.wrote 0 [⟨br,0,[.slice A6 n7 c8,.bool false],true⟩] rfl ab hs9
 have ag:=ae.move (Step.refl _ Nil) nilM (fun b_ o_ h_ _=>af.to b_ o_ h_)
 refine ⟨_,rfl,fun am ah=>?_⟩
 have ai:EnvOk 15 [⟨br,0,[.slice A6 n7 c8,.bool false],true⟩] [(6,.v (.int .u32 ((0:Nat):Int))),(0,.p 0 0),(5,.p 0 0)] _:=ah.places (⟨rfl,rfl,trivial⟩)
 refine qai [2,3,4] [] [(0,.p 0 0),(3,.v (.int .i64 (IntKind.i64.wrap ((IntKind.i64.wrap ((0:Nat):Int)) - 1))))] aa ai fun ao aj=>?_
 refine qae (qab ?_)
 refine wp_seq ?_
 refine qao [(0,.p 0 0),(3,.v (.int .i64 (IntKind.i64.wrap ((IntKind.i64.wrap ((0:Nat):Int)) - 1)))),(10,.v (.bool (decide ((IntKind.i64.wrap ((IntKind.i64.wrap ((0:Nat):Int)) - 1)) < 0))))] aa aj fun ap ac=>?_
 refine qbb ac (b:=decide ((IntKind.i64.wrap ((IntKind.i64.wrap ((0:Nat):Int)) - 1)) < 0)) kz (decide_eq_true (by simp only [i16w,i32w,i64w]; omega)) ?_
 refine qao [(2,.v (.pointer none))] aa ac fun ar ak=>?_
 refine wp_ret ?_
 refine qat ?_
 refine qaG ak aa.cells (v:=.pointer none) kz ?_
 refine ⟨_,_,_,_,rfl,Str.of aa 0 rfl,(ag.move (Step.refl _ Nil) nilM qbH),aa.step,_,rfl,(fun ad h_=>by cases h_),rfl⟩
theorem qck (X:Bs) (hX:X.length ≤ 1000000) (rest:Bs)  {br:Nat} {A:Option Addr} {m c:Nat} {w:World} {F:Nat → Nat → Prop} (hst:Str w br [.slice A m c,.bool false]) (hr:RdS w F A m c ((uv (X.length + 1)) ++ (X ++ rest))) (hFd:∀ b o,F b o → ¬ RdM br b o) :
  Calls Tryd.prog 40 #[.pointer (some ⟨br,0,none⟩)] w (RdPost w br (Fp F w) rest fun v w'=>∃ A2,v = .pointer A2 ∧ (∀ ad,A2 = some ad → ∃ b o,ad = ⟨b,o,none⟩ ∧ AtF w' (Fp F w) b o [.string (bs X)]) ∧ A2.isNone = false):=by
 refine enter (n:=15) Tryd.func40 rfl Tryd.ntmps40 kz fun a hE=>?_
 have hW:WOk w (RdM br) w [⟨br,0,[.slice A m c,.bool false],true⟩] []:=WOk.startStr hst
 have hE1:=(hE.grow ⟨br,0,[.slice A m c,.bool false],true⟩).recast 0 (.v (.pointer (some ⟨br,0,none⟩))) (.p 0 0) rfl rfl (Nat.le_of_ble_eq_true (n:=1) rfl)
 refine qao [(0,.p 0 0)] hW hE1 fun a1 hE2=>?_
 refine qac [0,1,2,3,4] kz ?_
 refine qai [0] [1,2,3,4] [(0,.p 0 0),(5,.p 0 0)] hW hE2 fun a3 hE4=>?_
 refine qaj (qal hE4 (f:=55) (vs:=[.pointer (some ⟨br,0,none⟩)]) (d:=6) kz Tryd.call55 (qcY (X.length + 1) (by omega) (X ++ rest) (Str.of hW 0 rfl) (hr.move hW.step (fun b_ o_ h_ _=>hFd b_ o_ h_) (hW.immM hFd)) (qco 0 rfl)) ?_)
 rintro e_ w5 ⟨_,A6,n7,c8,rfl,hs9,aj,ac,rfl⟩
 obtain ⟨aa,ak,aN⟩:=hW.wrote 0 [⟨br,0,[.slice A6 n7 c8,.bool false],true⟩] rfl ac hs9
 have al:=aj.move (Step.refl _ Nil) nilM (fun b_ o_ h_ _=>ak.to b_ o_ h_)
 refine ⟨_,rfl,fun aT am=>?_⟩
 have ao:EnvOk 15 [⟨br,0,[.slice A6 n7 c8,.bool false],true⟩] [(6,.v (.int .u32 ((X.length + 1:Nat):Int))),(0,.p 0 0),(5,.p 0 0)] _:=am.places (⟨rfl,rfl,trivial⟩)
 refine qai [2,3,4] [] [(0,.p 0 0),(3,.v (.int .i64 (IntKind.i64.wrap ((IntKind.i64.wrap ((X.length + 1:Nat):Int)) - 1))))] aa ao fun aU ap=>?_
 refine qae (qab ?_)
 refine wp_seq ?_
 refine qao [(0,.p 0 0),(3,.v (.int .i64 (IntKind.i64.wrap ((IntKind.i64.wrap ((X.length + 1:Nat):Int)) - 1)))),(10,.v (.bool (decide ((IntKind.i64.wrap ((IntKind.i64.wrap ((X.length + 1:Nat):Int)) - 1)) < 0))))] aa ap fun aV ae=>?_
 refine qar ae (b:=decide ((IntKind.i64.wrap ((IntKind.i64.wrap ((X.length + 1:Nat):Int)) - 1)) < 0)) kz (decide_eq_false (by simp only [i16w,i32w,i64w]; omega)) ?_
 refine wp_skip ?_
 refine qab ?_
 refine qac [0,1,2,3,4,5] kz ?_
 refine qai [0,1] [2,3,4,5] [(11,.p 0 0),(12,.v (.int .i64 (IntKind.i64.wrap ((IntKind.i64.wrap ((X.length + 1:Nat):Int)) - 1))))] aa ae fun aW ar=>?_
 have au:IntKind.i64.wrap ((IntKind.i64.wrap ((X.length + 1:Nat):Int)) - 1) = ((X.length:Nat):Int):=by simp only [i16w,i32w,i64w]; omega
 have av:=EnvOk.pick ar (ks:=[11,12]) (env':=[(11,.p 0 0),(12,.v (.int .i64 (IntKind.i64.wrap ((IntKind.i64.wrap ((X.length + 1:Nat):Int)) - 1))))]) kz
 have aw:=av.cast (env':=[(11,.p 0 0),(12,.v (.int .i64 ((X.length:Nat):Int)))]) (by rw [au])
 refine qaj (qal aw (f:=57) (vs:=[.pointer (some ⟨br,0,none⟩),.int .i64 ((X.length:Nat):Int)]) (d:=13) kz Tryd.call57 (qhI X (rest) (Str.of aa 0 rfl) al (qco 0 rfl)) ?_)
 rintro e_ aX ⟨_,aK,aL,aM,rfl,ax,ay,af,⟨aO,rfl,az⟩⟩
 obtain ⟨aA,ag,aP⟩:=aa.wrote 0 [⟨br,0,[.slice aK aL aM,.bool false],true⟩] rfl af ax
 have aB:=ay.move (Step.refl _ Nil) nilM (fun b_ o_ h_ _=>ag.to b_ o_ h_)
 refine ⟨_,rfl,fun aY aC=>?_⟩
 have aD:EnvOk 15 [⟨br,0,[.slice aK aL aM,.bool false],true⟩] [(13,.v (.slice aO X.length X.length)),(11,.p 0 0),(12,.v (.int .i64 ((X.length:Nat):Int)))] _:=aC.places (⟨rfl,rfl,trivial⟩)
 have aE:=az.move (Step.refl _ Nil) nilM (fun b_ o_ h_ _=>ag.to b_ o_ h_)
 refine qaj (qdA aD (src:=22) (dst:=9) (e:=5) (d:=14) kz kz kz kz aE fun aZ aF=>?_)
 refine qaj (qaI aA aF (d:=4) (cs:=[.string ByteArray.empty]) kz fun aQ ba bd aR aS ah aG aH=>?_)
 refine qaj (qaw aG aH (oi:=1) (cs:=[.string (bs X)]) kz fun bf ai ab aI=>?_)
 refine qae (qab ?_)
 refine qao [(2,.p 1 0)] ab aI fun bg aJ=>?_
 refine wp_ret ?_
 refine qaG aJ ab.cells (v:=.pointer (some ⟨aQ,0,none⟩)) kz ?_
 refine ⟨_,_,_,_,rfl,Str.of ab 0 rfl,((aB.move (ah.trans ai).step immM (ah.trans ai).to').move (Step.refl _ Nil) nilM qbH),ab.step,_,rfl,(fun ad h_=>by
  obtain rfl:=Option.some.inj h_
  exact ⟨_,0,rfl,fun j v_ hj=>⟨.inr ‹_›,ab.cells 1 _ rfl j v_ hj⟩⟩),rfl⟩
theorem qcq (nul:Bool) (X:Bs) (hX:X.length ≤ 1000000) (rest:Bs) {br:Nat} {A:Option Addr} {m c:Nat} {w:World} {F:Nat → Nat → Prop} (hst:Str w br [.slice A m c,.bool false]) (hr:RdS w F A m c ((if nul = true then uv 0 else uv (X.length + 1) ++ X) ++ rest)) (hFd:∀ b o,F b o → ¬ RdM br b o) :
  Calls Tryd.prog 40 #[.pointer (some ⟨br,0,none⟩)] w (RdPost w br (Fp F w) rest fun v w'=>∃ A2,v = .pointer A2 ∧ (∀ ad,A2 = some ad → ∃ b o,ad = ⟨b,o,none⟩ ∧ AtF w' (Fp F w) b o [.string (bs X)]) ∧ A2.isNone = nul):=by
 cases nul
 ·exact qck X hX rest hst (hr.cast (by simp only [Bool.false_eq_true,if_false,List.append_assoc])) hFd
 exact qcj X rest hst (hr.cast (by simp only [if_true])) hFd
theorem qcZ {P:Program} {c:Code} {Mid:Act → World → Prop} {Q:Exit → Act → World → Prop} {a:Act} {w:World} (h1:c.wp P (Exit.then Mid Q) a w) (h2:∀ a' w',Mid a' w' → Q .normal a' w'):c.wp P Q a w :=
 wp_mono h1 fun e a' w' h=>by
  cases e <;> first | exact h2 a' w' h | exact h
section
variable {Pr:Program} {ops:Array Oper} {Q:Exit → Act → World → Prop} {w0:World} {M F:Nat → Nat → Prop} {n br:Nat} {tb:Tb} {env:Env} {P:qb1} {s:Bs} {a:Act} {w:World}
end
theorem qjF (x:Int) (rest:Bs):qf5 Tryd.prog 43 (be 4 (IntKind.i32.wrap x)) rest (.int .i32 (IntKind.i32.wrap x)):=fun hs hr hF=>(qjE _ rest hs hr hF).mono fun e w' hp=>hp.fp fun v w' h=>by rw [h,ww32]
theorem qdb (S:Bs) (hS:S.length ≤ 32767) (rest:Bs):qf5 Tryd.prog 37 (uv (S.length + 1) ++ S) rest (.string (bs S)):=fun hs hr hF=>(qek S (by omega) rest hs (hr.cast (by simp only [List.append_assoc])) hF).mono fun e w' hp=>hp.q fun v w' h=>h
theorem qei (nul:Bool) (S:Bs) (hS:S.length ≤ 32767) (rest:Bs):qhE Tryd.prog 42 (if nul = true then be 2 (-1) else be 2 S.length ++ S) rest (fun A:Option Addr=>.pointer A) (fun A=>andF (qii A S) (isF (A.isNone = nul))):=fun hs hr hF=>(qeh nul S (by omega) rest hs hr hF).mono fun e w' hp=>hp.q fun v w' h=>by
 obtain ⟨A,h1,h2,h3⟩:=h
 exact ⟨A,h1,h2,h3⟩
theorem qcr (nul:Bool) (S:Bs) (hS:S.length ≤ 32767) (rest:Bs):qhE Tryd.prog 40 (if nul = true then uv 0 else uv (S.length + 1) ++ S) rest (fun A:Option Addr=>.pointer A) (fun A=>andF (qii A S) (isF (A.isNone = nul))):=fun hs hr hF=>(qcq nul S (by omega) rest hs hr hF).mono fun e w' hp=>hp.q fun v w' h=>by
 obtain ⟨A,h1,h2,h3⟩:=h
 exact ⟨A,h1,h2,h3⟩
theorem qj1 (u:List (Int × Bs)) (hU:canU u) (hk:∀ x ∈ u,0 ≤ x.1 ∧ x.1 < 4294967296) (rest:Bs):qhE Tryd.prog 44 (uv u.length ++ qc0 u) rest (fun m:Option Nat=>.agg #[.map m]) (fun m=>qjC m u):=fun hs hr hF=>(qjZ u rest hU.1 hk hU.2.1 hU.2.2 hs (hr.cast (by simp only [List.append_assoc])) hF).mono fun e w' hp=>hp.q fun v w' h=>h
theorem qjG (k:Int) (A:Option Addr) (m c:Nat) (w:World):Calls Tryd.prog 22 #[.agg #[.int .u32 k,.slice A m c]] w (qhg w):=by
 refine enter (n:=7) Tryd.func22 rfl Tryd.ntmps22 kz fun a hE=>?_
 have hW:=WOk.start w Nil
 refine qac [0,1] kz ?_
 refine qaj (qa9 hW hE (d:=1) (cs:=[.int .u32 k,.slice A m c]) kz fun b1 a2 w3 hb4 hz5 hF6 hW7 hE8=>?_)
 refine qai [1] [] [(1,.p 0 0)] hW7 hE8 fun a9 ac=>?_
 refine qae (qab ?_)
 refine wp_seq ?_
 refine qao [(6,.v (.bool (decide (((m:Nat):Int) > 2147483647))))] hW7 ac fun ai aa=>?_
 refine qax aa (b:=decide (((m:Nat):Int) > 2147483647)) kz (fun ab=>?_) (fun ab=>?_)
 ·
  have ag:=of_decide_eq_true ab
  refine qao [(2,.v (.bool false))] hW7 aa fun aj ae=>?_
  refine wp_ret ?_
  refine qat ?_
  refine qaG ae hW7.cells (v:=.bool false) kz ?_
  exact ⟨_,rfl,hW7.step⟩
 have ah:=of_decide_eq_false ab
 refine wp_skip ?_
 refine qab ?_
 refine qao [(2,.v (.bool true))] hW7 aa fun ak af=>?_
 refine wp_ret ?_
 refine qaG af hW7.cells (v:=.bool true) kz ?_
 exact ⟨_,rfl,hW7.step⟩
theorem qjH (A:Option Addr) (c:Nat) (u:List (Int × Bs)) (w:World) (F:Nat → Nat → Prop) (hu:TagsR w F A c u):Calls Tryd.prog 12 #[.slice A u.length c] w (qhg w):=by
 obtain ⟨xu,h1,h2⟩:=hu.ex
 have hsm:=h1.small
 refine enter (n:=18) Tryd.func12 rfl Tryd.ntmps12 kz fun a hE=>?_
 have hW:=WOk.start w Nil
 refine qao [(0,.v (.slice A u.length c))] hW hE fun a1 hE2=>?_
 refine wp_seq ?_
 refine qao [(0,.v (.slice A u.length c)),(7,.v (.bool (decide (((u.length:Nat):Int) > 2147483647))))] hW hE2 fun a3 hE4=>?_
 refine qax hE4 (b:=decide (((u.length:Nat):Int) > 2147483647)) kz (fun hc5=>?_) (fun hc5=>?_)
 ·
  have hf6:=of_decide_eq_true hc5
  refine qao [(2,.v (.bool false))] hW hE4 fun a7 hE8=>?_
  refine wp_ret ?_
  refine qat ?_
  refine qaG hE8 hW.cells (v:=.bool false) kz ?_
  exact ⟨_,rfl,hW.step⟩
 have hf9:=of_decide_eq_false hc5
 refine wp_skip ?_
 refine qab ?_
 refine wp_seq ?_
 refine qao [(8,.v (.slice A u.length c)),(9,.v (.int .i64 ((u.length:Nat):Int))),(10,.v (.int .i64 0))] hW hE4 fun ba ar=>?_
 refine wp_block ?_
 refine wp_loop_ghost (fun n_ a_ w_=>∃ (k:Nat),n_ = u.length - k ∧ k ≤ u.length ∧ LInv hW 18 [] [] [(8,.v (.slice A u.length c)),(9,.v (.int .i64 ((u.length:Nat):Int))),(10,.v (.int .i64 ((k:Nat):Int)))] a_ w_) (u.length) ⟨0,by omega,by omega,ar.pk,hW,Fr.refl _ _ _⟩ ?_
 rintro bd bf bg ⟨k,aQ,aR,au,aa,av⟩
 refine qao [(8,.v (.slice A u.length c)),(9,.v (.int .i64 ((u.length:Nat):Int))),(10,.v (.int .i64 ((k:Nat):Int))),(11,.v (.bool (decide (((k:Nat):Int) < ((u.length:Nat):Int)))))] aa au fun bh ae=>?_
 refine wp_seq ?_
 refine qax ae (b:=decide (((k:Nat):Int) < ((u.length:Nat):Int))) kz (fun af=>?_) (fun af=>?_)
 ·
  have aS:=of_decide_eq_true af
  refine wp_skip ?_
  refine qab ?_
  refine wp_seq ?_
  refine wp_block ?_
  refine qac [0,1,2,3] kz ?_
  obtain ⟨aT,aU,aw,aV,ac⟩:=Slots.get h1 (i:=k) (by omega)
  obtain ⟨⟨ai,aj⟩,ax⟩:∃ x,u[k]? = some x:=⟨_,List.getElem?_eq_getElem (by omega)⟩
  obtain ⟨⟨ak,al,am,aW⟩,bi,bj⟩:=h2 k ai aj ax
  rw [am] at ac
  refine qaj (qas ae (t:=24) (A:=A) (m:=u.length) (q:=((k:Nat):Int)) (d:=12) kz (e:=62) (size:=2) (bytes:=32) kz aw rfl (by omega) fun bk ay=>?_)
  refine qaj (qaA ay (t:=62) (b:=aT) (o:=aU + k * 2) (d:=13) kz (cs:=[.int .u32 ai,.slice ak aj.length al]) (v:=.agg #[.int .u32 ai,.slice ak aj.length al]) kz (AtF.move ac aa.step nilM qaV).at_ fun bn az=>?_)
  refine qaj (qaI aa az (d:=4) (cs:=[.int .u32 0,.slice none 0 0]) kz fun bo bp bq aX aY aA aB aC=>?_)
  refine qaj (qaw aB aC (oi:=0) (cs:=[.int .u32 ai,.slice ak aj.length al]) kz fun bt aD ag aE=>?_)
  refine qae (qab ?_)
  refine qac [0,1,2] kz ?_
  refine qai [0] [1,2] [(8,.v (.slice A u.length c)),(9,.v (.int .i64 ((u.length:Nat):Int))),(10,.v (.int .i64 ((k:Nat):Int))),(14,.v (.agg #[.int .u32 ai,.slice ak aj.length al]))] ag aE fun bu aF=>?_
  refine qaj (qal aF (f:=22) (vs:=[.agg #[.int .u32 ai,.slice ak aj.length al]]) (d:=15) kz Tryd.call22 (qjG _ _ _ _ _) ?_)
  rintro e_ bw ⟨aP,rfl,ao⟩
  refine ⟨_,rfl,fun bx aG=>?_⟩
  have ab:=ag.next_nil ao
  have aH:=ag.frN ao
  refine qai [2] [] [(8,.v (.slice A u.length c)),(9,.v (.int .i64 ((u.length:Nat):Int))),(10,.v (.int .i64 ((k:Nat):Int))),(16,.v (.bool (!aP)))] ab aG fun bz ah=>?_
  refine qae (qab ?_)
  refine qax ah (b:=!aP) kz (fun aI=>?_) (fun aI=>?_)
  ·
   refine qao [(2,.v (.bool false))] ab ah fun bA aJ=>?_
   refine wp_ret ?_
   refine qaE ?_
   refine qat ?_
   refine qat ?_
   refine qaE ?_
   refine qat ?_
   refine qaG aJ ab.cells (v:=.bool false) kz ?_
   exact ⟨_,rfl,ab.step⟩
  refine wp_skip ?_
  refine qav ?_
  refine qab ?_
  refine qap [0,1] kz ?_
  refine qai [0,1] [] [(8,.v (.slice A u.length c)),(9,.v (.int .i64 ((u.length:Nat):Int))),(10,.v (.int .i64 (IntKind.i64.wrap (((k:Nat):Int) + 1))))] ab ah fun bB aK=>?_
  refine qae (qab ?_)
  obtain ⟨ap,aL,aM⟩:=ab.cutB aK 0 [] [(8,.v (.slice A u.length c)),(9,.v (.int .i64 ((u.length:Nat):Int))),(10,.v (.int .i64 (IntKind.i64.wrap (((k:Nat):Int) + 1))))]
  have aN:IntKind.i64.wrap (((k:Nat):Int) + 1) = ((k + 1:Nat):Int):=qaO (by omega)
  rw [aN] at ap
  exact ⟨u.length - (k + 1),by omega,k + 1,rfl,by omega,ap.pk,aL,((((av.trans aA).trans aD).trans aH).trans aM)⟩
 have aZ:=of_decide_eq_false af
 refine wp_exit ?_
 refine qau ?_
 refine qau ?_
 refine qaH ?_
 refine qab ?_
 refine qao [(2,.v (.bool true))] aa ae fun bC aO=>?_
 refine wp_ret ?_
 refine qaG aO aa.cells (v:=.bool true) kz ?_
 exact ⟨_,rfl,aa.step⟩
theorem qjI (ct:List Value) (t:Tree) (w:World) (F:Nat → Nat → Prop) (ht:TreeR w F ct t):Calls Tryd.prog 4 #[.agg ct.toArray] w (qhg w):=by
 obtain ⟨n1,s2,b3,l4,u5,A6,c7,A8,c9,aj,ak,aB,rfl,rfl,aC,aD,aN,aE⟩:=ht.open_
 have ay:=aC.small
 have az:=aD.small
 refine enter (n:=15) Tryd.func4 rfl Tryd.ntmps4 kz fun a hE=>?_
 have hW:=WOk.start w Nil
 refine qac [0,1] kz ?_
 refine qaj (qa9 hW hE (d:=1) (cs:=[.int .i64 n1,.slice A6 s2.length c7,.bool b3,.slice A8 l4.length c9,.slice aj u5.length ak]) kz fun aO aP aQ aF aG aH aa al=>?_)
 refine qai [1] [] [(1,.p 0 0)] aa al fun aR am=>?_
 refine qae (qab ?_)
 refine wp_seq ?_
 refine qao [(1,.p 0 0),(6,.v (.bool (decide (((s2.length:Nat):Int) > 2147483647))))] aa am fun aS ac=>?_
 refine qax ac (b:=decide (((s2.length:Nat):Int) > 2147483647)) kz (fun ae=>?_) (fun ae=>?_)
 ·
  have aI:=of_decide_eq_true ae
  refine qao [(2,.v (.bool false))] aa ac fun aT ao=>?_
  refine wp_ret ?_
  refine qat ?_
  refine qaG ao aa.cells (v:=.bool false) kz ?_
  exact ⟨_,rfl,aa.step⟩
 have aJ:=of_decide_eq_false ae
 refine wp_skip ?_
 refine qab ?_
 refine wp_seq ?_
 refine qao [(1,.p 0 0),(10,.v (.bool (decide (((l4.length:Nat):Int) > 2147483647))))] aa ac fun aU af=>?_
 refine qax af (b:=decide (((l4.length:Nat):Int) > 2147483647)) kz (fun ag=>?_) (fun ag=>?_)
 ·
  have aK:=of_decide_eq_true ag
  refine qao [(2,.v (.bool false))] aa af fun aV ap=>?_
  refine wp_ret ?_
  refine qat ?_
  refine qaG ap aa.cells (v:=.bool false) kz ?_
  exact ⟨_,rfl,aa.step⟩
 have aL:=of_decide_eq_false ag
 refine wp_skip ?_
 refine qab ?_
 refine wp_seq ?_
 refine qac [0,1,2,3] kz ?_
 refine qai [0,1] [2,3] [(12,.v (.slice aj u5.length ak))] aa af fun aW ar=>?_
 refine qaj (qal ar (f:=12) (vs:=[.slice aj u5.length ak]) (d:=13) kz Tryd.call12 (qjH _ _ u5 _ _ (aE.move aa.step nilM aa.imm)) ?_)
 rintro e_ aX ⟨aA,rfl,ai⟩
 refine ⟨_,rfl,fun aY au=>?_⟩
 have ab:=aa.next_nil ai
 have aM:=aa.frN ai
 refine qai [3] [] [(14,.v (.bool (!aA)))] ab au fun aZ ah=>?_
 refine qae (qab ?_)
 refine qax ah (b:=!aA) kz (fun av=>?_) (fun av=>?_)
 ·
  refine qao [(2,.v (.bool false))] ab ah fun ba aw=>?_
  refine wp_ret ?_
  refine qat ?_
  refine qaG aw ab.cells (v:=.bool false) kz ?_
  exact ⟨_,rfl,ab.step⟩
 refine wp_skip ?_
 refine qab ?_
 refine qao [(2,.v (.bool true))] ab ah fun bd ax=>?_
 refine wp_ret ?_
 refine qaG ax ab.cells (v:=.bool true) kz ?_
 exact ⟨_,rfl,ab.step⟩
theorem qin (x m:Int) (hx:0 ≤ x) (hx':x < 256) (hm:0 ≤ m) (hm':m < 32768) (w:World):Calls Tryd.prog 7 #[.int .u8 x,.int .i64 m] w (qbR w (.int .i64 (Int.tmod x (m + 1)))):=by
 refine enter (n:=10) Tryd.func7 rfl Tryd.ntmps7 kz fun a hE=>?_
 have hW:=WOk.start w Nil
 refine qao [(0,.v (.int .u8 x)),(1,.v (.int .i64 m))] hW hE fun a1 hE2=>?_
 refine qac [0,1,2,3,4,5] kz ?_
 refine qai [0,1,2,3] [4,5] [(6,.v (.int .i64 (IntKind.i64.wrap x))),(8,.v (.int .i64 (IntKind.i64.wrap (m + 1))))] hW hE2 fun a3 hE4=>?_
 refine qaj (qh0 hE4 (k:=.i64) (p:=(IntKind.i64.wrap x)) (q:=(IntKind.i64.wrap (m + 1))) (d:=9) kz (by simp only [IntKind.wrap_i64]; omega) fun a5 hE6=>?_)
 refine qai [5] [] [(4,.v (.int .i64 (Int.tmod (IntKind.i64.wrap x) (IntKind.i64.wrap (m + 1)))))] hW hE6 fun a7 hE8=>?_
 refine qae (qab ?_)
 refine wp_ret ?_
 refine qaG hE8 hW.cells (v:=.int .i64 (Int.tmod (IntKind.i64.wrap x) (IntKind.i64.wrap (m + 1)))) kz ?_
 exact ⟨by rw [wrap_i64 (by omega) (by omega),wrap_i64 (by omega) (by omega)],hW.step⟩
def qbM (v:Int) (T:Tree):Bs:=(if (decide (v ≥ 3)) = true then if (decide (v ≥ 3)) = true then (uv ((T.at_ 0).S.length + 1) ++ (T.at_ 0).S) else (be 2 (T.at_ 0).S.length ++ (T.at_ 0).S) else []) ++ ((if (decide (v ≥ 3)) = true then if (decide (v ≥ 3)) = true then (uv ((T.at_ 1).S.length + 1) ++ (T.at_ 1).S) else (be 2 (T.at_ 1).S.length ++ (T.at_ 1).S) else []) ++ ((if (decide (v ≥ 5)) = true then if (decide (v ≥ 3)) = true then (if (T.at_ 2).null = true then uv 0 else uv ((qbF (T.at_ 2)).length + 1) ++ (qbF (T.at_ 2))) else (if (T.at_ 2).null = true then be 2 (-1) else be 2 (qbF (T.at_ 2)).length ++ (qbF (T.at_ 2))) else []) ++ ((if (decide (v ≥ 5)) = true then be 4 ((IntKind.i32.wrap (T.at_ 3).N)) else []) ++ ((if (decide (v ≥ 3)) = true then (uv T.U.length) ++ (qc0 T.U) else []) ++ (([]:Bs))))))
theorem qc1 (v:Int) (T:Tree):qah v T = qbM v T:=rfl
def qbO (v:Int) (D:DV) (T:Tree):Prop:=(((decide (v ≥ 3)) = true → (D.f 0).s = bs (T.at_ 0).S) ∧ ((decide (v ≥ 3)) = false → (D.f 0).s = ByteArray.empty)) ∧ (((decide (v ≥ 3)) = true → (D.f 1).s = bs (T.at_ 1).S) ∧ ((decide (v ≥ 3)) = false → (D.f 1).s = ByteArray.empty)) ∧ (((decide (v ≥ 5)) = true → ((D.f 2).s = bs (qbF (T.at_ 2)) ∧ (D.f 2).A.isNone = (T.at_ 2).null)) ∧ ((decide (v ≥ 5)) = false → ((D.f 2).s = ByteArray.empty ∧ (D.f 2).A = none))) ∧ (((decide (v ≥ 5)) = true → (D.f 3).n = IntKind.i32.wrap (T.at_ 3).N) ∧ ((decide (v ≥ 5)) = false → (D.f 3).n = -1)) ∧ (((decide (v ≥ 3)) = true → D.u = T.U) ∧ ((decide (v ≥ 3)) = false → D.u = [])) ∧ True
set_option maxHeartbeats 4000000 in
theorem qc2 (v:Int) (T:Tree) {bv:Nat} {A:Option Addr} {c:Nat} {w:World} {F:Nat → Nat → Prop} (hst:Str w bv [.int .i16 v,.string ByteArray.empty,.string ByteArray.empty,.pointer none,.int .i32 (-1),.map none]) (ho:Octs w F A c (qah v T)) (hFd:∀ b o,F b o → ¬ (b = bv ∧ o < 6)) (hc:qaX T) (hR:T.ranged) :
  Calls Tryd.prog 23 #[.pointer (some ⟨bv,0,none⟩),.slice A (qah v T).length c,.bool false] w (fun e w'=>∃ D:DV,e = .returned .nilIface ∧ Str w' bv [.int .i16 v,.string ((D.f 0).s),.string ((D.f 1).s),.pointer ((D.f 2).A),.int .i32 ((D.f 3).n),.map D.m] ∧ qaR w' (Fp F w) D ∧ qbO v D T ∧ Step w w' (fun b o=>b = bv ∧ o < 6)):=by
 refine enter (n:=80) Tryd.func23 rfl Tryd.ntmps23 kz fun a hE=>?_
 have hW:=WOk.startStr hst
 have hE1:=(hE.grow ⟨bv,0,[.int .i16 v,.string ByteArray.empty,.string ByteArray.empty,.pointer none,.int .i32 (-1),.map none],true⟩).recast 0 (.v (.pointer (some ⟨bv,0,none⟩))) (.p 0 0) rfl rfl (Nat.le_of_ble_eq_true (n:=1) rfl)
 refine qao [(0,.p 0 0),(1,.v (.slice A ((qah v T).length) c)),(2,.v (.bool false))] hW hE1 fun a1 hE2=>?_
 refine qac [0,1] kz ?_
 refine qai [0] [1] [(0,.p 0 0),(1,.v (.slice A ((qah v T).length) c)),(2,.v (.bool false)),(15,.p 0 0)] hW hE2 fun a3 hE4=>?_
 refine qaj (qbl hE4 (f:=17) (vs:=[.pointer (some ⟨bv,0,none⟩)]) (d:=16) (n':=5) kz Tryd.call17 Tryd.func17 rfl Tryd.ntmps17 kz fun a5 hE6=>?_)
 have hE7:=hE6.recast 0 (.v (.pointer (some ⟨bv,0,none⟩))) (.p 0 0) rfl rfl (Nat.le_of_ble_eq_true (n:=1) rfl)
 refine qap [0,1,2,3] kz ?_
 refine qai [0,1,2] [3] [(4,.p 0 4)] hW hE7 fun a8 hE9=>?_
 refine qaj (qaw hW hE9 (oi:=0) (cs:=[.int .i16 v,.string ByteArray.empty,.string ByteArray.empty,.pointer none,.int .i32 (-1),.map none]) kz fun da cQ aY cB=>?_)
 refine qae ?_
 refine qbz cB aY.cells (v:=.tuple #[]) kz ?_
 refine ⟨_,rfl,fun db cC=>?_⟩
 have cD:EnvOk 80 [⟨bv,0,[.int .i16 v,.string ByteArray.empty,.string ByteArray.empty,.pointer none,.int .i32 (-1),.map none],true⟩] [(16,.v (.tuple #[])),(0,.p 0 0),(1,.v (.slice A ((qah v T).length) c)),(2,.v (.bool false)),(15,.p 0 0)] _:=cC.places (⟨rfl,rfl,trivial⟩)
 refine qae (qab ?_)
 refine qac [0,1,2,3] kz ?_
 refine qai [0,1] [2,3] [(0,.p 0 0),(2,.v (.bool false)),(18,.v (.agg #[.slice A ((qah v T).length) c,.bool false]))] aY cD fun dc cE=>?_
 refine qaj (qaI aY cE (d:=7) (cs:=[.slice none 0 0,.bool false]) kz fun bn de dg cR cS cT cG cH=>?_)
 refine qaj (qaw cG cH (oi:=1) (cs:=[.slice A ((qah v T).length) c,.bool false]) kz fun dh cU aZ cI=>?_)
 refine qae (qab ?_)
 have bt:=RS.start (F:=F) (s:=qah v T) aZ cI (ho.move aZ.step (fun b_ o_ h_ _=>hFd b_ o_ h_) (aZ.immM hFd)) [(0,.p 1 0),(2,.v (.bool false)),(7,.p 0 0)]
 have cO:=hc
 have e32r:=hR
 unfold qaX at cO
 obtain ⟨e32_0,e32_1,e32_2,e32_3,e32_U,_⟩:=cO
 obtain ⟨bu,bw⟩:∃ R,R = (if (decide (v ≥ 3)) = true then (uv T.U.length) ++ (qc0 T.U) else []) ++ ([]:Bs):=⟨_,rfl⟩
 obtain ⟨aD,bx⟩:∃ R,R = (if (decide (v ≥ 5)) = true then be 4 ((IntKind.i32.wrap (T.at_ 3).N)) else []) ++ bu:=⟨_,rfl⟩
 obtain ⟨bo,bz⟩:∃ R,R = (if (decide (v ≥ 5)) = true then if (decide (v ≥ 3)) = true then (if (T.at_ 2).null = true then uv 0 else uv ((qbF (T.at_ 2)).length + 1) ++ (qbF (T.at_ 2))) else (if (T.at_ 2).null = true then be 2 (-1) else be 2 (qbF (T.at_ 2)).length ++ (qbF (T.at_ 2))) else []) ++ aD:=⟨_,rfl⟩
 obtain ⟨bp,bA⟩:∃ R,R = (if (decide (v ≥ 3)) = true then if (decide (v ≥ 3)) = true then (uv ((T.at_ 1).S.length + 1) ++ (T.at_ 1).S) else (be 2 (T.at_ 1).S.length ++ (T.at_ 1).S) else []) ++ bo:=⟨_,rfl⟩
 obtain ⟨cV,bB⟩:∃ R,R = (if (decide (v ≥ 3)) = true then if (decide (v ≥ 3)) = true then (uv ((T.at_ 0).S.length + 1) ++ (T.at_ 0).S) else (be 2 (T.at_ 0).S.length ++ (T.at_ 0).S) else []) ++ bp:=⟨_,rfl⟩
 have bC:=bt.cast (t:=cV) (by rw [qc1,bB,bA,bz,bx,bw]; unfold qbM; simp only [List.append_assoc])
 clear bt
 refine wp_seq ?_
 refine qce [(0,.p 1 0),(2,.v (.bool false)),(7,.p 0 0),(8,.v (.int .i16 v))] bC fun _ bD=>?_
 clear bC
 refine qab ?_
 refine wp_seq ?_
 refine qce [(0,.p 1 0),(2,.v (.bool false)),(7,.p 0 0),(8,.v (.int .i16 v))] bD fun _ bE=>?_
 clear bD
 refine qab ?_
 refine wp_seq ?_
 refine qce [(0,.p 1 0),(2,.v (.bool false)),(7,.p 0 0),(8,.v (.int .i16 v)),(9,.v (.bool (decide (v ≥ 3))))] bE fun _ bF=>?_
 clear bE
 refine qab ?_
 refine wp_seq ?_
 refine qce [(0,.p 1 0),(2,.v (.bool false)),(7,.p 0 0),(8,.v (.int .i16 v)),(9,.v (.bool (decide (v ≥ 3))))] bF fun _ bG=>?_
 clear bF
 refine qab ?_
 refine wp_seq ?_
 refine qce [(2,.v (.bool false)),(7,.p 0 0),(8,.v (.int .i16 v)),(9,.v (.bool (decide (v ≥ 3)))),(10,.p 1 0)] bG fun _ bH=>?_
 clear bG
 refine qab ?_
 refine wp_seq ?_
 have bI:=bH.cast bB
 clear bH
 refine qcZ (Mid:=fun a_ w_=>∃ (ah:DV) (P':qb1),(∀ w F,P' w F → noF w F ∧ (ah.s.size ≤ 1000000) ∧ ((decide (v ≥ 3)) = true → ah.s = bs (T.at_ 0).S) ∧ ((decide (v ≥ 3)) = false → ah.s = ByteArray.empty)) ∧ RS w (fun b o=>b = bv ∧ o < 6) F 80 bn [⟨bv,0,[.int .i16 v,.string ah.s,.string ByteArray.empty,.pointer none,.int .i32 (-1),.map none],true⟩] [(2,.v (.bool false)),(7,.p 0 0),(8,.v (.int .i16 v)),(9,.v (.bool (decide (v ≥ 3)))),(10,.p 1 0)] P' bp a_ w_) ?_ ?_
 ·
  refine wp_seq ?_
  refine qce [(2,.v (.bool false)),(7,.p 0 0),(8,.v (.int .i16 v)),(9,.v (.bool (decide (v ≥ 3)))),(10,.p 1 0),(29,.v (.bool (decide (v ≥ 3))))] bI fun _ ar=>qab ?_
  clear bI
  refine qax ar.env_ (b:=decide (v ≥ 3)) kz (fun ai=>?_) (fun ai=>?_)
  ·
   have bJ:=ar.cast (t:=(if (decide (v ≥ 3)) = true then (uv ((T.at_ 0).S.length + 1) ++ (T.at_ 0).S) else (be 2 (T.at_ 0).S.length ++ (T.at_ 0).S)) ++ bp) (by rw [if_pos ai])
   clear ar
   refine wp_seq ?_
   refine qce [(2,.v (.bool false)),(7,.p 0 0),(8,.v (.int .i16 v)),(9,.v (.bool (decide (v ≥ 3)))),(10,.p 1 0)] bJ fun _ bK=>?_
   clear bJ
   refine qab ?_
   refine wp_seq ?_
   refine wp_seq ?_
   refine qce [(2,.v (.bool false)),(7,.p 0 0),(8,.v (.int .i16 v)),(9,.v (.bool (decide (v ≥ 3)))),(10,.p 1 0),(30,.v (.bool false))] bK fun _ ba=>qab ?_
   clear bK
   refine qar ba.env_ (b:=false) kz (rfl) ?_
   refine wp_seq ?_
   refine qce [(2,.v (.bool false)),(7,.p 0 0),(8,.v (.int .i16 v)),(9,.v (.bool (decide (v ≥ 3)))),(10,.p 1 0),(34,.v (.bool (decide (v ≥ 3))))] ba fun _ bd=>qab ?_
   clear ba
   refine qbb bd.env_ (b:=decide (v ≥ 3)) kz (ai) ?_
   have bL:=bd.cast (t:=(uv ((T.at_ 0).S.length + 1) ++ (T.at_ 0).S) ++ bp) (by rw [if_pos (ai)])
   clear bd
   refine qhG (d:=35) [(2,.v (.bool false)),(7,.p 0 0),(8,.v (.int .i16 v)),(9,.v (.bool (decide (v ≥ 3)))),(10,.p 1 0),(11,.v (.string (bs (T.at_ 0).S)))] bL (qdb (T.at_ 0).S e32_0 _) Tryd.call37 fun _ _ bM=>?_
   clear bL
   refine qab ?_
   refine qf6 [⟨bv,0,[.int .i16 v,.string (bs (T.at_ 0).S),.string ByteArray.empty,.pointer none,.int .i32 (-1),.map none],true⟩] 0 [(2,.v (.bool false)),(7,.p 0 0),(8,.v (.int .i16 v)),(9,.v (.bool (decide (v ≥ 3)))),(10,.p 1 0)] bM fun _ _ cJ=>?_
   clear bM
   refine qab ?_
   exact ⟨dvS (bs (T.at_ 0).S),_,fun w F h_=>⟨h_,by show ByteArray.size (bs _) ≤ 1000000; rw [qfF]; exact Nat.le_trans e32_0 (by decide),⟨fun _=>rfl,(fun e_=>by rw [ai] at e_; cases e_)⟩⟩,cJ.pk (env':=[(2,.v (.bool false)),(7,.p 0 0),(8,.v (.int .i16 v)),(9,.v (.bool (decide (v ≥ 3)))),(10,.p 1 0)])⟩
  have bN:=ar.cast (t:=[] ++ bp) (by rw [if_neg (by rw [ai]; decide)])
  clear ar
  have cK:=bN.cast (t:=bp) rfl
  clear bN
  refine wp_skip (qab ?_)
  exact ⟨dvS ByteArray.empty,_,fun w F h_=>⟨h_,Nat.zero_le _,⟨(fun e_=>by rw [ai] at e_; cases e_),fun _=>rfl⟩⟩,cK.pk (env':=[(2,.v (.bool false)),(7,.p 0 0),(8,.v (.int .i16 v)),(9,.v (.bool (decide (v ≥ 3)))),(10,.p 1 0)])⟩
 rintro _ _ ⟨ah,cW,bO,bP⟩
 refine qab ?_
 refine wp_seq ?_
 have bQ:=bP.cast bA
 clear bP
 refine qcZ (Mid:=fun a_ w_=>∃ (ao:DV) (P':qb1),(∀ w F,P' w F → cW w F ∧ (ao.s.size ≤ 1000000) ∧ ((decide (v ≥ 3)) = true → ao.s = bs (T.at_ 1).S) ∧ ((decide (v ≥ 3)) = false → ao.s = ByteArray.empty)) ∧ RS w (fun b o=>b = bv ∧ o < 6) F 80 bn [⟨bv,0,[.int .i16 v,.string ah.s,.string ao.s,.pointer none,.int .i32 (-1),.map none],true⟩] [(2,.v (.bool false)),(7,.p 0 0),(8,.v (.int .i16 v)),(9,.v (.bool (decide (v ≥ 3)))),(10,.p 1 0)] P' bo a_ w_) ?_ ?_
 ·
  refine wp_seq ?_
  refine qce [(2,.v (.bool false)),(7,.p 0 0),(8,.v (.int .i16 v)),(9,.v (.bool (decide (v ≥ 3)))),(10,.p 1 0),(42,.v (.bool (decide (v ≥ 3))))] bQ fun _ au=>qab ?_
  clear bQ
  refine qax au.env_ (b:=decide (v ≥ 3)) kz (fun aj=>?_) (fun aj=>?_)
  ·
   have bR:=au.cast (t:=(if (decide (v ≥ 3)) = true then (uv ((T.at_ 1).S.length + 1) ++ (T.at_ 1).S) else (be 2 (T.at_ 1).S.length ++ (T.at_ 1).S)) ++ bo) (by rw [if_pos aj])
   clear au
   refine wp_seq ?_
   refine qce [(2,.v (.bool false)),(7,.p 0 0),(8,.v (.int .i16 v)),(9,.v (.bool (decide (v ≥ 3)))),(10,.p 1 0)] bR fun _ bS=>?_
   clear bR
   refine qab ?_
   refine wp_seq ?_
   refine wp_seq ?_
   refine qce [(2,.v (.bool false)),(7,.p 0 0),(8,.v (.int .i16 v)),(9,.v (.bool (decide (v ≥ 3)))),(10,.p 1 0),(43,.v (.bool false))] bS fun _ bf=>qab ?_
   clear bS
   refine qar bf.env_ (b:=false) kz (rfl) ?_
   refine wp_seq ?_
   refine qce [(2,.v (.bool false)),(7,.p 0 0),(8,.v (.int .i16 v)),(9,.v (.bool (decide (v ≥ 3)))),(10,.p 1 0),(47,.v (.bool (decide (v ≥ 3))))] bf fun _ bg=>qab ?_
   clear bf
   refine qbb bg.env_ (b:=decide (v ≥ 3)) kz (aj) ?_
   have bT:=bg.cast (t:=(uv ((T.at_ 1).S.length + 1) ++ (T.at_ 1).S) ++ bo) (by rw [if_pos (aj)])
   clear bg
   refine qhG (d:=48) [(2,.v (.bool false)),(7,.p 0 0),(8,.v (.int .i16 v)),(9,.v (.bool (decide (v ≥ 3)))),(10,.p 1 0),(12,.v (.string (bs (T.at_ 1).S)))] bT (qdb (T.at_ 1).S e32_1 _) Tryd.call37 fun _ _ bU=>?_
   clear bT
   refine qab ?_
   refine qf6 [⟨bv,0,[.int .i16 v,.string ah.s,.string (bs (T.at_ 1).S),.pointer none,.int .i32 (-1),.map none],true⟩] 0 [(2,.v (.bool false)),(7,.p 0 0),(8,.v (.int .i16 v)),(9,.v (.bool (decide (v ≥ 3)))),(10,.p 1 0)] bU fun _ _ cL=>?_
   clear bU
   refine qab ?_
   exact ⟨dvS (bs (T.at_ 1).S),_,fun w F h_=>⟨h_,by show ByteArray.size (bs _) ≤ 1000000; rw [qfF]; exact Nat.le_trans e32_1 (by decide),⟨fun _=>rfl,(fun e_=>by rw [aj] at e_; cases e_)⟩⟩,cL.pk (env':=[(2,.v (.bool false)),(7,.p 0 0),(8,.v (.int .i16 v)),(9,.v (.bool (decide (v ≥ 3)))),(10,.p 1 0)])⟩
  have bV:=au.cast (t:=[] ++ bo) (by rw [if_neg (by rw [aj]; decide)])
  clear au
  have cM:=bV.cast (t:=bo) rfl
  clear bV
  refine wp_skip (qab ?_)
  exact ⟨dvS ByteArray.empty,_,fun w F h_=>⟨h_,Nat.zero_le _,⟨(fun e_=>by rw [aj] at e_; cases e_),fun _=>rfl⟩⟩,cM.pk (env':=[(2,.v (.bool false)),(7,.p 0 0),(8,.v (.int .i16 v)),(9,.v (.bool (decide (v ≥ 3)))),(10,.p 1 0)])⟩
 rintro _ _ ⟨ao,cP,az,bW⟩
 refine qab ?_
 refine wp_seq ?_
 have bX:=bW.cast bz
 clear bW
 refine qcZ (Mid:=fun a_ w_=>∃ (am:DV) (P':qb1),(∀ w F,P' w F → cP w F ∧ ((∀ ad,am.A = some ad → ∃ b o,ad = ⟨b,o,none⟩ ∧ AtF w F b o [.string am.s]) ∧ am.s.size ≤ 1000000) ∧ ((decide (v ≥ 5)) = true → (am.s = bs (qbF (T.at_ 2)) ∧ am.A.isNone = (T.at_ 2).null)) ∧ ((decide (v ≥ 5)) = false → (am.s = ByteArray.empty ∧ am.A = none))) ∧ RS w (fun b o=>b = bv ∧ o < 6) F 80 bn [⟨bv,0,[.int .i16 v,.string ah.s,.string ao.s,.pointer am.A,.int .i32 (-1),.map none],true⟩] [(7,.p 0 0),(8,.v (.int .i16 v)),(9,.v (.bool (decide (v ≥ 3)))),(10,.p 1 0)] P' aD a_ w_) ?_ ?_
 ·
  refine wp_seq ?_
  refine qce [(2,.v (.bool false)),(7,.p 0 0),(8,.v (.int .i16 v)),(9,.v (.bool (decide (v ≥ 3)))),(10,.p 1 0),(55,.v (.bool (decide (v ≥ 5))))] bX fun _ av=>qab ?_
  clear bX
  refine qax av.env_ (b:=decide (v ≥ 5)) kz (fun aw=>?_) (fun aw=>?_)
  ·
   have bY:=av.cast (t:=(if (decide (v ≥ 3)) = true then (if (T.at_ 2).null = true then uv 0 else uv ((qbF (T.at_ 2)).length + 1) ++ (qbF (T.at_ 2))) else (if (T.at_ 2).null = true then be 2 (-1) else be 2 (qbF (T.at_ 2)).length ++ (qbF (T.at_ 2)))) ++ aD) (by rw [if_pos aw])
   clear av
   refine wp_seq ?_
   refine qce [(2,.v (.bool false)),(7,.p 0 0),(8,.v (.int .i16 v)),(9,.v (.bool (decide (v ≥ 3)))),(10,.p 1 0)] bY fun _ bZ=>?_
   clear bY
   refine qab ?_
   refine wp_seq ?_
   refine qcZ (Mid:=fun a_ w_=>∃ (bq:Option Addr) (P':qb1),(∀ w F,P' w F → cP w F ∧ qii bq (qbF (T.at_ 2)) w F ∧ bq.isNone = (T.at_ 2).null) ∧ RS w (fun b o=>b = bv ∧ o < 6) F 80 bn [⟨bv,0,[.int .i16 v,.string ah.s,.string ao.s,.pointer none,.int .i32 (-1),.map none],true⟩] [(7,.p 0 0),(8,.v (.int .i16 v)),(9,.v (.bool (decide (v ≥ 3)))),(10,.p 1 0),(13,.v (.pointer bq))] P' aD a_ w_) ?_ ?_
   ·
    refine wp_seq ?_
    refine qce [(2,.v (.bool false)),(7,.p 0 0),(8,.v (.int .i16 v)),(9,.v (.bool (decide (v ≥ 3)))),(10,.p 1 0),(56,.v (.bool (decide (v ≥ 3))))] bZ fun _ ax=>qab ?_
    clear bZ
    refine qax ax.env_ (b:=decide (v ≥ 3)) kz (fun bh=>?_) (fun bh=>?_)
    ·
     have b8:=ax.cast (t:=(if (T.at_ 2).null = true then uv 0 else uv ((qbF (T.at_ 2)).length + 1) ++ (qbF (T.at_ 2))) ++ aD) (by rw [if_pos bh])
     clear ax
     refine wp_seq ?_
     refine qce [(7,.p 0 0),(8,.v (.int .i16 v)),(9,.v (.bool (decide (v ≥ 3)))),(10,.p 1 0),(57,.v (.bool false))] b8 fun _ bi=>qab ?_
     clear b8
     refine qar bi.env_ (b:=false) kz (rfl) ?_
     refine qjD (d:=59) (fun aA=>[(7,.p 0 0),(8,.v (.int .i16 v)),(9,.v (.bool (decide (v ≥ 3)))),(10,.p 1 0),(13,.v (.pointer aA))]) bi (qcr (T.at_ 2).null (qbF (T.at_ 2)) e32_2 _) (fun _=>(MvF.text _ _).and (MvF.is _)) Tryd.call40 fun aA cX _ _ aE cd=>?_
     clear bi
     refine qab ?_
     exact ⟨aA,_,fun w F h_=>⟨(aE _ _ h_).1,(aE _ _ h_).2⟩,cd.pk (env':=[(7,.p 0 0),(8,.v (.int .i16 v)),(9,.v (.bool (decide (v ≥ 3)))),(10,.p 1 0),(13,.v (.pointer aA))])⟩
    have aF:=ax.cast (t:=(if (T.at_ 2).null = true then be 2 (-1) else be 2 (qbF (T.at_ 2)).length ++ (qbF (T.at_ 2))) ++ aD) (by rw [if_neg (by rw [bh]; decide)])
    clear ax
    refine wp_seq ?_
    refine qce [(7,.p 0 0),(8,.v (.int .i16 v)),(9,.v (.bool (decide (v ≥ 3)))),(10,.p 1 0),(60,.v (.bool false))] aF fun _ ay=>qab ?_
    clear aF
    refine qar ay.env_ (b:=false) kz (rfl) ?_
    refine qjD (d:=62) (fun aB=>[(7,.p 0 0),(8,.v (.int .i16 v)),(9,.v (.bool (decide (v ≥ 3)))),(10,.p 1 0),(13,.v (.pointer aB))]) ay (qei (T.at_ 2).null (qbF (T.at_ 2)) e32_2 _) (fun _=>(MvF.text _ _).and (MvF.is _)) Tryd.call42 fun aB cY _ _ aG ce=>?_
    clear ay
    refine qab ?_
    exact ⟨aB,_,fun w F h_=>⟨(aG _ _ h_).1,(aG _ _ h_).2⟩,ce.pk (env':=[(7,.p 0 0),(8,.v (.int .i16 v)),(9,.v (.bool (decide (v ≥ 3)))),(10,.p 1 0),(13,.v (.pointer aB))])⟩
   rintro _ _ ⟨bq,di,bj,cg⟩
   refine qab ?_
   refine qf6 [⟨bv,0,[.int .i16 v,.string ah.s,.string ao.s,.pointer bq,.int .i32 (-1),.map none],true⟩] 0 [(7,.p 0 0),(8,.v (.int .i16 v)),(9,.v (.bool (decide (v ≥ 3)))),(10,.p 1 0)] cg fun _ _ cm=>?_
   clear cg
   refine qab ?_
   exact ⟨dvT bq (bs (qbF (T.at_ 2))),_,fun w F h_=>⟨(bj _ _ h_).1,⟨(bj _ _ h_).2.1,by show ByteArray.size (bs _) ≤ 1000000; rw [qfF]; exact Nat.le_trans e32_2 (by decide)⟩,⟨fun _=>⟨rfl,(bj _ _ h_).2.2⟩,(fun e_=>by rw [aw] at e_; cases e_)⟩⟩,cm.pk (env':=[(7,.p 0 0),(8,.v (.int .i16 v)),(9,.v (.bool (decide (v ≥ 3)))),(10,.p 1 0)])⟩
  have aH:=av.cast (t:=[] ++ aD) (by rw [if_neg (by rw [aw]; decide)])
  clear av
  have cq:=aH.cast (t:=aD) rfl
  clear aH
  refine wp_skip (qab ?_)
  exact ⟨dvT none ByteArray.empty,_,fun w F h_=>⟨h_,⟨fun _ h=>(by cases h),Nat.zero_le _⟩,⟨(fun e_=>by rw [aw] at e_; cases e_),fun _=>⟨rfl,rfl⟩⟩⟩,cq.pk (env':=[(7,.p 0 0),(8,.v (.int .i16 v)),(9,.v (.bool (decide (v ≥ 3)))),(10,.p 1 0)])⟩
 rintro _ _ ⟨am,cZ,ap,cr⟩
 refine qab ?_
 refine wp_seq ?_
 have aI:=cr.cast bx
 clear cr
 refine qcZ (Mid:=fun a_ w_=>∃ (ak:DV) (P':qb1),(∀ w F,P' w F → cZ w F ∧ (True) ∧ ((decide (v ≥ 5)) = true → ak.n = IntKind.i32.wrap (T.at_ 3).N) ∧ ((decide (v ≥ 5)) = false → ak.n = -1)) ∧ RS w (fun b o=>b = bv ∧ o < 6) F 80 bn [⟨bv,0,[.int .i16 v,.string ah.s,.string ao.s,.pointer am.A,.int .i32 ak.n,.map none],true⟩] [(7,.p 0 0),(9,.v (.bool (decide (v ≥ 3)))),(10,.p 1 0)] P' bu a_ w_) ?_ ?_
 ·
  refine wp_seq ?_
  refine qce [(7,.p 0 0),(9,.v (.bool (decide (v ≥ 3)))),(10,.p 1 0),(68,.v (.bool (decide (v ≥ 5))))] aI fun _ ac=>qab ?_
  clear aI
  refine qax ac.env_ (b:=decide (v ≥ 5)) kz (fun ae=>?_) (fun ae=>?_)
  ·
   have aJ:=ac.cast (t:=(be 4 ((IntKind.i32.wrap (T.at_ 3).N))) ++ bu) (by rw [if_pos ae])
   clear ac
   refine wp_seq ?_
   refine qhG (d:=69) [(7,.p 0 0),(9,.v (.bool (decide (v ≥ 3)))),(10,.p 1 0),(14,.v (.int .i32 (IntKind.i32.wrap (T.at_ 3).N)))] aJ (qjF _ _) Tryd.call43 fun _ _ aK=>?_
   clear aJ
   refine qab ?_
   refine qf6 [⟨bv,0,[.int .i16 v,.string ah.s,.string ao.s,.pointer am.A,.int .i32 (IntKind.i32.wrap (T.at_ 3).N),.map none],true⟩] 0 [(7,.p 0 0),(9,.v (.bool (decide (v ≥ 3)))),(10,.p 1 0)] aK fun _ _ cu=>?_
   clear aK
   refine qab ?_
   exact ⟨dvN (IntKind.i32.wrap (T.at_ 3).N),_,fun w F h_=>⟨h_,trivial,⟨fun _=>rfl,(fun e_=>by rw [ae] at e_; cases e_)⟩⟩,cu.pk (env':=[(7,.p 0 0),(9,.v (.bool (decide (v ≥ 3)))),(10,.p 1 0)])⟩
  have aL:=ac.cast (t:=[] ++ bu) (by rw [if_neg (by rw [ae]; decide)])
  clear ac
  have cw:=aL.cast (t:=bu) rfl
  clear aL
  refine wp_skip (qab ?_)
  exact ⟨dvN (-1),_,fun w F h_=>⟨h_,trivial,⟨(fun e_=>by rw [ae] at e_; cases e_),fun _=>rfl⟩⟩,cw.pk (env':=[(7,.p 0 0),(9,.v (.bool (decide (v ≥ 3)))),(10,.p 1 0)])⟩
 rintro _ _ ⟨ak,cN,ab,aM⟩
 refine qab ?_
 refine wp_seq ?_
 have aN:=aM.cast bw
 clear aM
 refine qcZ (Mid:=fun a_ w_=>∃ (aC:Option Nat) (al:List (Int × Bs)) (P':qb1),(∀ w F,P' w F → cN w F ∧ (MapR w F aC al ∧ al.length ≤ 1000000 ∧ ∀ x ∈ al,x.2.length < 4294967296) ∧ ((decide (v ≥ 3)) = true → al = T.U) ∧ ((decide (v ≥ 3)) = false → al = [])) ∧ RS w (fun b o=>b = bv ∧ o < 6) F 80 bn [⟨bv,0,[.int .i16 v,.string ah.s,.string ao.s,.pointer am.A,.int .i32 ak.n,.map aC],true⟩] [(7,.p 0 0)] P' ([]:Bs) a_ w_) ?_ ?_
 ·
  refine wp_seq ?_
  refine qce [(7,.p 0 0),(10,.p 1 0),(74,.v (.bool (decide (v ≥ 3))))] aN fun _ af=>qab ?_
  clear aN
  refine qax af.env_ (b:=decide (v ≥ 3)) kz (fun ag=>?_) (fun ag=>?_)
  ·
   have aO:=af.cast (t:=((uv T.U.length) ++ (qc0 T.U)) ++ ([]:Bs)) (by rw [if_pos ag])
   clear af
   refine qap [0,1,2,3,4] kz ?_
   refine qgy [0] [1,2,3,4] [(7,.p 0 0),(75,.p 1 0)] aO fun _ aP=>?_
   clear aO
   refine qaj (qhF (d:=76) aP (qj1 T.U e32_U (qf2 e32r) _) (fun _=>MvF.tags _ _) Tryd.call44 fun bk c5 _ _ aQ aR=>?_)
   clear aP
   refine qgy [2,3] [4] [(7,.p 0 0),(76,.v (.agg #[.map bk])),(78,.p 1 5)] aR fun _ aS=>?_
   clear aR
   refine qaj (qik [⟨bv,0,[.int .i16 v,.string ah.s,.string ao.s,.pointer am.A,.int .i32 ak.n,.map bk],true⟩] 0 aS fun _ aT=>?_)
   clear aS
   refine qae ?_
   have cz:=aT.pk (env':=[(7,.p 0 0)])
   clear aT
   refine qab ?_
   exact ⟨bk,T.U,_,fun w F h_=>⟨(aQ _ _ h_).1,⟨(aQ _ _ h_).2,e32_U.2.1,e32_U.2.2⟩,⟨fun _=>rfl,(fun e_=>by rw [ag] at e_; cases e_)⟩⟩,cz.pk (env':=[(7,.p 0 0)])⟩
  have aU:=af.cast (t:=[] ++ ([]:Bs)) (by rw [if_neg (by rw [ag]; decide)])
  clear af
  have cA:=aU.cast (t:=([]:Bs)) rfl
  clear aU
  refine wp_skip (qab ?_)
  exact ⟨none,[],_,fun w F h_=>⟨h_,⟨MapR.nil _ _,Nat.zero_le _,fun _ h=>by cases h⟩,⟨(fun e_=>by rw [ag] at e_; cases e_),fun _=>rfl⟩⟩,cA.pk (env':=[(7,.p 0 0)])⟩
 rintro _ _ ⟨aC,al,c6,aa,aV⟩
 refine qab ?_
 refine wp_seq ?_
 refine qap [0,1] kz (qaj (qfI (d:=79) aV qhJ Tryd.call45 fun _ aW=>?_))
 clear aV
 refine qgy [1] [] [(6,.v (.nilIface))] aW fun _ aX=>qae ?_
 clear aW
 refine qab ?_
 refine wp_ret ?_
 obtain ⟨A_,m_,c_,hW_,hr_,hE_,hP_⟩:=aX.open_
 refine qaG hE_ hW_.cells (v:=.nilIface) kz ?_
 have h_:=aX.mv.mono qbH hP_
 refine ⟨(dvP aC al [ah,ao,am,ak]),rfl,Str.of hW_ 1 rfl,?_,?_,hW_.step⟩
 ·unfold qaR
  exact ⟨((bO _ _ (az _ _ (ap _ _ (ab _ _ (aa _ _ h_).1).1).1).1).2.1),((az _ _ (ap _ _ (ab _ _ (aa _ _ h_).1).1).1).2.1),((ap _ _ (ab _ _ (aa _ _ h_).1).1).2.1),((ab _ _ (aa _ _ h_).1).2.1),(aa _ _ h_).2.1.1,(aa _ _ h_).2.1.2.1,(aa _ _ h_).2.1.2.2,trivial⟩
 unfold qbO
 exact ⟨((bO _ _ (az _ _ (ap _ _ (ab _ _ (aa _ _ h_).1).1).1).1).2.2),((az _ _ (ap _ _ (ab _ _ (aa _ _ h_).1).1).1).2.2),((ap _ _ (ab _ _ (aa _ _ h_).1).1).2.2),((ab _ _ (aa _ _ h_).1).2.2),(aa _ _ h_).2.2,trivial⟩
theorem qbP:qjW qaR:=by
 intro w w' F F' M d hs hM hF h
 unfold qaR at h ⊢
 obtain ⟨g0,g1,⟨g2,g2l⟩,g3,t1,t2,t3,_⟩:=h
 exact ⟨g0,g1,⟨fun ad hA=>by
  obtain ⟨b,o,h1,h2⟩:=g2 ad hA
  exact ⟨b,o,h1,h2.move hs hM hF⟩,g2l⟩,g3,t1.move hs hM hF,t2,t3,trivial⟩
end Go.Proofs.YtcbpjflgkefidaaDoor.ME
namespace Go.Proofs.YtcbpjflgkefidaaDoor.ME
open Go
open Go.RowKit
open Go.ChangeMaps (setBlock)
set_option linter.unusedVariables false
set_option linter.unusedSimpArgs false
set_option maxRecDepth 20000
abbrev cloV (fc:Nat) (cap:Value):Value:=.func (.func fc) #[] #[cap]
theorem qjJ {fc:Nat} {cap:Value} {m:Option Nat} {u:List (Int × Bs)} {b o:Nat} {w:World} {F M:Nat → Nat → Prop} (hcf:∀ args w,(callFunc fc args).run Tryd.prog w = .ok (.enter fc args) w) (I:World → Nat → World → Prop) (hat:AtF w F b o [.map m]) (hm:MapR w F m u) (hMF:∀ b o,F b o → ¬ M b o) (hMlt:∀ b o,M b o → b < w.heap.size)
  (hI0:∀ w7,Step w w7 Nil → I w7 0 w7) (hIs:∀ w7 j w8,I w7 j w8 → Step w7 w8 M)
  (hI1:∀ w7,Step w w7 Nil → ∀ j k x w8 Ax cx,I w7 j w8 → u[j]? = some (k,x) → (0 ≤ k ∧ k < 4294967296) → Octs w8 (fun b o=>F b o ∧ b < w7.heap.size) Ax cx x → Calls Tryd.prog fc [.int .u32 k,.slice Ax x.length cx,cap].toArray w8 (fun e w9=>e = .returned (.tuple #[]) ∧ I w7 (j + 1) w9)) (hul:u.length ≤ 1000000) :
  Calls Tryd.prog 25 [.pointer (some ⟨b,o,none⟩),cloV fc cap].toArray w (fun e w'=>e = .returned (.tuple #[]) ∧ ∃ w7,Step w w7 Nil ∧ I w7 u.length w'):=by
 refine enter (n:=53) Tryd.func25 rfl Tryd.ntmps25 kz fun a hE=>?_
 have hW:WOk w Nil w [⟨b,o,[.map m],false⟩] []:=(WOk.start w Nil).start1 hat rfl rfl
 refine wp_seq (wp_seq ?_)
 refine qap [0,1,2,3,4,5] kz ?_
 refine qbe [0,1,2,3] [4,5] [0,1,11] hW (EnvOk.ptr0 (cs:=[.map m]) (r:=false) hE) (env':=[(0,.p 0 0),(1,.v (cloV fc cap)),(11,.v (.map m))]) kz rfl fun a1 hE1=>?_
 refine qaj (qe4 (t:=65) (kt:=59) (et:=22) hE1 (m:=m) (d:=12) kz kz hm fun a2 hE2=>?_)
 refine qbe [5] [] [0,1,13] hW hE2 (env':=[(0,.p 0 0),(1,.v (cloV fc cap)),(13,.v (.bool (((u.length:Nat):Int) == 0)))]) kz rfl fun a3 hE3=>qae (qab ?_)
 refine qax hE3 (b:=((u.length:Nat):Int) == 0) kz (fun hb=>?_) (fun hb=>?_)
 ·-- none
  have hu:u = []:=List.eq_nil_of_length_eq_zero (by have:=eq_of_beq hb; omega)
  subst hu
  refine wp_ret (qat ?_)
  exact qaG hE3 hW.cells (v:=.tuple #[]) kz ⟨rfl,w,Step.refl _ _,hI0 w (Step.refl _ _)⟩
 have hu0:0 < u.length:=by have:=ne_of_beq_false hb; omega
 cases m with
 | none=>rw [hm.none_ rfl] at hu0; cases hu0
 | some mb =>
 obtain ⟨hFm,es,clk,hes,hperm,hborn,hnod,hcont⟩:=hm.some_ mb rfl
 have hmlt:mb < w.heap.size:=(Array.getElem?_eq_some_iff.1 hes).1
 have hesz:es.size = u.length:=MapR.size (w:=w) (F:=F) hperm
 refine wp_skip (qab ?_)
 refine qac [0,1,2,3,4,5,6,7] kz ?_
 refine qbe [0,1,2,3] [4,5,6,7] [0,1,17] hW hE3 (env':=[(0,.p 0 0),(1,.v (cloV fc cap)),(17,.v (.map (some mb)))]) kz rfl fun a4 hE4=>?_
 refine qaj (qe4 (t:=65) (kt:=59) (et:=22) hE4 (m:=some mb) (d:=18) kz kz hm fun a5 hE5=>?_)
 refine qaj (qgi (e:=59) (size:=1) (bytes:=4) (j:=u.length) (t:=94) (d:=19) hW hE5 (p:=0) (q:=((u.length:Nat):Int)) kz kz rfl rfl (by omega) fun kr a6 w1 hkr hkr0 hF1 hW1 hE6=>?_)
 refine qaj (qaI hW1 hE6 (d:=4) (cs:=[.slice none 0 0]) kz fun kb a7 w2 hkb hkb0 hF2 hW2 hE7=>?_)
 refine qaj (qaw hW2 hE7 (oi:=1) (cs:=[.slice (some ⟨kr,0,none⟩) 0 u.length]) kz fun w3 hF3 hW3 hE8=>qae (qab ?_))
 refine wp_seq (qac [0,1,2,3,4] kz ?_)
 refine qbe [0,1,2,3] [4] [0,1,4,23] hW3 hE8 (env':=[(0,.p 0 0),(1,.v (cloV fc cap)),(4,.p 1 0),(23,.v (.map (some mb)))]) kz rfl fun a8 hE9=>?_
 have hes3:=hW3.step.heap (fun o h=>h) hes
 refine qaj (qgl (t:=65) (kt:=59) (et:=22) (d:=24) (r:=mb) hE9 kz kz hes3 fun a9 hE10=>qae (qab ?_))
 have hW4:=hW3.next_nil (Step.alloc w3 (.mapIter (some mb) clk #[] clk))
 have hr4:(w3.alloc (.mapIter (some mb) clk #[] clk)).heap[w3.heap.size]? = some (.mapIter (some mb) clk #[] clk):=qcK _ _
 have hE11:=hE10.pick (ks:=[0,1,4,24]) (env':=[(0,.p 0 0),(1,.v (cloV fc cap)),(4,.p 1 0),(24,.v (.pointer (some ⟨w3.heap.size,0,none⟩)))]) kz
 have hrlt:w3.heap.size < (w3.alloc (.mapIter (some mb) clk #[] clk)).heap.size:=by rw [qdB]; omega
 have hr0:w.heap.size ≤ w3.heap.size:=hW3.step.size
 have hkbr:kb ≠ w3.heap.size:=by have:=hW3.live 1 _ rfl; show ¬ _; intro e; rw [← e] at this; exact absurd this (Nat.lt_irrefl _)
 have hkrr:kr ≠ w3.heap.size:=by have:=qbn (hW3.own 0 _ rfl) (g:=kr) rfl; omega
 generalize hR:w3.heap.size = R at hr4 hE11 hrlt hkbr hkrr
 generalize hw4:w3.alloc (.mapIter (some mb) clk #[] clk) = w4 at hW4 hr4 hrlt
 refine wp_block ?_
 refine wp_loop_ghost (fun q a_ w_=>∃ (vis:List MapEntry) (seen:Array Nat) (K:Option Addr) (kc c0:Nat),q = (leftOf es seen).size ∧ Vis es.toList vis seen ∧ vis.length + (leftOf es seen).size ≤ es.size ∧
   EnvOk 53 [⟨b,o,[.map (some mb)],false⟩,⟨kb,0,[.slice K vis.length kc],true⟩] [(0,.p 0 0),(1,.v (cloV fc cap)),(4,.p 1 0),(24,.v (.pointer (some ⟨R,0,none⟩)))] a_ ∧
   WOk w Nil w_ [⟨b,o,[.map (some mb)],false⟩,⟨kb,0,[.slice K vis.length kc],true⟩] [⟨K,kc,59,1,vis.length,(vis.map fun e=>kOf e.key).map (Value.int .u32)⟩] ∧
   w_.heap[R]? = some (.mapIter (some mb) clk seen c0) ∧ clk ≤ c0 ∧ K.map (·.block) ≠ some R) (leftOf es #[]).size
  ⟨[],#[],some ⟨kr,0,none⟩,u.length,clk,rfl,Vis.nil _,by rw [List.length_nil,Nat.zero_add]; exact Array.size_filter_le,by rw [← hw4] at *; exact hE11,hW4,hr4,Nat.le_refl _,by simpa using hkrr⟩ ?_
 rintro q a10 w5 ⟨vis,seen,K,kc,c0,rfl,hv,hvl,hE12,hW5,hr5,hc0,hKR⟩
 have hes5:=hW5.step.heap (fun o h=>h) hes
 refine qac [0,1] kz ?_
 refine qaj (qg2 hE12 (d:=25) (r:=R) kz hr5 hes5 hborn hc0 (fun h0 a11 hE13=>?_) (fun e he w6 hw6 a11 hE13=>?_))
 ·-- behind it
  refine qbe [1] [] [0,1,4,26] hW5 hE13 (env':=[(0,.p 0 0),(1,.v (cloV fc cap)),(4,.p 1 0),(26,.v (.bool false))]) kz rfl fun a12 hE14=>qae (qab (wp_seq ?_))
  refine qax hE14 (b:=false) kz (fun hb=>by cases hb) (fun _=>?_)
  refine wp_exit (qau (qau (qaH (qab ?_))))
  have hpe:=hv.all h0 hnod
  have hvu:vis.length = u.length:=by rw [hpe.length_eq,Array.length_toList,hesz]
  have hkp:(vis.map fun e=>kOf e.key).Perm (u.map Prod.fst):=by
   have h1:=(hpe.map fun e=>kOf e.key)
   have h2:=hperm.map kOf
   rw [List.map_map,List.map_map] at h2
   exact h1.trans h2
  have hkl:(vis.map fun e=>kOf e.key).length = vis.length:=by simp
  generalize (vis.map fun e=>kOf e.key) = ks at hkp hkl hW5
  have hown4:w5.ownsRow 0 59 1 (.slice K vis.length kc) vis.length (ks.map (Value.int .u32)):=hW5.own 0 _ rfl
  obtain ⟨g,rfl⟩:=qbS hown4 (by omega)
  have hown5:w5.ownsRow 0 59 1 (.slice (some ⟨g,0,none⟩) vis.length kc) vis.length (ks.map (Value.int .u32)):=hown4
  have hg0:w.heap.size ≤ g:=by
   rcases hW5.ownM 0 _ rfl g rfl with h | h
   ·exact h
   exact (h 0).elim
  refine qac [0,1,2,3] kz ?_
  refine qbe [0,1] [2,3] [0,1,4,34] hW5 hE14 (env':=[(0,.p 0 0),(1,.v (cloV fc cap)),(4,.p 1 0),(34,.v (.iface 94 (.slice (some ⟨g,0,none⟩) vis.length kc)))]) kz rfl fun a13 hE15=>?_
  refine qaj (qfO hE15 (v:=.func (.func 47) #[] #[.pointer (some ⟨kb,0,none⟩)]) (d:=35) kz fun a14 hE16=>?_)
  have hS:=Tryd.sortKeys g kc kb ks.toArray (by simp; omega) (by simp; omega) w5 (by simp only [List.size_toArray,hkl]; exact hW5.cells 1 _ rfl 0 _ rfl) (fun e=>hW5.rtb 0 _ rfl g rfl 1 _ rfl e) (qe6 hkl hown5) (qbn (hW5.own 0 _ rfl) (g:=g) rfl) (hW5.live 1 _ rfl)
  rw [List.size_toArray,hkl] at hS
  refine qaj (qal hE16 (f:=46) (vs:=[.iface 94 (.slice (some ⟨g,0,none⟩) vis.length kc),.func (.func 47) #[] #[.pointer (some ⟨kb,0,none⟩)]]) (d:=36) kz Tryd.call46 hS ?_)
  rintro e_ w7 ⟨rfl,d',nd,os,hd1,hd2,hd3,rfl⟩
  refine ⟨_,rfl,fun a15 hE17=>qae (qab ?_)⟩
  have hus:d'.toList = u.map Prod.fst:=qg3 hd2 (by rw [hd1]; exact hd3) hkp (List.pairwise_map.2 hm.sorted)
  obtain ⟨hst7,hown7⟩:=qh5 (n:=nd) (os:=os) hkl hown5 (by rw [hd1,hkl])
  rw [hus] at hown7
  generalize Sort.grow (Sort.putRow (Value.int .u32) (Sort.ahead w5 nd) g 0 d') os = w7 at hst7 hown7
  have hW7:WOk w Nil w7 [⟨b,o,[.map (some mb)],false⟩,⟨kb,0,[.slice (some ⟨g,0,none⟩) vis.length kc],true⟩] [⟨some ⟨g,0,none⟩,kc,59,1,vis.length,(u.map Prod.fst).map (Value.int .u32)⟩] :=
   hW5.grow (k:=0) (r':=⟨some ⟨g,0,none⟩,kc,59,1,vis.length,(u.map Prod.fst).map (Value.int .u32)⟩) rfl (hst7.mono fun b' _ _ hb'=>by rw [hb']; rfl) hown7 (fun g' h=>.inl h)
  refine qac [0,1,2] kz ?_
  refine qbe [0,1,2] [] [0,1,37,38,39] hW7 hE17 (env':=[(0,.p 0 0),(1,.v (cloV fc cap)),(37,.v (.slice (some ⟨g,0,none⟩) vis.length kc)),(38,.v (.int .i64 ((vis.length:Nat):Int))),(39,.v (.int .i64 0))]) kz rfl fun a16 hE18=>qae (qab ?_)
  have hE19:=EnvOk.cutTb 1 hE18 kz
  have hat7:=hat.move hW7.step nilM qaV
  have hm7:=hm.move hW7.step nilM qaV
  have hg7:g < w7.heap.size:=qbn (hW7.own 0 _ rfl) (g:=g) rfl
  have hkeys:=qe6 (by simpa using hvu.symm) hown7
  rw [hvu] at hE19
  refine wp_block ?_
  refine wp_loop_ghost (fun q a_ w_=>∃ (j:Nat),q = u.length - j ∧ j ≤ u.length ∧ EnvOk 53 [⟨b,o,[.map (some mb)],false⟩] [(0,.p 0 0),(1,.v (cloV fc cap)),(37,.v (.slice (some ⟨g,0,none⟩) u.length kc)),(38,.v (.int .i64 ((u.length:Nat):Int))),(39,.v (.int .i64 ((j:Nat):Int)))] a_ ∧
   I w7 j w_) u.length
   ⟨0,by omega,by omega,hE19,hI0 w7 hW7.step⟩ ?_
  rintro q a17 w8 ⟨j,rfl,hj,hE20,hD⟩
  have hS8:=hIs w7 j w8 hD
  have hat8:=hat7.move hS8 (fun b o hf _=>hMF b o hf) qaV
  have hm8:MapR w8 (fun b' o'=>F b' o' ∧ b' < w7.heap.size) (some mb) u:=hm7.move hS8 (fun b o hf _=>hMF b o hf) (fun b' o' hf hl=>⟨hf,hl⟩)
  have hW8:WOk w8 Nil w8 [⟨b,o,[.map (some mb)],false⟩] []:=(WOk.start w8 Nil).start1 hat8 rfl rfl
  refine qac [0] kz (qbe [0] [] [0,1,37,38,39,40] hW8 hE20 (env':=[(0,.p 0 0),(1,.v (cloV fc cap)),(37,.v (.slice (some ⟨g,0,none⟩) u.length kc)),(38,.v (.int .i64 ((u.length:Nat):Int))),(39,.v (.int .i64 ((j:Nat):Int))),(40,.v (.bool (decide (((j:Nat):Int) < ((u.length:Nat):Int)))))]) kz rfl fun a18 hE21=>qae (qab (wp_seq ?_)))
  refine qax hE21 (b:=decide (((j:Nat):Int) < ((u.length:Nat):Int))) kz (fun hc=>?_) (fun hc=>?_)
  ·have hlt:j < u.length:=by have:=of_decide_eq_true hc; omega
   refine wp_skip (qab (wp_seq (wp_block ?_)))
   obtain ⟨⟨k,x⟩,hu⟩:∃ y,u[j]? = some y:=⟨_,List.getElem?_eq_getElem hlt⟩
   have hmem:=List.mem_of_getElem? hu
   have hkr:=hm.range _ hmem
   have hcell:At w8 g (0 + j * 1) [.int .u32 k]:=by
    intro i v hi
    have hi0:i = 0:=by
     have:=(List.getElem?_eq_some_iff.1 hi).1
     simp at this; omega
    subst hi0
    simp only [List.getElem?_cons_zero,Option.some.injEq] at hi
    subst hi
    refine hS8.cell (fun hbm=>?_) ?_
    ·have:=hMlt _ _ hbm; omega
    have h1:=(hkeys j (by simpa using hlt)).1
    have h2:(u.map Prod.fst).toArray[j]! = k:=by
     rw [getElem!_pos _ j (by simpa using hlt)]
     have:(u.map Prod.fst)[j]? = some k:=by rw [List.getElem?_map,hu]; rfl
     simpa using (List.getElem?_eq_some_iff.1 this).2
    rw [h2] at h1
    simpa using h1
   refine qac [0,1,2] kz ?_
   refine qaj (qas hE21 (t:=94) (e:=59) (size:=1) (bytes:=4) (d:=41) (b:=g) (o:=0) (m:=u.length) (j:=j) kz kz rfl rfl hlt fun a19 hE22=>?_)
   refine qaj (qaA hE22 (t:=59) (d:=42) (cs:=[.int .u32 k]) (v:=.int .u32 k) kz kz hcell fun a20 hE23=>?_)
   refine qbe [2] [] [0,1,37,38,39,7] hW8 hE23 (env':=[(0,.p 0 0),(1,.v (cloV fc cap)),(37,.v (.slice (some ⟨g,0,none⟩) u.length kc)),(38,.v (.int .i64 ((u.length:Nat):Int))),(39,.v (.int .i64 ((j:Nat):Int))),(7,.v (.int .u32 k))]) kz rfl fun a21 hE24=>qae (qab ?_)
   refine qap [0,1,2,3,4,5,6,7,8] kz ?_
   refine qbe [0,1,2,3,4,5,6] [7,8] [0,1,37,38,39,43,44,48,49] hW8 hE24 (env':=[(0,.p 0 0),(1,.v (cloV fc cap)),(37,.v (.slice (some ⟨g,0,none⟩) u.length kc)),(38,.v (.int .i64 ((u.length:Nat):Int))),(39,.v (.int .i64 ((j:Nat):Int))),(43,.v (cloV fc cap)),(44,.v (.int .u32 k)),(48,.v (.map (some mb))),(49,.v (.int .u32 k))]) kz rfl fun a22 hE25=>?_
   refine qaj (qg0 hE25 (t:=65) (kt:=59) (et:=22) (m:=some mb) (k:=k) (s:=x) (d:=50) kz kz kz hm8 hmem fun a23 Ax cx hox hE26=>?_)
   refine qaj (qal hE26 (f:=fc) (vs:=[.int .u32 k,.slice Ax x.length cx,cap]) (d:=51) kz hcf (hI1 w7 hW7.step j k x w8 Ax cx hD hu hkr hox) ?_)
   rintro e_ w9 ⟨rfl,hD2⟩
   refine ⟨_,rfl,fun a24 hE27=>qae (qav (qab ?_))⟩
   have hS9:=hIs w7 (j + 1) w9 hD2
   have hat9:=hat7.move hS9 (fun b o hf _=>hMF b o hf) qaV
   have hW9:WOk w9 Nil w9 [⟨b,o,[.map (some mb)],false⟩] []:=(WOk.start w9 Nil).start1 hat9 rfl rfl
   refine qap [0,1] kz (qbe [0,1] [] [0,1,37,38,39] hW9 hE27 (env':=[(0,.p 0 0),(1,.v (cloV fc cap)),(37,.v (.slice (some ⟨g,0,none⟩) u.length kc)),(38,.v (.int .i64 ((u.length:Nat):Int))),(39,.v (.int .i64 (IntKind.i64.wrap (((j:Nat):Int) + 1))))]) kz rfl fun a25 hE28=>qae (qab ?_))
   rw [qaO (by omega)] at hE28
   exact ⟨u.length - (j + 1),by omega,j + 1,rfl,by omega,hE28,hD2⟩
  obtain rfl:j = u.length:=by have:=of_decide_eq_false hc; omega
  refine wp_exit (qau (qau (qaH ?_)))
  exact qbz hE21 hW8.cells (v:=.tuple #[]) kz ⟨rfl,w7,hW7.step,hD⟩
 -- one more
 have hst6:Step w5 w6 Nil:=by
  rcases hw6 with rfl | rfl
  ·exact Step.refl _ _
  exact Step.drew _
 have hr6:w6.heap[R]? = some (.mapIter (some mb) clk seen c0):=hst6.heap (fun o h=>h) hr5
 have hW6:=hW5.next_nil hst6
 obtain ⟨hml,_⟩:=mem_left he
 obtain ⟨k,sx,Ax,cx,hk1,hk2,hk3,hk4⟩:=hcont e hml
 have hR6:R < w6.heap.size:=(Array.getElem?_eq_some_iff.1 hr6).1
 have hW7:WOk w Nil (setBlock w6 R (.mapIter (some mb) clk (seen.push e.born) clk)) [⟨b,o,[.map (some mb)],false⟩,⟨kb,0,[.slice K vis.length kc],true⟩] [⟨K,kc,59,1,vis.length,(vis.map fun e=>kOf e.key).map (Value.int .u32)⟩]:=by
  refine hW6.next (Step.setBlock w6 R _) (fun b' o' hb' hN=>by omega) (fun i ob hi j hj hN=>?_) (fun i q hi g' hg' o' hN=>?_)
  ·match i,hi with
   | 0,hi =>
    simp only [List.getElem?_cons_zero,Option.some.injEq] at hi; subst hi
    have:=World.lt_of_cell (hat 0 _ rfl).2
    simp only at hN; omega
   | 1,hi =>
    simp only [List.getElem?_cons_succ,List.getElem?_cons_zero,Option.some.injEq] at hi; subst hi
    exact hkbr hN
   | i + 2,hi=>simp at hi
  match i,hi with
  | 0,hi =>
   simp only [List.getElem?_cons_zero,Option.some.injEq] at hi; subst hi
   exact hKR (by rw [← hN]; exact hg')
  | i + 1,hi=>simp at hi
 have hr7:(setBlock w6 R (.mapIter (some mb) clk (seen.push e.born) clk)).heap[R]? = some (.mapIter (some mb) clk (seen.push e.born) clk):=qdv hr6
 generalize hw7:setBlock w6 R (.mapIter (some mb) clk (seen.push e.born) clk) = w7 at hW7 hr7
 refine qbe [1] [] [0,1,4,24,26] hW7 hE13 (env':=[(0,.p 0 0),(1,.v (cloV fc cap)),(4,.p 1 0),(24,.v (.pointer (some ⟨R,0,none⟩))),(26,.v (.bool true))]) kz rfl fun a12 hE14=>qae (qab (wp_seq ?_))
 refine qax hE14 (b:=true) kz (fun _=>?_) (fun hb=>by cases hb)
 refine wp_skip (qab (wp_block ?_))
 have hes7:=hW7.step.heap (fun o h=>h) hes
 refine qac [0,1,2] kz ?_
 refine qaj (qgm hE14 (d:=27) (r:=R) kz hr7 hes7 hml hnod fun a13 hE15=>?_)
 rw [hk1] at hE15
 refine qbe [1,2] [] [0,1,4,24,5] hW7 hE15 (env':=[(0,.p 0 0),(1,.v (cloV fc cap)),(4,.p 1 0),(24,.v (.pointer (some ⟨R,0,none⟩))),(5,.v (.int .u32 k))]) kz rfl fun a14 hE16=>qae (qab ?_)
 refine qap [0,1,2,3,4] kz ?_
 refine qbe [0,1] [2,3,4] [0,1,4,24,29,30] hW7 hE16 (env':=[(0,.p 0 0),(1,.v (cloV fc cap)),(4,.p 1 0),(24,.v (.pointer (some ⟨R,0,none⟩))),(29,.v (.slice K vis.length kc)),(30,.v (.int .u32 k))]) kz rfl fun a15 hE17=>?_
 have hsh:=left_shrinks es seen e he
 refine qbI (t:=94) (e:=59) (size:=1) (bytes:=4) (len:=1) (cs:=[.int .u32 k]) (d1:=31) (d:=32) (k:=0) hW7 hE17 kz kz (fun _=>by kernel_rfl) rfl kz (by omega) fun K2 kc2 a16 w8 hF8 hW8 hE18=>?_
 obtain ⟨bl,hE18⟩:=hE18
 have hR7:R < w7.heap.size:=(Array.getElem?_eq_some_iff.1 hr7).1
 have hna:∀ {o'},¬ Act_ [⟨b,o,[.map (some mb)],false⟩,⟨kb,0,[.slice K vis.length kc],true⟩] [⟨K,kc,59,1,vis.length,(vis.map fun e=>kOf e.key).map (Value.int .u32)⟩] R o':=by
  rintro o' (⟨i,ob,hi,hrw,hb,_⟩ | ⟨i,q,hi,hq⟩)
  ·match i,hi with
   | 0,hi =>
    simp only [List.getElem?_cons_zero,Option.some.injEq] at hi; subst hi
    cases hrw
   | 1,hi =>
    simp only [List.getElem?_cons_succ,List.getElem?_cons_zero,Option.some.injEq] at hi; subst hi
    exact hkbr hb
   | i + 2,hi=>simp at hi
  match i,hi with
  | 0,hi =>
   simp only [List.getElem?_cons_zero,Option.some.injEq] at hi; subst hi
   exact hKR hq
  | i + 1,hi=>simp at hi
 have hK2:K2.map (·.block) ≠ some R:=fun hk=>by
  exact hF8.imm R 0 hR7 hna (.inr ⟨0,_,rfl,hk⟩)
 refine qaj (qaw hW8 hE18 (oi:=1) (cs:=[.slice K2 (vis.length + 1) kc2]) kz fun w9 hF9 hW9 hE19=>qae (qav (qab ?_)))
 have hr8:w9.heap[R]? = some (.mapIter (some mb) clk (seen.push e.born) clk) :=
  hF9.step.heap (fun o'=>hF8.imm R o' hR7 hna) (hF8.step.heap (fun o'=>hna) hr7)
 refine ⟨(leftOf es (seen.push e.born)).size,hsh,vis ++ [e],seen.push e.born,K2,kc2,clk,rfl,hv.push he,by rw [List.length_append,List.length_singleton]; omega,?_,?_,hr8,Nat.le_refl _,hK2⟩
 ·rw [List.length_append,List.length_singleton]
  exact hE19.pick (ks:=[0,1,4,24]) kz
 rw [List.length_append,List.length_singleton,List.map_append,List.map_append,List.map_cons,List.map_cons,hk1]
 exact hW9
end Go.Proofs.YtcbpjflgkefidaaDoor.ME
namespace Go.Proofs.YtcbpjflgkefidaaDoor.ME
open Go
open Go.RowKit
set_option linter.unusedVariables false
set_option linter.unusedSimpArgs false
set_option maxRecDepth 20000
section
variable {P:Program} {ops:Array Oper} {Q:Exit → Act → World → Prop} {n:Nat} {tb:Tb} {env:Env} {rs:List Rw} {w0:World} {M:Nat → Nat → Prop} {a:Act} {w:World}
theorem qgB {i d j:Nat} {t e:TypeId} {size bytes:Nat} (z:Value) (cs:List Value) {N:Act → World → Prop} (hW:WOk w0 M w tb rs) (hE:EnvOk n tb env a)
  (K:∀ b a' w',b = w.heap.size → w0.heap.size ≤ b → Fr w tb rs w' (tb ++ [⟨b,0,cs,true⟩]) rs → WOk w0 M w' (tb ++ [⟨b,0,cs,true⟩]) rs → EnvOk n (tb ++ [⟨b,0,cs,true⟩]) ((d,.v (.slice (some ⟨b,0,none⟩) j j)) :: env) a' → N a' w')
  (h:qgU env ops n i = some (t,((j:Nat):Int),((j:Nat):Int),d):=by kernel_rfl) (ht:qcg P t = some (e,size,bytes):=by kernel_rfl) (hz:(P.info? e).bind (·.zero) = some z:=by kernel_rfl) (hcs:(madeCells z.cells (j * size)).toList = cs:=by kernel_rfl) (hb:Nat.ble (bytes * j) 1000000 = true:=by kernel_rfl):wpOp P ops Q i N a w:=by
 obtain ⟨ht',inf,z',hi,hz',hzs,hs1,rfl,hsz,hbp⟩:=qbJ ht
 obtain ⟨op,ho,hd,kl,kc,hrun⟩:=qeL (P:=P) (w:=w) hE h
 have hzz:z' = z:=by rw [hi] at hz; simp only [Option.bind_some,hz',Option.some.injEq] at hz; exact hz
 subst hzz
 have hb':=Nat.le_of_ble_eq_true hb
 have hjm:j ≤ 1000000:=by
  have:=Nat.le_mul_of_pos_left j hbp
  omega
 have hr:=run_make (P:=P) w t e inf z' ht' hi hz' kl kc (j:Int) (j:Int) (by omega) (Int.le_refl _) (by
  have:((inf.bytes * j:Nat):Int) ≤ 281474976710656:=by omega
  rwa [Int.natCast_mul] at this) (by omega)
 simp only [Int.toNat_natCast,hs1] at hr
 have hca:madeCells z'.cells (j * size) = cs.toArray:=by rw [← hcs]
 rw [hca] at hr
 refine qaP hE ho (fun o hop=>hrun o _ _ hop hr) ?_
 refine K w.heap.size _ _ rfl hW.step.size (Fr.alloc w tb rs _ cs true) (hW.alloc cs e) ?_
 exact (hE.put hd (.v (.slice (some ⟨w.heap.size,0,none⟩) j j)) trivial).grow _
theorem qdJ {i d:Nat} {src dst e:TypeId} {s:ByteArray} {N:Act → World → Prop} (hW:WOk w0 M w tb rs) (hE:EnvOk n tb env a) (hsm:s.size ≤ 1099511627776)
  (K:∀ b c a' w',Fr w tb rs w' tb rs → WOk w0 M w' tb rs → (∀ G,Octs w' (Imm G w0 w' tb rs) (some ⟨b,0,none⟩) c (sb s)) → EnvOk n tb ((d,.v (.slice (some ⟨b,0,none⟩) (sb s).length c)) :: env) a' → N a' w')
  (h:qie tb env ops n i = some (src,dst,.string s,d):=by kernel_rfl) (hs:P.underlying src = some .string:=by kernel_rfl) (hd:P.underlying dst = some (.slice e):=by kernel_rfl) (he:P.underlying e = some (.int .u8):=by kernel_rfl):wpOp P ops Q i N a w:=by
 unfold qie at h
 split at h
 ·rename_i src' dst' x d' hop
  split at h
  ·rename_i v hx
   simp only [Option.some.injEq,Prod.mk.injEq] at h
   obtain ⟨rfl,rfl,rfl,rfl⟩:=h
   have hdn:=(qa3 hE hop).choose_spec.2.2.2.1
   have hrun:=Lib.run_convert_string_bytes (P:=P) w src' dst' e s hs hd he
   have hst:Step w (Lib.bytesWorld w e s) Nil:=⟨rfl,rfl,by rw [Lib.bytesWorld_size]; omega,fun b hb=>by rw [Lib.bytesWorld_at_old w e s b hb]; exact Keeps.refl _ _⟩
   have hlen:(sb s).length = s.size:=qgR s
   have e1:=(qaK hE hx).1
   refine qaP hE hop (v:=.slice (some ⟨w.heap.size,0,none⟩) (sb s).length (grownCap w s.size 0 e)) (w':=Lib.bytesWorld w e s) (fun o' ho'=>?_) (K w.heap.size _ _ _ (Fr.nil tb rs hst) (hW.next_nil hst) (fun G=>?_) (hE.put hdn (.v _) trivial))
   ·unfold execOp
    rw [ho']
    simp only [SV.val] at e1
    simp only [e1,Sem.run_bind,hrun,Result.andThen_ok,Sem.run_pure,hlen]
   refine ⟨by rw [hlen]; exact grownCap_ge w s.size 0 e,by rw [hlen]; exact hsm,fun h=>(by cases h),fun ad hA _=>?_⟩
   obtain rfl:=Option.some.inj hA
   refine ⟨w.heap.size,0,rfl,fun q hq=>⟨rfl,fun j v hj=>?_⟩⟩
   have hj0:j = 0:=by
    cases j with
    | zero=>rfl
    | succ j=>simp at hj
   subst hj0
   simp only [List.getElem?_cons_zero,Option.some.injEq] at hj
   subst hj
   have h2:(Lib.bytesWorld w e s).heap.size = w.heap.size + 1:=Lib.bytesWorld_size w e s
   refine ⟨⟨.inr hW.step.size,by rw [h2]; exact Nat.lt_succ_self _,fun ha=>?_⟩,?_⟩
   ·have:=hW.act_live ha
    exact absurd this (Nat.lt_irrefl _)
   rw [Nat.zero_add,Nat.mul_one,Nat.add_zero,Lib.bytesWorld_cell w e s q (by rw [← hlen]; exact hq)]
   rfl
  cases h
 cases h
end
structure TBox (w:World) (B eT:Nat) (A:Option Addr) (cp n:Nat) (x0 x1 x2 x3:Value) (xs:List Value):Prop where
 str:Str w B [x0,x1,x2,x3,.slice A n cp]
 own:w.ownsRow 0 eT 2 (.slice A n cp) n xs
 ne:A.map (·.block) ≠ some B
def TM (B:Nat) (A:Option Addr):Nat → Nat → Prop:=fun b o=>(b = B ∧ o < 5) ∨ Blk A b o
def qio (w:World) (B eT:Nat) (A:Option Addr) (n:Nat) (x0 x1 x2 x3:Value) (xs:List Value) (k:Int) (x:Bs):Ending → World → Prop:=fun en w' =>
 en = .returned (.tuple #[]) ∧ ∃ A' cp' Av cv,TBox w' B eT A' cp' (n + 1) x0 x1 x2 x3 (xs ++ [.int .u32 k,.slice Av x.length cv]) ∧ Octs w' (fun b o=>(w.heap.size ≤ b ∨ A.map (·.block) = some b) ∧ ¬ TM B A' b o) Av cv x ∧ Near w A A' ∧ Step w w' (TM B A)
def qhK (P:Program) (fc eT:Nat):Prop:=∀ (w:World) (B cp c n:Nat) (k:Int) (A Av:Option Addr) (x:Bs) (x0 x1 x2 x3:Value) (xs:List Value) (G:Nat → Nat → Prop),TBox w B eT A cp n x0 x1 x2 x3 xs → Octs w G Av c x → (∀ b o,G b o → ¬ TM B A b o) → n ≤ 1000000 →
 Calls P fc [.int .u32 k,.slice Av x.length c,.pointer (some ⟨B,0,none⟩)].toArray w (qio w B eT A n x0 x1 x2 x3 xs k x)
theorem TBox.wok {w:World} {B eT cp n:Nat} {A:Option Addr} {x0 x1 x2 x3:Value} {xs:List Value} (h:TBox w B eT A cp n x0 x1 x2 x3 xs):WOk w (TM B A) w [⟨B,0,[x0,x1,x2,x3,.slice A n cp],true⟩] [⟨A,cp,eT,2,n,xs⟩]:=by
 have h1:WOk w (TM B A) w [⟨B,0,[x0,x1,x2,x3,.slice A n cp],true⟩] [] :=
  (WOk.start w _).add ⟨B,0,[x0,x1,x2,x3,.slice A n cp],true⟩ (World.lt_of_cell (h.str.at_ 0 _ rfl)) (fun j v hj=>by rw [Nat.zero_add]; exact h.str.at_ j v hj) (fun _ j hj=>⟨.inr (.inl ⟨rfl,by rw [Nat.zero_add]; exact hj⟩),by rw [Nat.zero_add]; exact h.str.frz j hj⟩) (fun i ob hi=>by simp at hi) (fun i r hi=>by simp at hi)
 refine h1.addRow ⟨A,cp,eT,2,n,xs⟩ h.own (fun g hg=>.inr fun o=>.inr hg) (fun i ob hi=>?_) (fun i r hi=>by simp at hi)
 cases i with
 | zero =>
  simp only [List.getElem?_cons_zero,Option.some.injEq] at hi; subst hi
  exact h.ne
 | succ i=>simp at hi
theorem qi9 {w0 w:World} {B eT cp n:Nat} {A0 A:Option Addr} {x0 x1 x2 x3:Value} {xs:List Value} {rs:List Rw} (hW:WOk w0 (TM B A0) w [⟨B,0,[x0,x1,x2,x3,.slice A n cp],true⟩] (⟨A,cp,eT,2,n,xs⟩ :: rs)) (hB:B < w0.heap.size):TBox w B eT A cp n x0 x1 x2 x3 xs ∧ Near w0 A0 A ∧ Step w0 w (TM B A0):=by
 refine ⟨⟨Str.of hW 0 rfl,hW.own 0 _ rfl,fun e=>hW.rtb 0 _ rfl B e 0 _ rfl rfl⟩,fun g hg=>?_,hW.step⟩
 rcases hW.ownM 0 _ rfl g hg with h | h
 ·exact .inr h
 rcases h 5 with ⟨_,h⟩ | h
 ·omega
 exact .inl h
theorem qhL {w0 w:World} {B eT cp n c e8:Nat} {A0 A Av:Option Addr} {cs:List Value} {xs:List Value} {s:Bs} (hl:cs.length = 5) (hW:WOk w0 (TM B A0) w [⟨B,0,cs,true⟩] [⟨A,cp,eT,2,n,xs⟩,brow Av c e8 s]) (hsm:s.length ≤ 1099511627776):Octs w (fun b o=>(w0.heap.size ≤ b ∨ A0.map (·.block) = some b) ∧ ¬ TM B A b o) Av c s:=by
 refine qds (hW.own 1 _ rfl) hsm fun g hg o=>⟨?_,?_⟩
 ·rcases hW.ownM 1 _ rfl g hg with h | h
  ·exact .inl h
  rcases h 5 with ⟨_,h⟩ | h
  ·omega
  exact .inr h
 rintro (⟨rfl,_⟩ | h)
 ·exact hW.rtb 1 _ rfl g hg 0 _ rfl rfl
 exact hW.rr 1 0 _ _ (by decide) rfl rfl g hg h
theorem qhM {fc eT B b o:Nat} {m:Option Nat} {u:List (Int × Bs)} {w:World} {F:Nat → Nat → Prop} {x0 x1 x2 x3:Value} (hcf:∀ args w,(callFunc fc args).run Tryd.prog w = .ok (.enter fc args) w) (hone:qhK Tryd.prog fc eT) (hat:AtF w F b o [.map m]) (hm:MapR w F m u) (hB:Str w B [x0,x1,x2,x3,.slice none 0 0]) (hF:∀ b o,F b o → ¬ (b = B ∧ o < 5)) (hul:u.length ≤ 1000000) :
  Calls Tryd.prog 25 [.pointer (some ⟨b,o,none⟩),cloV fc (.pointer (some ⟨B,0,none⟩))].toArray w (fun e w'=>e = .returned (.tuple #[]) ∧ ∃ A c,Str w' B [x0,x1,x2,x3,.slice A u.length c] ∧ TagsR w' (fun b o=>w.heap.size ≤ b) A c u ∧ Step w w' (fun b o=>b = B ∧ o < 5)):=by
 have hBl:B < w.heap.size:=World.lt_of_cell (hB.at_ 0 _ rfl)
 refine (qjJ (M:=fun b o=>b = B ∧ o < 5) hcf (fun w7 j w8=>∃ A cp xs css,TBox w8 B eT A cp j x0 x1 x2 x3 xs ∧ Tags w8 (fun b o=>w7.heap.size ≤ b ∧ ¬ TM B A b o) xs (u.take j) css ∧ (∀ g,A.map (·.block) = some g → w7.heap.size ≤ g) ∧ Step w7 w8 (fun b o=>b = B ∧ o < 5)) hat hm hF (fun b o h=>by rw [h.1]; exact hBl) (fun w7 hs=>?_) (fun w7 j w8 h=>by obtain ⟨_,_,_,_,_,_,_,h⟩:=h; exact h) (fun w7 hs j k x w8 Ax cx hI hu hk hox=>?_) hul).mono ?_
 ·exact ⟨none,0,[],[],⟨hB.move hs fun _ h=>h,World.ownsRow_nil _ 0 eT 2,fun h=>by cases h⟩,Tags.nil _ _,fun g h=>(by cases h),Step.refl _ _⟩
 ·obtain ⟨A,cp,xs,css,hbx,hT,hA,hs8⟩:=hI
  have hj:j < u.length:=(List.getElem?_eq_some_iff.1 hu).1
  refine (hone w8 B cp cx j k A Ax x x0 x1 x2 x3 xs _ hbx hox (fun b o hf=>?_) (by omega)).mono ?_
  ·rintro (h | h)
   ·exact hF _ _ hf.1 h
   have:=hA b h; have:=hf.2; omega
  rintro e w9 ⟨rfl,A',cp',Av,cv,hbx',ho',hn,hs9⟩
  refine ⟨rfl,A',cp',_,css ++ [[.int .u32 k,.slice Av x.length cv]],hbx',?_,fun g hg=>?_,hs8.trans hs9 fun b o hb h=>?_⟩
  ·rw [qcA hu]
   have e1:Tags w9 (fun b o=>w7.heap.size ≤ b ∧ ¬ TM B A' b o) xs (u.take j) css:=hT.move hs9 (fun b o h _=>h.2) (fun b o h hb=>⟨h.1,fun h'=>by
    rcases h' with h' | h'
    ·exact h.2 (.inl h')
    rcases hn b h' with h' | h'
    ·exact h.2 (.inr h')
    omega⟩)
   have e2:Octs w9 (fun b o=>w7.heap.size ≤ b ∧ ¬ TM B A' b o) Av cv x:=ho'.move (Step.refl _ Nil) nilM fun b o h _=>⟨by
    rcases h.1 with h' | h'
    ·exact Nat.le_trans hs8.size h'
    exact hA b h',h.2⟩
   exact e1.snoc (c:=[.int .u32 k,.slice Av x.length cv]) (x:=(k,x)) ⟨⟨_,_,rfl,e2⟩,hk.1,hk.2⟩
  ·rcases hn g hg with h | h
   ·exact hA g h
   exact Nat.le_trans hs8.size h
  rcases h with h | h
  ·exact h
  have:=hA b h; omega
 rintro e w' ⟨rfl,w7,hs,A,cp,xs,css,hbx,hT,hA,hs8⟩
 rw [List.take_length] at hT
 refine ⟨rfl,A,cp,hbx.str,?_,(hs.mono (N:=fun b o=>b = B ∧ o < 5) fun _ _ _ f=>f.elim).trans hs8 fun b o _ h=>h⟩
 exact ((hT.move (Step.refl _ Nil) nilM fun b o h _=>Nat.le_trans hs.size h.1).slots (F:=fun b o=>w.heap.size ≤ b) hbx.own rfl (by omega) fun g hg o=>Nat.le_trans hs.size (hA g hg))
def qja (A:Option Addr) (s:ByteArray):Tree:=.mk 0 (if A.isNone = true then [] else sb s) A.isNone [] []
abbrev NoF:Nat → Nat → Prop:=fun _ _=>False
theorem WOk.strOut {G:Nat → Nat → Prop} {w0 w:World} {tb:Tb} {rs:List Rw} {p:Nat} {cs:List Value} (tb':Tb) (hW:WOk w0 Nil w tb rs) (ht:tb' ++ [⟨p,0,cs,true⟩] = tb:=by rfl):AtF w (Imm G w0 w tb' rs) p 0 cs:=fun j v hj=>by
 subst ht
 have hi:(tb' ++ [(⟨p,0,cs,true⟩:Ob)])[tb'.length]? = some ⟨p,0,cs,true⟩:=by rw [List.getElem?_append_right (Nat.le_refl _),Nat.sub_self]; rfl
 have h1:=hW.cells _ _ hi j v hj
 have hlt:j < cs.length:=(List.getElem?_eq_some_iff.1 hj).1
 refine ⟨⟨?_,hW.live _ _ hi,fun ha=>?_⟩,h1⟩
 ·rcases (hW.rw_ _ _ hi rfl j hlt).1 with h2 | h2
  ·exact .inr h2
  exact h2.elim
 rcases ha with ⟨k,ob,h2,h3,h4,h5,h6⟩ | ⟨k,r,h2,h3⟩
 ·have hk:k < tb'.length:=(List.getElem?_eq_some_iff.1 h2).1
  have h7:(tb' ++ [(⟨p,0,cs,true⟩:Ob)])[k]? = some ob:=by rw [List.getElem?_append_left hk]; exact h2
  rcases hW.apart k _ ob _ (by omega) h7 hi (.inr rfl) with h8 | h8 | h8
  ·exact h8 h4
  ·simp only [Nat.zero_add] at h5 h6; simp only [Nat.le_zero] at h8; omega
  simp only [Nat.zero_add] at h5 h6 h8; omega
 exact hW.rtb k r h2 p h3 _ _ hi rfl
theorem qgC {u:List (Int × Bs)} (h:qcc u) {i j:Nat} {k k':Int} {s s':Bs} (hi:u[i]? = some (k,s)) (hj:u[j]? = some (k',s')) (hij:j < i):¬ k < k':=by
 obtain ⟨h1,h2⟩:=List.getElem?_eq_some_iff.1 hi
 obtain ⟨h3,h4⟩:=List.getElem?_eq_some_iff.1 hj
 have:=List.pairwise_iff_getElem.1 h j i h3 h1 hij
 rw [h2,h4] at this
 simp only at this
 omega
section
variable {w0 w:World} {tb:Tb} {rs:List Rw} {F:Nat → Nat → Prop}
theorem WOk.objFp (hW:WOk w0 Nil w tb rs) (i:Nat) {b:Nat} {cs:List Value} (hi:tb[i]? = some ⟨b,0,cs,true⟩):AtF w (Fp F w0) b 0 cs:=fun j v hj=>by
 have hlt:=(List.getElem?_eq_some_iff.1 hj).1
 refine ⟨?_,hW.cells i _ hi j v hj⟩
 rcases (hW.rw_ i _ hi rfl j hlt).1 with h | h
 ·exact .inr h
 exact h.elim
def TrL (w:World) (F:Nat → Nat → Prop):List (List Value) → List Tree → Prop
 | [],[]=>True
 | c :: cs,x :: xs=>TreeR w F c x ∧ TrL w F cs xs
 | _,_=>False
theorem TrL.move {w w':World} {F F' M:Nat → Nat → Prop} (hs:Step w w' M) (hM:∀ b o,F b o → b < w.heap.size → ¬ M b o) (hF:∀ b o,F b o → b < w.heap.size → F' b o):∀ {cs:List (List Value)} {l:List Tree},TrL w F cs l → TrL w' F' cs l
 | [],[],_=>trivial
 | _ :: _,_ :: _,h=>⟨h.1.move hs hM hF,TrL.move hs hM hF h.2⟩
 | [],_ :: _,h=>h.elim
 | _ :: _,[],h=>h.elim
theorem TrL.len:∀ {cs:List (List Value)} {l:List Tree},TrL w F cs l → cs.length = l.length
 | [],[],_=>rfl
 | _ :: _,_ :: _,h=>congrArg (· + 1) (TrL.len h.2)
 | [],_ :: _,h=>h.elim
 | _ :: _,[],h=>h.elim
theorem TrL.five:∀ {cs:List (List Value)} {l:List Tree},TrL w F cs l → ∀ c ∈ cs,c.length = 5
 | [],[],_=>fun c hc=>by cases hc
 | _ :: _,_ :: _,h=>fun c hc=>by
  rcases List.mem_cons.1 hc with rfl | hc
  ·exact h.1.five
  exact TrL.five h.2 c hc
 | [],_ :: _,h=>h.elim
 | _ :: _,[],h=>h.elim
theorem TrL.get:∀ {cs:List (List Value)} {l:List Tree},TrL w F cs l → ∀ (i:Nat) (x:Tree),l[i]? = some x → TreeR w F (cs.getD i []) x
 | [],[],_,i,x,hx=>by simp at hx
 | _ :: _,_ :: _,h,0,x,hx=>by
  simp only [List.getElem?_cons_zero,Option.some.injEq] at hx
  subst hx
  exact h.1
 | _ :: _,_ :: _,h,i + 1,x,hx=>TrL.get h.2 i x hx
 | [],_ :: _,h,_,_,_=>h.elim
 | _ :: _,[],h,_,_,_=>h.elim
theorem qjK {b:Nat}:∀ (css:List (List Value)) (o:Nat),AtF w F b o css.flatten → (∀ c ∈ css,c.length = 5) → ∀ i,i < css.length → (css.getD i []).length = 5 ∧ AtF w F b (o + i * 5) (css.getD i [])
 | [],o,h,hl,i,hi=>absurd hi (Nat.not_lt_zero _)
 | c :: r,o,h,hl,0,_=>⟨hl c List.mem_cons_self,fun j v hj=>by
   have hj':c[j]? = some v:=hj
   have:=h j v (by rw [List.flatten_cons,List.getElem?_append_left (List.getElem?_eq_some_iff.1 hj').1]; exact hj')
   rw [show o + 0 * 5 + j = o + j by omega]
   exact this⟩
 | c :: r,o,h,hl,i + 1,hi=>by
  have hc:=hl c List.mem_cons_self
  have:=qjK r (o + 5) (fun j v hj=>by
   have:=h (5 + j) v (by rw [List.flatten_cons,List.getElem?_append_right (by omega),show 5 + j - c.length = j by omega]; exact hj)
   rw [show o + 5 + j = o + (5 + j) by omega]
   exact this) (fun d hd=>hl d (List.mem_cons_of_mem _ hd)) i (by simpa using hi)
  rw [show o + (i + 1) * 5 = o + 5 + i * 5 by omega]
  exact this
theorem qgD {b:Nat} {css:List (List Value)} {l:List Tree} (h:AtF w F b 0 css.flatten) (hT:TrL w F css l) (hsm:l.length ≤ 1099511627776):Slots w F 5 (some ⟨b,0,none⟩) l.length l.length (fun i=>css.getD i []) :=
 ⟨Nat.le_refl _,hsm,fun h=>(by cases h),fun ad hA _=>⟨b,0,(Option.some.inj hA).symm,fun i hi=>qjK css 0 h hT.five i (by rw [hT.len]; exact hi)⟩⟩
theorem qip (hW:WOk w0 Nil w tb rs) (i:Nat) {b n2 c3:Nat} {A3:Option Addr} {u:List (Int × Bs)} {css:List (List Value)} {cs:List Value} {l:List Tree} (hi:tb[i]? = some ⟨b,0,cs,true⟩) (hT':TrL w (Fp F w0) css l) (hU:TagsR w (Fp F w0) A3 c3 u) (hf:css.flatten = cs:=by rfl) (hl:l.length = n2:=by rfl) (hn:Nat.ble n2 1000000 = true:=by kernel_rfl) :
  qdL w0 F (.mk 0 [] false l u) (.returned (.agg #[.int .i64 0,.slice none 0 0,.bool false,.slice (some ⟨b,0,none⟩) n2 n2,.slice A3 u.length c3])) w:=by
 subst hf
 subst hl
 have hn':=Nat.le_of_ble_eq_true hn
 exact ⟨_,rfl,TreeR.mk (s:=[]) _ (Octs.nil _ _) (qgD (hW.objFp i hi) hT' (by omega)) hT'.get hU,hW.step⟩
end
def qjL (m:Nat):Prop:=∀ (ct:List Value) (t:Tree) (w:World) (F:Nat → Nat → Prop),TreeR w F ct t → t.depth ≤ m →
  Calls Tryd.prog 11 #[.agg ct.toArray] w (qdL w F t)
theorem qhN {m:Nat} (hg:qjL m) (ct:List Value) (t:Tree) (w:World) (F:Nat → Nat → Prop) (ht:TreeR w F ct t) (hd:t.depth ≤ m + 1) :
  Calls Tryd.prog 11 #[.agg ct.toArray] w (qdL w F t):=by
 obtain ⟨n1,s2,b3,l4,u5,A6,c7,A8,c9,ap,ar,dT,rfl,rfl,dw,dx,dU,dV⟩:=ht.open_
 have dy:=dw.small
 have dz:=dx.small
 obtain ⟨dW,dA,dX⟩:=dV.ex
 have dB:=dA.small
 refine enter (n:=49) Tryd.func11 rfl Tryd.ntmps11 kz fun a hE=>?_
 have hW:=WOk.start w Nil
 refine qac [0,1] kz ?_
 refine qaj (qa9 hW hE (d:=1) (cs:=[.int .i64 n1,.slice A6 s2.length c7,.bool b3,.slice A8 l4.length c9,.slice ap u5.length ar]) kz fun bF fk fl dY dZ d5 cX cY=>?_)
 refine qaj (qaI cX cY (d:=2) (cs:=[.int .i64 0,.slice none 0 0,.bool false,.slice none 0 0,.slice none 0 0]) kz fun bG fm fo d6 d7 d8 bI cZ=>?_)
 refine qae (qab ?_)
 refine qac [0,1,2,3,4,5,6,7,8] kz ?_
 refine qai [0,1,2,3,4,5,6] [7,8] [(1,.p 0 0),(2,.p 1 0),(14,.v (.agg #[.int .i64 n1,.slice A6 s2.length c7,.bool b3,.slice none 0 0,.slice none 0 0]))] bI cZ fun fq c5=>?_
 refine qaj (qaI bI c5 (d:=3) (cs:=[.int .i64 0,.slice none 0 0,.bool false,.slice none 0 0,.slice none 0 0]) kz fun bH fr ft d9 ea eb c6 da=>?_)
 refine qaj (qaw c6 da (oi:=2) (cs:=[.int .i64 n1,.slice A6 s2.length c7,.bool b3,.slice none 0 0,.slice none 0 0]) kz fun fu ec bz db=>?_)
 refine qae (qab ?_)
 refine wp_seq ?_
 refine qao [(1,.p 0 0),(2,.p 1 0),(3,.p 2 0),(16,.v (.slice A8 l4.length c9)),(17,.v (.int .i64 ((l4.length:Nat):Int))),(18,.v (.int .i64 0))] bz db fun fv dc=>?_
 refine wp_block ?_
 have bJ:=bz.addNil 26 5
 have ee:=bz.frNil 26 5
 refine wp_loop_ghost (fun n_ a_ w_=>∃ (k:Nat) (A_:Option Addr) (c_:Nat) (xs:List Value) (css:List (List Value)),n_ = l4.length - k ∧ k ≤ l4.length ∧ (Trees w_ (Imm F w w_ [⟨bF,0,[.int .i64 n1,.slice A6 s2.length c7,.bool b3,.slice A8 l4.length c9,.slice ap u5.length ar],true⟩,⟨bG,0,[.int .i64 0,.slice none 0 0,.bool false,.slice none 0 0,.slice none 0 0],true⟩,⟨bH,0,[.int .i64 n1,.slice A6 s2.length c7,.bool b3,.slice A_ k c_,.slice none 0 0],true⟩] [⟨A_,c_,26,5,k,xs⟩]) xs (l4.take k) css) ∧ LInv bJ 49 [⟨bF,0,[.int .i64 n1,.slice A6 s2.length c7,.bool b3,.slice A8 l4.length c9,.slice ap u5.length ar],true⟩,⟨bG,0,[.int .i64 0,.slice none 0 0,.bool false,.slice none 0 0,.slice none 0 0],true⟩,⟨bH,0,[.int .i64 n1,.slice A6 s2.length c7,.bool b3,.slice A_ k c_,.slice none 0 0],true⟩] [⟨A_,c_,26,5,k,xs⟩] [(1,.p 0 0),(2,.p 1 0),(3,.p 2 0),(16,.v (.slice A8 l4.length c9)),(17,.v (.int .i64 ((l4.length:Nat):Int))),(18,.v (.int .i64 ((k:Nat):Int)))] a_ w_) (l4.length) ⟨0,none,0,[],[],by omega,by omega,Trees.nil _ _,dc.pk,bJ,Fr.refl _ _ _⟩ ?_
 rintro fw fx fy ⟨k,A_,c_,xs,css,ef,eg,hT,de,aw,dg⟩
 refine qao [(1,.p 0 0),(2,.p 1 0),(3,.p 2 0),(16,.v (.slice A8 l4.length c9)),(17,.v (.int .i64 ((l4.length:Nat):Int))),(18,.v (.int .i64 ((k:Nat):Int))),(19,.v (.bool (decide (((k:Nat):Int) < ((l4.length:Nat):Int)))))] aw de fun fz bA=>?_
 refine wp_seq ?_
 refine qax bA (b:=decide (((k:Nat):Int) < ((l4.length:Nat):Int))) kz (fun bB=>?_) (fun bB=>?_)
 ·
  have eh:=of_decide_eq_true bB
  refine wp_skip ?_
  refine qab ?_
  refine wp_seq ?_
  refine wp_block ?_
  refine qac [0,1,2,3] kz ?_
  obtain ⟨ei,ej,dh,ek,bf⟩:=Slots.get dx (i:=k) (by omega)
  obtain ⟨em,bC⟩:∃ x,l4[k]? = some x:=⟨_,List.getElem?_eq_getElem (by omega)⟩
  have bD:=dU k em bC
  obtain ⟨bK,bL,bM,bN,bO,bP,bQ,bR,bS,bT,bU,eo,rfl,bg,ep,eu,fA,fB⟩:=bD.open_
  rw [bg] at bD
  have dC:=ep.small
  have dD:=eu.small
  rw [bg] at bf
  refine qaj (qas bA (t:=34) (A:=A8) (m:=l4.length) (q:=((k:Nat):Int)) (d:=20) kz (e:=37) (size:=5) (bytes:=88) kz dh rfl (by omega) fun fC bV=>?_)
  refine qaj (qaA bV (t:=37) (b:=ei) (o:=ej + k * 5) (d:=21) kz (cs:=[.int .i64 bK,.slice bP bL.length bQ,.bool bM,.slice bR bN.length bS,.slice bT bO.length bU]) (v:=.agg #[.int .i64 bK,.slice bP bL.length bQ,.bool bM,.slice bR bN.length bS,.slice bT bO.length bU]) kz (AtF.move bf aw.step nilM qaV).at_ fun ev bW=>?_)
  refine qaj (qaI aw bW (d:=5) (cs:=[.int .i64 0,.slice none 0 0,.bool false,.slice none 0 0,.slice none 0 0]) kz fun ew ey ez dE dF ax bX bY=>?_)
  refine qaj (qaw bX bY (oi:=3) (cs:=[.int .i64 bK,.slice bP bL.length bQ,.bool bM,.slice bR bN.length bS,.slice bT bO.length bU]) kz fun eB ay bZ b8=>?_)
  refine qae (qab ?_)
  refine qdV 7 kz bZ fun eC az ag cd=>?_
  refine qaM [0,1,2] [(1,.p 0 0),(2,.p 1 0),(3,.p 2 0),(16,.v (.slice A8 l4.length c9)),(17,.v (.int .i64 ((l4.length:Nat):Int))),(18,.v (.int .i64 ((k:Nat):Int))),(23,.v (.slice A_ k c_)),(24,.v (.agg #[.int .i64 bK,.slice bP bL.length bQ,.bool bM,.slice bR bN.length bS,.slice bT bO.length bU]))] 5 (qad (qaa (qaa (qad (qaa qaf))))) (fun _ h=>h.cells) cd b8 fun eD ce=>?_
  refine qaJ (i:=3) kz (qal ce (f:=11) (vs:=[.agg #[.int .i64 bK,.slice bP bL.length bQ,.bool bM,.slice bR bN.length bS,.slice bT bO.length bU]]) (d:=25) kz Tryd.call11 ( hg _ _ _ _ (bD.move ag.step nilM ag.imm) (by have h_:=qfR bC; rw [qfc] at hd; omega)) ?_)
  rintro e_ eE ⟨dG,rfl,cg,aA⟩
  have aB:=cg.move (Step.refl _ Nil) nilM (ag.laid (G:=F) aA)
  obtain ⟨aC,aD,aE,aF,aG,aH,aI,aJ,aK,aL,aM,dH,dI,aN,di,dj,eF,eG⟩:=aB.open_
  rw [aN] at aB
  have dl:=di.small
  have dp:=dj.small
  rw [aN]
  refine ⟨_,rfl,fun eH cm=>?_⟩
  have bh:=ag.next_nil aA
  have ae:=ag.frN aA
  have cq:=TT.ofW ae bh
  refine ⟨fun _=>cq,?_⟩
  refine qaJ (i:=4) kz (qdo bh cm (e:=26) (size:=5) (len:=1) (cs:=[.int .i64 aC,.slice aH aD.length aI,.bool aE,.slice aJ aF.length aK,.slice aL aG.length aM]) (d:=26) kz kz fun dq eI eJ dJ dK aa au cr=>?_)
  have cu:=TT.ofW (ae.trans aa) au
  refine ⟨fun _=>cu,?_⟩
  refine qaJ (i:=5) kz (qaS au cr (k:=0) (d:=27) (t:=23) (e:=26) (size:=5) (bytes:=88) (A:=A_) (As:=(some ⟨dq,0,none⟩)) (m0:=k) (c:=c_) (m:=1) (cs:=1) (xs:=xs) (news:=[.int .i64 aC,.slice aH aD.length aI,.bool aE,.slice aJ aF.length aK,.slice aL aG.length aM]) kz kz rfl (qbA (au.own 1 _ rfl) (qb9 kz)) (qbN (au.own 1 _ rfl)) (by omega) fun aO aP eK eL af bi cw=>?_)
  have bj:=TT.ofW ((ae.trans aa).trans af) bi
  refine ⟨fun _=>bj,?_⟩
  refine qaM [6] [(1,.p 0 0),(2,.p 1 0),(3,.p 2 0),(16,.v (.slice A8 l4.length c9)),(17,.v (.int .i64 ((l4.length:Nat):Int))),(18,.v (.int .i64 ((k:Nat):Int))),(27,.v (.slice aO (k + 1) aP)),(28,.p 2 3)] 1 (qad (qaa (qaa (qad (qaa qaf))))) (fun _ h=>h.cells) bj cw fun eM cz=>?_
  refine qaJ (i:=7) kz (qaw bi cz (oi:=2) (cs:=[.int .i64 n1,.slice A6 s2.length c7,.bool b3,.slice aO (k + 1) aP,.slice none 0 0]) kz fun eN ah bk cA=>?_)
  refine ⟨fun h=>absurd rfl h,?_⟩
  refine qaN kz ?_ _
  refine qav ?_
  refine qab ?_
  refine qap [0,1] kz ?_
  refine qai [0,1] [] [(1,.p 0 0),(2,.p 1 0),(3,.p 2 0),(16,.v (.slice A8 l4.length c9)),(17,.v (.int .i64 ((l4.length:Nat):Int))),(18,.v (.int .i64 (IntKind.i64.wrap (((k:Nat):Int) + 1))))] bk cA fun eO cB=>?_
  refine qae (qab ?_)
  obtain ⟨bn,cC,ai⟩:=bk.cutB cB 3 [⟨bF,0,[.int .i64 n1,.slice A6 s2.length c7,.bool b3,.slice A8 l4.length c9,.slice ap u5.length ar],true⟩,⟨bG,0,[.int .i64 0,.slice none 0 0,.bool false,.slice none 0 0,.slice none 0 0],true⟩,⟨bH,0,[.int .i64 n1,.slice A6 s2.length c7,.bool b3,.slice aO (k + 1) aP,.slice none 0 0],true⟩] [(1,.p 0 0),(2,.p 1 0),(3,.p 2 0),(16,.v (.slice A8 l4.length c9)),(17,.v (.int .i64 ((l4.length:Nat):Int))),(18,.v (.int .i64 (IntKind.i64.wrap (((k:Nat):Int) + 1))))]
  obtain ⟨cD,aj⟩:=cC.cutR 1 [⟨aO,aP,26,5,k + 1,xs ++ [.int .i64 aC,.slice aH aD.length aI,.bool aE,.slice aJ aF.length aK,.slice aL aG.length aM]⟩]
  have cE:IntKind.i64.wrap (((k:Nat):Int) + 1) = ((k + 1:Nat):Int):=qaO (by omega)
  rw [cE] at bn
  exact ⟨l4.length - (k + 1),by omega,k + 1,aO,aP,xs ++ [Value.int .i64 aC,.slice aH aD.length aI,.bool aE,.slice aJ aF.length aK,.slice aL aG.length aM],(css ++ [[Value.int .i64 aC,.slice aH aD.length aI,.bool aE,.slice aJ aF.length aK,.slice aL aG.length aM]]),rfl,by omega,by rw [qcA bC]; exact (hT.move ((((((((ax.trans ay).trans az).trans ae).trans aa).trans af).trans ah).trans ai).trans aj).step immM ((((((((ax.trans ay).trans az).trans ae).trans aa).trans af).trans ah).trans ai).trans aj).to').snoc (aB.move ((((aa.trans af).trans ah).trans ai).trans aj).step immM ((((aa.trans af).trans ah).trans ai).trans aj).to'),bn.pk,cD,(((((((((dg.trans ax).trans ay).trans az).trans ae).trans aa).trans af).trans ah).trans ai).trans aj)⟩
 have dL:=of_decide_eq_false bB
 refine wp_exit ?_
 refine qau ?_
 refine qau ?_
 refine qaH ?_
 refine qab ?_
 refine wp_seq ?_
 refine qao [(2,.p 1 0),(3,.p 2 0),(31,.v (.slice ap u5.length ar)),(32,.v (.int .i64 ((u5.length:Nat):Int))),(33,.v (.int .i64 0))] aw bA fun eP cG=>?_
 refine wp_block ?_
 have hk0:k = l4.length:=by omega
 have bo:=aw.addNil 62 2
 have bp:=aw.frNil 62 2
 refine wp_loop_ghost (fun n_ a_ w_=>∃ (q:Nat) (A5_:Option Addr) (c5_:Nat) (ys:List Value) (dss:List (List Value)),n_ = u5.length - q ∧ q ≤ u5.length ∧ (Tags w_ (Imm F w w_ [⟨bF,0,[.int .i64 n1,.slice A6 s2.length c7,.bool b3,.slice A8 l4.length c9,.slice ap u5.length ar],true⟩,⟨bG,0,[.int .i64 0,.slice none 0 0,.bool false,.slice none 0 0,.slice none 0 0],true⟩,⟨bH,0,[.int .i64 n1,.slice A6 s2.length c7,.bool b3,.slice A_ k c_,.slice A5_ q c5_],true⟩] [⟨A_,c_,26,5,k,xs⟩,⟨A5_,c5_,62,2,q,ys⟩]) ys (u5.take q) dss) ∧ LInv bo 49 [⟨bF,0,[.int .i64 n1,.slice A6 s2.length c7,.bool b3,.slice A8 l4.length c9,.slice ap u5.length ar],true⟩,⟨bG,0,[.int .i64 0,.slice none 0 0,.bool false,.slice none 0 0,.slice none 0 0],true⟩,⟨bH,0,[.int .i64 n1,.slice A6 s2.length c7,.bool b3,.slice A_ k c_,.slice A5_ q c5_],true⟩] [⟨A_,c_,26,5,k,xs⟩,⟨A5_,c5_,62,2,q,ys⟩] [(2,.p 1 0),(3,.p 2 0),(31,.v (.slice ap u5.length ar)),(32,.v (.int .i64 ((u5.length:Nat):Int))),(33,.v (.int .i64 ((q:Nat):Int)))] a_ w_) (u5.length) ⟨0,none,0,[],[],by omega,by omega,Tags.nil _ _,cG.pk,bo,Fr.refl _ _ _⟩ ?_
 rintro eQ eR eS ⟨q,A5_,c5_,ys,dss,dM,dN,hU,cH,ak,aQ⟩
 refine qao [(2,.p 1 0),(3,.p 2 0),(31,.v (.slice ap u5.length ar)),(32,.v (.int .i64 ((u5.length:Nat):Int))),(33,.v (.int .i64 ((q:Nat):Int))),(34,.v (.bool (decide (((q:Nat):Int) < ((u5.length:Nat):Int)))))] ak cH fun eU aR=>?_
 refine wp_seq ?_
 refine qax aR (b:=decide (((q:Nat):Int) < ((u5.length:Nat):Int))) kz (fun aS=>?_) (fun aS=>?_)
 ·
  have dO:=of_decide_eq_true aS
  refine wp_skip ?_
  refine qab ?_
  refine wp_seq ?_
  refine wp_block ?_
  refine qac [0,1,2,3] kz ?_
  obtain ⟨dr,dt,cI,dP,aT⟩:=Slots.get dA (i:=q) (by omega)
  obtain ⟨⟨ab,ac⟩,bq⟩:∃ x,u5[q]? = some x:=⟨_,List.getElem?_eq_getElem (by omega)⟩
  obtain ⟨⟨al,am,bE,cJ⟩,du,dv⟩:=dX q ab ac bq
  rw [bE] at aT
  refine qaj (qas aR (t:=35) (A:=ap) (m:=u5.length) (q:=((q:Nat):Int)) (d:=35) kz (e:=61) (size:=2) (bytes:=32) kz cI rfl (by omega) fun eV cK=>?_)
  refine qaj (qaA cK (t:=61) (b:=dr) (o:=dt + q * 2) (d:=36) kz (cs:=[.int .u32 ab,.slice al ac.length am]) (v:=.agg #[.int .u32 ab,.slice al ac.length am]) kz (AtF.move aT ak.step nilM qaV).at_ fun eW cL=>?_)
  refine qaj (qaI ak cL (d:=7) (cs:=[.int .u32 0,.slice none 0 0]) kz fun eX eY eZ dQ dR aU cM cN=>?_)
  refine qaj (qaw cM cN (oi:=3) (cs:=[.int .u32 ab,.slice al ac.length am]) kz fun e9 aV bt cO=>?_)
  refine qae (qab ?_)
  refine qap [0,1,2,3,4,5,6,7,8,9,10] kz ?_
  refine qai [0,1,2,3,4,5,6] [7,8,9,10] [(2,.p 1 0),(3,.p 2 0),(31,.v (.slice ap u5.length ar)),(32,.v (.int .i64 ((u5.length:Nat):Int))),(33,.v (.int .i64 ((q:Nat):Int))),(38,.v (.slice A5_ q c5_)),(43,.v (.agg #[.int .u32 ab,.slice al ac.length am]))] bt cO fun fa cP=>?_
  refine qbI bt cP (k:=1) (e:=62) (size:=2) (len:=1) (cs:=[.int .u32 ab,.slice al ac.length am]) (d1:=44) (d:=45) kz (t:=24) (bytes:=32) kz (fun _=>by kernel_rfl) rfl kz (by omega) fun ba bd fb fe aW bu ⟨_,cQ⟩=>?_
  refine qai [9] [10] [(2,.p 1 0),(3,.p 2 0),(31,.v (.slice ap u5.length ar)),(32,.v (.int .i64 ((u5.length:Nat):Int))),(33,.v (.int .i64 ((q:Nat):Int))),(45,.v (.slice ba (q + 1) bd)),(46,.p 2 4)] bu cQ fun ff cR=>?_
  refine qaj (qaw bu cR (oi:=2) (cs:=[.int .i64 n1,.slice A6 s2.length c7,.bool b3,.slice A_ k c_,.slice ba (q + 1) bd]) kz fun fg aX bw cS=>?_)
  refine qae ?_
  refine qav ?_
  refine qab ?_
  refine qap [0,1] kz ?_
  refine qai [0,1] [] [(2,.p 1 0),(3,.p 2 0),(31,.v (.slice ap u5.length ar)),(32,.v (.int .i64 ((u5.length:Nat):Int))),(33,.v (.int .i64 (IntKind.i64.wrap (((q:Nat):Int) + 1))))] bw cS fun fh cT=>?_
  refine qae (qab ?_)
  obtain ⟨bx,aY,aZ⟩:=bw.cutB cT 3 [⟨bF,0,[.int .i64 n1,.slice A6 s2.length c7,.bool b3,.slice A8 l4.length c9,.slice ap u5.length ar],true⟩,⟨bG,0,[.int .i64 0,.slice none 0 0,.bool false,.slice none 0 0,.slice none 0 0],true⟩,⟨bH,0,[.int .i64 n1,.slice A6 s2.length c7,.bool b3,.slice A_ k c_,.slice ba (q + 1) bd],true⟩] [(2,.p 1 0),(3,.p 2 0),(31,.v (.slice ap u5.length ar)),(32,.v (.int .i64 ((u5.length:Nat):Int))),(33,.v (.int .i64 (IntKind.i64.wrap (((q:Nat):Int) + 1))))]
  have cU:IntKind.i64.wrap (((q:Nat):Int) + 1) = ((q + 1:Nat):Int):=qaO (by omega)
  rw [cU] at bx
  exact ⟨u5.length - (q + 1),by omega,q + 1,ba,bd,ys ++ [Value.int .u32 ab,.slice al ac.length am],(dss ++ [[Value.int .u32 ab,.slice al ac.length am]]),rfl,by omega,by rw [qcA bq]; exact (hU.move ((((aU.trans aV).trans aW).trans aX).trans aZ).step immM ((((aU.trans aV).trans aW).trans aX).trans aZ).to').snoc (c:=[.int .u32 ab,.slice al ac.length am]) (x:=(ab,ac)) ⟨⟨_,_,rfl,(cJ.move aY.step nilM aY.imm)⟩,du,dv⟩,bx.pk,aY,(((((aQ.trans aU).trans aV).trans aW).trans aX).trans aZ)⟩
 have dS:=of_decide_eq_false aS
 refine wp_exit ?_
 refine qau ?_
 refine qau ?_
 refine qaH ?_
 refine qab ?_
 refine qac [0,1] kz ?_
 refine qai [0] [1] [(2,.p 1 0),(48,.v (.agg #[.int .i64 n1,.slice A6 s2.length c7,.bool b3,.slice A_ k c_,.slice A5_ q c5_]))] ak aR fun fi cV=>?_
 refine qaj (qaw ak cV (oi:=1) (cs:=[.int .i64 n1,.slice A6 s2.length c7,.bool b3,.slice A_ k c_,.slice A5_ q c5_]) kz fun fj av ao cW=>?_)
 refine qae (qab ?_)
 refine wp_ret ?_
 refine qaG cW ao.cells (v:=.agg #[.int .i64 n1,.slice A6 s2.length c7,.bool b3,.slice A_ k c_,.slice A5_ q c5_]) kz ?_
 have hq0:q = u5.length:=by omega
 have hT':=(hT.move ((bp.trans aQ).trans av).step immM ((bp.trans aQ).trans av).to')
 have hU':=(hU.move av.step immM av.to')
 rw [show l4.take k = l4 by rw [hk0,List.take_length]] at hT'
 rw [show u5.take q = u5 by rw [hq0,List.take_length]] at hU'
 exact qib ao rfl (dw.move ao.step nilM qiW) hk0 (qia ao (k:=0) rfl hT' hk0 (by omega)) hq0 (qiV ao (k:=1) rfl hU' hq0 (by omega)) rfl
theorem lGot:∀ m,qjL m
 | 0=>fun ct t w F ht hd=>by
  obtain ⟨n,s,b,l,u,A1,c1,A2,c2,A3,c3,xs,rfl,_⟩:=ht.open_
  rw [qfc] at hd; omega
 | m + 1=>qhN (lGot m)
theorem qjb {u:List (Int × Bs)} {A:Option Addr} {c:Nat} {w:World} {F:Nat → Nat → Prop} (hu:TagsR w F A c u) (hsrt:qcc u):Calls Tryd.prog 27 #[.slice A u.length c] w (qbR w (.tuple #[])):=by
 obtain ⟨cs1,h2,h3⟩:=hu.ex
 have hsm4:=h2.small
 refine enter (n:=45) Tryd.func27 rfl Tryd.ntmps27 kz fun a hE=>?_
 have hW:=WOk.start w Nil
 refine qao [(0,.v (.slice A u.length c)),(5,.v (.int .i64 ((u.length:Nat):Int))),(6,.v (.int .i64 0))] hW hE fun a5 hE6=>?_
 refine wp_block ?_
 refine wp_loop_ghost (fun n_ a_ w_=>∃ (k:Nat),n_ = u.length - k ∧ k ≤ u.length ∧ LInv hW 45 [] [] [(0,.v (.slice A u.length c)),(5,.v (.int .i64 ((u.length:Nat):Int))),(6,.v (.int .i64 ((k:Nat):Int)))] a_ w_) (u.length) ⟨0,by omega,by omega,hE6.pk,hW,Fr.refl _ _ _⟩ ?_
 rintro n7 a8 w9 ⟨k,aW,aX,aB,ab,aj⟩
 refine qao [(0,.v (.slice A u.length c)),(5,.v (.int .i64 ((u.length:Nat):Int))),(6,.v (.int .i64 ((k:Nat):Int))),(7,.v (.bool (decide (((k:Nat):Int) < ((u.length:Nat):Int)))))] ab aB fun bn ah=>?_
 refine wp_seq ?_
 refine qax ah (b:=decide (((k:Nat):Int) < ((u.length:Nat):Int))) kz (fun ai=>?_) (fun ai=>?_)
 ·
  have aY:=of_decide_eq_true ai
  refine wp_skip ?_
  refine qab ?_
  refine wp_seq ?_
  refine wp_block ?_
  refine qao [(0,.v (.slice A u.length c)),(2,.v (.int .i64 ((k:Nat):Int))),(5,.v (.int .i64 ((u.length:Nat):Int))),(6,.v (.int .i64 ((k:Nat):Int)))] ab ah fun bo aC=>?_
  refine qao [(0,.v (.slice A u.length c)),(3,.v (.int .i64 ((k:Nat):Int))),(5,.v (.int .i64 ((u.length:Nat):Int))),(6,.v (.int .i64 ((k:Nat):Int)))] ab aC fun bp aD=>?_
  refine wp_block ?_
  refine qim ?_
  refine wp_seq ?_
  refine qbr kz ab fun bq ak aa=>?_
  refine qaM [0,1,2] [(0,.v (.slice A u.length c)),(3,.v (.int .i64 ((k:Nat):Int))),(5,.v (.int .i64 ((u.length:Nat):Int))),(6,.v (.int .i64 ((k:Nat):Int))),(12,.v (.bool (decide (((k:Nat):Int) > 0))))] 13 (qaa (qaa (qaa (qad (qad (qaa (qaa (qad qaf)))))))) (fun _ h=>h ▸ aa.cells) rfl aD fun bt al=>?_
  refine (Bool.eq_false_or_eq_true (decide (((k:Nat):Int) > 0))).elim (fun ac=>?_) (fun ac=>?_)
  ·
   have aZ:=of_decide_eq_true ac
   have aE:=al.cast (env':=[(0,.v (.slice A u.length c)),(3,.v (.int .i64 ((k:Nat):Int))),(5,.v (.int .i64 ((u.length:Nat):Int))),(6,.v (.int .i64 ((k:Nat):Int))),(12,.v (.bool true))]) (by rw [ac])
   refine qaM [3,4,8,9,10] [(0,.v (.slice A u.length c)),(3,.v (.int .i64 ((k:Nat):Int))),(5,.v (.int .i64 ((u.length:Nat):Int))),(6,.v (.int .i64 ((k:Nat):Int))),(12,.v (.bool true)),(13,.v (.slice A u.length c)),(14,.v (.int .i64 ((k:Nat):Int))),(18,.v (.slice A u.length c)),(20,.v (.int .i64 (IntKind.i64.wrap (((k:Nat):Int) - 1))))] 8 (qaa (qaa (qaa (qad (qad (qaa (qaa (qad qaf)))))))) (fun _ h=>h ▸ aa.cells) rfl aE fun bu aF=>?_
   obtain ⟨az,aA,aG,ba,ae⟩:=Slots.get h2 (i:=k) (by omega)
   obtain ⟨⟨af,bd⟩,am⟩:∃ x,u[k]? = some x:=⟨_,List.getElem?_eq_getElem (by omega)⟩
   obtain ⟨⟨bw,bx,ao,bf⟩,bz,bA⟩:=h3 k af bd am
   rw [ao] at ae
   refine qaW aF (i:=5) (t:=35) (A:=A) (m:=u.length) (q:=((k:Nat):Int)) (d:=15) kz (e:=61) (size:=2) (bytes:=32) kz aG rfl (by omega) kz kz (qaa (qaa (qaa (qad (qad (qaa (qaa (qad qaf)))))))) rfl fun bB aH=>?_
   refine qaM [6] [(0,.v (.slice A u.length c)),(3,.v (.int .i64 ((k:Nat):Int))),(5,.v (.int .i64 ((u.length:Nat):Int))),(6,.v (.int .i64 ((k:Nat):Int))),(12,.v (.bool true)),(16,.v (.pointer (some ⟨az,aA + k * 2,none⟩))),(18,.v (.slice A u.length c)),(20,.v (.int .i64 (IntKind.i64.wrap (((k:Nat):Int) - 1))))] 6 (qaa (qaa (qaa (qad (qad (qaa (qaa (qad qaf)))))))) (fun _ h=>h ▸ aa.cells) rfl aH fun bC aI=>?_
   refine qa4 aI (i:=7) (t:=59) (b:=az) (o:=aA + k * 2) (d:=17) kz (cs:=[.int .u32 af]) (v:=.int .u32 af) kz (fun w' h'=>h' ▸ (At.drop (AtF.move ae aa.step nilM qaV).at_ 0 1)) kz kz (qaa (qaa (qaa (qad (qad (qaa (qaa (qad qaf)))))))) rfl fun bD aJ=>?_
   have aK:IntKind.i64.wrap (((k:Nat):Int) - 1) = (((k - 1):Nat):Int):=by simp only [qbQ,qam,qba,IntKind.wrap_i64,IntKind.wrap_i32]; omega
   have aL:=EnvOk.pick aJ (ks:=[0,3,5,6,12,16,18,20,17]) (env':=[(0,.v (.slice A u.length c)),(3,.v (.int .i64 ((k:Nat):Int))),(5,.v (.int .i64 ((u.length:Nat):Int))),(6,.v (.int .i64 ((k:Nat):Int))),(12,.v (.bool true)),(16,.v (.pointer (some ⟨az,aA + k * 2,none⟩))),(18,.v (.slice A u.length c)),(20,.v (.int .i64 (IntKind.i64.wrap (((k:Nat):Int) - 1)))),(17,.v (.int .u32 af))]) kz
   have aM:=aL.cast (env':=[(0,.v (.slice A u.length c)),(3,.v (.int .i64 ((k:Nat):Int))),(5,.v (.int .i64 ((u.length:Nat):Int))),(6,.v (.int .i64 ((k:Nat):Int))),(12,.v (.bool true)),(16,.v (.pointer (some ⟨az,aA + k * 2,none⟩))),(18,.v (.slice A u.length c)),(20,.v (.int .i64 (((k - 1):Nat):Int))),(17,.v (.int .u32 af))]) (by rw [aK])
   obtain ⟨aU,aV,aN,bg,ag⟩:=Slots.get h2 (i:=(k - 1)) (by omega)
   obtain ⟨⟨ap,bh⟩,ar⟩:∃ x,u[(k - 1)]? = some x:=⟨_,List.getElem?_eq_getElem (by omega)⟩
   obtain ⟨⟨bE,bF,au,bi⟩,bG,bH⟩:=h3 (k - 1) ap bh ar
   rw [au] at ag
   refine qaW aM (i:=11) (t:=35) (A:=A) (m:=u.length) (q:=(((k - 1):Nat):Int)) (d:=21) kz (e:=61) (size:=2) (bytes:=32) kz aN rfl (by omega) kz kz (qaa (qaa (qaa (qad (qad (qaa (qaa (qad qaf)))))))) rfl fun bI aO=>?_
   refine qaM [12] [(0,.v (.slice A u.length c)),(3,.v (.int .i64 ((k:Nat):Int))),(5,.v (.int .i64 ((u.length:Nat):Int))),(6,.v (.int .i64 ((k:Nat):Int))),(12,.v (.bool true)),(17,.v (.int .u32 af)),(22,.v (.pointer (some ⟨aU,aV + (k - 1) * 2,none⟩)))] 3 (qaa (qaa (qaa (qad (qad (qaa (qaa (qad qaf)))))))) (fun _ h=>h ▸ aa.cells) rfl aO fun bJ aP=>?_
   refine qa4 aP (i:=13) (t:=59) (b:=aU) (o:=aV + (k - 1) * 2) (d:=23) kz (cs:=[.int .u32 ap]) (v:=.int .u32 ap) kz (fun w' h'=>h' ▸ (At.drop (AtF.move ag aa.step nilM qaV).at_ 0 1)) kz kz (qaa (qaa (qaa (qad (qad (qaa (qaa (qad qaf)))))))) rfl fun bK aQ=>?_
   refine qaM [14,15] [(0,.v (.slice A u.length c)),(3,.v (.int .i64 ((k:Nat):Int))),(5,.v (.int .i64 ((u.length:Nat):Int))),(6,.v (.int .i64 ((k:Nat):Int))),(25,.v (.bool (decide (af < ap))))] 0 (qaa (qaa (qaa (qad (qad (qaa (qaa (qad qaf)))))))) (fun _ h=>h ▸ aa.cells) rfl aQ fun bL av=>?_
   refine qaN kz ?_ _
   refine qab ?_
   refine qar av (b:=decide (af < ap)) kz (decide_eq_false (qgC hsrt am ar (by omega))) ?_
   refine wp_exit ?_
   refine qau ?_
   refine qau ?_
   refine qaH ?_
   refine qav ?_
   refine qab ?_
   refine qap [0,1] kz ?_
   refine qai [0,1] [] [(0,.v (.slice A u.length c)),(5,.v (.int .i64 ((u.length:Nat):Int))),(6,.v (.int .i64 (IntKind.i64.wrap (((k:Nat):Int) + 1))))] aa av fun bM aw=>?_
   refine qae (qab ?_)
   have aR:IntKind.i64.wrap (((k:Nat):Int) + 1) = ((k + 1:Nat):Int):=qaO (by omega)
   rw [aR] at aw
   exact ⟨u.length - (k + 1),by omega,k + 1,rfl,by omega,aw.pk,aa,(aj.trans ak)⟩
  have bj:=of_decide_eq_false ac
  have aS:=al.cast (env':=[(0,.v (.slice A u.length c)),(3,.v (.int .i64 ((k:Nat):Int))),(5,.v (.int .i64 ((u.length:Nat):Int))),(6,.v (.int .i64 ((k:Nat):Int))),(12,.v (.bool false))]) (by rw [ac])
  refine qaM [3,4,5,6,7,8,9,10,11,12,13,14,15] [(0,.v (.slice A u.length c)),(3,.v (.int .i64 ((k:Nat):Int))),(5,.v (.int .i64 ((u.length:Nat):Int))),(6,.v (.int .i64 ((k:Nat):Int))),(25,.v (.bool false))] 0 (qaa (qaa (qaa (qad (qad (qaa (qaa (qad qaf)))))))) (fun _ h=>h ▸ aa.cells) rfl aS fun bN ax=>?_
  refine qaN kz ?_ _
  refine qab ?_
  refine qar ax (b:=false) kz rfl ?_
  refine wp_exit ?_
  refine qau ?_
  refine qau ?_
  refine qaH ?_
  refine qav ?_
  refine qab ?_
  refine qap [0,1] kz ?_
  refine qai [0,1] [] [(0,.v (.slice A u.length c)),(5,.v (.int .i64 ((u.length:Nat):Int))),(6,.v (.int .i64 (IntKind.i64.wrap (((k:Nat):Int) + 1))))] aa ax fun bO ay=>?_
  refine qae (qab ?_)
  have aT:IntKind.i64.wrap (((k:Nat):Int) + 1) = ((k + 1:Nat):Int):=qaO (by omega)
  rw [aT] at ay
  exact ⟨u.length - (k + 1),by omega,k + 1,rfl,by omega,ay.pk,aa,(aj.trans ak)⟩
 have bk:=of_decide_eq_false ai
 refine wp_exit ?_
 refine qau ?_
 refine qau ?_
 refine qaH ?_
 refine qbz ah ab.cells (v:=.tuple #[]) kz ?_
 exact ⟨rfl,ab.step⟩
theorem qjM (s:ByteArray) (w:World) (F:Nat → Nat → Prop):Calls Tryd.prog 24 #[.pointer none] w (qdL w F (.mk 0 [] true [] [])):=by
 refine enter (n:=11) Tryd.func24 rfl Tryd.ntmps24 kz fun a hE=>?_
 have hW:=WOk.start w Nil
 refine qac [0] kz ?_
 refine qaj (qaI hW hE (d:=2) (cs:=[.int .i64 0,.slice none 0 0,.bool false,.slice none 0 0,.slice none 0 0]) kz fun b1 a2 w3 hb4 hz5 hF6 hW7 hE8=>?_)
 refine qae (qab ?_)
 refine wp_seq ?_
 refine qao [(0,.v (.pointer none)),(2,.p 0 0),(4,.v (.bool true))] hW7 hE8 fun a9 aa=>?_
 refine qbb aa (b:=true) kz rfl ?_
 refine qac [0,1] kz ?_
 refine qai [0] [1] [(2,.p 0 0),(5,.v (.agg #[.int .i64 0,.slice none 0 0,.bool true,.slice none 0 0,.slice none 0 0]))] hW7 aa fun ah ac=>?_
 refine qaj (qaw hW7 ac (oi:=0) (cs:=[.int .i64 0,.slice none 0 0,.bool true,.slice none 0 0,.slice none 0 0]) kz fun af ag ab ae=>?_)
 refine qae (qab ?_)
 refine wp_ret ?_
 refine qat ?_
 refine qaG ae ab.cells (v:=.agg #[.int .i64 0,.slice none 0 0,.bool true,.slice none 0 0,.slice none 0 0]) kz ?_
 exact ⟨_,rfl,(show TreeR _ (Imm F w af [⟨b1,0,[.int .i64 0,.slice none 0 0,.bool true,.slice none 0 0,.slice none 0 0],true⟩] []) _ (Tree.mk 0 [] true [] []) from (TreeR.mk (n:=0) (b:=true) (s:=[]) (l:=[]) (u:=[]) (fun _=>[]) (Octs.nil _ _) (Slots.nil _ _ _ _) (fun i_ x_ h_=>by simp at h_) (TagsR.nil _ _))).move (Step.refl _ Nil) nilM qbH,ab.step⟩
theorem qjN (b o:Nat) (s:ByteArray) (w:World) (F:Nat → Nat → Prop) (hat:AtF w F b o [.string s]) (hs:s.size ≤ 1000000):Calls Tryd.prog 24 #[.pointer (some ⟨b,o,none⟩)] w (qdL w F (.mk 0 (sb s) false [] [])):=by
 refine enter (n:=11) Tryd.func24 rfl Tryd.ntmps24 kz fun a hE=>?_
 have hW:=WOk.start w Nil
 refine qac [0] kz ?_
 refine qaj (qaI hW hE (d:=2) (cs:=[.int .i64 0,.slice none 0 0,.bool false,.slice none 0 0,.slice none 0 0]) kz fun b1 a2 w3 hb4 hz5 hF6 hW7 hE8=>?_)
 refine qae (qab ?_)
 refine wp_seq ?_
 refine qao [(0,.v (.pointer (some ⟨b,o,none⟩))),(2,.p 0 0),(4,.v (.bool false))] hW7 hE8 fun a9 aa=>?_
 refine qar aa (b:=false) kz rfl ?_
 refine wp_skip ?_
 refine qab ?_
 refine qac [0,1,2,3,4,5] kz ?_
 refine qai [0,1] [2,3,4,5] [(2,.p 0 0),(7,.v (.pointer (some ⟨b,o,none⟩)))] hW7 aa fun au ah=>?_
 refine qaj (qaA ah (t:=9) (b:=b) (o:=o) (d:=8) kz (cs:=[.string s]) (v:=.string s) kz (AtF.move hat hW7.step nilM qaV).at_ fun av ai=>?_)
 refine qaj (qdJ (d:=9) (src:=9) (dst:=22) (e:=5) (s:=s) hW7 ai (by omega) fun af ag aw ax ap ab aj ak=>?_)
 have al:=aj F
 refine qai [4] [5] [(2,.p 0 0),(10,.v (.agg #[.int .i64 0,.slice (some ⟨af,0,none⟩) ((sb s).length) ag,.bool false,.slice none 0 0,.slice none 0 0]))] ab ak fun ay am=>?_
 refine qaj (qaw ab am (oi:=0) (cs:=[.int .i64 0,.slice (some ⟨af,0,none⟩) ((sb s).length) ag,.bool false,.slice none 0 0,.slice none 0 0]) kz fun ar ac ae ao=>?_)
 refine qae (qab ?_)
 refine wp_ret ?_
 refine qaG ao ae.cells (v:=.agg #[.int .i64 0,.slice (some ⟨af,0,none⟩) ((sb s).length) ag,.bool false,.slice none 0 0,.slice none 0 0]) kz ?_
 exact ⟨_,rfl,(show TreeR _ (Imm F w ar [⟨b1,0,[.int .i64 0,.slice (some ⟨af,0,none⟩) ((sb s).length) ag,.bool false,.slice none 0 0,.slice none 0 0],true⟩] []) _ (Tree.mk 0 (sb s) false [] []) from (TreeR.mk (n:=0) (b:=false) (s:=(sb s)) (l:=[]) (u:=[]) (fun _=>[]) (al.move ac.step immM ac.to') (Slots.nil _ _ _ _) (fun i_ x_ h_=>by simp at h_) (TagsR.nil _ _))).move (Step.refl _ Nil) nilM qbH,ae.step⟩
theorem qj2 (A:Option Addr) (s:ByteArray) (w:World) (F:Nat → Nat → Prop) (hO:∀ ad,A = some ad → ∃ b o,ad = ⟨b,o,none⟩ ∧ AtF w F b o [.string s]) (hs:s.size ≤ 1000000):Calls Tryd.prog 24 #[.pointer A] w (qdL w F (qja A s)):=by
 cases A with
 | none=>exact qjM s w F
 | some ad =>
  obtain ⟨b,o,rfl,h⟩:=hO ad rfl
  exact qjN b o s w F h hs
theorem qcC:qhK Tryd.prog 26 61:=by
 intro w B cp c n k A Av x x0 x1 x2 x3 xs G hbx ho hG hn
 refine enter (n:=14) Tryd.func26 rfl Tryd.ntmps26 kz fun a hE=>?_
 have hW:=hbx.wok
 have hE0:=(hE.grow ⟨B,0,[x0,x1,x2,x3,.slice A n cp],true⟩).recast 2 (.v (.pointer (some ⟨B,0,none⟩))) (.p 0 0) rfl rfl (by simp [SV.ok])
 have hsm:=Slots.small ho
 have ap:=hE0.pk (env':=[(0,.v (.int .u32 k)),(1,.v (.slice Av x.length c)),(2,.p 0 0)])
 refine qdV 9 kz hW fun w1 hF2 hW3 hT4=>?_
 refine qaM [0,1,2,3] [(2,.p 0 0),(6,.v (.slice A n cp)),(7,.v (.int .u32 k)),(8,.v (.slice Av x.length c))] 6 qaf (fun _ h=>h.cells) hT4 ap fun a5 hE6=>?_
 have hW7:=hW3.addNil 5 1
 have hF8:=hW3.frNil 5 1
 refine qaJ (i:=4) kz (qaS hW7 hE6 (k:=1) (d:=9) (t:=22) (e:=5) (size:=1) (bytes:=1) (A:=none) (As:=Av) (m0:=0) (c:=0) (m:=x.length) (cs:=c) (xs:=[]) (news:=bc x) kz kz rfl (ho.move hW7.step (fun b o h _=>hG b o h) qaV).src (ho.move hW7.step (fun b o h _=>hG b o h) qaV).cap (by first | omega | (simp only [List.length_nil]; omega) | (simp; omega)) fun A9 aa aK aL ac ar au=>?_)
 have av:(⟨A9,aa,5,1,0 + x.length,[] ++ bc x⟩:Rw) = brow A9 aa 5 x:=by rw [List.nil_append,Nat.zero_add]
 obtain ⟨af,ae⟩:=ar.rowEq 1 [⟨A,cp,61,2,n,xs⟩,brow A9 aa 5 x] av
 have aw:=EnvOk.pick au (ks:=[2,6,7,8,9]) (env':=[(2,.p 0 0),(6,.v (.slice A n cp)),(7,.v (.int .u32 k)),(8,.v (.slice Av x.length c)),(9,.v (.slice A9 (0 + x.length) aa))]) kz
 have ax:=aw.cast (env':=[(2,.p 0 0),(6,.v (.slice A n cp)),(7,.v (.int .u32 k)),(8,.v (.slice Av x.length c)),(9,.v (.slice A9 x.length aa))]) (by simp only [List.length_append,List.length_cons,List.length_nil,Nat.zero_add])
 have ag:=TT.ofW ((hF8.trans ac).trans ae) af
 refine ⟨fun _=>ag,?_⟩
 refine qaM [5] [(2,.p 0 0),(6,.v (.slice A n cp)),(10,.v (.agg #[.int .u32 k,.slice A9 x.length aa]))] 4 qaf (fun _ h=>h.cells) ag ax fun aM ay=>?_
 refine qaJ (i:=6) kz (qdo af ay (e:=61) (size:=2) (len:=1) (cs:=[.int .u32 k,.slice A9 x.length aa]) (d:=11) kz kz fun aF aN aO aG aH ah ab az=>?_)
 have aA:=TT.ofW (((hF8.trans ac).trans ae).trans ah) ab
 refine ⟨fun _=>aA,?_⟩
 refine qaJ (i:=7) kz (qaS ab az (k:=0) (d:=12) (t:=35) (e:=61) (size:=2) (bytes:=32) (A:=A) (As:=(some ⟨aF,0,none⟩)) (m0:=n) (c:=cp) (m:=1) (cs:=1) (xs:=xs) (news:=[.int .u32 k,.slice A9 x.length aa]) kz kz rfl (qbA (ab.own 2 _ rfl) (qb9 kz)) (qbN (ab.own 2 _ rfl)) (by first | omega | (simp only [List.length_nil]; omega) | (simp; omega)) fun am ao aP aQ aB ai aC=>?_)
 have aj:=TT.ofW ((((hF8.trans ac).trans ae).trans ah).trans aB) ai
 refine ⟨fun _=>aj,?_⟩
 refine qaM [8] [(12,.v (.slice am (n + 1) ao)),(13,.p 0 4)] 1 qaf (fun _ h=>h.cells) aj aC fun aR aD=>?_
 refine qaJ (i:=9) kz (qaw ai aD (oi:=0) (cs:=[x0,x1,x2,x3,.slice am (n + 1) ao]) kz fun aS aI ak aE=>?_)
 refine ⟨fun h=>absurd rfl h,?_⟩
 refine qaN kz ?_ _
 refine qbz aE ak.cells (v:=.tuple #[]) kz ?_
 obtain ⟨al,aJ⟩:=ak.cutR 2 [⟨am,ao,61,2,n + 1,xs ++ [.int .u32 k,.slice A9 x.length aa]⟩,brow A9 aa 5 x]
 have hoo:=qhL (s:=x) (Av:=A9) (c:=aa) (e8:=5) rfl al (by omega)
 obtain ⟨hb1,hb2,hb3⟩:=qi9 al (World.lt_of_cell (hbx.str.at_ 0 _ rfl))
 exact ⟨rfl,am,ao,A9,aa,hb1,hoo,hb2,hb3⟩
theorem n8w (x:Int):IntKind.i8.wrap x = (x + 128) % 256 - 128:=by simp [IntKind.wrap,IntKind.signed,IntKind.bits]; omega
theorem n16w (x:Int):IntKind.i16.wrap x = (x + 32768) % 65536 - 32768:=by simp [IntKind.wrap,IntKind.signed,IntKind.bits]; omega
theorem n32w (x:Int):IntKind.i32.wrap x = (x + 2147483648) % 4294967296 - 2147483648:=by simp [IntKind.wrap,IntKind.signed,IntKind.bits]; omega
theorem n64w (x:Int):IntKind.i64.wrap x = (x + 9223372036854775808) % 18446744073709551616 - 9223372036854775808:=by simp [IntKind.wrap,IntKind.signed,IntKind.bits]; omega
theorem qgE (x:Int):IntKind.i64.wrap (IntKind.i8.wrap x) = IntKind.i8.wrap x:=by rw [n64w,n8w]; omega
theorem qeB (x:Int):IntKind.i64.wrap (IntKind.i16.wrap x) = IntKind.i16.wrap x:=by rw [n64w,n16w]; omega
theorem qeC (x:Int):IntKind.i64.wrap (IntKind.i32.wrap x) = IntKind.i32.wrap x:=by rw [n64w,n32w]; omega
theorem qdK (x:Int):IntKind.i64.wrap (IntKind.u16.wrap x) = IntKind.u16.wrap x:=by rw [n64w,qba]; omega
def qbx (k n:Int):Int:=if k = 0 then n % 2 else if k = 1 then IntKind.i8.wrap n else if k = 2 then IntKind.i16.wrap n else if k = 3 then IntKind.i32.wrap n else if k = 5 then IntKind.u16.wrap n else n
section
variable {U:List Fld → Tree → Prop} {k x1 x2 x3 x4 x5 x6 n:Int} {sub:List Fld} {s:Bs} {b:Bool} {l:List Tree} {u:List (Int × Bs)}
end
section
variable {T:List Fld → Tree → Tree → Prop} {v k x1 x2 x3 x4 x5 x6 tn n:Int} {sub:List Fld} {ts s:Bs} {tb b:Bool} {tl l:List Tree} {tu u:List (Int × Bs)}
end
section
variable {w:World} {F:Nat → Nat → Prop}
end
section
variable {gu tu:List (Int × Bs)} {l:List Fld} {flex:Bool} {i:Nat} {k k':Int} {s s':Bs}
end
def qa2 (D:DV):Tree:=.mk 0 [] false [.mk 0 (sb (D.f 0).s) false [] [],.mk 0 (sb (D.f 1).s) false [] [],qja (D.f 2).A (D.f 2).s,.mk (IntKind.i64.wrap (D.f 3).n) [] false [] []] D.u
set_option maxHeartbeats 4000000 in
theorem qc3 (v:Int) (D:DV) (b o:Nat) (w:World) (F:Nat → Nat → Prop) (hat:AtF w F b o [.int .i16 v,.string ((D.f 0).s),.string ((D.f 1).s),.pointer ((D.f 2).A),.int .i32 ((D.f 3).n),.map D.m]) (hok:qaR w F D):Calls Tryd.prog 18 #[.pointer (some ⟨b,o,none⟩)] w (qdL w F (qa2 D)):=by
 refine enter (n:=50) Tryd.func18 rfl Tryd.ntmps18 kz fun a hE=>?_
 have hW:WOk w Nil w [⟨b,o,[.int .i16 v,.string ((D.f 0).s),.string ((D.f 1).s),.pointer ((D.f 2).A),.int .i32 ((D.f 3).n),.map D.m],false⟩] []:=(WOk.start w Nil).start1 hat rfl rfl
 unfold qaR at hok
 obtain ⟨g1,g2,⟨g3,g3l⟩,g4,g5,g5l,g5x,_⟩:=hok
 have hE0:=(EnvOk.ptr0 (cs:=[.int .i16 v,.string ((D.f 0).s),.string ((D.f 1).s),.pointer ((D.f 2).A),.int .i32 ((D.f 3).n),.map D.m]) (r:=false) hE).pk (env':=[(0,.p 0 0)])
 refine qac [0] kz ?_
 refine qaj (qaI hW hE0 (d:=2) (cs:=[.int .i64 0,.slice none 0 0,.bool false,.slice none 0 0,.slice none 0 0]) kz fun b6 a7 w8 hb9 cS cT bK bL=>?_)
 refine qae (qab ?_)
 refine qac [0,1,2,3] kz ?_
 refine qaj (qgB (t:=34) (e:=37) (size:=5) (bytes:=88) (d:=4) (j:=4) (.agg #[.int .i64 0,.slice none 0 0,.bool false,.slice none 0 0,.slice none 0 0]) [.int .i64 0,.slice none 0 0,.bool false,.slice none 0 0,.slice none 0 0,.int .i64 0,.slice none 0 0,.bool false,.slice none 0 0,.slice none 0 0,.int .i64 0,.slice none 0 0,.bool false,.slice none 0 0,.slice none 0 0,.int .i64 0,.slice none 0 0,.bool false,.slice none 0 0,.slice none 0 0] bK bL fun aa dz dA cU cV cW aZ bM=>?_)
 refine qai [1] [2,3] [(0,.p 0 0),(2,.p 1 0),(5,.v (.agg #[.int .i64 0,.slice none 0 0,.bool false,.slice (some ⟨aa,0,none⟩) 4 4,.slice none 0 0]))] aZ bM fun dB bN=>?_
 refine qaj (qaI aZ bN (d:=3) (cs:=[.int .i64 0,.slice none 0 0,.bool false,.slice none 0 0,.slice none 0 0]) kz fun aE dC dD cX cY cZ bO bP=>?_)
 refine qaj (qaw bO bP (oi:=3) (cs:=[.int .i64 0,.slice none 0 0,.bool false,.slice (some ⟨aa,0,none⟩) 4 4,.slice none 0 0]) kz fun dE c5 bQ bR=>?_)
 refine qae (qab ?_)
 refine qaZ 9 kz bQ fun dF c6 bS bT=>?_
 refine qaM [0,1,2,3,4,5] [(0,.p 0 0),(2,.p 1 0),(3,.p 3 0),(7,.v (.slice (some ⟨aa,0,none⟩) 4 4)),(11,.v (.string ((D.f 0).s)))] 4 (qaa qaf) (fun _ h=>h.cells) bT bR fun dG bU=>?_
 refine qaJ (i:=6) kz (qdJ (d:=12) (src:=9) (dst:=22) (e:=5) (s:=((D.f 0).s)) bS bU (by omega) fun az aA dH dI bV ba bW bX=>?_)
 have bY:=bW F
 have aT:=TT.ofW bV ba
 refine ⟨fun _=>aT,?_⟩
 refine qaM [7] [(0,.p 0 0),(2,.p 1 0),(3,.p 3 0),(7,.v (.slice (some ⟨aa,0,none⟩) 4 4)),(13,.v (.agg #[.int .i64 0,.slice (some ⟨az,0,none⟩) ((sb ((D.f 0).s)).length) aA,.bool false,.slice none 0 0,.slice none 0 0]))] 2 (qaa qaf) (fun _ h=>h.cells) aT bX fun dJ bZ=>?_
 refine qaW bZ (i:=8) (t:=34) (A:=(some ⟨aa,0,none⟩)) (m:=4) (q:=0) (d:=14) kz (e:=37) (size:=5) (bytes:=88) (j:=0) kz (b:=aa) (o:=0) rfl rfl (by decide) kz kz (qaa qaf) aT fun dK b8=>?_
 have cd:=b8.recast 14 (.v (.pointer (some ⟨aa,0 + 0 * 5,none⟩))) (.p 2 0) rfl rfl (Nat.le_of_ble_eq_true (n:=3) rfl)
 have ce:=cd.pk (env':=[(0,.p 0 0),(2,.p 1 0),(3,.p 3 0),(7,.v (.slice (some ⟨aa,0,none⟩) 4 4)),(13,.v (.agg #[.int .i64 0,.slice (some ⟨az,0,none⟩) ((sb ((D.f 0).s)).length) aA,.bool false,.slice none 0 0,.slice none 0 0])),(14,.p 2 0)])
 refine qaJ (i:=9) kz (qaw ba ce (oi:=2) (cs:=[.int .i64 0,.slice (some ⟨az,0,none⟩) ((sb ((D.f 0).s)).length) aA,.bool false,.slice none 0 0,.slice none 0 0,.int .i64 0,.slice none 0 0,.bool false,.slice none 0 0,.slice none 0 0,.int .i64 0,.slice none 0 0,.bool false,.slice none 0 0,.slice none 0 0,.int .i64 0,.slice none 0 0,.bool false,.slice none 0 0,.slice none 0 0]) kz fun dL bd cg cm=>?_)
 refine ⟨fun h=>absurd rfl h,?_⟩
 refine qaN kz ?_ _
 refine qab ?_
 refine qaZ 9 kz cg fun dM bf cq cr=>?_
 refine qaM [0,1,2,3,4,5] [(0,.p 0 0),(2,.p 1 0),(3,.p 3 0),(16,.v (.slice (some ⟨aa,0,none⟩) 4 4)),(20,.v (.string ((D.f 1).s)))] 4 (qaa qaf) (fun _ h=>h.cells) cr cm fun dN cu=>?_
 refine qaJ (i:=6) kz (qdJ (d:=21) (src:=9) (dst:=22) (e:=5) (s:=((D.f 1).s)) cq cu (by omega) fun aB aC dO dP aU bg cw cz=>?_)
 have cA:=cw F
 have aV:=TT.ofW aU bg
 refine ⟨fun _=>aV,?_⟩
 refine qaM [7] [(0,.p 0 0),(2,.p 1 0),(3,.p 3 0),(16,.v (.slice (some ⟨aa,0,none⟩) 4 4)),(22,.v (.agg #[.int .i64 0,.slice (some ⟨aB,0,none⟩) ((sb ((D.f 1).s)).length) aC,.bool false,.slice none 0 0,.slice none 0 0]))] 2 (qaa qaf) (fun _ h=>h.cells) aV cz fun dQ cB=>?_
 refine qaW cB (i:=8) (t:=34) (A:=(some ⟨aa,0,none⟩)) (m:=4) (q:=1) (d:=23) kz (e:=37) (size:=5) (bytes:=88) (j:=1) kz (b:=aa) (o:=0) rfl rfl (by decide) kz kz (qaa qaf) aV fun dR cC=>?_
 have cD:=cC.recast 23 (.v (.pointer (some ⟨aa,0 + 1 * 5,none⟩))) (.p 2 5) rfl rfl (Nat.le_of_ble_eq_true (n:=3) rfl)
 have cE:=cD.pk (env':=[(0,.p 0 0),(2,.p 1 0),(3,.p 3 0),(16,.v (.slice (some ⟨aa,0,none⟩) 4 4)),(22,.v (.agg #[.int .i64 0,.slice (some ⟨aB,0,none⟩) ((sb ((D.f 1).s)).length) aC,.bool false,.slice none 0 0,.slice none 0 0])),(23,.p 2 5)])
 refine qaJ (i:=9) kz (qaw bg cE (oi:=2) (cs:=[.int .i64 0,.slice (some ⟨az,0,none⟩) ((sb ((D.f 0).s)).length) aA,.bool false,.slice none 0 0,.slice none 0 0,.int .i64 0,.slice (some ⟨aB,0,none⟩) ((sb ((D.f 1).s)).length) aC,.bool false,.slice none 0 0,.slice none 0 0,.int .i64 0,.slice none 0 0,.bool false,.slice none 0 0,.slice none 0 0,.int .i64 0,.slice none 0 0,.bool false,.slice none 0 0,.slice none 0 0]) kz fun dS aK cG cH=>?_)
 refine ⟨fun h=>absurd rfl h,?_⟩
 refine qaN kz ?_ _
 refine qab ?_
 refine qaZ 8 kz cG fun da aL aG cI=>?_
 refine qaM [0,1,2,3,4,5] [(0,.p 0 0),(2,.p 1 0),(3,.p 3 0),(25,.v (.slice (some ⟨aa,0,none⟩) 4 4)),(29,.v (.pointer ((D.f 2).A)))] 3 (qaa qaf) (fun _ h=>h.cells) cI cH fun dT cJ=>?_
 refine qaJ (i:=6) kz (qal cJ (f:=24) (vs:=[.pointer ((D.f 2).A)]) (d:=30) kz Tryd.call24 (qj2 _ (D.f 2).s _ (Imm F w da [⟨b,o,[.int .i16 v,.string ((D.f 0).s),.string ((D.f 1).s),.pointer ((D.f 2).A),.int .i32 ((D.f 3).n),.map D.m],false⟩,⟨b6,0,[.int .i64 0,.slice none 0 0,.bool false,.slice none 0 0,.slice none 0 0],true⟩,⟨aa,0,[.int .i64 0,.slice (some ⟨az,0,none⟩) ((sb ((D.f 0).s)).length) aA,.bool false,.slice none 0 0,.slice none 0 0,.int .i64 0,.slice (some ⟨aB,0,none⟩) ((sb ((D.f 1).s)).length) aC,.bool false,.slice none 0 0,.slice none 0 0,.int .i64 0,.slice none 0 0,.bool false,.slice none 0 0,.slice none 0 0,.int .i64 0,.slice none 0 0,.bool false,.slice none 0 0,.slice none 0 0],true⟩,⟨aE,0,[.int .i64 0,.slice none 0 0,.bool false,.slice (some ⟨aa,0,none⟩) 4 4,.slice none 0 0],true⟩] []) (fun ad h_=>by obtain ⟨b',o',g1,g2⟩:=g3 ad h_; exact ⟨b',o',g1,g2.move aG.step nilM aG.imm⟩) g3l) ?_)
 rintro e_ dU ⟨db,rfl,cK,aW⟩
 have aX:=cK.move (Step.refl _ Nil) nilM (aG.laid (G:=F) aW)
 obtain ⟨aF,ae,af,ag,ah,ai,aj,ak,al,am,ao,cQ,cR,aH,cL,cM,dc,de⟩:=aX.open_
 rw [aH] at aX
 have cN:=cL.small
 have cO:=cM.small
 rw [aH]
 refine ⟨_,rfl,fun dg bh=>?_⟩
 have aM:=aG.next_nil aW
 have aD:=aG.frN aW
 have aN:=TT.ofW aD aM
 refine ⟨fun _=>aN,?_⟩
 refine qaW bh (i:=7) (t:=34) (A:=(some ⟨aa,0,none⟩)) (m:=4) (q:=2) (d:=31) kz (e:=37) (size:=5) (bytes:=88) (j:=2) kz (b:=aa) (o:=0) rfl rfl (by decide) kz kz (qaa qaf) aN fun dh bi=>?_
 have bj:=bi.recast 31 (.v (.pointer (some ⟨aa,0 + 2 * 5,none⟩))) (.p 2 10) rfl rfl (Nat.le_of_ble_eq_true (n:=3) rfl)
 have bk:=bj.pk (env':=[(0,.p 0 0),(2,.p 1 0),(3,.p 3 0),(25,.v (.slice (some ⟨aa,0,none⟩) 4 4)),(29,.v (.pointer ((D.f 2).A))),(30,.v (.agg #[.int .i64 aF,.slice ai ae.length aj,.bool af,.slice ak ag.length al,.slice am ah.length ao])),(31,.p 2 10)])
 refine qaJ (i:=8) kz (qaw aM bk (oi:=2) (cs:=[.int .i64 0,.slice (some ⟨az,0,none⟩) ((sb ((D.f 0).s)).length) aA,.bool false,.slice none 0 0,.slice none 0 0,.int .i64 0,.slice (some ⟨aB,0,none⟩) ((sb ((D.f 1).s)).length) aC,.bool false,.slice none 0 0,.slice none 0 0,.int .i64 aF,.slice ai ae.length aj,.bool af,.slice ak ag.length al,.slice am ah.length ao,.int .i64 0,.slice none 0 0,.bool false,.slice none 0 0,.slice none 0 0]) kz fun di av bn bo=>?_)
 refine ⟨fun h=>absurd rfl h,?_⟩
 refine qaN kz ?_ _
 refine qab ?_
 refine qaZ 9 kz bn fun dj aw bp aO=>?_
 refine qaM [0,1,2,3,4,5,6,7] [(0,.p 0 0),(2,.p 1 0),(3,.p 3 0),(33,.v (.slice (some ⟨aa,0,none⟩) 4 4)),(39,.v (.agg #[.int .i64 (IntKind.i64.wrap ((D.f 3).n)),.slice none 0 0,.bool false,.slice none 0 0,.slice none 0 0]))] 2 (qaa qaf) (fun _ h=>h.cells) aO bo fun dl bq=>?_
 refine qaW bq (i:=8) (t:=34) (A:=(some ⟨aa,0,none⟩)) (m:=4) (q:=3) (d:=40) kz (e:=37) (size:=5) (bytes:=88) (j:=3) kz (b:=aa) (o:=0) rfl rfl (by decide) kz kz (qaa qaf) aO fun dp bt=>?_
 have bu:=bt.recast 40 (.v (.pointer (some ⟨aa,0 + 3 * 5,none⟩))) (.p 2 15) rfl rfl (Nat.le_of_ble_eq_true (n:=3) rfl)
 have bw:=bu.pk (env':=[(0,.p 0 0),(2,.p 1 0),(3,.p 3 0),(33,.v (.slice (some ⟨aa,0,none⟩) 4 4)),(39,.v (.agg #[.int .i64 (IntKind.i64.wrap ((D.f 3).n)),.slice none 0 0,.bool false,.slice none 0 0,.slice none 0 0])),(40,.p 2 15)])
 refine qaJ (i:=9) kz (qaw bp bw (oi:=2) (cs:=[.int .i64 0,.slice (some ⟨az,0,none⟩) ((sb ((D.f 0).s)).length) aA,.bool false,.slice none 0 0,.slice none 0 0,.int .i64 0,.slice (some ⟨aB,0,none⟩) ((sb ((D.f 1).s)).length) aC,.bool false,.slice none 0 0,.slice none 0 0,.int .i64 aF,.slice ai ae.length aj,.bool af,.slice ak ag.length al,.slice am ah.length ao,.int .i64 (IntKind.i64.wrap ((D.f 3).n)),.slice none 0 0,.bool false,.slice none 0 0,.slice none 0 0]) kz fun cP ax au bx=>?_)
 refine ⟨fun h=>absurd rfl h,?_⟩
 refine qaN kz ?_ _
 refine qab ?_
 refine qac [0,1,2,3,4] kz ?_
 refine qai [0,1,2] [3,4] [(2,.p 1 0),(3,.p 3 0),(43,.p 0 5)] au bx fun dq bz=>?_
 refine qaj (qfO bz (v:=.func (.func 26) #[] #[.pointer (some ⟨aE,0,none⟩)]) (d:=44) kz fun dr bA=>?_)
 refine qaj (qal bA (f:=25) (vs:=[.pointer (some ⟨b,o + 5,none⟩),.func (.func 26) #[] #[.pointer (some ⟨aE,0,none⟩)]]) (d:=45) kz Tryd.call25 (qhM (F:=(Imm F w cP [⟨b,o,[.int .i16 v,.string ((D.f 0).s),.string ((D.f 1).s),.pointer ((D.f 2).A),.int .i32 ((D.f 3).n),.map D.m],false⟩,⟨b6,0,[.int .i64 0,.slice none 0 0,.bool false,.slice none 0 0,.slice none 0 0],true⟩,⟨aa,0,[.int .i64 0,.slice (some ⟨az,0,none⟩) ((sb ((D.f 0).s)).length) aA,.bool false,.slice none 0 0,.slice none 0 0,.int .i64 0,.slice (some ⟨aB,0,none⟩) ((sb ((D.f 1).s)).length) aC,.bool false,.slice none 0 0,.slice none 0 0,.int .i64 aF,.slice ai ae.length aj,.bool af,.slice ak ag.length al,.slice am ah.length ao,.int .i64 (IntKind.i64.wrap ((D.f 3).n)),.slice none 0 0,.bool false,.slice none 0 0,.slice none 0 0],true⟩,⟨aE,0,[.int .i64 0,.slice none 0 0,.bool false,.slice (some ⟨aa,0,none⟩) 4 4,.slice none 0 0],true⟩] [])) Tryd.call26 qcC ((hat.one 5 rfl).move au.step nilM au.imm) (g5.move au.step nilM au.imm) (Str.of au 3 rfl) (qjB 3 rfl) g5l) ?_)
 rintro e_ dt ⟨rfl,ab,ac,aY,bB,bC⟩
 obtain ⟨aI,ay,bD⟩:=au.wrote 3 [⟨b,o,[.int .i16 v,.string ((D.f 0).s),.string ((D.f 1).s),.pointer ((D.f 2).A),.int .i32 ((D.f 3).n),.map D.m],false⟩,⟨b6,0,[.int .i64 0,.slice none 0 0,.bool false,.slice none 0 0,.slice none 0 0],true⟩,⟨aa,0,[.int .i64 0,.slice (some ⟨az,0,none⟩) ((sb ((D.f 0).s)).length) aA,.bool false,.slice none 0 0,.slice none 0 0,.int .i64 0,.slice (some ⟨aB,0,none⟩) ((sb ((D.f 1).s)).length) aC,.bool false,.slice none 0 0,.slice none 0 0,.int .i64 aF,.slice ai ae.length aj,.bool af,.slice ak ag.length al,.slice am ah.length ao,.int .i64 (IntKind.i64.wrap ((D.f 3).n)),.slice none 0 0,.bool false,.slice none 0 0,.slice none 0 0],true⟩,⟨aE,0,[.int .i64 0,.slice none 0 0,.bool false,.slice (some ⟨aa,0,none⟩) 4 4,.slice ab D.u.length ac],true⟩] rfl bC aY
 have aP:=bB.move (Step.refl _ Nil) nilM (fun b_ o_ h_ hb_=>bD (G:=F) b_ o_ (.inr h_) hb_)
 refine ⟨_,rfl,fun du bE=>?_⟩
 have bF:=(EnvOk.places (tb':=[⟨b,o,[.int .i16 v,.string ((D.f 0).s),.string ((D.f 1).s),.pointer ((D.f 2).A),.int .i32 ((D.f 3).n),.map D.m],false⟩,⟨b6,0,[.int .i64 0,.slice none 0 0,.bool false,.slice none 0 0,.slice none 0 0],true⟩,⟨aa,0,[.int .i64 0,.slice (some ⟨az,0,none⟩) ((sb ((D.f 0).s)).length) aA,.bool false,.slice none 0 0,.slice none 0 0,.int .i64 0,.slice (some ⟨aB,0,none⟩) ((sb ((D.f 1).s)).length) aC,.bool false,.slice none 0 0,.slice none 0 0,.int .i64 aF,.slice ai ae.length aj,.bool af,.slice ak ag.length al,.slice am ah.length ao,.int .i64 (IntKind.i64.wrap ((D.f 3).n)),.slice none 0 0,.bool false,.slice none 0 0,.slice none 0 0],true⟩,⟨aE,0,[.int .i64 0,.slice none 0 0,.bool false,.slice (some ⟨aa,0,none⟩) 4 4,.slice ab D.u.length ac],true⟩]) bE (show Pl [⟨b,o,[.int .i16 v,.string ((D.f 0).s),.string ((D.f 1).s),.pointer ((D.f 2).A),.int .i32 ((D.f 3).n),.map D.m],false⟩,⟨b6,0,[.int .i64 0,.slice none 0 0,.bool false,.slice none 0 0,.slice none 0 0],true⟩,⟨aa,0,[.int .i64 0,.slice (some ⟨az,0,none⟩) ((sb ((D.f 0).s)).length) aA,.bool false,.slice none 0 0,.slice none 0 0,.int .i64 0,.slice (some ⟨aB,0,none⟩) ((sb ((D.f 1).s)).length) aC,.bool false,.slice none 0 0,.slice none 0 0,.int .i64 aF,.slice ai ae.length aj,.bool af,.slice ak ag.length al,.slice am ah.length ao,.int .i64 (IntKind.i64.wrap ((D.f 3).n)),.slice none 0 0,.bool false,.slice none 0 0,.slice none 0 0],true⟩,⟨aE,0,[.int .i64 0,.slice none 0 0,.bool false,.slice (some ⟨aa,0,none⟩) 4 4,.slice none 0 0],true⟩] [⟨b,o,[.int .i16 v,.string ((D.f 0).s),.string ((D.f 1).s),.pointer ((D.f 2).A),.int .i32 ((D.f 3).n),.map D.m],false⟩,⟨b6,0,[.int .i64 0,.slice none 0 0,.bool false,.slice none 0 0,.slice none 0 0],true⟩,⟨aa,0,[.int .i64 0,.slice (some ⟨az,0,none⟩) ((sb ((D.f 0).s)).length) aA,.bool false,.slice none 0 0,.slice none 0 0,.int .i64 0,.slice (some ⟨aB,0,none⟩) ((sb ((D.f 1).s)).length) aC,.bool false,.slice none 0 0,.slice none 0 0,.int .i64 aF,.slice ai ae.length aj,.bool af,.slice ak ag.length al,.slice am ah.length ao,.int .i64 (IntKind.i64.wrap ((D.f 3).n)),.slice none 0 0,.bool false,.slice none 0 0,.slice none 0 0],true⟩,⟨aE,0,[.int .i64 0,.slice none 0 0,.bool false,.slice (some ⟨aa,0,none⟩) 4 4,.slice ab D.u.length ac],true⟩] from ⟨rfl,rfl,⟨rfl,rfl,⟨rfl,rfl,⟨rfl,rfl,trivial⟩⟩⟩⟩)).pk (env':=[(45,.v (.tuple #[])),(2,.p 1 0),(3,.p 3 0),(43,.p 0 5),(44,.v (.func (.func 26) #[] #[.pointer (some ⟨aE,0,none⟩)]))])
 refine qae (qab ?_)
 refine qac [0,1,2] kz ?_
 refine qai [0,1] [2] [(2,.p 1 0),(3,.p 3 0),(47,.v (.slice ab D.u.length ac))] aI bF fun dv bG=>?_
 refine qaj (qal bG (f:=27) (vs:=[.slice ab D.u.length ac]) (d:=48) kz Tryd.call27 (qjb aP g5.sorted) ?_)
 rintro e_ dw ⟨rfl,aQ⟩
 refine ⟨_,rfl,fun dx bH=>?_⟩
 have aR:=aI.next_nil aQ
 have ap:=aI.frN aQ
 refine qae (qab ?_)
 refine qac [0,1] kz ?_
 refine qai [0] [1] [(2,.p 1 0),(49,.v (.agg #[.int .i64 0,.slice none 0 0,.bool false,.slice (some ⟨aa,0,none⟩) 4 4,.slice ab D.u.length ac]))] aR bH fun dy bI=>?_
 refine qaj (qaw aR bI (oi:=1) (cs:=[.int .i64 0,.slice none 0 0,.bool false,.slice (some ⟨aa,0,none⟩) 4 4,.slice ab D.u.length ac]) kz fun aJ ar aS bJ=>?_)
 refine qae (qab ?_)
 refine wp_ret ?_
 refine qaG bJ aS.cells (v:=.agg #[.int .i64 0,.slice none 0 0,.bool false,.slice (some ⟨aa,0,none⟩) 4 4,.slice ab D.u.length ac]) kz ?_
 exact qip (u:=D.u) (l:=[.mk 0 (sb (D.f 0).s) false [] [],.mk 0 (sb (D.f 1).s) false [] [],qja (D.f 2).A (D.f 2).s,.mk (IntKind.i64.wrap (D.f 3).n) [] false [] []]) (css:=[[.int .i64 0,.slice (some ⟨az,0,none⟩) ((sb ((D.f 0).s)).length) aA,.bool false,.slice none 0 0,.slice none 0 0],[.int .i64 0,.slice (some ⟨aB,0,none⟩) ((sb ((D.f 1).s)).length) aC,.bool false,.slice none 0 0,.slice none 0 0],[.int .i64 aF,.slice ai ae.length aj,.bool af,.slice ak ag.length al,.slice am ah.length ao],[.int .i64 (IntKind.i64.wrap ((D.f 3).n)),.slice none 0 0,.bool false,.slice none 0 0,.slice none 0 0]]) aS 2 rfl ⟨(show TreeR _ (Imm F w aJ [⟨b,o,[.int .i16 v,.string ((D.f 0).s),.string ((D.f 1).s),.pointer ((D.f 2).A),.int .i32 ((D.f 3).n),.map D.m],false⟩,⟨b6,0,[.int .i64 0,.slice none 0 0,.bool false,.slice (some ⟨aa,0,none⟩) 4 4,.slice ab D.u.length ac],true⟩,⟨aa,0,[.int .i64 0,.slice (some ⟨az,0,none⟩) ((sb ((D.f 0).s)).length) aA,.bool false,.slice none 0 0,.slice none 0 0,.int .i64 0,.slice (some ⟨aB,0,none⟩) ((sb ((D.f 1).s)).length) aC,.bool false,.slice none 0 0,.slice none 0 0,.int .i64 aF,.slice ai ae.length aj,.bool af,.slice ak ag.length al,.slice am ah.length ao,.int .i64 (IntKind.i64.wrap ((D.f 3).n)),.slice none 0 0,.bool false,.slice none 0 0,.slice none 0 0],true⟩,⟨aE,0,[.int .i64 0,.slice none 0 0,.bool false,.slice (some ⟨aa,0,none⟩) 4 4,.slice ab D.u.length ac],true⟩] []) _ _ from (TreeR.mk (n:=0) (b:=false) (s:=(sb ((D.f 0).s))) (l:=[]) (u:=[]) (fun _=>[]) (bY.move (((((((((((bd.trans bf).trans aU).trans aK).trans aL).trans aD).trans av).trans aw).trans ax).trans ay).trans ap).trans ar).step immM (((((((((((bd.trans bf).trans aU).trans aK).trans aL).trans aD).trans av).trans aw).trans ax).trans ay).trans ap).trans ar).to') (Slots.nil _ _ _ _) (fun i_ x_ h_=>by simp at h_) (TagsR.nil _ _))).move (Step.refl _ Nil) nilM qbH,(show TreeR _ (Imm F w aJ [⟨b,o,[.int .i16 v,.string ((D.f 0).s),.string ((D.f 1).s),.pointer ((D.f 2).A),.int .i32 ((D.f 3).n),.map D.m],false⟩,⟨b6,0,[.int .i64 0,.slice none 0 0,.bool false,.slice (some ⟨aa,0,none⟩) 4 4,.slice ab D.u.length ac],true⟩,⟨aa,0,[.int .i64 0,.slice (some ⟨az,0,none⟩) ((sb ((D.f 0).s)).length) aA,.bool false,.slice none 0 0,.slice none 0 0,.int .i64 0,.slice (some ⟨aB,0,none⟩) ((sb ((D.f 1).s)).length) aC,.bool false,.slice none 0 0,.slice none 0 0,.int .i64 aF,.slice ai ae.length aj,.bool af,.slice ak ag.length al,.slice am ah.length ao,.int .i64 (IntKind.i64.wrap ((D.f 3).n)),.slice none 0 0,.bool false,.slice none 0 0,.slice none 0 0],true⟩,⟨aE,0,[.int .i64 0,.slice none 0 0,.bool false,.slice (some ⟨aa,0,none⟩) 4 4,.slice ab D.u.length ac],true⟩] []) _ _ from (TreeR.mk (n:=0) (b:=false) (s:=(sb ((D.f 1).s))) (l:=[]) (u:=[]) (fun _=>[]) (cA.move ((((((((aK.trans aL).trans aD).trans av).trans aw).trans ax).trans ay).trans ap).trans ar).step immM ((((((((aK.trans aL).trans aD).trans av).trans aw).trans ax).trans ay).trans ap).trans ar).to') (Slots.nil _ _ _ _) (fun i_ x_ h_=>by simp at h_) (TagsR.nil _ _))).move (Step.refl _ Nil) nilM qbH,(show TreeR _ (Imm F w aJ [⟨b,o,[.int .i16 v,.string ((D.f 0).s),.string ((D.f 1).s),.pointer ((D.f 2).A),.int .i32 ((D.f 3).n),.map D.m],false⟩,⟨b6,0,[.int .i64 0,.slice none 0 0,.bool false,.slice (some ⟨aa,0,none⟩) 4 4,.slice ab D.u.length ac],true⟩,⟨aa,0,[.int .i64 0,.slice (some ⟨az,0,none⟩) ((sb ((D.f 0).s)).length) aA,.bool false,.slice none 0 0,.slice none 0 0,.int .i64 0,.slice (some ⟨aB,0,none⟩) ((sb ((D.f 1).s)).length) aC,.bool false,.slice none 0 0,.slice none 0 0,.int .i64 aF,.slice ai ae.length aj,.bool af,.slice ak ag.length al,.slice am ah.length ao,.int .i64 (IntKind.i64.wrap ((D.f 3).n)),.slice none 0 0,.bool false,.slice none 0 0,.slice none 0 0],true⟩,⟨aE,0,[.int .i64 0,.slice none 0 0,.bool false,.slice (some ⟨aa,0,none⟩) 4 4,.slice ab D.u.length ac],true⟩] []) _ _ from (aX.move (((((av.trans aw).trans ax).trans ay).trans ap).trans ar).step immM (((((av.trans aw).trans ax).trans ay).trans ap).trans ar).to')).move (Step.refl _ Nil) nilM qbH,(show TreeR _ (Imm F w aJ [⟨b,o,[.int .i16 v,.string ((D.f 0).s),.string ((D.f 1).s),.pointer ((D.f 2).A),.int .i32 ((D.f 3).n),.map D.m],false⟩,⟨b6,0,[.int .i64 0,.slice none 0 0,.bool false,.slice (some ⟨aa,0,none⟩) 4 4,.slice ab D.u.length ac],true⟩,⟨aa,0,[.int .i64 0,.slice (some ⟨az,0,none⟩) ((sb ((D.f 0).s)).length) aA,.bool false,.slice none 0 0,.slice none 0 0,.int .i64 0,.slice (some ⟨aB,0,none⟩) ((sb ((D.f 1).s)).length) aC,.bool false,.slice none 0 0,.slice none 0 0,.int .i64 aF,.slice ai ae.length aj,.bool af,.slice ak ag.length al,.slice am ah.length ao,.int .i64 (IntKind.i64.wrap ((D.f 3).n)),.slice none 0 0,.bool false,.slice none 0 0,.slice none 0 0],true⟩,⟨aE,0,[.int .i64 0,.slice none 0 0,.bool false,.slice (some ⟨aa,0,none⟩) 4 4,.slice ab D.u.length ac],true⟩] []) _ _ from (TreeR.mk (n:=IntKind.i64.wrap ((D.f 3).n)) (b:=false) (s:=[]) (l:=[]) (u:=[]) (fun _=>[]) (Octs.nil _ _) (Slots.nil _ _ _ _) (fun i_ x_ h_=>by simp at h_) (TagsR.nil _ _))).move (Step.refl _ Nil) nilM qbH,trivial⟩ ((show TagsR _ (Imm F w aJ [⟨b,o,[.int .i16 v,.string ((D.f 0).s),.string ((D.f 1).s),.pointer ((D.f 2).A),.int .i32 ((D.f 3).n),.map D.m],false⟩,⟨b6,0,[.int .i64 0,.slice none 0 0,.bool false,.slice (some ⟨aa,0,none⟩) 4 4,.slice ab D.u.length ac],true⟩,⟨aa,0,[.int .i64 0,.slice (some ⟨az,0,none⟩) ((sb ((D.f 0).s)).length) aA,.bool false,.slice none 0 0,.slice none 0 0,.int .i64 0,.slice (some ⟨aB,0,none⟩) ((sb ((D.f 1).s)).length) aC,.bool false,.slice none 0 0,.slice none 0 0,.int .i64 aF,.slice ai ae.length aj,.bool af,.slice ak ag.length al,.slice am ah.length ao,.int .i64 (IntKind.i64.wrap ((D.f 3).n)),.slice none 0 0,.bool false,.slice none 0 0,.slice none 0 0],true⟩,⟨aE,0,[.int .i64 0,.slice none 0 0,.bool false,.slice (some ⟨aa,0,none⟩) 4 4,.slice ab D.u.length ac],true⟩] []) _ _ _ from (aP.move (ap.trans ar).step immM (ap.trans ar).to')).move (Step.refl _ Nil) nilM qbH)
def DefF:Fld → Tree → Prop
 | .mk k _ _ _ _ x5 _ _,g=>x5 = 0 ∨ g.N = qbx k x5
def DefP (l:List Fld) (g:Tree):Prop:=∀ (i:Nat) (f:Fld),l[i]? = some f → DefF f (g.at_ i)
theorem qj3 {k x1 x2 x3 x4 x5 x6 n:Int} {s:List Fld} {b:Bs} {c:Bool} {l:List Tree} {u:List (Int × Bs)} (h:DefF (.mk k x1 x2 x3 x4 x5 x6 s) (.mk n b c l u)) (h1:(x5 != 0) = true) (h2:(n != qbx k x5) = true):False:=by
 have h':x5 = 0 ∨ n = qbx k x5:=h
 rcases h' with h' | h'
 ·rw [h'] at h1; simp at h1
 rw [h'] at h2; simp at h2
theorem qjc (k n:Int) (w:World):Calls Tryd.prog 21 #[.int .i64 k,.int .i64 n] w (qbR w (.int .i64 (qbx k n))):=by
 refine enter (n:=31) Tryd.func21 rfl Tryd.ntmps21 kz fun a hE=>?_
 have hW:=WOk.start w Nil
 refine qao [(0,.v (.int .i64 k)),(1,.v (.int .i64 n))] hW hE fun a1 hE2=>?_
 refine wp_seq ?_
 refine qao [(1,.v (.int .i64 n)),(5,.v (.int .i64 k))] hW hE2 fun a3 hE4=>?_
 refine wp_block ?_
 refine qao [(1,.v (.int .i64 n)),(5,.v (.int .i64 k)),(6,.v (.bool (k == 0)))] hW hE4 fun a5 hE6=>?_
 refine qax hE6 (b:=k == 0) kz (fun hc7=>?_) (fun hc7=>?_)
 ·
  have hf8:k = 0:=by simpa using hc7
  refine qao [(4,.v (.int .i64 (IntKind.i64.wrap (BitVec.ofInt 64 n &&& BitVec.ofInt 64 1).toNat)))] hW hE6 fun a9 aj=>?_
  refine wp_ret ?_
  refine qaE ?_
  refine qat ?_
  refine qaG aj hW.cells (v:=.int .i64 (IntKind.i64.wrap (BitVec.ofInt 64 n &&& BitVec.ofInt 64 1).toNat)) kz ?_
  exact ⟨by (try simp only [and1]); simp_all [qbx,qgE,qeB,qeC,qdK],hW.step⟩
 have ar:k ≠ 0:=by simpa using hc7
 refine qao [(1,.v (.int .i64 n)),(5,.v (.int .i64 k)),(10,.v (.bool (k == 1)))] hW hE6 fun aC aa=>?_
 refine qax aa (b:=k == 1) kz (fun ab=>?_) (fun ab=>?_)
 ·
  have au:k = 1:=by simpa using ab
  refine qao [(4,.v (.int .i64 (IntKind.i64.wrap (IntKind.i8.wrap n))))] hW aa fun aD ak=>?_
  refine wp_ret ?_
  refine qaE ?_
  refine qat ?_
  refine qaG ak hW.cells (v:=.int .i64 (IntKind.i64.wrap (IntKind.i8.wrap n))) kz ?_
  exact ⟨by (try simp only [and1]); simp_all [qbx,qgE,qeB,qeC,qdK],hW.step⟩
 have av:k ≠ 1:=by simpa using ab
 refine qao [(1,.v (.int .i64 n)),(5,.v (.int .i64 k)),(15,.v (.bool (k == 2)))] hW aa fun aE ac=>?_
 refine qax ac (b:=k == 2) kz (fun ae=>?_) (fun ae=>?_)
 ·
  have aw:k = 2:=by simpa using ae
  refine qao [(4,.v (.int .i64 (IntKind.i64.wrap (IntKind.i16.wrap n))))] hW ac fun aF al=>?_
  refine wp_ret ?_
  refine qaE ?_
  refine qat ?_
  refine qaG al hW.cells (v:=.int .i64 (IntKind.i64.wrap (IntKind.i16.wrap n))) kz ?_
  exact ⟨by (try simp only [and1]); simp_all [qbx,qgE,qeB,qeC,qdK],hW.step⟩
 have ax:k ≠ 2:=by simpa using ae
 refine qao [(1,.v (.int .i64 n)),(5,.v (.int .i64 k)),(20,.v (.bool (k == 3)))] hW ac fun aG af=>?_
 refine qax af (b:=k == 3) kz (fun ag=>?_) (fun ag=>?_)
 ·
  have ay:k = 3:=by simpa using ag
  refine qao [(4,.v (.int .i64 (IntKind.i64.wrap (IntKind.i32.wrap n))))] hW af fun aH am=>?_
  refine wp_ret ?_
  refine qaE ?_
  refine qat ?_
  refine qaG am hW.cells (v:=.int .i64 (IntKind.i64.wrap (IntKind.i32.wrap n))) kz ?_
  exact ⟨by (try simp only [and1]); simp_all [qbx,qgE,qeB,qeC,qdK],hW.step⟩
 have az:k ≠ 3:=by simpa using ag
 refine qao [(1,.v (.int .i64 n)),(25,.v (.bool (k == 5)))] hW af fun aI ah=>?_
 refine qax ah (b:=k == 5) kz (fun ai=>?_) (fun ai=>?_)
 ·
  have aA:k = 5:=by simpa using ai
  refine qao [(4,.v (.int .i64 (IntKind.i64.wrap (IntKind.u16.wrap n))))] hW ah fun aJ ao=>?_
  refine wp_ret ?_
  refine qaE ?_
  refine qat ?_
  refine qaG ao hW.cells (v:=.int .i64 (IntKind.i64.wrap (IntKind.u16.wrap n))) kz ?_
  exact ⟨by (try simp only [and1]); simp_all [qbx,qgE,qeB,qeC,qdK],hW.step⟩
 have aB:k ≠ 5:=by simpa using ai
 refine wp_skip ?_
 refine qav ?_
 refine qab ?_
 refine qao [(4,.v (.int .i64 n))] hW ah fun aK ap=>?_
 refine wp_ret ?_
 refine qaG ap hW.cells (v:=.int .i64 n) kz ?_
 exact ⟨by (try simp only [and1]); simp_all [qbx,qgE,qeB,qeC,qdK],hW.step⟩
theorem qhO (A:Option Addr) (c:Nat) (l:List Fld) (ct:List Value) (g:Tree) (w:World) (F:Nat → Nat → Prop) (hl:FldsR w F A c l) (ht:TreeR w F ct g) (hD:DefP l g) :
  Calls Tryd.prog 10 #[.slice A l.length c,.agg ct.toArray] w (qbR w (.bool true)):=by
 obtain ⟨xfs,h1,h2⟩:=hl.ex
 have hsm:=h1.small
 obtain ⟨n1,s2,b3,l4,u5,A6,c7,A8,c9,aG,aH,bZ,rfl,rfl,b8,cd,de,dg⟩:=ht.open_
 have bQ:=b8.small
 have bR:=cd.small
 refine enter (n:=30) Tryd.func10 rfl Tryd.ntmps10 kz fun a hE=>?_
 have hW:=WOk.start w Nil
 refine qac [0,1] kz ?_
 refine qaj (qa9 hW hE (d:=3) (cs:=[.int .i64 n1,.slice A6 s2.length c7,.bool b3,.slice A8 l4.length c9,.slice aG u5.length aH]) kz fun bw dh di ce cg cm ap bx=>?_)
 refine qai [1] [] [(0,.v (.slice A l.length c)),(3,.p 0 0)] ap bx fun dj bz=>?_
 refine qae (qab ?_)
 refine wp_seq ?_
 refine qao [(3,.p 0 0),(7,.v (.slice A l.length c)),(8,.v (.int .i64 ((l.length:Nat):Int))),(9,.v (.int .i64 0))] ap bz fun dl bA=>?_
 refine wp_block ?_
 refine wp_loop_ghost (fun n_ a_ w_=>∃ (k:Nat),n_ = l.length - k ∧ k ≤ l.length ∧ LInv ap 30 [⟨bw,0,[.int .i64 n1,.slice A6 s2.length c7,.bool b3,.slice A8 l4.length c9,.slice aG u5.length aH],true⟩] [] [(3,.p 0 0),(7,.v (.slice A l.length c)),(8,.v (.int .i64 ((l.length:Nat):Int))),(9,.v (.int .i64 ((k:Nat):Int)))] a_ w_) (l.length) ⟨0,by omega,by omega,bA.pk,ap,Fr.refl _ _ _⟩ ?_
 rintro dp dq dr ⟨k,cq,cr,bB,ac,aI⟩
 refine qao [(3,.p 0 0),(7,.v (.slice A l.length c)),(8,.v (.int .i64 ((l.length:Nat):Int))),(9,.v (.int .i64 ((k:Nat):Int))),(10,.v (.bool (decide (((k:Nat):Int) < ((l.length:Nat):Int)))))] ac bB fun dt aD=>?_
 refine wp_seq ?_
 refine qax aD (b:=decide (((k:Nat):Int) < ((l.length:Nat):Int))) kz (fun aE=>?_) (fun aE=>?_)
 ·
  have cu:=of_decide_eq_true aE
  refine wp_skip ?_
  refine qab ?_
  refine wp_seq ?_
  refine wp_block ?_
  refine qac [0,1,2,3,4,5] kz ?_
  refine qai [0] [1,2,3,4,5] [(3,.p 0 0),(7,.v (.slice A l.length c)),(8,.v (.int .i64 ((l.length:Nat):Int))),(9,.v (.int .i64 ((k:Nat):Int))),(11,.v (.int .i64 ((k:Nat):Int)))] ac aD fun du bC=>?_
  obtain ⟨cw,cz,bD,cA,ar⟩:=Slots.get h1 (i:=k) (by omega)
  obtain ⟨cB,aJ⟩:∃ x,l[k]? = some x:=⟨_,List.getElem?_eq_getElem (by omega)⟩
  have aK:=h2 k cB aJ
  obtain ⟨af,bj,bk,bn,bo,ab,bp,bq,bt,bu,cC,rfl,au,cD,dv⟩:=aK.open_
  rw [au] at aK
  have bS:=cD.small
  rw [au] at ar
  refine qaj (qas bC (t:=29) (A:=A) (m:=l.length) (q:=((k:Nat):Int)) (d:=12) kz (e:=50) (size:=8) (bytes:=80) kz bD rfl (by omega) fun dw bE=>?_)
  refine qaj (qaA bE (t:=50) (b:=cw) (o:=cz + k * 8) (d:=13) kz (cs:=[.int .i64 af,.int .i64 bj,.int .i64 bk,.int .i64 bn,.int .i64 bo,.int .i64 ab,.int .i64 bp,.slice bt bq.length bu]) (v:=.agg #[.int .i64 af,.int .i64 bj,.int .i64 bk,.int .i64 bn,.int .i64 bo,.int .i64 ab,.int .i64 bp,.slice bt bq.length bu]) kz (AtF.move ar ac.step nilM qaV).at_ fun dx bF=>?_)
  refine qaj (qaI ac bF (d:=6) (cs:=[.int .i64 0,.int .i64 0,.int .i64 0,.int .i64 0,.int .i64 0,.int .i64 0,.int .i64 0,.slice none 0 0]) kz fun dy dz dA cE cG aL aM bG=>?_)
  refine qai [4] [5] [(3,.p 0 0),(5,.v (.int .i64 ((k:Nat):Int))),(6,.p 1 0),(7,.v (.slice A l.length c)),(8,.v (.int .i64 ((l.length:Nat):Int))),(9,.v (.int .i64 ((k:Nat):Int))),(13,.v (.agg #[.int .i64 af,.int .i64 bj,.int .i64 bk,.int .i64 bn,.int .i64 bo,.int .i64 ab,.int .i64 bp,.slice bt bq.length bu]))] aM bG fun dB bH=>?_
  refine qaj (qaw aM bH (oi:=1) (cs:=[.int .i64 af,.int .i64 bj,.int .i64 bk,.int .i64 bn,.int .i64 bo,.int .i64 ab,.int .i64 bp,.slice bt bq.length bu]) kz fun dC aN bI bJ=>?_)
  refine qae (qab ?_)
  refine qaZ 15 kz bI fun dD aO ae aF=>?_
  refine qaM [0,1,2,3] [(3,.p 0 0),(5,.v (.int .i64 ((k:Nat):Int))),(6,.p 1 0),(7,.v (.slice A l.length c)),(8,.v (.int .i64 ((l.length:Nat):Int))),(9,.v (.int .i64 ((k:Nat):Int))),(17,.v (.bool (ab != 0)))] 11 (qaa (qad (qaa (qaa (qad (qaa qaf)))))) (fun _ h=>h.cells) aF bJ fun dE aP=>?_
  refine (Bool.eq_false_or_eq_true (ab != 0)).elim (fun ag=>?_) (fun ag=>?_)
  ·
   have cH:ab ≠ 0:=by simpa using ag
   have bK:=aP.cast (env':=[(3,.p 0 0),(5,.v (.int .i64 ((k:Nat):Int))),(6,.p 1 0),(7,.v (.slice A l.length c)),(8,.v (.int .i64 ((l.length:Nat):Int))),(9,.v (.int .i64 ((k:Nat):Int))),(17,.v (.bool true))]) (by rw [ag])
   refine qaM [4,5,8,9,10,11] [(3,.p 0 0),(7,.v (.slice A l.length c)),(8,.v (.int .i64 ((l.length:Nat):Int))),(9,.v (.int .i64 ((k:Nat):Int))),(17,.v (.bool true)),(18,.v (.agg #[.int .i64 n1,.slice A6 s2.length c7,.bool b3,.slice A8 l4.length c9,.slice aG u5.length aH])),(19,.v (.int .i64 ((k:Nat):Int))),(23,.v (.int .i64 af)),(25,.v (.int .i64 ab))] 5 (qaa (qad (qaa (qaa (qad (qaa qaf)))))) (fun _ h=>h.cells) aF bK fun dF bL=>?_
   refine qaJ (i:=6) kz (qal bL (f:=20) (vs:=[.agg #[.int .i64 n1,.slice A6 s2.length c7,.bool b3,.slice A8 l4.length c9,.slice aG u5.length aH],.int .i64 ((k:Nat):Int)]) (d:=20) kz Tryd.call20 (sAt _ _ k _ _ (ht.move ae.step nilM ae.imm)) ?_)
   rintro e_ cI ⟨bT,rfl,aQ,ah⟩
   have av:=aQ.move ah nilM (fun b o h_ hb_=>ae.laid (G:=F) ah b o (.inl h_) (Nat.lt_of_lt_of_le hb_ ah.size))
   obtain ⟨ai,cJ,cK,cL,cM,cN,cO,cP,cQ,cR,cS,bU,aR,aj,bM,bN,cT,cU⟩:=av.open_
   rw [aj] at av
   have bO:=bM.small
   have bP:=bN.small
   rw [aj]
   refine ⟨_,rfl,fun cV aS=>?_⟩
   have ak:=ae.next_nil ah
   have al:=ae.frN ah
   have hq_:=hD k _ aJ
   rw [aR] at hq_
   have aw:=TT.ofW al ak
   refine ⟨fun _=>aw,?_⟩
   refine qaM [7] [(3,.p 0 0),(7,.v (.slice A l.length c)),(8,.v (.int .i64 ((l.length:Nat):Int))),(9,.v (.int .i64 ((k:Nat):Int))),(17,.v (.bool true)),(21,.v (.int .i64 ai)),(23,.v (.int .i64 af)),(25,.v (.int .i64 ab))] 3 (qaa (qad (qaa (qaa (qad (qaa qaf)))))) (fun _ h=>h.cells) aw aS fun cW aT=>?_
   refine qaJ (i:=12) kz (qal aT (f:=21) (vs:=[.int .i64 af,.int .i64 ab]) (d:=26) kz Tryd.call21 (qjc af ab _) ?_)
   rintro e_ cX ⟨rfl,ax⟩
   refine ⟨_,rfl,fun cY aU=>?_⟩
   have aa:=ak.next_nil ax
   have ay:=ak.frN ax
   have az:=TT.ofW (al.trans ay) aa
   refine ⟨fun _=>az,?_⟩
   refine qaM [13,14] [(3,.p 0 0),(7,.v (.slice A l.length c)),(8,.v (.int .i64 ((l.length:Nat):Int))),(9,.v (.int .i64 ((k:Nat):Int))),(28,.v (.bool (ai != (qbx af ab))))] 0 (qaa (qad (qaa (qaa (qad (qaa qaf)))))) (fun _ h=>h.cells) az aU fun cZ am=>?_
   refine qaN kz ?_ _
   refine qab ?_
   refine qax am (b:=ai != (qbx af ab)) kz (fun ao=>?_) (fun ao=>?_)
   ·
    have bV:ai ≠ (qbx af ab):=by simpa using ao
    refine qao [(4,.v (.bool false))] aa am fun c5 aV=>?_
    refine wp_ret ?_
    refine qaE ?_
    refine qat ?_
    refine qat ?_
    refine qaE ?_
    refine qat ?_
    refine qaG aV aa.cells (v:=.bool false) kz ?_
    exact (qj3 hq_ ‹_› ‹_›).elim
   have bW:ai = (qbx af ab):=by simpa using ao
   refine wp_skip ?_
   refine qav ?_
   refine qab ?_
   refine qap [0,1] kz ?_
   refine qai [0,1] [] [(3,.p 0 0),(7,.v (.slice A l.length c)),(8,.v (.int .i64 ((l.length:Nat):Int))),(9,.v (.int .i64 (IntKind.i64.wrap (((k:Nat):Int) + 1))))] aa am fun c6 aW=>?_
   refine qae (qab ?_)
   obtain ⟨aA,aX,aY⟩:=aa.cutB aW 1 [⟨bw,0,[.int .i64 n1,.slice A6 s2.length c7,.bool b3,.slice A8 l4.length c9,.slice aG u5.length aH],true⟩] [(3,.p 0 0),(7,.v (.slice A l.length c)),(8,.v (.int .i64 ((l.length:Nat):Int))),(9,.v (.int .i64 (IntKind.i64.wrap (((k:Nat):Int) + 1))))]
   have aZ:IntKind.i64.wrap (((k:Nat):Int) + 1) = ((k + 1:Nat):Int):=qaO (by omega)
   rw [aZ] at aA
   exact ⟨l.length - (k + 1),by omega,k + 1,rfl,by omega,aA.pk,aX,((((((aI.trans aL).trans aN).trans aO).trans al).trans ay).trans aY)⟩
  have bX:ab = 0:=by simpa using ag
  have ba:=aP.cast (env':=[(3,.p 0 0),(5,.v (.int .i64 ((k:Nat):Int))),(6,.p 1 0),(7,.v (.slice A l.length c)),(8,.v (.int .i64 ((l.length:Nat):Int))),(9,.v (.int .i64 ((k:Nat):Int))),(17,.v (.bool false))]) (by rw [ag])
  refine qaM [4,5,6,7,8,9,10,11,12,13,14] [(3,.p 0 0),(7,.v (.slice A l.length c)),(8,.v (.int .i64 ((l.length:Nat):Int))),(9,.v (.int .i64 ((k:Nat):Int))),(28,.v (.bool false))] 0 (qaa (qad (qaa (qaa (qad (qaa qaf)))))) (fun _ h=>h.cells) aF ba fun da aB=>?_
  refine qaN kz ?_ _
  refine qab ?_
  refine qar aB (b:=false) kz rfl ?_
  refine wp_skip ?_
  refine qav ?_
  refine qab ?_
  refine qap [0,1] kz ?_
  refine qai [0,1] [] [(3,.p 0 0),(7,.v (.slice A l.length c)),(8,.v (.int .i64 ((l.length:Nat):Int))),(9,.v (.int .i64 (IntKind.i64.wrap (((k:Nat):Int) + 1))))] ae aB fun db bd=>?_
  refine qae (qab ?_)
  obtain ⟨aC,bf,bg⟩:=ae.cutB bd 1 [⟨bw,0,[.int .i64 n1,.slice A6 s2.length c7,.bool b3,.slice A8 l4.length c9,.slice aG u5.length aH],true⟩] [(3,.p 0 0),(7,.v (.slice A l.length c)),(8,.v (.int .i64 ((l.length:Nat):Int))),(9,.v (.int .i64 (IntKind.i64.wrap (((k:Nat):Int) + 1))))]
  have bh:IntKind.i64.wrap (((k:Nat):Int) + 1) = ((k + 1:Nat):Int):=qaO (by omega)
  rw [bh] at aC
  exact ⟨l.length - (k + 1),by omega,k + 1,rfl,by omega,aC.pk,bf,((((aI.trans aL).trans aN).trans aO).trans bg)⟩
 have bY:=of_decide_eq_false aE
 refine wp_exit ?_
 refine qau ?_
 refine qau ?_
 refine qaH ?_
 refine qab ?_
 refine qao [(4,.v (.bool true))] ac aD fun dc bi=>?_
 refine wp_ret ?_
 refine qaG bi ac.cells (v:=.bool true) kz ?_
 exact ⟨rfl,ac.step⟩
def qaY (D:DV):DV:=dvP D.m D.u [D.f 0,D.f 1,D.f 2,dvN (-1)]
theorem qcD {v:World} {F:Nat → Nat → Prop} {D:DV} (h:qaR v F D):qaR v F (qaY D):=by
 unfold qaR at h
 obtain ⟨g0,g1,g2,g3,t1,t2,t3,_⟩:=h
 exact ⟨g0,g1,g2,g3,t1,t2,t3,trivial⟩
theorem qcE (D:DV):DefP sApiVersionsRequestF (qa2 (qaY D)):=by
 intro i f hf
 match i,hf with
 | 0,hf =>
  obtain rfl:=Option.some.inj hf
  exact .inl rfl
 | 1,hf =>
  obtain rfl:=Option.some.inj hf
  exact .inl rfl
 | 2,hf =>
  obtain rfl:=Option.some.inj hf
  exact .inl rfl
 | 3,hf =>
  obtain rfl:=Option.some.inj hf
  exact .inr (show IntKind.i64.wrap (-1) = qbx 3 (-1) from by decide)
 | n_ + 4,hf=>exact absurd (List.getElem?_eq_some_iff.1 hf).1 (by show ¬ n_ + 4 < 4; omega)
set_option maxHeartbeats 4000000 in
theorem qc4 (v:Int) (T:Tree) {A2:Option Addr} {c2:Nat} {w:World} {F:Nat → Nat → Prop} (hs_:Octs w F A2 c2 (qah (IntKind.i16.wrap v) T)) (hc:qaX T) (hkey:T.ranged) (hroom:(qah (IntKind.i16.wrap v) T).length + 16 ≤ 1099511627776) :
  Calls Tryd.prog 8 #[.int .i64 v,.slice A2 (qah (IntKind.i16.wrap v) T).length c2] w (fun e w'=>∃ D cs,e = .returned (.tuple #[.agg cs.toArray,.bool true]) ∧ TreeR w' (Fp NoF w) cs (qa2 (qaY D)) ∧ Step w w' Nil):=by
 refine enter (n:=22) Tryd.func8 rfl Tryd.ntmps8 kz fun a hE=>?_
 have hW:=WOk.start w Nil
 have hsm2:=Slots.small hs_
 refine qac [0,1] kz ?_
 refine qaj (qaI hW hE (d:=4) (cs:=[.int .i64 0,.slice none 0 0,.bool false,.slice none 0 0,.slice none 0 0]) kz fun b1 a2 w3 hb4 hz5 hF6 hW7 hE8=>?_)
 refine qai [1] [] [(0,.v (.int .i64 v)),(1,.v (.slice A2 ((qah (IntKind.i16.wrap v) T).length) c2)),(4,.p 0 0)] hW7 hE8 fun a9 bj=>?_
 refine qae (qab ?_)
 refine qac [0,1] kz ?_
 refine qaj (qbl bj (f:=13) (vs:=[]) (d:=7) (n':=3) kz Tryd.call13 Tryd.func13 rfl Tryd.ntmps13 kz fun c6 bk=>?_)
 refine qao [] hW7 bk fun da bn=>?_
 refine qac [0] kz ?_
 refine qaj (qaI hW7 bn (d:=1) (cs:=[.int .i16 0,.string ByteArray.empty,.string ByteArray.empty,.pointer none,.int .i32 0,.map none]) kz fun ab db dc cD cE cG aK bo=>?_)
 refine qae (qab ?_)
 refine qac [0] kz ?_
 refine qaj (qbl bo (f:=17) (vs:=[.pointer (some ⟨ab,0,none⟩)]) (d:=2) (n':=5) kz Tryd.call17 Tryd.func17 rfl Tryd.ntmps17 kz fun de bp=>?_)
 have bq:=bp.recast 0 (.v (.pointer (some ⟨ab,0,none⟩))) (.p 1 0) rfl rfl (Nat.le_of_ble_eq_true (n:=2) rfl)
 refine qap [0,1,2,3] kz ?_
 refine qai [0,1,2] [3] [(4,.p 1 4)] aK bq fun dg bt=>?_
 refine qaj (qaw aK bt (oi:=1) (cs:=[.int .i16 0,.string ByteArray.empty,.string ByteArray.empty,.pointer none,.int .i32 (-1),.map none]) kz fun dh cH ac bu=>?_)
 refine qae ?_
 refine qbz bu ac.cells (v:=.tuple #[]) kz ?_
 refine ⟨_,rfl,fun di bw=>?_⟩
 have bx:EnvOk 3 [⟨b1,0,[.int .i64 0,.slice none 0 0,.bool false,.slice none 0 0,.slice none 0 0],true⟩,⟨ab,0,[.int .i16 0,.string ByteArray.empty,.string ByteArray.empty,.pointer none,.int .i32 (-1),.map none],true⟩] [(2,.v (.tuple #[])),(1,.p 1 0)] _:=bw.places (⟨rfl,rfl,⟨rfl,rfl,trivial⟩⟩)
 refine qae (qab ?_)
 refine qao [(0,.p 1 0)] ac bx fun dj bz=>?_
 refine wp_ret ?_
 refine qaG bz ac.cells (v:=.pointer (some ⟨ab,0,none⟩)) kz ?_
 refine ⟨_,rfl,fun dl bA=>?_⟩
 have bB:EnvOk 22 [⟨b1,0,[.int .i64 0,.slice none 0 0,.bool false,.slice none 0 0,.slice none 0 0],true⟩,⟨ab,0,[.int .i16 0,.string ByteArray.empty,.string ByteArray.empty,.pointer none,.int .i32 (-1),.map none],true⟩] [(7,.v (.pointer (some ⟨ab,0,none⟩))),(0,.v (.int .i64 v)),(1,.v (.slice A2 ((qah (IntKind.i16.wrap v) T).length) c2)),(4,.p 0 0)] _:=bA.places (⟨rfl,rfl,trivial⟩)
 have bC:=bB.recast 7 (.v (.pointer (some ⟨ab,0,none⟩))) (.p 1 0) rfl rfl (Nat.le_of_ble_eq_true (n:=2) rfl)
 have bD:=bC.pick (ks:=[0,1,4,7]) (env':=[(0,.v (.int .i64 v)),(1,.v (.slice A2 ((qah (IntKind.i16.wrap v) T).length) c2)),(4,.p 0 0),(7,.p 1 0)]) kz
 refine qai [1] [] [(0,.v (.int .i64 v)),(1,.v (.slice A2 ((qah (IntKind.i16.wrap v) T).length) c2)),(4,.p 0 0),(6,.p 1 0)] ac bD fun dp bE=>?_
 refine qae (qab ?_)
 refine qac [0,1,2,3] kz ?_
 refine qai [0,1,2] [3] [(1,.v (.slice A2 ((qah (IntKind.i16.wrap v) T).length) c2)),(4,.p 0 0),(6,.p 1 0),(8,.p 1 0),(10,.v (.int .i16 (IntKind.i16.wrap v)))] ac bE fun dq bF=>?_
 refine qaj (qbl bF (f:=15) (vs:=[.pointer (some ⟨ab,0,none⟩),.int .i16 (IntKind.i16.wrap v)]) (d:=11) (n':=8) kz Tryd.call15 Tryd.func15 rfl Tryd.ntmps15 kz fun dr bG=>?_)
 have bH:=bG.recast 0 (.v (.pointer (some ⟨ab,0,none⟩))) (.p 1 0) rfl rfl (Nat.le_of_ble_eq_true (n:=2) rfl)
 refine qap [0,1,2,3,4] kz ?_
 refine qai [0,1,2,3] [4] [(5,.v (.int .i16 (IntKind.i16.wrap v))),(7,.p 1 0)] ac bH fun dt bI=>?_
 refine qaj (qaw ac bI (oi:=1) (cs:=[.int .i16 (IntKind.i16.wrap v),.string ByteArray.empty,.string ByteArray.empty,.pointer none,.int .i32 (-1),.map none]) kz fun du cI ap bJ=>?_)
 refine qae ?_
 refine qbz bJ ap.cells (v:=.tuple #[]) kz ?_
 refine ⟨_,rfl,fun dv bK=>?_⟩
 have bL:EnvOk 22 [⟨b1,0,[.int .i64 0,.slice none 0 0,.bool false,.slice none 0 0,.slice none 0 0],true⟩,⟨ab,0,[.int .i16 (IntKind.i16.wrap v),.string ByteArray.empty,.string ByteArray.empty,.pointer none,.int .i32 (-1),.map none],true⟩] [(11,.v (.tuple #[])),(1,.v (.slice A2 ((qah (IntKind.i16.wrap v) T).length) c2)),(4,.p 0 0),(6,.p 1 0),(8,.p 1 0),(10,.v (.int .i16 (IntKind.i16.wrap v)))] _:=bK.places (⟨rfl,rfl,⟨rfl,rfl,trivial⟩⟩)
 refine qae (qab ?_)
 refine wp_seq ?_
 refine qac [0,1,2,3,4] kz ?_
 refine qai [0,1] [2,3,4] [(4,.p 0 0),(6,.p 1 0),(12,.p 1 0),(13,.v (.slice A2 ((qah (IntKind.i16.wrap v) T).length) c2))] ap bL fun dw bM=>?_
 have ai:=ap.addNil 5 1
 have cJ:=ap.frNil 5 1
 refine qaj (qaS ai bM (k:=0) (d:=14) (t:=22) (e:=5) (size:=1) (bytes:=1) (A:=none) (As:=A2) (m0:=0) (c:=0) (m:=((qah (IntKind.i16.wrap v) T).length)) (cs:=c2) (xs:=[]) (news:=bc (qah (IntKind.i16.wrap v) T)) kz kz rfl (hs_.move ai.step nilM ai.imm).src (hs_.move ai.step nilM ai.imm).cap (by first | omega | (simp only [List.length_nil]; omega) | (simp; omega)) fun ag ah dx dy cK bN bO=>?_)
 have bP:(⟨ag,ah,5,1,0 + (qah (IntKind.i16.wrap v) T).length,[] ++ bc (qah (IntKind.i16.wrap v) T)⟩:Rw) = brow ag ah 5 (qah (IntKind.i16.wrap v) T):=by rw [List.nil_append,Nat.zero_add]
 obtain ⟨ar,cL⟩:=bN.rowEq 0 [brow ag ah 5 (qah (IntKind.i16.wrap v) T)] bP
 have bQ:=EnvOk.pick bO (ks:=[4,6,12,13,14]) (env':=[(4,.p 0 0),(6,.p 1 0),(12,.p 1 0),(13,.v (.slice A2 ((qah (IntKind.i16.wrap v) T).length) c2)),(14,.v (.slice ag (0 + (qah (IntKind.i16.wrap v) T).length) ah))]) kz
 have bR:=bQ.cast (env':=[(4,.p 0 0),(6,.p 1 0),(12,.p 1 0),(13,.v (.slice A2 ((qah (IntKind.i16.wrap v) T).length) c2)),(14,.v (.slice ag ((qah (IntKind.i16.wrap v) T).length) ah))]) (by simp only [List.length_append,List.length_cons,List.length_nil,Nat.zero_add])
 refine qaj (qbl bR (f:=16) (vs:=[.pointer (some ⟨ab,0,none⟩),.slice ag ((qah (IntKind.i16.wrap v) T).length) ah]) (d:=15) (n':=8) kz Tryd.call16 Tryd.func16 rfl Tryd.ntmps16 kz fun dz bS=>?_)
 have bT:=bS.recast 0 (.v (.pointer (some ⟨ab,0,none⟩))) (.p 1 0) rfl rfl (Nat.le_of_ble_eq_true (n:=2) rfl)
 refine qao [(0,.p 1 0),(1,.v (.slice ag ((qah (IntKind.i16.wrap v) T).length) ah))] ar bT fun dA bU=>?_
 refine qac [0,1,2,3] kz ?_
 refine qai [0,1] [2,3] [(5,.p 1 0),(6,.v (.slice ag ((qah (IntKind.i16.wrap v) T).length) ah))] ar bU fun dB bV=>?_
 have bW:=ar.giveUp (G:=NoF) 0 [] (show _ = some (brow ag ah 5 (qah (IntKind.i16.wrap v) T)) from rfl) (by omega)
 obtain ⟨aL,cM⟩:=ar.cutR 0 []
 refine qaj (qal bV (f:=23) (vs:=[.pointer (some ⟨ab,0,none⟩),.slice ag ((qah (IntKind.i16.wrap v) T).length) ah,.bool false]) (d:=7) kz Tryd.call23 (qc2 (IntKind.i16.wrap v) T (Str.of aL 1 rfl) bW (qjB 1 rfl) hc hkey) ?_)
 rintro e_ dC ⟨aa,rfl,bX,bY,cN,aM⟩
 obtain ⟨af,cO,bZ⟩:=aL.wrote 1 [⟨b1,0,[.int .i64 0,.slice none 0 0,.bool false,.slice none 0 0,.slice none 0 0],true⟩,⟨ab,0,[.int .i16 (IntKind.i16.wrap v),.string ((aa.f 0).s),.string ((aa.f 1).s),.pointer ((aa.f 2).A),.int .i32 ((aa.f 3).n),.map aa.m],true⟩] rfl aM bX
 have b8:=qbP _ (Step.refl _ Nil) nilM bZ bY
 refine ⟨_,rfl,fun dD cd=>?_⟩
 have ce:=(EnvOk.places (tb':=[⟨b1,0,[.int .i64 0,.slice none 0 0,.bool false,.slice none 0 0,.slice none 0 0],true⟩,⟨ab,0,[.int .i16 (IntKind.i16.wrap v),.string ((aa.f 0).s),.string ((aa.f 1).s),.pointer ((aa.f 2).A),.int .i32 ((aa.f 3).n),.map aa.m],true⟩]) cd (show Pl [⟨b1,0,[.int .i64 0,.slice none 0 0,.bool false,.slice none 0 0,.slice none 0 0],true⟩,⟨ab,0,[.int .i16 (IntKind.i16.wrap v),.string ByteArray.empty,.string ByteArray.empty,.pointer none,.int .i32 (-1),.map none],true⟩] [⟨b1,0,[.int .i64 0,.slice none 0 0,.bool false,.slice none 0 0,.slice none 0 0],true⟩,⟨ab,0,[.int .i16 (IntKind.i16.wrap v),.string ((aa.f 0).s),.string ((aa.f 1).s),.pointer ((aa.f 2).A),.int .i32 ((aa.f 3).n),.map aa.m],true⟩] from ⟨rfl,rfl,⟨rfl,rfl,trivial⟩⟩)).pk (env':=[(7,.v (.nilIface)),(5,.p 1 0),(6,.v (.slice ag ((qah (IntKind.i16.wrap v) T).length) ah))])
 refine qai [3] [] [(4,.v (.nilIface))] af ce fun dE cg=>?_
 refine qae (qab ?_)
 refine wp_ret ?_
 refine qaG cg af.cells (v:=.nilIface) kz ?_
 refine ⟨_,rfl,fun dF aN=>?_⟩
 have aO:EnvOk 22 [⟨b1,0,[.int .i64 0,.slice none 0 0,.bool false,.slice none 0 0,.slice none 0 0],true⟩,⟨ab,0,[.int .i16 (IntKind.i16.wrap v),.string ((aa.f 0).s),.string ((aa.f 1).s),.pointer ((aa.f 2).A),.int .i32 ((aa.f 3).n),.map aa.m],true⟩] [(15,.v (.nilIface)),(4,.p 0 0),(6,.p 1 0),(12,.p 1 0),(13,.v (.slice A2 ((qah (IntKind.i16.wrap v) T).length) c2)),(14,.v (.slice ag ((qah (IntKind.i16.wrap v) T).length) ah))] _:=aN.places (⟨rfl,rfl,⟨rfl,rfl,trivial⟩⟩)
 refine qai [4] [] [(4,.p 0 0),(6,.p 1 0),(16,.v (.bool false))] af aO fun cP au=>?_
 refine qae (qab ?_)
 refine qar au (b:=false) kz rfl ?_
 refine wp_skip ?_
 refine qab ?_
 refine qac [0,1] kz ?_
 refine qai [0] [1] [(4,.p 0 0),(6,.p 1 0),(18,.p 1 0)] af au fun cQ aP=>?_
 refine qaj (qbl aP (f:=17) (vs:=[.pointer (some ⟨ab,0,none⟩)]) (d:=19) (n':=5) kz Tryd.call17 Tryd.func17 rfl Tryd.ntmps17 kz fun cR aQ=>?_)
 have aR:=aQ.recast 0 (.v (.pointer (some ⟨ab,0,none⟩))) (.p 1 0) rfl rfl (Nat.le_of_ble_eq_true (n:=2) rfl)
 refine qap [0,1,2,3] kz ?_
 refine qai [0,1,2] [3] [(4,.p 1 4)] af aR fun cS aS=>?_
 refine qaj (qaw af aS (oi:=1) (cs:=[.int .i16 (IntKind.i16.wrap v),.string ((aa.f 0).s),.string ((aa.f 1).s),.pointer ((aa.f 2).A),.int .i32 (-1),.map aa.m]) kz fun cT av ae aT=>?_)
 refine qae ?_
 refine qbz aT ae.cells (v:=.tuple #[]) kz ?_
 refine ⟨_,rfl,fun cU aU=>?_⟩
 have aV:EnvOk 22 [⟨b1,0,[.int .i64 0,.slice none 0 0,.bool false,.slice none 0 0,.slice none 0 0],true⟩,⟨ab,0,[.int .i16 (IntKind.i16.wrap v),.string ((aa.f 0).s),.string ((aa.f 1).s),.pointer ((aa.f 2).A),.int .i32 (-1),.map aa.m],true⟩] [(19,.v (.tuple #[])),(4,.p 0 0),(6,.p 1 0),(18,.p 1 0)] _:=aU.places (⟨rfl,rfl,⟨rfl,rfl,trivial⟩⟩)
 refine qae (qab ?_)
 refine qac [0,1,2,3] kz ?_
 refine qai [0] [1,2,3] [(4,.p 0 0),(20,.p 1 0)] ae aV fun cV aW=>?_
 have aX:=aW.recast 20 (.p 1 0) (.v (.pointer (some ⟨ab,0,none⟩))) rfl rfl trivial
 have aY:=aX.pk (env':=[(4,.p 0 0),(20,.v (.pointer (some ⟨ab,0,none⟩)))])
 have ay:=WOk.strOut (G:=NoF) [⟨b1,0,[.int .i64 0,.slice none 0 0,.bool false,.slice none 0 0,.slice none 0 0],true⟩] ae
 obtain ⟨aZ,aj,aw⟩:=ae.cutB aY 1 [⟨b1,0,[.int .i64 0,.slice none 0 0,.bool false,.slice none 0 0,.slice none 0 0],true⟩] [(4,.p 0 0),(20,.v (.pointer (some ⟨ab,0,none⟩)))]
 have ba:=qcD (qbP _ (av.trans aw).step immM (av.trans aw).to' b8)
 refine qaj (qal aZ (f:=18) (vs:=[.pointer (some ⟨ab,0,none⟩)]) (d:=21) kz Tryd.call18 (qc3 (IntKind.i16.wrap v) (qaY aa) ab 0 _ _ ay ba) ?_)
 rintro e_ cW ⟨cz,rfl,bd,ak⟩
 have al:=bd.move (Step.refl _ Nil) nilM (aj.laid (G:=NoF) ak)
 obtain ⟨az,aA,aB,aC,aD,aE,aF,aG,aH,aI,aJ,cA,cB,am,cm,cq,cX,cY⟩:=al.open_
 rw [am] at al
 have cr:=cm.small
 have cu:=cq.small
 rw [am]
 refine ⟨_,rfl,fun cZ bf=>?_⟩
 have bg:=aj.next_nil ak
 have cC:=aj.frN ak
 refine qaj (qaw bg bf (oi:=0) (cs:=[.int .i64 az,.slice aE aA.length aF,.bool aB,.slice aG aC.length aH,.slice aI aD.length aJ]) kz fun cw ax ao bh=>?_)
 refine qai [3] [] [(4,.p 0 0),(5,.v (.bool true))] ao bh fun c5 bi=>?_
 refine qae (qab ?_)
 refine wp_ret ?_
 refine qaG bi ao.cells (v:=.tuple #[.agg #[.int .i64 az,.slice aE aA.length aF,.bool aB,.slice aG aC.length aH,.slice aI aD.length aJ],.bool true]) kz ?_
 exact ⟨aa,_,rfl,(show TreeR _ (Imm NoF w cw [⟨b1,0,[.int .i64 az,.slice aE aA.length aF,.bool aB,.slice aG aC.length aH,.slice aI aD.length aJ],true⟩] []) _ (qa2 (qaY aa)) from (al.move ax.step immM ax.to')).move (Step.refl _ Nil) nilM qbH,ao.step⟩
theorem qcF (v:Int) (T:Tree) (B:Bs) {A2:Option Addr} {c2:Nat} {w:World} {F:Nat → Nat → Prop} (hB:qah (IntKind.i16.wrap v) T = B) (hs_:Octs w F A2 c2 B) (hc:qaX T) (hkey:T.ranged) (hroom:B.length + 16 ≤ 1099511627776) :
  Calls Tryd.prog 8 #[.int .i64 v,.slice A2 B.length c2] w (fun e w'=>∃ D cs,e = .returned (.tuple #[.agg cs.toArray,.bool true]) ∧ TreeR w' (Fp NoF w) cs (qa2 (qaY D)) ∧ Step w w' Nil):=by
 subst hB
 exact qc4 v T hs_ hc hkey hroom
theorem qdl (w:World):Calls Tryd.prog 5 #[] w (qbR w (.int .i64 5)):=by
 refine enter (n:=4) Tryd.func5 rfl Tryd.ntmps5 kz fun a hE=>?_
 have hW:=WOk.start w Nil
 refine qao [] hW hE fun a1 hE2=>?_
 refine qac [0,1,2,3] kz ?_
 refine qaj (qbl hE2 (f:=13) (vs:=[]) (d:=1) (n':=3) kz Tryd.call13 Tryd.func13 rfl Tryd.ntmps13 kz fun a3 hE4=>?_)
 refine qao [] hW hE4 fun a5 hE6=>?_
 refine qac [0] kz ?_
 refine qaj (qaI hW hE6 (d:=1) (cs:=[.int .i16 0,.string ByteArray.empty,.string ByteArray.empty,.pointer none,.int .i32 0,.map none]) kz fun b7 a8 w9 aA aB aC ab ac=>?_)
 refine qae (qab ?_)
 refine qac [0] kz ?_
 refine qaj (qbl ac (f:=17) (vs:=[.pointer (some ⟨b7,0,none⟩)]) (d:=2) (n':=5) kz Tryd.call17 Tryd.func17 rfl Tryd.ntmps17 kz fun aE ae=>?_)
 have af:=ae.recast 0 (.v (.pointer (some ⟨b7,0,none⟩))) (.p 0 0) rfl rfl (Nat.le_of_ble_eq_true (n:=1) rfl)
 refine qap [0,1,2,3] kz ?_
 refine qai [0,1,2] [3] [(4,.p 0 4)] ab af fun aF ag=>?_
 refine qaj (qaw ab ag (oi:=0) (cs:=[.int .i16 0,.string ByteArray.empty,.string ByteArray.empty,.pointer none,.int .i32 (-1),.map none]) kz fun aG aD aa ah=>?_)
 refine qae ?_
 refine qbz ah aa.cells (v:=.tuple #[]) kz ?_
 refine ⟨_,rfl,fun aH ai=>?_⟩
 have aj:EnvOk 3 [⟨b7,0,[.int .i16 0,.string ByteArray.empty,.string ByteArray.empty,.pointer none,.int .i32 (-1),.map none],true⟩] [(2,.v (.tuple #[])),(1,.p 0 0)] _:=ai.places (⟨rfl,rfl,trivial⟩)
 refine qae (qab ?_)
 refine qao [(0,.p 0 0)] aa aj fun aI ak=>?_
 refine wp_ret ?_
 refine qaG ak aa.cells (v:=.pointer (some ⟨b7,0,none⟩)) kz ?_
 refine ⟨_,rfl,fun aJ al=>?_⟩
 have am:EnvOk 4 [⟨b7,0,[.int .i16 0,.string ByteArray.empty,.string ByteArray.empty,.pointer none,.int .i32 (-1),.map none],true⟩] [(1,.v (.pointer (some ⟨b7,0,none⟩)))] _:=al.places (trivial)
 have ao:=am.recast 1 (.v (.pointer (some ⟨b7,0,none⟩))) (.p 0 0) rfl rfl (Nat.le_of_ble_eq_true (n:=1) rfl)
 have ap:=ao.pick (ks:=[1]) (env':=[(1,.p 0 0)]) kz
 refine qaj (qbl ap (f:=14) (vs:=[.pointer (some ⟨b7,0,none⟩)]) (d:=2) (n':=3) kz Tryd.call14 Tryd.func14 rfl Tryd.ntmps14 kz fun aK ar=>?_)
 have au:=ar.recast 0 (.v (.pointer (some ⟨b7,0,none⟩))) (.p 0 0) rfl rfl (Nat.le_of_ble_eq_true (n:=1) rfl)
 refine qao [] aa au fun aL av=>?_
 refine qao [(2,.v (.int .i16 5))] aa av fun aM aw=>?_
 refine wp_ret ?_
 refine qaG aw aa.cells (v:=.int .i16 5) kz ?_
 refine ⟨_,rfl,fun aN ax=>?_⟩
 have ay:EnvOk 4 [⟨b7,0,[.int .i16 0,.string ByteArray.empty,.string ByteArray.empty,.pointer none,.int .i32 (-1),.map none],true⟩] [(2,.v (.int .i16 5)),(1,.p 0 0)] _:=ax.places (⟨rfl,rfl,trivial⟩)
 refine qai [2,3] [] [(0,.v (.int .i64 5))] aa ay fun aO az=>?_
 refine qae (qab ?_)
 refine wp_ret ?_
 refine qaG az aa.cells (v:=.int .i64 5) kz ?_
 exact ⟨rfl,aa.step⟩
theorem qb6:depths sApiVersionsRequestF ≤ 8:=by simp [sApiVersionsRequestF,Fld.depth.depths,Fld.depth]
set_option maxHeartbeats 4000000 in
theorem qcG (x:Int) (hx:0 ≤ x) (hx':x < 256) (ct:List Value) (t:Tree) (w:World) (F:Nat → Nat → Prop) (ht:TreeR w F ct t) (hroom1:(qbX 8 sApiVersionsRequestF qaB (Int.tmod x (5 + 1)) t).length + 16 ≤ 1099511627776) (hcan:qaX (fitT (Int.tmod x (5 + 1)) 8 sApiVersionsRequestF t)) (hkey:Tree.ranged (fitT (Int.tmod x (5 + 1)) 8 sApiVersionsRequestF t)) (hpure:qah (IntKind.i16.wrap (Int.tmod x (5 + 1))) (fitT (Int.tmod x (5 + 1)) 8 sApiVersionsRequestF t) = qbX 8 sApiVersionsRequestF qaB (Int.tmod x (5 + 1)) t) :
  Calls Tryd.prog 3 #[.int .u8 x,.agg ct.toArray] w (qbR w (.bool true)):=by
 obtain ⟨n1,s2,b3,l4,u5,A6,c7,A8,c9,aU,aV,cX,rfl,rfl,cY,cZ,dJ,dK⟩:=ht.open_
 have cI:=cY.small
 have cJ:=cZ.small
 refine enter (n:=37) Tryd.func3 rfl Tryd.ntmps3 kz fun a hE=>?_
 have hW:=WOk.start w Nil
 refine qac [0,1] kz ?_
 refine qaj (qa9 hW hE (d:=3) (cs:=[.int .i64 n1,.slice A6 s2.length c7,.bool b3,.slice A8 l4.length c9,.slice aU u5.length aV]) kz fun c5 dL dM c6 da db am bD=>?_)
 refine qai [1] [] [(0,.v (.int .u8 x)),(3,.p 0 0)] am bD fun dN bE=>?_
 refine qae (qab ?_)
 refine wp_seq ?_
 refine qac [0,1,2] kz ?_
 refine qai [0] [1,2] [(0,.v (.int .u8 x)),(3,.p 0 0),(10,.v (.agg #[.int .i64 n1,.slice A6 s2.length c7,.bool b3,.slice A8 l4.length c9,.slice aU u5.length aV]))] am bE fun dO bF=>?_
 refine qaj (qal bF (f:=4) (vs:=[.agg #[.int .i64 n1,.slice A6 s2.length c7,.bool b3,.slice A8 l4.length c9,.slice aU u5.length aV]]) (d:=11) kz Tryd.call4 (qjI _ _ _ _ (ht.move am.step nilM am.imm)) ?_)
 rintro e_ dP ⟨cK,rfl,aY⟩
 refine ⟨_,rfl,fun dQ bG=>?_⟩
 have ao:=am.next_nil aY
 have dc:=am.frN aY
 refine qai [2] [] [(0,.v (.int .u8 x)),(3,.p 0 0),(12,.v (.bool (!cK)))] ao bG fun dR aR=>?_
 refine qae (qab ?_)
 refine qax aR (b:=!cK) kz (fun bH=>?_) (fun bH=>?_)
 ·
  refine qao [(4,.v (.bool true))] ao aR fun dS bI=>?_
  refine wp_ret ?_
  refine qat ?_
  refine qaG bI ao.cells (v:=.bool true) kz ?_
  exact ⟨rfl,ao.step⟩
 refine wp_skip ?_
 refine qab ?_
 refine qac [0,1] kz ?_
 refine qaj (qal aR (f:=5) (vs:=[]) (d:=13) kz Tryd.call5 (qdl _) ?_)
 rintro e_ de ⟨rfl,aZ⟩
 refine ⟨_,rfl,fun dT bJ=>?_⟩
 have ap:=ao.next_nil aZ
 have dg:=ao.frN aZ
 refine qai [1] [] [(0,.v (.int .u8 x)),(3,.p 0 0),(5,.v (.int .i64 5))] ap bJ fun dU bK=>?_
 refine qae (qab ?_)
 refine wp_seq ?_
 refine qao [(0,.v (.int .u8 x)),(3,.p 0 0),(5,.v (.int .i64 5)),(15,.v (.bool false))] ap bK fun dV ba=>?_
 refine qar ba (b:=false) kz rfl ?_
 refine wp_skip ?_
 refine qab ?_
 refine qac [0,1,2,3,4,5,6] kz ?_
 refine qaj (qal ba (f:=6) (vs:=[]) (d:=16) kz Tryd.call6 (qdk _ (Imm F w de [⟨c5,0,[.int .i64 n1,.slice A6 s2.length c7,.bool b3,.slice A8 l4.length c9,.slice aU u5.length aV],true⟩] [])) ?_)
 rintro e_ dW ⟨aW,aX,rfl,bL,aS⟩
 obtain ⟨bd,cL,cM⟩:=bL.move (Step.refl _ Nil) nilM (ap.laid (G:=F) aS)
 refine ⟨_,rfl,fun dX bM=>?_⟩
 have aT:=ap.next_nil aS
 have dh:=ap.frN aS
 refine qai [1,2] [3,4,5,6] [(3,.p 0 0),(16,.v (.agg #[.slice aW sApiVersionsRequestF.length aX,.int .i64 qaB])),(17,.v (.int .u8 x)),(18,.v (.int .i64 5))] aT bM fun dY bN=>?_
 refine qaj (qal bN (f:=7) (vs:=[.int .u8 x,.int .i64 5]) (d:=19) kz Tryd.call7 (qin x 5 hx hx' (by decide) (by decide) _) ?_)
 rintro e_ dZ ⟨rfl,bf⟩
 refine ⟨_,rfl,fun d5 bO=>?_⟩
 have bP:=aT.next_nil bf
 have af:=aT.frN bf
 refine qaj (qaI bP bO (d:=6) (cs:=[.slice none 0 0,.int .i64 0]) kz fun d6 d7 d8 di dj ag bQ bR=>?_)
 refine qaj (qaw bQ bR (oi:=1) (cs:=[.slice aW sApiVersionsRequestF.length aX,.int .i64 qaB]) kz fun d9 ah ar bS=>?_)
 refine qai [6] [] [(3,.p 0 0),(6,.p 1 0),(7,.v (.int .i64 (Int.tmod x (5 + 1))))] ar bS fun ea bT=>?_
 refine qae (qab ?_)
 refine qac [0,1,2,3,4,5,6,7,8,9,10,11] kz ?_
 refine qai [0,1,2,3] [4,5,6,7,8,9,10,11] [(6,.p 1 0),(21,.v (.int .i64 (Int.tmod x (5 + 1)))),(22,.v (.agg #[.slice aW sApiVersionsRequestF.length aX,.int .i64 qaB])),(23,.v (.int .i64 (Int.tmod x (5 + 1)))),(24,.v (.agg #[.int .i64 n1,.slice A6 s2.length c7,.bool b3,.slice A8 l4.length c9,.slice aU u5.length aV]))] ar bT fun eb bU=>?_
 refine qaj (qal bU (f:=9) (vs:=[.agg #[.slice aW sApiVersionsRequestF.length aX,.int .i64 qaB],.int .i64 (Int.tmod x (5 + 1)),.agg #[.int .i64 n1,.slice A6 s2.length c7,.bool b3,.slice A8 l4.length c9,.slice aU u5.length aV]]) (d:=25) kz Tryd.call9 (qjx _ _ sApiVersionsRequestF qaB (Int.tmod x (5 + 1)) _ (Tree.mk n1 s2 b3 l4 u5) _ _ ⟨bd,(cL.move ((af.trans ag).trans ah).step immM ((af.trans ag).trans ah).to'),(fun i_ x_ h_=>((cM i_ x_ h_).move ((af.trans ag).trans ah).step immM ((af.trans ag).trans ah).to'))⟩ qb6 (ht.move ar.step nilM ar.imm) (Nat.le_trans (Nat.le_add_right _ _) hroom1)) ?_)
 rintro e_ ec ⟨cN,cO,rfl,bV,bW⟩
 refine ⟨_,rfl,fun ee bX=>?_⟩
 obtain ⟨ai,aj⟩:=ar.frFresh bW (brow cN cO 5 (qbX 8 sApiVersionsRequestF qaB (Int.tmod x (5 + 1)) (Tree.mk n1 s2 b3 l4 u5))) (Nat.le_refl _) bV
 refine qaj (qal bX (f:=8) (vs:=[.int .i64 (Int.tmod x (5 + 1)),.slice cN ((qbX 8 sApiVersionsRequestF qaB (Int.tmod x (5 + 1)) (Tree.mk n1 s2 b3 l4 u5)).length) cO]) (d:=26) kz Tryd.call8 (qcF (Int.tmod x (5 + 1)) _ (qbX 8 sApiVersionsRequestF qaB (Int.tmod x (5 + 1)) (Tree.mk n1 s2 b3 l4 u5)) hpure (qds (ai.own 0 _ rfl) (by first | omega | (rw [qby]; decide) | (simp only [be_length]; exact Nat.le_trans (qbq _) (by decide)) | (have:=hroom; omega) | (have:=hmade; omega) | (simp only [List.length_append,List.length_nil]; omega)) (F:=fun _ _=>True) (fun _ _ _=>trivial)) hcan hkey (by first | omega | (have:=hroom1; omega))) ?_)
 rintro e_ dl ⟨bg,cP,rfl,bh,au⟩
 have av:=bh.move (Step.refl _ Nil) nilM (fun b_ o_ h_ hb_=>ai.laid (G:=F) au b_ o_ (.inr (h_.resolve_left id)) hb_)
 obtain ⟨aC,aD,aE,aF,aG,aH,aI,aJ,aK,aL,aM,cQ,cR,aw,bY,bZ,dp,dq⟩:=av.open_
 rw [aw] at av
 have b8:=bY.small
 have cd:=bZ.small
 rw [aw]
 refine ⟨_,rfl,fun dr bi=>?_⟩
 have aN:=ai.next_nil au
 have ak:=ai.frN au
 refine qai [6,7,8] [9,10,11] [(6,.p 1 0),(27,.v (.agg #[.int .i64 aC,.slice aH aD.length aI,.bool aE,.slice aJ aF.length aK,.slice aL aG.length aM])),(28,.v (.bool true))] aN bi fun dt bj=>?_
 refine qaj (qaI aN bj (d:=8) (cs:=[.int .i64 0,.slice none 0 0,.bool false,.slice none 0 0,.slice none 0 0]) kz fun du dv dw cS cT aa bk bn=>?_)
 refine qaj (qaw bk bn (oi:=2) (cs:=[.int .i64 aC,.slice aH aD.length aI,.bool aE,.slice aJ aF.length aK,.slice aL aG.length aM]) kz fun dx ab aO bo=>?_)
 refine qai [11] [] [(6,.p 1 0),(8,.p 2 0),(9,.v (.bool true))] aO bo fun dy bp=>?_
 refine qae (qab ?_)
 refine qaZ 8 kz aO fun dz ac ax bq=>?_
 refine qaM [0,1,2,3,4] [(30,.v (.bool true)),(32,.v (.slice aW sApiVersionsRequestF.length aX)),(33,.v (.agg #[.int .i64 aC,.slice aH aD.length aI,.bool aE,.slice aJ aF.length aK,.slice aL aG.length aM]))] 4 (qaa qaf) (fun _ h=>h.cells) bq bp fun dA bt=>?_
 refine qaJ (i:=5) kz (qal bt (f:=11) (vs:=[.agg #[.int .i64 aC,.slice aH aD.length aI,.bool aE,.slice aJ aF.length aK,.slice aL aG.length aM]]) (d:=34) kz Tryd.call11 (lGot _ _ _ _ _ (av.move ((aa.trans ab).trans ac).step immM ((aa.trans ab).trans ac).to') (Nat.le_refl _)) ?_)
 rintro e_ dB ⟨cU,rfl,bu,ay⟩
 have az:=bu.move (Step.refl _ Nil) nilM (ax.laid (G:=F) ay)
 obtain ⟨ce,cg,cm,cq,cr,cu,cw,cz,cA,cB,cC,cV,cW,aA,cD,cE,dC,dD⟩:=az.open_
 rw [aA] at az
 have cG:=cD.small
 have cH:=cE.small
 rw [aA]
 refine ⟨_,rfl,fun dE bw=>?_⟩
 have aB:=ax.next_nil ay
 have ae:=ax.frN ay
 have bx:=TT.ofW ae aB
 refine ⟨fun _=>bx,?_⟩
 refine qaJ (i:=6) kz (qal bw (f:=10) (vs:=[.slice aW sApiVersionsRequestF.length aX,.agg #[.int .i64 ce,.slice cu cg.length cw,.bool cm,.slice cz cq.length cA,.slice cB cr.length cC]]) (d:=35) kz Tryd.call10 (qhO _ _ sApiVersionsRequestF _ (qa2 (qaY bg)) _ _ ⟨bd,(cL.move ((((((((af.trans ag).trans ah).trans aj).trans ak).trans aa).trans ab).trans ac).trans ae).step immM ((((((((af.trans ag).trans ah).trans aj).trans ak).trans aa).trans ab).trans ac).trans ae).to'),(fun i_ x_ h_=>((cM i_ x_ h_).move ((((((((af.trans ag).trans ah).trans aj).trans ak).trans aa).trans ab).trans ac).trans ae).step immM ((((((((af.trans ag).trans ah).trans aj).trans ak).trans aa).trans ab).trans ac).trans ae).to'))⟩ az (qcE bg)) ?_)
 rintro e_ dF ⟨rfl,aP⟩
 refine ⟨_,rfl,fun dG bz=>?_⟩
 have al:=aB.next_nil aP
 have bA:=aB.frN aP
 have aQ:=TT.ofW (ae.trans bA) al
 refine ⟨fun _=>aQ,?_⟩
 refine qaM [7] [(36,.v (.bool true))] 1 (qaa qaf) (fun _ h=>h.cells) aQ bz fun dH bB=>?_
 refine qaJ (i:=8) kz (qbB [4] al.cells bB (env':=[(4,.v (.bool true))]) kz fun dI bC=>?_)
 refine ⟨fun h=>absurd rfl h,?_⟩
 refine qaN kz ?_ _
 refine qab ?_
 refine wp_ret ?_
 refine qaG bC al.cells (v:=.bool true) kz ?_
 exact ⟨rfl,al.step⟩
theorem qcl (x:Int) (hx:0 ≤ x ∧ x ≤ 255) (ct:List Value) (t:Tree) (w:World) (F:Nat → Nat → Prop) (ht:TreeR w F ct t) (hi:t.i64s) (hsz:t.size ≤ 8388608):Calls Tryd.prog 3 #[.int .u8 x,.agg ct.toArray] w (qbR w (.bool true)):=by
 obtain ⟨g0,g1⟩:=qjr (m:=5 + 1) hx.1 hx.2 (by decide) (by decide)
 have hp:qah (IntKind.i16.wrap (Int.tmod x (5 + 1))) (fitT (Int.tmod x (5 + 1)) 8 sApiVersionsRequestF t) = qbX 8 sApiVersionsRequestF qaB (Int.tmod x (5 + 1)) t:=by rw [qhi g0 g1]; exact qcp (Int.tmod x (5 + 1)) g0 g1 t
 have h1:=qhp 8 sApiVersionsRequestF qaB (Int.tmod x (5 + 1)) t
 have h2:qfE sApiVersionsRequestF ≤ 131000:=by decide +kernel
 have h3:=Nat.mul_le_mul h2 hsz
 exact qcG x hx.1 (by omega) ct t w F ht (by omega) (qcd (Int.tmod x (5 + 1)) t) (qgv _ _ _ _ ht.ranged) hp
end Go.Proofs.YtcbpjflgkefidaaDoor.ME