/- The texts of a claim, put together: the engine, the contracts, the law. Own work. -/
import Derived.Test.YtoclgihkbmaolabGreatDoorWf0P3
import Derived.Deep.LoopGhost
import Derived.LoopN
import Derived.Test.YtoclgihkbmaolabGreatDoorProg
namespace Go.Proofs.YtoclgihkbmaolabGreatDoor.ME
open Go
open Go.RowKit
set_option linter.unusedVariables false
set_option linter.unusedSimpArgs false
set_option maxRecDepth 20000
structure TR (w w':World) (br p2 p3:Nat) (F:Nat → Nat → Prop) (A:Option Addr) (n c:Nat) (s:Bs) (m:Option Nat) (u:List (Int × Bs)):Prop where
 step:Step w w' (RdM br)
 old:br < w.heap.size
 new2:w.heap.size ≤ p2
 new3:w.heap.size ≤ p3
 ne:p2 ≠ p3
 rd:Str w' br [.slice A n c,.bool false]
 s2:Str w' p2 [.map none]
 s3:Str w' p3 [.map m]
 oct:RdS w' (fun b o=>F b o ∧ b < w.heap.size) A n c s
 own:OwnM w' (fun b o=>F b o ∧ b < w.heap.size) m u
 new:∀ r,m = some r → w.heap.size ≤ r
theorem TR.mne {w w':World} {br p2 p3:Nat} {F:Nat → Nat → Prop} {A:Option Addr} {n c:Nat} {s:Bs} {m:Option Nat} {u:List (Int × Bs)} (h:TR w w' br p2 p3 F A n c s m u):m ≠ some p2 ∧ m ≠ some p3:=by
 refine ⟨fun e=>?_,fun e=>?_⟩
 ·obtain ⟨es,clk,h1,_⟩:=h.own.some_ p2 e
  exact qc3 (h.s2.at_ 0 _ rfl) h1 rfl
 obtain ⟨es,clk,h1,_⟩:=h.own.some_ p3 e
 exact qc3 (h.s3.at_ 0 _ rfl) h1 rfl
theorem TR.read {w w' w1:World} {br p2 p3:Nat} {F:Nat → Nat → Prop} {A A':Option Addr} {n c n' c':Nat} {s s':Bs} {m:Option Nat} {u:List (Int × Bs)} (h:TR w w' br p2 p3 F A n c s m u) (hFd:∀ b o,F b o → ¬ RdM br b o) (hs:Str w1 br [.slice A' n' c',.bool false]) (hr:RdS w1 (fun b o=>F b o ∧ b < w.heap.size) A' n' c' s') (hst:Step w' w1 (RdM br)):TR w w1 br p2 p3 F A' n' c' s' m u:=by
 have ho:=h.old
 have h2:=h.new2
 have h3:=h.new3
 refine ⟨h.step.trans hst fun _ _ _ e=>e,ho,h2,h3,h.ne,hs,h.s2.move hst fun o e=>?_,h.s3.move hst fun o e=>?_,hr,h.own.move hst (fun b o hg _=>hFd b o hg.1) qa7 (fun r o e he=>?_),h.new⟩
 ·have:=e.1; omega
 ·have:=e.1; omega
 have:=h.new r e; have:=he.1; omega
theorem TR.set {w w':World} {br p2 p3:Nat} {F:Nat → Nat → Prop} {A A1:Option Addr} {n c c1 j:Nat} {s x:Bs} {k:Int} {m:Option Nat} {u:List (Int × Bs)} (h:TR w w' br p2 p3 F A n c s m (u.take j)) (hsort:qdg u) (hj:u[j]? = some (k,x)) (hx:Octs w' (fun b o=>F b o ∧ b < w.heap.size) A1 c1 x) (hk:0 ≤ k ∧ k < 4294967296) :
  Calls Tryz.prog 59 [.pointer (some ⟨p3,0,none⟩),.int .u32 k,.slice A1 x.length c1].toArray w' (fun e w1=>e = .returned (.tuple #[]) ∧ ∃ r,TR w w1 br p2 p3 F A n c s (some r) (u.take (j + 1))):=by
 have hcell:w'.cell? ⟨p3,0,none⟩ = some (.map m):=h.s3.at_ 0 _ rfl
 have hfz:w'.frozen? ⟨p3,0,none⟩ = false:=h.s3.frz 0 (by simp)
 have hnew:=h.new
 have h2:=h.new2
 have h3:=h.new3
 have ho:=h.old
 have hsz:=h.step.size
 obtain ⟨m2,m3⟩:=h.mne
 refine (qgP hcell hfz h.own hx hk (fun b' o' hg=>⟨fun e=>?_,fun e=>?_⟩) (fun b' o' hg=>Nat.lt_of_lt_of_le hg.2 hsz)).mono ?_
 ·have:=hg.2; omega
 ·have:=hnew b' e; have:=hg.2; omega
 rintro e w1 ⟨rfl,r,g1,g2,g3,g4,g5⟩
 rw [qfW hsort hj] at g3
 refine ⟨rfl,r,h.step.trans g5 fun b o hl e=>?_,ho,h2,h3,h.ne,h.rd.move g5 fun o e=>?_,h.s2.move g5 fun o e=>?_,⟨fun i v hi=>?_,fun i hi=>?_⟩,⟨h.oct.len,Octs.move h.oct.oct g5 (fun b o hg _ e=>?_) qa7⟩,g3,fun r' hr'=>?_⟩
 ·rcases e with ⟨e1,_⟩ | e1
  ·omega
  have:=hnew b e1; omega
 ·rcases e with ⟨e1,_⟩ | e1
  ·omega
  have:=hnew br e1; omega
 ·rcases e with ⟨e1,_⟩ | e1
  ·exact h.ne e1
  exact m2 e1
 ·cases i with
  | zero =>
   simp only [List.getElem?_cons_zero,Option.some.injEq] at hi
   subst hi
   exact g1
  | succ i=>simp at hi
 ·have:i = 0:=by simp at hi; omega
  subst this
  exact g2
 ·have:=hg.2
  rcases e with ⟨e1,_⟩ | e1
  ·omega
  have:=hnew b e1; omega
 obtain rfl:=Option.some.inj hr'
 rcases g4 with g4 | g4
 ·exact hnew _ g4
 exact Nat.le_trans hsz g4
theorem qjs (x:Int × Bs) (u:List (Int × Bs)):qbp (x :: u) = tagR x.1 x.2 ++ qbp u:=by unfold qbp; rw [List.flatMap_cons]
theorem qfu {u:List (Int × Bs)} {j:Nat} {k:Int} {x:Bs} (h:u[j]? = some (k,x)) (rest:Bs):qbp (u.drop j) ++ rest = uv k.toNat ++ (uv x.length ++ (x ++ (qbp (u.drop (j + 1)) ++ rest))):=by
 obtain ⟨hlt,he⟩:=List.getElem?_eq_some_iff.1 h
 rw [List.drop_eq_getElem_cons hlt,he,qjs]
 simp only [tagR,List.append_assoc]
abbrev z17 (x0) (x1):=([.pointer (some ⟨x0,0,none⟩),.int .i64 ((x1:Nat):Int)]:List Value)
theorem qny (u:List (Int × Bs)) (rest:Bs) (hsort:qdg u) (hk:∀ x ∈ u,0 ≤ x.1 ∧ x.1 < 4294967296) (hul:u.length ≤ 1000000) (hxl:∀ x ∈ u,x.2.length < 4294967296) {br:Nat} {A:Option Addr} {m c:Nat} {w:World} {F:Nat → Nat → Prop} (hst:Str w br [.slice A m c,.bool false]) (hr:RdS w F A m c (uv u.length ++ (qbp u ++ rest))) (hFd:∀ b o,F b o → ¬ RdM br b o) :
  Calls Tryz.prog 57 #[.pointer (some ⟨br,0,none⟩)] w (RdPost w br (Fp F w) rest fun v w'=>∃ mm,v = .agg #[.map mm] ∧ MapR w' (Fp F w) mm u):=by
 have hbr:br < w.heap.size:=World.lt_of_cell (hst.at_ 0 _ rfl)
 refine enter (n:=24) (vs:=[.pointer (some ⟨br,0,none⟩)]) Tryz.func57 rfl Tryz.ntmps57 kz fun a hE=>?_
 have hW:=WOk.start w Nil
 refine qad [0] kz ?_
 refine qam (qbo hW hE (d:=2) (cs:=[.map none]) kz fun p2 a1 w1 hp2 hz2 hF1 hW1 hE1=>qae (qaa ?_))
 refine qad [0] kz ?_
 refine qam (qbo hW1 hE1 (d:=3) (cs:=[.map none]) kz fun p3 a2 w2 hp3 hz3 hF2 hW2 hE2=>qae (qaa ?_))
 have hne:p2 ≠ p3:=by
  have h1:=hW1.live 0 _ rfl
  simp only at h1
  omega
 have hS:Step w w2 Nil:=hW2.step
 have hT0:TR w w2 br p2 p3 F A m c (uv u.length ++ (qbp u ++ rest)) none (u.take 0):=by
  refine ⟨hS.mono fun _ _ _ h=>h.elim,hbr,hz2,hz3,hne,hst.move hS (fun _ h=>h),Str.of hW2 0 rfl,Str.of hW2 1 rfl,hr.move hS nilM (fun b o h hb=>⟨h,hb⟩),?_,fun _ h=>by cases h⟩
  rw [List.take_zero]
  exact OwnM.nil _ _
 refine wp_seq ?_
 have hE3:=(((hE2.recast 2 (.p 0 0) (.v (.pointer (some ⟨p2,0,none⟩))) rfl rfl trivial).recast 3 (.p 1 0) (.v (.pointer (some ⟨p3,0,none⟩))) rfl rfl trivial).pick (ks:=[0,2,3]) (env':=[(0,.v (.pointer (some ⟨br,0,none⟩))),(2,.v (.pointer (some ⟨p2,0,none⟩))),(3,.v (.pointer (some ⟨p3,0,none⟩)))]) kz).cutTb 0 kz
 have hWz:=WOk.start w2 Nil
 refine qad [0,1,2] kz ?_
 refine qaj [0] [1,2] [(0,.v (.pointer (some ⟨br,0,none⟩))),(2,.v (.pointer (some ⟨p2,0,none⟩))),(3,.v (.pointer (some ⟨p3,0,none⟩))),(7,.v (.pointer (some ⟨br,0,none⟩)))] hWz hE3 fun a3 hE4=>?_
 have hFd':∀ b o,(F b o ∧ b < w.heap.size) → ¬ RdM br b o:=fun b o h=>hFd b o h.1
 refine qam (qal hE4 (f:=58) (vs:=[.pointer (some ⟨br,0,none⟩)]) (d:=8) kz Tryz.call58 (qcA u.length (by omega) (qbp u ++ rest) hT0.rd hT0.oct hFd') ?_)
 rintro e_ w3 ⟨_,A3,n3,c3,rfl,hs3,hr3,hst3,rfl⟩
 have hT1:=hT0.read hFd hs3 hr3 hst3
 refine ⟨_,rfl,fun a4 hE5=>?_⟩
 refine qaj [2] [] [(0,.v (.pointer (some ⟨br,0,none⟩))),(2,.v (.pointer (some ⟨p2,0,none⟩))),(3,.v (.pointer (some ⟨p3,0,none⟩))),(4,.v (.int .u32 ((u.length:Nat):Int)))] (WOk.start w3 Nil) hE5 fun a5 hE6=>qae (qaa ?_)
 refine wp_block ?_
 refine wp_loop_ghost (fun q a_ w_=>∃ (j:Nat) (m_:Option Nat) (A_:Option Addr) (n_ c_:Nat),q = u.length - j ∧ j ≤ u.length ∧ EnvOk 24 [] [(0,.v (.pointer (some ⟨br,0,none⟩))),(2,.v (.pointer (some ⟨p2,0,none⟩))),(3,.v (.pointer (some ⟨p3,0,none⟩))),(4,.v (.int .u32 ((u.length - j:Nat):Int)))] a_ ∧ TR w w_ br p2 p3 F A_ n_ c_ (qbp (u.drop j) ++ rest) m_ (u.take j)) u.length
  ⟨0,none,A3,n3,c3,by omega,by omega,hE6,hT1⟩ ?_
 rintro q aq wq ⟨j,m_,A_,n_,c_,rfl,hj,hEq,hT⟩
 have hWq:=WOk.start wq Nil
 refine wp_seq (qat [(0,.v (.pointer (some ⟨br,0,none⟩))),(2,.v (.pointer (some ⟨p2,0,none⟩))),(3,.v (.pointer (some ⟨p3,0,none⟩))),(4,.v (.int .u32 ((u.length - j:Nat):Int))),(10,.v (.bool (decide (((u.length - j:Nat):Int) > 0))))] hWq hEq fun aq1 hE7=>?_)
 refine qaA hE7 (b:=decide (((u.length - j:Nat):Int) > 0)) kz (fun hc=>?_) (fun hc=>?_)
 ·have hlt:j < u.length:=by have:=of_decide_eq_true hc; omega
  obtain ⟨⟨k,x⟩,hu⟩:∃ y,u[j]? = some y:=⟨_,List.getElem?_eq_getElem hlt⟩
  have hk':=hk (k,x) (List.mem_of_getElem? hu)
  have hx':=hxl (k,x) (List.mem_of_getElem? hu)
  dsimp only at hk' hx'
  have hoct:=hT.oct
  rw [qfu hu rest] at hoct
  refine wp_skip (qaa (wp_seq (wp_block ?_)))
  refine qad [0,1,2,3,4,5] kz ?_
  refine qaj [0] [1,2,3,4,5] [(0,.v (.pointer (some ⟨br,0,none⟩))),(2,.v (.pointer (some ⟨p2,0,none⟩))),(3,.v (.pointer (some ⟨p3,0,none⟩))),(4,.v (.int .u32 ((u.length - j:Nat):Int))),(13,.v (.pointer (some ⟨br,0,none⟩)))] hWq hE7 fun aq2 hE8=>?_
  refine qam (qal hE8 (f:=58) (vs:=[.pointer (some ⟨br,0,none⟩)]) (d:=14) kz Tryz.call58 (qcA k.toNat (by omega) _ hT.rd hoct hFd') ?_)
  rintro e_ wa ⟨_,Aa,na,ca,rfl,hsa,hra,hsta,rfl⟩
  have hTa:=hT.read hFd hsa hra hsta
  refine ⟨_,rfl,fun aq3 hE9=>?_⟩
  refine qaj [2] [3,4,5] [(0,.v (.pointer (some ⟨br,0,none⟩))),(2,.v (.pointer (some ⟨p2,0,none⟩))),(3,.v (.pointer (some ⟨p3,0,none⟩))),(4,.v (.int .u32 ((u.length - j:Nat):Int))),(14,.v (.int .u32 ((k.toNat:Nat):Int))),(15,.v (.pointer (some ⟨br,0,none⟩)))] (WOk.start wa Nil) hE9 fun aq4 hE10=>?_
  refine qam (qal hE10 (f:=58) (vs:=[.pointer (some ⟨br,0,none⟩)]) (d:=16) kz Tryz.call58 (qcA x.length hx' _ hTa.rd hTa.oct hFd') ?_)
  rintro e_ wb ⟨_,Ab,nb,cb,rfl,hsb,hrb,hstb,rfl⟩
  have hTb:=hTa.read hFd hsb hrb hstb
  refine ⟨_,rfl,fun aq5 hE11=>?_⟩
  refine qaj [4,5] [] [(0,.v (.pointer (some ⟨br,0,none⟩))),(2,.v (.pointer (some ⟨p2,0,none⟩))),(3,.v (.pointer (some ⟨p3,0,none⟩))),(4,.v (.int .u32 ((u.length - j:Nat):Int))),(5,.v (.int .u32 ((k.toNat:Nat):Int))),(6,.v (.int .u32 ((x.length:Nat):Int)))] (WOk.start wb Nil) hE11 fun aq6 hE12=>qae (qaa ?_)
  refine qaq [0,1,2,3,4,5] kz ?_
  refine qaj [0,1,2,3] [4,5] [(0,.v (.pointer (some ⟨br,0,none⟩))),(2,.v (.pointer (some ⟨p2,0,none⟩))),(3,.v (.pointer (some ⟨p3,0,none⟩))),(4,.v (.int .u32 ((u.length - j:Nat):Int))),(17,.v (.int .u32 ((k.toNat:Nat):Int))),(18,.v (.pointer (some ⟨br,0,none⟩))),(20,.v (.int .i64 (IntKind.i64.wrap ((x.length:Nat):Int))))] (WOk.start wb Nil) hE12 fun aq7 hE13=>?_
  rw [show IntKind.i64.wrap ((x.length:Nat):Int) = ((x.length:Nat):Int) by rw [i64w]; omega,show ((k.toNat:Nat):Int) = k by omega] at hE13
  refine qam (qal hE13 (f:=60) (vs:=(z17 br x.length)) (d:=21) kz Tryz.call60 (qha x _ hTb.rd hTb.oct hFd') ?_)
  rintro e_ wc ⟨_,Ac,nc,cc,rfl,hsc,hrc,hstc,Ax,rfl,hox⟩
  have hTc:=hTb.read hFd hsc hrc hstc
  refine ⟨_,rfl,fun aq8 hE14=>?_⟩
  refine qam (qal hE14 (f:=59) (vs:=[.pointer (some ⟨p3,0,none⟩),.int .u32 k,.slice Ax x.length x.length]) (d:=22) kz Tryz.call59 (hTc.set hsort hu hox hk') ?_)
  rintro e_ wd ⟨rfl,r,hTd⟩
  refine ⟨_,rfl,fun aq9 hE15=>qae (qaw (qaa ?_))⟩
  refine qaq [0,1,2] kz (qaj [0,1,2] [] [(0,.v (.pointer (some ⟨br,0,none⟩))),(2,.v (.pointer (some ⟨p2,0,none⟩))),(3,.v (.pointer (some ⟨p3,0,none⟩))),(4,.v (.int .u32 (IntKind.u32.wrap (((u.length - j:Nat):Int) - 1))))] (WOk.start wd Nil) hE15 fun aqa hE16=>qae (qaa ?_))
  rw [show IntKind.u32.wrap (((u.length - j:Nat):Int) - 1) = ((u.length - (j + 1):Nat):Int) by rw [qap]; omega] at hE16
  exact ⟨u.length - (j + 1),by omega,j + 1,some r,Ac,nc,cc,rfl,by omega,hE16,hTd⟩
 obtain rfl:j = u.length:=by have:=of_decide_eq_false hc; omega
 refine wp_exit (qay (qay (qaQ (qaa ?_))))
 rw [List.take_length,List.drop_length] at hT
 have hT':TR w wq br p2 p3 F A_ n_ c_ rest m_ u:=hT
 have h2:=hT'.new2
 have h3:=hT'.new3
 have hW9:WOk w (RdM br) wq ([] ++ [⟨p3,0,[.map m_],true⟩] ++ [⟨p2,0,[.map none],true⟩]) []:=by
  have hb:WOk w (RdM br) wq [] []:=⟨hT'.step,fun i o hi=>by simp at hi,fun i o hi=>by simp at hi,fun i o hi=>by simp at hi,fun i j o o' _ hi=>by simp at hi,fun i r hi=>by simp at hi,fun i r hi=>by simp at hi,fun i r hi=>by simp at hi,fun i j r r' _ hi=>by simp at hi⟩
  have h4:=hb.add ⟨p3,0,[.map m_],true⟩ (World.lt_of_cell (hT'.s3.at_ 0 _ rfl)) (fun j v hj=>by rw [Nat.zero_add]; exact hT'.s3.at_ j v hj) (fun _ j hj=>⟨.inl h3,by rw [Nat.zero_add]; exact hT'.s3.frz j hj⟩) (fun i o hi=>by simp at hi) (fun i r hi=>by simp at hi)
  refine h4.add ⟨p2,0,[.map none],true⟩ (World.lt_of_cell (hT'.s2.at_ 0 _ rfl)) (fun j v hj=>by rw [Nat.zero_add]; exact hT'.s2.at_ j v hj) (fun _ j hj=>⟨.inl h2,by rw [Nat.zero_add]; exact hT'.s2.frz j hj⟩) (fun i o hi _=>.inl ?_) (fun i r hi=>by simp at hi)
  have:o = ⟨p3,0,[.map m_],true⟩:=by
   have hm:=List.mem_of_getElem? hi
   simpa using hm
  rw [this]
  exact fun e=>hT'.ne e.symm
 have hE17:=(((hE7.retable [⟨p3,0,[.map m_],true⟩,⟨p2,0,[.map none],true⟩]).recast 3 (.v (.pointer (some ⟨p3,0,none⟩))) (.p 0 0) rfl rfl (Nat.le_of_ble_eq_true (n:=1) rfl)).recast 2 (.v (.pointer (some ⟨p2,0,none⟩))) (.p 1 0) rfl rfl (Nat.le_of_ble_eq_true (n:=2) rfl))
 have hE18:EnvOk 24 [⟨p3,0,[.map m_],true⟩,⟨p2,0,[.map none],true⟩] [(2,.p 1 0),(3,.p 0 0)] _:=hE17.pk
 refine qad [0,1] kz ?_
 refine qaj [0] [1] [(2,.p 1 0),(23,.v (.agg #[.map m_]))] hW9 hE18 fun aqb hE19=>?_
 refine qam (qaK hW9 hE19 (oi:=1) (cs:=[.map m_]) kz fun wz hFz hWz hEz=>qae (qaa (wp_ret ?_)))
 have hsz:=hT'.step.size
 have hstz:Step wq wz (fun b o=>b = p2 ∨ b = p3):=hFz.step.mono fun b o _ ha=>by
  rcases ha with ⟨i,ob,hi,_,rfl,_⟩ | ⟨i,r,hi,_⟩
  ·have hm:=List.mem_of_getElem? hi
   simp only [List.nil_append,List.cons_append,List.mem_cons,List.not_mem_nil,or_false] at hm
   rcases hm with rfl | rfl
   ·exact .inr rfl
   exact .inl rfl
  simp at hi
 obtain ⟨m2,m3⟩:=hT'.mne
 refine qaD hEz hWz.cells (v:=.agg #[.map m_]) kz ⟨_,A_,n_,c_,rfl,hT'.rd.move hstz (fun o e=>?_),hT'.oct.move hstz (fun b o hg _ e=>?_) (fun b o hg _=>.inl hg.1),hWz.step,m_,rfl,?_⟩
 ·have:=hT'.old; rcases e with e | e <;> omega
 ·have:=hg.2; rcases e with e | e <;> omega
 refine (hT'.own.move hstz (fun b o hg _ e=>?_) qa7 (fun r o e he=>?_)).map (fun b o h=>.inl h.1) (fun r o e=>.inr (hT'.new r e)) hsort hk
 ·have:=hg.2; rcases e with e | e <;> omega
 rcases he with he | he
 ·exact m2 (by rw [e,he])
 exact m3 (by rw [e,he])
theorem qna (x:Int) (rest:Bs)  {br:Nat} {A:Option Addr} {m c:Nat} {w:World} {F:Nat → Nat → Prop} (hst:Str w br [.slice A m c,.bool false]) (hr:RdS w F A m c ((be 8 x) ++ rest)) (hFd:∀ b o,F b o → ¬ RdM br b o) :
  Calls Tryz.prog 56 #[.pointer (some ⟨br,0,none⟩)] w (RdPost w br (Fp F w) rest fun v w'=>v = .int .i64 (IntKind.i64.wrap x)):=by
 refine enter (n:=6) Tryz.func56 rfl Tryz.ntmps56 kz fun a hE=>?_
 have hW:WOk w (RdM br) w (z5 br A m c) []:=WOk.startStr hst
 have hE1:=(hE.grow ⟨br,0,[.slice A m c,.bool false],true⟩).recast 0 (.v (.pointer (some ⟨br,0,none⟩))) (.p 0 0) rfl rfl (Nat.le_of_ble_eq_true (n:=1) rfl)
 refine qat [(0,.p 0 0)] hW hE1 fun a1 hE2=>?_
 refine qad [0,1,2,3] kz ?_
 refine qaj [0] [1,2,3] [(3,.p 0 0)] hW hE2 fun a3 hE4=>?_
 refine qam (qal hE4 (f:=73) (vs:=[.pointer (some ⟨br,0,none⟩)]) (d:=4) kz Tryz.call73 (qmq x (rest) (Str.of hW 0 rfl) (hr.move hW.step (fun b_ o_ h_ _=>hFd b_ o_ h_) (hW.immM hFd)) (qdb 0 rfl)) ?_)
 rintro e_ w5 ⟨_,A6,n7,c8,rfl,hs9,ac,ab,rfl⟩
 obtain ⟨aa,ae,aj⟩:=hW.wrote 0 (z5 br A6 n7 c8) rfl ab hs9
 have af:=ac.move (Step.refl _ Nil) nilM (fun b_ o_ h_ _=>ae.to b_ o_ h_)
 refine ⟨_,rfl,fun ak ag=>?_⟩
 have ah:EnvOk 6 (z5 br A6 n7 c8) [(4,.v (.int .u64 (IntKind.u64.wrap x))),(3,.p 0 0)] _:=ag.places (⟨rfl,rfl,trivial⟩)
 refine qaj [2,3] [] [(2,.v (.int .i64 (IntKind.i64.wrap (IntKind.u64.wrap x))))] aa ah fun al ai=>?_
 refine qae (qaa ?_)
 refine wp_ret (qaD ai aa.cells (v:=.int .i64 (IntKind.i64.wrap (IntKind.u64.wrap x))) kz ?_)
 refine ⟨_,_,_,_,rfl,Str.of aa 0 rfl,(af.move (Step.refl _ Nil) nilM qeE),aa.step,by rw [qmf]⟩
theorem qmr (X:Bs) (hX:X.length ≤ 32767) (rest:Bs)  {br:Nat} {A:Option Addr} {m c:Nat} {w:World} {F:Nat → Nat → Prop} (hst:Str w br [.slice A m c,.bool false]) (hr:RdS w F A m c ((be 2 ((X.length:Nat):Int)) ++ (X ++ rest))) (hFd:∀ b o,F b o → ¬ RdM br b o) :
  Calls Tryz.prog 53 #[.pointer (some ⟨br,0,none⟩)] w (RdPost w br (Fp F w) rest fun v w'=>v = .string (bs X)):=by
 refine enter (n:=11) Tryz.func53 rfl Tryz.ntmps53 kz fun a hE=>?_
 have hW:WOk w (RdM br) w (z5 br A m c) []:=WOk.startStr hst
 have hE1:=(hE.grow ⟨br,0,[.slice A m c,.bool false],true⟩).recast 0 (.v (.pointer (some ⟨br,0,none⟩))) (.p 0 0) rfl rfl (Nat.le_of_ble_eq_true (n:=1) rfl)
 refine qat [(0,.p 0 0)] hW hE1 fun a1 hE2=>?_
 refine qad [0,1,2] kz ?_
 refine qaj [0] [1,2] [(0,.p 0 0),(4,.p 0 0)] hW hE2 fun a3 hE4=>?_
 refine qam (qal hE4 (f:=72) (vs:=[.pointer (some ⟨br,0,none⟩)]) (d:=5) kz Tryz.call72 (qm9 ((X.length:Nat):Int) (X ++ rest) (Str.of hW 0 rfl) (hr.move hW.step (fun b_ o_ h_ _=>hFd b_ o_ h_) (hW.immM hFd)) (qdb 0 rfl)) ?_)
 rintro e_ w5 ⟨_,A6,n7,c8,rfl,hs9,aj,ag,rfl⟩
 let ae:Ob:=⟨br,0,[.slice A6 n7 c8,.bool false],true⟩
 obtain ⟨ab,ak,aG⟩:=hW.wrote 0 [ae] rfl ag hs9
 have al:=aj.move (Step.refl _ Nil) nilM (fun b_ o_ h_ _=>ak.to b_ o_ h_)
 refine ⟨_,rfl,fun aM am=>?_⟩
 have ao:EnvOk 11 [ae] [(5,.v (.int .i16 (IntKind.i16.wrap ((X.length:Nat):Int)))),(0,.p 0 0),(4,.p 0 0)] _:=am.places (⟨rfl,rfl,trivial⟩)
 refine qaj [2] [] [(0,.p 0 0),(3,.v (.int .i16 (IntKind.i16.wrap ((X.length:Nat):Int))))] ab ao fun aN ap=>?_
 refine qae (qaa ?_)
 refine qad [0,1,2,3,4,5] kz ?_
 refine qaj [0,1,2] [3,4,5] [(6,.p 0 0),(8,.v (.int .i64 (IntKind.i64.wrap (IntKind.i16.wrap ((X.length:Nat):Int)))))] ab ap fun aO ar=>?_
 have au:IntKind.i64.wrap (IntKind.i16.wrap ((X.length:Nat):Int)) = ((X.length:Nat):Int):=by simp only [i16w,i32w,i64w]; omega
 have av:=EnvOk.pick ar (ks:=[6,8]) (env':=[(6,.p 0 0),(8,.v (.int .i64 (IntKind.i64.wrap (IntKind.i16.wrap ((X.length:Nat):Int)))))]) kz
 let aa:Nat × SV:=(8,.v (.int .i64 ((X.length:Nat):Int)))
 have aw:=av.cast (env':=[(6,.p 0 0),aa]) (by simp only [aa,au]; try rfl)
 refine qam (qal aw (f:=60) (vs:=(z17 br X.length)) (d:=9) kz Tryz.call60 (qha X (rest) (Str.of ab 0 rfl) al (qdb 0 rfl)) ?_)
 rintro e_ aP ⟨_,aH,aI,aJ,rfl,ax,ay,ah,⟨aK,rfl,az⟩⟩
 let af:Ob:=⟨br,0,[.slice aH aI aJ,.bool false],true⟩
 obtain ⟨ac,ai,aL⟩:=ab.wrote 0 [af] rfl ah ax
 have aA:=ay.move (Step.refl _ Nil) nilM (fun b_ o_ h_ _=>ai.to b_ o_ h_)
 refine ⟨_,rfl,fun aQ aB=>?_⟩
 have aC:EnvOk 11 [af] [(9,.v (.slice aK X.length X.length)),(6,.p 0 0),aa] _:=aB.places (⟨rfl,rfl,trivial⟩)
 have aD:=az.move (Step.refl _ Nil) nilM (fun b_ o_ h_ _=>ai.to b_ o_ h_)
 refine qam (qf4 aC (src:=24) (dst:=9) (e:=5) (d:=10) kz kz kz kz aD fun aR aE=>?_)
 refine qaj [5] [] [(2,.v (.string (bs X)))] ac aE fun aS aF=>?_
 refine qae (qaa ?_)
 refine wp_ret (qaD aF ac.cells (v:=.string (bs X)) kz ?_)
 refine ⟨_,_,_,_,rfl,Str.of ac 0 rfl,(aA.move (Step.refl _ Nil) nilM qeE),ac.step,rfl⟩
theorem qgd (X:Bs) (hX:X.length ≤ 1000000) (rest:Bs)  {br:Nat} {A:Option Addr} {m c:Nat} {w:World} {F:Nat → Nat → Prop} (hst:Str w br [.slice A m c,.bool false]) (hr:RdS w F A m c ((uv (X.length + 1)) ++ (X ++ rest))) (hFd:∀ b o,F b o → ¬ RdM br b o) :
  Calls Tryz.prog 52 #[.pointer (some ⟨br,0,none⟩)] w (RdPost w br (Fp F w) rest fun v w'=>v = .string (bs X)):=by
 refine enter (n:=12) Tryz.func52 rfl Tryz.ntmps52 kz fun a hE=>?_
 have hW:WOk w (RdM br) w (z5 br A m c) []:=WOk.startStr hst
 have hE1:=(hE.grow ⟨br,0,[.slice A m c,.bool false],true⟩).recast 0 (.v (.pointer (some ⟨br,0,none⟩))) (.p 0 0) rfl rfl (Nat.le_of_ble_eq_true (n:=1) rfl)
 refine qat [(0,.p 0 0)] hW hE1 fun a1 hE2=>?_
 refine qad [0,1,2,3,4] kz ?_
 refine qaj [0] [1,2,3,4] [(0,.p 0 0),(4,.p 0 0)] hW hE2 fun a3 hE4=>?_
 refine qam (qal hE4 (f:=58) (vs:=[.pointer (some ⟨br,0,none⟩)]) (d:=5) kz Tryz.call58 (qcA (X.length + 1) (by omega) (X ++ rest) (Str.of hW 0 rfl) (hr.move hW.step (fun b_ o_ h_ _=>hFd b_ o_ h_) (hW.immM hFd)) (qdb 0 rfl)) ?_)
 rintro e_ w5 ⟨_,A6,n7,c8,rfl,hs9,aj,ag,rfl⟩
 let ae:Ob:=⟨br,0,[.slice A6 n7 c8,.bool false],true⟩
 obtain ⟨ab,ak,aG⟩:=hW.wrote 0 [ae] rfl ag hs9
 have al:=aj.move (Step.refl _ Nil) nilM (fun b_ o_ h_ _=>ak.to b_ o_ h_)
 refine ⟨_,rfl,fun aM am=>?_⟩
 have ao:EnvOk 12 [ae] [(5,.v (.int .u32 ((X.length + 1:Nat):Int))),(0,.p 0 0),(4,.p 0 0)] _:=am.places (⟨rfl,rfl,trivial⟩)
 refine qaj [2,3,4] [] [(0,.p 0 0),(3,.v (.int .i64 (IntKind.i64.wrap ((IntKind.i64.wrap ((X.length + 1:Nat):Int)) - 1))))] ab ao fun aN ap=>?_
 refine qae (qaa ?_)
 refine qad [0,1,2,3,4] kz ?_
 refine qaj [0,1] [2,3,4] [(8,.p 0 0),(9,.v (.int .i64 (IntKind.i64.wrap ((IntKind.i64.wrap ((X.length + 1:Nat):Int)) - 1))))] ab ap fun aO ar=>?_
 have au:IntKind.i64.wrap ((IntKind.i64.wrap ((X.length + 1:Nat):Int)) - 1) = ((X.length:Nat):Int):=by simp only [i16w,i32w,i64w]; omega
 have av:=EnvOk.pick ar (ks:=[8,9]) (env':=[(8,.p 0 0),(9,.v (.int .i64 (IntKind.i64.wrap ((IntKind.i64.wrap ((X.length + 1:Nat):Int)) - 1))))]) kz
 let aa:Nat × SV:=(9,.v (.int .i64 ((X.length:Nat):Int)))
 have aw:=av.cast (env':=[(8,.p 0 0),aa]) (by simp only [aa,au]; try rfl)
 refine qam (qal aw (f:=60) (vs:=(z17 br X.length)) (d:=10) kz Tryz.call60 (qha X (rest) (Str.of ab 0 rfl) al (qdb 0 rfl)) ?_)
 rintro e_ aP ⟨_,aH,aI,aJ,rfl,ax,ay,ah,⟨aK,rfl,az⟩⟩
 let af:Ob:=⟨br,0,[.slice aH aI aJ,.bool false],true⟩
 obtain ⟨ac,ai,aL⟩:=ab.wrote 0 [af] rfl ah ax
 have aA:=ay.move (Step.refl _ Nil) nilM (fun b_ o_ h_ _=>ai.to b_ o_ h_)
 refine ⟨_,rfl,fun aQ aB=>?_⟩
 have aC:EnvOk 12 [af] [(10,.v (.slice aK X.length X.length)),(8,.p 0 0),aa] _:=aB.places (⟨rfl,rfl,trivial⟩)
 have aD:=az.move (Step.refl _ Nil) nilM (fun b_ o_ h_ _=>ai.to b_ o_ h_)
 refine qam (qf4 aC (src:=24) (dst:=9) (e:=5) (d:=11) kz kz kz kz aD fun aR aE=>?_)
 refine qaj [4] [] [(2,.v (.string (bs X)))] ac aE fun aS aF=>?_
 refine qae (qaa ?_)
 refine wp_ret (qaD aF ac.cells (v:=.string (bs X)) kz ?_)
 refine ⟨_,_,_,_,rfl,Str.of ac 0 rfl,(aA.move (Step.refl _ Nil) nilM qeE),ac.step,rfl⟩
theorem qdG (X:Bs) (rest:Bs)  {br:Nat} {A:Option Addr} {m c:Nat} {w:World} {F:Nat → Nat → Prop} (hst:Str w br [.slice A m c,.bool false]) (hr:RdS w F A m c ((uv 0) ++ rest)) (hFd:∀ b o,F b o → ¬ RdM br b o) :
  Calls Tryz.prog 63 #[.pointer (some ⟨br,0,none⟩)] w (RdPost w br (Fp F w) rest fun v w'=>∃ A2,v = .pointer A2 ∧ (∀ ad,A2 = some ad → ∃ b o,ad = ⟨b,o,none⟩ ∧ AtF w' (Fp F w) b o [.string (bs X)]) ∧ A2.isNone = true):=by
 refine enter (n:=15) Tryz.func63 rfl Tryz.ntmps63 kz fun a hE=>?_
 have hW:WOk w (RdM br) w (z5 br A m c) []:=WOk.startStr hst
 have hE1:=(hE.grow ⟨br,0,[.slice A m c,.bool false],true⟩).recast 0 (.v (.pointer (some ⟨br,0,none⟩))) (.p 0 0) rfl rfl (Nat.le_of_ble_eq_true (n:=1) rfl)
 refine qat [(0,.p 0 0)] hW hE1 fun a1 hE2=>?_
 refine qad [0,1,2,3,4] kz ?_
 refine qaj [0] [1,2,3,4] [(0,.p 0 0),(5,.p 0 0)] hW hE2 fun a3 hE4=>?_
 refine qam (qal hE4 (f:=58) (vs:=[.pointer (some ⟨br,0,none⟩)]) (d:=6) kz Tryz.call58 (qcA 0 (by omega) (rest) (Str.of hW 0 rfl) (hr.move hW.step (fun b_ o_ h_ _=>hFd b_ o_ h_) (hW.immM hFd)) (qdb 0 rfl)) ?_)
 rintro e_ w5 ⟨_,A6,n7,c8,rfl,hs9,ae,ab,rfl⟩
 obtain ⟨aa,af,al⟩:=hW.wrote 0 (z5 br A6 n7 c8) rfl ab hs9
 have ag:=ae.move (Step.refl _ Nil) nilM (fun b_ o_ h_ _=>af.to b_ o_ h_)
 refine ⟨_,rfl,fun am ah=>?_⟩
 have ai:EnvOk 15 (z5 br A6 n7 c8) [(6,.v (.int .u32 ((0:Nat):Int))),(0,.p 0 0),(5,.p 0 0)] _:=ah.places (⟨rfl,rfl,trivial⟩)
 refine qaj [2,3,4] [] [(0,.p 0 0),(3,.v (.int .i64 (IntKind.i64.wrap ((IntKind.i64.wrap ((0:Nat):Int)) - 1))))] aa ai fun ao aj=>?_
 refine qae (qaa ?_)
 refine wp_seq (qat [(0,.p 0 0),(3,.v (.int .i64 (IntKind.i64.wrap ((IntKind.i64.wrap ((0:Nat):Int)) - 1)))),(10,.v (.bool (decide ((IntKind.i64.wrap ((IntKind.i64.wrap ((0:Nat):Int)) - 1)) < 0))))] aa aj fun ap ac=>?_)
 refine qbw ac (b:=decide ((IntKind.i64.wrap ((IntKind.i64.wrap ((0:Nat):Int)) - 1)) < 0)) kz (decide_eq_true (by simp only [i16w,i32w,i64w]; omega)) ?_
 refine qat [(2,.v (.pointer none))] aa ac fun ar ak=>?_
 refine wp_ret (qaE (qaD ak aa.cells (v:=.pointer none) kz ?_))
 refine ⟨_,_,_,_,rfl,Str.of aa 0 rfl,(ag.move (Step.refl _ Nil) nilM qeE),aa.step,_,rfl,(fun ad h_=>by cases h_),rfl⟩
theorem qdH (X:Bs) (hX:X.length ≤ 1000000) (rest:Bs)  {br:Nat} {A:Option Addr} {m c:Nat} {w:World} {F:Nat → Nat → Prop} (hst:Str w br [.slice A m c,.bool false]) (hr:RdS w F A m c ((uv (X.length + 1)) ++ (X ++ rest))) (hFd:∀ b o,F b o → ¬ RdM br b o) :
  Calls Tryz.prog 63 #[.pointer (some ⟨br,0,none⟩)] w (RdPost w br (Fp F w) rest fun v w'=>∃ A2,v = .pointer A2 ∧ (∀ ad,A2 = some ad → ∃ b o,ad = ⟨b,o,none⟩ ∧ AtF w' (Fp F w) b o [.string (bs X)]) ∧ A2.isNone = false):=by
 refine enter (n:=15) Tryz.func63 rfl Tryz.ntmps63 kz fun a hE=>?_
 have hW:WOk w (RdM br) w (z5 br A m c) []:=WOk.startStr hst
 have hE1:=(hE.grow ⟨br,0,[.slice A m c,.bool false],true⟩).recast 0 (.v (.pointer (some ⟨br,0,none⟩))) (.p 0 0) rfl rfl (Nat.le_of_ble_eq_true (n:=1) rfl)
 refine qat [(0,.p 0 0)] hW hE1 fun a1 hE2=>?_
 refine qad [0,1,2,3,4] kz ?_
 refine qaj [0] [1,2,3,4] [(0,.p 0 0),(5,.p 0 0)] hW hE2 fun a3 hE4=>?_
 refine qam (qal hE4 (f:=58) (vs:=[.pointer (some ⟨br,0,none⟩)]) (d:=6) kz Tryz.call58 (qcA (X.length + 1) (by omega) (X ++ rest) (Str.of hW 0 rfl) (hr.move hW.step (fun b_ o_ h_ _=>hFd b_ o_ h_) (hW.immM hFd)) (qdb 0 rfl)) ?_)
 rintro e_ w5 ⟨_,A6,n7,c8,rfl,hs9,am,ag,rfl⟩
 let ae:Ob:=⟨br,0,[.slice A6 n7 c8,.bool false],true⟩
 obtain ⟨aa,ao,aN⟩:=hW.wrote 0 [ae] rfl ag hs9
 have ap:=am.move (Step.refl _ Nil) nilM (fun b_ o_ h_ _=>ao.to b_ o_ h_)
 refine ⟨_,rfl,fun aW ar=>?_⟩
 have au:EnvOk 15 [ae] [(6,.v (.int .u32 ((X.length + 1:Nat):Int))),(0,.p 0 0),(5,.p 0 0)] _:=ar.places (⟨rfl,rfl,trivial⟩)
 refine qaj [2,3,4] [] [(0,.p 0 0),(3,.v (.int .i64 (IntKind.i64.wrap ((IntKind.i64.wrap ((X.length + 1:Nat):Int)) - 1))))] aa au fun aX av=>?_
 refine qae (qaa ?_)
 refine wp_seq (qat [(0,.p 0 0),(3,.v (.int .i64 (IntKind.i64.wrap ((IntKind.i64.wrap ((X.length + 1:Nat):Int)) - 1)))),(10,.v (.bool (decide ((IntKind.i64.wrap ((IntKind.i64.wrap ((X.length + 1:Nat):Int)) - 1)) < 0))))] aa av fun aY ah=>?_)
 refine qau ah (b:=decide ((IntKind.i64.wrap ((IntKind.i64.wrap ((X.length + 1:Nat):Int)) - 1)) < 0)) kz (decide_eq_false (by simp only [i16w,i32w,i64w]; omega)) ?_
 refine wp_skip (qaa (qad [0,1,2,3,4,5] kz ?_))
 refine qaj [0,1] [2,3,4,5] [(11,.p 0 0),(12,.v (.int .i64 (IntKind.i64.wrap ((IntKind.i64.wrap ((X.length + 1:Nat):Int)) - 1))))] aa ah fun aZ aw=>?_
 have ax:IntKind.i64.wrap ((IntKind.i64.wrap ((X.length + 1:Nat):Int)) - 1) = ((X.length:Nat):Int):=by simp only [i16w,i32w,i64w]; omega
 have ay:=EnvOk.pick aw (ks:=[11,12]) (env':=[(11,.p 0 0),(12,.v (.int .i64 (IntKind.i64.wrap ((IntKind.i64.wrap ((X.length + 1:Nat):Int)) - 1))))]) kz
 let ab:Nat × SV:=(12,.v (.int .i64 ((X.length:Nat):Int)))
 have az:=ay.cast (env':=[(11,.p 0 0),ab]) (by simp only [ab,ax]; try rfl)
 refine qam (qal az (f:=60) (vs:=(z17 br X.length)) (d:=13) kz Tryz.call60 (qha X (rest) (Str.of aa 0 rfl) ap (qdb 0 rfl)) ?_)
 rintro e_ ba ⟨_,aO,aP,aQ,rfl,aA,aB,ai,⟨aR,rfl,aC⟩⟩
 let af:Ob:=⟨br,0,[.slice aO aP aQ,.bool false],true⟩
 obtain ⟨aD,aj,aS⟩:=aa.wrote 0 [af] rfl ai aA
 have aE:=aB.move (Step.refl _ Nil) nilM (fun b_ o_ h_ _=>aj.to b_ o_ h_)
 refine ⟨_,rfl,fun bd aF=>?_⟩
 have aG:EnvOk 15 [af] [(13,.v (.slice aR X.length X.length)),(11,.p 0 0),ab] _:=aF.places (⟨rfl,rfl,trivial⟩)
 have aH:=aC.move (Step.refl _ Nil) nilM (fun b_ o_ h_ _=>aj.to b_ o_ h_)
 refine qam (qf4 aG (src:=24) (dst:=9) (e:=5) (d:=14) kz kz kz kz aH fun bf aI=>?_)
 refine qam (qbo aD aI (d:=4) (cs:=[.string ByteArray.empty]) kz fun aT bg bh aU aV ak aJ aK=>?_)
 refine qam (qaK aJ aK (oi:=1) (cs:=[.string (bs X)]) kz fun bj al ac aL=>?_)
 refine qae (qaa ?_)
 refine qat [(2,.p 1 0)] ac aL fun bk aM=>?_
 refine wp_ret (qaD aM ac.cells (v:=.pointer (some ⟨aT,0,none⟩)) kz ?_)
 refine ⟨_,_,_,_,rfl,Str.of ac 0 rfl,((aE.move (ak.trans al).step immM (ak.trans al).to').move (Step.refl _ Nil) nilM qeE),ac.step,_,rfl,(fun ad h_=>by
  obtain rfl:=Option.some.inj h_
  exact ⟨_,0,rfl,fun j v_ hj=>⟨.inr ‹_›,ac.cells 1 _ rfl j v_ hj⟩⟩),rfl⟩
theorem qdN (nul:Bool) (X:Bs) (hX:X.length ≤ 1000000) (rest:Bs) {br:Nat} {A:Option Addr} {m c:Nat} {w:World} {F:Nat → Nat → Prop} (hst:Str w br [.slice A m c,.bool false]) (hr:RdS w F A m c ((if nul = true then uv 0 else uv (X.length + 1) ++ X) ++ rest)) (hFd:∀ b o,F b o → ¬ RdM br b o) :
  Calls Tryz.prog 63 #[.pointer (some ⟨br,0,none⟩)] w (RdPost w br (Fp F w) rest fun v w'=>∃ A2,v = .pointer A2 ∧ (∀ ad,A2 = some ad → ∃ b o,ad = ⟨b,o,none⟩ ∧ AtF w' (Fp F w) b o [.string (bs X)]) ∧ A2.isNone = nul):=by
 cases nul
 ·exact qdH X hX rest hst (hr.cast (by simp only [Bool.false_eq_true,if_false,List.append_assoc])) hFd
 exact qdG X rest hst (hr.cast (by simp only [if_true])) hFd
theorem qkJ (x:Int) (hx:-1 ≤ x ∧ x ≤ 32767) (rest:Bs) (hl:x ≤ ((rest.length:Nat):Int)) {br:Nat} {A:Option Addr} {m c:Nat} {w:World} {F:Nat → Nat → Prop} (hst:Str w br [.slice A m c,.bool false]) (hr:RdS w F A m c ((be 4 x) ++ rest)) (hFd:∀ b o,F b o → ¬ RdM br b o) :
  Calls Tryz.prog 46 #[.pointer (some ⟨br,0,none⟩)] w (RdPost w br (Fp F w) rest fun v w'=>v = .int .i32 x):=by
 refine enter (n:=21) Tryz.func46 rfl Tryz.ntmps46 kz fun a hE=>?_
 have hW:WOk w (RdM br) w (z5 br A m c) []:=WOk.startStr hst
 have hE1:=(hE.grow ⟨br,0,[.slice A m c,.bool false],true⟩).recast 0 (.v (.pointer (some ⟨br,0,none⟩))) (.p 0 0) rfl rfl (Nat.le_of_ble_eq_true (n:=1) rfl)
 refine qat [(0,.p 0 0)] hW hE1 fun a1 hE2=>?_
 refine qad [0,1,2] kz ?_
 refine qaj [0] [1,2] [(0,.p 0 0),(4,.p 0 0)] hW hE2 fun a3 hE4=>?_
 refine qam (qal hE4 (f:=44) (vs:=[.pointer (some ⟨br,0,none⟩)]) (d:=5) kz Tryz.call44 (qlM x (rest) (Str.of hW 0 rfl) (hr.move hW.step (fun b_ o_ h_ _=>hFd b_ o_ h_) (hW.immM hFd)) (qdb 0 rfl)) ?_)
 rintro e_ w5 ⟨_,A6,n7,c8,rfl,hs9,af,ab,rfl⟩
 obtain ⟨aa,ag,al⟩:=hW.wrote 0 (z5 br A6 n7 c8) rfl ab hs9
 have ac:=af.move (Step.refl _ Nil) nilM (fun b_ o_ h_ _=>ag.to b_ o_ h_)
 refine ⟨_,rfl,fun am ah=>?_⟩
 have ai:EnvOk 21 (z5 br A6 n7 c8) [(5,.v (.int .i32 (IntKind.i32.wrap x))),(0,.p 0 0),(4,.p 0 0)] _:=ah.places (⟨rfl,rfl,trivial⟩)
 refine qaj [2] [] [(0,.p 0 0),(3,.v (.int .i32 (IntKind.i32.wrap x)))] aa ai fun ao aj=>?_
 refine qae (qaa ?_)
 refine wp_seq (qat [(0,.p 0 0),(3,.v (.int .i32 (IntKind.i32.wrap x))),(13,.v (.bool (decide (((n7:Nat):Int) < (IntKind.i64.wrap (IntKind.i32.wrap x))))))] aa aj fun ap ae=>?_)
 refine qau ae (b:=decide (((n7:Nat):Int) < (IntKind.i64.wrap (IntKind.i32.wrap x)))) kz (decide_eq_false (by have h_:=ac.len; simp only [i32w,i64w]; omega)) ?_
 refine wp_skip (qaa (qat [(2,.v (.int .i32 (IntKind.i32.wrap x)))] aa ae fun ar ak=>?_))
 refine wp_ret (qaD ak aa.cells (v:=.int .i32 (IntKind.i32.wrap x)) kz ?_)
 refine ⟨_,_,_,_,rfl,Str.of aa 0 rfl,(ac.move (Step.refl _ Nil) nilM qeE),aa.step,congrArg (Value.int .i32) (by simp only [i32w]; omega)⟩
theorem qfC (n:Nat) (hn:n ≤ 32768) (rest:Bs) (hl:n ≤ rest.length + 1) {br:Nat} {A:Option Addr} {m c:Nat} {w:World} {F:Nat → Nat → Prop} (hst:Str w br [.slice A m c,.bool false]) (hr:RdS w F A m c ((uv n) ++ rest)) (hFd:∀ b o,F b o → ¬ RdM br b o) :
  Calls Tryz.prog 45 #[.pointer (some ⟨br,0,none⟩)] w (RdPost w br (Fp F w) rest fun v w'=>v = .int .i32 (((n:Nat):Int) - 1)):=by
 refine enter (n:=23) Tryz.func45 rfl Tryz.ntmps45 kz fun a hE=>?_
 have hW:WOk w (RdM br) w (z5 br A m c) []:=WOk.startStr hst
 have hE1:=(hE.grow ⟨br,0,[.slice A m c,.bool false],true⟩).recast 0 (.v (.pointer (some ⟨br,0,none⟩))) (.p 0 0) rfl rfl (Nat.le_of_ble_eq_true (n:=1) rfl)
 refine qat [(0,.p 0 0)] hW hE1 fun a1 hE2=>?_
 refine qad [0,1,2,3,4] kz ?_
 refine qaj [0] [1,2,3,4] [(0,.p 0 0),(4,.p 0 0)] hW hE2 fun a3 hE4=>?_
 refine qam (qal hE4 (f:=58) (vs:=[.pointer (some ⟨br,0,none⟩)]) (d:=5) kz Tryz.call58 (qcA n (by omega) (rest) (Str.of hW 0 rfl) (hr.move hW.step (fun b_ o_ h_ _=>hFd b_ o_ h_) (hW.immM hFd)) (qdb 0 rfl)) ?_)
 rintro e_ w5 ⟨_,A6,n7,c8,rfl,hs9,af,ab,rfl⟩
 obtain ⟨aa,ag,al⟩:=hW.wrote 0 (z5 br A6 n7 c8) rfl ab hs9
 have ac:=af.move (Step.refl _ Nil) nilM (fun b_ o_ h_ _=>ag.to b_ o_ h_)
 refine ⟨_,rfl,fun am ah=>?_⟩
 have ai:EnvOk 23 (z5 br A6 n7 c8) [(5,.v (.int .u32 ((n:Nat):Int))),(0,.p 0 0),(4,.p 0 0)] _:=ah.places (⟨rfl,rfl,trivial⟩)
 refine qaj [2,3,4] [] [(0,.p 0 0),(3,.v (.int .i32 (IntKind.i32.wrap ((IntKind.i32.wrap ((n:Nat):Int)) - 1))))] aa ai fun ao aj=>?_
 refine qae (qaa ?_)
 refine wp_seq (qat [(0,.p 0 0),(3,.v (.int .i32 (IntKind.i32.wrap ((IntKind.i32.wrap ((n:Nat):Int)) - 1)))),(15,.v (.bool (decide (((n7:Nat):Int) < (IntKind.i64.wrap (IntKind.i32.wrap ((IntKind.i32.wrap ((n:Nat):Int)) - 1)))))))] aa aj fun ap ae=>?_)
 refine qau ae (b:=decide (((n7:Nat):Int) < (IntKind.i64.wrap (IntKind.i32.wrap ((IntKind.i32.wrap ((n:Nat):Int)) - 1))))) kz (decide_eq_false (by have h_:=ac.len; simp only [i32w,i64w]; omega)) ?_
 refine wp_skip (qaa (qat [(2,.v (.int .i32 (IntKind.i32.wrap ((IntKind.i32.wrap ((n:Nat):Int)) - 1))))] aa ae fun ar ak=>?_))
 refine wp_ret (qaD ak aa.cells (v:=.int .i32 (IntKind.i32.wrap ((IntKind.i32.wrap ((n:Nat):Int)) - 1))) kz ?_)
 refine ⟨_,_,_,_,rfl,Str.of aa 0 rfl,(ac.move (Step.refl _ Nil) nilM qeE),aa.step,congrArg (Value.int .i32) (by simp only [i32w]; omega)⟩
theorem rOk  (rest:Bs)  {br:Nat} {A:Option Addr} {m c:Nat} {w:World} {F:Nat → Nat → Prop} (hst:Str w br [.slice A m c,.bool false]) (hr:RdS w F A m c (rest)) (hFd:∀ b o,F b o → ¬ RdM br b o) :
  Calls Tryz.prog 47 #[.pointer (some ⟨br,0,none⟩)] w (RdPost w br (Fp F w) rest fun v w'=>v = .bool true):=by
 refine enter (n:=8) Tryz.func47 rfl Tryz.ntmps47 kz fun a hE=>?_
 have hW:WOk w (RdM br) w (z5 br A m c) []:=WOk.startStr hst
 have hE1:=(hE.grow ⟨br,0,[.slice A m c,.bool false],true⟩).recast 0 (.v (.pointer (some ⟨br,0,none⟩))) (.p 0 0) rfl rfl (Nat.le_of_ble_eq_true (n:=1) rfl)
 refine qat [(0,.p 0 0)] hW hE1 fun a1 hE2=>?_
 refine qat [(2,.v (.bool true))] hW hE2 fun a3 hE4=>?_
 refine wp_ret (qaD hE4 hW.cells (v:=.bool true) kz ?_)
 refine ⟨_,_,_,_,rfl,Str.of hW 0 rfl,((hr.move hW.step (fun b_ o_ h_ _=>hFd b_ o_ h_) (hW.immM hFd)).move (Step.refl _ Nil) nilM qeE),hW.step,rfl⟩
theorem qfL {P:Program} {c:Code} {Mid:Act → World → Prop} {Q:Exit → Act → World → Prop} {a:Act} {w:World} (h1:c.wp P (Exit.then Mid Q) a w) (h2:∀ a' w',Mid a' w' → Q .normal a' w'):c.wp P Q a w :=
 wp_mono h1 fun e a' w' h=>by
  cases e <;> first | exact h2 a' w' h | exact h
theorem qiZ {k:Nat} (h:k < 32768):IntKind.i32.wrap (((k:Nat):Int) + 1) = ((k + 1:Nat):Int):=by rw [i32w]; omega
theorem qkK {g:Tree → Bs}:∀ {L:List Tree},(∀ t,0 < (g t).length) → L.length ≤ (L.flatMap g).length
 | [],_=>Nat.zero_le _
 | t :: r,h=>by
  have h1:=h t
  have h2:=qkK (L:=r) h
  rw [List.flatMap_cons,List.length_append,List.length_cons]; omega
theorem flat_ge' {g:Tree → Bs} {L:List Tree} (h:∀ t,0 < (g t).length) (rest:Bs):L.length ≤ (L.flatMap g ++ rest).length:=by
 have:=qkK (L:=L) h
 rw [List.length_append]; omega
theorem qff {a b c d:Bs} (h:a = b) (h':c = d):a ++ c = b ++ d:=by rw [h,h']
theorem if_c {c:Bool} {a b:Bs} (h:c = true → a = b):(if c = true then a else []) = (if c = true then b else []):=by
 cases c
 ·rfl
 rw [h rfl]
theorem qls {x y:Bs} (h:0 < x.length):0 < (x ++ y).length:=by rw [List.length_append]; omega
theorem qnb {b:Bool} {x y:Bs} (h:0 < x.length) (h':0 < y.length):0 < (if b = true then x else y).length:=by split <;> assumption
theorem qlN {m:Nat} {x:Int} (h:0 < m):0 < (be m x).length:=by rw [be_length]; exact h
section
variable {Pr:Program} {ops:Array Oper} {Q:Exit → Act → World → Prop} {w0:World} {M F:Nat → Nat → Prop} {n br:Nat} {tb:Tb} {env:Env} {P:qcb} {s:Bs} {a:Act} {w:World}
theorem qkL {id d:Nat} {t e:TypeId} {size bytes m cp:Nat} {A0:Option Addr} (env1 env':Env) (i:Nat) (h:RS w0 M F n br tb env P s a w) (K:∀ a',RS w0 M F n br tb env' P s a' w → Q .normal a' w)
  (hr:List.range ops.size = List.range i ++ (i :: (List.range ops.size).drop (i + 1)):=by kernel_rfl) (e1:∀ A m c,qbT Pr ops n (rdo br A m c :: tb) (List.range i) (qbX env1) env = some env1:=by intro _ _ _; kernel_rfl)
  (hc:∀ A m_ c,cutE (rdo br A m_ c :: tb) env1 ops n i = some (t,.slice A0 m cp,none,some 0,d):=by intro _ _ _; kernel_rfl) (ht:qch Pr t = some (e,size,bytes):=by kernel_rfl)
  (e2:∀ A m_ c,qbT Pr ops n (rdo br A m_ c :: tb) ((List.range ops.size).drop (i + 1)) (qbX env') ((d,.v (.slice A0 0 cp)) :: env1) = some env':=by intro _ _ _; kernel_rfl):(Code.region id ops false).wp Pr Q a w:=by
 refine qaq _ hr (qcV (List.range i) _ env1 h (fun a1 h1=>?_) e1 rfl)
 obtain ⟨A,m1,c,hW,hrd,hE,hP⟩:=h1.open_
 refine qam (qbL hE (hc A m1 c) ht (j:=0) rfl (Nat.zero_le _) fun a2 hE2=>?_)
 exact qcV _ [] env' (RS.mk' hW hrd hE2 h1.mv hP) (fun a3 h3=>qae (K a3 h3)) e2 (List.append_nil _).symm
theorem qlO {i d:Nat} {f:FuncId} {vs:List Value} {v0:Value} {N:Act → World → Prop} (h:RS w0 M F n br tb env P s a w) (hc:∀ w,Calls Pr f vs.toArray w (fun e w'=>e = .returned v0 ∧ w' = w))
  (hf:∀ args w,(callFunc f args).run Pr w = .ok (.enter f args) w) (K:∀ a',RS w0 M F n br tb ((d,.v v0) :: env) P s a' w → N a' w)
  (he:∀ A m c,qcU (rdo br A m c :: tb) env ops n i = some (f,vs,d):=by intro _ _ _; kernel_rfl):wpOp Pr ops Q i N a w:=by
 obtain ⟨A,m,c,hW,hr,hE,hP⟩:=h.open_
 refine qal hE (he A m c) hf (hc w) ?_
 rintro e_ _ ⟨rfl,rfl⟩
 exact ⟨_,rfl,fun a1 hE1=>K a1 (RS.mk' hW hr hE1 h.mv hP)⟩
theorem qnc {id d:Nat} {f:FuncId} {v0:Value} (env':Env) (h:RS w0 M F n br tb env P s a w) (hc:qcY Pr f [] s v0)
  (hf:∀ args w,(callFunc f args).run Pr w = .ok (.enter f args) w) (K:∀ a' w',RS w0 M F n br tb env' P s a' w' → Q .normal a' w')
  (he:∀ A m c,qcU (rdo br A m c :: tb) env ops n 0 = some (f,[.pointer (some ⟨br,0,none⟩)],d):=by intro _ _ _; kernel_rfl)
  (e:∀ A m c,qbT Pr ops n (rdo br A m c :: tb) ((List.range ops.size).drop 1) (qbX env') ((d,.v v0) :: env) = some env':=by intro _ _ _; kernel_rfl) (hs:Nat.blt 0 ops.size = true:=by kernel_rfl):(Code.region id ops false).wp Pr Q a w :=
 qdj (X:=[]) (rest:=s) env' h hc hf K he e hs
theorem qlt {i d k l g size bytes:Nat} {t e:TypeId} {z:Value} {N:Act → World → Prop} (h:RS w0 M F n br (tb ++ [qa5 g size z l k]) env P s a w) (hk:k < l) (hz:z.cells.size = size) (hl:qdm (tb.length + 1) env = true)
  (K:∀ a',RS w0 M F n br (tb ++ [qa5 g size z l (k + 1),⟨g,k * size,z.cells.toList,true⟩]) ((d,.p (tb.length + 2) 0) :: env) P s a' w → N a' w)
  (he:∀ A m c,idxE (rdo br A m c :: (tb ++ [qa5 g size z l k])) env ops n i = some (t,some ⟨g,0,none⟩,l,((k:Nat):Int),d):=by intro _ _ _; kernel_rfl) (ht:qch Pr t = some (e,size,bytes):=by kernel_rfl):wpOp Pr ops Q i N a w:=by
 obtain ⟨A,m,c,hW,hr,hE,hP⟩:=h.open_
 refine qaz hE (he A m c) ht rfl rfl hk fun a1 hE1=>K a1 ?_
 have h1:RS w0 M F n br (tb ++ [qa5 g size z l k]) ((d,.v (.pointer (some ⟨g,0 + k * size,none⟩))) :: env) P s a1 w:=RS.mk' hW hr hE1 h.mv hP
 have h2:=h1.next hk hz (by simpa only [qdm] using hl)
 have h3:=h2.recast d (.v (.pointer (some ⟨g,0 + k * size,none⟩))) (.p (tb.length + 2) 0) (by simp [lk]) ?_ (by show tb.length + 2 < _; simp)
 ·refine ⟨h3.mv,h3.ex,?_,h3.fact⟩
  refine ⟨h3.env_.defers,h3.env_.size,fun q x hx=>h3.env_.at_ q x ?_⟩
  simp only [lk] at hx ⊢
  split at hx
  ·exact hx
  exact hx
 have:obAt (rdo br none 0 0 :: (tb ++ [qa5 g size z l (k + 1),⟨g,k * size,z.cells.toList,true⟩])) (tb.length + 2) = ⟨g,k * size,z.cells.toList,true⟩:=by
  simp only [obAt,List.getD_eq_getElem?_getD]
  rw [show tb.length + 2 = (tb.length + 1) + 1 from rfl,List.getElem?_cons_succ,List.getElem?_append_right (by omega)]
  simp
 simp only [SV.val,this]
 simp
theorem qkM {id d k l g size bytes:Nat} {t e:TypeId} {z:Value} (env1 env':Env) (i:Nat) (h:RS w0 M F n br (tb ++ [qa5 g size z l k]) env P s a w) (hk:k < l) (hz:z.cells.size = size) (hl:qdm (tb.length + 1) env1 = true)
  (K:∀ a',RS w0 M F n br (tb ++ [qa5 g size z l (k + 1),⟨g,k * size,z.cells.toList,true⟩]) env' P s a' w → Q .normal a' w)
  (hr:List.range ops.size = List.range i ++ (i :: (List.range ops.size).drop (i + 1)):=by kernel_rfl) (e1:∀ A m c,qbT Pr ops n (rdo br A m c :: (tb ++ [qa5 g size z l k])) (List.range i) (qbX env1) env = some env1:=by intro _ _ _; kernel_rfl)
  (he:∀ A m c,idxE (rdo br A m c :: (tb ++ [qa5 g size z l k])) env1 ops n i = some (t,some ⟨g,0,none⟩,l,((k:Nat):Int),d):=by intro _ _ _; kernel_rfl) (ht:qch Pr t = some (e,size,bytes):=by kernel_rfl)
  (e2:∀ A m c,qbT Pr ops n (rdo br A m c :: (tb ++ [qa5 g size z l (k + 1),⟨g,k * size,z.cells.toList,true⟩])) ((List.range ops.size).drop (i + 1)) (qbX env') ((d,.p (tb.length + 2) 0) :: env1) = some env':=by intro _ _ _; kernel_rfl):(Code.region id ops false).wp Pr Q a w:=by
 refine qaq _ hr (qcV (List.range i) _ env1 h (fun a1 h1=>qam (qlt h1 hk hz hl (fun a2 h2=>?_) he ht)) e1 rfl)
 exact qcV _ [] env' h2 (fun a3 h3=>qae (K a3 h3)) e2 (List.append_nil _).symm
end
theorem qnz (X:Bs) (hX:X.length = 16) (rest:Bs) {br:Nat} {A:Option Addr} {m c:Nat} {w:World} {F:Nat → Nat → Prop} (hst:Str w br [.slice A m c,.bool false]) (hr:RdS w F A m c (X ++ rest)) (hFd:∀ b o,F b o → ¬ RdM br b o) :
  Calls Tryz.prog 61 #[.pointer (some ⟨br,0,none⟩)] w (RdPost w br (Fp F w) rest fun v w'=>v = .agg ((List.range 16).map fun i=>qag (X.getD i 0)).toArray):=by
 have hbr:br < w.heap.size:=World.lt_of_cell (hst.at_ 0 _ rfl)
 refine enter (n:=9) (vs:=[.pointer (some ⟨br,0,none⟩)]) Tryz.func61 rfl Tryz.ntmps61 kz fun a hE=>?_
 refine qad [0] kz ?_
 refine qam (qf3 hE (d:=2) (cs:=(List.range 16).map fun _=>qag 0) kz fun t0 a1 hE1=>qae (qaa ?_))
 have hs1:=Step.alloc w (.cells ((List.range 16).map fun _=>qag 0).toArray t0)
 have hz1:=qds w (.cells ((List.range 16).map fun _=>qag 0).toArray t0)
 have hh1:=qcZ w (.cells ((List.range 16).map fun _=>qag 0).toArray t0)
 generalize w.alloc (.cells ((List.range 16).map fun _=>qag 0).toArray t0) = w1 at hs1 hz1 hh1
 refine qad [0] kz ?_
 refine qam (qf3 hE1 (d:=3) (cs:=(List.range 16).map fun _=>qag 0) kz fun t1 a2 hE2=>qae (qaa ?_))
 have hs2:=Step.alloc w1 (.cells ((List.range 16).map fun _=>qag 0).toArray t1)
 have hz2:=qds w1 (.cells ((List.range 16).map fun _=>qag 0).toArray t1)
 have hh2:=qcZ w1 (.cells ((List.range 16).map fun _=>qag 0).toArray t1)
 generalize hp2:w.heap.size = p2 at hE1 hE2 hh1 hz1
 generalize hp3:w1.heap.size = p3 at hE2 hh2 hz2
 generalize w1.alloc (.cells ((List.range 16).map fun _=>qag 0).toArray t1) = w2 at hs2 hz2 hh2
 refine qeJ (fun _=>True) 4 kz ?_
 have hsd:=Step.drew w2
 have hhd:w2.drew.heap[p3]? = some (.cells ((List.range 16).map fun _=>qag 0).toArray t1):=hh2
 have hS:Step w w2.drew Nil:=(hs1.trans hs2 fun _ _ _ h=>h).trans hsd fun _ _ _ h=>h
 have hh1d:w2.drew.heap[p2]? = some (.cells ((List.range 16).map fun _=>qag 0).toArray t0):=(hs2.trans hsd fun _ _ _ h=>h).heap (fun _ h=>h) hh1
 generalize w2.drew = wd at hsd hhd hS hh1d
 have hE3:EnvOk 9 [⟨p3,0,[],true⟩] [(0,.v (.pointer (some ⟨br,0,none⟩))),(2,.v (.pointer (some ⟨p2,0,none⟩))),(3,.p 0 0)] _:=((hE2.grow ⟨p3,0,[],true⟩).recast 3 (.v (.pointer (some ⟨p3,0,none⟩))) (.p 0 0) rfl rfl (Nat.le_of_ble_eq_true (n:=1) rfl)).pk
 refine qaY [0,1] [(0,.v (.pointer (some ⟨br,0,none⟩))),(2,.v (.pointer (some ⟨p2,0,none⟩))),(3,.p 0 0),(4,.v (.slice (some ⟨p3,0,none⟩) 16 16)),(5,.v (.pointer (some ⟨br,0,none⟩)))] 2 (qac qai) (fun w' _ i o hi j v hj=>by
  cases i with
  | zero =>
   simp only [List.getElem?_cons_zero,Option.some.injEq] at hi
   subst hi
   simp at hj
  | succ i=>simp at hi) trivial hE3 fun a3 hE4=>?_
 have hst':=hst.move hS (fun _ h=>h)
 have hr':=hr.move hS nilM (fun b o h hb=>(⟨h,hb⟩:F b o ∧ b < w.heap.size))
 have hFd':∀ b o,(F b o ∧ b < w.heap.size) → ¬ RdM br b o:=fun b o h=>hFd b o h.1
 have hSp:=qha X rest hst' hr' hFd'
 rw [show ((X.length:Nat):Int) = 16 by omega] at hSp
 refine qaJ (i:=2) kz (qal hE4 (f:=60) (vs:=[.pointer (some ⟨br,0,none⟩),.int .i64 16]) (d:=6) kz Tryz.call60 hSp ?_)
 rintro e_ w3 ⟨_,A1,n1,c1,rfl,hs,hr1,hst3,Ax,rfl,hox⟩
 refine ⟨_,rfl,fun a4 hE5=>⟨fun _=>trivial,?_⟩⟩
 have hh3:=hst3.heap (fun o e=>by have:=e.1; have:=hS.size; omega) hhd
 have hh13:=hst3.heap (fun o e=>by have:=e.1; omega) hh1d
 refine qaJ (i:=3) kz (qij hE5 (t:=24) (u:=24) (e:=5) (bytes:=1) (b:=p3) (s:=X) (d:=7) kz kz hh3 rfl hox fun a5 w4 hst4 hat hfz hE6=>⟨fun _=>trivial,qaW kz (qaa ?_) _⟩)
 obtain ⟨v,hE6⟩:=hE6
 have hh14:=hst4.heap (fun o e=>by have:=hz1; omega) hh13
 have hst04:Step w w4 (RdM br):=((hS.mono fun _ _ _ f=>f.elim).trans hst3 fun _ _ _ e=>e).trans hst4 fun b o hb e=>by have:=hs1.size; omega
 have h2l:p2 < w4.heap.size:=(Array.getElem?_eq_some_iff.1 hh14).1
 have hW4:WOk w (RdM br) w4 ([] ++ [⟨p2,0,(List.range 16).map fun _=>qag 0,true⟩] ++ [⟨p3,0,(List.range 16).map fun i=>qag (X.getD i 0),true⟩]) []:=by
  have hb:WOk w (RdM br) w4 [] []:=⟨hst04,fun i o hi=>by simp at hi,fun i o hi=>by simp at hi,fun i o hi=>by simp at hi,fun i j o o' _ hi=>by simp at hi,fun i r hi=>by simp at hi,fun i r hi=>by simp at hi,fun i r hi=>by simp at hi,fun i j r r' _ hi=>by simp at hi⟩
  have h4:=hb.add ⟨p2,0,(List.range 16).map fun _=>qag 0,true⟩ h2l (fun j v hj=>by
   dsimp only at hj ⊢
   rw [Nat.zero_add]
   simp only [World.cell?,hh14]
   simpa using hj) (fun _ j hj=>⟨.inl (by dsimp only; omega),by simp [World.frozen?,hh14]⟩) (fun i o hi=>by simp at hi) (fun i r hi=>by simp at hi)
  refine h4.add ⟨p3,0,(List.range 16).map fun i=>qag (X.getD i 0),true⟩ (World.lt_of_cell (hat 0 _ rfl)) (fun j v hj=>hat j v hj) (fun _ j hj=>⟨.inl (by dsimp only; have:=hs1.size; omega),hfz _⟩) (fun i o hi _=>.inl ?_) (fun i r hi=>by simp at hi)
  have hm:=List.mem_of_getElem? hi
  have:o = ⟨p2,0,(List.range 16).map fun _=>qag 0,true⟩:=by simpa using hm
  rw [this]
  dsimp only; omega
 have hE7:EnvOk 9 [⟨p2,0,(List.range 16).map fun _=>qag 0,true⟩,⟨p3,0,(List.range 16).map fun i=>qag (X.getD i 0),true⟩] [(2,.p 0 0),(3,.p 1 0)] _ :=
  (((((hE6.pick (ks:=[2,3]) (env':=[(2,.v (.pointer (some ⟨p2,0,none⟩))),(3,.p 0 0)]) kz).recast 3 (.p 0 0) (.v (.pointer (some ⟨p3,0,none⟩))) rfl rfl trivial).pick (ks:=[2,3]) (env':=[(2,.v (.pointer (some ⟨p2,0,none⟩))),(3,.v (.pointer (some ⟨p3,0,none⟩)))]) kz).cutTb 0 kz).retable [⟨p2,0,(List.range 16).map fun _=>qag 0,true⟩,⟨p3,0,(List.range 16).map fun i=>qag (X.getD i 0),true⟩] |>.recast 2 (.v (.pointer (some ⟨p2,0,none⟩))) (.p 0 0) rfl rfl (Nat.le_of_ble_eq_true (n:=1) rfl) |>.recast 3 (.v (.pointer (some ⟨p3,0,none⟩))) (.p 1 0) rfl rfl (Nat.le_of_ble_eq_true (n:=2) rfl)).pk
 refine qad [0,1] kz ?_
 refine qaj [0] [1] [(2,.p 0 0),(8,.v (.agg ((List.range 16).map fun i=>qag (X.getD i 0)).toArray))] hW4 hE7 fun a6 hE8=>?_
 refine qam (qaK hW4 hE8 (oi:=0) (cs:=(List.range 16).map fun i=>qag (X.getD i 0)) kz fun w5 hF5 hW5 hE9=>qae (qaa (wp_ret ?_)))
 have hstz:Step w4 w5 (fun b o=>b = p2 ∨ b = p3):=hF5.step.mono fun b o _ ha=>by
  rcases ha with ⟨i,ob,hi,_,rfl,_⟩ | ⟨i,r,hi,_⟩
  ·have hm:=List.mem_of_getElem? hi
   simp only [List.nil_append,List.cons_append,List.mem_cons,List.not_mem_nil,or_false] at hm
   rcases hm with rfl | rfl
   ·exact .inl rfl
   exact .inr rfl
  simp at hi
 have hsz:=hs1.size
 refine qaD hE9 hW5.cells (v:=.agg ((List.range 16).map fun i=>qag (X.getD i 0)).toArray) kz ⟨_,A1,n1,c1,rfl,(hs.move hst4 fun o e=>?_).move hstz (fun o e=>?_),(hr1.move hst4 (fun b o hg _ e=>?_) (fun b o hg _=>hg)).move hstz (fun b o hg _ e=>?_) (fun b o hg _=>.inl hg.1),hW5.step,rfl⟩
 ·omega
 ·rcases e with e | e <;> omega
 ·have:=hg.2; omega
 have:=hg.2; rcases e with e | e <;> omega
theorem qhN (x:Int) (rest:Bs):qcY Tryz.prog 44 (be 4 (IntKind.i32.wrap x)) rest (.int .i32 (IntKind.i32.wrap x)):=fun hs hr hF=>(qlM _ rest hs hr hF).mono fun e w' hp=>hp.fp fun v w' h=>by rw [h,ww32]
theorem qlP (x:Int) (rest:Bs):qcY Tryz.prog 56 (be 8 x) rest (.int .i64 (IntKind.i64.wrap x)):=fun hs hr hF=>(qna x rest hs hr hF).mono fun e w' hp=>hp.q fun v w' h=>h
theorem qms (S:Bs) (hS:S.length ≤ 32767) (rest:Bs):qcY Tryz.prog 53 (be 2 S.length ++ S) rest (.string (bs S)):=fun hs hr hF=>(qmr S hS rest hs (hr.cast (by simp only [List.append_assoc])) hF).mono fun e w' hp=>hp.q fun v w' h=>h
theorem qge (S:Bs) (hS:S.length ≤ 32767) (rest:Bs):qcY Tryz.prog 52 (uv (S.length + 1) ++ S) rest (.string (bs S)):=fun hs hr hF=>(qgd S (by omega) rest hs (hr.cast (by simp only [List.append_assoc])) hF).mono fun e w' hp=>hp.q fun v w' h=>h
theorem qdO (nul:Bool) (S:Bs) (hS:S.length ≤ 32767) (rest:Bs):qlp Tryz.prog 63 (if nul = true then uv 0 else uv (S.length + 1) ++ S) rest (fun A:Option Addr=>.pointer A) (fun A=>andF (qm7 A S) (isF (A.isNone = nul))):=fun hs hr hF=>(qdN nul S (by omega) rest hs hr hF).mono fun e w' hp=>hp.q fun v w' h=>by
 obtain ⟨A,h1,h2,h3⟩:=h
 exact ⟨A,h1,h2,h3⟩
theorem qhO (n:Nat) (hn:n ≤ 32767) (rest:Bs) (hl:n ≤ rest.length):qcY Tryz.prog 46 (be 4 n) rest (.int .i32 ((n:Nat):Int)):=fun hs hr hF=>(qkJ ((n:Nat):Int) (by omega) rest (by omega) hs hr hF).mono fun e w' hp=>hp.q fun v w' h=>h
theorem qdM (n:Nat) (hn:n ≤ 32767) (rest:Bs) (hl:n ≤ rest.length):qcY Tryz.prog 45 (uv (n + 1)) rest (.int .i32 ((n:Nat):Int)):=fun hs hr hF=>(qfC (n + 1) (by omega) rest (by omega) hs hr hF).mono fun e w' hp=>hp.q fun v w' h=>h.trans (congrArg (Value.int .i32) (by omega))
theorem qnA (S:Bs) (rest:Bs):qcY Tryz.prog 61 (qas S) rest (.agg #[qag ((qas S).getD 0 0),qag ((qas S).getD 1 0),qag ((qas S).getD 2 0),qag ((qas S).getD 3 0),qag ((qas S).getD 4 0),qag ((qas S).getD 5 0),qag ((qas S).getD 6 0),qag ((qas S).getD 7 0),qag ((qas S).getD 8 0),qag ((qas S).getD 9 0),qag ((qas S).getD 10 0),qag ((qas S).getD 11 0),qag ((qas S).getD 12 0),qag ((qas S).getD 13 0),qag ((qas S).getD 14 0),qag ((qas S).getD 15 0)]):=fun hs hr hF=>(qnz (qas S) (qd7 S) rest hs hr hF).mono fun e w' hp=>hp.q fun v w' h=>h
theorem pOk (rest:Bs):qcY Tryz.prog 47 [] rest (.bool true):=fun hs hr hF=>(rOk rest hs hr hF).mono fun e w' hp=>hp.q fun v w' h=>h
theorem qnd (u:List (Int × Bs)) (hU:canU u) (hk:∀ x ∈ u,0 ≤ x.1 ∧ x.1 < 4294967296) (rest:Bs):qlp Tryz.prog 57 (uv u.length ++ qbp u) rest (fun m:Option Nat=>.agg #[.map m]) (fun m=>qmm m u):=fun hs hr hF=>(qny u rest hU.1 hk hU.2.1 hU.2.2 hs (hr.cast (by simp only [List.append_assoc])) hF).mono fun e w' hp=>hp.q fun v w' h=>h
theorem qne (k:Int) (A:Option Addr) (m c:Nat) (w:World):Calls Tryz.prog 23 #[.agg #[.int .u32 k,.slice A m c]] w (qkb w):=by
 refine enter (n:=7) Tryz.func23 rfl Tryz.ntmps23 kz fun a hE=>?_
 have hW:=WOk.start w Nil
 refine qad [0,1] kz ?_
 refine qam (qbt hW hE (d:=1) (cs:=[.int .u32 k,.slice A m c]) kz fun b1 a2 w3 hb4 hz5 hF6 hW7 hE8=>?_)
 refine qaj [1] [] [(1,.p 0 0)] hW7 hE8 fun a9 ac=>?_
 refine qae (qaa ?_)
 refine wp_seq (qat [(6,.v (.bool (decide (((m:Nat):Int) > 2147483647))))] hW7 ac fun ai aa=>?_)
 refine qaA aa (b:=decide (((m:Nat):Int) > 2147483647)) kz (fun ab=>?_) (fun ab=>?_)
 ·
  have ag:=of_decide_eq_true ab
  refine qat [(2,.v (.bool false))] hW7 aa fun aj ae=>?_
  refine wp_ret (qaE (qaD ae hW7.cells (v:=.bool false) kz ?_))
  exact ⟨_,rfl,hW7.step⟩
 have ah:=of_decide_eq_false ab
 refine wp_skip (qaa (qat [(2,.v (.bool true))] hW7 aa fun ak af=>?_))
 refine wp_ret (qaD af hW7.cells (v:=.bool true) kz ?_)
 exact ⟨_,rfl,hW7.step⟩
theorem qnf (A:Option Addr) (c:Nat) (u:List (Int × Bs)) (w:World) (F:Nat → Nat → Prop) (hu:TagsR w F A c u):Calls Tryz.prog 14 #[.slice A u.length c] w (qkb w):=by
 obtain ⟨xu,h1,h2⟩:=hu.ex
 have hsm:=h1.small
 refine enter (n:=18) Tryz.func14 rfl Tryz.ntmps14 kz fun a hE=>?_
 have hW:=WOk.start w Nil
 refine qat [(0,.v (.slice A u.length c))] hW hE fun a1 hE2=>?_
 refine wp_seq (qat [(0,.v (.slice A u.length c)),(7,.v (.bool (decide (((u.length:Nat):Int) > 2147483647))))] hW hE2 fun a3 hE4=>?_)
 refine qaA hE4 (b:=decide (((u.length:Nat):Int) > 2147483647)) kz (fun hc5=>?_) (fun hc5=>?_)
 ·
  have hf6:=of_decide_eq_true hc5
  refine qat [(2,.v (.bool false))] hW hE4 fun a7 hE8=>?_
  refine wp_ret (qaE (qaD hE8 hW.cells (v:=.bool false) kz ?_))
  exact ⟨_,rfl,hW.step⟩
 have hf9:=of_decide_eq_false hc5
 refine wp_skip (qaa (wp_seq ?_))
 let aa:Nat × SV:=(8,.v (.slice A u.length c))
 let ab:Nat × SV:=(9,.v (.int .i64 ((u.length:Nat):Int)))
 refine qat [aa,ab,(10,.v (.int .i64 0))] hW hE4 fun bj au=>?_
 refine wp_block (wp_loop_ghost (fun n_ a_ w_=>∃ (k:Nat),n_ = u.length - k ∧ k ≤ u.length ∧ LInv hW 18 [] [] [aa,ab,(10,.v (.int .i64 ((k:Nat):Int)))] a_ w_) (u.length) ⟨0,by omega,by omega,au.pk,hW,Fr.refl _ _ _⟩ ?_)
 rintro bk bn bo ⟨k,aT,aU,av,af,aw⟩
 let ah:Nat × SV:=(10,.v (.int .i64 ((k:Nat):Int)))
 refine qat [aa,ab,ah,(11,.v (.bool (decide (((k:Nat):Int) < ((u.length:Nat):Int)))))] af av fun bp aj=>?_
 refine wp_seq (qaA aj (b:=decide (((k:Nat):Int) < ((u.length:Nat):Int))) kz (fun ak=>?_) (fun ak=>?_))
 ·
  have aV:=of_decide_eq_true ak
  refine wp_skip (qaa (wp_seq (wp_block (qad [0,1,2,3] kz ?_))))
  obtain ⟨aW,aX,ax,aY,ai⟩:=Slots.get h1 (i:=k) (by omega)
  obtain ⟨⟨aQ,aR⟩,ay⟩:∃ x,u[k]? = some x:=⟨_,List.getElem?_eq_getElem (by omega)⟩
  obtain ⟨⟨aZ,ba,ao,bd⟩,bq,bt⟩:=h2 k aQ aR ay
  rw [ao] at ai
  refine qam (qaz aj (t:=26) (A:=A) (m:=u.length) (q:=((k:Nat):Int)) (d:=12) kz (e:=61) (size:=2) (bytes:=32) kz ax rfl (by omega) fun bu az=>?_)
  let ac:Value:=.int .u32 aQ
  let ae:Value:=.slice aZ aR.length ba
  refine qam (qaH az (t:=61) (b:=aW) (o:=aX + k * 2) (d:=13) kz (cs:=[ac,ae]) (v:=.agg #[ac,ae]) kz (AtF.move ai af.step nilM qa7).at_ fun bw aA=>?_)
  refine qam (qbo af aA (d:=4) (cs:=[.int .u32 0,.slice none 0 0]) kz fun bx bz bA bf bg aB aC aD=>?_)
  refine qam (qaK aC aD (oi:=0) (cs:=[ac,ae]) kz fun bB aE al aF=>?_)
  refine qae (qaa ?_)
  refine qad [0,1,2] kz ?_
  refine qaj [0] [1,2] [aa,ab,ah,(14,.v (.agg #[ac,ae]))] al aF fun bC aG=>?_
  refine qam (qal aG (f:=23) (vs:=[.agg #[ac,ae]]) (d:=15) kz Tryz.call23 (qne _ _ _ _ _) ?_)
  rintro e_ bD ⟨aS,rfl,ap⟩
  refine ⟨_,rfl,fun bE aH=>?_⟩
  have ag:=al.next_nil ap
  have aI:=al.frN ap
  refine qaj [2] [] [aa,ab,ah,(16,.v (.bool (!aS)))] ag aH fun bF am=>?_
  refine qae (qaa ?_)
  refine qaA am (b:=!aS) kz (fun aJ=>?_) (fun aJ=>?_)
  ·
   refine qat [(2,.v (.bool false))] ag am fun bG aK=>?_
   refine wp_ret (qa2 (qaE (qaE (qa2 (qaE (qaD aK ag.cells (v:=.bool false) kz ?_))))))
   exact ⟨_,rfl,ag.step⟩
  refine wp_skip (qaw (qaa (qaq [0,1] kz ?_)))
  refine qaj [0,1] [] [aa,ab,(10,.v (.int .i64 (IntKind.i64.wrap (((k:Nat):Int) + 1))))] ag am fun bH aL=>?_
  refine qae (qaa ?_)
  obtain ⟨ar,aM,aN⟩:=ag.cutB aL 0 [] [aa,ab,(10,.v (.int .i64 (IntKind.i64.wrap (((k:Nat):Int) + 1))))]
  have aO:IntKind.i64.wrap (((k:Nat):Int) + 1) = ((k + 1:Nat):Int):=qbq (by omega)
  rw [aO] at ar
  exact ⟨u.length - (k + 1),by omega,k + 1,rfl,by omega,ar.pk,aM,((((aw.trans aB).trans aE).trans aI).trans aN)⟩
 have bh:=of_decide_eq_false ak
 refine wp_exit (qay (qay (qaQ (qaa (qat [(2,.v (.bool true))] af aj fun bI aP=>?_)))))
 refine wp_ret (qaD aP af.cells (v:=.bool true) kz ?_)
 exact ⟨_,rfl,af.step⟩
theorem qng (ct:List Value) (t:Tree) (w:World) (F:Nat → Nat → Prop) (ht:TreeR w F ct t):Calls Tryz.prog 5 #[.agg ct.toArray] w (qkb w):=by
 obtain ⟨n1,s2,b3,l4,u5,A6,c7,A8,c9,ak,al,aC,rfl,rfl,aD,aE,aO,aF⟩:=ht.open_
 have az:=aD.small
 have aA:=aE.small
 refine enter (n:=15) Tryz.func5 rfl Tryz.ntmps5 kz fun a hE=>?_
 have hW:=WOk.start w Nil
 refine qad [0,1] kz ?_
 refine qam (qbt hW hE (d:=1) (cs:=[.int .i64 n1,.slice A6 s2.length c7,.bool b3,.slice A8 l4.length c9,.slice ak u5.length al]) kz fun aP aQ aR aG aH aI aa am=>?_)
 refine qaj [1] [] [(1,.p 0 0)] aa am fun aS ao=>?_
 refine qae (qaa ?_)
 refine wp_seq (qat [(1,.p 0 0),(6,.v (.bool (decide (((s2.length:Nat):Int) > 2147483647))))] aa ao fun aT ae=>?_)
 let ac:Nat × SV:=(2,.v (.bool false))
 refine qaA ae (b:=decide (((s2.length:Nat):Int) > 2147483647)) kz (fun af=>?_) (fun af=>?_)
 ·
  have aJ:=of_decide_eq_true af
  refine qat [ac] aa ae fun aU ap=>?_
  refine wp_ret (qaE (qaD ap aa.cells (v:=.bool false) kz ?_))
  exact ⟨_,rfl,aa.step⟩
 have aK:=of_decide_eq_false af
 refine wp_skip (qaa (wp_seq (qat [(1,.p 0 0),(10,.v (.bool (decide (((l4.length:Nat):Int) > 2147483647))))] aa ae fun aV ag=>?_)))
 refine qaA ag (b:=decide (((l4.length:Nat):Int) > 2147483647)) kz (fun ah=>?_) (fun ah=>?_)
 ·
  have aL:=of_decide_eq_true ah
  refine qat [ac] aa ag fun aW ar=>?_
  refine wp_ret (qaE (qaD ar aa.cells (v:=.bool false) kz ?_))
  exact ⟨_,rfl,aa.step⟩
 have aM:=of_decide_eq_false ah
 refine wp_skip (qaa (wp_seq (qad [0,1,2,3] kz ?_)))
 refine qaj [0,1] [2,3] [(12,.v (.slice ak u5.length al))] aa ag fun aX au=>?_
 refine qam (qal au (f:=14) (vs:=[.slice ak u5.length al]) (d:=13) kz Tryz.call14 (qnf _ _ u5 _ _ (aF.move aa.step nilM aa.imm)) ?_)
 rintro e_ aY ⟨aB,rfl,aj⟩
 refine ⟨_,rfl,fun aZ av=>?_⟩
 have ab:=aa.next_nil aj
 have aN:=aa.frN aj
 refine qaj [3] [] [(14,.v (.bool (!aB)))] ab av fun ba ai=>?_
 refine qae (qaa ?_)
 refine qaA ai (b:=!aB) kz (fun aw=>?_) (fun aw=>?_)
 ·
  refine qat [ac] ab ai fun bd ax=>?_
  refine wp_ret (qaE (qaD ax ab.cells (v:=.bool false) kz ?_))
  exact ⟨_,rfl,ab.step⟩
 refine wp_skip (qaa (qat [(2,.v (.bool true))] ab ai fun bf ay=>?_))
 refine wp_ret (qaD ay ab.cells (v:=.bool true) kz ?_)
 exact ⟨_,rfl,ab.step⟩
theorem qlu (x m:Int) (hx:0 ≤ x) (hx':x < 256) (hm:0 ≤ m) (hm':m < 32768) (w:World):Calls Tryz.prog 8 #[.int .u8 x,.int .i64 m] w (qcK w (.int .i64 (Int.tmod x (m + 1)))):=by
 refine enter (n:=10) Tryz.func8 rfl Tryz.ntmps8 kz fun a hE=>?_
 have hW:=WOk.start w Nil
 refine qat [(0,.v (.int .u8 x)),(1,.v (.int .i64 m))] hW hE fun a1 hE2=>?_
 refine qad [0,1,2,3,4,5] kz ?_
 refine qaj [0,1,2,3] [4,5] [(6,.v (.int .i64 (IntKind.i64.wrap x))),(8,.v (.int .i64 (IntKind.i64.wrap (m + 1))))] hW hE2 fun a3 hE4=>?_
 refine qam (qk1 hE4 (k:=.i64) (p:=(IntKind.i64.wrap x)) (q:=(IntKind.i64.wrap (m + 1))) (d:=9) kz (by simp only [IntKind.wrap_i64]; omega) fun a5 hE6=>?_)
 refine qaj [5] [] [(4,.v (.int .i64 (Int.tmod (IntKind.i64.wrap x) (IntKind.i64.wrap (m + 1)))))] hW hE6 fun a7 hE8=>?_
 refine qae (qaa ?_)
 refine wp_ret (qaD hE8 hW.cells (v:=.int .i64 (Int.tmod (IntKind.i64.wrap x) (IntKind.i64.wrap (m + 1)))) kz ?_)
 exact ⟨by rw [wrap_i64 (by omega) (by omega),wrap_i64 (by omega) (by omega)],hW.step⟩
section
variable {P:Program} {ops:Array Oper} {Q:Exit → Act → World → Prop} {n:Nat} {tb:Tb} {env:Env} {a:Act} {w:World}
def invE (tb:Tb) (env:Env) (ops:Array Oper) (n i:Nat):Option (TypeId × Value × String × List Value × Nat) :=
 match opAt env ops n i with
 | some (.call c,d)=>match c.callee with
  | .invoke x name=>match opd env x,qhT tb env c.args.toList with
   | some (.v (.iface t v)),some vs=>some (t,v,name,vs,d)
   | _,_=>none
  | _=>none
 | _=>none
theorem qdc {i d:Nat} {f:FuncId} {t:TypeId} {v v':Value} {name:String} {vs:List Value} {N:Act → World → Prop} {R:Ending → World → Prop} (hE:EnvOk n tb env a) (h:invE tb env ops n i = some (t,v,name,vs,d))
  (hm:∀ w,(method (P.types.size + Made.depth) t v name).run P w = .ok (f,v') w)
  (hf:∀ args w,(callFunc f args).run P w = .ok (.enter f args) w) (hc:Calls P f (v' :: vs).toArray w R)
  (k:∀ e w',R e w' → ∃ v,e = .returned v ∧ ∀ a',EnvOk n tb ((d,.v v) :: env) a' → N a' w'):wpOp P ops Q i N a w:=by
 unfold invE at h
 split at h
 ·rename_i c d' ho
  split at h
  ·rename_i x nm hcal
   split at h
   ·rename_i t0 v0 vs' hx hargs
    simp only [Option.some.injEq,Prod.mk.injEq] at h
    obtain ⟨rfl,rfl,rfl,rfl,rfl⟩:=h
    obtain ⟨o,h1,h2,h3,h4,h5⟩:=qbn hE ho
    have hx':=(qaT hE hx).1
    have ha':c.args.map a.eval = vs'.toArray:=by
     apply Array.ext'
     simpa using qfD hE hargs
    simp only [wpOp,h1]
    have:Region.wanted o (yielded ops a.tmps) = true:=by first | exact h2 | simp [Region.wanted,h2]
    rw [this]
    simp only [if_true]
    refine .inl ?_
    have hr:(execOp a.eval o).run P w = .ok (.enter f (v' :: vs').toArray) w:=by
     have e1:((#[Value.iface t0 v0] ++ vs'.toArray).extract 1 (#[Value.iface t0 v0] ++ vs'.toArray).size) = vs'.toArray:=by
      apply Array.ext'
      simp
     have e2:(#[Value.iface t0 v0] ++ vs'.toArray)[0]? = some (Value.iface t0 v0):=by simp
     have e3:(#[v'] ++ vs'.toArray) = (v' :: vs').toArray:=by
      apply Array.ext'
      simp
     unfold execOp
     rw [h5]
     simp only [resolve,hcal,hx',SV.val,ha',invoke,e1,e2,callMethod,Sem.run_bind,Sem.run_pure,Result.andThen_ok,hm,hf,e3,run_program]
    unfold Oper.wp
    rw [hr,Oper.upon]
    refine hc.mono fun e w' he=>?_
    obtain ⟨v,rfl,hk⟩:=k e w' he
    show N (a.put o.dst v) w'
    rw [h3]
    exact hk _ (hE.put h4 (.v v) trivial)
   cases h
  cases h
 cases h
theorem qcq {i d n':Nat} {f:FuncId} {fn:Func} {c:Code} {t:TypeId} {v v':Value} {name:String} {vs:List Value} {N:Act → World → Prop} (hE:EnvOk n tb env a) (h:invE tb env ops n i = some (t,v,name,vs,d))
  (hm:∀ w,(method (P.types.size + Made.depth) t v name).run P w = .ok (f,v') w)
  (hf:∀ args w,(callFunc f args).run P w = .ok (.enter f args) w) (hfn:P.funcs[f]? = some fn) (hb:fn.body = some c) (hn:fn.ntmps = n') (hl:Nat.ble (v' :: vs).length n' = true)
  (K:∀ a2,EnvOk n' tb (qdX 0 (v' :: vs)) a2 → c.wp P (bodyPost P fn (fun e w'=>∃ v,e = .returned v ∧ ∀ a',EnvOk n tb ((d,.v v) :: env) a' → N a' w')) a2 w):wpOp P ops Q i N a w :=
 qdc hE h hm hf (R:=fun e w'=>∃ v,e = .returned v ∧ ∀ a',EnvOk n tb ((d,.v v) :: env) a' → N a' w')
  (enter hfn hb hn hl fun a2 h2=>K a2 (h2.table fun i hi=>by simp at hi)) fun e w' h=>h
theorem qhb {c:Code} {k:Nat} (h:c.wp P (Exit.then (Code.rounds P c Q k) Q) a w):Code.rounds P c Q (k + 1) a w:=h
end
section
variable {P:Program} {ops:Array Oper} {Q:Exit → Act → World → Prop} {n:Nat} {tb:Tb} {env:Env} {rs:List Rw} {w0:World} {M:Nat → Nat → Prop} {a:Act} {w:World}
theorem qhP {i d k g m0 c m cs:Nat} {t e:TypeId} {size bytes:Nat} {ad:Addr} {xs news:List Value} {N:Act → World → Prop} (hW:WOk w0 M w tb rs) (hE:EnvOk n tb env a)
  (h:appE tb env ops n i = some (t,t,.slice (some ⟨g,0,none⟩) 0 c,.slice (some ad) m cs,d)) (ht:qch P t = some (e,size,bytes)) (hk:rs[k]? = some ⟨some ⟨g,0,none⟩,c,e,size,m0,xs⟩)
  (hs:Src w (some ad) m size news) (hm:m ≤ m0)
  (K:∀ a' w',Fr w tb rs w' tb (rs.set k ⟨some ⟨g,0,none⟩,c,e,size,m0,qbx xs 0 news⟩) → WOk w0 M w' tb (rs.set k ⟨some ⟨g,0,none⟩,c,e,size,m0,qbx xs 0 news⟩) →
   EnvOk n tb ((d,.v (.slice (some ⟨g,0,none⟩) m c)) :: env) a' → N a' w'):wpOp P ops Q i N a w:=by
 obtain ⟨ht',inf,z,hi,hz,hzs,rfl,rfl,hsz,hbp⟩:=qcs ht
 obtain ⟨op,ho,hd,hrun⟩:=qgB (P:=P) (w:=w) hE h
 obtain ⟨o,h1,h2,h3,h4,h5⟩:=qbn hE ho
 have hown:w.ownsRow 0 e inf.size (.slice (some ⟨g,0,none⟩) m0 c) m0 xs:=hW.own k _ hk
 have hl:=hs.len
 have hmm:m * inf.size ≤ m0 * inf.size:=Nat.mul_le_mul_right _ hm
 obtain ⟨cur,hg,hsz',hown'⟩:=qh3 (o:=0) (vs:=news) hown (by rw [hl]; omega)
 have hc:m0 ≤ c:=by
  rcases hown.2 with ⟨hv,_⟩ | ⟨g',cap,cur',hv,_,_,hnc,_⟩
  ·cases hv
  simp only [Value.slice.injEq] at hv
  obtain ⟨_,_,rfl⟩:=hv
  exact hnc
 have hr:=run_append_room (P:=P) w t o.type e inf ht' hi g 0 c cur hg ad m cs news hl (fun j u hu=>hs.cells ad rfl j u hu) (fun u hu=>hs.one u hu) (by omega) (by omega)
 simp only [Nat.zero_mul,Nat.zero_add] at hr hown'
 have hst:Step w (w.setRow g (cur.toList.take 0 ++ news ++ cur.toList.drop news.length).toArray) (Blk (some ⟨g,0,none⟩)):=(Step.setRow w g _).mono fun b _ _ hb=>by rw [hb]; rfl
 simp only [wpOp,h1]
 have:Region.wanted o (yielded ops a.tmps) = true:=by first | exact h2 | simp [Region.wanted,h2]
 rw [this]
 simp only [if_true]
 refine .inl ?_
 unfold Oper.wp
 rw [hrun o _ _ h5 hr,Oper.upon,h3]
 exact K _ _ (Fr.grow tb (r':=⟨some ⟨g,0,none⟩,c,e,inf.size,m0,qbx xs 0 news⟩) hk hst fun g' hg'=>.inl hg') (hW.grow (r':=⟨some ⟨g,0,none⟩,c,e,inf.size,m0,qbx xs 0 news⟩) hk hst hown' fun g' hg'=>.inl hg') (hE.put hd (.v _) trivial)
theorem qiv {i j d1 d k g m0 c:Nat} {t e:TypeId} {size bytes len:Nat} {xs cs:List Value} {rest:List Nat} (hW:WOk w0 M w tb rs) (hE:EnvOk n tb env a)
  (h1:litE P tb env ops n i = some (e,size,len,cs,d1)) (ht:qch P t = some (e,size,bytes))
  (h2:∀ b,appE tb ((d1,.v (.slice (some ⟨b,0,none⟩) len len)) :: env) ops n j = some (t,t,.slice (some ⟨g,0,none⟩) 0 c,.slice (some ⟨b,0,none⟩) len len,d))
  (hk:rs[k]? = some ⟨some ⟨g,0,none⟩,c,e,size,m0,xs⟩) (hone:qeD cs = true) (hm:len ≤ m0)
  (K:∀ a' w',Fr w tb rs w' tb (rs.set k ⟨some ⟨g,0,none⟩,c,e,size,m0,qbx xs 0 cs⟩) → WOk w0 M w' tb (rs.set k ⟨some ⟨g,0,none⟩,c,e,size,m0,qbx xs 0 cs⟩) →
   (∃ b,EnvOk n tb ((d,.v (.slice (some ⟨g,0,none⟩) len c)) :: (d1,.v (.slice (some ⟨b,0,none⟩) len len)) :: env) a') → wpOps P ops Q rest a' w'):wpOps P ops Q (i :: j :: rest) a w:=by
 obtain ⟨op,ho,hd,hl,hrun⟩:=qhU (P:=P) (w:=w) hE h1
 rw [wpOps_cons]
 refine qa0 hE ho hrun ?_
 rw [wpOps_cons]
 have hF1:Fr w tb rs (w.alloc (.cells cs.toArray e)) tb rs:=Fr.nil tb rs (Step.alloc _ _)
 have hW1:=hW.next_nil (Step.alloc w (.cells cs.toArray e))
 have hE1:=hE.put hd (.v (.slice (some ⟨w.heap.size,0,none⟩) len len)) trivial
 have hs:Src (w.alloc (.cells cs.toArray e)) (some ⟨w.heap.size,0,none⟩) len size cs:=by
  refine ⟨hl,fun h=>by (cases h),fun ad hA q u hu=>?_,qdW hone⟩
  simp only [Option.some.injEq] at hA
  subst hA
  rw [qbN,Nat.zero_add,qdl]
  simpa using hu
 refine qhP hW1 hE1 (h2 w.heap.size) ht hk hs hm fun a' w' hF hW' hE'=>?_
 exact K a' w' (hF1.trans hF) hW' ⟨w.heap.size,hE'⟩
end
theorem qec (x:Int):be 2 (IntKind.i64.wrap x) = be 2 x:=by
 rw [IntKind.wrap_i64]
 simp only [be,List.cons.injEq,and_true]
 exact ⟨qaX (by simp only [Int.reducePow]; omega),qaX (by simp only [Int.reducePow]; omega)⟩
theorem qed (x:Int):be 4 (IntKind.i64.wrap x) = be 4 x:=by
 rw [IntKind.wrap_i64]
 simp only [be,List.cons.injEq,and_true]
 refine ⟨qaX ?_,qaX ?_,qaX ?_,qaX ?_⟩ <;> simp only [Int.reducePow] <;> omega
def outB (key v num:Int) (has:Bool) (txt:Bs) (flex:Bool) (body:Bs):Bs :=
 be 2 key ++ (be 2 v ++ (be 4 num ++ ((if has = true then be 2 ((txt.length:Nat):Int) ++ txt else be 2 (-1)) ++ ((if flex = true then [0] else []) ++ body))))
def qbf (key v num:Int) (has:Bool) (txt:Bs) (flex:Bool) (body:Bs):Bs :=
 be 4 (((outB key v num has txt flex body).length:Nat):Int) ++ outB key v num has txt flex body
theorem qmt {key v num:Int} {has flex:Bool} {txt body:Bs}:(outB key v num has txt flex body).length ≤ txt.length + body.length + 16:=by
 unfold outB
 simp only [List.length_append,be_length]
 cases has <;> cases flex <;> simp <;> omega
theorem qkN {key v num:Int} {has flex:Bool} {txt body:Bs}:(qbf key v num has txt flex body).length ≤ txt.length + body.length + 20:=by
 have:=qmt (key:=key) (v:=v) (num:=num) (has:=has) (txt:=txt) (flex:=flex) (body:=body)
 unfold qbf
 simp only [List.length_append,be_length]
 omega
theorem qiw {s:Bs} {x:Int} {cs:List Value} (hc:cs = bc (be 4 x)):qbx (bc s) 0 cs = bc (be 4 x ++ s.drop 4):=by
 subst hc
 have e:(bc (be 4 x)).length = 4:=by simp [bc]
 unfold qbx
 rw [e]
 simp only [List.take_zero,List.nil_append,Nat.zero_add,bc,List.map_append,List.map_drop]
def qlQ (w:World) (A:Option Addr) (c:Nat) (s:Bs) (x:Int):Ending → World → Prop:=fun e w' =>
 e = .returned (.slice A 4 c) ∧ w'.ownsRow 0 5 1 (.slice A s.length c) s.length (bc (be 4 x ++ s.drop 4)) ∧ Step w w' (Blk A)
abbrev z14 (x0):=([.int .u8 (IntKind.u8.wrap (Int.fdiv x0 16777216)),.int .u8 (IntKind.u8.wrap (Int.fdiv x0 65536)),.int .u8 (IntKind.u8.wrap (Int.fdiv x0 256)),.int .u8 (IntKind.u8.wrap x0)]:List Value)
theorem qf9 (x:Int) (A:Option Addr) (c:Nat) (s:Bs) (w:World) (ho:w.ownsRow 0 5 1 (.slice A s.length c) s.length (bc s)) (h4:4 ≤ s.length) :
  Calls Tryz.prog 76 #[.slice A 0 c,.int .u32 x] w (qlQ w A c s x):=by
 obtain ⟨g,rfl⟩:=qcE ho (by omega)
 refine enter (n:=19) Tryz.func76 rfl Tryz.ntmps76 kz fun a hE=>?_
 have hW:=WOk.startRow w ho
 refine qad [0] kz ?_
 refine qaP [0] [] [0,1] hW hE (env':=[(0,.v (.slice (some ⟨g,0,none⟩) 0 c)),(1,.v (.int .u32 x))]) kz rfl fun a1 hE1=>?_
 refine qae (qaa ?_)
 refine qad [0,1,2,3,4,5,6,7,8,9,10,11,12,13,14] kz ?_
 refine qaP [0,1,2,3,4,5,6,7,8,9,10,11] [12,13,14] [5,8,11,14,16] hW hE1 (env':=[(5,.v (.slice (some ⟨g,0,none⟩) 0 c)),(8,.v (.int .u8 (IntKind.u8.wrap (Int.fdiv x 16777216)))),(11,.v (.int .u8 (IntKind.u8.wrap (Int.fdiv x 65536)))),(14,.v (.int .u8 (IntKind.u8.wrap (Int.fdiv x 256)))),(16,.v (.int .u8 (IntKind.u8.wrap x)))]) kz rfl fun a2 hE2=>?_
 refine qiv hW hE2 (k:=0) (g:=g) (c:=c) (m0:=s.length) (e:=5) (size:=1) (len:=4) (cs:=(z14 x)) (d1:=17) (d:=18) kz (t:=24) (bytes:=1) kz (fun _=>by kernel_rfl) rfl kz h4 fun a3 w3 hF3 hW3 ⟨_,hE3⟩=>?_
 refine qaP [14] [] [4] hW3 hE3 (env':=[(4,.v (.slice (some ⟨g,0,none⟩) 4 c))]) kz rfl fun a4 hE4=>?_
 refine qae (qaa ?_)
 refine wp_ret (qaD hE4 hW3.cells (v:=.slice (some ⟨g,0,none⟩) 4 c) kz ?_)
 have h0:w3.ownsRow 0 5 1 (.slice (some ⟨g,0,none⟩) s.length c) s.length (qbx (bc s) 0 (z14 x)):=hW3.own 0 _ rfl
 have hc:([.int .u8 (IntKind.u8.wrap (Int.fdiv x 16777216)),.int .u8 (IntKind.u8.wrap (Int.fdiv x 65536)),.int .u8 (IntKind.u8.wrap (Int.fdiv x 256)),.int .u8 (IntKind.u8.wrap x)]:List Value) = bc (be 4 x):=by
  rw [show be 4 x = [by8 (Int.fdiv x 16777216),by8 (Int.fdiv x 65536),by8 (Int.fdiv x 256),by8 x] by simp [be,Int.fdiv_eq_ediv_of_nonneg]]
  simp only [bc,List.map,qbK]
  try rfl
 rw [qiw hc] at h0
 exact ⟨rfl,h0,hW3.step⟩
theorem qbP (x:Int) (A:Option Addr) (c:Nat) (s:Bs) (w:World) (ho:w.ownsRow 0 5 1 (.slice A s.length c) s.length (bc s)) (h4:4 ≤ s.length) :
  Calls Tryz.prog 68 #[.slice A 0 c,.int .i32 x] w (qlQ w A c s x):=by
 refine enter (n:=9) Tryz.func68 rfl Tryz.ntmps68 kz fun a hE=>?_
 have hW:=WOk.startRow w ho
 refine qad [0] kz ?_
 refine qaP [0] [] [0,1] hW hE (env':=[(0,.v (.slice A 0 c)),(1,.v (.int .i32 x))]) kz rfl fun a1 hE1=>?_
 refine qae (qaa ?_)
 refine qad [0,1,2,3,4] kz ?_
 refine qaP [0,1,2] [3,4] [5,7] hW hE1 (env':=[(5,.v (.slice A 0 c)),(7,.v (.int .u32 (IntKind.u32.wrap x)))]) kz rfl fun a2 hE2=>?_
 refine qam (qal hE2 (f:=76) (vs:=[.slice A 0 c,.int .u32 (IntKind.u32.wrap x)]) (d:=8) kz Tryz.call76 (qf9 (IntKind.u32.wrap x) A c s _ (hW.own 0 _ rfl) h4) ?_)
 rintro e_ w3 ⟨rfl,ho3,hs3⟩
 refine ⟨_,rfl,fun a3 hE3=>?_⟩
 have hW3:WOk _ _ _ _ [⟨A,c,5,1,s.length,bc (be 4 (IntKind.u32.wrap x) ++ s.drop 4)⟩]:=hW.grow (k:=0) (r':=⟨A,c,5,1,s.length,bc (be 4 (IntKind.u32.wrap x) ++ s.drop 4)⟩) rfl hs3 ho3 fun g' hg'=>.inl hg'
 refine qaP [4] [] [4] hW3 hE3 (env':=[(4,.v (.slice A 4 c))]) kz rfl fun a4 hE4=>?_
 refine qae (qaa ?_)
 refine wp_ret (qaD hE4 hW3.cells (v:=.slice A 4 c) kz ?_)
 have h0:w3.ownsRow 0 5 1 (.slice A s.length c) s.length (bc (be 4 (IntKind.u32.wrap x) ++ s.drop 4)):=ho3
 rw [qiz] at h0
 exact ⟨rfl,h0,hs3⟩
theorem qeC:by8 0 = 0:=rfl
theorem qb4 (t:ByteArray):(sb t).length = t.size:=by simp [sb]
theorem qcS {S R:Bs} {key v num:Int} {has flex:Bool} {txt body:Bs} (hS:S = [0,0,0,0] ++ R) (hR:R = outB key v num has txt flex body:=by rfl):be 4 (IntKind.i32.wrap (((S.length - 4:Nat):Int))) ++ S.drop 4 = qbf key v num has txt flex body:=by
 subst hS
 subst hR
 have e:([0,0,0,0] ++ outB key v num has txt flex body).length - 4 = (outB key v num has txt flex body).length:=by
  rw [List.length_append]
  show 4 + (outB key v num has txt flex body).length - 4 = _
  omega
 rw [be4_i32',e]
 rfl
theorem qcT {w0 w:World} {tb:Tb} {rs:List Rw} {k e c:Nat} {x:Int} {A:Option Addr} {S:Bs} (hW:WOk w0 Nil w tb rs) (hk:rs[k]? = some ⟨A,c,e,1,S.length,bc (be 4 x ++ S.drop 4)⟩) {Z:Bs} (hY:be 4 x ++ S.drop 4 = Z) (h4:4 ≤ S.length):∃ A' c',(Ending.returned (.tuple #[.slice A S.length c,.bool true])) = .returned (.tuple #[.slice A' Z.length c',.bool true]) ∧ w.ownsRow w0.heap.size e 1 (.slice A' Z.length c') Z.length (bc Z) ∧ Step w0 w Nil:=by
 have hl:S.length = Z.length:=by
  rw [← hY,List.length_append,be_length,List.length_drop]; omega
 rw [hY] at hk
 rw [hl] at hk ⊢
 exact ⟨A,c,rfl,qhi hW hk rfl (hW.own k _ hk),hW.step⟩
theorem qlR (key v num:Int) (has flex:Bool) (A1:Option Addr) (c1:Nat) (id:Bs) (A2:Option Addr) (c2:Nat) (body:Bs) (w:World) (F:Nat → Nat → Prop) (h1:Octs w F A1 c1 id) (h2:Octs w F A2 c2 body) (hroom:id.length + body.length + 64 ≤ 1099511627776) :
  Calls Tryz.prog 12 #[.int .i64 key,.int .i64 v,.int .i32 num,.bool has,.slice A1 id.length c1,.bool flex,.slice A2 body.length c2] w (qd0 w 5 (qbf key v num has id flex body)):=by
 refine enter (n:=49) Tryz.func12 rfl Tryz.ntmps12 kz fun a hE=>?_
 have hW:=WOk.start w Nil
 let aC:Nat × SV:=(2,.v (.int .i32 num))
 let af:Nat × SV:=(3,.v (.bool has))
 let ac:Nat × SV:=(4,.v (.slice A1 id.length c1))
 let ab:Nat × SV:=(5,.v (.bool flex))
 let aa:Nat × SV:=(6,.v (.slice A2 body.length c2))
 refine qat [(0,.v (.int .i64 key)),(1,.v (.int .i64 v)),aC,af,ac,ab,aa] hW hE fun a1 hE2=>?_
 refine qad [0,1,2,3,4,5] kz ?_
 refine qaj [0] [1,2,3,4,5] [(1,.v (.int .i64 v)),aC,af,ac,ab,aa,(16,.v (.int .i64 key))] hW hE2 fun a3 hE4=>?_
 refine qam (qal hE4 (f:=22) (vs:=[.int .i64 key,.int .i64 2]) (d:=17) kz Tryz.call22 (qcX key 2 (by first | decide | exact qbi _ | omega) _) ?_)
 rintro e_ w9 ⟨A7,c8,rfl,ho6,hs5⟩
 refine ⟨_,rfl,fun il eB=>?_⟩
 obtain ⟨cd,fP⟩:=hW.frFresh hs5 (brow A7 c8 5 (be 2 key)) (Nat.le_refl _) ho6
 let bj:Nat × SV:=(17,.v (.slice A7 ((be 2 key).length) c8))
 let bk:Nat × SV:=(18,.v (.int .i64 v))
 refine qaj [2] [3,4,5] [aC,af,ac,ab,aa,bj,bk] cd eB fun im eC=>?_
 refine qam (qal eC (f:=22) (vs:=[.int .i64 v,.int .i64 2]) (d:=19) kz Tryz.call22 (qcX v 2 (by first | decide | exact qbi _ | omega) _) ?_)
 rintro e_ io ⟨aG,aH,rfl,eD,eE⟩
 refine ⟨_,rfl,fun ip eF=>?_⟩
 obtain ⟨bW,fQ⟩:=cd.frFresh eE (brow aG aH 5 (be 2 v)) (Nat.le_refl _) eD
 refine qam (qaI bW eF (k:=0) (d:=20) (t:=24) (e:=5) (size:=1) (bytes:=1) (A:=A7) (As:=aG) (m0:=((be 2 key).length)) (c:=c8) (m:=((be 2 v).length)) (cs:=aH) (xs:=(bc (be 2 key))) (news:=bc (be 2 v)) kz kz rfl (qb8 (bW.own 1 _ rfl) (qcu _)) (qcj (bW.own 1 _ rfl)) (by first | omega | (simp only [List.length_append,List.length_cons,List.length_nil,be_length]; omega) | (simp; omega)) fun bR bS iq ir fR eG eH=>?_)
 have eI:(⟨bR,bS,5,1,(be 2 key).length + (be 2 v).length,bc (be 2 key) ++ bc (be 2 v)⟩:Rw) = brow bR bS 5 (be 2 key ++ (be 2 v)):=qa6 (rfl) rfl
 obtain ⟨bX,fS⟩:=eG.rowEq 0 [brow bR bS 5 (be 2 key ++ (be 2 v)),brow aG aH 5 (be 2 v)] eI
 let bT:Nat × SV:=(19,.v (.slice aG ((be 2 v).length) aH))
 have eJ:=EnvOk.pick eH (ks:=[2,3,4,5,6,17,18,19,20]) (env':=[aC,af,ac,ab,aa,bj,bk,bT,(20,.v (.slice bR ((be 2 key).length + (be 2 v).length) bS))]) kz
 have eK:=eJ.cast (env':=[aC,af,ac,ab,aa,bj,bk,bT,(20,.v (.slice bR ((be 2 key ++ (be 2 v)).length) bS))]) (by simp only [List.length_append,List.length_cons,List.length_nil,Nat.zero_add])
 refine qaj [5] [] [aC,af,ac,ab,aa,(15,.v (.slice bR ((be 2 key ++ (be 2 v)).length) bS))] bX eK fun iu eM=>?_
 refine qae (qaa ?_)
 refine qad [0,1,2,3,4,5] kz ?_
 let bn:Nat × SV:=(21,.v (.slice bR ((be 2 key ++ (be 2 v)).length) bS))
 refine qaj [0,1,2] [3,4,5] [af,ac,ab,aa,bn,(23,.v (.int .i64 (IntKind.i64.wrap num)))] bX eM fun iv eN=>?_
 let aK:Value:=.int .i64 4
 refine qam (qal eN (f:=22) (vs:=[.int .i64 (IntKind.i64.wrap num),aK]) (d:=24) kz Tryz.call22 (qcX (IntKind.i64.wrap num) 4 (by first | decide | exact qbi _ | omega) _) ?_)
 rintro e_ iw ⟨aI,aJ,rfl,eO,eP⟩
 refine ⟨_,rfl,fun ix eQ=>?_⟩
 obtain ⟨bY,fT⟩:=bX.frFresh eP (brow aI aJ 5 (be 4 (IntKind.i64.wrap num))) (Nat.le_refl _) eO
 refine qam (qaI bY eQ (k:=0) (d:=25) (t:=24) (e:=5) (size:=1) (bytes:=1) (A:=bR) (As:=aI) (m0:=((be 2 key ++ (be 2 v)).length)) (c:=bS) (m:=((be 4 (IntKind.i64.wrap num)).length)) (cs:=aJ) (xs:=(bc (be 2 key ++ (be 2 v)))) (news:=bc (be 4 (IntKind.i64.wrap num))) kz kz rfl (qb8 (bY.own 2 _ rfl) (qcu _)) (qcj (bY.own 2 _ rfl)) (by first | omega | (simp only [List.length_append,List.length_cons,List.length_nil,be_length]; omega) | (simp; omega)) fun aN aO iy iz fV eR eS=>?_)
 have eT:(⟨aN,aO,5,1,(be 2 key ++ (be 2 v)).length + (be 4 (IntKind.i64.wrap num)).length,bc (be 2 key ++ (be 2 v)) ++ bc (be 4 (IntKind.i64.wrap num))⟩:Rw) = brow aN aO 5 (be 2 key ++ (be 2 v) ++ (be 4 (IntKind.i64.wrap num))):=qa6 (rfl) rfl
 obtain ⟨bg,fW⟩:=eR.rowEq 0 [brow aN aO 5 (be 2 key ++ (be 2 v) ++ (be 4 (IntKind.i64.wrap num))),brow aG aH 5 (be 2 v),brow aI aJ 5 (be 4 (IntKind.i64.wrap num))] eT
 have eU:=EnvOk.pick eS (ks:=[3,4,5,6,21,23,24,25]) (env':=[af,ac,ab,aa,bn,(23,.v (.int .i64 (IntKind.i64.wrap num))),(24,.v (.slice aI ((be 4 (IntKind.i64.wrap num)).length) aJ)),(25,.v (.slice aN ((be 2 key ++ (be 2 v)).length + (be 4 (IntKind.i64.wrap num)).length) aO))]) kz
 have eV:=eU.cast (env':=[af,ac,ab,aa,bn,(23,.v (.int .i64 (IntKind.i64.wrap num))),(24,.v (.slice aI ((be 4 (IntKind.i64.wrap num)).length) aJ)),(25,.v (.slice aN ((be 2 key ++ (be 2 v) ++ (be 4 (IntKind.i64.wrap num))).length) aO))]) (by simp only [List.length_append,List.length_cons,List.length_nil,Nat.zero_add])
 refine qaj [5] [] [af,ac,ab,aa,(15,.v (.slice aN ((be 2 key ++ (be 2 v) ++ (be 4 (IntKind.i64.wrap num))).length) aO))] bg eV fun iA eW=>?_
 refine qae (qaa ?_)
 refine wp_seq (qat [ac,ab,aa,(15,.v (.slice aN ((be 2 key ++ (be 2 v) ++ (be 4 (IntKind.i64.wrap num))).length) aO)),(26,.v (.bool has))] bg eW fun iB bZ=>?_)
 let ae:Nat × SV:=(42,.v (.slice A2 body.length c2))
 refine qaA bZ (b:=has) kz (fun aD=>?_) (fun aD=>?_)
 ·
  refine qaq [0,1,2,3,4,5,6,7] kz ?_
  let bo:Nat × SV:=(29,.v (.int .i64 ((id.length:Nat):Int)))
  refine qaj [0,1,2] [3,4,5,6,7] [ac,ab,aa,(27,.v (.slice aN ((be 2 key ++ (be 2 v) ++ (be 4 (IntKind.i64.wrap num))).length) aO)),bo] bg bZ fun iC eX=>?_
  refine qam (qal eX (f:=22) (vs:=[.int .i64 ((id.length:Nat):Int),.int .i64 2]) (d:=30) kz Tryz.call22 (qcX ((id.length:Nat):Int) 2 (by first | decide | exact qbi _ | omega) _) ?_)
  rintro e_ iD ⟨bN,bO,rfl,eY,eZ⟩
  refine ⟨_,rfl,fun iE e9=>?_⟩
  obtain ⟨b8,fX⟩:=bg.frFresh eZ (brow bN bO 5 (be 2 ((id.length:Nat):Int))) (Nat.le_refl _) eY
  refine qam (qaI b8 e9 (k:=0) (d:=31) (t:=24) (e:=5) (size:=1) (bytes:=1) (A:=aN) (As:=bN) (m0:=((be 2 key ++ (be 2 v) ++ (be 4 (IntKind.i64.wrap num))).length)) (c:=aO) (m:=((be 2 ((id.length:Nat):Int)).length)) (cs:=bO) (xs:=(bc (be 2 key ++ (be 2 v) ++ (be 4 (IntKind.i64.wrap num))))) (news:=bc (be 2 ((id.length:Nat):Int))) kz kz rfl (qb8 (b8.own 3 _ rfl) (qcu _)) (qcj (b8.own 3 _ rfl)) (by first | omega | (simp only [List.length_append,List.length_cons,List.length_nil,be_length]; omega) | (simp; omega)) fun bP bQ iF iG fY fa fb=>?_)
  have fe:(⟨bP,bQ,5,1,(be 2 key ++ (be 2 v) ++ (be 4 (IntKind.i64.wrap num))).length + (be 2 ((id.length:Nat):Int)).length,bc (be 2 key ++ (be 2 v) ++ (be 4 (IntKind.i64.wrap num))) ++ bc (be 2 ((id.length:Nat):Int))⟩:Rw) = brow bP bQ 5 (be 2 key ++ (be 2 v) ++ (be 4 (IntKind.i64.wrap num)) ++ (be 2 ((id.length:Nat):Int))):=qa6 (rfl) rfl
  obtain ⟨bh,fZ⟩:=fa.rowEq 0 [brow bP bQ 5 (be 2 key ++ (be 2 v) ++ (be 4 (IntKind.i64.wrap num)) ++ (be 2 ((id.length:Nat):Int))),brow aG aH 5 (be 2 v),brow aI aJ 5 (be 4 (IntKind.i64.wrap num)),brow bN bO 5 (be 2 ((id.length:Nat):Int))] fe
  let bU:Nat × SV:=(30,.v (.slice bN ((be 2 ((id.length:Nat):Int)).length) bO))
  have ff:=EnvOk.pick fb (ks:=[4,5,6,27,29,30,31]) (env':=[ac,ab,aa,(27,.v (.slice aN ((be 2 key ++ (be 2 v) ++ (be 4 (IntKind.i64.wrap num))).length) aO)),bo,bU,(31,.v (.slice bP ((be 2 key ++ (be 2 v) ++ (be 4 (IntKind.i64.wrap num))).length + (be 2 ((id.length:Nat):Int)).length) bQ))]) kz
  have fg:=ff.cast (env':=[ac,ab,aa,(27,.v (.slice aN ((be 2 key ++ (be 2 v) ++ (be 4 (IntKind.i64.wrap num))).length) aO)),bo,bU,(31,.v (.slice bP ((be 2 key ++ (be 2 v) ++ (be 4 (IntKind.i64.wrap num)) ++ (be 2 ((id.length:Nat):Int))).length) bQ))]) (by simp only [List.length_append,List.length_cons,List.length_nil,Nat.zero_add])
  let bp:Nat × SV:=(32,.v (.slice A1 id.length c1))
  refine qaj [5] [6,7] [ab,aa,(31,.v (.slice bP ((be 2 key ++ (be 2 v) ++ (be 4 (IntKind.i64.wrap num)) ++ (be 2 ((id.length:Nat):Int))).length) bQ)),bp] bh fg fun iH fh=>?_
  refine qam (qaI bh fh (k:=0) (d:=33) (t:=24) (e:=5) (size:=1) (bytes:=1) (A:=bP) (As:=A1) (m0:=((be 2 key ++ (be 2 v) ++ (be 4 (IntKind.i64.wrap num)) ++ (be 2 ((id.length:Nat):Int))).length)) (c:=bQ) (m:=id.length) (cs:=c1) (xs:=(bc (be 2 key ++ (be 2 v) ++ (be 4 (IntKind.i64.wrap num)) ++ (be 2 ((id.length:Nat):Int))))) (news:=bc id) kz kz rfl (h1.move bh.step nilM bh.imm).src (h1.move bh.step nilM bh.imm).cap (by first | omega | (simp only [List.length_append,List.length_cons,List.length_nil,be_length]; omega) | (simp; omega)) fun aX aY iI iJ f5 fi fj=>?_)
  have ce:(⟨aX,aY,5,1,(be 2 key ++ (be 2 v) ++ (be 4 (IntKind.i64.wrap num)) ++ (be 2 ((id.length:Nat):Int))).length + id.length,bc (be 2 key ++ (be 2 v) ++ (be 4 (IntKind.i64.wrap num)) ++ (be 2 ((id.length:Nat):Int))) ++ bc id⟩:Rw) = brow aX aY 5 (be 2 key ++ (be 2 v) ++ (be 4 (IntKind.i64.wrap num)) ++ (be 2 ((id.length:Nat):Int)) ++ id):=qa6 (rfl) rfl
  obtain ⟨ag,fk⟩:=fi.rowEq 0 [brow aX aY 5 (be 2 key ++ (be 2 v) ++ (be 4 (IntKind.i64.wrap num)) ++ (be 2 ((id.length:Nat):Int)) ++ id),brow aG aH 5 (be 2 v),brow aI aJ 5 (be 4 (IntKind.i64.wrap num)),brow bN bO 5 (be 2 ((id.length:Nat):Int))] ce
  have cg:=EnvOk.pick fj (ks:=[5,6,31,32,33]) (env':=[ab,aa,(31,.v (.slice bP ((be 2 key ++ (be 2 v) ++ (be 4 (IntKind.i64.wrap num)) ++ (be 2 ((id.length:Nat):Int))).length) bQ)),bp,(33,.v (.slice aX ((be 2 key ++ (be 2 v) ++ (be 4 (IntKind.i64.wrap num)) ++ (be 2 ((id.length:Nat):Int))).length + id.length) aY))]) kz
  have cm:=cg.cast (env':=[ab,aa,(31,.v (.slice bP ((be 2 key ++ (be 2 v) ++ (be 4 (IntKind.i64.wrap num)) ++ (be 2 ((id.length:Nat):Int))).length) bQ)),bp,(33,.v (.slice aX ((be 2 key ++ (be 2 v) ++ (be 4 (IntKind.i64.wrap num)) ++ (be 2 ((id.length:Nat):Int)) ++ id).length) aY))]) (by simp only [List.length_append,List.length_cons,List.length_nil,Nat.zero_add])
  refine qaj [7] [] [ab,aa,(15,.v (.slice aX ((be 2 key ++ (be 2 v) ++ (be 4 (IntKind.i64.wrap num)) ++ (be 2 ((id.length:Nat):Int)) ++ id).length) aY))] ag cm fun f7 cq=>?_
  refine qae (qaa ?_)
  refine wp_seq (qat [aa,(15,.v (.slice aX ((be 2 key ++ (be 2 v) ++ (be 4 (IntKind.i64.wrap num)) ++ (be 2 ((id.length:Nat):Int)) ++ id).length) aY)),(37,.v (.bool flex))] ag cq fun f8 bq=>?_)
  refine qaA bq (b:=flex) kz (fun aL=>?_) (fun aL=>?_)
  ·
   refine qaq [0,1,2,3] kz ?_
   refine qaj [0] [1,2,3] [aa,(38,.v (.slice aX ((be 2 key ++ (be 2 v) ++ (be 4 (IntKind.i64.wrap num)) ++ (be 2 ((id.length:Nat):Int)) ++ id).length) aY))] ag bq fun f9 cr=>?_
   refine qby ag cr (k:=0) (e:=5) (size:=1) (len:=1) (cs:=[.int .u8 0]) (d1:=39) (d:=40) kz (t:=24) (bytes:=1) kz (fun _=>by kernel_rfl) rfl kz (by first | omega | (simp only [List.length_append,List.length_cons,List.length_nil,be_length]; omega) | (simp; omega)) fun ay az ga gb fl cu ⟨_,cv⟩=>?_
   have cw:(⟨ay,az,5,1,(be 2 key ++ (be 2 v) ++ (be 4 (IntKind.i64.wrap num)) ++ (be 2 ((id.length:Nat):Int)) ++ id).length + 1,bc (be 2 key ++ (be 2 v) ++ (be 4 (IntKind.i64.wrap num)) ++ (be 2 ((id.length:Nat):Int)) ++ id) ++ [.int .u8 0]⟩:Rw) = brow ay az 5 (be 2 key ++ (be 2 v) ++ (be 4 (IntKind.i64.wrap num)) ++ (be 2 ((id.length:Nat):Int)) ++ id ++ [by8 0]):=qa6 (by simp only [bc,List.map,qbK]; try rfl) rfl
   obtain ⟨aw,fm⟩:=cu.rowEq 0 [brow ay az 5 (be 2 key ++ (be 2 v) ++ (be 4 (IntKind.i64.wrap num)) ++ (be 2 ((id.length:Nat):Int)) ++ id ++ [by8 0]),brow aG aH 5 (be 2 v),brow aI aJ 5 (be 4 (IntKind.i64.wrap num)),brow bN bO 5 (be 2 ((id.length:Nat):Int))] cw
   have cz:=EnvOk.pick cv (ks:=[6,38,40]) (env':=[aa,(38,.v (.slice aX ((be 2 key ++ (be 2 v) ++ (be 4 (IntKind.i64.wrap num)) ++ (be 2 ((id.length:Nat):Int)) ++ id).length) aY)),(40,.v (.slice ay ((be 2 key ++ (be 2 v) ++ (be 4 (IntKind.i64.wrap num)) ++ (be 2 ((id.length:Nat):Int)) ++ id).length + 1) az))]) kz
   have cA:=cz.cast (env':=[aa,(38,.v (.slice aX ((be 2 key ++ (be 2 v) ++ (be 4 (IntKind.i64.wrap num)) ++ (be 2 ((id.length:Nat):Int)) ++ id).length) aY)),(40,.v (.slice ay ((be 2 key ++ (be 2 v) ++ (be 4 (IntKind.i64.wrap num)) ++ (be 2 ((id.length:Nat):Int)) ++ id ++ [by8 0]).length) az))]) (by simp only [List.length_append,List.length_cons,List.length_nil,Nat.zero_add])
   refine qaj [3] [] [aa,(15,.v (.slice ay ((be 2 key ++ (be 2 v) ++ (be 4 (IntKind.i64.wrap num)) ++ (be 2 ((id.length:Nat):Int)) ++ id ++ [by8 0]).length) az))] aw cA fun gc cB=>?_
   refine qae (qaa ?_)
   refine qad [0,1,2,3] kz ?_
   refine qaj [0,1] [2,3] [(41,.v (.slice ay ((be 2 key ++ (be 2 v) ++ (be 4 (IntKind.i64.wrap num)) ++ (be 2 ((id.length:Nat):Int)) ++ id ++ [by8 0]).length) az)),ae] aw cB fun gd cC=>?_
   refine qam (qaI aw cC (k:=0) (d:=43) (t:=24) (e:=5) (size:=1) (bytes:=1) (A:=ay) (As:=A2) (m0:=((be 2 key ++ (be 2 v) ++ (be 4 (IntKind.i64.wrap num)) ++ (be 2 ((id.length:Nat):Int)) ++ id ++ [by8 0]).length)) (c:=az) (m:=body.length) (cs:=c2) (xs:=(bc (be 2 key ++ (be 2 v) ++ (be 4 (IntKind.i64.wrap num)) ++ (be 2 ((id.length:Nat):Int)) ++ id ++ [by8 0]))) (news:=bc body) kz kz rfl (h2.move aw.step nilM aw.imm).src (h2.move aw.step nilM aw.imm).cap (by first | omega | (simp only [List.length_append,List.length_cons,List.length_nil,be_length]; omega) | (simp; omega)) fun ak al ge gg fo cE cG=>?_)
   have cH:(⟨ak,al,5,1,(be 2 key ++ (be 2 v) ++ (be 4 (IntKind.i64.wrap num)) ++ (be 2 ((id.length:Nat):Int)) ++ id ++ [by8 0]).length + body.length,bc (be 2 key ++ (be 2 v) ++ (be 4 (IntKind.i64.wrap num)) ++ (be 2 ((id.length:Nat):Int)) ++ id ++ [by8 0]) ++ bc body⟩:Rw) = brow ak al 5 (be 2 key ++ (be 2 v) ++ (be 4 (IntKind.i64.wrap num)) ++ (be 2 ((id.length:Nat):Int)) ++ id ++ [by8 0] ++ body):=qa6 (rfl) rfl
   obtain ⟨bt,fq⟩:=cE.rowEq 0 [brow ak al 5 (be 2 key ++ (be 2 v) ++ (be 4 (IntKind.i64.wrap num)) ++ (be 2 ((id.length:Nat):Int)) ++ id ++ [by8 0] ++ body),brow aG aH 5 (be 2 v),brow aI aJ 5 (be 4 (IntKind.i64.wrap num)),brow bN bO 5 (be 2 ((id.length:Nat):Int))] cH
   have cI:=EnvOk.pick cG (ks:=[41,42,43]) (env':=[(41,.v (.slice ay ((be 2 key ++ (be 2 v) ++ (be 4 (IntKind.i64.wrap num)) ++ (be 2 ((id.length:Nat):Int)) ++ id ++ [by8 0]).length) az)),ae,(43,.v (.slice ak ((be 2 key ++ (be 2 v) ++ (be 4 (IntKind.i64.wrap num)) ++ (be 2 ((id.length:Nat):Int)) ++ id ++ [by8 0]).length + body.length) al))]) kz
   have cJ:=cI.cast (env':=[(41,.v (.slice ay ((be 2 key ++ (be 2 v) ++ (be 4 (IntKind.i64.wrap num)) ++ (be 2 ((id.length:Nat):Int)) ++ id ++ [by8 0]).length) az)),ae,(43,.v (.slice ak ((be 2 key ++ (be 2 v) ++ (be 4 (IntKind.i64.wrap num)) ++ (be 2 ((id.length:Nat):Int)) ++ id ++ [by8 0] ++ body).length) al))]) (by simp only [List.length_append,List.length_cons,List.length_nil,Nat.zero_add])
   refine qaj [3] [] [(15,.v (.slice ak ((be 2 key ++ (be 2 v) ++ (be 4 (IntKind.i64.wrap num)) ++ (be 2 ((id.length:Nat):Int)) ++ id ++ [by8 0] ++ body).length) al))] bt cJ fun gh cK=>?_
   refine qae (qaa ?_)
   refine qad [0,1,2,3,4,5] kz ?_
   refine qaj [0,1] [2,3,4,5] [(15,.v (.slice ak ((be 2 key ++ (be 2 v) ++ (be 4 (IntKind.i64.wrap num)) ++ (be 2 ((id.length:Nat):Int)) ++ id ++ [by8 0] ++ body).length) al)),(45,.v (.int .i64 (((be 2 key ++ (be 2 v) ++ (be 4 (IntKind.i64.wrap num)) ++ (be 2 ((id.length:Nat):Int)) ++ id ++ [by8 0] ++ body).length:Nat):Int)))] bt cK fun gi cL=>?_
   refine qam (qal cL (f:=22) (vs:=[.int .i64 (((be 2 key ++ (be 2 v) ++ (be 4 (IntKind.i64.wrap num)) ++ (be 2 ((id.length:Nat):Int)) ++ id ++ [by8 0] ++ body).length:Nat):Int),aK]) (d:=46) kz Tryz.call22 (qcX (((be 2 key ++ (be 2 v) ++ (be 4 (IntKind.i64.wrap num)) ++ (be 2 ((id.length:Nat):Int)) ++ id ++ [by8 0] ++ body).length:Nat):Int) 4 (by first | decide | exact qbi _ | omega) _) ?_)
   rintro e_ gj ⟨bu,bw,rfl,cM,cN⟩
   refine ⟨_,rfl,fun gk cO=>?_⟩
   obtain ⟨aZ,fr⟩:=bt.frFresh cN (brow bu bw 5 (be 4 (((be 2 key ++ (be 2 v) ++ (be 4 (IntKind.i64.wrap num)) ++ (be 2 ((id.length:Nat):Int)) ++ id ++ [by8 0] ++ body).length:Nat):Int))) (Nat.le_refl _) cM
   refine qaj [3] [4,5] [(46,.v (.slice bu ((be 4 (((be 2 key ++ (be 2 v) ++ (be 4 (IntKind.i64.wrap num)) ++ (be 2 ((id.length:Nat):Int)) ++ id ++ [by8 0] ++ body).length:Nat):Int)).length) bw)),(47,.v (.slice ak ((be 2 key ++ (be 2 v) ++ (be 4 (IntKind.i64.wrap num)) ++ (be 2 ((id.length:Nat):Int)) ++ id ++ [by8 0] ++ body).length) al))] aZ cO fun gl cP=>?_
   refine qam (qaI aZ cP (k:=4) (d:=48) (t:=24) (e:=5) (size:=1) (bytes:=1) (A:=bu) (As:=ak) (m0:=((be 4 (((be 2 key ++ (be 2 v) ++ (be 4 (IntKind.i64.wrap num)) ++ (be 2 ((id.length:Nat):Int)) ++ id ++ [by8 0] ++ body).length:Nat):Int)).length)) (c:=bw) (m:=((be 2 key ++ (be 2 v) ++ (be 4 (IntKind.i64.wrap num)) ++ (be 2 ((id.length:Nat):Int)) ++ id ++ [by8 0] ++ body).length)) (cs:=al) (xs:=(bc (be 4 (((be 2 key ++ (be 2 v) ++ (be 4 (IntKind.i64.wrap num)) ++ (be 2 ((id.length:Nat):Int)) ++ id ++ [by8 0] ++ body).length:Nat):Int)))) (news:=bc (be 2 key ++ (be 2 v) ++ (be 4 (IntKind.i64.wrap num)) ++ (be 2 ((id.length:Nat):Int)) ++ id ++ [by8 0] ++ body)) kz kz rfl (qb8 (aZ.own 0 _ rfl) (qcu _)) (qcj (aZ.own 0 _ rfl)) (by first | omega | (simp only [List.length_append,List.length_cons,List.length_nil,be_length]; omega) | (simp; omega)) fun aP aQ gm gn ft cQ cR=>?_)
   have cS:(⟨aP,aQ,5,1,(be 4 (((be 2 key ++ (be 2 v) ++ (be 4 (IntKind.i64.wrap num)) ++ (be 2 ((id.length:Nat):Int)) ++ id ++ [by8 0] ++ body).length:Nat):Int)).length + (be 2 key ++ (be 2 v) ++ (be 4 (IntKind.i64.wrap num)) ++ (be 2 ((id.length:Nat):Int)) ++ id ++ [by8 0] ++ body).length,bc (be 4 (((be 2 key ++ (be 2 v) ++ (be 4 (IntKind.i64.wrap num)) ++ (be 2 ((id.length:Nat):Int)) ++ id ++ [by8 0] ++ body).length:Nat):Int)) ++ bc (be 2 key ++ (be 2 v) ++ (be 4 (IntKind.i64.wrap num)) ++ (be 2 ((id.length:Nat):Int)) ++ id ++ [by8 0] ++ body)⟩:Rw) = brow aP aQ 5 (be 4 (((be 2 key ++ (be 2 v) ++ (be 4 (IntKind.i64.wrap num)) ++ (be 2 ((id.length:Nat):Int)) ++ id ++ [by8 0] ++ body).length:Nat):Int) ++ (be 2 key ++ (be 2 v) ++ (be 4 (IntKind.i64.wrap num)) ++ (be 2 ((id.length:Nat):Int)) ++ id ++ [by8 0] ++ body)):=qa6 (rfl) rfl
   obtain ⟨bx,fu⟩:=cQ.rowEq 4 [brow ak al 5 (be 2 key ++ (be 2 v) ++ (be 4 (IntKind.i64.wrap num)) ++ (be 2 ((id.length:Nat):Int)) ++ id ++ [by8 0] ++ body),brow aG aH 5 (be 2 v),brow aI aJ 5 (be 4 (IntKind.i64.wrap num)),brow bN bO 5 (be 2 ((id.length:Nat):Int)),brow aP aQ 5 (be 4 (((be 2 key ++ (be 2 v) ++ (be 4 (IntKind.i64.wrap num)) ++ (be 2 ((id.length:Nat):Int)) ++ id ++ [by8 0] ++ body).length:Nat):Int) ++ (be 2 key ++ (be 2 v) ++ (be 4 (IntKind.i64.wrap num)) ++ (be 2 ((id.length:Nat):Int)) ++ id ++ [by8 0] ++ body))] cS
   have cU:=EnvOk.pick cR (ks:=[46,47,48]) (env':=[(46,.v (.slice bu ((be 4 (((be 2 key ++ (be 2 v) ++ (be 4 (IntKind.i64.wrap num)) ++ (be 2 ((id.length:Nat):Int)) ++ id ++ [by8 0] ++ body).length:Nat):Int)).length) bw)),(47,.v (.slice ak ((be 2 key ++ (be 2 v) ++ (be 4 (IntKind.i64.wrap num)) ++ (be 2 ((id.length:Nat):Int)) ++ id ++ [by8 0] ++ body).length) al)),(48,.v (.slice aP ((be 4 (((be 2 key ++ (be 2 v) ++ (be 4 (IntKind.i64.wrap num)) ++ (be 2 ((id.length:Nat):Int)) ++ id ++ [by8 0] ++ body).length:Nat):Int)).length + (be 2 key ++ (be 2 v) ++ (be 4 (IntKind.i64.wrap num)) ++ (be 2 ((id.length:Nat):Int)) ++ id ++ [by8 0] ++ body).length) aQ))]) kz
   have cV:=cU.cast (env':=[(46,.v (.slice bu ((be 4 (((be 2 key ++ (be 2 v) ++ (be 4 (IntKind.i64.wrap num)) ++ (be 2 ((id.length:Nat):Int)) ++ id ++ [by8 0] ++ body).length:Nat):Int)).length) bw)),(47,.v (.slice ak ((be 2 key ++ (be 2 v) ++ (be 4 (IntKind.i64.wrap num)) ++ (be 2 ((id.length:Nat):Int)) ++ id ++ [by8 0] ++ body).length) al)),(48,.v (.slice aP ((be 4 (((be 2 key ++ (be 2 v) ++ (be 4 (IntKind.i64.wrap num)) ++ (be 2 ((id.length:Nat):Int)) ++ id ++ [by8 0] ++ body).length:Nat):Int) ++ (be 2 key ++ (be 2 v) ++ (be 4 (IntKind.i64.wrap num)) ++ (be 2 ((id.length:Nat):Int)) ++ id ++ [by8 0] ++ body)).length) aQ))]) (by simp only [List.length_append,List.length_cons,List.length_nil,Nat.zero_add])
   refine qaj [5] [] [(14,.v (.slice aP ((be 4 (((be 2 key ++ (be 2 v) ++ (be 4 (IntKind.i64.wrap num)) ++ (be 2 ((id.length:Nat):Int)) ++ id ++ [by8 0] ++ body).length:Nat):Int) ++ (be 2 key ++ (be 2 v) ++ (be 4 (IntKind.i64.wrap num)) ++ (be 2 ((id.length:Nat):Int)) ++ id ++ [by8 0] ++ body)).length) aQ))] bx cV fun gp cW=>?_
   refine qae (qaa ?_)
   refine wp_ret (qaD cW bx.cells (v:=.slice aP ((be 4 (((be 2 key ++ (be 2 v) ++ (be 4 (IntKind.i64.wrap num)) ++ (be 2 ((id.length:Nat):Int)) ++ id ++ [by8 0] ++ body).length:Nat):Int) ++ (be 2 key ++ (be 2 v) ++ (be 4 (IntKind.i64.wrap num)) ++ (be 2 ((id.length:Nat):Int)) ++ id ++ [by8 0] ++ body)).length) aQ) kz ?_)
   exact qbc bx (k:=4) rfl (by first | (simp [qbf,outB,qec,qed,qeC,aD,aL]; done) | (simp [qbf,outB,qec,qed,qeC,aD,aL]; omega))
  refine wp_skip (qaa (qad [0,1,2,3] kz ?_))
  refine qaj [0,1] [2,3] [(41,.v (.slice aX ((be 2 key ++ (be 2 v) ++ (be 4 (IntKind.i64.wrap num)) ++ (be 2 ((id.length:Nat):Int)) ++ id).length) aY)),ae] ag bq fun gq cX=>?_
  refine qam (qaI ag cX (k:=0) (d:=43) (t:=24) (e:=5) (size:=1) (bytes:=1) (A:=aX) (As:=A2) (m0:=((be 2 key ++ (be 2 v) ++ (be 4 (IntKind.i64.wrap num)) ++ (be 2 ((id.length:Nat):Int)) ++ id).length)) (c:=aY) (m:=body.length) (cs:=c2) (xs:=(bc (be 2 key ++ (be 2 v) ++ (be 4 (IntKind.i64.wrap num)) ++ (be 2 ((id.length:Nat):Int)) ++ id))) (news:=bc body) kz kz rfl (h2.move ag.step nilM ag.imm).src (h2.move ag.step nilM ag.imm).cap (by first | omega | (simp only [List.length_append,List.length_cons,List.length_nil,be_length]; omega) | (simp; omega)) fun am ao gt gv fv cY cZ=>?_)
  have c5:(⟨am,ao,5,1,(be 2 key ++ (be 2 v) ++ (be 4 (IntKind.i64.wrap num)) ++ (be 2 ((id.length:Nat):Int)) ++ id).length + body.length,bc (be 2 key ++ (be 2 v) ++ (be 4 (IntKind.i64.wrap num)) ++ (be 2 ((id.length:Nat):Int)) ++ id) ++ bc body⟩:Rw) = brow am ao 5 (be 2 key ++ (be 2 v) ++ (be 4 (IntKind.i64.wrap num)) ++ (be 2 ((id.length:Nat):Int)) ++ id ++ body):=qa6 (rfl) rfl
  obtain ⟨bz,fw⟩:=cY.rowEq 0 [brow am ao 5 (be 2 key ++ (be 2 v) ++ (be 4 (IntKind.i64.wrap num)) ++ (be 2 ((id.length:Nat):Int)) ++ id ++ body),brow aG aH 5 (be 2 v),brow aI aJ 5 (be 4 (IntKind.i64.wrap num)),brow bN bO 5 (be 2 ((id.length:Nat):Int))] c5
  have da:=EnvOk.pick cZ (ks:=[41,42,43]) (env':=[(41,.v (.slice aX ((be 2 key ++ (be 2 v) ++ (be 4 (IntKind.i64.wrap num)) ++ (be 2 ((id.length:Nat):Int)) ++ id).length) aY)),ae,(43,.v (.slice am ((be 2 key ++ (be 2 v) ++ (be 4 (IntKind.i64.wrap num)) ++ (be 2 ((id.length:Nat):Int)) ++ id).length + body.length) ao))]) kz
  have db:=da.cast (env':=[(41,.v (.slice aX ((be 2 key ++ (be 2 v) ++ (be 4 (IntKind.i64.wrap num)) ++ (be 2 ((id.length:Nat):Int)) ++ id).length) aY)),ae,(43,.v (.slice am ((be 2 key ++ (be 2 v) ++ (be 4 (IntKind.i64.wrap num)) ++ (be 2 ((id.length:Nat):Int)) ++ id ++ body).length) ao))]) (by simp only [List.length_append,List.length_cons,List.length_nil,Nat.zero_add])
  refine qaj [3] [] [(15,.v (.slice am ((be 2 key ++ (be 2 v) ++ (be 4 (IntKind.i64.wrap num)) ++ (be 2 ((id.length:Nat):Int)) ++ id ++ body).length) ao))] bz db fun gw dc=>?_
  refine qae (qaa ?_)
  refine qad [0,1,2,3,4,5] kz ?_
  refine qaj [0,1] [2,3,4,5] [(15,.v (.slice am ((be 2 key ++ (be 2 v) ++ (be 4 (IntKind.i64.wrap num)) ++ (be 2 ((id.length:Nat):Int)) ++ id ++ body).length) ao)),(45,.v (.int .i64 (((be 2 key ++ (be 2 v) ++ (be 4 (IntKind.i64.wrap num)) ++ (be 2 ((id.length:Nat):Int)) ++ id ++ body).length:Nat):Int)))] bz dc fun gx de=>?_
  refine qam (qal de (f:=22) (vs:=[.int .i64 (((be 2 key ++ (be 2 v) ++ (be 4 (IntKind.i64.wrap num)) ++ (be 2 ((id.length:Nat):Int)) ++ id ++ body).length:Nat):Int),aK]) (d:=46) kz Tryz.call22 (qcX (((be 2 key ++ (be 2 v) ++ (be 4 (IntKind.i64.wrap num)) ++ (be 2 ((id.length:Nat):Int)) ++ id ++ body).length:Nat):Int) 4 (by first | decide | exact qbi _ | omega) _) ?_)
  rintro e_ gy ⟨bA,bB,rfl,df,dg⟩
  refine ⟨_,rfl,fun gz dh=>?_⟩
  obtain ⟨ba,fx⟩:=bz.frFresh dg (brow bA bB 5 (be 4 (((be 2 key ++ (be 2 v) ++ (be 4 (IntKind.i64.wrap num)) ++ (be 2 ((id.length:Nat):Int)) ++ id ++ body).length:Nat):Int))) (Nat.le_refl _) df
  refine qaj [3] [4,5] [(46,.v (.slice bA ((be 4 (((be 2 key ++ (be 2 v) ++ (be 4 (IntKind.i64.wrap num)) ++ (be 2 ((id.length:Nat):Int)) ++ id ++ body).length:Nat):Int)).length) bB)),(47,.v (.slice am ((be 2 key ++ (be 2 v) ++ (be 4 (IntKind.i64.wrap num)) ++ (be 2 ((id.length:Nat):Int)) ++ id ++ body).length) ao))] ba dh fun gA di=>?_
  refine qam (qaI ba di (k:=4) (d:=48) (t:=24) (e:=5) (size:=1) (bytes:=1) (A:=bA) (As:=am) (m0:=((be 4 (((be 2 key ++ (be 2 v) ++ (be 4 (IntKind.i64.wrap num)) ++ (be 2 ((id.length:Nat):Int)) ++ id ++ body).length:Nat):Int)).length)) (c:=bB) (m:=((be 2 key ++ (be 2 v) ++ (be 4 (IntKind.i64.wrap num)) ++ (be 2 ((id.length:Nat):Int)) ++ id ++ body).length)) (cs:=ao) (xs:=(bc (be 4 (((be 2 key ++ (be 2 v) ++ (be 4 (IntKind.i64.wrap num)) ++ (be 2 ((id.length:Nat):Int)) ++ id ++ body).length:Nat):Int)))) (news:=bc (be 2 key ++ (be 2 v) ++ (be 4 (IntKind.i64.wrap num)) ++ (be 2 ((id.length:Nat):Int)) ++ id ++ body)) kz kz rfl (qb8 (ba.own 0 _ rfl) (qcu _)) (qcj (ba.own 0 _ rfl)) (by first | omega | (simp only [List.length_append,List.length_cons,List.length_nil,be_length]; omega) | (simp; omega)) fun aR aS gB gC fy dj dl=>?_)
  have dp:(⟨aR,aS,5,1,(be 4 (((be 2 key ++ (be 2 v) ++ (be 4 (IntKind.i64.wrap num)) ++ (be 2 ((id.length:Nat):Int)) ++ id ++ body).length:Nat):Int)).length + (be 2 key ++ (be 2 v) ++ (be 4 (IntKind.i64.wrap num)) ++ (be 2 ((id.length:Nat):Int)) ++ id ++ body).length,bc (be 4 (((be 2 key ++ (be 2 v) ++ (be 4 (IntKind.i64.wrap num)) ++ (be 2 ((id.length:Nat):Int)) ++ id ++ body).length:Nat):Int)) ++ bc (be 2 key ++ (be 2 v) ++ (be 4 (IntKind.i64.wrap num)) ++ (be 2 ((id.length:Nat):Int)) ++ id ++ body)⟩:Rw) = brow aR aS 5 (be 4 (((be 2 key ++ (be 2 v) ++ (be 4 (IntKind.i64.wrap num)) ++ (be 2 ((id.length:Nat):Int)) ++ id ++ body).length:Nat):Int) ++ (be 2 key ++ (be 2 v) ++ (be 4 (IntKind.i64.wrap num)) ++ (be 2 ((id.length:Nat):Int)) ++ id ++ body)):=qa6 (rfl) rfl
  obtain ⟨bC,fz⟩:=dj.rowEq 4 [brow am ao 5 (be 2 key ++ (be 2 v) ++ (be 4 (IntKind.i64.wrap num)) ++ (be 2 ((id.length:Nat):Int)) ++ id ++ body),brow aG aH 5 (be 2 v),brow aI aJ 5 (be 4 (IntKind.i64.wrap num)),brow bN bO 5 (be 2 ((id.length:Nat):Int)),brow aR aS 5 (be 4 (((be 2 key ++ (be 2 v) ++ (be 4 (IntKind.i64.wrap num)) ++ (be 2 ((id.length:Nat):Int)) ++ id ++ body).length:Nat):Int) ++ (be 2 key ++ (be 2 v) ++ (be 4 (IntKind.i64.wrap num)) ++ (be 2 ((id.length:Nat):Int)) ++ id ++ body))] dp
  have dq:=EnvOk.pick dl (ks:=[46,47,48]) (env':=[(46,.v (.slice bA ((be 4 (((be 2 key ++ (be 2 v) ++ (be 4 (IntKind.i64.wrap num)) ++ (be 2 ((id.length:Nat):Int)) ++ id ++ body).length:Nat):Int)).length) bB)),(47,.v (.slice am ((be 2 key ++ (be 2 v) ++ (be 4 (IntKind.i64.wrap num)) ++ (be 2 ((id.length:Nat):Int)) ++ id ++ body).length) ao)),(48,.v (.slice aR ((be 4 (((be 2 key ++ (be 2 v) ++ (be 4 (IntKind.i64.wrap num)) ++ (be 2 ((id.length:Nat):Int)) ++ id ++ body).length:Nat):Int)).length + (be 2 key ++ (be 2 v) ++ (be 4 (IntKind.i64.wrap num)) ++ (be 2 ((id.length:Nat):Int)) ++ id ++ body).length) aS))]) kz
  have dr:=dq.cast (env':=[(46,.v (.slice bA ((be 4 (((be 2 key ++ (be 2 v) ++ (be 4 (IntKind.i64.wrap num)) ++ (be 2 ((id.length:Nat):Int)) ++ id ++ body).length:Nat):Int)).length) bB)),(47,.v (.slice am ((be 2 key ++ (be 2 v) ++ (be 4 (IntKind.i64.wrap num)) ++ (be 2 ((id.length:Nat):Int)) ++ id ++ body).length) ao)),(48,.v (.slice aR ((be 4 (((be 2 key ++ (be 2 v) ++ (be 4 (IntKind.i64.wrap num)) ++ (be 2 ((id.length:Nat):Int)) ++ id ++ body).length:Nat):Int) ++ (be 2 key ++ (be 2 v) ++ (be 4 (IntKind.i64.wrap num)) ++ (be 2 ((id.length:Nat):Int)) ++ id ++ body)).length) aS))]) (by simp only [List.length_append,List.length_cons,List.length_nil,Nat.zero_add])
  refine qaj [5] [] [(14,.v (.slice aR ((be 4 (((be 2 key ++ (be 2 v) ++ (be 4 (IntKind.i64.wrap num)) ++ (be 2 ((id.length:Nat):Int)) ++ id ++ body).length:Nat):Int) ++ (be 2 key ++ (be 2 v) ++ (be 4 (IntKind.i64.wrap num)) ++ (be 2 ((id.length:Nat):Int)) ++ id ++ body)).length) aS))] bC dr fun gD dt=>?_
  refine qae (qaa ?_)
  refine wp_ret (qaD dt bC.cells (v:=.slice aR ((be 4 (((be 2 key ++ (be 2 v) ++ (be 4 (IntKind.i64.wrap num)) ++ (be 2 ((id.length:Nat):Int)) ++ id ++ body).length:Nat):Int) ++ (be 2 key ++ (be 2 v) ++ (be 4 (IntKind.i64.wrap num)) ++ (be 2 ((id.length:Nat):Int)) ++ id ++ body)).length) aS) kz ?_)
  exact qbc bC (k:=4) rfl (by first | (simp [qbf,outB,qec,qed,qeC,aD,aL]; done) | (simp [qbf,outB,qec,qed,qeC,aD,aL]; omega))
 refine qaq [0,1,2,3] kz ?_
 refine qaj [0] [1,2,3] [ab,aa,(34,.v (.slice aN ((be 2 key ++ (be 2 v) ++ (be 4 (IntKind.i64.wrap num))).length) aO))] bg bZ fun gE du=>?_
 refine qam (qal du (f:=22) (vs:=[.int .i64 (-1),.int .i64 2]) (d:=35) kz Tryz.call22 (qcX (-1) 2 (by first | decide | exact qbi _ | omega) _) ?_)
 rintro e_ gF ⟨aE,aF,rfl,dv,dw⟩
 refine ⟨_,rfl,fun gG dx=>?_⟩
 obtain ⟨bD,fA⟩:=bg.frFresh dw (brow aE aF 5 (be 2 (-1))) (Nat.le_refl _) dv
 refine qam (qaI bD dx (k:=0) (d:=36) (t:=24) (e:=5) (size:=1) (bytes:=1) (A:=aN) (As:=aE) (m0:=((be 2 key ++ (be 2 v) ++ (be 4 (IntKind.i64.wrap num))).length)) (c:=aO) (m:=((be 2 (-1)).length)) (cs:=aF) (xs:=(bc (be 2 key ++ (be 2 v) ++ (be 4 (IntKind.i64.wrap num))))) (news:=bc (be 2 (-1))) kz kz rfl (qb8 (bD.own 3 _ rfl) (qcu _)) (qcj (bD.own 3 _ rfl)) (by first | omega | (simp only [List.length_append,List.length_cons,List.length_nil,be_length]; omega) | (simp; omega)) fun ai aj gH gI fB dy dA=>?_)
 have dB:(⟨ai,aj,5,1,(be 2 key ++ (be 2 v) ++ (be 4 (IntKind.i64.wrap num))).length + (be 2 (-1)).length,bc (be 2 key ++ (be 2 v) ++ (be 4 (IntKind.i64.wrap num))) ++ bc (be 2 (-1))⟩:Rw) = brow ai aj 5 (be 2 key ++ (be 2 v) ++ (be 4 (IntKind.i64.wrap num)) ++ (be 2 (-1))):=qa6 (rfl) rfl
 obtain ⟨ah,fC⟩:=dy.rowEq 0 [brow ai aj 5 (be 2 key ++ (be 2 v) ++ (be 4 (IntKind.i64.wrap num)) ++ (be 2 (-1))),brow aG aH 5 (be 2 v),brow aI aJ 5 (be 4 (IntKind.i64.wrap num)),brow aE aF 5 (be 2 (-1))] dB
 let bV:Nat × SV:=(35,.v (.slice aE ((be 2 (-1)).length) aF))
 have dC:=EnvOk.pick dA (ks:=[5,6,34,35,36]) (env':=[ab,aa,(34,.v (.slice aN ((be 2 key ++ (be 2 v) ++ (be 4 (IntKind.i64.wrap num))).length) aO)),bV,(36,.v (.slice ai ((be 2 key ++ (be 2 v) ++ (be 4 (IntKind.i64.wrap num))).length + (be 2 (-1)).length) aj))]) kz
 have dD:=dC.cast (env':=[ab,aa,(34,.v (.slice aN ((be 2 key ++ (be 2 v) ++ (be 4 (IntKind.i64.wrap num))).length) aO)),bV,(36,.v (.slice ai ((be 2 key ++ (be 2 v) ++ (be 4 (IntKind.i64.wrap num)) ++ (be 2 (-1))).length) aj))]) (by simp only [List.length_append,List.length_cons,List.length_nil,Nat.zero_add])
 refine qaj [3] [] [ab,aa,(15,.v (.slice ai ((be 2 key ++ (be 2 v) ++ (be 4 (IntKind.i64.wrap num)) ++ (be 2 (-1))).length) aj))] ah dD fun gJ dE=>?_
 refine qae (qaa ?_)
 refine wp_seq (qat [aa,(15,.v (.slice ai ((be 2 key ++ (be 2 v) ++ (be 4 (IntKind.i64.wrap num)) ++ (be 2 (-1))).length) aj)),(37,.v (.bool flex))] ah dE fun gK bE=>?_)
 refine qaA bE (b:=flex) kz (fun aM=>?_) (fun aM=>?_)
 ·
  refine qaq [0,1,2,3] kz ?_
  refine qaj [0] [1,2,3] [aa,(38,.v (.slice ai ((be 2 key ++ (be 2 v) ++ (be 4 (IntKind.i64.wrap num)) ++ (be 2 (-1))).length) aj))] ah bE fun gL dF=>?_
  refine qby ah dF (k:=0) (e:=5) (size:=1) (len:=1) (cs:=[.int .u8 0]) (d1:=39) (d:=40) kz (t:=24) (bytes:=1) kz (fun _=>by kernel_rfl) rfl kz (by first | omega | (simp only [List.length_append,List.length_cons,List.length_nil,be_length]; omega) | (simp; omega)) fun aA aB gM gN fD dG ⟨_,dH⟩=>?_
  have dI:(⟨aA,aB,5,1,(be 2 key ++ (be 2 v) ++ (be 4 (IntKind.i64.wrap num)) ++ (be 2 (-1))).length + 1,bc (be 2 key ++ (be 2 v) ++ (be 4 (IntKind.i64.wrap num)) ++ (be 2 (-1))) ++ [.int .u8 0]⟩:Rw) = brow aA aB 5 (be 2 key ++ (be 2 v) ++ (be 4 (IntKind.i64.wrap num)) ++ (be 2 (-1)) ++ [by8 0]):=qa6 (by simp only [bc,List.map,qbK]; try rfl) rfl
  obtain ⟨ax,fE⟩:=dG.rowEq 0 [brow aA aB 5 (be 2 key ++ (be 2 v) ++ (be 4 (IntKind.i64.wrap num)) ++ (be 2 (-1)) ++ [by8 0]),brow aG aH 5 (be 2 v),brow aI aJ 5 (be 4 (IntKind.i64.wrap num)),brow aE aF 5 (be 2 (-1))] dI
  have dJ:=EnvOk.pick dH (ks:=[6,38,40]) (env':=[aa,(38,.v (.slice ai ((be 2 key ++ (be 2 v) ++ (be 4 (IntKind.i64.wrap num)) ++ (be 2 (-1))).length) aj)),(40,.v (.slice aA ((be 2 key ++ (be 2 v) ++ (be 4 (IntKind.i64.wrap num)) ++ (be 2 (-1))).length + 1) aB))]) kz
  have dK:=dJ.cast (env':=[aa,(38,.v (.slice ai ((be 2 key ++ (be 2 v) ++ (be 4 (IntKind.i64.wrap num)) ++ (be 2 (-1))).length) aj)),(40,.v (.slice aA ((be 2 key ++ (be 2 v) ++ (be 4 (IntKind.i64.wrap num)) ++ (be 2 (-1)) ++ [by8 0]).length) aB))]) (by simp only [List.length_append,List.length_cons,List.length_nil,Nat.zero_add])
  refine qaj [3] [] [aa,(15,.v (.slice aA ((be 2 key ++ (be 2 v) ++ (be 4 (IntKind.i64.wrap num)) ++ (be 2 (-1)) ++ [by8 0]).length) aB))] ax dK fun gO dL=>?_
  refine qae (qaa ?_)
  refine qad [0,1,2,3] kz ?_
  refine qaj [0,1] [2,3] [(41,.v (.slice aA ((be 2 key ++ (be 2 v) ++ (be 4 (IntKind.i64.wrap num)) ++ (be 2 (-1)) ++ [by8 0]).length) aB)),ae] ax dL fun gP dM=>?_
  refine qam (qaI ax dM (k:=0) (d:=43) (t:=24) (e:=5) (size:=1) (bytes:=1) (A:=aA) (As:=A2) (m0:=((be 2 key ++ (be 2 v) ++ (be 4 (IntKind.i64.wrap num)) ++ (be 2 (-1)) ++ [by8 0]).length)) (c:=aB) (m:=body.length) (cs:=c2) (xs:=(bc (be 2 key ++ (be 2 v) ++ (be 4 (IntKind.i64.wrap num)) ++ (be 2 (-1)) ++ [by8 0]))) (news:=bc body) kz kz rfl (h2.move ax.step nilM ax.imm).src (h2.move ax.step nilM ax.imm).cap (by first | omega | (simp only [List.length_append,List.length_cons,List.length_nil,be_length]; omega) | (simp; omega)) fun ap ar gQ gR fF dN dO=>?_)
  have dP:(⟨ap,ar,5,1,(be 2 key ++ (be 2 v) ++ (be 4 (IntKind.i64.wrap num)) ++ (be 2 (-1)) ++ [by8 0]).length + body.length,bc (be 2 key ++ (be 2 v) ++ (be 4 (IntKind.i64.wrap num)) ++ (be 2 (-1)) ++ [by8 0]) ++ bc body⟩:Rw) = brow ap ar 5 (be 2 key ++ (be 2 v) ++ (be 4 (IntKind.i64.wrap num)) ++ (be 2 (-1)) ++ [by8 0] ++ body):=qa6 (rfl) rfl
  obtain ⟨bF,fG⟩:=dN.rowEq 0 [brow ap ar 5 (be 2 key ++ (be 2 v) ++ (be 4 (IntKind.i64.wrap num)) ++ (be 2 (-1)) ++ [by8 0] ++ body),brow aG aH 5 (be 2 v),brow aI aJ 5 (be 4 (IntKind.i64.wrap num)),brow aE aF 5 (be 2 (-1))] dP
  have dQ:=EnvOk.pick dO (ks:=[41,42,43]) (env':=[(41,.v (.slice aA ((be 2 key ++ (be 2 v) ++ (be 4 (IntKind.i64.wrap num)) ++ (be 2 (-1)) ++ [by8 0]).length) aB)),ae,(43,.v (.slice ap ((be 2 key ++ (be 2 v) ++ (be 4 (IntKind.i64.wrap num)) ++ (be 2 (-1)) ++ [by8 0]).length + body.length) ar))]) kz
  have dR:=dQ.cast (env':=[(41,.v (.slice aA ((be 2 key ++ (be 2 v) ++ (be 4 (IntKind.i64.wrap num)) ++ (be 2 (-1)) ++ [by8 0]).length) aB)),ae,(43,.v (.slice ap ((be 2 key ++ (be 2 v) ++ (be 4 (IntKind.i64.wrap num)) ++ (be 2 (-1)) ++ [by8 0] ++ body).length) ar))]) (by simp only [List.length_append,List.length_cons,List.length_nil,Nat.zero_add])
  refine qaj [3] [] [(15,.v (.slice ap ((be 2 key ++ (be 2 v) ++ (be 4 (IntKind.i64.wrap num)) ++ (be 2 (-1)) ++ [by8 0] ++ body).length) ar))] bF dR fun gS dS=>?_
  refine qae (qaa ?_)
  refine qad [0,1,2,3,4,5] kz ?_
  refine qaj [0,1] [2,3,4,5] [(15,.v (.slice ap ((be 2 key ++ (be 2 v) ++ (be 4 (IntKind.i64.wrap num)) ++ (be 2 (-1)) ++ [by8 0] ++ body).length) ar)),(45,.v (.int .i64 (((be 2 key ++ (be 2 v) ++ (be 4 (IntKind.i64.wrap num)) ++ (be 2 (-1)) ++ [by8 0] ++ body).length:Nat):Int)))] bF dS fun gT dT=>?_
  refine qam (qal dT (f:=22) (vs:=[.int .i64 (((be 2 key ++ (be 2 v) ++ (be 4 (IntKind.i64.wrap num)) ++ (be 2 (-1)) ++ [by8 0] ++ body).length:Nat):Int),aK]) (d:=46) kz Tryz.call22 (qcX (((be 2 key ++ (be 2 v) ++ (be 4 (IntKind.i64.wrap num)) ++ (be 2 (-1)) ++ [by8 0] ++ body).length:Nat):Int) 4 (by first | decide | exact qbi _ | omega) _) ?_)
  rintro e_ gU ⟨bG,bH,rfl,dU,dV⟩
  refine ⟨_,rfl,fun gV dW=>?_⟩
  obtain ⟨bd,fH⟩:=bF.frFresh dV (brow bG bH 5 (be 4 (((be 2 key ++ (be 2 v) ++ (be 4 (IntKind.i64.wrap num)) ++ (be 2 (-1)) ++ [by8 0] ++ body).length:Nat):Int))) (Nat.le_refl _) dU
  refine qaj [3] [4,5] [(46,.v (.slice bG ((be 4 (((be 2 key ++ (be 2 v) ++ (be 4 (IntKind.i64.wrap num)) ++ (be 2 (-1)) ++ [by8 0] ++ body).length:Nat):Int)).length) bH)),(47,.v (.slice ap ((be 2 key ++ (be 2 v) ++ (be 4 (IntKind.i64.wrap num)) ++ (be 2 (-1)) ++ [by8 0] ++ body).length) ar))] bd dW fun gW dX=>?_
  refine qam (qaI bd dX (k:=4) (d:=48) (t:=24) (e:=5) (size:=1) (bytes:=1) (A:=bG) (As:=ap) (m0:=((be 4 (((be 2 key ++ (be 2 v) ++ (be 4 (IntKind.i64.wrap num)) ++ (be 2 (-1)) ++ [by8 0] ++ body).length:Nat):Int)).length)) (c:=bH) (m:=((be 2 key ++ (be 2 v) ++ (be 4 (IntKind.i64.wrap num)) ++ (be 2 (-1)) ++ [by8 0] ++ body).length)) (cs:=ar) (xs:=(bc (be 4 (((be 2 key ++ (be 2 v) ++ (be 4 (IntKind.i64.wrap num)) ++ (be 2 (-1)) ++ [by8 0] ++ body).length:Nat):Int)))) (news:=bc (be 2 key ++ (be 2 v) ++ (be 4 (IntKind.i64.wrap num)) ++ (be 2 (-1)) ++ [by8 0] ++ body)) kz kz rfl (qb8 (bd.own 0 _ rfl) (qcu _)) (qcj (bd.own 0 _ rfl)) (by first | omega | (simp only [List.length_append,List.length_cons,List.length_nil,be_length]; omega) | (simp; omega)) fun aT aU gX gY fI dY dZ=>?_)
  have d5:(⟨aT,aU,5,1,(be 4 (((be 2 key ++ (be 2 v) ++ (be 4 (IntKind.i64.wrap num)) ++ (be 2 (-1)) ++ [by8 0] ++ body).length:Nat):Int)).length + (be 2 key ++ (be 2 v) ++ (be 4 (IntKind.i64.wrap num)) ++ (be 2 (-1)) ++ [by8 0] ++ body).length,bc (be 4 (((be 2 key ++ (be 2 v) ++ (be 4 (IntKind.i64.wrap num)) ++ (be 2 (-1)) ++ [by8 0] ++ body).length:Nat):Int)) ++ bc (be 2 key ++ (be 2 v) ++ (be 4 (IntKind.i64.wrap num)) ++ (be 2 (-1)) ++ [by8 0] ++ body)⟩:Rw) = brow aT aU 5 (be 4 (((be 2 key ++ (be 2 v) ++ (be 4 (IntKind.i64.wrap num)) ++ (be 2 (-1)) ++ [by8 0] ++ body).length:Nat):Int) ++ (be 2 key ++ (be 2 v) ++ (be 4 (IntKind.i64.wrap num)) ++ (be 2 (-1)) ++ [by8 0] ++ body)):=qa6 (rfl) rfl
  obtain ⟨bI,fJ⟩:=dY.rowEq 4 [brow ap ar 5 (be 2 key ++ (be 2 v) ++ (be 4 (IntKind.i64.wrap num)) ++ (be 2 (-1)) ++ [by8 0] ++ body),brow aG aH 5 (be 2 v),brow aI aJ 5 (be 4 (IntKind.i64.wrap num)),brow aE aF 5 (be 2 (-1)),brow aT aU 5 (be 4 (((be 2 key ++ (be 2 v) ++ (be 4 (IntKind.i64.wrap num)) ++ (be 2 (-1)) ++ [by8 0] ++ body).length:Nat):Int) ++ (be 2 key ++ (be 2 v) ++ (be 4 (IntKind.i64.wrap num)) ++ (be 2 (-1)) ++ [by8 0] ++ body))] d5
  have d6:=EnvOk.pick dZ (ks:=[46,47,48]) (env':=[(46,.v (.slice bG ((be 4 (((be 2 key ++ (be 2 v) ++ (be 4 (IntKind.i64.wrap num)) ++ (be 2 (-1)) ++ [by8 0] ++ body).length:Nat):Int)).length) bH)),(47,.v (.slice ap ((be 2 key ++ (be 2 v) ++ (be 4 (IntKind.i64.wrap num)) ++ (be 2 (-1)) ++ [by8 0] ++ body).length) ar)),(48,.v (.slice aT ((be 4 (((be 2 key ++ (be 2 v) ++ (be 4 (IntKind.i64.wrap num)) ++ (be 2 (-1)) ++ [by8 0] ++ body).length:Nat):Int)).length + (be 2 key ++ (be 2 v) ++ (be 4 (IntKind.i64.wrap num)) ++ (be 2 (-1)) ++ [by8 0] ++ body).length) aU))]) kz
  have d7:=d6.cast (env':=[(46,.v (.slice bG ((be 4 (((be 2 key ++ (be 2 v) ++ (be 4 (IntKind.i64.wrap num)) ++ (be 2 (-1)) ++ [by8 0] ++ body).length:Nat):Int)).length) bH)),(47,.v (.slice ap ((be 2 key ++ (be 2 v) ++ (be 4 (IntKind.i64.wrap num)) ++ (be 2 (-1)) ++ [by8 0] ++ body).length) ar)),(48,.v (.slice aT ((be 4 (((be 2 key ++ (be 2 v) ++ (be 4 (IntKind.i64.wrap num)) ++ (be 2 (-1)) ++ [by8 0] ++ body).length:Nat):Int) ++ (be 2 key ++ (be 2 v) ++ (be 4 (IntKind.i64.wrap num)) ++ (be 2 (-1)) ++ [by8 0] ++ body)).length) aU))]) (by simp only [List.length_append,List.length_cons,List.length_nil,Nat.zero_add])
  refine qaj [5] [] [(14,.v (.slice aT ((be 4 (((be 2 key ++ (be 2 v) ++ (be 4 (IntKind.i64.wrap num)) ++ (be 2 (-1)) ++ [by8 0] ++ body).length:Nat):Int) ++ (be 2 key ++ (be 2 v) ++ (be 4 (IntKind.i64.wrap num)) ++ (be 2 (-1)) ++ [by8 0] ++ body)).length) aU))] bI d7 fun gZ d8=>?_
  refine qae (qaa ?_)
  refine wp_ret (qaD d8 bI.cells (v:=.slice aT ((be 4 (((be 2 key ++ (be 2 v) ++ (be 4 (IntKind.i64.wrap num)) ++ (be 2 (-1)) ++ [by8 0] ++ body).length:Nat):Int) ++ (be 2 key ++ (be 2 v) ++ (be 4 (IntKind.i64.wrap num)) ++ (be 2 (-1)) ++ [by8 0] ++ body)).length) aU) kz ?_)
  exact qbc bI (k:=4) rfl (by first | (simp [qbf,outB,qec,qed,qeC,aD,aM]; done) | (simp [qbf,outB,qec,qed,qeC,aD,aM]; omega))
 refine wp_skip (qaa (qad [0,1,2,3] kz ?_))
 refine qaj [0,1] [2,3] [(41,.v (.slice ai ((be 2 key ++ (be 2 v) ++ (be 4 (IntKind.i64.wrap num)) ++ (be 2 (-1))).length) aj)),ae] ah bE fun hC d9=>?_
 refine qam (qaI ah d9 (k:=0) (d:=43) (t:=24) (e:=5) (size:=1) (bytes:=1) (A:=ai) (As:=A2) (m0:=((be 2 key ++ (be 2 v) ++ (be 4 (IntKind.i64.wrap num)) ++ (be 2 (-1))).length)) (c:=aj) (m:=body.length) (cs:=c2) (xs:=(bc (be 2 key ++ (be 2 v) ++ (be 4 (IntKind.i64.wrap num)) ++ (be 2 (-1))))) (news:=bc body) kz kz rfl (h2.move ah.step nilM ah.imm).src (h2.move ah.step nilM ah.imm).cap (by first | omega | (simp only [List.length_append,List.length_cons,List.length_nil,be_length]; omega) | (simp; omega)) fun au av hJ hK fK ea eb=>?_)
 have ec:(⟨au,av,5,1,(be 2 key ++ (be 2 v) ++ (be 4 (IntKind.i64.wrap num)) ++ (be 2 (-1))).length + body.length,bc (be 2 key ++ (be 2 v) ++ (be 4 (IntKind.i64.wrap num)) ++ (be 2 (-1))) ++ bc body⟩:Rw) = brow au av 5 (be 2 key ++ (be 2 v) ++ (be 4 (IntKind.i64.wrap num)) ++ (be 2 (-1)) ++ body):=qa6 (rfl) rfl
 obtain ⟨bJ,fL⟩:=ea.rowEq 0 [brow au av 5 (be 2 key ++ (be 2 v) ++ (be 4 (IntKind.i64.wrap num)) ++ (be 2 (-1)) ++ body),brow aG aH 5 (be 2 v),brow aI aJ 5 (be 4 (IntKind.i64.wrap num)),brow aE aF 5 (be 2 (-1))] ec
 have ee:=EnvOk.pick eb (ks:=[41,42,43]) (env':=[(41,.v (.slice ai ((be 2 key ++ (be 2 v) ++ (be 4 (IntKind.i64.wrap num)) ++ (be 2 (-1))).length) aj)),ae,(43,.v (.slice au ((be 2 key ++ (be 2 v) ++ (be 4 (IntKind.i64.wrap num)) ++ (be 2 (-1))).length + body.length) av))]) kz
 have ef:=ee.cast (env':=[(41,.v (.slice ai ((be 2 key ++ (be 2 v) ++ (be 4 (IntKind.i64.wrap num)) ++ (be 2 (-1))).length) aj)),ae,(43,.v (.slice au ((be 2 key ++ (be 2 v) ++ (be 4 (IntKind.i64.wrap num)) ++ (be 2 (-1)) ++ body).length) av))]) (by simp only [List.length_append,List.length_cons,List.length_nil,Nat.zero_add])
 refine qaj [3] [] [(15,.v (.slice au ((be 2 key ++ (be 2 v) ++ (be 4 (IntKind.i64.wrap num)) ++ (be 2 (-1)) ++ body).length) av))] bJ ef fun hZ eg=>?_
 refine qae (qaa ?_)
 refine qad [0,1,2,3,4,5] kz ?_
 refine qaj [0,1] [2,3,4,5] [(15,.v (.slice au ((be 2 key ++ (be 2 v) ++ (be 4 (IntKind.i64.wrap num)) ++ (be 2 (-1)) ++ body).length) av)),(45,.v (.int .i64 (((be 2 key ++ (be 2 v) ++ (be 4 (IntKind.i64.wrap num)) ++ (be 2 (-1)) ++ body).length:Nat):Int)))] bJ eg fun ia eh=>?_
 refine qam (qal eh (f:=22) (vs:=[.int .i64 (((be 2 key ++ (be 2 v) ++ (be 4 (IntKind.i64.wrap num)) ++ (be 2 (-1)) ++ body).length:Nat):Int),aK]) (d:=46) kz Tryz.call22 (qcX (((be 2 key ++ (be 2 v) ++ (be 4 (IntKind.i64.wrap num)) ++ (be 2 (-1)) ++ body).length:Nat):Int) 4 (by first | decide | exact qbi _ | omega) _) ?_)
 rintro e_ ib ⟨bK,bL,rfl,ei,ej⟩
 refine ⟨_,rfl,fun ic ek=>?_⟩
 obtain ⟨bf,fM⟩:=bJ.frFresh ej (brow bK bL 5 (be 4 (((be 2 key ++ (be 2 v) ++ (be 4 (IntKind.i64.wrap num)) ++ (be 2 (-1)) ++ body).length:Nat):Int))) (Nat.le_refl _) ei
 refine qaj [3] [4,5] [(46,.v (.slice bK ((be 4 (((be 2 key ++ (be 2 v) ++ (be 4 (IntKind.i64.wrap num)) ++ (be 2 (-1)) ++ body).length:Nat):Int)).length) bL)),(47,.v (.slice au ((be 2 key ++ (be 2 v) ++ (be 4 (IntKind.i64.wrap num)) ++ (be 2 (-1)) ++ body).length) av))] bf ek fun ig em=>?_
 refine qam (qaI bf em (k:=4) (d:=48) (t:=24) (e:=5) (size:=1) (bytes:=1) (A:=bK) (As:=au) (m0:=((be 4 (((be 2 key ++ (be 2 v) ++ (be 4 (IntKind.i64.wrap num)) ++ (be 2 (-1)) ++ body).length:Nat):Int)).length)) (c:=bL) (m:=((be 2 key ++ (be 2 v) ++ (be 4 (IntKind.i64.wrap num)) ++ (be 2 (-1)) ++ body).length)) (cs:=av) (xs:=(bc (be 4 (((be 2 key ++ (be 2 v) ++ (be 4 (IntKind.i64.wrap num)) ++ (be 2 (-1)) ++ body).length:Nat):Int)))) (news:=bc (be 2 key ++ (be 2 v) ++ (be 4 (IntKind.i64.wrap num)) ++ (be 2 (-1)) ++ body)) kz kz rfl (qb8 (bf.own 0 _ rfl) (qcu _)) (qcj (bf.own 0 _ rfl)) (by first | omega | (simp only [List.length_append,List.length_cons,List.length_nil,be_length]; omega) | (simp; omega)) fun aV aW ii ij fN eo eu=>?_)
 have ev:(⟨aV,aW,5,1,(be 4 (((be 2 key ++ (be 2 v) ++ (be 4 (IntKind.i64.wrap num)) ++ (be 2 (-1)) ++ body).length:Nat):Int)).length + (be 2 key ++ (be 2 v) ++ (be 4 (IntKind.i64.wrap num)) ++ (be 2 (-1)) ++ body).length,bc (be 4 (((be 2 key ++ (be 2 v) ++ (be 4 (IntKind.i64.wrap num)) ++ (be 2 (-1)) ++ body).length:Nat):Int)) ++ bc (be 2 key ++ (be 2 v) ++ (be 4 (IntKind.i64.wrap num)) ++ (be 2 (-1)) ++ body)⟩:Rw) = brow aV aW 5 (be 4 (((be 2 key ++ (be 2 v) ++ (be 4 (IntKind.i64.wrap num)) ++ (be 2 (-1)) ++ body).length:Nat):Int) ++ (be 2 key ++ (be 2 v) ++ (be 4 (IntKind.i64.wrap num)) ++ (be 2 (-1)) ++ body)):=qa6 (rfl) rfl
 obtain ⟨bM,fO⟩:=eo.rowEq 4 [brow au av 5 (be 2 key ++ (be 2 v) ++ (be 4 (IntKind.i64.wrap num)) ++ (be 2 (-1)) ++ body),brow aG aH 5 (be 2 v),brow aI aJ 5 (be 4 (IntKind.i64.wrap num)),brow aE aF 5 (be 2 (-1)),brow aV aW 5 (be 4 (((be 2 key ++ (be 2 v) ++ (be 4 (IntKind.i64.wrap num)) ++ (be 2 (-1)) ++ body).length:Nat):Int) ++ (be 2 key ++ (be 2 v) ++ (be 4 (IntKind.i64.wrap num)) ++ (be 2 (-1)) ++ body))] ev
 have ew:=EnvOk.pick eu (ks:=[46,47,48]) (env':=[(46,.v (.slice bK ((be 4 (((be 2 key ++ (be 2 v) ++ (be 4 (IntKind.i64.wrap num)) ++ (be 2 (-1)) ++ body).length:Nat):Int)).length) bL)),(47,.v (.slice au ((be 2 key ++ (be 2 v) ++ (be 4 (IntKind.i64.wrap num)) ++ (be 2 (-1)) ++ body).length) av)),(48,.v (.slice aV ((be 4 (((be 2 key ++ (be 2 v) ++ (be 4 (IntKind.i64.wrap num)) ++ (be 2 (-1)) ++ body).length:Nat):Int)).length + (be 2 key ++ (be 2 v) ++ (be 4 (IntKind.i64.wrap num)) ++ (be 2 (-1)) ++ body).length) aW))]) kz
 have ey:=ew.cast (env':=[(46,.v (.slice bK ((be 4 (((be 2 key ++ (be 2 v) ++ (be 4 (IntKind.i64.wrap num)) ++ (be 2 (-1)) ++ body).length:Nat):Int)).length) bL)),(47,.v (.slice au ((be 2 key ++ (be 2 v) ++ (be 4 (IntKind.i64.wrap num)) ++ (be 2 (-1)) ++ body).length) av)),(48,.v (.slice aV ((be 4 (((be 2 key ++ (be 2 v) ++ (be 4 (IntKind.i64.wrap num)) ++ (be 2 (-1)) ++ body).length:Nat):Int) ++ (be 2 key ++ (be 2 v) ++ (be 4 (IntKind.i64.wrap num)) ++ (be 2 (-1)) ++ body)).length) aW))]) (by simp only [List.length_append,List.length_cons,List.length_nil,Nat.zero_add])
 refine qaj [5] [] [(14,.v (.slice aV ((be 4 (((be 2 key ++ (be 2 v) ++ (be 4 (IntKind.i64.wrap num)) ++ (be 2 (-1)) ++ body).length:Nat):Int) ++ (be 2 key ++ (be 2 v) ++ (be 4 (IntKind.i64.wrap num)) ++ (be 2 (-1)) ++ body)).length) aW))] bM ey fun ik ez=>?_
 refine qae (qaa ?_)
 refine wp_ret (qaD ez bM.cells (v:=.slice aV ((be 4 (((be 2 key ++ (be 2 v) ++ (be 4 (IntKind.i64.wrap num)) ++ (be 2 (-1)) ++ body).length:Nat):Int) ++ (be 2 key ++ (be 2 v) ++ (be 4 (IntKind.i64.wrap num)) ++ (be 2 (-1)) ++ body)).length) aW) kz ?_)
 exact qbc bM (k:=4) rfl (by first | (simp [qbf,outB,qec,qed,qeC,aD,aM]; done) | (simp [qbf,outB,qec,qed,qeC,aD,aM]; omega))
theorem qnh (has:Bool) (txt:ByteArray) (h:txt.size ≤ 1048576) (w:World):Calls Tryz.prog 4 #[.agg #[.bool has,.string txt]] w (qcK w (.bool true)):=by
 refine enter (n:=7) Tryz.func4 rfl Tryz.ntmps4 kz fun a hE=>?_
 have hW:=WOk.start w Nil
 refine qad [0,1] kz ?_
 refine qam (qbt hW hE (d:=1) (cs:=[.bool has,.string txt]) kz fun b1 a2 w3 hb4 hz5 hF6 hW7 hE8=>?_)
 refine qaj [1] [] [(1,.p 0 0)] hW7 hE8 fun a9 ab=>?_
 refine qae (qaa ?_)
 refine wp_seq (qat [(6,.v (.bool (decide ((txt.size:Int) > 2147483647))))] hW7 ab fun ae aa=>?_)
 refine qau aa (b:=decide ((txt.size:Int) > 2147483647)) kz (decide_eq_false (by omega)) ?_
 refine wp_skip (qaa (qat [(2,.v (.bool true))] hW7 aa fun af ac=>?_))
 refine wp_ret (qaD ac hW7.cells (v:=.bool true) kz ?_)
 exact ⟨rfl,hW7.step⟩
def sx (k i:Nat):Nat:=if i = 0 then k else if i = k then 0 else i
theorem qlv (k i:Nat):sx k (sx k i) = i:=by
 unfold sx
 by_cases h:i = 0
 ·subst h
  rw [if_pos rfl]
  by_cases h2:k = 0
  ·rw [if_pos h2]; exact h2
  rw [if_neg h2,if_pos rfl]
 rw [if_neg h]
 by_cases h2:i = k
 ·rw [if_pos h2,if_pos rfl]; exact h2.symm
 rw [if_neg h2,if_neg h,if_neg h2]
theorem qni {k i j:Nat} (h:sx k i = sx k j):i = j:=by rw [← qlv k i,h,qlv]
theorem qfA {α:Type} {x y:α} {l:List α} (i:Nat):(y :: (l ++ [x]))[i]? = (x :: (l ++ [y]))[sx (l.length + 1) i]?:=by
 unfold sx
 cases i with
 | zero=>simp
 | succ i =>
  rw [if_neg (by omega)]
  by_cases h:i = l.length
  ·subst h; simp
  rw [if_neg (by omega)]
  simp only [List.getElem?_cons_succ]
  by_cases h2:i < l.length
  ·rw [List.getElem?_append_left h2,List.getElem?_append_left h2]
  rw [List.getElem?_eq_none (by simp; omega),List.getElem?_eq_none (by simp; omega)]
theorem WOk.swapK {w0 w:World} {M:Nat → Nat → Prop} {o1 o2:Ob} {tb:Tb} (h:WOk w0 M w (o1 :: (tb ++ [o2])) []):WOk w0 M w (o2 :: (tb ++ [o1])) [] :=
 ⟨h.step,fun i o hi=>h.cells _ o (by rw [← qfA]; exact hi),fun i o hi=>h.live _ o (by rw [← qfA]; exact hi),fun i o hi=>h.rw_ _ o (by rw [← qfA]; exact hi),fun i j o o' hij hi hj hw=>h.apart (sx (tb.length + 1) i) (sx (tb.length + 1) j) o o' (fun e=>hij (qni e)) (by rw [← qfA]; exact hi) (by rw [← qfA]; exact hj) hw,h.own,h.ownM,fun i r hi=>by simp at hi,h.rr⟩
theorem qhQ {o1 o2:Ob} {tb:Tb} {b o:Nat} (h:Act_ (o2 :: (tb ++ [o1])) [] b o):Act_ (o1 :: (tb ++ [o2])) [] b o:=by
 rcases h with ⟨i,ob,hi,h1⟩ | ⟨i,r,hi,_⟩
 ·exact .inl ⟨_,ob,by rw [← qfA]; exact hi,h1⟩
 simp at hi
def qeI (k:Nat):Env → Env
 | []=>[]
 | (t,.v x) :: r=>(t,.v x) :: qeI k r
 | (t,.p i j) :: r=>(t,.p (match Nat.beq i 0 with | true=>k | false=>match Nat.beq i k with | true=>0 | false=>i) j) :: qeI k r
theorem qnj (k i:Nat):(match Nat.beq i 0 with | true=>k | false=>match Nat.beq i k with | true=>0 | false=>i) = sx k i:=by
 unfold sx
 by_cases h:i = 0
 ·subst h; rfl
 rw [if_neg h,show Nat.beq i 0 = false from by cases hq:Nat.beq i 0 with | false=>rfl | true=>exact absurd (Nat.eq_of_beq_eq_true hq) h]
 by_cases h2:i = k
 ·rw [if_pos h2,show Nat.beq i k = true from by subst h2; exact Nat.beq_refl i]
 rw [if_neg h2,show Nat.beq i k = false from by cases hq:Nat.beq i k with | false=>rfl | true=>exact absurd (Nat.eq_of_beq_eq_true hq) h2]
theorem qi0 {n:Nat} {o1 o2:Ob} {tb:Tb} {env:Env} {a:Act} (h:EnvOk n (o1 :: (tb ++ [o2])) env a):EnvOk n (o2 :: (tb ++ [o1])) (qeI (tb.length + 1) env) a:=by
 have ob:∀ i,obAt (o2 :: (tb ++ [o1])) (sx (tb.length + 1) i) = obAt (o1 :: (tb ++ [o2])) i:=fun i=>by
  unfold obAt
  rw [List.getD_eq_getElem?_getD,List.getD_eq_getElem?_getD,qfA,qlv]
 have key:∀ (env:Env) (k:Nat) (x:SV),lk (qeI (tb.length + 1) env) k = some x → ∃ y,lk env k = some y ∧ (y.ok (o1 :: (tb ++ [o2])) → x.val (o2 :: (tb ++ [o1])) = y.val (o1 :: (tb ++ [o2])) ∧ x.ok (o2 :: (tb ++ [o1]))):=by
  intro env
  induction env with
  | nil=>intro k x hx; cases hx
  | cons e r ih =>
   obtain ⟨k',sv⟩:=e
   intro k x hx
   cases sv with
   | v y =>
    simp only [qeI,lk] at hx ⊢
    split at hx
    ·rename_i hb
     simp only [Option.some.injEq] at hx
     subst hx
     exact ⟨_,rfl,fun _=>⟨rfl,trivial⟩⟩
    exact ih k x hx
   | p i j =>
    rw [qeI,qnj] at hx
    simp only [lk] at hx ⊢
    split at hx
    ·rename_i hb
     simp only [Option.some.injEq] at hx
     subst hx
     refine ⟨_,rfl,fun hok=>⟨?_,?_⟩⟩
     ·simp only [SV.val,ob]
     have hok':i < (o1 :: (tb ++ [o2])).length:=hok
     have g:(o2 :: (tb ++ [o1]))[sx (tb.length + 1) i]? = (o1 :: (tb ++ [o2]))[i]?:=by rw [qfA,qlv]
     rw [List.getElem?_eq_getElem hok'] at g
     exact (List.getElem?_eq_some_iff.1 g).1
    exact ih k x hx
 refine ⟨h.defers,h.size,fun k x hx=>?_⟩
 obtain ⟨y,hy,hv⟩:=key env k x hx
 obtain ⟨h1,h2⟩:=h.at_ k y hy
 obtain ⟨h3,h4⟩:=hv h2
 exact ⟨by rw [h3]; exact h1,h4⟩
def rdF (A:Option Addr) (m c:Nat) (s:Bs):qcb:=fun w F=>RdS w F A m c s
theorem MvF.rd (A:Option Addr) (m c:Nat) (s:Bs):MvF (rdF A m c s):=⟨fun hs hM hF g=>RdS.move g hs hM hF⟩
section
variable {Pr:Program} {ops:Array Oper} {Q:Exit → Act → World → Prop} {w0:World} {M F:Nat → Nat → Prop} {n br:Nat} {tb:Tb} {env:Env} {P:qcb} {s:Bs} {a:Act} {w:World}
theorem RS.nest {bi ci:Nat} {Ai:Option Addr} {si:Bs} (h:RS w0 M F n br (tb ++ [rdo bi Ai si.length ci]) env P s a w) (hs:∀ w F,P w F → Octs w F Ai ci si):∃ A m c,RS w0 M F n bi (tb ++ [rdo br A m c]) (qeI (tb.length + 1) env) (andF P (rdF A m c s)) si a w:=by
 obtain ⟨A,m,c,hW,hr,hE,hP⟩:=h.open_
 have mvI:∀ b o,Imm F w0 w (rdo br A m c :: (tb ++ [rdo bi Ai si.length ci])) [] b o → b < w.heap.size → Imm F w0 w (rdo bi Ai si.length ci :: (tb ++ [rdo br A m c])) [] b o:=fun b o g _=>⟨g.1,g.2.1,fun ha=>g.2.2 (qhQ ha)⟩
 exact ⟨A,m,c,RS.mk' hW.swapK ⟨rfl,(hs _ _ hP).move (Step.refl w Nil) nilM mvI⟩ (qi0 hE) (h.mv.and (MvF.rd A m c s)) ⟨h.mv.mono mvI hP,hr.move (Step.refl w Nil) nilM mvI⟩⟩
theorem RS.unnest {bi m c:Nat} {A:Option Addr} {so:Bs} (h:RS w0 M F n bi (tb ++ [rdo br A m c]) env P s a w) (hs:∀ w F,P w F → RdS w F A m c so) (hb:w0.heap.size ≤ bi) (hl:qdm (tb.length + 1) (qeI (tb.length + 1) env) = true):RS w0 M F n br tb (qeI (tb.length + 1) env) P so a w:=by
 obtain ⟨Ai,mi,ci,hW,hr,hE,hP⟩:=h.open_
 have mvI:∀ b o,Imm F w0 w (rdo bi Ai mi ci :: (tb ++ [rdo br A m c])) [] b o → b < w.heap.size → Imm F w0 w (rdo br A m c :: (tb ++ [rdo bi Ai mi ci])) [] b o:=fun b o g _=>⟨g.1,g.2.1,fun ha=>g.2.2 (qhQ ha)⟩
 have h2:RS w0 M F n br (tb ++ [rdo bi Ai mi ci]) (qeI (tb.length + 1) env) P so a w:=RS.mk' hW.swapK ((hs _ _ hP).move (Step.refl w Nil) nilM mvI) (qi0 hE) h.mv (h.mv.mono mvI hP)
 exact h2.dropT hb hl
theorem qkO {i d:Nat} {f:FuncId} {X rest:Bs} {q:Int} {N:Act → World → Prop} (h:RS w0 M F n br tb env P (X ++ rest) a w) (hq:q = ((X.length:Nat):Int))
  (hc:∀ {br:Nat} {A:Option Addr} {m c:Nat} {w:World} {F:Nat → Nat → Prop},Str w br [.slice A m c,.bool false] → RdS w F A m c (X ++ rest) → (∀ b o,F b o → ¬ RdM br b o) → Calls Pr f #[.pointer (some ⟨br,0,none⟩),.int .i64 ((X.length:Nat):Int)] w (RdPost w br F rest fun v w'=>∃ A2,v = .slice A2 X.length X.length ∧ Octs w' F A2 X.length X))
  (hf:∀ args w,(callFunc f args).run Pr w = .ok (.enter f args) w) (K:∀ A2 P' a' w',(∀ w F,P' w F → P w F ∧ Octs w F A2 X.length X) → RS w0 M F n br tb ((d,.v (.slice A2 X.length X.length)) :: env) P' rest a' w' → N a' w')
  (he:∀ A m c,qcU (rdo br A m c :: tb) env ops n i = some (f,[.pointer (some ⟨br,0,none⟩),.int .i64 q],d):=by intro _ _ _; kernel_rfl):wpOp Pr ops Q i N a w:=by
 subst hq
 obtain ⟨A,m,c,hW,hr,hE,hP⟩:=h.open_
 refine qal hE (he A m c) hf (hc (Str.of hW 0 rfl) hr (qdb 0 rfl)) ?_
 rintro e_ w1 ⟨_,A1,n1,c1,rfl,hs,hr1,hst,A2,rfl,hx⟩
 refine ⟨_,rfl,fun a1 hE1=>?_⟩
 obtain ⟨hW2,hF2,hL⟩:=hW.wrote 0 (rdo br A1 n1 c1 :: tb) rfl hst hs
 exact K A2 (andF P (qm8 A2 X.length X)) a1 w1 (fun _ _ g=>g) (RS.mk' hW2 (hr1.move (Step.refl _ Nil) nilM (fun b o g hb=>hL b o (.inl g) hb)) hE1.rdo (h.mv.and (MvF.octs _ _ _)) ⟨h.mv.move hF2.step immM hF2.to' hP,Octs.move hx (Step.refl _ Nil) nilM (fun b o g hb=>hL b o (.inl g) hb)⟩)
end
theorem WOk.wrote1 {w0 w w':World} {M N:Nat → Nat → Prop} {tb:Tb} (hW:WOk w0 M w tb []) (k:Nat) {ob:Ob} {cs':List Value} (hi:tb[k]? = some ob) (hrw:ob.rw = true) (hl:cs'.length = ob.cells.length) (hst:Step w w' N) (hN:∀ b o,b < w0.heap.size → N b o → M b o)
  (hc:∀ j v,cs'[j]? = some v → w'.cell? ⟨ob.blk,ob.off + j,none⟩ = some v) (hz:∀ j,j < cs'.length → w'.frozen? ⟨ob.blk,ob.off + j,none⟩ = false)
  (far:∀ (j:Nat) (o:Ob),j ≠ k → tb[j]? = some o → ∀ q,q < o.cells.length → ¬ N o.blk (o.off + q)):WOk w0 M w' (tb.set k { ob with cells:=cs' }) []:=by
 have key:∀ (j:Nat) (o:Ob),(tb.set k { ob with cells:=cs' })[j]? = some o → (j = k ∧ o = { ob with cells:=cs' }) ∨ (j ≠ k ∧ tb[j]? = some o):=fun j o hj=>by
  rcases qc6 hj with ⟨h1,h2,_⟩ | ⟨h1,h2⟩
  ·exact .inl ⟨h1,h2⟩
  exact .inr ⟨h1,h2⟩
 refine ⟨hW.step.trans hst hN,?_,?_,?_,?_,fun i r hi=>by simp at hi,fun i r hi=>by simp at hi,fun i r hi=>by simp at hi,fun i j r r' _ hi=>by simp at hi⟩
 ·intro j o hj q v hv
  rcases key j o hj with ⟨rfl,rfl⟩ | ⟨hne,hj⟩
  ·exact hc q v hv
  exact hst.cell (far j o hne hj q (List.getElem?_eq_some_iff.1 hv).1) (hW.cells j o hj q v hv)
 ·intro j o hj
  rcases key j o hj with ⟨rfl,rfl⟩ | ⟨_,hj⟩
  ·exact Nat.lt_of_lt_of_le (show ob.blk < _ from hW.live j ob hi) hst.size
  exact Nat.lt_of_lt_of_le (hW.live j o hj) hst.size
 ·intro j o hj hr q hq
  rcases key j o hj with ⟨rfl,rfl⟩ | ⟨hne,hj⟩
  ·exact ⟨(hW.rw_ j _ hi hrw q (by simpa [hl] using hq)).1,hz q hq⟩
  obtain ⟨h1,h2⟩:=hW.rw_ j o hj hr q hq
  exact ⟨h1,hst.frozen (far j o hne hj q hq) (hW.cells j o hj q _ (List.getElem?_eq_getElem hq)) h2⟩
 intro j q o o' hjk hj hk hw
 rcases key j o hj with ⟨rfl,rfl⟩ | ⟨hne,hj'⟩
 ·rcases key q o' hk with ⟨rfl,rfl⟩ | ⟨hne',hk'⟩
  ·exact absurd rfl hjk
  have:=hW.apart j q _ o' hjk hi hk' (.inl hrw)
  simpa [hl] using this
 rcases key q o' hk with ⟨rfl,rfl⟩ | ⟨hne',hk'⟩
 ·have:=hW.apart j q o _ hjk hj' hi (.inr hrw)
  simpa [hl] using this
 exact hW.apart j q o o' hjk hj' hk' hw
structure TU (w0 w1:World) (M F:Nat → Nat → Prop) (n br:Nat) (tb0 tb:Tb) (env:Env) (P:qcb) (s:Bs) (m:Option Nat) (u:List (Int × Bs)) (a:Act) (w:World):Prop where
 mv:MvF P
 big:w1.heap.size ≤ w.heap.size
 base:w0.heap.size ≤ w1.heap.size
 old:br < w1.heap.size
 ex:∃ A q c,WOk w0 M w (rdo br A q c :: tb) [] ∧ RdS w (Imm F w0 w1 (rdo br none 0 0 :: tb0) []) A q c s
 act:∀ b o,Act_ (rdo br none 0 0 :: tb) [] b o → Act_ (rdo br none 0 0 :: tb0) [] b o
 env_:EnvOk n (rdo br none 0 0 :: tb) env a
 fact:P w (Imm F w0 w1 (rdo br none 0 0 :: tb0) [])
 own:OwnM w (Imm F w0 w1 (rdo br none 0 0 :: tb0) []) m u
 new:∀ r,m = some r → w1.heap.size ≤ r
section
variable {Pr:Program} {ops:Array Oper} {Q:Exit → Act → World → Prop} {w0 w1:World} {M F:Nat → Nat → Prop} {n br:Nat} {tb0 tb:Tb} {env:Env} {P:qcb} {s:Bs} {m:Option Nat} {u:List (Int × Bs)} {a:Act} {w:World}
theorem TU.start (h:RS w0 M F n br tb env P s a w):TU w0 w M F n br tb tb env P s none [] a w:=by
 obtain ⟨A,m,c,hW,hr⟩:=h.ex
 exact ⟨h.mv,Nat.le_refl _,hW.step.size,hW.live 0 _ rfl,⟨A,m,c,hW,hr⟩,fun _ _ g=>g,h.env_,h.fact,OwnM.nil _ _,fun _ h=>by cases h⟩
theorem TU.cast {t:Bs} (h:TU w0 w1 M F n br tb0 tb env P s m u a w) (e:s = t):TU w0 w1 M F n br tb0 tb env P t m u a w:=e ▸ h
theorem TU.finish (h:TU w0 w1 M F n br tb0 tb env P s m u a w) (hs:qdg u) (hr:∀ x ∈ u,0 ≤ x.1 ∧ x.1 < 4294967296):RS w0 M F n br tb env (andF P (qmm m u)) s a w:=by
 have mvI:∀ b o,Imm F w0 w1 (rdo br none 0 0 :: tb0) [] b o → Imm F w0 w (rdo br none 0 0 :: tb) [] b o:=fun b o g=>⟨g.1,Nat.lt_of_lt_of_le g.2.1 h.big,fun ha=>g.2.2 (h.act b o ha)⟩
 obtain ⟨A,q,c,hW,hrd⟩:=h.ex
 refine ⟨h.mv.and (MvF.tags _ _),⟨A,q,c,hW,hrd.move (Step.refl w Nil) nilM fun b o g _=>mvI b o g⟩,h.env_,h.mv.mono (fun b o g _=>mvI b o g) h.fact,h.own.map mvI (fun r o e=>?_) hs hr⟩
 obtain ⟨es,clk,h1,_⟩:=h.own.some_ r e
 refine ⟨.inr (Nat.le_trans h.base (h.new r e)),(Array.getElem?_eq_some_iff.1 h1).1,fun ha=>?_⟩
 rcases ha with ⟨i,ob,hi,hrw,rfl,h2,h3⟩ | ⟨i,r,hi,_⟩
 ·have hc:∃ ob',(rdo br A q c :: tb)[i]? = some ob' ∧ ob'.blk = ob.blk ∧ ob'.off = ob.off ∧ ob'.cells.length = ob.cells.length:=by
   cases i with
   | zero =>
    simp only [List.getElem?_cons_zero,Option.some.injEq] at hi
    subst hi
    exact ⟨_,rfl,rfl,rfl,rfl⟩
   | succ i=>exact ⟨ob,hi,rfl,rfl,rfl⟩
  obtain ⟨ob',g1,g2,g3,g4⟩:=hc
  have g5:o - ob.off < ob'.cells.length:=by omega
  have g6:=hW.cells i ob' g1 (o - ob.off) _ (List.getElem?_eq_getElem g5)
  rw [g2] at g6
  exact qc3 g6 h1 rfl
 simp at hi
theorem qmu {L:List Nat} (idxs rest:List Nat) (env':Env) (h:TU w0 w1 M F n br tb0 tb env P s m u a w) (k:∀ a',TU w0 w1 M F n br tb0 tb env' P s m u a' w → wpOps Pr ops Q rest a' w) (e:∀ A m c,qbT Pr ops n (rdo br A m c :: tb) idxs (qbX env') env = some env':=by intro _ _ _; kernel_rfl) (hl:L = idxs ++ rest:=by rfl):wpOps Pr ops Q L a w:=by
 obtain ⟨A,q,c,hW,hr⟩:=h.ex
 exact qaP idxs rest (qbX env') hW h.env_.rdo (e A q c) hl fun a' hE'=>k a' { h with env_:=hE'.rdo }
theorem qhR {id:Nat} (env':Env) (h:TU w0 w1 M F n br tb0 tb env P s m u a w) (k:∀ a',TU w0 w1 M F n br tb0 tb env' P s m u a' w → Q .normal a' w) (e:∀ A m c,qbT Pr ops n (rdo br A m c :: tb) (List.range ops.size) (qbX env') env = some env':=by intro _ _ _; kernel_rfl):(Code.region id ops false).wp Pr Q a w :=
 qaq (List.range ops.size) rfl (qmu (List.range ops.size) [] env' h (fun a' h'=>qae (k a' h')) e (List.append_nil _).symm)
theorem qkP {i d:Nat} {f:FuncId} {X rest:Bs} {vs vs':List Value} {Qv:Value → World → (Nat → Nat → Prop) → Prop} {N:Act → World → Prop} (h:TU w0 w1 M F n br tb0 tb env P (X ++ rest) m u a w)
  (hc:∀ {br:Nat} {A:Option Addr} {m c:Nat} {w:World} {F:Nat → Nat → Prop},Str w br [.slice A m c,.bool false] → RdS w F A m c (X ++ rest) → (∀ b o,F b o → ¬ RdM br b o) → Calls Pr f (.pointer (some ⟨br,0,none⟩) :: vs).toArray w (RdPost w br F rest fun v w'=>Qv v w' F)) (hv:vs' = vs)
  (hf:∀ args w,(callFunc f args).run Pr w = .ok (.enter f args) w) (K:∀ v a' w',Qv v w' (Imm F w0 w1 (rdo br none 0 0 :: tb0) []) → TU w0 w1 M F n br tb0 tb ((d,.v v) :: env) P rest m u a' w' → N a' w')
  (he:∀ A m c,qcU (rdo br A m c :: tb) env ops n i = some (f,.pointer (some ⟨br,0,none⟩) :: vs',d):=by intro _ _ _; kernel_rfl):wpOp Pr ops Q i N a w:=by
 subst hv
 obtain ⟨A,q,c,hW,hr⟩:=h.ex
 have hG:∀ b o,Imm F w0 w1 (rdo br none 0 0 :: tb0) [] b o → ¬ RdM br b o:=qdb 0 rfl
 refine qal h.env_.rdo (he A q c) hf (hc (Str.of hW 0 rfl) hr hG) ?_
 rintro e_ w2 ⟨v,A1,n1,c1,rfl,hs,hr1,hst,hx⟩
 refine ⟨_,rfl,fun a1 hE1=>?_⟩
 obtain ⟨hW2,hF2,hL⟩:=hW.wrote 0 (rdo br A1 n1 c1 :: tb) rfl hst hs
 refine K v a1 w2 hx ⟨h.mv,Nat.le_trans h.big hst.size,h.base,h.old,⟨A1,n1,c1,hW2,hr1⟩,h.act,hE1.rdo,h.mv.move hst (fun b o g _=>hG b o g) qa7 h.fact,h.own.move hst (fun b o g _=>hG b o g) qa7 (fun r o e he=>?_),h.new⟩
 have h1:=h.new r e
 have h2:=h.old
 have h3:=he.1
 omega
theorem qnE {i d j k off c:Nat} {key:Int} {x:Bs} {A:Option Addr} {ob:Ob} {N:Act → World → Prop} (h:TU w0 w1 M F n br tb0 tb env P s m (u.take j) a w) (hsort:qdg u) (hj:u[j]? = some (key,x)) (hx:Octs w (Imm F w0 w1 (rdo br none 0 0 :: tb0) []) A c x) (hk:0 ≤ key ∧ key < 4294967296)
  (K:∀ r a' w',TU w0 w1 M F n br tb0 (tb.set k { ob with cells:=ob.cells.set off (.map (some r)) }) ((d,.v (.tuple #[])) :: env) P s (some r) (u.take (j + 1)) a' w' → N a' w')
  (hp:∀ args w,(callFunc 59 args).run Tryz.prog w = .ok (.enter 59 args) w)
  (tk:tb[k]? = some ob) (hrw:ob.rw = true) (hoff:ob.cells[off]? = some (.map m))
  (he:∀ A' m' c',qcU (rdo br A' m' c' :: tb) env ops n i = some (59,[.pointer (some ⟨ob.blk,ob.off + off,none⟩),.int .u32 key,.slice A x.length c],d)):wpOp Tryz.prog ops Q i N a w:=by
 obtain ⟨A',q,c',hW,hr⟩:=h.ex
 have tk':(rdo br A' q c' :: tb)[k + 1]? = some ob:=tk
 have hlt:off < ob.cells.length:=(List.getElem?_eq_some_iff.1 hoff).1
 have hcell:w.cell? ⟨ob.blk,ob.off + off,none⟩ = some (.map m):=hW.cells (k + 1) ob tk' off _ hoff
 obtain ⟨hM,hfz⟩:=hW.rw_ (k + 1) ob tk' hrw off hlt
 have hact:Act_ (rdo br none 0 0 :: tb0) [] ob.blk (ob.off + off):=h.act _ _ (.inl ⟨k + 1,ob,tk,hrw,rfl,by omega,by omega⟩)
 have hbig:=h.big
 have hbase:=h.base
 have hmo:∀ {b o:Nat} {v:Value},w.cell? ⟨b,o,none⟩ = some v → m ≠ some b:=fun hb e=>by
  obtain ⟨es,clk,h1,_⟩:=h.own.some_ _ e
  exact qc3 hb h1 rfl
 have hG:∀ b' o',Imm F w0 w1 (rdo br none 0 0 :: tb0) [] b' o' → ¬ ((b' = ob.blk ∧ o' = ob.off + off) ∨ m = some b'):=fun b' o' hg e=>by
  rcases e with ⟨rfl,rfl⟩ | e
  ·exact hg.2.2 hact
  have:=h.new b' e; have:=hg.2.1; omega
 refine qal h.env_.rdo (he A' q c') hp (qgP hcell hfz h.own hx hk (fun b' o' hg=>⟨fun e=>hG b' o' hg (.inl e),fun e=>hG b' o' hg (.inr e)⟩) (fun b' o' hg=>Nat.lt_of_lt_of_le hg.2.1 hbig)) ?_
 rintro e_ w2 ⟨rfl,r,g1,g2,g3,g4,g5⟩
 rw [qfW hsort hj] at g3
 refine ⟨_,rfl,fun a1 hE1=>K r a1 w2 ?_⟩
 have hW2:=hW.wrote1 (k + 1) (cs':=ob.cells.set off (.map (some r))) tk' hrw (by simp) g5 (fun b o hb hN=>?_) (fun j' v hv=>?_) (fun j' hj'=>?_) (fun j' o hne hjo q' hq' hN=>?_)
 ·refine ⟨h.mv,Nat.le_trans hbig g5.size,hbase,h.old,⟨A',q,c',hW2,hr.move g5 (fun b o g _=>hG b o g) qa7⟩,fun b o ha=>h.act b o ?_,?_,h.mv.move g5 (fun b o g _=>hG b o g) qa7 h.fact,g3,fun r' hr'=>?_⟩
  ·rcases ha with ⟨i',ob',hi,h1,h2,h3,h4⟩ | ha
   ·cases i' with
    | zero=>exact .inl ⟨0,ob',hi,h1,h2,h3,h4⟩
    | succ i' =>
     rw [List.getElem?_cons_succ] at hi
     rcases qc6 hi with ⟨e1,e2,_⟩ | ⟨_,e2⟩
     ·subst e2
      exact .inl ⟨k + 1,ob,tk,hrw,h2,h3,by simpa using h4⟩
     exact .inl ⟨i' + 1,ob',e2,h1,h2,h3,h4⟩
   exact .inr ha
  ·refine hE1.table fun i' hi'=>?_
   cases i' with
   | zero=>exact ⟨by simp,rfl,rfl⟩
   | succ i' =>
    have hi2:i' < tb.length:=by simpa using hi'
    refine ⟨by simpa using hi2,?_⟩
    by_cases e:i' = k
    ·subst e
     have g6:obAt (rdo br A' q c' :: tb) (i' + 1) = ob:=by simp [obAt,tk]
     have g7:obAt (rdo br none 0 0 :: tb.set i' { ob with cells:=ob.cells.set off (.map (some r)) }) (i' + 1) = { ob with cells:=ob.cells.set off (.map (some r)) }:=by simp [obAt,hi2]
     rw [g6,g7]
     exact ⟨rfl,rfl⟩
    have g7:obAt (rdo br none 0 0 :: tb.set k { ob with cells:=ob.cells.set off (.map (some r)) }) (i' + 1) = obAt (rdo br A' q c' :: tb) (i' + 1):=by
     simp [obAt,List.getElem?_set,Ne.symm e]
    rw [g7]
    exact ⟨rfl,rfl⟩
  obtain rfl:=Option.some.inj hr'
  rcases g4 with g4 | g4
  ·exact h.new _ g4
  exact Nat.le_trans hbig g4
 ·rcases hN with ⟨rfl,rfl⟩ | e
  ·rcases hM with g | g
   ·omega
   exact g
  have:=h.new b e; omega
 ·rw [List.getElem?_set] at hv
  by_cases e:off = j'
  ·subst e
   rw [if_pos rfl,if_pos hlt] at hv
   rw [← Option.some.inj hv]; exact g1
  rw [if_neg e] at hv
  have g6:=hW.cells (k + 1) ob tk' j' v hv
  refine g5.cell (fun hN=>?_) g6
  rcases hN with ⟨_,e1⟩ | e1
  ·omega
  exact hmo g6 e1
 ·by_cases e:off = j'
  ·subst e; exact g2
  rw [List.length_set] at hj'
  have g6:=hW.cells (k + 1) ob tk' j' _ (List.getElem?_eq_getElem hj')
  refine g5.frozen (fun hN=>?_) g6 (hW.rw_ (k + 1) ob tk' hrw j' hj').2
  rcases hN with ⟨_,e1⟩ | e1
  ·omega
  exact hmo g6 e1
 have g6:=hW.cells j' o hjo q' _ (List.getElem?_eq_getElem hq')
 rcases hN with ⟨e1,e2⟩ | e1
 ·rcases hW.apart j' (k + 1) o ob hne hjo tk' (.inr hrw) with g | g | g
  ·exact g e1
  ·omega
  omega
 exact hmo g6 e1
theorem qkQ {i d j k off c:Nat} {env1:Env} {a1:Act} {key:Int} {x:Bs} {A:Option Addr} {ob:Ob} {N:Act → World → Prop} (h:TU w0 w1 M F n br tb0 tb env1 P s m (u.take j) a1 w) (hE:EnvOk n [] env a) (hsort:qdg u) (hj:u[j]? = some (key,x)) (hx:Octs w (Imm F w0 w1 (rdo br none 0 0 :: tb0) []) A c x) (hk:0 ≤ key ∧ key < 4294967296)
  (K:∀ r a' w',TU w0 w1 M F n br tb0 (tb.set k { ob with cells:=ob.cells.set off (.map (some r)) }) [] P s (some r) (u.take (j + 1)) a' w' → EnvOk n [] ((d,.v (.tuple #[])) :: env) a' → N a' w')
  (hp:∀ args w,(callFunc 59 args).run Tryz.prog w = .ok (.enter 59 args) w)
  (tk:tb[k]? = some ob) (hrw:ob.rw = true) (hoff:ob.cells[off]? = some (.map m))
  (he:qcU [] env ops n i = some (59,[.pointer (some ⟨ob.blk,ob.off + off,none⟩),.int .u32 key,.slice A x.length c],d)):wpOp Tryz.prog ops Q i N a w:=by
 obtain ⟨A',q,c',hW,hr⟩:=h.ex
 have tk':(rdo br A' q c' :: tb)[k + 1]? = some ob:=tk
 have hlt:off < ob.cells.length:=(List.getElem?_eq_some_iff.1 hoff).1
 have hcell:w.cell? ⟨ob.blk,ob.off + off,none⟩ = some (.map m):=hW.cells (k + 1) ob tk' off _ hoff
 obtain ⟨hM,hfz⟩:=hW.rw_ (k + 1) ob tk' hrw off hlt
 have hact:Act_ (rdo br none 0 0 :: tb0) [] ob.blk (ob.off + off):=h.act _ _ (.inl ⟨k + 1,ob,tk,hrw,rfl,by omega,by omega⟩)
 have hbig:=h.big
 have hbase:=h.base
 have hmo:∀ {b o:Nat} {v:Value},w.cell? ⟨b,o,none⟩ = some v → m ≠ some b:=fun hb e=>by
  obtain ⟨es,clk,h1,_⟩:=h.own.some_ _ e
  exact qc3 hb h1 rfl
 have hG:∀ b' o',Imm F w0 w1 (rdo br none 0 0 :: tb0) [] b' o' → ¬ ((b' = ob.blk ∧ o' = ob.off + off) ∨ m = some b'):=fun b' o' hg e=>by
  rcases e with ⟨rfl,rfl⟩ | e
  ·exact hg.2.2 hact
  have:=h.new b' e; have:=hg.2.1; omega
 refine qal hE he hp (qgP hcell hfz h.own hx hk (fun b' o' hg=>⟨fun e=>hG b' o' hg (.inl e),fun e=>hG b' o' hg (.inr e)⟩) (fun b' o' hg=>Nat.lt_of_lt_of_le hg.2.1 hbig)) ?_
 rintro e_ w2 ⟨rfl,r,g1,g2,g3,g4,g5⟩
 rw [qfW hsort hj] at g3
 refine ⟨_,rfl,fun a2 hE1=>K r a2 w2 ?_ hE1⟩
 have hW2:=hW.wrote1 (k + 1) (cs':=ob.cells.set off (.map (some r))) tk' hrw (by simp) g5 (fun b o hb hN=>?_) (fun j' v hv=>?_) (fun j' hj'=>?_) (fun j' o hne hjo q' hq' hN=>?_)
 ·refine ⟨h.mv,Nat.le_trans hbig g5.size,hbase,h.old,⟨A',q,c',hW2,hr.move g5 (fun b o g _=>hG b o g) qa7⟩,fun b o ha=>h.act b o ?_,?_,h.mv.move g5 (fun b o g _=>hG b o g) qa7 h.fact,g3,fun r' hr'=>?_⟩
  ·rcases ha with ⟨i',ob',hi,h1,h2,h3,h4⟩ | ha
   ·cases i' with
    | zero=>exact .inl ⟨0,ob',hi,h1,h2,h3,h4⟩
    | succ i' =>
     rw [List.getElem?_cons_succ] at hi
     rcases qc6 hi with ⟨e1,e2,_⟩ | ⟨_,e2⟩
     ·subst e2
      exact .inl ⟨k + 1,ob,tk,hrw,h2,h3,by simpa using h4⟩
     exact .inl ⟨i' + 1,ob',e2,h1,h2,h3,h4⟩
   exact .inr ha
  ·exact ⟨hE1.defers,hE1.size,fun _ _ hl=>by cases hl⟩
  obtain rfl:=Option.some.inj hr'
  rcases g4 with g4 | g4
  ·exact h.new _ g4
  exact Nat.le_trans hbig g4
 ·rcases hN with ⟨rfl,rfl⟩ | e
  ·rcases hM with g | g
   ·omega
   exact g
  have:=h.new b e; omega
 ·rw [List.getElem?_set] at hv
  by_cases e:off = j'
  ·subst e
   rw [if_pos rfl,if_pos hlt] at hv
   rw [← Option.some.inj hv]; exact g1
  rw [if_neg e] at hv
  have g6:=hW.cells (k + 1) ob tk' j' v hv
  refine g5.cell (fun hN=>?_) g6
  rcases hN with ⟨_,e1⟩ | e1
  ·omega
  exact hmo g6 e1
 ·by_cases e:off = j'
  ·subst e; exact g2
  rw [List.length_set] at hj'
  have g6:=hW.cells (k + 1) ob tk' j' _ (List.getElem?_eq_getElem hj')
  refine g5.frozen (fun hN=>?_) g6 (hW.rw_ (k + 1) ob tk' hrw j' hj').2
  rcases hN with ⟨_,e1⟩ | e1
  ·omega
  exact hmo g6 e1
 have g6:=hW.cells j' o hjo q' _ (List.getElem?_eq_getElem hq')
 rcases hN with ⟨e1,e2⟩ | e1
 ·rcases hW.apart j' (k + 1) o ob hne hjo tk' (.inr hrw) with g | g | g
  ·exact g e1
  ·omega
  omega
 exact hmo g6 e1
theorem TU.env0 {env':Env} {a':Act} (h:TU w0 w1 M F n br tb0 tb env P s m u a w) (hE:EnvOk n (rdo br none 0 0 :: tb) env' a'):TU w0 w1 M F n br tb0 tb env' P s m u a' w:=⟨h.mv,h.big,h.base,h.old,h.ex,h.act,hE,h.fact,h.own,h.new⟩
theorem TU.drew (h:TU w0 w1 M F n br tb0 tb env P s m u a w):TU w0 w1 M F n br tb0 tb env P s m u a w.drew:=by
 obtain ⟨A,q,c,hW,hr⟩:=h.ex
 have hs:=Step.drew w
 exact ⟨h.mv,h.big,h.base,h.old,⟨A,q,c,hW.drew,hr.move hs nilM qa7⟩,h.act,h.env_,h.mv.move hs nilM qa7 h.fact,h.own.move hs nilM qa7 (fun _ _ _ h=>h),h.new⟩
theorem qfM {i d:Nat} {f:FuncId} {X rest:Bs} {vs vs':List Value} {env1:Env} {a1:Act} {Qv:Value → World → (Nat → Nat → Prop) → Prop} {N:Act → World → Prop} (h:TU w0 w1 M F n br tb0 tb env1 P (X ++ rest) m u a1 w) (hE:EnvOk n [] env a)
  (hc:∀ {br:Nat} {A:Option Addr} {m c:Nat} {w:World} {F:Nat → Nat → Prop},Str w br [.slice A m c,.bool false] → RdS w F A m c (X ++ rest) → (∀ b o,F b o → ¬ RdM br b o) → Calls Pr f (.pointer (some ⟨br,0,none⟩) :: vs).toArray w (RdPost w br F rest fun v w'=>Qv v w' F)) (hv:vs' = vs)
  (hf:∀ args w,(callFunc f args).run Pr w = .ok (.enter f args) w) (K:∀ v a' w',Qv v w' (Imm F w0 w1 (rdo br none 0 0 :: tb0) []) → TU w0 w1 M F n br tb0 tb [] P rest m u a' w' → EnvOk n [] ((d,.v v) :: env) a' → N a' w')
  (he:qcU [] env ops n i = some (f,.pointer (some ⟨br,0,none⟩) :: vs',d)):wpOp Pr ops Q i N a w:=by
 subst hv
 obtain ⟨A,q,c,hW,hr⟩:=h.ex
 have hG:∀ b o,Imm F w0 w1 (rdo br none 0 0 :: tb0) [] b o → ¬ RdM br b o:=qdb 0 rfl
 refine qal hE he hf (hc (Str.of hW 0 rfl) hr hG) ?_
 rintro e_ w2 ⟨v,A1,n1,c1,rfl,hs,hr1,hst,hx⟩
 refine ⟨_,rfl,fun a1 hE1=>?_⟩
 obtain ⟨hW2,hF2,hL⟩:=hW.wrote 0 (rdo br A1 n1 c1 :: tb) rfl hst hs
 refine K v a1 w2 hx ⟨h.mv,Nat.le_trans h.big hst.size,h.base,h.old,⟨A1,n1,c1,hW2,hr1⟩,h.act,⟨hE1.defers,hE1.size,fun _ _ hl=>by cases hl⟩,h.mv.move hst (fun b o g _=>hG b o g) qa7 h.fact,h.own.move hst (fun b o g _=>hG b o g) qa7 (fun r o e he=>?_),h.new⟩ hE1
 have h1:=h.new r e
 have h2:=h.old
 have h3:=he.1
 omega
theorem qhc (w:World):CellsOk w []:=fun i o hi=>by simp at hi
end
theorem pUv (x:Nat) (hx:x < 4294967296) (rest:Bs):qcY Tryz.prog 58 (uv x) rest (.int .u32 ((x:Nat):Int)):=fun hs hr hF=>(qcA x hx rest hs hr hF).mono fun e w' hp=>hp.fp fun v w' h=>h
theorem qhd {a b:Nat} (h:a = 1 + b) (hb:b < 4294967296):IntKind.u32.wrap (((a:Nat):Int) - 1) = ((b:Nat):Int):=by
 subst h
 have:IntKind.u32.wrap (((1 + b:Nat):Int) - 1) = (((1 + b:Nat):Int) - 1) % 4294967296:=by simp [IntKind.wrap,IntKind.signed,IntKind.bits]
 rw [this]; omega
theorem qnk (s:Bs):(qas s).length < 4294967296:=by rw [qd7]; decide
theorem qnl {b n:Bool} {s:Bs} (h:s.length ≤ 32767):(if b = true then (if n = true then uv 0 else uv (s.length + 1) ++ s) else (if n = true then be 2 (-1) else be 2 s.length ++ s)).length < 4294967296:=by
 have h1:=qiJ (s.length + 1)
 have h2:=qiJ 0
 split <;> split <;> first | omega | (simp only [List.length_append,be_length]; omega)
end Go.Proofs.YtoclgihkbmaolabGreatDoor.ME