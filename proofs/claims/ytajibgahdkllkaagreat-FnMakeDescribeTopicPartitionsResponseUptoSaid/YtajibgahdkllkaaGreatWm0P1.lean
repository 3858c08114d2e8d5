/- The texts of a claim, put together: the engine, the contracts, the law. Own work. -/
import Derived.Test.YtajibgahdkllkaaGreatWm0P0
import Derived.Test.YtajibgahdkllkaaGreatProg
import Derived.Test.YtajibgahdkllkaaGreatKl
import Derived.Test.YtajibgahdkllkaaGreatTs
import Derived.Test.YtajibgahdkllkaaGreatRows
import Derived.WalkKit
import Derived.ProofKit
import Derived.OpenShut
import Derived.JoinedCond
import Derived.WideKeyArgs
import Derived.ChangeSame
import Derived.Laws.BytesArg
namespace Go.Proofs.YtajibgahdkllkaaGreat.ME
open Go
open Go.RowKit
open Go.ChangeMaps (setBlock)
set_option linter.unusedVariables false
set_option linter.unusedSimpArgs false
def setT:List (Int × Bs) → Int → Bs → List (Int × Bs)
 | [],k,s=>[(k,s)]
 | x :: r,k,s=>if k < x.1 then (k,s) :: x :: r else if k = x.1 then (k,s) :: r else x :: setT r k s
theorem qcd {k:Int} {s:Bs}:∀ {u:List (Int × Bs)},(u.Pairwise fun x y=>x.1 < y.1) → ∀ x,x ∈ setT u k s ↔ x = (k,s) ∨ (x ∈ u ∧ x.1 ≠ k)
 | [],_,x=>by simp [setT]
 | y :: r,h,x=>by
  have h1:=@List.rel_of_pairwise_cons _ _ _ _ h
  have ih:=qcd (k:=k) (s:=s) (List.Pairwise.of_cons h) x
  unfold setT
  split
  ·rename_i hlt
   simp only [List.mem_cons]
   constructor
   ·rintro (rfl | rfl | hx)
    ·exact .inl rfl
    ·exact .inr ⟨.inl rfl,by omega⟩
    exact .inr ⟨.inr hx,by have:=h1 hx; omega⟩
   rintro (rfl | ⟨rfl | hx,_⟩)
   ·exact .inl rfl
   ·exact .inr (.inl rfl)
   exact .inr (.inr hx)
  split
  ·rename_i hge heq
   simp only [List.mem_cons]
   constructor
   ·rintro (rfl | hx)
    ·exact .inl rfl
    exact .inr ⟨.inr hx,by have:=h1 hx; omega⟩
   rintro (rfl | ⟨rfl | hx,hne⟩)
   ·exact .inl rfl
   ·exact absurd heq.symm hne
   exact .inr hx
  rename_i hge hne
  simp only [List.mem_cons,ih]
  constructor
  ·rintro (rfl | rfl | ⟨hx,hk⟩)
   ·exact .inr ⟨.inl rfl,fun e=>hne e.symm⟩
   ·exact .inl rfl
   exact .inr ⟨.inr hx,hk⟩
  rintro (rfl | ⟨rfl | hx,hk⟩)
  ·exact .inr (.inl rfl)
  ·exact .inl rfl
  exact .inr (.inr ⟨hx,hk⟩)
theorem qfb {k:Int} {s:Bs}:∀ {u:List (Int × Bs)},(u.Pairwise fun x y=>x.1 < y.1) → (setT u k s).Pairwise fun x y=>x.1 < y.1
 | [],_=>by simp [setT]
 | y :: r,h=>by
  have h1:=@List.rel_of_pairwise_cons _ _ _ _ h
  have ih:=qfb (k:=k) (s:=s) (List.Pairwise.of_cons h)
  unfold setT
  split
  ·rename_i hlt
   refine List.pairwise_cons.2 ⟨fun z hz=>?_,h⟩
   rcases List.mem_cons.1 hz with rfl | hz
   ·exact hlt
   have:=h1 hz; show k < z.1; omega
  split
  ·rename_i hge heq
   refine List.pairwise_cons.2 ⟨fun z hz=>?_,List.Pairwise.of_cons h⟩
   have:=h1 hz; show k < z.1; omega
  rename_i hge hne
  refine List.pairwise_cons.2 ⟨fun z hz=>?_,ih⟩
  rcases (qcd (List.Pairwise.of_cons h) z).1 hz with rfl | ⟨hz,_⟩
  ·show y.1 < k; omega
  exact h1 hz
theorem qgh {k:Int} {s:Bs}:∀ {u:List (Int × Bs)},(∀ x ∈ u,x.1 < k) → setT u k s = u ++ [(k,s)]
 | [],_=>rfl
 | y :: r,h=>by
  have h1:=h y (List.mem_cons_self ..)
  unfold setT
  rw [if_neg (by omega),if_neg (by omega),qgh fun x hx=>h x (List.mem_cons_of_mem _ hx)]
  rfl
structure MapC (w:World) (G:Nat → Nat → Prop) (es:Array MapEntry) (clk:Nat) (u:List (Int × Bs)):Prop where
 sorted:u.Pairwise fun x y=>x.1 < y.1
 range:∀ x ∈ u,0 ≤ x.1 ∧ x.1 < 4294967296
 keys:(es.toList.map (·.key)).Perm (u.map fun x=>Value.int .u32 x.1)
 born:∀ e ∈ es.toList,e.born < clk
 once:(es.toList.map (·.born)).Nodup
 each:∀ e ∈ es.toList,∃ k s A c,e.key = .int .u32 k ∧ e.val = .slice A (s:Bs).length c ∧ Octs w G A c s ∧ (k,s) ∈ u
theorem MapC.move {w w':World} {F F' M:Nat → Nat → Prop} {es:Array MapEntry} {clk:Nat} {u:List (Int × Bs)} (h:MapC w F es clk u) (hs:Step w w' M) (hM:∀ b o,F b o → b < w.heap.size → ¬ M b o) (hF:∀ b o,F b o → b < w.heap.size → F' b o):MapC w' F' es clk u :=
 ⟨h.sorted,h.range,h.keys,h.born,h.once,fun e he=>by
  obtain ⟨k,s,A,c,g1,g2,g3,g4⟩:=h.each e he
  exact ⟨k,s,A,c,g1,g2,g3.move hs hM hF,g4⟩⟩
structure OwnM (w:World) (G:Nat → Nat → Prop) (m:Option Nat) (u:List (Int × Bs)):Prop where
 none_:m = none → u = []
 some_:∀ r,m = some r → ∃ es clk,w.heap[r]? = some (.map es clk) ∧ MapC w G es clk u
theorem OwnM.nil (w:World) (G:Nat → Nat → Prop):OwnM w G none []:=⟨fun _=>rfl,fun _ h=>by cases h⟩
theorem OwnM.move {w w':World} {F F' M:Nat → Nat → Prop} {m:Option Nat} {u:List (Int × Bs)} (h:OwnM w F m u) (hs:Step w w' M) (hM:∀ b o,F b o → b < w.heap.size → ¬ M b o) (hF:∀ b o,F b o → b < w.heap.size → F' b o) (hr:∀ r o,m = some r → ¬ M r o):OwnM w' F' m u :=
 ⟨h.none_,fun r e=>by
  obtain ⟨es,clk,h1,h2⟩:=h.some_ r e
  exact ⟨es,clk,hs.heap (fun o=>hr r o e) h1,h2.move hs hM hF⟩⟩
theorem OwnM.map {w:World} {G F:Nat → Nat → Prop} {m:Option Nat} {u:List (Int × Bs)} (h:OwnM w G m u) (hG:∀ b o,G b o → F b o) (hr:∀ r o,m = some r → F r o) (hsorted:u.Pairwise fun x y=>x.1 < y.1) (hrange:∀ x ∈ u,0 ≤ x.1 ∧ x.1 < 4294967296):MapR w F m u:=by
 refine ⟨hsorted,hrange,h.none_,fun r e=>⟨fun o=>hr r o e,?_⟩⟩
 obtain ⟨es,clk,h1,h2⟩:=h.some_ r e
 have h2':=h2.move (Step.refl w Nil) nilM (fun b o hg _=>hG b o hg)
 exact ⟨es,clk,h1,h2'.keys,h2'.born,h2'.once,h2'.each⟩
theorem qdO {u:List (Int × Bs)} (h:u.Pairwise fun x y=>x.1 < y.1):(u.map fun x=>Value.int .u32 x.1).Nodup:=by
 rw [List.nodup_iff_pairwise_ne,List.pairwise_map]
 exact h.imp fun h e=>by injection e with _ e; omega
theorem Step.setBlock (w:World) (r:Nat) (o:Obj):Step w (setBlock w r o) (fun b _=>b = r):=by
 refine ⟨rfl,rfl,by simp [ChangeMaps.setBlock],fun b hb=>?_⟩
 by_cases h:b = r
 ·exact ⟨fun hm=>absurd h (hm 0),fun ⟨o,ho⟩=>absurd h ho⟩
 have:(ChangeMaps.setBlock w r o).heap[b]? = w.heap[b]?:=by
  simp only [ChangeMaps.setBlock,Array.getElem?_setIfInBounds]
  rw [if_neg fun e=>h e.symm]
 rw [this]; exact Keeps.refl _ _
theorem qev {w:World} {r:Nat} {o o':Obj} (h:w.heap[r]? = some o'):(setBlock w r o).heap[r]? = some o:=by
 have hlt:r < w.heap.size:=(Array.getElem?_eq_some_iff.1 h).1
 simp only [ChangeMaps.setBlock,Array.getElem?_setIfInBounds,if_true,if_pos hlt]
section
variable {P:Program} {w:World} {G:Nat → Nat → Prop}
theorem run_setObj' {r:Nat} {es:Array MapEntry} {clk:Nat} (hr:w.heap[r]? = some (.map es clk)) (es':Array MapEntry) (clk':Nat):(setObj r (.map es' clk')).run P w = .ok () (setBlock w r (.map es' clk')):=by
 simp [setObj,Sem.run,hr,setBlock]
theorem run_mapUpdate' {t kt et:TypeId} {r:Nat} {es:Array MapEntry} {clk:Nat} {u:List (Int × Bs)} {k:Int} {A:Option Addr} {c:Nat} {s:Bs} (ht:qgM P t = some (kt,et)) (hkt:P.underlying kt = some (.int .u32)) (hr:w.heap[r]? = some (.map es clk)) (hm:MapC w G es clk u)
  (hs:Octs w G A c s) (hk:0 ≤ k ∧ k < 4294967296) (hG:∀ b o,G b o → b ≠ r):∃ es' clk',(Instr.mapUpdate t (.map (some r)) (.int .u32 k) (.slice A s.length c)).run P w = .ok () (setBlock w r (.map es' clk')) ∧ MapC (setBlock w r (.map es' clk')) G es' clk' (setT u k s):=by
 have hkeys:∀ e ∈ es.toList,∃ q,e.key = .int .u32 q:=fun e he=>by
  obtain ⟨q,_,_,_,h,_⟩:=hm.each e he; exact ⟨q,h⟩
 have hstep:=fun es' clk'=>Step.setBlock w r (.map es' clk')
 have hmove:∀ es' clk' {A c} {s:Bs},Octs w G A c s → Octs (setBlock w r (.map es' clk')) G A c s:=fun es' clk' {A c s} h=>h.move (hstep es' clk') (fun b o hg _=>hG b o hg) qco
 have hsT:=qfb (k:=k) (s:=s) hm.sorted
 have hrT:∀ x ∈ setT u k s,0 ≤ x.1 ∧ x.1 < 4294967296:=fun x hx=>by
  rcases (qcd hm.sorted x).1 hx with rfl | ⟨hx,_⟩
  ·exact hk
  exact hm.range x hx
 rcases qea (k:=k) es.toList 0 hkeys with ⟨h1,h2⟩ | ⟨j,e,h1,h2,h3,h4⟩
 ·-- a new key
  refine ⟨es.push { key:=.int .u32 k,val:=.slice A s.length c,born:=clk },clk + 1,?_,?_⟩
  ·unfold Instr.mapUpdate
   simp only [Sem.run_bind,run_underlying (qdN ht),Result.andThen_ok,run_getObj' hr,qdC hkt,qeb hkt h1,run_setObj' hr]
  have hnew:∀ x ∈ u,x.1 ≠ k:=fun x hx e=>by
   have:Value.int .u32 k ∈ es.toList.map (·.key):=hm.keys.mem_iff.2 (List.mem_map.2 ⟨x,hx,by rw [e]⟩)
   obtain ⟨e',he',hk'⟩:=List.mem_map.1 this
   exact h2 e' he' hk'
  refine ⟨hsT,hrT,?_,fun e he=>?_,?_,fun e he=>?_⟩
  ·have hn1:((es.push { key:=.int .u32 k,val:=.slice A s.length c,born:=clk }).toList.map (·.key)).Nodup:=by
    rw [Array.toList_push,List.map_append,List.nodup_append]
    refine ⟨hm.keys.nodup_iff.2 (qdO hm.sorted),by simp,fun a ha b hb=>?_⟩
    simp only [List.map_cons,List.map_nil,List.mem_singleton] at hb
    subst hb
    obtain ⟨e',he',rfl⟩:=List.mem_map.1 ha
    exact h2 e' he'
   refine (List.perm_ext_iff_of_nodup hn1 (qdO hsT)).2 fun v=>?_
   rw [Array.toList_push,List.map_append,List.mem_append,hm.keys.mem_iff]
   simp only [List.map_cons,List.map_nil,List.mem_singleton,List.mem_map]
   constructor
   ·rintro (⟨x,hx,rfl⟩ | rfl)
    ·exact ⟨x,(qcd hm.sorted x).2 (.inr ⟨hx,hnew x hx⟩),rfl⟩
    exact ⟨(k,s),(qcd hm.sorted _).2 (.inl rfl),rfl⟩
   rintro ⟨x,hx,rfl⟩
   rcases (qcd hm.sorted x).1 hx with rfl | ⟨hx,_⟩
   ·exact .inr rfl
   exact .inl ⟨x,hx,rfl⟩
  ·rw [Array.toList_push,List.mem_append] at he
   rcases he with he | he
   ·have:=hm.born e he; omega
   rw [List.mem_singleton.1 he]; exact Nat.lt_succ_self _
  ·rw [Array.toList_push,List.map_append,List.nodup_append]
   refine ⟨hm.once,by simp,fun a ha b hb=>?_⟩
   simp only [List.map_cons,List.map_nil,List.mem_singleton] at hb
   subst hb
   obtain ⟨e',he',rfl⟩:=List.mem_map.1 ha
   have:=hm.born e' he'
   omega
  rw [Array.toList_push,List.mem_append] at he
  rcases he with he | he
  ·obtain ⟨q,s',A',c',g1,g2,g3,g4⟩:=hm.each e he
   exact ⟨q,s',A',c',g1,g2,hmove _ _ g3,(qcd hm.sorted _).2 (.inr ⟨g4,hnew _ g4⟩)⟩
  rw [List.mem_singleton.1 he]
  exact ⟨k,s,A,c,rfl,rfl,hmove _ _ hs,(qcd hm.sorted _).2 (.inl rfl)⟩
 -- a key that is there
 have hj:j < es.size:=by have:=(List.getElem?_eq_some_iff.1 h1).1; simpa using this
 have hej:es[j]? = some e:=by simpa using h1
 have hmap:∀ {β:Type} (g:MapEntry → β),(∀ v,g { e with key:=.int .u32 k,val:=v } = g e) → (es.modify j fun e=>{ e with key:=.int .u32 k,val:=.slice A s.length c }).toList.map g = es.toList.map g:=fun {β} g hg=>by
  apply List.ext_getElem?
  intro i
  rw [List.getElem?_map,List.getElem?_map]
  simp only [Array.getElem?_toList,Array.getElem?_modify]
  split
  ·rename_i hij
   subst hij
   rw [hej]
   simp only [Option.map_some]
   rw [hg]
  rfl
 have hmem:∀ x ∈ (es.modify j fun e=>{ e with key:=.int .u32 k,val:=.slice A s.length c }).toList,x = { e with key:=.int .u32 k,val:=.slice A s.length c } ∨ ∃ i,i ≠ j ∧ es.toList[i]? = some x:=fun x hx=>by
  obtain ⟨i,hi⟩:=List.getElem?_of_mem hx
  simp only [Array.getElem?_toList,Array.getElem?_modify] at hi
  split at hi
  ·rename_i hij
   subst hij
   rw [hej] at hi
   exact .inl (Option.some.inj hi).symm
  rename_i hij
  exact .inr ⟨i,fun e=>hij e.symm,by simpa using hi⟩
 have hke:e.key = .int .u32 k:=h2
 refine ⟨es.modify j fun e=>{ e with key:=.int .u32 k,val:=.slice A s.length c },clk,?_,?_⟩
 ·unfold Instr.mapUpdate
  have hst:(Instr.keyThatStays (((es[j]?).map (·.key)).getD (.int .u32 k)) (.int .u32 k)).run P w = .ok (.int .u32 k) w:=by
   rw [hej]
   unfold Instr.keyThatStays
   simp only [Option.map_some,Option.getD_some,hke]
   have:Instr.sameBits 10000 (.int .u32 k) (.int .u32 k) = true:=by
    show Instr.sameBits (9999 + 1) _ _ = true
    generalize 9999 = d
    simp [Instr.sameBits]
   rw [this]; rfl
  simp only [Sem.run_bind,run_underlying (qdN ht),Result.andThen_ok,run_getObj' hr,qdC hkt,qeb hkt h3,hst,run_setObj' hr,Nat.zero_add]
 have hkeq:(es.modify j fun e=>{ e with key:=.int .u32 k,val:=.slice A s.length c }).toList.map (·.key) = es.toList.map (·.key):=hmap (·.key) fun v=>hke.symm
 have hbeq:(es.modify j fun e=>{ e with key:=.int .u32 k,val:=.slice A s.length c }).toList.map (·.born) = es.toList.map (·.born):=hmap (·.born) fun v=>rfl
 have hnd:(es.toList.map (·.key)).Nodup:=hm.keys.nodup_iff.2 (qdO hm.sorted)
 have hkin:∃ x ∈ u,x.1 = k:=by
  have:Value.int .u32 k ∈ u.map fun x=>Value.int .u32 x.1:=hm.keys.mem_iff.1 (List.mem_map.2 ⟨e,List.mem_of_getElem? h1,hke⟩)
  obtain ⟨x,hx,he⟩:=List.mem_map.1 this
  injection he with _ he
  exact ⟨x,hx,he⟩
 refine ⟨hsT,hrT,?_,fun x hx=>?_,by rw [hbeq]; exact hm.once,fun x hx=>?_⟩
 ·rw [hkeq]
  refine (List.perm_ext_iff_of_nodup hnd (qdO hsT)).2 fun v=>?_
  rw [hm.keys.mem_iff]
  simp only [List.mem_map]
  constructor
  ·rintro ⟨x,hx,rfl⟩
   by_cases hxk:x.1 = k
   ·exact ⟨(k,s),(qcd hm.sorted _).2 (.inl rfl),by rw [hxk]⟩
   exact ⟨x,(qcd hm.sorted x).2 (.inr ⟨hx,hxk⟩),rfl⟩
  rintro ⟨x,hx,rfl⟩
  rcases (qcd hm.sorted x).1 hx with rfl | ⟨hx,_⟩
  ·obtain ⟨y,hy,hye⟩:=hkin
   exact ⟨y,hy,by rw [hye]⟩
  exact ⟨x,hx,rfl⟩
 ·rcases hmem x hx with rfl | ⟨i,_,hi⟩
  ·exact hm.born e (List.mem_of_getElem? h1)
  exact hm.born x (List.mem_of_getElem? hi)
 rcases hmem x hx with rfl | ⟨i,hij,hi⟩
 ·exact ⟨k,s,A,c,rfl,rfl,hmove _ _ hs,(qcd hm.sorted _).2 (.inl rfl)⟩
 obtain ⟨q,s',A',c',g1,g2,g3,g4⟩:=hm.each x (List.mem_of_getElem? hi)
 refine ⟨q,s',A',c',g1,g2,hmove _ _ g3,(qcd hm.sorted _).2 (.inr ⟨g4,fun hq=>hij ?_⟩)⟩
 have hxi:(es.toList.map (·.key))[i]? = some (.int .u32 k):=by rw [List.getElem?_map,hi,Option.map_some,g1]; dsimp only at hq; rw [hq]
 have hxj:(es.toList.map (·.key))[j]? = some (.int .u32 k):=by rw [List.getElem?_map,h1,Option.map_some,hke]
 exact (List.getElem?_inj (List.getElem?_eq_some_iff.1 hxi).1 hnd).1 (hxi.trans hxj.symm)
end
end Go.Proofs.YtajibgahdkllkaaGreat.ME
namespace Go.Proofs.YtajibgahdkllkaaGreat.ME
open Go
open Go.RowKit
open Go.ChangeMaps (setBlock)
set_option linter.unusedVariables false
set_option linter.unusedSimpArgs false
set_option maxRecDepth 20000
theorem WOk.start1 {w:World} {M F:Nat → Nat → Prop} {b o:Nat} {cs:List Value} {tb:Tb} (hW:WOk w M w tb []) (hat:AtF w F b o cs) (hn:Nat.blt 0 cs.length = true) (hrw:tb.all (fun ob=>!ob.rw) = true):WOk w M w (tb ++ [⟨b,o,cs,false⟩]) []:=by
 have hn':0 < cs.length:=by simpa [Nat.blt_eq] using hn
 obtain ⟨g1,g2⟩:=hat 0 _ (List.getElem?_eq_getElem hn')
 refine hW.add ⟨b,o,cs,false⟩ (World.lt_of_cell g2) (fun j v hj=>(hat j v hj).2) (fun h=>by cases h) (fun i ob hi hr=>?_) (fun i r hi=>by simp at hi)
 rcases hr with hr | hr
 ·have:=List.all_eq_true.1 hrw ob (List.mem_of_getElem? hi)
  rw [hr] at this; cases this
 cases hr
theorem EnvOk.ptr0 {n:Nat} {env:Env} {a:Act} {b o:Nat} {cs:List Value} {r:Bool} (h:EnvOk n [] ((0,.v (.pointer (some ⟨b,o,none⟩))) :: env) a):EnvOk n [⟨b,o,cs,r⟩] ((0,.p 0 0) :: (0,.v (.pointer (some ⟨b,o,none⟩))) :: env) a :=
 (h.grow ⟨b,o,cs,r⟩).recast 0 (.v (.pointer (some ⟨b,o,none⟩))) (.p 0 0) rfl rfl (by simp [SV.ok])
theorem qeX {m:Option Nat} {u:List (Int × Bs)} {b o:Nat} {w:World} {F:Nat → Nat → Prop} (hat:AtF w F b o [.map m]) (hm:MapR w F m u) :
  Calls Tryz.prog 44 [.pointer (some ⟨b,o,none⟩)].toArray w (qdu w (.int .i64 ((u.length:Nat):Int))):=by
 refine enter (n:=8) Tryz.func44 rfl Tryz.ntmps44 kz fun a hE=>?_
 have hW:WOk w Nil w [⟨b,o,[.map m],false⟩] []:=(WOk.start w Nil).start1 hat rfl rfl
 refine qad [0] kz (qaT [0] [] [0] hW (EnvOk.ptr0 (cs:=[.map m]) (r:=false) hE) (env':=[(0,.p 0 0)]) kz rfl fun a1 hE1=>qae (qaa ?_))
 refine qad [0,1,2,3,4,5] kz ?_
 refine qaT [0,1,2,3] [4,5] [6] hW hE1 (env':=[(6,.v (.map m))]) kz rfl fun a2 hE2=>?_
 refine qah (qfa (t:=54) (kt:=62) (et:=22) hE2 (m:=m) (d:=7) kz kz hm fun a3 hE3=>?_)
 refine qaT [5] [] [2] hW hE3 (env':=[(2,.v (.int .i64 ((u.length:Nat):Int)))]) kz rfl fun a4 hE4=>qae (qaa (wp_ret ?_))
 exact qaV hE4 hW.cells (v:=.int .i64 ((u.length:Nat):Int)) kz ⟨rfl,Step.refl _ _⟩
section
variable {P:Program} {ops:Array Oper} {Q:Exit → Act → World → Prop} {n:Nat} {tb:Tb} {env:Env} {rs:List Rw} {w0:World} {M:Nat → Nat → Prop} {a:Act} {w:World} {G:Nat → Nat → Prop}
def qjV (env:Env) (ops:Array Oper) (n i:Nat):Option Nat :=
 match opAt env ops n i with
 | some (.makeMap t none,d)=>some d
 | _=>none
theorem qhJ {i d:Nat} {N:Act → World → Prop} (hE:EnvOk n tb env a) (h:qjV env ops n i = some d) (K:∀ a',EnvOk n tb ((d,.v (.map (some w.heap.size))) :: env) a' → N a' (w.alloc (.map #[] 0))):wpOp P ops Q i N a w:=by
 unfold qjV at h
 split at h
 ·rename_i t d' ho
  simp only [Option.some.injEq] at h
  subst h
  have hd:=(qbt hE ho).choose_spec.2.2.2.1
  refine qa5 hE ho (v:=.map (some w.heap.size)) (w':=w.alloc (.map #[] 0)) ?_ (K _ (hE.put hd (.v _) trivial))
  intro o hop
  unfold execOp
  rw [hop]
  rfl
 cases h
def updE (env:Env) (ops:Array Oper) (i:Nat):Option (TypeId × Nat × Int × Value) :=
 match qhw ops i with
 | some (.mapUpdate t m k x)=>match opd env m,opd env k,opd env x with
  | some (.v (.map (some r))),some (.v (.int .u32 q)),some (.v v)=>some (t,r,q,v)
  | _,_,_=>none
 | _=>none
theorem qjw {i:Nat} {t kt et:TypeId} {r:Nat} {es:Array MapEntry} {clk:Nat} {u:List (Int × Bs)} {k:Int} {A:Option Addr} {c:Nat} {s:Bs} {N:Act → World → Prop} (hE:EnvOk n tb env a) (h:updE env ops i = some (t,r,k,.slice A s.length c)) (ht:qgM P t = some (kt,et)) (hkt:P.underlying kt = some (.int .u32)) (hr:w.heap[r]? = some (.map es clk)) (hm:MapC w G es clk u)
  (hs:Octs w G A c s) (hk:0 ≤ k ∧ k < 4294967296) (hG:∀ b o,G b o → b ≠ r) (K:∀ es' clk',MapC (setBlock w r (.map es' clk')) G es' clk' (setT u k s) → N a (setBlock w r (.map es' clk'))):wpOp P ops Q i N a w:=by
 obtain ⟨es',clk',h1,h2⟩:=run_mapUpdate' (P:=P) ht hkt hr hm hs hk hG
 unfold updE at h
 split at h
 ·rename_i t' x y z ho
  split at h
  ·rename_i r' q v hs1 hs2 hs3
   simp only [Option.some.injEq,Prod.mk.injEq] at h
   obtain ⟨rfl,rfl,rfl,rfl⟩:=h
   refine qe5 ho (w':=setBlock w r' (.map es' clk')) ?_ (K es' clk' h2)
   intro o hop
   unfold execOp
   rw [hop]
   simp only [(qaZ hE hs1).1,(qaZ hE hs2).1,(qaZ hE hs3).1,SV.val,Sem.run_bind,h1,Result.andThen_ok,Sem.run_pure]
  cases h
 cases h
end
def qkg:Option Code → Array Oper
 | some (.seq _ (.region _ ops _))=>ops
 | _=>#[]
def qit (w:World) (G:Nat → Nat → Prop) (b o:Nat) (m:Option Nat) (u:List (Int × Bs)):Ending → World → Prop:=fun e w' =>
 e = .returned (.tuple #[]) ∧ ∃ r,w'.cell? ⟨b,o,none⟩ = some (.map (some r)) ∧ w'.frozen? ⟨b,o,none⟩ = false ∧ OwnM w' G (some r) u ∧ (m = some r ∨ w.heap.size ≤ r) ∧ Step w w' (fun b' o'=>(b' = b ∧ o' = o) ∨ m = some b')
theorem qfw {w:World} {b o:Nat} {v:Value} (h:w.cell? ⟨b,o,none⟩ = some v) {r:Nat} {es:Array MapEntry} {clk:Nat} (hr:w.heap[r]? = some (.map es clk)):b ≠ r:=by
 rintro rfl
 unfold World.cell? at h
 rw [hr] at h
 cases h
theorem qjx {m:Option Nat} {u:List (Int × Bs)} {b o c:Nat} {k:Int} {A:Option Addr} {s:Bs} {w:World} {G:Nat → Nat → Prop} (hcell:w.cell? ⟨b,o,none⟩ = some (.map m)) (hfz:w.frozen? ⟨b,o,none⟩ = false) (hm:OwnM w G m u) (hs:Octs w G A c s) (hk:0 ≤ k ∧ k < 4294967296)
  (hG:∀ b' o',G b' o' → ¬ (b' = b ∧ o' = o) ∧ m ≠ some b') (hG':∀ b' o',G b' o' → b' < w.heap.size) :
  Calls Tryz.prog 32 [.pointer (some ⟨b,o,none⟩),.int .u32 k,.slice A s.length c].toArray w (qit w G b o m (setT u k s)):=by
 refine enter (n:=21) Tryz.func32 rfl Tryz.ntmps32 kz fun a hE=>?_
 have hW:WOk w (fun b' o'=>(b' = b ∧ o' = o) ∨ m = some b') w [⟨b,o,[.map m],true⟩] []:=by
  refine (WOk.start w _).add ⟨b,o,[.map m],true⟩ (World.lt_of_cell hcell) (fun j v hj=>?_) (fun _ j hj=>?_) (fun i ob hi=>by simp at hi) (fun i r hi=>by simp at hi)
  ·have hj0:j = 0:=by
    have:=(List.getElem?_eq_some_iff.1 hj).1
    simp at this; omega
   subst hj0
   simp only [List.getElem?_cons_zero,Option.some.injEq] at hj
   subst hj
   exact hcell
  have hj0:j = 0:=by simp at hj; omega
  subst hj0
  exact ⟨.inr (.inl ⟨rfl,rfl⟩),hfz⟩
 refine wp_seq (wp_seq ?_)
 refine qap [0,1,2,3,4] kz (qaT [0,1,2,3,4] [] [0,1,2,10] hW (EnvOk.ptr0 (cs:=[.map m]) (r:=true) hE) (env':=[(0,.p 0 0),(1,.v (.int .u32 k)),(2,.v (.slice A s.length c)),(10,.v (.bool m.isNone))]) kz rfl fun a1 hE1=>qae (qaa ?_))
 have key:∀ (r:Nat) (w1:World) (a':Act) (es:Array MapEntry) (clk:Nat),WOk w (fun b' o'=>(b' = b ∧ o' = o) ∨ m = some b') w1 [⟨b,o,[.map (some r)],true⟩] [] → EnvOk 21 [⟨b,o,[.map (some r)],true⟩] [(0,.p 0 0),(1,.v (.int .u32 k)),(2,.v (.slice A s.length c))] a' →
   w1.heap[r]? = some (.map es clk) → MapC w1 G es clk u → Octs w1 G A c s → (∀ b' o',G b' o' → b' ≠ r) → (m = some r ∨ w.heap.size ≤ r) →
   (Code.region 2 (qkg Tryz.f32.body) false).wp Tryz.prog (bodyPost Tryz.prog Tryz.f32 (qit w G b o m (setT u k s))) a' w1:=by
  intro r w1 a' es clk hW1 hE' hr hmc hso hGr hnew
  refine qap [0,1,2,3,4,5,6] kz ?_
  refine qaT [0,1,2,3,4,5] [6] [18,19,20] hW1 hE' (env':=[(18,.v (.map (some r))),(19,.v (.int .u32 k)),(20,.v (.slice A s.length c))]) kz rfl fun a2 hE2=>?_
  refine qah (qjw (t:=54) (kt:=62) (et:=22) hE2 kz kz kz hr hmc hso hk hGr fun es' clk' hmc'=>qae ?_)
  have hcell1:=hW1.cells 0 _ rfl 0 _ rfl
  have hbr:b ≠ r:=qfw hcell1 hr
  have hst:=Step.setBlock w1 r (.map es' clk')
  have hW2:WOk w (fun b' o'=>(b' = b ∧ o' = o) ∨ m = some b') (setBlock w1 r (.map es' clk')) [⟨b,o,[.map (some r)],true⟩] []:=by
   refine hW1.next hst (fun b' o' hb' hN=>?_) (fun i ob hi j hj hN=>?_) (fun i q hi=>by simp at hi)
   ·subst hN
    rcases hnew with h1 | h1
    ·exact .inr h1
    omega
   cases i with
   | zero=>simp only [List.getElem?_cons_zero,Option.some.injEq] at hi; subst hi; exact hbr hN
   | succ i=>simp at hi
  refine qda hE2 hW2.cells (v:=.tuple #[]) kz ⟨rfl,r,?_,?_,⟨(fun h=>by cases h),fun r' hr'=>?_⟩,hnew,hW2.step⟩
  ·simpa using hW2.cells 0 _ rfl 0 _ rfl
  ·simpa using (hW2.rw_ 0 _ rfl rfl 0 (by simp)).2
  obtain rfl:=Option.some.inj hr'
  exact ⟨es',clk',qev hr,hmc'⟩
 refine qau hE1 (b:=m.isNone) kz (fun hb=>?_) (fun hb=>?_)
 ·obtain rfl:m = none:=by simpa using hb
  obtain rfl:=hm.none_ rfl
  refine qap [0,1,2,3,4] kz ?_
  refine qaT [0] [1,2,3,4] [0,1,2,11] hW hE1 (env':=[(0,.p 0 0),(1,.v (.int .u32 k)),(2,.v (.slice A s.length c)),(11,.p 0 0)]) kz rfl fun a2 hE2=>?_
  refine qah (qhJ hE2 (d:=12) kz fun a3 hE3=>?_)
  have hW1:=hW.next_nil (Step.alloc w (.map #[] 0))
  refine qaT [2,3] [4] [0,1,2,12,14] hW1 hE3 (env':=[(0,.p 0 0),(1,.v (.int .u32 k)),(2,.v (.slice A s.length c)),(12,.v (.map (some w.heap.size))),(14,.p 0 0)]) kz rfl fun a4 hE4=>?_
  refine qah (qaj hW1 hE4 (oi:=0) (cs:=[.map (some w.heap.size)]) kz fun w2 hF2 hW2 hE5=>qae (qaa ?_))
  have hr1:(w.alloc (.map #[] 0)).heap[w.heap.size]? = some (.map #[] 0):=qdg _ _
  have hst2:Step (w.alloc (.map #[] 0)) w2 (Act_ [⟨b,o,[.map none],true⟩] []):=hF2.step
  have hact:∀ {b' o':Nat},Act_ [⟨b,o,[.map none],true⟩] [] b' o' → b' = b ∧ o' = o:=by
   rintro b' o' (⟨i,ob,hi,_,rfl,h1,h2⟩ | ⟨i,q,hi,_⟩)
   ·cases i with
    | zero =>
     simp only [List.getElem?_cons_zero,Option.some.injEq] at hi; subst hi
     simp at h1 h2
     exact ⟨rfl,by omega⟩
    | succ i=>simp at hi
   simp at hi
  have hblt:=World.lt_of_cell hcell
  have hr2:w2.heap[w.heap.size]? = some (.map #[] 0):=hst2.heap (fun o' ha=>by have:=(hact ha).1; omega) hr1
  refine key w.heap.size w2 _ #[] 0 hW2 (hE5.pick (ks:=[0,1,2]) kz) hr2 ⟨List.Pairwise.nil,(fun _ h=>by cases h),List.Perm.refl _,(fun _ h=>by cases h),List.nodup_nil,(fun _ h=>by cases h)⟩ ?_ (fun b' o' hg=>by have:=hG' b' o' hg; omega) (.inr (Nat.le_refl _))
  exact (hs.move (Step.alloc w (.map #[] 0)) nilM qco).move hst2 (fun b' o' hg _ ha=>(hG b' o' hg).1 (hact ha)) qco
 cases m with
 | none=>cases hb
 | some r =>
  obtain ⟨es,clk,h1,h2⟩:=hm.some_ r rfl
  exact wp_skip (qaa (key r w a1 es clk hW (hE1.pick (ks:=[0,1,2]) kz) h1 h2 hs (fun b' o' hg e=>(hG b' o' hg).2 (by rw [e])) (.inl rfl)))
end Go.Proofs.YtajibgahdkllkaaGreat.ME
namespace Go.Proofs.YtajibgahdkllkaaGreat.ME
open Go
open Go.RowKit
set_option linter.unusedVariables false
set_option linter.unusedSimpArgs false
set_option maxRecDepth 20000
theorem qfU (A:Option Addr) (c:Nat) (s:List UInt8) (x:Int) (w:World) (ho:w.ownsRow 0 5 1 (.slice A s.length c) s.length (bc s)) (hroom:s.length + 16 ≤ 1099511627776) :
  Calls Tryz.prog 60 #[.slice A s.length c,.int .u16 x] w (qbu w 5 A (s ++ be 2 x)):=by
 refine enter (n:=13) Tryz.func60 rfl Tryz.ntmps60 kz fun a hE=>?_
 have hW:=WOk.startRow w ho
 refine qaz [(0,.v (.slice A s.length c)),(1,.v (.int .u16 x))] hW hE fun a1 hE2=>?_
 refine qad [0,1,2,3,4,5,6,7,8] kz ?_
 refine qak [0,1,2,3,4,5] [6,7,8] [(5,.v (.slice A s.length c)),(8,.v (.int .u8 (IntKind.u8.wrap (Int.fdiv x 256)))),(10,.v (.int .u8 (IntKind.u8.wrap x)))] hW hE2 fun a3 hE4=>?_
 refine qbl hW hE4 (k:=0) (e:=5) (size:=1) (len:=2) (cs:=[.int .u8 (IntKind.u8.wrap (Int.fdiv x 256)),.int .u8 (IntKind.u8.wrap x)]) (d1:=11) (d:=12) kz (t:=22) (bytes:=1) kz (fun _=>by kernel_rfl) rfl kz (by first | (have:=hroom; omega) | (simp; done) | (simp; omega)) fun A5 c6 a7 w8 hF9 ab ⟨_,ac⟩=>?_
 have ae:(⟨A5,c6,5,1,s.length + 2,bc s ++ [.int .u8 (IntKind.u8.wrap (Int.fdiv x 256)),.int .u8 (IntKind.u8.wrap x)]⟩:Rw) = brow A5 c6 5 (s ++ [by8 (Int.fdiv x 256),by8 x]):=qbr (by simp only [bc,List.map,qbT]; try rfl) rfl
 obtain ⟨aa,ai⟩:=ab.rowEq 0 [brow A5 c6 5 (s ++ [by8 (Int.fdiv x 256),by8 x])] ae
 have af:=EnvOk.pick ac (ks:=[5,8,10,12]) (env':=[(5,.v (.slice A s.length c)),(8,.v (.int .u8 (IntKind.u8.wrap (Int.fdiv x 256)))),(10,.v (.int .u8 (IntKind.u8.wrap x))),(12,.v (.slice A5 (s.length + 2) c6))]) kz
 have ag:=af.cast (env':=[(5,.v (.slice A s.length c)),(8,.v (.int .u8 (IntKind.u8.wrap (Int.fdiv x 256)))),(10,.v (.int .u8 (IntKind.u8.wrap x))),(12,.v (.slice A5 ((s ++ [by8 (Int.fdiv x 256),by8 x]).length) c6))]) (by simp only [List.length_append,List.length_cons,List.length_nil,Nat.zero_add])
 refine qak [8] [] [(4,.v (.slice A5 ((s ++ [by8 (Int.fdiv x 256),by8 x]).length) c6))] aa ag fun aj ah=>?_
 refine qae (qaa ?_)
 refine wp_ret ?_
 refine qaV ah aa.cells (v:=.slice A5 ((s ++ [by8 (Int.fdiv x 256),by8 x]).length) c6) kz ?_
 have e0:(s ++ [by8 (Int.fdiv x 256),by8 x]) = (s ++ be 2 x):=by simp [bc,be,qbT,Int.fdiv_eq_ediv_of_nonneg]
 have h0:=qdA aa 0 rfl
 rw [e0] at h0
 have e1:(s ++ [by8 (Int.fdiv x 256),by8 x]).length = (s ++ be 2 x).length:=by rw [← e0]
 rw [e1]; exact h0
theorem qfV (A:Option Addr) (c:Nat) (s:List UInt8) (x:Int) (w:World) (ho:w.ownsRow 0 5 1 (.slice A s.length c) s.length (bc s)) (hroom:s.length + 16 ≤ 1099511627776) :
  Calls Tryz.prog 59 #[.slice A s.length c,.int .u32 x] w (qbu w 5 A (s ++ be 4 x)):=by
 refine enter (n:=19) Tryz.func59 rfl Tryz.ntmps59 kz fun a hE=>?_
 have hW:=WOk.startRow w ho
 refine qaz [(0,.v (.slice A s.length c)),(1,.v (.int .u32 x))] hW hE fun a1 hE2=>?_
 refine qad [0,1,2,3,4,5,6,7,8,9,10,11,12,13,14] kz ?_
 refine qak [0,1,2,3,4,5,6,7,8,9,10,11] [12,13,14] [(5,.v (.slice A s.length c)),(8,.v (.int .u8 (IntKind.u8.wrap (Int.fdiv x 16777216)))),(11,.v (.int .u8 (IntKind.u8.wrap (Int.fdiv x 65536)))),(14,.v (.int .u8 (IntKind.u8.wrap (Int.fdiv x 256)))),(16,.v (.int .u8 (IntKind.u8.wrap x)))] hW hE2 fun a3 hE4=>?_
 refine qbl hW hE4 (k:=0) (e:=5) (size:=1) (len:=4) (cs:=[.int .u8 (IntKind.u8.wrap (Int.fdiv x 16777216)),.int .u8 (IntKind.u8.wrap (Int.fdiv x 65536)),.int .u8 (IntKind.u8.wrap (Int.fdiv x 256)),.int .u8 (IntKind.u8.wrap x)]) (d1:=17) (d:=18) kz (t:=22) (bytes:=1) kz (fun _=>by kernel_rfl) rfl kz (by first | (have:=hroom; omega) | (simp; done) | (simp; omega)) fun A5 c6 a7 w8 hF9 ab ⟨_,ac⟩=>?_
 have ae:(⟨A5,c6,5,1,s.length + 4,bc s ++ [.int .u8 (IntKind.u8.wrap (Int.fdiv x 16777216)),.int .u8 (IntKind.u8.wrap (Int.fdiv x 65536)),.int .u8 (IntKind.u8.wrap (Int.fdiv x 256)),.int .u8 (IntKind.u8.wrap x)]⟩:Rw) = brow A5 c6 5 (s ++ [by8 (Int.fdiv x 16777216),by8 (Int.fdiv x 65536),by8 (Int.fdiv x 256),by8 x]):=qbr (by simp only [bc,List.map,qbT]; try rfl) rfl
 obtain ⟨aa,ai⟩:=ab.rowEq 0 [brow A5 c6 5 (s ++ [by8 (Int.fdiv x 16777216),by8 (Int.fdiv x 65536),by8 (Int.fdiv x 256),by8 x])] ae
 have af:=EnvOk.pick ac (ks:=[5,8,11,14,16,18]) (env':=[(5,.v (.slice A s.length c)),(8,.v (.int .u8 (IntKind.u8.wrap (Int.fdiv x 16777216)))),(11,.v (.int .u8 (IntKind.u8.wrap (Int.fdiv x 65536)))),(14,.v (.int .u8 (IntKind.u8.wrap (Int.fdiv x 256)))),(16,.v (.int .u8 (IntKind.u8.wrap x))),(18,.v (.slice A5 (s.length + 4) c6))]) kz
 have ag:=af.cast (env':=[(5,.v (.slice A s.length c)),(8,.v (.int .u8 (IntKind.u8.wrap (Int.fdiv x 16777216)))),(11,.v (.int .u8 (IntKind.u8.wrap (Int.fdiv x 65536)))),(14,.v (.int .u8 (IntKind.u8.wrap (Int.fdiv x 256)))),(16,.v (.int .u8 (IntKind.u8.wrap x))),(18,.v (.slice A5 ((s ++ [by8 (Int.fdiv x 16777216),by8 (Int.fdiv x 65536),by8 (Int.fdiv x 256),by8 x]).length) c6))]) (by simp only [List.length_append,List.length_cons,List.length_nil,Nat.zero_add])
 refine qak [14] [] [(4,.v (.slice A5 ((s ++ [by8 (Int.fdiv x 16777216),by8 (Int.fdiv x 65536),by8 (Int.fdiv x 256),by8 x]).length) c6))] aa ag fun aj ah=>?_
 refine qae (qaa ?_)
 refine wp_ret ?_
 refine qaV ah aa.cells (v:=.slice A5 ((s ++ [by8 (Int.fdiv x 16777216),by8 (Int.fdiv x 65536),by8 (Int.fdiv x 256),by8 x]).length) c6) kz ?_
 have e0:(s ++ [by8 (Int.fdiv x 16777216),by8 (Int.fdiv x 65536),by8 (Int.fdiv x 256),by8 x]) = (s ++ be 4 x):=by simp [bc,be,qbT,Int.fdiv_eq_ediv_of_nonneg]
 have h0:=qdA aa 0 rfl
 rw [e0] at h0
 have e1:(s ++ [by8 (Int.fdiv x 16777216),by8 (Int.fdiv x 65536),by8 (Int.fdiv x 256),by8 x]).length = (s ++ be 4 x).length:=by rw [← e0]
 rw [e1]; exact h0
theorem qc3 (A:Option Addr) (c:Nat) (s:List UInt8) (x:Int) (w:World) (ho:w.ownsRow 0 5 1 (.slice A s.length c) s.length (bc s)) (hroom:s.length + 16 ≤ 1099511627776) :
  Calls Tryz.prog 36 #[.slice A s.length c,.int .i16 x] w (qbu w 5 A (s ++ be 2 x)):=by
 refine enter (n:=9) Tryz.func36 rfl Tryz.ntmps36 kz fun a hE=>?_
 have hW:=WOk.startRow w ho
 refine qaz [(0,.v (.slice A s.length c)),(1,.v (.int .i16 x))] hW hE fun a1 hE2=>?_
 refine qad [0,1,2,3,4] kz ?_
 refine qak [0,1,2] [3,4] [(5,.v (.slice A s.length c)),(7,.v (.int .u16 (IntKind.u16.wrap x)))] hW hE2 fun a3 hE4=>?_
 refine qah (qai hE4 (f:=60) (vs:=[.slice A s.length c,.int .u16 (IntKind.u16.wrap x)]) (d:=8) kz Tryz.call60 (qfU A c s (IntKind.u16.wrap x) _ (hW.own 0 _ rfl) (by first | (have:=hroom; omega) | (simp; done) | (simp; omega))) ?_)
 rintro e_ w7 ⟨A5,c6,rfl,ho9,ab,ac⟩
 refine ⟨_,rfl,fun a8 ae=>?_⟩
 have aa:WOk _ _ _ _ [brow A5 c6 5 (s ++ be 2 (IntKind.u16.wrap x))]:=hW.grow (k:=0) rfl ab ho9 ac
 have ag:Fr _ [] [brow A c 5 s] _ [] [brow A5 c6 5 (s ++ be 2 (IntKind.u16.wrap x))]:=Fr.grow _ (k:=0) (r':=(brow A5 c6 5 (s ++ be 2 (IntKind.u16.wrap x)))) rfl ab ac
 refine qak [4] [] [(4,.v (.slice A5 ((s ++ be 2 (IntKind.u16.wrap x)).length) c6))] aa ae fun ah af=>?_
 refine qae (qaa ?_)
 refine wp_ret ?_
 refine qaV af aa.cells (v:=.slice A5 ((s ++ be 2 (IntKind.u16.wrap x)).length) c6) kz ?_
 have e0:(s ++ be 2 (IntKind.u16.wrap x)) = (s ++ be 2 x):=by rw [qeU]
 have h0:=qdA aa 0 rfl
 rw [e0] at h0
 have e1:(s ++ be 2 (IntKind.u16.wrap x)).length = (s ++ be 2 x).length:=by rw [← e0]
 rw [e1]; exact h0
theorem qbk (A:Option Addr) (c:Nat) (s:List UInt8) (x:Int) (w:World) (ho:w.ownsRow 0 5 1 (.slice A s.length c) s.length (bc s)) (hroom:s.length + 16 ≤ 1099511627776) :
  Calls Tryz.prog 33 #[.slice A s.length c,.int .i32 x] w (qbu w 5 A (s ++ be 4 x)):=by
 refine enter (n:=9) Tryz.func33 rfl Tryz.ntmps33 kz fun a hE=>?_
 have hW:=WOk.startRow w ho
 refine qaz [(0,.v (.slice A s.length c)),(1,.v (.int .i32 x))] hW hE fun a1 hE2=>?_
 refine qad [0,1,2,3,4] kz ?_
 refine qak [0,1,2] [3,4] [(5,.v (.slice A s.length c)),(7,.v (.int .u32 (IntKind.u32.wrap x)))] hW hE2 fun a3 hE4=>?_
 refine qah (qai hE4 (f:=59) (vs:=[.slice A s.length c,.int .u32 (IntKind.u32.wrap x)]) (d:=8) kz Tryz.call59 (qfV A c s (IntKind.u32.wrap x) _ (hW.own 0 _ rfl) (by first | (have:=hroom; omega) | (simp; done) | (simp; omega))) ?_)
 rintro e_ w7 ⟨A5,c6,rfl,ho9,ab,ac⟩
 refine ⟨_,rfl,fun a8 ae=>?_⟩
 have aa:WOk _ _ _ _ [brow A5 c6 5 (s ++ be 4 (IntKind.u32.wrap x))]:=hW.grow (k:=0) rfl ab ho9 ac
 have ag:Fr _ [] [brow A c 5 s] _ [] [brow A5 c6 5 (s ++ be 4 (IntKind.u32.wrap x))]:=Fr.grow _ (k:=0) (r':=(brow A5 c6 5 (s ++ be 4 (IntKind.u32.wrap x)))) rfl ab ac
 refine qak [4] [] [(4,.v (.slice A5 ((s ++ be 4 (IntKind.u32.wrap x)).length) c6))] aa ae fun ah af=>?_
 refine qae (qaa ?_)
 refine wp_ret ?_
 refine qaV af aa.cells (v:=.slice A5 ((s ++ be 4 (IntKind.u32.wrap x)).length) c6) kz ?_
 have e0:(s ++ be 4 (IntKind.u32.wrap x)) = (s ++ be 4 x):=by rw [qjg]
 have h0:=qdA aa 0 rfl
 rw [e0] at h0
 have e1:(s ++ be 4 (IntKind.u32.wrap x)).length = (s ++ be 4 x).length:=by rw [← e0]
 rw [e1]; exact h0
theorem qgN (A:Option Addr) (c:Nat) (s:List UInt8) (b:Bool) (w:World) (ho:w.ownsRow 0 5 1 (.slice A s.length c) s.length (bc s)) (hroom:s.length + 16 ≤ 1099511627776) :
  Calls Tryz.prog 40 #[.slice A s.length c,.bool b] w (qbu w 5 A (s ++ [by8 (if b then 1 else 0)])):=by
 refine enter (n:=12) Tryz.func40 rfl Tryz.ntmps40 kz fun a hE=>?_
 have hW:=WOk.startRow w ho
 refine qaz [(0,.v (.slice A s.length c)),(1,.v (.bool b))] hW hE fun a1 hE2=>?_
 refine wp_seq ?_
 refine qaz [(0,.v (.slice A s.length c)),(5,.v (.bool b))] hW hE2 fun a3 hE4=>?_
 refine qau hE4 (b:=b) kz (fun hc5=>?_) (fun hc5=>?_)
 ·
  refine qad [0,1,2,3] kz ?_
  refine qak [0] [1,2,3] [(6,.v (.slice A s.length c))] hW hE4 fun a7 hE8=>?_
  refine qbl hW hE8 (k:=0) (e:=5) (size:=1) (len:=1) (cs:=[.int .u8 1]) (d1:=7) (d:=8) kz (t:=22) (bytes:=1) kz (fun _=>by kernel_rfl) rfl kz (by first | (have:=hroom; omega) | (simp; done) | (simp; omega)) fun A9 aa aC aD ax ag ⟨_,ah⟩=>?_
  have ai:(⟨A9,aa,5,1,s.length + 1,bc s ++ [.int .u8 1]⟩:Rw) = brow A9 aa 5 (s ++ [by8 1]):=qbr (by simp only [bc,List.map,qbT]; try rfl) rfl
  obtain ⟨ab,ay⟩:=ag.rowEq 0 [brow A9 aa 5 (s ++ [by8 1])] ai
  have aj:=EnvOk.pick ah (ks:=[6,8]) (env':=[(6,.v (.slice A s.length c)),(8,.v (.slice A9 (s.length + 1) aa))]) kz
  have ak:=aj.cast (env':=[(6,.v (.slice A s.length c)),(8,.v (.slice A9 ((s ++ [by8 1]).length) aa))]) (by simp only [List.length_append,List.length_cons,List.length_nil,Nat.zero_add])
  refine qak [3] [] [(4,.v (.slice A9 ((s ++ [by8 1]).length) aa))] ab ak fun aE al=>?_
  refine qae (qaa ?_)
  refine wp_ret ?_
  refine qaB ?_
  refine qaV al ab.cells (v:=.slice A9 ((s ++ [by8 1]).length) aa) kz ?_
  have e0:(s ++ [by8 1]) = (s ++ [by8 (if b then 1 else 0)]):=by rw [hc5]; simp [bc,qbT]; try rfl
  have h0:=qdA ab 0 rfl
  rw [e0] at h0
  have e1:(s ++ [by8 1]).length = (s ++ [by8 (if b then 1 else 0)]).length:=by rw [← e0]
  rw [e1]; exact h0
 refine wp_skip ?_
 refine qaa ?_
 refine qad [0,1,2,3] kz ?_
 refine qak [0] [1,2,3] [(9,.v (.slice A s.length c))] hW hE4 fun aF am=>?_
 refine qbl hW am (k:=0) (e:=5) (size:=1) (len:=1) (cs:=[.int .u8 0]) (d1:=10) (d:=11) kz (t:=22) (bytes:=1) kz (fun _=>by kernel_rfl) rfl kz (by first | (have:=hroom; omega) | (simp; done) | (simp; omega)) fun ac ae aG aH aA ao ⟨_,ap⟩=>?_
 have ar:(⟨ac,ae,5,1,s.length + 1,bc s ++ [.int .u8 0]⟩:Rw) = brow ac ae 5 (s ++ [by8 0]):=qbr (by simp only [bc,List.map,qbT]; try rfl) rfl
 obtain ⟨af,aB⟩:=ao.rowEq 0 [brow ac ae 5 (s ++ [by8 0])] ar
 have au:=EnvOk.pick ap (ks:=[9,11]) (env':=[(9,.v (.slice A s.length c)),(11,.v (.slice ac (s.length + 1) ae))]) kz
 have av:=au.cast (env':=[(9,.v (.slice A s.length c)),(11,.v (.slice ac ((s ++ [by8 0]).length) ae))]) (by simp only [List.length_append,List.length_cons,List.length_nil,Nat.zero_add])
 refine qak [3] [] [(4,.v (.slice ac ((s ++ [by8 0]).length) ae))] af av fun aI aw=>?_
 refine qae (qaa ?_)
 refine wp_ret ?_
 refine qaV aw af.cells (v:=.slice ac ((s ++ [by8 0]).length) ae) kz ?_
 have e0:(s ++ [by8 0]) = (s ++ [by8 (if b then 1 else 0)]):=by rw [hc5]; simp [bc,qbT]; try rfl
 have h0:=qdA af 0 rfl
 rw [e0] at h0
 have e1:(s ++ [by8 0]).length = (s ++ [by8 (if b then 1 else 0)]).length:=by rw [← e0]
 rw [e1]; exact h0
def qgO:ByteArray:=⟨#[1,1,1,1,1,1,1,1,2,2,2,2,2,2,2,3,3,3,3,3,3,3,4,4,4,4,4,4,4,5,5,5,5,5,5,5,6,6,6,6,6,6,6,7,7,7,7,7,7,7,8,8,8,8,8,8,8,9,9,9,9,9,9,9,10,0,0,0,0,0,0,0,0,0,0,0,0,0,0,0,0,0,0,0,0,0,0,0,0,0,0,0,0,0,0,0,0,0,0,0,0,0,0,0,0,0,0,0,0,0,0,0,0,0,0,0,0,0,0,0,0,0,0,0,0,0,0,0,0,0,0,0,0,0,0,0,0,0,0,0,0,0,0,0,0,0,0,0,0,0,0,0,0,0,0,0,0,0,0,0,0,0,0,0,0,0,0,0,0,0,0,0,0,0,0,0,0,0,0,0,0,0,0,0,0,0,0,0,0,0,0,0,0,0,0,0,0,0,0,0,0,0,0,0,0,0,0,0,0,0,0,0,0,0,0,0,0,0,0,0,0,0,0,0,0,0,0,0,0,0,0,0,0,0,0,0,0,0,0,0,0,0,0,0,0,0,0,0,0,0,0,0,0,0,0,0]⟩
theorem qgP:∀ m:Fin 33,qgO[m.val]? = some (UInt8.ofNat (qil m.val)):=by decide +kernel
theorem qgQ (x:Nat) (hx:x < 4294967296) (hl:Lib.bitLen x ≤ 32):∃ b:UInt8,qgO[Lib.bitLen x]? = some b ∧ b.toNat = (uv x).length:=by
 refine ⟨_,qgP ⟨Lib.bitLen x,by omega⟩,?_⟩
 have:=qjv (Lib.bitLen x)
 rw [qju hx,UInt8.toNat_ofNat']
 dsimp only
 omega
theorem qgR (x:Nat) (hx:x < 4294967296) (w:World):Calls Tryz.prog 61 [.int .u32 ((x:Nat):Int)].toArray w (qdu w (.int .i64 (((uv x).length:Nat):Int))):=by
 refine enter (n:=8) Tryz.func61 rfl Tryz.ntmps61 kz fun a hE=>?_
 have hW:=WOk.start w Nil
 refine qad [0] kz (qaT [0] [] [0] hW hE (env':=[(0,.v (.int .u32 ((x:Nat):Int)))]) kz rfl fun a1 hE1=>qae (qaa ?_))
 refine qad [0,1,2,3,4,5] kz ?_
 refine qaT [0] [1,2,3,4,5] [3] hW hE1 (env':=[(3,.v (.int .u32 ((x:Nat):Int)))]) kz rfl fun a2 hE2=>?_
 refine qah (qai hE2 (f:=68) (vs:=[.int .u32 ((x:Nat):Int)]) (d:=4) kz Tryz.call68 (kLen32 _ w (by omega) (by omega)) ?_)
 rintro e_ w' ⟨rfl,rfl⟩
 refine ⟨_,rfl,fun a3 hE3=>?_⟩
 rw [Int.toNat_natCast] at hE3
 have hl:=Lib.bitLen_le x 32 (by omega) (by omega)
 refine qaT [2] [3,4,5] [5] hW hE3 (env':=[(5,.v (.int .u8 (IntKind.u8.wrap ((Lib.bitLen x:Nat):Int))))]) kz rfl fun a4 hE4=>?_
 have e1:IntKind.u8.wrap ((Lib.bitLen x:Nat):Int) = ((Lib.bitLen x:Nat):Int):=by rw [qh5]; omega
 rw [e1] at hE4
 obtain ⟨b,hb1,hb2⟩:=qgQ x hx hl
 refine qah (qgL hE4 (s:=qgO) (t:=9) (dd:=6) kz kz hb1 fun a5 hE5=>?_)
 refine qaT [4,5] [] [2] hW hE5 (env':=[(2,.v (.int .i64 (IntKind.i64.wrap (b.toNat:Int))))]) kz rfl fun a6 hE6=>qae (qaa (wp_ret ?_))
 rw [hb2,wrap_i64 (by omega) (by have:=qer x 5 (by omega) (by omega); omega)] at hE6
 exact qaV hE6 hW.cells (v:=.int .i64 (((uv x).length:Nat):Int)) kz ⟨rfl,Step.refl _ _⟩
theorem qbm (x:Nat) (hx:x < 4294967296) (A:Option Addr) (cp:Nat) (s:Bs) (w:World) (ho:w.ownsRow 0 5 1 (.slice A s.length cp) s.length (bc s)) (hroom:s.length + (uv x).length + 16 ≤ 1099511627776) :
  Calls Tryz.prog 43 (.slice A s.length cp :: [.int .u32 ((x:Nat):Int)]).toArray w (qbu w 5 A (s ++ (uv x))):=by
 refine qbZ (n:=93) Tryz.func43 rfl Tryz.ntmps43 kz rfl ho hroom ?_
 refine qby (qaG (env':=[(1,.v (.int .u32 ((x:Nat):Int)))]) [1] (fun _ _ _=>by kernel_rfl)) ?_
 refine qjr ?_
 refine qby (qjs (env':=[(1,.v (.int .u32 ((x:Nat):Int))),(6,.v (.int .i64 (((uv x).length:Nat):Int)))]) (f:=61) (vs:=[.int .u32 ((x:Nat):Int)]) 1 [1,6] (fun _ _ _=>by kernel_rfl) kz Tryz.call61 (fun w _=>qgR x hx w)) ?_
 refine qik ?_
 have hl:=qer x 5 (by omega) (by omega)
 have hl1:=qeH x
 refine qby (qaG (env':=[(1,.v (.int .u32 ((x:Nat):Int))),(6,.v (.int .i64 (((uv x).length:Nat):Int))),(7,.v (.bool ((((uv x).length:Nat):Int) == 5)))]) [1,6,7] (fun _ _ _=>by kernel_rfl)) ?_
 refine qet (b:=((((uv x).length:Nat):Int) == 5)) (fun _ _ _=>by kernel_rfl) (fun hb=>?_) (fun hb=>?_)
 ·exact qeu (t:=22) (d1:=32) (dd:=33) (len:=5) (cs:=[.int .u8 (IntKind.u8.wrap (IntKind.u32.wrap (BitVec.ofInt 32 (IntKind.u32.wrap (BitVec.ofInt 32 ((x:Nat):Int) &&& BitVec.ofInt 32 127).toNat) ||| BitVec.ofInt 32 128).toNat)),.int .u8 (IntKind.u8.wrap (IntKind.u32.wrap (BitVec.ofInt 32 (IntKind.u32.wrap (BitVec.ofInt 32 (Int.fdiv ((x:Nat):Int) 128) &&& BitVec.ofInt 32 127).toNat) ||| BitVec.ofInt 32 128).toNat)),.int .u8 (IntKind.u8.wrap (IntKind.u32.wrap (BitVec.ofInt 32 (IntKind.u32.wrap (BitVec.ofInt 32 (Int.fdiv ((x:Nat):Int) 16384) &&& BitVec.ofInt 32 127).toNat) ||| BitVec.ofInt 32 128).toNat)),.int .u8 (IntKind.u8.wrap (IntKind.u32.wrap (BitVec.ofInt 32 (IntKind.u32.wrap (BitVec.ofInt 32 (Int.fdiv ((x:Nat):Int) 2097152) &&& BitVec.ofInt 32 127).toNat) ||| BitVec.ofInt 32 128).toNat)),.int .u8 (IntKind.u8.wrap (Int.fdiv ((x:Nat):Int) 268435456))]) 23 (fun _ _ _ _ _ _ _=>by kernel_rfl) kz kz (qir x hx (by have:=eq_of_beq hb; omega)) kz
 have g5:=ne_of_beq_false hb
 refine qby (qaG (env':=[(1,.v (.int .u32 ((x:Nat):Int))),(6,.v (.int .i64 (((uv x).length:Nat):Int))),(34,.v (.bool ((((uv x).length:Nat):Int) == 4)))]) [1,6,34] (fun _ _ _=>by kernel_rfl)) ?_
 refine qet (b:=((((uv x).length:Nat):Int) == 4)) (fun _ _ _=>by kernel_rfl) (fun hb=>?_) (fun hb=>?_)
 ·exact qeu (t:=22) (d1:=54) (dd:=55) (len:=4) (cs:=[.int .u8 (IntKind.u8.wrap (IntKind.u32.wrap (BitVec.ofInt 32 (IntKind.u32.wrap (BitVec.ofInt 32 ((x:Nat):Int) &&& BitVec.ofInt 32 127).toNat) ||| BitVec.ofInt 32 128).toNat)),.int .u8 (IntKind.u8.wrap (IntKind.u32.wrap (BitVec.ofInt 32 (IntKind.u32.wrap (BitVec.ofInt 32 (Int.fdiv ((x:Nat):Int) 128) &&& BitVec.ofInt 32 127).toNat) ||| BitVec.ofInt 32 128).toNat)),.int .u8 (IntKind.u8.wrap (IntKind.u32.wrap (BitVec.ofInt 32 (IntKind.u32.wrap (BitVec.ofInt 32 (Int.fdiv ((x:Nat):Int) 16384) &&& BitVec.ofInt 32 127).toNat) ||| BitVec.ofInt 32 128).toNat)),.int .u8 (IntKind.u8.wrap (Int.fdiv ((x:Nat):Int) 2097152))]) 18 (fun _ _ _ _ _ _ _=>by kernel_rfl) kz kz (qiq x hx (by have:=eq_of_beq hb; omega)) kz
 have g4:=ne_of_beq_false hb
 refine qby (qaG (env':=[(1,.v (.int .u32 ((x:Nat):Int))),(6,.v (.int .i64 (((uv x).length:Nat):Int))),(56,.v (.bool ((((uv x).length:Nat):Int) == 3)))]) [1,6,56] (fun _ _ _=>by kernel_rfl)) ?_
 refine qet (b:=((((uv x).length:Nat):Int) == 3)) (fun _ _ _=>by kernel_rfl) (fun hb=>?_) (fun hb=>?_)
 ·exact qeu (t:=22) (d1:=71) (dd:=72) (len:=3) (cs:=[.int .u8 (IntKind.u8.wrap (IntKind.u32.wrap (BitVec.ofInt 32 (IntKind.u32.wrap (BitVec.ofInt 32 ((x:Nat):Int) &&& BitVec.ofInt 32 127).toNat) ||| BitVec.ofInt 32 128).toNat)),.int .u8 (IntKind.u8.wrap (IntKind.u32.wrap (BitVec.ofInt 32 (IntKind.u32.wrap (BitVec.ofInt 32 (Int.fdiv ((x:Nat):Int) 128) &&& BitVec.ofInt 32 127).toNat) ||| BitVec.ofInt 32 128).toNat)),.int .u8 (IntKind.u8.wrap (Int.fdiv ((x:Nat):Int) 16384))]) 13 (fun _ _ _ _ _ _ _=>by kernel_rfl) kz kz (qip x hx (by have:=eq_of_beq hb; omega)) kz
 have g3:=ne_of_beq_false hb
 refine qby (qaG (env':=[(1,.v (.int .u32 ((x:Nat):Int))),(6,.v (.int .i64 (((uv x).length:Nat):Int))),(73,.v (.bool ((((uv x).length:Nat):Int) == 2)))]) [1,6,73] (fun _ _ _=>by kernel_rfl)) ?_
 refine qet (b:=((((uv x).length:Nat):Int) == 2)) (fun _ _ _=>by kernel_rfl) (fun hb=>?_) (fun hb=>?_)
 ·exact qeu (t:=22) (d1:=83) (dd:=84) (len:=2) (cs:=[.int .u8 (IntKind.u8.wrap (IntKind.u32.wrap (BitVec.ofInt 32 (IntKind.u32.wrap (BitVec.ofInt 32 ((x:Nat):Int) &&& BitVec.ofInt 32 127).toNat) ||| BitVec.ofInt 32 128).toNat)),.int .u8 (IntKind.u8.wrap (Int.fdiv ((x:Nat):Int) 128))]) 8 (fun _ _ _ _ _ _ _=>by kernel_rfl) kz kz (qio x hx (by have:=eq_of_beq hb; omega)) kz
 have g2:=ne_of_beq_false hb
 refine qby (qaG (env':=[(1,.v (.int .u32 ((x:Nat):Int))),(6,.v (.int .i64 (((uv x).length:Nat):Int))),(85,.v (.bool ((((uv x).length:Nat):Int) == 1)))]) [1,6,85] (fun _ _ _=>by kernel_rfl)) ?_
 refine qet (b:=((((uv x).length:Nat):Int) == 1)) (fun _ _ _=>by kernel_rfl) (fun hb=>?_) (fun hb=>?_)
 ·exact qeu (t:=22) (d1:=90) (dd:=91) (len:=1) (cs:=[.int .u8 (IntKind.u8.wrap ((x:Nat):Int))]) 3 (fun _ _ _ _ _ _ _=>by kernel_rfl) kz kz (qin x hx (by have:=eq_of_beq hb; omega)) kz
 have g1:=ne_of_beq_false hb
 exfalso; omega
theorem qew (s':ByteArray) (A:Option Addr) (cp:Nat) (s:Bs) (w:World) (ho:w.ownsRow 0 5 1 (.slice A s.length cp) s.length (bc s)) (hroom:s.length + (be 2 s'.size ++ sb s').length + 16 ≤ 1099511627776) :
  Calls Tryz.prog 47 (.slice A s.length cp :: [.string s']).toArray w (qbu w 5 A (s ++ (be 2 s'.size ++ sb s'))):=by
 refine qbZ (n:=13) Tryz.func47 rfl Tryz.ntmps47 kz rfl ho hroom ?_
 refine qby (qaG (env':=[(1,.v (.string s'))]) [1] (fun _ _ _=>by kernel_rfl)) ?_
 refine qd7 (qbh (env':=[(1,.v (.string s'))]) (f:=36) (vs:=[.int .i16 (IntKind.i16.wrap ((s'.size:Nat):Int))]) 4 [1] (fun _ _ _ _ _ _=>by kernel_rfl) kz Tryz.call36 (fun A cp s w _ _ ho hr=>by have h:=qc3 A cp s (IntKind.i16.wrap ((s'.size:Nat):Int)) w ho (by omega); rwa [qdm] at h)) ?_
 exact qhe (t:=22) (u:=9) 2 (fun _ _ _ _ _ _=>by kernel_rfl) kz kz kz kz
theorem qcG (s':ByteArray) (A:Option Addr) (cp:Nat) (s:Bs) (w:World) (ho:w.ownsRow 0 5 1 (.slice A s.length cp) s.length (bc s)) (hsm:s'.size ≤ 1000000) (hroom:s.length + (uv (s'.size + 1) ++ sb s').length + 16 ≤ 1099511627776) :
  Calls Tryz.prog 46 (.slice A s.length cp :: [.string s']).toArray w (qbu w 5 A (s ++ (uv (s'.size + 1) ++ sb s'))):=by
 refine qbZ (n:=14) Tryz.func46 rfl Tryz.ntmps46 kz rfl ho hroom ?_
 refine qby (qaG (env':=[(1,.v (.string s'))]) [1] (fun _ _ _=>by kernel_rfl)) ?_
 refine qd7 (qbh (env':=[(1,.v (.string s'))]) (f:=43) (vs:=[.int .u32 (IntKind.u32.wrap (1 + IntKind.u32.wrap ((s'.size:Nat):Int)))]) 5 [1] (fun _ _ _ _ _ _=>by kernel_rfl) kz Tryz.call43 (fun A cp s w _ _ ho hr=>by rw [show (IntKind.u32.wrap (1 + IntKind.u32.wrap ((s'.size:Nat):Int)):Int) = ((s'.size + 1:Nat):Int) from by simp only [qcc]; omega]; exact qbm (s'.size + 1) (by omega) A cp s w ho hr)) ?_
 exact qhe (t:=22) (u:=9) 2 (fun _ _ _ _ _ _=>by kernel_rfl) kz kz kz kz
theorem qdD (Ap:Option Addr) (s':ByteArray) (A:Option Addr) (cp:Nat) (s:Bs) (w:World) (ho:w.ownsRow 0 5 1 (.slice A s.length cp) s.length (bc s)) (F:Nat → Nat → Prop) (hF:∀ b o,F b o → ¬ Blk A b o) (hO:∀ ad,Ap = some ad → ∃ b o,ad = ⟨b,o,none⟩ ∧ AtF w F b o [.string s']) (hsm:s'.size ≤ 1000000) (hroom:s.length + (match Ap with | none=>be 2 (-1) | some _=>be 2 s'.size ++ sb s').length + 16 ≤ 1099511627776) :
  Calls Tryz.prog 38 (.slice A s.length cp :: [.pointer Ap]).toArray w (qbu w 5 A (s ++ (match Ap with | none=>be 2 (-1) | some _=>be 2 s'.size ++ sb s'))):=by
 refine qbZ (n:=14) Tryz.func38 rfl Tryz.ntmps38 kz rfl ho hroom ?_
 refine qby (qaG (env':=[(1,.v (.pointer Ap))]) [1] (fun _ _ _=>by kernel_rfl)) ?_
 refine qfS (b:=Ap.isNone) (qaG (env':=[(1,.v (.pointer Ap)),(6,.v (.bool Ap.isNone))]) [1,6] (fun _ _ _=>by kernel_rfl)) (fun _ _ _=>by kernel_rfl) (fun hb=>?_) (fun hb=>?_)
 ·obtain rfl:Ap = none:=by simpa using hb
  exact qcC (f:=36) (vs:=[.int .i16 (-1)]) 1 (fun _ _ _ _ _ _=>by kernel_rfl) kz Tryz.call36 (fun A cp s w _ _ ho hr=>qc3 A cp s (-1) w ho (by omega))
 cases Ap with
 | none=>cases hb
 | some ad =>
  obtain ⟨b,o,rfl,hat⟩:=hO _ rfl
  refine qid b o [.string s'] hat hF kz kz ?_
  refine qhf (e1:=[(1,.v (.pointer (some ⟨b,o,none⟩)))]) [1] (fun _ _ _=>by kernel_rfl) ?_
  refine qgJ 1 0 0 b o (by simp) rfl rfl rfl ?_
  exact qcC (f:=47) (vs:=[.string s']) 4 (fun _ _ _ _ _ _=>by kernel_rfl) kz Tryz.call47 (fun A cp s w _ _ ho hr=>qew s' A cp s w ho hr)
theorem qcJ (Ap:Option Addr) (s':ByteArray) (A:Option Addr) (cp:Nat) (s:Bs) (w:World) (ho:w.ownsRow 0 5 1 (.slice A s.length cp) s.length (bc s)) (F:Nat → Nat → Prop) (hF:∀ b o,F b o → ¬ Blk A b o) (hO:∀ ad,Ap = some ad → ∃ b o,ad = ⟨b,o,none⟩ ∧ AtF w F b o [.string s']) (hsm:s'.size ≤ 1000000) (hroom:s.length + (match Ap with | none=>uv 0 | some _=>uv (s'.size + 1) ++ sb s').length + 16 ≤ 1099511627776) :
  Calls Tryz.prog 37 (.slice A s.length cp :: [.pointer Ap]).toArray w (qbu w 5 A (s ++ (match Ap with | none=>uv 0 | some _=>uv (s'.size + 1) ++ sb s'))):=by
 refine qbZ (n:=14) Tryz.func37 rfl Tryz.ntmps37 kz rfl ho hroom ?_
 refine qby (qaG (env':=[(1,.v (.pointer Ap))]) [1] (fun _ _ _=>by kernel_rfl)) ?_
 refine qfS (b:=Ap.isNone) (qaG (env':=[(1,.v (.pointer Ap)),(6,.v (.bool Ap.isNone))]) [1,6] (fun _ _ _=>by kernel_rfl)) (fun _ _ _=>by kernel_rfl) (fun hb=>?_) (fun hb=>?_)
 ·obtain rfl:Ap = none:=by simpa using hb
  exact qcC (f:=43) (vs:=[.int .u32 0]) 1 (fun _ _ _ _ _ _=>by kernel_rfl) kz Tryz.call43 (fun A cp s w _ _ ho hr=>qbm 0 (by omega) A cp s w ho hr)
 cases Ap with
 | none=>cases hb
 | some ad =>
  obtain ⟨b,o,rfl,hat⟩:=hO _ rfl
  refine qid b o [.string s'] hat hF kz kz ?_
  refine qhf (e1:=[(1,.v (.pointer (some ⟨b,o,none⟩)))]) [1] (fun _ _ _=>by kernel_rfl) ?_
  refine qgJ 1 0 0 b o (by simp) rfl rfl rfl ?_
  exact qcC (f:=46) (vs:=[.string s']) 4 (fun _ _ _ _ _ _=>by kernel_rfl) kz Tryz.call46 (fun A cp s w _ _ ho hr=>qcG s' A cp s w ho hsm hr)
theorem qb8 (m:Nat) (A:Option Addr) (cp:Nat) (s:Bs) (w:World) (ho:w.ownsRow 0 5 1 (.slice A s.length cp) s.length (bc s)) (hroom:s.length + (be 4 m).length + 16 ≤ 1099511627776) :
  Calls Tryz.prog 35 (.slice A s.length cp :: [.int .i64 ((m:Nat):Int)]).toArray w (qbu w 5 A (s ++ (be 4 m))):=by
 refine qbZ (n:=9) Tryz.func35 rfl Tryz.ntmps35 kz rfl ho hroom ?_
 refine qby (qaG (env':=[(1,.v (.int .i64 ((m:Nat):Int)))]) [1] (fun _ _ _=>by kernel_rfl)) ?_
 exact qcC (f:=33) (vs:=[.int .i32 (IntKind.i32.wrap ((m:Nat):Int))]) 3 (fun _ _ _ _ _ _=>by kernel_rfl) kz Tryz.call33 (fun A cp s w _ _ ho hr=>by have h:=qbk A cp s (IntKind.i32.wrap ((m:Nat):Int)) w ho (by omega); rwa [be4_i32'] at h)
theorem qcr (m:Nat) (hm:m ≤ 1000000) (b:Bool) (A:Option Addr) (cp:Nat) (s:Bs) (w:World) (ho:w.ownsRow 0 5 1 (.slice A s.length cp) s.length (bc s)) (hroom:s.length + (if b = true then be 4 (-1) else be 4 m).length + 16 ≤ 1099511627776) :
  Calls Tryz.prog 42 (.slice A s.length cp :: [.int .i64 ((m:Nat):Int),.bool b]).toArray w (qbu w 5 A (s ++ (if b = true then be 4 (-1) else be 4 m))):=by
 refine qbZ (n:=14) Tryz.func42 rfl Tryz.ntmps42 kz rfl ho hroom ?_
 refine qby (qaG (env':=[(1,.v (.int .i64 ((m:Nat):Int))),(2,.v (.bool b))]) [1,2] (fun _ _ _=>by kernel_rfl)) ?_
 refine qfS (b:=b) (qaG (env':=[(1,.v (.int .i64 ((m:Nat):Int))),(2,.v (.bool b)),(7,.v (.bool b))]) [1,2,7] (fun _ _ _=>by kernel_rfl)) (fun _ _ _=>by kernel_rfl) (fun hb=>?_) (fun hb=>?_)
 ·subst hb
  exact qcC (f:=33) (vs:=[.int .i32 (-1)]) 1 (fun _ _ _ _ _ _=>by kernel_rfl) kz Tryz.call33 (fun A cp s w _ _ ho hr=>qbk A cp s (-1) w ho (by omega))
 subst hb
 exact qcC (f:=33) (vs:=[.int .i32 (IntKind.i32.wrap ((m:Nat):Int))]) 3 (fun _ _ _ _ _ _=>by kernel_rfl) kz Tryz.call33 (fun A cp s w _ _ ho hr=>by have h:=qbk A cp s (IntKind.i32.wrap ((m:Nat):Int)) w ho (by omega); rwa [be4_i32'] at h)
theorem qbs (m:Nat) (hm:m ≤ 1000000) (A:Option Addr) (cp:Nat) (s:Bs) (w:World) (ho:w.ownsRow 0 5 1 (.slice A s.length cp) s.length (bc s)) (hroom:s.length + (uv (m + 1)).length + 16 ≤ 1099511627776) :
  Calls Tryz.prog 34 (.slice A s.length cp :: [.int .i64 ((m:Nat):Int)]).toArray w (qbu w 5 A (s ++ (uv (m + 1)))):=by
 refine qbZ (n:=10) Tryz.func34 rfl Tryz.ntmps34 kz rfl ho hroom ?_
 refine qby (qaG (env':=[(1,.v (.int .i64 ((m:Nat):Int)))]) [1] (fun _ _ _=>by kernel_rfl)) ?_
 exact qcC (f:=43) (vs:=[.int .u32 (IntKind.u32.wrap (1 + IntKind.u32.wrap ((m:Nat):Int)))]) 4 (fun _ _ _ _ _ _=>by kernel_rfl) kz Tryz.call43 (fun A cp s w _ _ ho hr=>by rw [show (IntKind.u32.wrap (1 + IntKind.u32.wrap ((m:Nat):Int)):Int) = ((m + 1:Nat):Int) from by simp only [qcc]; omega]; exact qbm (m + 1) (by omega) A cp s w ho hr)
theorem qbQ (m:Nat) (hm:m ≤ 1000000) (b:Bool) (A:Option Addr) (cp:Nat) (s:Bs) (w:World) (ho:w.ownsRow 0 5 1 (.slice A s.length cp) s.length (bc s)) (hroom:s.length + (if b = true then uv 0 else uv (m + 1)).length + 16 ≤ 1099511627776) :
  Calls Tryz.prog 41 (.slice A s.length cp :: [.int .i64 ((m:Nat):Int),.bool b]).toArray w (qbu w 5 A (s ++ (if b = true then uv 0 else uv (m + 1)))):=by
 refine qbZ (n:=15) Tryz.func41 rfl Tryz.ntmps41 kz rfl ho hroom ?_
 refine qby (qaG (env':=[(1,.v (.int .i64 ((m:Nat):Int))),(2,.v (.bool b))]) [1,2] (fun _ _ _=>by kernel_rfl)) ?_
 refine qfS (b:=b) (qaG (env':=[(1,.v (.int .i64 ((m:Nat):Int))),(2,.v (.bool b)),(7,.v (.bool b))]) [1,2,7] (fun _ _ _=>by kernel_rfl)) (fun _ _ _=>by kernel_rfl) (fun hb=>?_) (fun hb=>?_)
 ·subst hb
  exact qcC (f:=43) (vs:=[.int .u32 0]) 1 (fun _ _ _ _ _ _=>by kernel_rfl) kz Tryz.call43 (fun A cp s w _ _ ho hr=>qbm 0 (by omega) A cp s w ho hr)
 subst hb
 exact qcC (f:=43) (vs:=[.int .u32 (IntKind.u32.wrap (1 + IntKind.u32.wrap ((m:Nat):Int)))]) 4 (fun _ _ _ _ _ _=>by kernel_rfl) kz Tryz.call43 (fun A cp s w _ _ ho hr=>by rw [show (IntKind.u32.wrap (1 + IntKind.u32.wrap ((m:Nat):Int)):Int) = ((m + 1:Nat):Int) from by simp only [qcc]; omega]; exact qbm (m + 1) (by omega) A cp s w ho hr)
theorem qgS (o:Bs) (hl:o.length = 16) (A:Option Addr) (cp:Nat) (s:Bs) (w:World) (ho:w.ownsRow 0 5 1 (.slice A s.length cp) s.length (bc s)) (hroom:s.length + o.length + 16 ≤ 1099511627776) :
  Calls Tryz.prog 39 (.slice A s.length cp :: [.agg ((List.range 16).map fun i=>qac (o.getD i 0)).toArray]).toArray w (qbu w 5 A (s ++ o)):=by
 refine qbZ (n:=8) Tryz.func39 rfl Tryz.ntmps39 kz rfl ho hroom ?_
 refine qky (cs:=(List.range 16).map fun i=>qac (o.getD i 0)) (e2:=fun blk=>[(3,.p 0 0)]) 0 [3] (fun _ _ _ _=>by kernel_rfl) kz fun blk=>?_
 exact qjt (t:=22) (num:=16) 2 0 (fun _ _ _ _ _ _=>by kernel_rfl) kz kz (by rw [← qhI hl]; rfl) hl
end Go.Proofs.YtajibgahdkllkaaGreat.ME
namespace Go.Proofs.YtajibgahdkllkaaGreat.ME
open Go
open Go.RowKit
open Go.ChangeMaps (setBlock)
set_option linter.unusedVariables false
set_option linter.unusedSimpArgs false
set_option maxRecDepth 20000
structure Dst (w:World) (B e8:Nat) (A:Option Addr) (cp:Nat) (s:Bs):Prop where
 cell:w.cell? ⟨B,0,none⟩ = some (.slice A s.length cp)
 frz:w.frozen? ⟨B,0,none⟩ = false
 own:w.ownsRow 0 e8 1 (.slice A s.length cp) s.length (bc s)
 ne:A.map (·.block) ≠ some B
def BM (B:Nat) (A:Option Addr):Nat → Nat → Prop:=fun b o=>(b = B ∧ o = 0) ∨ Blk A b o
def qiu (w:World) (B e8:Nat) (A:Option Addr) (s:Bs):Ending → World → Prop:=fun en w' =>
 en = .returned (.tuple #[]) ∧ ∃ A' cp',Dst w' B e8 A' cp' s ∧ Near w A A' ∧ Step w w' (BM B A)
theorem Dst.wok {w:World} {B e8 cp:Nat} {A:Option Addr} {s:Bs} (h:Dst w B e8 A cp s):WOk w (BM B A) w [⟨B,0,[.slice A s.length cp],true⟩] [brow A cp e8 s]:=by
 have h1:WOk w (BM B A) w [⟨B,0,[.slice A s.length cp],true⟩] []:=by
  refine (WOk.start w _).add ⟨B,0,[.slice A s.length cp],true⟩ (World.lt_of_cell h.cell) (fun j v hj=>?_) (fun _ j hj=>?_) (fun i ob hi=>by simp at hi) (fun i r hi=>by simp at hi)
  ·have hj0:j = 0:=by
    have:=(List.getElem?_eq_some_iff.1 hj).1
    simp at this; omega
   subst hj0
   simp only [List.getElem?_cons_zero,Option.some.injEq] at hj
   subst hj
   exact h.cell
  have hj0:j = 0:=by simp at hj; omega
  subst hj0
  exact ⟨.inr (.inl ⟨rfl,rfl⟩),h.frz⟩
 refine h1.addRow (brow A cp e8 s) h.own (fun g hg=>.inr fun o=>.inr hg) (fun i ob hi=>?_) (fun i r hi=>by simp at hi)
 cases i with
 | zero =>
  simp only [List.getElem?_cons_zero,Option.some.injEq] at hi; subst hi
  exact h.ne
 | succ i=>simp at hi
theorem qkC {w0 w:World} {B e8 cp:Nat} {A0 A:Option Addr} {s:Bs} {v:Value} (hW:WOk w0 (BM B A0) w [⟨B,0,[v],true⟩] [brow A cp e8 s]) (hv:v = .slice A s.length cp) (hB:B < w0.heap.size):Dst w B e8 A cp s ∧ Near w0 A0 A ∧ Step w0 w (BM B A0):=by
 subst hv
 refine ⟨⟨?_,?_,hW.own 0 _ rfl,fun e=>hW.rtb 0 _ rfl B e 0 _ rfl rfl⟩,fun g hg=>?_,hW.step⟩
 ·exact hW.cells 0 _ rfl 0 _ rfl
 ·exact (hW.rw_ 0 _ rfl rfl 0 (by simp)).2
 rcases hW.ownM 0 _ rfl g hg with h | h
 ·exact .inr h
 rcases h 0 with ⟨rfl,_⟩ | h
 ·exact absurd rfl (hW.rtb 0 _ rfl _ hg 0 _ rfl)
 exact .inl h
def tagR (k:Int) (x:Bs):Bs:=uv k.toNat ++ uv x.length ++ x
theorem qjy {w:World} {B cp c:Nat} {k:Int} {A Av:Option Addr} {s x:Bs} {G:Nat → Nat → Prop} (hd:Dst w B 5 A cp s) (hk:0 ≤ k ∧ k < 4294967296) (hx:Octs w G Av c x) (hG:∀ b o,G b o → ¬ BM B A b o)
  (hxl:x.length < 4294967296) (hroom:s.length + (tagR k x).length + 16 ≤ 1099511627776) :
  Calls Tryz.prog 63 [.int .u32 k,.slice Av x.length c,.pointer (some ⟨B,0,none⟩)].toArray w (qiu w B 5 A (s ++ tagR k x)):=by
 obtain ⟨m,rfl⟩:∃ m:Nat,k = (m:Int):=⟨k.toNat,by omega⟩
 have hB:=World.lt_of_cell hd.cell
 unfold tagR at hroom ⊢
 rw [Int.toNat_natCast] at hroom ⊢
 simp only [List.length_append] at hroom
 refine enter (n:=16) Tryz.func63 rfl Tryz.ntmps63 kz fun a hE=>?_
 have hW:=hd.wok
 have hE0:=(hE.grow ⟨B,0,[.slice A s.length cp],true⟩).recast 2 (.v (.pointer (some ⟨B,0,none⟩))) (.p 0 0) rfl rfl (by simp [SV.ok])
 refine qad [0,1,2,3] kz ?_
 refine qaT [0,1] [2,3] [0,1,2,5,6] hW hE0 (env':=[(0,.v (.int .u32 (m:Int))),(1,.v (.slice Av x.length c)),(2,.p 0 0),(5,.v (.slice A s.length cp)),(6,.v (.int .u32 (m:Int)))]) kz rfl fun a1 hE1=>?_
 refine qah (qai hE1 (f:=43) (vs:=[.slice A s.length cp,.int .u32 (m:Int)]) (d:=7) kz Tryz.call43 (qbm m (by omega) A cp s _ (hW.own 0 _ rfl) (by omega)) ?_)
 rintro e_ w1 ⟨A1,c1,rfl,ho1,hs1,hn1⟩
 refine ⟨_,rfl,fun a2 hE2=>?_⟩
 have hW1:WOk _ _ _ _ [brow A1 c1 5 (s ++ uv m)]:=hW.grow (k:=0) rfl hs1 ho1 hn1
 refine qah (qaj hW1 hE2 (oi:=0) (cs:=[.slice A1 (s ++ uv m).length c1]) kz fun w2 hF2 hW2 hE2'=>qae (qaa ?_))
 refine qad [0,1,2,3,4,5] kz ?_
 refine qaT [0,1,2,3] [4,5] [1,2,8,11] hW2 hE2' (env':=[(1,.v (.slice Av x.length c)),(2,.p 0 0),(8,.v (.slice A1 (s ++ uv m).length c1)),(11,.v (.int .u32 (IntKind.u32.wrap ((x.length:Nat):Int))))]) kz rfl fun a3 hE3=>?_
 rw [qcc,Int.emod_eq_of_lt (by omega) (by omega)] at hE3
 refine qah (qai hE3 (f:=43) (vs:=[.slice A1 (s ++ uv m).length c1,.int .u32 ((x.length:Nat):Int)]) (d:=12) kz Tryz.call43 (qbm x.length hxl A1 c1 (s ++ uv m) _ (hW2.own 0 _ rfl) (by rw [List.length_append]; omega)) ?_)
 rintro e_ w3 ⟨A2,c2,rfl,ho2,hs2,hn2⟩
 refine ⟨_,rfl,fun a4 hE4=>?_⟩
 have hW3:WOk _ _ _ _ [brow A2 c2 5 (s ++ uv m ++ uv x.length)]:=hW2.grow (k:=0) rfl hs2 ho2 hn2
 refine qah (qaj hW3 hE4 (oi:=0) (cs:=[.slice A2 (s ++ uv m ++ uv x.length).length c2]) kz fun w4 hF4 hW4 hE4'=>qae (qaa ?_))
 refine qap [0,1,2,3] kz ?_
 refine qaT [0,1] [2,3] [2,13,14] hW4 hE4' (env':=[(2,.p 0 0),(13,.v (.slice A2 (s ++ uv m ++ uv x.length).length c2)),(14,.v (.slice Av x.length c))]) kz rfl fun a5 hE5=>?_
 have hx4:Octs w4 G Av c x:=hx.move hW4.step (fun b o hg _=>hG b o hg) qco
 refine qah (qaU hW4 hE5 (k:=0) (t:=22) (e:=5) (bytes:=1) (d:=15) (m:=x.length) kz kz rfl hx4.src hx4.cap (by rw [List.length_append,List.length_append]; omega) fun A3 c3 a6 w5 hF5 hW5 hE6=>?_)
 have er:(⟨A3,c3,5,1,(s ++ uv m ++ uv x.length).length + x.length,bc (s ++ uv m ++ uv x.length) ++ bc x⟩:Rw) = brow A3 c3 5 (s ++ (uv m ++ uv x.length ++ x)):=by
  rw [qbr rfl rfl]; congr 1; simp
 have hW5':WOk w (BM B A) w5 [⟨B,0,[.slice A2 (s ++ uv m ++ uv x.length).length c2],true⟩] [brow A3 c3 5 (s ++ (uv m ++ uv x.length ++ x))]:=er ▸ hW5
 refine qah (qaj hW5' hE6 (oi:=0) (cs:=[.slice A3 ((s ++ uv m ++ uv x.length).length + x.length) c3]) kz fun w6 hF6 hW6 hE6'=>qae ?_)
 obtain ⟨h1,h2,h3⟩:=qkC hW6 (by congr 1; simp; omega) hB
 exact qda hE6' hW6.cells (v:=.tuple #[]) kz ⟨rfl,A3,c3,h1,h2,h3⟩
section
variable {P:Program} {ops:Array Oper} {Q:Exit → Act → World → Prop} {n:Nat} {tb:Tb} {env:Env} {rs:List Rw} {w0:World} {M:Nat → Nat → Prop} {a:Act} {w:World} {F:Nat → Nat → Prop}
def qjW (env:Env) (ops:Array Oper) (n i:Nat):Option (TypeId × Option Nat × Nat) :=
 match opAt env ops n i with
 | some (.range t x,d)=>match opd env x with
  | some (.v (.map m))=>some (t,m,d)
  | _=>none
 | _=>none
theorem qhK {i d r:Nat} {t kt et:TypeId} {es:Array MapEntry} {clk:Nat} {N:Act → World → Prop} (hE:EnvOk n tb env a) (h:qjW env ops n i = some (t,some r,d)) (ht:qgM P t = some (kt,et)) (hr:w.heap[r]? = some (.map es clk))
  (K:∀ a',EnvOk n tb ((d,.v (.pointer (some ⟨w.heap.size,0,none⟩))) :: env) a' → N a' (w.alloc (.mapIter (some r) clk #[] clk))):wpOp P ops Q i N a w:=by
 unfold qjW at h
 split at h
 ·rename_i t' x d' ho
  split at h
  ·rename_i m' hs
   simp only [Option.some.injEq,Prod.mk.injEq] at h
   obtain ⟨rfl,rfl,rfl⟩:=h
   have hd:=(qbt hE ho).choose_spec.2.2.2.1
   refine qa5 hE ho (v:=.pointer (some ⟨w.heap.size,0,none⟩)) (w':=w.alloc (.mapIter (some r) clk #[] clk)) ?_ (K _ (hE.put hd (.v _) trivial))
   intro o hop
   unfold execOp
   rw [hop]
   simp only [(qaZ hE hs).1,SV.val,Sem.run_bind,run_range_map (P:=P) w _ _ _ r es clk (qdN ht) hr,Result.andThen_ok,Sem.run_pure]
  cases h
 cases h
def qkD (env:Env) (ops:Array Oper) (n i:Nat):Option (Nat × Nat) :=
 match opAt env ops n i with
 | some (.next x false,d)=>match opd env x with
  | some (.v (.pointer (some ⟨r,0,none⟩)))=>some (r,d)
  | _=>none
 | _=>none
theorem qiv {i d r bm since c0:Nat} {seen:Array Nat} {es:Array MapEntry} {clk:Nat} {N:Act → World → Prop} (hE:EnvOk n tb env a) (h:qkD env ops n i = some (r,d)) (hr:w.heap[r]? = some (.mapIter (some bm) since seen c0)) (hb:w.heap[bm]? = some (.map es clk)) (hold:∀ x ∈ es.toList,x.born < since) (hsc:since ≤ c0)
  (K0:(leftOf es seen).size = 0 → ∀ a',EnvOk n tb ((d,.v (.tuple #[.bool false])) :: env) a' → N a' w)
  (K1:∀ e ∈ (leftOf es seen).toList,∀ w1:World,(w1 = w ∨ w1 = w.drew) → ∀ a',EnvOk n tb ((d,.v (.tuple #[.bool true,e.key,e.val])) :: env) a' → N a' (setBlock w1 r (.mapIter (some bm) since (seen.push e.born) clk))):wpOp P ops Q i N a w:=by
 unfold qkD at h
 split at h
 ·rename_i x d' ho
  split at h
  ·rename_i r' hs
   simp only [Option.some.injEq,Prod.mk.injEq] at h
   obtain ⟨rfl,rfl⟩:=h
   obtain ⟨o,h1,h2,h3,h4,h5⟩:=qbt hE ho
   have key:∀ (v:Value) (w':World),(Instr.next (.pointer (some ⟨r',0,none⟩)) false o.type).run P w = .ok v w' → N (a.put (some d') v) w' → wpOp P ops Q i N a w:=by
    intro v w' hrun hN
    simp only [wpOp,h1]
    have:Region.wanted o (yielded ops a.tmps) = true:=by first | exact h2 | simp [Region.wanted,h2]
    rw [this]
    simp only [if_true]
    refine .inl ?_
    unfold Oper.wp
    have hr':(execOp a.eval o).run P w = .ok (.value v) w':=by
     unfold execOp
     rw [h5]
     simp only [(qaZ hE hs).1,SV.val,Sem.run_bind,hrun,Result.andThen_ok,Sem.run_pure]
    rw [hr',Oper.upon,h3]
    exact hN
   rcases run_next_at (P:=P) w o.type r' bm since c0 seen es clk hr hb hold hsc with ⟨g1,g2⟩ | ⟨e,g1,w1,g2,g3⟩
   ·exact key _ _ g2 (K0 g1 _ (hE.put h4 (.v _) trivial))
   exact key _ _ g3 (K1 e g1 w1 g2 _ (hE.put h4 (.v _) trivial))
  cases h
 cases h
def qjX (env:Env) (ops:Array Oper) (n i:Nat):Option (Nat × Nat) :=
 match opAt env ops n i with
 | some (.entry x,d)=>match opd env x with
  | some (.v (.pointer (some ⟨r,0,none⟩)))=>some (r,d)
  | _=>none
 | _=>none
theorem qhL {i d r bm since:Nat} {seen:Array Nat} {es:Array MapEntry} {clk:Nat} {e:MapEntry} {N:Act → World → Prop} (hE:EnvOk n tb env a) (h:qjX env ops n i = some (r,d)) (hr:w.heap[r]? = some (.mapIter (some bm) since (seen.push e.born) clk)) (hb:w.heap[bm]? = some (.map es clk)) (he:e ∈ es.toList) (hn:(es.toList.map (·.born)).Nodup)
  (K:∀ a',EnvOk n tb ((d,.v (.tuple #[e.key,e.val])) :: env) a' → N a' w):wpOp P ops Q i N a w:=by
 unfold qjX at h
 split at h
 ·rename_i x d' ho
  split at h
  ·rename_i r' hs
   simp only [Option.some.injEq,Prod.mk.injEq] at h
   obtain ⟨rfl,rfl⟩:=h
   have hd:=(qbt hE ho).choose_spec.2.2.2.1
   refine qa5 hE ho (v:=.tuple #[e.key,e.val]) (w':=w) ?_ (K _ (hE.put hd (.v _) trivial))
   intro o hop
   unfold execOp
   rw [hop]
   simp only [(qaZ hE hs).1,SV.val,Sem.run_bind,run_entry_at (P:=P) w r' bm since seen es clk e hr hb he hn,Result.andThen_ok,Sem.run_pure]
  cases h
 cases h
def mkfE (tb:Tb) (env:Env) (ops:Array Oper) (n i:Nat):Option (Value × Nat) :=
 match opAt env ops n i with
 | some (.makeFunc fn first cap,d)=>match first.toList,qhy tb env cap.toList with
  | [],some vs=>some (.func fn #[] vs.toArray,d)
  | _,_=>none
 | _=>none
theorem qhg {i d:Nat} {v:Value} {N:Act → World → Prop} (hE:EnvOk n tb env a) (h:mkfE tb env ops n i = some (v,d)) (K:∀ a',EnvOk n tb ((d,.v v) :: env) a' → N a' w):wpOp P ops Q i N a w:=by
 unfold mkfE at h
 split at h
 ·rename_i fn first cap d' ho
  split at h
  ·rename_i vs hf hv
   simp only [Option.some.injEq,Prod.mk.injEq] at h
   obtain ⟨rfl,rfl⟩:=h
   have hd:=(qbt hE ho).choose_spec.2.2.2.1
   refine qa5 hE ho (v:=.func fn #[] vs.toArray) (w':=w) ?_ (K _ (hE.put hd (.v _) trivial))
   intro o hop
   unfold execOp
   rw [hop]
   have e1:first = #[]:=Array.ext' hf
   have e2:cap.map a.eval = vs.toArray:=Array.ext' (by simpa using qfH hE hv)
   subst e1
   simp [Instr.makeFunc,e2]
  cases h
 cases h
end
def kOf:Value → Int
 | .int _ k=>k
 | _=>0
structure Vis (es vis:List MapEntry) (seen:Array Nat):Prop where
 seen:seen.toList = vis.map (·.born)
 sub:∀ e ∈ vis,e ∈ es
 nodup:(vis.map (·.born)).Nodup
theorem Vis.nil (es:List MapEntry):Vis es [] #[]:=⟨rfl,(fun _ h=>by cases h),List.nodup_nil⟩
theorem Vis.push {es:Array MapEntry} {vis:List MapEntry} {seen:Array Nat} {e:MapEntry} (h:Vis es.toList vis seen) (he:e ∈ (leftOf es seen).toList):Vis es.toList (vis ++ [e]) (seen.push e.born):=by
 obtain ⟨h1,h2⟩:=mem_left he
 have hn:e.born ∉ vis.map (·.born):=by
  rw [← h.seen]
  intro hm
  have:seen.contains e.born = true:=by simpa using Array.mem_toList_iff.1 hm
  rw [this] at h2; cases h2
 refine ⟨by simp [h.seen],fun x hx=>?_,?_⟩
 ·rcases List.mem_append.1 hx with hx | hx
  ·exact h.sub x hx
  rw [List.mem_singleton.1 hx]; exact h1
 rw [List.map_append,List.map_cons,List.map_nil]
 refine List.nodup_append.2 ⟨h.nodup,by simp,fun x hx y hy=>?_⟩
 rw [List.mem_singleton.1 hy]
 rintro rfl
 exact hn hx
theorem qeO {α β:Type} {l:List α} {f:α → β} (h:(l.map f).Nodup):l.Nodup:=List.Pairwise.of_map f (fun a b hab e=>hab (by rw [e])) h
theorem Vis.all {es:Array MapEntry} {vis:List MapEntry} {seen:Array Nat} (h:Vis es.toList vis seen) (h0:(leftOf es seen).size = 0) (hn:(es.toList.map (·.born)).Nodup):vis.Perm es.toList:=by
 refine (List.perm_ext_iff_of_nodup (qeO h.nodup) (qeO hn)).2 fun e=>⟨h.sub e,fun he=>?_⟩
 have hc:seen.contains e.born = true:=by
  cases hc:seen.contains e.born with
  | true=>rfl
  | false =>
   exfalso
   have hm:e ∈ leftOf es seen:=Array.mem_filter.2 ⟨Array.mem_toList_iff.1 he,by simp [hc] at hc ⊢; exact hc⟩
   have:=Array.size_pos_of_mem hm
   omega
 have hm:e.born ∈ seen.toList:=by simpa using hc
 rw [h.seen] at hm
 obtain ⟨e',h1,h2⟩:=List.mem_map.1 hm
 have h3:=h.sub e' h1
 obtain ⟨i1,g1⟩:=List.getElem?_of_mem h3
 obtain ⟨i2,g2⟩:=List.getElem?_of_mem he
 have k1:(es.toList.map (·.born))[i1]? = some e'.born:=by rw [List.getElem?_map,g1]; rfl
 have k2:(es.toList.map (·.born))[i2]? = some e.born:=by rw [List.getElem?_map,g2]; rfl
 have hi:i1 = i2:=by
  obtain ⟨l1,q1⟩:=List.getElem?_eq_some_iff.1 k1
  obtain ⟨l2,q2⟩:=List.getElem?_eq_some_iff.1 k2
  rcases Nat.lt_trichotomy i1 i2 with hlt | h | hlt
  ·exact absurd (by rw [q1,q2,h2]) (List.pairwise_iff_getElem.1 hn i1 i2 l1 l2 hlt)
  ·exact h
  exact absurd (by rw [q1,q2,h2]) (List.pairwise_iff_getElem.1 hn i2 i1 l2 l1 hlt)
 subst hi
 rw [g1] at g2
 rw [← Option.some.inj g2]; exact h1
theorem qjz {w:World} {e g c nn:Nat} {ks:List Int} {d':Array Int} {n:Nat} {os:Array Obj} (hnn:ks.length = nn) (ho:w.ownsRow 0 e 1 (.slice (some ⟨g,0,none⟩) nn c) nn (ks.map (Value.int .u32))) (hd:d'.size = ks.length) :
  Step w (Sort.grow (Sort.putRow (Value.int .u32) (Sort.ahead w n) g 0 d') os) (fun b _=>b = g) ∧ (Sort.grow (Sort.putRow (Value.int .u32) (Sort.ahead w n) g 0 d') os).ownsRow 0 e 1 (.slice (some ⟨g,0,none⟩) nn c) nn (d'.toList.map (Value.int .u32)):=by
 subst hnn
 have hold:∀ b,b < w.heap.size → (Sort.grow (Sort.putRow (Value.int .u32) (Sort.ahead w n) g 0 d') os).heap[b]? = (Sort.putRow (Value.int .u32) (Sort.ahead w n) g 0 d').heap[b]?:=fun b hb=>by
  show ((Sort.putRow (Value.int .u32) (Sort.ahead w n) g 0 d').heap ++ os)[b]? = _
  rw [Array.getElem?_append_left]
  simpa [Sort.putRow,Sort.mapBlock,Sort.ahead] using hb
 have hput:∀ b,(Sort.putRow (Value.int .u32) (Sort.ahead w n) g 0 d').heap[b]? = if g = b then (w.heap[b]?).map (Sort.onCells (Sort.putCells (Value.int .u32) 0 d')) else w.heap[b]?:=fun b=>by
  show (w.heap.modify g _)[b]? = _
  rw [Array.getElem?_modify]
 refine ⟨⟨rfl,rfl,?_,fun b hb=>?_⟩,?_⟩
 ·show w.heap.size ≤ ((Sort.putRow (Value.int .u32) (Sort.ahead w n) g 0 d').heap ++ os).size
  simp [Sort.putRow,Sort.mapBlock,Sort.ahead]
 ·rw [hold b hb,hput b]
  by_cases h:g = b
  ·exact ⟨fun hm=>absurd h.symm (hm 0),fun ⟨o,ho⟩=>absurd h.symm ho⟩
  rw [if_neg h]; exact Keeps.refl _ _
 rcases ho.2 with ⟨hv,_⟩ | ⟨g',cap,cur,hv,_,hg,hnc,hmx,hcs,htake⟩
 ·cases hv
 simp only [Value.slice.injEq,Option.some.injEq,Addr.mk.injEq,true_and,and_true] at hv
 obtain ⟨rfl,rfl⟩:=hv
 have hlt:g < w.heap.size:=(Array.getElem?_eq_some_iff.1 hg).1
 refine ⟨by simp [hd],.inr ⟨g,c,Sort.putCells (Value.int .u32) 0 d' cur,rfl,Nat.zero_le _,?_,hnc,hmx,by simpa [Sort.putCells] using hcs,?_⟩⟩
 ·rw [hold g hlt,hput g,if_pos rfl,hg]; rfl
 apply List.ext_getElem?
 intro k
 rw [List.getElem?_take,List.getElem?_map]
 by_cases hk:k < ks.length
 ·rw [if_pos (by omega)]
  have hkc:k < cur.size:=by omega
  have hkd:k < d'.size:=by omega
  simp only [Sort.putCells,Array.getElem?_toList,Array.getElem?_mapIdx,Array.getElem?_eq_getElem hkc,Array.getElem?_eq_getElem hkd,Option.map_some]
  rw [if_pos ⟨by omega,by omega⟩,Nat.sub_zero,getElem!_pos d' k hkd]
 rw [if_neg (by omega),Array.getElem?_toList,Array.getElem?_eq_none (by omega)]; rfl
theorem qgi {w:World} {e g c nn:Nat} {ks:List Int} (hnn:ks.length = nn) (ho:w.ownsRow 0 e 1 (.slice (some ⟨g,0,none⟩) nn c) nn (ks.map (Value.int .u32))):Sort.Holds (Value.int .u32) w g 0 ks.toArray:=by
 subst hnn
 rcases ho.2 with ⟨hv,_⟩ | ⟨g',cap,cur,hv,_,hg,hnc,hmx,hcs,htake⟩
 ·cases hv
 simp only [Value.slice.injEq,Option.some.injEq,Addr.mk.injEq,true_and,and_true] at hv
 obtain ⟨rfl,rfl⟩:=hv
 intro j hj
 have hj':j < ks.length:=by simpa using hj
 refine ⟨?_,by simp [World.frozen?,hg]⟩
 have h1:(cur.toList.take (ks.length * 1))[j]? = (ks.map (Value.int .u32))[j]?:=by rw [htake]
 rw [List.getElem?_take,if_pos (by omega),List.getElem?_map,List.getElem?_eq_getElem hj',Array.getElem?_toList] at h1
 rw [getElem!_pos ks.toArray j hj]
 simp [World.cell?,hg,h1]
theorem qiw {d':Array Int} {ks us:List Int} (hp:d'.toList.Perm ks) (hs:Sort.SortedIn Sort.ltInt 0 d'.size d') (hk:ks.Perm us) (hu:us.Pairwise (· < ·)):d'.toList = us:=by
 refine List.Perm.eq_of_pairwise (le:=(· ≤ ·)) (fun a b _ _ h1 h2=>by omega) ?_ (hu.imp fun h=>by omega) (hp.trans hk)
 refine List.pairwise_iff_getElem.2 fun i j hi hj hij=>?_
 have h:=hs i j (Nat.zero_le _) hij (by simpa using hj)
 have hi':i < d'.size:=by simpa using hi
 have hj':j < d'.size:=by simpa using hj
 rw [getElem!_pos d' i hi',getElem!_pos d' j hj'] at h
 have h2:¬ (d'[j] < d'[i]):=of_decide_eq_false h
 simp only [Array.getElem_toList]
 omega
theorem Dst.move {w w':World} {B e8 cp:Nat} {A:Option Addr} {s:Bs} {M:Nat → Nat → Prop} (h:Dst w B e8 A cp s) (hs:Step w w' M) (hM:∀ b o,BM B A b o → ¬ M b o):Dst w' B e8 A cp s :=
 ⟨hs.cell (hM B 0 (.inl ⟨rfl,rfl⟩)) h.cell,hs.frozen (hM B 0 (.inl ⟨rfl,rfl⟩)) h.cell h.frz,qdJ (r:=brow A cp e8 s) h.own fun g hg=>(hs.keeps g (qbD (r:=brow A cp e8 s) h.own hg)).1 fun o=>hM g o (.inr hg),h.ne⟩
def qbM (u:List (Int × Bs)):Bs:=u.flatMap fun x=>tagR x.1 x.2
theorem qix (u:List (Int × Bs)):2 * u.length ≤ (qbM u).length:=by
 induction u with
 | nil=>exact Nat.le_refl _
 | cons x r ih =>
  have e:qbM (x :: r) = tagR x.1 x.2 ++ qbM r:=rfl
  rw [e,List.length_append,List.length_cons]
  have h1:=qeH x.1.toNat
  have h2:=qeH x.2.length
  unfold tagR
  simp only [List.length_append]
  omega
def qcj (B:Nat):Value:=.func (.func 63) #[] #[.pointer (some ⟨B,0,none⟩)]
theorem qiy {m:Option Nat} {u:List (Int × Bs)} {b o B cp:Nat} {A:Option Addr} {s:Bs} {w:World} {F:Nat → Nat → Prop} (hat:AtF w F b o [.map m]) (hm:MapR w F m u) (hd:Dst w B 5 A cp s) (hF:∀ b o,F b o → ¬ BM B A b o)
  (hx:∀ x ∈ u,x.2.length < 4294967296) (hroom:s.length + (qbM u).length + 16 ≤ 1099511627776) :
  Calls Tryz.prog 62 [.pointer (some ⟨b,o,none⟩),qcj B].toArray w (qiu w B 5 A (s ++ qbM u)):=by
 have hul:=qix u
 have hB:=World.lt_of_cell hd.cell
 refine enter (n:=53) Tryz.func62 rfl Tryz.ntmps62 kz fun a hE=>?_
 have hW:WOk w Nil w [⟨b,o,[.map m],false⟩] []:=(WOk.start w Nil).start1 hat rfl rfl
 refine wp_seq (wp_seq ?_)
 refine qap [0,1,2,3,4,5] kz ?_
 refine qaT [0,1,2,3] [4,5] [0,1,11] hW (EnvOk.ptr0 (cs:=[.map m]) (r:=false) hE) (env':=[(0,.p 0 0),(1,.v (qcj B)),(11,.v (.map m))]) kz rfl fun a1 hE1=>?_
 refine qah (qfa (t:=54) (kt:=62) (et:=22) hE1 (m:=m) (d:=12) kz kz hm fun a2 hE2=>?_)
 refine qaT [5] [] [0,1,13] hW hE2 (env':=[(0,.p 0 0),(1,.v (qcj B)),(13,.v (.bool (((u.length:Nat):Int) == 0)))]) kz rfl fun a3 hE3=>qae (qaa ?_)
 refine qau hE3 (b:=((u.length:Nat):Int) == 0) kz (fun hb=>?_) (fun hb=>?_)
 ·-- none
  have hu:u = []:=List.eq_nil_of_length_eq_zero (by have:=eq_of_beq hb; omega)
  subst hu
  refine wp_ret (qaB ?_)
  refine qaV hE3 hW.cells (v:=.tuple #[]) kz ⟨rfl,A,cp,?_,fun g hg=>.inl hg,Step.refl _ _⟩
  rw [show s ++ qbM [] = s from List.append_nil s]
  exact hd
 have hu0:0 < u.length:=by have:=ne_of_beq_false hb; omega
 cases m with
 | none=>rw [hm.none_ rfl] at hu0; cases hu0
 | some mb =>
 obtain ⟨hFm,es,clk,hes,hperm,hborn,hnod,hcont⟩:=hm.some_ mb rfl
 have hmlt:mb < w.heap.size:=(Array.getElem?_eq_some_iff.1 hes).1
 have hesz:es.size = u.length:=MapR.size (w:=w) (F:=F) hperm
 refine wp_skip (qaa ?_)
 refine qad [0,1,2,3,4,5,6,7] kz ?_
 refine qaT [0,1,2,3] [4,5,6,7] [0,1,17] hW hE3 (env':=[(0,.p 0 0),(1,.v (qcj B)),(17,.v (.map (some mb)))]) kz rfl fun a4 hE4=>?_
 refine qah (qfa (t:=54) (kt:=62) (et:=22) hE4 (m:=some mb) (d:=18) kz kz hm fun a5 hE5=>?_)
 refine qah (qcn (e:=62) (size:=1) (bytes:=4) (j:=u.length) (t:=119) (d:=19) hW hE5 (p:=0) (q:=((u.length:Nat):Int)) kz kz rfl rfl (by omega) fun kr a6 w1 hkr hkr0 hF1 hW1 hE6=>?_)
 refine qah (qaw hW1 hE6 (d:=4) (cs:=[.slice none 0 0]) kz fun kb a7 w2 hkb hkb0 hF2 hW2 hE7=>?_)
 refine qah (qaj hW2 hE7 (oi:=1) (cs:=[.slice (some ⟨kr,0,none⟩) 0 u.length]) kz fun w3 hF3 hW3 hE8=>qae (qaa ?_))
 refine wp_seq (qad [0,1,2,3,4] kz ?_)
 refine qaT [0,1,2,3] [4] [0,1,4,23] hW3 hE8 (env':=[(0,.p 0 0),(1,.v (qcj B)),(4,.p 1 0),(23,.v (.map (some mb)))]) kz rfl fun a8 hE9=>?_
 have hes3:=hW3.step.heap (fun o h=>h) hes
 refine qah (qhK (t:=54) (kt:=62) (et:=22) (d:=24) (r:=mb) hE9 kz kz hes3 fun a9 hE10=>qae (qaa ?_))
 have hW4:=hW3.next_nil (Step.alloc w3 (.mapIter (some mb) clk #[] clk))
 have hr4:(w3.alloc (.mapIter (some mb) clk #[] clk)).heap[w3.heap.size]? = some (.mapIter (some mb) clk #[] clk):=qdg _ _
 have hE11:=hE10.pick (ks:=[0,1,4,24]) (env':=[(0,.p 0 0),(1,.v (qcj B)),(4,.p 1 0),(24,.v (.pointer (some ⟨w3.heap.size,0,none⟩)))]) kz
 have hrlt:w3.heap.size < (w3.alloc (.mapIter (some mb) clk #[] clk)).heap.size:=by rw [qeD]; omega
 have hr0:w.heap.size ≤ w3.heap.size:=hW3.step.size
 have hkbr:kb ≠ w3.heap.size:=by have:=hW3.live 1 _ rfl; show ¬ _; intro e; rw [← e] at this; exact absurd this (Nat.lt_irrefl _)
 have hkrr:kr ≠ w3.heap.size:=by have:=qbD (hW3.own 0 _ rfl) (g:=kr) rfl; omega
 generalize hR:w3.heap.size = R at hr4 hE11 hrlt hkbr hkrr
 generalize hw4:w3.alloc (.mapIter (some mb) clk #[] clk) = w4 at hW4 hr4 hrlt
 refine wp_block ?_
 refine wp_loop_ghost (fun q a_ w_=>∃ (vis:List MapEntry) (seen:Array Nat) (K:Option Addr) (kc c0:Nat),q = (leftOf es seen).size ∧ Vis es.toList vis seen ∧ vis.length + (leftOf es seen).size ≤ es.size ∧
   EnvOk 53 [⟨b,o,[.map (some mb)],false⟩,⟨kb,0,[.slice K vis.length kc],true⟩] [(0,.p 0 0),(1,.v (qcj B)),(4,.p 1 0),(24,.v (.pointer (some ⟨R,0,none⟩)))] a_ ∧
   WOk w Nil w_ [⟨b,o,[.map (some mb)],false⟩,⟨kb,0,[.slice K vis.length kc],true⟩] [⟨K,kc,62,1,vis.length,(vis.map fun e=>kOf e.key).map (Value.int .u32)⟩] ∧
   w_.heap[R]? = some (.mapIter (some mb) clk seen c0) ∧ clk ≤ c0 ∧ K.map (·.block) ≠ some R) (leftOf es #[]).size
  ⟨[],#[],some ⟨kr,0,none⟩,u.length,clk,rfl,Vis.nil _,by rw [List.length_nil,Nat.zero_add]; exact Array.size_filter_le,by rw [← hw4] at *; exact hE11,hW4,hr4,Nat.le_refl _,by simpa using hkrr⟩ ?_
 rintro q a10 w5 ⟨vis,seen,K,kc,c0,rfl,hv,hvl,hE12,hW5,hr5,hc0,hKR⟩
 have hes5:=hW5.step.heap (fun o h=>h) hes
 refine qad [0,1] kz ?_
 refine qah (qiv hE12 (d:=25) (r:=R) kz hr5 hes5 hborn hc0 (fun h0 a11 hE13=>?_) (fun e he w6 hw6 a11 hE13=>?_))
 ·-- behind it
  refine qaT [1] [] [0,1,4,26] hW5 hE13 (env':=[(0,.p 0 0),(1,.v (qcj B)),(4,.p 1 0),(26,.v (.bool false))]) kz rfl fun a12 hE14=>qae (qaa (wp_seq ?_))
  refine qau hE14 (b:=false) kz (fun hb=>by cases hb) (fun _=>?_)
  refine wp_exit (qar (qar (qaE (qaa ?_))))
  have hpe:=hv.all h0 hnod
  have hvu:vis.length = u.length:=by rw [hpe.length_eq,Array.length_toList,hesz]
  have hkp:(vis.map fun e=>kOf e.key).Perm (u.map Prod.fst):=by
   have h1:=(hpe.map fun e=>kOf e.key)
   have h2:=hperm.map kOf
   rw [List.map_map,List.map_map] at h2
   exact h1.trans h2
  have hkl:(vis.map fun e=>kOf e.key).length = vis.length:=by simp
  generalize (vis.map fun e=>kOf e.key) = ks at hkp hkl hW5
  have hown4:w5.ownsRow 0 62 1 (.slice K vis.length kc) vis.length (ks.map (Value.int .u32)):=hW5.own 0 _ rfl
  obtain ⟨g,rfl⟩:=qcI hown4 (by omega)
  have hown5:w5.ownsRow 0 62 1 (.slice (some ⟨g,0,none⟩) vis.length kc) vis.length (ks.map (Value.int .u32)):=hown4
  have hg0:w.heap.size ≤ g:=by
   rcases hW5.ownM 0 _ rfl g rfl with h | h
   ·exact h
   exact (h 0).elim
  refine qad [0,1,2,3] kz ?_
  refine qaT [0,1] [2,3] [0,1,4,34] hW5 hE14 (env':=[(0,.p 0 0),(1,.v (qcj B)),(4,.p 1 0),(34,.v (.iface 119 (.slice (some ⟨g,0,none⟩) vis.length kc)))]) kz rfl fun a13 hE15=>?_
  refine qah (qhg hE15 (v:=.func (.func 70) #[] #[.pointer (some ⟨kb,0,none⟩)]) (d:=35) kz fun a14 hE16=>?_)
  have hS:=Tryz.sortKeys g kc kb ks.toArray (by simp; omega) (by simp; omega) w5 (by simp only [List.size_toArray,hkl]; exact hW5.cells 1 _ rfl 0 _ rfl) (fun e=>hW5.rtb 0 _ rfl g rfl 1 _ rfl e) (qgi hkl hown5) (qbD (hW5.own 0 _ rfl) (g:=g) rfl) (hW5.live 1 _ rfl)
  rw [List.size_toArray,hkl] at hS
  refine qah (qai hE16 (f:=69) (vs:=[.iface 119 (.slice (some ⟨g,0,none⟩) vis.length kc),.func (.func 70) #[] #[.pointer (some ⟨kb,0,none⟩)]]) (d:=36) kz Tryz.call69 hS ?_)
  rintro e_ w7 ⟨rfl,d',nd,os,hd1,hd2,hd3,rfl⟩
  refine ⟨_,rfl,fun a15 hE17=>qae (qaa ?_)⟩
  have hus:d'.toList = u.map Prod.fst:=qiw hd2 (by rw [hd1]; exact hd3) hkp (List.pairwise_map.2 hm.sorted)
  obtain ⟨hst7,hown7⟩:=qjz (n:=nd) (os:=os) hkl hown5 (by rw [hd1,hkl])
  rw [hus] at hown7
  generalize Sort.grow (Sort.putRow (Value.int .u32) (Sort.ahead w5 nd) g 0 d') os = w7 at hst7 hown7
  have hW7:WOk w Nil w7 [⟨b,o,[.map (some mb)],false⟩,⟨kb,0,[.slice (some ⟨g,0,none⟩) vis.length kc],true⟩] [⟨some ⟨g,0,none⟩,kc,62,1,vis.length,(u.map Prod.fst).map (Value.int .u32)⟩] :=
   hW5.grow (k:=0) (r':=⟨some ⟨g,0,none⟩,kc,62,1,vis.length,(u.map Prod.fst).map (Value.int .u32)⟩) rfl (hst7.mono fun b' _ _ hb'=>by rw [hb']; rfl) hown7 (fun g' h=>.inl h)
  refine qad [0,1,2] kz ?_
  refine qaT [0,1,2] [] [0,1,37,38,39] hW7 hE17 (env':=[(0,.p 0 0),(1,.v (qcj B)),(37,.v (.slice (some ⟨g,0,none⟩) vis.length kc)),(38,.v (.int .i64 ((vis.length:Nat):Int))),(39,.v (.int .i64 0))]) kz rfl fun a16 hE18=>qae (qaa ?_)
  have hE19:=EnvOk.cutTb 1 hE18 kz
  have hat7:=hat.move hW7.step nilM qco
  have hm7:=hm.move hW7.step nilM qco
  have hd7:=hd.move hW7.step (fun _ _ _ h=>h)
  have hg7:g < w7.heap.size:=qbD (hW7.own 0 _ rfl) (g:=g) rfl
  have hkeys:=qgi (by simpa using hvu.symm) hown7
  have hBMlt:∀ b' o',BM B A b' o' → b' < w.heap.size:=fun b' o' hbm=>by
   rcases hbm with ⟨rfl,_⟩ | h
   ·exact hB
   exact qbD (r:=brow A cp 5 s) hd.own h
  rw [hvu] at hE19
  refine wp_block ?_
  refine wp_loop_ghost (fun q a_ w_=>∃ (j:Nat) (A_:Option Addr) (cp_:Nat),q = u.length - j ∧ j ≤ u.length ∧ EnvOk 53 [⟨b,o,[.map (some mb)],false⟩] [(0,.p 0 0),(1,.v (qcj B)),(37,.v (.slice (some ⟨g,0,none⟩) u.length kc)),(38,.v (.int .i64 ((u.length:Nat):Int))),(39,.v (.int .i64 ((j:Nat):Int)))] a_ ∧
   Dst w_ B 5 A_ cp_ (s ++ qbM (u.take j)) ∧ Near w7 A A_ ∧ Step w7 w_ (BM B A)) u.length
   ⟨0,A,cp,by omega,by omega,hE19,by simpa [qbM] using hd7,fun g hg=>.inl hg,Step.refl _ _⟩ ?_
  rintro q a17 w8 ⟨j,A1,cp1,rfl,hj,hE20,hD,hN,hS8⟩
  have hat8:=hat7.move hS8 (fun b o hf _=>hF b o hf) qco
  have hm8:MapR w8 (fun b' o'=>F b' o' ∧ b' < w7.heap.size) (some mb) u:=hm7.move hS8 (fun b o hf _=>hF b o hf) (fun b' o' hf hl=>⟨hf,hl⟩)
  have hW8:WOk w8 Nil w8 [⟨b,o,[.map (some mb)],false⟩] []:=(WOk.start w8 Nil).start1 hat8 rfl rfl
  refine qad [0] kz (qaT [0] [] [0,1,37,38,39,40] hW8 hE20 (env':=[(0,.p 0 0),(1,.v (qcj B)),(37,.v (.slice (some ⟨g,0,none⟩) u.length kc)),(38,.v (.int .i64 ((u.length:Nat):Int))),(39,.v (.int .i64 ((j:Nat):Int))),(40,.v (.bool (decide (((j:Nat):Int) < ((u.length:Nat):Int)))))]) kz rfl fun a18 hE21=>qae (qaa (wp_seq ?_)))
  refine qau hE21 (b:=decide (((j:Nat):Int) < ((u.length:Nat):Int))) kz (fun hc=>?_) (fun hc=>?_)
  ·have hlt:j < u.length:=by have:=of_decide_eq_true hc; omega
   refine wp_skip (qaa (wp_seq (wp_block ?_)))
   obtain ⟨⟨k,x⟩,hu⟩:∃ y,u[j]? = some y:=⟨_,List.getElem?_eq_getElem hlt⟩
   have hmem:=List.mem_of_getElem? hu
   have hkr:=hm.range _ hmem
   have hcell:At w8 g (0 + j * 1) [.int .u32 k]:=by
    intro i v hi
    have hi0:i = 0:=by
     have:=(List.getElem?_eq_some_iff.1 hi).1
     simp at this; omega
    subst hi0
    simp only [List.getElem?_cons_zero,Option.some.injEq] at hi
    subst hi
    refine hS8.cell (fun hbm=>?_) ?_
    ·have:=hBMlt _ _ hbm; omega
    have h1:=(hkeys j (by simpa using hlt)).1
    have h2:(u.map Prod.fst).toArray[j]! = k:=by
     rw [getElem!_pos _ j (by simpa using hlt)]
     have:(u.map Prod.fst)[j]? = some k:=by rw [List.getElem?_map,hu]; rfl
     simpa using (List.getElem?_eq_some_iff.1 this).2
    rw [h2] at h1
    simpa using h1
   refine qad [0,1,2] kz ?_
   refine qah (qaM hE21 (t:=119) (e:=62) (size:=1) (bytes:=4) (d:=41) (b:=g) (o:=0) (m:=u.length) (j:=j) kz kz rfl rfl hlt fun a19 hE22=>?_)
   refine qah (qa0 hE22 (t:=62) (d:=42) (cs:=[.int .u32 k]) (v:=.int .u32 k) kz kz hcell fun a20 hE23=>?_)
   refine qaT [2] [] [0,1,37,38,39,7] hW8 hE23 (env':=[(0,.p 0 0),(1,.v (qcj B)),(37,.v (.slice (some ⟨g,0,none⟩) u.length kc)),(38,.v (.int .i64 ((u.length:Nat):Int))),(39,.v (.int .i64 ((j:Nat):Int))),(7,.v (.int .u32 k))]) kz rfl fun a21 hE24=>qae (qaa ?_)
   refine qap [0,1,2,3,4,5,6,7,8] kz ?_
   refine qaT [0,1,2,3,4,5,6] [7,8] [0,1,37,38,39,43,44,48,49] hW8 hE24 (env':=[(0,.p 0 0),(1,.v (qcj B)),(37,.v (.slice (some ⟨g,0,none⟩) u.length kc)),(38,.v (.int .i64 ((u.length:Nat):Int))),(39,.v (.int .i64 ((j:Nat):Int))),(43,.v (qcj B)),(44,.v (.int .u32 k)),(48,.v (.map (some mb))),(49,.v (.int .u32 k))]) kz rfl fun a22 hE25=>?_
   refine qah (qis hE25 (t:=54) (kt:=62) (et:=22) (m:=some mb) (k:=k) (s:=x) (d:=50) kz kz kz hm8 hmem fun a23 Ax cx hox hE26=>?_)
   have htake:qbM (u.take (j + 1)) = qbM (u.take j) ++ tagR k x:=qcA (g:=fun x:Int × Bs=>tagR x.1 x.2) hu
   have htl:(qbM (u.take (j + 1))).length ≤ (qbM u).length:=qcq u _ _
   have hG8:∀ b' o',F b' o' → b' < w7.heap.size → ¬ BM B A1 b' o':=fun b' o' hf hl hbm=>by
    rcases hbm with h | h
    ·exact hF b' o' hf (.inl h)
    rcases hN b' h with h1 | h1
    ·exact hF b' o' hf (.inr h1)
    omega
   refine qah (qai hE26 (f:=63) (vs:=[.int .u32 k,.slice Ax x.length cx,.pointer (some ⟨B,0,none⟩)]) (d:=51) kz Tryz.call63 (qjy hD hkr hox (fun b' o' h=>hG8 b' o' h.1 h.2) (hx _ hmem) (by rw [htake] at htl; rw [List.length_append] at htl ⊢; omega)) ?_)
   rintro e_ w9 ⟨rfl,A2,cp2,hD2,hN2,hS2⟩
   refine ⟨_,rfl,fun a24 hE27=>qae (qas (qaa ?_))⟩
   have hS9:Step w7 w9 (BM B A):=hS8.trans hS2 fun b' o' hl hbm=>by
    rcases hbm with h | h
    ·exact .inl h
    rcases hN b' h with h1 | h1
    ·exact .inr h1
    omega
   have hat9:=hat7.move hS9 (fun b o hf _=>hF b o hf) qco
   have hW9:WOk w9 Nil w9 [⟨b,o,[.map (some mb)],false⟩] []:=(WOk.start w9 Nil).start1 hat9 rfl rfl
   refine qap [0,1] kz (qaT [0,1] [] [0,1,37,38,39] hW9 hE27 (env':=[(0,.p 0 0),(1,.v (qcj B)),(37,.v (.slice (some ⟨g,0,none⟩) u.length kc)),(38,.v (.int .i64 ((u.length:Nat):Int))),(39,.v (.int .i64 (IntKind.i64.wrap (((j:Nat):Int) + 1))))]) kz rfl fun a25 hE28=>qae (qaa ?_))
   rw [qaN (by omega)] at hE28
   refine ⟨u.length - (j + 1),by omega,j + 1,A2,cp2,rfl,by omega,hE28,?_,?_,hS9⟩
   ·rw [htake,← List.append_assoc]; exact hD2
   intro g' hg'
   rcases hN2 g' hg' with h | h
   ·exact hN g' h
   exact .inr (Nat.le_trans hS8.size h)
  obtain rfl:j = u.length:=by have:=of_decide_eq_false hc; omega
  refine wp_exit (qar (qar (qaE ?_)))
  rw [List.take_length] at hD
  refine qda hE21 hW8.cells (v:=.tuple #[]) kz ⟨rfl,A1,cp1,hD,fun g' hg'=>?_,?_⟩
  ·rcases hN g' hg' with h | h
   ·exact .inl h
   exact .inr (Nat.le_trans hW7.step.size h)
  exact (hW7.step.mono fun _ _ _ f=>f.elim).trans hS8 fun _ _ _ h=>h
 -- one more
 have hst6:Step w5 w6 Nil:=by
  rcases hw6 with rfl | rfl
  ·exact Step.refl _ _
  exact Step.drew _
 have hr6:w6.heap[R]? = some (.mapIter (some mb) clk seen c0):=hst6.heap (fun o h=>h) hr5
 have hW6:=hW5.next_nil hst6
 obtain ⟨hml,_⟩:=mem_left he
 obtain ⟨k,sx,Ax,cx,hk1,hk2,hk3,hk4⟩:=hcont e hml
 have hR6:R < w6.heap.size:=(Array.getElem?_eq_some_iff.1 hr6).1
 have hW7:WOk w Nil (setBlock w6 R (.mapIter (some mb) clk (seen.push e.born) clk)) [⟨b,o,[.map (some mb)],false⟩,⟨kb,0,[.slice K vis.length kc],true⟩] [⟨K,kc,62,1,vis.length,(vis.map fun e=>kOf e.key).map (Value.int .u32)⟩]:=by
  refine hW6.next (Step.setBlock w6 R _) (fun b' o' hb' hN=>by omega) (fun i ob hi j hj hN=>?_) (fun i q hi g' hg' o' hN=>?_)
  ·match i,hi with
   | 0,hi =>
    simp only [List.getElem?_cons_zero,Option.some.injEq] at hi; subst hi
    have:=World.lt_of_cell (hat 0 _ rfl).2
    simp only at hN; omega
   | 1,hi =>
    simp only [List.getElem?_cons_succ,List.getElem?_cons_zero,Option.some.injEq] at hi; subst hi
    exact hkbr hN
   | i + 2,hi=>simp at hi
  match i,hi with
  | 0,hi =>
   simp only [List.getElem?_cons_zero,Option.some.injEq] at hi; subst hi
   exact hKR (by rw [← hN]; exact hg')
  | i + 1,hi=>simp at hi
 have hr7:(setBlock w6 R (.mapIter (some mb) clk (seen.push e.born) clk)).heap[R]? = some (.mapIter (some mb) clk (seen.push e.born) clk):=qev hr6
 generalize hw7:setBlock w6 R (.mapIter (some mb) clk (seen.push e.born) clk) = w7 at hW7 hr7
 refine qaT [1] [] [0,1,4,24,26] hW7 hE13 (env':=[(0,.p 0 0),(1,.v (qcj B)),(4,.p 1 0),(24,.v (.pointer (some ⟨R,0,none⟩))),(26,.v (.bool true))]) kz rfl fun a12 hE14=>qae (qaa (wp_seq ?_))
 refine qau hE14 (b:=true) kz (fun _=>?_) (fun hb=>by cases hb)
 refine wp_skip (qaa (wp_block ?_))
 have hes7:=hW7.step.heap (fun o h=>h) hes
 refine qad [0,1,2] kz ?_
 refine qah (qhL hE14 (d:=27) (r:=R) kz hr7 hes7 hml hnod fun a13 hE15=>?_)
 rw [hk1] at hE15
 refine qaT [1,2] [] [0,1,4,24,5] hW7 hE15 (env':=[(0,.p 0 0),(1,.v (qcj B)),(4,.p 1 0),(24,.v (.pointer (some ⟨R,0,none⟩))),(5,.v (.int .u32 k))]) kz rfl fun a14 hE16=>qae (qaa ?_)
 refine qap [0,1,2,3,4] kz ?_
 refine qaT [0,1] [2,3,4] [0,1,4,24,29,30] hW7 hE16 (env':=[(0,.p 0 0),(1,.v (qcj B)),(4,.p 1 0),(24,.v (.pointer (some ⟨R,0,none⟩))),(29,.v (.slice K vis.length kc)),(30,.v (.int .u32 k))]) kz rfl fun a15 hE17=>?_
 have hsh:=left_shrinks es seen e he
 refine qbl (t:=119) (e:=62) (size:=1) (bytes:=4) (len:=1) (cs:=[.int .u32 k]) (d1:=31) (d:=32) (k:=0) hW7 hE17 kz kz (fun _=>by kernel_rfl) rfl kz (by omega) fun K2 kc2 a16 w8 hF8 hW8 hE18=>?_
 obtain ⟨bl,hE18⟩:=hE18
 have hR7:R < w7.heap.size:=(Array.getElem?_eq_some_iff.1 hr7).1
 have hna:∀ {o'},¬ Act_ [⟨b,o,[.map (some mb)],false⟩,⟨kb,0,[.slice K vis.length kc],true⟩] [⟨K,kc,62,1,vis.length,(vis.map fun e=>kOf e.key).map (Value.int .u32)⟩] R o':=by
  rintro o' (⟨i,ob,hi,hrw,hb,_⟩ | ⟨i,q,hi,hq⟩)
  ·match i,hi with
   | 0,hi =>
    simp only [List.getElem?_cons_zero,Option.some.injEq] at hi; subst hi
    cases hrw
   | 1,hi =>
    simp only [List.getElem?_cons_succ,List.getElem?_cons_zero,Option.some.injEq] at hi; subst hi
    exact hkbr hb
   | i + 2,hi=>simp at hi
  match i,hi with
  | 0,hi =>
   simp only [List.getElem?_cons_zero,Option.some.injEq] at hi; subst hi
   exact hKR hq
  | i + 1,hi=>simp at hi
 have hK2:K2.map (·.block) ≠ some R:=fun hk=>by
  exact hF8.imm R 0 hR7 hna (.inr ⟨0,_,rfl,hk⟩)
 refine qah (qaj hW8 hE18 (oi:=1) (cs:=[.slice K2 (vis.length + 1) kc2]) kz fun w9 hF9 hW9 hE19=>qae (qas (qaa ?_)))
 have hr8:w9.heap[R]? = some (.mapIter (some mb) clk (seen.push e.born) clk) :=
  hF9.step.heap (fun o'=>hF8.imm R o' hR7 hna) (hF8.step.heap (fun o'=>hna) hr7)
 refine ⟨(leftOf es (seen.push e.born)).size,hsh,vis ++ [e],seen.push e.born,K2,kc2,clk,rfl,hv.push he,by rw [List.length_append,List.length_singleton]; omega,?_,?_,hr8,Nat.le_refl _,hK2⟩
 ·rw [List.length_append,List.length_singleton]
  exact hE19.pick (ks:=[0,1,4,24]) kz
 rw [List.length_append,List.length_singleton,List.map_append,List.map_append,List.map_cons,List.map_cons,hk1]
 exact hW9
theorem qdn {m:Option Nat} {u:List (Int × Bs)} {b o cp:Nat} {A:Option Addr} {s:Bs} {w:World} {F:Nat → Nat → Prop} (hat:AtF w F b o [.map m]) (hm:MapR w F m u) (ho:w.ownsRow 0 5 1 (.slice A s.length cp) s.length (bc s)) (hF:∀ b o,F b o → ¬ Blk A b o)
  (hx:∀ x ∈ u,x.2.length < 4294967296) (hroom:s.length + (qbM u).length + 16 ≤ 1099511627776) :
  Calls Tryz.prog 45 [.pointer (some ⟨b,o,none⟩),.slice A s.length cp].toArray w (qbu w 5 A (s ++ qbM u)):=by
 refine enter (n:=9) Tryz.func45 rfl Tryz.ntmps45 kz fun a hE=>?_
 have hW:=WOk.start w Nil
 refine qad [0,1] kz ?_
 refine qah (qa9 hW hE (d:=3) (cs:=[.slice A s.length cp]) kz fun B a1 w1 hB hB0 hF1 hW1 hE1=>?_)
 refine qaT [1] [] [0,3] hW1 hE1 (env':=[(0,.v (.pointer (some ⟨b,o,none⟩))),(3,.p 0 0)]) kz rfl fun a2 hE2=>qae (qaa ?_)
 have hst1:Step w w1 Nil:=hW1.step
 have hd1:Dst w1 B 5 A cp s:=⟨hW1.cells 0 _ rfl 0 _ rfl,(hW1.rw_ 0 _ rfl rfl 0 (by simp)).2,qdJ (r:=brow A cp 5 s) ho fun g hg=>(hst1.keeps g (qbD (r:=brow A cp 5 s) ho hg)).1 fun _ h=>h,
  fun e=>by have:=qbD (r:=brow A cp 5 s) ho e; omega⟩
 refine qad [0,1,2] kz ?_
 refine qaT [0] [1,2] [3,5] hW1 hE2 (env':=[(3,.p 0 0),(5,.v (.pointer (some ⟨b,o,none⟩)))]) kz rfl fun a3 hE3=>?_
 refine qah (qhg hE3 (v:=qcj B) (d:=6) kz fun a4 hE4=>?_)
 refine qah (qai hE4 (f:=62) (vs:=[.pointer (some ⟨b,o,none⟩),qcj B]) (d:=7) kz Tryz.call62
  (qiy (F:=fun b o=>F b o ∧ b < w.heap.size) (hat.move hst1 nilM fun b o h hl=>⟨h,hl⟩) (hm.move hst1 nilM fun b o h hl=>⟨h,hl⟩) hd1 (fun b' o' h hbm=>by
   rcases hbm with ⟨h1,_⟩ | h1
   ·omega
   exact hF b' o' h.1 h1) hx hroom) ?_)
 rintro e_ w2 ⟨rfl,A2,c2,hD,hN,hS⟩
 refine ⟨_,rfl,fun a5 hE5=>qae (qaa ?_)⟩
 have hW2:WOk w2 Nil w2 [⟨B,0,[.slice A2 (s ++ qbM u).length c2],false⟩] []:=by
  have:=hD.wok
  refine (WOk.start w2 Nil).add ⟨B,0,[.slice A2 (s ++ qbM u).length c2],false⟩ (World.lt_of_cell hD.cell) (fun j v hj=>?_) (fun h=>by cases h) (fun i ob hi=>by simp at hi) (fun i r hi=>by simp at hi)
  exact this.cells 0 _ rfl j v hj
 have hE6:EnvOk 9 [⟨B,0,[.slice A2 (s ++ qbM u).length c2],false⟩] [(3,.p 0 0)] a5:=(hE5.pick (ks:=[3]) (env':=[(3,.p 0 0)]) kz).places ⟨rfl,rfl,trivial⟩
 refine qad [0,1] kz ?_
 refine qaT [0,1] [] [4] hW2 hE6 (env':=[(4,.v (.slice A2 (s ++ qbM u).length c2))]) kz rfl fun a6 hE7=>qae (qaa (wp_ret ?_))
 refine qaV hE7 hW2.cells (v:=.slice A2 (s ++ qbM u).length c2) kz ⟨A2,c2,rfl,hD.own,?_,fun g hg=>?_⟩
 ·exact (hst1.mono fun _ _ _ f=>f.elim).trans hS fun b' o' hl hbm=>by
   rcases hbm with ⟨h1,_⟩ | h1
   ·omega
   exact h1
 rcases hN g hg with h | h
 ·exact .inl h
 exact .inr (Nat.le_trans hst1.size h)
end Go.Proofs.YtajibgahdkllkaaGreat.ME
namespace Go.Proofs.YtajibgahdkllkaaGreat.ME
open Go
open Go.RowKit
set_option linter.unusedVariables false
set_option linter.unusedSimpArgs false
set_option maxRecDepth 20000
theorem AtF.one {w:World} {F:Nat → Nat → Prop} {b o:Nat} {cs:List Value} (h:AtF w F b o cs) (k:Nat) {v:Value} (hk:cs[k]? = some v):AtF w F b (o + k) [v]:=fun j x hj=>by
 have hj0:j = 0:=by
  have:=(List.getElem?_eq_some_iff.1 hj).1
  simp at this; omega
 subst hj0
 simp only [List.getElem?_cons_zero,Option.some.injEq] at hj
 subst hj
 exact h k _ hk
section
variable {P:Program} {n:Nat} {w0:World} {A0:Option Addr} {e8 d:Nat} {tb:Tb} {env e1 env':Env} {c c1 c2:Code} {x x1 x2 y:Bs}
theorem qeY {id:Nat} {ops:Array Oper} (i:Nat) (keys:List Nat) {f:FuncId} (args:Value → List Value)
  (h:∀ A m cp A' m' cp',qhF P ops n tb i (d :: keys) ((d,.v (.slice A m cp)) :: env) (.slice A' m' cp') = some ((f,args (.slice A m cp)),(d,.v (.slice A' m' cp')) :: env'))
  (hi:Nat.blt i ops.size = true) (hf:∀ args w,(callFunc f args).run P w = .ok (.enter f args) w)
  (hc:∀ (A:Option Addr) (cp:Nat) (s:Bs) (w:World),Step w0 w (Blk A0) → Near w0 A0 A → w.ownsRow 0 e8 1 (.slice A s.length cp) s.length (bc s) → s.length + x.length + 16 ≤ 1099511627776 → Calls P f (args (.slice A s.length cp)).toArray w (qbu w e8 A (s ++ x))) :
  Ch P n w0 A0 e8 d tb env env' (.region id ops false) x:=fun Q A cp s a w hE hW hr k=>by
 have hi':i < ops.size:=by simpa [Nat.blt_eq] using hi
 obtain ⟨e,t,h1,h2,_⟩:=qdk (h A s.length cp none 0 0)
 refine qap (List.range i ++ i :: upto (i + 1) ops.size) (by rw [← qbH hi']; rfl) ?_
 refine qbo hW.cells hE h1 fun a1 hE1=>qah (qai hE1 h2 hf (hc A cp s w hW.step (qfP hW) (hW.own 0 _ rfl) hr) ?_)
 rintro e_ w' ⟨A',c',rfl,ho,hs,hn⟩
 refine ⟨_,rfl,fun a2 hE2=>?_⟩
 obtain ⟨e',t',g1,g2,g3⟩:=qdk (h A s.length cp A' (s ++ x).length c')
 rw [h1] at g1
 obtain rfl:=Option.some.inj g1
 rw [h2] at g2
 simp only [Option.some.injEq,Prod.mk.injEq,true_and] at g2
 subst g2
 have hW':WOk w0 (Blk A0) w' tb [brow A' c' e8 (s ++ x)]:=hW.grow (k:=0) rfl hs ho hn
 refine qaT (upto (i + 1) ops.size) [] (d :: keys) hW' hE2 g3 (List.append_nil _).symm fun a3 hE3=>qae ?_
 exact k A' c' a3 w' hE3 hW'
theorem qfW {o:Operand} {b:Bool} (hb:∀ A m cp,opd ((d,.v (.slice A m cp)) :: env) o = some (.v (.bool b))) (h1:b = true → Ch P n w0 A0 e8 d tb env env' c1 x) (h2:b = false → Ch P n w0 A0 e8 d tb env env' c2 []) :
  Ch P n w0 A0 e8 d tb env env' (.cond o c1 c2) (if b = true then x else []) :=
 qic hb (fun h=>qjj (h1 h) (by rw [if_pos h])) (fun h=>qjj (h2 h) (by rw [if_neg (by rw [h]; decide)]))
theorem qfX (keys:List Nat) (h:∀ A m cp,pick ((d,.v (.slice A m cp)) :: env) (d :: keys) = some ((d,.v (.slice A m cp)) :: e1)) (hc:Ch P n w0 A0 e8 d tb e1 env' c x):Ch P n w0 A0 e8 d tb env env' c x:=fun Q A cp s a w hE hW hr k =>
 hc Q A cp s a w (hE.pick (h _ _ _)) hW hr k
theorem qec (keys:List Nat) (h:∀ A m cp,pick ((d,.v (.slice A m cp)) :: e1) (d :: keys) = some ((d,.v (.slice A m cp)) :: env')) (hc:Ch P n w0 A0 e8 d tb env e1 c x):Ch P n w0 A0 e8 d tb env env' c x:=fun Q A cp s a w hE hW hr k =>
 hc Q A cp s a w hE hW hr fun A' cp' a' w' hE' hW'=>k A' cp' a' w' (hE'.pick (h _ _ _)) hW'
end
def qcV (u:List (Int × Bs)):Prop:=u.Pairwise fun x y=>x.1 < y.1
theorem qiz {u:List (Int × Bs)} {j:Nat} {k:Int} {s:Bs} (h:qcV u) (hj:u[j]? = some (k,s)):setT (u.take j) k s = u.take (j + 1):=by
 obtain ⟨hlt,he⟩:=List.getElem?_eq_some_iff.1 hj
 rw [qgh,List.take_add_one,hj]
 ·rfl
 intro x hx
 obtain ⟨i,hi⟩:=List.getElem?_of_mem hx
 rw [List.getElem?_take] at hi
 split at hi
 ·rename_i hij
  obtain ⟨hi1,hi2⟩:=List.getElem?_eq_some_iff.1 hi
  have:=List.pairwise_iff_getElem.1 h i j hi1 hlt hij
  rw [hi2,he] at this
  exact this
 cases hi
theorem qgj {w w':World} {e:Nat} {s:Bs} {en:Ending} {w2:World} (hs:Step w w' Nil) (h:qbu w' e none s en w2):qdr w e s en w2:=by
 obtain ⟨A',c',h1,h2,h3,h4⟩:=h
 refine ⟨A',c',h1,?_,hs.trans h3 fun b o _ h=>by cases h⟩
 refine ⟨h2.1,?_⟩
 rcases h2.2 with h5 | ⟨g,cap,cur,hv,_,hg,hr⟩
 ·exact .inl h5
 refine .inr ⟨g,cap,cur,hv,?_,hg,hr⟩
 have:A' = some ⟨g,0,none⟩:=by injection hv
 rcases h4 g (by rw [this]; rfl) with h6 | h6
 ·cases h6
 exact Nat.le_trans hs.size h6
theorem qc4 (m:Nat) (h:m ≤ 1000000):IntKind.u32.wrap (0 + IntKind.u32.wrap ((m:Nat):Int)) = ((m:Nat):Int):=by simp only [qcc]; omega
structure Str (w:World) (p:Nat) (cs:List Value):Prop where
 at_:∀ j v,cs[j]? = some v → w.cell? ⟨p,j,none⟩ = some v
 frz:∀ j,j < cs.length → w.frozen? ⟨p,j,none⟩ = false
theorem Str.move {w w':World} {p:Nat} {cs:List Value} {M:Nat → Nat → Prop} (h:Str w p cs) (hs:Step w w' M) (hM:∀ o,¬ M p o):Str w' p cs :=
 ⟨fun j v hj=>hs.cell (hM j) (h.at_ j v hj),fun j hj=>hs.frozen (hM j) (h.at_ j _ (List.getElem?_eq_getElem hj)) (h.frz j hj)⟩
theorem Str.of {w0 w:World} {M:Nat → Nat → Prop} {tb:Tb} {rs:List Rw} (hW:WOk w0 M w tb rs) (i:Nat) {p:Nat} {cs:List Value} (hi:tb[i]? = some ⟨p,0,cs,true⟩):Str w p cs:=by
 refine ⟨fun j v hj=>?_,fun j hj=>?_⟩
 ·have:=hW.cells i _ hi j v hj
  simpa using this
 have:=(hW.rw_ i _ hi rfl j hj).2
 simpa using this
structure TL (w wL w':World) (F:Nat → Nat → Prop) (p off:Nat) (cs0:List Value) (m:Option Nat) (u:List (Int × Bs)):Prop where
 step:Step w w' Nil
 big:w.heap.size ≤ wL.heap.size
 keep:Step wL w' (fun b o=>b = p ∧ o = off)
 str:Str w' p (cs0.set off (.map m))
 own:OwnM w' (fun b o=>F b o ∧ b < w.heap.size) m u
 new:∀ r,m = some r → wL.heap.size ≤ r
theorem TL.move {w wL w1 w2:World} {F:Nat → Nat → Prop} {p off:Nat} {cs0:List Value} {m:Option Nat} {u:List (Int × Bs)} (h:TL w wL w1 F p off cs0 m u) (hs:Step w1 w2 Nil):TL w wL w2 F p off cs0 m u :=
 ⟨h.step.trans' hs,h.big,h.keep.trans' hs,h.str.move hs fun _ h=>h,h.own.move hs nilM qco (fun _ _ _ h=>h),h.new⟩
theorem qgk {w:World} {F:Nat → Nat → Prop} {A:Option Addr} {c j:Nat} {u:List (Int × Bs)} {k:Int} {s:Bs} (h:TagsR w F A c u) (hj:u[j]? = some (k,s)) :
  ∃ b o A' c',A = some ⟨b,o,none⟩ ∧ At w b (o + j * 2) [.int .u32 k,.slice A' s.length c'] ∧ Octs w F A' c' s ∧ 0 ≤ k ∧ k < 4294967296:=by
 obtain ⟨cs,h1,h2⟩:=h.ex
 obtain ⟨hlt,_⟩:=List.getElem?_eq_some_iff.1 hj
 obtain ⟨⟨A',c',g1,g2⟩,g3⟩:=h2 j k s hj
 cases hA:A with
 | none=>have:=(h1.none_ hA).1; omega
 | some ad =>
  obtain ⟨b,o,rfl,h4⟩:=h1.some_ ad hA (by omega)
  have h5:=(h4 j hlt).2
  rw [g1] at h5
  exact ⟨b,o,A',c',rfl,h5.at_,g2,g3⟩
theorem qdP {w:World} {F:Nat → Nat → Prop} {A:Option Addr} {c:Nat} {u:List (Int × Bs)} (h:TagsR w F A c u):∀ x ∈ u,0 ≤ x.1 ∧ x.1 < 4294967296:=by
 rintro ⟨k,s⟩ hx
 obtain ⟨j,hj⟩:=List.getElem?_of_mem hx
 obtain ⟨_,_,_,_,_,_,_,h⟩:=qgk h hj
 exact h
theorem At.step_nil {w w':World} {b o:Nat} {cs:List Value} (h:At w b o cs) (hs:Step w w' Nil):At w' b o cs:=h.step hs fun _ _ h=>h
theorem TL.set {w wL w1:World} {F:Nat → Nat → Prop} {p off c j:Nat} {cs0:List Value} {m:Option Nat} {u:List (Int × Bs)} {k:Int} {A:Option Addr} {s:Bs} (h:TL w wL w1 F p off cs0 m (u.take j)) (hp:w.heap.size ≤ p) (hoff:Nat.blt off cs0.length = true) (hsort:qcV u) (hj:u[j]? = some (k,s)) (hs:Octs w F A c s) (hk:0 ≤ k ∧ k < 4294967296) :
  Calls Tryz.prog 32 [.pointer (some ⟨p,off,none⟩),.int .u32 k,.slice A s.length c].toArray w1 (fun e w'=>e = .returned (.tuple #[]) ∧ Step w1 w' (fun b' _=>b' = p ∨ m = some b') ∧ ∃ r,TL w wL w' F p off cs0 (some r) (u.take (j + 1))):=by
 have hbig:=h.big
 have hoff':off < cs0.length:=by simpa [Nat.blt_eq] using hoff
 have hcell:w1.cell? ⟨p,off,none⟩ = some (.map m):=h.str.at_ off _ (by simp [hoff'])
 have hfz:w1.frozen? ⟨p,off,none⟩ = false:=h.str.frz off (by simpa using hoff')
 have hs1:Octs w1 (fun b o=>F b o ∧ b < w.heap.size) A c s:=hs.move h.step nilM fun b o hf hb=>⟨hf,hb⟩
 have hmp:m ≠ some p:=fun e=>by
  obtain ⟨es,clk,h1,_⟩:=h.own.some_ p e
  exact qfw hcell h1 rfl
 refine (qjx hcell hfz h.own hs1 hk (fun b' o' hg=>⟨fun e=>?_,fun e=>?_⟩) (fun b' o' hg=>Nat.lt_of_lt_of_le hg.2 h.step.size)).mono ?_
 ·have:=hg.2; omega
 ·have:=h.new b' e; have:=hg.2; omega
 rintro e w' ⟨rfl,r,h1,h2,h3,h4,h5⟩
 rw [qiz hsort hj] at h3
 refine ⟨rfl,h5.mono fun b' o' _ hN=>hN.imp And.left id,r,?_,h.big,?_,⟨fun i v hi=>?_,fun i hi=>?_⟩,h3,fun r' hr'=>?_⟩
 ·exact h.step.trans h5 fun b' o' hl hN=>by
   rcases hN with ⟨h6,_⟩ | h6
   ·omega
   have:=h.new b' h6; omega
 ·exact h.keep.trans h5 fun b' o' hl hN=>by
   rcases hN with h6 | h6
   ·exact h6
   have:=h.new b' h6; omega
 ·rw [List.getElem?_set] at hi
  by_cases e:off = i
  ·subst e
   rw [if_pos rfl,if_pos hoff'] at hi
   rw [← Option.some.inj hi]; exact h1
  rw [if_neg e] at hi
  refine h5.cell (fun hN=>?_) (h.str.at_ i v (by rw [List.getElem?_set,if_neg e]; exact hi))
  rcases hN with ⟨_,h6⟩ | h6
  ·exact e h6.symm
  exact hmp h6
 ·by_cases e:off = i
  ·subst e; exact h2
  rw [List.length_set] at hi
  refine h5.frozen (fun hN=>?_) (h.str.at_ i _ (List.getElem?_eq_getElem (by simpa using hi))) (h.str.frz i (by simpa using hi))
  rcases hN with ⟨_,h6⟩ | h6
  ·exact e h6.symm
  exact hmp h6
 obtain rfl:=Option.some.inj hr'
 rcases h4 with h4 | h4
 ·exact h.new _ h4
 exact Nat.le_trans h.keep.size h4
theorem TL.keeps {w wL w1 w2 w':World} {F:Nat → Nat → Prop} {p off:Nat} {cs0:List Value} {m:Option Nat} {u:List (Int × Bs)} {tb:Tb} (h:TL w wL w1 F p off cs0 m u) (hoff:Nat.blt off cs0.length = true) (hs:Step w2 w' (fun b' _=>b' = p ∨ m = some b')) (hc:CellsOk w2 tb) (hb:∀ ob ∈ tb,w1.heap.size ≤ ob.blk):CellsOk w' tb:=fun i ob hi j v hj=>by
 have hoff':off < cs0.length:=by simpa [Nat.blt_eq] using hoff
 have h1:=hb ob (List.mem_of_getElem? hi)
 have h2:p < w1.heap.size:=World.lt_of_cell (h.str.at_ off (.map m) (by simp [hoff']))
 refine hs.cell (fun hN=>?_) (hc i ob hi j v hj)
 rcases hN with h3 | h3
 ·omega
 obtain ⟨es,clk,h4,_⟩:=h.own.some_ _ h3
 have:=(Array.getElem?_eq_some_iff.1 h4).1
 omega
theorem TL.start {w w1:World} {tb:Tb} {rs:List Rw} {F:Nat → Nat → Prop} {p off:Nat} {cs0:List Value} (hW:WOk w Nil w1 tb rs) (i:Nat) (hi:tb[i]? = some ⟨p,0,cs0,true⟩) (ho:cs0.set off (.map none) = cs0):TL w w1 w1 F p off cs0 none [] :=
 ⟨hW.step,hW.step.size,Step.refl _ _,by rw [ho]; exact Str.of hW i hi,OwnM.nil _ _,fun _ h=>by cases h⟩
theorem qgl {w w1:World} {tb:Tb} {rs:List Rw} {p:Nat} {cs:List Value} (hW:WOk w Nil w1 tb rs) (i:Nat) (hi:tb[i]? = some ⟨p,0,cs,true⟩) (hn:Nat.blt 0 cs.length = true):w.heap.size ≤ p:=by
 rcases (hW.rw_ i _ hi rfl 0 (by simpa [Nat.blt_eq] using hn)).1 with h | h
 ·exact h
 exact h.elim
theorem qjA {F:Nat → Nat → Prop}:∀ b o,F b o → ¬ Blk none b o:=fun _ _ _ h=>by cases h
structure TagsE (w:World) (F:Nat → Nat → Prop) (out:List (Int × Bs)) (css:List (List Value)):Prop where
 len:css.length = out.length
 each:∀ (i:Nat) (c:List Value) (x:Int × Bs),css[i]? = some c → out[i]? = some x → TagR w F c x
theorem TagsE.move {w w':World} {F F' N:Nat → Nat → Prop} {l:List (Int × Bs)} {css:List (List Value)} (h:TagsE w F l css) (hs:Step w w' N) (hM:∀ b o,F b o → b < w.heap.size → ¬ N b o) (hF:∀ b o,F b o → b < w.heap.size → F' b o):TagsE w' F' l css :=
 ⟨h.len,fun i c x hc hx=>(h.each i c x hc hx).move hs hM hF⟩
theorem TagsE.nil (w:World) (F:Nat → Nat → Prop):TagsE w F [] []:=⟨rfl,fun i c x h=>by simp at h⟩
theorem TagsE.get {w:World} {F:Nat → Nat → Prop} {l:List (Int × Bs)} {css:List (List Value)} (h:TagsE w F l css) {i:Nat} {x:Int × Bs} (hx:l[i]? = some x):∃ c,css[i]? = some c ∧ TagR w F c x:=by
 have hi:=(List.getElem?_eq_some_iff.1 hx).1
 have hc:=List.getElem?_eq_getElem (show i < css.length by rw [h.len]; exact hi)
 exact ⟨_,hc,h.each i _ x hc hx⟩
theorem TagsE.two {w:World} {F:Nat → Nat → Prop} {l:List (Int × Bs)} {css:List (List Value)} (h:TagsE w F l css):∀ c ∈ css,c.length = 2:=by
 intro c hc
 obtain ⟨i,hi,rfl⟩:=List.getElem_of_mem hc
 have hl:=h.len
 exact (h.each i _ _ (List.getElem?_eq_getElem hi) (List.getElem?_eq_getElem (show i < l.length by omega))).two
theorem TagsE.tags {w:World} {F:Nat → Nat → Prop} {l:List (Int × Bs)} {css:List (List Value)} (h:TagsE w F l css):Tags w F css.flatten l css:=⟨⟨rfl,h.two⟩,h.len,h.each⟩
theorem TagsE.ins {w:World} {F:Nat → Nat → Prop} {l:List (Int × Bs)} {css:List (List Value)} (h:TagsE w F l css) {c:List Value} {x:Int × Bs} (hx:TagR w F c x) {i:Nat} (hi:i ≤ l.length):TagsE w F (l.take i ++ x :: l.drop i) (css.take i ++ c :: css.drop i):=by
 have hl:=h.len
 refine ⟨by simp; omega,fun j d y hd hy=>?_⟩
 have hc1:(css.take i).length = i:=by rw [List.length_take]; omega
 have hl1:(l.take i).length = i:=by rw [List.length_take]; omega
 rcases Nat.lt_trichotomy j i with hj | hj | hj
 ·rw [List.getElem?_append_left (by omega),List.getElem?_take,if_pos hj] at hd hy
  exact h.each j d y hd hy
 ·subst hj
  rw [List.getElem?_append_right (by omega),hc1,Nat.sub_self] at hd
  rw [List.getElem?_append_right (by omega),hl1,Nat.sub_self] at hy
  simp only [List.getElem?_cons_zero,Option.some.injEq] at hd hy
  subst hd; subst hy; exact hx
 rw [List.getElem?_append_right (by omega),hc1,show j - i = (j - i - 1) + 1 by omega,List.getElem?_cons_succ,List.getElem?_drop] at hd
 rw [List.getElem?_append_right (by omega),hl1,show j - i = (j - i - 1) + 1 by omega,List.getElem?_cons_succ,List.getElem?_drop] at hy
 exact h.each _ d y hd hy
theorem qdQ {m:Nat} {css:List (List Value)} (h:∀ c ∈ css,c.length = m) {i:Nat} {c:List Value} (hc:css[i]? = some c):∀ (j:Nat) (v:Value),c[j]? = some v → css.flatten[i * m + j]? = some v:=by
 intro j v hj
 have hi:=(List.getElem?_eq_some_iff.1 hc).1
 have hcl:c.length = m:=h c (List.mem_of_getElem? hc)
 have:=qd5 h i j hi (by rw [← hcl]; exact (List.getElem?_eq_some_iff.1 hj).1)
 rw [← this,List.getD_eq_getElem?_getD,hc]
 exact hj
theorem qc7 {m:Nat}:∀ {L:List (List Value)},(∀ c ∈ L,c.length = m) → ∀ {j:Nat} {c:List Value},j < L.length → c.length = m → qbB L.flatten (j * m) c = (L.set j c).flatten
 | [],_,j,c,hj,_=>by simp at hj
 | d :: r,h,0,c,_,hc=>by
  have hd:d.length = m:=h d (List.mem_cons_self ..)
  unfold qbB
  rw [Nat.zero_mul,List.take_zero,List.nil_append,Nat.zero_add,List.set_cons_zero,List.flatten_cons,List.flatten_cons,List.drop_append,hc]
  have e1:d.drop m = []:=List.drop_eq_nil_of_le (by omega)
  rw [e1,hd,Nat.sub_self,List.drop_zero,List.nil_append]
 | d :: r,h,j + 1,c,hj,hc=>by
  have hd:d.length = m:=h d (List.mem_cons_self ..)
  have ih:=qc7 (L:=r) (fun c hc=>h c (List.mem_cons_of_mem _ hc)) (j:=j) (c:=c) (by simpa using hj) hc
  unfold qbB at ih ⊢
  rw [List.set_cons_succ,List.flatten_cons,List.flatten_cons,← ih,List.take_append,List.drop_append,hd]
  have e1:d.take ((j + 1) * m) = d:=List.take_of_length_le (by rw [hd,Nat.add_mul]; omega)
  have e2:d.drop ((j + 1) * m + c.length) = []:=List.drop_eq_nil_of_le (by rw [hd,Nat.add_mul]; omega)
  have e3:(j + 1) * m - m = j * m:=by rw [Nat.add_mul]; omega
  have e4:(j + 1) * m + c.length - m = j * m + c.length:=by rw [Nat.add_mul]; omega
  rw [e1,e2,e3,e4,List.nil_append,List.append_assoc]
def qbP (css:List (List Value)) (z:List Value) (j:Nat):List (List Value):=(css ++ [z]).take (j + 1) ++ css.drop j
theorem qgT (css:List (List Value)) (z:List Value):qbP css z css.length = css ++ [z]:=by
 unfold qbP
 rw [List.take_of_length_le (by simp),List.drop_length,List.append_nil]
theorem qgm (css:List (List Value)) (z:List Value) {j:Nat} (h:j ≤ css.length):(qbP css z j).length = css.length + 1:=by
 simp only [qbP,List.length_append,List.length_take,List.length_drop,List.length_cons,List.length_nil]; omega
theorem qex {css:List (List Value)} {z:List Value} {m:Nat} (h:∀ c ∈ css,c.length = m) (hz:z.length = m) (j:Nat):∀ c ∈ qbP css z j,c.length = m:=by
 intro c hc
 rcases List.mem_append.1 hc with hc | hc
 ·rcases List.mem_append.1 (List.mem_of_mem_take hc) with hc | hc
  ·exact h c hc
  rw [List.mem_singleton.1 hc]; exact hz
 exact h c (List.mem_of_mem_drop hc)
theorem qgn {css:List (List Value)} {z:List Value} {j i:Nat} {c:List Value} (hi:i < j) (hc:css[i]? = some c):(qbP css z j)[i]? = some c:=by
 have h:=(List.getElem?_eq_some_iff.1 hc).1
 unfold qbP
 rw [List.getElem?_append_left (by simp; omega),List.getElem?_take,if_pos (by omega),List.getElem?_append_left h]
 exact hc
theorem qhM {css:List (List Value)} {z:List Value} {j:Nat} {c:List Value} (hj:j < css.length) (hc:css[j]? = some c):(qbP css z (j + 1)).set (j + 1) c = qbP css z j:=by
 apply List.ext_getElem?
 intro i
 unfold qbP
 have hl1:((css ++ [z]).take (j + 1 + 1)).length = j + 2:=by simp; omega
 have hl2:((css ++ [z]).take (j + 1)).length = j + 1:=by simp; omega
 have hL:((css ++ [z]).take (j + 1 + 1) ++ css.drop (j + 1)).length = css.length + 1:=by simp; omega
 rw [List.getElem?_set]
 by_cases h1:j + 1 = i
 ·subst h1
  rw [if_pos rfl,if_pos (by omega),List.getElem?_append_right (by omega),hl2,Nat.sub_self,List.getElem?_drop,Nat.add_zero,hc]
 rw [if_neg h1]
 rcases Nat.lt_or_ge i (j + 1) with h2 | h2
 ·rw [List.getElem?_append_left (by omega),List.getElem?_append_left (by omega),List.getElem?_take,List.getElem?_take,if_pos (by omega),if_pos (by omega)]
 rw [List.getElem?_append_right (by omega),List.getElem?_append_right (by omega),hl1,hl2,List.getElem?_drop,List.getElem?_drop]
 congr 1
 omega
theorem qiA {css:List (List Value)} {z:List Value} {i:Nat} {c:List Value} (hi:i ≤ css.length):(qbP css z i).set i c = css.take i ++ c :: css.drop i:=by
 unfold qbP
 have e:(css ++ [z]).take (i + 1) = css.take i ++ [((css ++ [z]).getD i [])]:=by
  rw [List.take_add_one]
  have hlt:i < (css ++ [z]).length:=by simp; omega
  rw [List.getElem?_eq_getElem hlt,List.getD_eq_getElem?_getD,List.getElem?_eq_getElem hlt,List.take_append,show i - css.length = 0 by omega]
  simp
 have hl:(css.take i).length = i:=by rw [List.length_take]; omega
 rw [e,List.append_assoc,List.set_append_right _ _ (by omega),hl,Nat.sub_self]
 rfl
theorem qgo {css:List (List Value)} {z c:List Value} (h2:∀ c ∈ css,c.length = 2) (hz:z.length = 2) {j:Nat} (h0:0 < j) (hj:j ≤ css.length) (hc:css[j - 1]? = some c):qbB (qbP css z j).flatten (j * 2) c = (qbP css z (j - 1)).flatten:=by
 obtain ⟨q,rfl⟩:∃ q,j = q + 1:=⟨j - 1,by omega⟩
 rw [qc7 (qex h2 hz _) (by rw [qgm _ _ hj]; omega) (h2 c (List.mem_of_getElem? hc)),Nat.add_sub_cancel,qhM (by omega) (by simpa using hc)]
theorem qgp {css:List (List Value)} {z c:List Value} (h2:∀ c ∈ css,c.length = 2) (hz:z.length = 2) {i:Nat} (hi:i ≤ css.length) (hc:c.length = 2):qbB (qbP css z i).flatten (i * 2) c = (css.take i ++ c :: css.drop i).flatten:=by
 rw [qc7 (qex h2 hz _) (by rw [qgm _ _ hi]; omega) hc,qiA hi]
theorem qhh {css:List (List Value)} {z:List Value} {n:Nat} (hn:css.length = n):css.flatten ++ z = (qbP css z n).flatten:=by
 subst hn; rw [qgT]; simp
theorem qcO {out:List (Int × Bs)} {i:Nat} (x:Int × Bs) (hi:i ≤ out.length):out.length + 1 = (out.take i ++ x :: out.drop i).length:=by simp; omega
theorem TagsE.get2 {w:World} {F:Nat → Nat → Prop} {l:List (Int × Bs)} {css:List (List Value)} (h:TagsE w F l css) {i:Nat} {k:Int} {s:Bs} (hx:l[i]? = some (k,s)):∃ A c,css[i]? = some [.int .u32 k,.slice A s.length c] ∧ Octs w F A c s ∧ 0 ≤ k ∧ k < 4294967296:=by
 obtain ⟨cs,hc,⟨A,c,hcs,hO⟩,h0,h1⟩:=h.get hx
 exact ⟨A,c,by rw [hc,hcs],hO,h0,h1⟩
theorem qfc {out:List (Int × Bs)} {k:Int}:∀ {i:Nat},i ≤ out.length → (∀ j,j < i → (out.getD j (0,[])).1 < k) → (i < out.length → ¬ (out.getD i (0,[])).1 < k) → qds out k = i:=by
 induction out with
 | nil=>intro i hi _ _; simp at hi; subst hi; rfl
 | cons a r ih =>
  intro i hi h1 h2
  cases i with
  | zero =>
   have:=h2 (by simp)
   simp at this
   unfold qds
   rw [List.takeWhile_cons,if_neg (by simpa using this)]; rfl
  | succ i =>
   have ha:=h1 0 (by omega)
   simp at ha
   have:=ih (i:=i) (by simpa using hi) (fun j hj=>by simpa using h1 (j + 1) (by omega)) (fun hj=>by simpa using h2 (by simpa using hj))
   unfold qds at this ⊢
   rw [List.takeWhile_cons,if_pos (by simpa using ha),List.length_cons,this]
theorem qiB {out:List (Int × Bs)} {i:Nat} {x:Int × Bs} (h:out[i]? = some x):out.getD i (0,[]) = x:=by rw [List.getD_eq_getElem?_getD,h]; rfl
theorem qdR {out:List (Int × Bs)} {i:Nat} {k:Int} {s:Bs} (h:out[i]? = some (k,s)):(out.getD i (0,[])).1 = k:=by rw [qiB h]
theorem qiC {least:Int} {out:List (Int × Bs)} {k:Int} {s:Bs} (h:k < least):qbV least out (k,s) = out:=by
 unfold qbV
 rw [if_pos (.inl h)]
theorem qjB {least:Int} {out:List (Int × Bs)} {k:Int} {s:Bs} {i:Nat} (hp:qds out k = i) (hi:i < out.length) (he:(out.getD i (0,[])).1 = k):qbV least out (k,s) = out:=by
 unfold qbV
 dsimp only
 rw [hp,if_pos (.inr ⟨hi,he⟩)]
theorem qiD {least:Int} {out:List (Int × Bs)} {k:Int} {s:Bs} {i:Nat} (hp:qds out k = i) (hl:¬ k < least) (hn:i < out.length → (out.getD i (0,[])).1 ≠ k):qbV least out (k,s) = out.take i ++ (k,s) :: out.drop i:=by
 unfold qbV
 dsimp only
 rw [hp,if_neg (fun h=>h.elim hl fun h3=>hn h3.1 h3.2)]
theorem qb9 {α β:Type} {f:β → α → β} {b:β} {l:List α} {k:Nat} {x:α} (h:l[k]? = some x):(l.take (k + 1)).foldl f b = f ((l.take k).foldl f b) x:=by
 rw [List.take_add_one,h,List.foldl_append]; rfl
theorem qhN (least:Int) (out:List (Int × Bs)) (t:Int × Bs):(qbV least out t).length ≤ out.length + 1:=by
 unfold qbV
 dsimp only
 split
 ·omega
 simp; omega
theorem qfd {w:World} {F:Nat → Nat → Prop} {A:Option Addr} {c:Nat} {l:List (Int × Bs)} {xs:Nat → List Value} (h:Slots w F 2 A c l.length xs) (m:Nat):Slots w F 2 A c (l.take m).length xs:=h.take (by rw [List.length_take]; omega)
theorem qfm {w:World} {F:Nat → Nat → Prop} {l:List (Int × Bs)} {xs:Nat → List Value} (h:∀ i k s,l[i]? = some (k,s) → (∃ A' c',xs i = [.int .u32 k,.slice A' s.length c'] ∧ Octs w F A' c' s) ∧ 0 ≤ k ∧ k < 4294967296) (m:Nat):∀ (i:Nat) (k:Int) (s:Bs),(l.take m)[i]? = some (k,s) → (∃ A' c',xs i = [.int .u32 k,.slice A' s.length c'] ∧ Octs w F A' c' s) ∧ 0 ≤ k ∧ k < 4294967296:=fun i k s hx=>by
 rw [List.getElem?_take] at hx
 split at hx
 ·exact h i k s hx
 cases hx
theorem qgU {w0 w:World} {F:Nat → Nat → Prop} {tb:Tb} {rs:List Rw} {r A c e n} {out:List (Int × Bs)} {css:List (List Value)} (hW:WOk w0 Nil w tb rs) {k:Nat} (hk:rs[k]? = some r) (hr:r = ⟨A,c,e,2,n,css.flatten⟩) (hn:n = out.length)
  (hT:TagsE w (Imm F w0 w tb rs) out css) (hsm:out.length ≤ 1099511627776) {u:List (Int × Bs)} (hu:out = u):qjT w0 F u (.returned (.slice A n c)) w:=by
 subst hr; subst hu; subst hn
 refine ⟨A,c,rfl,?_,hW.step⟩
 refine (hT.move (Step.refl w Nil) nilM qcf).tags.slots (hW.own k _ hk) rfl hsm fun g hg o=>?_
 rcases hW.ownM k _ hk g hg with h | h
 ·exact .inr h
 exact (h 0).elim
theorem qcP:∀ {l:List Fld} {i:Nat} {f:Fld},l[i]? = some f → f.depth ≤ depths l
 | [],i,f,h=>by simp at h
 | a :: r,0,f,h=>by
  simp only [List.getElem?_cons_zero,Option.some.injEq] at h
  subst h
  exact Nat.le_max_left _ _
 | a :: r,i + 1,f,h=>by
  have:=qcP (l:=r) (i:=i) (f:=f) (by simpa using h)
  exact Nat.le_trans this (Nat.le_max_right _ _)
theorem qdS (k x1 x2 x3 x4 x5 x6:Int) (l:List Fld):(Fld.mk k x1 x2 x3 x4 x5 x6 l).depth = depths l + 1:=by rw [Fld.depth]
section
variable {k x1 x2 x3 x4 x5 x6 n:Int} {l:List Fld} {s:Bs} {b:Bool} {ll:List Tree} {u:List (Int × Bs)}
theorem qcW (h:k = 0):Fld.usual (.mk k x1 x2 x3 x4 x5 x6 l) (.mk n s b ll u) = (n % 2 == x5):=by
 subst h; rw [Fld.usual,if_pos rfl]; simp [Tree.N]; rfl
theorem qbG (h0:k ≠ 0) (h:k = 7):Fld.usual (.mk k x1 x2 x3 x4 x5 x6 l) (.mk n s b ll u) = (s.take 16).all (· == 0):=by
 rw [Fld.usual,if_neg h0,if_pos h]; rfl
theorem qca (h0:k ≠ 0) (h7:k ≠ 7) (h:k = 8 ∨ k = 9) (hn:x3 ≥ 0):Fld.usual (.mk k x1 x2 x3 x4 x5 x6 l) (.mk n s b ll u) = b:=by
 rw [Fld.usual,if_neg h0,if_neg h7,if_pos h,if_pos hn]; rfl
theorem qcs (h0:k ≠ 0) (h7:k ≠ 7) (h:k = 8 ∨ k = 9) (hn:¬ x3 ≥ 0):Fld.usual (.mk k x1 x2 x3 x4 x5 x6 l) (.mk n s b ll u) = (((s.length:Nat):Int) == 0):=by
 rw [Fld.usual,if_neg h0,if_neg h7,if_pos h,if_neg hn,Bool.eq_iff_iff,decide_eq_true_iff,beq_iff_eq]
 show s.length = 0 ↔ _
 omega
theorem qct (h0:k ≠ 0) (h7:k ≠ 7) (h8:k ≠ 8) (h9:k ≠ 9) (h:k = 11):Fld.usual (.mk k x1 x2 x3 x4 x5 x6 l) (.mk n s b ll u) = (((ll.length:Nat):Int) == 0):=by
 rw [Fld.usual,if_neg h0,if_neg h7,if_neg (by rintro (h | h); exact h8 h; exact h9 h),if_pos h,Bool.eq_iff_iff,decide_eq_true_iff,beq_iff_eq]
 show ll.length = 0 ↔ _
 omega
theorem qcl (h0:k ≠ 0) (h7:k ≠ 7) (h8:k ≠ 8) (h9:k ≠ 9) (h11:k ≠ 11) (h:k = 10):Fld.usual (.mk k x1 x2 x3 x4 x5 x6 l) (.mk n s b ll u) = (usuals l (.mk n s b ll u) 0 && (((qag l u).length:Nat):Int) == 0):=by
 rw [Fld.usual,if_neg h0,if_neg h7,if_neg (by rintro (h | h); exact h8 h; exact h9 h),if_neg h11,if_pos h]
 congr 1
 rw [Bool.eq_iff_iff,decide_eq_true_iff,beq_iff_eq]
 show (qag l u).length = 0 ↔ _
 omega
theorem qbN (h0:k ≠ 0) (h7:k ≠ 7) (h8:k ≠ 8) (h9:k ≠ 9) (h11:k ≠ 11) (h10:k ≠ 10):Fld.usual (.mk k x1 x2 x3 x4 x5 x6 l) (.mk n s b ll u) = decide (be (qbv k) n = be (qbv k) x5):=by
 rw [Fld.usual,if_neg h0,if_neg h7,if_neg (by rintro (h | h); exact h8 h; exact h9 h),if_neg h11,if_neg h10]; rfl
end
theorem qbE {s:Bs} {k:Nat} (h:∀ q,q < k → q < 16 → (((s.getD q 0).toNat:Nat):Int) = 0) (hk:s.length ≤ k):true = (s.take 16).all (· == 0):=by
 symm
 rw [List.all_eq_true]
 intro x hx
 obtain ⟨i,hi,rfl⟩:=List.getElem_of_mem hx
 rw [List.length_take] at hi
 have:=h i (by omega) (by omega)
 rw [List.getD_eq_getElem?_getD,List.getElem?_eq_getElem (show i < s.length by omega)] at this
 rw [List.getElem_take]
 simp only [Option.getD_some] at this
 have h0:s[i].toNat = 0:=by omega
 have:s[i] = 0:=UInt8.toNat.inj h0
 simp [this]
theorem qbw {s:Bs} {k:Nat} (hk:k < s.length) (h:k < 16) (hn:(((s.getD k 0).toNat:Nat):Int) ≠ 0):false = (s.take 16).all (· == 0):=by
 symm
 rw [← Bool.not_eq_true,List.all_eq_true]
 intro hall
 have:=hall s[k] (by
  rw [List.mem_iff_getElem?]
  exact ⟨k,by rw [List.getElem?_take,if_pos h,List.getElem?_eq_getElem hk]⟩)
 rw [List.getD_eq_getElem?_getD,List.getElem?_eq_getElem hk] at hn
 simp only [beq_iff_eq] at this
 rw [this] at hn
 exact hn rfl
theorem qcu {α:Type} {l:List α} {k:Nat} {x:α} (h:l[k]? = some x):l.drop k = x :: l.drop (k + 1):=by
 obtain ⟨hk,rfl⟩:=List.getElem?_eq_some_iff.1 h
 exact List.drop_eq_getElem_cons hk
theorem qgV {l:List Fld} {k:Nat} {f:Fld} {T:Tree} (h:l[k]? = some f) (hu:f.usual (T.at_ k) = true):usuals (l.drop k) T k = usuals (l.drop (k + 1)) T (k + 1):=by
 rw [qcu h]
 show (f.usual (T.at_ k) && usuals (l.drop (k + 1)) T (k + 1)) = _
 rw [hu,Bool.true_and]
theorem qgW {l:List Fld} {k:Nat} {f:Fld} {T:Tree} (h:l[k]? = some f) (hu:f.usual (T.at_ k) = false):usuals (l.drop k) T k = false:=by
 rw [qcu h]
 show (f.usual (T.at_ k) && usuals (l.drop (k + 1)) T (k + 1)) = _
 rw [hu,Bool.false_and]
theorem qbO {l:List Fld} {k:Nat} {T:Tree} (h:l.length ≤ k):usuals (l.drop k) T k = true:=by
 rw [List.drop_eq_nil_of_le h]; rfl
section
variable {W:Fld → Tree → Bs} {l:List Fld} {k:Nat} {a x1 x2 x3 x4 x5 x6 v:Int} {s:List Fld} {t:Tree} {m:Nat}
theorem qey (h:l[k]? = some (.mk a x1 x2 x3 x4 x5 x6 s)) (h1:x4 < 0) (h2:Fld.has (.mk a x1 x2 x3 x4 x5 x6 s) v = true):qaJ W (l.drop k) v t k = W (.mk a x1 x2 x3 x4 x5 x6 s) (t.at_ k) ++ qaJ W (l.drop (k + 1)) v t (k + 1):=by
 rw [qcu h,qaJ,if_pos ⟨h1,h2⟩]
theorem qhO (h:l[k]? = some (.mk a x1 x2 x3 x4 x5 x6 s)) (h1:¬ x4 < 0):qaJ W (l.drop k) v t k = qaJ W (l.drop (k + 1)) v t (k + 1):=by
 rw [qcu h,qaJ,if_neg (fun h=>h1 h.1),List.nil_append]
theorem qhP (h:l[k]? = some (.mk a x1 x2 x3 x4 x5 x6 s)) (h2:Fld.has (.mk a x1 x2 x3 x4 x5 x6 s) v = false):qaJ W (l.drop k) v t k = qaJ W (l.drop (k + 1)) v t (k + 1):=by
 rw [qcu h,qaJ,if_neg (fun h=>by rw [h2] at h; cases h.2),List.nil_append]
theorem qgq (h:l.length ≤ k):qaJ W (l.drop k) v t k = []:=by rw [List.drop_eq_nil_of_le h]; rfl
theorem qdT (h:l[k]? = some (.mk a x1 x2 x3 x4 x5 x6 s)) (h1:x4 = (m:Int)) (h2:Fld.usual (.mk a x1 x2 x3 x4 x5 x6 s) (t.at_ k) = false):tagB W (l.drop k) m t k = uv m ++ uv (W (.mk a x1 x2 x3 x4 x5 x6 s) (t.at_ k)).length ++ W (.mk a x1 x2 x3 x4 x5 x6 s) (t.at_ k) ++ tagB W (l.drop (k + 1)) m t (k + 1):=by
 rw [qcu h,tagB,if_pos ⟨h1,h2⟩]
theorem qiE (h:l[k]? = some (.mk a x1 x2 x3 x4 x5 x6 s)) (h1:x4 ≠ (m:Int)):tagB W (l.drop k) m t k = tagB W (l.drop (k + 1)) m t (k + 1):=by
 rw [qcu h,tagB,if_neg (fun h=>h1 h.1),List.nil_append]
theorem qiF (h:l[k]? = some (.mk a x1 x2 x3 x4 x5 x6 s)) (h2:Fld.usual (.mk a x1 x2 x3 x4 x5 x6 s) (t.at_ k) = true):tagB W (l.drop k) m t k = tagB W (l.drop (k + 1)) m t (k + 1):=by
 rw [qcu h,tagB,if_neg (fun h=>by rw [h2] at h; cases h.2),List.nil_append]
theorem qjC (h:l.length ≤ k):tagB W (l.drop k) m t k = []:=by rw [List.drop_eq_nil_of_le h]; rfl
theorem qjD (h:l[k]? = some (.mk a x1 x2 x3 x4 x5 x6 s)) (h1:x4 = (m:Int)) (h2:Fld.usual (.mk a x1 x2 x3 x4 x5 x6 s) (t.at_ k) = false):tagN W (l.drop k) m t k = 1 + tagN W (l.drop (k + 1)) m t (k + 1):=by
 rw [qcu h,tagN,if_pos ⟨h1,h2⟩]
theorem qiG (h:l[k]? = some (.mk a x1 x2 x3 x4 x5 x6 s)) (h1:x4 ≠ (m:Int)):tagN W (l.drop k) m t k = tagN W (l.drop (k + 1)) m t (k + 1):=by
 rw [qcu h,tagN,if_neg (fun h=>h1 h.1),Nat.zero_add]
theorem qiH (h:l[k]? = some (.mk a x1 x2 x3 x4 x5 x6 s)) (h2:Fld.usual (.mk a x1 x2 x3 x4 x5 x6 s) (t.at_ k) = true):tagN W (l.drop k) m t k = tagN W (l.drop (k + 1)) m t (k + 1):=by
 rw [qcu h,tagN,if_neg (fun h=>by rw [h2] at h; cases h.2),Nat.zero_add]
theorem qjE (h:l.length ≤ k):tagN W (l.drop k) m t k = 0:=by rw [List.drop_eq_nil_of_le h]; rfl
theorem qkU (n:Nat):0 < (uv n).length:=by
 rw [uv]; split <;> simp
theorem qgX (W:Fld → Tree → Bs) (m:Nat) (t:Tree):∀ (l:List Fld) (i:Nat),tagN W l m t i ≤ (tagB W l m t i).length
 | [],i=>Nat.zero_le _
 | f :: r,i=>by
  have:=qgX W m t r (i + 1)
  rw [tagN,tagB,List.length_append]
  split
  ·have h1:=qkU m
   simp only [List.length_append]; omega
  simp; omega
theorem qhi (W:Fld → Tree → Bs) (l:List Fld) (t:Tree):∀ k,qaS W l t k ≤ (qaA W l t k).length
 | 0=>Nat.zero_le _
 | k + 1=>by
  have h1:=qhi W l t k
  have h2:=qgX W k t l 0
  rw [qaS,qaA,List.length_append]; omega
theorem qhQ (W:Fld → Tree → Bs) (l:List Fld) (t:Tree) {i j:Nat} (h:i ≤ j):(qaA W l t i).length ≤ (qaA W l t j).length:=by
 induction j with
 | zero=>rw [Nat.le_zero.1 h]; omega
 | succ j ih =>
  rcases Nat.eq_or_lt_of_le h with he | he
  ·rw [he]; omega
  have:=ih (by omega)
  rw [qaA,List.length_append]; omega
end
theorem qfx (W:Fld → Tree → Bs) (l:List Fld) (v:Int) (n:Int) (s:Bs) (b:Bool) (ll:List Tree) (u:List (Int × Bs)):qem W l v true (.mk n s b ll u) =
  qaJ W l v (.mk n s b ll u) 0 ++ uv (qaS W l (.mk n s b ll u) (qaq l).toNat + (qag l u).length) ++ (qaA W l (.mk n s b ll u) (qaq l).toNat ++ qa7 (qag l u)):=by
 rw [qem,if_pos rfl,List.append_assoc]; rfl
theorem qiI (W:Fld → Tree → Bs) (l:List Fld) (v:Int) (t:Tree):qem W l v false t = qaJ W l v t 0:=by
 rw [qem]; simp
theorem qiJ (l:List Fld):IntKind.i64.wrap (qaq l) = (((qaq l).toNat:Nat):Int):=by
 have:=qd9 l
 rw [wrap_i64 (by omega) (by omega)]; omega
theorem qdU {l:List (Int × Bs)} {k:Nat} {i:Int} {s:Bs} (h:l[k]? = some (i,s)):qa7 (l.take (k + 1)) = qa7 (l.take k) ++ (uv i.toNat ++ uv (qay s).length ++ qay s):=by
 unfold qa7; exact qcA h
theorem qfY {l:List (Int × Bs)} (k:Nat):(qa7 (l.take k)).length ≤ (qa7 l).length:=by
 unfold qa7; exact qcq l _ k
theorem qhj:∀ {l:List Tree} {i:Nat} {x:Tree},l[i]? = some x → x.depth ≤ deep l
 | [],i,x,h=>by simp at h
 | a :: r,0,x,h=>by
  simp only [List.getElem?_cons_zero,Option.some.injEq] at h
  subst h
  exact Nat.le_max_left _ _
 | a :: r,i + 1,x,h=>Nat.le_trans (qhj (l:=r) (i:=i) (by simpa using h)) (Nat.le_max_right _ _)
theorem qgr (n:Int) (s:Bs) (b:Bool) (l:List Tree) (u:List (Int × Bs)):(Tree.mk n s b l u).depth = deep l + 1:=by rw [Tree.depth]
theorem qbR {α:Type} {l:List α} {k:Nat} {x:α} (h:l[k]? = some x):l.take (k + 1) = l.take k ++ [x]:=by rw [List.take_add_one,h]; rfl
section
variable {F:Nat → Nat → Prop} {w0 w:World} {tb:Tb} {rs:List Rw}
theorem qiK (hW:WOk w0 Nil w tb rs) {k:Nat} {r:Rw} (hk:rs[k]? = some r):∀ g,r.A.map (·.block) = some g → ∀ o,Fp F w0 g o:=by
 intro g hg o
 rcases hW.ownM k r hk g hg with h | h
 ·exact .inr h
 exact (h 0).elim
theorem qez (hW:WOk w0 Nil w tb rs) {k:Nat} {A:Option Addr} {c e n:Nat} {xs:List Value} {l:List Tree} {css:List (List Value)} (hk:rs[k]? = some ⟨A,c,e,5,n,xs⟩) (hT:Trees w (Imm F w0 w tb rs) xs l css) (hn:n = l.length) (hsm:l.length ≤ 1099511627776) :
  Slots w (Fp F w0) 5 A c l.length (fun i=>css.getD i []) ∧ ∀ (i:Nat) (x:Tree),l[i]? = some x → TreeR w (Fp F w0) (css.getD i []) x :=
 (hT.move (Step.refl w Nil) nilM qcf).slots (hW.own k _ hk) hn hsm (qiK hW hk)
theorem qiL (hW:WOk w0 Nil w tb rs) {k:Nat} {A:Option Addr} {c e n:Nat} {xs:List Value} {l:List (Int × Bs)} {css:List (List Value)} (hk:rs[k]? = some ⟨A,c,e,2,n,xs⟩) (hT:Tags w (Imm F w0 w tb rs) xs l css) (hn:n = l.length) (hsm:l.length ≤ 1099511627776):TagsR w (Fp F w0) A c l :=
 (hT.move (Step.refl w Nil) nilM qcf).slots (hW.own k _ hk) hn hsm (qiK hW hk)
theorem qcK (hW:WOk w0 Nil w tb rs) {A1 A2 A3:Option Addr} {c1 c2 c3 n2 n3:Nat} {n:Int} {s:Bs} {b:Bool} {l:List Tree} {u:List (Int × Bs)} {xs:Nat → List Value} {m:Nat} (hm:m = s.length) (hS:Octs w (Fp F w0) A1 c1 s) (hn2:n2 = l.length) (hL:Slots w (Fp F w0) 5 A2 c2 l.length xs ∧ ∀ (i:Nat) (x:Tree),l[i]? = some x → TreeR w (Fp F w0) (xs i) x)
  (hn3:n3 = u.length) (hU:TagsR w (Fp F w0) A3 c3 u) {t:Tree} (ht:t = .mk n s b l u):qen w0 F t (.returned (.agg #[.int .i64 n,.slice A1 m c1,.bool b,.slice A2 n2 c2,.slice A3 n3 c3])) w:=by
 subst hm; subst hn2; subst hn3; subst ht
 exact ⟨_,rfl,TreeR.mk xs hS hL.1 hL.2 hU,hW.step⟩
theorem qkh {G:Nat → Nat → Prop}:∀ b o,G b o → b < w0.heap.size → Fp G w0 b o:=fun _ _ h _=>.inl h
theorem qgY (w:World) (F:Nat → Nat → Prop):Slots w F 5 none 0 ([]:List Tree).length (fun _=>[]) ∧ ∀ (i:Nat) (x:Tree),([]:List Tree)[i]? = some x → TreeR w F [] x :=
 ⟨Slots.nil w F 5 _,fun i x h=>by simp at h⟩
end
theorem qfZ (W:Fld → Tree → Tree) (t:Tree):∀ (l:List Fld) (i:Nat),(qeS W l t i).length = l.length
 | [],i=>rfl
 | f :: r,i=>by rw [qeS,List.length_cons,List.length_cons,qfZ W t r (i + 1)]
theorem qgs (W:Fld → Tree → Tree) (t:Tree):∀ {l:List Fld} {i k:Nat} {f:Fld},l[k]? = some f → (qeS W l t i)[k]? = some (W f (t.at_ (i + k)))
 | [],i,k,f,h=>by simp at h
 | a :: r,i,0,f,h=>by
  simp only [List.getElem?_cons_zero,Option.some.injEq] at h
  subst h; rfl
 | a :: r,i,k + 1,f,h=>by
  rw [qeS,List.getElem?_cons_succ,qgs W t (l:=r) (i:=i + 1) (by simpa using h),show i + 1 + k = i + (k + 1) by omega]
theorem qhk {W:Fld → Tree → Tree} {t:Tree} {l:List Fld} {k:Nat} {f:Fld} (h:l[k]? = some f):(qeS W l t 0)[k]? = some (W f (t.at_ k)):=by
 have:=qgs W t (i:=0) h
 rwa [Nat.zero_add] at this
def qdt (u:List (Int × Bs)):List (Int × Bs):=u.map fun x=>(x.1,qay x.2)
theorem qhR {u:List (Int × Bs)} {k:Nat} {i:Int} {s:Bs} (h:u[k]? = some (i,s)):(qdt u)[k]? = some (i,qay s):=by
 rw [qdt,List.getElem?_map,h]; rfl
theorem qcQ (u:List (Int × Bs)):(qdt u).length = u.length:=by rw [qdt,List.length_map]
section
variable {p:List Fld → Tree → Tree} {k x1 x2 x3 x4 x5 x6 v n:Int} {l:List Fld} {s:Bs} {b null:Bool} {ll:List Tree} {u:List (Int × Bs)}
theorem qhl (h:k = 8 ∨ k = 9):qbf p (.mk k x1 x2 x3 x4 x5 x6 l) null (.mk n s b ll u) = .mk 0 (qay s) null [] []:=by
 unfold qbf
 rw [if_pos (show (Fld.mk k x1 x2 x3 x4 x5 x6 l).kind = 8 ∨ (Fld.mk k x1 x2 x3 x4 x5 x6 l).kind = 9 from h)]; rfl
theorem qiM (h8:k ≠ 8) (h9:k ≠ 9) (h:k = 10) {t:Tree} {n':Int} {s':Bs} {b':Bool} {l':List Tree} {u':List (Int × Bs)} (he:p l t = .mk n' s' b' l' u'):qbf p (.mk k x1 x2 x3 x4 x5 x6 l) null t = .mk n' s' null l' u':=by
 unfold qbf
 rw [if_neg (show ¬ ((Fld.mk k x1 x2 x3 x4 x5 x6 l).kind = 8 ∨ (Fld.mk k x1 x2 x3 x4 x5 x6 l).kind = 9) from fun h=>h.elim h8 h9),if_pos (show (Fld.mk k x1 x2 x3 x4 x5 x6 l).kind = 10 from h)]
 show (match p l t with | .mk n s _ l u=>Tree.mk n s null l u) = _
 rw [he]
theorem qgZ (h8:k ≠ 8) (h9:k ≠ 9) (h:k ≠ 10):qbf p (.mk k x1 x2 x3 x4 x5 x6 l) null (.mk n s b ll u) = .mk n s false [] []:=by
 unfold qbf
 rw [if_neg (show ¬ ((Fld.mk k x1 x2 x3 x4 x5 x6 l).kind = 8 ∨ (Fld.mk k x1 x2 x3 x4 x5 x6 l).kind = 9) from fun h=>h.elim h8 h9),if_neg (show ¬ (Fld.mk k x1 x2 x3 x4 x5 x6 l).kind = 10 from h)]; rfl
theorem qhS {t:Tree} (h:k ≠ 11):qbJ p v (.mk k x1 x2 x3 x4 x5 x6 l) t = qbf p (.mk k x1 x2 x3 x4 x5 x6 l) (Fld.nul (.mk k x1 x2 x3 x4 x5 x6 l) v t) t:=by
 unfold qbJ
 rw [if_neg (show ¬ (Fld.mk k x1 x2 x3 x4 x5 x6 l).kind = 11 from h)]
def fitL (p:List Fld → Tree → Tree) (v:Int) (f:Fld) (ll:List Tree):List Tree:=(qam ll).map fun x=>qbf p f (f.nul v x) x
theorem qdV (f:Fld):(fitL p v f ll).length = (qam ll).length:=by rw [fitL,List.length_map]
theorem qf0 {f:Fld} {i:Nat} {x:Tree} (h:(qam ll)[i]? = some x):(fitL p v f ll)[i]? = some (qbf p f (f.nul v x) x):=by
 rw [fitL,List.getElem?_map,h]; rfl
theorem qeI (h:k = 11) {c:Bool} (hc:(Fld.nul (.mk k x1 x2 x3 x4 x5 x6 l) v (.mk n s b ll u) || (decide (x4 ≥ 0) && ((((ll.length:Nat):Int)) == 0))) = c):qbJ p v (.mk k x1 x2 x3 x4 x5 x6 l) (.mk n s b ll u) = .mk 0 [] c (fitL p v (.mk x6 x1 x2 (-1) (-1) x5 x6 l) ll) []:=by
 unfold qbJ
 rw [if_pos (show (Fld.mk k x1 x2 x3 x4 x5 x6 l).kind = 11 from h),← hc]
 have e:decide ((Tree.mk n s b ll u).L.length = 0) = (((((ll.length:Nat):Int)) == 0)):=by
  rw [Bool.eq_iff_iff,decide_eq_true_iff,beq_iff_eq]
  show ll.length = 0 ↔ _
  omega
 rw [e]; rfl
end
theorem qfy:∀ {l:List Fld} {f:Fld},plains l → f ∈ l → f.plain
 | [],f,_,h=>by cases h
 | a :: r,f,hp,h=>by
  rcases List.mem_cons.1 h with rfl | h
  ·exact hp.1
  exact qfy (l:=r) hp.2 h
def qiN (w:World):Ending → World → Prop:=fun en w'=>∃ b,en = .returned (.bool b) ∧ Step w w' Nil
structure Flds (w:World) (F:Nat → Nat → Prop) (xs:List Value) (l:List Fld) (css:List (List Value)):Prop where
 flat:Flat 8 xs css
 len:css.length = l.length
 each:∀ (i:Nat) (c:List Value) (x:Fld),css[i]? = some c → l[i]? = some x → FldR w F c x
theorem Flds.nil (w:World) (F:Nat → Nat → Prop):Flds w F [] [] []:=⟨Flat.nil 8,rfl,fun i c x h=>by simp at h⟩
theorem FldR.eight {w:World} {F:Nat → Nat → Prop} {cs:List Value} {t:Fld} (h:FldR w F cs t):cs.length = 8:=by
 obtain ⟨k,x1,x2,x3,x4,x5,x6,l,A,c,xs,rfl,rfl,_⟩:=h.open_; rfl
theorem FldR.one {w:World} {F:Nat → Nat → Prop} {cs:List Value} {t:Fld} (h:FldR w F cs t):∀ u ∈ cs,u.oneCell' = true:=by
 obtain ⟨k,x1,x2,x3,x4,x5,x6,l,A,c,xs,rfl,rfl,_⟩:=h.open_
 intro v hv
 simp only [List.mem_cons,List.not_mem_nil,or_false] at hv
 rcases hv with rfl | rfl | rfl | rfl | rfl | rfl | rfl | rfl <;> rfl
theorem Flds.snoc {w:World} {F:Nat → Nat → Prop} {xs:List Value} {l:List Fld} {css:List (List Value)} (h:Flds w F xs l css) {c:List Value} {x:Fld} (hx:FldR w F c x):Flds w F (xs ++ c) (l ++ [x]) (css ++ [c]):=by
 refine ⟨h.flat.snoc hx.eight,by simp [h.len],fun i d y hd hy=>?_⟩
 rcases qbU hd with ⟨h1,h2⟩ | ⟨h1,rfl⟩
 ·rcases qbU hy with ⟨_,h3⟩ | ⟨h3,_⟩
  ·exact h.each i d y h2 h3
  have:=h.len; omega
 rcases qbU hy with ⟨h3,_⟩ | ⟨_,rfl⟩
 ·have:=h.len; omega
 exact hx
theorem Flds.slots {w0 w:World} {tb:Tb} {rs:List Rw} {F:Nat → Nat → Prop} (hW:WOk w0 Nil w tb rs) {k e n:Nat} {A:Option Addr} {c:Nat} {xs:List Value} {l:List Fld} {css:List (List Value)} (hk:rs[k]? = some ⟨A,c,e,8,n,xs⟩) (h:Flds w (Fp F w0) xs l css) (hn:n = l.length) (hsm:l.length ≤ 1099511627776) :
  Slots w (Fp F w0) 8 A c l.length (fun i=>css.getD i []) ∧ ∀ (i:Nat) (x:Fld),l[i]? = some x → FldR w (Fp F w0) (css.getD i []) x:=by
 subst hn
 have ho:=hW.own k _ hk
 have h1:∀ u ∈ xs,u.oneCell' = true:=by
  intro v hv
  rw [h.flat.eq] at hv
  obtain ⟨c,hc,hv⟩:=List.mem_flatten.1 hv
  obtain ⟨i,hi,rfl⟩:=List.getElem_of_mem hc
  have hl:=h.len
  exact (h.each i _ _ (List.getElem?_eq_getElem hi) (List.getElem?_eq_getElem (show i < l.length by omega))).one v hv
 refine ⟨?_,fun i x hx=>?_⟩
 ·have hx:=h.flat
  simp only [Rw.v] at ho
  rw [← h.len] at ho ⊢
  exact hx.slots ho h1 (by rw [h.len]; exact hsm) (qiK hW hk)
 have hi:i < css.length:=by rw [h.len]; exact (List.getElem?_eq_some_iff.1 hx).1
 have:css.getD i [] = css[i]:=by rw [List.getD_eq_getElem?_getD,List.getElem?_eq_getElem hi]; rfl
 rw [this]
 exact h.each i _ x (List.getElem?_eq_getElem hi) hx
theorem qbz (w:World) (F:Nat → Nat → Prop):Slots w F 8 none 0 ([]:List Fld).length (fun _=>[]) ∧ ∀ (i:Nat) (x:Fld),([]:List Fld)[i]? = some x → FldR w F [] x :=
 ⟨Slots.nil w F 8 _,fun i x h=>by simp at h⟩
def qkE (w:World) (F:Nat → Nat → Prop) (l:List Fld) (x:Int):Ending → World → Prop:=fun en w'=>∃ A c,en = .returned (.agg #[.slice A l.length c,.int .i64 x]) ∧ FldsR w' (Fp F w) A c l ∧ Step w w' Nil
theorem qfe (y:Int × Bs) (r:List (Int × Bs)) (k:Int):qds (y :: r) k = if y.1 < k then qds r k + 1 else 0:=by
 unfold qds
 rw [List.takeWhile_cons]
 by_cases h:y.1 < k
 ·simp [h]
 simp [h]
theorem qd0 {least:Int} {y t:Int × Bs} {r:List (Int × Bs)} (h:y.1 < t.1):qbV least (y :: r) t = y :: qbV least r t:=by
 unfold qbV
 rw [qfe,if_pos h]
 simp only [List.length_cons,Nat.add_lt_add_iff_right,List.getD_cons_succ,List.take_succ_cons,List.drop_succ_cons,List.cons_append]
 split <;> rfl
theorem qd1 {least:Int} {y t:Int × Bs} {r:List (Int × Bs)} (h:¬ y.1 < t.1):qbV least (y :: r) t = if t.1 < least ∨ y.1 = t.1 then y :: r else t :: y :: r:=by
 unfold qbV
 rw [qfe,if_neg h]
 simp only [List.length_cons,Nat.zero_lt_succ,List.getD_cons_zero,List.take_zero,List.drop_zero,List.nil_append,true_and]
theorem qfz {least:Int} {t:Int × Bs}:qbV least [] t = if t.1 < least then [] else [t]:=by
 unfold qbV
 simp [qds]
theorem qfA {least:Int} {t:Int × Bs}:∀ {out:List (Int × Bs)},∀ x ∈ qbV least out t,x = t ∨ x ∈ out
 | [],x,hx=>by
  rw [qfz] at hx
  split at hx
  ·cases hx
  exact .inl (List.mem_singleton.1 hx)
 | y :: r,x,hx=>by
  by_cases h:y.1 < t.1
  ·rw [qd0 h] at hx
   rcases List.mem_cons.1 hx with rfl | hx
   ·exact .inr (List.mem_cons_self ..)
   rcases qfA x hx with h1 | h1
   ·exact .inl h1
   exact .inr (List.mem_cons_of_mem _ h1)
  rw [qd1 h] at hx
  split at hx
  ·exact .inr hx
  rcases List.mem_cons.1 hx with rfl | hx
  ·exact .inl rfl
  exact .inr hx
theorem qeA {least:Int} {t:Int × Bs}:∀ {out:List (Int × Bs)},qcV out → qcV (qbV least out t)
 | [],_=>by
  rw [qfz]
  split
  ·exact List.Pairwise.nil
  exact List.pairwise_singleton _ _
 | y :: r,h=>by
  have h1:=@List.rel_of_pairwise_cons _ _ _ _ h
  have h2:=List.Pairwise.of_cons h
  by_cases hlt:y.1 < t.1
  ·rw [qd0 hlt]
   refine List.pairwise_cons.2 ⟨fun z hz=>?_,qeA h2⟩
   rcases qfA z hz with rfl | hz
   ·exact hlt
   exact h1 hz
  rw [qd1 hlt]
  split
  ·exact h
  rename_i hn
  refine List.pairwise_cons.2 ⟨fun z hz=>?_,h⟩
  rcases List.mem_cons.1 hz with rfl | hz
  ·omega
  have:=h1 hz; omega
theorem qeP {least:Int}:∀ {l out:List (Int × Bs)},qcV out → qcV (l.foldl (qbV least) out)
 | [],_,h=>h
 | x :: r,_,h=>qeP (l:=r) (qeA h)
theorem qgt {least:Int}:∀ {l out:List (Int × Bs)},(l.foldl (qbV least) out).length ≤ out.length + l.length
 | [],_=>Nat.le_refl _
 | x :: r,out=>by
  have h1:=qgt (least:=least) (l:=r) (out:=qbV least out x)
  have h2:=qhN least out x
  rw [List.foldl_cons,List.length_cons]
  omega
theorem qff (l:List Fld) (u:List (Int × Bs)):qcV (qag l u):=qeP List.Pairwise.nil
theorem qgu (l:List Fld) (u:List (Int × Bs)):(qag l u).length ≤ 32767:=by
 have h:=qgt (least:=qaq l) (l:=u.take 32767) (out:=[])
 rw [List.length_take,List.length_nil] at h
 unfold qag
 omega
theorem qf1 {u:List (Int × Bs)} (h:qcV u):qcV (qdt u):=List.pairwise_map.2 h
theorem qed (u:List (Int × Bs)):qbM (qdt u) = qa7 u:=by
 unfold qbM qdt qa7 tagR
 rw [List.flatMap_map]
theorem qjF (v:Int) (d:Nat) (l:List Fld) (t:Tree):(fitT v d l t).U = qdt (qag l t.U):=by cases d <;> rfl
theorem qfB {v:Int} {d:Nat} {l:List Fld} {t:Tree} {i:Nat} {f:Fld} (h:l[i]? = some f):(fitT v (d + 1) l t).at_ i = qbJ (fitT v d) v f (t.at_ i):=by
 have h1:=qhk (W:=qbJ (fitT v d) v) (t:=t) h
 have e:(fitT v (d + 1) l t).L = qeS (qbJ (fitT v d) v) l t 0:=rfl
 rw [Tree.at_,e,List.getD_eq_getElem?_getD,h1]
 rfl
theorem qf2 {v:Int} {d:Nat} {l:List Fld} {t:Tree} {i:Nat} {k x1 x2 x3 x4 x5 x6:Int} {s:List Fld} (h:l[i]? = some (.mk k x1 x2 x3 x4 x5 x6 s)) (hk:k < 8):((fitT v (d + 1) l t).at_ i).N = (t.at_ i).N:=by
 rw [qfB h]
 have e1:k ≠ 11:=by omega
 have e2:¬ (k = 8 ∨ k = 9):=by omega
 have e3:k ≠ 10:=by omega
 simp [qbJ,qbf,Fld.kind,e1,e2,e3,Tree.N]
theorem qkF {v:Int} {d:Nat} {l:List Fld} {t:Tree} {i:Nat} {k x1 x2 x3 x4 x5 x6:Int} {s:List Fld} (h:l[i]? = some (.mk k x1 x2 x3 x4 x5 x6 s)) (hk:k < 8):((fitT v (d + 1) l t).at_ i).S = (t.at_ i).S:=by
 rw [qfB h]
 have e1:k ≠ 11:=by omega
 have e2:¬ (k = 8 ∨ k = 9):=by omega
 have e3:k ≠ 10:=by omega
 simp [qbJ,qbf,Fld.kind,e1,e2,e3,Tree.S]
theorem qiO {v:Int} (h0:0 ≤ v) (h1:v < 32768):IntKind.i16.wrap v = v:=by
 have:IntKind.i16.wrap v = (v + 32768) % 65536 - 32768:=by simp [IntKind.wrap,IntKind.signed,IntKind.bits]; omega
 omega
theorem qdE (x:Int):be 8 (IntKind.i64.wrap x) = be 8 x:=by
 rw [IntKind.wrap_i64]
 simp only [be,List.cons.injEq,and_true]
 refine ⟨qa3 ?_,qa3 ?_,qa3 ?_,qa3 ?_,qa3 ?_,qa3 ?_,qa3 ?_,qa3 ?_⟩ <;> simp only [Int.reducePow] <;> omega
theorem qeQ (x:Int):be 1 (IntKind.i8.wrap x) = be 1 x:=by
 have:IntKind.i8.wrap x = (x + 128) % 256 - 128:=by simp [IntKind.wrap,IntKind.signed,IntKind.bits]; omega
 rw [this]
 simp only [be,List.cons.injEq,and_true]
 refine qa3 ?_
 simp only [Int.reducePow]; omega
def qcL (s:Bs):Bs:=(List.range 16).map fun i=>s.getD i 0
theorem qgv (s:Bs):(qcL s).length = 16:=by simp [qcL]
theorem qdo (s:Bs):qcL s = qel s:=by
 apply List.ext_getElem?
 intro i
 unfold qcL qel
 rw [List.getElem?_map,List.getElem?_append,List.length_take]
 by_cases h:i < 16
 ·rw [List.getElem?_range h]
  by_cases hs:i < s.length
  ·rw [if_pos (by omega),List.getElem?_take,if_pos h,Option.map_some,List.getD_eq_getElem?_getD,List.getElem?_eq_getElem hs]; rfl
  rw [if_neg (by omega),List.getElem?_replicate,if_pos (by omega),Option.map_some,List.getD_eq_getElem?_getD,List.getElem?_eq_none (by omega)]; rfl
 rw [List.getElem?_eq_none (by simp; omega)]
 by_cases hs:i < min 16 s.length
 ·omega
 rw [if_neg hs,List.getElem?_replicate,if_neg (by omega)]; rfl
theorem qkG {x m:Int} (h0:0 ≤ x) (h1:x ≤ 255) (hm:0 < m) (hm':m ≤ 32768):0 ≤ Int.tmod x m ∧ Int.tmod x m < 32768:=by
 rw [Int.tmod_eq_emod_of_nonneg h0]
 have g1:=Int.emod_nonneg x (show m ≠ 0 by omega)
 have g2:=Int.emod_lt_of_pos x hm
 omega
def usz:List (Int × Bs) → Nat
 | []=>0
 | x :: r=>(1 + (uv x.1.toNat).length + x.2.length) + usz r
def Tree.size:Tree → Nat
 | .mk _ s _ l u=>sizes l + (1 + s.length + usz u)
where sizes:List Tree → Nat
 | []=>0
 | t :: r=>t.size + sizes r
abbrev sizes:=Tree.size.sizes
theorem Tree.size_mk (n:Int) (s:Bs) (b:Bool) (l:List Tree) (u:List (Int × Bs)):(Tree.mk n s b l u).size = sizes l + (1 + s.length + usz u):=by rw [Tree.size]
theorem Tree.size_pos (t:Tree):1 ≤ t.size:=by cases t; rw [Tree.size_mk]; omega
theorem Tree.size_S (t:Tree):t.S.length ≤ t.size:=by cases t; rw [Tree.size_mk]; show List.length _ ≤ _; simp only [Tree.S]; omega
theorem Tree.size_U (t:Tree):usz t.U ≤ t.size:=by cases t; rw [Tree.size_mk]; simp only [Tree.U]; omega
theorem Tree.size_L (t:Tree):sizes t.L ≤ t.size:=by cases t; rw [Tree.size_mk]; simp only [Tree.L]; omega
theorem qgw:∀ {l:List Tree} {i:Nat} {x:Tree},l[i]? = some x → x.size ≤ sizes l
 | [],i,x,h=>by simp at h
 | t :: r,0,x,h=>by
  simp only [List.getElem?_cons_zero,Option.some.injEq] at h
  subst h
  exact Nat.le_add_right _ _
 | t :: r,i + 1,x,h=>Nat.le_trans (qgw (l:=r) (i:=i) (by simpa using h)) (Nat.le_add_left _ _)
theorem qfC:∀ (l:List Tree) (k:Nat),sizes (l.take k) ≤ sizes l
 | [],k=>by simp
 | t :: r,0=>Nat.zero_le _
 | t :: r,k + 1=>Nat.add_le_add_left (qfC r k) _
theorem qiP:∀ (l:List Tree),l.length ≤ sizes l
 | []=>Nat.zero_le _
 | t :: r=>by
  have h1:=t.size_pos
  have h2:=qiP r
  show r.length + 1 ≤ t.size + sizes r
  omega
theorem qiQ (t:Tree) (i:Nat):(t.at_ i).size ≤ t.size:=by
 unfold Tree.at_
 rw [List.getD_eq_getElem?_getD]
 cases h:t.L[i]? with
 | none =>
  have h1:=t.size_pos
  have:Tree.zero.size = 1:=by unfold Tree.zero; rw [Tree.size_mk]; rfl
  show Tree.zero.size ≤ _
  omega
 | some x=>exact Nat.le_trans (qgw h) t.size_L
theorem qeJ:∀ (a b:List (Int × Bs)),usz (a ++ b) = usz a + usz b
 | [],b=>by simp [usz]
 | x :: r,b=>by
  show (1 + _ + _) + usz (r ++ b) = (1 + _ + _) + usz r + usz b
  rw [qeJ r b]; omega
theorem qki (k:Int) (out:List (Int × Bs)) (t:Int × Bs):usz (qbV k out t) ≤ usz out + usz [t]:=by
 unfold qbV
 dsimp only
 split
 ·omega
 have h:usz out = usz (out.take (qds out t.1)) + usz (out.drop (qds out t.1)):=by rw [← qeJ,List.take_append_drop]
 rw [qeJ]
 show _ + (_ + usz (out.drop _)) ≤ _
 rw [h]
 simp only [usz]
 omega
theorem qhm (k:Int):∀ (l out:List (Int × Bs)),usz (l.foldl (qbV k) out) ≤ usz out + usz l
 | [],out=>by simp [usz]
 | t :: r,out=>by
  rw [List.foldl_cons]
  refine Nat.le_trans (qhm k r _) ?_
  have:=qki k out t
  simp only [usz] at this ⊢
  omega
theorem qhn:∀ (l:List (Int × Bs)) (k:Nat),usz (l.take k) ≤ usz l
 | [],k=>by simp
 | t :: r,0=>Nat.zero_le _
 | t :: r,k + 1=>Nat.add_le_add_left (qhn r k) _
theorem qg0 (l:List Fld) (u:List (Int × Bs)):usz (qag l u) ≤ usz u:=by
 unfold qag
 refine Nat.le_trans (qhm _ _ _) ?_
 have:=qhn u 32767
 simp only [usz]; omega
theorem qgx (s:Bs):(qay s).length ≤ s.length:=by simp only [qay,List.length_take]; omega
theorem qgy:∀ (l:List (Int × Bs)),(qa7 l).length ≤ 10 * usz l
 | []=>by simp [qa7]
 | x :: r=>by
  have h1:=qgy r
  have h2:=qes (qay x.2).length (by have:=qbn x.2; omega)
  have h3:=qgx x.2
  unfold qa7 at h1 ⊢
  rw [List.flatMap_cons,List.length_append,List.length_append,List.length_append]
  show _ ≤ 10 * ((1 + _ + _) + usz r)
  omega
theorem qjY:∀ (n:Nat),(uv n).length ≤ n + 1:=by
 intro n
 induction n using Nat.strongRecOn with
 | _ n ih =>
  by_cases h:n < 128
  ·rw [qb3 h]; simp
  rw [qeq (by omega),List.length_cons]
  have:=ih (n / 128) (by omega)
  omega
def Fld.cost:Fld → Nat
 | .mk _ _ _ _ _ _ _ sub=>64 + (3 * (((qaq sub).toNat + 1) * costs sub) + 64)
where costs:List Fld → Nat
 | []=>0
 | f :: r=>(20 + f.cost) + costs r
abbrev costs:=Fld.cost.costs
def qg1 (l:List Fld):Nat:=3 * (((qaq l).toNat + 1) * costs l) + 64
theorem qkj (f:Fld):f.cost = 64 + qg1 f.sub:=by
 cases f; rw [Fld.cost]; rfl
theorem qeK (f:Fld) (r:List Fld):costs (f :: r) = (20 + f.cost) + costs r:=by
 show Fld.cost.costs (f :: r) = _
 rw [Fld.cost.costs]
theorem qgz {p:Tree → Bs} {c:Nat} (hp:∀ t,(p t).length ≤ c * t.size) (kind:Int) (null flex:Bool) (t:Tree):(qaL p kind null flex t).length ≤ (32 + c) * t.size:=by
 have h1:=t.size_pos
 have h2:=t.size_S
 have hm:(32 + c) * t.size = 32 * t.size + c * t.size:=Nat.add_mul _ _ _
 have hs:∀ (n:Nat),n ≤ 8 → (qan flex null (if null = true then ([]:Bs) else qay t.S).length n ++ (if null = true then ([]:Bs) else qay t.S)).length ≤ 32 * t.size:=by
  intro n hn
  have h3:(if null = true then ([]:Bs) else qay t.S).length ≤ t.S.length:=by
   split
   ·exact Nat.zero_le _
   exact qgx _
  have h5:(if null = true then ([]:Bs) else qay t.S).length ≤ 32767:=by
   split
   ·exact Nat.zero_le _
   exact qbn _
  have h4:=qd8 flex null (if null = true then ([]:Bs) else qay t.S).length n (by omega) hn
  rw [List.length_append]; omega
 unfold qaL
 split
 ·show 1 ≤ _; omega
 split
 ·rw [qb7]; omega
 split
 ·have:=hs 2 (by omega); exact Nat.le_trans this (by omega)
 split
 ·have:=hs 4 (by omega); exact Nat.le_trans this (by omega)
 split
 ·have:=hp t; omega
 rw [be_length]; have:=qbW kind; omega
theorem qfD {g:Tree → Bs} {c:Nat} (hg:∀ t,(g t).length ≤ c * t.size):∀ (l:List Tree),(l.flatMap g).length ≤ c * sizes l
 | []=>by simp
 | t :: r=>by
  have h1:=hg t
  have h2:=qfD hg r
  rw [List.flatMap_cons,List.length_append]
  show _ ≤ c * (t.size + sizes r)
  rw [Nat.mul_add]; omega
theorem qiR {p:Tree → Bs} {c:Nat} (hp:∀ t,(p t).length ≤ c * t.size) (f:Fld) (v:Int) (flex:Bool) (t:Tree):(qdc p f v flex t).length ≤ (64 + c) * t.size:=by
 have h1:=t.size_pos
 have h2:=t.size_L
 have hm:(64 + c) * t.size = 64 * t.size + c * t.size:=Nat.add_mul _ _ _
 have hm2:(32 + c) * t.size = 32 * t.size + c * t.size:=Nat.add_mul _ _ _
 unfold qdc
 dsimp only
 split
 ·rw [List.length_append]
  have hl:(if f.nul v t = true then ([]:List Tree) else qam t.L).length ≤ 32767:=by
   split
   ·exact Nat.zero_le _
   exact qci _
  have h3:=qd8 flex (f.nul v t) (if f.nul v t = true then ([]:List Tree) else qam t.L).length 4 (by omega) (by omega)
  have h4:=qfD (g:=fun x=>qaL p f.of false flex x) (fun x=>qgz hp f.of false flex x) (if f.nul v t = true then ([]:List Tree) else qam t.L)
  have h5:sizes (if f.nul v t = true then ([]:List Tree) else qam t.L) ≤ t.size:=by
   split
   ·exact Nat.zero_le _
   exact Nat.le_trans (qfC _ _) h2
  have h6:(32 + c) * sizes (if f.nul v t = true then ([]:List Tree) else qam t.L) ≤ (32 + c) * t.size:=Nat.mul_le_mul_left _ h5
  omega
 split
 ·split
  ·rw [be_length]; omega
  rw [List.length_append,be_length]
  have:=hp t
  omega
 have:=qgz hp f.kind (f.nul v t) flex t
 omega
section
variable {w:Fld → Tree → Bs}
theorem qho (v:Int) (t:Tree):∀ (l:List Fld) (i:Nat),(∀ f ∈ l,∀ t,(w f t).length ≤ f.cost * t.size) → (qaJ w l v t i).length ≤ costs l * t.size
 | [],i,_=>by simp [qaJ]
 | f :: r,i,h=>by
  have h1:=qho v t r (i + 1) fun g hg=>h g (List.mem_cons_of_mem _ hg)
  have h2:f.cost * (t.at_ i).size ≤ f.cost * t.size:=Nat.mul_le_mul_left _ (qiQ t i)
  have h3:=h f (List.mem_cons_self ..) (t.at_ i)
  rw [qaJ,List.length_append,qeK,Nat.add_mul,Nat.add_mul]
  have h4:(if f.tag < 0 ∧ f.has v = true then w f (t.at_ i) else []).length ≤ f.cost * t.size:=by
   split
   ·omega
   exact Nat.zero_le _
  omega
theorem qiS (t:Tree) (k:Nat) (hk:k < 18446744073709551616):∀ (l:List Fld) (i:Nat),(∀ f ∈ l,∀ t,(w f t).length ≤ f.cost * t.size) → (tagB w l k t i).length ≤ 2 * (costs l * t.size)
 | [],i,_=>by simp [tagB]
 | f :: r,i,h=>by
  have h1:=qiS t k hk r (i + 1) fun g hg=>h g (List.mem_cons_of_mem _ hg)
  have h2:f.cost * (t.at_ i).size ≤ f.cost * t.size:=Nat.mul_le_mul_left _ (qiQ t i)
  have h3:=h f (List.mem_cons_self ..) (t.at_ i)
  have h5:=t.size_pos
  have h6:=qes k hk
  have h7:=qjY (w f (t.at_ i)).length
  rw [tagB,List.length_append,qeK,Nat.add_mul,Nat.add_mul]
  have h4:(if f.tag = k ∧ f.usual (t.at_ i) = false then uv k ++ uv (w f (t.at_ i)).length ++ w f (t.at_ i) else []).length ≤ 11 + 2 * (f.cost * t.size):=by
   split
   ·rw [List.length_append,List.length_append]; omega
   exact Nat.zero_le _
  omega
theorem qhp (t:Tree) {l:List Fld} (h:∀ f ∈ l,∀ t,(w f t).length ≤ f.cost * t.size):∀ (k:Nat),k < 18446744073709551616 → (qaA w l t k).length ≤ 2 * (k * (costs l * t.size))
 | 0,_=>by simp [qaA]
 | k + 1,hk=>by
  have h1:=qhp t h k (by omega)
  have h2:=qiS t k (by omega) l 0 h
  rw [qaA,List.length_append,Nat.add_mul]
  omega
theorem qjZ (t:Tree) (k:Nat):∀ (l:List Fld) (i:Nat),tagN w l k t i ≤ costs l
 | [],i=>by simp [tagN]
 | f :: r,i=>by
  have h1:=qjZ t k r (i + 1)
  rw [tagN,qeK]
  split <;> omega
theorem qiT (t:Tree) (l:List Fld):∀ (k:Nat),qaS w l t k ≤ k * costs l
 | 0=>by simp [qaS]
 | k + 1=>by
  have h1:=qiT t l k
  have h2:=qjZ (w:=w) t k l 0
  rw [qaS,Nat.add_mul]
  omega
theorem qiU:∀ (u:List (Int × Bs)),u.length ≤ usz u
 | []=>Nat.le_refl _
 | x :: r=>by
  have:=qiU r
  rw [List.length_cons]
  simp only [usz]; omega
theorem qhq {l:List Fld} (h:∀ f ∈ l,∀ t,(w f t).length ≤ f.cost * t.size) (hk:(qaq l).toNat < 18446744073709551616) (v:Int) (flex:Bool) (t:Tree):(qem w l v flex t).length ≤ qg1 l * t.size:=by
 have h0:=t.size_pos
 have h1:=qho v t l 0 h
 have h2:=qhp t h _ hk
 have h3:=qiT (w:=w) t l (qaq l).toNat
 have h4:=qgy (qag l t.U)
 have h5:=qg0 l t.U
 have h6:=t.size_U
 have h7:=qiU (qag l t.U)
 have h8:=qjY (qaS w l t (qaq l).toNat + (qag l t.U).length)
 have e1:qg1 l * t.size = 3 * (((qaq l).toNat + 1) * (costs l * t.size)) + 64 * t.size:=by
  unfold qg1
  rw [Nat.add_mul,Nat.mul_assoc,Nat.mul_assoc]
 have e2:((qaq l).toNat + 1) * (costs l * t.size) = (qaq l).toNat * (costs l * t.size) + costs l * t.size:=by rw [Nat.add_mul,Nat.one_mul]
 have e3:(qaq l).toNat * costs l ≤ (qaq l).toNat * (costs l * t.size):=Nat.mul_le_mul_left _ (Nat.le_mul_of_pos_right _ h0)
 unfold qem
 rw [List.length_append,e1,e2]
 split
 ·rw [List.length_append,List.length_append]; omega
 simp only [List.length_nil]; omega
end
theorem qgA (l:List Fld):(qaq l).toNat < 18446744073709551616:=by
 have h:=qd9 l
 omega
theorem qhr:∀ (d:Nat) (l:List Fld) (v:Int) (flex:Bool) (t:Tree),(qaX d l v flex t).length ≤ qg1 l * t.size
 | 0,l,v,flex,t=>qhq (fun f _ t=>by simp) (qgA l) v flex t
 | d + 1,l,v,flex,t=>qhq (fun f _ t=>by
   rw [qkj]
   exact qiR (fun t=>qhr d f.sub v flex t) f v flex t) (qgA l) v flex t
theorem qiV (d:Nat) (l:List Fld) (x v:Int) (t:Tree):(qcE d l x v t).length ≤ qg1 l * t.size:=qhr d l v _ t
end Go.Proofs.YtajibgahdkllkaaGreat.ME
namespace Go.Proofs.YtajibgahdkllkaaGreat.ME
open Go
open Go.Proofs.YtajibgahdkllkaaGreat.Rows (uptoBulk uptoBulkAll)
set_option linter.unusedVariables false
set_option linter.unusedSimpArgs false
def Tree.i64s:Tree → Prop
 | .mk n _ _ l _=>(-9223372036854775808 ≤ n ∧ n ≤ 9223372036854775807) ∧ i64ss l
where i64ss:List Tree → Prop
 | []=>True
 | t :: r=>t.i64s ∧ i64ss r
abbrev i64ss:=Tree.i64s.i64ss
theorem qhs:∀ {l:List Tree},(∀ x ∈ l,x.i64s) → i64ss l
 | [],_=>trivial
 | t :: r,h=>⟨h t List.mem_cons_self,qhs (l:=r) fun x hx=>h x (List.mem_cons_of_mem _ hx)⟩
theorem qf3 {H:Type} (d:DataW H):1 ≤ uptoBulk d:=by cases d <;> first | (unfold uptoBulk; omega) | (rename_i l; cases l <;> (unfold uptoBulk; omega))
theorem qf4 {H:Type}:∀ (l:List (DataW H)),l.length ≤ uptoBulkAll l
 | []=>Nat.zero_le _
 | d :: r=>by
  have h1:=qf3 d
  have h2:=qf4 r
  unfold uptoBulkAll
  rw [List.length_cons]; omega
theorem qeZ {H:Type}:∀ {l:List (DataW H)} {d:DataW H},d ∈ l → uptoBulk d ≤ uptoBulkAll l
 | [],d,h=>by cases h
 | a :: r,d,h=>by
  unfold uptoBulkAll
  rcases List.mem_cons.1 h with rfl | h
  ·omega
  have:=qeZ h; omega
theorem qgB {α β:Type} {f:α → Option β}:∀ {l:List α} {r:List β},l.mapM f = some r → r.length = l.length ∧ ∀ (i:Nat) (a:α),l[i]? = some a → ∃ b,f a = some b ∧ r[i]? = some b
 | [],r,h=>by
  simp only [List.mapM_nil,Option.pure_def,Option.some.injEq] at h
  subst h
  exact ⟨rfl,fun i a h=>by simp at h⟩
 | x :: l,r,h=>by
  rw [List.mapM_cons] at h
  cases hx:f x with
  | none=>rw [hx] at h; cases h
  | some y =>
   rw [hx] at h
   cases hl:l.mapM f with
   | none=>rw [hl] at h; cases h
   | some ys =>
    rw [hl] at h
    obtain rfl:y :: ys = r:=Option.some.inj h
    obtain ⟨h1,h2⟩:=qgB hl
    refine ⟨by simp [h1],fun i a ha=>?_⟩
    cases i with
    | zero =>
     simp only [List.getElem?_cons_zero,Option.some.injEq] at ha
     subst ha
     exact ⟨y,hx,rfl⟩
    | succ i=>simpa using h2 i a (by simpa using ha)
theorem qeL {w:World} {a:Addr} {n:Nat} {cs:List Value} (h:w.cells? 0 a n = some cs):cs.length = n ∧ ∀ (j:Nat) (v:Value),cs[j]? = some v → w.cell? (a.add j) = some v:=by
 unfold World.cells? at h
 rw [if_pos (Nat.zero_le _)] at h
 obtain ⟨h1,h2⟩:=qgB h
 rw [List.length_range] at h1
 refine ⟨h1,fun j v hj=>?_⟩
 have hjn:j < n:=by rw [← h1]; exact (List.getElem?_eq_some_iff.1 hj).1
 obtain ⟨b,hb,hc⟩:=h2 j j (by rw [List.getElem?_range hjn])
 rw [hj] at hc
 rw [hb,Option.some.inj hc]
theorem qhT {w:World} {a:Addr} {v:Value} (h:w.cell? a = some v):a.spot = none:=by
 unfold World.cell? at h
 split at h
 ·split at h
  ·cases h
  rename_i hs; simpa using hs
 cases h
theorem qjG {w:World} {size n c:Nat} {ad:Addr} {cs:Nat → List Value} (hle:n ≤ c) (hsm:n ≤ 1099511627776) (hsz:0 < size) (h:∀ i,i < n → (cs i).length = size ∧ ∀ (j:Nat) (v:Value),(cs i)[j]? = some v → w.cell? ((ad.add (i * size)).add j) = some v):Slots w (fun _ _=>True) size (some ad) c n cs:=by
 refine ⟨hle,hsm,(fun hA=>by cases hA),fun ad' hA hn=>?_⟩
 obtain rfl:=Option.some.inj hA
 have h0:=h 0 hn
 have hp:ad.spot = none:=by
  have h1:=qhT (h0.2 0 _ (List.getElem?_eq_getElem (by omega)))
  unfold Addr.add at h1
  split at h1
  ·split at h1 <;> simp_all
  simp_all
 obtain ⟨b,o,sp⟩:=ad
 simp only at hp
 subst hp
 refine ⟨b,o,rfl,fun i hi=>⟨(h i hi).1,fun j v hj=>⟨trivial,?_⟩⟩⟩
 have:=(h i hi).2 j v hj
 rwa [qbS,qbS] at this
theorem qfg {α:Type} {R:Nat → α → Prop}:∀ (n:Nat),(∀ i,i < n → ∃ x,R i x) → ∃ l:List α,l.length = n ∧ ∀ i x,l[i]? = some x → R i x
 | 0,_=>⟨[],rfl,fun i x h=>by simp at h⟩
 | n + 1,h=>by
  obtain ⟨l,h1,h2⟩:=qfg n fun i hi=>h i (by omega)
  obtain ⟨x,hx⟩:=h n (by omega)
  refine ⟨l ++ [x],by simp [h1],fun i y hy=>?_⟩
  rcases qbj hy with hy | ⟨rfl,rfl⟩
  ·exact h2 i y hy
  rw [h1]; exact hx
theorem qeM {α:Type} {w:World} {a:Addr} {len cap size:Nat} (R:Nat → List Value → α → Prop) (hle:len ≤ cap) (hsm:len ≤ 1099511627776) (hsz:0 < size)
  (hex:∀ i,i < len → ∃ ci:List Value,ci.length = size ∧ (∀ (j:Nat) (v:Value),ci[j]? = some v → w.cell? ((a.add (i * size)).add j) = some v) ∧ ∃ x,R i ci x) :
  ∃ l:List α,l.length = len ∧ ∃ xs:Nat → List Value,Slots w (fun _ _=>True) size (some a) cap len xs ∧ ∀ i x,l[i]? = some x → R i (xs i) x:=by
 obtain ⟨l,h1,h2⟩:=qfg (R:=fun i (z:List Value × α)=>z.1.length = size ∧ (∀ (j:Nat) (v:Value),z.1[j]? = some v → w.cell? ((a.add (i * size)).add j) = some v) ∧ R i z.1 z.2) len (fun i hi=>by
  obtain ⟨ci,g1,g2,x,g3⟩:=hex i hi
  exact ⟨(ci,x),g1,g2,g3⟩)
 have hget:∀ i,i < len → ∃ z,l[i]? = some z:=fun i hi=>⟨_,List.getElem?_eq_getElem (by omega)⟩
 have hxs:∀ i z,l[i]? = some z → ((l.map (·.1)).getD i []) = z.1:=fun i z hz=>by
  rw [List.getD_eq_getElem?_getD,List.getElem?_map,hz]; rfl
 refine ⟨l.map (·.2),by simp [h1],fun i=>(l.map (·.1)).getD i [],qjG hle hsm hsz (fun i hi=>?_),fun i x hx=>?_⟩
 ·obtain ⟨z,hz⟩:=hget i hi
  rw [hxs i z hz]
  exact ⟨(h2 i z hz).1,(h2 i z hz).2.1⟩
 rw [List.getElem?_map] at hx
 cases hz:l[i]? with
 | none=>rw [hz] at hx; cases hx
 | some z =>
  rw [hz] at hx
  simp only [Option.map_some,Option.some.injEq] at hx
  subst hx
  dsimp only
  rw [hxs i z hz]
  exact (h2 i z hz).2.2
def qe0 (P:Program) (t:TypeId):Option (List (TypeId × Nat)) :=
 match P.underlying t with
 | some (.struct fs)=>some (fs.toList.map fun f=>(f.type,f.offset))
 | _=>none
theorem qfh {P:Program} {t:TypeId} {l:List (TypeId × Nat)} (h:qe0 P t = some l):∃ fs:Array Field,P.underlying t = some (.struct fs) ∧ fs.size = l.length ∧ ∀ (i:Nat) ty off,l[i]? = some (ty,off) → ∃ f,fs[i]? = some f ∧ f.type = ty ∧ f.offset = off:=by
 unfold qe0 at h
 split at h
 ·rename_i fs hfs
  simp only [Option.some.injEq] at h
  subst h
  refine ⟨fs,hfs,by simp,fun i ty off hi=>?_⟩
  rw [List.getElem?_map] at hi
  cases hf:fs.toList[i]? with
  | none=>rw [hf] at hi; cases hi
  | some f =>
   rw [hf] at hi
   simp only [Option.map_some,Option.some.injEq,Prod.mk.injEq] at hi
   exact ⟨f,by simpa using hf,hi.1,hi.2⟩
 cases h
structure TreeTys (P:Program) (T TL TU TG TB TI TO TK T8:TypeId):Prop where
 tree:qe0 P T = some [(TI,0),(TB,1),(TO,2),(TL,3),(TU,4)]
 tag:qe0 P TG = some [(TK,0),(TB,1)]
 trees:P.underlying TL = some (.slice T)
 tags:P.underlying TU = some (.slice TG)
 bytes:P.underlying TB = some (.slice T8)
 int:P.underlying TI = some (.int .i64)
 bool:P.underlying TO = some .bool
 key:P.underlying TK = some (.int .u32)
 byte:P.underlying T8 = some (.int .u8)
 cells:(P.cellsOf T,P.cellsOf TL,P.cellsOf TU,P.cellsOf TG,P.cellsOf TB,P.cellsOf TI,P.cellsOf TO,P.cellsOf TK,P.cellsOf T8) = (5,1,1,2,1,1,1,1,1)
section
variable {H:Type} {enc:TypeId × Value → H} {P:Program} {W:World} {sp:Nat → Bool} {hd:Bool} {T TL TU TG TB TI TO TK T8:TypeId}
theorem qf5 {α β:Type} {x:Option α} {f:α → Option β} {l:List β} {i:Nat} (h:x.bind f = l[i]?) (hi:i < l.length):∃ a b,x = some a ∧ f a = some b ∧ l[i]? = some b:=by
 rw [List.getElem?_eq_getElem hi] at h
 obtain ⟨a,ha,hb⟩:=Option.bind_eq_some_iff.1 h
 exact ⟨a,_,ha,hb,List.getElem?_eq_getElem hi⟩
theorem qeN {elems spare:List (DataW H)} {n:Nat} (h:uptoBulk (.slice elems spare) ≤ n):elems.length ≤ n ∧ ∀ d ∈ elems,uptoBulk d ≤ n:=by
 unfold uptoBulk at h
 have h1:=qf4 elems
 exact ⟨by omega,fun d hd=>by have:=qeZ hd; omega⟩
theorem qht {parts:List (DataW H)} {n:Nat} (h:uptoBulk (.agg parts) ≤ n):∀ d ∈ parts,uptoBulk d ≤ n:=by
 unfold uptoBulk at h
 exact fun d hd=>by have:=qeZ hd; omega
theorem qgC {fuel:Nat} {cs:List Value} {x:DataW H × List MemPlace} (hT:TreeTys P T TL TU TG TB TI TO TK T8) (h:DataW.trod enc P W 0 sp hd fuel TB cs = some x) (hb:uptoBulk x.1 ≤ 1048576) :
  ∃ A c s,cs = [.slice A (s:Bs).length c] ∧ Octs W (fun _ _=>True) A c s ∧ s.length ≤ uptoBulk x.1:=by
 have hc:=hT.cells
 simp only [Prod.mk.injEq] at hc
 rcases DataW.trod_slice hT.bytes h with ⟨rfl,rfl⟩ | ⟨a,len,cap,elems,rest,n,_,rfl,rfl,_,hle,_,hlen,he,_⟩
 ·exact ⟨none,0,[],rfl,Octs.nil _ _,Nat.zero_le _⟩
 have hlb:=qf4 (elems.map (·.1))
 rw [List.length_map] at hlb
 have hbl:=qeN hb
 simp only [List.length_map] at hbl
 obtain ⟨l,hl,xs,h1,h2⟩:=qeM (w:=W) (a:=a) (len:=len) (cap:=cap) (size:=1) (fun _ ci (q:UInt8)=>ci = [qac q]) hle (by omega) (by omega) (fun i hi=>by
  obtain ⟨ci,y,g1,g2,g3⟩:=qf5 (he i hi) (by omega)
  obtain ⟨g4,g5⟩:=qeL g1
  rw [hc.2.2.2.2.2.2.2.2] at g4 g5
  refine ⟨ci,g4,g5,?_⟩
  obtain ⟨v,rfl,_,hw⟩:=DataW.trod_int hT.byte g2
  have hx:0 ≤ v ∧ v ≤ 255:=by simpa [Lit.wf,IntKind.min,IntKind.max,IntKind.signed,IntKind.bits] using hw
  refine ⟨UInt8.ofNat v.toNat,?_⟩
  unfold qac
  rw [UInt8.toNat_ofNat']
  congr 2
  omega)
 refine ⟨some a,cap,l,by rw [hl],?_,by rw [hl,← hlen]; dsimp only; unfold uptoBulk; omega⟩
 unfold Octs
 rw [hl]
 refine ⟨h1.le,h1.small,h1.none_,fun ad hA hn=>?_⟩
 obtain ⟨b,o,e1,e2⟩:=h1.some_ ad hA hn
 refine ⟨b,o,e1,fun i hi=>?_⟩
 have hli:l[i]? = some (l.getD i 0):=by
  rw [List.getD_eq_getElem?_getD,List.getElem?_eq_getElem (by omega)]; rfl
 have:=h2 i _ hli
 rw [← this]
 exact e2 i hi
theorem qee {n:Nat} {fs:Array Field} {xs:List (DataW H × List MemPlace)} {cs:List Value} {l:List (TypeId × Nat)} (hx:∀ (i:Nat) (f:Field),fs[i]? = some f → DataW.trod enc P W 0 sp hd n f.type ((cs.drop f.offset).take (P.cellsOf f.type)) = xs[i]?)
  (hl:∀ (i:Nat) ty off,l[i]? = some (ty,off) → ∃ f,fs[i]? = some f ∧ f.type = ty ∧ f.offset = off) {i:Nat} {ty off:Nat} (hi:l[i]? = some (ty,off)) (h1:P.cellsOf ty = 1) (hxl:i < xs.length) {c:Value} (hc:cs[off]? = some c) :
  ∃ y,xs[i]? = some y ∧ DataW.trod enc P W 0 sp hd n ty [c] = some y:=by
 obtain ⟨f,hf,rfl,rfl⟩:=hl i _ _ hi
 have:=hx i f hf
 rw [h1] at this
 refine ⟨xs[i],List.getElem?_eq_getElem hxl,?_⟩
 rw [List.getElem?_eq_getElem hxl] at this
 have e:(cs.drop f.offset).take 1 = [c]:=by
  rw [List.take_one,List.head?_drop,hc]; rfl
 rw [e] at this
 exact this
theorem qhu:∀ (l:List (Int × Bs)) {elems:List (DataW H × List MemPlace)},l.length = elems.length → (∀ (i:Nat) (x:Int × Bs) (y:DataW H × List MemPlace),l[i]? = some x → elems[i]? = some y → 1 + (uv x.1.toNat).length + x.2.length ≤ 8 * uptoBulk y.1) → usz l ≤ 8 * uptoBulkAll (elems.map (·.1))
 | [],_,_,_=>Nat.zero_le _
 | x :: r,[],h,_=>by cases h
 | x :: r,y :: es,h,hp=>by
  have h1:=qhu r (elems:=es) (by simpa using h) fun i x' y' hx hy=>hp (i + 1) x' y' (by simpa using hx) (by simpa using hy)
  have h2:=hp 0 x y rfl rfl
  simp only [usz,List.map_cons,uptoBulkAll]
  omega
theorem qfE:∀ (l:List Tree) {elems:List (DataW H × List MemPlace)},l.length = elems.length → (∀ (i:Nat) (x:Tree) (y:DataW H × List MemPlace),l[i]? = some x → elems[i]? = some y → x.size ≤ 8 * uptoBulk y.1) → sizes l ≤ 8 * uptoBulkAll (elems.map (·.1))
 | [],_,_,_=>Nat.zero_le _
 | x :: r,[],h,_=>by cases h
 | x :: r,y :: es,h,hp=>by
  have h1:=qfE r (elems:=es) (by simpa using h) fun i x' y' hx hy=>hp (i + 1) x' y' (by simpa using hx) (by simpa using hy)
  have h2:=hp 0 x y rfl rfl
  show x.size + sizes r ≤ _
  simp only [List.map_cons,uptoBulkAll]
  omega
theorem qiW {y0 y1 y2 y3 y4:DataW H × List MemPlace} {xs:List (DataW H × List MemPlace)} (h:xs.length = 5) (h0:xs[0]? = some y0) (h1:xs[1]? = some y1) (h2:xs[2]? = some y2) (h3:xs[3]? = some y3) (h4:xs[4]? = some y4):uptoBulk (.agg (xs.map (·.1))) = uptoBulk y0.1 + uptoBulk y1.1 + uptoBulk y2.1 + uptoBulk y3.1 + uptoBulk y4.1 + 1:=by
 match xs,h with
 | [a,b,c,d,e],_ =>
  simp only [List.getElem?_cons_zero,List.getElem?_cons_succ,Option.some.injEq] at h0 h1 h2 h3 h4
  subst h0; subst h1; subst h2; subst h3; subst h4
  have e:uptoBulk (.agg [a.1,b.1,c.1,d.1,e.1]) = uptoBulkAll [a.1,b.1,c.1,d.1,e.1] + 1:=by rw [uptoBulk]
  simp only [List.map_cons,List.map_nil]
  rw [e]
  simp only [uptoBulkAll]
  omega
theorem qiX {fuel:Nat} {cs:List Value} {x:DataW H × List MemPlace} (hT:TreeTys P T TL TU TG TB TI TO TK T8) (h:DataW.trod enc P W 0 sp hd fuel TU cs = some x) (hb:uptoBulk x.1 ≤ 1048576) :
  ∃ A c u,cs = [.slice A (u:List (Int × Bs)).length c] ∧ TagsR W (fun _ _=>True) A c u ∧ usz u ≤ 8 * uptoBulk x.1:=by
 have hc:=hT.cells
 simp only [Prod.mk.injEq] at hc
 rcases DataW.trod_slice hT.tags h with ⟨rfl,rfl⟩ | ⟨a,len,cap,elems,rest,n,_,rfl,rfl,_,hle,_,hlen,he,_⟩
 ·exact ⟨none,0,[],rfl,TagsR.nil _ _,Nat.zero_le _⟩
 have hbl:=qeN hb
 simp only [List.length_map] at hbl
 obtain ⟨l,hl,xs,h1,h2⟩:=qeM (w:=W) (a:=a) (len:=len) (cap:=cap) (size:=2) (fun i ci (q:Int × Bs)=>((∃ A' c',ci = [.int .u32 q.1,.slice A' q.2.length c'] ∧ Octs W (fun _ _=>True) A' c' q.2) ∧ 0 ≤ q.1 ∧ q.1 < 4294967296) ∧ ∀ y,elems[i]? = some y → 1 + (uv q.1.toNat).length + q.2.length ≤ 8 * uptoBulk y.1) hle (by omega) (by omega) (fun i hi=>by
  obtain ⟨ci,y,g1,g2,g3⟩:=qf5 (he i hi) (by omega)
  obtain ⟨g4,g5⟩:=qeL g1
  rw [hc.2.2.2.1] at g4 g5
  refine ⟨ci,g4,g5,?_⟩
  obtain ⟨fs,hfs,hsz,hl⟩:=qfh hT.tag
  obtain ⟨xs,m,_,rfl,_,hxl,hx⟩:=DataW.trod_struct hfs g2
  rw [hsz] at hxl
  have hxl':xs.length = 2:=hxl
  match ci,g4 with
  | [c0,c1],_ =>
   obtain ⟨y0,_,k0⟩:=qee hx hl (i:=0) rfl hc.2.2.2.2.2.2.2.1 (by omega) (c:=c0) rfl
   obtain ⟨y1,e1,k1⟩:=qee hx hl (i:=1) rfl hc.2.2.2.2.1 (by omega) (c:=c1) rfl
   obtain ⟨v,hv,_,hw⟩:=DataW.trod_int hT.key k0
   have hx:0 ≤ v ∧ v ≤ 4294967295:=by simpa [Lit.wf,IntKind.min,IntKind.max,IntKind.signed,IntKind.bits] using hw
   have hby:uptoBulk y1.1 ≤ 1048576:=by
    have hm:DataW.agg (xs.map (·.1)) ∈ elems.map (·.1):=by
     have:=List.mem_of_getElem? g3
     exact List.mem_map.2 ⟨_,this,rfl⟩
    exact qht (hbl.2 _ hm) _ (List.mem_map.2 ⟨_,List.mem_of_getElem? e1,rfl⟩)
   obtain ⟨A',c',s,hs,ho,hsl⟩:=qgC hT k1 hby
   simp only [List.cons.injEq,and_true] at hv hs
   subst hv; subst hs
   refine ⟨(v,s),⟨⟨A',c',rfl,ho⟩,by dsimp only; omega,by dsimp only; omega⟩,fun y hy=>?_⟩
   rw [g3] at hy
   obtain rfl:=Option.some.inj hy
   have h5:=qer v.toNat 5 (by omega) (by omega)
   have h6:uptoBulk y1.1 ≤ uptoBulkAll (xs.map (·.1)):=qeZ (List.mem_map.2 ⟨_,List.mem_of_getElem? e1,rfl⟩)
   dsimp only
   unfold uptoBulk
   omega)
 refine ⟨some a,cap,l,by rw [hl],⟨xs,by rw [hl]; exact h1,fun i k s hi=>(h2 i (k,s) hi).1⟩,?_⟩
 have:=qhu l (elems:=elems) (by rw [hl,hlen]) (fun i x y hx hy=>(h2 i x hx).2 y hy)
 dsimp only
 unfold uptoBulk
 omega
theorem qhU (hT:TreeTys P T TL TU TG TB TI TO TK T8):∀ (fuel:Nat) (cs:List Value) (x:DataW H × List MemPlace),DataW.trod enc P W 0 sp hd fuel T cs = some x → uptoBulk x.1 ≤ 1048576 → ∃ t,TreeR W (fun _ _=>True) cs t ∧ t.size ≤ 8 * uptoBulk x.1 ∧ t.i64s:=by
 intro fuel
 induction fuel using Nat.strongRecOn with
 | _ fuel ih =>
 intro cs x h hb
 have hc:=hT.cells
 simp only [Prod.mk.injEq] at hc
 obtain ⟨fs,hfs,hsz,hl⟩:=qfh hT.tree
 obtain ⟨xs,m,rfl,rfl,hcl,hxl,hx⟩:=DataW.trod_struct hfs h
 rw [hsz] at hxl
 have hxl':xs.length = 5:=hxl
 rw [hc.1] at hcl
 have hbe:∀ {i:Nat} {y:DataW H × List MemPlace},xs[i]? = some y → uptoBulk y.1 ≤ 1048576:=fun e=>qht hb _ (List.mem_map.2 ⟨_,List.mem_of_getElem? e,rfl⟩)
 match cs,hcl with
 | [c0,c1,c2,c3,c4],_ =>
  obtain ⟨y0,e0,k0⟩:=qee hx hl (i:=0) rfl hc.2.2.2.2.2.1 (by omega) (c:=c0) rfl
  obtain ⟨y1,e1,k1⟩:=qee hx hl (i:=1) rfl hc.2.2.2.2.1 (by omega) (c:=c1) rfl
  obtain ⟨y2,e2,k2⟩:=qee hx hl (i:=2) rfl hc.2.2.2.2.2.2.1 (by omega) (c:=c2) rfl
  obtain ⟨y3,e3,k3⟩:=qee hx hl (i:=3) rfl hc.2.1 (by omega) (c:=c3) rfl
  obtain ⟨y4,e4,k4⟩:=qee hx hl (i:=4) rfl hc.2.2.1 (by omega) (c:=c4) rfl
  obtain ⟨v,hv,_,hw0⟩:=DataW.trod_int hT.int k0
  have hx0:-9223372036854775808 ≤ v ∧ v ≤ 9223372036854775807:=by simpa [Lit.wf,IntKind.min,IntKind.max,IntKind.signed,IntKind.bits] using hw0
  obtain ⟨A1,d1,s,hs,ho,hz1⟩:=qgC hT k1 (hbe e1)
  obtain ⟨b,hbo,_⟩:=DataW.trod_bool hT.bool k2
  obtain ⟨A3,d3,u,hu,hur,hz3⟩:=qiX hT k4 (hbe e4)
  have hll:∃ A2 d2 l xs2,[c3] = [.slice A2 (l:List Tree).length d2] ∧ Slots W (fun _ _=>True) 5 A2 d2 l.length xs2 ∧ (∀ i x,l[i]? = some x → TreeR W (fun _ _=>True) (xs2 i) x) ∧ sizes l ≤ 8 * uptoBulk y3.1 ∧ i64ss l:=by
   rcases DataW.trod_slice hT.trees k3 with ⟨e,_⟩ | ⟨a,len,cap,elems,rest,n,rfl,e,rfl,_,hle,_,hlen,he,_⟩
   ·exact ⟨none,0,[],fun _=>[],e,Slots.nil _ _ _ _,(fun i x h=>by simp at h),Nat.zero_le _,trivial⟩
   have hbl:=qeN (hbe e3)
   simp only [List.length_map] at hbl
   obtain ⟨l,hl,xs2,h1,h2⟩:=qeM (w:=W) (a:=a) (len:=len) (cap:=cap) (size:=5) (fun i ci (q:Tree)=>(TreeR W (fun _ _=>True) ci q ∧ q.i64s) ∧ ∀ y,elems[i]? = some y → q.size ≤ 8 * uptoBulk y.1) hle (by omega) (by omega) (fun i hi=>by
    obtain ⟨ci,y,g1,g2,g3⟩:=qf5 (he i hi) (by omega)
    obtain ⟨g4,g5⟩:=qeL g1
    rw [hc.1] at g4 g5
    obtain ⟨q,q1,q2,q3⟩:=ih n (by omega) ci y g2 (hbl.2 _ (List.mem_map.2 ⟨_,List.mem_of_getElem? g3,rfl⟩))
    exact ⟨ci,g4,g5,q,⟨q1,q3⟩,fun y' hy=>by
     rw [g3] at hy
     obtain rfl:=Option.some.inj hy
     exact q2⟩)
   refine ⟨some a,cap,l,xs2,by rw [e,hl],by rw [hl]; exact h1,fun i x hx=>(h2 i x hx).1.1,?_,qhs fun x hx=>by
    obtain ⟨i,hi,rfl⟩:=List.getElem_of_mem hx
    exact (h2 i _ (List.getElem?_eq_getElem hi)).1.2⟩
   have:=qfE l (elems:=elems) (by rw [hl,hlen]) (fun i x y hx hy=>(h2 i x hx).2 y hy)
   dsimp only
   unfold uptoBulk
   omega
  obtain ⟨A2,d2,l,xs2,hl2,hsl,hxl2,hz2,hi2⟩:=hll
  simp only [List.cons.injEq,and_true] at hv hs hbo hl2 hu
  subst hv; subst hs; subst hbo; subst hl2; subst hu
  refine ⟨_,.mk xs2 ho hsl hxl2 hur,?_,hx0,hi2⟩
  have h5:=qiW hxl' e0 e1 e2 e3 e4
  have p0:=qf3 y0.1
  have p1:=qf3 y2.1
  dsimp only at h5 ⊢
  rw [Tree.size_mk,h5]
  omega
theorem qiY (hT:TreeTys P T TL TU TG TB TI TO TK T8) (fuel:Nat) (cs:List Value) (x:DataW H × List MemPlace) (h:DataW.trod enc P W 0 sp hd fuel T cs = some x) (hb:uptoBulk x.1 ≤ 1048576):∃ t,TreeR W (fun _ _=>True) cs t ∧ t.size ≤ 8 * uptoBulk x.1:=by
 obtain ⟨t,h1,h2,_⟩:=qhU hT fuel cs x h hb
 exact ⟨t,h1,h2⟩
end
section
variable {H:Type} {enc:TypeId × Value → H} {P:Program}
open Go.ChangeShapes Go.WideShapes Go.ChangeAt Go.RowKit
theorem Step.same {W W':World} (h:Step W W' Nil) {b:Nat} (hb:b < W.heap.size):W'.heap[b]? = W.heap[b]?:=(h.keeps b hb).1 fun _ hn=>hn
theorem Step.sameAt {W W':World} (h:Step W W' Nil) {p:MemPlace} (hp:p.block < W.heap.size):W.sameAt W' p:=by
 cases p with
 | cell b o=>exact World.cell_of_heap (h.same hp)
 | map b=>exact h.same hp
theorem Step.keptBut {W W':World} (h:Step W W' Nil) (may:MemPlace → Prop):W.keptBut W' may:=by
 refine ⟨h.os,h.output,fun i hi=>?_⟩
 rw [h.same hi]
 cases hx:W.heap[i]? with
 | none=>rfl
 | some x =>
  cases x with
  | cells c t f=>exact ⟨rfl,rfl,rfl,fun _ _=>rfl⟩
  | map es clock=>exact .inr ⟨rfl,rfl⟩
  | _=>rfl
theorem qeB (hl:laidOutB P = true) {W W':World} (hs:Step W W' Nil):∀ {ts:List TypeId} {vs:List Value} {ds:List (DataW H)} {ps:List MemPlace},(∀ t ∈ ts,P.readableRec t = true ∧ t < P.types.size) → DataW.TrodAll enc P W 0 (fun _=>true) true ts vs ds ps → (∀ p ∈ ps,p.block < W.heap.size) →
  DataW.TrodAll enc P W' 0 (fun b=>decide (b < W.heap.size)) true ts vs ds ps
 | [],vs,ds,ps,_,h,_=>by
  obtain ⟨rfl,rfl,rfl⟩:=trodAll_nil h
  exact rfl
 | t :: ts,vs,ds,ps,ht,h,hp=>by
  obtain ⟨v,vs',d,ds',p,q,rfl,rfl,rfl,h1,h2⟩:=trodAll_cons h
  have h0:=ht t (List.mem_cons_self ..)
  refine ⟨p,q,?_,qeB hl hs (fun t' h'=>ht t' (List.mem_cons_of_mem _ h')) h2 (fun x hx=>hp x (List.mem_append_right _ hx)),rfl⟩
  exact Go.WideElems.Trod_stays hl h0.1 h0.2 h1 (fun x hx=>hs.sameAt (hp x (List.mem_append_left _ hx))) (fun x hx=>decide_eq_true (hp x (List.mem_append_left _ hx)))
theorem qiZ {f:Func} {s:ChangeSpec} {W W':World} {args:Array Value} {v:Value} {ds gs:List (DataW H)} {before:List MemPlace} {handsOn:Bool}
  (hW:DataW.Whole enc P f.params.toList s.vars false W args.toList ds gs before) (hs:Step W W' Nil) (hl:laidOutB P = true) (hpar:∀ t ∈ f.params.toList,P.readableRec t = true ∧ t < P.types.size)
  (hv:s.vars = []) (hargs:(s.fn H (ds ++ gs)).args = ds) (hvars:(s.fn H (ds ++ gs)).vars = [])
  (hres:∀ (b:Nat) (sp:Nat → Bool) (hd:Bool),DataW.TrodAll enc P W' b sp hd f.resultTypes.toList (v.resultList f.resultTypes.size) (s.fn H (ds ++ gs)).results []) :
  s.post enc P f false true handsOn false W args v W':=by
 have hlt:∀ p ∈ before,p.block < W.heap.size:=fun p hp=>hW.lt p hp
 obtain ⟨p,q,hA,hV,rfl,_,_⟩:=id hW
 rw [hv] at hV
 obtain ⟨rfl,rfl⟩:=trodVars_none hV
 refine ⟨ds,[],_,[],p,[],hW,hres _ _ _,?_,?_,hs.keptBut _,fun h=>by cases h⟩
 ·rw [hargs]
  exact qeB hl hs hpar hA (fun x hx=>hlt x (List.mem_append_left _ hx))
 rw [hvars,hv]; exact rfl
end
end Go.Proofs.YtajibgahdkllkaaGreat.ME
namespace Go.Proofs.YtajibgahdkllkaaGreat.ME
open Go
open Go.RowKit
set_option linter.unusedVariables false
set_option linter.unusedSimpArgs false
set_option maxRecDepth 20000
section
variable {P:Program} {ops:Array Oper} {Q:Exit → Act → World → Prop} {n:Nat} {tb:Tb} {env:Env} {rs:List Rw} {w0:World} {M:Nat → Nat → Prop} {a:Act} {w:World}
theorem qg2 {i d:Nat} {t u e e':TypeId} {bytes b c:Nat} {A:Option Addr} {s:Bs} {F:Nat → Nat → Prop} {zs:Array Value} {N:Act → World → Prop} (hE:EnvOk n tb env a)
  (h:qjl tb env ops n i = some (t,u,.slice (some ⟨b,0,none⟩) 16 16,.slice A s.length c,d)) (ht:qcY P t = some (e,1,bytes)) (hb:w.heap[b]? = some (.cells zs e' (0,0))) (hz:zs = ((List.range 16).map fun _=>qac 0).toArray)
  (hs:Octs w F A c s)
  (K:∀ a' w',Step w w' (fun b' _=>b' = b) → At w' b 0 ((List.range 16).map fun i=>qac (s.getD i 0)) → (∀ j,w'.frozen? ⟨b,j,none⟩ = false) → (∃ v,EnvOk n tb ((d,.v v) :: env) a') → N a' w'):wpOp P ops Q i N a w:=by
 obtain ⟨ht',inf,z,hi,hz',hzs,hs1,rfl,hsz,hbp⟩:=qcH ht
 obtain ⟨op,ho,hd,hrun⟩:=qhb (P:=P) (w:=w) hE h
 have hsz':(P.info? e).map (·.size) = some 1:=by rw [hi]; simp [hs1]
 have hb16:zs.size = 16:=by rw [hz]; simp
 by_cases h0:min s.length 16 = 0
 ·have hr:=fun ty=>run_copy_none (P:=P) w t u ty e (some ⟨b,0,none⟩) A 16 16 s.length c ht' hsz' h0
  refine qa5 hE ho (v:=.int .i64 0) (w':=w) (fun o hop=>hrun o _ _ hop (hr o.type)) ?_
  have hs0:s = []:=List.eq_nil_of_length_eq_zero (by omega)
  subst hs0
  refine K _ w (Step.refl _ _) (fun j v hj=>?_) (fun j=>by simp [World.frozen?,hb]) ⟨_,hE.put hd (.v _) trivial⟩
  subst hz
  rw [Nat.zero_add]
  simp only [World.cell?,hb]
  simpa using hj
 have hsrc:=hs.src
 have hA:∃ ad,A = some ad:=by
  cases A with
  | none=>have:=hsrc.nil rfl; omega
  | some ad=>exact ⟨ad,rfl⟩
 obtain ⟨ad,rfl⟩:=hA
 have hcl:((bc s).take (min s.length 16)).length = min s.length 16:=by rw [List.length_take]; simp
 have hr:=fun ty=>run_copy_row P w t u ty e b 0 16 16 ad s.length c zs e' ((bc s).take (min s.length 16)) ht' hsz' hb hcl (fun j v hj=>hsrc.cells ad rfl j v (by
  rw [List.getElem?_take] at hj
  split at hj
  ·exact hj
  cases hj)) (by rw [hcl]; omega) (fun v hv=>qcZ s v (List.mem_of_mem_take hv))
 have hw:=setRow_heap w b zs (zs.toList.take 0 ++ (bc s).take (min s.length 16) ++ zs.toList.drop (0 + ((bc s).take (min s.length 16)).length)).toArray e' _ hb
 refine qa5 hE ho (v:=.int .i64 ((min s.length 16:Nat):Int)) (w':=w.setRow b (zs.toList.take 0 ++ (bc s).take (min s.length 16) ++ zs.toList.drop (0 + ((bc s).take (min s.length 16)).length)).toArray) (fun o hop=>hrun o _ _ hop (by rw [hr o.type]; simp only [hcl]; rfl)) ?_
 refine K _ _ (Step.setRow w b _) (fun j v hj=>?_) (fun j=>by unfold World.frozen?; rw [hw]; simp) ⟨_,hE.put hd (.v _) trivial⟩
 rw [Nat.zero_add j]
 unfold World.cell?
 rw [hw]
 simp only [Option.isSome_none,Bool.false_eq_true,if_false]
 have hj16:j < 16:=by
  have:=(List.getElem?_eq_some_iff.1 hj).1
  simpa using this
 rw [List.getElem?_map,List.getElem?_range hj16] at hj
 simp only [Option.map_some,Option.some.injEq] at hj
 subst hj
 simp only [List.take_zero,List.nil_append,Nat.zero_add]
 rw [← Array.getElem?_toList,List.toList_toArray,List.getElem?_append,hcl]
 by_cases hjs:j < min s.length 16
 ·rw [if_pos hjs,List.getElem?_take,if_pos hjs,bc,List.getElem?_map,List.getElem?_eq_getElem (by omega),List.getD_eq_getElem?_getD,List.getElem?_eq_getElem (by omega)]
  rfl
 rw [if_neg hjs,List.getElem?_drop,hz,List.toList_toArray,List.getElem?_map,List.getElem?_range (by omega),List.getD_eq_getElem?_getD,List.getElem?_eq_none (by omega)]
 rfl
theorem qg3 {i d:Nat} {cs:List Value} {N:Act → World → Prop} (hE:EnvOk n tb env a) (h:qfq P env ops n i = some (d,cs))
  (k:∀ t a',EnvOk n tb ((d,.v (.pointer (some ⟨w.heap.size,0,none⟩))) :: env) a' → N a' (w.alloc (.cells cs.toArray t))):wpOp P ops Q i N a w:=by
 unfold qfq at h
 split at h
 ·rename_i t d' ho
  split at h
  ·rename_i inf hi
   split at h
   ·rename_i z hz
    simp only [Option.some.injEq,Prod.mk.injEq] at h
    obtain ⟨rfl,rfl⟩:=h
    have hd:d' < n:=(qbt hE ho).choose_spec.2.2.2.1
    refine qa5 hE ho (v:=.pointer (some ⟨w.heap.size,0,none⟩)) (w':=w.alloc (.cells z.cells t)) ?_ ?_
    ·intro o hop
     unfold execOp
     rw [hop]
     simp only [Instr.alloc,Sem.run_bind,run_zeroValue' hi hz,Result.andThen_ok,newVar,newRow,run_newObj,Sem.run_pure]
     rfl
    have:=k t _ (hE.put hd (.v (.pointer (some ⟨w.heap.size,0,none⟩))) trivial)
    rw [Array.toArray_toList] at this
    exact this
   cases h
  cases h
 cases h
end
theorem At.wok {w0 w:World} {b:Nat} {cs:List Value} (hs:Step w0 w Nil) (h:At w b 0 cs) (hf:∀ j,w.frozen? ⟨b,j,none⟩ = false) (hb:w0.heap.size ≤ b) (hn:Nat.blt 0 cs.length = true):WOk w0 Nil w [⟨b,0,cs,true⟩] []:=by
 have hn':0 < cs.length:=by simpa [Nat.blt_eq] using hn
 have hl:=World.lt_of_cell (h 0 _ (List.getElem?_eq_getElem hn'))
 exact ((WOk.start w0 Nil).next hs (fun _ _ _ f=>f.elim) (fun i o hi=>by simp at hi) (fun i r hi=>by simp at hi)).add ⟨b,0,cs,true⟩ hl (fun j v hj=>h j v hj) (fun _ j hj=>⟨.inl hb,by simpa using hf j⟩) (fun i ob hi=>by simp at hi) (fun i r hi=>by simp at hi)
def bs (s:Bs):ByteArray:=⟨s.toArray⟩
theorem qf6 (s:Bs):sb (bs s) = s:=by simp [sb,bs]
theorem qcX (s:Bs):(bs s).size = s.length:=by simp [bs,ByteArray.size]
def qdf (t:Tree):Bs:=if t.null then [] else t.S
section
variable {P:Program} {n:Nat} {w0:World} {A0:Option Addr} {e8 d:Nat} {tb:Tb} {env e1 env':Env} {c c1 c2:Code} {x x1 x2 y:Bs}
theorem qfn {o:Operand} {b:Bool} (hb:∀ A m cp,opd ((d,.v (.slice A m cp)) :: env) o = some (.v (.bool b))) (h1:b = true → Ch P n w0 A0 e8 d tb env env' c1 x1) (h2:b = false → Ch P n w0 A0 e8 d tb env env' c2 x2) :
  Ch P n w0 A0 e8 d tb env env' (.cond o c1 c2) (if b = true then x1 else x2) :=
 qic hb (fun h=>qjj (h1 h) (by rw [if_pos h])) (fun h=>qjj (h2 h) (by rw [if_neg (by rw [h]; decide)]))
end
section
variable {P:Program} {ops:Array Oper} {Q:Exit → Act → World → Prop} {n:Nat} {tb:Tb} {env:Env} {rs:List Rw} {w0:World} {M:Nat → Nat → Prop} {a:Act} {w:World}
def qkH (tb:Tb) (env:Env) (ops:Array Oper) (n i:Nat):Option (TypeId × TypeId × Value × Nat) :=
 match opAt env ops n i with
 | some (.convert src dst x,d)=>match opd env x with
  | some (.v v)=>some (src,dst,v,d)
  | _=>none
 | _=>none
theorem qgD {i d:Nat} {src dst e c:Nat} {A:Option Addr} {s:Bs} {F:Nat → Nat → Prop} {N:Act → World → Prop} (hE:EnvOk n tb env a) (h:qkH tb env ops n i = some (src,dst,.slice A s.length c,d)) (hs:P.underlying src = some (.slice e)) (he:P.underlying e = some (.int .u8)) (hd:P.underlying dst = some .string)
  (ho:Octs w F A c s) (K:∀ a',EnvOk n tb ((d,.v (.string (bs s))) :: env) a' → N a' w):wpOp P ops Q i N a w:=by
 unfold qkH at h
 split at h
 ·rename_i src' dst' x d' hop
  split at h
  ·rename_i v hx
   simp only [Option.some.injEq,Prod.mk.injEq] at h
   obtain ⟨rfl,rfl,rfl,rfl⟩:=h
   have hdn:=(qbt hE hop).choose_spec.2.2.2.1
   have hrun:(convert src' dst' (.slice A s.length c)).run P w = .ok (.string (bs s)) w:=by
    have hsrc:=ho.src
    cases A with
    | none =>
     have h0:s = []:=List.eq_nil_of_length_eq_zero (ho.none_ rfl).1
     subst h0
     exact run_convert_bytes_nil w src' e hs he _ _ dst' hd
    | some ad =>
     have hl:(loadCells ad s.length).run P w = .ok ((s.map fun b=>((b.toNat:Nat):Int)).map (Value.int .u8)).toArray w:=by
      have:=run_loadCells_list (P:=P) w ad (bc s) (fun j v hj=>hsrc.cells ad rfl j v hj)
      rw [show (bc s).length = s.length from by simp [bc]] at this
      rw [this]
      simp [bc]
     rw [run_convert_bytes_string w src' dst' e _ s.length c hs he hd,run_bytesToString w _ s.length c _ hl,foldl_push_bytes]
     congr 2
     simp only [bs,ByteArray.empty,ByteArray.emptyWithCapacity]
     have e3:(s.map fun b=>((b.toNat:Nat):Int)).map (fun n=>UInt8.ofNat n.toNat) = s:=by
      rw [List.map_map]
      conv=>rhs; rw [← List.map_id s]
      exact List.map_congr_left fun b _=>by simp
     rw [e3]
     simp
     rfl
   refine qa5 hE hop (v:=.string (bs s)) (w':=w) ?_ (K _ (hE.put hdn (.v _) trivial))
   intro o ho'
   unfold execOp
   rw [ho']
   simp only [(qaZ hE hx).1,SV.val,Sem.run_bind,hrun,Result.andThen_ok,Sem.run_pure]
  cases h
 cases h
end
theorem uv0:uv 0 = [0]:=by rw [uv]; rfl
theorem qkI {v:Int} {d:Nat} {l:List Fld} {t:Tree} {i:Nat} {k x1 x2 x3 x4 x5 x6:Int} {s:List Fld} (h:l[i]? = some (.mk k x1 x2 x3 x4 x5 x6 s)) (hk:k = 8 ∨ k = 9) :
  qdf ((fitT v (d + 1) l t).at_ i) = (if Fld.nul (.mk k x1 x2 x3 x4 x5 x6 s) v (t.at_ i) = true then [] else qay (t.at_ i).S) ∧ ((fitT v (d + 1) l t).at_ i).null = Fld.nul (.mk k x1 x2 x3 x4 x5 x6 s) v (t.at_ i):=by
 rw [qfB h]
 have e1:k ≠ 11:=by omega
 have e:qbJ (fitT v d) v (.mk k x1 x2 x3 x4 x5 x6 s) (t.at_ i) = .mk 0 (qay (t.at_ i).S) (Fld.nul (.mk k x1 x2 x3 x4 x5 x6 s) v (t.at_ i)) [] []:=by
  simp [qbJ,qbf,Fld.kind,e1,hk]
 rw [e]
 exact ⟨rfl,rfl⟩
theorem qkk {v:Int} {d:Nat} {l:List Fld} {t:Tree} {i:Nat} {k x1 x2 x3 x4 x5 x6:Int} {s:List Fld} (h:l[i]? = some (.mk k x1 x2 x3 x4 x5 x6 s)) (hk:k = 8 ∨ k = 9):(qdf ((fitT v (d + 1) l t).at_ i)).length ≤ 1000000:=by
 rw [(qkI h hk).1]
 split
 ·exact Nat.zero_le _
 exact Nat.le_trans (qbn _) (by decide)
section
variable {P:Program} {n:Nat} {w0:World} {A0:Option Addr} {e8 d:Nat} {tb:Tb} {env e1 env':Env} {c c1 c2:Code} {x x1 x2 y:Bs}
def qkl (P:Program) (ops:Array Oper) (n:Nat) (tb:Tb) (i:Nat) (keys:List Nat) (env:Env) (bb oo:Nat) (cs:List Value):Option ((TypeId × Option Addr × Nat × Int) × Env) :=
 match runs P ops n tb (List.range i) env with
 | some e=>match idxE tb e ops n i with
  | some (t,A,m,q,dd)=>match qcF P ops n (tb ++ [⟨bb,oo,cs,false⟩]) (upto (i + 1) ops.size) keys ((dd,.p tb.length 0) :: e) with
   | some e'=>some ((t,A,m,q),e')
   | none=>none
  | none=>none
 | none=>none
theorem qjH {ops:Array Oper} {i:Nat} {keys:List Nat} {bb oo:Nat} {cs:List Value} {t:TypeId} {A:Option Addr} {m:Nat} {q:Int} (h:qkl P ops n tb i keys env bb oo cs = some ((t,A,m,q),env')) :
  ∃ e dd,runs P ops n tb (List.range i) env = some e ∧ idxE tb e ops n i = some (t,A,m,q,dd) ∧ qcF P ops n (tb ++ [⟨bb,oo,cs,false⟩]) (upto (i + 1) ops.size) keys ((dd,.p tb.length 0) :: e) = some env':=by
 unfold qkl at h
 split at h
 ·rename_i e he
  split at h
  ·rename_i t' A' m' q' dd ht
   split at h
   ·rename_i e' he'
    simp only [Option.some.injEq,Prod.mk.injEq] at h
    obtain ⟨⟨rfl,rfl,rfl,rfl⟩,rfl⟩:=h
    exact ⟨e,dd,he,ht,he'⟩
   cases h
  cases h
 cases h
theorem qef {id:Nat} {ops:Array Oper} {F:Nat → Nat → Prop} (i:Nat) (keys:List Nat) {t e:TypeId} {size bytes len j cp':Nat} {A:Option Addr} {cs:Nat → List Value}
  (h:∀ bb oo B m cp,qkl P ops n tb i (d :: keys) ((d,.v (.slice B m cp)) :: env) bb oo (cs j) = some ((t,A,len,((j:Nat):Int)),(d,.v (.slice B m cp)) :: e1))
  (hi:Nat.blt i ops.size = true) (ht:qcY P t = some (e,size,bytes)) (hs:Slots w0 F size A cp' len cs) (hj:j < len) (hF:∀ b o,F b o → ¬ Blk A0 b o) (hn:Nat.blt 0 (cs j).length = true) (hne:tb.all (fun ob=>!ob.rw || Nat.blt 0 ob.cells.length) = true) (hp:qeT tb.length env' = true)
  (hc:∀ bb oo,AtF w0 F bb oo (cs j) → Ch P n w0 A0 e8 d (tb ++ [⟨bb,oo,cs j,false⟩]) e1 env' c2 x):Ch P n w0 A0 e8 d tb env env' (.seq (.region id ops false) c2) x:=fun Q B cp s a w hE hW hr k=>by
 have hi':i < ops.size:=by simpa [Nat.blt_eq] using hi
 cases hA:A with
 | none=>have:=(hs.none_ hA).1; omega
 | some ad =>
  obtain ⟨bb,oo,rfl,h4⟩:=hs.some_ ad hA (by omega)
  obtain ⟨_,hat⟩:=h4 j hj
  obtain ⟨e0,dd,h1,h2,h3⟩:=qjH (h bb (oo + j * size) B s.length cp)
  refine qad (List.range i ++ i :: upto (i + 1) ops.size) (by rw [← qbH hi']; rfl) ?_
  refine qbo hW.cells hE h1 fun a1 hE1=>qah (qaM hE1 h2 ht hA rfl hj fun a2 hE2=>?_)
  have hW2:=hW.addRead hat hF hn hne
  have hE3:EnvOk n (tb ++ [⟨bb,oo + j * size,cs j,false⟩]) ((dd,.p tb.length 0) :: (dd,.v (.pointer (some ⟨bb,oo + j * size,none⟩))) :: e0) a2 :=
   (hE2.grow ⟨bb,oo + j * size,cs j,false⟩).recast dd (.v (.pointer (some ⟨bb,oo + j * size,none⟩))) (.p tb.length 0) (by simp [lk]) (by simp [SV.val,obAt,List.getD_eq_getElem?_getD]) (by simp [SV.ok])
  have hE4:EnvOk n (tb ++ [⟨bb,oo + j * size,cs j,false⟩]) ((dd,.p tb.length 0) :: e0) a2:=by
   refine ⟨hE3.defers,hE3.size,fun s' y hl=>hE3.at_ s' y ?_⟩
   revert hl
   simp only [lk]
   split <;> first | exact id | (intro hl; simp_all)
  refine qaT (upto (i + 1) ops.size) [] (d :: keys) hW2 hE4 h3 (List.append_nil _).symm fun a3 hE5=>qae (qaa ?_)
  refine hc bb (oo + j * size) hat Q B cp s a3 w hE5 hW2 hr fun A' cp' a' w' hE' hW'=>?_
  have g1:=EnvOk.cutTb tb.length hE' (by simpa [qeT] using hp)
  have g2:=hW'.cutTb tb.length
  rw [List.take_left' rfl] at g1 g2
  exact k A' cp' a' w' g1 g2
end
section
variable {P:Program} {n:Nat} {w0:World} {A0:Option Addr} {e8 d:Nat} {tb:Tb} {env e1 env':Env} {c:Code} {x:Bs}
theorem qkJ {F:Nat → Nat → Prop} {A:Option Addr} {b o:Nat} {cs:List Value} (k:Nat) (hA:A = some ⟨b,o,none⟩) (hat:AtF w0 F b o cs) (hF:∀ b o,F b o → ¬ Blk A0 b o) (hn:Nat.blt 0 cs.length = true) (hne:tb.all (fun ob=>!ob.rw || Nat.blt 0 ob.cells.length) = true)
  (hk:∀ B m cp,lk ((d,.v (.slice B m cp)) :: env) k = some (.v (.pointer A))) (he:∀ B m cp,pick ((k,.p tb.length 0) :: (d,.v (.slice B m cp)) :: env) (d :: qdZ e1) = some ((d,.v (.slice B m cp)) :: e1)) (hp:qeT tb.length env' = true)
  (h:Ch P n w0 A0 e8 d (tb ++ [⟨b,o,cs,false⟩]) e1 env' c x):Ch P n w0 A0 e8 d tb env env' c x:=fun Q B cp s a w hE hW hr kk=>by
 subst hA
 have hE2:=(hE.grow ⟨b,o,cs,false⟩).recast k (.v (.pointer (some ⟨b,o,none⟩))) (.p tb.length 0) (hk _ _ _) (by simp [SV.val,obAt,List.getD_eq_getElem?_getD]) (by simp [SV.ok])
 refine h Q B cp s a w (hE2.pick (he _ _ _)) (hW.addRead hat hF hn hne) hr fun A' cp' a' w' hE' hW'=>?_
 have g1:=EnvOk.cutTb tb.length hE' (by simpa [qeT] using hp)
 have g2:=hW'.cutTb tb.length
 rw [List.take_left' rfl] at g1 g2
 exact kk A' cp' a' w' g1 g2
end
section
variable {P:Program} {n:Nat} {w0:World} {A0:Option Addr} {e8 d:Nat} {tb:Tb} {env env':Env}
theorem qj0 {id:Nat} {ops:Array Oper} (keys:List Nat) (p d1 d2 t:Nat) {cs:List Value} (x:Bs) (hs:Nat.beq ops.size 4 = true)
  (h0:∀ A m cp,runs P ops n tb [0] ((d,.v (.slice A m cp)) :: env) = some ((p,.v (.slice A m cp)) :: (d,.v (.slice A m cp)) :: env))
  (h1:∀ A m cp,litE P tb ((p,.v (.slice A m cp)) :: (d,.v (.slice A m cp)) :: env) ops n 1 = some (e8,1,1,cs,d1))
  (h2:∀ A m cp b,appE tb ((d1,.v (.slice (some ⟨b,0,none⟩) 1 1)) :: (p,.v (.slice A m cp)) :: (d,.v (.slice A m cp)) :: env) ops n 2 = some (t,t,.slice A m cp,.slice (some ⟨b,0,none⟩) 1 1,d2))
  (h3:∀ A m cp b A' m' cp',qcF P ops n tb [3] (d :: keys) ((d2,.v (.slice A' m' cp')) :: (d1,.v (.slice (some ⟨b,0,none⟩) 1 1)) :: (p,.v (.slice A m cp)) :: (d,.v (.slice A m cp)) :: env) = some ((d,.v (.slice A' m' cp')) :: env'))
  (ht:qcY P t = some (e8,1,1)) (hcs:cs = bc x) (hx:x.length = 1):Ch P n w0 A0 e8 d tb env env' (.region id ops false) x:=fun Q A cp s a w hE hW hr k=>by
 have hs':ops.size = 4:=Nat.eq_of_beq_eq_true hs
 have hone:qej cs = true:=by
  subst hcs
  match x,hx with
  | [_],_=>rfl
 refine qap ([0] ++ [1,2,3]) (by rw [hs']; rfl) (qbo hW.cells hE (h0 _ _ _) fun a1 hE1=>qbl (rest:=[3]) (k:=0) hW hE1 (h1 _ _ _) ht (fun b=>h2 _ _ _ b) rfl hone (by omega) fun A' c' a2 w' hF hW' hb=>?_)
 obtain ⟨b,hE2⟩:=hb
 have e:([brow A cp e8 s]:List Rw).set 0 ⟨A',c',e8,1,s.length + 1,bc s ++ cs⟩ = [brow A' c' e8 (s ++ x)]:=by
  show [_] = _
  rw [qbr (s:=s) (t:=x) hcs (by rw [hx])]
 rw [e] at hW'
 refine qaT [3] [] (d :: keys) hW' hE2 (h3 _ _ _ b _ _ _) (List.append_nil _).symm fun a3 hE3=>qae ?_
 exact k A' c' a3 w' (by rw [List.length_append,hx]; exact hE3) hW'
end
def lst (t:Tree):List Tree:=if t.null then [] else t.L
theorem qdp {l:Nat} {L:List Tree} {g:Nat → Bs} {h:Tree → Bs} (hl:l = L.length) (he:∀ i,i < l → g i = h (L.getD i .zero)):(List.range l).flatMap g = L.flatMap h:=by
 subst hl
 have e:L = (List.range L.length).map fun i=>L.getD i .zero:=by
  apply List.ext_getElem?
  intro i
  rw [List.getElem?_map]
  by_cases hi:i < L.length
  ·rw [List.getElem?_range hi,List.getElem?_eq_getElem hi,Option.map_some,List.getD_eq_getElem?_getD,List.getElem?_eq_getElem hi]; rfl
  rw [List.getElem?_eq_none (by omega),List.getElem?_eq_none (by simpa using hi)]; rfl
 conv=>rhs; rw [e]
 rw [List.flatMap_map]
 have hm:(List.range L.length).map g = (List.range L.length).map fun i=>h (L.getD i .zero):=List.map_congr_left fun i hi=>he i (List.mem_range.1 hi)
 rw [List.flatMap_def,List.flatMap_def,hm]
theorem qdF (Ap:Option Addr) (t:ByteArray) (A:Option Addr) (cp:Nat) (s:Bs) (w:World) (ho:w.ownsRow 0 5 1 (.slice A s.length cp) s.length (bc s)) (F:Nat → Nat → Prop) (hF:∀ b o,F b o → ¬ Blk A b o) (hO:∀ ad,Ap = some ad → ∃ b o,ad = ⟨b,o,none⟩ ∧ AtF w F b o [.string t]) (hsm:t.size ≤ 1000000) (hroom:s.length + (if Ap.isNone = true then be 2 (-1) else be 2 t.size ++ sb t).length + 16 ≤ 1099511627776) :
  Calls Tryz.prog 38 (.slice A s.length cp :: [.pointer Ap]).toArray w (qbu w 5 A (s ++ (if Ap.isNone = true then be 2 (-1) else be 2 t.size ++ sb t))):=by
 have h:=qdD Ap t A cp s w ho F hF hO hsm (by cases Ap <;> simpa using hroom)
 cases Ap <;> simpa using h
theorem qcM (Ap:Option Addr) (t:ByteArray) (A:Option Addr) (cp:Nat) (s:Bs) (w:World) (ho:w.ownsRow 0 5 1 (.slice A s.length cp) s.length (bc s)) (F:Nat → Nat → Prop) (hF:∀ b o,F b o → ¬ Blk A b o) (hO:∀ ad,Ap = some ad → ∃ b o,ad = ⟨b,o,none⟩ ∧ AtF w F b o [.string t]) (hsm:t.size ≤ 1000000) (hroom:s.length + (if Ap.isNone = true then uv 0 else uv (t.size + 1) ++ sb t).length + 16 ≤ 1099511627776) :
  Calls Tryz.prog 37 (.slice A s.length cp :: [.pointer Ap]).toArray w (qbu w 5 A (s ++ (if Ap.isNone = true then uv 0 else uv (t.size + 1) ++ sb t))):=by
 have h:=qcJ Ap t A cp s w ho F hF hO hsm (by cases Ap <;> simpa using hroom)
 cases Ap <;> simpa using h
end Go.Proofs.YtajibgahdkllkaaGreat.ME