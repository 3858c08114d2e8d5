/- Packed. Own work. -/
import Derived.Test.YtoclgihkbmaolacGreatDoorWb0P0
import Derived.Test.YtoclgihkbmaolacGreatDoorProg
import Derived.Test.YtoclgihkbmaolacGreatDoorKl
import Derived.Test.YtoclgihkbmaolacGreatDoorTs
import Derived.Test.YtoclgihkbmaolacGreatDoorRows
import Derived.WalkKit
import Derived.ProofKit
import Derived.OpenShut
import Derived.JoinedCond
import Derived.WideKeyArgs
import Derived.ChangeSame
import Derived.Laws.BytesArg
import Derived.Lib.EndianBits
import Derived.Scope
import Derived.Lib.AppendZeros
namespace Go.Proofs.YtoclgihkbmaolacGreatDoor.ME
open Go
open Go.RowKit
open Go.ChangeMaps (setBlock)
set_option linter.unusedVariables false
set_option linter.unusedSimpArgs false
def J8:List (Int × Bs) → Int → Bs → List (Int × Bs)
 | [],k,s=>[(k,s)]
 | x :: r,k,s=>if k < x.1 then (k,s) :: x :: r else if k = x.1 then (k,s) :: r else x :: J8 r k s
theorem S6 {k:Int} {s:Bs}:∀ {u:List (Int × Bs)},(u.Pairwise fun x y=>x.1 < y.1) → ∀ x,x ∈ J8 u k s ↔ x = (k,s) ∨ (x ∈ u ∧ x.1 ≠ k)
 | [],_,x=>by simp [J8]
 | y :: r,h,x=>by
  have h1:=@List.rel_of_pairwise_cons _ _ _ _ h
  have ih:=S6 (k:=k) (s:=s) (List.Pairwise.of_cons h) x
  unfold J8
  split
  ·rename_i hlt
   simp only [List.mem_cons]
   constructor
   ·rintro (rfl | rfl | hx)
    ·exact .inl rfl
    ·exact .inr ⟨.inl rfl,by omega⟩
    exact .inr ⟨.inr hx,by have:=h1 hx; omega⟩
   rintro (rfl | ⟨rfl | hx,_⟩)
   ·exact .inl rfl
   ·exact .inr (.inl rfl)
   exact .inr (.inr hx)
  split
  ·rename_i hge heq
   simp only [List.mem_cons]
   constructor
   ·rintro (rfl | hx)
    ·exact .inl rfl
    exact .inr ⟨.inr hx,by have:=h1 hx; omega⟩
   rintro (rfl | ⟨rfl | hx,hne⟩)
   ·exact .inl rfl
   ·exact absurd heq.symm hne
   exact .inr hx
  rename_i hge hne
  simp only [List.mem_cons,ih]
  constructor
  ·rintro (rfl | rfl | ⟨hx,hk⟩)
   ·exact .inr ⟨.inl rfl,fun e=>hne e.symm⟩
   ·exact .inl rfl
   exact .inr ⟨.inr hx,hk⟩
  rintro (rfl | ⟨rfl | hx,hk⟩)
  ·exact .inr (.inl rfl)
  ·exact .inl rfl
  exact .inr (.inr ⟨hx,hk⟩)
theorem HU {k:Int} {s:Bs}:∀ {u:List (Int × Bs)},(u.Pairwise fun x y=>x.1 < y.1) → (J8 u k s).Pairwise fun x y=>x.1 < y.1
 | [],_=>by simp [J8]
 | y :: r,h=>by
  have h1:=@List.rel_of_pairwise_cons _ _ _ _ h
  have ih:=HU (k:=k) (s:=s) (List.Pairwise.of_cons h)
  unfold J8
  split
  ·rename_i hlt
   refine List.pairwise_cons.2 ⟨fun z hz=>?_,h⟩
   rcases List.mem_cons.1 hz with rfl | hz
   ·exact hlt
   have:=h1 hz; show k < z.1; omega
  split
  ·rename_i hge heq
   refine List.pairwise_cons.2 ⟨fun z hz=>?_,List.Pairwise.of_cons h⟩
   have:=h1 hz; show k < z.1; omega
  rename_i hge hne
  refine List.pairwise_cons.2 ⟨fun z hz=>?_,ih⟩
  rcases (S6 (List.Pairwise.of_cons h) z).1 hz with rfl | ⟨hz,_⟩
  ·show y.1 < k; omega
  exact h1 hz
theorem HV {k:Int} {s:Bs}:∀ {u:List (Int × Bs)},(∀ x ∈ u,x.1 < k) → J8 u k s = u ++ [(k,s)]
 | [],_=>rfl
 | y :: r,h=>by
  have h1:=h y (List.mem_cons_self ..)
  unfold J8
  rw [if_neg (by omega),if_neg (by omega),HV fun x hx=>h x (List.mem_cons_of_mem _ hx)]
  rfl
structure MapC (w:World) (G:Nat → Nat → Prop) (es:Array MapEntry) (clk:Nat) (u:List (Int × Bs)):Prop where
 sorted:u.Pairwise fun x y=>x.1 < y.1
 range:∀ x ∈ u,0 ≤ x.1 ∧ x.1 < 4294967296
 keys:(es.toList.map (·.key)).Perm (u.map fun x=>Value.int .u32 x.1)
 born:∀ e ∈ es.toList,e.born < clk
 once:(es.toList.map (·.born)).Nodup
 each:∀ e ∈ es.toList,∃ k s A c,e.key = .int .u32 k ∧ e.val = .slice A (s:Bs).length c ∧ Octs w G A c s ∧ (k,s) ∈ u
theorem MapC.move {w w':World} {F F' M:Nat → Nat → Prop} {es:Array MapEntry} {clk:Nat} {u:List (Int × Bs)} (h:MapC w F es clk u) (hs:Step w w' M) (hM:∀ b o,F b o → b < w.heap.size → ¬ M b o) (hF:∀ b o,F b o → b < w.heap.size → F' b o):MapC w' F' es clk u :=
 ⟨h.sorted,h.range,h.keys,h.born,h.once,fun e he=>by
  obtain ⟨k,s,A,c,g1,g2,g3,g4⟩:=h.each e he
  exact ⟨k,s,A,c,g1,g2,g3.move hs hM hF,g4⟩⟩
structure OwnM (w:World) (G:Nat → Nat → Prop) (m:Option Nat) (u:List (Int × Bs)):Prop where
 none_:m = none → u = []
 some_:∀ r,m = some r → ∃ es clk,w.heap[r]? = some (.map es clk) ∧ MapC w G es clk u
theorem OwnM.nil (w:World) (G:Nat → Nat → Prop):OwnM w G none []:=⟨fun _=>rfl,fun _ h=>by cases h⟩
theorem OwnM.move {w w':World} {F F' M:Nat → Nat → Prop} {m:Option Nat} {u:List (Int × Bs)} (h:OwnM w F m u) (hs:Step w w' M) (hM:∀ b o,F b o → b < w.heap.size → ¬ M b o) (hF:∀ b o,F b o → b < w.heap.size → F' b o) (hr:∀ r o,m = some r → ¬ M r o):OwnM w' F' m u :=
 ⟨h.none_,fun r e=>by
  obtain ⟨es,clk,h1,h2⟩:=h.some_ r e
  exact ⟨es,clk,hs.heap (fun o=>hr r o e) h1,h2.move hs hM hF⟩⟩
theorem OwnM.map {w:World} {G F:Nat → Nat → Prop} {m:Option Nat} {u:List (Int × Bs)} (h:OwnM w G m u) (hG:∀ b o,G b o → F b o) (hr:∀ r o,m = some r → F r o) (hsorted:u.Pairwise fun x y=>x.1 < y.1) (hrange:∀ x ∈ u,0 ≤ x.1 ∧ x.1 < 4294967296):MapR w F m u:=by
 refine ⟨hsorted,hrange,h.none_,fun r e=>⟨fun o=>hr r o e,?_⟩⟩
 obtain ⟨es,clk,h1,h2⟩:=h.some_ r e
 have h2':=h2.move (Step.refl w C7) B2 (fun b o hg _=>hG b o hg)
 exact ⟨es,clk,h1,h2'.keys,h2'.born,h2'.once,h2'.each⟩
theorem DP {u:List (Int × Bs)} (h:u.Pairwise fun x y=>x.1 < y.1):(u.map fun x=>Value.int .u32 x.1).Nodup:=by
 rw [List.nodup_iff_pairwise_ne,List.pairwise_map]
 exact h.imp fun h e=>by injection e with _ e; omega
theorem Step.setBlock (w:World) (r:Nat) (o:Obj):Step w (setBlock w r o) (fun b _=>b = r):=by
 refine ⟨rfl,rfl,by simp [ChangeMaps.setBlock],fun b hb=>?_⟩
 by_cases h:b = r
 ·exact ⟨fun hm=>absurd h (hm 0),fun ⟨o,ho⟩=>absurd h ho⟩
 have:(ChangeMaps.setBlock w r o).heap[b]? = w.heap[b]?:=by
  simp only [ChangeMaps.setBlock,Array.getElem?_setIfInBounds]
  rw [if_neg fun e=>h e.symm]
 rw [this]; exact Keeps.refl _ _
theorem HW {w:World} {r:Nat} {o o':Obj} (h:w.heap[r]? = some o'):(setBlock w r o).heap[r]? = some o:=by
 have hlt:r < w.heap.size:=(Array.getElem?_eq_some_iff.1 h).1
 simp only [ChangeMaps.setBlock,Array.getElem?_setIfInBounds,if_true,if_pos hlt]
section
variable {P:Program} {w:World} {G:Nat → Nat → Prop}
theorem run_setObj' {r:Nat} {es:Array MapEntry} {clk:Nat} (hr:w.heap[r]? = some (.map es clk)) (es':Array MapEntry) (clk':Nat):(setObj r (.map es' clk')).run P w = .ok () (setBlock w r (.map es' clk')):=by
 simp [setObj,Sem.run,hr,setBlock]
theorem run_mapUpdate' {t kt et:TypeId} {r:Nat} {es:Array MapEntry} {clk:Nat} {u:List (Int × Bs)} {k:Int} {A:Option Addr} {c:Nat} {s:Bs} (ht:Z9 P t = some (kt,et)) (hkt:P.underlying kt = some (.int .u32)) (hr:w.heap[r]? = some (.map es clk)) (hm:MapC w G es clk u)
  (hs:Octs w G A c s) (hk:0 ≤ k ∧ k < 4294967296) (hG:∀ b o,G b o → b ≠ r):∃ es' clk',(Instr.mapUpdate t (.map (some r)) (.int .u32 k) (.slice A s.length c)).run P w = .ok () (setBlock w r (.map es' clk')) ∧ MapC (setBlock w r (.map es' clk')) G es' clk' (J8 u k s):=by
 have hkeys:∀ e ∈ es.toList,∃ q,e.key = .int .u32 q:=fun e he=>by
  obtain ⟨q,_,_,_,h,_⟩:=hm.each e he; exact ⟨q,h⟩
 have hstep:=fun es' clk'=>Step.setBlock w r (.map es' clk')
 have hmove:∀ es' clk' {A c} {s:Bs},Octs w G A c s → Octs (setBlock w r (.map es' clk')) G A c s:=fun es' clk' {A c s} h=>h.move (hstep es' clk') (fun b o hg _=>hG b o hg) F3
 have hsT:=HU (k:=k) (s:=s) hm.sorted
 have hrT:∀ x ∈ J8 u k s,0 ≤ x.1 ∧ x.1 < 4294967296:=fun x hx=>by
  rcases (S6 hm.sorted x).1 hx with rfl | ⟨hx,_⟩
  ·exact hk
  exact hm.range x hx
 rcases FI (k:=k) es.toList 0 hkeys with ⟨h1,h2⟩ | ⟨j,e,h1,h2,h3,h4⟩
 ·-- a new key
  refine ⟨es.push { key:=.int .u32 k,val:=.slice A s.length c,born:=clk },clk + 1,?_,?_⟩
  ·unfold Instr.mapUpdate
   simp only [Sem.run_bind,run_underlying (BE ht),Result.andThen_ok,run_getObj' hr,FJ hkt,FK hkt h1,run_setObj' hr]
  have hnew:∀ x ∈ u,x.1 ≠ k:=fun x hx e=>by
   have:Value.int .u32 k ∈ es.toList.map (·.key):=hm.keys.mem_iff.2 (List.mem_map.2 ⟨x,hx,by rw [e]⟩)
   obtain ⟨e',he',hk'⟩:=List.mem_map.1 this
   exact h2 e' he' hk'
  refine ⟨hsT,hrT,?_,fun e he=>?_,?_,fun e he=>?_⟩
  ·have hn1:((es.push { key:=.int .u32 k,val:=.slice A s.length c,born:=clk }).toList.map (·.key)).Nodup:=by
    rw [Array.toList_push,List.map_append,List.nodup_append]
    refine ⟨hm.keys.nodup_iff.2 (DP hm.sorted),by simp,fun a ha b hb=>?_⟩
    simp only [List.map_cons,List.map_nil,List.mem_singleton] at hb
    subst hb
    obtain ⟨e',he',rfl⟩:=List.mem_map.1 ha
    exact h2 e' he'
   refine (List.perm_ext_iff_of_nodup hn1 (DP hsT)).2 fun v=>?_
   rw [Array.toList_push,List.map_append,List.mem_append,hm.keys.mem_iff]
   simp only [List.map_cons,List.map_nil,List.mem_singleton,List.mem_map]
   constructor
   ·rintro (⟨x,hx,rfl⟩ | rfl)
    ·exact ⟨x,(S6 hm.sorted x).2 (.inr ⟨hx,hnew x hx⟩),rfl⟩
    exact ⟨(k,s),(S6 hm.sorted _).2 (.inl rfl),rfl⟩
   rintro ⟨x,hx,rfl⟩
   rcases (S6 hm.sorted x).1 hx with rfl | ⟨hx,_⟩
   ·exact .inr rfl
   exact .inl ⟨x,hx,rfl⟩
  ·rw [Array.toList_push,List.mem_append] at he
   rcases he with he | he
   ·have:=hm.born e he; omega
   rw [List.mem_singleton.1 he]; exact Nat.lt_succ_self _
  ·rw [Array.toList_push,List.map_append,List.nodup_append]
   refine ⟨hm.once,by simp,fun a ha b hb=>?_⟩
   simp only [List.map_cons,List.map_nil,List.mem_singleton] at hb
   subst hb
   obtain ⟨e',he',rfl⟩:=List.mem_map.1 ha
   have:=hm.born e' he'
   omega
  rw [Array.toList_push,List.mem_append] at he
  rcases he with he | he
  ·obtain ⟨q,s',A',c',g1,g2,g3,g4⟩:=hm.each e he
   exact ⟨q,s',A',c',g1,g2,hmove _ _ g3,(S6 hm.sorted _).2 (.inr ⟨g4,hnew _ g4⟩)⟩
  rw [List.mem_singleton.1 he]
  exact ⟨k,s,A,c,rfl,rfl,hmove _ _ hs,(S6 hm.sorted _).2 (.inl rfl)⟩
 -- a key that is there
 have hj:j < es.size:=by have:=(List.getElem?_eq_some_iff.1 h1).1; simpa using this
 have hej:es[j]? = some e:=by simpa using h1
 have hmap:∀ {β:Type} (g:MapEntry → β),(∀ v,g { e with key:=.int .u32 k,val:=v } = g e) → (es.modify j fun e=>{ e with key:=.int .u32 k,val:=.slice A s.length c }).toList.map g = es.toList.map g:=fun {β} g hg=>by
  apply List.ext_getElem?
  intro i
  rw [List.getElem?_map,List.getElem?_map]
  simp only [Array.getElem?_toList,Array.getElem?_modify]
  split
  ·rename_i hij
   subst hij
   rw [hej]
   simp only [Option.map_some]
   rw [hg]
  rfl
 have hmem:∀ x ∈ (es.modify j fun e=>{ e with key:=.int .u32 k,val:=.slice A s.length c }).toList,x = { e with key:=.int .u32 k,val:=.slice A s.length c } ∨ ∃ i,i ≠ j ∧ es.toList[i]? = some x:=fun x hx=>by
  obtain ⟨i,hi⟩:=List.getElem?_of_mem hx
  simp only [Array.getElem?_toList,Array.getElem?_modify] at hi
  split at hi
  ·rename_i hij
   subst hij
   rw [hej] at hi
   exact .inl (Option.some.inj hi).symm
  rename_i hij
  exact .inr ⟨i,fun e=>hij e.symm,by simpa using hi⟩
 have hke:e.key = .int .u32 k:=h2
 refine ⟨es.modify j fun e=>{ e with key:=.int .u32 k,val:=.slice A s.length c },clk,?_,?_⟩
 ·unfold Instr.mapUpdate
  have hst:(Instr.keyThatStays (((es[j]?).map (·.key)).getD (.int .u32 k)) (.int .u32 k)).run P w = .ok (.int .u32 k) w:=by
   rw [hej]
   unfold Instr.keyThatStays
   simp only [Option.map_some,Option.getD_some,hke]
   have:Instr.sameBits 10000 (.int .u32 k) (.int .u32 k) = true:=by
    show Instr.sameBits (9999 + 1) _ _ = true
    generalize 9999 = d
    simp [Instr.sameBits]
   rw [this]; rfl
  simp only [Sem.run_bind,run_underlying (BE ht),Result.andThen_ok,run_getObj' hr,FJ hkt,FK hkt h3,hst,run_setObj' hr,Nat.zero_add]
 have hkeq:(es.modify j fun e=>{ e with key:=.int .u32 k,val:=.slice A s.length c }).toList.map (·.key) = es.toList.map (·.key):=hmap (·.key) fun v=>hke.symm
 have hbeq:(es.modify j fun e=>{ e with key:=.int .u32 k,val:=.slice A s.length c }).toList.map (·.born) = es.toList.map (·.born):=hmap (·.born) fun v=>rfl
 have hnd:(es.toList.map (·.key)).Nodup:=hm.keys.nodup_iff.2 (DP hm.sorted)
 have hkin:∃ x ∈ u,x.1 = k:=by
  have:Value.int .u32 k ∈ u.map fun x=>Value.int .u32 x.1:=hm.keys.mem_iff.1 (List.mem_map.2 ⟨e,List.mem_of_getElem? h1,hke⟩)
  obtain ⟨x,hx,he⟩:=List.mem_map.1 this
  injection he with _ he
  exact ⟨x,hx,he⟩
 refine ⟨hsT,hrT,?_,fun x hx=>?_,by rw [hbeq]; exact hm.once,fun x hx=>?_⟩
 ·rw [hkeq]
  refine (List.perm_ext_iff_of_nodup hnd (DP hsT)).2 fun v=>?_
  rw [hm.keys.mem_iff]
  simp only [List.mem_map]
  constructor
  ·rintro ⟨x,hx,rfl⟩
   by_cases hxk:x.1 = k
   ·exact ⟨(k,s),(S6 hm.sorted _).2 (.inl rfl),by rw [hxk]⟩
   exact ⟨x,(S6 hm.sorted x).2 (.inr ⟨hx,hxk⟩),rfl⟩
  rintro ⟨x,hx,rfl⟩
  rcases (S6 hm.sorted x).1 hx with rfl | ⟨hx,_⟩
  ·obtain ⟨y,hy,hye⟩:=hkin
   exact ⟨y,hy,by rw [hye]⟩
  exact ⟨x,hx,rfl⟩
 ·rcases hmem x hx with rfl | ⟨i,_,hi⟩
  ·exact hm.born e (List.mem_of_getElem? h1)
  exact hm.born x (List.mem_of_getElem? hi)
 rcases hmem x hx with rfl | ⟨i,hij,hi⟩
 ·exact ⟨k,s,A,c,rfl,rfl,hmove _ _ hs,(S6 hm.sorted _).2 (.inl rfl)⟩
 obtain ⟨q,s',A',c',g1,g2,g3,g4⟩:=hm.each x (List.mem_of_getElem? hi)
 refine ⟨q,s',A',c',g1,g2,hmove _ _ g3,(S6 hm.sorted _).2 (.inr ⟨g4,fun hq=>hij ?_⟩)⟩
 have hxi:(es.toList.map (·.key))[i]? = some (.int .u32 k):=by rw [List.getElem?_map,hi,Option.map_some,g1]; dsimp only at hq; rw [hq]
 have hxj:(es.toList.map (·.key))[j]? = some (.int .u32 k):=by rw [List.getElem?_map,h1,Option.map_some,hke]
 exact (List.getElem?_inj (List.getElem?_eq_some_iff.1 hxi).1 hnd).1 (hxi.trans hxj.symm)
end
end Go.Proofs.YtoclgihkbmaolacGreatDoor.ME
namespace Go.Proofs.YtoclgihkbmaolacGreatDoor.ME
open Go
open Go.RowKit
open Go.ChangeMaps (setBlock)
set_option linter.unusedVariables false
set_option linter.unusedSimpArgs false
set_option maxRecDepth 20000
theorem WOk.start1 {w:World} {M F:Nat → Nat → Prop} {b o:Nat} {cs:List Value} {tb:Tb} (hW:WOk w M w tb []) (hat:AtF w F b o cs) (hn:Nat.blt 0 cs.length = true) (hrw:tb.all (fun ob=>!ob.rw) = true):WOk w M w (tb ++ [⟨b,o,cs,false⟩]) []:=by
 have hn':0 < cs.length:=by simpa [Nat.blt_eq] using hn
 obtain ⟨g1,g2⟩:=hat 0 _ (List.getElem?_eq_getElem hn')
 refine hW.add ⟨b,o,cs,false⟩ (World.lt_of_cell g2) (fun j v hj=>(hat j v hj).2) (fun h=>by cases h) (fun i ob hi hr=>?_) (fun i r hi=>by simp at hi)
 rcases hr with hr | hr
 ·have:=List.all_eq_true.1 hrw ob (List.mem_of_getElem? hi)
  rw [hr] at this; cases this
 cases hr
theorem EnvOk.ptr0 {n:Nat} {env:B8} {a:Act} {b o:Nat} {cs:List Value} {r:Bool} (h:EnvOk n [] ((0,.v (.pointer (some ⟨b,o,none⟩))) :: env) a):EnvOk n [⟨b,o,cs,r⟩] ((0,.p 0 0) :: (0,.v (.pointer (some ⟨b,o,none⟩))) :: env) a :=
 (h.grow ⟨b,o,cs,r⟩).recast 0 (.v (.pointer (some ⟨b,o,none⟩))) (.p 0 0) rfl rfl (by simp [SV.ok])
theorem Ba {m:Option Nat} {u:List (Int × Bs)} {b o:Nat} {w:World} {F:Nat → Nat → Prop} (hat:AtF w F b o [.map m]) (hm:MapR w F m u) :
  Calls Tryz.prog 43 [.pointer (some ⟨b,o,none⟩)].toArray w (J9 w (.int .i64 ((u.length:Nat):Int))):=by
 refine enter (n:=8) Tryz.func43 rfl Tryz.ntmps43 kz fun a hE=>?_
 have hW:WOk w C7 w [⟨b,o,[.map m],false⟩] []:=(WOk.start w C7).start1 hat rfl rfl
 refine C1 [0] kz (F9 [0] [] [0] hW (EnvOk.ptr0 (cs:=[.map m]) (r:=false) hE) (env':=[(0,.p 0 0)]) kz rfl fun a1 hE1=>B4 (A4 ?_))
 refine C1 [0,1,2,3,4,5] kz ?_
 refine F9 [0,1,2,3] [4,5] [6] hW hE1 (env':=[(6,.v (.map m))]) kz rfl fun a2 hE2=>?_
 refine B1 (CZ (t:=59) (kt:=53) (et:=22) hE2 (m:=m) (d:=7) kz kz hm fun a3 hE3=>?_)
 refine F9 [5] [] [2] hW hE3 (env':=[(2,.v (.int .i64 ((u.length:Nat):Int)))]) kz rfl fun a4 hE4=>B4 (A4 (wp_ret ?_))
 exact D1 hE4 hW.cells (v:=.int .i64 ((u.length:Nat):Int)) kz ⟨rfl,Step.refl _ _⟩
section
variable {P:Program} {ops:Array Oper} {Q:Exit → Act → World → Prop} {n:Nat} {tb:Tb} {env:B8} {rs:List Rw} {w0:World} {M:Nat → Nat → Prop} {a:Act} {w:World} {G:Nat → Nat → Prop}
def HX (env:B8) (ops:Array Oper) (n i:Nat):Option Nat :=
 match F6 env ops n i with
 | some (.makeMap t none,d)=>some d
 | _=>none
theorem Lv {i d:Nat} {N:Act → World → Prop} (hE:EnvOk n tb env a) (h:HX env ops n i = some d) (K:∀ a',EnvOk n tb ((d,.v (.map (some w.heap.size))) :: env) a' → N a' (w.alloc (.map #[] 0))):wpOp P ops Q i N a w:=by
 unfold HX at h
 split at h
 ·rename_i t d' ho
  simp only [Option.some.injEq] at h
  subst h
  have hd:=(I6 hE ho).choose_spec.2.2.2.1
  refine L4 hE ho (v:=.map (some w.heap.size)) (w':=w.alloc (.map #[] 0)) ?_ (K _ (hE.put hd (.v _) trivial))
  intro o hop
  unfold execOp
  rw [hop]
  rfl
 cases h
def Da (env:B8) (ops:Array Oper) (i:Nat):Option (TypeId × Nat × Int × Value) :=
 match Ca ops i with
 | some (.mapUpdate t m k x)=>match E7 env m,E7 env k,E7 env x with
  | some (.v (.map (some r))),some (.v (.int .u32 q)),some (.v v)=>some (t,r,q,v)
  | _,_,_=>none
 | _=>none
theorem Lw {i:Nat} {t kt et:TypeId} {r:Nat} {es:Array MapEntry} {clk:Nat} {u:List (Int × Bs)} {k:Int} {A:Option Addr} {c:Nat} {s:Bs} {N:Act → World → Prop} (hE:EnvOk n tb env a) (h:Da env ops i = some (t,r,k,.slice A s.length c)) (ht:Z9 P t = some (kt,et)) (hkt:P.underlying kt = some (.int .u32)) (hr:w.heap[r]? = some (.map es clk)) (hm:MapC w G es clk u)
  (hs:Octs w G A c s) (hk:0 ≤ k ∧ k < 4294967296) (hG:∀ b o,G b o → b ≠ r) (K:∀ es' clk',MapC (setBlock w r (.map es' clk')) G es' clk' (J8 u k s) → N a (setBlock w r (.map es' clk'))):wpOp P ops Q i N a w:=by
 obtain ⟨es',clk',h1,h2⟩:=run_mapUpdate' (P:=P) ht hkt hr hm hs hk hG
 unfold Da at h
 split at h
 ·rename_i t' x y z ho
  split at h
  ·rename_i r' q v hs1 hs2 hs3
   simp only [Option.some.injEq,Prod.mk.injEq] at h
   obtain ⟨rfl,rfl,rfl,rfl⟩:=h
   refine Fd ho (w':=setBlock w r' (.map es' clk')) ?_ (K es' clk' h2)
   intro o hop
   unfold execOp
   rw [hop]
   simp only [(E9 hE hs1).1,(E9 hE hs2).1,(E9 hE hs3).1,SV.val,Sem.run_bind,h1,Result.andThen_ok,Sem.run_pure]
  cases h
 cases h
end
def Lx:Option Code → Array Oper
 | some (.seq _ (.region _ ops _))=>ops
 | _=>#[]
def HY (w:World) (G:Nat → Nat → Prop) (b o:Nat) (m:Option Nat) (u:List (Int × Bs)):Ending → World → Prop:=fun e w' =>
 e = .returned (.tuple #[]) ∧ ∃ r,w'.cell? ⟨b,o,none⟩ = some (.map (some r)) ∧ w'.frozen? ⟨b,o,none⟩ = false ∧ OwnM w' G (some r) u ∧ (m = some r ∨ w.heap.size ≤ r) ∧ Step w w' (fun b' o'=>(b' = b ∧ o' = o) ∨ m = some b')
theorem Co {w:World} {b o:Nat} {v:Value} (h:w.cell? ⟨b,o,none⟩ = some v) {r:Nat} {es:Array MapEntry} {clk:Nat} (hr:w.heap[r]? = some (.map es clk)):b ≠ r:=by
 rintro rfl
 unfold World.cell? at h
 rw [hr] at h
 cases h
theorem FL {m:Option Nat} {u:List (Int × Bs)} {b o c:Nat} {k:Int} {A:Option Addr} {s:Bs} {w:World} {G:Nat → Nat → Prop} (hcell:w.cell? ⟨b,o,none⟩ = some (.map m)) (hfz:w.frozen? ⟨b,o,none⟩ = false) (hm:OwnM w G m u) (hs:Octs w G A c s) (hk:0 ≤ k ∧ k < 4294967296)
  (hG:∀ b' o',G b' o' → ¬ (b' = b ∧ o' = o) ∧ m ≠ some b') (hG':∀ b' o',G b' o' → b' < w.heap.size) :
  Calls Tryz.prog 77 [.pointer (some ⟨b,o,none⟩),.int .u32 k,.slice A s.length c].toArray w (HY w G b o m (J8 u k s)):=by
 refine enter (n:=21) Tryz.func77 rfl Tryz.ntmps77 kz fun a hE=>?_
 have hW:WOk w (fun b' o'=>(b' = b ∧ o' = o) ∨ m = some b') w [⟨b,o,[.map m],true⟩] []:=by
  refine (WOk.start w _).add ⟨b,o,[.map m],true⟩ (World.lt_of_cell hcell) (fun j v hj=>?_) (fun _ j hj=>?_) (fun i ob hi=>by simp at hi) (fun i r hi=>by simp at hi)
  ·have hj0:j = 0:=by
    have:=(List.getElem?_eq_some_iff.1 hj).1
    simp at this; omega
   subst hj0
   simp only [List.getElem?_cons_zero,Option.some.injEq] at hj
   subst hj
   exact hcell
  have hj0:j = 0:=by simp at hj; omega
  subst hj0
  exact ⟨.inr (.inl ⟨rfl,rfl⟩),hfz⟩
 refine wp_seq (wp_seq ?_)
 refine E4 [0,1,2,3,4] kz (F9 [0,1,2,3,4] [] [0,1,2,10] hW (EnvOk.ptr0 (cs:=[.map m]) (r:=true) hE) (env':=[(0,.p 0 0),(1,.v (.int .u32 k)),(2,.v (.slice A s.length c)),(10,.v (.bool m.isNone))]) kz rfl fun a1 hE1=>B4 (A4 ?_))
 have key:∀ (r:Nat) (w1:World) (a':Act) (es:Array MapEntry) (clk:Nat),WOk w (fun b' o'=>(b' = b ∧ o' = o) ∨ m = some b') w1 [⟨b,o,[.map (some r)],true⟩] [] → EnvOk 21 [⟨b,o,[.map (some r)],true⟩] [(0,.p 0 0),(1,.v (.int .u32 k)),(2,.v (.slice A s.length c))] a' →
   w1.heap[r]? = some (.map es clk) → MapC w1 G es clk u → Octs w1 G A c s → (∀ b' o',G b' o' → b' ≠ r) → (m = some r ∨ w.heap.size ≤ r) →
   (Code.region 2 (Lx Tryz.f77.body) false).wp Tryz.prog (bodyPost Tryz.prog Tryz.f77 (HY w G b o m (J8 u k s))) a' w1:=by
  intro r w1 a' es clk hW1 hE' hr hmc hso hGr hnew
  refine E4 [0,1,2,3,4,5,6] kz ?_
  refine F9 [0,1,2,3,4,5] [6] [18,19,20] hW1 hE' (env':=[(18,.v (.map (some r))),(19,.v (.int .u32 k)),(20,.v (.slice A s.length c))]) kz rfl fun a2 hE2=>?_
  refine B1 (Lw (t:=59) (kt:=53) (et:=22) hE2 kz kz kz hr hmc hso hk hGr fun es' clk' hmc'=>B4 ?_)
  have hcell1:=hW1.cells 0 _ rfl 0 _ rfl
  have hbr:b ≠ r:=Co hcell1 hr
  have hst:=Step.setBlock w1 r (.map es' clk')
  have hW2:WOk w (fun b' o'=>(b' = b ∧ o' = o) ∨ m = some b') (setBlock w1 r (.map es' clk')) [⟨b,o,[.map (some r)],true⟩] []:=by
   refine hW1.next hst (fun b' o' hb' hN=>?_) (fun i ob hi j hj hN=>?_) (fun i q hi=>by simp at hi)
   ·subst hN
    rcases hnew with h1 | h1
    ·exact .inr h1
    omega
   cases i with
   | zero=>simp only [List.getElem?_cons_zero,Option.some.injEq] at hi; subst hi; exact hbr hN
   | succ i=>simp at hi
  refine U3 hE2 hW2.cells (v:=.tuple #[]) kz ⟨rfl,r,?_,?_,⟨(fun h=>by cases h),fun r' hr'=>?_⟩,hnew,hW2.step⟩
  ·simpa using hW2.cells 0 _ rfl 0 _ rfl
  ·simpa using (hW2.rw_ 0 _ rfl rfl 0 (by simp)).2
  obtain rfl:=Option.some.inj hr'
  exact ⟨es',clk',HW hr,hmc'⟩
 refine E2 hE1 (b:=m.isNone) kz (fun hb=>?_) (fun hb=>?_)
 ·obtain rfl:m = none:=by simpa using hb
  obtain rfl:=hm.none_ rfl
  refine E4 [0,1,2,3,4] kz ?_
  refine F9 [0] [1,2,3,4] [0,1,2,11] hW hE1 (env':=[(0,.p 0 0),(1,.v (.int .u32 k)),(2,.v (.slice A s.length c)),(11,.p 0 0)]) kz rfl fun a2 hE2=>?_
  refine B1 (Lv hE2 (d:=12) kz fun a3 hE3=>?_)
  have hW1:=hW.next_nil (Step.alloc w (.map #[] 0))
  refine F9 [2,3] [4] [0,1,2,12,14] hW1 hE3 (env':=[(0,.p 0 0),(1,.v (.int .u32 k)),(2,.v (.slice A s.length c)),(12,.v (.map (some w.heap.size))),(14,.p 0 0)]) kz rfl fun a4 hE4=>?_
  refine B1 (I9 hW1 hE4 (oi:=0) (cs:=[.map (some w.heap.size)]) kz fun w2 hF2 hW2 hE5=>B4 (A4 ?_))
  have hr1:(w.alloc (.map #[] 0)).heap[w.heap.size]? = some (.map #[] 0):=X4 _ _
  have hst2:Step (w.alloc (.map #[] 0)) w2 (H2 [⟨b,o,[.map none],true⟩] []):=hF2.step
  have hact:∀ {b' o':Nat},H2 [⟨b,o,[.map none],true⟩] [] b' o' → b' = b ∧ o' = o:=by
   rintro b' o' (⟨i,ob,hi,_,rfl,h1,h2⟩ | ⟨i,q,hi,_⟩)
   ·cases i with
    | zero =>
     simp only [List.getElem?_cons_zero,Option.some.injEq] at hi; subst hi
     simp at h1 h2
     exact ⟨rfl,by omega⟩
    | succ i=>simp at hi
   simp at hi
  have hblt:=World.lt_of_cell hcell
  have hr2:w2.heap[w.heap.size]? = some (.map #[] 0):=hst2.heap (fun o' ha=>by have:=(hact ha).1; omega) hr1
  refine key w.heap.size w2 _ #[] 0 hW2 (hE5.pick (ks:=[0,1,2]) kz) hr2 ⟨List.Pairwise.nil,(fun _ h=>by cases h),List.Perm.refl _,(fun _ h=>by cases h),List.nodup_nil,(fun _ h=>by cases h)⟩ ?_ (fun b' o' hg=>by have:=hG' b' o' hg; omega) (.inr (Nat.le_refl _))
  exact (hs.move (Step.alloc w (.map #[] 0)) B2 F3).move hst2 (fun b' o' hg _ ha=>(hG b' o' hg).1 (hact ha)) F3
 cases m with
 | none=>cases hb
 | some r =>
  obtain ⟨es,clk,h1,h2⟩:=hm.some_ r rfl
  exact wp_skip (A4 (key r w a1 es clk hW (hE1.pick (ks:=[0,1,2]) kz) h1 h2 hs (fun b' o' hg e=>(hG b' o' hg).2 (by rw [e])) (.inl rfl)))
end Go.Proofs.YtoclgihkbmaolacGreatDoor.ME
namespace Go.Proofs.YtoclgihkbmaolacGreatDoor.ME
open Go
open Go.RowKit
set_option linter.unusedVariables false
set_option linter.unusedSimpArgs false
set_option maxRecDepth 20000
theorem Ly (A:Option Addr) (c:Nat) (s:List UInt8) (x:Int) (w:World) (ho:w.ownsRow 0 5 1 (.slice A s.length c) s.length (bc s)) (hroom:s.length + 16 ≤ 1099511627776) :
  Calls Tryz.prog 81 #[.slice A s.length c,.int .u16 x] w (L1 w 5 A (s ++ be 2 x)):=by
 refine enter (n:=13) Tryz.func81 rfl Tryz.ntmps81 kz fun a hE=>?_
 have hW:=WOk.startRow w ho
 refine B9 [(0,.v (.slice A s.length c)),(1,.v (.int .u16 x))] hW hE fun a1 hE2=>?_
 refine C1 [0,1,2,3,4,5,6,7,8] kz ?_
 refine B3 [0,1,2,3,4,5] [6,7,8] [(5,.v (.slice A s.length c)),(8,.v (.int .u8 (IntKind.u8.wrap (Int.fdiv x 256)))),(10,.v (.int .u8 (IntKind.u8.wrap x)))] hW hE2 fun a3 hE4=>?_
 refine U4 hW hE4 (k:=0) (e:=5) (size:=1) (len:=2) (cs:=[.int .u8 (IntKind.u8.wrap (Int.fdiv x 256)),.int .u8 (IntKind.u8.wrap x)]) (d1:=11) (d:=12) kz (t:=22) (bytes:=1) kz (fun _=>by kernel_rfl) rfl kz (by first | (have:=hroom; omega) | (simp; done) | (simp; omega)) fun A5 c6 a7 w8 hF9 ac ⟨_,ae⟩=>?_
 have af:(⟨A5,c6,5,1,s.length + 2,bc s ++ [.int .u8 (IntKind.u8.wrap (Int.fdiv x 256)),.int .u8 (IntKind.u8.wrap x)]⟩:Rw) = B0 A5 c6 5 (s ++ [C9 (Int.fdiv x 256),C9 x]):=K9 (by simp only [bc,List.map,R6]; try rfl) rfl
 obtain ⟨ab,aj⟩:=ac.rowEq 0 [B0 A5 c6 5 (s ++ [C9 (Int.fdiv x 256),C9 x])] af
 have ag:=EnvOk.pick ae (ks:=[5,8,10,12]) (env':=[(5,.v (.slice A s.length c)),(8,.v (.int .u8 (IntKind.u8.wrap (Int.fdiv x 256)))),(10,.v (.int .u8 (IntKind.u8.wrap x))),(12,.v (.slice A5 (s.length + 2) c6))]) kz
 have ah:=ag.cast (env':=[(5,.v (.slice A s.length c)),(8,.v (.int .u8 (IntKind.u8.wrap (Int.fdiv x 256)))),(10,.v (.int .u8 (IntKind.u8.wrap x))),(12,.v (.slice A5 ((s ++ [C9 (Int.fdiv x 256),C9 x]).length) c6))]) (by simp only [List.length_append,List.length_cons,List.length_nil,Nat.zero_add])
 refine B3 [8] [] [(4,.v (.slice A5 ((s ++ [C9 (Int.fdiv x 256),C9 x]).length) c6))] ab ah fun ak ai=>?_
 refine B4 (A4 ?_)
 refine wp_ret (D1 ai ab.cells (v:=.slice A5 ((s ++ [C9 (Int.fdiv x 256),C9 x]).length) c6) kz ?_)
 have e0:(s ++ [C9 (Int.fdiv x 256),C9 x]) = (s ++ be 2 x):=by simp [bc,be,R6,Int.fdiv_eq_ediv_of_nonneg]
 have h0:=Z1 ab 0 rfl
 rw [e0] at h0
 have e1:(s ++ [C9 (Int.fdiv x 256),C9 x]).length = (s ++ be 2 x).length:=by rw [← e0]
 rw [e1]; exact h0
theorem Lz (A:Option Addr) (c:Nat) (s:List UInt8) (x:Int) (w:World) (ho:w.ownsRow 0 5 1 (.slice A s.length c) s.length (bc s)) (hroom:s.length + 16 ≤ 1099511627776) :
  Calls Tryz.prog 80 #[.slice A s.length c,.int .u32 x] w (L1 w 5 A (s ++ be 4 x)):=by
 refine enter (n:=19) Tryz.func80 rfl Tryz.ntmps80 kz fun a hE=>?_
 have hW:=WOk.startRow w ho
 refine B9 [(0,.v (.slice A s.length c)),(1,.v (.int .u32 x))] hW hE fun a1 hE2=>?_
 refine C1 [0,1,2,3,4,5,6,7,8,9,10,11,12,13,14] kz ?_
 let ab:Nat × SV:=(5,.v (.slice A s.length c))
 refine B3 [0,1,2,3,4,5,6,7,8,9,10,11] [12,13,14] [ab,(8,.v (.int .u8 (IntKind.u8.wrap (Int.fdiv x 16777216)))),(11,.v (.int .u8 (IntKind.u8.wrap (Int.fdiv x 65536)))),(14,.v (.int .u8 (IntKind.u8.wrap (Int.fdiv x 256)))),(16,.v (.int .u8 (IntKind.u8.wrap x)))] hW hE2 fun a3 hE4=>?_
 refine U4 hW hE4 (k:=0) (e:=5) (size:=1) (len:=4) (cs:=[.int .u8 (IntKind.u8.wrap (Int.fdiv x 16777216)),.int .u8 (IntKind.u8.wrap (Int.fdiv x 65536)),.int .u8 (IntKind.u8.wrap (Int.fdiv x 256)),.int .u8 (IntKind.u8.wrap x)]) (d1:=17) (d:=18) kz (t:=22) (bytes:=1) kz (fun _=>by kernel_rfl) rfl kz (by first | (have:=hroom; omega) | (simp; done) | (simp; omega)) fun A5 c6 a7 w8 hF9 ae ⟨_,af⟩=>?_
 have ag:(⟨A5,c6,5,1,s.length + 4,bc s ++ [.int .u8 (IntKind.u8.wrap (Int.fdiv x 16777216)),.int .u8 (IntKind.u8.wrap (Int.fdiv x 65536)),.int .u8 (IntKind.u8.wrap (Int.fdiv x 256)),.int .u8 (IntKind.u8.wrap x)]⟩:Rw) = B0 A5 c6 5 (s ++ [C9 (Int.fdiv x 16777216),C9 (Int.fdiv x 65536),C9 (Int.fdiv x 256),C9 x]):=K9 (by simp only [bc,List.map,R6]; try rfl) rfl
 obtain ⟨ac,ak⟩:=ae.rowEq 0 [B0 A5 c6 5 (s ++ [C9 (Int.fdiv x 16777216),C9 (Int.fdiv x 65536),C9 (Int.fdiv x 256),C9 x])] ag
 have ah:=EnvOk.pick af (ks:=[5,8,11,14,16,18]) (env':=[ab,(8,.v (.int .u8 (IntKind.u8.wrap (Int.fdiv x 16777216)))),(11,.v (.int .u8 (IntKind.u8.wrap (Int.fdiv x 65536)))),(14,.v (.int .u8 (IntKind.u8.wrap (Int.fdiv x 256)))),(16,.v (.int .u8 (IntKind.u8.wrap x))),(18,.v (.slice A5 (s.length + 4) c6))]) kz
 have ai:=ah.cast (env':=[ab,(8,.v (.int .u8 (IntKind.u8.wrap (Int.fdiv x 16777216)))),(11,.v (.int .u8 (IntKind.u8.wrap (Int.fdiv x 65536)))),(14,.v (.int .u8 (IntKind.u8.wrap (Int.fdiv x 256)))),(16,.v (.int .u8 (IntKind.u8.wrap x))),(18,.v (.slice A5 ((s ++ [C9 (Int.fdiv x 16777216),C9 (Int.fdiv x 65536),C9 (Int.fdiv x 256),C9 x]).length) c6))]) (by simp only [List.length_append,List.length_cons,List.length_nil,Nat.zero_add])
 refine B3 [14] [] [(4,.v (.slice A5 ((s ++ [C9 (Int.fdiv x 16777216),C9 (Int.fdiv x 65536),C9 (Int.fdiv x 256),C9 x]).length) c6))] ac ai fun al aj=>?_
 refine B4 (A4 ?_)
 refine wp_ret (D1 aj ac.cells (v:=.slice A5 ((s ++ [C9 (Int.fdiv x 16777216),C9 (Int.fdiv x 65536),C9 (Int.fdiv x 256),C9 x]).length) c6) kz ?_)
 have e0:(s ++ [C9 (Int.fdiv x 16777216),C9 (Int.fdiv x 65536),C9 (Int.fdiv x 256),C9 x]) = (s ++ be 4 x):=by simp [bc,be,R6,Int.fdiv_eq_ediv_of_nonneg]
 have h0:=Z1 ac 0 rfl
 rw [e0] at h0
 have e1:(s ++ [C9 (Int.fdiv x 16777216),C9 (Int.fdiv x 65536),C9 (Int.fdiv x 256),C9 x]).length = (s ++ be 4 x).length:=by rw [← e0]
 rw [e1]; exact h0
theorem LA (A:Option Addr) (c:Nat) (s:List UInt8) (x:Int) (w:World) (ho:w.ownsRow 0 5 1 (.slice A s.length c) s.length (bc s)) (hroom:s.length + 16 ≤ 1099511627776) :
  Calls Tryz.prog 82 #[.slice A s.length c,.int .u64 x] w (L1 w 5 A (s ++ be 8 x)):=by
 refine enter (n:=31) Tryz.func82 rfl Tryz.ntmps82 kz fun a hE=>?_
 have hW:=WOk.startRow w ho
 refine B9 [(0,.v (.slice A s.length c)),(1,.v (.int .u64 x))] hW hE fun a1 hE2=>?_
 refine C1 [0,1,2,3,4,5,6,7,8,9,10,11,12,13,14,15,16,17,18,19,20,21,22,23,24,25,26] kz ?_
 let ab:Nat × SV:=(5,.v (.slice A s.length c))
 refine B3 [0,1,2,3,4,5,6,7,8,9,10,11,12,13,14,15,16,17,18,19,20,21,22,23] [24,25,26] [ab,(8,.v (.int .u8 (IntKind.u8.wrap (Int.fdiv x 72057594037927936)))),(11,.v (.int .u8 (IntKind.u8.wrap (Int.fdiv x 281474976710656)))),(14,.v (.int .u8 (IntKind.u8.wrap (Int.fdiv x 1099511627776)))),(17,.v (.int .u8 (IntKind.u8.wrap (Int.fdiv x 4294967296)))),(20,.v (.int .u8 (IntKind.u8.wrap (Int.fdiv x 16777216)))),(23,.v (.int .u8 (IntKind.u8.wrap (Int.fdiv x 65536)))),(26,.v (.int .u8 (IntKind.u8.wrap (Int.fdiv x 256)))),(28,.v (.int .u8 (IntKind.u8.wrap x)))] hW hE2 fun a3 hE4=>?_
 refine U4 hW hE4 (k:=0) (e:=5) (size:=1) (len:=8) (cs:=[.int .u8 (IntKind.u8.wrap (Int.fdiv x 72057594037927936)),.int .u8 (IntKind.u8.wrap (Int.fdiv x 281474976710656)),.int .u8 (IntKind.u8.wrap (Int.fdiv x 1099511627776)),.int .u8 (IntKind.u8.wrap (Int.fdiv x 4294967296)),.int .u8 (IntKind.u8.wrap (Int.fdiv x 16777216)),.int .u8 (IntKind.u8.wrap (Int.fdiv x 65536)),.int .u8 (IntKind.u8.wrap (Int.fdiv x 256)),.int .u8 (IntKind.u8.wrap x)]) (d1:=29) (d:=30) kz (t:=22) (bytes:=1) kz (fun _=>by kernel_rfl) rfl kz (by first | (have:=hroom; omega) | (simp; done) | (simp; omega)) fun A5 c6 a7 w8 hF9 ae ⟨_,af⟩=>?_
 have ag:(⟨A5,c6,5,1,s.length + 8,bc s ++ [.int .u8 (IntKind.u8.wrap (Int.fdiv x 72057594037927936)),.int .u8 (IntKind.u8.wrap (Int.fdiv x 281474976710656)),.int .u8 (IntKind.u8.wrap (Int.fdiv x 1099511627776)),.int .u8 (IntKind.u8.wrap (Int.fdiv x 4294967296)),.int .u8 (IntKind.u8.wrap (Int.fdiv x 16777216)),.int .u8 (IntKind.u8.wrap (Int.fdiv x 65536)),.int .u8 (IntKind.u8.wrap (Int.fdiv x 256)),.int .u8 (IntKind.u8.wrap x)]⟩:Rw) = B0 A5 c6 5 (s ++ [C9 (Int.fdiv x 72057594037927936),C9 (Int.fdiv x 281474976710656),C9 (Int.fdiv x 1099511627776),C9 (Int.fdiv x 4294967296),C9 (Int.fdiv x 16777216),C9 (Int.fdiv x 65536),C9 (Int.fdiv x 256),C9 x]):=K9 (by simp only [bc,List.map,R6]; try rfl) rfl
 obtain ⟨ac,ak⟩:=ae.rowEq 0 [B0 A5 c6 5 (s ++ [C9 (Int.fdiv x 72057594037927936),C9 (Int.fdiv x 281474976710656),C9 (Int.fdiv x 1099511627776),C9 (Int.fdiv x 4294967296),C9 (Int.fdiv x 16777216),C9 (Int.fdiv x 65536),C9 (Int.fdiv x 256),C9 x])] ag
 have ah:=EnvOk.pick af (ks:=[5,8,11,14,17,20,23,26,28,30]) (env':=[ab,(8,.v (.int .u8 (IntKind.u8.wrap (Int.fdiv x 72057594037927936)))),(11,.v (.int .u8 (IntKind.u8.wrap (Int.fdiv x 281474976710656)))),(14,.v (.int .u8 (IntKind.u8.wrap (Int.fdiv x 1099511627776)))),(17,.v (.int .u8 (IntKind.u8.wrap (Int.fdiv x 4294967296)))),(20,.v (.int .u8 (IntKind.u8.wrap (Int.fdiv x 16777216)))),(23,.v (.int .u8 (IntKind.u8.wrap (Int.fdiv x 65536)))),(26,.v (.int .u8 (IntKind.u8.wrap (Int.fdiv x 256)))),(28,.v (.int .u8 (IntKind.u8.wrap x))),(30,.v (.slice A5 (s.length + 8) c6))]) kz
 have ai:=ah.cast (env':=[ab,(8,.v (.int .u8 (IntKind.u8.wrap (Int.fdiv x 72057594037927936)))),(11,.v (.int .u8 (IntKind.u8.wrap (Int.fdiv x 281474976710656)))),(14,.v (.int .u8 (IntKind.u8.wrap (Int.fdiv x 1099511627776)))),(17,.v (.int .u8 (IntKind.u8.wrap (Int.fdiv x 4294967296)))),(20,.v (.int .u8 (IntKind.u8.wrap (Int.fdiv x 16777216)))),(23,.v (.int .u8 (IntKind.u8.wrap (Int.fdiv x 65536)))),(26,.v (.int .u8 (IntKind.u8.wrap (Int.fdiv x 256)))),(28,.v (.int .u8 (IntKind.u8.wrap x))),(30,.v (.slice A5 ((s ++ [C9 (Int.fdiv x 72057594037927936),C9 (Int.fdiv x 281474976710656),C9 (Int.fdiv x 1099511627776),C9 (Int.fdiv x 4294967296),C9 (Int.fdiv x 16777216),C9 (Int.fdiv x 65536),C9 (Int.fdiv x 256),C9 x]).length) c6))]) (by simp only [List.length_append,List.length_cons,List.length_nil,Nat.zero_add])
 refine B3 [26] [] [(4,.v (.slice A5 ((s ++ [C9 (Int.fdiv x 72057594037927936),C9 (Int.fdiv x 281474976710656),C9 (Int.fdiv x 1099511627776),C9 (Int.fdiv x 4294967296),C9 (Int.fdiv x 16777216),C9 (Int.fdiv x 65536),C9 (Int.fdiv x 256),C9 x]).length) c6))] ac ai fun al aj=>?_
 refine B4 (A4 ?_)
 refine wp_ret (D1 aj ac.cells (v:=.slice A5 ((s ++ [C9 (Int.fdiv x 72057594037927936),C9 (Int.fdiv x 281474976710656),C9 (Int.fdiv x 1099511627776),C9 (Int.fdiv x 4294967296),C9 (Int.fdiv x 16777216),C9 (Int.fdiv x 65536),C9 (Int.fdiv x 256),C9 x]).length) c6) kz ?_)
 have e0:(s ++ [C9 (Int.fdiv x 72057594037927936),C9 (Int.fdiv x 281474976710656),C9 (Int.fdiv x 1099511627776),C9 (Int.fdiv x 4294967296),C9 (Int.fdiv x 16777216),C9 (Int.fdiv x 65536),C9 (Int.fdiv x 256),C9 x]) = (s ++ be 8 x):=by simp [bc,be,R6,Int.fdiv_eq_ediv_of_nonneg]
 have h0:=Z1 ac 0 rfl
 rw [e0] at h0
 have e1:(s ++ [C9 (Int.fdiv x 72057594037927936),C9 (Int.fdiv x 281474976710656),C9 (Int.fdiv x 1099511627776),C9 (Int.fdiv x 4294967296),C9 (Int.fdiv x 16777216),C9 (Int.fdiv x 65536),C9 (Int.fdiv x 256),C9 x]).length = (s ++ be 8 x).length:=by rw [← e0]
 rw [e1]; exact h0
theorem FM (A:Option Addr) (c:Nat) (s:List UInt8) (x:Int) (w:World) (ho:w.ownsRow 0 5 1 (.slice A s.length c) s.length (bc s)) (hroom:s.length + 16 ≤ 1099511627776) :
  Calls Tryz.prog 38 #[.slice A s.length c,.int .i16 x] w (L1 w 5 A (s ++ be 2 x)):=by
 refine enter (n:=9) Tryz.func38 rfl Tryz.ntmps38 kz fun a hE=>?_
 have hW:=WOk.startRow w ho
 refine B9 [(0,.v (.slice A s.length c)),(1,.v (.int .i16 x))] hW hE fun a1 hE2=>?_
 refine C1 [0,1,2,3,4] kz ?_
 refine B3 [0,1,2] [3,4] [(5,.v (.slice A s.length c)),(7,.v (.int .u16 (IntKind.u16.wrap x)))] hW hE2 fun a3 hE4=>?_
 refine B1 (D6 hE4 (f:=81) (vs:=[.slice A s.length c,.int .u16 (IntKind.u16.wrap x)]) (d:=8) kz Tryz.call81 (Ly A c s (IntKind.u16.wrap x) _ (hW.own 0 _ rfl) (by first | (have:=hroom; omega) | (simp; done) | (simp; omega))) ?_)
 rintro e_ w7 ⟨A5,c6,rfl,ho9,ac,ae⟩
 refine ⟨_,rfl,fun a8 af=>?_⟩
 have ab:WOk _ _ _ _ [B0 A5 c6 5 (s ++ be 2 (IntKind.u16.wrap x))]:=hW.grow (k:=0) rfl ac ho9 ae
 have ah:Fr _ [] [B0 A c 5 s] _ [] [B0 A5 c6 5 (s ++ be 2 (IntKind.u16.wrap x))]:=Fr.grow _ (k:=0) (r':=(B0 A5 c6 5 (s ++ be 2 (IntKind.u16.wrap x)))) rfl ac ae
 refine B3 [4] [] [(4,.v (.slice A5 ((s ++ be 2 (IntKind.u16.wrap x)).length) c6))] ab af fun ai ag=>?_
 refine B4 (A4 ?_)
 refine wp_ret (D1 ag ab.cells (v:=.slice A5 ((s ++ be 2 (IntKind.u16.wrap x)).length) c6) kz ?_)
 have e0:(s ++ be 2 (IntKind.u16.wrap x)) = (s ++ be 2 x):=by rw [Bv]
 have h0:=Z1 ab 0 rfl
 rw [e0] at h0
 have e1:(s ++ be 2 (IntKind.u16.wrap x)).length = (s ++ be 2 x).length:=by rw [← e0]
 rw [e1]; exact h0
theorem Bb (A:Option Addr) (c:Nat) (s:List UInt8) (x:Int) (w:World) (ho:w.ownsRow 0 5 1 (.slice A s.length c) s.length (bc s)) (hroom:s.length + 16 ≤ 1099511627776) :
  Calls Tryz.prog 37 #[.slice A s.length c,.int .i32 x] w (L1 w 5 A (s ++ be 4 x)):=by
 refine enter (n:=9) Tryz.func37 rfl Tryz.ntmps37 kz fun a hE=>?_
 have hW:=WOk.startRow w ho
 refine B9 [(0,.v (.slice A s.length c)),(1,.v (.int .i32 x))] hW hE fun a1 hE2=>?_
 refine C1 [0,1,2,3,4] kz ?_
 refine B3 [0,1,2] [3,4] [(5,.v (.slice A s.length c)),(7,.v (.int .u32 (IntKind.u32.wrap x)))] hW hE2 fun a3 hE4=>?_
 refine B1 (D6 hE4 (f:=80) (vs:=[.slice A s.length c,.int .u32 (IntKind.u32.wrap x)]) (d:=8) kz Tryz.call80 (Lz A c s (IntKind.u32.wrap x) _ (hW.own 0 _ rfl) (by first | (have:=hroom; omega) | (simp; done) | (simp; omega))) ?_)
 rintro e_ w7 ⟨A5,c6,rfl,ho9,ac,ae⟩
 refine ⟨_,rfl,fun a8 af=>?_⟩
 have ab:WOk _ _ _ _ [B0 A5 c6 5 (s ++ be 4 (IntKind.u32.wrap x))]:=hW.grow (k:=0) rfl ac ho9 ae
 have ah:Fr _ [] [B0 A c 5 s] _ [] [B0 A5 c6 5 (s ++ be 4 (IntKind.u32.wrap x))]:=Fr.grow _ (k:=0) (r':=(B0 A5 c6 5 (s ++ be 4 (IntKind.u32.wrap x)))) rfl ac ae
 refine B3 [4] [] [(4,.v (.slice A5 ((s ++ be 4 (IntKind.u32.wrap x)).length) c6))] ab af fun ai ag=>?_
 refine B4 (A4 ?_)
 refine wp_ret (D1 ag ab.cells (v:=.slice A5 ((s ++ be 4 (IntKind.u32.wrap x)).length) c6) kz ?_)
 have e0:(s ++ be 4 (IntKind.u32.wrap x)) = (s ++ be 4 x):=by rw [KA]
 have h0:=Z1 ab 0 rfl
 rw [e0] at h0
 have e1:(s ++ be 4 (IntKind.u32.wrap x)).length = (s ++ be 4 x).length:=by rw [← e0]
 rw [e1]; exact h0
theorem FN (A:Option Addr) (c:Nat) (s:List UInt8) (x:Int) (w:World) (ho:w.ownsRow 0 5 1 (.slice A s.length c) s.length (bc s)) (hroom:s.length + 16 ≤ 1099511627776) :
  Calls Tryz.prog 39 #[.slice A s.length c,.int .i64 x] w (L1 w 5 A (s ++ be 8 x)):=by
 refine enter (n:=9) Tryz.func39 rfl Tryz.ntmps39 kz fun a hE=>?_
 have hW:=WOk.startRow w ho
 refine B9 [(0,.v (.slice A s.length c)),(1,.v (.int .i64 x))] hW hE fun a1 hE2=>?_
 refine C1 [0,1,2,3,4] kz ?_
 refine B3 [0,1,2] [3,4] [(5,.v (.slice A s.length c)),(7,.v (.int .u64 (IntKind.u64.wrap x)))] hW hE2 fun a3 hE4=>?_
 refine B1 (D6 hE4 (f:=82) (vs:=[.slice A s.length c,.int .u64 (IntKind.u64.wrap x)]) (d:=8) kz Tryz.call82 (LA A c s (IntKind.u64.wrap x) _ (hW.own 0 _ rfl) (by first | (have:=hroom; omega) | (simp; done) | (simp; omega))) ?_)
 rintro e_ w7 ⟨A5,c6,rfl,ho9,ac,ae⟩
 refine ⟨_,rfl,fun a8 af=>?_⟩
 have ab:WOk _ _ _ _ [B0 A5 c6 5 (s ++ be 8 (IntKind.u64.wrap x))]:=hW.grow (k:=0) rfl ac ho9 ae
 have ah:Fr _ [] [B0 A c 5 s] _ [] [B0 A5 c6 5 (s ++ be 8 (IntKind.u64.wrap x))]:=Fr.grow _ (k:=0) (r':=(B0 A5 c6 5 (s ++ be 8 (IntKind.u64.wrap x)))) rfl ac ae
 refine B3 [4] [] [(4,.v (.slice A5 ((s ++ be 8 (IntKind.u64.wrap x)).length) c6))] ab af fun ai ag=>?_
 refine B4 (A4 ?_)
 refine wp_ret (D1 ag ab.cells (v:=.slice A5 ((s ++ be 8 (IntKind.u64.wrap x)).length) c6) kz ?_)
 have e0:(s ++ be 8 (IntKind.u64.wrap x)) = (s ++ be 8 x):=by rw [Hx]
 have h0:=Z1 ab 0 rfl
 rw [e0] at h0
 have e1:(s ++ be 8 (IntKind.u64.wrap x)).length = (s ++ be 8 x).length:=by rw [← e0]
 rw [e1]; exact h0
def FO:ByteArray:=⟨#[1,1,1,1,1,1,1,1,2,2,2,2,2,2,2,3,3,3,3,3,3,3,4,4,4,4,4,4,4,5,5,5,5,5,5,5,6,6,6,6,6,6,6,7,7,7,7,7,7,7,8,8,8,8,8,8,8,9,9,9,9,9,9,9,10,0,0,0,0,0,0,0,0,0,0,0,0,0,0,0,0,0,0,0,0,0,0,0,0,0,0,0,0,0,0,0,0,0,0,0,0,0,0,0,0,0,0,0,0,0,0,0,0,0,0,0,0,0,0,0,0,0,0,0,0,0,0,0,0,0,0,0,0,0,0,0,0,0,0,0,0,0,0,0,0,0,0,0,0,0,0,0,0,0,0,0,0,0,0,0,0,0,0,0,0,0,0,0,0,0,0,0,0,0,0,0,0,0,0,0,0,0,0,0,0,0,0,0,0,0,0,0,0,0,0,0,0,0,0,0,0,0,0,0,0,0,0,0,0,0,0,0,0,0,0,0,0,0,0,0,0,0,0,0,0,0,0,0,0,0,0,0,0,0,0,0,0,0,0,0,0,0,0,0,0,0,0,0,0,0,0,0,0,0,0,0]⟩
theorem LB:∀ m:Fin 33,FO[m.val]? = some (UInt8.ofNat (CW m.val)):=by decide +kernel
theorem LC (x:Nat) (hx:x < 4294967296) (hl:Lib.bitLen x ≤ 32):∃ b:UInt8,FO[Lib.bitLen x]? = some b ∧ b.toNat = (uv x).length:=by
 refine ⟨_,LB ⟨Lib.bitLen x,by omega⟩,?_⟩
 have:=Lk (Lib.bitLen x)
 rw [Lj hx,UInt8.toNat_ofNat']
 dsimp only
 omega
theorem LD (x:Nat) (hx:x < 4294967296) (w:World):Calls Tryz.prog 83 [.int .u32 ((x:Nat):Int)].toArray w (J9 w (.int .i64 (((uv x).length:Nat):Int))):=by
 refine enter (n:=8) Tryz.func83 rfl Tryz.ntmps83 kz fun a hE=>?_
 have hW:=WOk.start w C7
 refine C1 [0] kz (F9 [0] [] [0] hW hE (env':=[(0,.v (.int .u32 ((x:Nat):Int)))]) kz rfl fun a1 hE1=>B4 (A4 ?_))
 refine C1 [0,1,2,3,4,5] kz ?_
 refine F9 [0] [1,2,3,4,5] [3] hW hE1 (env':=[(3,.v (.int .u32 ((x:Nat):Int)))]) kz rfl fun a2 hE2=>?_
 refine B1 (D6 hE2 (f:=92) (vs:=[.int .u32 ((x:Nat):Int)]) (d:=4) kz Tryz.call92 (kLen32 _ w (by omega) (by omega)) ?_)
 rintro e_ w' ⟨rfl,rfl⟩
 refine ⟨_,rfl,fun a3 hE3=>?_⟩
 rw [Int.toNat_natCast] at hE3
 have hl:=Lib.bitLen_le x 32 (by omega) (by omega)
 refine F9 [2] [3,4,5] [5] hW hE3 (env':=[(5,.v (.int .u8 (IntKind.u8.wrap ((Lib.bitLen x:Nat):Int))))]) kz rfl fun a4 hE4=>?_
 have e1:IntKind.u8.wrap ((Lib.bitLen x:Nat):Int) = ((Lib.bitLen x:Nat):Int):=by rw [Hw]; omega
 rw [e1] at hE4
 obtain ⟨b,hb1,hb2⟩:=LC x hx hl
 refine B1 (Lh hE4 (s:=FO) (t:=9) (dd:=6) kz kz hb1 fun a5 hE5=>?_)
 refine F9 [4,5] [] [2] hW hE5 (env':=[(2,.v (.int .i64 (IntKind.i64.wrap (b.toNat:Int))))]) kz rfl fun a6 hE6=>B4 (A4 (wp_ret ?_))
 rw [hb2,wrap_i64 (by omega) (by have:=Ci x 5 (by omega) (by omega); omega)] at hE6
 exact D1 hE6 hW.cells (v:=.int .i64 (((uv x).length:Nat):Int)) kz ⟨rfl,Step.refl _ _⟩
theorem Q1 (x:Nat) (hx:x < 4294967296) (A:Option Addr) (cp:Nat) (s:Bs) (w:World) (ho:w.ownsRow 0 5 1 (.slice A s.length cp) s.length (bc s)) (hroom:s.length + (uv x).length + 16 ≤ 1099511627776) :
  Calls Tryz.prog 42 (.slice A s.length cp :: [.int .u32 ((x:Nat):Int)]).toArray w (L1 w 5 A (s ++ (uv x))):=by
 refine Z8 (n:=93) Tryz.func42 rfl Tryz.ntmps42 kz rfl ho hroom ?_
 let ab:Nat × SV:=(1,.v (.int .u32 ((x:Nat):Int)))
 refine P6 (E6 (env':=[ab]) [1] (fun _ _ _=>by kernel_rfl)) ?_
 refine Lb ?_
 let ac:Nat × SV:=(6,.v (.int .i64 (((uv x).length:Nat):Int)))
 refine P6 (Lc (env':=[ab,ac]) (f:=83) (vs:=[.int .u32 ((x:Nat):Int)]) 1 [1,6] (fun _ _ _=>by kernel_rfl) kz Tryz.call83 (fun w _=>LD x hx w)) ?_
 refine La ?_
 have hl:=Ci x 5 (by omega) (by omega)
 have hl1:=DO x
 refine P6 (E6 (env':=[ab,ac,(7,.v (.bool ((((uv x).length:Nat):Int) == 5)))]) [1,6,7] (fun _ _ _=>by kernel_rfl)) ?_
 refine CU (b:=((((uv x).length:Nat):Int) == 5)) (fun _ _ _=>by kernel_rfl) (fun hb=>?_) (fun hb=>?_)
 ·exact CV (t:=22) (d1:=32) (dd:=33) (len:=5) (cs:=[.int .u8 (IntKind.u8.wrap (IntKind.u32.wrap (BitVec.ofInt 32 (IntKind.u32.wrap (BitVec.ofInt 32 ((x:Nat):Int) &&& BitVec.ofInt 32 127).toNat) ||| BitVec.ofInt 32 128).toNat)),.int .u8 (IntKind.u8.wrap (IntKind.u32.wrap (BitVec.ofInt 32 (IntKind.u32.wrap (BitVec.ofInt 32 (Int.fdiv ((x:Nat):Int) 128) &&& BitVec.ofInt 32 127).toNat) ||| BitVec.ofInt 32 128).toNat)),.int .u8 (IntKind.u8.wrap (IntKind.u32.wrap (BitVec.ofInt 32 (IntKind.u32.wrap (BitVec.ofInt 32 (Int.fdiv ((x:Nat):Int) 16384) &&& BitVec.ofInt 32 127).toNat) ||| BitVec.ofInt 32 128).toNat)),.int .u8 (IntKind.u8.wrap (IntKind.u32.wrap (BitVec.ofInt 32 (IntKind.u32.wrap (BitVec.ofInt 32 (Int.fdiv ((x:Nat):Int) 2097152) &&& BitVec.ofInt 32 127).toNat) ||| BitVec.ofInt 32 128).toNat)),.int .u8 (IntKind.u8.wrap (Int.fdiv ((x:Nat):Int) 268435456))]) 23 (fun _ _ _ _ _ _ _=>by kernel_rfl) kz kz (Lt x hx (by have:=eq_of_beq hb; omega)) kz
 have g5:=ne_of_beq_false hb
 refine P6 (E6 (env':=[ab,ac,(34,.v (.bool ((((uv x).length:Nat):Int) == 4)))]) [1,6,34] (fun _ _ _=>by kernel_rfl)) ?_
 refine CU (b:=((((uv x).length:Nat):Int) == 4)) (fun _ _ _=>by kernel_rfl) (fun hb=>?_) (fun hb=>?_)
 ·exact CV (t:=22) (d1:=54) (dd:=55) (len:=4) (cs:=[.int .u8 (IntKind.u8.wrap (IntKind.u32.wrap (BitVec.ofInt 32 (IntKind.u32.wrap (BitVec.ofInt 32 ((x:Nat):Int) &&& BitVec.ofInt 32 127).toNat) ||| BitVec.ofInt 32 128).toNat)),.int .u8 (IntKind.u8.wrap (IntKind.u32.wrap (BitVec.ofInt 32 (IntKind.u32.wrap (BitVec.ofInt 32 (Int.fdiv ((x:Nat):Int) 128) &&& BitVec.ofInt 32 127).toNat) ||| BitVec.ofInt 32 128).toNat)),.int .u8 (IntKind.u8.wrap (IntKind.u32.wrap (BitVec.ofInt 32 (IntKind.u32.wrap (BitVec.ofInt 32 (Int.fdiv ((x:Nat):Int) 16384) &&& BitVec.ofInt 32 127).toNat) ||| BitVec.ofInt 32 128).toNat)),.int .u8 (IntKind.u8.wrap (Int.fdiv ((x:Nat):Int) 2097152))]) 18 (fun _ _ _ _ _ _ _=>by kernel_rfl) kz kz (Ls x hx (by have:=eq_of_beq hb; omega)) kz
 have g4:=ne_of_beq_false hb
 refine P6 (E6 (env':=[ab,ac,(56,.v (.bool ((((uv x).length:Nat):Int) == 3)))]) [1,6,56] (fun _ _ _=>by kernel_rfl)) ?_
 refine CU (b:=((((uv x).length:Nat):Int) == 3)) (fun _ _ _=>by kernel_rfl) (fun hb=>?_) (fun hb=>?_)
 ·exact CV (t:=22) (d1:=71) (dd:=72) (len:=3) (cs:=[.int .u8 (IntKind.u8.wrap (IntKind.u32.wrap (BitVec.ofInt 32 (IntKind.u32.wrap (BitVec.ofInt 32 ((x:Nat):Int) &&& BitVec.ofInt 32 127).toNat) ||| BitVec.ofInt 32 128).toNat)),.int .u8 (IntKind.u8.wrap (IntKind.u32.wrap (BitVec.ofInt 32 (IntKind.u32.wrap (BitVec.ofInt 32 (Int.fdiv ((x:Nat):Int) 128) &&& BitVec.ofInt 32 127).toNat) ||| BitVec.ofInt 32 128).toNat)),.int .u8 (IntKind.u8.wrap (Int.fdiv ((x:Nat):Int) 16384))]) 13 (fun _ _ _ _ _ _ _=>by kernel_rfl) kz kz (Lr x hx (by have:=eq_of_beq hb; omega)) kz
 have g3:=ne_of_beq_false hb
 refine P6 (E6 (env':=[ab,ac,(73,.v (.bool ((((uv x).length:Nat):Int) == 2)))]) [1,6,73] (fun _ _ _=>by kernel_rfl)) ?_
 refine CU (b:=((((uv x).length:Nat):Int) == 2)) (fun _ _ _=>by kernel_rfl) (fun hb=>?_) (fun hb=>?_)
 ·exact CV (t:=22) (d1:=83) (dd:=84) (len:=2) (cs:=[.int .u8 (IntKind.u8.wrap (IntKind.u32.wrap (BitVec.ofInt 32 (IntKind.u32.wrap (BitVec.ofInt 32 ((x:Nat):Int) &&& BitVec.ofInt 32 127).toNat) ||| BitVec.ofInt 32 128).toNat)),.int .u8 (IntKind.u8.wrap (Int.fdiv ((x:Nat):Int) 128))]) 8 (fun _ _ _ _ _ _ _=>by kernel_rfl) kz kz (Lq x hx (by have:=eq_of_beq hb; omega)) kz
 have g2:=ne_of_beq_false hb
 refine P6 (E6 (env':=[ab,ac,(85,.v (.bool ((((uv x).length:Nat):Int) == 1)))]) [1,6,85] (fun _ _ _=>by kernel_rfl)) ?_
 refine CU (b:=((((uv x).length:Nat):Int) == 1)) (fun _ _ _=>by kernel_rfl) (fun hb=>?_) (fun hb=>?_)
 ·exact CV (t:=22) (d1:=90) (dd:=91) (len:=1) (cs:=[.int .u8 (IntKind.u8.wrap ((x:Nat):Int))]) 3 (fun _ _ _ _ _ _ _=>by kernel_rfl) kz kz (Lp x hx (by have:=eq_of_beq hb; omega)) kz
 have g1:=ne_of_beq_false hb
 exfalso; omega
theorem FP (s':ByteArray) (A:Option Addr) (cp:Nat) (s:Bs) (w:World) (ho:w.ownsRow 0 5 1 (.slice A s.length cp) s.length (bc s)) (hroom:s.length + (be 2 s'.size ++ sb s').length + 16 ≤ 1099511627776) :
  Calls Tryz.prog 35 (.slice A s.length cp :: [.string s']).toArray w (L1 w 5 A (s ++ (be 2 s'.size ++ sb s'))):=by
 refine Z8 (n:=13) Tryz.func35 rfl Tryz.ntmps35 kz rfl ho hroom ?_
 refine P6 (E6 (env':=[(1,.v (.string s'))]) [1] (fun _ _ _=>by kernel_rfl)) ?_
 refine Cg (J3 (env':=[(1,.v (.string s'))]) (f:=38) (vs:=[.int .i16 (IntKind.i16.wrap ((s'.size:Nat):Int))]) 4 [1] (fun _ _ _ _ _ _=>by kernel_rfl) kz Tryz.call38 (fun A cp s w _ _ ho hr=>by have h:=FM A cp s (IntKind.i16.wrap ((s'.size:Nat):Int)) w ho (by omega); rwa [BB] at h)) ?_
 exact HO (t:=22) (u:=9) 2 (fun _ _ _ _ _ _=>by kernel_rfl) kz kz kz kz
theorem FQ (s':ByteArray) (A:Option Addr) (cp:Nat) (s:Bs) (w:World) (ho:w.ownsRow 0 5 1 (.slice A s.length cp) s.length (bc s)) (hsm:s'.size ≤ 1000000) (hroom:s.length + (uv (s'.size + 1) ++ sb s').length + 16 ≤ 1099511627776) :
  Calls Tryz.prog 34 (.slice A s.length cp :: [.string s']).toArray w (L1 w 5 A (s ++ (uv (s'.size + 1) ++ sb s'))):=by
 refine Z8 (n:=14) Tryz.func34 rfl Tryz.ntmps34 kz rfl ho hroom ?_
 refine P6 (E6 (env':=[(1,.v (.string s'))]) [1] (fun _ _ _=>by kernel_rfl)) ?_
 refine Cg (J3 (env':=[(1,.v (.string s'))]) (f:=42) (vs:=[.int .u32 (IntKind.u32.wrap (1 + IntKind.u32.wrap ((s'.size:Nat):Int)))]) 5 [1] (fun _ _ _ _ _ _=>by kernel_rfl) kz Tryz.call42 (fun A cp s w _ _ ho hr=>by rw [show (IntKind.u32.wrap (1 + IntKind.u32.wrap ((s'.size:Nat):Int)):Int) = ((s'.size + 1:Nat):Int) from by simp only [D5]; omega]; exact Q1 (s'.size + 1) (by omega) A cp s w ho hr)) ?_
 exact HO (t:=22) (u:=9) 2 (fun _ _ _ _ _ _=>by kernel_rfl) kz kz kz kz
theorem LE (Ap:Option Addr) (s':ByteArray) (A:Option Addr) (cp:Nat) (s:Bs) (w:World) (ho:w.ownsRow 0 5 1 (.slice A s.length cp) s.length (bc s)) (F:Nat → Nat → Prop) (hF:∀ b o,F b o → ¬ F4 A b o) (hO:∀ ad,Ap = some ad → ∃ b o,ad = ⟨b,o,none⟩ ∧ AtF w F b o [.string s']) (hsm:s'.size ≤ 1000000) (hroom:s.length + (match Ap with | none=>be 2 (-1) | some _=>be 2 s'.size ++ sb s').length + 16 ≤ 1099511627776) :
  Calls Tryz.prog 41 (.slice A s.length cp :: [.pointer Ap]).toArray w (L1 w 5 A (s ++ (match Ap with | none=>be 2 (-1) | some _=>be 2 s'.size ++ sb s'))):=by
 refine Z8 (n:=14) Tryz.func41 rfl Tryz.ntmps41 kz rfl ho hroom ?_
 refine P6 (E6 (env':=[(1,.v (.pointer Ap))]) [1] (fun _ _ _=>by kernel_rfl)) ?_
 refine HN (b:=Ap.isNone) (E6 (env':=[(1,.v (.pointer Ap)),(6,.v (.bool Ap.isNone))]) [1,6] (fun _ _ _=>by kernel_rfl)) (fun _ _ _=>by kernel_rfl) (fun hb=>?_) (fun hb=>?_)
 ·obtain rfl:Ap = none:=by simpa using hb
  exact Cm (f:=38) (vs:=[.int .i16 (-1)]) 1 (fun _ _ _ _ _ _=>by kernel_rfl) kz Tryz.call38 (fun A cp s w _ _ ho hr=>FM A cp s (-1) w ho (by omega))
 cases Ap with
 | none=>cases hb
 | some ad =>
  obtain ⟨b,o,rfl,hat⟩:=hO _ rfl
  refine Fz b o [.string s'] hat hF kz kz ?_
  refine HQ (e1:=[(1,.v (.pointer (some ⟨b,o,none⟩)))]) [1] (fun _ _ _=>by kernel_rfl) ?_
  refine FA 1 0 0 b o (by simp) rfl rfl rfl ?_
  exact Cm (f:=35) (vs:=[.string s']) 4 (fun _ _ _ _ _ _=>by kernel_rfl) kz Tryz.call35 (fun A cp s w _ _ ho hr=>FP s' A cp s w ho hr)
theorem LF (Ap:Option Addr) (s':ByteArray) (A:Option Addr) (cp:Nat) (s:Bs) (w:World) (ho:w.ownsRow 0 5 1 (.slice A s.length cp) s.length (bc s)) (F:Nat → Nat → Prop) (hF:∀ b o,F b o → ¬ F4 A b o) (hO:∀ ad,Ap = some ad → ∃ b o,ad = ⟨b,o,none⟩ ∧ AtF w F b o [.string s']) (hsm:s'.size ≤ 1000000) (hroom:s.length + (match Ap with | none=>uv 0 | some _=>uv (s'.size + 1) ++ sb s').length + 16 ≤ 1099511627776) :
  Calls Tryz.prog 40 (.slice A s.length cp :: [.pointer Ap]).toArray w (L1 w 5 A (s ++ (match Ap with | none=>uv 0 | some _=>uv (s'.size + 1) ++ sb s'))):=by
 refine Z8 (n:=14) Tryz.func40 rfl Tryz.ntmps40 kz rfl ho hroom ?_
 refine P6 (E6 (env':=[(1,.v (.pointer Ap))]) [1] (fun _ _ _=>by kernel_rfl)) ?_
 refine HN (b:=Ap.isNone) (E6 (env':=[(1,.v (.pointer Ap)),(6,.v (.bool Ap.isNone))]) [1,6] (fun _ _ _=>by kernel_rfl)) (fun _ _ _=>by kernel_rfl) (fun hb=>?_) (fun hb=>?_)
 ·obtain rfl:Ap = none:=by simpa using hb
  exact Cm (f:=42) (vs:=[.int .u32 0]) 1 (fun _ _ _ _ _ _=>by kernel_rfl) kz Tryz.call42 (fun A cp s w _ _ ho hr=>Q1 0 (by omega) A cp s w ho hr)
 cases Ap with
 | none=>cases hb
 | some ad =>
  obtain ⟨b,o,rfl,hat⟩:=hO _ rfl
  refine Fz b o [.string s'] hat hF kz kz ?_
  refine HQ (e1:=[(1,.v (.pointer (some ⟨b,o,none⟩)))]) [1] (fun _ _ _=>by kernel_rfl) ?_
  refine FA 1 0 0 b o (by simp) rfl rfl rfl ?_
  exact Cm (f:=34) (vs:=[.string s']) 4 (fun _ _ _ _ _ _=>by kernel_rfl) kz Tryz.call34 (fun A cp s w _ _ ho hr=>FQ s' A cp s w ho hsm hr)
theorem DQ (m:Nat) (A:Option Addr) (cp:Nat) (s:Bs) (w:World) (ho:w.ownsRow 0 5 1 (.slice A s.length cp) s.length (bc s)) (hroom:s.length + (be 4 m).length + 16 ≤ 1099511627776) :
  Calls Tryz.prog 33 (.slice A s.length cp :: [.int .i64 ((m:Nat):Int)]).toArray w (L1 w 5 A (s ++ (be 4 m))):=by
 refine Z8 (n:=9) Tryz.func33 rfl Tryz.ntmps33 kz rfl ho hroom ?_
 refine P6 (E6 (env':=[(1,.v (.int .i64 ((m:Nat):Int)))]) [1] (fun _ _ _=>by kernel_rfl)) ?_
 exact Cm (f:=37) (vs:=[.int .i32 (IntKind.i32.wrap ((m:Nat):Int))]) 3 (fun _ _ _ _ _ _=>by kernel_rfl) kz Tryz.call37 (fun A cp s w _ _ ho hr=>by have h:=Bb A cp s (IntKind.i32.wrap ((m:Nat):Int)) w ho (by omega); rwa [be4_i32'] at h)
theorem DR (m:Nat) (hm:m ≤ 1000000) (A:Option Addr) (cp:Nat) (s:Bs) (w:World) (ho:w.ownsRow 0 5 1 (.slice A s.length cp) s.length (bc s)) (hroom:s.length + (uv (m + 1)).length + 16 ≤ 1099511627776) :
  Calls Tryz.prog 32 (.slice A s.length cp :: [.int .i64 ((m:Nat):Int)]).toArray w (L1 w 5 A (s ++ (uv (m + 1)))):=by
 refine Z8 (n:=10) Tryz.func32 rfl Tryz.ntmps32 kz rfl ho hroom ?_
 refine P6 (E6 (env':=[(1,.v (.int .i64 ((m:Nat):Int)))]) [1] (fun _ _ _=>by kernel_rfl)) ?_
 exact Cm (f:=42) (vs:=[.int .u32 (IntKind.u32.wrap (1 + IntKind.u32.wrap ((m:Nat):Int)))]) 4 (fun _ _ _ _ _ _=>by kernel_rfl) kz Tryz.call42 (fun A cp s w _ _ ho hr=>by rw [show (IntKind.u32.wrap (1 + IntKind.u32.wrap ((m:Nat):Int)):Int) = ((m + 1:Nat):Int) from by simp only [D5]; omega]; exact Q1 (m + 1) (by omega) A cp s w ho hr)
theorem LG (o:Bs) (hl:o.length = 16) (A:Option Addr) (cp:Nat) (s:Bs) (w:World) (ho:w.ownsRow 0 5 1 (.slice A s.length cp) s.length (bc s)) (hroom:s.length + o.length + 16 ≤ 1099511627776) :
  Calls Tryz.prog 36 (.slice A s.length cp :: [.agg ((List.range 16).map fun i=>B7 (o.getD i 0)).toArray]).toArray w (L1 w 5 A (s ++ o)):=by
 refine Z8 (n:=8) Tryz.func36 rfl Tryz.ntmps36 kz rfl ho hroom ?_
 refine Lf (cs:=(List.range 16).map fun i=>B7 (o.getD i 0)) (e2:=fun blk=>[(3,.p 0 0)]) 0 [3] (fun _ _ _ _=>by kernel_rfl) kz fun blk=>?_
 exact Ld (t:=22) (num:=16) 2 0 (fun _ _ _ _ _ _=>by kernel_rfl) kz kz (by rw [← Lg hl]; rfl) hl
end Go.Proofs.YtoclgihkbmaolacGreatDoor.ME
namespace Go.Proofs.YtoclgihkbmaolacGreatDoor.ME
open Go
open Go.RowKit
open Go.ChangeMaps (setBlock)
set_option linter.unusedVariables false
set_option linter.unusedSimpArgs false
set_option maxRecDepth 20000
structure Dst (w:World) (B e8:Nat) (A:Option Addr) (cp:Nat) (s:Bs):Prop where
 cell:w.cell? ⟨B,0,none⟩ = some (.slice A s.length cp)
 frz:w.frozen? ⟨B,0,none⟩ = false
 own:w.ownsRow 0 e8 1 (.slice A s.length cp) s.length (bc s)
 ne:A.map (·.block) ≠ some B
def BM (B:Nat) (A:Option Addr):Nat → Nat → Prop:=fun b o=>(b = B ∧ o = 0) ∨ F4 A b o
def HZ (w:World) (B e8:Nat) (A:Option Addr) (s:Bs):Ending → World → Prop:=fun en w' =>
 en = .returned (.tuple #[]) ∧ ∃ A' cp',Dst w' B e8 A' cp' s ∧ M8 w A A' ∧ Step w w' (BM B A)
theorem Dst.wok {w:World} {B e8 cp:Nat} {A:Option Addr} {s:Bs} (h:Dst w B e8 A cp s):WOk w (BM B A) w [⟨B,0,[.slice A s.length cp],true⟩] [B0 A cp e8 s]:=by
 have h1:WOk w (BM B A) w [⟨B,0,[.slice A s.length cp],true⟩] []:=by
  refine (WOk.start w _).add ⟨B,0,[.slice A s.length cp],true⟩ (World.lt_of_cell h.cell) (fun j v hj=>?_) (fun _ j hj=>?_) (fun i ob hi=>by simp at hi) (fun i r hi=>by simp at hi)
  ·have hj0:j = 0:=by
    have:=(List.getElem?_eq_some_iff.1 hj).1
    simp at this; omega
   subst hj0
   simp only [List.getElem?_cons_zero,Option.some.injEq] at hj
   subst hj
   exact h.cell
  have hj0:j = 0:=by simp at hj; omega
  subst hj0
  exact ⟨.inr (.inl ⟨rfl,rfl⟩),h.frz⟩
 refine h1.addRow (B0 A cp e8 s) h.own (fun g hg=>.inr fun o=>.inr hg) (fun i ob hi=>?_) (fun i r hi=>by simp at hi)
 cases i with
 | zero =>
  simp only [List.getElem?_cons_zero,Option.some.injEq] at hi; subst hi
  exact h.ne
 | succ i=>simp at hi
theorem LH {w0 w:World} {B e8 cp:Nat} {A0 A:Option Addr} {s:Bs} {v:Value} (hW:WOk w0 (BM B A0) w [⟨B,0,[v],true⟩] [B0 A cp e8 s]) (hv:v = .slice A s.length cp) (hB:B < w0.heap.size):Dst w B e8 A cp s ∧ M8 w0 A0 A ∧ Step w0 w (BM B A0):=by
 subst hv
 refine ⟨⟨?_,?_,hW.own 0 _ rfl,fun e=>hW.rtb 0 _ rfl B e 0 _ rfl rfl⟩,fun g hg=>?_,hW.step⟩
 ·exact hW.cells 0 _ rfl 0 _ rfl
 ·exact (hW.rw_ 0 _ rfl rfl 0 (by simp)).2
 rcases hW.ownM 0 _ rfl g hg with h | h
 ·exact .inr h
 rcases h 0 with ⟨rfl,_⟩ | h
 ·exact absurd rfl (hW.rtb 0 _ rfl _ hg 0 _ rfl)
 exact .inl h
def L7 (k:Int) (x:Bs):Bs:=uv k.toNat ++ uv x.length ++ x
theorem LI {w:World} {B cp c:Nat} {k:Int} {A Av:Option Addr} {s x:Bs} {G:Nat → Nat → Prop} (hd:Dst w B 5 A cp s) (hk:0 ≤ k ∧ k < 4294967296) (hx:Octs w G Av c x) (hG:∀ b o,G b o → ¬ BM B A b o)
  (hxl:x.length < 4294967296) (hroom:s.length + (L7 k x).length + 16 ≤ 1099511627776) :
  Calls Tryz.prog 85 [.int .u32 k,.slice Av x.length c,.pointer (some ⟨B,0,none⟩)].toArray w (HZ w B 5 A (s ++ L7 k x)):=by
 obtain ⟨m,rfl⟩:∃ m:Nat,k = (m:Int):=⟨k.toNat,by omega⟩
 have hB:=World.lt_of_cell hd.cell
 unfold L7 at hroom ⊢
 rw [Int.toNat_natCast] at hroom ⊢
 simp only [List.length_append] at hroom
 refine enter (n:=16) Tryz.func85 rfl Tryz.ntmps85 kz fun a hE=>?_
 have hW:=hd.wok
 have hE0:=(hE.grow ⟨B,0,[.slice A s.length cp],true⟩).recast 2 (.v (.pointer (some ⟨B,0,none⟩))) (.p 0 0) rfl rfl (by simp [SV.ok])
 refine C1 [0,1,2,3] kz ?_
 refine F9 [0,1] [2,3] [0,1,2,5,6] hW hE0 (env':=[(0,.v (.int .u32 (m:Int))),(1,.v (.slice Av x.length c)),(2,.p 0 0),(5,.v (.slice A s.length cp)),(6,.v (.int .u32 (m:Int)))]) kz rfl fun a1 hE1=>?_
 refine B1 (D6 hE1 (f:=42) (vs:=[.slice A s.length cp,.int .u32 (m:Int)]) (d:=7) kz Tryz.call42 (Q1 m (by omega) A cp s _ (hW.own 0 _ rfl) (by omega)) ?_)
 rintro e_ w1 ⟨A1,c1,rfl,ho1,hs1,hn1⟩
 refine ⟨_,rfl,fun a2 hE2=>?_⟩
 have hW1:WOk _ _ _ _ [B0 A1 c1 5 (s ++ uv m)]:=hW.grow (k:=0) rfl hs1 ho1 hn1
 refine B1 (I9 hW1 hE2 (oi:=0) (cs:=[.slice A1 (s ++ uv m).length c1]) kz fun w2 hF2 hW2 hE2'=>B4 (A4 ?_))
 refine C1 [0,1,2,3,4,5] kz ?_
 refine F9 [0,1,2,3] [4,5] [1,2,8,11] hW2 hE2' (env':=[(1,.v (.slice Av x.length c)),(2,.p 0 0),(8,.v (.slice A1 (s ++ uv m).length c1)),(11,.v (.int .u32 (IntKind.u32.wrap ((x.length:Nat):Int))))]) kz rfl fun a3 hE3=>?_
 rw [D5,Int.emod_eq_of_lt (by omega) (by omega)] at hE3
 refine B1 (D6 hE3 (f:=42) (vs:=[.slice A1 (s ++ uv m).length c1,.int .u32 ((x.length:Nat):Int)]) (d:=12) kz Tryz.call42 (Q1 x.length hxl A1 c1 (s ++ uv m) _ (hW2.own 0 _ rfl) (by rw [List.length_append]; omega)) ?_)
 rintro e_ w3 ⟨A2,c2,rfl,ho2,hs2,hn2⟩
 refine ⟨_,rfl,fun a4 hE4=>?_⟩
 have hW3:WOk _ _ _ _ [B0 A2 c2 5 (s ++ uv m ++ uv x.length)]:=hW2.grow (k:=0) rfl hs2 ho2 hn2
 refine B1 (I9 hW3 hE4 (oi:=0) (cs:=[.slice A2 (s ++ uv m ++ uv x.length).length c2]) kz fun w4 hF4 hW4 hE4'=>B4 (A4 ?_))
 refine E4 [0,1,2,3] kz ?_
 refine F9 [0,1] [2,3] [2,13,14] hW4 hE4' (env':=[(2,.p 0 0),(13,.v (.slice A2 (s ++ uv m ++ uv x.length).length c2)),(14,.v (.slice Av x.length c))]) kz rfl fun a5 hE5=>?_
 have hx4:Octs w4 G Av c x:=hx.move hW4.step (fun b o hg _=>hG b o hg) F3
 refine B1 (N8 hW4 hE5 (k:=0) (t:=22) (e:=5) (bytes:=1) (d:=15) (m:=x.length) kz kz rfl hx4.src hx4.cap (by rw [List.length_append,List.length_append]; omega) fun A3 c3 a6 w5 hF5 hW5 hE6=>?_)
 have er:(⟨A3,c3,5,1,(s ++ uv m ++ uv x.length).length + x.length,bc (s ++ uv m ++ uv x.length) ++ bc x⟩:Rw) = B0 A3 c3 5 (s ++ (uv m ++ uv x.length ++ x)):=by
  rw [K9 rfl rfl]; congr 1; simp
 have hW5':WOk w (BM B A) w5 [⟨B,0,[.slice A2 (s ++ uv m ++ uv x.length).length c2],true⟩] [B0 A3 c3 5 (s ++ (uv m ++ uv x.length ++ x))]:=er ▸ hW5
 refine B1 (I9 hW5' hE6 (oi:=0) (cs:=[.slice A3 ((s ++ uv m ++ uv x.length).length + x.length) c3]) kz fun w6 hF6 hW6 hE6'=>B4 ?_)
 obtain ⟨h1,h2,h3⟩:=LH hW6 (by congr 1; simp; omega) hB
 exact U3 hE6' hW6.cells (v:=.tuple #[]) kz ⟨rfl,A3,c3,h1,h2,h3⟩
section
variable {P:Program} {ops:Array Oper} {Q:Exit → Act → World → Prop} {n:Nat} {tb:Tb} {env:B8} {rs:List Rw} {w0:World} {M:Nat → Nat → Prop} {a:Act} {w:World} {F:Nat → Nat → Prop}
def DS (env:B8) (ops:Array Oper) (n i:Nat):Option (TypeId × Option Nat × Nat) :=
 match F6 env ops n i with
 | some (.range t x,d)=>match E7 env x with
  | some (.v (.map m))=>some (t,m,d)
  | _=>none
 | _=>none
theorem LJ {i d r:Nat} {t kt et:TypeId} {es:Array MapEntry} {clk:Nat} {N:Act → World → Prop} (hE:EnvOk n tb env a) (h:DS env ops n i = some (t,some r,d)) (ht:Z9 P t = some (kt,et)) (hr:w.heap[r]? = some (.map es clk))
  (K:∀ a',EnvOk n tb ((d,.v (.pointer (some ⟨w.heap.size,0,none⟩))) :: env) a' → N a' (w.alloc (.mapIter (some r) clk #[] clk))):wpOp P ops Q i N a w:=by
 unfold DS at h
 split at h
 ·rename_i t' x d' ho
  split at h
  ·rename_i m' hs
   simp only [Option.some.injEq,Prod.mk.injEq] at h
   obtain ⟨rfl,rfl,rfl⟩:=h
   have hd:=(I6 hE ho).choose_spec.2.2.2.1
   refine L4 hE ho (v:=.pointer (some ⟨w.heap.size,0,none⟩)) (w':=w.alloc (.mapIter (some r) clk #[] clk)) ?_ (K _ (hE.put hd (.v _) trivial))
   intro o hop
   unfold execOp
   rw [hop]
   simp only [(E9 hE hs).1,SV.val,Sem.run_bind,run_range_map (P:=P) w _ _ _ r es clk (BE ht) hr,Result.andThen_ok,Sem.run_pure]
  cases h
 cases h
def DT (env:B8) (ops:Array Oper) (n i:Nat):Option (Nat × Nat) :=
 match F6 env ops n i with
 | some (.next x false,d)=>match E7 env x with
  | some (.v (.pointer (some ⟨r,0,none⟩)))=>some (r,d)
  | _=>none
 | _=>none
theorem LK {i d r bm since c0:Nat} {seen:Array Nat} {es:Array MapEntry} {clk:Nat} {N:Act → World → Prop} (hE:EnvOk n tb env a) (h:DT env ops n i = some (r,d)) (hr:w.heap[r]? = some (.mapIter (some bm) since seen c0)) (hb:w.heap[bm]? = some (.map es clk)) (hold:∀ x ∈ es.toList,x.born < since) (hsc:since ≤ c0)
  (K0:(leftOf es seen).size = 0 → ∀ a',EnvOk n tb ((d,.v (.tuple #[.bool false])) :: env) a' → N a' w)
  (K1:∀ e ∈ (leftOf es seen).toList,∀ w1:World,(w1 = w ∨ w1 = w.drew) → ∀ a',EnvOk n tb ((d,.v (.tuple #[.bool true,e.key,e.val])) :: env) a' → N a' (setBlock w1 r (.mapIter (some bm) since (seen.push e.born) clk))):wpOp P ops Q i N a w:=by
 unfold DT at h
 split at h
 ·rename_i x d' ho
  split at h
  ·rename_i r' hs
   simp only [Option.some.injEq,Prod.mk.injEq] at h
   obtain ⟨rfl,rfl⟩:=h
   obtain ⟨o,h1,h2,h3,h4,h5⟩:=I6 hE ho
   have key:∀ (v:Value) (w':World),(Instr.next (.pointer (some ⟨r',0,none⟩)) false o.type).run P w = .ok v w' → N (a.put (some d') v) w' → wpOp P ops Q i N a w:=by
    intro v w' hrun hN
    simp only [wpOp,h1]
    have:Region.wanted o (yielded ops a.tmps) = true:=by first | exact h2 | simp [Region.wanted,h2]
    rw [this]
    simp only [if_true]
    refine .inl ?_
    unfold Oper.wp
    have hr':(execOp a.eval o).run P w = .ok (.value v) w':=by
     unfold execOp
     rw [h5]
     simp only [(E9 hE hs).1,SV.val,Sem.run_bind,hrun,Result.andThen_ok,Sem.run_pure]
    rw [hr',Oper.upon,h3]
    exact hN
   rcases run_next_at (P:=P) w o.type r' bm since c0 seen es clk hr hb hold hsc with ⟨g1,g2⟩ | ⟨e,g1,w1,g2,g3⟩
   ·exact key _ _ g2 (K0 g1 _ (hE.put h4 (.v _) trivial))
   exact key _ _ g3 (K1 e g1 w1 g2 _ (hE.put h4 (.v _) trivial))
  cases h
 cases h
def Ia (env:B8) (ops:Array Oper) (n i:Nat):Option (Nat × Nat) :=
 match F6 env ops n i with
 | some (.entry x,d)=>match E7 env x with
  | some (.v (.pointer (some ⟨r,0,none⟩)))=>some (r,d)
  | _=>none
 | _=>none
theorem LL {i d r bm since:Nat} {seen:Array Nat} {es:Array MapEntry} {clk:Nat} {e:MapEntry} {N:Act → World → Prop} (hE:EnvOk n tb env a) (h:Ia env ops n i = some (r,d)) (hr:w.heap[r]? = some (.mapIter (some bm) since (seen.push e.born) clk)) (hb:w.heap[bm]? = some (.map es clk)) (he:e ∈ es.toList) (hn:(es.toList.map (·.born)).Nodup)
  (K:∀ a',EnvOk n tb ((d,.v (.tuple #[e.key,e.val])) :: env) a' → N a' w):wpOp P ops Q i N a w:=by
 unfold Ia at h
 split at h
 ·rename_i x d' ho
  split at h
  ·rename_i r' hs
   simp only [Option.some.injEq,Prod.mk.injEq] at h
   obtain ⟨rfl,rfl⟩:=h
   have hd:=(I6 hE ho).choose_spec.2.2.2.1
   refine L4 hE ho (v:=.tuple #[e.key,e.val]) (w':=w) ?_ (K _ (hE.put hd (.v _) trivial))
   intro o hop
   unfold execOp
   rw [hop]
   simp only [(E9 hE hs).1,SV.val,Sem.run_bind,run_entry_at (P:=P) w r' bm since seen es clk e hr hb he hn,Result.andThen_ok,Sem.run_pure]
  cases h
 cases h
def Db (tb:Tb) (env:B8) (ops:Array Oper) (n i:Nat):Option (Value × Nat) :=
 match F6 env ops n i with
 | some (.makeFunc fn first cap,d)=>match first.toList,Cc tb env cap.toList with
  | [],some vs=>some (.func fn #[] vs.toArray,d)
  | _,_=>none
 | _=>none
theorem Ib {i d:Nat} {v:Value} {N:Act → World → Prop} (hE:EnvOk n tb env a) (h:Db tb env ops n i = some (v,d)) (K:∀ a',EnvOk n tb ((d,.v v) :: env) a' → N a' w):wpOp P ops Q i N a w:=by
 unfold Db at h
 split at h
 ·rename_i fn first cap d' ho
  split at h
  ·rename_i vs hf hv
   simp only [Option.some.injEq,Prod.mk.injEq] at h
   obtain ⟨rfl,rfl⟩:=h
   have hd:=(I6 hE ho).choose_spec.2.2.2.1
   refine L4 hE ho (v:=.func fn #[] vs.toArray) (w':=w) ?_ (K _ (hE.put hd (.v _) trivial))
   intro o hop
   unfold execOp
   rw [hop]
   have e1:first = #[]:=Array.ext' hf
   have e2:cap.map a.eval = vs.toArray:=Array.ext' (by simpa using Fg hE hv)
   subst e1
   simp [Instr.makeFunc,e2]
  cases h
 cases h
end
def Bc:Value → Int
 | .int _ k=>k
 | _=>0
structure Vis (es vis:List MapEntry) (seen:Array Nat):Prop where
 seen:seen.toList = vis.map (·.born)
 sub:∀ e ∈ vis,e ∈ es
 nodup:(vis.map (·.born)).Nodup
theorem Vis.nil (es:List MapEntry):Vis es [] #[]:=⟨rfl,(fun _ h=>by cases h),List.nodup_nil⟩
theorem Vis.push {es:Array MapEntry} {vis:List MapEntry} {seen:Array Nat} {e:MapEntry} (h:Vis es.toList vis seen) (he:e ∈ (leftOf es seen).toList):Vis es.toList (vis ++ [e]) (seen.push e.born):=by
 obtain ⟨h1,h2⟩:=mem_left he
 have hn:e.born ∉ vis.map (·.born):=by
  rw [← h.seen]
  intro hm
  have:seen.contains e.born = true:=by simpa using Array.mem_toList_iff.1 hm
  rw [this] at h2; cases h2
 refine ⟨by simp [h.seen],fun x hx=>?_,?_⟩
 ·rcases List.mem_append.1 hx with hx | hx
  ·exact h.sub x hx
  rw [List.mem_singleton.1 hx]; exact h1
 rw [List.map_append,List.map_cons,List.map_nil]
 refine List.nodup_append.2 ⟨h.nodup,by simp,fun x hx y hy=>?_⟩
 rw [List.mem_singleton.1 hy]
 rintro rfl
 exact hn hx
theorem Ic {α β:Type} {l:List α} {f:α → β} (h:(l.map f).Nodup):l.Nodup:=List.Pairwise.of_map f (fun a b hab e=>hab (by rw [e])) h
theorem Vis.all {es:Array MapEntry} {vis:List MapEntry} {seen:Array Nat} (h:Vis es.toList vis seen) (h0:(leftOf es seen).size = 0) (hn:(es.toList.map (·.born)).Nodup):vis.Perm es.toList:=by
 refine (List.perm_ext_iff_of_nodup (Ic h.nodup) (Ic hn)).2 fun e=>⟨h.sub e,fun he=>?_⟩
 have hc:seen.contains e.born = true:=by
  cases hc:seen.contains e.born with
  | true=>rfl
  | false =>
   exfalso
   have hm:e ∈ leftOf es seen:=Array.mem_filter.2 ⟨Array.mem_toList_iff.1 he,by simp [hc] at hc ⊢; exact hc⟩
   have:=Array.size_pos_of_mem hm
   omega
 have hm:e.born ∈ seen.toList:=by simpa using hc
 rw [h.seen] at hm
 obtain ⟨e',h1,h2⟩:=List.mem_map.1 hm
 have h3:=h.sub e' h1
 obtain ⟨i1,g1⟩:=List.getElem?_of_mem h3
 obtain ⟨i2,g2⟩:=List.getElem?_of_mem he
 have k1:(es.toList.map (·.born))[i1]? = some e'.born:=by rw [List.getElem?_map,g1]; rfl
 have k2:(es.toList.map (·.born))[i2]? = some e.born:=by rw [List.getElem?_map,g2]; rfl
 have hi:i1 = i2:=by
  obtain ⟨l1,q1⟩:=List.getElem?_eq_some_iff.1 k1
  obtain ⟨l2,q2⟩:=List.getElem?_eq_some_iff.1 k2
  rcases Nat.lt_trichotomy i1 i2 with hlt | h | hlt
  ·exact absurd (by rw [q1,q2,h2]) (List.pairwise_iff_getElem.1 hn i1 i2 l1 l2 hlt)
  ·exact h
  exact absurd (by rw [q1,q2,h2]) (List.pairwise_iff_getElem.1 hn i2 i1 l2 l1 hlt)
 subst hi
 rw [g1] at g2
 rw [← Option.some.inj g2]; exact h1
theorem LM {w:World} {e g c nn:Nat} {ks:List Int} {d':Array Int} {n:Nat} {os:Array Obj} (hnn:ks.length = nn) (ho:w.ownsRow 0 e 1 (.slice (some ⟨g,0,none⟩) nn c) nn (ks.map (Value.int .u32))) (hd:d'.size = ks.length) :
  Step w (Sort.grow (Sort.putRow (Value.int .u32) (Sort.ahead w n) g 0 d') os) (fun b _=>b = g) ∧ (Sort.grow (Sort.putRow (Value.int .u32) (Sort.ahead w n) g 0 d') os).ownsRow 0 e 1 (.slice (some ⟨g,0,none⟩) nn c) nn (d'.toList.map (Value.int .u32)):=by
 subst hnn
 have hold:∀ b,b < w.heap.size → (Sort.grow (Sort.putRow (Value.int .u32) (Sort.ahead w n) g 0 d') os).heap[b]? = (Sort.putRow (Value.int .u32) (Sort.ahead w n) g 0 d').heap[b]?:=fun b hb=>by
  show ((Sort.putRow (Value.int .u32) (Sort.ahead w n) g 0 d').heap ++ os)[b]? = _
  rw [Array.getElem?_append_left]
  simpa [Sort.putRow,Sort.mapBlock,Sort.ahead] using hb
 have hput:∀ b,(Sort.putRow (Value.int .u32) (Sort.ahead w n) g 0 d').heap[b]? = if g = b then (w.heap[b]?).map (Sort.onCells (Sort.putCells (Value.int .u32) 0 d')) else w.heap[b]?:=fun b=>by
  show (w.heap.modify g _)[b]? = _
  rw [Array.getElem?_modify]
 refine ⟨⟨rfl,rfl,?_,fun b hb=>?_⟩,?_⟩
 ·show w.heap.size ≤ ((Sort.putRow (Value.int .u32) (Sort.ahead w n) g 0 d').heap ++ os).size
  simp [Sort.putRow,Sort.mapBlock,Sort.ahead]
 ·rw [hold b hb,hput b]
  by_cases h:g = b
  ·exact ⟨fun hm=>absurd h.symm (hm 0),fun ⟨o,ho⟩=>absurd h.symm ho⟩
  rw [if_neg h]; exact Keeps.refl _ _
 rcases ho.2 with ⟨hv,_⟩ | ⟨g',cap,cur,hv,_,hg,hnc,hmx,hcs,htake⟩
 ·cases hv
 simp only [Value.slice.injEq,Option.some.injEq,Addr.mk.injEq,true_and,and_true] at hv
 obtain ⟨rfl,rfl⟩:=hv
 have hlt:g < w.heap.size:=(Array.getElem?_eq_some_iff.1 hg).1
 refine ⟨by simp [hd],.inr ⟨g,c,Sort.putCells (Value.int .u32) 0 d' cur,rfl,Nat.zero_le _,?_,hnc,hmx,by simpa [Sort.putCells] using hcs,?_⟩⟩
 ·rw [hold g hlt,hput g,if_pos rfl,hg]; rfl
 apply List.ext_getElem?
 intro k
 rw [List.getElem?_take,List.getElem?_map]
 by_cases hk:k < ks.length
 ·rw [if_pos (by omega)]
  have hkc:k < cur.size:=by omega
  have hkd:k < d'.size:=by omega
  simp only [Sort.putCells,Array.getElem?_toList,Array.getElem?_mapIdx,Array.getElem?_eq_getElem hkc,Array.getElem?_eq_getElem hkd,Option.map_some]
  rw [if_pos ⟨by omega,by omega⟩,Nat.sub_zero,getElem!_pos d' k hkd]
 rw [if_neg (by omega),Array.getElem?_toList,Array.getElem?_eq_none (by omega)]; rfl
theorem Ie {w:World} {e g c nn:Nat} {ks:List Int} (hnn:ks.length = nn) (ho:w.ownsRow 0 e 1 (.slice (some ⟨g,0,none⟩) nn c) nn (ks.map (Value.int .u32))):Sort.Holds (Value.int .u32) w g 0 ks.toArray:=by
 subst hnn
 rcases ho.2 with ⟨hv,_⟩ | ⟨g',cap,cur,hv,_,hg,hnc,hmx,hcs,htake⟩
 ·cases hv
 simp only [Value.slice.injEq,Option.some.injEq,Addr.mk.injEq,true_and,and_true] at hv
 obtain ⟨rfl,rfl⟩:=hv
 intro j hj
 have hj':j < ks.length:=by simpa using hj
 refine ⟨?_,by simp [World.frozen?,hg]⟩
 have h1:(cur.toList.take (ks.length * 1))[j]? = (ks.map (Value.int .u32))[j]?:=by rw [htake]
 rw [List.getElem?_take,if_pos (by omega),List.getElem?_map,List.getElem?_eq_getElem hj',Array.getElem?_toList] at h1
 rw [getElem!_pos ks.toArray j hj]
 simp [World.cell?,hg,h1]
theorem LN {d':Array Int} {ks us:List Int} (hp:d'.toList.Perm ks) (hs:Sort.SortedIn Sort.ltInt 0 d'.size d') (hk:ks.Perm us) (hu:us.Pairwise (· < ·)):d'.toList = us:=by
 refine List.Perm.eq_of_pairwise (le:=(· ≤ ·)) (fun a b _ _ h1 h2=>by omega) ?_ (hu.imp fun h=>by omega) (hp.trans hk)
 refine List.pairwise_iff_getElem.2 fun i j hi hj hij=>?_
 have h:=hs i j (Nat.zero_le _) hij (by simpa using hj)
 have hi':i < d'.size:=by simpa using hi
 have hj':j < d'.size:=by simpa using hj
 rw [getElem!_pos d' i hi',getElem!_pos d' j hj'] at h
 have h2:¬ (d'[j] < d'[i]):=of_decide_eq_false h
 simp only [Array.getElem_toList]
 omega
theorem Dst.move {w w':World} {B e8 cp:Nat} {A:Option Addr} {s:Bs} {M:Nat → Nat → Prop} (h:Dst w B e8 A cp s) (hs:Step w w' M) (hM:∀ b o,BM B A b o → ¬ M b o):Dst w' B e8 A cp s :=
 ⟨hs.cell (hM B 0 (.inl ⟨rfl,rfl⟩)) h.cell,hs.frozen (hM B 0 (.inl ⟨rfl,rfl⟩)) h.cell h.frz,BZ (r:=B0 A cp e8 s) h.own fun g hg=>(hs.keeps g (O5 (r:=B0 A cp e8 s) h.own hg)).1 fun o=>hM g o (.inr hg),h.ne⟩
def D7 (u:List (Int × Bs)):Bs:=u.flatMap fun x=>L7 x.1 x.2
theorem LO (u:List (Int × Bs)):2 * u.length ≤ (D7 u).length:=by
 induction u with
 | nil=>exact Nat.le_refl _
 | cons x r ih =>
  have e:D7 (x :: r) = L7 x.1 x.2 ++ D7 r:=rfl
  rw [e,List.length_append,List.length_cons]
  have h1:=DO x.1.toNat
  have h2:=DO x.2.length
  unfold L7
  simp only [List.length_append]
  omega
def O4 (B:Nat):Value:=.func (.func 85) #[] #[.pointer (some ⟨B,0,none⟩)]
theorem LP {m:Option Nat} {u:List (Int × Bs)} {b o B cp:Nat} {A:Option Addr} {s:Bs} {w:World} {F:Nat → Nat → Prop} (hat:AtF w F b o [.map m]) (hm:MapR w F m u) (hd:Dst w B 5 A cp s) (hF:∀ b o,F b o → ¬ BM B A b o)
  (hx:∀ x ∈ u,x.2.length < 4294967296) (hroom:s.length + (D7 u).length + 16 ≤ 1099511627776) :
  Calls Tryz.prog 84 [.pointer (some ⟨b,o,none⟩),O4 B].toArray w (HZ w B 5 A (s ++ D7 u)):=by
 have hul:=LO u
 have hB:=World.lt_of_cell hd.cell
 refine enter (n:=53) Tryz.func84 rfl Tryz.ntmps84 kz fun a hE=>?_
 have hW:WOk w C7 w [⟨b,o,[.map m],false⟩] []:=(WOk.start w C7).start1 hat rfl rfl
 refine wp_seq (wp_seq ?_)
 refine E4 [0,1,2,3,4,5] kz ?_
 refine F9 [0,1,2,3] [4,5] [0,1,11] hW (EnvOk.ptr0 (cs:=[.map m]) (r:=false) hE) (env':=[(0,.p 0 0),(1,.v (O4 B)),(11,.v (.map m))]) kz rfl fun a1 hE1=>?_
 refine B1 (CZ (t:=59) (kt:=53) (et:=22) hE1 (m:=m) (d:=12) kz kz hm fun a2 hE2=>?_)
 refine F9 [5] [] [0,1,13] hW hE2 (env':=[(0,.p 0 0),(1,.v (O4 B)),(13,.v (.bool (((u.length:Nat):Int) == 0)))]) kz rfl fun a3 hE3=>B4 (A4 ?_)
 refine E2 hE3 (b:=((u.length:Nat):Int) == 0) kz (fun hb=>?_) (fun hb=>?_)
 ·-- none
  have hu:u = []:=List.eq_nil_of_length_eq_zero (by have:=eq_of_beq hb; omega)
  subst hu
  refine wp_ret (F5 ?_)
  refine D1 hE3 hW.cells (v:=.tuple #[]) kz ⟨rfl,A,cp,?_,fun g hg=>.inl hg,Step.refl _ _⟩
  rw [show s ++ D7 [] = s from List.append_nil s]
  exact hd
 have hu0:0 < u.length:=by have:=ne_of_beq_false hb; omega
 cases m with
 | none=>rw [hm.none_ rfl] at hu0; cases hu0
 | some mb =>
 obtain ⟨hFm,es,clk,hes,hperm,hborn,hnod,hcont⟩:=hm.some_ mb rfl
 have hmlt:mb < w.heap.size:=(Array.getElem?_eq_some_iff.1 hes).1
 have hesz:es.size = u.length:=MapR.size (w:=w) (F:=F) hperm
 refine wp_skip (A4 ?_)
 refine C1 [0,1,2,3,4,5,6,7] kz ?_
 refine F9 [0,1,2,3] [4,5,6,7] [0,1,17] hW hE3 (env':=[(0,.p 0 0),(1,.v (O4 B)),(17,.v (.map (some mb)))]) kz rfl fun a4 hE4=>?_
 refine B1 (CZ (t:=59) (kt:=53) (et:=22) hE4 (m:=some mb) (d:=18) kz kz hm fun a5 hE5=>?_)
 refine B1 (KR (e:=53) (size:=1) (bytes:=4) (j:=u.length) (t:=96) (d:=19) hW hE5 (p:=0) (q:=((u.length:Nat):Int)) kz kz rfl rfl (by omega) fun kr a6 w1 hkr hkr0 hF1 hW1 hE6=>?_)
 refine B1 (N6 hW1 hE6 (d:=4) (cs:=[.slice none 0 0]) kz fun kb a7 w2 hkb hkb0 hF2 hW2 hE7=>?_)
 refine B1 (I9 hW2 hE7 (oi:=1) (cs:=[.slice (some ⟨kr,0,none⟩) 0 u.length]) kz fun w3 hF3 hW3 hE8=>B4 (A4 ?_))
 refine wp_seq (C1 [0,1,2,3,4] kz ?_)
 refine F9 [0,1,2,3] [4] [0,1,4,23] hW3 hE8 (env':=[(0,.p 0 0),(1,.v (O4 B)),(4,.p 1 0),(23,.v (.map (some mb)))]) kz rfl fun a8 hE9=>?_
 have hes3:=hW3.step.heap (fun o h=>h) hes
 refine B1 (LJ (t:=59) (kt:=53) (et:=22) (d:=24) (r:=mb) hE9 kz kz hes3 fun a9 hE10=>B4 (A4 ?_))
 have hW4:=hW3.next_nil (Step.alloc w3 (.mapIter (some mb) clk #[] clk))
 have hr4:(w3.alloc (.mapIter (some mb) clk #[] clk)).heap[w3.heap.size]? = some (.mapIter (some mb) clk #[] clk):=X4 _ _
 have hE11:=hE10.pick (ks:=[0,1,4,24]) (env':=[(0,.p 0 0),(1,.v (O4 B)),(4,.p 1 0),(24,.v (.pointer (some ⟨w3.heap.size,0,none⟩)))]) kz
 have hrlt:w3.heap.size < (w3.alloc (.mapIter (some mb) clk #[] clk)).heap.size:=by rw [CO]; omega
 have hr0:w.heap.size ≤ w3.heap.size:=hW3.step.size
 have hkbr:kb ≠ w3.heap.size:=by have:=hW3.live 1 _ rfl; show ¬ _; intro e; rw [← e] at this; exact absurd this (Nat.lt_irrefl _)
 have hkrr:kr ≠ w3.heap.size:=by have:=O5 (hW3.own 0 _ rfl) (g:=kr) rfl; omega
 generalize hR:w3.heap.size = R at hr4 hE11 hrlt hkbr hkrr
 generalize hw4:w3.alloc (.mapIter (some mb) clk #[] clk) = w4 at hW4 hr4 hrlt
 refine wp_block ?_
 refine wp_loop_ghost (fun q a_ w_=>∃ (vis:List MapEntry) (seen:Array Nat) (K:Option Addr) (kc c0:Nat),q = (leftOf es seen).size ∧ Vis es.toList vis seen ∧ vis.length + (leftOf es seen).size ≤ es.size ∧
   EnvOk 53 [⟨b,o,[.map (some mb)],false⟩,⟨kb,0,[.slice K vis.length kc],true⟩] [(0,.p 0 0),(1,.v (O4 B)),(4,.p 1 0),(24,.v (.pointer (some ⟨R,0,none⟩)))] a_ ∧
   WOk w C7 w_ [⟨b,o,[.map (some mb)],false⟩,⟨kb,0,[.slice K vis.length kc],true⟩] [⟨K,kc,53,1,vis.length,(vis.map fun e=>Bc e.key).map (Value.int .u32)⟩] ∧
   w_.heap[R]? = some (.mapIter (some mb) clk seen c0) ∧ clk ≤ c0 ∧ K.map (·.block) ≠ some R) (leftOf es #[]).size
  ⟨[],#[],some ⟨kr,0,none⟩,u.length,clk,rfl,Vis.nil _,by rw [List.length_nil,Nat.zero_add]; exact Array.size_filter_le,by rw [← hw4] at *; exact hE11,hW4,hr4,Nat.le_refl _,by simpa using hkrr⟩ ?_
 rintro q a10 w5 ⟨vis,seen,K,kc,c0,rfl,hv,hvl,hE12,hW5,hr5,hc0,hKR⟩
 have hes5:=hW5.step.heap (fun o h=>h) hes
 refine C1 [0,1] kz ?_
 refine B1 (LK hE12 (d:=25) (r:=R) kz hr5 hes5 hborn hc0 (fun h0 a11 hE13=>?_) (fun e he w6 hw6 a11 hE13=>?_))
 ·-- behind it
  refine F9 [1] [] [0,1,4,26] hW5 hE13 (env':=[(0,.p 0 0),(1,.v (O4 B)),(4,.p 1 0),(26,.v (.bool false))]) kz rfl fun a12 hE14=>B4 (A4 (wp_seq ?_))
  refine E2 hE14 (b:=false) kz (fun hb=>by cases hb) (fun _=>?_)
  refine wp_exit (F2 (F2 (I7 (A4 ?_))))
  have hpe:=hv.all h0 hnod
  have hvu:vis.length = u.length:=by rw [hpe.length_eq,Array.length_toList,hesz]
  have hkp:(vis.map fun e=>Bc e.key).Perm (u.map Prod.fst):=by
   have h1:=(hpe.map fun e=>Bc e.key)
   have h2:=hperm.map Bc
   rw [List.map_map,List.map_map] at h2
   exact h1.trans h2
  have hkl:(vis.map fun e=>Bc e.key).length = vis.length:=by simp
  generalize (vis.map fun e=>Bc e.key) = ks at hkp hkl hW5
  have hown4:w5.ownsRow 0 53 1 (.slice K vis.length kc) vis.length (ks.map (Value.int .u32)):=hW5.own 0 _ rfl
  obtain ⟨g,rfl⟩:=W3 hown4 (by omega)
  have hown5:w5.ownsRow 0 53 1 (.slice (some ⟨g,0,none⟩) vis.length kc) vis.length (ks.map (Value.int .u32)):=hown4
  have hg0:w.heap.size ≤ g:=by
   rcases hW5.ownM 0 _ rfl g rfl with h | h
   ·exact h
   exact (h 0).elim
  refine C1 [0,1,2,3] kz ?_
  refine F9 [0,1] [2,3] [0,1,4,34] hW5 hE14 (env':=[(0,.p 0 0),(1,.v (O4 B)),(4,.p 1 0),(34,.v (.iface 96 (.slice (some ⟨g,0,none⟩) vis.length kc)))]) kz rfl fun a13 hE15=>?_
  refine B1 (Ib hE15 (v:=.func (.func 94) #[] #[.pointer (some ⟨kb,0,none⟩)]) (d:=35) kz fun a14 hE16=>?_)
  have hS:=Tryz.sortKeys g kc kb ks.toArray (by simp; omega) (by simp; omega) w5 (by simp only [List.size_toArray,hkl]; exact hW5.cells 1 _ rfl 0 _ rfl) (fun e=>hW5.rtb 0 _ rfl g rfl 1 _ rfl e) (Ie hkl hown5) (O5 (hW5.own 0 _ rfl) (g:=g) rfl) (hW5.live 1 _ rfl)
  rw [List.size_toArray,hkl] at hS
  refine B1 (D6 hE16 (f:=93) (vs:=[.iface 96 (.slice (some ⟨g,0,none⟩) vis.length kc),.func (.func 94) #[] #[.pointer (some ⟨kb,0,none⟩)]]) (d:=36) kz Tryz.call93 hS ?_)
  rintro e_ w7 ⟨rfl,d',nd,os,hd1,hd2,hd3,rfl⟩
  refine ⟨_,rfl,fun a15 hE17=>B4 (A4 ?_)⟩
  have hus:d'.toList = u.map Prod.fst:=LN hd2 (by rw [hd1]; exact hd3) hkp (List.pairwise_map.2 hm.sorted)
  obtain ⟨hst7,hown7⟩:=LM (n:=nd) (os:=os) hkl hown5 (by rw [hd1,hkl])
  rw [hus] at hown7
  generalize Sort.grow (Sort.putRow (Value.int .u32) (Sort.ahead w5 nd) g 0 d') os = w7 at hst7 hown7
  have hW7:WOk w C7 w7 [⟨b,o,[.map (some mb)],false⟩,⟨kb,0,[.slice (some ⟨g,0,none⟩) vis.length kc],true⟩] [⟨some ⟨g,0,none⟩,kc,53,1,vis.length,(u.map Prod.fst).map (Value.int .u32)⟩] :=
   hW5.grow (k:=0) (r':=⟨some ⟨g,0,none⟩,kc,53,1,vis.length,(u.map Prod.fst).map (Value.int .u32)⟩) rfl (hst7.mono fun b' _ _ hb'=>by rw [hb']; rfl) hown7 (fun g' h=>.inl h)
  refine C1 [0,1,2] kz ?_
  refine F9 [0,1,2] [] [0,1,37,38,39] hW7 hE17 (env':=[(0,.p 0 0),(1,.v (O4 B)),(37,.v (.slice (some ⟨g,0,none⟩) vis.length kc)),(38,.v (.int .i64 ((vis.length:Nat):Int))),(39,.v (.int .i64 0))]) kz rfl fun a16 hE18=>B4 (A4 ?_)
  have hE19:=EnvOk.cutTb 1 hE18 kz
  have hat7:=hat.move hW7.step B2 F3
  have hm7:=hm.move hW7.step B2 F3
  have hd7:=hd.move hW7.step (fun _ _ _ h=>h)
  have hg7:g < w7.heap.size:=O5 (hW7.own 0 _ rfl) (g:=g) rfl
  have hkeys:=Ie (by simpa using hvu.symm) hown7
  have hBMlt:∀ b' o',BM B A b' o' → b' < w.heap.size:=fun b' o' hbm=>by
   rcases hbm with ⟨rfl,_⟩ | h
   ·exact hB
   exact O5 (r:=B0 A cp 5 s) hd.own h
  rw [hvu] at hE19
  refine wp_block ?_
  refine wp_loop_ghost (fun q a_ w_=>∃ (j:Nat) (A_:Option Addr) (cp_:Nat),q = u.length - j ∧ j ≤ u.length ∧ EnvOk 53 [⟨b,o,[.map (some mb)],false⟩] [(0,.p 0 0),(1,.v (O4 B)),(37,.v (.slice (some ⟨g,0,none⟩) u.length kc)),(38,.v (.int .i64 ((u.length:Nat):Int))),(39,.v (.int .i64 ((j:Nat):Int)))] a_ ∧
   Dst w_ B 5 A_ cp_ (s ++ D7 (u.take j)) ∧ M8 w7 A A_ ∧ Step w7 w_ (BM B A)) u.length
   ⟨0,A,cp,by omega,by omega,hE19,by simpa [D7] using hd7,fun g hg=>.inl hg,Step.refl _ _⟩ ?_
  rintro q a17 w8 ⟨j,A1,cp1,rfl,hj,hE20,hD,hN,hS8⟩
  have hat8:=hat7.move hS8 (fun b o hf _=>hF b o hf) F3
  have hm8:MapR w8 (fun b' o'=>F b' o' ∧ b' < w7.heap.size) (some mb) u:=hm7.move hS8 (fun b o hf _=>hF b o hf) (fun b' o' hf hl=>⟨hf,hl⟩)
  have hW8:WOk w8 C7 w8 [⟨b,o,[.map (some mb)],false⟩] []:=(WOk.start w8 C7).start1 hat8 rfl rfl
  refine C1 [0] kz (F9 [0] [] [0,1,37,38,39,40] hW8 hE20 (env':=[(0,.p 0 0),(1,.v (O4 B)),(37,.v (.slice (some ⟨g,0,none⟩) u.length kc)),(38,.v (.int .i64 ((u.length:Nat):Int))),(39,.v (.int .i64 ((j:Nat):Int))),(40,.v (.bool (decide (((j:Nat):Int) < ((u.length:Nat):Int)))))]) kz rfl fun a18 hE21=>B4 (A4 (wp_seq ?_)))
  refine E2 hE21 (b:=decide (((j:Nat):Int) < ((u.length:Nat):Int))) kz (fun hc=>?_) (fun hc=>?_)
  ·have hlt:j < u.length:=by have:=of_decide_eq_true hc; omega
   refine wp_skip (A4 (wp_seq (wp_block ?_)))
   obtain ⟨⟨k,x⟩,hu⟩:∃ y,u[j]? = some y:=⟨_,List.getElem?_eq_getElem hlt⟩
   have hmem:=List.mem_of_getElem? hu
   have hkr:=hm.range _ hmem
   have hcell:At w8 g (0 + j * 1) [.int .u32 k]:=by
    intro i v hi
    have hi0:i = 0:=by
     have:=(List.getElem?_eq_some_iff.1 hi).1
     simp at this; omega
    subst hi0
    simp only [List.getElem?_cons_zero,Option.some.injEq] at hi
    subst hi
    refine hS8.cell (fun hbm=>?_) ?_
    ·have:=hBMlt _ _ hbm; omega
    have h1:=(hkeys j (by simpa using hlt)).1
    have h2:(u.map Prod.fst).toArray[j]! = k:=by
     rw [getElem!_pos _ j (by simpa using hlt)]
     have:(u.map Prod.fst)[j]? = some k:=by rw [List.getElem?_map,hu]; rfl
     simpa using (List.getElem?_eq_some_iff.1 this).2
    rw [h2] at h1
    simpa using h1
   refine C1 [0,1,2] kz ?_
   refine B1 (J7 hE21 (t:=96) (e:=53) (size:=1) (bytes:=4) (d:=41) (b:=g) (o:=0) (m:=u.length) (j:=j) kz kz rfl rfl hlt fun a19 hE22=>?_)
   refine B1 (M7 hE22 (t:=53) (d:=42) (cs:=[.int .u32 k]) (v:=.int .u32 k) kz kz hcell fun a20 hE23=>?_)
   refine F9 [2] [] [0,1,37,38,39,7] hW8 hE23 (env':=[(0,.p 0 0),(1,.v (O4 B)),(37,.v (.slice (some ⟨g,0,none⟩) u.length kc)),(38,.v (.int .i64 ((u.length:Nat):Int))),(39,.v (.int .i64 ((j:Nat):Int))),(7,.v (.int .u32 k))]) kz rfl fun a21 hE24=>B4 (A4 ?_)
   refine E4 [0,1,2,3,4,5,6,7,8] kz ?_
   refine F9 [0,1,2,3,4,5,6] [7,8] [0,1,37,38,39,43,44,48,49] hW8 hE24 (env':=[(0,.p 0 0),(1,.v (O4 B)),(37,.v (.slice (some ⟨g,0,none⟩) u.length kc)),(38,.v (.int .i64 ((u.length:Nat):Int))),(39,.v (.int .i64 ((j:Nat):Int))),(43,.v (O4 B)),(44,.v (.int .u32 k)),(48,.v (.map (some mb))),(49,.v (.int .u32 k))]) kz rfl fun a22 hE25=>?_
   refine B1 (Lu hE25 (t:=59) (kt:=53) (et:=22) (m:=some mb) (k:=k) (s:=x) (d:=50) kz kz kz hm8 hmem fun a23 Ax cx hox hE26=>?_)
   have htake:D7 (u.take (j + 1)) = D7 (u.take j) ++ L7 k x:=FC (g:=fun x:Int × Bs=>L7 x.1 x.2) hu
   have htl:(D7 (u.take (j + 1))).length ≤ (D7 u).length:=DM u _ _
   have hG8:∀ b' o',F b' o' → b' < w7.heap.size → ¬ BM B A1 b' o':=fun b' o' hf hl hbm=>by
    rcases hbm with h | h
    ·exact hF b' o' hf (.inl h)
    rcases hN b' h with h1 | h1
    ·exact hF b' o' hf (.inr h1)
    omega
   refine B1 (D6 hE26 (f:=85) (vs:=[.int .u32 k,.slice Ax x.length cx,.pointer (some ⟨B,0,none⟩)]) (d:=51) kz Tryz.call85 (LI hD hkr hox (fun b' o' h=>hG8 b' o' h.1 h.2) (hx _ hmem) (by rw [htake] at htl; rw [List.length_append] at htl ⊢; omega)) ?_)
   rintro e_ w9 ⟨rfl,A2,cp2,hD2,hN2,hS2⟩
   refine ⟨_,rfl,fun a24 hE27=>B4 (H7 (A4 ?_))⟩
   have hS9:Step w7 w9 (BM B A):=hS8.trans hS2 fun b' o' hl hbm=>by
    rcases hbm with h | h
    ·exact .inl h
    rcases hN b' h with h1 | h1
    ·exact .inr h1
    omega
   have hat9:=hat7.move hS9 (fun b o hf _=>hF b o hf) F3
   have hW9:WOk w9 C7 w9 [⟨b,o,[.map (some mb)],false⟩] []:=(WOk.start w9 C7).start1 hat9 rfl rfl
   refine E4 [0,1] kz (F9 [0,1] [] [0,1,37,38,39] hW9 hE27 (env':=[(0,.p 0 0),(1,.v (O4 B)),(37,.v (.slice (some ⟨g,0,none⟩) u.length kc)),(38,.v (.int .i64 ((u.length:Nat):Int))),(39,.v (.int .i64 (IntKind.i64.wrap (((j:Nat):Int) + 1))))]) kz rfl fun a25 hE28=>B4 (A4 ?_))
   rw [N0 (by omega)] at hE28
   refine ⟨u.length - (j + 1),by omega,j + 1,A2,cp2,rfl,by omega,hE28,?_,?_,hS9⟩
   ·rw [htake,← List.append_assoc]; exact hD2
   intro g' hg'
   rcases hN2 g' hg' with h | h
   ·exact hN g' h
   exact .inr (Nat.le_trans hS8.size h)
  obtain rfl:j = u.length:=by have:=of_decide_eq_false hc; omega
  refine wp_exit (F2 (F2 (I7 ?_)))
  rw [List.take_length] at hD
  refine U3 hE21 hW8.cells (v:=.tuple #[]) kz ⟨rfl,A1,cp1,hD,fun g' hg'=>?_,?_⟩
  ·rcases hN g' hg' with h | h
   ·exact .inl h
   exact .inr (Nat.le_trans hW7.step.size h)
  exact (hW7.step.mono fun _ _ _ f=>f.elim).trans hS8 fun _ _ _ h=>h
 -- one more
 have hst6:Step w5 w6 C7:=by
  rcases hw6 with rfl | rfl
  ·exact Step.refl _ _
  exact Step.drew _
 have hr6:w6.heap[R]? = some (.mapIter (some mb) clk seen c0):=hst6.heap (fun o h=>h) hr5
 have hW6:=hW5.next_nil hst6
 obtain ⟨hml,_⟩:=mem_left he
 obtain ⟨k,sx,Ax,cx,hk1,hk2,hk3,hk4⟩:=hcont e hml
 have hR6:R < w6.heap.size:=(Array.getElem?_eq_some_iff.1 hr6).1
 have hW7:WOk w C7 (setBlock w6 R (.mapIter (some mb) clk (seen.push e.born) clk)) [⟨b,o,[.map (some mb)],false⟩,⟨kb,0,[.slice K vis.length kc],true⟩] [⟨K,kc,53,1,vis.length,(vis.map fun e=>Bc e.key).map (Value.int .u32)⟩]:=by
  refine hW6.next (Step.setBlock w6 R _) (fun b' o' hb' hN=>by omega) (fun i ob hi j hj hN=>?_) (fun i q hi g' hg' o' hN=>?_)
  ·match i,hi with
   | 0,hi =>
    simp only [List.getElem?_cons_zero,Option.some.injEq] at hi; subst hi
    have:=World.lt_of_cell (hat 0 _ rfl).2
    simp only at hN; omega
   | 1,hi =>
    simp only [List.getElem?_cons_succ,List.getElem?_cons_zero,Option.some.injEq] at hi; subst hi
    exact hkbr hN
   | i + 2,hi=>simp at hi
  match i,hi with
  | 0,hi =>
   simp only [List.getElem?_cons_zero,Option.some.injEq] at hi; subst hi
   exact hKR (by rw [← hN]; exact hg')
  | i + 1,hi=>simp at hi
 have hr7:(setBlock w6 R (.mapIter (some mb) clk (seen.push e.born) clk)).heap[R]? = some (.mapIter (some mb) clk (seen.push e.born) clk):=HW hr6
 generalize hw7:setBlock w6 R (.mapIter (some mb) clk (seen.push e.born) clk) = w7 at hW7 hr7
 refine F9 [1] [] [0,1,4,24,26] hW7 hE13 (env':=[(0,.p 0 0),(1,.v (O4 B)),(4,.p 1 0),(24,.v (.pointer (some ⟨R,0,none⟩))),(26,.v (.bool true))]) kz rfl fun a12 hE14=>B4 (A4 (wp_seq ?_))
 refine E2 hE14 (b:=true) kz (fun _=>?_) (fun hb=>by cases hb)
 refine wp_skip (A4 (wp_block ?_))
 have hes7:=hW7.step.heap (fun o h=>h) hes
 refine C1 [0,1,2] kz ?_
 refine B1 (LL hE14 (d:=27) (r:=R) kz hr7 hes7 hml hnod fun a13 hE15=>?_)
 rw [hk1] at hE15
 refine F9 [1,2] [] [0,1,4,24,5] hW7 hE15 (env':=[(0,.p 0 0),(1,.v (O4 B)),(4,.p 1 0),(24,.v (.pointer (some ⟨R,0,none⟩))),(5,.v (.int .u32 k))]) kz rfl fun a14 hE16=>B4 (A4 ?_)
 refine E4 [0,1,2,3,4] kz ?_
 refine F9 [0,1] [2,3,4] [0,1,4,24,29,30] hW7 hE16 (env':=[(0,.p 0 0),(1,.v (O4 B)),(4,.p 1 0),(24,.v (.pointer (some ⟨R,0,none⟩))),(29,.v (.slice K vis.length kc)),(30,.v (.int .u32 k))]) kz rfl fun a15 hE17=>?_
 have hsh:=left_shrinks es seen e he
 refine U4 (t:=96) (e:=53) (size:=1) (bytes:=4) (len:=1) (cs:=[.int .u32 k]) (d1:=31) (d:=32) (k:=0) hW7 hE17 kz kz (fun _=>by kernel_rfl) rfl kz (by omega) fun K2 kc2 a16 w8 hF8 hW8 hE18=>?_
 obtain ⟨bl,hE18⟩:=hE18
 have hR7:R < w7.heap.size:=(Array.getElem?_eq_some_iff.1 hr7).1
 have hna:∀ {o'},¬ H2 [⟨b,o,[.map (some mb)],false⟩,⟨kb,0,[.slice K vis.length kc],true⟩] [⟨K,kc,53,1,vis.length,(vis.map fun e=>Bc e.key).map (Value.int .u32)⟩] R o':=by
  rintro o' (⟨i,ob,hi,hrw,hb,_⟩ | ⟨i,q,hi,hq⟩)
  ·match i,hi with
   | 0,hi =>
    simp only [List.getElem?_cons_zero,Option.some.injEq] at hi; subst hi
    cases hrw
   | 1,hi =>
    simp only [List.getElem?_cons_succ,List.getElem?_cons_zero,Option.some.injEq] at hi; subst hi
    exact hkbr hb
   | i + 2,hi=>simp at hi
  match i,hi with
  | 0,hi =>
   simp only [List.getElem?_cons_zero,Option.some.injEq] at hi; subst hi
   exact hKR hq
  | i + 1,hi=>simp at hi
 have hK2:K2.map (·.block) ≠ some R:=fun hk=>by
  exact hF8.imm R 0 hR7 hna (.inr ⟨0,_,rfl,hk⟩)
 refine B1 (I9 hW8 hE18 (oi:=1) (cs:=[.slice K2 (vis.length + 1) kc2]) kz fun w9 hF9 hW9 hE19=>B4 (H7 (A4 ?_)))
 have hr8:w9.heap[R]? = some (.mapIter (some mb) clk (seen.push e.born) clk) :=
  hF9.step.heap (fun o'=>hF8.imm R o' hR7 hna) (hF8.step.heap (fun o'=>hna) hr7)
 refine ⟨(leftOf es (seen.push e.born)).size,hsh,vis ++ [e],seen.push e.born,K2,kc2,clk,rfl,hv.push he,by rw [List.length_append,List.length_singleton]; omega,?_,?_,hr8,Nat.le_refl _,hK2⟩
 ·rw [List.length_append,List.length_singleton]
  exact hE19.pick (ks:=[0,1,4,24]) kz
 rw [List.length_append,List.length_singleton,List.map_append,List.map_append,List.map_cons,List.map_cons,hk1]
 exact hW9
theorem Bd {m:Option Nat} {u:List (Int × Bs)} {b o cp:Nat} {A:Option Addr} {s:Bs} {w:World} {F:Nat → Nat → Prop} (hat:AtF w F b o [.map m]) (hm:MapR w F m u) (ho:w.ownsRow 0 5 1 (.slice A s.length cp) s.length (bc s)) (hF:∀ b o,F b o → ¬ F4 A b o)
  (hx:∀ x ∈ u,x.2.length < 4294967296) (hroom:s.length + (D7 u).length + 16 ≤ 1099511627776) :
  Calls Tryz.prog 44 [.pointer (some ⟨b,o,none⟩),.slice A s.length cp].toArray w (L1 w 5 A (s ++ D7 u)):=by
 refine enter (n:=9) Tryz.func44 rfl Tryz.ntmps44 kz fun a hE=>?_
 have hW:=WOk.start w C7
 refine C1 [0,1] kz ?_
 refine B1 (M2 hW hE (d:=3) (cs:=[.slice A s.length cp]) kz fun B a1 w1 hB hB0 hF1 hW1 hE1=>?_)
 refine F9 [1] [] [0,3] hW1 hE1 (env':=[(0,.v (.pointer (some ⟨b,o,none⟩))),(3,.p 0 0)]) kz rfl fun a2 hE2=>B4 (A4 ?_)
 have hst1:Step w w1 C7:=hW1.step
 have hd1:Dst w1 B 5 A cp s:=⟨hW1.cells 0 _ rfl 0 _ rfl,(hW1.rw_ 0 _ rfl rfl 0 (by simp)).2,BZ (r:=B0 A cp 5 s) ho fun g hg=>(hst1.keeps g (O5 (r:=B0 A cp 5 s) ho hg)).1 fun _ h=>h,
  fun e=>by have:=O5 (r:=B0 A cp 5 s) ho e; omega⟩
 refine C1 [0,1,2] kz ?_
 refine F9 [0] [1,2] [3,5] hW1 hE2 (env':=[(3,.p 0 0),(5,.v (.pointer (some ⟨b,o,none⟩)))]) kz rfl fun a3 hE3=>?_
 refine B1 (Ib hE3 (v:=O4 B) (d:=6) kz fun a4 hE4=>?_)
 refine B1 (D6 hE4 (f:=84) (vs:=[.pointer (some ⟨b,o,none⟩),O4 B]) (d:=7) kz Tryz.call84
  (LP (F:=fun b o=>F b o ∧ b < w.heap.size) (hat.move hst1 B2 fun b o h hl=>⟨h,hl⟩) (hm.move hst1 B2 fun b o h hl=>⟨h,hl⟩) hd1 (fun b' o' h hbm=>by
   rcases hbm with ⟨h1,_⟩ | h1
   ·omega
   exact hF b' o' h.1 h1) hx hroom) ?_)
 rintro e_ w2 ⟨rfl,A2,c2,hD,hN,hS⟩
 refine ⟨_,rfl,fun a5 hE5=>B4 (A4 ?_)⟩
 have hW2:WOk w2 C7 w2 [⟨B,0,[.slice A2 (s ++ D7 u).length c2],false⟩] []:=by
  have:=hD.wok
  refine (WOk.start w2 C7).add ⟨B,0,[.slice A2 (s ++ D7 u).length c2],false⟩ (World.lt_of_cell hD.cell) (fun j v hj=>?_) (fun h=>by cases h) (fun i ob hi=>by simp at hi) (fun i r hi=>by simp at hi)
  exact this.cells 0 _ rfl j v hj
 have hE6:EnvOk 9 [⟨B,0,[.slice A2 (s ++ D7 u).length c2],false⟩] [(3,.p 0 0)] a5:=(hE5.pick (ks:=[3]) (env':=[(3,.p 0 0)]) kz).places ⟨rfl,rfl,trivial⟩
 refine C1 [0,1] kz ?_
 refine F9 [0,1] [] [4] hW2 hE6 (env':=[(4,.v (.slice A2 (s ++ D7 u).length c2))]) kz rfl fun a6 hE7=>B4 (A4 (wp_ret ?_))
 refine D1 hE7 hW2.cells (v:=.slice A2 (s ++ D7 u).length c2) kz ⟨A2,c2,rfl,hD.own,?_,fun g hg=>?_⟩
 ·exact (hst1.mono fun _ _ _ f=>f.elim).trans hS fun b' o' hl hbm=>by
   rcases hbm with ⟨h1,_⟩ | h1
   ·omega
   exact h1
 rcases hN g hg with h | h
 ·exact .inl h
 exact .inr (Nat.le_trans hst1.size h)
end Go.Proofs.YtoclgihkbmaolacGreatDoor.ME
namespace Go.Proofs.YtoclgihkbmaolacGreatDoor.ME
open Go
open Go.RowKit
set_option linter.unusedVariables false
set_option linter.unusedSimpArgs false
set_option maxRecDepth 20000
theorem AtF.one {w:World} {F:Nat → Nat → Prop} {b o:Nat} {cs:List Value} (h:AtF w F b o cs) (k:Nat) {v:Value} (hk:cs[k]? = some v):AtF w F b (o + k) [v]:=fun j x hj=>by
 have hj0:j = 0:=by
  have:=(List.getElem?_eq_some_iff.1 hj).1
  simp at this; omega
 subst hj0
 simp only [List.getElem?_cons_zero,Option.some.injEq] at hj
 subst hj
 exact h k _ hk
section
variable {P:Program} {n:Nat} {w0:World} {A0:Option Addr} {e8 d:Nat} {tb:Tb} {env e1 env':B8} {c c1 c2:Code} {x x1 x2 y:Bs}
theorem BF {id:Nat} {ops:Array Oper} (i:Nat) (keys:List Nat) {f:FuncId} (args:Value → List Value)
  (h:∀ A m cp A' m' cp',By P ops n tb i (d :: keys) ((d,.v (.slice A m cp)) :: env) (.slice A' m' cp') = some ((f,args (.slice A m cp)),(d,.v (.slice A' m' cp')) :: env'))
  (hi:Nat.blt i ops.size = true) (hf:∀ args w,(callFunc f args).run P w = .ok (.enter f args) w)
  (hc:∀ (A:Option Addr) (cp:Nat) (s:Bs) (w:World),Step w0 w (F4 A0) → M8 w0 A0 A → w.ownsRow 0 e8 1 (.slice A s.length cp) s.length (bc s) → s.length + x.length + 16 ≤ 1099511627776 → Calls P f (args (.slice A s.length cp)).toArray w (L1 w e8 A (s ++ x))) :
  Ch P n w0 A0 e8 d tb env env' (.region id ops false) x:=fun Q A cp s a w hE hW hr k=>by
 have hi':i < ops.size:=by simpa [Nat.blt_eq] using hi
 obtain ⟨e,t,h1,h2,_⟩:=X9 (h A s.length cp none 0 0)
 refine E4 (List.range i ++ i :: upto (i + 1) ops.size) (by rw [← R0 hi']; rfl) ?_
 refine O1 hW.cells hE h1 fun a1 hE1=>B1 (D6 hE1 h2 hf (hc A cp s w hW.step (Cf hW) (hW.own 0 _ rfl) hr) ?_)
 rintro e_ w' ⟨A',c',rfl,ho,hs,hn⟩
 refine ⟨_,rfl,fun a2 hE2=>?_⟩
 obtain ⟨e',t',g1,g2,g3⟩:=X9 (h A s.length cp A' (s ++ x).length c')
 rw [h1] at g1
 obtain rfl:=Option.some.inj g1
 rw [h2] at g2
 simp only [Option.some.injEq,Prod.mk.injEq,true_and] at g2
 subst g2
 have hW':WOk w0 (F4 A0) w' tb [B0 A' c' e8 (s ++ x)]:=hW.grow (k:=0) rfl hs ho hn
 refine F9 (upto (i + 1) ops.size) [] (d :: keys) hW' hE2 g3 (List.append_nil _).symm fun a3 hE3=>B4 ?_
 exact k A' c' a3 w' hE3 hW'
theorem S7 {o:Operand} {b:Bool} (hb:∀ A m cp,E7 ((d,.v (.slice A m cp)) :: env) o = some (.v (.bool b))) (h1:b = true → Ch P n w0 A0 e8 d tb env env' c1 x) (h2:b = false → Ch P n w0 A0 e8 d tb env env' c2 []) :
  Ch P n w0 A0 e8 d tb env env' (.cond o c1 c2) (if b = true then x else []) :=
 DE hb (fun h=>Z2 (h1 h) (by rw [if_pos h])) (fun h=>Z2 (h2 h) (by rw [if_neg (by rw [h]; decide)]))
theorem R3 (keys:List Nat) (h:∀ A m cp,pick ((d,.v (.slice A m cp)) :: env) (d :: keys) = some ((d,.v (.slice A m cp)) :: e1)) (hc:Ch P n w0 A0 e8 d tb e1 env' c x):Ch P n w0 A0 e8 d tb env env' c x:=fun Q A cp s a w hE hW hr k =>
 hc Q A cp s a w (hE.pick (h _ _ _)) hW hr k
theorem Be (keys:List Nat) (h:∀ A m cp,pick ((d,.v (.slice A m cp)) :: e1) (d :: keys) = some ((d,.v (.slice A m cp)) :: env')) (hc:Ch P n w0 A0 e8 d tb env e1 c x):Ch P n w0 A0 e8 d tb env env' c x:=fun Q A cp s a w hE hW hr k =>
 hc Q A cp s a w hE hW hr fun A' cp' a' w' hE' hW'=>k A' cp' a' w' (hE'.pick (h _ _ _)) hW'
end
def R9 (u:List (Int × Bs)):Prop:=u.Pairwise fun x y=>x.1 < y.1
theorem FR {u:List (Int × Bs)} {j:Nat} {k:Int} {s:Bs} (h:R9 u) (hj:u[j]? = some (k,s)):J8 (u.take j) k s = u.take (j + 1):=by
 obtain ⟨hlt,he⟩:=List.getElem?_eq_some_iff.1 hj
 rw [HV,List.take_add_one,hj]
 ·rfl
 intro x hx
 obtain ⟨i,hi⟩:=List.getElem?_of_mem hx
 rw [List.getElem?_take] at hi
 split at hi
 ·rename_i hij
  obtain ⟨hi1,hi2⟩:=List.getElem?_eq_some_iff.1 hi
  have:=List.pairwise_iff_getElem.1 h i j hi1 hlt hij
  rw [hi2,he] at this
  exact this
 cases hi
theorem DU (m:Nat) (h:m ≤ 1000000):IntKind.u32.wrap (0 + IntKind.u32.wrap ((m:Nat):Int)) = ((m:Nat):Int):=by simp only [D5]; omega
structure Str (w:World) (p:Nat) (cs:List Value):Prop where
 at_:∀ j v,cs[j]? = some v → w.cell? ⟨p,j,none⟩ = some v
 frz:∀ j,j < cs.length → w.frozen? ⟨p,j,none⟩ = false
theorem Str.move {w w':World} {p:Nat} {cs:List Value} {M:Nat → Nat → Prop} (h:Str w p cs) (hs:Step w w' M) (hM:∀ o,¬ M p o):Str w' p cs :=
 ⟨fun j v hj=>hs.cell (hM j) (h.at_ j v hj),fun j hj=>hs.frozen (hM j) (h.at_ j _ (List.getElem?_eq_getElem hj)) (h.frz j hj)⟩
theorem Str.of {w0 w:World} {M:Nat → Nat → Prop} {tb:Tb} {rs:List Rw} (hW:WOk w0 M w tb rs) (i:Nat) {p:Nat} {cs:List Value} (hi:tb[i]? = some ⟨p,0,cs,true⟩):Str w p cs:=by
 refine ⟨fun j v hj=>?_,fun j hj=>?_⟩
 ·have:=hW.cells i _ hi j v hj
  simpa using this
 have:=(hW.rw_ i _ hi rfl j hj).2
 simpa using this
structure TL (w wL w':World) (F:Nat → Nat → Prop) (p off:Nat) (cs0:List Value) (m:Option Nat) (u:List (Int × Bs)):Prop where
 step:Step w w' C7
 big:w.heap.size ≤ wL.heap.size
 keep:Step wL w' (fun b o=>b = p ∧ o = off)
 str:Str w' p (cs0.set off (.map m))
 own:OwnM w' (fun b o=>F b o ∧ b < w.heap.size) m u
 new:∀ r,m = some r → wL.heap.size ≤ r
theorem LQ {w:World} {F:Nat → Nat → Prop} {A:Option Addr} {c j:Nat} {u:List (Int × Bs)} {k:Int} {s:Bs} (h:TagsR w F A c u) (hj:u[j]? = some (k,s)) :
  ∃ b o A' c',A = some ⟨b,o,none⟩ ∧ At w b (o + j * 2) [.int .u32 k,.slice A' s.length c'] ∧ Octs w F A' c' s ∧ 0 ≤ k ∧ k < 4294967296:=by
 obtain ⟨cs,h1,h2⟩:=h.ex
 obtain ⟨hlt,_⟩:=List.getElem?_eq_some_iff.1 hj
 obtain ⟨⟨A',c',g1,g2⟩,g3⟩:=h2 j k s hj
 cases hA:A with
 | none=>have:=(h1.none_ hA).1; omega
 | some ad =>
  obtain ⟨b,o,rfl,h4⟩:=h1.some_ ad hA (by omega)
  have h5:=(h4 j hlt).2
  rw [g1] at h5
  exact ⟨b,o,A',c',rfl,h5.at_,g2,g3⟩
theorem LR {w:World} {F:Nat → Nat → Prop} {A:Option Addr} {c:Nat} {u:List (Int × Bs)} (h:TagsR w F A c u):∀ x ∈ u,0 ≤ x.1 ∧ x.1 < 4294967296:=by
 rintro ⟨k,s⟩ hx
 obtain ⟨j,hj⟩:=List.getElem?_of_mem hx
 obtain ⟨_,_,_,_,_,_,_,h⟩:=LQ h hj
 exact h
structure TagsE (w:World) (F:Nat → Nat → Prop) (out:List (Int × Bs)) (css:List (List Value)):Prop where
 len:css.length = out.length
 each:∀ (i:Nat) (c:List Value) (x:Int × Bs),css[i]? = some c → out[i]? = some x → TagR w F c x
theorem TagsE.move {w w':World} {F F' N:Nat → Nat → Prop} {l:List (Int × Bs)} {css:List (List Value)} (h:TagsE w F l css) (hs:Step w w' N) (hM:∀ b o,F b o → b < w.heap.size → ¬ N b o) (hF:∀ b o,F b o → b < w.heap.size → F' b o):TagsE w' F' l css :=
 ⟨h.len,fun i c x hc hx=>(h.each i c x hc hx).move hs hM hF⟩
theorem TagsE.nil (w:World) (F:Nat → Nat → Prop):TagsE w F [] []:=⟨rfl,fun i c x h=>by simp at h⟩
theorem TagsE.get {w:World} {F:Nat → Nat → Prop} {l:List (Int × Bs)} {css:List (List Value)} (h:TagsE w F l css) {i:Nat} {x:Int × Bs} (hx:l[i]? = some x):∃ c,css[i]? = some c ∧ TagR w F c x:=by
 have hi:=(List.getElem?_eq_some_iff.1 hx).1
 have hc:=List.getElem?_eq_getElem (show i < css.length by rw [h.len]; exact hi)
 exact ⟨_,hc,h.each i _ x hc hx⟩
theorem TagsE.two {w:World} {F:Nat → Nat → Prop} {l:List (Int × Bs)} {css:List (List Value)} (h:TagsE w F l css):∀ c ∈ css,c.length = 2:=by
 intro c hc
 obtain ⟨i,hi,rfl⟩:=List.getElem_of_mem hc
 have hl:=h.len
 exact (h.each i _ _ (List.getElem?_eq_getElem hi) (List.getElem?_eq_getElem (show i < l.length by omega))).two
theorem TagsE.tags {w:World} {F:Nat → Nat → Prop} {l:List (Int × Bs)} {css:List (List Value)} (h:TagsE w F l css):Tags w F css.flatten l css:=⟨⟨rfl,h.two⟩,h.len,h.each⟩
theorem TagsE.ins {w:World} {F:Nat → Nat → Prop} {l:List (Int × Bs)} {css:List (List Value)} (h:TagsE w F l css) {c:List Value} {x:Int × Bs} (hx:TagR w F c x) {i:Nat} (hi:i ≤ l.length):TagsE w F (l.take i ++ x :: l.drop i) (css.take i ++ c :: css.drop i):=by
 have hl:=h.len
 refine ⟨by simp; omega,fun j d y hd hy=>?_⟩
 have hc1:(css.take i).length = i:=by rw [List.length_take]; omega
 have hl1:(l.take i).length = i:=by rw [List.length_take]; omega
 rcases Nat.lt_trichotomy j i with hj | hj | hj
 ·rw [List.getElem?_append_left (by omega),List.getElem?_take,if_pos hj] at hd hy
  exact h.each j d y hd hy
 ·subst hj
  rw [List.getElem?_append_right (by omega),hc1,Nat.sub_self] at hd
  rw [List.getElem?_append_right (by omega),hl1,Nat.sub_self] at hy
  simp only [List.getElem?_cons_zero,Option.some.injEq] at hd hy
  subst hd; subst hy; exact hx
 rw [List.getElem?_append_right (by omega),hc1,show j - i = (j - i - 1) + 1 by omega,List.getElem?_cons_succ,List.getElem?_drop] at hd
 rw [List.getElem?_append_right (by omega),hl1,show j - i = (j - i - 1) + 1 by omega,List.getElem?_cons_succ,List.getElem?_drop] at hy
 exact h.each _ d y hd hy
theorem DW {m:Nat} {css:List (List Value)} (h:∀ c ∈ css,c.length = m) {i:Nat} {c:List Value} (hc:css[i]? = some c):∀ (j:Nat) (v:Value),c[j]? = some v → css.flatten[i * m + j]? = some v:=by
 intro j v hj
 have hi:=(List.getElem?_eq_some_iff.1 hc).1
 have hcl:c.length = m:=h c (List.mem_of_getElem? hc)
 have:=Fu h i j hi (by rw [← hcl]; exact (List.getElem?_eq_some_iff.1 hj).1)
 rw [← this,List.getD_eq_getElem?_getD,hc]
 exact hj
theorem FS {m:Nat}:∀ {L:List (List Value)},(∀ c ∈ L,c.length = m) → ∀ {j:Nat} {c:List Value},j < L.length → c.length = m → J5 L.flatten (j * m) c = (L.set j c).flatten
 | [],_,j,c,hj,_=>by simp at hj
 | d :: r,h,0,c,_,hc=>by
  have hd:d.length = m:=h d (List.mem_cons_self ..)
  unfold J5
  rw [Nat.zero_mul,List.take_zero,List.nil_append,Nat.zero_add,List.set_cons_zero,List.flatten_cons,List.flatten_cons,List.drop_append,hc]
  have e1:d.drop m = []:=List.drop_eq_nil_of_le (by omega)
  rw [e1,hd,Nat.sub_self,List.drop_zero,List.nil_append]
 | d :: r,h,j + 1,c,hj,hc=>by
  have hd:d.length = m:=h d (List.mem_cons_self ..)
  have ih:=FS (L:=r) (fun c hc=>h c (List.mem_cons_of_mem _ hc)) (j:=j) (c:=c) (by simpa using hj) hc
  unfold J5 at ih ⊢
  rw [List.set_cons_succ,List.flatten_cons,List.flatten_cons,← ih,List.take_append,List.drop_append,hd]
  have e1:d.take ((j + 1) * m) = d:=List.take_of_length_le (by rw [hd,Nat.add_mul]; omega)
  have e2:d.drop ((j + 1) * m + c.length) = []:=List.drop_eq_nil_of_le (by rw [hd,Nat.add_mul]; omega)
  have e3:(j + 1) * m - m = j * m:=by rw [Nat.add_mul]; omega
  have e4:(j + 1) * m + c.length - m = j * m + c.length:=by rw [Nat.add_mul]; omega
  rw [e1,e2,e3,e4,List.nil_append,List.append_assoc]
def I0 (css:List (List Value)) (z:List Value) (j:Nat):List (List Value):=(css ++ [z]).take (j + 1) ++ css.drop j
theorem LS (css:List (List Value)) (z:List Value):I0 css z css.length = css ++ [z]:=by
 unfold I0
 rw [List.take_of_length_le (by simp),List.drop_length,List.append_nil]
theorem If (css:List (List Value)) (z:List Value) {j:Nat} (h:j ≤ css.length):(I0 css z j).length = css.length + 1:=by
 simp only [I0,List.length_append,List.length_take,List.length_drop,List.length_cons,List.length_nil]; omega
theorem DX {css:List (List Value)} {z:List Value} {m:Nat} (h:∀ c ∈ css,c.length = m) (hz:z.length = m) (j:Nat):∀ c ∈ I0 css z j,c.length = m:=by
 intro c hc
 rcases List.mem_append.1 hc with hc | hc
 ·rcases List.mem_append.1 (List.mem_of_mem_take hc) with hc | hc
  ·exact h c hc
  rw [List.mem_singleton.1 hc]; exact hz
 exact h c (List.mem_of_mem_drop hc)
theorem Ig {css:List (List Value)} {z:List Value} {j i:Nat} {c:List Value} (hi:i < j) (hc:css[i]? = some c):(I0 css z j)[i]? = some c:=by
 have h:=(List.getElem?_eq_some_iff.1 hc).1
 unfold I0
 rw [List.getElem?_append_left (by simp; omega),List.getElem?_take,if_pos (by omega),List.getElem?_append_left h]
 exact hc
theorem LT {css:List (List Value)} {z:List Value} {j:Nat} {c:List Value} (hj:j < css.length) (hc:css[j]? = some c):(I0 css z (j + 1)).set (j + 1) c = I0 css z j:=by
 apply List.ext_getElem?
 intro i
 unfold I0
 have hl1:((css ++ [z]).take (j + 1 + 1)).length = j + 2:=by simp; omega
 have hl2:((css ++ [z]).take (j + 1)).length = j + 1:=by simp; omega
 have hL:((css ++ [z]).take (j + 1 + 1) ++ css.drop (j + 1)).length = css.length + 1:=by simp; omega
 rw [List.getElem?_set]
 by_cases h1:j + 1 = i
 ·subst h1
  rw [if_pos rfl,if_pos (by omega),List.getElem?_append_right (by omega),hl2,Nat.sub_self,List.getElem?_drop,Nat.add_zero,hc]
 rw [if_neg h1]
 rcases Nat.lt_or_ge i (j + 1) with h2 | h2
 ·rw [List.getElem?_append_left (by omega),List.getElem?_append_left (by omega),List.getElem?_take,List.getElem?_take,if_pos (by omega),if_pos (by omega)]
 rw [List.getElem?_append_right (by omega),List.getElem?_append_right (by omega),hl1,hl2,List.getElem?_drop,List.getElem?_drop]
 congr 1
 omega
theorem LU {css:List (List Value)} {z:List Value} {i:Nat} {c:List Value} (hi:i ≤ css.length):(I0 css z i).set i c = css.take i ++ c :: css.drop i:=by
 unfold I0
 have e:(css ++ [z]).take (i + 1) = css.take i ++ [((css ++ [z]).getD i [])]:=by
  rw [List.take_add_one]
  have hlt:i < (css ++ [z]).length:=by simp; omega
  rw [List.getElem?_eq_getElem hlt,List.getD_eq_getElem?_getD,List.getElem?_eq_getElem hlt,List.take_append,show i - css.length = 0 by omega]
  simp
 have hl:(css.take i).length = i:=by rw [List.length_take]; omega
 rw [e,List.append_assoc,List.set_append_right _ _ (by omega),hl,Nat.sub_self]
 rfl
theorem Ih {css:List (List Value)} {z c:List Value} (h2:∀ c ∈ css,c.length = 2) (hz:z.length = 2) {j:Nat} (h0:0 < j) (hj:j ≤ css.length) (hc:css[j - 1]? = some c):J5 (I0 css z j).flatten (j * 2) c = (I0 css z (j - 1)).flatten:=by
 obtain ⟨q,rfl⟩:∃ q,j = q + 1:=⟨j - 1,by omega⟩
 rw [FS (DX h2 hz _) (by rw [If _ _ hj]; omega) (h2 c (List.mem_of_getElem? hc)),Nat.add_sub_cancel,LT (by omega) (by simpa using hc)]
theorem Ii {css:List (List Value)} {z c:List Value} (h2:∀ c ∈ css,c.length = 2) (hz:z.length = 2) {i:Nat} (hi:i ≤ css.length) (hc:c.length = 2):J5 (I0 css z i).flatten (i * 2) c = (css.take i ++ c :: css.drop i).flatten:=by
 rw [FS (DX h2 hz _) (by rw [If _ _ hi]; omega) hc,LU hi]
theorem Ij {css:List (List Value)} {z:List Value} {n:Nat} (hn:css.length = n):css.flatten ++ z = (I0 css z n).flatten:=by
 subst hn; rw [LS]; simp
theorem Cp {out:List (Int × Bs)} {i:Nat} (x:Int × Bs) (hi:i ≤ out.length):out.length + 1 = (out.take i ++ x :: out.drop i).length:=by simp; omega
theorem TagsE.get2 {w:World} {F:Nat → Nat → Prop} {l:List (Int × Bs)} {css:List (List Value)} (h:TagsE w F l css) {i:Nat} {k:Int} {s:Bs} (hx:l[i]? = some (k,s)):∃ A c,css[i]? = some [.int .u32 k,.slice A s.length c] ∧ Octs w F A c s ∧ 0 ≤ k ∧ k < 4294967296:=by
 obtain ⟨cs,hc,⟨A,c,hcs,hO⟩,h0,h1⟩:=h.get hx
 exact ⟨A,c,by rw [hc,hcs],hO,h0,h1⟩
theorem FT {out:List (Int × Bs)} {k:Int}:∀ {i:Nat},i ≤ out.length → (∀ j,j < i → (out.getD j (0,[])).1 < k) → (i < out.length → ¬ (out.getD i (0,[])).1 < k) → T2 out k = i:=by
 induction out with
 | nil=>intro i hi _ _; simp at hi; subst hi; rfl
 | cons a r ih =>
  intro i hi h1 h2
  cases i with
  | zero =>
   have:=h2 (by simp)
   simp at this
   unfold T2
   rw [List.takeWhile_cons,if_neg (by simpa using this)]; rfl
  | succ i =>
   have ha:=h1 0 (by omega)
   simp at ha
   have:=ih (i:=i) (by simpa using hi) (fun j hj=>by simpa using h1 (j + 1) (by omega)) (fun hj=>by simpa using h2 (by simpa using hj))
   unfold T2 at this ⊢
   rw [List.takeWhile_cons,if_pos (by simpa using ha),List.length_cons,this]
theorem Ik {out:List (Int × Bs)} {i:Nat} {x:Int × Bs} (h:out[i]? = some x):out.getD i (0,[]) = x:=by rw [List.getD_eq_getElem?_getD,h]; rfl
theorem Cq {out:List (Int × Bs)} {i:Nat} {k:Int} {s:Bs} (h:out[i]? = some (k,s)):(out.getD i (0,[])).1 = k:=by rw [Ik h]
theorem Il {least:Int} {out:List (Int × Bs)} {k:Int} {s:Bs} (h:k < least):L2 least out (k,s) = out:=by
 unfold L2
 rw [if_pos (.inl h)]
theorem LV {least:Int} {out:List (Int × Bs)} {k:Int} {s:Bs} {i:Nat} (hp:T2 out k = i) (hi:i < out.length) (he:(out.getD i (0,[])).1 = k):L2 least out (k,s) = out:=by
 unfold L2
 dsimp only
 rw [hp,if_pos (.inr ⟨hi,he⟩)]
theorem Im {least:Int} {out:List (Int × Bs)} {k:Int} {s:Bs} {i:Nat} (hp:T2 out k = i) (hl:¬ k < least) (hn:i < out.length → (out.getD i (0,[])).1 ≠ k):L2 least out (k,s) = out.take i ++ (k,s) :: out.drop i:=by
 unfold L2
 dsimp only
 rw [hp,if_neg (fun h=>h.elim hl fun h3=>hn h3.1 h3.2)]
theorem Dc {α β:Type} {f:β → α → β} {b:β} {l:List α} {k:Nat} {x:α} (h:l[k]? = some x):(l.take (k + 1)).foldl f b = f ((l.take k).foldl f b) x:=by
 rw [List.take_add_one,h,List.foldl_append]; rfl
theorem LW (least:Int) (out:List (Int × Bs)) (t:Int × Bs):(L2 least out t).length ≤ out.length + 1:=by
 unfold L2
 dsimp only
 split
 ·omega
 simp; omega
theorem LX {w:World} {F:Nat → Nat → Prop} {A:Option Addr} {c:Nat} {l:List (Int × Bs)} {xs:Nat → List Value} (h:Slots w F 2 A c l.length xs) (m:Nat):Slots w F 2 A c (l.take m).length xs:=h.take (by rw [List.length_take]; omega)
theorem LY {w:World} {F:Nat → Nat → Prop} {l:List (Int × Bs)} {xs:Nat → List Value} (h:∀ i k s,l[i]? = some (k,s) → (∃ A' c',xs i = [.int .u32 k,.slice A' s.length c'] ∧ Octs w F A' c' s) ∧ 0 ≤ k ∧ k < 4294967296) (m:Nat):∀ (i:Nat) (k:Int) (s:Bs),(l.take m)[i]? = some (k,s) → (∃ A' c',xs i = [.int .u32 k,.slice A' s.length c'] ∧ Octs w F A' c' s) ∧ 0 ≤ k ∧ k < 4294967296:=fun i k s hx=>by
 rw [List.getElem?_take] at hx
 split at hx
 ·exact h i k s hx
 cases hx
theorem LZ {w0 w:World} {F:Nat → Nat → Prop} {tb:Tb} {rs:List Rw} {r A c e n} {out:List (Int × Bs)} {css:List (List Value)} (hW:WOk w0 C7 w tb rs) {k:Nat} (hk:rs[k]? = some r) (hr:r = ⟨A,c,e,2,n,css.flatten⟩) (hn:n = out.length)
  (hT:TagsE w (H1 F w0 w tb rs) out css) (hsm:out.length ≤ 1099511627776) {u:List (Int × Bs)} (hu:out = u):Hy w0 F u (.returned (.slice A n c)) w:=by
 subst hr; subst hu; subst hn
 refine ⟨A,c,rfl,?_,hW.step⟩
 refine (hT.move (Step.refl w C7) B2 T3).tags.slots (hW.own k _ hk) rfl hsm fun g hg o=>?_
 rcases hW.ownM k _ hk g hg with h | h
 ·exact .inr h
 exact (h 0).elim
theorem DY:∀ {l:List Fld} {i:Nat} {f:Fld},l[i]? = some f → f.depth ≤ depths l
 | [],i,f,h=>by simp at h
 | a :: r,0,f,h=>by
  simp only [List.getElem?_cons_zero,Option.some.injEq] at h
  subst h
  exact Nat.le_max_left _ _
 | a :: r,i + 1,f,h=>by
  have:=DY (l:=r) (i:=i) (f:=f) (by simpa using h)
  exact Nat.le_trans this (Nat.le_max_right _ _)
theorem DZ (k x1 x2 x3 x4 x5 x6:Int) (l:List Fld):(Fld.mk k x1 x2 x3 x4 x5 x6 l).depth = depths l + 1:=by rw [Fld.depth]
section
variable {k x1 x2 x3 x4 x5 x6 n:Int} {l:List Fld} {s:Bs} {b:Bool} {ll:List Tree} {u:List (Int × Bs)}
theorem U8 (h:k = 0):Fld.usual (.mk k x1 x2 x3 x4 x5 x6 l) (.mk n s b ll u) = (n % 2 == x5):=by
 subst h; rw [Fld.usual,if_pos rfl]; simp [Tree.N]; rfl
theorem O3 (h0:k ≠ 0) (h:k = 7):Fld.usual (.mk k x1 x2 x3 x4 x5 x6 l) (.mk n s b ll u) = (s.take 16).all (· == 0):=by
 rw [Fld.usual,if_neg h0,if_pos h]; rfl
theorem U9 (h0:k ≠ 0) (h7:k ≠ 7) (h:k = 8 ∨ k = 9) (hn:x3 ≥ 0):Fld.usual (.mk k x1 x2 x3 x4 x5 x6 l) (.mk n s b ll u) = b:=by
 rw [Fld.usual,if_neg h0,if_neg h7,if_pos h,if_pos hn]; rfl
theorem V0 (h0:k ≠ 0) (h7:k ≠ 7) (h:k = 8 ∨ k = 9) (hn:¬ x3 ≥ 0):Fld.usual (.mk k x1 x2 x3 x4 x5 x6 l) (.mk n s b ll u) = (((s.length:Nat):Int) == 0):=by
 rw [Fld.usual,if_neg h0,if_neg h7,if_pos h,if_neg hn,Bool.eq_iff_iff,decide_eq_true_iff,beq_iff_eq]
 show s.length = 0 ↔ _
 omega
theorem V1 (h0:k ≠ 0) (h7:k ≠ 7) (h8:k ≠ 8) (h9:k ≠ 9) (h:k = 11):Fld.usual (.mk k x1 x2 x3 x4 x5 x6 l) (.mk n s b ll u) = (((ll.length:Nat):Int) == 0):=by
 rw [Fld.usual,if_neg h0,if_neg h7,if_neg (by rintro (h | h); exact h8 h; exact h9 h),if_pos h,Bool.eq_iff_iff,decide_eq_true_iff,beq_iff_eq]
 show ll.length = 0 ↔ _
 omega
theorem T4 (h0:k ≠ 0) (h7:k ≠ 7) (h8:k ≠ 8) (h9:k ≠ 9) (h11:k ≠ 11) (h:k = 10):Fld.usual (.mk k x1 x2 x3 x4 x5 x6 l) (.mk n s b ll u) = (usuals l (.mk n s b ll u) 0 && (((C6 l u).length:Nat):Int) == 0):=by
 rw [Fld.usual,if_neg h0,if_neg h7,if_neg (by rintro (h | h); exact h8 h; exact h9 h),if_neg h11,if_pos h]
 congr 1
 rw [Bool.eq_iff_iff,decide_eq_true_iff,beq_iff_eq]
 show (C6 l u).length = 0 ↔ _
 omega
theorem V2 (h0:k ≠ 0) (h7:k ≠ 7) (h8:k ≠ 8) (h9:k ≠ 9) (h11:k ≠ 11) (h10:k ≠ 10):Fld.usual (.mk k x1 x2 x3 x4 x5 x6 l) (.mk n s b ll u) = decide (be (H8 k) n = be (H8 k) x5):=by
 rw [Fld.usual,if_neg h0,if_neg h7,if_neg (by rintro (h | h); exact h8 h; exact h9 h),if_neg h11,if_neg h10]; rfl
end
theorem V3 {s:Bs} {k:Nat} (h:∀ q,q < k → q < 16 → (((s.getD q 0).toNat:Nat):Int) = 0) (hk:s.length ≤ k):true = (s.take 16).all (· == 0):=by
 symm
 rw [List.all_eq_true]
 intro x hx
 obtain ⟨i,hi,rfl⟩:=List.getElem_of_mem hx
 rw [List.length_take] at hi
 have:=h i (by omega) (by omega)
 rw [List.getD_eq_getElem?_getD,List.getElem?_eq_getElem (show i < s.length by omega)] at this
 rw [List.getElem_take]
 simp only [Option.getD_some] at this
 have h0:s[i].toNat = 0:=by omega
 have:s[i] = 0:=UInt8.toNat.inj h0
 simp [this]
theorem V4 {s:Bs} {k:Nat} (hk:k < s.length) (h:k < 16) (hn:(((s.getD k 0).toNat:Nat):Int) ≠ 0):false = (s.take 16).all (· == 0):=by
 symm
 rw [← Bool.not_eq_true,List.all_eq_true]
 intro hall
 have:=hall s[k] (by
  rw [List.mem_iff_getElem?]
  exact ⟨k,by rw [List.getElem?_take,if_pos h,List.getElem?_eq_getElem hk]⟩)
 rw [List.getD_eq_getElem?_getD,List.getElem?_eq_getElem hk] at hn
 simp only [beq_iff_eq] at this
 rw [this] at hn
 exact hn rfl
theorem T5 {α:Type} {l:List α} {k:Nat} {x:α} (h:l[k]? = some x):l.drop k = x :: l.drop (k + 1):=by
 obtain ⟨hk,rfl⟩:=List.getElem?_eq_some_iff.1 h
 exact List.drop_eq_getElem_cons hk
theorem Ma {l:List Fld} {k:Nat} {f:Fld} {T:Tree} (h:l[k]? = some f) (hu:f.usual (T.at_ k) = true):usuals (l.drop k) T k = usuals (l.drop (k + 1)) T (k + 1):=by
 rw [T5 h]
 show (f.usual (T.at_ k) && usuals (l.drop (k + 1)) T (k + 1)) = _
 rw [hu,Bool.true_and]
theorem Mb {l:List Fld} {k:Nat} {f:Fld} {T:Tree} (h:l[k]? = some f) (hu:f.usual (T.at_ k) = false):usuals (l.drop k) T k = false:=by
 rw [T5 h]
 show (f.usual (T.at_ k) && usuals (l.drop (k + 1)) T (k + 1)) = _
 rw [hu,Bool.false_and]
theorem V5 {l:List Fld} {k:Nat} {T:Tree} (h:l.length ≤ k):usuals (l.drop k) T k = true:=by
 rw [List.drop_eq_nil_of_le h]; rfl
section
variable {W:Fld → Tree → Bs} {l:List Fld} {k:Nat} {a x1 x2 x3 x4 x5 x6 v:Int} {s:List Fld} {t:Tree} {m:Nat}
theorem Ea (h:l[k]? = some (.mk a x1 x2 x3 x4 x5 x6 s)) (h1:x4 < 0) (h2:Fld.has (.mk a x1 x2 x3 x4 x5 x6 s) v = true):D0 W (l.drop k) v t k = W (.mk a x1 x2 x3 x4 x5 x6 s) (t.at_ k) ++ D0 W (l.drop (k + 1)) v t (k + 1):=by
 rw [T5 h,D0,if_pos ⟨h1,h2⟩]
theorem Mc (h:l[k]? = some (.mk a x1 x2 x3 x4 x5 x6 s)) (h1:¬ x4 < 0):D0 W (l.drop k) v t k = D0 W (l.drop (k + 1)) v t (k + 1):=by
 rw [T5 h,D0,if_neg (fun h=>h1 h.1),List.nil_append]
theorem Md (h:l[k]? = some (.mk a x1 x2 x3 x4 x5 x6 s)) (h2:Fld.has (.mk a x1 x2 x3 x4 x5 x6 s) v = false):D0 W (l.drop k) v t k = D0 W (l.drop (k + 1)) v t (k + 1):=by
 rw [T5 h,D0,if_neg (fun h=>by rw [h2] at h; cases h.2),List.nil_append]
theorem In (h:l.length ≤ k):D0 W (l.drop k) v t k = []:=by rw [List.drop_eq_nil_of_le h]; rfl
theorem Cr (h:l[k]? = some (.mk a x1 x2 x3 x4 x5 x6 s)) (h1:x4 = (m:Int)) (h2:Fld.usual (.mk a x1 x2 x3 x4 x5 x6 s) (t.at_ k) = false):H4 W (l.drop k) m t k = uv m ++ uv (W (.mk a x1 x2 x3 x4 x5 x6 s) (t.at_ k)).length ++ W (.mk a x1 x2 x3 x4 x5 x6 s) (t.at_ k) ++ H4 W (l.drop (k + 1)) m t (k + 1):=by
 rw [T5 h,H4,if_pos ⟨h1,h2⟩]
theorem Me (h:l[k]? = some (.mk a x1 x2 x3 x4 x5 x6 s)) (h1:x4 ≠ (m:Int)):H4 W (l.drop k) m t k = H4 W (l.drop (k + 1)) m t (k + 1):=by
 rw [T5 h,H4,if_neg (fun h=>h1 h.1),List.nil_append]
theorem Mf (h:l[k]? = some (.mk a x1 x2 x3 x4 x5 x6 s)) (h2:Fld.usual (.mk a x1 x2 x3 x4 x5 x6 s) (t.at_ k) = true):H4 W (l.drop k) m t k = H4 W (l.drop (k + 1)) m t (k + 1):=by
 rw [T5 h,H4,if_neg (fun h=>by rw [h2] at h; cases h.2),List.nil_append]
theorem Mg (h:l.length ≤ k):H4 W (l.drop k) m t k = []:=by rw [List.drop_eq_nil_of_le h]; rfl
theorem Mh (h:l[k]? = some (.mk a x1 x2 x3 x4 x5 x6 s)) (h1:x4 = (m:Int)) (h2:Fld.usual (.mk a x1 x2 x3 x4 x5 x6 s) (t.at_ k) = false):H3 W (l.drop k) m t k = 1 + H3 W (l.drop (k + 1)) m t (k + 1):=by
 rw [T5 h,H3,if_pos ⟨h1,h2⟩]
theorem Mi (h:l[k]? = some (.mk a x1 x2 x3 x4 x5 x6 s)) (h1:x4 ≠ (m:Int)):H3 W (l.drop k) m t k = H3 W (l.drop (k + 1)) m t (k + 1):=by
 rw [T5 h,H3,if_neg (fun h=>h1 h.1),Nat.zero_add]
theorem Mj (h:l[k]? = some (.mk a x1 x2 x3 x4 x5 x6 s)) (h2:Fld.usual (.mk a x1 x2 x3 x4 x5 x6 s) (t.at_ k) = true):H3 W (l.drop k) m t k = H3 W (l.drop (k + 1)) m t (k + 1):=by
 rw [T5 h,H3,if_neg (fun h=>by rw [h2] at h; cases h.2),Nat.zero_add]
theorem Mk (h:l.length ≤ k):H3 W (l.drop k) m t k = 0:=by rw [List.drop_eq_nil_of_le h]; rfl
theorem Io (n:Nat):0 < (uv n).length:=by
 rw [uv]; split <;> simp
theorem FU (W:Fld → Tree → Bs) (m:Nat) (t:Tree):∀ (l:List Fld) (i:Nat),H3 W l m t i ≤ (H4 W l m t i).length
 | [],i=>Nat.zero_le _
 | f :: r,i=>by
  have:=FU W m t r (i + 1)
  rw [H3,H4,List.length_append]
  split
  ·have h1:=Io m
   simp only [List.length_append]; omega
  simp; omega
theorem Ip (W:Fld → Tree → Bs) (l:List Fld) (t:Tree):∀ k,D3 W l t k ≤ (C3 W l t k).length
 | 0=>Nat.zero_le _
 | k + 1=>by
  have h1:=Ip W l t k
  have h2:=FU W k t l 0
  rw [D3,C3,List.length_append]; omega
theorem Ml (W:Fld → Tree → Bs) (l:List Fld) (t:Tree) {i j:Nat} (h:i ≤ j):(C3 W l t i).length ≤ (C3 W l t j).length:=by
 induction j with
 | zero=>rw [Nat.le_zero.1 h]; omega
 | succ j ih =>
  rcases Nat.eq_or_lt_of_le h with he | he
  ·rw [he]; omega
  have:=ih (by omega)
  rw [C3,List.length_append]; omega
end
theorem Iq (W:Fld → Tree → Bs) (l:List Fld) (v:Int) (n:Int) (s:Bs) (b:Bool) (ll:List Tree) (u:List (Int × Bs)):N1 W l v true (.mk n s b ll u) =
  D0 W l v (.mk n s b ll u) 0 ++ uv (D3 W l (.mk n s b ll u) (C2 l).toNat + (C6 l u).length) ++ (C3 W l (.mk n s b ll u) (C2 l).toNat ++ E5 (C6 l u)):=by
 rw [N1,if_pos rfl,List.append_assoc]; rfl
theorem Mm (W:Fld → Tree → Bs) (l:List Fld) (v:Int) (t:Tree):N1 W l v false t = D0 W l v t 0:=by
 rw [N1]; simp
theorem Mn (l:List Fld):IntKind.i64.wrap (C2 l) = (((C2 l).toNat:Nat):Int):=by
 have:=FD l
 rw [wrap_i64 (by omega) (by omega)]; omega
theorem Eb {l:List (Int × Bs)} {k:Nat} {i:Int} {s:Bs} (h:l[k]? = some (i,s)):E5 (l.take (k + 1)) = E5 (l.take k) ++ (uv i.toNat ++ uv (C4 s).length ++ C4 s):=by
 unfold E5; exact FC h
theorem FV {l:List (Int × Bs)} (k:Nat):(E5 (l.take k)).length ≤ (E5 l).length:=by
 unfold E5; exact DM l _ k
section
variable {F:Nat → Nat → Prop} {w0 w:World} {tb:Tb} {rs:List Rw}
theorem Mo (hW:WOk w0 C7 w tb rs) {k:Nat} {r:Rw} (hk:rs[k]? = some r):∀ g,r.A.map (·.block) = some g → ∀ o,Fp F w0 g o:=by
 intro g hg o
 rcases hW.ownM k r hk g hg with h | h
 ·exact .inr h
 exact (h 0).elim
end
theorem Ir (W:Fld → Tree → Tree) (t:Tree):∀ {l:List Fld} {i k:Nat} {f:Fld},l[k]? = some f → (Bw W l t i)[k]? = some (W f (t.at_ (i + k)))
 | [],i,k,f,h=>by simp at h
 | a :: r,i,0,f,h=>by
  simp only [List.getElem?_cons_zero,Option.some.injEq] at h
  subst h; rfl
 | a :: r,i,k + 1,f,h=>by
  rw [Bw,List.getElem?_cons_succ,Ir W t (l:=r) (i:=i + 1) (by simpa using h),show i + 1 + k = i + (k + 1) by omega]
theorem Mp {W:Fld → Tree → Tree} {t:Tree} {l:List Fld} {k:Nat} {f:Fld} (h:l[k]? = some f):(Bw W l t 0)[k]? = some (W f (t.at_ k)):=by
 have:=Ir W t (i:=0) h
 rwa [Nat.zero_add] at this
def Cs (u:List (Int × Bs)):List (Int × Bs):=u.map fun x=>(x.1,C4 x.2)
theorem Bf (u:List (Int × Bs)):(Cs u).length = u.length:=by rw [Cs,List.length_map]
def FW (w:World):Ending → World → Prop:=fun en w'=>∃ b,en = .returned (.bool b) ∧ Step w w' C7
structure Flds (w:World) (F:Nat → Nat → Prop) (xs:List Value) (l:List Fld) (css:List (List Value)):Prop where
 flat:Flat 8 xs css
 len:css.length = l.length
 each:∀ (i:Nat) (c:List Value) (x:Fld),css[i]? = some c → l[i]? = some x → FldR w F c x
theorem Flds.nil (w:World) (F:Nat → Nat → Prop):Flds w F [] [] []:=⟨Flat.nil 8,rfl,fun i c x h=>by simp at h⟩
theorem FldR.eight {w:World} {F:Nat → Nat → Prop} {cs:List Value} {t:Fld} (h:FldR w F cs t):cs.length = 8:=by
 obtain ⟨k,x1,x2,x3,x4,x5,x6,l,A,c,xs,rfl,rfl,_⟩:=h.open_; rfl
theorem FldR.one {w:World} {F:Nat → Nat → Prop} {cs:List Value} {t:Fld} (h:FldR w F cs t):∀ u ∈ cs,u.oneCell' = true:=by
 obtain ⟨k,x1,x2,x3,x4,x5,x6,l,A,c,xs,rfl,rfl,_⟩:=h.open_
 intro v hv
 simp only [List.mem_cons,List.not_mem_nil,or_false] at hv
 rcases hv with rfl | rfl | rfl | rfl | rfl | rfl | rfl | rfl <;> rfl
theorem Flds.snoc {w:World} {F:Nat → Nat → Prop} {xs:List Value} {l:List Fld} {css:List (List Value)} (h:Flds w F xs l css) {c:List Value} {x:Fld} (hx:FldR w F c x):Flds w F (xs ++ c) (l ++ [x]) (css ++ [c]):=by
 refine ⟨h.flat.snoc hx.eight,by simp [h.len],fun i d y hd hy=>?_⟩
 rcases Fv hd with ⟨h1,h2⟩ | ⟨h1,rfl⟩
 ·rcases Fv hy with ⟨_,h3⟩ | ⟨h3,_⟩
  ·exact h.each i d y h2 h3
  have:=h.len; omega
 rcases Fv hy with ⟨h3,_⟩ | ⟨_,rfl⟩
 ·have:=h.len; omega
 exact hx
theorem Flds.slots {w0 w:World} {tb:Tb} {rs:List Rw} {F:Nat → Nat → Prop} (hW:WOk w0 C7 w tb rs) {k e n:Nat} {A:Option Addr} {c:Nat} {xs:List Value} {l:List Fld} {css:List (List Value)} (hk:rs[k]? = some ⟨A,c,e,8,n,xs⟩) (h:Flds w (Fp F w0) xs l css) (hn:n = l.length) (hsm:l.length ≤ 1099511627776) :
  Slots w (Fp F w0) 8 A c l.length (fun i=>css.getD i []) ∧ ∀ (i:Nat) (x:Fld),l[i]? = some x → FldR w (Fp F w0) (css.getD i []) x:=by
 subst hn
 have ho:=hW.own k _ hk
 have h1:∀ u ∈ xs,u.oneCell' = true:=by
  intro v hv
  rw [h.flat.eq] at hv
  obtain ⟨c,hc,hv⟩:=List.mem_flatten.1 hv
  obtain ⟨i,hi,rfl⟩:=List.getElem_of_mem hc
  have hl:=h.len
  exact (h.each i _ _ (List.getElem?_eq_getElem hi) (List.getElem?_eq_getElem (show i < l.length by omega))).one v hv
 refine ⟨?_,fun i x hx=>?_⟩
 ·have hx:=h.flat
  simp only [Rw.v] at ho
  rw [← h.len] at ho ⊢
  exact hx.slots ho h1 (by rw [h.len]; exact hsm) (Mo hW hk)
 have hi:i < css.length:=by rw [h.len]; exact (List.getElem?_eq_some_iff.1 hx).1
 have:css.getD i [] = css[i]:=by rw [List.getD_eq_getElem?_getD,List.getElem?_eq_getElem hi]; rfl
 rw [this]
 exact h.each i _ x (List.getElem?_eq_getElem hi) hx
theorem J4 (w:World) (F:Nat → Nat → Prop):Slots w F 8 none 0 ([]:List Fld).length (fun _=>[]) ∧ ∀ (i:Nat) (x:Fld),([]:List Fld)[i]? = some x → FldR w F [] x :=
 ⟨Slots.nil w F 8 _,fun i x h=>by simp at h⟩
def Mq (w:World) (F:Nat → Nat → Prop) (l:List Fld) (x:Int):Ending → World → Prop:=fun en w'=>∃ A c,en = .returned (.agg #[.slice A l.length c,.int .i64 x]) ∧ FldsR w' (Fp F w) A c l ∧ Step w w' C7
theorem Is (y:Int × Bs) (r:List (Int × Bs)) (k:Int):T2 (y :: r) k = if y.1 < k then T2 r k + 1 else 0:=by
 unfold T2
 rw [List.takeWhile_cons]
 by_cases h:y.1 < k
 ·simp [h]
 simp [h]
theorem It {least:Int} {y t:Int × Bs} {r:List (Int × Bs)} (h:y.1 < t.1):L2 least (y :: r) t = y :: L2 least r t:=by
 unfold L2
 rw [Is,if_pos h]
 simp only [List.length_cons,Nat.add_lt_add_iff_right,List.getD_cons_succ,List.take_succ_cons,List.drop_succ_cons,List.cons_append]
 split <;> rfl
theorem Iu {least:Int} {y t:Int × Bs} {r:List (Int × Bs)} (h:¬ y.1 < t.1):L2 least (y :: r) t = if t.1 < least ∨ y.1 = t.1 then y :: r else t :: y :: r:=by
 unfold L2
 rw [Is,if_neg h]
 simp only [List.length_cons,Nat.zero_lt_succ,List.getD_cons_zero,List.take_zero,List.drop_zero,List.nil_append,true_and]
theorem Iv {least:Int} {t:Int × Bs}:L2 least [] t = if t.1 < least then [] else [t]:=by
 unfold L2
 simp [T2]
theorem FX {least:Int} {t:Int × Bs}:∀ {out:List (Int × Bs)},∀ x ∈ L2 least out t,x = t ∨ x ∈ out
 | [],x,hx=>by
  rw [Iv] at hx
  split at hx
  ·cases hx
  exact .inl (List.mem_singleton.1 hx)
 | y :: r,x,hx=>by
  by_cases h:y.1 < t.1
  ·rw [It h] at hx
   rcases List.mem_cons.1 hx with rfl | hx
   ·exact .inr (List.mem_cons_self ..)
   rcases FX x hx with h1 | h1
   ·exact .inl h1
   exact .inr (List.mem_cons_of_mem _ h1)
  rw [Iu h] at hx
  split at hx
  ·exact .inr hx
  rcases List.mem_cons.1 hx with rfl | hx
  ·exact .inl rfl
  exact .inr hx
theorem Iw {least:Int} {t:Int × Bs}:∀ {out:List (Int × Bs)},R9 out → R9 (L2 least out t)
 | [],_=>by
  rw [Iv]
  split
  ·exact List.Pairwise.nil
  exact List.pairwise_singleton _ _
 | y :: r,h=>by
  have h1:=@List.rel_of_pairwise_cons _ _ _ _ h
  have h2:=List.Pairwise.of_cons h
  by_cases hlt:y.1 < t.1
  ·rw [It hlt]
   refine List.pairwise_cons.2 ⟨fun z hz=>?_,Iw h2⟩
   rcases FX z hz with rfl | hz
   ·exact hlt
   exact h1 hz
  rw [Iu hlt]
  split
  ·exact h
  rename_i hn
  refine List.pairwise_cons.2 ⟨fun z hz=>?_,h⟩
  rcases List.mem_cons.1 hz with rfl | hz
  ·omega
  have:=h1 hz; omega
theorem Ix {least:Int}:∀ {l out:List (Int × Bs)},R9 out → R9 (l.foldl (L2 least) out)
 | [],_,h=>h
 | x :: r,_,h=>Ix (l:=r) (Iw h)
theorem Iy {least:Int}:∀ {l out:List (Int × Bs)},(l.foldl (L2 least) out).length ≤ out.length + l.length
 | [],_=>Nat.le_refl _
 | x :: r,out=>by
  have h1:=Iy (least:=least) (l:=r) (out:=L2 least out x)
  have h2:=LW least out x
  rw [List.foldl_cons,List.length_cons]
  omega
theorem Iz {least:Int}:∀ {l out:List (Int × Bs)},∀ x ∈ l.foldl (L2 least) out,x ∈ out ∨ x ∈ l
 | [],_,x,hx=>.inl hx
 | y :: r,out,x,hx=>by
  rcases Iz (l:=r) x hx with h | h
  ·rcases FX x h with rfl | h
   ·exact .inr (List.mem_cons_self ..)
   exact .inl h
  exact .inr (List.mem_cons_of_mem _ h)
theorem Mr (l:List Fld) (u:List (Int × Bs)):R9 (C6 l u):=Ix List.Pairwise.nil
theorem IA (l:List Fld) (u:List (Int × Bs)):(C6 l u).length ≤ 32767:=by
 have h:=Iy (least:=C2 l) (l:=u.take 32767) (out:=[])
 rw [List.length_take,List.length_nil] at h
 unfold C6
 omega
theorem Ms {l:List Fld} {u:List (Int × Bs)}:∀ x ∈ C6 l u,x ∈ u:=fun x hx=>by
 rcases Iz x hx with h | h
 ·cases h
 exact List.mem_of_mem_take h
theorem Mt {u:List (Int × Bs)} (h:R9 u):R9 (Cs u):=List.pairwise_map.2 h
theorem Ct (u:List (Int × Bs)):D7 (Cs u) = E5 u:=by
 unfold D7 Cs E5 L7
 rw [List.flatMap_map]
theorem Y1 (v:Int) (d:Nat) (l:List Fld) (t:Tree):(C5 v d l t).U = Cs (C6 l t.U):=by cases d <;> rfl
theorem IB:∀ {u:List (Int × Bs)},(∀ x ∈ u,(0 ≤ x.1 ∧ x.1 < 4294967296) ∧ x.2.length ≤ 32767) → (D7 u).length ≤ 32800 * u.length
 | [],_=>Nat.le_refl _
 | x :: r,h=>by
  have h1:=h x (List.mem_cons_self ..)
  have h2:=IB (u:=r) fun y hy=>h y (List.mem_cons_of_mem _ hy)
  have e:D7 (x :: r) = L7 x.1 x.2 ++ D7 r:=rfl
  have h3:=Ci x.1.toNat 5 (by omega) (by omega)
  have h4:=Ci x.2.length 5 (by omega) (by omega)
  rw [e,List.length_append,List.length_cons]
  unfold L7
  simp only [List.length_append]
  omega
theorem BG {v:Int} {d:Nat} {l:List Fld} {t:Tree} {i:Nat} {f:Fld} (h:l[i]? = some f):(C5 v (d + 1) l t).at_ i = Q0 (C5 v d) v f (t.at_ i):=by
 have h1:=Mp (W:=Q0 (C5 v d) v) (t:=t) h
 have e:(C5 v (d + 1) l t).L = Bw (Q0 (C5 v d) v) l t 0:=rfl
 rw [Tree.at_,e,List.getD_eq_getElem?_getD,h1]
 rfl
theorem S8 {v:Int} {d:Nat} {l:List Fld} {t:Tree} {i:Nat} {k x1 x2 x3 x4 x5 x6:Int} {s:List Fld} (h:l[i]? = some (.mk k x1 x2 x3 x4 x5 x6 s)) (hk:k < 8):((C5 v (d + 1) l t).at_ i).N = (t.at_ i).N:=by
 rw [BG h]
 have e1:k ≠ 11:=by omega
 have e2:¬ (k = 8 ∨ k = 9):=by omega
 have e3:k ≠ 10:=by omega
 simp [Q0,N2,Fld.kind,e1,e2,e3,Tree.N]
theorem Mu {v:Int} {d:Nat} {l:List Fld} {t:Tree} {i:Nat} {k x1 x2 x3 x4 x5 x6:Int} {s:List Fld} (h:l[i]? = some (.mk k x1 x2 x3 x4 x5 x6 s)) (hk:k < 8):((C5 v (d + 1) l t).at_ i).S = (t.at_ i).S:=by
 rw [BG h]
 have e1:k ≠ 11:=by omega
 have e2:¬ (k = 8 ∨ k = 9):=by omega
 have e3:k ≠ 10:=by omega
 simp [Q0,N2,Fld.kind,e1,e2,e3,Tree.S]
theorem IC {v:Int} (h0:0 ≤ v) (h1:v < 32768):IntKind.i16.wrap v = v:=by
 have:IntKind.i16.wrap v = (v + 32768) % 65536 - 32768:=by simp [IntKind.wrap,IntKind.signed,IntKind.bits]; omega
 omega
theorem Y2 (x:Int):be 8 (IntKind.i64.wrap x) = be 8 x:=by
 rw [IntKind.wrap_i64]
 simp only [be,List.cons.injEq,and_true]
 refine ⟨K7 ?_,K7 ?_,K7 ?_,K7 ?_,K7 ?_,K7 ?_,K7 ?_,K7 ?_⟩ <;> simp only [Int.reducePow] <;> omega
theorem Cu (x:Int):be 1 (IntKind.i8.wrap x) = be 1 x:=by
 have:IntKind.i8.wrap x = (x + 128) % 256 - 128:=by simp [IntKind.wrap,IntKind.signed,IntKind.bits]; omega
 rw [this]
 simp only [be,List.cons.injEq,and_true]
 refine K7 ?_
 simp only [Int.reducePow]; omega
def E8 (s:Bs):Bs:=(List.range 16).map fun i=>s.getD i 0
theorem ID (s:Bs):(E8 s).length = 16:=by simp [E8]
theorem Cv (s:Bs):E8 s = R7 s:=by
 apply List.ext_getElem?
 intro i
 unfold E8 R7
 rw [List.getElem?_map,List.getElem?_append,List.length_take]
 by_cases h:i < 16
 ·rw [List.getElem?_range h]
  by_cases hs:i < s.length
  ·rw [if_pos (by omega),List.getElem?_take,if_pos h,Option.map_some,List.getD_eq_getElem?_getD,List.getElem?_eq_getElem hs]; rfl
  rw [if_neg (by omega),List.getElem?_replicate,if_pos (by omega),Option.map_some,List.getD_eq_getElem?_getD,List.getElem?_eq_none (by omega)]; rfl
 rw [List.getElem?_eq_none (by simp; omega)]
 by_cases hs:i < min 16 s.length
 ·omega
 rw [if_neg hs,List.getElem?_replicate,if_neg (by omega)]; rfl
theorem Mv {x m:Int} (h0:0 ≤ x) (h1:x ≤ 255) (hm:0 < m) (hm':m ≤ 32768):0 ≤ Int.tmod x m ∧ Int.tmod x m < 32768:=by
 rw [Int.tmod_eq_emod_of_nonneg h0]
 have g1:=Int.emod_nonneg x (show m ≠ 0 by omega)
 have g2:=Int.emod_lt_of_pos x hm
 omega
def I8:List (Int × Bs) → Nat
 | []=>0
 | x :: r=>(1 + (uv x.1.toNat).length + x.2.length) + I8 r
def Tree.size:Tree → Nat
 | .mk _ s _ l u=>sizes l + (1 + s.length + I8 u)
where sizes:List Tree → Nat
 | []=>0
 | t :: r=>t.size + sizes r
abbrev sizes:=Tree.size.sizes
theorem Tree.size_mk (n:Int) (s:Bs) (b:Bool) (l:List Tree) (u:List (Int × Bs)):(Tree.mk n s b l u).size = sizes l + (1 + s.length + I8 u):=by rw [Tree.size]
theorem Tree.size_pos (t:Tree):1 ≤ t.size:=by cases t; rw [Tree.size_mk]; omega
theorem Tree.size_S (t:Tree):t.S.length ≤ t.size:=by cases t; rw [Tree.size_mk]; show List.length _ ≤ _; simp only [Tree.S]; omega
theorem Tree.size_U (t:Tree):I8 t.U ≤ t.size:=by cases t; rw [Tree.size_mk]; simp only [Tree.U]; omega
theorem Tree.size_L (t:Tree):sizes t.L ≤ t.size:=by cases t; rw [Tree.size_mk]; simp only [Tree.L]; omega
theorem IE:∀ {l:List Tree} {i:Nat} {x:Tree},l[i]? = some x → x.size ≤ sizes l
 | [],i,x,h=>by simp at h
 | t :: r,0,x,h=>by
  simp only [List.getElem?_cons_zero,Option.some.injEq] at h
  subst h
  exact Nat.le_add_right _ _
 | t :: r,i + 1,x,h=>Nat.le_trans (IE (l:=r) (i:=i) (by simpa using h)) (Nat.le_add_left _ _)
theorem FY:∀ (l:List Tree) (k:Nat),sizes (l.take k) ≤ sizes l
 | [],k=>by simp
 | t :: r,0=>Nat.zero_le _
 | t :: r,k + 1=>Nat.add_le_add_left (FY r k) _
theorem Mw:∀ (l:List Tree),l.length ≤ sizes l
 | []=>Nat.zero_le _
 | t :: r=>by
  have h1:=t.size_pos
  have h2:=Mw r
  show r.length + 1 ≤ t.size + sizes r
  omega
theorem Ec (t:Tree) (i:Nat):(t.at_ i).size ≤ t.size:=by
 unfold Tree.at_
 rw [List.getD_eq_getElem?_getD]
 cases h:t.L[i]? with
 | none =>
  have h1:=t.size_pos
  have:Tree.zero.size = 1:=by unfold Tree.zero; rw [Tree.size_mk]; rfl
  show Tree.zero.size ≤ _
  omega
 | some x=>exact Nat.le_trans (IE h) t.size_L
theorem FZ:∀ (a b:List (Int × Bs)),I8 (a ++ b) = I8 a + I8 b
 | [],b=>by simp [I8]
 | x :: r,b=>by
  show (1 + _ + _) + I8 (r ++ b) = (1 + _ + _) + I8 r + I8 b
  rw [FZ r b]; omega
theorem Mx (k:Int) (out:List (Int × Bs)) (t:Int × Bs):I8 (L2 k out t) ≤ I8 out + I8 [t]:=by
 unfold L2
 dsimp only
 split
 ·omega
 have h:I8 out = I8 (out.take (T2 out t.1)) + I8 (out.drop (T2 out t.1)):=by rw [← FZ,List.take_append_drop]
 rw [FZ]
 show _ + (_ + I8 (out.drop _)) ≤ _
 rw [h]
 simp only [I8]
 omega
theorem IF (k:Int):∀ (l out:List (Int × Bs)),I8 (l.foldl (L2 k) out) ≤ I8 out + I8 l
 | [],out=>by simp [I8]
 | t :: r,out=>by
  rw [List.foldl_cons]
  refine Nat.le_trans (IF k r _) ?_
  have:=Mx k out t
  simp only [I8] at this ⊢
  omega
theorem IG:∀ (l:List (Int × Bs)) (k:Nat),I8 (l.take k) ≤ I8 l
 | [],k=>by simp
 | t :: r,0=>Nat.zero_le _
 | t :: r,k + 1=>Nat.add_le_add_left (IG r k) _
theorem IH (l:List Fld) (u:List (Int × Bs)):I8 (C6 l u) ≤ I8 u:=by
 unfold C6
 refine Nat.le_trans (IF _ _ _) ?_
 have:=IG u 32767
 simp only [I8]; omega
theorem II (s:Bs):(C4 s).length ≤ s.length:=by simp only [C4,List.length_take]; omega
theorem Ga:∀ (l:List (Int × Bs)),(E5 l).length ≤ 10 * I8 l
 | []=>by simp [E5]
 | x :: r=>by
  have h1:=Ga r
  have h2:=Z4 (C4 x.2).length (by have:=N4 x.2; omega)
  have h3:=II x.2
  unfold E5 at h1 ⊢
  rw [List.flatMap_cons,List.length_append,List.length_append,List.length_append]
  show _ ≤ 10 * ((1 + _ + _) + I8 r)
  omega
theorem Ed:∀ (n:Nat),(uv n).length ≤ n + 1:=by
 intro n
 induction n using Nat.strongRecOn with
 | _ n ih =>
  by_cases h:n < 128
  ·rw [R2 h]; simp
  rw [U6 (by omega),List.length_cons]
  have:=ih (n / 128) (by omega)
  omega
def Fld.cost:Fld → Nat
 | .mk _ _ _ _ _ _ _ sub=>64 + ((1 + 3 * (C2 sub).toNat) * costs sub + 64)
where costs:List Fld → Nat
 | []=>0
 | f :: r=>(20 + f.cost) + costs r
abbrev costs:=Fld.cost.costs
def BH (l:List Fld):Nat:=(1 + 3 * (C2 l).toNat) * costs l + 64
theorem My (f:Fld):f.cost = 64 + BH f.sub:=by
 cases f; rw [Fld.cost]; rfl
theorem Gb (f:Fld) (r:List Fld):costs (f :: r) = (20 + f.cost) + costs r:=by
 show Fld.cost.costs (f :: r) = _
 rw [Fld.cost.costs]
theorem IJ {p:Tree → Bs} {c:Nat} (hp:∀ t,(p t).length ≤ c * t.size) (kind:Int) (null flex:Bool) (t:Tree):(E3 p kind null flex t).length ≤ (32 + c) * t.size:=by
 have h1:=t.size_pos
 have h2:=t.size_S
 have hm:(32 + c) * t.size = 32 * t.size + c * t.size:=Nat.add_mul _ _ _
 have hs:∀ (n:Nat),n ≤ 8 → (D2 flex null (if null = true then ([]:Bs) else C4 t.S).length n ++ (if null = true then ([]:Bs) else C4 t.S)).length ≤ 32 * t.size:=by
  intro n hn
  have h3:(if null = true then ([]:Bs) else C4 t.S).length ≤ t.S.length:=by
   split
   ·exact Nat.zero_le _
   exact II _
  have h5:(if null = true then ([]:Bs) else C4 t.S).length ≤ 32767:=by
   split
   ·exact Nat.zero_le _
   exact N4 _
  have h4:=FB flex null (if null = true then ([]:Bs) else C4 t.S).length n (by omega) hn
  rw [List.length_append]; omega
 unfold E3
 split
 ·show 1 ≤ _; omega
 split
 ·rw [Z5]; omega
 split
 ·have:=hs 2 (by omega); exact Nat.le_trans this (by omega)
 split
 ·have:=hs 4 (by omega); exact Nat.le_trans this (by omega)
 split
 ·have:=hp t; omega
 rw [be_length]; have:=S4 kind; omega
theorem Gc {g:Tree → Bs} {c:Nat} (hg:∀ t,(g t).length ≤ c * t.size):∀ (l:List Tree),(l.flatMap g).length ≤ c * sizes l
 | []=>by simp
 | t :: r=>by
  have h1:=hg t
  have h2:=Gc hg r
  rw [List.flatMap_cons,List.length_append]
  show _ ≤ c * (t.size + sizes r)
  rw [Nat.mul_add]; omega
theorem IK {p:Tree → Bs} {c:Nat} (hp:∀ t,(p t).length ≤ c * t.size) (f:Fld) (v:Int) (flex:Bool) (t:Tree):(M3 p f v flex t).length ≤ (64 + c) * t.size:=by
 have h1:=t.size_pos
 have h2:=t.size_L
 have hm:(64 + c) * t.size = 64 * t.size + c * t.size:=Nat.add_mul _ _ _
 have hm2:(32 + c) * t.size = 32 * t.size + c * t.size:=Nat.add_mul _ _ _
 unfold M3
 dsimp only
 split
 ·rw [List.length_append]
  have hl:(if f.nul v t = true then ([]:List Tree) else C8 t.L).length ≤ 32767:=by
   split
   ·exact Nat.zero_le _
   exact Z6 _
  have h3:=FB flex (f.nul v t) (if f.nul v t = true then ([]:List Tree) else C8 t.L).length 4 (by omega) (by omega)
  have h4:=Gc (g:=fun x=>E3 p f.of false flex x) (fun x=>IJ hp f.of false flex x) (if f.nul v t = true then ([]:List Tree) else C8 t.L)
  have h5:sizes (if f.nul v t = true then ([]:List Tree) else C8 t.L) ≤ t.size:=by
   split
   ·exact Nat.zero_le _
   exact Nat.le_trans (FY _ _) h2
  have h6:(32 + c) * sizes (if f.nul v t = true then ([]:List Tree) else C8 t.L) ≤ (32 + c) * t.size:=Nat.mul_le_mul_left _ h5
  omega
 split
 ·split
  ·rw [be_length]; omega
  rw [List.length_append,be_length]
  have:=hp t
  omega
 have:=IJ hp f.kind (f.nul v t) flex t
 omega
section
variable {w:Fld → Tree → Bs}
theorem IL (v:Int) (t:Tree):∀ (l:List Fld) (i:Nat),(∀ f ∈ l,∀ t,(w f t).length ≤ f.cost * t.size) → (D0 w l v t i).length ≤ costs l * t.size
 | [],i,_=>by simp [D0]
 | f :: r,i,h=>by
  have h1:=IL v t r (i + 1) fun g hg=>h g (List.mem_cons_of_mem _ hg)
  have h2:f.cost * (t.at_ i).size ≤ f.cost * t.size:=Nat.mul_le_mul_left _ (Ec t i)
  have h3:=h f (List.mem_cons_self ..) (t.at_ i)
  rw [D0,List.length_append,Gb,Nat.add_mul,Nat.add_mul]
  have h4:(if f.tag < 0 ∧ f.has v = true then w f (t.at_ i) else []).length ≤ f.cost * t.size:=by
   split
   ·omega
   exact Nat.zero_le _
  omega
theorem IM (t:Tree) (k:Nat) (hk:k < 18446744073709551616):∀ (l:List Fld) (i:Nat),(∀ f ∈ l,∀ t,(w f t).length ≤ f.cost * t.size) → (H4 w l k t i).length ≤ 2 * (costs l * t.size)
 | [],i,_=>by simp [H4]
 | f :: r,i,h=>by
  have h1:=IM t k hk r (i + 1) fun g hg=>h g (List.mem_cons_of_mem _ hg)
  have h2:f.cost * (t.at_ i).size ≤ f.cost * t.size:=Nat.mul_le_mul_left _ (Ec t i)
  have h3:=h f (List.mem_cons_self ..) (t.at_ i)
  have h5:=t.size_pos
  have h6:=Z4 k hk
  have h7:=Ed (w f (t.at_ i)).length
  rw [H4,List.length_append,Gb,Nat.add_mul,Nat.add_mul]
  have h4:(if f.tag = k ∧ f.usual (t.at_ i) = false then uv k ++ uv (w f (t.at_ i)).length ++ w f (t.at_ i) else []).length ≤ 11 + 2 * (f.cost * t.size):=by
   split
   ·rw [List.length_append,List.length_append]; omega
   exact Nat.zero_le _
  omega
theorem IN (t:Tree) {l:List Fld} (h:∀ f ∈ l,∀ t,(w f t).length ≤ f.cost * t.size):∀ (k:Nat),k < 18446744073709551616 → (C3 w l t k).length ≤ 2 * (k * (costs l * t.size))
 | 0,_=>by simp [C3]
 | k + 1,hk=>by
  have h1:=IN t h k (by omega)
  have h2:=IM t k (by omega) l 0 h
  rw [C3,List.length_append,Nat.add_mul]
  omega
theorem IP (t:Tree) (k:Nat):∀ (l:List Fld) (i:Nat),H3 w l k t i ≤ costs l
 | [],i=>by simp [H3]
 | f :: r,i=>by
  have h1:=IP t k r (i + 1)
  rw [H3,Gb]
  split <;> omega
theorem IQ (t:Tree) (l:List Fld):∀ (k:Nat),D3 w l t k ≤ k * costs l
 | 0=>by simp [D3]
 | k + 1=>by
  have h1:=IQ t l k
  have h2:=IP (w:=w) t k l 0
  rw [D3,Nat.add_mul]
  omega
theorem Gd:∀ (u:List (Int × Bs)),u.length ≤ I8 u
 | []=>Nat.le_refl _
 | x :: r=>by
  have:=Gd r
  rw [List.length_cons]
  simp only [I8]; omega
theorem IR {l:List Fld} (h:∀ f ∈ l,∀ t,(w f t).length ≤ f.cost * t.size) (hk:(C2 l).toNat < 18446744073709551616) (v:Int) (flex:Bool) (t:Tree):(N1 w l v flex t).length ≤ BH l * t.size:=by
 have h0:=t.size_pos
 have h1:=IL v t l 0 h
 have h2:=IN t h _ hk
 have h3:=IQ (w:=w) t l (C2 l).toNat
 have h4:=Ga (C6 l t.U)
 have h5:=IH l t.U
 have h6:=t.size_U
 have h7:=Gd (C6 l t.U)
 have h8:=Ed (D3 w l t (C2 l).toNat + (C6 l t.U).length)
 have e1:BH l * t.size = (costs l * t.size + 3 * ((C2 l).toNat * (costs l * t.size))) + 64 * t.size:=by
  unfold BH
  rw [Nat.add_mul,Nat.add_mul,Nat.one_mul,Nat.add_mul,Nat.mul_assoc,Nat.mul_assoc]
 have e3:(C2 l).toNat * costs l ≤ (C2 l).toNat * (costs l * t.size):=Nat.mul_le_mul_left _ (Nat.le_mul_of_pos_right _ h0)
 unfold N1
 rw [List.length_append,e1]
 split
 ·rw [List.length_append,List.length_append]; omega
 simp only [List.length_nil]; omega
end
theorem IS (l:List Fld):(C2 l).toNat < 18446744073709551616:=by
 have h:=FD l
 omega
theorem IT:∀ (d:Nat) (l:List Fld) (v:Int) (flex:Bool) (t:Tree),(D4 d l v flex t).length ≤ BH l * t.size
 | 0,l,v,flex,t=>IR (fun f _ t=>by simp) (IS l) v flex t
 | d + 1,l,v,flex,t=>IR (fun f _ t=>by
   rw [My]
   exact IK (fun t=>IT d f.sub v flex t) f v flex t) (IS l) v flex t
theorem Mz (d:Nat) (l:List Fld) (x v:Int) (t:Tree):(F7 d l x v t).length ≤ BH l * t.size:=IT d l v _ t
end Go.Proofs.YtoclgihkbmaolacGreatDoor.ME
namespace Go.Proofs.YtoclgihkbmaolacGreatDoor.ME
open Go
open Go.Proofs.YtoclgihkbmaolacGreatDoor.Rows (uptoBulk uptoBulkAll)
set_option linter.unusedVariables false
set_option linter.unusedSimpArgs false
def Tree.i64s:Tree → Prop
 | .mk n _ _ l _=>(-9223372036854775808 ≤ n ∧ n ≤ 9223372036854775807) ∧ i64ss l
where i64ss:List Tree → Prop
 | []=>True
 | t :: r=>t.i64s ∧ i64ss r
abbrev i64ss:=Tree.i64s.i64ss
theorem IU:∀ {l:List Tree},(∀ x ∈ l,x.i64s) → i64ss l
 | [],_=>trivial
 | t :: r,h=>⟨h t List.mem_cons_self,IU (l:=r) fun x hx=>h x (List.mem_cons_of_mem _ hx)⟩
theorem Ge {H:Type} (d:DataW H):1 ≤ uptoBulk d:=by cases d <;> first | (unfold uptoBulk; omega) | (rename_i l; cases l <;> (unfold uptoBulk; omega))
theorem Gf {H:Type}:∀ (l:List (DataW H)),l.length ≤ uptoBulkAll l
 | []=>Nat.zero_le _
 | d :: r=>by
  have h1:=Ge d
  have h2:=Gf r
  unfold uptoBulkAll
  rw [List.length_cons]; omega
theorem Ee {H:Type}:∀ {l:List (DataW H)} {d:DataW H},d ∈ l → uptoBulk d ≤ uptoBulkAll l
 | [],d,h=>by cases h
 | a :: r,d,h=>by
  unfold uptoBulkAll
  rcases List.mem_cons.1 h with rfl | h
  ·omega
  have:=Ee h; omega
theorem IV {α β:Type} {f:α → Option β}:∀ {l:List α} {r:List β},l.mapM f = some r → r.length = l.length ∧ ∀ (i:Nat) (a:α),l[i]? = some a → ∃ b,f a = some b ∧ r[i]? = some b
 | [],r,h=>by
  simp only [List.mapM_nil,Option.pure_def,Option.some.injEq] at h
  subst h
  exact ⟨rfl,fun i a h=>by simp at h⟩
 | x :: l,r,h=>by
  rw [List.mapM_cons] at h
  cases hx:f x with
  | none=>rw [hx] at h; cases h
  | some y =>
   rw [hx] at h
   cases hl:l.mapM f with
   | none=>rw [hl] at h; cases h
   | some ys =>
    rw [hl] at h
    obtain rfl:y :: ys = r:=Option.some.inj h
    obtain ⟨h1,h2⟩:=IV hl
    refine ⟨by simp [h1],fun i a ha=>?_⟩
    cases i with
    | zero =>
     simp only [List.getElem?_cons_zero,Option.some.injEq] at ha
     subst ha
     exact ⟨y,hx,rfl⟩
    | succ i=>simpa using h2 i a (by simpa using ha)
theorem Gg {w:World} {a:Addr} {n:Nat} {cs:List Value} (h:w.cells? 0 a n = some cs):cs.length = n ∧ ∀ (j:Nat) (v:Value),cs[j]? = some v → w.cell? (a.add j) = some v:=by
 unfold World.cells? at h
 rw [if_pos (Nat.zero_le _)] at h
 obtain ⟨h1,h2⟩:=IV h
 rw [List.length_range] at h1
 refine ⟨h1,fun j v hj=>?_⟩
 have hjn:j < n:=by rw [← h1]; exact (List.getElem?_eq_some_iff.1 hj).1
 obtain ⟨b,hb,hc⟩:=h2 j j (by rw [List.getElem?_range hjn])
 rw [hj] at hc
 rw [hb,Option.some.inj hc]
theorem MA {w:World} {a:Addr} {v:Value} (h:w.cell? a = some v):a.spot = none:=by
 unfold World.cell? at h
 split at h
 ·split at h
  ·cases h
  rename_i hs; simpa using hs
 cases h
theorem MB {w:World} {size n c:Nat} {ad:Addr} {cs:Nat → List Value} (hle:n ≤ c) (hsm:n ≤ 1099511627776) (hsz:0 < size) (h:∀ i,i < n → (cs i).length = size ∧ ∀ (j:Nat) (v:Value),(cs i)[j]? = some v → w.cell? ((ad.add (i * size)).add j) = some v):Slots w (fun _ _=>True) size (some ad) c n cs:=by
 refine ⟨hle,hsm,(fun hA=>by cases hA),fun ad' hA hn=>?_⟩
 obtain rfl:=Option.some.inj hA
 have h0:=h 0 hn
 have hp:ad.spot = none:=by
  have h1:=MA (h0.2 0 _ (List.getElem?_eq_getElem (by omega)))
  unfold Addr.add at h1
  split at h1
  ·split at h1 <;> simp_all
  simp_all
 obtain ⟨b,o,sp⟩:=ad
 simp only at hp
 subst hp
 refine ⟨b,o,rfl,fun i hi=>⟨(h i hi).1,fun j v hj=>⟨trivial,?_⟩⟩⟩
 have:=(h i hi).2 j v hj
 rwa [P5,P5] at this
theorem IW {α:Type} {R:Nat → α → Prop}:∀ (n:Nat),(∀ i,i < n → ∃ x,R i x) → ∃ l:List α,l.length = n ∧ ∀ i x,l[i]? = some x → R i x
 | 0,_=>⟨[],rfl,fun i x h=>by simp at h⟩
 | n + 1,h=>by
  obtain ⟨l,h1,h2⟩:=IW n fun i hi=>h i (by omega)
  obtain ⟨x,hx⟩:=h n (by omega)
  refine ⟨l ++ [x],by simp [h1],fun i y hy=>?_⟩
  rcases N5 hy with hy | ⟨rfl,rfl⟩
  ·exact h2 i y hy
  rw [h1]; exact hx
theorem Gh {α:Type} {w:World} {a:Addr} {len cap size:Nat} (R:Nat → List Value → α → Prop) (hle:len ≤ cap) (hsm:len ≤ 1099511627776) (hsz:0 < size)
  (hex:∀ i,i < len → ∃ ci:List Value,ci.length = size ∧ (∀ (j:Nat) (v:Value),ci[j]? = some v → w.cell? ((a.add (i * size)).add j) = some v) ∧ ∃ x,R i ci x) :
  ∃ l:List α,l.length = len ∧ ∃ xs:Nat → List Value,Slots w (fun _ _=>True) size (some a) cap len xs ∧ ∀ i x,l[i]? = some x → R i (xs i) x:=by
 obtain ⟨l,h1,h2⟩:=IW (R:=fun i (z:List Value × α)=>z.1.length = size ∧ (∀ (j:Nat) (v:Value),z.1[j]? = some v → w.cell? ((a.add (i * size)).add j) = some v) ∧ R i z.1 z.2) len (fun i hi=>by
  obtain ⟨ci,g1,g2,x,g3⟩:=hex i hi
  exact ⟨(ci,x),g1,g2,g3⟩)
 have hget:∀ i,i < len → ∃ z,l[i]? = some z:=fun i hi=>⟨_,List.getElem?_eq_getElem (by omega)⟩
 have hxs:∀ i z,l[i]? = some z → ((l.map (·.1)).getD i []) = z.1:=fun i z hz=>by
  rw [List.getD_eq_getElem?_getD,List.getElem?_map,hz]; rfl
 refine ⟨l.map (·.2),by simp [h1],fun i=>(l.map (·.1)).getD i [],MB hle hsm hsz (fun i hi=>?_),fun i x hx=>?_⟩
 ·obtain ⟨z,hz⟩:=hget i hi
  rw [hxs i z hz]
  exact ⟨(h2 i z hz).1,(h2 i z hz).2.1⟩
 rw [List.getElem?_map] at hx
 cases hz:l[i]? with
 | none=>rw [hz] at hx; cases hx
 | some z =>
  rw [hz] at hx
  simp only [Option.map_some,Option.some.injEq] at hx
  subst hx
  dsimp only
  rw [hxs i z hz]
  exact (h2 i z hz).2.2
def Ef (P:Program) (t:TypeId):Option (List (TypeId × Nat)) :=
 match P.underlying t with
 | some (.struct fs)=>some (fs.toList.map fun f=>(f.type,f.offset))
 | _=>none
theorem IX {P:Program} {t:TypeId} {l:List (TypeId × Nat)} (h:Ef P t = some l):∃ fs:Array Field,P.underlying t = some (.struct fs) ∧ fs.size = l.length ∧ ∀ (i:Nat) ty off,l[i]? = some (ty,off) → ∃ f,fs[i]? = some f ∧ f.type = ty ∧ f.offset = off:=by
 unfold Ef at h
 split at h
 ·rename_i fs hfs
  simp only [Option.some.injEq] at h
  subst h
  refine ⟨fs,hfs,by simp,fun i ty off hi=>?_⟩
  rw [List.getElem?_map] at hi
  cases hf:fs.toList[i]? with
  | none=>rw [hf] at hi; cases hi
  | some f =>
   rw [hf] at hi
   simp only [Option.map_some,Option.some.injEq,Prod.mk.injEq] at hi
   exact ⟨f,by simpa using hf,hi.1,hi.2⟩
 cases h
structure TreeTys (P:Program) (T TL TU TG TB TI TO TK T8:TypeId):Prop where
 tree:Ef P T = some [(TI,0),(TB,1),(TO,2),(TL,3),(TU,4)]
 tag:Ef P TG = some [(TK,0),(TB,1)]
 trees:P.underlying TL = some (.slice T)
 tags:P.underlying TU = some (.slice TG)
 bytes:P.underlying TB = some (.slice T8)
 int:P.underlying TI = some (.int .i64)
 bool:P.underlying TO = some .bool
 key:P.underlying TK = some (.int .u32)
 byte:P.underlying T8 = some (.int .u8)
 cells:(P.cellsOf T,P.cellsOf TL,P.cellsOf TU,P.cellsOf TG,P.cellsOf TB,P.cellsOf TI,P.cellsOf TO,P.cellsOf TK,P.cellsOf T8) = (5,1,1,2,1,1,1,1,1)
section
variable {H:Type} {enc:TypeId × Value → H} {P:Program} {W:World} {sp:Nat → Bool} {hd:Bool} {T TL TU TG TB TI TO TK T8:TypeId}
theorem Gi {α β:Type} {x:Option α} {f:α → Option β} {l:List β} {i:Nat} (h:x.bind f = l[i]?) (hi:i < l.length):∃ a b,x = some a ∧ f a = some b ∧ l[i]? = some b:=by
 rw [List.getElem?_eq_getElem hi] at h
 obtain ⟨a,ha,hb⟩:=Option.bind_eq_some_iff.1 h
 exact ⟨a,_,ha,hb,List.getElem?_eq_getElem hi⟩
theorem Gj {elems spare:List (DataW H)} {n:Nat} (h:uptoBulk (.slice elems spare) ≤ n):elems.length ≤ n ∧ ∀ d ∈ elems,uptoBulk d ≤ n:=by
 unfold uptoBulk at h
 have h1:=Gf elems
 exact ⟨by omega,fun d hd=>by have:=Ee hd; omega⟩
theorem IY {parts:List (DataW H)} {n:Nat} (h:uptoBulk (.agg parts) ≤ n):∀ d ∈ parts,uptoBulk d ≤ n:=by
 unfold uptoBulk at h
 exact fun d hd=>by have:=Ee hd; omega
theorem Gk {fuel:Nat} {cs:List Value} {x:DataW H × List MemPlace} (hT:TreeTys P T TL TU TG TB TI TO TK T8) (h:DataW.trod enc P W 0 sp hd fuel TB cs = some x) (hb:uptoBulk x.1 ≤ 1048576) :
  ∃ A c s,cs = [.slice A (s:Bs).length c] ∧ Octs W (fun _ _=>True) A c s ∧ s.length ≤ uptoBulk x.1:=by
 have hc:=hT.cells
 simp only [Prod.mk.injEq] at hc
 rcases DataW.trod_slice hT.bytes h with ⟨rfl,rfl⟩ | ⟨a,len,cap,elems,rest,n,_,rfl,rfl,_,hle,_,hlen,he,_⟩
 ·exact ⟨none,0,[],rfl,Octs.nil _ _,Nat.zero_le _⟩
 have hlb:=Gf (elems.map (·.1))
 rw [List.length_map] at hlb
 have hbl:=Gj hb
 simp only [List.length_map] at hbl
 obtain ⟨l,hl,xs,h1,h2⟩:=Gh (w:=W) (a:=a) (len:=len) (cap:=cap) (size:=1) (fun _ ci (q:UInt8)=>ci = [B7 q]) hle (by omega) (by omega) (fun i hi=>by
  obtain ⟨ci,y,g1,g2,g3⟩:=Gi (he i hi) (by omega)
  obtain ⟨g4,g5⟩:=Gg g1
  rw [hc.2.2.2.2.2.2.2.2] at g4 g5
  refine ⟨ci,g4,g5,?_⟩
  obtain ⟨v,rfl,_,hw⟩:=DataW.trod_int hT.byte g2
  have hx:0 ≤ v ∧ v ≤ 255:=by simpa [Lit.wf,IntKind.min,IntKind.max,IntKind.signed,IntKind.bits] using hw
  refine ⟨UInt8.ofNat v.toNat,?_⟩
  unfold B7
  rw [UInt8.toNat_ofNat']
  congr 2
  omega)
 refine ⟨some a,cap,l,by rw [hl],?_,by rw [hl,← hlen]; dsimp only; unfold uptoBulk; omega⟩
 unfold Octs
 rw [hl]
 refine ⟨h1.le,h1.small,h1.none_,fun ad hA hn=>?_⟩
 obtain ⟨b,o,e1,e2⟩:=h1.some_ ad hA hn
 refine ⟨b,o,e1,fun i hi=>?_⟩
 have hli:l[i]? = some (l.getD i 0):=by
  rw [List.getD_eq_getElem?_getD,List.getElem?_eq_getElem (by omega)]; rfl
 have:=h2 i _ hli
 rw [← this]
 exact e2 i hi
theorem BI {n:Nat} {fs:Array Field} {xs:List (DataW H × List MemPlace)} {cs:List Value} {l:List (TypeId × Nat)} (hx:∀ (i:Nat) (f:Field),fs[i]? = some f → DataW.trod enc P W 0 sp hd n f.type ((cs.drop f.offset).take (P.cellsOf f.type)) = xs[i]?)
  (hl:∀ (i:Nat) ty off,l[i]? = some (ty,off) → ∃ f,fs[i]? = some f ∧ f.type = ty ∧ f.offset = off) {i:Nat} {ty off:Nat} (hi:l[i]? = some (ty,off)) (h1:P.cellsOf ty = 1) (hxl:i < xs.length) {c:Value} (hc:cs[off]? = some c) :
  ∃ y,xs[i]? = some y ∧ DataW.trod enc P W 0 sp hd n ty [c] = some y:=by
 obtain ⟨f,hf,rfl,rfl⟩:=hl i _ _ hi
 have:=hx i f hf
 rw [h1] at this
 refine ⟨xs[i],List.getElem?_eq_getElem hxl,?_⟩
 rw [List.getElem?_eq_getElem hxl] at this
 have e:(cs.drop f.offset).take 1 = [c]:=by
  rw [List.take_one,List.head?_drop,hc]; rfl
 rw [e] at this
 exact this
theorem IZ:∀ (l:List (Int × Bs)) {elems:List (DataW H × List MemPlace)},l.length = elems.length → (∀ (i:Nat) (x:Int × Bs) (y:DataW H × List MemPlace),l[i]? = some x → elems[i]? = some y → 1 + (uv x.1.toNat).length + x.2.length ≤ 8 * uptoBulk y.1) → I8 l ≤ 8 * uptoBulkAll (elems.map (·.1))
 | [],_,_,_=>Nat.zero_le _
 | x :: r,[],h,_=>by cases h
 | x :: r,y :: es,h,hp=>by
  have h1:=IZ r (elems:=es) (by simpa using h) fun i x' y' hx hy=>hp (i + 1) x' y' (by simpa using hx) (by simpa using hy)
  have h2:=hp 0 x y rfl rfl
  simp only [I8,List.map_cons,uptoBulkAll]
  omega
theorem Ja:∀ (l:List Tree) {elems:List (DataW H × List MemPlace)},l.length = elems.length → (∀ (i:Nat) (x:Tree) (y:DataW H × List MemPlace),l[i]? = some x → elems[i]? = some y → x.size ≤ 8 * uptoBulk y.1) → sizes l ≤ 8 * uptoBulkAll (elems.map (·.1))
 | [],_,_,_=>Nat.zero_le _
 | x :: r,[],h,_=>by cases h
 | x :: r,y :: es,h,hp=>by
  have h1:=Ja r (elems:=es) (by simpa using h) fun i x' y' hx hy=>hp (i + 1) x' y' (by simpa using hx) (by simpa using hy)
  have h2:=hp 0 x y rfl rfl
  show x.size + sizes r ≤ _
  simp only [List.map_cons,uptoBulkAll]
  omega
theorem MC {y0 y1 y2 y3 y4:DataW H × List MemPlace} {xs:List (DataW H × List MemPlace)} (h:xs.length = 5) (h0:xs[0]? = some y0) (h1:xs[1]? = some y1) (h2:xs[2]? = some y2) (h3:xs[3]? = some y3) (h4:xs[4]? = some y4):uptoBulk (.agg (xs.map (·.1))) = uptoBulk y0.1 + uptoBulk y1.1 + uptoBulk y2.1 + uptoBulk y3.1 + uptoBulk y4.1 + 1:=by
 match xs,h with
 | [a,b,c,d,e],_ =>
  simp only [List.getElem?_cons_zero,List.getElem?_cons_succ,Option.some.injEq] at h0 h1 h2 h3 h4
  subst h0; subst h1; subst h2; subst h3; subst h4
  have e:uptoBulk (.agg [a.1,b.1,c.1,d.1,e.1]) = uptoBulkAll [a.1,b.1,c.1,d.1,e.1] + 1:=by rw [uptoBulk]
  simp only [List.map_cons,List.map_nil]
  rw [e]
  simp only [uptoBulkAll]
  omega
theorem MD {fuel:Nat} {cs:List Value} {x:DataW H × List MemPlace} (hT:TreeTys P T TL TU TG TB TI TO TK T8) (h:DataW.trod enc P W 0 sp hd fuel TU cs = some x) (hb:uptoBulk x.1 ≤ 1048576) :
  ∃ A c u,cs = [.slice A (u:List (Int × Bs)).length c] ∧ TagsR W (fun _ _=>True) A c u ∧ I8 u ≤ 8 * uptoBulk x.1:=by
 have hc:=hT.cells
 simp only [Prod.mk.injEq] at hc
 rcases DataW.trod_slice hT.tags h with ⟨rfl,rfl⟩ | ⟨a,len,cap,elems,rest,n,_,rfl,rfl,_,hle,_,hlen,he,_⟩
 ·exact ⟨none,0,[],rfl,TagsR.nil _ _,Nat.zero_le _⟩
 have hbl:=Gj hb
 simp only [List.length_map] at hbl
 obtain ⟨l,hl,xs,h1,h2⟩:=Gh (w:=W) (a:=a) (len:=len) (cap:=cap) (size:=2) (fun i ci (q:Int × Bs)=>((∃ A' c',ci = [.int .u32 q.1,.slice A' q.2.length c'] ∧ Octs W (fun _ _=>True) A' c' q.2) ∧ 0 ≤ q.1 ∧ q.1 < 4294967296) ∧ ∀ y,elems[i]? = some y → 1 + (uv q.1.toNat).length + q.2.length ≤ 8 * uptoBulk y.1) hle (by omega) (by omega) (fun i hi=>by
  obtain ⟨ci,y,g1,g2,g3⟩:=Gi (he i hi) (by omega)
  obtain ⟨g4,g5⟩:=Gg g1
  rw [hc.2.2.2.1] at g4 g5
  refine ⟨ci,g4,g5,?_⟩
  obtain ⟨fs,hfs,hsz,hl⟩:=IX hT.tag
  obtain ⟨xs,m,_,rfl,_,hxl,hx⟩:=DataW.trod_struct hfs g2
  rw [hsz] at hxl
  have hxl':xs.length = 2:=hxl
  match ci,g4 with
  | [c0,c1],_ =>
   obtain ⟨y0,_,k0⟩:=BI hx hl (i:=0) rfl hc.2.2.2.2.2.2.2.1 (by omega) (c:=c0) rfl
   obtain ⟨y1,e1,k1⟩:=BI hx hl (i:=1) rfl hc.2.2.2.2.1 (by omega) (c:=c1) rfl
   obtain ⟨v,hv,_,hw⟩:=DataW.trod_int hT.key k0
   have hx:0 ≤ v ∧ v ≤ 4294967295:=by simpa [Lit.wf,IntKind.min,IntKind.max,IntKind.signed,IntKind.bits] using hw
   have hby:uptoBulk y1.1 ≤ 1048576:=by
    have hm:DataW.agg (xs.map (·.1)) ∈ elems.map (·.1):=by
     have:=List.mem_of_getElem? g3
     exact List.mem_map.2 ⟨_,this,rfl⟩
    exact IY (hbl.2 _ hm) _ (List.mem_map.2 ⟨_,List.mem_of_getElem? e1,rfl⟩)
   obtain ⟨A',c',s,hs,ho,hsl⟩:=Gk hT k1 hby
   simp only [List.cons.injEq,and_true] at hv hs
   subst hv; subst hs
   refine ⟨(v,s),⟨⟨A',c',rfl,ho⟩,by dsimp only; omega,by dsimp only; omega⟩,fun y hy=>?_⟩
   rw [g3] at hy
   obtain rfl:=Option.some.inj hy
   have h5:=Ci v.toNat 5 (by omega) (by omega)
   have h6:uptoBulk y1.1 ≤ uptoBulkAll (xs.map (·.1)):=Ee (List.mem_map.2 ⟨_,List.mem_of_getElem? e1,rfl⟩)
   dsimp only
   unfold uptoBulk
   omega)
 refine ⟨some a,cap,l,by rw [hl],⟨xs,by rw [hl]; exact h1,fun i k s hi=>(h2 i (k,s) hi).1⟩,?_⟩
 have:=IZ l (elems:=elems) (by rw [hl,hlen]) (fun i x y hx hy=>(h2 i x hx).2 y hy)
 dsimp only
 unfold uptoBulk
 omega
theorem MF (hT:TreeTys P T TL TU TG TB TI TO TK T8):∀ (fuel:Nat) (cs:List Value) (x:DataW H × List MemPlace),DataW.trod enc P W 0 sp hd fuel T cs = some x → uptoBulk x.1 ≤ 1048576 → ∃ t,TreeR W (fun _ _=>True) cs t ∧ t.size ≤ 8 * uptoBulk x.1 ∧ t.i64s:=by
 intro fuel
 induction fuel using Nat.strongRecOn with
 | _ fuel ih =>
 intro cs x h hb
 have hc:=hT.cells
 simp only [Prod.mk.injEq] at hc
 obtain ⟨fs,hfs,hsz,hl⟩:=IX hT.tree
 obtain ⟨xs,m,rfl,rfl,hcl,hxl,hx⟩:=DataW.trod_struct hfs h
 rw [hsz] at hxl
 have hxl':xs.length = 5:=hxl
 rw [hc.1] at hcl
 have hbe:∀ {i:Nat} {y:DataW H × List MemPlace},xs[i]? = some y → uptoBulk y.1 ≤ 1048576:=fun e=>IY hb _ (List.mem_map.2 ⟨_,List.mem_of_getElem? e,rfl⟩)
 match cs,hcl with
 | [c0,c1,c2,c3,c4],_ =>
  obtain ⟨y0,e0,k0⟩:=BI hx hl (i:=0) rfl hc.2.2.2.2.2.1 (by omega) (c:=c0) rfl
  obtain ⟨y1,e1,k1⟩:=BI hx hl (i:=1) rfl hc.2.2.2.2.1 (by omega) (c:=c1) rfl
  obtain ⟨y2,e2,k2⟩:=BI hx hl (i:=2) rfl hc.2.2.2.2.2.2.1 (by omega) (c:=c2) rfl
  obtain ⟨y3,e3,k3⟩:=BI hx hl (i:=3) rfl hc.2.1 (by omega) (c:=c3) rfl
  obtain ⟨y4,e4,k4⟩:=BI hx hl (i:=4) rfl hc.2.2.1 (by omega) (c:=c4) rfl
  obtain ⟨v,hv,_,hw0⟩:=DataW.trod_int hT.int k0
  have hx0:-9223372036854775808 ≤ v ∧ v ≤ 9223372036854775807:=by simpa [Lit.wf,IntKind.min,IntKind.max,IntKind.signed,IntKind.bits] using hw0
  obtain ⟨A1,d1,s,hs,ho,hz1⟩:=Gk hT k1 (hbe e1)
  obtain ⟨b,hbo,_⟩:=DataW.trod_bool hT.bool k2
  obtain ⟨A3,d3,u,hu,hur,hz3⟩:=MD hT k4 (hbe e4)
  have hll:∃ A2 d2 l xs2,[c3] = [.slice A2 (l:List Tree).length d2] ∧ Slots W (fun _ _=>True) 5 A2 d2 l.length xs2 ∧ (∀ i x,l[i]? = some x → TreeR W (fun _ _=>True) (xs2 i) x) ∧ sizes l ≤ 8 * uptoBulk y3.1 ∧ i64ss l:=by
   rcases DataW.trod_slice hT.trees k3 with ⟨e,_⟩ | ⟨a,len,cap,elems,rest,n,rfl,e,rfl,_,hle,_,hlen,he,_⟩
   ·exact ⟨none,0,[],fun _=>[],e,Slots.nil _ _ _ _,(fun i x h=>by simp at h),Nat.zero_le _,trivial⟩
   have hbl:=Gj (hbe e3)
   simp only [List.length_map] at hbl
   obtain ⟨l,hl,xs2,h1,h2⟩:=Gh (w:=W) (a:=a) (len:=len) (cap:=cap) (size:=5) (fun i ci (q:Tree)=>(TreeR W (fun _ _=>True) ci q ∧ q.i64s) ∧ ∀ y,elems[i]? = some y → q.size ≤ 8 * uptoBulk y.1) hle (by omega) (by omega) (fun i hi=>by
    obtain ⟨ci,y,g1,g2,g3⟩:=Gi (he i hi) (by omega)
    obtain ⟨g4,g5⟩:=Gg g1
    rw [hc.1] at g4 g5
    obtain ⟨q,q1,q2,q3⟩:=ih n (by omega) ci y g2 (hbl.2 _ (List.mem_map.2 ⟨_,List.mem_of_getElem? g3,rfl⟩))
    exact ⟨ci,g4,g5,q,⟨q1,q3⟩,fun y' hy=>by
     rw [g3] at hy
     obtain rfl:=Option.some.inj hy
     exact q2⟩)
   refine ⟨some a,cap,l,xs2,by rw [e,hl],by rw [hl]; exact h1,fun i x hx=>(h2 i x hx).1.1,?_,IU fun x hx=>by
    obtain ⟨i,hi,rfl⟩:=List.getElem_of_mem hx
    exact (h2 i _ (List.getElem?_eq_getElem hi)).1.2⟩
   have:=Ja l (elems:=elems) (by rw [hl,hlen]) (fun i x y hx hy=>(h2 i x hx).2 y hy)
   dsimp only
   unfold uptoBulk
   omega
  obtain ⟨A2,d2,l,xs2,hl2,hsl,hxl2,hz2,hi2⟩:=hll
  simp only [List.cons.injEq,and_true] at hv hs hbo hl2 hu
  subst hv; subst hs; subst hbo; subst hl2; subst hu
  refine ⟨_,.mk xs2 ho hsl hxl2 hur,?_,hx0,hi2⟩
  have h5:=MC hxl' e0 e1 e2 e3 e4
  have p0:=Ge y0.1
  have p1:=Ge y2.1
  dsimp only at h5 ⊢
  rw [Tree.size_mk,h5]
  omega
theorem MG (hT:TreeTys P T TL TU TG TB TI TO TK T8) (fuel:Nat) (cs:List Value) (x:DataW H × List MemPlace) (h:DataW.trod enc P W 0 sp hd fuel T cs = some x) (hb:uptoBulk x.1 ≤ 1048576):∃ t,TreeR W (fun _ _=>True) cs t ∧ t.size ≤ 8 * uptoBulk x.1:=by
 obtain ⟨t,h1,h2,_⟩:=MF hT fuel cs x h hb
 exact ⟨t,h1,h2⟩
end
section
variable {H:Type} {enc:TypeId × Value → H} {P:Program}
open Go.ChangeShapes Go.WideShapes Go.ChangeAt Go.RowKit
theorem Step.same {W W':World} (h:Step W W' C7) {b:Nat} (hb:b < W.heap.size):W'.heap[b]? = W.heap[b]?:=(h.keeps b hb).1 fun _ hn=>hn
theorem Step.sameAt {W W':World} (h:Step W W' C7) {p:MemPlace} (hp:p.block < W.heap.size):W.sameAt W' p:=by
 cases p with
 | cell b o=>exact World.cell_of_heap (h.same hp)
 | map b=>exact h.same hp
theorem Step.keptBut {W W':World} (h:Step W W' C7) (may:MemPlace → Prop):W.keptBut W' may:=by
 refine ⟨h.os,h.output,fun i hi=>?_⟩
 rw [h.same hi]
 cases hx:W.heap[i]? with
 | none=>rfl
 | some x =>
  cases x with
  | cells c t f=>exact ⟨rfl,rfl,rfl,fun _ _=>rfl⟩
  | map es clock=>exact .inr ⟨rfl,rfl⟩
  | _=>rfl
theorem Jb (hl:laidOutB P = true) {W W':World} (hs:Step W W' C7):∀ {ts:List TypeId} {vs:List Value} {ds:List (DataW H)} {ps:List MemPlace},(∀ t ∈ ts,P.readableRec t = true ∧ t < P.types.size) → DataW.TrodAll enc P W 0 (fun _=>true) true ts vs ds ps → (∀ p ∈ ps,p.block < W.heap.size) →
  DataW.TrodAll enc P W' 0 (fun b=>decide (b < W.heap.size)) true ts vs ds ps
 | [],vs,ds,ps,_,h,_=>by
  obtain ⟨rfl,rfl,rfl⟩:=trodAll_nil h
  exact rfl
 | t :: ts,vs,ds,ps,ht,h,hp=>by
  obtain ⟨v,vs',d,ds',p,q,rfl,rfl,rfl,h1,h2⟩:=trodAll_cons h
  have h0:=ht t (List.mem_cons_self ..)
  refine ⟨p,q,?_,Jb hl hs (fun t' h'=>ht t' (List.mem_cons_of_mem _ h')) h2 (fun x hx=>hp x (List.mem_append_right _ hx)),rfl⟩
  exact Go.WideElems.Trod_stays hl h0.1 h0.2 h1 (fun x hx=>hs.sameAt (hp x (List.mem_append_left _ hx))) (fun x hx=>decide_eq_true (hp x (List.mem_append_left _ hx)))
theorem MH {f:Func} {s:ChangeSpec} {W W':World} {args:Array Value} {v:Value} {ds gs:List (DataW H)} {before:List MemPlace} {handsOn:Bool}
  (hW:DataW.Whole enc P f.params.toList s.vars false W args.toList ds gs before) (hs:Step W W' C7) (hl:laidOutB P = true) (hpar:∀ t ∈ f.params.toList,P.readableRec t = true ∧ t < P.types.size)
  (hv:s.vars = []) (hargs:(s.fn H (ds ++ gs)).args = ds) (hvars:(s.fn H (ds ++ gs)).vars = [])
  (hres:∀ (b:Nat) (sp:Nat → Bool) (hd:Bool),DataW.TrodAll enc P W' b sp hd f.resultTypes.toList (v.resultList f.resultTypes.size) (s.fn H (ds ++ gs)).results []) :
  s.post enc P f false true handsOn false W args v W':=by
 have hlt:∀ p ∈ before,p.block < W.heap.size:=fun p hp=>hW.lt p hp
 obtain ⟨p,q,hA,hV,rfl,_,_⟩:=id hW
 rw [hv] at hV
 obtain ⟨rfl,rfl⟩:=trodVars_none hV
 refine ⟨ds,[],_,[],p,[],hW,hres _ _ _,?_,?_,hs.keptBut _,fun h=>by cases h⟩
 ·rw [hargs]
  exact Jb hl hs hpar hA (fun x hx=>hlt x (List.mem_append_left _ hx))
 rw [hvars,hv]; exact rfl
end
end Go.Proofs.YtoclgihkbmaolacGreatDoor.ME
namespace Go.Proofs.YtoclgihkbmaolacGreatDoor.ME
open Go
open Go.RowKit
set_option linter.unusedVariables false
set_option linter.unusedSimpArgs false
set_option maxRecDepth 20000
section
variable {P:Program} {ops:Array Oper} {Q:Exit → Act → World → Prop} {n:Nat} {tb:Tb} {env:B8} {rs:List Rw} {w0:World} {M:Nat → Nat → Prop} {a:Act} {w:World}
theorem MI {i d:Nat} {t u e e':TypeId} {bytes b c:Nat} {A:Option Addr} {s:Bs} {F:Nat → Nat → Prop} {zs:Array Value} {N:Act → World → Prop} (hE:EnvOk n tb env a)
  (h:DG tb env ops n i = some (t,u,.slice (some ⟨b,0,none⟩) 16 16,.slice A s.length c,d)) (ht:J0 P t = some (e,1,bytes)) (hb:w.heap[b]? = some (.cells zs e' (0,0))) (hz:zs = ((List.range 16).map fun _=>B7 0).toArray)
  (hs:Octs w F A c s)
  (K:∀ a' w',Step w w' (fun b' _=>b' = b) → At w' b 0 ((List.range 16).map fun i=>B7 (s.getD i 0)) → (∀ j,w'.frozen? ⟨b,j,none⟩ = false) → (∃ v,EnvOk n tb ((d,.v v) :: env) a') → N a' w'):wpOp P ops Q i N a w:=by
 obtain ⟨ht',inf,z,hi,hz',hzs,hs1,rfl,hsz,hbp⟩:=T1 ht
 obtain ⟨op,ho,hd,hrun⟩:=HF (P:=P) (w:=w) hE h
 have hsz':(P.info? e).map (·.size) = some 1:=by rw [hi]; simp [hs1]
 have hb16:zs.size = 16:=by rw [hz]; simp
 by_cases h0:min s.length 16 = 0
 ·have hr:=fun ty=>run_copy_none (P:=P) w t u ty e (some ⟨b,0,none⟩) A 16 16 s.length c ht' hsz' h0
  refine L4 hE ho (v:=.int .i64 0) (w':=w) (fun o hop=>hrun o _ _ hop (hr o.type)) ?_
  have hs0:s = []:=List.eq_nil_of_length_eq_zero (by omega)
  subst hs0
  refine K _ w (Step.refl _ _) (fun j v hj=>?_) (fun j=>by simp [World.frozen?,hb]) ⟨_,hE.put hd (.v _) trivial⟩
  subst hz
  rw [Nat.zero_add]
  simp only [World.cell?,hb]
  simpa using hj
 have hsrc:=hs.src
 have hA:∃ ad,A = some ad:=by
  cases A with
  | none=>have:=hsrc.nil rfl; omega
  | some ad=>exact ⟨ad,rfl⟩
 obtain ⟨ad,rfl⟩:=hA
 have hcl:((bc s).take (min s.length 16)).length = min s.length 16:=by rw [List.length_take]; simp
 have hr:=fun ty=>run_copy_row P w t u ty e b 0 16 16 ad s.length c zs e' ((bc s).take (min s.length 16)) ht' hsz' hb hcl (fun j v hj=>hsrc.cells ad rfl j v (by
  rw [List.getElem?_take] at hj
  split at hj
  ·exact hj
  cases hj)) (by rw [hcl]; omega) (fun v hv=>Q8 s v (List.mem_of_mem_take hv))
 have hw:=setRow_heap w b zs (zs.toList.take 0 ++ (bc s).take (min s.length 16) ++ zs.toList.drop (0 + ((bc s).take (min s.length 16)).length)).toArray e' _ hb
 refine L4 hE ho (v:=.int .i64 ((min s.length 16:Nat):Int)) (w':=w.setRow b (zs.toList.take 0 ++ (bc s).take (min s.length 16) ++ zs.toList.drop (0 + ((bc s).take (min s.length 16)).length)).toArray) (fun o hop=>hrun o _ _ hop (by rw [hr o.type]; simp only [hcl]; rfl)) ?_
 refine K _ _ (Step.setRow w b _) (fun j v hj=>?_) (fun j=>by unfold World.frozen?; rw [hw]; simp) ⟨_,hE.put hd (.v _) trivial⟩
 rw [Nat.zero_add j]
 unfold World.cell?
 rw [hw]
 simp only [Option.isSome_none,Bool.false_eq_true,if_false]
 have hj16:j < 16:=by
  have:=(List.getElem?_eq_some_iff.1 hj).1
  simpa using this
 rw [List.getElem?_map,List.getElem?_range hj16] at hj
 simp only [Option.map_some,Option.some.injEq] at hj
 subst hj
 simp only [List.take_zero,List.nil_append,Nat.zero_add]
 rw [← Array.getElem?_toList,List.toList_toArray,List.getElem?_append,hcl]
 by_cases hjs:j < min s.length 16
 ·rw [if_pos hjs,List.getElem?_take,if_pos hjs,bc,List.getElem?_map,List.getElem?_eq_getElem (by omega),List.getD_eq_getElem?_getD,List.getElem?_eq_getElem (by omega)]
  rfl
 rw [if_neg hjs,List.getElem?_drop,hz,List.toList_toArray,List.getElem?_map,List.getElem?_range (by omega),List.getD_eq_getElem?_getD,List.getElem?_eq_none (by omega)]
 rfl
theorem Jc {i d:Nat} {cs:List Value} {N:Act → World → Prop} (hE:EnvOk n tb env a) (h:Bt P env ops n i = some (d,cs))
  (k:∀ t a',EnvOk n tb ((d,.v (.pointer (some ⟨w.heap.size,0,none⟩))) :: env) a' → N a' (w.alloc (.cells cs.toArray t))):wpOp P ops Q i N a w:=by
 unfold Bt at h
 split at h
 ·rename_i t d' ho
  split at h
  ·rename_i inf hi
   split at h
   ·rename_i z hz
    simp only [Option.some.injEq,Prod.mk.injEq] at h
    obtain ⟨rfl,rfl⟩:=h
    have hd:d' < n:=(I6 hE ho).choose_spec.2.2.2.1
    refine L4 hE ho (v:=.pointer (some ⟨w.heap.size,0,none⟩)) (w':=w.alloc (.cells z.cells t)) ?_ ?_
    ·intro o hop
     unfold execOp
     rw [hop]
     simp only [Instr.alloc,Sem.run_bind,run_zeroValue' hi hz,Result.andThen_ok,newVar,newRow,run_newObj,Sem.run_pure]
     rfl
    have:=k t _ (hE.put hd (.v (.pointer (some ⟨w.heap.size,0,none⟩))) trivial)
    rw [Array.toArray_toList] at this
    exact this
   cases h
  cases h
 cases h
end
def bs (s:Bs):ByteArray:=⟨s.toArray⟩
theorem Dd (s:Bs):sb (bs s) = s:=by simp [sb,bs]
theorem W6 (s:Bs):(bs s).size = s.length:=by simp [bs,ByteArray.size]
def D9 (t:Tree):Bs:=if t.null then [] else t.S
section
variable {P:Program} {n:Nat} {w0:World} {A0:Option Addr} {e8 d:Nat} {tb:Tb} {env e1 env':B8} {c c1 c2:Code} {x x1 x2 y:Bs}
theorem Y3 {o:Operand} {b:Bool} (hb:∀ A m cp,E7 ((d,.v (.slice A m cp)) :: env) o = some (.v (.bool b))) (h1:b = true → Ch P n w0 A0 e8 d tb env env' c1 x1) (h2:b = false → Ch P n w0 A0 e8 d tb env env' c2 x2) :
  Ch P n w0 A0 e8 d tb env env' (.cond o c1 c2) (if b = true then x1 else x2) :=
 DE hb (fun h=>Z2 (h1 h) (by rw [if_pos h])) (fun h=>Z2 (h2 h) (by rw [if_neg (by rw [h]; decide)]))
theorem MJ {id:Nat} {ops:Array Oper} {c:Bool} {e1 e2:Bool → B8} (k:Nat) (keys1 keys:List Nat) (h1:∀ A m cp,G7 P ops n tb (List.range k) (d :: keys1) ((d,.v (.slice A m cp)) :: env) = some ((d,.v (.slice A m cp)) :: e1 c))
  (h2:∀ A m cp,G7 P ops n tb (upto k ops.size) (d :: keys) ((d,.v (.slice A m cp)) :: e1 true) = some ((d,.v (.slice A m cp)) :: e2 true)) (h3:∀ A m cp,G7 P ops n tb (upto k ops.size) (d :: keys) ((d,.v (.slice A m cp)) :: e1 false) = some ((d,.v (.slice A m cp)) :: e2 false)) (hk:List.range ops.size = List.range k ++ upto k ops.size) :
  Ch P n w0 A0 e8 d tb env (e2 c) (.region id ops false) []:=fun Q A cp s a w hE hW hr K=>by
 refine E4 (List.range k ++ upto k ops.size) hk (F9 (List.range k) (upto k ops.size) (d :: keys1) hW hE (h1 _ _ _) rfl fun a1 hE1=>?_)
 have hr0:s ++ ([]:Bs) = s:=List.append_nil s
 rw [hr0] at K
 cases c with
 | true=>exact F9 (upto k ops.size) [] (d :: keys) hW hE1 (h2 _ _ _) (List.append_nil _).symm fun a2 hE2=>B4 (K A cp a2 w hE2 hW)
 | false=>exact F9 (upto k ops.size) [] (d :: keys) hW hE1 (h3 _ _ _) (List.append_nil _).symm fun a2 hE2=>B4 (K A cp a2 w hE2 hW)
end
section
variable {P:Program} {ops:Array Oper} {Q:Exit → Act → World → Prop} {n:Nat} {tb:Tb} {env:B8} {rs:List Rw} {w0:World} {M:Nat → Nat → Prop} {a:Act} {w:World}
def Jd (tb:Tb) (env:B8) (ops:Array Oper) (n i:Nat):Option (TypeId × TypeId × Value × Nat) :=
 match F6 env ops n i with
 | some (.convert src dst x,d)=>match E7 env x with
  | some (.v v)=>some (src,dst,v,d)
  | _=>none
 | _=>none
theorem Eg {i d:Nat} {src dst e c:Nat} {A:Option Addr} {s:Bs} {F:Nat → Nat → Prop} {N:Act → World → Prop} (hE:EnvOk n tb env a) (h:Jd tb env ops n i = some (src,dst,.slice A s.length c,d)) (hs:P.underlying src = some (.slice e)) (he:P.underlying e = some (.int .u8)) (hd:P.underlying dst = some .string)
  (ho:Octs w F A c s) (K:∀ a',EnvOk n tb ((d,.v (.string (bs s))) :: env) a' → N a' w):wpOp P ops Q i N a w:=by
 unfold Jd at h
 split at h
 ·rename_i src' dst' x d' hop
  split at h
  ·rename_i v hx
   simp only [Option.some.injEq,Prod.mk.injEq] at h
   obtain ⟨rfl,rfl,rfl,rfl⟩:=h
   have hdn:=(I6 hE hop).choose_spec.2.2.2.1
   have hrun:(convert src' dst' (.slice A s.length c)).run P w = .ok (.string (bs s)) w:=by
    have hsrc:=ho.src
    cases A with
    | none =>
     have h0:s = []:=List.eq_nil_of_length_eq_zero (ho.none_ rfl).1
     subst h0
     exact run_convert_bytes_nil w src' e hs he _ _ dst' hd
    | some ad =>
     have hl:(loadCells ad s.length).run P w = .ok ((s.map fun b=>((b.toNat:Nat):Int)).map (Value.int .u8)).toArray w:=by
      have:=run_loadCells_list (P:=P) w ad (bc s) (fun j v hj=>hsrc.cells ad rfl j v hj)
      rw [show (bc s).length = s.length from by simp [bc]] at this
      rw [this]
      simp [bc]
     rw [run_convert_bytes_string w src' dst' e _ s.length c hs he hd,run_bytesToString w _ s.length c _ hl,foldl_push_bytes]
     congr 2
     simp only [bs,ByteArray.empty,ByteArray.emptyWithCapacity]
     have e3:(s.map fun b=>((b.toNat:Nat):Int)).map (fun n=>UInt8.ofNat n.toNat) = s:=by
      rw [List.map_map]
      conv=>rhs; rw [← List.map_id s]
      exact List.map_congr_left fun b _=>by simp
     rw [e3]
     simp
     rfl
   refine L4 hE hop (v:=.string (bs s)) (w':=w) ?_ (K _ (hE.put hdn (.v _) trivial))
   intro o ho'
   unfold execOp
   rw [ho']
   simp only [(E9 hE hx).1,SV.val,Sem.run_bind,hrun,Result.andThen_ok,Sem.run_pure]
  cases h
 cases h
end
theorem V6:uv 0 = [0]:=by rw [uv]; rfl
theorem De {v:Int} {d:Nat} {l:List Fld} {t:Tree} {i:Nat} {k x1 x2 x3 x4 x5 x6:Int} {s:List Fld} (h:l[i]? = some (.mk k x1 x2 x3 x4 x5 x6 s)) (hk:k = 8 ∨ k = 9) :
  D9 ((C5 v (d + 1) l t).at_ i) = (if Fld.nul (.mk k x1 x2 x3 x4 x5 x6 s) v (t.at_ i) = true then [] else C4 (t.at_ i).S) ∧ ((C5 v (d + 1) l t).at_ i).null = Fld.nul (.mk k x1 x2 x3 x4 x5 x6 s) v (t.at_ i):=by
 rw [BG h]
 have e1:k ≠ 11:=by omega
 have e:Q0 (C5 v d) v (.mk k x1 x2 x3 x4 x5 x6 s) (t.at_ i) = .mk 0 (C4 (t.at_ i).S) (Fld.nul (.mk k x1 x2 x3 x4 x5 x6 s) v (t.at_ i)) [] []:=by
  simp [Q0,N2,Fld.kind,e1,hk]
 rw [e]
 exact ⟨rfl,rfl⟩
section
variable {P:Program} {n:Nat} {w0:World} {A0:Option Addr} {e8 d:Nat} {tb:Tb} {env e1 env':B8} {c c1 c2:Code} {x x1 x2 y:Bs}
def Gl (P:Program) (ops:Array Oper) (n:Nat) (tb:Tb) (i:Nat) (keys:List Nat) (env:B8) (bb oo:Nat) (cs:List Value):Option ((TypeId × Option Addr × Nat × Int) × B8) :=
 match G2 P ops n tb (List.range i) env with
 | some e=>match P0 tb e ops n i with
  | some (t,A,m,q,dd)=>match G7 P ops n (tb ++ [⟨bb,oo,cs,false⟩]) (upto (i + 1) ops.size) keys ((dd,.p tb.length 0) :: e) with
   | some e'=>some ((t,A,m,q),e')
   | none=>none
  | none=>none
 | none=>none
theorem MK {ops:Array Oper} {i:Nat} {keys:List Nat} {bb oo:Nat} {cs:List Value} {t:TypeId} {A:Option Addr} {m:Nat} {q:Int} (h:Gl P ops n tb i keys env bb oo cs = some ((t,A,m,q),env')) :
  ∃ e dd,G2 P ops n tb (List.range i) env = some e ∧ P0 tb e ops n i = some (t,A,m,q,dd) ∧ G7 P ops n (tb ++ [⟨bb,oo,cs,false⟩]) (upto (i + 1) ops.size) keys ((dd,.p tb.length 0) :: e) = some env':=by
 unfold Gl at h
 split at h
 ·rename_i e he
  split at h
  ·rename_i t' A' m' q' dd ht
   split at h
   ·rename_i e' he'
    simp only [Option.some.injEq,Prod.mk.injEq] at h
    obtain ⟨⟨rfl,rfl,rfl,rfl⟩,rfl⟩:=h
    exact ⟨e,dd,he,ht,he'⟩
   cases h
  cases h
 cases h
theorem Eh {id:Nat} {ops:Array Oper} {F:Nat → Nat → Prop} (i:Nat) (keys:List Nat) {t e:TypeId} {size bytes len j cp':Nat} {A:Option Addr} {cs:Nat → List Value}
  (h:∀ bb oo B m cp,Gl P ops n tb i (d :: keys) ((d,.v (.slice B m cp)) :: env) bb oo (cs j) = some ((t,A,len,((j:Nat):Int)),(d,.v (.slice B m cp)) :: e1))
  (hi:Nat.blt i ops.size = true) (ht:J0 P t = some (e,size,bytes)) (hs:Slots w0 F size A cp' len cs) (hj:j < len) (hF:∀ b o,F b o → ¬ F4 A0 b o) (hn:Nat.blt 0 (cs j).length = true) (hne:tb.all (fun ob=>!ob.rw || Nat.blt 0 ob.cells.length) = true) (hp:O0 tb.length env' = true)
  (hc:∀ bb oo,AtF w0 F bb oo (cs j) → Ch P n w0 A0 e8 d (tb ++ [⟨bb,oo,cs j,false⟩]) e1 env' c2 x):Ch P n w0 A0 e8 d tb env env' (.seq (.region id ops false) c2) x:=fun Q B cp s a w hE hW hr k=>by
 have hi':i < ops.size:=by simpa [Nat.blt_eq] using hi
 cases hA:A with
 | none=>have:=(hs.none_ hA).1; omega
 | some ad =>
  obtain ⟨bb,oo,rfl,h4⟩:=hs.some_ ad hA (by omega)
  obtain ⟨_,hat⟩:=h4 j hj
  obtain ⟨e0,dd,h1,h2,h3⟩:=MK (h bb (oo + j * size) B s.length cp)
  refine C1 (List.range i ++ i :: upto (i + 1) ops.size) (by rw [← R0 hi']; rfl) ?_
  refine O1 hW.cells hE h1 fun a1 hE1=>B1 (J7 hE1 h2 ht hA rfl hj fun a2 hE2=>?_)
  have hW2:=hW.addRead hat hF hn hne
  have hE3:EnvOk n (tb ++ [⟨bb,oo + j * size,cs j,false⟩]) ((dd,.p tb.length 0) :: (dd,.v (.pointer (some ⟨bb,oo + j * size,none⟩))) :: e0) a2 :=
   (hE2.grow ⟨bb,oo + j * size,cs j,false⟩).recast dd (.v (.pointer (some ⟨bb,oo + j * size,none⟩))) (.p tb.length 0) (by simp [lk]) (by simp [SV.val,C0,List.getD_eq_getElem?_getD]) (by simp [SV.ok])
  have hE4:EnvOk n (tb ++ [⟨bb,oo + j * size,cs j,false⟩]) ((dd,.p tb.length 0) :: e0) a2:=by
   refine ⟨hE3.defers,hE3.size,fun s' y hl=>hE3.at_ s' y ?_⟩
   revert hl
   simp only [lk]
   split <;> first | exact id | (intro hl; simp_all)
  refine F9 (upto (i + 1) ops.size) [] (d :: keys) hW2 hE4 h3 (List.append_nil _).symm fun a3 hE5=>B4 (A4 ?_)
  refine hc bb (oo + j * size) hat Q B cp s a3 w hE5 hW2 hr fun A' cp' a' w' hE' hW'=>?_
  have g1:=EnvOk.cutTb tb.length hE' (by simpa [O0] using hp)
  have g2:=hW'.cutTb tb.length
  rw [List.take_left' rfl] at g1 g2
  exact k A' cp' a' w' g1 g2
end
def lst (t:Tree):List Tree:=if t.null then [] else t.L
theorem Df {l:Nat} {L:List Tree} {g:Nat → Bs} {h:Tree → Bs} (hl:l = L.length) (he:∀ i,i < l → g i = h (L.getD i .zero)):(List.range l).flatMap g = L.flatMap h:=by
 subst hl
 have e:L = (List.range L.length).map fun i=>L.getD i .zero:=by
  apply List.ext_getElem?
  intro i
  rw [List.getElem?_map]
  by_cases hi:i < L.length
  ·rw [List.getElem?_range hi,List.getElem?_eq_getElem hi,Option.map_some,List.getD_eq_getElem?_getD,List.getElem?_eq_getElem hi]; rfl
  rw [List.getElem?_eq_none (by omega),List.getElem?_eq_none (by simpa using hi)]; rfl
 conv=>rhs; rw [e]
 rw [List.flatMap_map]
 have hm:(List.range L.length).map g = (List.range L.length).map fun i=>h (L.getD i .zero):=List.map_congr_left fun i hi=>he i (List.mem_range.1 hi)
 rw [List.flatMap_def,List.flatMap_def,hm]
theorem Gm (Ap:Option Addr) (t:ByteArray) (A:Option Addr) (cp:Nat) (s:Bs) (w:World) (ho:w.ownsRow 0 5 1 (.slice A s.length cp) s.length (bc s)) (F:Nat → Nat → Prop) (hF:∀ b o,F b o → ¬ F4 A b o) (hO:∀ ad,Ap = some ad → ∃ b o,ad = ⟨b,o,none⟩ ∧ AtF w F b o [.string t]) (hsm:t.size ≤ 1000000) (hroom:s.length + (if Ap.isNone = true then be 2 (-1) else be 2 t.size ++ sb t).length + 16 ≤ 1099511627776) :
  Calls Tryz.prog 41 (.slice A s.length cp :: [.pointer Ap]).toArray w (L1 w 5 A (s ++ (if Ap.isNone = true then be 2 (-1) else be 2 t.size ++ sb t))):=by
 have h:=LE Ap t A cp s w ho F hF hO hsm (by cases Ap <;> simpa using hroom)
 cases Ap <;> simpa using h
theorem Gn (Ap:Option Addr) (t:ByteArray) (A:Option Addr) (cp:Nat) (s:Bs) (w:World) (ho:w.ownsRow 0 5 1 (.slice A s.length cp) s.length (bc s)) (F:Nat → Nat → Prop) (hF:∀ b o,F b o → ¬ F4 A b o) (hO:∀ ad,Ap = some ad → ∃ b o,ad = ⟨b,o,none⟩ ∧ AtF w F b o [.string t]) (hsm:t.size ≤ 1000000) (hroom:s.length + (if Ap.isNone = true then uv 0 else uv (t.size + 1) ++ sb t).length + 16 ≤ 1099511627776) :
  Calls Tryz.prog 40 (.slice A s.length cp :: [.pointer Ap]).toArray w (L1 w 5 A (s ++ (if Ap.isNone = true then uv 0 else uv (t.size + 1) ++ sb t))):=by
 have h:=LF Ap t A cp s w ho F hF hO hsm (by cases Ap <;> simpa using hroom)
 cases Ap <;> simpa using h
section
variable {P:Program} {ops:Array Oper} {Q:Exit → Act → World → Prop} {n:Nat} {tb:Tb} {env:B8} {a:Act} {w:World}
theorem ML {i d:Nat} {t kt et:TypeId} {N:Act → World → Prop} (hE:EnvOk n tb env a) (h:DS env ops n i = some (t,none,d)) (ht:Z9 P t = some (kt,et))
  (K:∀ a',EnvOk n tb ((d,.v (.pointer (some ⟨w.heap.size,0,none⟩))) :: env) a' → N a' (w.alloc (.mapIter none 0 #[] 0))):wpOp P ops Q i N a w:=by
 unfold DS at h
 split at h
 ·rename_i t' x d' ho
  split at h
  ·rename_i m' hs
   simp only [Option.some.injEq,Prod.mk.injEq] at h
   obtain ⟨rfl,rfl,rfl⟩:=h
   have hd:=(I6 hE ho).choose_spec.2.2.2.1
   refine L4 hE ho (v:=.pointer (some ⟨w.heap.size,0,none⟩)) (w':=w.alloc (.mapIter none 0 #[] 0)) ?_ (K _ (hE.put hd (.v _) trivial))
   intro o hop
   unfold execOp
   rw [hop]
   simp only [(E9 hE hs).1,SV.val,Sem.run_bind,run_range_nilMap (P:=P) w _ _ _ (BE ht),Result.andThen_ok,Sem.run_pure]
  cases h
 cases h
theorem MM {i d r:Nat} {N:Act → World → Prop} {w1:World} (hE:EnvOk n tb env a) (h:DT env ops n i = some (r,d)) (hr:r = w1.heap.size) (hw:w = w1.alloc (.mapIter none 0 #[] 0))
  (K:∀ a',EnvOk n tb ((d,.v (.tuple #[.bool false])) :: env) a' → N a' w):wpOp P ops Q i N a w:=by
 subst hr; subst hw
 unfold DT at h
 split at h
 ·rename_i x d' ho
  split at h
  ·rename_i r' hs
   simp only [Option.some.injEq,Prod.mk.injEq] at h
   obtain ⟨h1,rfl⟩:=h
   subst h1
   obtain ⟨o,h1,h2,h3,h4,h5⟩:=I6 hE ho
   simp only [wpOp,h1]
   have:Region.wanted o (yielded ops a.tmps) = true:=by first | exact h2 | simp [Region.wanted,h2]
   rw [this]
   simp only [if_true]
   refine .inl ?_
   unfold Oper.wp
   have hr':(execOp a.eval o).run P (w1.alloc (.mapIter none 0 #[] 0)) = .ok (.value (.tuple #[.bool false])) (w1.alloc (.mapIter none 0 #[] 0)):=by
    unfold execOp
    rw [h5]
    simp only [(E9 hE hs).1,SV.val,Sem.run_bind,run_next_nilMap,Result.andThen_ok,Sem.run_pure]
   rw [hr',Oper.upon,h3]
   exact K _ (hE.put h4 (.v _) trivial)
  cases h
 cases h
end
theorem MN (k:Nat) (w:World):Calls Tryz.prog 86 #[.agg #[.map (some k)],.agg #[.map none]] w (J9 w (.bool false)):=by
 refine enter (n:=56) Tryz.func86 rfl Tryz.ntmps86 kz fun a hE=>?_
 have hW:=WOk.start w C7
 refine C1 [0,1,2] kz ?_
 refine B1 (M2 hW hE (d:=2) (cs:=[.map (some k)]) kz fun b1 a2 w3 hb4 hz5 hF6 hW7 hE8=>?_)
 refine B1 (M2 hW7 hE8 (d:=3) (cs:=[.map none]) kz fun b9 a10 w11 hb12 hz13 hF14 hW15 hE16=>?_)
 refine B3 [2] [] [(2,.p 0 0),(3,.p 1 0)] hW15 hE16 fun a17 hE18=>?_
 refine B4 (A4 (wp_seq ?_))
 refine B9 [(2,.p 0 0),(3,.p 1 0),(24,.v (.bool true))] hW15 hE18 fun a19 hE20=>?_
 refine N7 hE20 (b:=true) kz rfl ?_
 refine B9 [(4,.v (.bool false))] hW15 hE20 fun a21 hE22=>wp_ret (F5 ?_)
 exact D1 hE22 hW15.cells (v:=.bool false) kz ⟨rfl,hW15.step⟩
theorem MO (w:World):Calls Tryz.prog 86 #[.agg #[.map none],.agg #[.map none]] w (J9 w (.bool true)):=by
 refine enter (n:=56) Tryz.func86 rfl Tryz.ntmps86 kz fun a hE=>?_
 have hW:=WOk.start w C7
 refine C1 [0,1,2] kz ?_
 refine B1 (M2 hW hE (d:=2) (cs:=[.map none]) kz fun b1 a2 w3 hb4 hz5 hF6 hW7 hE8=>?_)
 refine B1 (M2 hW7 hE8 (d:=3) (cs:=[.map none]) kz fun b9 a10 w11 hb12 hz13 hF14 hW15 hE16=>?_)
 refine B3 [2] [] [(2,.p 0 0),(3,.p 1 0)] hW15 hE16 fun a17 hE18=>?_
 refine B4 (A4 (wp_seq ?_))
 refine C1 [0,1,2,3,4,5,6,7,8,9,10,11,12,13,14,15] kz ?_
 refine B3 [0,1,2,3,4,5,6,7,8,9] [10,11,12,13,14,15] [(2,.p 0 0),(3,.p 1 0),(16,.v (.bool false)),(18,.v (.map none))] hW15 hE18 fun a19 hE20=>?_
 refine B1 (CZ (t:=59) (kt:=53) (et:=22) (F:=C7) hE20 (m:=none) (u:=[]) (d:=19) kz kz (MapR.nil _ _) fun a21 hE22=>?_)
 refine B3 [11,12] [13,14,15] [(3,.p 1 0),(2,.p 0 0),(16,.v (.bool false)),(19,.v (.int .i64 0)),(21,.v (.map none))] hW15 hE22 fun a23 hE24=>?_
 refine B1 (CZ (t:=59) (kt:=53) (et:=22) (F:=C7) hE24 (m:=none) (u:=[]) (d:=22) kz kz (MapR.nil _ _) fun a25 hE26=>?_)
 refine B3 [14,15] [] [(2,.p 0 0),(3,.p 1 0),(24,.v (.bool false))] hW15 hE26 fun a27 hE28=>?_
 refine B4 (A4 ?_)
 refine G6 hE28 (b:=false) kz rfl (wp_skip (A4 ?_))
 refine wp_seq (C1 [0,1,2] kz ?_)
 refine B3 [0,1] [2] [(2,.p 0 0),(3,.p 1 0),(26,.v (.map none))] hW15 hE28 fun a29 hE30=>?_
 refine B1 (ML (t:=59) (kt:=53) (et:=22) (d:=27) hE30 kz kz fun a31 hE32=>B4 (A4 ?_))
 have hW33:=hW15.next_nil (Step.alloc w11 (.mapIter none 0 #[] 0))
 refine wp_block (wp_loop_ghost (fun q a_ w_=>w_ = w11.alloc (.mapIter none 0 #[] 0) ∧ ∃ env_,EnvOk 56 ([] ++ [⟨b1,0,[.map none],true⟩] ++ [⟨b9,0,[.map none],true⟩]) ((27,.v (.pointer (some ⟨w11.heap.size,0,none⟩))) :: env_) a_) 0 ⟨rfl,_,hE32⟩ ?_)
 rintro q a34 w35 ⟨rfl,env_,hE36⟩
 have hE37:=hE36.pick (ks:=[27]) (env':=[(27,.v (.pointer (some ⟨w11.heap.size,0,none⟩)))]) rfl
 refine C1 [0,1] kz ?_
 refine B1 (MM hE37 (d:=28) (r:=w11.heap.size) kz rfl rfl fun a38 hE39=>?_)
 refine B3 [1] [] [(29,.v (.bool false))] hW33 hE39 fun a40 hE41=>?_
 refine B4 (A4 (wp_seq ?_))
 refine G6 hE41 (b:=false) kz rfl ?_
 refine wp_exit (F2 (F2 (I7 (A4 ?_))))
 refine B9 [(4,.v (.bool true))] hW33 hE41 fun a42 hE43=>wp_ret ?_
 exact D1 hE43 hW33.cells (v:=.bool true) kz ⟨rfl,hW33.step⟩
theorem MP (m:Option Nat) (w:World):Calls Tryz.prog 86 #[.agg #[.map m],.agg #[.map none]] w (J9 w (.bool m.isNone)):=by
 cases m with
 | none=>exact MO w
 | some k=>exact MN k w
def B5 (p:Bool):Nat:=if p = true then 1 else 0
def G8 (p:Bool) (k:Nat) (E:Bs):Bs:=if p = true then uv k ++ (uv E.length ++ E) else []
theorem Ei (p:Bool):B5 p ≤ 1:=by unfold B5; split <;> omega
theorem Cw {p:Bool} (h:p = false) (k:Nat) (E:Bs):G8 p k E = []:=by subst h; rfl
theorem Ej {p:Bool} (h:p = true) (k:Nat) (E:Bs):G8 p k E = uv k ++ (uv E.length ++ E):=by subst h; rfl
theorem Ek {p:Bool} (h:p = false):B5 p = 0:=by subst h; rfl
theorem Bg {p:Bool} (h:p = true):B5 p = 1:=by subst h; rfl
theorem Dg {v:Int} {d:Nat} {l:List Fld} {t:Tree} {i:Nat} {x1 x2 x3 x5 x6:Int} {s:List Fld} (h:l[i]? = some (.mk 11 x1 x2 x3 (-1) x5 x6 s)) :
  ((C5 v (d + 1) l t).at_ i).null = Fld.nul (.mk 11 x1 x2 x3 (-1) x5 x6 s) v (t.at_ i) ∧
  lst ((C5 v (d + 1) l t).at_ i) = (if Fld.nul (.mk 11 x1 x2 x3 (-1) x5 x6 s) v (t.at_ i) = true then [] else C8 (t.at_ i).L).map (fun x=>N2 (C5 v d) (.mk x6 x1 x2 (-1) (-1) x5 x6 s) (Fld.nul (.mk x6 x1 x2 (-1) (-1) x5 x6 s) v x) x):=by
 rw [BG h]
 have e:Q0 (C5 v d) v (.mk 11 x1 x2 x3 (-1) x5 x6 s) (t.at_ i) = .mk 0 [] (Fld.nul (.mk 11 x1 x2 x3 (-1) x5 x6 s) v (t.at_ i)) ((C8 (t.at_ i).L).map (fun x=>N2 (C5 v d) (.mk x6 x1 x2 (-1) (-1) x5 x6 s) (Fld.nul (.mk x6 x1 x2 (-1) (-1) x5 x6 s) v x) x)) []:=by
  simp [Q0,Fld.kind,Fld.tag,Fld.elem]
 rw [e]
 refine ⟨rfl,?_⟩
 unfold lst
 show (if Fld.nul _ v (t.at_ i) = true then [] else _) = _
 split
 ·rfl
 rfl
theorem Y4 {v:Int} {d:Nat} {x1 x2 x5 x6:Int} {s:List Fld} {b:Bool} {x:Tree}:(∀ i,(N2 (C5 v d) (.mk 10 x1 x2 (-1) (-1) x5 x6 s) b x).at_ i = (C5 v d s x).at_ i) ∧ (N2 (C5 v d) (.mk 10 x1 x2 (-1) (-1) x5 x6 s) b x).U = (C5 v d s x).U:=by
 cases hT:C5 v d s x with
 | mk n s' b' l u =>
  have e:N2 (C5 v d) (.mk 10 x1 x2 (-1) (-1) x5 x6 s) b x = .mk n s' b l u:=by
   simp [N2,Fld.kind,Fld.sub,hT]
  rw [e]
  exact ⟨fun _=>rfl,rfl⟩
theorem Gp {v:Int} {d:Nat} {l:List Fld} {t:Tree} {i:Nat} {x1 x2 x3 x4 x5 x6:Int} {s:List Fld} (h:l[i]? = some (.mk 10 x1 x2 x3 x4 x5 x6 s)) :
  (∀ j,((C5 v (d + 1) l t).at_ i).at_ j = (C5 v d s (t.at_ i)).at_ j) ∧ ((C5 v (d + 1) l t).at_ i).U = (C5 v d s (t.at_ i)).U ∧ ((C5 v (d + 1) l t).at_ i).null = Fld.nul (.mk 10 x1 x2 x3 x4 x5 x6 s) v (t.at_ i):=by
 rw [BG h]
 cases hT:C5 v d s (t.at_ i) with
 | mk n s' b' l' u =>
  have e:Q0 (C5 v d) v (.mk 10 x1 x2 x3 x4 x5 x6 s) (t.at_ i) = .mk n s' (Fld.nul (.mk 10 x1 x2 x3 x4 x5 x6 s) v (t.at_ i)) l' u:=by
   simp [Q0,N2,Fld.kind,Fld.sub,hT]
  rw [e]
  exact ⟨fun _=>rfl,rfl,rfl⟩
theorem Dh {v:Int} {d:Nat} {l:List Fld} {t:Tree} {i:Nat} {k x1 x2 x3 x4 x5 x6:Int} {s:List Fld} (h:l[i]? = some (.mk k x1 x2 x3 x4 x5 x6 s)) (hk:k = 8 ∨ k = 9) :
  ((C5 v (d + 1) l t).at_ i).S = C4 (t.at_ i).S:=by
 rw [BG h]
 have e1:k ≠ 11:=by omega
 have e:Q0 (C5 v d) v (.mk k x1 x2 x3 x4 x5 x6 s) (t.at_ i) = .mk 0 (C4 (t.at_ i).S) (Fld.nul (.mk k x1 x2 x3 x4 x5 x6 s) v (t.at_ i)) [] []:=by
  simp [Q0,N2,Fld.kind,e1,hk]
 rw [e]
 rfl
theorem V7 {k x1 x2 x4 x5 x6:Int} {s:List Fld} {v:Int} {t:Tree}:Fld.nul (.mk k x1 x2 (-1) x4 x5 x6 s) v t = false:=by
 cases t
 simp [Fld.nul]
theorem Cx {x:Int}:be 8 (((IntKind.u64.wrap x).toNat:Nat):Int) = be 8 x:=by
 rw [show (((IntKind.u64.wrap x).toNat:Nat):Int) = IntKind.u64.wrap x by rw [G1]; omega,Hx]
theorem El {k x1 x2 n x4 x5 x6:Int} {s:List Fld} {v:Int} {t:Tree} (h:Fld.nul (.mk k x1 x2 n x4 x5 x6 s) v t = true):v ≥ n:=by
 cases t
 simp only [Fld.nul,Bool.and_eq_true,decide_eq_true_eq] at h
 exact h.2
theorem Cy {x:Int}:C9 (if decide (x % 2 = 1) = true then 1 else 0) = C9 (x % 2):=by
 rcases Int.emod_two_eq x with h | h <;> simp [h]
def Q2 (u:List (Int × Bs)):Prop:=R9 u ∧ u.length ≤ 1000000 ∧ ∀ y ∈ u,y.2.length < 4294967296
theorem Cz {v:Int} {d:Nat} {l:List Fld} {t:Tree}:Q2 (C5 v d l t).U:=by
 rw [Y1]
 refine ⟨Mt (Mr _ _),?_,fun y hy=>?_⟩
 ·rw [Bf]; exact Nat.le_trans (IA _ _) (by decide)
 obtain ⟨x,_,rfl⟩:=List.mem_map.1 hy
 exact Nat.lt_of_le_of_lt (N4 _) (by decide)
theorem Gq {v:Int} {d:Nat} {l:List Fld} {t:Tree} {i:Nat} {x1 x2 x3 x5 x6:Int} {s:List Fld} {Q:Tree → Prop} (h:l[i]? = some (.mk 11 x1 x2 x3 (-1) x5 x6 s))
  (hq:∀ y,Q (N2 (C5 v d) (.mk x6 x1 x2 (-1) (-1) x5 x6 s) (Fld.nul (.mk x6 x1 x2 (-1) (-1) x5 x6 s) v y) y)):∀ x ∈ lst ((C5 v (d + 1) l t).at_ i),Q x:=by
 rw [(Dg h).2]
 intro x hx
 obtain ⟨y,_,rfl⟩:=List.mem_map.1 hx
 exact hq y
def Bh:DV:=.leaf
def V8 (ok:World → (Nat → Nat → Prop) → DV → Prop):Prop:=∀ {w w':World} {F F' M:Nat → Nat → Prop} (d:DV),Step w w' M → (∀ b o,F b o → b < w.heap.size → ¬ M b o) → (∀ b o,F b o → b < w.heap.size → F' b o) → ok w F d → ok w' F' d
theorem Je {P:Program} {c:Code} {Mid N:Act → World → Prop} {Q:Exit → Act → World → Prop} {a:Act} {w:World} (h1:c.wp P (Exit.then Mid Q) a w) (h2:∀ a' w',Mid a' w' → N a' w'):c.wp P (Exit.then N Q) a w :=
 wp_mono h1 fun e a' w' h=>by
  cases e <;> first | exact h2 a' w' h | exact h
def P7 (n:Int):DV:=.mk n false ByteArray.empty [] none 0 0 none [] (fun _=>.leaf)
def Em (s:ByteArray):DV:=.mk 0 false s [] none 0 0 none [] (fun _=>.leaf)
def En (A:Option Addr) (s:ByteArray):DV:=.mk 0 false s [] A 0 0 none [] (fun _=>.leaf)
def Jf (A:Option Addr) (o:Bs) (c:Nat):DV:=.mk 0 false ByteArray.empty o A 0 c none [] (fun _=>.leaf)
def V9 (A:Option Addr) (l c:Nat) (f:Nat → DV):DV:=.mk 0 false ByteArray.empty [] A l c none [] f
def Bi (m:Option Nat) (u:List (Int × Bs)) (fs:List DV):DV:=.mk 0 false ByteArray.empty [] none 0 0 m u (fun i=>fs.getD i .leaf)
theorem EnvOk.retable {n:Nat} {env:B8} {a:Act} (tb:Tb) (h:EnvOk n [] env a):EnvOk n tb env a:=h.table fun i hi=>absurd hi (Nat.not_lt_zero i)
def I2 (A:Option Addr) (cp j:Nat):Option Addr:=if cp = j then A else A.map (·.add j)
theorem MQ (s:Bs) (j i:Nat):(s.drop j).getD i 0 = s.getD (j + i) 0:=by
 rw [List.getD_eq_getElem?_getD,List.getD_eq_getElem?_getD,List.getElem?_drop]
theorem Octs.drop {w:World} {F:Nat → Nat → Prop} {A:Option Addr} {c:Nat} {s:Bs} (h:Octs w F A c s) {j:Nat} (hj:j ≤ s.length):Octs w F (I2 A c j) (c - j) (s.drop j):=by
 have hle:=h.le
 have hsm:=h.small
 unfold Octs
 rw [List.length_drop]
 refine ⟨by omega,by omega,fun hA=>?_,fun ad hA hn=>?_⟩
 ·have hn:A = none:=by
   unfold I2 at hA
   split at hA
   ·exact hA
   cases A with
   | none=>rfl
   | some _=>cases hA
  have:=h.none_ hn
  omega
 have hA':A.map (·.add j) = some ad:=by
  unfold I2 at hA
  rwa [if_neg (by omega)] at hA
 cases hq:A with
 | none=>rw [hq] at hA'; cases hA'
 | some ad0 =>
  rw [hq] at hA'
  obtain ⟨b,o,rfl,h2⟩:=h.some_ ad0 hq (by omega)
  simp only [Option.map_some,Option.some.injEq,P5] at hA'
  subst hA'
  refine ⟨b,o + j,rfl,fun i hi=>?_⟩
  rw [MQ,show o + j + i * 1 = o + (j + i) * 1 by omega]
  exact h2 (j + i) (by omega)
theorem Octs.cutS {w:World} {F:Nat → Nat → Prop} {A:Option Addr} {c:Nat} {s:Bs} (h:Octs w F A c s) {j:Nat} (hj:j ≤ s.length):Octs w F A j (s.take j):=by
 have h1:=h.take j
 refine ⟨by rw [List.length_take]; omega,h1.small,fun hA=>?_,h1.some_⟩
 have:=h.none_ hA
 rw [List.length_take]; omega
section
variable {P:Program} {ops:Array Oper} {Q:Exit → Act → World → Prop} {n:Nat} {tb:Tb} {env:B8} {rs:List Rw} {w0:World} {M:Nat → Nat → Prop} {a:Act} {w:World}
theorem Jg {t e:TypeId} {bytes:Nat} (ht:J0 P t = some (e,1,bytes)) {A:Option Addr} {m cp:Nat} {k:IntKind} {q:Int} (h0:0 ≤ q) (h1:q ≤ m) :
  (Instr.sliceAt t (.slice A m cp) (some (.int k q)) none none).run P w = .ok (.slice (I2 A cp q.toNat) (m - q.toNat) (cp - q.toNat)) w:=by
 obtain ⟨ht',inf,z,hi,hz,hzs,hs1,rfl,hsz,hbp⟩:=T1 ht
 unfold Instr.sliceAt
 simp only [Sem.run_bind,run_underlying ht',Result.andThen_ok]
 unfold Instr.slice
 have hb:(0 ≤ q ∧ q ≤ (m:Int)):=⟨h0,h1⟩
 simp only [Sem.run_bind,run_underlying ht',Result.andThen_ok,Instr.sliceBounds,Instr.sliceBound,asIntOf,Sem.run_pure,if_pos hb,run_sizeOf' hi,hs1,Nat.mul_one]
 rfl
theorem MR {t e:TypeId} {bytes:Nat} (ht:J0 P t = some (e,1,bytes)) {A:Option Addr} {m cp:Nat} {k:IntKind} {q:Int} (h0:0 ≤ q) (h1:q ≤ cp) :
  (Instr.sliceAt t (.slice A m cp) none (some (.int k q)) (some (.int k q))).run P w = .ok (.slice A q.toNat q.toNat) w:=by
 obtain ⟨ht',inf,z,hi,hz,hzs,hs1,rfl,hsz,hbp⟩:=T1 ht
 unfold Instr.sliceAt
 simp only [Sem.run_bind,run_underlying ht',Result.andThen_ok]
 unfold Instr.slice
 have hb:(0 ≤ q ∧ q ≤ (cp:Int)):=⟨h0,h1⟩
 have hb2:(0 ≤ q ∧ q ≤ ((q.toNat:Nat):Int)):=⟨h0,by omega⟩
 simp only [Sem.run_bind,run_underlying ht',Result.andThen_ok,Instr.sliceBounds,Instr.sliceBound,asIntOf,Sem.run_pure,if_pos hb,if_pos hb2,run_sizeOf' hi]
 cases A with
 | none=>simp
 | some ad=>simp [Addr.add]
theorem Di {i d j:Nat} {N:Act → World → Prop} {t e:TypeId} {bytes m cp:Nat} {A:Option Addr} {q:Int} (hE:EnvOk n tb env a) (h:N9 tb env ops n i = some (t,.slice A m cp,some q,none,d)) (ht:J0 P t = some (e,1,bytes)) (hq:q = (j:Int)) (hj:j ≤ m)
  (K:∀ a',EnvOk n tb ((d,.v (.slice (I2 A cp j) (m - j) (cp - j))) :: env) a' → N a' w):wpOp P ops Q i N a w:=by
 have h0:0 ≤ q:=by omega
 have h1:q ≤ m:=by omega
 obtain rfl:j = q.toNat:=by omega
 unfold N9 at h
 split at h
 ·rename_i t' x lo hi d' ho
  have hd:d' < n:=(I6 hE ho).choose_spec.2.2.2.1
  split at h
  ·simp at h
  ·rename_i s l hs
   split at h
   ·rename_i k q' hs2
    simp only [Option.some.injEq,Prod.mk.injEq,true_and] at h
    obtain ⟨rfl,hsv,rfl,rfl⟩:=h
    have e1:=(E9 hE hs).1
    have e2:=(E9 hE hs2).1
    refine L4 hE ho (v:=.slice (I2 A cp q'.toNat) (m - q'.toNat) (cp - q'.toNat)) (w':=w) (fun o' hop=>?_) (K _ (hE.put hd (.v _) trivial))
    unfold execOp
    rw [hop]
    rw [hsv] at e1
    simp only [SV.val] at e2
    simp only [e1,e2,Option.map_none,Option.map_some,Sem.run_bind,Jg ht h0 h1,Result.andThen_ok,Sem.run_pure]
   cases h
  ·split at h <;> simp at h
  ·split at h <;> simp at h
  cases h
 cases h
def Jh (tb:Tb) (env:B8) (ops:Array Oper) (n i:Nat):Option (TypeId × Value × IntKind × Int × IntKind × Int × Nat) :=
 match F6 env ops n i with
 | some (.slice t x none (some h) (some m),d)=>match E7 env x,E7 env h,E7 env m with
  | some s,some (.v (.int k p)),some (.v (.int k' q))=>some (t,s.val tb,k,p,k',q,d)
  | _,_,_=>none
 | _=>none
theorem MS {i d j:Nat} {N:Act → World → Prop} {t e:TypeId} {bytes m cp:Nat} {A:Option Addr} {k:IntKind} {q:Int} (hE:EnvOk n tb env a) (h:Jh tb env ops n i = some (t,.slice A m cp,k,q,k,q,d)) (ht:J0 P t = some (e,1,bytes)) (hq:q = (j:Int)) (hj:j ≤ cp)
  (K:∀ a',EnvOk n tb ((d,.v (.slice A j j)) :: env) a' → N a' w):wpOp P ops Q i N a w:=by
 have h0:0 ≤ q:=by omega
 have h1:q ≤ cp:=by omega
 obtain rfl:j = q.toNat:=by omega
 unfold Jh at h
 split at h
 ·rename_i t' x hh mm d' ho
  have hd:d' < n:=(I6 hE ho).choose_spec.2.2.2.1
  split at h
  ·rename_i s k1 p1 k2 q2 g1 g2 g3
   simp only [Option.some.injEq,Prod.mk.injEq] at h
   obtain ⟨rfl,hsv,rfl,rfl,rfl,rfl,rfl⟩:=h
   have f1:=(E9 hE g1).1
   have f2:=(E9 hE g2).1
   have f3:=(E9 hE g3).1
   rw [hsv] at f1
   simp only [SV.val] at f2 f3
   refine L4 hE ho (v:=.slice A q2.toNat q2.toNat) (w':=w) (fun o' hop=>?_) (K _ (hE.put hd (.v _) trivial))
   unfold execOp
   rw [hop]
   simp only [f1,f2,f3,Option.map_none,Option.map_some,Sem.run_bind,MR ht h0 h1,Result.andThen_ok,Sem.run_pure]
  cases h
 cases h
end
structure RdS (w:World) (F:Nat → Nat → Prop) (A:Option Addr) (n c:Nat) (s:Bs):Prop where
 len:n = s.length
 oct:Octs w F A c s
theorem RdS.move {w w':World} {F F' M:Nat → Nat → Prop} {A:Option Addr} {n c:Nat} {s:Bs} (h:RdS w F A n c s) (hs:Step w w' M) (hM:∀ b o,F b o → b < w.heap.size → ¬ M b o) (hF:∀ b o,F b o → b < w.heap.size → F' b o):RdS w' F' A n c s:=⟨h.len,Octs.move h.oct hs hM hF⟩
theorem RdS.cast {w:World} {F:Nat → Nat → Prop} {A:Option Addr} {n c:Nat} {s t:Bs} (h:RdS w F A n c s) (e:s = t):RdS w F A n c t:=e ▸ h
theorem RdS.drop {w:World} {F:Nat → Nat → Prop} {A:Option Addr} {n c j:Nat} {s t:Bs} (h:RdS w F A n c (s ++ t)) (hj:j = s.length):RdS w F (I2 A c j) (n - j) (c - j) t:=by
 subst hj
 have h1:=h.oct.drop (j:=s.length) (by rw [List.length_append]; omega)
 rw [List.drop_left] at h1
 exact ⟨by rw [h.len,List.length_append]; omega,h1⟩
theorem RdS.front {w:World} {F:Nat → Nat → Prop} {A:Option Addr} {n c j:Nat} {s t:Bs} (h:RdS w F A n c (s ++ t)) (hj:j = s.length):Octs w F A j s:=by
 subst hj
 have h1:=h.oct.cutS (j:=s.length) (by rw [List.length_append]; omega)
 rwa [List.take_left] at h1
def G5 (br:Nat):Nat → Nat → Prop:=fun b o=>b = br ∧ o < 2
def RdPost (w:World) (br:Nat) (F:Nat → Nat → Prop) (rest:Bs) (Q:Value → World → Prop):Ending → World → Prop:=fun e w' =>
 ∃ v A' n' c',e = .returned v ∧ Str w' br [.slice A' n' c',.bool false] ∧ RdS w' F A' n' c' rest ∧ Step w w' (G5 br) ∧ Q v w'
theorem WOk.startStr {w:World} {p:Nat} {cs:List Value} (h:Str w p cs) (hn:Nat.blt 0 cs.length = true:=by kernel_rfl):WOk w (fun b o=>b = p ∧ o < cs.length) w [⟨p,0,cs,true⟩] []:=by
 have hn':0 < cs.length:=by simpa [Nat.blt_eq] using hn
 exact (WOk.start w _).add ⟨p,0,cs,true⟩ (World.lt_of_cell (h.at_ 0 _ (List.getElem?_eq_getElem hn'))) (fun j v hj=>by rw [Nat.zero_add]; exact h.at_ j v hj) (fun _ j hj=>⟨.inr ⟨rfl,by rw [Nat.zero_add]; exact hj⟩,by rw [Nat.zero_add]; exact h.frz j hj⟩) (fun i o hi=>by simp at hi) (fun i r hi=>by simp at hi)
theorem WOk.wrote {w0 w w':World} {M:Nat → Nat → Prop} {tb:Tb} {rs:List Rw} {p:Nat} {cs cs':List Value} (hW:WOk w0 M w tb rs) (i:Nat) (tb':Tb) (hi:tb[i]? = some ⟨p,0,cs,true⟩) (hst:Step w w' (fun b o=>b = p ∧ o < cs.length)) (hs:Str w' p cs') (ht:tb.set i ⟨p,0,cs',true⟩ = tb':=by rfl) (hl:cs'.length = cs.length:=by rfl) :
  WOk w0 M w' tb' rs ∧ Fr w tb rs w' tb' rs ∧ ∀ {G:Nat → Nat → Prop} (b o:Nat),Fp (H1 G w0 w tb rs) w b o → b < w'.heap.size → H1 G w0 w' tb' rs b o:=by
 subst ht
 have key:∀ (j:Nat) (o:Ob),(tb.set i ⟨p,0,cs',true⟩)[j]? = some o → (j = i ∧ o = ⟨p,0,cs',true⟩) ∨ (j ≠ i ∧ tb[j]? = some o):=fun j o hj=>by
  rcases U2 hj with ⟨h1,h2,_⟩ | ⟨h1,h2⟩
  ·exact .inl ⟨h1,h2⟩
  exact .inr ⟨h1,h2⟩
 have far:∀ (j:Nat) (o:Ob),j ≠ i → tb[j]? = some o → ∀ q,q < o.cells.length → ¬ (o.blk = p ∧ o.off + q < cs.length):=fun j o hne hj q hq e=>by
  rcases hW.apart j i o _ hne hj hi (.inr rfl) with h1 | h1 | h1
  ·exact h1 e.1
  ·simp only [Nat.le_zero] at h1; omega
  simp only [Nat.zero_add] at h1; omega
 have act:∀ b o,H2 (tb.set i ⟨p,0,cs',true⟩) rs b o → H2 tb rs b o:=fun b o ha=>by
  rcases ha with ⟨j,ob,hj,h1,h2,h3,h4⟩ | ha
  ·rcases key j ob hj with ⟨rfl,rfl⟩ | ⟨_,hj⟩
   ·exact .inl ⟨j,_,hi,rfl,h2,h3,by simpa [hl] using h4⟩
   exact .inl ⟨j,ob,hj,h1,h2,h3,h4⟩
  exact .inr ha
 refine ⟨⟨hW.step.trans hst fun b o hb e=>?_,?_,?_,?_,?_,?_,hW.ownM,?_,hW.rr⟩,⟨fun b o _ hn ha=>hn (act b o ha),hst.mono fun b o _ e=>.inl ⟨i,_,hi,rfl,e.1.symm,Nat.zero_le _,by simpa using e.2⟩⟩,fun b o hf hb=>?_⟩
 rotate_right
 ·rcases hf with hf | hf
  ·exact ⟨hf.1,hb,fun ha=>hf.2.2 (act b o ha)⟩
  exact ⟨.inr (Nat.le_trans hW.step.size hf),hb,fun ha=>by have:=hW.act_live (act b o ha); omega⟩
 ·have h1:=(hW.rw_ i _ hi rfl o e.2).1
  simp only [Nat.zero_add] at h1
  rcases h1 with h1 | h1
  ·have:=e.1; omega
  rw [e.1]; exact h1
 ·intro j o hj q v hv
  rcases key j o hj with ⟨rfl,rfl⟩ | ⟨hne,hj⟩
  ·dsimp only
   rw [Nat.zero_add]
   exact hs.at_ q v hv
  exact hst.cell (far j o hne hj q (List.getElem?_eq_some_iff.1 hv).1) (hW.cells j o hj q v hv)
 ·intro j o hj
  rcases key j o hj with ⟨rfl,rfl⟩ | ⟨_,hj⟩
  ·have h1:=hW.live j _ hi
   exact Nat.lt_of_lt_of_le h1 hst.size
  exact Nat.lt_of_lt_of_le (hW.live j o hj) hst.size
 ·intro j o hj hr q hq
  rcases key j o hj with ⟨rfl,rfl⟩ | ⟨hne,hj⟩
  ·dsimp only at hq ⊢
   refine ⟨(hW.rw_ j _ hi rfl q (by simpa [hl] using hq)).1,?_⟩
   rw [Nat.zero_add]
   exact hs.frz q hq
  obtain ⟨h1,h2⟩:=hW.rw_ j o hj hr q hq
  exact ⟨h1,hst.frozen (far j o hne hj q hq) (hW.cells j o hj q _ (List.getElem?_eq_getElem hq)) h2⟩
 ·intro j k o o' hjk hj hk hw
  rcases key j o hj with ⟨rfl,rfl⟩ | ⟨hne,hj'⟩
  ·rcases key k o' hk with ⟨rfl,rfl⟩ | ⟨hne',hk'⟩
   ·exact absurd rfl hjk
   have:=hW.apart j k _ o' hjk hi hk' (.inl rfl)
   simpa [hl] using this
  rcases key k o' hk with ⟨rfl,rfl⟩ | ⟨hne',hk'⟩
  ·have:=hW.apart j k o _ hjk hj' hi (.inr rfl)
   simpa [hl] using this
  exact hW.apart j k o o' hjk hj' hk' hw
 ·intro j r hj
  refine BZ (hW.own j r hj) fun g hg=>(hst.keeps g (O5 (hW.own j r hj) hg)).1 fun o e=>?_
  exact hW.rtb j r hj g hg i _ hi e.1.symm
 intro j r hj g hg k o hk
 rcases key k o hk with ⟨rfl,rfl⟩ | ⟨_,hk⟩
 ·have h1:=hW.rtb j r hj g hg k _ hi
  exact h1
 exact hW.rtb j r hj g hg k o hk
theorem WOk.giveUp {G:Nat → Nat → Prop} {w0 w:World} {tb:Tb} {rs:List Rw} {A:Option Addr} {c e:Nat} {s:Bs} (hW:WOk w0 C7 w tb rs) (k:Nat) (rs':List Rw) (hk:rs[k]? = some (B0 A c e s)) (hsm:s.length ≤ 1099511627776) (hr:rs.take k = rs':=by rfl):Octs w (H1 G w0 w tb rs') A c s:=by
 subst hr
 refine Ce (hW.own k _ hk) hsm fun g hg o=>?_
 have hb:=O5 (hW.own k _ hk) (r:=B0 A c e s) hg
 refine ⟨?_,hb,fun ha=>?_⟩
 ·rcases hW.ownM k _ hk g hg with h2 | h2
  ·exact .inr h2
  exact (h2 0).elim
 rcases ha with ⟨i,ob,h2,_,h3,_⟩ | ⟨i,r,h2,h3⟩
 ·exact hW.rtb k _ hk g hg i ob h2 h3
 rw [List.getElem?_take] at h2
 split at h2
 ·rename_i hlt
  exact hW.rr k i _ r (by omega) hk h2 g hg h3
 cases h2
theorem MT {G:Nat → Nat → Prop} {w0 w:World} {tb:Tb} {rs:List Rw} {r:Rw} {A:Option Addr} (k:Nat) (hk:rs[k]? = some r) (hA:r.A = A:=by rfl):∀ b o,H1 G w0 w tb rs b o → ¬ F4 A b o:=fun b o h hB=>by
 subst hA
 exact h.2.2 (.inr ⟨k,r,hk,hB⟩)
theorem WOk.strImm {G:Nat → Nat → Prop} {w0 w:World} {tb:Tb} {rs:List Rw} {p:Nat} {cs:List Value} (hW:WOk w0 C7 w tb rs) (i:Nat) (hi:tb[i]? = some ⟨p,0,cs,true⟩):AtF w (H1 G w0 w [] rs) p 0 cs:=fun j v hj=>by
 have h1:=hW.cells i _ hi j v hj
 have hlt:j < cs.length:=(List.getElem?_eq_some_iff.1 hj).1
 refine ⟨⟨?_,hW.live i _ hi,fun ha=>?_⟩,h1⟩
 ·rcases (hW.rw_ i _ hi rfl j hlt).1 with h2 | h2
  ·exact .inr h2
  exact h2.elim
 rcases ha with ⟨k,ob,h2,_⟩ | ⟨k,r,h2,h3⟩
 ·simp at h2
 exact hW.rtb k r h2 p h3 i _ hi rfl
theorem Ji {G:Nat → Nat → Prop} {w0 w:World} {tb:Tb} {rs:List Rw} {p:Nat} {cs:List Value} (i:Nat) (hi:tb[i]? = some ⟨p,0,cs,true⟩):∀ b o,H1 G w0 w tb rs b o → ¬ (b = p ∧ o < cs.length):=fun b o h e=>by
 obtain ⟨rfl,h2⟩:=e
 exact h.2.2 (.inl ⟨i,_,hi,rfl,rfl,Nat.zero_le _,by simpa using h2⟩)
theorem Dj {Q:Exit → Act → World → Prop} {a:Act} {w:World} (h:Q .ret a w):Exit.noGoto Q .ret a w:=h
theorem Gr (k:IntKind) (n:Nat) (hn:n = k.bits) (hk:∀ z:Int,0 ≤ z → z < 2 ^ n → k.wrap z = z) (i:Nat) (y x:Int) (h0:0 ≤ y) (h1:y < 2 ^ i) (h2:y < 2 ^ n) (h3:0 ≤ x) (h4:x % 2 ^ i = 0) (h5:x < 2 ^ n) :
  k.wrap (BitVec.ofInt n y ||| BitVec.ofInt n x).toNat = y + x:=by
 subst hn
 exact bits_join_low k k.bits (Nat.le_refl _) hk i y x h0 h1 h2 h3 h4 h5
theorem Gs (i:Nat) (y x:Int) (h0:0 ≤ y) (h1:y < 2 ^ i) (h2:y < 2 ^ 16) (h3:0 ≤ x) (h4:x % 2 ^ i = 0) (h5:x < 2 ^ 16):IntKind.u16.wrap (BitVec.ofInt 16 y ||| BitVec.ofInt 16 x).toNat = y + x :=
 Gr .u16 16 rfl (fun z a b=>by rw [P9]; omega) i y x h0 h1 h2 h3 h4 h5
theorem L8 (i:Nat) (y x:Int) (h0:0 ≤ y) (h1:y < 2 ^ i) (h2:y < 2 ^ 32) (h3:0 ≤ x) (h4:x % 2 ^ i = 0) (h5:x < 2 ^ 32):IntKind.u32.wrap (BitVec.ofInt 32 y ||| BitVec.ofInt 32 x).toNat = y + x :=
 Gr .u32 32 rfl (fun z a b=>by rw [D5]; omega) i y x h0 h1 h2 h3 h4 h5
theorem R4 (i:Nat) (y x:Int) (h0:0 ≤ y) (h1:y < 2 ^ i) (h2:y < 2 ^ 64) (h3:0 ≤ x) (h4:x % 2 ^ i = 0) (h5:x < 2 ^ 64):IntKind.u64.wrap (BitVec.ofInt 64 y ||| BitVec.ofInt 64 x).toNat = y + x :=
 Gr .u64 64 rfl (fun z a b=>by rw [G1]; omega) i y x h0 h1 h2 h3 h4 h5
theorem Bj (n:Nat) (h:n < 256):(IntKind.u8.wrap (BitVec.ofInt 8 ((n:Nat):Int) &&& BitVec.ofInt 8 128).toNat == 0) = decide (n < 128):=by
 have:∀ m:Fin 256,(IntKind.u8.wrap (BitVec.ofInt 8 ((m.val:Nat):Int) &&& BitVec.ofInt 8 128).toNat == 0) = decide (m.val < 128):=by decide +kernel
 exact this ⟨n,h⟩
theorem S0 (n:Nat) (h:n < 256):IntKind.u8.wrap (BitVec.ofInt 8 ((n:Nat):Int) &&& BitVec.ofInt 8 127).toNat = ((n % 128:Nat):Int):=by
 have:∀ m:Fin 256,IntKind.u8.wrap (BitVec.ofInt 8 ((m.val:Nat):Int) &&& BitVec.ofInt 8 127).toNat = ((m.val % 128:Nat):Int):=by decide +kernel
 exact this ⟨n,h⟩
def oc (s:Bs) (i:Nat):Nat:=(s.getD i 0).toNat
theorem H0 (s:Bs) (i:Nat):oc s i < 256:=(s.getD i 0).toNat_lt
theorem Gt (b:UInt8) (s:Bs) (i:Nat):oc (b :: s) (i + 1) = oc s i:=rfl
theorem MU (b:UInt8) (s:Bs):oc (b :: s) 0 = b.toNat:=rfl
theorem Gu (x:Int) (s:Bs):((oc (C9 x :: s) 0:Nat):Int) = x % 256:=by rw [MU,Hv]
def P2 (s:Bs):Int:=((oc s 0:Nat):Int) * 256 + oc s 1
def P3 (s:Bs):Int:=((oc s 0:Nat):Int) * 16777216 + oc s 1 * 65536 + oc s 2 * 256 + oc s 3
def Q3 (s:Bs):Int:=((oc s 0:Nat):Int) * 72057594037927936 + oc s 1 * 281474976710656 + oc s 2 * 1099511627776 + oc s 3 * 4294967296 + oc s 4 * 16777216 + oc s 5 * 65536 + oc s 6 * 256 + oc s 7
theorem MV (x:Int) (s:Bs):P2 (be 2 x ++ s) = IntKind.u16.wrap x:=by
 rw [P9]
 simp only [be,List.cons_append,List.nil_append,P2,Gt,Gu,Int.reducePow]
 omega
theorem Gv (x:Int) (s:Bs):P3 (be 4 x ++ s) = IntKind.u32.wrap x:=by
 rw [D5]
 simp only [be,List.cons_append,List.nil_append,P3,Gt,Gu,Int.reducePow]
 omega
theorem MW (x:Int) (s:Bs):Q3 (be 8 x ++ s) = IntKind.u64.wrap x:=by
 rw [G1]
 simp only [be,List.cons_append,List.nil_append,Q3,Gt,Gu,Int.reducePow]
 omega
theorem M9 (x:Int):IntKind.i16.wrap x = (x + 32768) % 65536 - 32768:=by simp [IntKind.wrap,IntKind.signed,IntKind.bits]; omega
theorem I3 (x:Int):IntKind.i32.wrap x = (x + 2147483648) % 4294967296 - 2147483648:=by simp [IntKind.wrap,IntKind.signed,IntKind.bits]; omega
theorem L9 (x:Int):IntKind.i64.wrap x = (x + 9223372036854775808) % 18446744073709551616 - 9223372036854775808:=by simp [IntKind.wrap,IntKind.signed,IntKind.bits]; omega
theorem MX (x:Int):IntKind.i16.wrap (IntKind.u16.wrap x) = IntKind.i16.wrap x:=by rw [M9,M9,P9]; omega
theorem MY (x:Int):IntKind.i32.wrap (IntKind.u32.wrap x) = IntKind.i32.wrap x:=by rw [I3,I3,D5]; omega
theorem MZ (x:Int):IntKind.i64.wrap (IntKind.u64.wrap x) = IntKind.i64.wrap x:=by rw [L9,L9,G1]; omega
theorem Gw (x:Int):IntKind.i16.wrap (IntKind.i16.wrap x) = IntKind.i16.wrap x:=by rw [M9,M9]; omega
theorem Gx (x:Int):IntKind.i32.wrap (IntKind.i32.wrap x) = IntKind.i32.wrap x:=by rw [I3,I3]; omega
theorem Y5 {x:Nat} (s:Bs):oc (uv x ++ s) 0 = if x < 128 then x else x % 128 + 128:=by
 by_cases h:x < 128
 ·rw [R2 h,if_pos h]
  show (UInt8.ofNat x).toNat = x
  rw [UInt8.toNat_ofNat']; omega
 rw [U6 (by omega),if_neg h]
 show (UInt8.ofNat (x % 128 + 128)).toNat = _
 rw [UInt8.toNat_ofNat']; omega
theorem W7 {x:Nat} (h:128 ≤ x) (s:Bs) (i:Nat):oc (uv x ++ s) (i + 1) = oc (uv (x / 128) ++ s) i:=by
 rw [U6 h]; rfl
theorem Na (b0 b1:Nat) (h0:b0 < 256) (h1:b1 < 256):IntKind.u16.wrap (BitVec.ofInt 16 (IntKind.u16.wrap (((b1:Nat):Int))) ||| BitVec.ofInt 16 (IntKind.u16.wrap (IntKind.u16.wrap (((b0:Nat):Int)) * 256))).toNat = ((b0:Nat):Int) * 256 + ((b1:Nat):Int):=by
 have e1:IntKind.u16.wrap (BitVec.ofInt 16 (IntKind.u16.wrap (((b1:Nat):Int))) ||| BitVec.ofInt 16 (IntKind.u16.wrap (IntKind.u16.wrap (((b0:Nat):Int)) * 256))).toNat = ((b1:Nat):Int) + ((b0:Nat):Int) * 256:=by
  rw [Gs 8 _ _ (by first | omega | (simp only [P9]; omega)) (by first | omega | (simp only [P9]; omega)) (by first | omega | (simp only [P9]; omega)) (by first | omega | (simp only [P9]; omega)) (by first | omega | (simp only [P9]; omega)) (by first | omega | (simp only [P9]; omega))]; first | omega | (simp only [P9]; omega)
 rw [e1]
 omega
theorem Nb (b0 b1 b2 b3:Nat) (h0:b0 < 256) (h1:b1 < 256) (h2:b2 < 256) (h3:b3 < 256):IntKind.u32.wrap (BitVec.ofInt 32 (IntKind.u32.wrap (BitVec.ofInt 32 (IntKind.u32.wrap (BitVec.ofInt 32 (IntKind.u32.wrap (((b3:Nat):Int))) ||| BitVec.ofInt 32 (IntKind.u32.wrap (IntKind.u32.wrap (((b2:Nat):Int)) * 256))).toNat) ||| BitVec.ofInt 32 (IntKind.u32.wrap (IntKind.u32.wrap (((b1:Nat):Int)) * 65536))).toNat) ||| BitVec.ofInt 32 (IntKind.u32.wrap (IntKind.u32.wrap (((b0:Nat):Int)) * 16777216))).toNat = ((b0:Nat):Int) * 16777216 + ((b1:Nat):Int) * 65536 + ((b2:Nat):Int) * 256 + ((b3:Nat):Int):=by
 have e1:IntKind.u32.wrap (BitVec.ofInt 32 (IntKind.u32.wrap (((b3:Nat):Int))) ||| BitVec.ofInt 32 (IntKind.u32.wrap (IntKind.u32.wrap (((b2:Nat):Int)) * 256))).toNat = ((b3:Nat):Int) + ((b2:Nat):Int) * 256:=by
  rw [L8 8 _ _ (by first | omega | (simp only [D5]; omega)) (by first | omega | (simp only [D5]; omega)) (by first | omega | (simp only [D5]; omega)) (by first | omega | (simp only [D5]; omega)) (by first | omega | (simp only [D5]; omega)) (by first | omega | (simp only [D5]; omega))]; first | omega | (simp only [D5]; omega)
 have e2:IntKind.u32.wrap (BitVec.ofInt 32 (((b3:Nat):Int) + ((b2:Nat):Int) * 256) ||| BitVec.ofInt 32 (IntKind.u32.wrap (IntKind.u32.wrap (((b1:Nat):Int)) * 65536))).toNat = ((b3:Nat):Int) + ((b2:Nat):Int) * 256 + ((b1:Nat):Int) * 65536:=by
  rw [L8 16 _ _ (by first | omega | (simp only [D5]; omega)) (by first | omega | (simp only [D5]; omega)) (by first | omega | (simp only [D5]; omega)) (by first | omega | (simp only [D5]; omega)) (by first | omega | (simp only [D5]; omega)) (by first | omega | (simp only [D5]; omega))]; first | omega | (simp only [D5]; omega)
 have e3:IntKind.u32.wrap (BitVec.ofInt 32 (((b3:Nat):Int) + ((b2:Nat):Int) * 256 + ((b1:Nat):Int) * 65536) ||| BitVec.ofInt 32 (IntKind.u32.wrap (IntKind.u32.wrap (((b0:Nat):Int)) * 16777216))).toNat = ((b3:Nat):Int) + ((b2:Nat):Int) * 256 + ((b1:Nat):Int) * 65536 + ((b0:Nat):Int) * 16777216:=by
  rw [L8 24 _ _ (by first | omega | (simp only [D5]; omega)) (by first | omega | (simp only [D5]; omega)) (by first | omega | (simp only [D5]; omega)) (by first | omega | (simp only [D5]; omega)) (by first | omega | (simp only [D5]; omega)) (by first | omega | (simp only [D5]; omega))]; first | omega | (simp only [D5]; omega)
 rw [e1,e2,e3]
 omega
theorem Nc (b0 b1 b2 b3 b4 b5 b6 b7:Nat) (h0:b0 < 256) (h1:b1 < 256) (h2:b2 < 256) (h3:b3 < 256) (h4:b4 < 256) (h5:b5 < 256) (h6:b6 < 256) (h7:b7 < 256):IntKind.u64.wrap (BitVec.ofInt 64 (IntKind.u64.wrap (BitVec.ofInt 64 (IntKind.u64.wrap (BitVec.ofInt 64 (IntKind.u64.wrap (BitVec.ofInt 64 (IntKind.u64.wrap (BitVec.ofInt 64 (IntKind.u64.wrap (BitVec.ofInt 64 (IntKind.u64.wrap (BitVec.ofInt 64 (IntKind.u64.wrap (((b7:Nat):Int))) ||| BitVec.ofInt 64 (IntKind.u64.wrap (IntKind.u64.wrap (((b6:Nat):Int)) * 256))).toNat) ||| BitVec.ofInt 64 (IntKind.u64.wrap (IntKind.u64.wrap (((b5:Nat):Int)) * 65536))).toNat) ||| BitVec.ofInt 64 (IntKind.u64.wrap (IntKind.u64.wrap (((b4:Nat):Int)) * 16777216))).toNat) ||| BitVec.ofInt 64 (IntKind.u64.wrap (IntKind.u64.wrap (((b3:Nat):Int)) * 4294967296))).toNat) ||| BitVec.ofInt 64 (IntKind.u64.wrap (IntKind.u64.wrap (((b2:Nat):Int)) * 1099511627776))).toNat) ||| BitVec.ofInt 64 (IntKind.u64.wrap (IntKind.u64.wrap (((b1:Nat):Int)) * 281474976710656))).toNat) ||| BitVec.ofInt 64 (IntKind.u64.wrap (IntKind.u64.wrap (((b0:Nat):Int)) * 72057594037927936))).toNat = ((b0:Nat):Int) * 72057594037927936 + ((b1:Nat):Int) * 281474976710656 + ((b2:Nat):Int) * 1099511627776 + ((b3:Nat):Int) * 4294967296 + ((b4:Nat):Int) * 16777216 + ((b5:Nat):Int) * 65536 + ((b6:Nat):Int) * 256 + ((b7:Nat):Int):=by
 have e1:IntKind.u64.wrap (BitVec.ofInt 64 (IntKind.u64.wrap (((b7:Nat):Int))) ||| BitVec.ofInt 64 (IntKind.u64.wrap (IntKind.u64.wrap (((b6:Nat):Int)) * 256))).toNat = ((b7:Nat):Int) + ((b6:Nat):Int) * 256:=by
  rw [R4 8 _ _ (by first | omega | (simp only [G1]; omega)) (by first | omega | (simp only [G1]; omega)) (by first | omega | (simp only [G1]; omega)) (by first | omega | (simp only [G1]; omega)) (by first | omega | (simp only [G1]; omega)) (by first | omega | (simp only [G1]; omega))]; first | omega | (simp only [G1]; omega)
 have e2:IntKind.u64.wrap (BitVec.ofInt 64 (((b7:Nat):Int) + ((b6:Nat):Int) * 256) ||| BitVec.ofInt 64 (IntKind.u64.wrap (IntKind.u64.wrap (((b5:Nat):Int)) * 65536))).toNat = ((b7:Nat):Int) + ((b6:Nat):Int) * 256 + ((b5:Nat):Int) * 65536:=by
  rw [R4 16 _ _ (by first | omega | (simp only [G1]; omega)) (by first | omega | (simp only [G1]; omega)) (by first | omega | (simp only [G1]; omega)) (by first | omega | (simp only [G1]; omega)) (by first | omega | (simp only [G1]; omega)) (by first | omega | (simp only [G1]; omega))]; first | omega | (simp only [G1]; omega)
 have e3:IntKind.u64.wrap (BitVec.ofInt 64 (((b7:Nat):Int) + ((b6:Nat):Int) * 256 + ((b5:Nat):Int) * 65536) ||| BitVec.ofInt 64 (IntKind.u64.wrap (IntKind.u64.wrap (((b4:Nat):Int)) * 16777216))).toNat = ((b7:Nat):Int) + ((b6:Nat):Int) * 256 + ((b5:Nat):Int) * 65536 + ((b4:Nat):Int) * 16777216:=by
  rw [R4 24 _ _ (by first | omega | (simp only [G1]; omega)) (by first | omega | (simp only [G1]; omega)) (by first | omega | (simp only [G1]; omega)) (by first | omega | (simp only [G1]; omega)) (by first | omega | (simp only [G1]; omega)) (by first | omega | (simp only [G1]; omega))]; first | omega | (simp only [G1]; omega)
 have e4:IntKind.u64.wrap (BitVec.ofInt 64 (((b7:Nat):Int) + ((b6:Nat):Int) * 256 + ((b5:Nat):Int) * 65536 + ((b4:Nat):Int) * 16777216) ||| BitVec.ofInt 64 (IntKind.u64.wrap (IntKind.u64.wrap (((b3:Nat):Int)) * 4294967296))).toNat = ((b7:Nat):Int) + ((b6:Nat):Int) * 256 + ((b5:Nat):Int) * 65536 + ((b4:Nat):Int) * 16777216 + ((b3:Nat):Int) * 4294967296:=by
  rw [R4 32 _ _ (by first | omega | (simp only [G1]; omega)) (by first | omega | (simp only [G1]; omega)) (by first | omega | (simp only [G1]; omega)) (by first | omega | (simp only [G1]; omega)) (by first | omega | (simp only [G1]; omega)) (by first | omega | (simp only [G1]; omega))]; first | omega | (simp only [G1]; omega)
 have e5:IntKind.u64.wrap (BitVec.ofInt 64 (((b7:Nat):Int) + ((b6:Nat):Int) * 256 + ((b5:Nat):Int) * 65536 + ((b4:Nat):Int) * 16777216 + ((b3:Nat):Int) * 4294967296) ||| BitVec.ofInt 64 (IntKind.u64.wrap (IntKind.u64.wrap (((b2:Nat):Int)) * 1099511627776))).toNat = ((b7:Nat):Int) + ((b6:Nat):Int) * 256 + ((b5:Nat):Int) * 65536 + ((b4:Nat):Int) * 16777216 + ((b3:Nat):Int) * 4294967296 + ((b2:Nat):Int) * 1099511627776:=by
  rw [R4 40 _ _ (by first | omega | (simp only [G1]; omega)) (by first | omega | (simp only [G1]; omega)) (by first | omega | (simp only [G1]; omega)) (by first | omega | (simp only [G1]; omega)) (by first | omega | (simp only [G1]; omega)) (by first | omega | (simp only [G1]; omega))]; first | omega | (simp only [G1]; omega)
 have e6:IntKind.u64.wrap (BitVec.ofInt 64 (((b7:Nat):Int) + ((b6:Nat):Int) * 256 + ((b5:Nat):Int) * 65536 + ((b4:Nat):Int) * 16777216 + ((b3:Nat):Int) * 4294967296 + ((b2:Nat):Int) * 1099511627776) ||| BitVec.ofInt 64 (IntKind.u64.wrap (IntKind.u64.wrap (((b1:Nat):Int)) * 281474976710656))).toNat = ((b7:Nat):Int) + ((b6:Nat):Int) * 256 + ((b5:Nat):Int) * 65536 + ((b4:Nat):Int) * 16777216 + ((b3:Nat):Int) * 4294967296 + ((b2:Nat):Int) * 1099511627776 + ((b1:Nat):Int) * 281474976710656:=by
  rw [R4 48 _ _ (by first | omega | (simp only [G1]; omega)) (by first | omega | (simp only [G1]; omega)) (by first | omega | (simp only [G1]; omega)) (by first | omega | (simp only [G1]; omega)) (by first | omega | (simp only [G1]; omega)) (by first | omega | (simp only [G1]; omega))]; first | omega | (simp only [G1]; omega)
 have e7:IntKind.u64.wrap (BitVec.ofInt 64 (((b7:Nat):Int) + ((b6:Nat):Int) * 256 + ((b5:Nat):Int) * 65536 + ((b4:Nat):Int) * 16777216 + ((b3:Nat):Int) * 4294967296 + ((b2:Nat):Int) * 1099511627776 + ((b1:Nat):Int) * 281474976710656) ||| BitVec.ofInt 64 (IntKind.u64.wrap (IntKind.u64.wrap (((b0:Nat):Int)) * 72057594037927936))).toNat = ((b7:Nat):Int) + ((b6:Nat):Int) * 256 + ((b5:Nat):Int) * 65536 + ((b4:Nat):Int) * 16777216 + ((b3:Nat):Int) * 4294967296 + ((b2:Nat):Int) * 1099511627776 + ((b1:Nat):Int) * 281474976710656 + ((b0:Nat):Int) * 72057594037927936:=by
  rw [R4 56 _ _ (by first | omega | (simp only [G1]; omega)) (by first | omega | (simp only [G1]; omega)) (by first | omega | (simp only [G1]; omega)) (by first | omega | (simp only [G1]; omega)) (by first | omega | (simp only [G1]; omega)) (by first | omega | (simp only [G1]; omega))]; first | omega | (simp only [G1]; omega)
 rw [e1,e2,e3,e4,e5,e6,e7]
 omega
theorem Gy (b0:Nat) (h0:b0 < 256):IntKind.u32.wrap (IntKind.u8.wrap (BitVec.ofInt 8 ((b0:Nat):Int) &&& BitVec.ofInt 8 127).toNat) = ((b0 % 128:Nat):Int):=by
 rw [S0 b0 h0,D5]; omega
theorem Gz (b0 b1:Nat) (h0:b0 < 256) (h1:b1 < 256):IntKind.u32.wrap (BitVec.ofInt 32 (IntKind.u32.wrap (IntKind.u8.wrap (BitVec.ofInt 8 ((b0:Nat):Int) &&& BitVec.ofInt 8 127).toNat)) ||| BitVec.ofInt 32 (IntKind.u32.wrap (IntKind.u32.wrap (IntKind.u8.wrap (BitVec.ofInt 8 ((b1:Nat):Int) &&& BitVec.ofInt 8 127).toNat) * 128))).toNat = ((b0 % 128:Nat):Int) + ((b1 % 128:Nat):Int) * 128:=by
 have e1:IntKind.u32.wrap (BitVec.ofInt 32 (IntKind.u32.wrap (IntKind.u8.wrap (BitVec.ofInt 8 ((b0:Nat):Int) &&& BitVec.ofInt 8 127).toNat)) ||| BitVec.ofInt 32 (IntKind.u32.wrap (IntKind.u32.wrap (IntKind.u8.wrap (BitVec.ofInt 8 ((b1:Nat):Int) &&& BitVec.ofInt 8 127).toNat) * 128))).toNat = ((b0 % 128:Nat):Int) + ((b1 % 128:Nat):Int) * 128:=by
  rw [S0 b1 h1,S0 b0 h0]; rw [L8 7 _ _ (by first | omega | (simp only [D5]; omega)) (by first | omega | (simp only [D5]; omega)) (by first | omega | (simp only [D5]; omega)) (by first | omega | (simp only [D5]; omega)) (by first | omega | (simp only [D5]; omega)) (by first | omega | (simp only [D5]; omega))]; first | omega | (simp only [D5]; omega)
 rw [e1]
theorem GA (b0 b1 b2:Nat) (h0:b0 < 256) (h1:b1 < 256) (h2:b2 < 256):IntKind.u32.wrap (BitVec.ofInt 32 (IntKind.u32.wrap (BitVec.ofInt 32 (IntKind.u32.wrap (IntKind.u8.wrap (BitVec.ofInt 8 ((b0:Nat):Int) &&& BitVec.ofInt 8 127).toNat)) ||| BitVec.ofInt 32 (IntKind.u32.wrap (IntKind.u32.wrap (IntKind.u8.wrap (BitVec.ofInt 8 ((b1:Nat):Int) &&& BitVec.ofInt 8 127).toNat) * 128))).toNat) ||| BitVec.ofInt 32 (IntKind.u32.wrap (IntKind.u32.wrap (IntKind.u8.wrap (BitVec.ofInt 8 ((b2:Nat):Int) &&& BitVec.ofInt 8 127).toNat) * 16384))).toNat = ((b0 % 128:Nat):Int) + ((b1 % 128:Nat):Int) * 128 + ((b2 % 128:Nat):Int) * 16384:=by
 have e1:IntKind.u32.wrap (BitVec.ofInt 32 (IntKind.u32.wrap (IntKind.u8.wrap (BitVec.ofInt 8 ((b0:Nat):Int) &&& BitVec.ofInt 8 127).toNat)) ||| BitVec.ofInt 32 (IntKind.u32.wrap (IntKind.u32.wrap (IntKind.u8.wrap (BitVec.ofInt 8 ((b1:Nat):Int) &&& BitVec.ofInt 8 127).toNat) * 128))).toNat = ((b0 % 128:Nat):Int) + ((b1 % 128:Nat):Int) * 128:=by
  rw [S0 b1 h1,S0 b0 h0]; rw [L8 7 _ _ (by first | omega | (simp only [D5]; omega)) (by first | omega | (simp only [D5]; omega)) (by first | omega | (simp only [D5]; omega)) (by first | omega | (simp only [D5]; omega)) (by first | omega | (simp only [D5]; omega)) (by first | omega | (simp only [D5]; omega))]; first | omega | (simp only [D5]; omega)
 have e2:IntKind.u32.wrap (BitVec.ofInt 32 (((b0 % 128:Nat):Int) + ((b1 % 128:Nat):Int) * 128) ||| BitVec.ofInt 32 (IntKind.u32.wrap (IntKind.u32.wrap (IntKind.u8.wrap (BitVec.ofInt 8 ((b2:Nat):Int) &&& BitVec.ofInt 8 127).toNat) * 16384))).toNat = ((b0 % 128:Nat):Int) + ((b1 % 128:Nat):Int) * 128 + ((b2 % 128:Nat):Int) * 16384:=by
  rw [S0 b2 h2]; rw [L8 14 _ _ (by first | omega | (simp only [D5]; omega)) (by first | omega | (simp only [D5]; omega)) (by first | omega | (simp only [D5]; omega)) (by first | omega | (simp only [D5]; omega)) (by first | omega | (simp only [D5]; omega)) (by first | omega | (simp only [D5]; omega))]; first | omega | (simp only [D5]; omega)
 rw [e1,e2]
theorem GB (b0 b1 b2 b3:Nat) (h0:b0 < 256) (h1:b1 < 256) (h2:b2 < 256) (h3:b3 < 256):IntKind.u32.wrap (BitVec.ofInt 32 (IntKind.u32.wrap (BitVec.ofInt 32 (IntKind.u32.wrap (BitVec.ofInt 32 (IntKind.u32.wrap (IntKind.u8.wrap (BitVec.ofInt 8 ((b0:Nat):Int) &&& BitVec.ofInt 8 127).toNat)) ||| BitVec.ofInt 32 (IntKind.u32.wrap (IntKind.u32.wrap (IntKind.u8.wrap (BitVec.ofInt 8 ((b1:Nat):Int) &&& BitVec.ofInt 8 127).toNat) * 128))).toNat) ||| BitVec.ofInt 32 (IntKind.u32.wrap (IntKind.u32.wrap (IntKind.u8.wrap (BitVec.ofInt 8 ((b2:Nat):Int) &&& BitVec.ofInt 8 127).toNat) * 16384))).toNat) ||| BitVec.ofInt 32 (IntKind.u32.wrap (IntKind.u32.wrap (IntKind.u8.wrap (BitVec.ofInt 8 ((b3:Nat):Int) &&& BitVec.ofInt 8 127).toNat) * 2097152))).toNat = ((b0 % 128:Nat):Int) + ((b1 % 128:Nat):Int) * 128 + ((b2 % 128:Nat):Int) * 16384 + ((b3 % 128:Nat):Int) * 2097152:=by
 have e1:IntKind.u32.wrap (BitVec.ofInt 32 (IntKind.u32.wrap (IntKind.u8.wrap (BitVec.ofInt 8 ((b0:Nat):Int) &&& BitVec.ofInt 8 127).toNat)) ||| BitVec.ofInt 32 (IntKind.u32.wrap (IntKind.u32.wrap (IntKind.u8.wrap (BitVec.ofInt 8 ((b1:Nat):Int) &&& BitVec.ofInt 8 127).toNat) * 128))).toNat = ((b0 % 128:Nat):Int) + ((b1 % 128:Nat):Int) * 128:=by
  rw [S0 b1 h1,S0 b0 h0]; rw [L8 7 _ _ (by first | omega | (simp only [D5]; omega)) (by first | omega | (simp only [D5]; omega)) (by first | omega | (simp only [D5]; omega)) (by first | omega | (simp only [D5]; omega)) (by first | omega | (simp only [D5]; omega)) (by first | omega | (simp only [D5]; omega))]; first | omega | (simp only [D5]; omega)
 have e2:IntKind.u32.wrap (BitVec.ofInt 32 (((b0 % 128:Nat):Int) + ((b1 % 128:Nat):Int) * 128) ||| BitVec.ofInt 32 (IntKind.u32.wrap (IntKind.u32.wrap (IntKind.u8.wrap (BitVec.ofInt 8 ((b2:Nat):Int) &&& BitVec.ofInt 8 127).toNat) * 16384))).toNat = ((b0 % 128:Nat):Int) + ((b1 % 128:Nat):Int) * 128 + ((b2 % 128:Nat):Int) * 16384:=by
  rw [S0 b2 h2]; rw [L8 14 _ _ (by first | omega | (simp only [D5]; omega)) (by first | omega | (simp only [D5]; omega)) (by first | omega | (simp only [D5]; omega)) (by first | omega | (simp only [D5]; omega)) (by first | omega | (simp only [D5]; omega)) (by first | omega | (simp only [D5]; omega))]; first | omega | (simp only [D5]; omega)
 have e3:IntKind.u32.wrap (BitVec.ofInt 32 (((b0 % 128:Nat):Int) + ((b1 % 128:Nat):Int) * 128 + ((b2 % 128:Nat):Int) * 16384) ||| BitVec.ofInt 32 (IntKind.u32.wrap (IntKind.u32.wrap (IntKind.u8.wrap (BitVec.ofInt 8 ((b3:Nat):Int) &&& BitVec.ofInt 8 127).toNat) * 2097152))).toNat = ((b0 % 128:Nat):Int) + ((b1 % 128:Nat):Int) * 128 + ((b2 % 128:Nat):Int) * 16384 + ((b3 % 128:Nat):Int) * 2097152:=by
  rw [S0 b3 h3]; rw [L8 21 _ _ (by first | omega | (simp only [D5]; omega)) (by first | omega | (simp only [D5]; omega)) (by first | omega | (simp only [D5]; omega)) (by first | omega | (simp only [D5]; omega)) (by first | omega | (simp only [D5]; omega)) (by first | omega | (simp only [D5]; omega))]; first | omega | (simp only [D5]; omega)
 rw [e1,e2,e3]
theorem GC (b0 b1 b2 b3 b4:Nat) (h0:b0 < 256) (h1:b1 < 256) (h2:b2 < 256) (h3:b3 < 256) (h4:b4 < 16):IntKind.u32.wrap (BitVec.ofInt 32 (IntKind.u32.wrap (BitVec.ofInt 32 (IntKind.u32.wrap (BitVec.ofInt 32 (IntKind.u32.wrap (BitVec.ofInt 32 (IntKind.u32.wrap (IntKind.u8.wrap (BitVec.ofInt 8 ((b0:Nat):Int) &&& BitVec.ofInt 8 127).toNat)) ||| BitVec.ofInt 32 (IntKind.u32.wrap (IntKind.u32.wrap (IntKind.u8.wrap (BitVec.ofInt 8 ((b1:Nat):Int) &&& BitVec.ofInt 8 127).toNat) * 128))).toNat) ||| BitVec.ofInt 32 (IntKind.u32.wrap (IntKind.u32.wrap (IntKind.u8.wrap (BitVec.ofInt 8 ((b2:Nat):Int) &&& BitVec.ofInt 8 127).toNat) * 16384))).toNat) ||| BitVec.ofInt 32 (IntKind.u32.wrap (IntKind.u32.wrap (IntKind.u8.wrap (BitVec.ofInt 8 ((b3:Nat):Int) &&& BitVec.ofInt 8 127).toNat) * 2097152))).toNat) ||| BitVec.ofInt 32 (IntKind.u32.wrap (IntKind.u32.wrap (((b4:Nat):Int)) * 268435456))).toNat = ((b0 % 128:Nat):Int) + ((b1 % 128:Nat):Int) * 128 + ((b2 % 128:Nat):Int) * 16384 + ((b3 % 128:Nat):Int) * 2097152 + ((b4:Nat):Int) * 268435456:=by
 have e1:IntKind.u32.wrap (BitVec.ofInt 32 (IntKind.u32.wrap (IntKind.u8.wrap (BitVec.ofInt 8 ((b0:Nat):Int) &&& BitVec.ofInt 8 127).toNat)) ||| BitVec.ofInt 32 (IntKind.u32.wrap (IntKind.u32.wrap (IntKind.u8.wrap (BitVec.ofInt 8 ((b1:Nat):Int) &&& BitVec.ofInt 8 127).toNat) * 128))).toNat = ((b0 % 128:Nat):Int) + ((b1 % 128:Nat):Int) * 128:=by
  rw [S0 b1 h1,S0 b0 h0]; rw [L8 7 _ _ (by first | omega | (simp only [D5]; omega)) (by first | omega | (simp only [D5]; omega)) (by first | omega | (simp only [D5]; omega)) (by first | omega | (simp only [D5]; omega)) (by first | omega | (simp only [D5]; omega)) (by first | omega | (simp only [D5]; omega))]; first | omega | (simp only [D5]; omega)
 have e2:IntKind.u32.wrap (BitVec.ofInt 32 (((b0 % 128:Nat):Int) + ((b1 % 128:Nat):Int) * 128) ||| BitVec.ofInt 32 (IntKind.u32.wrap (IntKind.u32.wrap (IntKind.u8.wrap (BitVec.ofInt 8 ((b2:Nat):Int) &&& BitVec.ofInt 8 127).toNat) * 16384))).toNat = ((b0 % 128:Nat):Int) + ((b1 % 128:Nat):Int) * 128 + ((b2 % 128:Nat):Int) * 16384:=by
  rw [S0 b2 h2]; rw [L8 14 _ _ (by first | omega | (simp only [D5]; omega)) (by first | omega | (simp only [D5]; omega)) (by first | omega | (simp only [D5]; omega)) (by first | omega | (simp only [D5]; omega)) (by first | omega | (simp only [D5]; omega)) (by first | omega | (simp only [D5]; omega))]; first | omega | (simp only [D5]; omega)
 have e3:IntKind.u32.wrap (BitVec.ofInt 32 (((b0 % 128:Nat):Int) + ((b1 % 128:Nat):Int) * 128 + ((b2 % 128:Nat):Int) * 16384) ||| BitVec.ofInt 32 (IntKind.u32.wrap (IntKind.u32.wrap (IntKind.u8.wrap (BitVec.ofInt 8 ((b3:Nat):Int) &&& BitVec.ofInt 8 127).toNat) * 2097152))).toNat = ((b0 % 128:Nat):Int) + ((b1 % 128:Nat):Int) * 128 + ((b2 % 128:Nat):Int) * 16384 + ((b3 % 128:Nat):Int) * 2097152:=by
  rw [S0 b3 h3]; rw [L8 21 _ _ (by first | omega | (simp only [D5]; omega)) (by first | omega | (simp only [D5]; omega)) (by first | omega | (simp only [D5]; omega)) (by first | omega | (simp only [D5]; omega)) (by first | omega | (simp only [D5]; omega)) (by first | omega | (simp only [D5]; omega))]; first | omega | (simp only [D5]; omega)
 have e4:IntKind.u32.wrap (BitVec.ofInt 32 (((b0 % 128:Nat):Int) + ((b1 % 128:Nat):Int) * 128 + ((b2 % 128:Nat):Int) * 16384 + ((b3 % 128:Nat):Int) * 2097152) ||| BitVec.ofInt 32 (IntKind.u32.wrap (IntKind.u32.wrap (((b4:Nat):Int)) * 268435456))).toNat = ((b0 % 128:Nat):Int) + ((b1 % 128:Nat):Int) * 128 + ((b2 % 128:Nat):Int) * 16384 + ((b3 % 128:Nat):Int) * 2097152 + ((b4:Nat):Int) * 268435456:=by
  rw [L8 28 _ _ (by first | omega | (simp only [D5]; omega)) (by first | omega | (simp only [D5]; omega)) (by first | omega | (simp only [D5]; omega)) (by first | omega | (simp only [D5]; omega)) (by first | omega | (simp only [D5]; omega)) (by first | omega | (simp only [D5]; omega))]; first | omega | (simp only [D5]; omega)
 rw [e1,e2,e3,e4]
theorem Nd {G:Nat → Nat → Prop} {w0 w:World} {tb:Tb} {rs:List Rw} {p n:Nat} {cs:List Value} (i:Nat) (hi:tb[i]? = some ⟨p,0,cs,true⟩) (hn:cs.length = n:=by rfl):∀ b o,H1 G w0 w tb rs b o → ¬ (b = p ∧ o < n):=by
 subst hn
 exact Ji i hi
theorem P8 {G:Nat → Nat → Prop} {w0 w:World} {tb:Tb} {rs:List Rw} {p:Nat} {x y:Value} (i:Nat) (hi:tb[i]? = some ⟨p,0,[x,y],true⟩):∀ b o,H1 G w0 w tb rs b o → ¬ G5 p b o:=Ji i hi
theorem Nf {G:Nat → Nat → Prop} {w0 w:World} {tb:Tb} {rs:List Rw} {b o:Nat} (h:H1 G w0 w tb rs b o):H1 G w0 w [] rs b o:=by
 refine ⟨h.1,h.2.1,fun ha=>h.2.2 ?_⟩
 rcases ha with ⟨i,ob,hi,_⟩ | ha
 ·simp at hi
 exact .inr ha
theorem WOk.immM {G:Nat → Nat → Prop} {w0 w:World} {M:Nat → Nat → Prop} {tb:Tb} {rs:List Rw} (h:WOk w0 M w tb rs) (hd:∀ b o,G b o → ¬ M b o):∀ b o,G b o → b < w0.heap.size → H1 G w0 w tb rs b o:=by
 refine fun b o hg hb=>⟨.inl hg,Nat.lt_of_lt_of_le hb h.step.size,fun ha=>hd b o hg ?_⟩
 rcases ha with ⟨i,ob,hi,hr,rfl,h1,h2⟩ | ⟨i,r,hi,hr⟩
 ·have:=(h.rw_ i ob hi hr (o - ob.off) (by omega)).1
  rw [show ob.off + (o - ob.off) = o by omega] at this
  rcases this with h3 | h3
  ·omega
  exact h3
 rcases h.ownM i r hi b hr with h3 | h3
 ·omega
 exact h3 o
section
variable {w0 w:World} {M:Nat → Nat → Prop} {tb:Tb} {rs:List Rw}
theorem WOk.layRowM {g c e size n k:Nat} {xs:List Value} (hW:WOk w0 M w tb rs) (hk:rs[k]? = some ⟨some ⟨g,0,none⟩,c,e,size,n,xs⟩) (hl:k + 1 = rs.length) (hm:w0.heap.size ≤ g) (rs':List Rw) (tb':Tb) (hr:rs.take k = rs':=by rfl) (ht:tb ++ [⟨g,0,xs,true⟩] = tb':=by rfl):WOk w0 M w tb' rs' ∧ Fr w tb rs w tb' rs':=by
 subst hr ht
 have ho:=hW.own k _ hk
 have hlive:=O5 ho (g:=g) rfl
 have hfz:∀ j,w.frozen? ⟨g,j,none⟩ = false:=fun j=>by
  rcases ho.2 with ⟨hv,_⟩ | ⟨g',cap,cur,hv,_,hg,_⟩
  ·cases hv
  simp only [Rw.v,Value.slice.injEq,Option.some.injEq,Addr.mk.injEq,and_true] at hv
  obtain ⟨rfl,_⟩:=hv
  unfold World.frozen?
  rw [hg]
  simp
 have hlt:∀ (j:Nat) (r:Rw),(rs.take k)[j]? = some r → j ≠ k ∧ rs[j]? = some r:=fun j r hj=>by
  rw [List.getElem?_take] at hj
  split at hj
  ·exact ⟨by omega,hj⟩
  cases hj
 refine ⟨(hW.rows k).add ⟨g,0,xs,true⟩ hlive (fun j v hj=>?_) (fun _ j _=>⟨.inl hm,by dsimp only; rw [Nat.zero_add]; exact hfz j⟩) (fun i q hi _=>.inl (hW.rtb k _ hk g rfl i q hi)) (fun i r hi he=>?_),⟨fun x y _ hn ha=>hn ?_,Step.refl _ _⟩⟩
 ·have:=ho.cells (g:=g) rfl j v hj
  rw [P5] at this
  dsimp only
  exact this
 ·obtain ⟨h1,h2⟩:=hlt i r hi
  exact hW.rr k i _ r (fun e=>h1 e.symm) hk h2 g rfl he
 rcases ha with ⟨j,q,hj,h1,h2,h3,h4⟩ | ⟨j,r,hj,h1⟩
 ·by_cases hjt:j < tb.length
  ·rw [List.getElem?_append_left hjt] at hj
   exact .inl ⟨j,q,hj,h1,h2,h3,h4⟩
  rw [List.getElem?_append_right (Nat.not_lt.1 hjt)] at hj
  have hq:q = ⟨g,0,xs,true⟩:=by
   rcases Nat.eq_zero_or_pos (j - tb.length) with h | h
   ·rw [h] at hj; exact (Option.some.inj hj).symm
   rw [List.getElem?_eq_none (by simp only [List.length_cons,List.length_nil]; omega)] at hj; cases hj
  subst hq
  exact .inr ⟨k,_,hk,by rw [← h2]; rfl⟩
 exact .inr ⟨j,r,(hlt j r hj).2,h1⟩
def P4 (z:Value) (j:Nat):List Value:=(Builtin.zeroCells z.cells j).toList
variable {P:Program} {ops:Array Oper} {Q:Exit → Act → World → Prop} {n:Nat} {env:B8} {a:Act}
theorem Ng {w:World} (size len cap:Nat) (A:Option Addr):(Builtin.firstCells size 0 (.slice A len cap)).run P w = .ok #[] w:=by
 cases A with
 | none=>exact run_firstCells_none w size 0 len cap
 | some b=>exact run_firstCells_some w size 0 b len cap [] (by simp) (fun j v h=>by simp at h)
theorem Nh (w:World) (t tn ty e:TypeId) (A0:Option Addr) (i:TypeInfo) (z:Value) (k kn:IntKind) (ht:P.underlying t = some (.slice e)) (htn:P.underlying tn = some (.int kn)) (hi:P.info? e = some i) (hz:i.zero = some z)
  (n:Nat) (h0:0 < n) (hs:0 < i.size) (h63:(n:Int) ≤ 9223372036854775807) (h48:n * i.bytes ≤ 281474976710656) :
  (Builtin.append_ #[t,tn] ty #[.slice A0 0 0,.int k n]).run P w =
   .ok (.slice (some ⟨w.heap.size,0,none⟩) n (grownCap w n 0 e)) (w.drew.alloc (.cells (Builtin.zeroCells z.cells n ++ Builtin.zeroCells z.cells (grownCap w n 0 e - n)) e)):=by
 cases A0 with
 | none=>exact Lib.run_append_nil_zeros w t tn ty e i z k kn ht htn hi hz n h0 hs h63 h48
 | some b =>
  have hn:n ≠ 0:=by omega
  have hw:IntKind.i64.wrap (n:Int) = n:=by rw [IntKind.wrap_i64]; omega
  have h63':¬ (9223372036854775807 < (n:Int)):=by omega
  have h48':¬ (281474976710656 < Builtin.nextslicecap n 0 * i.bytes):=by rw [nextslicecap_zero h0]; omega
  have h48i:¬ (281474976710656 < (n:Int) * (i.bytes:Int)):=by
   rw [← Int.natCast_mul]
   omega
  have hneg:¬ ((n:Int) < 0):=by omega
  have hns:¬ (n * i.size = 0):=Nat.mul_ne_zero hn (by omega)
  simp [Builtin.append_,run_underlying ht,run_underlying htn,sizeOf,typeInfo,zeroValue,hi,hz,asInt,asIntOf,hw,hn,hneg,hns,h63',h48',h48i,Question.forced,Ng,newRow,grownCap]
theorem Ni {i d j:Nat} {A0:Option Addr} {t tn e:TypeId} {size bytes:Nat} {k kn:IntKind} {q:Int} {z:Value} {N:Act → World → Prop} (hW:WOk w0 M w tb rs) (hE:EnvOk n tb env a)
  (h:M6 tb env ops n i = some (t,tn,.slice A0 0 0,.int k q,d)) (ht:J0 P t = some (e,size,bytes)) (htn:P.underlying tn = some (.int kn)) (hz:(P.info? e).bind (·.zero) = some z)
  (hq:q = (j:Int)) (hj:0 < j) (hb:j * bytes ≤ 140737488355328)
  (K:∀ b c a' w',b = w.heap.size → w0.heap.size ≤ b → Fr w tb rs w' tb (rs ++ [⟨some ⟨b,0,none⟩,c,e,size,j,P4 z j⟩]) → WOk w0 M w' tb (rs ++ [⟨some ⟨b,0,none⟩,c,e,size,j,P4 z j⟩]) →
   EnvOk n tb ((d,.v (.slice (some ⟨b,0,none⟩) j c)) :: env) a' → N a' w'):wpOp P ops Q i N a w:=by
 subst hq
 obtain ⟨ht',inf,z',hi,hz',hzs,hs1,rfl,hsz,hbp⟩:=T1 ht
 have hzz:z' = z:=by rw [hi] at hz; simpa [hz'] using hz
 subst hzz
 obtain ⟨op,ho,hd,hrun⟩:=Fi (P:=P) (w:=w) hE h
 obtain ⟨o,h1,h2,h3,h4,h5⟩:=I6 hE ho
 have hjm:j ≤ maxLen:=by
  have:=Nat.le_mul_of_pos_right j hbp
  simp only [maxLen]; omega
 have hr:=Nh (P:=P) w t tn o.type e A0 inf z' k kn ht' htn hi hz' j hj (by omega) (by simp only [maxLen] at hjm; omega) (by omega)
 have hge:=grownCap_ge w j 0 e
 have hcm:=grownCap_le_maxLen w j 0 e hjm
 have hst:Step w (w.drew.alloc (.cells (Builtin.zeroCells z'.cells j ++ Builtin.zeroCells z'.cells (grownCap w j 0 e - j)) e)) C7:=(Step.drew w).trans (Step.alloc _ _) fun _ _ _ h=>h
 have hown:(w.drew.alloc (.cells (Builtin.zeroCells z'.cells j ++ Builtin.zeroCells z'.cells (grownCap w j 0 e - j)) e)).ownsRow w.heap.size e size (.slice (some ⟨w.heap.size,0,none⟩) j (grownCap w j 0 e)) j (P4 z' j):=by
  refine ⟨by unfold P4; rw [Array.length_toList,size_zeroCells,hzs,hs1],.inr ⟨w.heap.size,grownCap w j 0 e,_,rfl,Nat.le_refl _,X4 w.drew _,hge,hcm,?_,?_⟩⟩
  ·rw [Array.size_append,size_zeroCells,size_zeroCells,hzs,hs1,← Nat.add_mul]
   congr 1
   omega
  unfold P4
  rw [Array.toList_append]
  exact List.take_left' (by rw [Array.length_toList,size_zeroCells,hzs,hs1])
 simp only [wpOp,h1]
 have:Region.wanted o (yielded ops a.tmps) = true:=by first | exact h2 | simp [Region.wanted,h2]
 rw [this]
 simp only [if_true]
 refine .inl ?_
 unfold Oper.wp
 rw [hrun o _ _ h5 hr,Oper.upon,h3]
 exact K w.heap.size _ _ _ rfl hW.step.size (Fr.fresh tb rs hst ⟨some ⟨w.heap.size,0,none⟩,grownCap w j 0 e,e,size,j,P4 z' j⟩ (Nat.le_refl _) hown) (hW.fresh hst ⟨some ⟨w.heap.size,0,none⟩,grownCap w j 0 e,e,size,j,P4 z' j⟩ (Nat.le_refl _) hown) (hE.put hd (.v _) trivial)
theorem Nj (z:Value) (j:Nat):P4 z (j + 1) = z.cells.toList ++ P4 z j:=by
 refine List.ext_getElem? fun i=>?_
 unfold P4 Builtin.zeroCells
 rw [List.getElem?_append]
 simp only [Array.toList_map,Array.toList_range,List.getElem?_map,Array.length_toList,Array.getElem?_toList]
 by_cases h:i < z.cells.size
 ·have h2:i < (j + 1) * z.cells.size:=Nat.lt_of_lt_of_le h (Nat.le_mul_of_pos_left _ (Nat.succ_pos j))
  rw [if_pos h,List.getElem?_range h2,Option.map_some,Nat.mod_eq_of_lt h,getElem!_pos z.cells i h,Array.getElem?_eq_getElem h]
 rw [if_neg h]
 by_cases h2:i < (j + 1) * z.cells.size
 ·have h3:i - z.cells.size < j * z.cells.size:=by rw [Nat.succ_mul] at h2; omega
  rw [List.getElem?_range h2,List.getElem?_range h3,Option.map_some,Option.map_some,Nat.mod_eq_sub_mod (Nat.not_lt.1 h)]
 have h3:¬ i - z.cells.size < j * z.cells.size:=by rw [Nat.succ_mul] at h2; omega
 rw [List.getElem?_eq_none (by simpa using h2),List.getElem?_eq_none (by simpa using h3)]
end
end Go.Proofs.YtoclgihkbmaolacGreatDoor.ME