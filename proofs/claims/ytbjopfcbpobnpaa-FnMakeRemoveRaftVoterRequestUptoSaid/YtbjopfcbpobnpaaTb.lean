/- Tags laid into a map. Own work. -/
import Derived.Test.YtbjopfcbpobnpaaTa
namespace Go.Proofs.Ytbjopfcbpobnpaa.ME
open Go
open Go.RowKit
open Go.ChangeMaps (setBlock)
set_option linter.unusedVariables false
set_option linter.unusedSimpArgs false

/-- a tag set among tags by rising numbers -/
def setT : List (Int × Bs) → Int → Bs → List (Int × Bs)
  | [], k, s => [(k, s)]
  | x :: r, k, s => if k < x.1 then (k, s) :: x :: r else if k = x.1 then (k, s) :: r else x :: setT r k s
theorem setT_mem {k : Int} {s : Bs} : ∀ {u : List (Int × Bs)}, (u.Pairwise fun x y => x.1 < y.1) → ∀ x, x ∈ setT u k s ↔ x = (k, s) ∨ (x ∈ u ∧ x.1 ≠ k)
  | [], _, x => by simp [setT]
  | y :: r, h, x => by
    have h1 := @List.rel_of_pairwise_cons _ _ _ _ h
    have ih := setT_mem (k := k) (s := s) (List.Pairwise.of_cons h) x
    unfold setT
    split
    · rename_i hlt
      simp only [List.mem_cons]
      constructor
      · rintro (rfl | rfl | hx)
        · exact .inl rfl
        · exact .inr ⟨.inl rfl, by omega⟩
        · exact .inr ⟨.inr hx, by have := h1 hx; omega⟩
      · rintro (rfl | ⟨rfl | hx, _⟩)
        · exact .inl rfl
        · exact .inr (.inl rfl)
        · exact .inr (.inr hx)
    · split
      · rename_i hge heq
        simp only [List.mem_cons]
        constructor
        · rintro (rfl | hx)
          · exact .inl rfl
          · exact .inr ⟨.inr hx, by have := h1 hx; omega⟩
        · rintro (rfl | ⟨rfl | hx, hne⟩)
          · exact .inl rfl
          · exact absurd heq.symm hne
          · exact .inr hx
      · rename_i hge hne
        simp only [List.mem_cons, ih]
        constructor
        · rintro (rfl | rfl | ⟨hx, hk⟩)
          · exact .inr ⟨.inl rfl, fun e => hne e.symm⟩
          · exact .inl rfl
          · exact .inr ⟨.inr hx, hk⟩
        · rintro (rfl | ⟨rfl | hx, hk⟩)
          · exact .inr (.inl rfl)
          · exact .inl rfl
          · exact .inr (.inr ⟨hx, hk⟩)
theorem setT_sorted {k : Int} {s : Bs} : ∀ {u : List (Int × Bs)}, (u.Pairwise fun x y => x.1 < y.1) → (setT u k s).Pairwise fun x y => x.1 < y.1
  | [], _ => by simp [setT]
  | y :: r, h => by
    have h1 := @List.rel_of_pairwise_cons _ _ _ _ h
    have ih := setT_sorted (k := k) (s := s) (List.Pairwise.of_cons h)
    unfold setT
    split
    · rename_i hlt
      refine List.pairwise_cons.2 ⟨fun z hz => ?_, h⟩
      rcases List.mem_cons.1 hz with rfl | hz
      · exact hlt
      · have := h1 hz; show k < z.1; omega
    · split
      · rename_i hge heq
        refine List.pairwise_cons.2 ⟨fun z hz => ?_, List.Pairwise.of_cons h⟩
        have := h1 hz; show k < z.1; omega
      · rename_i hge hne
        refine List.pairwise_cons.2 ⟨fun z hz => ?_, ih⟩
        rcases (setT_mem (List.Pairwise.of_cons h) z).1 hz with rfl | ⟨hz, _⟩
        · show y.1 < k; omega
        · exact h1 hz
/-- behind all others -/
theorem setT_last {k : Int} {s : Bs} : ∀ {u : List (Int × Bs)}, (∀ x ∈ u, x.1 < k) → setT u k s = u ++ [(k, s)]
  | [], _ => rfl
  | y :: r, h => by
    have h1 := h y (List.mem_cons_self ..)
    unfold setT
    rw [if_neg (by omega), if_neg (by omega), setT_last fun x hx => h x (List.mem_cons_of_mem _ hx)]
    rfl

/-- a map's entries are these tags -/
structure MapC (w : World) (G : Nat → Nat → Prop) (es : Array MapEntry) (clk : Nat) (u : List (Int × Bs)) : Prop where
  sorted : u.Pairwise fun x y => x.1 < y.1
  range : ∀ x ∈ u, 0 ≤ x.1 ∧ x.1 < 4294967296
  keys : (es.toList.map (·.key)).Perm (u.map fun x => Value.int .u32 x.1)
  born : ∀ e ∈ es.toList, e.born < clk
  once : (es.toList.map (·.born)).Nodup
  each : ∀ e ∈ es.toList, ∃ k s A c, e.key = .int .u32 k ∧ e.val = .slice A (s : Bs).length c ∧ Octs w G A c s ∧ (k, s) ∈ u
theorem MapC.move {w w' : World} {F F' M : Nat → Nat → Prop} {es : Array MapEntry} {clk : Nat} {u : List (Int × Bs)} (h : MapC w F es clk u) (hs : Step w w' M) (hM : ∀ b o, F b o → b < w.heap.size → ¬ M b o) (hF : ∀ b o, F b o → b < w.heap.size → F' b o) : MapC w' F' es clk u :=
  ⟨h.sorted, h.range, h.keys, h.born, h.once, fun e he => by
    obtain ⟨k, s, A, c, g1, g2, g3, g4⟩ := h.each e he
    exact ⟨k, s, A, c, g1, g2, g3.move hs hM hF, g4⟩⟩
/-- a map that the call may write -/
structure OwnM (w : World) (G : Nat → Nat → Prop) (m : Option Nat) (u : List (Int × Bs)) : Prop where
  none_ : m = none → u = []
  some_ : ∀ r, m = some r → ∃ es clk, w.heap[r]? = some (.map es clk) ∧ MapC w G es clk u
theorem OwnM.nil (w : World) (G : Nat → Nat → Prop) : OwnM w G none [] := ⟨fun _ => rfl, fun _ h => by cases h⟩
theorem OwnM.move {w w' : World} {F F' M : Nat → Nat → Prop} {m : Option Nat} {u : List (Int × Bs)} (h : OwnM w F m u) (hs : Step w w' M) (hM : ∀ b o, F b o → b < w.heap.size → ¬ M b o) (hF : ∀ b o, F b o → b < w.heap.size → F' b o) (hr : ∀ r o, m = some r → ¬ M r o) : OwnM w' F' m u :=
  ⟨h.none_, fun r e => by
    obtain ⟨es, clk, h1, h2⟩ := h.some_ r e
    exact ⟨es, clk, hs.heap (fun o => hr r o e) h1, h2.move hs hM hF⟩⟩
theorem OwnM.map {w : World} {G F : Nat → Nat → Prop} {m : Option Nat} {u : List (Int × Bs)} (h : OwnM w G m u) (hG : ∀ b o, G b o → F b o) (hr : ∀ r o, m = some r → F r o) (hsorted : u.Pairwise fun x y => x.1 < y.1) (hrange : ∀ x ∈ u, 0 ≤ x.1 ∧ x.1 < 4294967296) : MapR w F m u := by
  refine ⟨hsorted, hrange, h.none_, fun r e => ⟨fun o => hr r o e, ?_⟩⟩
  obtain ⟨es, clk, h1, h2⟩ := h.some_ r e
  have h2' := h2.move (Step.refl w Nil) nilM (fun b o hg _ => hG b o hg)
  exact ⟨es, clk, h1, h2'.keys, h2'.born, h2'.once, h2'.each⟩

theorem nodup_keys {u : List (Int × Bs)} (h : u.Pairwise fun x y => x.1 < y.1) : (u.map fun x => Value.int .u32 x.1).Nodup := by
  rw [List.nodup_iff_pairwise_ne, List.pairwise_map]
  exact h.imp fun h e => by injection e with _ e; omega

theorem Step.setBlock (w : World) (r : Nat) (o : Obj) : Step w (setBlock w r o) (fun b _ => b = r) := by
  refine ⟨rfl, rfl, by simp [ChangeMaps.setBlock], fun b hb => ?_⟩
  by_cases h : b = r
  · exact ⟨fun hm => absurd h (hm 0), fun ⟨o, ho⟩ => absurd h ho⟩
  · have : (ChangeMaps.setBlock w r o).heap[b]? = w.heap[b]? := by
      simp only [ChangeMaps.setBlock, Array.getElem?_setIfInBounds]
      rw [if_neg fun e => h e.symm]
    rw [this]; exact Keeps.refl _ _
theorem heap_setBlock {w : World} {r : Nat} {o o' : Obj} (h : w.heap[r]? = some o') : (setBlock w r o).heap[r]? = some o := by
  have hlt : r < w.heap.size := (Array.getElem?_eq_some_iff.1 h).1
  simp only [ChangeMaps.setBlock, Array.getElem?_setIfInBounds, if_true, if_pos hlt]

section
variable {P : Program} {w : World} {G : Nat → Nat → Prop}
theorem run_setObj' {r : Nat} {es : Array MapEntry} {clk : Nat} (hr : w.heap[r]? = some (.map es clk)) (es' : Array MapEntry) (clk' : Nat) : (setObj r (.map es' clk')).run P w = .ok () (setBlock w r (.map es' clk')) := by
  simp [setObj, Sem.run, hr, setBlock]
theorem run_mapUpdate' {t kt et : TypeId} {r : Nat} {es : Array MapEntry} {clk : Nat} {u : List (Int × Bs)} {k : Int} {A : Option Addr} {c : Nat} {s : Bs} (ht : mapTy P t = some (kt, et)) (hkt : P.underlying kt = some (.int .u32)) (hr : w.heap[r]? = some (.map es clk)) (hm : MapC w G es clk u)
    (hs : Octs w G A c s) (hk : 0 ≤ k ∧ k < 4294967296) (hG : ∀ b o, G b o → b ≠ r) : ∃ es' clk', (Instr.mapUpdate t (.map (some r)) (.int .u32 k) (.slice A s.length c)).run P w = .ok () (setBlock w r (.map es' clk')) ∧ MapC (setBlock w r (.map es' clk')) G es' clk' (setT u k s) := by
  have hkeys : ∀ e ∈ es.toList, ∃ q, e.key = .int .u32 q := fun e he => by
    obtain ⟨q, _, _, _, h, _⟩ := hm.each e he; exact ⟨q, h⟩
  have hstep := fun es' clk' => Step.setBlock w r (.map es' clk')
  have hmove : ∀ es' clk' {A c} {s : Bs}, Octs w G A c s → Octs (setBlock w r (.map es' clk')) G A c s := fun es' clk' {A c s} h => h.move (hstep es' clk') (fun b o hg _ => hG b o hg) keepF
  have hsT := setT_sorted (k := k) (s := s) hm.sorted
  have hrT : ∀ x ∈ setT u k s, 0 ≤ x.1 ∧ x.1 < 4294967296 := fun x hx => by
    rcases (setT_mem hm.sorted x).1 hx with rfl | ⟨hx, _⟩
    · exact hk
    · exact hm.range x hx
  rcases findNow_int (k := k) es.toList 0 hkeys with ⟨h1, h2⟩ | ⟨j, e, h1, h2, h3, h4⟩
  · -- a new key
    refine ⟨es.push { key := .int .u32 k, val := .slice A s.length c, born := clk }, clk + 1, ?_, ?_⟩
    · unfold Instr.mapUpdate
      simp only [Sem.run_bind, run_underlying (mapTy_ok ht), Result.andThen_ok, run_getObj' hr, checkKey_int hkt, findKey_int hkt h1, run_setObj' hr]
    · have hnew : ∀ x ∈ u, x.1 ≠ k := fun x hx e => by
        have : Value.int .u32 k ∈ es.toList.map (·.key) := hm.keys.mem_iff.2 (List.mem_map.2 ⟨x, hx, by rw [e]⟩)
        obtain ⟨e', he', hk'⟩ := List.mem_map.1 this
        exact h2 e' he' hk'
      refine ⟨hsT, hrT, ?_, fun e he => ?_, ?_, fun e he => ?_⟩
      · have hn1 : ((es.push { key := .int .u32 k, val := .slice A s.length c, born := clk }).toList.map (·.key)).Nodup := by
          rw [Array.toList_push, List.map_append, List.nodup_append]
          refine ⟨hm.keys.nodup_iff.2 (nodup_keys hm.sorted), by simp, fun a ha b hb => ?_⟩
          simp only [List.map_cons, List.map_nil, List.mem_singleton] at hb
          subst hb
          obtain ⟨e', he', rfl⟩ := List.mem_map.1 ha
          exact h2 e' he'
        refine (List.perm_ext_iff_of_nodup hn1 (nodup_keys hsT)).2 fun v => ?_
        rw [Array.toList_push, List.map_append, List.mem_append, hm.keys.mem_iff]
        simp only [List.map_cons, List.map_nil, List.mem_singleton, List.mem_map]
        constructor
        · rintro (⟨x, hx, rfl⟩ | rfl)
          · exact ⟨x, (setT_mem hm.sorted x).2 (.inr ⟨hx, hnew x hx⟩), rfl⟩
          · exact ⟨(k, s), (setT_mem hm.sorted _).2 (.inl rfl), rfl⟩
        · rintro ⟨x, hx, rfl⟩
          rcases (setT_mem hm.sorted x).1 hx with rfl | ⟨hx, _⟩
          · exact .inr rfl
          · exact .inl ⟨x, hx, rfl⟩
      · rw [Array.toList_push, List.mem_append] at he
        rcases he with he | he
        · have := hm.born e he; omega
        · rw [List.mem_singleton.1 he]; exact Nat.lt_succ_self _
      · rw [Array.toList_push, List.map_append, List.nodup_append]
        refine ⟨hm.once, by simp, fun a ha b hb => ?_⟩
        simp only [List.map_cons, List.map_nil, List.mem_singleton] at hb
        subst hb
        obtain ⟨e', he', rfl⟩ := List.mem_map.1 ha
        have := hm.born e' he'
        omega
      · rw [Array.toList_push, List.mem_append] at he
        rcases he with he | he
        · obtain ⟨q, s', A', c', g1, g2, g3, g4⟩ := hm.each e he
          exact ⟨q, s', A', c', g1, g2, hmove _ _ g3, (setT_mem hm.sorted _).2 (.inr ⟨g4, hnew _ g4⟩)⟩
        · rw [List.mem_singleton.1 he]
          exact ⟨k, s, A, c, rfl, rfl, hmove _ _ hs, (setT_mem hm.sorted _).2 (.inl rfl)⟩
  · -- a key that is there
    have hj : j < es.size := by have := (List.getElem?_eq_some_iff.1 h1).1; simpa using this
    have hej : es[j]? = some e := by simpa using h1
    have hmap : ∀ {β : Type} (g : MapEntry → β), (∀ v, g { e with key := .int .u32 k, val := v } = g e) → (es.modify j fun e => { e with key := .int .u32 k, val := .slice A s.length c }).toList.map g = es.toList.map g := fun {β} g hg => by
      apply List.ext_getElem?
      intro i
      rw [List.getElem?_map, List.getElem?_map]
      simp only [Array.getElem?_toList, Array.getElem?_modify]
      split
      · rename_i hij
        subst hij
        rw [hej]
        simp only [Option.map_some]
        rw [hg]
      · rfl
    have hmem : ∀ x ∈ (es.modify j fun e => { e with key := .int .u32 k, val := .slice A s.length c }).toList, x = { e with key := .int .u32 k, val := .slice A s.length c } ∨ ∃ i, i ≠ j ∧ es.toList[i]? = some x := fun x hx => by
      obtain ⟨i, hi⟩ := List.getElem?_of_mem hx
      simp only [Array.getElem?_toList, Array.getElem?_modify] at hi
      split at hi
      · rename_i hij
        subst hij
        rw [hej] at hi
        exact .inl (Option.some.inj hi).symm
      · rename_i hij
        exact .inr ⟨i, fun e => hij e.symm, by simpa using hi⟩
    have hke : e.key = .int .u32 k := h2
    refine ⟨es.modify j fun e => { e with key := .int .u32 k, val := .slice A s.length c }, clk, ?_, ?_⟩
    · unfold Instr.mapUpdate
      have hst : (Instr.keyThatStays (((es[j]?).map (·.key)).getD (.int .u32 k)) (.int .u32 k)).run P w = .ok (.int .u32 k) w := by
        rw [hej]
        unfold Instr.keyThatStays
        simp only [Option.map_some, Option.getD_some, hke]
        have : Instr.sameBits 10000 (.int .u32 k) (.int .u32 k) = true := by
          show Instr.sameBits (9999 + 1) _ _ = true
          generalize 9999 = d
          simp [Instr.sameBits]
        rw [this]; rfl
      simp only [Sem.run_bind, run_underlying (mapTy_ok ht), Result.andThen_ok, run_getObj' hr, checkKey_int hkt, findKey_int hkt h3, hst, run_setObj' hr, Nat.zero_add]
    · have hkeq : (es.modify j fun e => { e with key := .int .u32 k, val := .slice A s.length c }).toList.map (·.key) = es.toList.map (·.key) := hmap (·.key) fun v => hke.symm
      have hbeq : (es.modify j fun e => { e with key := .int .u32 k, val := .slice A s.length c }).toList.map (·.born) = es.toList.map (·.born) := hmap (·.born) fun v => rfl
      have hnd : (es.toList.map (·.key)).Nodup := hm.keys.nodup_iff.2 (nodup_keys hm.sorted)
      have hkin : ∃ x ∈ u, x.1 = k := by
        have : Value.int .u32 k ∈ u.map fun x => Value.int .u32 x.1 := hm.keys.mem_iff.1 (List.mem_map.2 ⟨e, List.mem_of_getElem? h1, hke⟩)
        obtain ⟨x, hx, he⟩ := List.mem_map.1 this
        injection he with _ he
        exact ⟨x, hx, he⟩
      refine ⟨hsT, hrT, ?_, fun x hx => ?_, by rw [hbeq]; exact hm.once, fun x hx => ?_⟩
      · rw [hkeq]
        refine (List.perm_ext_iff_of_nodup hnd (nodup_keys hsT)).2 fun v => ?_
        rw [hm.keys.mem_iff]
        simp only [List.mem_map]
        constructor
        · rintro ⟨x, hx, rfl⟩
          by_cases hxk : x.1 = k
          · exact ⟨(k, s), (setT_mem hm.sorted _).2 (.inl rfl), by rw [hxk]⟩
          · exact ⟨x, (setT_mem hm.sorted x).2 (.inr ⟨hx, hxk⟩), rfl⟩
        · rintro ⟨x, hx, rfl⟩
          rcases (setT_mem hm.sorted x).1 hx with rfl | ⟨hx, _⟩
          · obtain ⟨y, hy, hye⟩ := hkin
            exact ⟨y, hy, by rw [hye]⟩
          · exact ⟨x, hx, rfl⟩
      · rcases hmem x hx with rfl | ⟨i, _, hi⟩
        · exact hm.born e (List.mem_of_getElem? h1)
        · exact hm.born x (List.mem_of_getElem? hi)
      · rcases hmem x hx with rfl | ⟨i, hij, hi⟩
        · exact ⟨k, s, A, c, rfl, rfl, hmove _ _ hs, (setT_mem hm.sorted _).2 (.inl rfl)⟩
        · obtain ⟨q, s', A', c', g1, g2, g3, g4⟩ := hm.each x (List.mem_of_getElem? hi)
          refine ⟨q, s', A', c', g1, g2, hmove _ _ g3, (setT_mem hm.sorted _).2 (.inr ⟨g4, fun hq => hij ?_⟩)⟩
          have hxi : (es.toList.map (·.key))[i]? = some (.int .u32 k) := by rw [List.getElem?_map, hi, Option.map_some, g1]; dsimp only at hq; rw [hq]
          have hxj : (es.toList.map (·.key))[j]? = some (.int .u32 k) := by rw [List.getElem?_map, h1, Option.map_some, hke]
          exact (List.getElem?_inj (List.getElem?_eq_some_iff.1 hxi).1 hnd).1 (hxi.trans hxj.symm)
end

end Go.Proofs.Ytbjopfcbpobnpaa.ME
