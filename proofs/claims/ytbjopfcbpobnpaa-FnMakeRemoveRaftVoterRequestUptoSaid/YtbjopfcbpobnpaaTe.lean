/- A map gone through, and a sorted row: what the operations do. Own work. -/
import Derived.Test.YtbjopfcbpobnpaaTd
import Derived.Test.YtbjopfcbpobnpaaTs
namespace Go.Proofs.Ytbjopfcbpobnpaa.ME
open Go
open Go.RowKit
open Go.ChangeMaps (setBlock)
set_option linter.unusedVariables false
set_option linter.unusedSimpArgs false
set_option maxRecDepth 20000

section
variable {P : Program} {ops : Array Oper} {Q : Exit → Act → World → Prop} {n : Nat} {tb : Tb} {env : Env} {rs : List Rw} {w0 : World} {M : Nat → Nat → Prop} {a : Act} {w : World} {F : Nat → Nat → Prop}

def rangeE (env : Env) (ops : Array Oper) (n i : Nat) : Option (TypeId × Option Nat × Nat) :=
  match opAt env ops n i with
  | some (.range t x, d) => match opd env x with
    | some (.v (.map m)) => some (t, m, d)
    | _ => none
  | _ => none
theorem wpOp_range {i d r : Nat} {t kt et : TypeId} {es : Array MapEntry} {clk : Nat} {N : Act → World → Prop} (hE : EnvOk n tb env a) (h : rangeE env ops n i = some (t, some r, d)) (ht : mapTy P t = some (kt, et)) (hr : w.heap[r]? = some (.map es clk))
    (K : ∀ a', EnvOk n tb ((d, .v (.pointer (some ⟨w.heap.size, 0, none⟩))) :: env) a' → N a' (w.alloc (.mapIter (some r) clk #[] clk))) : wpOp P ops Q i N a w := by
  unfold rangeE at h
  split at h
  · rename_i t' x d' ho
    split at h
    · rename_i m' hs
      simp only [Option.some.injEq, Prod.mk.injEq] at h
      obtain ⟨rfl, rfl, rfl⟩ := h
      have hd := (opAt_ok hE ho).choose_spec.2.2.2.1
      refine wpOp_value hE ho (v := .pointer (some ⟨w.heap.size, 0, none⟩)) (w' := w.alloc (.mapIter (some r) clk #[] clk)) ?_ (K _ (hE.put hd (.v _) trivial))
      intro o hop
      unfold execOp
      rw [hop]
      simp only [(opd_ok hE hs).1, SV.val, Sem.run_bind, run_range_map (P := P) w _ _ _ r es clk (mapTy_ok ht) hr, Result.andThen_ok, Sem.run_pure]
    · cases h
  · cases h
def nextE (env : Env) (ops : Array Oper) (n i : Nat) : Option (Nat × Nat) :=
  match opAt env ops n i with
  | some (.next x false, d) => match opd env x with
    | some (.v (.pointer (some ⟨r, 0, none⟩))) => some (r, d)
    | _ => none
  | _ => none
theorem wpOp_next {i d r bm since c0 : Nat} {seen : Array Nat} {es : Array MapEntry} {clk : Nat} {N : Act → World → Prop} (hE : EnvOk n tb env a) (h : nextE env ops n i = some (r, d)) (hr : w.heap[r]? = some (.mapIter (some bm) since seen c0)) (hb : w.heap[bm]? = some (.map es clk)) (hold : ∀ x ∈ es.toList, x.born < since) (hsc : since ≤ c0)
    (K0 : (leftOf es seen).size = 0 → ∀ a', EnvOk n tb ((d, .v (.tuple #[.bool false])) :: env) a' → N a' w)
    (K1 : ∀ e ∈ (leftOf es seen).toList, ∀ w1 : World, (w1 = w ∨ w1 = w.drew) → ∀ a', EnvOk n tb ((d, .v (.tuple #[.bool true, e.key, e.val])) :: env) a' → N a' (setBlock w1 r (.mapIter (some bm) since (seen.push e.born) clk))) : wpOp P ops Q i N a w := by
  unfold nextE at h
  split at h
  · rename_i x d' ho
    split at h
    · rename_i r' hs
      simp only [Option.some.injEq, Prod.mk.injEq] at h
      obtain ⟨rfl, rfl⟩ := h
      obtain ⟨o, h1, h2, h3, h4, h5⟩ := opAt_ok hE ho
      have key : ∀ (v : Value) (w' : World), (Instr.next (.pointer (some ⟨r', 0, none⟩)) false o.type).run P w = .ok v w' → N (a.put (some d') v) w' → wpOp P ops Q i N a w := by
        intro v w' hrun hN
        simp only [wpOp, h1]
        have : Region.wanted o (yielded ops a.tmps) = true := by first | exact h2 | simp [Region.wanted, h2]
        rw [this]
        simp only [if_true]
        refine .inl ?_
        unfold Oper.wp
        have hr' : (execOp a.eval o).run P w = .ok (.value v) w' := by
          unfold execOp
          rw [h5]
          simp only [(opd_ok hE hs).1, SV.val, Sem.run_bind, hrun, Result.andThen_ok, Sem.run_pure]
        rw [hr', Oper.upon, h3]
        exact hN
      rcases run_next_at (P := P) w o.type r' bm since c0 seen es clk hr hb hold hsc with ⟨g1, g2⟩ | ⟨e, g1, w1, g2, g3⟩
      · exact key _ _ g2 (K0 g1 _ (hE.put h4 (.v _) trivial))
      · exact key _ _ g3 (K1 e g1 w1 g2 _ (hE.put h4 (.v _) trivial))
    · cases h
  · cases h
def entryE (env : Env) (ops : Array Oper) (n i : Nat) : Option (Nat × Nat) :=
  match opAt env ops n i with
  | some (.entry x, d) => match opd env x with
    | some (.v (.pointer (some ⟨r, 0, none⟩))) => some (r, d)
    | _ => none
  | _ => none
theorem wpOp_entry {i d r bm since : Nat} {seen : Array Nat} {es : Array MapEntry} {clk : Nat} {e : MapEntry} {N : Act → World → Prop} (hE : EnvOk n tb env a) (h : entryE env ops n i = some (r, d)) (hr : w.heap[r]? = some (.mapIter (some bm) since (seen.push e.born) clk)) (hb : w.heap[bm]? = some (.map es clk)) (he : e ∈ es.toList) (hn : (es.toList.map (·.born)).Nodup)
    (K : ∀ a', EnvOk n tb ((d, .v (.tuple #[e.key, e.val])) :: env) a' → N a' w) : wpOp P ops Q i N a w := by
  unfold entryE at h
  split at h
  · rename_i x d' ho
    split at h
    · rename_i r' hs
      simp only [Option.some.injEq, Prod.mk.injEq] at h
      obtain ⟨rfl, rfl⟩ := h
      have hd := (opAt_ok hE ho).choose_spec.2.2.2.1
      refine wpOp_value hE ho (v := .tuple #[e.key, e.val]) (w' := w) ?_ (K _ (hE.put hd (.v _) trivial))
      intro o hop
      unfold execOp
      rw [hop]
      simp only [(opd_ok hE hs).1, SV.val, Sem.run_bind, run_entry_at (P := P) w r' bm since seen es clk e hr hb he hn, Result.andThen_ok, Sem.run_pure]
    · cases h
  · cases h
/-- a function bound to variables -/
def mkfE (tb : Tb) (env : Env) (ops : Array Oper) (n i : Nat) : Option (Value × Nat) :=
  match opAt env ops n i with
  | some (.makeFunc fn first cap, d) => match first.toList, argsV tb env cap.toList with
    | [], some vs => some (.func fn #[] vs.toArray, d)
    | _, _ => none
  | _ => none
theorem wpOp_mkf {i d : Nat} {v : Value} {N : Act → World → Prop} (hE : EnvOk n tb env a) (h : mkfE tb env ops n i = some (v, d)) (K : ∀ a', EnvOk n tb ((d, .v v) :: env) a' → N a' w) : wpOp P ops Q i N a w := by
  unfold mkfE at h
  split at h
  · rename_i fn first cap d' ho
    split at h
    · rename_i vs hf hv
      simp only [Option.some.injEq, Prod.mk.injEq] at h
      obtain ⟨rfl, rfl⟩ := h
      have hd := (opAt_ok hE ho).choose_spec.2.2.2.1
      refine wpOp_value hE ho (v := .func fn #[] vs.toArray) (w' := w) ?_ (K _ (hE.put hd (.v _) trivial))
      intro o hop
      unfold execOp
      rw [hop]
      have e1 : first = #[] := Array.ext' hf
      have e2 : cap.map a.eval = vs.toArray := Array.ext' (by simpa using argsV_ok hE hv)
      subst e1
      simp [Instr.makeFunc, e2]
    · cases h
  · cases h
end

def kOf : Value → Int
  | .int _ k => k
  | _ => 0
/-- entries gone through -/
structure Vis (es vis : List MapEntry) (seen : Array Nat) : Prop where
  seen : seen.toList = vis.map (·.born)
  sub : ∀ e ∈ vis, e ∈ es
  nodup : (vis.map (·.born)).Nodup
theorem Vis.nil (es : List MapEntry) : Vis es [] #[] := ⟨rfl, (fun _ h => by cases h), List.nodup_nil⟩
theorem Vis.push {es : Array MapEntry} {vis : List MapEntry} {seen : Array Nat} {e : MapEntry} (h : Vis es.toList vis seen) (he : e ∈ (leftOf es seen).toList) : Vis es.toList (vis ++ [e]) (seen.push e.born) := by
  obtain ⟨h1, h2⟩ := mem_left he
  have hn : e.born ∉ vis.map (·.born) := by
    rw [← h.seen]
    intro hm
    have : seen.contains e.born = true := by simpa using Array.mem_toList_iff.1 hm
    rw [this] at h2; cases h2
  refine ⟨by simp [h.seen], fun x hx => ?_, ?_⟩
  · rcases List.mem_append.1 hx with hx | hx
    · exact h.sub x hx
    · rw [List.mem_singleton.1 hx]; exact h1
  · rw [List.map_append, List.map_cons, List.map_nil]
    refine List.nodup_append.2 ⟨h.nodup, by simp, fun x hx y hy => ?_⟩
    rw [List.mem_singleton.1 hy]
    rintro rfl
    exact hn hx
theorem nodup_of_map {α β : Type} {l : List α} {f : α → β} (h : (l.map f).Nodup) : l.Nodup := List.Pairwise.of_map f (fun a b hab e => hab (by rw [e])) h
theorem Vis.all {es : Array MapEntry} {vis : List MapEntry} {seen : Array Nat} (h : Vis es.toList vis seen) (h0 : (leftOf es seen).size = 0) (hn : (es.toList.map (·.born)).Nodup) : vis.Perm es.toList := by
  refine (List.perm_ext_iff_of_nodup (nodup_of_map h.nodup) (nodup_of_map hn)).2 fun e => ⟨h.sub e, fun he => ?_⟩
  have hc : seen.contains e.born = true := by
    cases hc : seen.contains e.born with
    | true => rfl
    | false =>
      exfalso
      have hm : e ∈ leftOf es seen := Array.mem_filter.2 ⟨Array.mem_toList_iff.1 he, by simp [hc] at hc ⊢; exact hc⟩
      have := Array.size_pos_of_mem hm
      omega
  have hm : e.born ∈ seen.toList := by simpa using hc
  rw [h.seen] at hm
  obtain ⟨e', h1, h2⟩ := List.mem_map.1 hm
  have h3 := h.sub e' h1
  obtain ⟨i1, g1⟩ := List.getElem?_of_mem h3
  obtain ⟨i2, g2⟩ := List.getElem?_of_mem he
  have k1 : (es.toList.map (·.born))[i1]? = some e'.born := by rw [List.getElem?_map, g1]; rfl
  have k2 : (es.toList.map (·.born))[i2]? = some e.born := by rw [List.getElem?_map, g2]; rfl
  have hi : i1 = i2 := by
    obtain ⟨l1, q1⟩ := List.getElem?_eq_some_iff.1 k1
    obtain ⟨l2, q2⟩ := List.getElem?_eq_some_iff.1 k2
    rcases Nat.lt_trichotomy i1 i2 with hlt | h | hlt
    · exact absurd (by rw [q1, q2, h2]) (List.pairwise_iff_getElem.1 hn i1 i2 l1 l2 hlt)
    · exact h
    · exact absurd (by rw [q1, q2, h2]) (List.pairwise_iff_getElem.1 hn i2 i1 l2 l1 hlt)
  subst hi
  rw [g1] at g2
  rw [← Option.some.inj g2]; exact h1

/-- a row behind its sorting -/
theorem sort_own {w : World} {e g c nn : Nat} {ks : List Int} {d' : Array Int} {n : Nat} {os : Array Obj} (hnn : ks.length = nn) (ho : w.ownsRow 0 e 1 (.slice (some ⟨g, 0, none⟩) nn c) nn (ks.map (Value.int .u32))) (hd : d'.size = ks.length) :
    Step w (Sort.grow (Sort.putRow (Value.int .u32) (Sort.ahead w n) g 0 d') os) (fun b _ => b = g) ∧ (Sort.grow (Sort.putRow (Value.int .u32) (Sort.ahead w n) g 0 d') os).ownsRow 0 e 1 (.slice (some ⟨g, 0, none⟩) nn c) nn (d'.toList.map (Value.int .u32)) := by
  subst hnn
  have hold : ∀ b, b < w.heap.size → (Sort.grow (Sort.putRow (Value.int .u32) (Sort.ahead w n) g 0 d') os).heap[b]? = (Sort.putRow (Value.int .u32) (Sort.ahead w n) g 0 d').heap[b]? := fun b hb => by
    show ((Sort.putRow (Value.int .u32) (Sort.ahead w n) g 0 d').heap ++ os)[b]? = _
    rw [Array.getElem?_append_left]
    simpa [Sort.putRow, Sort.mapBlock, Sort.ahead] using hb
  have hput : ∀ b, (Sort.putRow (Value.int .u32) (Sort.ahead w n) g 0 d').heap[b]? = if g = b then (w.heap[b]?).map (Sort.onCells (Sort.putCells (Value.int .u32) 0 d')) else w.heap[b]? := fun b => by
    show (w.heap.modify g _)[b]? = _
    rw [Array.getElem?_modify]
  refine ⟨⟨rfl, rfl, ?_, fun b hb => ?_⟩, ?_⟩
  · show w.heap.size ≤ ((Sort.putRow (Value.int .u32) (Sort.ahead w n) g 0 d').heap ++ os).size
    simp [Sort.putRow, Sort.mapBlock, Sort.ahead]
  · rw [hold b hb, hput b]
    by_cases h : g = b
    · exact ⟨fun hm => absurd h.symm (hm 0), fun ⟨o, ho⟩ => absurd h.symm ho⟩
    · rw [if_neg h]; exact Keeps.refl _ _
  · rcases ho.2 with ⟨hv, _⟩ | ⟨g', cap, cur, hv, _, hg, hnc, hmx, hcs, htake⟩
    · cases hv
    · simp only [Value.slice.injEq, Option.some.injEq, Addr.mk.injEq, true_and, and_true] at hv
      obtain ⟨rfl, rfl⟩ := hv
      have hlt : g < w.heap.size := (Array.getElem?_eq_some_iff.1 hg).1
      refine ⟨by simp [hd], .inr ⟨g, c, Sort.putCells (Value.int .u32) 0 d' cur, rfl, Nat.zero_le _, ?_, hnc, hmx, by simpa [Sort.putCells] using hcs, ?_⟩⟩
      · rw [hold g hlt, hput g, if_pos rfl, hg]; rfl
      · apply List.ext_getElem?
        intro k
        rw [List.getElem?_take, List.getElem?_map]
        by_cases hk : k < ks.length
        · rw [if_pos (by omega)]
          have hkc : k < cur.size := by omega
          have hkd : k < d'.size := by omega
          simp only [Sort.putCells, Array.getElem?_toList, Array.getElem?_mapIdx, Array.getElem?_eq_getElem hkc, Array.getElem?_eq_getElem hkd, Option.map_some]
          rw [if_pos ⟨by omega, by omega⟩, Nat.sub_zero, getElem!_pos d' k hkd]
        · rw [if_neg (by omega), Array.getElem?_toList, Array.getElem?_eq_none (by omega)]; rfl

theorem own_holds {w : World} {e g c nn : Nat} {ks : List Int} (hnn : ks.length = nn) (ho : w.ownsRow 0 e 1 (.slice (some ⟨g, 0, none⟩) nn c) nn (ks.map (Value.int .u32))) : Sort.Holds (Value.int .u32) w g 0 ks.toArray := by
  subst hnn
  rcases ho.2 with ⟨hv, _⟩ | ⟨g', cap, cur, hv, _, hg, hnc, hmx, hcs, htake⟩
  · cases hv
  · simp only [Value.slice.injEq, Option.some.injEq, Addr.mk.injEq, true_and, and_true] at hv
    obtain ⟨rfl, rfl⟩ := hv
    intro j hj
    have hj' : j < ks.length := by simpa using hj
    refine ⟨?_, by simp [World.frozen?, hg]⟩
    have h1 : (cur.toList.take (ks.length * 1))[j]? = (ks.map (Value.int .u32))[j]? := by rw [htake]
    rw [List.getElem?_take, if_pos (by omega), List.getElem?_map, List.getElem?_eq_getElem hj', Array.getElem?_toList] at h1
    rw [getElem!_pos ks.toArray j hj]
    simp [World.cell?, hg, h1]

/-- one rising order of what is rising -/
theorem sorted_is {d' : Array Int} {ks us : List Int} (hp : d'.toList.Perm ks) (hs : Sort.SortedIn Sort.ltInt 0 d'.size d') (hk : ks.Perm us) (hu : us.Pairwise (· < ·)) : d'.toList = us := by
  refine List.Perm.eq_of_pairwise (le := (· ≤ ·)) (fun a b _ _ h1 h2 => by omega) ?_ (hu.imp fun h => by omega) (hp.trans hk)
  refine List.pairwise_iff_getElem.2 fun i j hi hj hij => ?_
  have h := hs i j (Nat.zero_le _) hij (by simpa using hj)
  have hi' : i < d'.size := by simpa using hi
  have hj' : j < d'.size := by simpa using hj
  rw [getElem!_pos d' i hi', getElem!_pos d' j hj'] at h
  have h2 : ¬ (d'[j] < d'[i]) := of_decide_eq_false h
  simp only [Array.getElem_toList]
  omega

theorem Dst.move {w w' : World} {B e8 cp : Nat} {A : Option Addr} {s : Bs} {M : Nat → Nat → Prop} (h : Dst w B e8 A cp s) (hs : Step w w' M) (hM : ∀ b o, BM B A b o → ¬ M b o) : Dst w' B e8 A cp s :=
  ⟨hs.cell (hM B 0 (.inl ⟨rfl, rfl⟩)) h.cell, hs.frozen (hM B 0 (.inl ⟨rfl, rfl⟩)) h.cell h.frz, own_keep (r := brow A cp e8 s) h.own fun g hg => (hs.keeps g (own_live (r := brow A cp e8 s) h.own hg)).1 fun o => hM g o (.inr hg), h.ne⟩

end Go.Proofs.Ytbjopfcbpobnpaa.ME
