/- The engine, third part: the frame of a call; new blocks, stores, calls; entering and leaving. Own work. -/
import Derived.Test.YtbjopfcbpobnpaaMeb
namespace Go.Proofs.Ytbjopfcbpobnpaa.ME
open Go
set_option linter.unusedVariables false
set_option linter.unusedSimpArgs false

/-- a block, but for the places M, is as it was -/
def Keeps (M : Nat → Prop) (x y : Option Obj) : Prop :=
  ((∀ o, ¬ M o) → y = x) ∧ ((∃ o, ¬ M o) → ∀ c t f, x = some (.cells c t f) → ∃ c', y = some (.cells c' t f) ∧ c'.size = c.size ∧ ∀ o, ¬ M o → c'[o]? = c[o]?)

theorem Keeps.refl (M : Nat → Prop) (x : Option Obj) : Keeps M x x := ⟨fun _ => rfl, fun _ c t f h => ⟨c, h, rfl, fun _ _ => rfl⟩⟩
theorem Keeps.trans {M N : Nat → Prop} {x y z : Option Obj} (h : Keeps M x y) (h' : Keeps N y z) (hN : ∀ o, N o → M o) : Keeps M x z := by
  refine ⟨fun hm => (h'.1 fun o ho => hm o (hN o ho)).trans (h.1 hm), fun ⟨o, ho⟩ c t f hx => ?_⟩
  obtain ⟨c1, h1, h2, h3⟩ := h.2 ⟨o, ho⟩ c t f hx
  obtain ⟨c2, g1, g2, g3⟩ := h'.2 ⟨o, fun hn => ho (hN o hn)⟩ c1 t f h1
  exact ⟨c2, g1, g2.trans h2, fun o ho => (g3 o fun hn => ho (hN o hn)).trans (h3 o ho)⟩
theorem Keeps.mono {M N : Nat → Prop} {x y : Option Obj} (h : Keeps M x y) (hN : ∀ o, M o → N o) : Keeps N x y := by
  refine ⟨fun hm => h.1 fun o ho => hm o (hN o ho), fun ⟨o, ho⟩ c t f hx => ?_⟩
  obtain ⟨c1, h1, h2, h3⟩ := h.2 ⟨o, fun hm => ho (hN o hm)⟩ c t f hx
  exact ⟨c1, h1, h2, fun o ho => h3 o fun hm => ho (hN o hm)⟩

structure Step (w w' : World) (M : Nat → Nat → Prop) : Prop where
  os : w'.os = w.os
  output : w'.output = w.output
  size : w.heap.size ≤ w'.heap.size
  keeps : ∀ b, b < w.heap.size → Keeps (M b) w.heap[b]? w'.heap[b]?

/-- nothing old is written -/
def Nil : Nat → Nat → Prop := fun _ _ => False

theorem Step.refl (w : World) (M : Nat → Nat → Prop) : Step w w M := ⟨rfl, rfl, Nat.le_refl _, fun _ _ => Keeps.refl _ _⟩
theorem Step.trans {w w1 w2 : World} {M N : Nat → Nat → Prop} (h : Step w w1 M) (h' : Step w1 w2 N) (hN : ∀ b o, b < w.heap.size → N b o → M b o) : Step w w2 M :=
  ⟨h'.os.trans h.os, h'.output.trans h.output, Nat.le_trans h.size h'.size, fun b hb => (h.keeps b hb).trans (h'.keeps b (Nat.lt_of_lt_of_le hb h.size)) fun o => hN b o hb⟩
theorem Step.mono {w w1 : World} {M N : Nat → Nat → Prop} (h : Step w w1 M) (hN : ∀ b o, b < w.heap.size → M b o → N b o) : Step w w1 N :=
  ⟨h.os, h.output, h.size, fun b hb => (h.keeps b hb).mono fun o => hN b o hb⟩
theorem Step.trans' {w w1 w2 : World} {M : Nat → Nat → Prop} (h : Step w w1 M) (h' : Step w1 w2 Nil) : Step w w2 M := h.trans h' fun _ _ _ f => f.elim

theorem World.cell_of_heap {w w' : World} {b o : Nat} (h : w'.heap[b]? = w.heap[b]?) : w'.cell? ⟨b, o, none⟩ = w.cell? ⟨b, o, none⟩ := by simp [World.cell?, h]
theorem World.frozen_of_heap {w w' : World} {b o : Nat} (h : w'.heap[b]? = w.heap[b]?) : w'.frozen? ⟨b, o, none⟩ = w.frozen? ⟨b, o, none⟩ := by simp [World.frozen?, h]
theorem World.lt_of_cell {w : World} {b o : Nat} {v : Value} (h : w.cell? ⟨b, o, none⟩ = some v) : b < w.heap.size := by
  unfold World.cell? at h
  split at h
  · rename_i c t f hb
    exact (Array.getElem?_eq_some_iff.1 hb).1
  · cases h

theorem Step.cell {w w' : World} {M : Nat → Nat → Prop} (h : Step w w' M) {b o : Nat} {v : Value} (hM : ¬ M b o) (hc : w.cell? ⟨b, o, none⟩ = some v) : w'.cell? ⟨b, o, none⟩ = some v := by
  have hb := World.lt_of_cell hc
  have hk := h.keeps b hb
  unfold World.cell? at hc ⊢
  cases hx : w.heap[b]? with
  | none => rw [hx] at hc; cases hc
  | some x =>
    rw [hx] at hc hk
    cases x with
    | cells c t f =>
      obtain ⟨c', h1, h2, h3⟩ := hk.2 ⟨o, hM⟩ c t f rfl
      rw [h1]
      simp only [Option.isSome_none, Bool.false_eq_true, if_false] at hc ⊢
      rw [h3 o hM]; exact hc
    | _ => cases hc

theorem Step.frozen {w w' : World} {M : Nat → Nat → Prop} (h : Step w w' M) {b o : Nat} {v : Value} (hM : ¬ M b o) (hc : w.cell? ⟨b, o, none⟩ = some v) (hf : w.frozen? ⟨b, o, none⟩ = false) : w'.frozen? ⟨b, o, none⟩ = false := by
  have hb := World.lt_of_cell hc
  have hk := h.keeps b hb
  unfold World.cell? at hc
  unfold World.frozen? at hf ⊢
  cases hx : w.heap[b]? with
  | none => rw [hx] at hc; cases hc
  | some x =>
    rw [hx] at hc hk hf
    cases x with
    | cells c t f =>
      obtain ⟨c', h1, h2, h3⟩ := hk.2 ⟨o, hM⟩ c t f rfl
      rw [h1]; exact hf
    | _ => cases hc

theorem Step.heap {w w' : World} {M : Nat → Nat → Prop} (h : Step w w' M) {b : Nat} {x : Obj} (hM : ∀ o, ¬ M b o) (hc : w.heap[b]? = some x) : w'.heap[b]? = some x := by
  have hb : b < w.heap.size := (Array.getElem?_eq_some_iff.1 hc).1
  rw [(h.keeps b hb).1 hM, hc]

theorem heap_old (w : World) (o : Obj) (b : Nat) (hb : b < w.heap.size) : (w.alloc o).heap[b]? = w.heap[b]? := by
  show (w.heap.push o)[b]? = _
  rw [Array.getElem?_push, if_neg (by omega)]
theorem heap_new (w : World) (o : Obj) : (w.alloc o).heap[w.heap.size]? = some o := by
  show (w.heap.push o)[w.heap.size]? = _
  rw [Array.getElem?_push, if_pos rfl]
theorem size_alloc (w : World) (o : Obj) : (w.alloc o).heap.size = w.heap.size + 1 := by
  show (w.heap.push o).size = _
  rw [Array.size_push]
theorem Step.alloc (w : World) (o : Obj) : Step w (w.alloc o) Nil :=
  ⟨rfl, rfl, by rw [size_alloc]; omega, fun b hb => by rw [heap_old w o b hb]; exact Keeps.refl _ _⟩
theorem Step.drew (w : World) : Step w w.drew Nil := ⟨rfl, rfl, Nat.le_refl _, fun _ _ => Keeps.refl _ _⟩

/-- a row of the call's own that may grow: the slice value, its elements' type and size, how many it has, its cells -/
structure Rw where
  A : Option Addr
  c : Nat
  e : TypeId
  size : Nat
  n : Nat
  xs : List Value
def Rw.v (r : Rw) : Value := .slice r.A r.n r.c
def Rw.blk (r : Rw) : Option Nat := r.A.map (·.block)
theorem Rw.own_eq (r : Rw) : r.v.ownBlock = r.blk := by
  cases r with
  | mk A c e size n xs => cases A <;> rfl

structure WOk (w0 : World) (M : Nat → Nat → Prop) (w : World) (tb : Tb) (rs : List Rw) : Prop where
  step : Step w0 w M
  cells : CellsOk w tb
  live : ∀ (i : Nat) (o : Ob), tb[i]? = some o → o.blk < w.heap.size
  rw_ : ∀ (i : Nat) (o : Ob), tb[i]? = some o → o.rw = true → ∀ j, j < o.cells.length → (w0.heap.size ≤ o.blk ∨ M o.blk (o.off + j)) ∧ w.frozen? ⟨o.blk, o.off + j, none⟩ = false
  apart : ∀ (i j : Nat) (o o' : Ob), i ≠ j → tb[i]? = some o → tb[j]? = some o' → (o.rw = true ∨ o'.rw = true) → o.blk ≠ o'.blk ∨ o.off + o.cells.length ≤ o'.off ∨ o'.off + o'.cells.length ≤ o.off
  own : ∀ (i : Nat) (r : Rw), rs[i]? = some r → w.ownsRow 0 r.e r.size r.v r.n r.xs
  ownM : ∀ (i : Nat) (r : Rw), rs[i]? = some r → ∀ g, r.blk = some g → w0.heap.size ≤ g ∨ ∀ o, M g o
  rtb : ∀ (i : Nat) (r : Rw), rs[i]? = some r → ∀ g, r.blk = some g → ∀ (j : Nat) (o : Ob), tb[j]? = some o → o.blk ≠ g
  rr : ∀ (i j : Nat) (r r' : Rw), i ≠ j → rs[i]? = some r → rs[j]? = some r' → ∀ g, r.blk = some g → r'.blk ≠ some g

/-- what the call may still write of its own -/
def Act_ (tb : Tb) (rs : List Rw) (b o : Nat) : Prop :=
  (∃ (i : Nat) (ob : Ob), tb[i]? = some ob ∧ ob.rw = true ∧ ob.blk = b ∧ ob.off ≤ o ∧ o < ob.off + ob.cells.length) ∨ (∃ (i : Nat) (r : Rw), rs[i]? = some r ∧ r.blk = some b)

/-- from one moment of a call to a later one: what was not to be written is as it was, and is not to be written -/
structure Fr (w : World) (tb : Tb) (rs : List Rw) (w' : World) (tb' : Tb) (rs' : List Rw) : Prop where
  imm : ∀ b o, b < w.heap.size → ¬ Act_ tb rs b o → ¬ Act_ tb' rs' b o
  step : Step w w' (Act_ tb rs)

theorem Fr.refl (w : World) (tb : Tb) (rs : List Rw) : Fr w tb rs w tb rs := ⟨fun _ _ _ h => h, Step.refl _ _⟩
theorem Fr.trans {w w1 w2 : World} {tb tb1 tb2 : Tb} {rs rs1 rs2 : List Rw} (h : Fr w tb rs w1 tb1 rs1) (h' : Fr w1 tb1 rs1 w2 tb2 rs2) : Fr w tb rs w2 tb2 rs2 :=
  ⟨fun b o hb ha => h'.imm b o (Nat.lt_of_lt_of_le hb h.step.size) (h.imm b o hb ha),
   h.step.trans h'.step fun b o hb hn => Classical.byContradiction fun hc => h.imm b o hb hc hn⟩

theorem WOk.start (w : World) (M : Nat → Nat → Prop) : WOk w M w [] [] :=
  ⟨Step.refl w M, fun i o h => by simp at h, fun i o h => by simp at h, fun i o h => by simp at h, fun i j o o' _ h => by simp at h,
   fun i r h => by simp at h, fun i r h => by simp at h, fun i r h => by simp at h, fun i j r r' _ h => by simp at h⟩

theorem get_snoc {α : Type} {l : List α} {x y : α} {i : Nat} (h : (l ++ [x])[i]? = some y) : l[i]? = some y ∨ (i = l.length ∧ y = x) := by
  rcases Nat.lt_or_ge i l.length with hlt | hge
  · rw [List.getElem?_append_left hlt] at h; exact .inl h
  · rw [List.getElem?_append_right hge] at h
    rcases Nat.eq_or_lt_of_le hge with he | hl
    · rw [← he, Nat.sub_self] at h
      simp only [List.getElem?_cons_zero, Option.some.injEq] at h
      exact .inr ⟨he.symm, h.symm⟩
    · rw [List.getElem?_eq_none (by simp; omega)] at h; cases h

/-- known memory that came in (it is only read, or M lets it be written) -/
theorem WOk.add {w0 w : World} {M : Nat → Nat → Prop} {tb : Tb} {rs : List Rw} (h : WOk w0 M w tb rs) (ob : Ob) (hl : ob.blk < w.heap.size)
    (hc : ∀ (j : Nat) (v : Value), ob.cells[j]? = some v → w.cell? ⟨ob.blk, ob.off + j, none⟩ = some v)
    (hr : ob.rw = true → ∀ j, j < ob.cells.length → (w0.heap.size ≤ ob.blk ∨ M ob.blk (ob.off + j)) ∧ w.frozen? ⟨ob.blk, ob.off + j, none⟩ = false)
    (ha : ∀ (i : Nat) (o : Ob), tb[i]? = some o → (o.rw = true ∨ ob.rw = true) → o.blk ≠ ob.blk ∨ o.off + o.cells.length ≤ ob.off ∨ ob.off + ob.cells.length ≤ o.off)
    (hrs : ∀ (i : Nat) (r : Rw), rs[i]? = some r → r.blk ≠ some ob.blk) : WOk w0 M w (tb ++ [ob]) rs := by
  refine ⟨h.step, ?_, ?_, ?_, ?_, h.own, h.ownM, ?_, h.rr⟩
  · intro i o hi
    rcases get_snoc hi with hi | ⟨_, rfl⟩
    · exact h.cells i o hi
    · exact hc
  · intro i o hi
    rcases get_snoc hi with hi | ⟨_, rfl⟩
    · exact h.live i o hi
    · exact hl
  · intro i o hi
    rcases get_snoc hi with hi | ⟨_, rfl⟩
    · exact h.rw_ i o hi
    · exact hr
  · intro i j o o' hij hi hj hw
    rcases get_snoc hi with hi' | ⟨hi1, rfl⟩
    · rcases get_snoc hj with hj' | ⟨_, rfl⟩
      · exact h.apart i j o o' hij hi' hj' hw
      · exact ha i o hi' hw
    · rcases get_snoc hj with hj' | ⟨hj1, rfl⟩
      · rcases ha j o' hj' hw.symm with h1 | h1 | h1
        · exact .inl fun e => h1 e.symm
        · exact .inr (.inr h1)
        · exact .inr (.inl h1)
      · exact absurd (hi1.trans hj1.symm) hij
  · intro i r hi g hg j o hj
    rcases get_snoc hj with hj' | ⟨_, rfl⟩
    · exact h.rtb i r hi g hg j o hj'
    · intro e; exact hrs i r hi (by rw [hg, e])

theorem own_keep {w w' : World} {r : Rw} (h : w.ownsRow 0 r.e r.size r.v r.n r.xs) (hk : ∀ g, r.blk = some g → w'.heap[g]? = w.heap[g]?) : w'.ownsRow 0 r.e r.size r.v r.n r.xs := by
  refine ⟨h.1, ?_⟩
  rcases h.2 with hn | ⟨g, cap, cur, hv, hb, hg, rest⟩
  · exact .inl hn
  · refine .inr ⟨g, cap, cur, hv, hb, ?_, rest⟩
    rw [hk g ?_]
    · exact hg
    · rw [← r.own_eq, hv]; rfl

theorem own_live {w : World} {r : Rw} (h : w.ownsRow 0 r.e r.size r.v r.n r.xs) {g : Nat} (hg : r.blk = some g) : g < w.heap.size :=
  (h.lt g (by rw [r.own_eq]; exact hg)).2

/-- behind a step that writes none of the known memory -/
theorem WOk.next {w0 w w' : World} {M N : Nat → Nat → Prop} {tb : Tb} {rs : List Rw} (h : WOk w0 M w tb rs) (hs : Step w w' N) (hN : ∀ b o, b < w0.heap.size → N b o → M b o)
    (ht : ∀ (i : Nat) (o : Ob), tb[i]? = some o → ∀ j, j < o.cells.length → ¬ N o.blk (o.off + j))
    (hrs : ∀ (i : Nat) (r : Rw), rs[i]? = some r → ∀ g, r.blk = some g → ∀ o, ¬ N g o) : WOk w0 M w' tb rs := by
  refine ⟨h.step.trans hs hN, ?_, fun i o hi => Nat.lt_of_lt_of_le (h.live i o hi) hs.size, ?_, h.apart, ?_, h.ownM, h.rtb, h.rr⟩
  · intro i o hi j v hv
    have hj : j < o.cells.length := (List.getElem?_eq_some_iff.1 hv).1
    exact hs.cell (ht i o hi j hj) (h.cells i o hi j v hv)
  · intro i o hi hr j hj
    obtain ⟨h1, h2⟩ := h.rw_ i o hi hr j hj
    exact ⟨h1, hs.frozen (ht i o hi j hj) (h.cells i o hi j _ (List.getElem?_eq_getElem hj)) h2⟩
  · intro i r hi
    refine own_keep (h.own i r hi) fun g hg => ?_
    exact (hs.keeps g (own_live (h.own i r hi) hg)).1 (hrs i r hi g hg)
theorem WOk.next_nil {w0 w w' : World} {M : Nat → Nat → Prop} {tb : Tb} {rs : List Rw} (h : WOk w0 M w tb rs) (hs : Step w w' Nil) : WOk w0 M w' tb rs :=
  h.next hs (fun _ _ _ f => f.elim) (fun _ _ _ _ _ f => f) (fun _ _ _ _ _ _ f => f)
theorem Fr.nil {w w' : World} (tb : Tb) (rs : List Rw) (hs : Step w w' Nil) : Fr w tb rs w' tb rs := ⟨fun _ _ _ h => h, hs.mono fun _ _ _ f => f.elim⟩

theorem cell_alloc_new (w : World) (c : Array Value) (t : TypeId) (j : Nat) : (w.alloc (.cells c t)).cell? ⟨w.heap.size, j, none⟩ = c[j]? := by
  simp only [World.cell?, heap_new, Option.isSome_none, Bool.false_eq_true, if_false]
theorem frozen_alloc_new (w : World) (c : Array Value) (t : TypeId) (j : Nat) : (w.alloc (.cells c t)).frozen? ⟨w.heap.size, j, none⟩ = false := by
  unfold World.frozen?
  rw [heap_new]
  simp

theorem WOk.alloc {w0 w : World} {M : Nat → Nat → Prop} {tb : Tb} {rs : List Rw} (h : WOk w0 M w tb rs) (cs : List Value) (t : TypeId) : WOk w0 M (w.alloc (.cells cs.toArray t)) (tb ++ [⟨w.heap.size, 0, cs, true⟩]) rs := by
  have h1 := h.next_nil (Step.alloc w (.cells cs.toArray t))
  refine h1.add _ (by show w.heap.size < _; rw [size_alloc]; omega) (fun j v hv => ?_) (fun _ j hj => ⟨.inl h.step.size, ?_⟩) (fun i o hi _ => ?_) (fun i r hi hb => ?_)
  · show (w.alloc (.cells cs.toArray t)).cell? ⟨w.heap.size, 0 + j, none⟩ = some v
    rw [Nat.zero_add, cell_alloc_new]
    simpa using hv
  · show (w.alloc (.cells cs.toArray t)).frozen? ⟨w.heap.size, 0 + j, none⟩ = false
    exact frozen_alloc_new w _ t _
  · exact .inl (Nat.ne_of_lt (h.live i o hi))
  · exact absurd (own_live (h.own i r hi) hb) (Nat.lt_irrefl _)
theorem Fr.alloc (w : World) (tb : Tb) (rs : List Rw) (o : Obj) (cs : List Value) (b : Bool) : Fr w tb rs (w.alloc o) (tb ++ [⟨w.heap.size, 0, cs, b⟩]) rs := by
  refine ⟨fun b' o' hb ha hc => ?_, (Step.alloc w o).mono fun _ _ _ f => f.elim⟩
  rcases hc with ⟨i, ob, hi, hr, h1, h2⟩ | h
  · rcases get_snoc hi with hi | ⟨_, rfl⟩
    · exact ha (.inl ⟨i, ob, hi, hr, h1, h2⟩)
    · exact absurd h1.symm (Nat.ne_of_lt hb)
  · exact ha (.inr h)

/-- a row that the call has been given, new -/
theorem WOk.fresh {w0 w w' : World} {M : Nat → Nat → Prop} {tb : Tb} {rs : List Rw} (h : WOk w0 M w tb rs) (hs : Step w w' Nil) (r : Rw) {base : Nat} (hb : w.heap.size ≤ base) (ho : w'.ownsRow base r.e r.size r.v r.n r.xs) : WOk w0 M w' tb (rs ++ [r]) := by
  have h1 := h.next_nil hs
  have hge : ∀ g, r.blk = some g → w.heap.size ≤ g := fun g hg => Nat.le_trans hb (ho.lt g (by rw [r.own_eq]; exact hg)).1
  have ho' : w'.ownsRow 0 r.e r.size r.v r.n r.xs := by
    refine ⟨ho.1, ?_⟩
    rcases ho.2 with hn | ⟨g, cap, cur, hv, hb, rest⟩
    · exact .inl hn
    · exact .inr ⟨g, cap, cur, hv, Nat.zero_le _, rest⟩
  refine ⟨h1.step, h1.cells, h1.live, h1.rw_, h1.apart, ?_, ?_, ?_, ?_⟩
  · intro i q hi
    rcases get_snoc hi with hi | ⟨_, rfl⟩
    · exact h1.own i q hi
    · exact ho'
  · intro i q hi g hg
    rcases get_snoc hi with hi | ⟨_, rfl⟩
    · exact h1.ownM i q hi g hg
    · exact .inl (Nat.le_trans h.step.size (hge g hg))
  · intro i q hi g hg j o hj
    rcases get_snoc hi with hi | ⟨_, rfl⟩
    · exact h1.rtb i q hi g hg j o hj
    · exact fun e => by have := h.live j o hj; have := hge g hg; omega
  · intro i j q q' hij hi hj g hg
    rcases get_snoc hi with hi' | ⟨hi1, rfl⟩
    · rcases get_snoc hj with hj' | ⟨_, rfl⟩
      · exact h1.rr i j q q' hij hi' hj' g hg
      · intro e; have := own_live (h.own i q hi') hg; have := hge g e; omega
    · rcases get_snoc hj with hj' | ⟨hj1, rfl⟩
      · intro e; have := own_live (h.own j q' hj') e; have := hge g hg; omega
      · exact absurd (hi1.trans hj1.symm) hij
theorem Fr.fresh {w w' : World} (tb : Tb) (rs : List Rw) (hs : Step w w' Nil) (r : Rw) {base : Nat} (hb : w.heap.size ≤ base) (ho : w'.ownsRow base r.e r.size r.v r.n r.xs) : Fr w tb rs w' tb (rs ++ [r]) := by
  refine ⟨fun b' o' hb' ha hc => ?_, hs.mono fun _ _ _ f => f.elim⟩
  rcases hc with h | ⟨i, q, hi, hq⟩
  · exact ha (.inl h)
  · rcases get_snoc hi with hi | ⟨_, rfl⟩
    · exact ha (.inr ⟨i, q, hi, hq⟩)
    · have := (ho.lt b' (by rw [q.own_eq]; exact hq)).1; omega

/-- the block of a slice, all of it -/
def Blk (A : Option Addr) : Nat → Nat → Prop := fun b _ => A.map (·.block) = some b

theorem set_get {α : Type} {l : List α} {k i : Nat} {x y : α} (h : (l.set k x)[i]? = some y) : (i = k ∧ y = x ∧ k < l.length) ∨ (i ≠ k ∧ l[i]? = some y) := by
  rw [List.getElem?_set] at h
  split at h
  · rename_i e
    split at h
    · exact .inl ⟨e.symm, (Option.some.inj h).symm, by assumption⟩
    · cases h
  · rename_i e
    exact .inr ⟨fun h' => e h'.symm, h⟩

/-- a row of the call's own has become another one: its block is the same, or new -/
theorem WOk.grow {w0 w w' : World} {M : Nat → Nat → Prop} {tb : Tb} {rs : List Rw} (h : WOk w0 M w tb rs) {k : Nat} {r r' : Rw} (hk : rs[k]? = some r) (hs : Step w w' (Blk r.A)) (ho : w'.ownsRow 0 r'.e r'.size r'.v r'.n r'.xs)
    (hb : ∀ g, r'.blk = some g → r.blk = some g ∨ w.heap.size ≤ g) : WOk w0 M w' tb (rs.set k r') := by
  refine ⟨h.step.trans hs ?_, ?_, fun i o hi => Nat.lt_of_lt_of_le (h.live i o hi) hs.size, ?_, h.apart, ?_, ?_, ?_, ?_⟩
  · intro b o hb' hB
    rcases h.ownM k r hk b hB with h1 | h1
    · omega
    · exact h1 o
  · intro i o hi j v hv
    exact hs.cell (fun hB => h.rtb k r hk _ hB i o hi rfl) (h.cells i o hi j v hv)
  · intro i o hi hr j hj
    obtain ⟨h1, h2⟩ := h.rw_ i o hi hr j hj
    exact ⟨h1, hs.frozen (fun hB => h.rtb k r hk _ hB i o hi rfl) (h.cells i o hi j _ (List.getElem?_eq_getElem hj)) h2⟩
  · intro i q hi
    rcases set_get hi with ⟨_, rfl, _⟩ | ⟨hne, hi⟩
    · exact ho
    · refine own_keep (h.own i q hi) fun g hg => (hs.keeps g (own_live (h.own i q hi) hg)).1 fun _ hB => ?_
      exact h.rr k i r q (fun e => hne e.symm) hk hi g hB hg
  · intro i q hi g hg
    rcases set_get hi with ⟨_, rfl, _⟩ | ⟨hne, hi⟩
    · rcases hb g hg with h1 | h1
      · exact h.ownM k r hk g h1
      · exact .inl (Nat.le_trans h.step.size h1)
    · exact h.ownM i q hi g hg
  · intro i q hi g hg j o hj
    rcases set_get hi with ⟨_, rfl, _⟩ | ⟨hne, hi⟩
    · rcases hb g hg with h1 | h1
      · exact h.rtb k r hk g h1 j o hj
      · intro e; have := h.live j o hj; omega
    · exact h.rtb i q hi g hg j o hj
  · intro i j q q' hij hi hj g hg
    rcases set_get hi with ⟨hi1, rfl, _⟩ | ⟨hne, hi'⟩
    · rcases set_get hj with ⟨hj1, rfl, _⟩ | ⟨hne', hj'⟩
      · exact absurd (hi1.trans hj1.symm) hij
      · rcases hb g hg with h1 | h1
        · exact h.rr k j r q' (fun e => hne' e.symm) hk hj' g h1
        · intro e; have := own_live (h.own j q' hj') e; omega
    · rcases set_get hj with ⟨hj1, rfl, _⟩ | ⟨hne', hj'⟩
      · intro e
        rcases hb g e with h1 | h1
        · exact h.rr k i r q (fun e => hne e.symm) hk hi' g h1 hg
        · have := own_live (h.own i q hi') hg; omega
      · exact h.rr i j q q' hij hi' hj' g hg
theorem Fr.grow {w w' : World} (tb : Tb) {rs : List Rw} {k : Nat} {r r' : Rw} (hk : rs[k]? = some r) (hs : Step w w' (Blk r.A)) (hb : ∀ g, r'.blk = some g → r.blk = some g ∨ w.heap.size ≤ g) : Fr w tb rs w' tb (rs.set k r') := by
  refine ⟨fun b' o' hb' ha hc => ?_, hs.mono fun b o _ hB => .inr ⟨k, r, hk, hB⟩⟩
  rcases hc with h | ⟨i, q, hi, hq⟩
  · exact ha (.inl h)
  · rcases set_get hi with ⟨_, rfl, _⟩ | ⟨hne, hi⟩
    · rcases hb b' hq with h1 | h1
      · exact ha (.inr ⟨k, r, hk, h1⟩)
      · omega
    · exact ha (.inr ⟨i, q, hi, hq⟩)

/-- rows are given up: they are not to be written any more -/
theorem WOk.rows {w0 w : World} {M : Nat → Nat → Prop} {tb : Tb} {rs : List Rw} (h : WOk w0 M w tb rs) (n : Nat) : WOk w0 M w tb (rs.take n) := by
  have ht : ∀ {i : Nat} {r : Rw}, (rs.take n)[i]? = some r → rs[i]? = some r := fun {i r} hi => by
    rw [List.getElem?_take] at hi
    split at hi
    · exact hi
    · cases hi
  exact ⟨h.step, h.cells, h.live, h.rw_, h.apart, fun i r hi => h.own i r (ht hi), fun i r hi => h.ownM i r (ht hi), fun i r hi => h.rtb i r (ht hi), fun i j r r' hij hi hj => h.rr i j r r' hij (ht hi) (ht hj)⟩
theorem Fr.rows (w : World) (tb : Tb) (rs : List Rw) (n : Nat) : Fr w tb rs w tb (rs.take n) := by
  refine ⟨fun b o _ ha hc => ?_, Step.refl _ _⟩
  rcases hc with h | ⟨i, r, hi, hr⟩
  · exact ha (.inl h)
  · rw [List.getElem?_take] at hi
    split at hi
    · exact ha (.inr ⟨i, r, hi, hr⟩)
    · cases hi

/-- known memory that is not to be written any more -/
def Tb.kill (tb : Tb) (i : Nat) : Tb := tb.set i { obAt tb i with cells := [], rw := false }
theorem WOk.kill {w0 w : World} {M : Nat → Nat → Prop} {tb : Tb} {rs : List Rw} (h : WOk w0 M w tb rs) (k : Nat) (hk : k < tb.length) : WOk w0 M w (Tb.kill tb k) rs := by
  have hob := obAt_of hk
  refine ⟨h.step, ?_, ?_, ?_, ?_, h.own, h.ownM, ?_, h.rr⟩
  · intro i o hi j v hv
    rcases set_get hi with ⟨_, rfl, _⟩ | ⟨_, hi⟩
    · simp at hv
    · exact h.cells i o hi j v hv
  · intro i o hi
    rcases set_get hi with ⟨rfl, rfl, _⟩ | ⟨_, hi⟩
    · exact show (obAt tb i).blk < w.heap.size from h.live i _ hob
    · exact h.live i o hi
  · intro i o hi hr j hj
    rcases set_get hi with ⟨_, rfl, _⟩ | ⟨_, hi⟩
    · cases hr
    · exact h.rw_ i o hi hr j hj
  · intro i j o o' hij hi hj hw
    rcases set_get hi with ⟨rfl, rfl, _⟩ | ⟨_, hi'⟩
    · rcases set_get hj with ⟨rfl, rfl, _⟩ | ⟨_, hj'⟩
      · exact absurd rfl hij
      · rcases h.apart i j _ o' hij hob hj' (hw.elim (fun e => by cases e) .inr) with h1 | h1 | h1
        · exact .inl h1
        · exact .inr (.inl (by simp only [List.length_nil]; omega))
        · exact .inr (.inr h1)
    · rcases set_get hj with ⟨rfl, rfl, _⟩ | ⟨_, hj'⟩
      · rcases h.apart i j o _ hij hi' hob (hw.elim .inl (fun e => by cases e)) with h1 | h1 | h1
        · exact .inl h1
        · exact .inr (.inl h1)
        · exact .inr (.inr (by simp only [List.length_nil]; omega))
      · exact h.apart i j o o' hij hi' hj' hw
  · intro i r hi g hg j o hj
    rcases set_get hj with ⟨rfl, rfl, _⟩ | ⟨_, hj⟩
    · exact show (obAt tb j).blk ≠ g from h.rtb i r hi g hg j _ hob
    · exact h.rtb i r hi g hg j o hj
theorem Fr.kill (w : World) (tb : Tb) (rs : List Rw) (k : Nat) : Fr w tb rs w (Tb.kill tb k) rs := by
  refine ⟨fun b o _ ha hc => ?_, Step.refl _ _⟩
  rcases hc with ⟨i, ob, hi, hr, h1⟩ | h
  · rcases set_get hi with ⟨_, rfl, _⟩ | ⟨_, hi⟩
    · cases hr
    · exact ha (.inl ⟨i, ob, hi, hr, h1⟩)
  · exact ha (.inr h)

/-- the footprint of what the call knows and does not write any more -/
def Imm (G : Nat → Nat → Prop) (w0 w : World) (tb : Tb) (rs : List Rw) (b o : Nat) : Prop := (G b o ∨ w0.heap.size ≤ b) ∧ b < w.heap.size ∧ ¬ Act_ tb rs b o
/-- what a call has laid anew -/
def New (w w' : World) (b : Nat) : Prop := w.heap.size ≤ b ∧ b < w'.heap.size
theorem WOk.act_live {w0 w : World} {M : Nat → Nat → Prop} {tb : Tb} {rs : List Rw} (h : WOk w0 M w tb rs) {b o : Nat} (ha : Act_ tb rs b o) : b < w.heap.size := by
  rcases ha with ⟨i, ob, hi, _, rfl, _⟩ | ⟨i, r, hi, hr⟩
  · exact h.live i ob hi
  · exact own_live (h.own i r hi) hr
theorem Fr.to {G : Nat → Nat → Prop} {w0 w w' : World} {tb tb' : Tb} {rs rs' : List Rw} (h : Fr w tb rs w' tb' rs') : ∀ b o, Imm G w0 w tb rs b o → Imm G w0 w' tb' rs' b o :=
  fun b o ⟨h1, h2, h3⟩ => ⟨h1, Nat.lt_of_lt_of_le h2 h.step.size, h.imm b o h2 h3⟩

/-- the slots, when the table grows or its contents change -/
theorem EnvOk.table {n : Nat} {tb tb' : Tb} {env : Env} {a : Act} (h : EnvOk n tb env a) (ht : ∀ i, i < tb.length → i < tb'.length ∧ (obAt tb' i).blk = (obAt tb i).blk ∧ (obAt tb' i).off = (obAt tb i).off) : EnvOk n tb' env a := by
  refine ⟨h.defers, h.size, fun s x hl => ?_⟩
  obtain ⟨h1, h2⟩ := h.at_ s x hl
  cases x with
  | v y => exact ⟨h1, trivial⟩
  | p i k =>
    have := ht i h2
    refine ⟨?_, this.1⟩
    rw [h1]
    simp only [SV.val, this.2.1, this.2.2]
theorem EnvOk.grow {n : Nat} {tb : Tb} {env : Env} {a : Act} (h : EnvOk n tb env a) (ob : Ob) : EnvOk n (tb ++ [ob]) env a :=
  h.table fun i hi => ⟨by simp; omega, by simp [obAt, List.getD_eq_getElem?_getD, List.getElem?_append_left hi], by simp [obAt, List.getD_eq_getElem?_getD, List.getElem?_append_left hi]⟩

/-- a slot said otherwise -/
theorem EnvOk.recast {n : Nat} {tb : Tb} {env : Env} {a : Act} (h : EnvOk n tb env a) (s : Nat) (x y : SV) (hx : lk env s = some x) (hy : y.val tb = x.val tb) (ho : y.ok tb) : EnvOk n tb ((s, y) :: env) a := by
  refine ⟨h.defers, h.size, fun t z hl => ?_⟩
  simp only [lk] at hl
  split at hl
  · rename_i hb
    have := Nat.eq_of_beq_eq_true hb
    subst this
    simp only [Option.some.injEq] at hl
    subst hl
    rw [hy]
    exact ⟨(h.at_ s x hx).1, ho⟩
  · exact h.at_ t z hl

section
variable {P : Program} {ops : Array Oper} {Q : Exit → Act → World → Prop} {n : Nat} {tb : Tb} {env : Env} {rs : List Rw} {w0 : World} {M : Nat → Nat → Prop} {a : Act} {w : World}

def opAt (env : Env) (ops : Array Oper) (n i : Nat) : Option (Op × Nat) :=
  match ops.toList[i]? with
  | some o => match guardE ops env o, o.dst with
    | some true, some d => match Nat.blt d n with
      | true => some (o.op, d)
      | false => none
    | _, _ => none
  | none => none
def opAt0 (ops : Array Oper) (i : Nat) : Option Op :=
  match ops.toList[i]? with
  | some o => match o.guard, o.dst with
    | none, none => some o.op
    | _, _ => none
  | none => none

theorem opAt_ok {i d : Nat} {op : Op} (hE : EnvOk n tb env a) (h : opAt env ops n i = some (op, d)) : ∃ o, ops[i]? = some o ∧ Region.wanted o (yielded ops a.tmps) = true ∧ o.dst = some d ∧ d < n ∧ o.op = op := by
  unfold opAt at h
  split at h
  · rename_i o ho
    split at h
    · rename_i d' hg hd
      split at h
      · rename_i hlt
        simp only [Option.some.injEq, Prod.mk.injEq] at h
        obtain ⟨rfl, rfl⟩ := h
        exact ⟨o, by simpa using ho, guardE_ok hE hg, hd, by simpa [Nat.blt_eq] using hlt, rfl⟩
      · cases h
    · cases h
  · cases h
theorem opAt0_ok {i : Nat} {op : Op} (h : opAt0 ops i = some op) : ∃ o, ops[i]? = some o ∧ o.guard = none ∧ o.dst = none ∧ o.op = op := by
  unfold opAt0 at h
  split at h
  · rename_i o ho
    split at h
    · rename_i hg hd
      simp only [Option.some.injEq] at h
      exact ⟨o, by simpa using ho, hg, hd, h⟩
    · cases h
  · cases h

/-- any operation with a value: by what its run gives -/
theorem wpOp_value {i d : Nat} {op : Op} {N : Act → World → Prop} (hE : EnvOk n tb env a) (ho : opAt env ops n i = some (op, d)) {v : Value} {w' : World}
    (hr : ∀ o : Oper, o.op = op → (execOp a.eval o).run P w = .ok (.value v) w') (k : N (a.put (some d) v) w') : wpOp P ops Q i N a w := by
  obtain ⟨o, h1, h2, h3, h4, h5⟩ := opAt_ok hE ho
  simp only [wpOp, h1]
  have : Region.wanted o (yielded ops a.tmps) = true := by first | exact h2 | simp [Region.wanted, h2]
  rw [this]
  simp only [if_true]
  refine .inl ?_
  unfold Oper.wp
  rw [hr o h5, Oper.upon, h3]
  exact k
theorem wpOp_skip {i : Nat} {op : Op} {N : Act → World → Prop} (ho : opAt0 ops i = some op) {w' : World}
    (hr : ∀ o : Oper, o.op = op → (execOp a.eval o).run P w = .ok .skip w') (k : N a w') : wpOp P ops Q i N a w := by
  obtain ⟨o, h1, h2, h3, h5⟩ := opAt0_ok ho
  simp only [wpOp, h1]
  have : Region.wanted o (yielded ops a.tmps) = true := by first | exact h2 | simp [Region.wanted, h2]
  rw [this]
  simp only [if_true]
  refine .inl ?_
  unfold Oper.wp
  rw [hr o h5, Oper.upon, h3]
  exact k

def allocE (P : Program) (env : Env) (ops : Array Oper) (n i : Nat) : Option (Nat × List Value) :=
  match opAt env ops n i with
  | some (.alloc t, d) => match P.info? t with
    | some inf => match inf.zero with
      | some z => some (d, z.cells.toList)
      | none => none
    | none => none
  | _ => none

theorem wpOp_alloc {i d : Nat} {cs : List Value} {N : Act → World → Prop} (hW : WOk w0 M w tb rs) (hE : EnvOk n tb env a) (h : allocE P env ops n i = some (d, cs))
    (k : ∀ b a' w', b = w.heap.size → w0.heap.size ≤ b → Fr w tb rs w' (tb ++ [⟨b, 0, cs, true⟩]) rs → WOk w0 M w' (tb ++ [⟨b, 0, cs, true⟩]) rs → EnvOk n (tb ++ [⟨b, 0, cs, true⟩]) ((d, .p tb.length 0) :: env) a' → N a' w') : wpOp P ops Q i N a w := by
  unfold allocE at h
  split at h
  · rename_i t d' ho
    split at h
    · rename_i inf hi
      split at h
      · rename_i z hz
        simp only [Option.some.injEq, Prod.mk.injEq] at h
        obtain ⟨rfl, rfl⟩ := h
        have hd : d' < n := (opAt_ok hE ho).choose_spec.2.2.2.1
        refine wpOp_value hE ho (v := .pointer (some ⟨w.heap.size, 0, none⟩)) (w' := w.alloc (.cells z.cells t)) ?_ ?_
        · intro o hop
          unfold execOp
          rw [hop]
          simp only [Instr.alloc, Sem.run_bind, run_zeroValue' hi hz, Result.andThen_ok, newVar, newRow, run_newObj, Sem.run_pure]
          rfl
        · have hW' := hW.alloc z.cells.toList t
          rw [Array.toArray_toList] at hW'
          refine k w.heap.size _ _ rfl hW.step.size (Fr.alloc _ _ _ _ _ _) hW' ?_
          have hE' := (hE.grow ⟨w.heap.size, 0, z.cells.toList, true⟩).put hd (.p tb.length 0) (by simp [SV.ok])
          have hv : SV.val (tb ++ [⟨w.heap.size, 0, z.cells.toList, true⟩]) (.p tb.length 0) = .pointer (some ⟨w.heap.size, 0, none⟩) := by
            simp [SV.val, obAt, List.getD_eq_getElem?_getD]
          rw [hv] at hE'
          exact hE'
      · cases h
    · cases h
  · cases h

def boxE (P : Program) (tb : Tb) (env : Env) (ops : Array Oper) (n i : Nat) : Option (Nat × List Value) :=
  match opAt env ops n i with
  | some (.box t x, d) => match opd env x with
    | some s => some (d, (s.val tb).cells.toList)
    | none => none
  | _ => none

theorem wpOp_box {i d : Nat} {cs : List Value} {N : Act → World → Prop} (hW : WOk w0 M w tb rs) (hE : EnvOk n tb env a) (h : boxE P tb env ops n i = some (d, cs))
    (k : ∀ b a' w', b = w.heap.size → w0.heap.size ≤ b → Fr w tb rs w' (tb ++ [⟨b, 0, cs, true⟩]) rs → WOk w0 M w' (tb ++ [⟨b, 0, cs, true⟩]) rs → EnvOk n (tb ++ [⟨b, 0, cs, true⟩]) ((d, .p tb.length 0) :: env) a' → N a' w') : wpOp P ops Q i N a w := by
  unfold boxE at h
  split at h
  · rename_i t x d' ho
    split at h
    · rename_i s hs
      simp only [Option.some.injEq, Prod.mk.injEq] at h
      obtain ⟨rfl, rfl⟩ := h
      have hd : d' < n := (opAt_ok hE ho).choose_spec.2.2.2.1
      have hx := opd_ok hE hs
      refine wpOp_value hE ho (v := .pointer (some ⟨w.heap.size, 0, none⟩)) (w' := w.alloc (.cells (s.val tb).cells t)) ?_ ?_
      · intro o hop
        unfold execOp
        rw [hop]
        simp only [Instr.box, hx.1, Sem.run_bind, Result.andThen_ok, newVar, newRow, run_newObj, Sem.run_pure]
        rfl
      · have hW' := hW.alloc (s.val tb).cells.toList t
        rw [Array.toArray_toList] at hW'
        refine k w.heap.size _ _ rfl hW.step.size (Fr.alloc _ _ _ _ _ _) hW' ?_
        have hE' := (hE.grow ⟨w.heap.size, 0, (s.val tb).cells.toList, true⟩).put hd (.p tb.length 0) (by simp [SV.ok])
        have hv : SV.val (tb ++ [⟨w.heap.size, 0, (s.val tb).cells.toList, true⟩]) (.p tb.length 0) = .pointer (some ⟨w.heap.size, 0, none⟩) := by
          simp [SV.val, obAt, List.getD_eq_getElem?_getD]
        rw [hv] at hE'
        exact hE'
    · cases h
  · cases h
end

end Go.Proofs.Ytbjopfcbpobnpaa.ME
