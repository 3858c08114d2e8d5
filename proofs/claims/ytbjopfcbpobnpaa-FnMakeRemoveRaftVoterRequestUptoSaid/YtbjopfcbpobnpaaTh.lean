/- A message's tags, set one after the other. Own work. -/
import Derived.Test.YtbjopfcbpobnpaaTg
namespace Go.Proofs.Ytbjopfcbpobnpaa.ME
open Go
open Go.RowKit
set_option linter.unusedVariables false
set_option linter.unusedSimpArgs false
set_option maxRecDepth 20000

/-- a struct's cells, that may be written -/
structure Str (w : World) (p : Nat) (cs : List Value) : Prop where
  at_ : ∀ j v, cs[j]? = some v → w.cell? ⟨p, j, none⟩ = some v
  frz : ∀ j, j < cs.length → w.frozen? ⟨p, j, none⟩ = false
theorem Str.move {w w' : World} {p : Nat} {cs : List Value} {M : Nat → Nat → Prop} (h : Str w p cs) (hs : Step w w' M) (hM : ∀ o, ¬ M p o) : Str w' p cs :=
  ⟨fun j v hj => hs.cell (hM j) (h.at_ j v hj), fun j hj => hs.frozen (hM j) (h.at_ j _ (List.getElem?_eq_getElem hj)) (h.frz j hj)⟩
theorem Str.of {w0 w : World} {M : Nat → Nat → Prop} {tb : Tb} {rs : List Rw} (hW : WOk w0 M w tb rs) (i : Nat) {p : Nat} {cs : List Value} (hi : tb[i]? = some ⟨p, 0, cs, true⟩) : Str w p cs := by
  refine ⟨fun j v hj => ?_, fun j hj => ?_⟩
  · have := hW.cells i _ hi j v hj
    simpa using this
  · have := (hW.rw_ i _ hi rfl j hj).2
    simpa using this
theorem Str.atF {w : World} {p : Nat} {cs : List Value} (h : Str w p cs) : AtF w (fun _ _ => True) p 0 cs := fun j v hj => ⟨trivial, by rw [Nat.zero_add]; exact h.at_ j v hj⟩

/-- some tags are set -/
structure TL (w wL w' : World) (F : Nat → Nat → Prop) (p off : Nat) (cs0 : List Value) (m : Option Nat) (u : List (Int × Bs)) : Prop where
  step : Step w w' Nil
  big : w.heap.size ≤ wL.heap.size
  keep : Step wL w' (fun b o => b = p ∧ o = off)
  str : Str w' p (cs0.set off (.map m))
  own : OwnM w' (fun b o => F b o ∧ b < w.heap.size) m u
  new : ∀ r, m = some r → wL.heap.size ≤ r
theorem TL.move {w wL w1 w2 : World} {F : Nat → Nat → Prop} {p off : Nat} {cs0 : List Value} {m : Option Nat} {u : List (Int × Bs)} (h : TL w wL w1 F p off cs0 m u) (hs : Step w1 w2 Nil) : TL w wL w2 F p off cs0 m u :=
  ⟨h.step.trans' hs, h.big, h.keep.trans' hs, h.str.move hs fun _ h => h, h.own.move hs nilM keepF (fun _ _ _ h => h), h.new⟩
theorem tag_at {w : World} {F : Nat → Nat → Prop} {A : Option Addr} {c j : Nat} {u : List (Int × Bs)} {k : Int} {s : Bs} (h : TagsR w F A c u) (hj : u[j]? = some (k, s)) :
    ∃ b o A' c', A = some ⟨b, o, none⟩ ∧ At w b (o + j * 2) [.int .u32 k, .slice A' s.length c'] ∧ Octs w F A' c' s ∧ 0 ≤ k ∧ k < 4294967296 := by
  obtain ⟨cs, h1, h2⟩ := h.ex
  obtain ⟨hlt, _⟩ := List.getElem?_eq_some_iff.1 hj
  obtain ⟨⟨A', c', g1, g2⟩, g3⟩ := h2 j k s hj
  cases hA : A with
  | none => have := (h1.none_ hA).1; omega
  | some ad =>
    obtain ⟨b, o, rfl, h4⟩ := h1.some_ ad hA (by omega)
    have h5 := (h4 j hlt).2
    rw [g1] at h5
    exact ⟨b, o, A', c', rfl, h5.at_, g2, g3⟩
theorem tags_range {w : World} {F : Nat → Nat → Prop} {A : Option Addr} {c : Nat} {u : List (Int × Bs)} (h : TagsR w F A c u) : ∀ x ∈ u, 0 ≤ x.1 ∧ x.1 < 4294967296 := by
  rintro ⟨k, s⟩ hx
  obtain ⟨j, hj⟩ := List.getElem?_of_mem hx
  obtain ⟨_, _, _, _, _, _, _, h⟩ := tag_at h hj
  exact h
theorem At.step_nil {w w' : World} {b o : Nat} {cs : List Value} (h : At w b o cs) (hs : Step w w' Nil) : At w' b o cs := h.step hs fun _ _ h => h
theorem TL.set {w wL w1 : World} {F : Nat → Nat → Prop} {p off c j : Nat} {cs0 : List Value} {m : Option Nat} {u : List (Int × Bs)} {k : Int} {A : Option Addr} {s : Bs} (h : TL w wL w1 F p off cs0 m (u.take j)) (hp : w.heap.size ≤ p) (hoff : Nat.blt off cs0.length = true) (hsort : Sorted u) (hj : u[j]? = some (k, s)) (hs : Octs w F A c s) (hk : 0 ≤ k ∧ k < 4294967296) :
    Calls Try.prog 96 [.pointer (some ⟨p, off, none⟩), .int .u32 k, .slice A s.length c].toArray w1 (fun e w' => e = .returned (.tuple #[]) ∧ Step w1 w' (fun b' _ => b' = p ∨ m = some b') ∧ ∃ r, TL w wL w' F p off cs0 (some r) (u.take (j + 1))) := by
  have hbig := h.big
  have hoff' : off < cs0.length := by simpa [Nat.blt_eq] using hoff
  have hcell : w1.cell? ⟨p, off, none⟩ = some (.map m) := h.str.at_ off _ (by simp [hoff'])
  have hfz : w1.frozen? ⟨p, off, none⟩ = false := h.str.frz off (by simpa using hoff')
  have hs1 : Octs w1 (fun b o => F b o ∧ b < w.heap.size) A c s := hs.move h.step nilM fun b o hf hb => ⟨hf, hb⟩
  have hmp : m ≠ some p := fun e => by
    obtain ⟨es, clk, h1, _⟩ := h.own.some_ p e
    exact cell_block hcell h1 rfl
  refine (kTagsSet hcell hfz h.own hs1 hk (fun b' o' hg => ⟨fun e => ?_, fun e => ?_⟩) (fun b' o' hg => Nat.lt_of_lt_of_le hg.2 h.step.size)).mono ?_
  · have := hg.2; omega
  · have := h.new b' e; have := hg.2; omega
  · rintro e w' ⟨rfl, r, h1, h2, h3, h4, h5⟩
    rw [setT_next hsort hj] at h3
    refine ⟨rfl, h5.mono fun b' o' _ hN => hN.imp And.left id, r, ?_, h.big, ?_, ⟨fun i v hi => ?_, fun i hi => ?_⟩, h3, fun r' hr' => ?_⟩
    · exact h.step.trans h5 fun b' o' hl hN => by
        rcases hN with ⟨h6, _⟩ | h6
        · omega
        · have := h.new b' h6; omega
    · exact h.keep.trans h5 fun b' o' hl hN => by
        rcases hN with h6 | h6
        · exact h6
        · have := h.new b' h6; omega
    · rw [List.getElem?_set] at hi
      by_cases e : off = i
      · subst e
        rw [if_pos rfl, if_pos hoff'] at hi
        rw [← Option.some.inj hi]; exact h1
      · rw [if_neg e] at hi
        refine h5.cell (fun hN => ?_) (h.str.at_ i v (by rw [List.getElem?_set, if_neg e]; exact hi))
        rcases hN with ⟨_, h6⟩ | h6
        · exact e h6.symm
        · exact hmp h6
    · by_cases e : off = i
      · subst e; exact h2
      · rw [List.length_set] at hi
        refine h5.frozen (fun hN => ?_) (h.str.at_ i _ (List.getElem?_eq_getElem (by simpa using hi))) (h.str.frz i (by simpa using hi))
        rcases hN with ⟨_, h6⟩ | h6
        · exact e h6.symm
        · exact hmp h6
    · obtain rfl := Option.some.inj hr'
      rcases h4 with h4 | h4
      · exact h.new _ h4
      · exact Nat.le_trans h.keep.size h4
theorem TL.keeps {w wL w1 w2 w' : World} {F : Nat → Nat → Prop} {p off : Nat} {cs0 : List Value} {m : Option Nat} {u : List (Int × Bs)} {tb : Tb} (h : TL w wL w1 F p off cs0 m u) (hoff : Nat.blt off cs0.length = true) (hs : Step w2 w' (fun b' _ => b' = p ∨ m = some b')) (hc : CellsOk w2 tb) (hb : ∀ ob ∈ tb, w1.heap.size ≤ ob.blk) : CellsOk w' tb := fun i ob hi j v hj => by
  have hoff' : off < cs0.length := by simpa [Nat.blt_eq] using hoff
  have h1 := hb ob (List.mem_of_getElem? hi)
  have h2 : p < w1.heap.size := World.lt_of_cell (h.str.at_ off (.map m) (by simp [hoff']))
  refine hs.cell (fun hN => ?_) (hc i ob hi j v hj)
  rcases hN with h3 | h3
  · omega
  · obtain ⟨es, clk, h4, _⟩ := h.own.some_ _ h3
    have := (Array.getElem?_eq_some_iff.1 h4).1
    omega
theorem TL.start {w w1 : World} {tb : Tb} {rs : List Rw} {F : Nat → Nat → Prop} {p off : Nat} {cs0 : List Value} (hW : WOk w Nil w1 tb rs) (i : Nat) (hi : tb[i]? = some ⟨p, 0, cs0, true⟩) (ho : cs0.set off (.map none) = cs0) : TL w w1 w1 F p off cs0 none [] :=
  ⟨hW.step, hW.step.size, Step.refl _ _, by rw [ho]; exact Str.of hW i hi, OwnM.nil _ _, fun _ h => by cases h⟩
theorem new_of {w w1 : World} {tb : Tb} {rs : List Rw} {p : Nat} {cs : List Value} (hW : WOk w Nil w1 tb rs) (i : Nat) (hi : tb[i]? = some ⟨p, 0, cs, true⟩) (hn : Nat.blt 0 cs.length = true) : w.heap.size ≤ p := by
  rcases (hW.rw_ i _ hi rfl 0 (by simpa [Nat.blt_eq] using hn)).1 with h | h
  · exact h
  · exact h.elim
theorem TL.map {w wL w1 : World} {F : Nat → Nat → Prop} {p off : Nat} {cs0 : List Value} {m : Option Nat} {u : List (Int × Bs)} (h : TL w wL w1 F p off cs0 m u) (hs : Sorted u) (hr : ∀ x ∈ u, 0 ≤ x.1 ∧ x.1 < 4294967296) : MapR w1 (fun _ _ => True) m u :=
  h.own.map (fun _ _ _ => trivial) (fun _ _ _ => trivial) hs hr
theorem imm_off {G : Nat → Nat → Prop} {w0 w : World} {tb : Tb} {rs : List Rw} {p off : Nat} {cs : List Value} (i : Nat) (hi : tb[i]? = some ⟨p, 0, cs, true⟩) (ho : Nat.blt off cs.length = true) : ∀ b o, Imm G w0 w tb rs b o → b < w.heap.size → ¬ (b = p ∧ o = off) := fun b o h _ e => by
  have ho' : off < cs.length := by simpa [Nat.blt_eq] using ho
  obtain ⟨rfl, rfl⟩ := e
  exact h.2.2 (.inl ⟨i, _, hi, rfl, rfl, Nat.zero_le _, by simpa using ho'⟩)
theorem none_blk {F : Nat → Nat → Prop} : ∀ b o, F b o → ¬ Blk none b o := fun _ _ _ h => by cases h
theorem app_none {w : World} {e : Nat} {s : Bs} {en : Ending} {w2 : World} (h : AppPost w e none ([] ++ s) en w2) : AppPost w e none s en w2 := h

end Go.Proofs.Ytbjopfcbpobnpaa.ME
