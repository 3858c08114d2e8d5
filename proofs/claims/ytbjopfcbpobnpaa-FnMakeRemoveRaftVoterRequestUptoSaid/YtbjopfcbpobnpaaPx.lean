/- Tags, kept in order by their keys: words for the loops that sort them in. Own work. -/
import Derived.Test.YtbjopfcbpobnpaaPw
namespace Go.Proofs.Ytbjopfcbpobnpaa.ME
open Go
set_option linter.unusedVariables false
set_option linter.unusedSimpArgs false

/-- cells of tags, each of them -/
structure TagsE (w : World) (F : Nat → Nat → Prop) (out : List (Int × Bs)) (css : List (List Value)) : Prop where
  len : css.length = out.length
  each : ∀ (i : Nat) (c : List Value) (x : Int × Bs), css[i]? = some c → out[i]? = some x → TagR w F c x
theorem TagsE.move {w w' : World} {F F' N : Nat → Nat → Prop} {l : List (Int × Bs)} {css : List (List Value)} (h : TagsE w F l css) (hs : Step w w' N) (hM : ∀ b o, F b o → b < w.heap.size → ¬ N b o) (hF : ∀ b o, F b o → b < w.heap.size → F' b o) : TagsE w' F' l css :=
  ⟨h.len, fun i c x hc hx => (h.each i c x hc hx).move hs hM hF⟩
theorem TagsE.nil (w : World) (F : Nat → Nat → Prop) : TagsE w F [] [] := ⟨rfl, fun i c x h => by simp at h⟩
theorem TagsE.get {w : World} {F : Nat → Nat → Prop} {l : List (Int × Bs)} {css : List (List Value)} (h : TagsE w F l css) {i : Nat} {x : Int × Bs} (hx : l[i]? = some x) : ∃ c, css[i]? = some c ∧ TagR w F c x := by
  have hi := (List.getElem?_eq_some_iff.1 hx).1
  have hc := List.getElem?_eq_getElem (show i < css.length by rw [h.len]; exact hi)
  exact ⟨_, hc, h.each i _ x hc hx⟩
theorem TagsE.two {w : World} {F : Nat → Nat → Prop} {l : List (Int × Bs)} {css : List (List Value)} (h : TagsE w F l css) : ∀ c ∈ css, c.length = 2 := by
  intro c hc
  obtain ⟨i, hi, rfl⟩ := List.getElem_of_mem hc
  have hl := h.len
  exact (h.each i _ _ (List.getElem?_eq_getElem hi) (List.getElem?_eq_getElem (show i < l.length by omega))).two
theorem TagsE.tags {w : World} {F : Nat → Nat → Prop} {l : List (Int × Bs)} {css : List (List Value)} (h : TagsE w F l css) : Tags w F css.flatten l css := ⟨⟨rfl, h.two⟩, h.len, h.each⟩
theorem TagsE.ins {w : World} {F : Nat → Nat → Prop} {l : List (Int × Bs)} {css : List (List Value)} (h : TagsE w F l css) {c : List Value} {x : Int × Bs} (hx : TagR w F c x) {i : Nat} (hi : i ≤ l.length) : TagsE w F (l.take i ++ x :: l.drop i) (css.take i ++ c :: css.drop i) := by
  have hl := h.len
  refine ⟨by simp; omega, fun j d y hd hy => ?_⟩
  have hc1 : (css.take i).length = i := by rw [List.length_take]; omega
  have hl1 : (l.take i).length = i := by rw [List.length_take]; omega
  rcases Nat.lt_trichotomy j i with hj | hj | hj
  · rw [List.getElem?_append_left (by omega), List.getElem?_take, if_pos hj] at hd hy
    exact h.each j d y hd hy
  · subst hj
    rw [List.getElem?_append_right (by omega), hc1, Nat.sub_self] at hd
    rw [List.getElem?_append_right (by omega), hl1, Nat.sub_self] at hy
    simp only [List.getElem?_cons_zero, Option.some.injEq] at hd hy
    subst hd; subst hy; exact hx
  · rw [List.getElem?_append_right (by omega), hc1, show j - i = (j - i - 1) + 1 by omega, List.getElem?_cons_succ, List.getElem?_drop] at hd
    rw [List.getElem?_append_right (by omega), hl1, show j - i = (j - i - 1) + 1 by omega, List.getElem?_cons_succ, List.getElem?_drop] at hy
    exact h.each _ d y hd hy
theorem flat_cells {m : Nat} {css : List (List Value)} (h : ∀ c ∈ css, c.length = m) {i : Nat} {c : List Value} (hc : css[i]? = some c) : ∀ (j : Nat) (v : Value), c[j]? = some v → css.flatten[i * m + j]? = some v := by
  intro j v hj
  have hi := (List.getElem?_eq_some_iff.1 hc).1
  have hcl : c.length = m := h c (List.mem_of_getElem? hc)
  have := flatten_get h i j hi (by rw [← hcl]; exact (List.getElem?_eq_some_iff.1 hj).1)
  rw [← this, List.getD_eq_getElem?_getD, hc]
  exact hj
theorem splice_flatten {m : Nat} : ∀ {L : List (List Value)}, (∀ c ∈ L, c.length = m) → ∀ {j : Nat} {c : List Value}, j < L.length → c.length = m → splice L.flatten (j * m) c = (L.set j c).flatten
  | [], _, j, c, hj, _ => by simp at hj
  | d :: r, h, 0, c, _, hc => by
    have hd : d.length = m := h d (List.mem_cons_self ..)
    unfold splice
    rw [Nat.zero_mul, List.take_zero, List.nil_append, Nat.zero_add, List.set_cons_zero, List.flatten_cons, List.flatten_cons, List.drop_append, hc]
    have e1 : d.drop m = [] := List.drop_eq_nil_of_le (by omega)
    rw [e1, hd, Nat.sub_self, List.drop_zero, List.nil_append]
  | d :: r, h, j + 1, c, hj, hc => by
    have hd : d.length = m := h d (List.mem_cons_self ..)
    have ih := splice_flatten (L := r) (fun c hc => h c (List.mem_cons_of_mem _ hc)) (j := j) (c := c) (by simpa using hj) hc
    unfold splice at ih ⊢
    rw [List.set_cons_succ, List.flatten_cons, List.flatten_cons, ← ih, List.take_append, List.drop_append, hd]
    have e1 : d.take ((j + 1) * m) = d := List.take_of_length_le (by rw [hd, Nat.add_mul]; omega)
    have e2 : d.drop ((j + 1) * m + c.length) = [] := List.drop_eq_nil_of_le (by rw [hd, Nat.add_mul]; omega)
    have e3 : (j + 1) * m - m = j * m := by rw [Nat.add_mul]; omega
    have e4 : (j + 1) * m + c.length - m = j * m + c.length := by rw [Nat.add_mul]; omega
    rw [e1, e2, e3, e4, List.nil_append, List.append_assoc]

/-- the row while room is made at a place: from j on, all one place further -/
def rowAt (css : List (List Value)) (z : List Value) (j : Nat) : List (List Value) := (css ++ [z]).take (j + 1) ++ css.drop j
theorem rowAt_start (css : List (List Value)) (z : List Value) : rowAt css z css.length = css ++ [z] := by
  unfold rowAt
  rw [List.take_of_length_le (by simp), List.drop_length, List.append_nil]
theorem rowAt_len (css : List (List Value)) (z : List Value) {j : Nat} (h : j ≤ css.length) : (rowAt css z j).length = css.length + 1 := by
  simp only [rowAt, List.length_append, List.length_take, List.length_drop, List.length_cons, List.length_nil]; omega
theorem rowAt_two {css : List (List Value)} {z : List Value} {m : Nat} (h : ∀ c ∈ css, c.length = m) (hz : z.length = m) (j : Nat) : ∀ c ∈ rowAt css z j, c.length = m := by
  intro c hc
  rcases List.mem_append.1 hc with hc | hc
  · rcases List.mem_append.1 (List.mem_of_mem_take hc) with hc | hc
    · exact h c hc
    · rw [List.mem_singleton.1 hc]; exact hz
  · exact h c (List.mem_of_mem_drop hc)
theorem rowAt_get {css : List (List Value)} {z : List Value} {j i : Nat} {c : List Value} (hi : i < j) (hc : css[i]? = some c) : (rowAt css z j)[i]? = some c := by
  have h := (List.getElem?_eq_some_iff.1 hc).1
  unfold rowAt
  rw [List.getElem?_append_left (by simp; omega), List.getElem?_take, if_pos (by omega), List.getElem?_append_left h]
  exact hc
theorem rowAt_step {css : List (List Value)} {z : List Value} {j : Nat} {c : List Value} (hj : j < css.length) (hc : css[j]? = some c) : (rowAt css z (j + 1)).set (j + 1) c = rowAt css z j := by
  apply List.ext_getElem?
  intro i
  unfold rowAt
  have hl1 : ((css ++ [z]).take (j + 1 + 1)).length = j + 2 := by simp; omega
  have hl2 : ((css ++ [z]).take (j + 1)).length = j + 1 := by simp; omega
  have hL : ((css ++ [z]).take (j + 1 + 1) ++ css.drop (j + 1)).length = css.length + 1 := by simp; omega
  rw [List.getElem?_set]
  by_cases h1 : j + 1 = i
  · subst h1
    rw [if_pos rfl, if_pos (by omega), List.getElem?_append_right (by omega), hl2, Nat.sub_self, List.getElem?_drop, Nat.add_zero, hc]
  · rw [if_neg h1]
    rcases Nat.lt_or_ge i (j + 1) with h2 | h2
    · rw [List.getElem?_append_left (by omega), List.getElem?_append_left (by omega), List.getElem?_take, List.getElem?_take, if_pos (by omega), if_pos (by omega)]
    · rw [List.getElem?_append_right (by omega), List.getElem?_append_right (by omega), hl1, hl2, List.getElem?_drop, List.getElem?_drop]
      congr 1
      omega
theorem rowAt_end {css : List (List Value)} {z : List Value} {i : Nat} {c : List Value} (hi : i ≤ css.length) : (rowAt css z i).set i c = css.take i ++ c :: css.drop i := by
  unfold rowAt
  have e : (css ++ [z]).take (i + 1) = css.take i ++ [((css ++ [z]).getD i [])] := by
    rw [List.take_add_one]
    have hlt : i < (css ++ [z]).length := by simp; omega
    rw [List.getElem?_eq_getElem hlt, List.getD_eq_getElem?_getD, List.getElem?_eq_getElem hlt, List.take_append, show i - css.length = 0 by omega]
    simp
  have hl : (css.take i).length = i := by rw [List.length_take]; omega
  rw [e, List.append_assoc, List.set_append_right _ _ (by omega), hl, Nat.sub_self]
  rfl

theorem shift_row {css : List (List Value)} {z c : List Value} (h2 : ∀ c ∈ css, c.length = 2) (hz : z.length = 2) {j : Nat} (h0 : 0 < j) (hj : j ≤ css.length) (hc : css[j - 1]? = some c) : splice (rowAt css z j).flatten (j * 2) c = (rowAt css z (j - 1)).flatten := by
  obtain ⟨q, rfl⟩ : ∃ q, j = q + 1 := ⟨j - 1, by omega⟩
  rw [splice_flatten (rowAt_two h2 hz _) (by rw [rowAt_len _ _ hj]; omega) (h2 c (List.mem_of_getElem? hc)), Nat.add_sub_cancel, rowAt_step (by omega) (by simpa using hc)]
theorem place_row {css : List (List Value)} {z c : List Value} (h2 : ∀ c ∈ css, c.length = 2) (hz : z.length = 2) {i : Nat} (hi : i ≤ css.length) (hc : c.length = 2) : splice (rowAt css z i).flatten (i * 2) c = (css.take i ++ c :: css.drop i).flatten := by
  rw [splice_flatten (rowAt_two h2 hz _) (by rw [rowAt_len _ _ hi]; omega) hc, rowAt_end hi]
theorem push_row {css : List (List Value)} {z : List Value} {n : Nat} (hn : css.length = n) : css.flatten ++ z = (rowAt css z n).flatten := by
  subst hn; rw [rowAt_start]; simp
theorem ins_length {out : List (Int × Bs)} {i : Nat} (x : Int × Bs) (hi : i ≤ out.length) : out.length + 1 = (out.take i ++ x :: out.drop i).length := by simp; omega
theorem TagsE.get2 {w : World} {F : Nat → Nat → Prop} {l : List (Int × Bs)} {css : List (List Value)} (h : TagsE w F l css) {i : Nat} {k : Int} {s : Bs} (hx : l[i]? = some (k, s)) : ∃ A c, css[i]? = some [.int .u32 k, .slice A s.length c] ∧ Octs w F A c s ∧ 0 ≤ k ∧ k < 4294967296 := by
  obtain ⟨cs, hc, ⟨A, c, hcs, hO⟩, h0, h1⟩ := h.get hx
  exact ⟨A, c, by rw [hc, hcs], hO, h0, h1⟩
theorem tagPos_eq {out : List (Int × Bs)} {k : Int} : ∀ {i : Nat}, i ≤ out.length → (∀ j, j < i → (out.getD j (0, [])).1 < k) → (i < out.length → ¬ (out.getD i (0, [])).1 < k) → tagPos out k = i := by
  induction out with
  | nil => intro i hi _ _; simp at hi; subst hi; rfl
  | cons a r ih =>
    intro i hi h1 h2
    cases i with
    | zero =>
      have := h2 (by simp)
      simp at this
      unfold tagPos
      rw [List.takeWhile_cons, if_neg (by simpa using this)]; rfl
    | succ i =>
      have ha := h1 0 (by omega)
      simp at ha
      have := ih (i := i) (by simpa using hi) (fun j hj => by simpa using h1 (j + 1) (by omega)) (fun hj => by simpa using h2 (by simpa using hj))
      unfold tagPos at this ⊢
      rw [List.takeWhile_cons, if_pos (by simpa using ha), List.length_cons, this]
theorem getD_of {out : List (Int × Bs)} {i : Nat} {x : Int × Bs} (h : out[i]? = some x) : out.getD i (0, []) = x := by rw [List.getD_eq_getElem?_getD, h]; rfl
theorem getD_fst {out : List (Int × Bs)} {i : Nat} {k : Int} {s : Bs} (h : out[i]? = some (k, s)) : (out.getD i (0, [])).1 = k := by rw [getD_of h]
theorem ins_low {least : Int} {out : List (Int × Bs)} {k : Int} {s : Bs} (h : k < least) : insTag least out (k, s) = out := by
  unfold insTag
  rw [if_pos (.inl h)]
theorem ins_same {least : Int} {out : List (Int × Bs)} {k : Int} {s : Bs} {i : Nat} (hp : tagPos out k = i) (hi : i < out.length) (he : (out.getD i (0, [])).1 = k) : insTag least out (k, s) = out := by
  unfold insTag
  dsimp only
  rw [hp, if_pos (.inr ⟨hi, he⟩)]
theorem ins_new {least : Int} {out : List (Int × Bs)} {k : Int} {s : Bs} {i : Nat} (hp : tagPos out k = i) (hl : ¬ k < least) (hn : i < out.length → (out.getD i (0, [])).1 ≠ k) : insTag least out (k, s) = out.take i ++ (k, s) :: out.drop i := by
  unfold insTag
  dsimp only
  rw [hp, if_neg (fun h => h.elim hl fun h3 => hn h3.1 h3.2)]
theorem foldl_take_succ {α β : Type} {f : β → α → β} {b : β} {l : List α} {k : Nat} {x : α} (h : l[k]? = some x) : (l.take (k + 1)).foldl f b = f ((l.take k).foldl f b) x := by
  rw [List.take_add_one, h, List.foldl_append]; rfl
theorem insTag_len (least : Int) (out : List (Int × Bs)) (t : Int × Bs) : (insTag least out t).length ≤ out.length + 1 := by
  unfold insTag
  dsimp only
  split
  · omega
  · simp; omega
theorem tags_take_slots {w : World} {F : Nat → Nat → Prop} {A : Option Addr} {c : Nat} {l : List (Int × Bs)} {xs : Nat → List Value} (h : Slots w F 2 A c l.length xs) (m : Nat) : Slots w F 2 A c (l.take m).length xs := h.take (by rw [List.length_take]; omega)
theorem tags_take_each {w : World} {F : Nat → Nat → Prop} {l : List (Int × Bs)} {xs : Nat → List Value} (h : ∀ i k s, l[i]? = some (k, s) → (∃ A' c', xs i = [.int .u32 k, .slice A' s.length c'] ∧ Octs w F A' c' s) ∧ 0 ≤ k ∧ k < 4294967296) (m : Nat) : ∀ (i : Nat) (k : Int) (s : Bs), (l.take m)[i]? = some (k, s) → (∃ A' c', xs i = [.int .u32 k, .slice A' s.length c'] ∧ Octs w F A' c' s) ∧ 0 ≤ k ∧ k < 4294967296 := fun i k s hx => by
  rw [List.getElem?_take] at hx
  split at hx
  · exact h i k s hx
  · cases hx
theorem unknown_end {w0 w : World} {F : Nat → Nat → Prop} {tb : Tb} {rs : List Rw} {r A c e n} {out : List (Int × Bs)} {css : List (List Value)} (hW : WOk w0 Nil w tb rs) {k : Nat} (hk : rs[k]? = some r) (hr : r = ⟨A, c, e, 2, n, css.flatten⟩) (hn : n = out.length)
    (hT : TagsE w (Imm F w0 w tb rs) out css) (hsm : out.length ≤ 1099511627776) {u : List (Int × Bs)} (hu : out = u) : GivesU w0 F u (.returned (.slice A n c)) w := by
  subst hr; subst hu; subst hn
  refine ⟨A, c, rfl, ?_, hW.step⟩
  refine (hT.move (Step.refl w Nil) nilM immOut).tags.slots (hW.own k _ hk) rfl hsm fun g hg o => ?_
  rcases hW.ownM k _ hk g hg with h | h
  · exact .inr h
  · exact (h 0).elim

end Go.Proofs.Ytbjopfcbpobnpaa.ME
