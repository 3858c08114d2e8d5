/- Words for what is usual, and for parts. Own work. -/
import Derived.Test.YtbjopfcbpobnpaaPx
namespace Go.Proofs.Ytbjopfcbpobnpaa.ME
open Go
set_option linter.unusedVariables false
set_option linter.unusedSimpArgs false

theorem depths_get : ∀ {l : List Fld} {i : Nat} {f : Fld}, l[i]? = some f → f.depth ≤ depths l
  | [], i, f, h => by simp at h
  | a :: r, 0, f, h => by
    simp only [List.getElem?_cons_zero, Option.some.injEq] at h
    subst h
    exact Nat.le_max_left _ _
  | a :: r, i + 1, f, h => by
    have := depths_get (l := r) (i := i) (f := f) (by simpa using h)
    exact Nat.le_trans this (Nat.le_max_right _ _)
theorem depth_mk (k x1 x2 x3 x4 x5 x6 : Int) (l : List Fld) : (Fld.mk k x1 x2 x3 x4 x5 x6 l).depth = depths l + 1 := by rw [Fld.depth]

section
variable {k x1 x2 x3 x4 x5 x6 n : Int} {l : List Fld} {s : Bs} {b : Bool} {ll : List Tree} {u : List (Int × Bs)}
theorem usual_0 (h : k = 0) : Fld.usual (.mk k x1 x2 x3 x4 x5 x6 l) (.mk n s b ll u) = (n % 2 == x5) := by
  subst h; rw [Fld.usual, if_pos rfl]; simp [Tree.N]; rfl
theorem usual_7 (h0 : k ≠ 0) (h : k = 7) : Fld.usual (.mk k x1 x2 x3 x4 x5 x6 l) (.mk n s b ll u) = (s.take 16).all (· == 0) := by
  rw [Fld.usual, if_neg h0, if_pos h]; rfl
theorem usual_89n (h0 : k ≠ 0) (h7 : k ≠ 7) (h : k = 8 ∨ k = 9) (hn : x3 ≥ 0) : Fld.usual (.mk k x1 x2 x3 x4 x5 x6 l) (.mk n s b ll u) = b := by
  rw [Fld.usual, if_neg h0, if_neg h7, if_pos h, if_pos hn]; rfl
theorem usual_89 (h0 : k ≠ 0) (h7 : k ≠ 7) (h : k = 8 ∨ k = 9) (hn : ¬ x3 ≥ 0) : Fld.usual (.mk k x1 x2 x3 x4 x5 x6 l) (.mk n s b ll u) = (((s.length : Nat) : Int) == 0) := by
  rw [Fld.usual, if_neg h0, if_neg h7, if_pos h, if_neg hn, Bool.eq_iff_iff, decide_eq_true_iff, beq_iff_eq]
  show s.length = 0 ↔ _
  omega
theorem usual_11 (h0 : k ≠ 0) (h7 : k ≠ 7) (h8 : k ≠ 8) (h9 : k ≠ 9) (h : k = 11) : Fld.usual (.mk k x1 x2 x3 x4 x5 x6 l) (.mk n s b ll u) = (((ll.length : Nat) : Int) == 0) := by
  rw [Fld.usual, if_neg h0, if_neg h7, if_neg (by rintro (h | h); exact h8 h; exact h9 h), if_pos h, Bool.eq_iff_iff, decide_eq_true_iff, beq_iff_eq]
  show ll.length = 0 ↔ _
  omega
theorem usual_10 (h0 : k ≠ 0) (h7 : k ≠ 7) (h8 : k ≠ 8) (h9 : k ≠ 9) (h11 : k ≠ 11) (h : k = 10) : Fld.usual (.mk k x1 x2 x3 x4 x5 x6 l) (.mk n s b ll u) = (usuals l (.mk n s b ll u) 0 && (((unknownT l u).length : Nat) : Int) == 0) := by
  rw [Fld.usual, if_neg h0, if_neg h7, if_neg (by rintro (h | h); exact h8 h; exact h9 h), if_neg h11, if_pos h]
  congr 1
  rw [Bool.eq_iff_iff, decide_eq_true_iff, beq_iff_eq]
  show (unknownT l u).length = 0 ↔ _
  omega
theorem usual_else (h0 : k ≠ 0) (h7 : k ≠ 7) (h8 : k ≠ 8) (h9 : k ≠ 9) (h11 : k ≠ 11) (h10 : k ≠ 10) : Fld.usual (.mk k x1 x2 x3 x4 x5 x6 l) (.mk n s b ll u) = decide (be (widthI k) n = be (widthI k) x5) := by
  rw [Fld.usual, if_neg h0, if_neg h7, if_neg (by rintro (h | h); exact h8 h; exact h9 h), if_neg h11, if_neg h10]; rfl
end
theorem zero16_true {s : Bs} {k : Nat} (h : ∀ q, q < k → q < 16 → (((s.getD q 0).toNat : Nat) : Int) = 0) (hk : s.length ≤ k) : true = (s.take 16).all (· == 0) := by
  symm
  rw [List.all_eq_true]
  intro x hx
  obtain ⟨i, hi, rfl⟩ := List.getElem_of_mem hx
  rw [List.length_take] at hi
  have := h i (by omega) (by omega)
  rw [List.getD_eq_getElem?_getD, List.getElem?_eq_getElem (show i < s.length by omega)] at this
  rw [List.getElem_take]
  simp only [Option.getD_some] at this
  have h0 : s[i].toNat = 0 := by omega
  have : s[i] = 0 := UInt8.toNat.inj h0
  simp [this]
theorem zero16_false {s : Bs} {k : Nat} (hk : k < s.length) (h : k < 16) (hn : (((s.getD k 0).toNat : Nat) : Int) ≠ 0) : false = (s.take 16).all (· == 0) := by
  symm
  rw [← Bool.not_eq_true, List.all_eq_true]
  intro hall
  have := hall s[k] (by
    rw [List.mem_iff_getElem?]
    exact ⟨k, by rw [List.getElem?_take, if_pos h, List.getElem?_eq_getElem hk]⟩)
  rw [List.getD_eq_getElem?_getD, List.getElem?_eq_getElem hk] at hn
  simp only [beq_iff_eq] at this
  rw [this] at hn
  exact hn rfl
theorem drop_get {α : Type} {l : List α} {k : Nat} {x : α} (h : l[k]? = some x) : l.drop k = x :: l.drop (k + 1) := by
  obtain ⟨hk, rfl⟩ := List.getElem?_eq_some_iff.1 h
  exact List.drop_eq_getElem_cons hk
theorem usuals_step {l : List Fld} {k : Nat} {f : Fld} {T : Tree} (h : l[k]? = some f) (hu : f.usual (T.at_ k) = true) : usuals (l.drop k) T k = usuals (l.drop (k + 1)) T (k + 1) := by
  rw [drop_get h]
  show (f.usual (T.at_ k) && usuals (l.drop (k + 1)) T (k + 1)) = _
  rw [hu, Bool.true_and]
theorem usuals_stop {l : List Fld} {k : Nat} {f : Fld} {T : Tree} (h : l[k]? = some f) (hu : f.usual (T.at_ k) = false) : usuals (l.drop k) T k = false := by
  rw [drop_get h]
  show (f.usual (T.at_ k) && usuals (l.drop (k + 1)) T (k + 1)) = _
  rw [hu, Bool.false_and]
theorem usuals_end {l : List Fld} {k : Nat} {T : Tree} (h : l.length ≤ k) : usuals (l.drop k) T k = true := by
  rw [List.drop_eq_nil_of_le h]; rfl

section
variable {W : Fld → Tree → Bs} {l : List Fld} {k : Nat} {a x1 x2 x3 x4 x5 x6 v : Int} {s : List Fld} {t : Tree} {m : Nat}
theorem bodyB_pos (h : l[k]? = some (.mk a x1 x2 x3 x4 x5 x6 s)) (h1 : x4 < 0) (h2 : Fld.has (.mk a x1 x2 x3 x4 x5 x6 s) v = true) : bodyB W (l.drop k) v t k = W (.mk a x1 x2 x3 x4 x5 x6 s) (t.at_ k) ++ bodyB W (l.drop (k + 1)) v t (k + 1) := by
  rw [drop_get h, bodyB, if_pos ⟨h1, h2⟩]
theorem bodyB_neg1 (h : l[k]? = some (.mk a x1 x2 x3 x4 x5 x6 s)) (h1 : ¬ x4 < 0) : bodyB W (l.drop k) v t k = bodyB W (l.drop (k + 1)) v t (k + 1) := by
  rw [drop_get h, bodyB, if_neg (fun h => h1 h.1), List.nil_append]
theorem bodyB_neg2 (h : l[k]? = some (.mk a x1 x2 x3 x4 x5 x6 s)) (h2 : Fld.has (.mk a x1 x2 x3 x4 x5 x6 s) v = false) : bodyB W (l.drop k) v t k = bodyB W (l.drop (k + 1)) v t (k + 1) := by
  rw [drop_get h, bodyB, if_neg (fun h => by rw [h2] at h; cases h.2), List.nil_append]
theorem bodyB_end (h : l.length ≤ k) : bodyB W (l.drop k) v t k = [] := by rw [List.drop_eq_nil_of_le h]; rfl
theorem tagB_pos (h : l[k]? = some (.mk a x1 x2 x3 x4 x5 x6 s)) (h1 : x4 = (m : Int)) (h2 : Fld.usual (.mk a x1 x2 x3 x4 x5 x6 s) (t.at_ k) = false) : tagB W (l.drop k) m t k = uv m ++ uv (W (.mk a x1 x2 x3 x4 x5 x6 s) (t.at_ k)).length ++ W (.mk a x1 x2 x3 x4 x5 x6 s) (t.at_ k) ++ tagB W (l.drop (k + 1)) m t (k + 1) := by
  rw [drop_get h, tagB, if_pos ⟨h1, h2⟩]
theorem tagB_neg1 (h : l[k]? = some (.mk a x1 x2 x3 x4 x5 x6 s)) (h1 : x4 ≠ (m : Int)) : tagB W (l.drop k) m t k = tagB W (l.drop (k + 1)) m t (k + 1) := by
  rw [drop_get h, tagB, if_neg (fun h => h1 h.1), List.nil_append]
theorem tagB_neg2 (h : l[k]? = some (.mk a x1 x2 x3 x4 x5 x6 s)) (h2 : Fld.usual (.mk a x1 x2 x3 x4 x5 x6 s) (t.at_ k) = true) : tagB W (l.drop k) m t k = tagB W (l.drop (k + 1)) m t (k + 1) := by
  rw [drop_get h, tagB, if_neg (fun h => by rw [h2] at h; cases h.2), List.nil_append]
theorem tagB_end (h : l.length ≤ k) : tagB W (l.drop k) m t k = [] := by rw [List.drop_eq_nil_of_le h]; rfl
theorem tagN_pos (h : l[k]? = some (.mk a x1 x2 x3 x4 x5 x6 s)) (h1 : x4 = (m : Int)) (h2 : Fld.usual (.mk a x1 x2 x3 x4 x5 x6 s) (t.at_ k) = false) : tagN W (l.drop k) m t k = 1 + tagN W (l.drop (k + 1)) m t (k + 1) := by
  rw [drop_get h, tagN, if_pos ⟨h1, h2⟩]
theorem tagN_neg1 (h : l[k]? = some (.mk a x1 x2 x3 x4 x5 x6 s)) (h1 : x4 ≠ (m : Int)) : tagN W (l.drop k) m t k = tagN W (l.drop (k + 1)) m t (k + 1) := by
  rw [drop_get h, tagN, if_neg (fun h => h1 h.1), Nat.zero_add]
theorem tagN_neg2 (h : l[k]? = some (.mk a x1 x2 x3 x4 x5 x6 s)) (h2 : Fld.usual (.mk a x1 x2 x3 x4 x5 x6 s) (t.at_ k) = true) : tagN W (l.drop k) m t k = tagN W (l.drop (k + 1)) m t (k + 1) := by
  rw [drop_get h, tagN, if_neg (fun h => by rw [h2] at h; cases h.2), Nat.zero_add]
theorem tagN_end (h : l.length ≤ k) : tagN W (l.drop k) m t k = 0 := by rw [List.drop_eq_nil_of_le h]; rfl
theorem uv_ne (n : Nat) : 0 < (uv n).length := by
  rw [uv]; split <;> simp
theorem tagN_le (W : Fld → Tree → Bs) (m : Nat) (t : Tree) : ∀ (l : List Fld) (i : Nat), tagN W l m t i ≤ (tagB W l m t i).length
  | [], i => Nat.zero_le _
  | f :: r, i => by
    have := tagN_le W m t r (i + 1)
    rw [tagN, tagB, List.length_append]
    split
    · have h1 := uv_ne m
      simp only [List.length_append]; omega
    · simp; omega
theorem tagsN_le (W : Fld → Tree → Bs) (l : List Fld) (t : Tree) : ∀ k, tagsN W l t k ≤ (tagsK W l t k).length
  | 0 => Nat.zero_le _
  | k + 1 => by
    have h1 := tagsN_le W l t k
    have h2 := tagN_le W k t l 0
    rw [tagsN, tagsK, List.length_append]; omega
theorem tagsK_mono (W : Fld → Tree → Bs) (l : List Fld) (t : Tree) {i j : Nat} (h : i ≤ j) : (tagsK W l t i).length ≤ (tagsK W l t j).length := by
  induction j with
  | zero => rw [Nat.le_zero.1 h]; omega
  | succ j ih =>
    rcases Nat.eq_or_lt_of_le h with he | he
    · rw [he]; omega
    · have := ih (by omega)
      rw [tagsK, List.length_append]; omega
end
theorem partW_flex (W : Fld → Tree → Bs) (l : List Fld) (v : Int) (n : Int) (s : Bs) (b : Bool) (ll : List Tree) (u : List (Int × Bs)) : partW W l v true (.mk n s b ll u) =
    bodyB W l v (.mk n s b ll u) 0 ++ uv (tagsN W l (.mk n s b ll u) (knownI l).toNat + (unknownT l u).length) ++ (tagsK W l (.mk n s b ll u) (knownI l).toNat ++ tagsB (unknownT l u)) := by
  rw [partW, if_pos rfl, List.append_assoc]; rfl
theorem partW_old (W : Fld → Tree → Bs) (l : List Fld) (v : Int) (t : Tree) : partW W l v false t = bodyB W l v t 0 := by
  rw [partW]; simp
theorem known_nat (l : List Fld) : IntKind.i64.wrap (knownI l) = (((knownI l).toNat : Nat) : Int) := by
  have := known_range l
  rw [wrap_i64 (by omega) (by omega)]; omega
theorem tagsB_succ {l : List (Int × Bs)} {k : Nat} {i : Int} {s : Bs} (h : l[k]? = some (i, s)) : tagsB (l.take (k + 1)) = tagsB (l.take k) ++ (uv i.toNat ++ uv (whole s).length ++ whole s) := by
  unfold tagsB; exact flatMap_take_succ h
theorem tagsB_le {l : List (Int × Bs)} (k : Nat) : (tagsB (l.take k)).length ≤ (tagsB l).length := by
  unfold tagsB; exact flatMap_take_le l _ k

end Go.Proofs.Ytbjopfcbpobnpaa.ME
