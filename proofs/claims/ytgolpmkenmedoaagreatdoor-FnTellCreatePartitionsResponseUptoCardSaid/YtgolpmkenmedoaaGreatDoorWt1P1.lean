/- The texts of a claim, put together: the engine, the contracts, the law. Own work. -/
import Derived.Test.YtgolpmkenmedoaaGreatDoorWt1P0
import Derived.Test.YtgolpmkenmedoaaGreatDoorRows
import Derived.WalkKit
import Derived.ProofKit
import Derived.OpenShut
import Derived.JoinedCond
import Derived.WideKeyArgs
import Derived.ChangeSame
import Derived.Laws.BytesArg
import Derived.Test.YtgolpmkenmedoaaGreatDoorProg
namespace Go.Proofs.YtgolpmkenmedoaaGreatDoor.ME
open Go
set_option linter.unusedVariables false
set_option linter.unusedSimpArgs false
theorem depths_get : ∀ {l : List Fld} {i : Nat} {f : Fld}, l[i]? = some f → f.depth ≤ depths l
 | [], i, f, h => by simp at h
 | a :: r, 0, f, h => by
  simp only [List.getElem?_cons_zero, Option.some.injEq] at h
  subst h
  exact Nat.le_max_left _ _
 | a :: r, i + 1, f, h => by
  have := depths_get (l := r) (i := i) (f := f) (by simpa using h)
  exact Nat.le_trans this (Nat.le_max_right _ _)
theorem depth_mk (k x1 x2 x3 x4 x5 x6 : Int) (l : List Fld) : (Fld.mk k x1 x2 x3 x4 x5 x6 l).depth = depths l + 1 := by rw [Fld.depth]
section
variable {k x1 x2 x3 x4 x5 x6 n : Int} {l : List Fld} {s : Bs} {b : Bool} {ll : List Tree} {u : List (Int × Bs)}
theorem usual_0 (h : k = 0) : Fld.usual (.mk k x1 x2 x3 x4 x5 x6 l) (.mk n s b ll u) = (n % 2 == x5) := by
 subst h; rw [Fld.usual, if_pos rfl]; simp [Tree.N]; rfl
theorem usual_7 (h0 : k ≠ 0) (h : k = 7) : Fld.usual (.mk k x1 x2 x3 x4 x5 x6 l) (.mk n s b ll u) = (s.take 16).all (· == 0) := by
 rw [Fld.usual, if_neg h0, if_pos h]; rfl
theorem usual_89n (h0 : k ≠ 0) (h7 : k ≠ 7) (h : k = 8 ∨ k = 9) (hn : x3 ≥ 0) : Fld.usual (.mk k x1 x2 x3 x4 x5 x6 l) (.mk n s b ll u) = b := by
 rw [Fld.usual, if_neg h0, if_neg h7, if_pos h, if_pos hn]; rfl
theorem usual_89 (h0 : k ≠ 0) (h7 : k ≠ 7) (h : k = 8 ∨ k = 9) (hn : ¬ x3 ≥ 0) : Fld.usual (.mk k x1 x2 x3 x4 x5 x6 l) (.mk n s b ll u) = (((s.length : Nat) : Int) == 0) := by
 rw [Fld.usual, if_neg h0, if_neg h7, if_pos h, if_neg hn, Bool.eq_iff_iff, decide_eq_true_iff, beq_iff_eq]
 show s.length = 0 ↔ _
 omega
theorem usual_11 (h0 : k ≠ 0) (h7 : k ≠ 7) (h8 : k ≠ 8) (h9 : k ≠ 9) (h : k = 11) : Fld.usual (.mk k x1 x2 x3 x4 x5 x6 l) (.mk n s b ll u) = (((ll.length : Nat) : Int) == 0) := by
 rw [Fld.usual, if_neg h0, if_neg h7, if_neg (by rintro (h | h); exact h8 h; exact h9 h), if_pos h, Bool.eq_iff_iff, decide_eq_true_iff, beq_iff_eq]
 show ll.length = 0 ↔ _
 omega
theorem usual_10 (h0 : k ≠ 0) (h7 : k ≠ 7) (h8 : k ≠ 8) (h9 : k ≠ 9) (h11 : k ≠ 11) (h : k = 10) : Fld.usual (.mk k x1 x2 x3 x4 x5 x6 l) (.mk n s b ll u) = (usuals l (.mk n s b ll u) 0 && (((unknownT l u).length : Nat) : Int) == 0) := by
 rw [Fld.usual, if_neg h0, if_neg h7, if_neg (by rintro (h | h); exact h8 h; exact h9 h), if_neg h11, if_pos h]
 congr 1
 rw [Bool.eq_iff_iff, decide_eq_true_iff, beq_iff_eq]
 show (unknownT l u).length = 0 ↔ _
 omega
theorem usual_else (h0 : k ≠ 0) (h7 : k ≠ 7) (h8 : k ≠ 8) (h9 : k ≠ 9) (h11 : k ≠ 11) (h10 : k ≠ 10) : Fld.usual (.mk k x1 x2 x3 x4 x5 x6 l) (.mk n s b ll u) = decide (be (widthI k) n = be (widthI k) x5) := by
 rw [Fld.usual, if_neg h0, if_neg h7, if_neg (by rintro (h | h); exact h8 h; exact h9 h), if_neg h11, if_neg h10]; rfl
end
theorem zero16_true {s : Bs} {k : Nat} (h : ∀ q, q < k → q < 16 → (((s.getD q 0).toNat : Nat) : Int) = 0) (hk : s.length ≤ k) : true = (s.take 16).all (· == 0) := by
 symm
 rw [List.all_eq_true]
 intro x hx
 obtain ⟨i, hi, rfl⟩ := List.getElem_of_mem hx
 rw [List.length_take] at hi
 have := h i (by omega) (by omega)
 rw [List.getD_eq_getElem?_getD, List.getElem?_eq_getElem (show i < s.length by omega)] at this
 rw [List.getElem_take]
 simp only [Option.getD_some] at this
 have h0 : s[i].toNat = 0 := by omega
 have : s[i] = 0 := UInt8.toNat.inj h0
 simp [this]
theorem zero16_false {s : Bs} {k : Nat} (hk : k < s.length) (h : k < 16) (hn : (((s.getD k 0).toNat : Nat) : Int) ≠ 0) : false = (s.take 16).all (· == 0) := by
 symm
 rw [← Bool.not_eq_true, List.all_eq_true]
 intro hall
 have := hall s[k] (by
  rw [List.mem_iff_getElem?]
  exact ⟨k, by rw [List.getElem?_take, if_pos h, List.getElem?_eq_getElem hk]⟩)
 rw [List.getD_eq_getElem?_getD, List.getElem?_eq_getElem hk] at hn
 simp only [beq_iff_eq] at this
 rw [this] at hn
 exact hn rfl
theorem drop_get {α : Type} {l : List α} {k : Nat} {x : α} (h : l[k]? = some x) : l.drop k = x :: l.drop (k + 1) := by
 obtain ⟨hk, rfl⟩ := List.getElem?_eq_some_iff.1 h
 exact List.drop_eq_getElem_cons hk
theorem usuals_step {l : List Fld} {k : Nat} {f : Fld} {T : Tree} (h : l[k]? = some f) (hu : f.usual (T.at_ k) = true) : usuals (l.drop k) T k = usuals (l.drop (k + 1)) T (k + 1) := by
 rw [drop_get h]
 show (f.usual (T.at_ k) && usuals (l.drop (k + 1)) T (k + 1)) = _
 rw [hu, Bool.true_and]
theorem usuals_stop {l : List Fld} {k : Nat} {f : Fld} {T : Tree} (h : l[k]? = some f) (hu : f.usual (T.at_ k) = false) : usuals (l.drop k) T k = false := by
 rw [drop_get h]
 show (f.usual (T.at_ k) && usuals (l.drop (k + 1)) T (k + 1)) = _
 rw [hu, Bool.false_and]
theorem usuals_end {l : List Fld} {k : Nat} {T : Tree} (h : l.length ≤ k) : usuals (l.drop k) T k = true := by
 rw [List.drop_eq_nil_of_le h]; rfl
section
variable {W : Fld → Tree → Bs} {l : List Fld} {k : Nat} {a x1 x2 x3 x4 x5 x6 v : Int} {s : List Fld} {t : Tree} {m : Nat}
theorem bodyB_pos (h : l[k]? = some (.mk a x1 x2 x3 x4 x5 x6 s)) (h1 : x4 < 0) (h2 : Fld.has (.mk a x1 x2 x3 x4 x5 x6 s) v = true) : bodyB W (l.drop k) v t k = W (.mk a x1 x2 x3 x4 x5 x6 s) (t.at_ k) ++ bodyB W (l.drop (k + 1)) v t (k + 1) := by
 rw [drop_get h, bodyB, if_pos ⟨h1, h2⟩]
theorem bodyB_neg1 (h : l[k]? = some (.mk a x1 x2 x3 x4 x5 x6 s)) (h1 : ¬ x4 < 0) : bodyB W (l.drop k) v t k = bodyB W (l.drop (k + 1)) v t (k + 1) := by
 rw [drop_get h, bodyB, if_neg (fun h => h1 h.1), List.nil_append]
theorem bodyB_neg2 (h : l[k]? = some (.mk a x1 x2 x3 x4 x5 x6 s)) (h2 : Fld.has (.mk a x1 x2 x3 x4 x5 x6 s) v = false) : bodyB W (l.drop k) v t k = bodyB W (l.drop (k + 1)) v t (k + 1) := by
 rw [drop_get h, bodyB, if_neg (fun h => by rw [h2] at h; cases h.2), List.nil_append]
theorem bodyB_end (h : l.length ≤ k) : bodyB W (l.drop k) v t k = [] := by rw [List.drop_eq_nil_of_le h]; rfl
theorem tagB_pos (h : l[k]? = some (.mk a x1 x2 x3 x4 x5 x6 s)) (h1 : x4 = (m : Int)) (h2 : Fld.usual (.mk a x1 x2 x3 x4 x5 x6 s) (t.at_ k) = false) : tagB W (l.drop k) m t k = uv m ++ uv (W (.mk a x1 x2 x3 x4 x5 x6 s) (t.at_ k)).length ++ W (.mk a x1 x2 x3 x4 x5 x6 s) (t.at_ k) ++ tagB W (l.drop (k + 1)) m t (k + 1) := by
 rw [drop_get h, tagB, if_pos ⟨h1, h2⟩]
theorem tagB_neg1 (h : l[k]? = some (.mk a x1 x2 x3 x4 x5 x6 s)) (h1 : x4 ≠ (m : Int)) : tagB W (l.drop k) m t k = tagB W (l.drop (k + 1)) m t (k + 1) := by
 rw [drop_get h, tagB, if_neg (fun h => h1 h.1), List.nil_append]
theorem tagB_neg2 (h : l[k]? = some (.mk a x1 x2 x3 x4 x5 x6 s)) (h2 : Fld.usual (.mk a x1 x2 x3 x4 x5 x6 s) (t.at_ k) = true) : tagB W (l.drop k) m t k = tagB W (l.drop (k + 1)) m t (k + 1) := by
 rw [drop_get h, tagB, if_neg (fun h => by rw [h2] at h; cases h.2), List.nil_append]
theorem tagB_end (h : l.length ≤ k) : tagB W (l.drop k) m t k = [] := by rw [List.drop_eq_nil_of_le h]; rfl
theorem tagN_pos (h : l[k]? = some (.mk a x1 x2 x3 x4 x5 x6 s)) (h1 : x4 = (m : Int)) (h2 : Fld.usual (.mk a x1 x2 x3 x4 x5 x6 s) (t.at_ k) = false) : tagN W (l.drop k) m t k = 1 + tagN W (l.drop (k + 1)) m t (k + 1) := by
 rw [drop_get h, tagN, if_pos ⟨h1, h2⟩]
theorem tagN_neg1 (h : l[k]? = some (.mk a x1 x2 x3 x4 x5 x6 s)) (h1 : x4 ≠ (m : Int)) : tagN W (l.drop k) m t k = tagN W (l.drop (k + 1)) m t (k + 1) := by
 rw [drop_get h, tagN, if_neg (fun h => h1 h.1), Nat.zero_add]
theorem tagN_neg2 (h : l[k]? = some (.mk a x1 x2 x3 x4 x5 x6 s)) (h2 : Fld.usual (.mk a x1 x2 x3 x4 x5 x6 s) (t.at_ k) = true) : tagN W (l.drop k) m t k = tagN W (l.drop (k + 1)) m t (k + 1) := by
 rw [drop_get h, tagN, if_neg (fun h => by rw [h2] at h; cases h.2), Nat.zero_add]
theorem tagN_end (h : l.length ≤ k) : tagN W (l.drop k) m t k = 0 := by rw [List.drop_eq_nil_of_le h]; rfl
theorem uv_ne (n : Nat) : 0 < (uv n).length := by
 rw [uv]; split <;> simp
theorem tagN_le (W : Fld → Tree → Bs) (m : Nat) (t : Tree) : ∀ (l : List Fld) (i : Nat), tagN W l m t i ≤ (tagB W l m t i).length
 | [], i => Nat.zero_le _
 | f :: r, i => by
  have := tagN_le W m t r (i + 1)
  rw [tagN, tagB, List.length_append]
  split
  ·have h1 := uv_ne m
   simp only [List.length_append]; omega
  ·simp; omega
theorem tagsN_le (W : Fld → Tree → Bs) (l : List Fld) (t : Tree) : ∀ k, tagsN W l t k ≤ (tagsK W l t k).length
 | 0 => Nat.zero_le _
 | k + 1 => by
  have h1 := tagsN_le W l t k
  have h2 := tagN_le W k t l 0
  rw [tagsN, tagsK, List.length_append]; omega
theorem tagsK_mono (W : Fld → Tree → Bs) (l : List Fld) (t : Tree) {i j : Nat} (h : i ≤ j) : (tagsK W l t i).length ≤ (tagsK W l t j).length := by
 induction j with
 | zero => rw [Nat.le_zero.1 h]; omega
 | succ j ih =>
  rcases Nat.eq_or_lt_of_le h with he | he
  ·rw [he]; omega
  ·have := ih (by omega)
   rw [tagsK, List.length_append]; omega
end
theorem partW_flex (W : Fld → Tree → Bs) (l : List Fld) (v : Int) (n : Int) (s : Bs) (b : Bool) (ll : List Tree) (u : List (Int × Bs)) : partW W l v true (.mk n s b ll u) =
  bodyB W l v (.mk n s b ll u) 0 ++ uv (tagsN W l (.mk n s b ll u) (knownI l).toNat + (unknownT l u).length) ++ (tagsK W l (.mk n s b ll u) (knownI l).toNat ++ tagsB (unknownT l u)) := by
 rw [partW, if_pos rfl, List.append_assoc]; rfl
theorem partW_old (W : Fld → Tree → Bs) (l : List Fld) (v : Int) (t : Tree) : partW W l v false t = bodyB W l v t 0 := by
 rw [partW]; simp
theorem known_nat (l : List Fld) : IntKind.i64.wrap (knownI l) = (((knownI l).toNat : Nat) : Int) := by
 have := known_range l
 rw [wrap_i64 (by omega) (by omega)]; omega
theorem tagsB_succ {l : List (Int × Bs)} {k : Nat} {i : Int} {s : Bs} (h : l[k]? = some (i, s)) : tagsB (l.take (k + 1)) = tagsB (l.take k) ++ (uv i.toNat ++ uv (whole s).length ++ whole s) := by
 unfold tagsB; exact flatMap_take_succ h
theorem tagsB_le {l : List (Int × Bs)} (k : Nat) : (tagsB (l.take k)).length ≤ (tagsB l).length := by
 unfold tagsB; exact flatMap_take_le l _ k
theorem deep_get : ∀ {l : List Tree} {i : Nat} {x : Tree}, l[i]? = some x → x.depth ≤ deep l
 | [], i, x, h => by simp at h
 | a :: r, 0, x, h => by
  simp only [List.getElem?_cons_zero, Option.some.injEq] at h
  subst h
  exact Nat.le_max_left _ _
 | a :: r, i + 1, x, h => Nat.le_trans (deep_get (l := r) (i := i) (by simpa using h)) (Nat.le_max_right _ _)
theorem tdepth_mk (n : Int) (s : Bs) (b : Bool) (l : List Tree) (u : List (Int × Bs)) : (Tree.mk n s b l u).depth = deep l + 1 := by rw [Tree.depth]
theorem take_succ_of {α : Type} {l : List α} {k : Nat} {x : α} (h : l[k]? = some x) : l.take (k + 1) = l.take k ++ [x] := by rw [List.take_add_one, h]; rfl
section
variable {F : Nat → Nat → Prop} {w0 w : World} {tb : Tb} {rs : List Rw}
theorem own_fp (hW : WOk w0 Nil w tb rs) {k : Nat} {r : Rw} (hk : rs[k]? = some r) : ∀ g, r.A.map (·.block) = some g → ∀ o, Fp F w0 g o := by
 intro g hg o
 rcases hW.ownM k r hk g hg with h | h
 ·exact .inr h
 ·exact (h 0).elim
theorem trees_fp (hW : WOk w0 Nil w tb rs) {k : Nat} {A : Option Addr} {c e n : Nat} {xs : List Value} {l : List Tree} {css : List (List Value)} (hk : rs[k]? = some ⟨A, c, e, 5, n, xs⟩) (hT : Trees w (Imm F w0 w tb rs) xs l css) (hn : n = l.length) (hsm : l.length ≤ 1099511627776) :
  Slots w (Fp F w0) 5 A c l.length (fun i => css.getD i []) ∧ ∀ (i : Nat) (x : Tree), l[i]? = some x → TreeR w (Fp F w0) (css.getD i []) x :=
 (hT.move (Step.refl w Nil) nilM immOut).slots (hW.own k _ hk) hn hsm (own_fp hW hk)
theorem tags_fp (hW : WOk w0 Nil w tb rs) {k : Nat} {A : Option Addr} {c e n : Nat} {xs : List Value} {l : List (Int × Bs)} {css : List (List Value)} (hk : rs[k]? = some ⟨A, c, e, 2, n, xs⟩) (hT : Tags w (Imm F w0 w tb rs) xs l css) (hn : n = l.length) (hsm : l.length ≤ 1099511627776) : TagsR w (Fp F w0) A c l :=
 (hT.move (Step.refl w Nil) nilM immOut).slots (hW.own k _ hk) hn hsm (own_fp hW hk)
theorem tree_end (hW : WOk w0 Nil w tb rs) {A1 A2 A3 : Option Addr} {c1 c2 c3 n2 n3 : Nat} {n : Int} {s : Bs} {b : Bool} {l : List Tree} {u : List (Int × Bs)} {xs : Nat → List Value} {m : Nat} (hm : m = s.length) (hS : Octs w (Fp F w0) A1 c1 s) (hn2 : n2 = l.length) (hL : Slots w (Fp F w0) 5 A2 c2 l.length xs ∧ ∀ (i : Nat) (x : Tree), l[i]? = some x → TreeR w (Fp F w0) (xs i) x)
  (hn3 : n3 = u.length) (hU : TagsR w (Fp F w0) A3 c3 u) {t : Tree} (ht : t = .mk n s b l u) : GivesT w0 F t (.returned (.agg #[.int .i64 n, .slice A1 m c1, .bool b, .slice A2 n2 c2, .slice A3 n3 c3])) w := by
 subst hm; subst hn2; subst hn3; subst ht
 exact ⟨_, rfl, TreeR.mk xs hS hL.1 hL.2 hU, hW.step⟩
theorem startFp {G : Nat → Nat → Prop} : ∀ b o, G b o → b < w0.heap.size → Fp G w0 b o := fun _ _ h _ => .inl h
end
theorem fits_getI (W : Fld → Tree → Tree) (t : Tree) : ∀ {l : List Fld} {i k : Nat} {f : Fld}, l[k]? = some f → (fitsW W l t i)[k]? = some (W f (t.at_ (i + k)))
 | [], i, k, f, h => by simp at h
 | a :: r, i, 0, f, h => by
  simp only [List.getElem?_cons_zero, Option.some.injEq] at h
  subst h; rfl
 | a :: r, i, k + 1, f, h => by
  rw [fitsW, List.getElem?_cons_succ, fits_getI W t (l := r) (i := i + 1) (by simpa using h), show i + 1 + k = i + (k + 1) by omega]
theorem fits_get {W : Fld → Tree → Tree} {t : Tree} {l : List Fld} {k : Nat} {f : Fld} (h : l[k]? = some f) : (fitsW W l t 0)[k]? = some (W f (t.at_ k)) := by
 have := fits_getI W t (i := 0) h
 rwa [Nat.zero_add] at this
def wholeU (u : List (Int × Bs)) : List (Int × Bs) := u.map fun x => (x.1, whole x.2)
theorem wholeU_get {u : List (Int × Bs)} {k : Nat} {i : Int} {s : Bs} (h : u[k]? = some (i, s)) : (wholeU u)[k]? = some (i, whole s) := by
 rw [wholeU, List.getElem?_map, h]; rfl
theorem wholeU_len (u : List (Int × Bs)) : (wholeU u).length = u.length := by rw [wholeU, List.length_map]
section
variable {p : List Fld → Tree → Tree} {k x1 x2 x3 x4 x5 x6 v n : Int} {l : List Fld} {s : Bs} {b null : Bool} {ll : List Tree} {u : List (Int × Bs)}
end
theorem plains_mem : ∀ {l : List Fld} {f : Fld}, plains l → f ∈ l → f.plain
 | [], f, _, h => by cases h
 | a :: r, f, hp, h => by
  rcases List.mem_cons.1 h with rfl | h
  ·exact hp.1
  ·exact plains_mem (l := r) hp.2 h
theorem plain_sub {f : Fld} (h : f.plain) : plains f.sub := by cases f; exact h.2
def GivesB (w : World) : Ending → World → Prop := fun en w' => ∃ b, en = .returned (.bool b) ∧ Step w w' Nil
structure Flds (w : World) (F : Nat → Nat → Prop) (xs : List Value) (l : List Fld) (css : List (List Value)) : Prop where
 flat : Flat 8 xs css
 len : css.length = l.length
 each : ∀ (i : Nat) (c : List Value) (x : Fld), css[i]? = some c → l[i]? = some x → FldR w F c x
theorem Flds.nil (w : World) (F : Nat → Nat → Prop) : Flds w F [] [] [] := ⟨Flat.nil 8, rfl, fun i c x h => by simp at h⟩
theorem FldR.eight {w : World} {F : Nat → Nat → Prop} {cs : List Value} {t : Fld} (h : FldR w F cs t) : cs.length = 8 := by
 obtain ⟨k, x1, x2, x3, x4, x5, x6, l, A, c, xs, rfl, rfl, _⟩ := h.open_; rfl
theorem FldR.one {w : World} {F : Nat → Nat → Prop} {cs : List Value} {t : Fld} (h : FldR w F cs t) : ∀ u ∈ cs, u.oneCell' = true := by
 obtain ⟨k, x1, x2, x3, x4, x5, x6, l, A, c, xs, rfl, rfl, _⟩ := h.open_
 intro v hv
 simp only [List.mem_cons, List.not_mem_nil, or_false] at hv
 rcases hv with rfl | rfl | rfl | rfl | rfl | rfl | rfl | rfl <;> rfl
theorem Flds.snoc {w : World} {F : Nat → Nat → Prop} {xs : List Value} {l : List Fld} {css : List (List Value)} (h : Flds w F xs l css) {c : List Value} {x : Fld} (hx : FldR w F c x) : Flds w F (xs ++ c) (l ++ [x]) (css ++ [c]) := by
 refine ⟨h.flat.snoc hx.eight, by simp [h.len], fun i d y hd hy => ?_⟩
 rcases get_snoc_eq hd with ⟨h1, h2⟩ | ⟨h1, rfl⟩
 ·rcases get_snoc_eq hy with ⟨_, h3⟩ | ⟨h3, _⟩
  ·exact h.each i d y h2 h3
  ·have := h.len; omega
 ·rcases get_snoc_eq hy with ⟨h3, _⟩ | ⟨_, rfl⟩
  ·have := h.len; omega
  ·exact hx
theorem Flds.slots {w0 w : World} {tb : Tb} {rs : List Rw} {F : Nat → Nat → Prop} (hW : WOk w0 Nil w tb rs) {k e n : Nat} {A : Option Addr} {c : Nat} {xs : List Value} {l : List Fld} {css : List (List Value)} (hk : rs[k]? = some ⟨A, c, e, 8, n, xs⟩) (h : Flds w (Fp F w0) xs l css) (hn : n = l.length) (hsm : l.length ≤ 1099511627776) :
  Slots w (Fp F w0) 8 A c l.length (fun i => css.getD i []) ∧ ∀ (i : Nat) (x : Fld), l[i]? = some x → FldR w (Fp F w0) (css.getD i []) x := by
 subst hn
 have ho := hW.own k _ hk
 have h1 : ∀ u ∈ xs, u.oneCell' = true := by
  intro v hv
  rw [h.flat.eq] at hv
  obtain ⟨c, hc, hv⟩ := List.mem_flatten.1 hv
  obtain ⟨i, hi, rfl⟩ := List.getElem_of_mem hc
  have hl := h.len
  exact (h.each i _ _ (List.getElem?_eq_getElem hi) (List.getElem?_eq_getElem (show i < l.length by omega))).one v hv
 refine ⟨?_, fun i x hx => ?_⟩
 ·have hx := h.flat
  simp only [Rw.v] at ho
  rw [← h.len] at ho ⊢
  exact hx.slots ho h1 (by rw [h.len]; exact hsm) (own_fp hW hk)
 ·have hi : i < css.length := by rw [h.len]; exact (List.getElem?_eq_some_iff.1 hx).1
  have : css.getD i [] = css[i] := by rw [List.getD_eq_getElem?_getD, List.getElem?_eq_getElem hi]; rfl
  rw [this]
  exact h.each i _ x (List.getElem?_eq_getElem hi) hx
theorem noFlds (w : World) (F : Nat → Nat → Prop) : Slots w F 8 none 0 ([] : List Fld).length (fun _ => []) ∧ ∀ (i : Nat) (x : Fld), ([] : List Fld)[i]? = some x → FldR w F [] x :=
 ⟨Slots.nil w F 8 _, fun i x h => by simp at h⟩
def GivesM (w : World) (F : Nat → Nat → Prop) (l : List Fld) (x : Int) : Ending → World → Prop := fun en w' => ∃ A c, en = .returned (.agg #[.slice A l.length c, .int .i64 x]) ∧ FldsR w' (Fp F w) A c l ∧ Step w w' Nil
end Go.Proofs.YtgolpmkenmedoaaGreatDoor.ME
namespace Go.Proofs.YtgolpmkenmedoaaGreatDoor.ME
open Go
open Go.RowKit
set_option linter.unusedVariables false
set_option linter.unusedSimpArgs false
theorem tagPos_cons (y : Int × Bs) (r : List (Int × Bs)) (k : Int) : tagPos (y :: r) k = if y.1 < k then tagPos r k + 1 else 0 := by
 unfold tagPos
 rw [List.takeWhile_cons]
 by_cases h : y.1 < k
 ·simp [h]
 ·simp [h]
theorem insTag_cons_lt {least : Int} {y t : Int × Bs} {r : List (Int × Bs)} (h : y.1 < t.1) : insTag least (y :: r) t = y :: insTag least r t := by
 unfold insTag
 rw [tagPos_cons, if_pos h]
 simp only [List.length_cons, Nat.add_lt_add_iff_right, List.getD_cons_succ, List.take_succ_cons, List.drop_succ_cons, List.cons_append]
 split <;> rfl
theorem insTag_cons_ge {least : Int} {y t : Int × Bs} {r : List (Int × Bs)} (h : ¬ y.1 < t.1) : insTag least (y :: r) t = if t.1 < least ∨ y.1 = t.1 then y :: r else t :: y :: r := by
 unfold insTag
 rw [tagPos_cons, if_neg h]
 simp only [List.length_cons, Nat.zero_lt_succ, List.getD_cons_zero, List.take_zero, List.drop_zero, List.nil_append, true_and]
theorem insTag_nil {least : Int} {t : Int × Bs} : insTag least [] t = if t.1 < least then [] else [t] := by
 unfold insTag
 simp [tagPos]
theorem insTag_mem {least : Int} {t : Int × Bs} : ∀ {out : List (Int × Bs)}, ∀ x ∈ insTag least out t, x = t ∨ x ∈ out
 | [], x, hx => by
  rw [insTag_nil] at hx
  split at hx
  ·cases hx
  ·exact .inl (List.mem_singleton.1 hx)
 | y :: r, x, hx => by
  by_cases h : y.1 < t.1
  ·rw [insTag_cons_lt h] at hx
   rcases List.mem_cons.1 hx with rfl | hx
   ·exact .inr (List.mem_cons_self ..)
   ·rcases insTag_mem x hx with h1 | h1
    ·exact .inl h1
    ·exact .inr (List.mem_cons_of_mem _ h1)
  ·rw [insTag_cons_ge h] at hx
   split at hx
   ·exact .inr hx
   ·rcases List.mem_cons.1 hx with rfl | hx
    ·exact .inl rfl
    ·exact .inr hx
theorem insTag_sorted {least : Int} {t : Int × Bs} : ∀ {out : List (Int × Bs)}, Sorted out → Sorted (insTag least out t)
 | [], _ => by
  rw [insTag_nil]
  split
  ·exact List.Pairwise.nil
  ·exact List.pairwise_singleton _ _
 | y :: r, h => by
  have h1 := @List.rel_of_pairwise_cons _ _ _ _ h
  have h2 := List.Pairwise.of_cons h
  by_cases hlt : y.1 < t.1
  ·rw [insTag_cons_lt hlt]
   refine List.pairwise_cons.2 ⟨fun z hz => ?_, insTag_sorted h2⟩
   rcases insTag_mem z hz with rfl | hz
   ·exact hlt
   ·exact h1 hz
  ·rw [insTag_cons_ge hlt]
   split
   ·exact h
   ·rename_i hn
    refine List.pairwise_cons.2 ⟨fun z hz => ?_, h⟩
    rcases List.mem_cons.1 hz with rfl | hz
    ·omega
    ·have := h1 hz; omega
theorem foldT_sorted {least : Int} : ∀ {l out : List (Int × Bs)}, Sorted out → Sorted (l.foldl (insTag least) out)
 | [], _, h => h
 | x :: r, _, h => foldT_sorted (l := r) (insTag_sorted h)
theorem foldT_len {least : Int} : ∀ {l out : List (Int × Bs)}, (l.foldl (insTag least) out).length ≤ out.length + l.length
 | [], _ => Nat.le_refl _
 | x :: r, out => by
  have h1 := foldT_len (least := least) (l := r) (out := insTag least out x)
  have h2 := insTag_len least out x
  rw [List.foldl_cons, List.length_cons]
  omega
theorem foldT_mem {least : Int} : ∀ {l out : List (Int × Bs)}, ∀ x ∈ l.foldl (insTag least) out, x ∈ out ∨ x ∈ l
 | [], _, x, hx => .inl hx
 | y :: r, out, x, hx => by
  rcases foldT_mem (l := r) x hx with h | h
  ·rcases insTag_mem x h with rfl | h
   ·exact .inr (List.mem_cons_self ..)
   ·exact .inl h
  ·exact .inr (List.mem_cons_of_mem _ h)
theorem unknownT_sorted (l : List Fld) (u : List (Int × Bs)) : Sorted (unknownT l u) := foldT_sorted List.Pairwise.nil
theorem unknownT_len (l : List Fld) (u : List (Int × Bs)) : (unknownT l u).length ≤ 32767 := by
 have h := foldT_len (least := knownI l) (l := u.take 32767) (out := [])
 rw [List.length_take, List.length_nil] at h
 unfold unknownT
 omega
theorem unknownT_mem {l : List Fld} {u : List (Int × Bs)} : ∀ x ∈ unknownT l u, x ∈ u := fun x hx => by
 rcases foldT_mem x hx with h | h
 ·cases h
 ·exact List.mem_of_mem_take h
theorem wholeU_sorted {u : List (Int × Bs)} (h : Sorted u) : Sorted (wholeU u) := List.pairwise_map.2 h
theorem tagsR_whole (u : List (Int × Bs)) : tagsR (wholeU u) = tagsB u := by
 unfold tagsR wholeU tagsB tagR
 rw [List.flatMap_map]
theorem fit_U (v : Int) (d : Nat) (l : List Fld) (t : Tree) : (fitT v d l t).U = wholeU (unknownT l t.U) := by cases d <;> rfl
theorem fit_at {v : Int} {d : Nat} {l : List Fld} {t : Tree} {i : Nat} {f : Fld} (h : l[i]? = some f) : (fitT v (d + 1) l t).at_ i = fittedW (fitT v d) v f (t.at_ i) := by
 have h1 := fits_get (W := fittedW (fitT v d) v) (t := t) h
 have e : (fitT v (d + 1) l t).L = fitsW (fittedW (fitT v d) v) l t 0 := rfl
 rw [Tree.at_, e, List.getD_eq_getElem?_getD, h1]
 rfl
theorem fit_N {v : Int} {d : Nat} {l : List Fld} {t : Tree} {i : Nat} {k x1 x2 x3 x4 x5 x6 : Int} {s : List Fld} (h : l[i]? = some (.mk k x1 x2 x3 x4 x5 x6 s)) (hk : k < 8) : ((fitT v (d + 1) l t).at_ i).N = (t.at_ i).N := by
 rw [fit_at h]
 have e1 : k ≠ 11 := by omega
 have e2 : ¬ (k = 8 ∨ k = 9) := by omega
 have e3 : k ≠ 10 := by omega
 simp [fittedW, fitted0, Fld.kind, e1, e2, e3, Tree.N]
theorem i16_small {v : Int} (h0 : 0 ≤ v) (h1 : v < 32768) : IntKind.i16.wrap v = v := by
 have : IntKind.i16.wrap v = (v + 32768) % 65536 - 32768 := by simp [IntKind.wrap, IntKind.signed, IntKind.bits]; omega
 omega
theorem be8_i64 (x : Int) : be 8 (IntKind.i64.wrap x) = be 8 x := by
 rw [IntKind.wrap_i64]
 simp only [be, List.cons.injEq, and_true]
 refine ⟨by8_congr ?_, by8_congr ?_, by8_congr ?_, by8_congr ?_, by8_congr ?_, by8_congr ?_, by8_congr ?_, by8_congr ?_⟩ <;> simp only [Int.reducePow] <;> omega
theorem be1_i8 (x : Int) : be 1 (IntKind.i8.wrap x) = be 1 x := by
 have : IntKind.i8.wrap x = (x + 128) % 256 - 128 := by simp [IntKind.wrap, IntKind.signed, IntKind.bits]; omega
 rw [this]
 simp only [be, List.cons.injEq, and_true]
 refine by8_congr ?_
 simp only [Int.reducePow]; omega
def sixteenB (s : Bs) : Bs := (List.range 16).map fun i => s.getD i 0
theorem sixteenB_uuid (s : Bs) : sixteenB s = uuidB s := by
 apply List.ext_getElem?
 intro i
 unfold sixteenB uuidB
 rw [List.getElem?_map, List.getElem?_append, List.length_take]
 by_cases h : i < 16
 ·rw [List.getElem?_range h]
  by_cases hs : i < s.length
  ·rw [if_pos (by omega), List.getElem?_take, if_pos h, Option.map_some, List.getD_eq_getElem?_getD, List.getElem?_eq_getElem hs]; rfl
  ·rw [if_neg (by omega), List.getElem?_replicate, if_pos (by omega), Option.map_some, List.getD_eq_getElem?_getD, List.getElem?_eq_none (by omega)]; rfl
 ·rw [List.getElem?_eq_none (by simp; omega)]
  by_cases hs : i < min 16 s.length
  ·omega
  ·rw [if_neg hs, List.getElem?_replicate, if_neg (by omega)]; rfl
theorem ver_ok {x m : Int} (h0 : 0 ≤ x) (h1 : x ≤ 255) (hm : 0 < m) (hm' : m ≤ 32768) : 0 ≤ Int.tmod x m ∧ Int.tmod x m < 32768 := by
 rw [Int.tmod_eq_emod_of_nonneg h0]
 have g1 := Int.emod_nonneg x (show m ≠ 0 by omega)
 have g2 := Int.emod_lt_of_pos x hm
 omega
end Go.Proofs.YtgolpmkenmedoaaGreatDoor.ME
namespace Go.Proofs.YtgolpmkenmedoaaGreatDoor.ME
open Go
set_option linter.unusedVariables false
set_option linter.unusedSimpArgs false
def usz : List (Int × Bs) → Nat
 | [] => 0
 | x :: r => (1 + (uv x.1.toNat).length + x.2.length) + usz r
def Tree.size : Tree → Nat
 | .mk _ s _ l u => sizes l + (1 + s.length + usz u)
where sizes : List Tree → Nat
 | [] => 0
 | t :: r => t.size + sizes r
abbrev sizes := Tree.size.sizes
theorem Tree.size_mk (n : Int) (s : Bs) (b : Bool) (l : List Tree) (u : List (Int × Bs)) : (Tree.mk n s b l u).size = sizes l + (1 + s.length + usz u) := by rw [Tree.size]
theorem Tree.size_pos (t : Tree) : 1 ≤ t.size := by cases t; rw [Tree.size_mk]; omega
theorem Tree.size_S (t : Tree) : t.S.length ≤ t.size := by cases t; rw [Tree.size_mk]; show List.length _ ≤ _; simp only [Tree.S]; omega
theorem Tree.size_U (t : Tree) : usz t.U ≤ t.size := by cases t; rw [Tree.size_mk]; simp only [Tree.U]; omega
theorem Tree.size_L (t : Tree) : sizes t.L ≤ t.size := by cases t; rw [Tree.size_mk]; simp only [Tree.L]; omega
theorem sizes_get : ∀ {l : List Tree} {i : Nat} {x : Tree}, l[i]? = some x → x.size ≤ sizes l
 | [], i, x, h => by simp at h
 | t :: r, 0, x, h => by
  simp only [List.getElem?_cons_zero, Option.some.injEq] at h
  subst h
  exact Nat.le_add_right _ _
 | t :: r, i + 1, x, h => Nat.le_trans (sizes_get (l := r) (i := i) (by simpa using h)) (Nat.le_add_left _ _)
theorem sizes_take : ∀ (l : List Tree) (k : Nat), sizes (l.take k) ≤ sizes l
 | [], k => by simp
 | t :: r, 0 => Nat.zero_le _
 | t :: r, k + 1 => Nat.add_le_add_left (sizes_take r k) _
theorem sizes_len : ∀ (l : List Tree), l.length ≤ sizes l
 | [] => Nat.zero_le _
 | t :: r => by
  have h1 := t.size_pos
  have h2 := sizes_len r
  show r.length + 1 ≤ t.size + sizes r
  omega
theorem size_at (t : Tree) (i : Nat) : (t.at_ i).size ≤ t.size := by
 unfold Tree.at_
 rw [List.getD_eq_getElem?_getD]
 cases h : t.L[i]? with
 | none =>
  have h1 := t.size_pos
  have : Tree.zero.size = 1 := by unfold Tree.zero; rw [Tree.size_mk]; rfl
  show Tree.zero.size ≤ _
  omega
 | some x => exact Nat.le_trans (sizes_get h) t.size_L
theorem usz_append : ∀ (a b : List (Int × Bs)), usz (a ++ b) = usz a + usz b
 | [], b => by simp [usz]
 | x :: r, b => by
  show (1 + _ + _) + usz (r ++ b) = (1 + _ + _) + usz r + usz b
  rw [usz_append r b]; omega
theorem usz_ins (k : Int) (out : List (Int × Bs)) (t : Int × Bs) : usz (insTag k out t) ≤ usz out + usz [t] := by
 unfold insTag
 dsimp only
 split
 ·omega
 ·have h : usz out = usz (out.take (tagPos out t.1)) + usz (out.drop (tagPos out t.1)) := by rw [← usz_append, List.take_append_drop]
  rw [usz_append]
  show _ + (_ + usz (out.drop _)) ≤ _
  rw [h]
  simp only [usz]
  omega
theorem usz_fold (k : Int) : ∀ (l out : List (Int × Bs)), usz (l.foldl (insTag k) out) ≤ usz out + usz l
 | [], out => by simp [usz]
 | t :: r, out => by
  rw [List.foldl_cons]
  refine Nat.le_trans (usz_fold k r _) ?_
  have := usz_ins k out t
  simp only [usz] at this ⊢
  omega
theorem usz_take : ∀ (l : List (Int × Bs)) (k : Nat), usz (l.take k) ≤ usz l
 | [], k => by simp
 | t :: r, 0 => Nat.zero_le _
 | t :: r, k + 1 => Nat.add_le_add_left (usz_take r k) _
theorem usz_unknown (l : List Fld) (u : List (Int × Bs)) : usz (unknownT l u) ≤ usz u := by
 unfold unknownT
 refine Nat.le_trans (usz_fold _ _ _) ?_
 have := usz_take u 32767
 simp only [usz]; omega
theorem whole_len (s : Bs) : (whole s).length ≤ s.length := by simp only [whole, List.length_take]; omega
theorem tagsB_usz : ∀ (l : List (Int × Bs)), (tagsB l).length ≤ 10 * usz l
 | [] => by simp [tagsB]
 | x :: r => by
  have h1 := tagsB_usz r
  have h2 := uv_len10 (whole x.2).length (by have := whole_le x.2; omega)
  have h3 := whole_len x.2
  unfold tagsB at h1 ⊢
  rw [List.flatMap_cons, List.length_append, List.length_append, List.length_append]
  show _ ≤ 10 * ((1 + _ + _) + usz r)
  omega
theorem uv_lin : ∀ (n : Nat), (uv n).length ≤ n + 1 := by
 intro n
 induction n using Nat.strongRecOn with
 | _ n ih =>
  by_cases h : n < 128
  ·rw [uv_small h]; simp
  ·rw [uv_big (by omega), List.length_cons]
   have := ih (n / 128) (by omega)
   omega
def Fld.cost : Fld → Nat
 | .mk _ _ _ _ _ _ _ sub => 64 + (3 * (((knownI sub).toNat + 1) * costs sub) + 64)
where costs : List Fld → Nat
 | [] => 0
 | f :: r => (20 + f.cost) + costs r
abbrev costs := Fld.cost.costs
def costL (l : List Fld) : Nat := 3 * (((knownI l).toNat + 1) * costs l) + 64
theorem cost_eq (f : Fld) : f.cost = 64 + costL f.sub := by
 cases f; rw [Fld.cost]; rfl
theorem costs_cons (f : Fld) (r : List Fld) : costs (f :: r) = (20 + f.cost) + costs r := by
 show Fld.cost.costs (f :: r) = _
 rw [Fld.cost.costs]
theorem valueB_le {p : Tree → Bs} {c : Nat} (hp : ∀ t, (p t).length ≤ c * t.size) (kind : Int) (null flex : Bool) (t : Tree) : (valueB p kind null flex t).length ≤ (32 + c) * t.size := by
 have h1 := t.size_pos
 have h2 := t.size_S
 have hm : (32 + c) * t.size = 32 * t.size + c * t.size := Nat.add_mul _ _ _
 have hs : ∀ (n : Nat), n ≤ 8 → (countedB flex null (if null = true then ([] : Bs) else whole t.S).length n ++ (if null = true then ([] : Bs) else whole t.S)).length ≤ 32 * t.size := by
  intro n hn
  have h3 : (if null = true then ([] : Bs) else whole t.S).length ≤ t.S.length := by
   split
   ·exact Nat.zero_le _
   ·exact whole_len _
  have h5 : (if null = true then ([] : Bs) else whole t.S).length ≤ 32767 := by
   split
   ·exact Nat.zero_le _
   ·exact whole_le _
  have h4 := countedB_le flex null (if null = true then ([] : Bs) else whole t.S).length n (by omega) hn
  rw [List.length_append]; omega
 unfold valueB
 split
 ·show 1 ≤ _; omega
 ·split
  ·rw [uuidB_length]; omega
  ·split
   ·have := hs 2 (by omega); exact Nat.le_trans this (by omega)
   ·split
    ·have := hs 4 (by omega); exact Nat.le_trans this (by omega)
    ·split
     ·have := hp t; omega
     ·rw [be_length]; have := widthI_le kind; omega
theorem flat_sizes {g : Tree → Bs} {c : Nat} (hg : ∀ t, (g t).length ≤ c * t.size) : ∀ (l : List Tree), (l.flatMap g).length ≤ c * sizes l
 | [] => by simp
 | t :: r => by
  have h1 := hg t
  have h2 := flat_sizes hg r
  rw [List.flatMap_cons, List.length_append]
  show _ ≤ c * (t.size + sizes r)
  rw [Nat.mul_add]; omega
theorem fieldB_le {p : Tree → Bs} {c : Nat} (hp : ∀ t, (p t).length ≤ c * t.size) (f : Fld) (v : Int) (flex : Bool) (t : Tree) : (fieldB p f v flex t).length ≤ (64 + c) * t.size := by
 have h1 := t.size_pos
 have h2 := t.size_L
 have hm : (64 + c) * t.size = 64 * t.size + c * t.size := Nat.add_mul _ _ _
 have hm2 : (32 + c) * t.size = 32 * t.size + c * t.size := Nat.add_mul _ _ _
 unfold fieldB
 dsimp only
 split
 ·rw [List.length_append]
  have hl : (if f.nul v t = true then ([] : List Tree) else things t.L).length ≤ 32767 := by
   split
   ·exact Nat.zero_le _
   ·exact things_le _
  have h3 := countedB_le flex (f.nul v t) (if f.nul v t = true then ([] : List Tree) else things t.L).length 4 (by omega) (by omega)
  have h4 := flat_sizes (g := fun x => valueB p f.of false flex x) (fun x => valueB_le hp f.of false flex x) (if f.nul v t = true then ([] : List Tree) else things t.L)
  have h5 : sizes (if f.nul v t = true then ([] : List Tree) else things t.L) ≤ t.size := by
   split
   ·exact Nat.zero_le _
   ·exact Nat.le_trans (sizes_take _ _) h2
  have h6 : (32 + c) * sizes (if f.nul v t = true then ([] : List Tree) else things t.L) ≤ (32 + c) * t.size := Nat.mul_le_mul_left _ h5
  omega
 ·split
  ·split
   ·rw [be_length]; omega
   ·rw [List.length_append, be_length]
    have := hp t
    omega
  ·have := valueB_le hp f.kind (f.nul v t) flex t
   omega
section
variable {w : Fld → Tree → Bs}
theorem bodyB_le (v : Int) (t : Tree) : ∀ (l : List Fld) (i : Nat), (∀ f ∈ l, ∀ t, (w f t).length ≤ f.cost * t.size) → (bodyB w l v t i).length ≤ costs l * t.size
 | [], i, _ => by simp [bodyB]
 | f :: r, i, h => by
  have h1 := bodyB_le v t r (i + 1) fun g hg => h g (List.mem_cons_of_mem _ hg)
  have h2 : f.cost * (t.at_ i).size ≤ f.cost * t.size := Nat.mul_le_mul_left _ (size_at t i)
  have h3 := h f (List.mem_cons_self ..) (t.at_ i)
  rw [bodyB, List.length_append, costs_cons, Nat.add_mul, Nat.add_mul]
  have h4 : (if f.tag < 0 ∧ f.has v = true then w f (t.at_ i) else []).length ≤ f.cost * t.size := by
   split
   ·omega
   ·exact Nat.zero_le _
  omega
theorem tagB_le (t : Tree) (k : Nat) (hk : k < 18446744073709551616) : ∀ (l : List Fld) (i : Nat), (∀ f ∈ l, ∀ t, (w f t).length ≤ f.cost * t.size) → (tagB w l k t i).length ≤ 2 * (costs l * t.size)
 | [], i, _ => by simp [tagB]
 | f :: r, i, h => by
  have h1 := tagB_le t k hk r (i + 1) fun g hg => h g (List.mem_cons_of_mem _ hg)
  have h2 : f.cost * (t.at_ i).size ≤ f.cost * t.size := Nat.mul_le_mul_left _ (size_at t i)
  have h3 := h f (List.mem_cons_self ..) (t.at_ i)
  have h5 := t.size_pos
  have h6 := uv_len10 k hk
  have h7 := uv_lin (w f (t.at_ i)).length
  rw [tagB, List.length_append, costs_cons, Nat.add_mul, Nat.add_mul]
  have h4 : (if f.tag = k ∧ f.usual (t.at_ i) = false then uv k ++ uv (w f (t.at_ i)).length ++ w f (t.at_ i) else []).length ≤ 11 + 2 * (f.cost * t.size) := by
   split
   ·rw [List.length_append, List.length_append]; omega
   ·exact Nat.zero_le _
  omega
theorem tagsK_le (t : Tree) {l : List Fld} (h : ∀ f ∈ l, ∀ t, (w f t).length ≤ f.cost * t.size) : ∀ (k : Nat), k < 18446744073709551616 → (tagsK w l t k).length ≤ 2 * (k * (costs l * t.size))
 | 0, _ => by simp [tagsK]
 | k + 1, hk => by
  have h1 := tagsK_le t h k (by omega)
  have h2 := tagB_le t k (by omega) l 0 h
  rw [tagsK, List.length_append, Nat.add_mul]
  omega
theorem tagN_c (t : Tree) (k : Nat) : ∀ (l : List Fld) (i : Nat), tagN w l k t i ≤ costs l
 | [], i => by simp [tagN]
 | f :: r, i => by
  have h1 := tagN_c t k r (i + 1)
  rw [tagN, costs_cons]
  split <;> omega
theorem tagsN_c (t : Tree) (l : List Fld) : ∀ (k : Nat), tagsN w l t k ≤ k * costs l
 | 0 => by simp [tagsN]
 | k + 1 => by
  have h1 := tagsN_c t l k
  have h2 := tagN_c (w := w) t k l 0
  rw [tagsN, Nat.add_mul]
  omega
theorem usz_len : ∀ (u : List (Int × Bs)), u.length ≤ usz u
 | [] => Nat.le_refl _
 | x :: r => by
  have := usz_len r
  rw [List.length_cons]
  simp only [usz]; omega
theorem partW_le {l : List Fld} (h : ∀ f ∈ l, ∀ t, (w f t).length ≤ f.cost * t.size) (hk : (knownI l).toNat < 18446744073709551616) (v : Int) (flex : Bool) (t : Tree) : (partW w l v flex t).length ≤ costL l * t.size := by
 have h0 := t.size_pos
 have h1 := bodyB_le v t l 0 h
 have h2 := tagsK_le t h _ hk
 have h3 := tagsN_c (w := w) t l (knownI l).toNat
 have h4 := tagsB_usz (unknownT l t.U)
 have h5 := usz_unknown l t.U
 have h6 := t.size_U
 have h7 := usz_len (unknownT l t.U)
 have h8 := uv_lin (tagsN w l t (knownI l).toNat + (unknownT l t.U).length)
 have e1 : costL l * t.size = 3 * (((knownI l).toNat + 1) * (costs l * t.size)) + 64 * t.size := by
  unfold costL
  rw [Nat.add_mul, Nat.mul_assoc, Nat.mul_assoc]
 have e2 : ((knownI l).toNat + 1) * (costs l * t.size) = (knownI l).toNat * (costs l * t.size) + costs l * t.size := by rw [Nat.add_mul, Nat.one_mul]
 have e3 : (knownI l).toNat * costs l ≤ (knownI l).toNat * (costs l * t.size) := Nat.mul_le_mul_left _ (Nat.le_mul_of_pos_right _ h0)
 unfold partW
 rw [List.length_append, e1, e2]
 split
 ·rw [List.length_append, List.length_append]; omega
 ·simp only [List.length_nil]; omega
end
theorem known_u32 (l : List Fld) : (knownI l).toNat < 18446744073709551616 := by
 have h := known_range l
 omega
theorem partB_le : ∀ (d : Nat) (l : List Fld) (v : Int) (flex : Bool) (t : Tree), (partB d l v flex t).length ≤ costL l * t.size
 | 0, l, v, flex, t => partW_le (fun f _ t => by simp) (known_u32 l) v flex t
 | d + 1, l, v, flex, t => partW_le (fun f _ t => by
   rw [cost_eq]
   exact fieldB_le (fun t => partB_le d f.sub v flex t) f v flex t) (known_u32 l) v flex t
theorem writeB_le (d : Nat) (l : List Fld) (x v : Int) (t : Tree) : (writeB d l x v t).length ≤ costL l * t.size := partB_le d l v _ t
end Go.Proofs.YtgolpmkenmedoaaGreatDoor.ME
namespace Go.Proofs.YtgolpmkenmedoaaGreatDoor.ME
open Go
open Go.Proofs.YtgolpmkenmedoaaGreatDoor.Rows (uptoBulk uptoBulkAll)
set_option linter.unusedVariables false
set_option linter.unusedSimpArgs false
def Tree.i64s : Tree → Prop
 | .mk n _ _ l _ => (-9223372036854775808 ≤ n ∧ n ≤ 9223372036854775807) ∧ i64ss l
where i64ss : List Tree → Prop
 | [] => True
 | t :: r => t.i64s ∧ i64ss r
abbrev i64ss := Tree.i64s.i64ss
theorem i64ss_mem : ∀ {l : List Tree}, i64ss l → ∀ x ∈ l, x.i64s
 | [], _, x, h => by cases h
 | t :: r, hr, x, h => by
  rcases List.mem_cons.1 h with rfl | h
  ·exact hr.1
  ·exact i64ss_mem (l := r) hr.2 x h
theorem i64ss_of : ∀ {l : List Tree}, (∀ x ∈ l, x.i64s) → i64ss l
 | [], _ => trivial
 | t :: r, h => ⟨h t List.mem_cons_self, i64ss_of (l := r) fun x hx => h x (List.mem_cons_of_mem _ hx)⟩
theorem bulk_pos {H : Type} (d : DataW H) : 1 ≤ uptoBulk d := by cases d <;> first | (unfold uptoBulk; omega) | (rename_i l; cases l <;> (unfold uptoBulk; omega))
theorem bulk_len {H : Type} : ∀ (l : List (DataW H)), l.length ≤ uptoBulkAll l
 | [] => Nat.zero_le _
 | d :: r => by
  have h1 := bulk_pos d
  have h2 := bulk_len r
  unfold uptoBulkAll
  rw [List.length_cons]; omega
theorem bulk_mem {H : Type} : ∀ {l : List (DataW H)} {d : DataW H}, d ∈ l → uptoBulk d ≤ uptoBulkAll l
 | [], d, h => by cases h
 | a :: r, d, h => by
  unfold uptoBulkAll
  rcases List.mem_cons.1 h with rfl | h
  ·omega
  ·have := bulk_mem h; omega
theorem mapM_some {α β : Type} {f : α → Option β} : ∀ {l : List α} {r : List β}, l.mapM f = some r → r.length = l.length ∧ ∀ (i : Nat) (a : α), l[i]? = some a → ∃ b, f a = some b ∧ r[i]? = some b
 | [], r, h => by
  simp only [List.mapM_nil, Option.pure_def, Option.some.injEq] at h
  subst h
  exact ⟨rfl, fun i a h => by simp at h⟩
 | x :: l, r, h => by
  rw [List.mapM_cons] at h
  cases hx : f x with
  | none => rw [hx] at h; cases h
  | some y =>
   rw [hx] at h
   cases hl : l.mapM f with
   | none => rw [hl] at h; cases h
   | some ys =>
    rw [hl] at h
    obtain rfl : y :: ys = r := Option.some.inj h
    obtain ⟨h1, h2⟩ := mapM_some hl
    refine ⟨by simp [h1], fun i a ha => ?_⟩
    cases i with
    | zero =>
     simp only [List.getElem?_cons_zero, Option.some.injEq] at ha
     subst ha
     exact ⟨y, hx, rfl⟩
    | succ i => simpa using h2 i a (by simpa using ha)
theorem cells_some {w : World} {a : Addr} {n : Nat} {cs : List Value} (h : w.cells? 0 a n = some cs) : cs.length = n ∧ ∀ (j : Nat) (v : Value), cs[j]? = some v → w.cell? (a.add j) = some v := by
 unfold World.cells? at h
 rw [if_pos (Nat.zero_le _)] at h
 obtain ⟨h1, h2⟩ := mapM_some h
 rw [List.length_range] at h1
 refine ⟨h1, fun j v hj => ?_⟩
 have hjn : j < n := by rw [← h1]; exact (List.getElem?_eq_some_iff.1 hj).1
 obtain ⟨b, hb, hc⟩ := h2 j j (by rw [List.getElem?_range hjn])
 rw [hj] at hc
 rw [hb, Option.some.inj hc]
theorem cell_plain {w : World} {a : Addr} {v : Value} (h : w.cell? a = some v) : a.spot = none := by
 unfold World.cell? at h
 split at h
 ·split at h
  ·cases h
  ·rename_i hs; simpa using hs
 ·cases h
theorem slots_of {w : World} {size n c : Nat} {ad : Addr} {cs : Nat → List Value} (hle : n ≤ c) (hsm : n ≤ 1099511627776) (hsz : 0 < size) (h : ∀ i, i < n → (cs i).length = size ∧ ∀ (j : Nat) (v : Value), (cs i)[j]? = some v → w.cell? ((ad.add (i * size)).add j) = some v) : Slots w (fun _ _ => True) size (some ad) c n cs := by
 refine ⟨hle, hsm, (fun hA => by cases hA), fun ad' hA hn => ?_⟩
 obtain rfl := Option.some.inj hA
 have h0 := h 0 hn
 have hp : ad.spot = none := by
  have h1 := cell_plain (h0.2 0 _ (List.getElem?_eq_getElem (by omega)))
  unfold Addr.add at h1
  split at h1
  ·split at h1 <;> simp_all
  ·simp_all
 obtain ⟨b, o, sp⟩ := ad
 simp only at hp
 subst hp
 refine ⟨b, o, rfl, fun i hi => ⟨(h i hi).1, fun j v hj => ⟨trivial, ?_⟩⟩⟩
 have := (h i hi).2 j v hj
 rwa [add_none, add_none] at this
theorem exists_list {α : Type} {R : Nat → α → Prop} : ∀ (n : Nat), (∀ i, i < n → ∃ x, R i x) → ∃ l : List α, l.length = n ∧ ∀ i x, l[i]? = some x → R i x
 | 0, _ => ⟨[], rfl, fun i x h => by simp at h⟩
 | n + 1, h => by
  obtain ⟨l, h1, h2⟩ := exists_list n fun i hi => h i (by omega)
  obtain ⟨x, hx⟩ := h n (by omega)
  refine ⟨l ++ [x], by simp [h1], fun i y hy => ?_⟩
  rcases get_snoc hy with hy | ⟨rfl, rfl⟩
  ·exact h2 i y hy
  ·rw [h1]; exact hx
theorem slice_list {α : Type} {w : World} {a : Addr} {len cap size : Nat} (R : Nat → List Value → α → Prop) (hle : len ≤ cap) (hsm : len ≤ 1099511627776) (hsz : 0 < size)
  (hex : ∀ i, i < len → ∃ ci : List Value, ci.length = size ∧ (∀ (j : Nat) (v : Value), ci[j]? = some v → w.cell? ((a.add (i * size)).add j) = some v) ∧ ∃ x, R i ci x) :
  ∃ l : List α, l.length = len ∧ ∃ xs : Nat → List Value, Slots w (fun _ _ => True) size (some a) cap len xs ∧ ∀ i x, l[i]? = some x → R i (xs i) x := by
 obtain ⟨l, h1, h2⟩ := exists_list (R := fun i (z : List Value × α) => z.1.length = size ∧ (∀ (j : Nat) (v : Value), z.1[j]? = some v → w.cell? ((a.add (i * size)).add j) = some v) ∧ R i z.1 z.2) len (fun i hi => by
  obtain ⟨ci, g1, g2, x, g3⟩ := hex i hi
  exact ⟨(ci, x), g1, g2, g3⟩)
 have hget : ∀ i, i < len → ∃ z, l[i]? = some z := fun i hi => ⟨_, List.getElem?_eq_getElem (by omega)⟩
 have hxs : ∀ i z, l[i]? = some z → ((l.map (·.1)).getD i []) = z.1 := fun i z hz => by
  rw [List.getD_eq_getElem?_getD, List.getElem?_map, hz]; rfl
 refine ⟨l.map (·.2), by simp [h1], fun i => (l.map (·.1)).getD i [], slots_of hle hsm hsz (fun i hi => ?_), fun i x hx => ?_⟩
 ·obtain ⟨z, hz⟩ := hget i hi
  rw [hxs i z hz]
  exact ⟨(h2 i z hz).1, (h2 i z hz).2.1⟩
 ·rw [List.getElem?_map] at hx
  cases hz : l[i]? with
  | none => rw [hz] at hx; cases hx
  | some z =>
   rw [hz] at hx
   simp only [Option.map_some, Option.some.injEq] at hx
   subst hx
   dsimp only
   rw [hxs i z hz]
   exact (h2 i z hz).2.2
def fieldsOf (P : Program) (t : TypeId) : Option (List (TypeId × Nat)) :=
 match P.underlying t with
 | some (.struct fs) => some (fs.toList.map fun f => (f.type, f.offset))
 | _ => none
theorem fieldsOf_ok {P : Program} {t : TypeId} {l : List (TypeId × Nat)} (h : fieldsOf P t = some l) : ∃ fs : Array Field, P.underlying t = some (.struct fs) ∧ fs.size = l.length ∧ ∀ (i : Nat) ty off, l[i]? = some (ty, off) → ∃ f, fs[i]? = some f ∧ f.type = ty ∧ f.offset = off := by
 unfold fieldsOf at h
 split at h
 ·rename_i fs hfs
  simp only [Option.some.injEq] at h
  subst h
  refine ⟨fs, hfs, by simp, fun i ty off hi => ?_⟩
  rw [List.getElem?_map] at hi
  cases hf : fs.toList[i]? with
  | none => rw [hf] at hi; cases hi
  | some f =>
   rw [hf] at hi
   simp only [Option.map_some, Option.some.injEq, Prod.mk.injEq] at hi
   exact ⟨f, by simpa using hf, hi.1, hi.2⟩
 ·cases h
structure TreeTys (P : Program) (T TL TU TG TB TI TO TK T8 : TypeId) : Prop where
 tree : fieldsOf P T = some [(TI, 0), (TB, 1), (TO, 2), (TL, 3), (TU, 4)]
 tag : fieldsOf P TG = some [(TK, 0), (TB, 1)]
 trees : P.underlying TL = some (.slice T)
 tags : P.underlying TU = some (.slice TG)
 bytes : P.underlying TB = some (.slice T8)
 int : P.underlying TI = some (.int .i64)
 bool : P.underlying TO = some .bool
 key : P.underlying TK = some (.int .u32)
 byte : P.underlying T8 = some (.int .u8)
 cells : (P.cellsOf T, P.cellsOf TL, P.cellsOf TU, P.cellsOf TG, P.cellsOf TB, P.cellsOf TI, P.cellsOf TO, P.cellsOf TK, P.cellsOf T8) = (5, 1, 1, 2, 1, 1, 1, 1, 1)
section
variable {H : Type} {enc : TypeId × Value → H} {P : Program} {W : World} {sp : Nat → Bool} {hd : Bool} {T TL TU TG TB TI TO TK T8 : TypeId}
theorem bind_get {α β : Type} {x : Option α} {f : α → Option β} {l : List β} {i : Nat} (h : x.bind f = l[i]?) (hi : i < l.length) : ∃ a b, x = some a ∧ f a = some b ∧ l[i]? = some b := by
 rw [List.getElem?_eq_getElem hi] at h
 obtain ⟨a, ha, hb⟩ := Option.bind_eq_some_iff.1 h
 exact ⟨a, _, ha, hb, List.getElem?_eq_getElem hi⟩
theorem slice_bulk {elems spare : List (DataW H)} {n : Nat} (h : uptoBulk (.slice elems spare) ≤ n) : elems.length ≤ n ∧ ∀ d ∈ elems, uptoBulk d ≤ n := by
 unfold uptoBulk at h
 have h1 := bulk_len elems
 exact ⟨by omega, fun d hd => by have := bulk_mem hd; omega⟩
theorem agg_bulk {parts : List (DataW H)} {n : Nat} (h : uptoBulk (.agg parts) ≤ n) : ∀ d ∈ parts, uptoBulk d ≤ n := by
 unfold uptoBulk at h
 exact fun d hd => by have := bulk_mem hd; omega
theorem trod_octs {fuel : Nat} {cs : List Value} {x : DataW H × List MemPlace} (hT : TreeTys P T TL TU TG TB TI TO TK T8) (h : DataW.trod enc P W 0 sp hd fuel TB cs = some x) (hb : uptoBulk x.1 ≤ 1048576) :
  ∃ A c s, cs = [.slice A (s : Bs).length c] ∧ Octs W (fun _ _ => True) A c s ∧ s.length ≤ uptoBulk x.1 := by
 have hc := hT.cells
 simp only [Prod.mk.injEq] at hc
 rcases DataW.trod_slice hT.bytes h with ⟨rfl, rfl⟩ | ⟨a, len, cap, elems, rest, n, _, rfl, rfl, _, hle, _, hlen, he, _⟩
 ·exact ⟨none, 0, [], rfl, Octs.nil _ _, Nat.zero_le _⟩
 ·have hlb := bulk_len (elems.map (·.1))
  rw [List.length_map] at hlb
  have hbl := slice_bulk hb
  simp only [List.length_map] at hbl
  obtain ⟨l, hl, xs, h1, h2⟩ := slice_list (w := W) (a := a) (len := len) (cap := cap) (size := 1) (fun _ ci (q : UInt8) => ci = [byteCell q]) hle (by omega) (by omega) (fun i hi => by
   obtain ⟨ci, y, g1, g2, g3⟩ := bind_get (he i hi) (by omega)
   obtain ⟨g4, g5⟩ := cells_some g1
   rw [hc.2.2.2.2.2.2.2.2] at g4 g5
   refine ⟨ci, g4, g5, ?_⟩
   obtain ⟨v, rfl, _, hw⟩ := DataW.trod_int hT.byte g2
   have hx : 0 ≤ v ∧ v ≤ 255 := by simpa [Lit.wf, IntKind.min, IntKind.max, IntKind.signed, IntKind.bits] using hw
   refine ⟨UInt8.ofNat v.toNat, ?_⟩
   unfold byteCell
   rw [UInt8.toNat_ofNat']
   congr 2
   omega)
  refine ⟨some a, cap, l, by rw [hl], ?_, by rw [hl, ← hlen]; dsimp only; unfold uptoBulk; omega⟩
  unfold Octs
  rw [hl]
  refine ⟨h1.le, h1.small, h1.none_, fun ad hA hn => ?_⟩
  obtain ⟨b, o, e1, e2⟩ := h1.some_ ad hA hn
  refine ⟨b, o, e1, fun i hi => ?_⟩
  have hli : l[i]? = some (l.getD i 0) := by
   rw [List.getD_eq_getElem?_getD, List.getElem?_eq_getElem (by omega)]; rfl
  have := h2 i _ hli
  rw [← this]
  exact e2 i hi
theorem fld_one {n : Nat} {fs : Array Field} {xs : List (DataW H × List MemPlace)} {cs : List Value} {l : List (TypeId × Nat)} (hx : ∀ (i : Nat) (f : Field), fs[i]? = some f → DataW.trod enc P W 0 sp hd n f.type ((cs.drop f.offset).take (P.cellsOf f.type)) = xs[i]?)
  (hl : ∀ (i : Nat) ty off, l[i]? = some (ty, off) → ∃ f, fs[i]? = some f ∧ f.type = ty ∧ f.offset = off) {i : Nat} {ty off : Nat} (hi : l[i]? = some (ty, off)) (h1 : P.cellsOf ty = 1) (hxl : i < xs.length) {c : Value} (hc : cs[off]? = some c) :
  ∃ y, xs[i]? = some y ∧ DataW.trod enc P W 0 sp hd n ty [c] = some y := by
 obtain ⟨f, hf, rfl, rfl⟩ := hl i _ _ hi
 have := hx i f hf
 rw [h1] at this
 refine ⟨xs[i], List.getElem?_eq_getElem hxl, ?_⟩
 rw [List.getElem?_eq_getElem hxl] at this
 have e : (cs.drop f.offset).take 1 = [c] := by
  rw [List.take_one, List.head?_drop, hc]; rfl
 rw [e] at this
 exact this
theorem usz_bulk : ∀ (l : List (Int × Bs)) {elems : List (DataW H × List MemPlace)}, l.length = elems.length → (∀ (i : Nat) (x : Int × Bs) (y : DataW H × List MemPlace), l[i]? = some x → elems[i]? = some y → 1 + (uv x.1.toNat).length + x.2.length ≤ 8 * uptoBulk y.1) → usz l ≤ 8 * uptoBulkAll (elems.map (·.1))
 | [], _, _, _ => Nat.zero_le _
 | x :: r, [], h, _ => by cases h
 | x :: r, y :: es, h, hp => by
  have h1 := usz_bulk r (elems := es) (by simpa using h) fun i x' y' hx hy => hp (i + 1) x' y' (by simpa using hx) (by simpa using hy)
  have h2 := hp 0 x y rfl rfl
  simp only [usz, List.map_cons, uptoBulkAll]
  omega
theorem sizes_bulk : ∀ (l : List Tree) {elems : List (DataW H × List MemPlace)}, l.length = elems.length → (∀ (i : Nat) (x : Tree) (y : DataW H × List MemPlace), l[i]? = some x → elems[i]? = some y → x.size ≤ 8 * uptoBulk y.1) → sizes l ≤ 8 * uptoBulkAll (elems.map (·.1))
 | [], _, _, _ => Nat.zero_le _
 | x :: r, [], h, _ => by cases h
 | x :: r, y :: es, h, hp => by
  have h1 := sizes_bulk r (elems := es) (by simpa using h) fun i x' y' hx hy => hp (i + 1) x' y' (by simpa using hx) (by simpa using hy)
  have h2 := hp 0 x y rfl rfl
  show x.size + sizes r ≤ _
  simp only [List.map_cons, uptoBulkAll]
  omega
theorem bulk_five {y0 y1 y2 y3 y4 : DataW H × List MemPlace} {xs : List (DataW H × List MemPlace)} (h : xs.length = 5) (h0 : xs[0]? = some y0) (h1 : xs[1]? = some y1) (h2 : xs[2]? = some y2) (h3 : xs[3]? = some y3) (h4 : xs[4]? = some y4) : uptoBulk (.agg (xs.map (·.1))) = uptoBulk y0.1 + uptoBulk y1.1 + uptoBulk y2.1 + uptoBulk y3.1 + uptoBulk y4.1 + 1 := by
 match xs, h with
 | [a, b, c, d, e], _ =>
  simp only [List.getElem?_cons_zero, List.getElem?_cons_succ, Option.some.injEq] at h0 h1 h2 h3 h4
  subst h0; subst h1; subst h2; subst h3; subst h4
  have e : uptoBulk (.agg [a.1, b.1, c.1, d.1, e.1]) = uptoBulkAll [a.1, b.1, c.1, d.1, e.1] + 1 := by rw [uptoBulk]
  simp only [List.map_cons, List.map_nil]
  rw [e]
  simp only [uptoBulkAll]
  omega
theorem trod_tags {fuel : Nat} {cs : List Value} {x : DataW H × List MemPlace} (hT : TreeTys P T TL TU TG TB TI TO TK T8) (h : DataW.trod enc P W 0 sp hd fuel TU cs = some x) (hb : uptoBulk x.1 ≤ 1048576) :
  ∃ A c u, cs = [.slice A (u : List (Int × Bs)).length c] ∧ TagsR W (fun _ _ => True) A c u ∧ usz u ≤ 8 * uptoBulk x.1 := by
 have hc := hT.cells
 simp only [Prod.mk.injEq] at hc
 rcases DataW.trod_slice hT.tags h with ⟨rfl, rfl⟩ | ⟨a, len, cap, elems, rest, n, _, rfl, rfl, _, hle, _, hlen, he, _⟩
 ·exact ⟨none, 0, [], rfl, TagsR.nil _ _, Nat.zero_le _⟩
 ·have hbl := slice_bulk hb
  simp only [List.length_map] at hbl
  obtain ⟨l, hl, xs, h1, h2⟩ := slice_list (w := W) (a := a) (len := len) (cap := cap) (size := 2) (fun i ci (q : Int × Bs) => ((∃ A' c', ci = [.int .u32 q.1, .slice A' q.2.length c'] ∧ Octs W (fun _ _ => True) A' c' q.2) ∧ 0 ≤ q.1 ∧ q.1 < 4294967296) ∧ ∀ y, elems[i]? = some y → 1 + (uv q.1.toNat).length + q.2.length ≤ 8 * uptoBulk y.1) hle (by omega) (by omega) (fun i hi => by
   obtain ⟨ci, y, g1, g2, g3⟩ := bind_get (he i hi) (by omega)
   obtain ⟨g4, g5⟩ := cells_some g1
   rw [hc.2.2.2.1] at g4 g5
   refine ⟨ci, g4, g5, ?_⟩
   obtain ⟨fs, hfs, hsz, hl⟩ := fieldsOf_ok hT.tag
   obtain ⟨xs, m, _, rfl, _, hxl, hx⟩ := DataW.trod_struct hfs g2
   rw [hsz] at hxl
   have hxl' : xs.length = 2 := hxl
   match ci, g4 with
   | [c0, c1], _ =>
    obtain ⟨y0, _, k0⟩ := fld_one hx hl (i := 0) rfl hc.2.2.2.2.2.2.2.1 (by omega) (c := c0) rfl
    obtain ⟨y1, e1, k1⟩ := fld_one hx hl (i := 1) rfl hc.2.2.2.2.1 (by omega) (c := c1) rfl
    obtain ⟨v, hv, _, hw⟩ := DataW.trod_int hT.key k0
    have hx : 0 ≤ v ∧ v ≤ 4294967295 := by simpa [Lit.wf, IntKind.min, IntKind.max, IntKind.signed, IntKind.bits] using hw
    have hby : uptoBulk y1.1 ≤ 1048576 := by
     have hm : DataW.agg (xs.map (·.1)) ∈ elems.map (·.1) := by
      have := List.mem_of_getElem? g3
      exact List.mem_map.2 ⟨_, this, rfl⟩
     exact agg_bulk (hbl.2 _ hm) _ (List.mem_map.2 ⟨_, List.mem_of_getElem? e1, rfl⟩)
    obtain ⟨A', c', s, hs, ho, hsl⟩ := trod_octs hT k1 hby
    simp only [List.cons.injEq, and_true] at hv hs
    subst hv; subst hs
    refine ⟨(v, s), ⟨⟨A', c', rfl, ho⟩, by dsimp only; omega, by dsimp only; omega⟩, fun y hy => ?_⟩
    rw [g3] at hy
    obtain rfl := Option.some.inj hy
    have h5 := uv_len_le v.toNat 5 (by omega) (by omega)
    have h6 : uptoBulk y1.1 ≤ uptoBulkAll (xs.map (·.1)) := bulk_mem (List.mem_map.2 ⟨_, List.mem_of_getElem? e1, rfl⟩)
    dsimp only
    unfold uptoBulk
    omega)
  refine ⟨some a, cap, l, by rw [hl], ⟨xs, by rw [hl]; exact h1, fun i k s hi => (h2 i (k, s) hi).1⟩, ?_⟩
  have := usz_bulk l (elems := elems) (by rw [hl, hlen]) (fun i x y hx hy => (h2 i x hx).2 y hy)
  dsimp only
  unfold uptoBulk
  omega
theorem trod_tree2 (hT : TreeTys P T TL TU TG TB TI TO TK T8) : ∀ (fuel : Nat) (cs : List Value) (x : DataW H × List MemPlace), DataW.trod enc P W 0 sp hd fuel T cs = some x → uptoBulk x.1 ≤ 1048576 → ∃ t, TreeR W (fun _ _ => True) cs t ∧ t.size ≤ 8 * uptoBulk x.1 ∧ t.i64s := by
 intro fuel
 induction fuel using Nat.strongRecOn with
 | _ fuel ih =>
 intro cs x h hb
 have hc := hT.cells
 simp only [Prod.mk.injEq] at hc
 obtain ⟨fs, hfs, hsz, hl⟩ := fieldsOf_ok hT.tree
 obtain ⟨xs, m, rfl, rfl, hcl, hxl, hx⟩ := DataW.trod_struct hfs h
 rw [hsz] at hxl
 have hxl' : xs.length = 5 := hxl
 rw [hc.1] at hcl
 have hbe : ∀ {i : Nat} {y : DataW H × List MemPlace}, xs[i]? = some y → uptoBulk y.1 ≤ 1048576 := fun e => agg_bulk hb _ (List.mem_map.2 ⟨_, List.mem_of_getElem? e, rfl⟩)
 match cs, hcl with
 | [c0, c1, c2, c3, c4], _ =>
  obtain ⟨y0, e0, k0⟩ := fld_one hx hl (i := 0) rfl hc.2.2.2.2.2.1 (by omega) (c := c0) rfl
  obtain ⟨y1, e1, k1⟩ := fld_one hx hl (i := 1) rfl hc.2.2.2.2.1 (by omega) (c := c1) rfl
  obtain ⟨y2, e2, k2⟩ := fld_one hx hl (i := 2) rfl hc.2.2.2.2.2.2.1 (by omega) (c := c2) rfl
  obtain ⟨y3, e3, k3⟩ := fld_one hx hl (i := 3) rfl hc.2.1 (by omega) (c := c3) rfl
  obtain ⟨y4, e4, k4⟩ := fld_one hx hl (i := 4) rfl hc.2.2.1 (by omega) (c := c4) rfl
  obtain ⟨v, hv, _, hw0⟩ := DataW.trod_int hT.int k0
  have hx0 : -9223372036854775808 ≤ v ∧ v ≤ 9223372036854775807 := by simpa [Lit.wf, IntKind.min, IntKind.max, IntKind.signed, IntKind.bits] using hw0
  obtain ⟨A1, d1, s, hs, ho, hz1⟩ := trod_octs hT k1 (hbe e1)
  obtain ⟨b, hbo, _⟩ := DataW.trod_bool hT.bool k2
  obtain ⟨A3, d3, u, hu, hur, hz3⟩ := trod_tags hT k4 (hbe e4)
  have hll : ∃ A2 d2 l xs2, [c3] = [.slice A2 (l : List Tree).length d2] ∧ Slots W (fun _ _ => True) 5 A2 d2 l.length xs2 ∧ (∀ i x, l[i]? = some x → TreeR W (fun _ _ => True) (xs2 i) x) ∧ sizes l ≤ 8 * uptoBulk y3.1 ∧ i64ss l := by
   rcases DataW.trod_slice hT.trees k3 with ⟨e, _⟩ | ⟨a, len, cap, elems, rest, n, rfl, e, rfl, _, hle, _, hlen, he, _⟩
   ·exact ⟨none, 0, [], fun _ => [], e, Slots.nil _ _ _ _, (fun i x h => by simp at h), Nat.zero_le _, trivial⟩
   ·have hbl := slice_bulk (hbe e3)
    simp only [List.length_map] at hbl
    obtain ⟨l, hl, xs2, h1, h2⟩ := slice_list (w := W) (a := a) (len := len) (cap := cap) (size := 5) (fun i ci (q : Tree) => (TreeR W (fun _ _ => True) ci q ∧ q.i64s) ∧ ∀ y, elems[i]? = some y → q.size ≤ 8 * uptoBulk y.1) hle (by omega) (by omega) (fun i hi => by
     obtain ⟨ci, y, g1, g2, g3⟩ := bind_get (he i hi) (by omega)
     obtain ⟨g4, g5⟩ := cells_some g1
     rw [hc.1] at g4 g5
     obtain ⟨q, q1, q2, q3⟩ := ih n (by omega) ci y g2 (hbl.2 _ (List.mem_map.2 ⟨_, List.mem_of_getElem? g3, rfl⟩))
     exact ⟨ci, g4, g5, q, ⟨q1, q3⟩, fun y' hy => by
      rw [g3] at hy
      obtain rfl := Option.some.inj hy
      exact q2⟩)
    refine ⟨some a, cap, l, xs2, by rw [e, hl], by rw [hl]; exact h1, fun i x hx => (h2 i x hx).1.1, ?_, i64ss_of fun x hx => by
     obtain ⟨i, hi, rfl⟩ := List.getElem_of_mem hx
     exact (h2 i _ (List.getElem?_eq_getElem hi)).1.2⟩
    have := sizes_bulk l (elems := elems) (by rw [hl, hlen]) (fun i x y hx hy => (h2 i x hx).2 y hy)
    dsimp only
    unfold uptoBulk
    omega
  obtain ⟨A2, d2, l, xs2, hl2, hsl, hxl2, hz2, hi2⟩ := hll
  simp only [List.cons.injEq, and_true] at hv hs hbo hl2 hu
  subst hv; subst hs; subst hbo; subst hl2; subst hu
  refine ⟨_, .mk xs2 ho hsl hxl2 hur, ?_, hx0, hi2⟩
  have h5 := bulk_five hxl' e0 e1 e2 e3 e4
  have p0 := bulk_pos y0.1
  have p1 := bulk_pos y2.1
  dsimp only at h5 ⊢
  rw [Tree.size_mk, h5]
  omega
end
section
variable {H : Type} {enc : TypeId × Value → H} {P : Program}
open Go.ChangeShapes Go.WideShapes Go.ChangeAt Go.RowKit
theorem Step.same {W W' : World} (h : Step W W' Nil) {b : Nat} (hb : b < W.heap.size) : W'.heap[b]? = W.heap[b]? := (h.keeps b hb).1 fun _ hn => hn
theorem Step.sameAt {W W' : World} (h : Step W W' Nil) {p : MemPlace} (hp : p.block < W.heap.size) : W.sameAt W' p := by
 cases p with
 | cell b o => exact World.cell_of_heap (h.same hp)
 | map b => exact h.same hp
theorem Step.keptBut {W W' : World} (h : Step W W' Nil) (may : MemPlace → Prop) : W.keptBut W' may := by
 refine ⟨h.os, h.output, fun i hi => ?_⟩
 rw [h.same hi]
 cases hx : W.heap[i]? with
 | none => rfl
 | some x =>
  cases x with
  | cells c t f => exact ⟨rfl, rfl, rfl, fun _ _ => rfl⟩
  | map es clock => exact .inr ⟨rfl, rfl⟩
  | _ => rfl
theorem trodAll_stays (hl : laidOutB P = true) {W W' : World} (hs : Step W W' Nil) : ∀ {ts : List TypeId} {vs : List Value} {ds : List (DataW H)} {ps : List MemPlace}, (∀ t ∈ ts, P.readableRec t = true ∧ t < P.types.size) → DataW.TrodAll enc P W 0 (fun _ => true) true ts vs ds ps → (∀ p ∈ ps, p.block < W.heap.size) →
  DataW.TrodAll enc P W' 0 (fun b => decide (b < W.heap.size)) true ts vs ds ps
 | [], vs, ds, ps, _, h, _ => by
  obtain ⟨rfl, rfl, rfl⟩ := trodAll_nil h
  exact rfl
 | t :: ts, vs, ds, ps, ht, h, hp => by
  obtain ⟨v, vs', d, ds', p, q, rfl, rfl, rfl, h1, h2⟩ := trodAll_cons h
  have h0 := ht t (List.mem_cons_self ..)
  refine ⟨p, q, ?_, trodAll_stays hl hs (fun t' h' => ht t' (List.mem_cons_of_mem _ h')) h2 (fun x hx => hp x (List.mem_append_right _ hx)), rfl⟩
  exact Go.WideElems.Trod_stays hl h0.1 h0.2 h1 (fun x hx => hs.sameAt (hp x (List.mem_append_left _ hx))) (fun x hx => decide_eq_true (hp x (List.mem_append_left _ hx)))
theorem post_step {f : Func} {s : ChangeSpec} {W W' : World} {args : Array Value} {v : Value} {ds gs : List (DataW H)} {before : List MemPlace} {handsOn : Bool}
  (hW : DataW.Whole enc P f.params.toList s.vars false W args.toList ds gs before) (hs : Step W W' Nil) (hl : laidOutB P = true) (hpar : ∀ t ∈ f.params.toList, P.readableRec t = true ∧ t < P.types.size)
  (hv : s.vars = []) (hargs : (s.fn H (ds ++ gs)).args = ds) (hvars : (s.fn H (ds ++ gs)).vars = [])
  (hres : ∀ (b : Nat) (sp : Nat → Bool) (hd : Bool), DataW.TrodAll enc P W' b sp hd f.resultTypes.toList (v.resultList f.resultTypes.size) (s.fn H (ds ++ gs)).results []) :
  s.post enc P f false true handsOn false W args v W' := by
 have hlt : ∀ p ∈ before, p.block < W.heap.size := fun p hp => hW.lt p hp
 obtain ⟨p, q, hA, hV, rfl, _, _⟩ := id hW
 rw [hv] at hV
 obtain ⟨rfl, rfl⟩ := trodVars_none hV
 refine ⟨ds, [], _, [], p, [], hW, hres _ _ _, ?_, ?_, hs.keptBut _, fun h => by cases h⟩
 ·rw [hargs]
  exact trodAll_stays hl hs hpar hA (fun x hx => hlt x (List.mem_append_left _ hx))
 ·rw [hvars, hv]; exact rfl
end
end Go.Proofs.YtgolpmkenmedoaaGreatDoor.ME
namespace Go.Proofs.YtgolpmkenmedoaaGreatDoor.ME
open Go
open Go.RowKit
set_option linter.unusedVariables false
set_option linter.unusedSimpArgs false
set_option maxRecDepth 20000
def bs (s : Bs) : ByteArray := ⟨s.toArray⟩
theorem sb_bs (s : Bs) : sb (bs s) = s := by simp [sb, bs]
theorem bs_size (s : Bs) : (bs s).size = s.length := by simp [bs, ByteArray.size]
def octOf (t : Tree) : Bs := if t.null then [] else t.S
section
variable {P : Program} {n : Nat} {w0 : World} {A0 : Option Addr} {e8 d : Nat} {tb : Tb} {env e1 env' : Env} {c c1 c2 : Code} {x x1 x2 y : Bs}
end
section
variable {P : Program} {ops : Array Oper} {Q : Exit → Act → World → Prop} {n : Nat} {tb : Tb} {env : Env} {rs : List Rw} {w0 : World} {M : Nat → Nat → Prop} {a : Act} {w : World}
def convE (tb : Tb) (env : Env) (ops : Array Oper) (n i : Nat) : Option (TypeId × TypeId × Value × Nat) :=
 match opAt env ops n i with
 | some (.convert src dst x, d) => match opd env x with
  | some (.v v) => some (src, dst, v, d)
  | _ => none
 | _ => none
theorem wpOp_conv {i d : Nat} {src dst e c : Nat} {A : Option Addr} {s : Bs} {F : Nat → Nat → Prop} {N : Act → World → Prop} (hE : EnvOk n tb env a) (h : convE tb env ops n i = some (src, dst, .slice A s.length c, d)) (hs : P.underlying src = some (.slice e)) (he : P.underlying e = some (.int .u8)) (hd : P.underlying dst = some .string)
  (ho : Octs w F A c s) (K : ∀ a', EnvOk n tb ((d, .v (.string (bs s))) :: env) a' → N a' w) : wpOp P ops Q i N a w := by
 unfold convE at h
 split at h
 ·rename_i src' dst' x d' hop
  split at h
  ·rename_i v hx
   simp only [Option.some.injEq, Prod.mk.injEq] at h
   obtain ⟨rfl, rfl, rfl, rfl⟩ := h
   have hdn := (opAt_ok hE hop).choose_spec.2.2.2.1
   have hrun : (convert src' dst' (.slice A s.length c)).run P w = .ok (.string (bs s)) w := by
    have hsrc := ho.src
    cases A with
    | none =>
     have h0 : s = [] := List.eq_nil_of_length_eq_zero (ho.none_ rfl).1
     subst h0
     exact run_convert_bytes_nil w src' e hs he _ _ dst' hd
    | some ad =>
     have hl : (loadCells ad s.length).run P w = .ok ((s.map fun b => ((b.toNat : Nat) : Int)).map (Value.int .u8)).toArray w := by
      have := run_loadCells_list (P := P) w ad (bc s) (fun j v hj => hsrc.cells ad rfl j v hj)
      rw [show (bc s).length = s.length from by simp [bc]] at this
      rw [this]
      simp [bc]
     rw [run_convert_bytes_string w src' dst' e _ s.length c hs he hd, run_bytesToString w _ s.length c _ hl, foldl_push_bytes]
     congr 2
     simp only [bs, ByteArray.empty, ByteArray.emptyWithCapacity]
     have e3 : (s.map fun b => ((b.toNat : Nat) : Int)).map (fun n => UInt8.ofNat n.toNat) = s := by
      rw [List.map_map]
      conv => rhs; rw [← List.map_id s]
      exact List.map_congr_left fun b _ => by simp
     rw [e3]
     simp
     rfl
   refine wpOp_value hE hop (v := .string (bs s)) (w' := w) ?_ (K _ (hE.put hdn (.v _) trivial))
   intro o ho'
   unfold execOp
   rw [ho']
   simp only [(opd_ok hE hx).1, SV.val, Sem.run_bind, hrun, Result.andThen_ok, Sem.run_pure]
  ·cases h
 ·cases h
end
theorem uv0 : uv 0 = [0] := by rw [uv]; rfl
theorem fit_o {v : Int} {d : Nat} {l : List Fld} {t : Tree} {i : Nat} {k x1 x2 x3 x4 x5 x6 : Int} {s : List Fld} (h : l[i]? = some (.mk k x1 x2 x3 x4 x5 x6 s)) (hk : k = 8 ∨ k = 9) :
  octOf ((fitT v (d + 1) l t).at_ i) = (if Fld.nul (.mk k x1 x2 x3 x4 x5 x6 s) v (t.at_ i) = true then [] else whole (t.at_ i).S) ∧ ((fitT v (d + 1) l t).at_ i).null = Fld.nul (.mk k x1 x2 x3 x4 x5 x6 s) v (t.at_ i) := by
 rw [fit_at h]
 have e1 : k ≠ 11 := by omega
 have e : fittedW (fitT v d) v (.mk k x1 x2 x3 x4 x5 x6 s) (t.at_ i) = .mk 0 (whole (t.at_ i).S) (Fld.nul (.mk k x1 x2 x3 x4 x5 x6 s) v (t.at_ i)) [] [] := by
  simp [fittedW, fitted0, Fld.kind, e1, hk]
 rw [e]
 exact ⟨rfl, rfl⟩
section
variable {P : Program} {n : Nat} {w0 : World} {A0 : Option Addr} {e8 d : Nat} {tb : Tb} {env e1 env' : Env} {c c1 c2 : Code} {x x1 x2 y : Bs}
end
def lst (t : Tree) : List Tree := if t.null then [] else t.L
def okCreatePartitionsResponseTopic (w : World) (F : Nat → Nat → Prop) (D : DV) : Prop := ((D.f 0).s.size ≤ 1000000) ∧ (True) ∧ ((∀ ad, (D.f 2).A = some ad → ∃ b o, ad = ⟨b, o, none⟩ ∧ AtF w F b o [.string (D.f 2).s]) ∧ (D.f 2).s.size ≤ 1000000) ∧ MapR w F D.m D.u ∧ D.u.length ≤ 1000000 ∧ (∀ x ∈ D.u, x.2.length < 4294967296) ∧ True
def okCreatePartitionsResponse (w : World) (F : Nat → Nat → Prop) (D : DV) : Prop := (True) ∧ (Slots w F 4 (D.f 1).A (D.f 1).c (D.f 1).l (fun i => [.string ((((D.f 1).f i).f 0).s), .int .i16 ((((D.f 1).f i).f 1).n), .pointer ((((D.f 1).f i).f 2).A), .map (((D.f 1).f i).m)]) ∧ (D.f 1).l ≤ 1000000 ∧ ∀ i, i < (D.f 1).l → okCreatePartitionsResponseTopic w F ((D.f 1).f i)) ∧ MapR w F D.m D.u ∧ D.u.length ≤ 1000000 ∧ (∀ x ∈ D.u, x.2.length < 4294967296) ∧ True
def tCreatePartitionsResponse (v : Int) (T : Tree) : Bs := (be 4 ((IntKind.i32.wrap (T.at_ 0).N))) ++ (((if (decide (v ≥ 2)) = true then (uv ((lst (T.at_ 1)).length + 1)) else (be 4 (lst (T.at_ 1)).length)) ++ ((lst (T.at_ 1)).flatMap fun aa => (if (decide (v ≥ 2)) = true then (uv ((aa.at_ 0).S.length + 1) ++ (aa.at_ 0).S) else (be 2 (aa.at_ 0).S.length ++ (aa.at_ 0).S)) ++ ((be 2 ((IntKind.i16.wrap (aa.at_ 1).N))) ++ ((if (decide (v ≥ 2)) = true then (if (aa.at_ 2).null = true then uv 0 else uv ((octOf (aa.at_ 2)).length + 1) ++ (octOf (aa.at_ 2))) else (if (aa.at_ 2).null = true then be 2 (-1) else be 2 (octOf (aa.at_ 2)).length ++ (octOf (aa.at_ 2)))) ++ (if (decide (v ≥ 2)) = true then (uv aa.U.length) ++ (tagsR aa.U) else []))))) ++ ((if (decide (v ≥ 2)) = true then (uv T.U.length) ++ (tagsR T.U) else []) ++ ([])))
end Go.Proofs.YtgolpmkenmedoaaGreatDoor.ME
namespace Go.Proofs.YtgolpmkenmedoaaGreatDoor.ME
open Go
set_option linter.unusedVariables false
set_option linter.unusedSimpArgs false
theorem fit_11 {v : Int} {d : Nat} {l : List Fld} {t : Tree} {i : Nat} {x1 x2 x3 x5 x6 : Int} {s : List Fld} (h : l[i]? = some (.mk 11 x1 x2 x3 (-1) x5 x6 s)) :
  ((fitT v (d + 1) l t).at_ i).null = Fld.nul (.mk 11 x1 x2 x3 (-1) x5 x6 s) v (t.at_ i) ∧
  lst ((fitT v (d + 1) l t).at_ i) = (if Fld.nul (.mk 11 x1 x2 x3 (-1) x5 x6 s) v (t.at_ i) = true then [] else things (t.at_ i).L).map (fun x => fitted0 (fitT v d) (.mk x6 x1 x2 (-1) (-1) x5 x6 s) (Fld.nul (.mk x6 x1 x2 (-1) (-1) x5 x6 s) v x) x) := by
 rw [fit_at h]
 have e : fittedW (fitT v d) v (.mk 11 x1 x2 x3 (-1) x5 x6 s) (t.at_ i) = .mk 0 [] (Fld.nul (.mk 11 x1 x2 x3 (-1) x5 x6 s) v (t.at_ i)) ((things (t.at_ i).L).map (fun x => fitted0 (fitT v d) (.mk x6 x1 x2 (-1) (-1) x5 x6 s) (Fld.nul (.mk x6 x1 x2 (-1) (-1) x5 x6 s) v x) x)) [] := by
  simp [fittedW, Fld.kind, Fld.tag, Fld.elem]
 rw [e]
 refine ⟨rfl, ?_⟩
 unfold lst
 show (if Fld.nul _ v (t.at_ i) = true then [] else _) = _
 split
 ·rfl
 ·rfl
theorem fit_10 {v : Int} {d : Nat} {x1 x2 x5 x6 : Int} {s : List Fld} {b : Bool} {x : Tree} : (∀ i, (fitted0 (fitT v d) (.mk 10 x1 x2 (-1) (-1) x5 x6 s) b x).at_ i = (fitT v d s x).at_ i) ∧ (fitted0 (fitT v d) (.mk 10 x1 x2 (-1) (-1) x5 x6 s) b x).U = (fitT v d s x).U := by
 cases hT : fitT v d s x with
 | mk n s' b' l u =>
  have e : fitted0 (fitT v d) (.mk 10 x1 x2 (-1) (-1) x5 x6 s) b x = .mk n s' b l u := by
   simp [fitted0, Fld.kind, Fld.sub, hT]
  rw [e]
  exact ⟨fun _ => rfl, rfl⟩
theorem fit_t {v : Int} {d : Nat} {l : List Fld} {t : Tree} {i : Nat} {k x1 x2 x3 x4 x5 x6 : Int} {s : List Fld} (h : l[i]? = some (.mk k x1 x2 x3 x4 x5 x6 s)) (hk : k = 8 ∨ k = 9) :
  ((fitT v (d + 1) l t).at_ i).S = whole (t.at_ i).S := by
 rw [fit_at h]
 have e1 : k ≠ 11 := by omega
 have e : fittedW (fitT v d) v (.mk k x1 x2 x3 x4 x5 x6 s) (t.at_ i) = .mk 0 (whole (t.at_ i).S) (Fld.nul (.mk k x1 x2 x3 x4 x5 x6 s) v (t.at_ i)) [] [] := by
  simp [fittedW, fitted0, Fld.kind, e1, hk]
 rw [e]
 rfl
theorem nul_no {k x1 x2 x4 x5 x6 : Int} {s : List Fld} {v : Int} {t : Tree} : Fld.nul (.mk k x1 x2 (-1) x4 x5 x6 s) v t = false := by
 cases t
 simp [Fld.nul]
theorem be8_f64 {x : Int} : be 8 (((IntKind.u64.wrap x).toNat : Nat) : Int) = be 8 x := by
 rw [show (((IntKind.u64.wrap x).toNat : Nat) : Int) = IntKind.u64.wrap x by rw [wrap_u64]; omega, be8_wrap]
theorem nul_ge {k x1 x2 n x4 x5 x6 : Int} {s : List Fld} {v : Int} {t : Tree} (h : Fld.nul (.mk k x1 x2 n x4 x5 x6 s) v t = true) : v ≥ n := by
 cases t
 simp only [Fld.nul, Bool.and_eq_true, decide_eq_true_eq] at h
 exact h.2
theorem bool8 {x : Int} : by8 (if decide (x % 2 = 1) = true then 1 else 0) = by8 (x % 2) := by
 rcases Int.emod_two_eq x with h | h <;> simp [h]
def canU (u : List (Int × Bs)) : Prop := Sorted u ∧ u.length ≤ 1000000 ∧ ∀ y ∈ u, y.2.length < 4294967296
theorem canU_fit {v : Int} {d : Nat} {l : List Fld} {t : Tree} : canU (fitT v d l t).U := by
 rw [fit_U]
 refine ⟨wholeU_sorted (unknownT_sorted _ _), ?_, fun y hy => ?_⟩
 ·rw [wholeU_len]; exact Nat.le_trans (unknownT_len _ _) (by decide)
 ·obtain ⟨x, _, rfl⟩ := List.mem_map.1 hy
  exact Nat.lt_of_le_of_lt (whole_le _) (by decide)
theorem lst_mem {v : Int} {d : Nat} {l : List Fld} {t : Tree} {i : Nat} {x1 x2 x3 x5 x6 : Int} {s : List Fld} {Q : Tree → Prop} (h : l[i]? = some (.mk 11 x1 x2 x3 (-1) x5 x6 s))
  (hq : ∀ y, Q (fitted0 (fitT v d) (.mk x6 x1 x2 (-1) (-1) x5 x6 s) (Fld.nul (.mk x6 x1 x2 (-1) (-1) x5 x6 s) v y) y)) : ∀ x ∈ lst ((fitT v (d + 1) l t).at_ i), Q x := by
 rw [(fit_11 h).2]
 intro x hx
 obtain ⟨y, _, rfl⟩ := List.mem_map.1 hx
 exact hq y
end Go.Proofs.YtgolpmkenmedoaaGreatDoor.ME
namespace Go.Proofs.YtgolpmkenmedoaaGreatDoor.ME
open Go
open Go.RowKit
set_option linter.unusedVariables false
theorem octs_le2 {v : Int} {d : Nat} {l : List Fld} {t : Tree} {i : Nat} {k x1 x2 x3 x4 x5 x6 : Int} {s : List Fld} (h : l[i]? = some (.mk k x1 x2 x3 x4 x5 x6 s)) (hk : k = 8 ∨ k = 9) : (octOf ((fitT v (d + 1) l t).at_ i)).length ≤ 32767 := by
 rw [(fit_o h hk).1]
 split
 ·exact Nat.zero_le _
 ·exact Nat.le_trans (whole_le _) (by decide)
theorem lst_le2 {v : Int} {d : Nat} {l : List Fld} {t : Tree} {i : Nat} {x1 x2 x3 x5 x6 : Int} {s : List Fld} (h : l[i]? = some (.mk 11 x1 x2 x3 (-1) x5 x6 s)) : (lst ((fitT v (d + 1) l t).at_ i)).length ≤ 32767 := by
 rw [(fit_11 h).2, List.length_map]
 split
 ·exact Nat.zero_le _
 ·simp only [things, List.length_take]; omega
def Tree.ranged : Tree → Prop
 | .mk _ _ _ l u => (∀ x ∈ u, 0 ≤ x.1 ∧ x.1 < 4294967296) ∧ rangeds l
where rangeds : List Tree → Prop
 | [] => True
 | t :: r => t.ranged ∧ rangeds r
abbrev rangeds := Tree.ranged.rangeds
theorem rangeds_mem : ∀ {l : List Tree}, rangeds l → ∀ x ∈ l, x.ranged
 | [], _, x, h => by cases h
 | t :: r, hr, x, h => by
  rcases List.mem_cons.1 h with rfl | h
  ·exact hr.1
  ·exact rangeds_mem (l := r) hr.2 x h
theorem rangeds_of : ∀ {l : List Tree}, (∀ x ∈ l, x.ranged) → rangeds l
 | [], _ => trivial
 | t :: r, h => ⟨h t (List.mem_cons_self ..), rangeds_of (l := r) fun x hx => h x (List.mem_cons_of_mem _ hx)⟩
theorem ranged_zero : Tree.zero.ranged := ⟨fun x h => (by cases h), trivial⟩
theorem ranged_U {t : Tree} (h : t.ranged) : ∀ x ∈ t.U, 0 ≤ x.1 ∧ x.1 < 4294967296 := by cases t; exact h.1
theorem ranged_L {t : Tree} (h : t.ranged) : ∀ x ∈ t.L, x.ranged := by cases t; exact rangeds_mem h.2
theorem ranged_at {t : Tree} (h : t.ranged) (i : Nat) : (t.at_ i).ranged := by
 unfold Tree.at_
 rw [List.getD_eq_getElem?_getD]
 cases hx : t.L[i]? with
 | none => exact ranged_zero
 | some x => exact ranged_L h x (List.mem_of_getElem? hx)
theorem ranged_lst {t : Tree} (h : t.ranged) : ∀ x ∈ lst t, x.ranged := fun x hx => by
 unfold lst at hx
 split at hx
 ·cases hx
 ·exact ranged_L h x hx
theorem TreeR.ranged {w : World} {F : Nat → Nat → Prop} {cs : List Value} {t : Tree} (h : TreeR w F cs t) : t.ranged := by
 induction h with
 | @mk n s b l u A1 A2 A3 c1 c2 c3 cs h1 h2 h3 h4 ih =>
  refine ⟨fun x hx => tags_range h4 x hx, rangeds_of fun x hx => ?_⟩
  obtain ⟨i, hi⟩ := List.mem_iff_getElem?.1 hx
  exact ih i x hi
theorem ranged_fit (v : Int) : ∀ (d : Nat) (l : List Fld) (t : Tree), t.ranged → (fitT v d l t).ranged := by
 have core : ∀ (W : Fld → Tree → Tree) (l : List Fld) (t : Tree), t.ranged → (∀ f x, x.ranged → (W f x).ranged) → (fitW W l t).ranged := by
  intro W l t ht hW
  refine ⟨fun x hx => ?_, rangeds_of ?_⟩
  ·obtain ⟨y, hy, rfl⟩ := List.mem_map.1 hx
   exact ranged_U ht y (unknownT_mem y hy)
  ·have : ∀ (l : List Fld) (i : Nat), ∀ x ∈ fitsW W l t i, x.ranged := by
    intro l
    induction l with
    | nil => intro i x hx; cases hx
    | cons f r ih =>
     intro i x hx
     rcases List.mem_cons.1 hx with rfl | hx
     ·exact hW f _ (ranged_at ht i)
     ·exact ih (i + 1) x hx
   exact this l 0
 have f0 : ∀ (p : List Fld → Tree → Tree), (∀ l x, x.ranged → (p l x).ranged) → ∀ (f : Fld) (b : Bool) (x : Tree), x.ranged → (fitted0 p f b x).ranged := by
  intro p hp f b x hx
  unfold fitted0
  split
  ·exact ⟨fun x h => (by cases h), trivial⟩
  ·split
   ·have := hp f.sub x hx
    generalize p f.sub x = y at this
    cases y; exact this
   ·exact ⟨fun x h => (by cases h), trivial⟩
 intro d
 induction d with
 | zero => intro l t ht; exact core _ l t ht fun _ _ _ => ranged_zero
 | succ d ih =>
  intro l t ht
  refine core _ l t ht fun f x hx => ?_
  unfold fittedW
  split
  ·refine ⟨fun x h => (by cases h), rangeds_of fun y hy => ?_⟩
   obtain ⟨z, hz, rfl⟩ := List.mem_map.1 hy
   exact f0 _ ih _ _ _ (ranged_L hx z (by unfold things at hz; exact List.mem_of_mem_take hz))
  ·exact f0 _ ih _ _ _ hx
end Go.Proofs.YtgolpmkenmedoaaGreatDoor.ME
namespace Go.Proofs.YtgolpmkenmedoaaGreatDoor.ME
open Go
set_option linter.unusedVariables false
set_option linter.unusedSimpArgs false
set_option maxRecDepth 20000
theorem sHas (k x1 x2 x3 x4 x5 x6 : Int) (fs : List Fld) (AF : Option Addr) (cF : Nat) (v : Int) (w : World) :
  Calls Tryz.prog 58 #[.agg #[.int .i64 k, .int .i64 x1, .int .i64 x2, .int .i64 x3, .int .i64 x4, .int .i64 x5, .int .i64 x6, .slice AF fs.length cF], .int .i64 v] w (Gives w (.bool (Fld.has (Fld.mk k x1 x2 x3 x4 x5 x6 fs) v))) := by
 refine enter (n := 20) Tryz.func58 rfl Tryz.ntmps58 kz fun a hE => ?_
 have hW := WOk.start w Nil
 refine go_seq_region [0, 1] kz ?_
 refine of_op (wpOp_box hW hE (d := 2) (cs := [.int .i64 k, .int .i64 x1, .int .i64 x2, .int .i64 x3, .int .i64 x4, .int .i64 x5, .int .i64 x6, .slice AF fs.length cF]) kz fun b1 a2 w3 hb4 hz5 hF6 hW7 hE8 => ?_)
 clear hE hW
 refine go_rn [1] [] [(1, .v (.int .i64 v)), (2, .p 0 0)] hW7 hE8 fun a9 af => ?_
 clear hE8
 refine wpOps_nil (then_normal ?_)
 refine go_seq_region [0, 1, 2, 3, 4, 5, 6, 7, 8, 9, 10, 11, 12, 13, 14, 15] kz ?_
 refine go_rn [0, 1, 2, 3, 4] [5, 6, 7, 8, 9, 10, 11, 12, 13, 14, 15] [(1, .v (.int .i64 v)), (2, .p 0 0), (9, .v (.bool (decide (x1 ≤ v))))] hW7 af fun av ac => ?_
 clear af
 refine (Bool.eq_false_or_eq_true (decide (x1 ≤ v))).elim (fun aa => ?_) (fun aa => ?_)
 ·
  have ao := of_decide_eq_true aa
  have ag := ac.cast (env' := [(1, .v (.int .i64 v)), (2, .p 0 0), (9, .v (.bool true))]) (by rw [aa])
  clear ac
  refine go_rn [5, 6, 7, 8] [9, 10, 11, 12, 13, 14, 15] [(1, .v (.int .i64 v)), (2, .p 0 0), (9, .v (.bool true)), (13, .v (.bool (decide (x2 < 0))))] hW7 ag fun aw ae => ?_
  clear ag
  refine (Bool.eq_false_or_eq_true (decide (x2 < 0))).elim (fun ab => ?_) (fun ab => ?_)
  ·
   have ap := of_decide_eq_true ab
   have ah := ae.cast (env' := [(1, .v (.int .i64 v)), (2, .p 0 0), (9, .v (.bool true)), (13, .v (.bool true))]) (by rw [ab])
   clear ae
   refine go_rn [9, 10, 11, 12, 13, 14, 15] [] [(4, .v (.bool true))] hW7 ah fun ax ak => ?_
   clear ah
   refine wpOps_nil (then_normal ?_)
   refine wp_ret ?_
   refine leave ak hW7.cells (v := .bool true) kz ?_
   exact ⟨by simp only [Fld.has, aa, ab, Bool.true_and, Bool.and_true, Bool.false_and, Bool.and_false, Bool.true_or, Bool.false_or, Bool.or_true, Bool.or_false], hW7.step⟩
  ·
   have ar := of_decide_eq_false ab
   have ai := ae.cast (env' := [(1, .v (.int .i64 v)), (2, .p 0 0), (9, .v (.bool true)), (13, .v (.bool false))]) (by rw [ab])
   clear ae
   refine go_rn [9, 10, 11, 12, 13, 14, 15] [] [(4, .v (.bool (decide (v ≤ x2))))] hW7 ai fun ay al => ?_
   clear ai
   refine wpOps_nil (then_normal ?_)
   refine wp_ret ?_
   refine leave al hW7.cells (v := .bool (decide (v ≤ x2))) kz ?_
   exact ⟨by simp only [Fld.has, aa, ab, Bool.true_and, Bool.and_true, Bool.false_and, Bool.and_false, Bool.true_or, Bool.false_or, Bool.or_true, Bool.or_false], hW7.step⟩
 ·
  have au := of_decide_eq_false aa
  have aj := ac.cast (env' := [(1, .v (.int .i64 v)), (2, .p 0 0), (9, .v (.bool false))]) (by rw [aa])
  clear ac
  refine go_rn [5, 6, 7, 8, 9, 10, 11, 12, 13, 14, 15] [] [(4, .v (.bool false))] hW7 aj fun az am => ?_
  clear aj
  refine wpOps_nil (then_normal ?_)
  refine wp_ret ?_
  refine leave am hW7.cells (v := .bool false) kz ?_
  exact ⟨by simp only [Fld.has, aa, Bool.true_and, Bool.and_true, Bool.false_and, Bool.and_false, Bool.true_or, Bool.false_or, Bool.or_true, Bool.or_false], hW7.step⟩
theorem sNull (k x1 x2 x3 x4 x5 x6 : Int) (fs : List Fld) (AF : Option Addr) (cF : Nat) (v : Int) (n : Int) (s : Bs) (b : Bool) (l : List Tree) (u : List (Int × Bs)) (A1 : Option Addr) (c1 : Nat) (A2 : Option Addr) (c2 : Nat) (A3 : Option Addr) (c3 : Nat) (w : World) :
  Calls Tryz.prog 130 #[.agg #[.int .i64 k, .int .i64 x1, .int .i64 x2, .int .i64 x3, .int .i64 x4, .int .i64 x5, .int .i64 x6, .slice AF fs.length cF], .int .i64 v, .agg #[.int .i64 n, .slice A1 s.length c1, .bool b, .slice A2 l.length c2, .slice A3 u.length c3]] w (Gives w (.bool (Fld.nul (Fld.mk k x1 x2 x3 x4 x5 x6 fs) v (Tree.mk n s b l u)))) := by
 refine enter (n := 20) Tryz.func130 rfl Tryz.ntmps130 kz fun a hE => ?_
 have hW := WOk.start w Nil
 refine go_seq_region [0, 1, 2] kz ?_
 refine of_op (wpOp_box hW hE (d := 3) (cs := [.int .i64 k, .int .i64 x1, .int .i64 x2, .int .i64 x3, .int .i64 x4, .int .i64 x5, .int .i64 x6, .slice AF fs.length cF]) kz fun b1 a2 w3 hb4 hz5 hF6 hW7 hE8 => ?_)
 clear hE hW
 refine of_op (wpOp_box hW7 hE8 (d := 5) (cs := [.int .i64 n, .slice A1 s.length c1, .bool b, .slice A2 l.length c2, .slice A3 u.length c3]) kz fun b9 ay az ar au av aa ag => ?_)
 clear hE8 hW7
 refine go_rn [2] [] [(1, .v (.int .i64 v)), (3, .p 0 0), (5, .p 1 0)] aa ag fun aA ah => ?_
 clear ag
 refine wpOps_nil (then_normal ?_)
 refine go_seq_region [0, 1, 2, 3, 4, 5, 6, 7, 8, 9, 10, 11, 12, 13] kz ?_
 refine go_rn [0, 1, 2] [3, 4, 5, 6, 7, 8, 9, 10, 11, 12, 13] [(1, .v (.int .i64 v)), (3, .p 0 0), (9, .v (.bool b))] aa ah fun aB ae => ?_
 clear ah
 refine (Bool.eq_false_or_eq_true (b)).elim (fun ac => ?_) (fun ac => ?_)
 ·
  have ai := ae.cast (env' := [(1, .v (.int .i64 v)), (3, .p 0 0), (9, .v (.bool true))]) (by rw [ac])
  clear ae
  refine go_rn [3, 4, 5, 6, 7] [8, 9, 10, 11, 12, 13] [(1, .v (.int .i64 v)), (3, .p 0 0), (14, .v (.bool (decide (x3 ≥ 0))))] aa ai fun aC af => ?_
  clear ai
  refine (Bool.eq_false_or_eq_true (decide (x3 ≥ 0))).elim (fun ab => ?_) (fun ab => ?_)
  ·
   have aw := of_decide_eq_true ab
   have aj := af.cast (env' := [(1, .v (.int .i64 v)), (3, .p 0 0), (14, .v (.bool true))]) (by rw [ab])
   clear af
   refine go_rn [8, 9, 10, 11, 12, 13] [] [(6, .v (.bool (decide (v ≥ x3))))] aa aj fun aD am => ?_
   clear aj
   refine wpOps_nil (then_normal ?_)
   refine wp_ret ?_
   refine leave am aa.cells (v := .bool (decide (v ≥ x3))) kz ?_
   exact ⟨by simp only [Fld.nul, ac, ab, Bool.true_and, Bool.and_true, Bool.false_and, Bool.and_false, Bool.true_or, Bool.false_or, Bool.or_true, Bool.or_false], aa.step⟩
  ·
   have ax := of_decide_eq_false ab
   have ak := af.cast (env' := [(1, .v (.int .i64 v)), (3, .p 0 0), (14, .v (.bool false))]) (by rw [ab])
   clear af
   refine go_rn [8, 9, 10, 11, 12, 13] [] [(6, .v (.bool false))] aa ak fun aE ao => ?_
   clear ak
   refine wpOps_nil (then_normal ?_)
   refine wp_ret ?_
   refine leave ao aa.cells (v := .bool false) kz ?_
   exact ⟨by simp only [Fld.nul, ac, ab, Bool.true_and, Bool.and_true, Bool.false_and, Bool.and_false, Bool.true_or, Bool.false_or, Bool.or_true, Bool.or_false], aa.step⟩
 ·
  have al := ae.cast (env' := [(1, .v (.int .i64 v)), (3, .p 0 0), (9, .v (.bool false))]) (by rw [ac])
  clear ae
  refine go_rn [3, 4, 5, 6, 7, 8, 9, 10, 11, 12, 13] [] [(6, .v (.bool false))] aa al fun aF ap => ?_
  clear al
  refine wpOps_nil (then_normal ?_)
  refine wp_ret ?_
  refine leave ap aa.cells (v := .bool false) kz ?_
  exact ⟨by simp only [Fld.nul, ac, Bool.true_and, Bool.and_true, Bool.false_and, Bool.and_false, Bool.true_or, Bool.false_or, Bool.or_true, Bool.or_false], aa.step⟩
theorem sWidth (k : Int) (w : World) : Calls Tryz.prog 129 #[.int .i64 k] w (Gives w (.int .i64 ((widthI k : Nat) : Int))) := by
 refine enter (n := 11) Tryz.func129 rfl Tryz.ntmps129 kz fun a hE => ?_
 have hW := WOk.start w Nil
 refine go_sp [(0, .v (.int .i64 k))] hW hE fun a1 hE2 => ?_
 clear hE
 refine wp_seq ?_
 refine go_sp [(3, .v (.int .i64 k))] hW hE2 fun a3 hE4 => ?_
 clear hE2
 refine wp_block ?_
 refine go_sp [(3, .v (.int .i64 k)), (4, .v (.bool (k == 1)))] hW hE4 fun a5 hE6 => ?_
 clear hE4
 refine cond_of hE6 (b := k == 1) kz (fun hc7 => ?_) (fun hc7 => ?_)
 ·
  have hf8 : k = 1 := by simpa using hc7
  refine go_sp [(2, .v (.int .i64 1))] hW hE6 fun a9 ah => ?_
  clear hE6
  refine wp_ret ?_
  refine block_ret ?_
  refine then_ret ?_
  refine leave ah hW.cells (v := .int .i64 1) kz ?_
  exact ⟨by simp_all [widthI], hW.step⟩
 ·
  have am : k ≠ 1 := by simpa using hc7
  refine wp_seq ?_
  refine go_sp [(3, .v (.int .i64 k)), (6, .v (.bool (k == 2)))] hW hE6 fun ax aa => ?_
  clear hE6
  refine cond_of aa (b := k == 2) kz (fun ae => ?_) (fun ae => ?_)
  ·
   have ao : k = 2 := by simpa using ae
   refine wp_skip ?_
   refine then_normal ?_
   refine cond_true aa (b := k == 2) kz (ae) ?_
   refine go_sp [(2, .v (.int .i64 2))] hW aa fun ay ai => ?_
   clear aa
   refine wp_ret ?_
   refine block_ret ?_
   refine then_ret ?_
   refine leave ai hW.cells (v := .int .i64 2) kz ?_
   exact ⟨by simp_all [widthI], hW.step⟩
  ·
   have ap : k ≠ 2 := by simpa using ae
   refine go_region [0, 1] kz ?_
   refine go_rn [0, 1] [] [(3, .v (.int .i64 k)), (6, .v (.bool (k == 5)))] hW aa fun az ab => ?_
   clear aa
   refine wpOps_nil (then_normal ?_)
   refine cond_of ab (b := k == 5) kz (fun af => ?_) (fun af => ?_)
   ·
    have ar : k = 5 := by simpa using af
    refine go_sp [(2, .v (.int .i64 2))] hW ab fun aA aj => ?_
    clear ab
    refine wp_ret ?_
    refine block_ret ?_
    refine then_ret ?_
    refine leave aj hW.cells (v := .int .i64 2) kz ?_
    exact ⟨by simp_all [widthI], hW.step⟩
   ·
    have au : k ≠ 5 := by simpa using af
    refine go_sp [(9, .v (.bool (k == 3)))] hW ab fun aB ac => ?_
    clear ab
    refine cond_of ac (b := k == 3) kz (fun ag => ?_) (fun ag => ?_)
    ·
     have av : k = 3 := by simpa using ag
     refine go_sp [(2, .v (.int .i64 4))] hW ac fun aC ak => ?_
     clear ac
     refine wp_ret ?_
     refine block_ret ?_
     refine then_ret ?_
     refine leave ak hW.cells (v := .int .i64 4) kz ?_
     exact ⟨by simp_all [widthI], hW.step⟩
    ·
     have aw : k ≠ 3 := by simpa using ag
     refine wp_skip ?_
     refine block_normal ?_
     refine then_normal ?_
     refine go_sp [(2, .v (.int .i64 8))] hW ac fun aD al => ?_
     clear ac
     refine wp_ret ?_
     refine leave al hW.cells (v := .int .i64 8) kz ?_
     exact ⟨by simp_all [widthI], hW.step⟩
theorem sWhole (A : Option Addr) (c : Nat) (s : Bs) (hc : s.length ≤ c) (w : World) :
  Calls Tryz.prog 64 #[.slice A s.length c] w (Gives w (.slice A (whole s).length c)) := by
 refine enter (n := 8) Tryz.func64 rfl Tryz.ntmps64 kz fun a hE => ?_
 have hW := WOk.start w Nil
 refine go_sp [(0, .v (.slice A s.length c))] hW hE fun a1 hE2 => ?_
 clear hE
 refine go_seq_region [0, 1, 2, 3, 4, 5] kz ?_
 refine go_rn [0, 1, 2, 3] [4, 5] [(3, .v (.slice A s.length c)), (6, .v (.int .i64 (if 32767 < ((s.length : Nat) : Int) then 32767 else ((s.length : Nat) : Int))))] hW hE2 fun a3 hE4 => ?_
 clear hE2
 refine of_op (wpOp_cut_hi hE4 (t := 22) (A := A) (m := s.length) (cp := c) (q := (if 32767 < ((s.length : Nat) : Int) then 32767 else ((s.length : Nat) : Int))) (d := 7) (j := (whole s).length) kz (e := 5) (size := 1) (bytes := 1) kz (by simpa [whole] using min_lit s.length) (by simp only [whole, List.length_take]; omega) fun a5 hE6 => ?_)
 clear hE4
 refine go_rn [5] [] [(2, .v (.slice A ((whole s).length) c))] hW hE6 fun a7 hE8 => ?_
 clear hE6
 refine wpOps_nil (then_normal ?_)
 refine wp_ret ?_
 refine leave hE8 hW.cells (v := .slice A ((whole s).length) c) kz ?_
 exact ⟨rfl, hW.step⟩
theorem sThings (A : Option Addr) (c : Nat) (s : List Tree) (hc : s.length ≤ c) (w : World) :
  Calls Tryz.prog 131 #[.slice A s.length c] w (Gives w (.slice A (things s).length c)) := by
 refine enter (n := 8) Tryz.func131 rfl Tryz.ntmps131 kz fun a hE => ?_
 have hW := WOk.start w Nil
 refine go_sp [(0, .v (.slice A s.length c))] hW hE fun a1 hE2 => ?_
 clear hE
 refine go_seq_region [0, 1, 2, 3, 4, 5] kz ?_
 refine go_rn [0, 1, 2, 3] [4, 5] [(3, .v (.slice A s.length c)), (6, .v (.int .i64 (if 32767 < ((s.length : Nat) : Int) then 32767 else ((s.length : Nat) : Int))))] hW hE2 fun a3 hE4 => ?_
 clear hE2
 refine of_op (wpOp_cut_hi hE4 (t := 23) (A := A) (m := s.length) (cp := c) (q := (if 32767 < ((s.length : Nat) : Int) then 32767 else ((s.length : Nat) : Int))) (d := 7) (j := (things s).length) kz (e := 26) (size := 5) (bytes := 88) kz (by simpa [things] using min_lit s.length) (by simp only [things, List.length_take]; omega) fun a5 hE6 => ?_)
 clear hE4
 refine go_rn [5] [] [(2, .v (.slice A ((things s).length) c))] hW hE6 fun a7 hE8 => ?_
 clear hE6
 refine wpOps_nil (then_normal ?_)
 refine wp_ret ?_
 refine leave hE8 hW.cells (v := .slice A ((things s).length) c) kz ?_
 exact ⟨rfl, hW.step⟩
theorem sSame (A A' : Option Addr) (c c' : Nat) (s t : Bs) (w : World) (F : Nat → Nat → Prop) (hs : Octs w F A c s) (ht : Octs w F A' c' t) :
  Calls Tryz.prog 63 #[.slice A s.length c, .slice A' t.length c'] w (Gives w (.bool (decide (s = t)))) := by
 refine enter (n := 26) Tryz.func63 rfl Tryz.ntmps63 kz fun a hE => ?_
 have hW := WOk.start w Nil
 have hl := Slots.small hs
 refine go_sp [(0, .v (.slice A s.length c)), (1, .v (.slice A' t.length c'))] hW hE fun a1 hE2 => ?_
 clear hE
 refine wp_seq ?_
 refine go_sp [(0, .v (.slice A s.length c)), (1, .v (.slice A' t.length c')), (10, .v (.bool (((s.length : Nat) : Int) != ((t.length : Nat) : Int))))] hW hE2 fun a3 hE4 => ?_
 clear hE2
 refine cond_of hE4 (b := ((s.length : Nat) : Int) != ((t.length : Nat) : Int)) kz (fun hc5 => ?_) (fun hc5 => ?_)
 ·
  have hf6 : ((s.length : Nat) : Int) ≠ ((t.length : Nat) : Int) := by simpa using hc5
  refine go_sp [(4, .v (.bool false))] hW hE4 fun a7 hE8 => ?_
  clear hE4
  refine wp_ret ?_
  refine then_ret ?_
  refine leave hE8 hW.cells (v := .bool false) kz ?_
  exact ⟨by first | rw [← same_end hq (by omega) hlen] | rw [← same_el (by assumption)] | rw [← same_len (by assumption)], hW.step⟩
 ·
  have hf9 : ((s.length : Nat) : Int) = ((t.length : Nat) : Int) := by simpa using hc5
  refine wp_skip ?_
  refine then_normal ?_
  refine wp_seq ?_
  refine go_sp [(0, .v (.slice A s.length c)), (1, .v (.slice A' t.length c')), (12, .v (.int .i64 ((s.length : Nat) : Int))), (13, .v (.int .i64 0))] hW hE4 fun aP ah => ?_
  clear hE4
  refine wp_block ?_
  have hlen : s.length = t.length := by omega
  refine wp_loop_ghost (fun n_ a_ w_ => ∃ (k : Nat), n_ = s.length - k ∧ k ≤ s.length ∧ (s.take k = t.take k) ∧ LInv hW 26 [] [] [(0, .v (.slice A s.length c)), (1, .v (.slice A' t.length c')), (12, .v (.int .i64 ((s.length : Nat) : Int))), (13, .v (.int .i64 ((k : Nat) : Int)))] a_ w_) (s.length) ⟨0, by omega, by omega, rfl, ah.pk, hW, Fr.refl _ _ _⟩ ?_
  clear ah
  rintro aQ aR aS ⟨k, aD, aE, hq, ai, ab, aw⟩
  refine go_sp [(0, .v (.slice A s.length c)), (1, .v (.slice A' t.length c')), (12, .v (.int .i64 ((s.length : Nat) : Int))), (13, .v (.int .i64 ((k : Nat) : Int))), (14, .v (.bool (decide (((k : Nat) : Int) < ((s.length : Nat) : Int)))))] ab ai fun aT ac => ?_
  clear ai
  refine wp_seq ?_
  refine cond_of ac (b := decide (((k : Nat) : Int) < ((s.length : Nat) : Int))) kz (fun af => ?_) (fun af => ?_)
  ·
   have aF := of_decide_eq_true af
   refine wp_skip ?_
   refine then_normal ?_
   refine wp_seq ?_
   refine wp_block ?_
   refine go_sp [(0, .v (.slice A s.length c)), (1, .v (.slice A' t.length c')), (5, .v (.int .i64 ((k : Nat) : Int))), (12, .v (.int .i64 ((s.length : Nat) : Int))), (13, .v (.int .i64 ((k : Nat) : Int)))] ab ac fun aU aj => ?_
   clear ac
   refine go_seq_drawQ kz ab fun aV ax aa => ?_
   clear ab
   refine go_rnD [0, 1, 4, 5] [(0, .v (.slice A s.length c)), (1, .v (.slice A' t.length c')), (12, .v (.int .i64 ((s.length : Nat) : Int))), (13, .v (.int .i64 ((k : Nat) : Int))), (16, .v (.slice A s.length c)), (17, .v (.int .i64 ((k : Nat) : Int))), (20, .v (.slice A' t.length c')), (21, .v (.int .i64 ((k : Nat) : Int)))] 5 (panicFree_then (panicFree_block (panicFree_then (panicFree_then (panicFree_block (panicFree_then panicFree_body)))))) (fun _ h => h ▸ aa.cells) rfl aj fun aW ak => ?_
   clear aj
   obtain ⟨aG, aH, ay, aI, al⟩ := Slots.get hs (i := k) (by omega)
   refine takeC_index ak (i := 2) (t := 22) (A := A) (m := s.length) (q := ((k : Nat) : Int)) (d := 18) kz (e := 5) (size := 1) (bytes := 1) kz ay rfl (by omega) kz kz (panicFree_then (panicFree_block (panicFree_then (panicFree_then (panicFree_block (panicFree_then panicFree_body)))))) rfl fun aX am => ?_
   clear ak
   refine takeC_load am (i := 3) (t := 5) (b := aG) (o := aH + k * 1) (d := 19) kz (cs := [.int .u8 ((s.getD k 0).toNat : Int)]) (v := .int .u8 ((s.getD k 0).toNat : Int)) kz (fun w' h' => h' ▸ (AtF.move al aa.step nilM keepF).at_) kz kz (panicFree_then (panicFree_block (panicFree_then (panicFree_then (panicFree_block (panicFree_then panicFree_body)))))) rfl fun aY ao => ?_
   clear am
   obtain ⟨aJ, aK, az, aL, ap⟩ := Slots.get ht (i := k) (by omega)
   refine takeC_index ao (i := 6) (t := 22) (A := A') (m := t.length) (q := ((k : Nat) : Int)) (d := 22) kz (e := 5) (size := 1) (bytes := 1) kz az rfl (by omega) kz kz (panicFree_then (panicFree_block (panicFree_then (panicFree_then (panicFree_block (panicFree_then panicFree_body)))))) rfl fun aZ ar => ?_
   clear ao
   refine takeC_load ar (i := 7) (t := 5) (b := aJ) (o := aK + k * 1) (d := 23) kz (cs := [.int .u8 ((t.getD k 0).toNat : Int)]) (v := .int .u8 ((t.getD k 0).toNat : Int)) kz (fun w' h' => h' ▸ (AtF.move ap aa.step nilM keepF).at_) kz kz (panicFree_then (panicFree_block (panicFree_then (panicFree_then (panicFree_block (panicFree_then panicFree_body)))))) rfl fun ba au => ?_
   clear ar
   refine go_rnD [8] [(0, .v (.slice A s.length c)), (1, .v (.slice A' t.length c')), (12, .v (.int .i64 ((s.length : Nat) : Int))), (13, .v (.int .i64 ((k : Nat) : Int))), (24, .v (.bool (((s.getD k 0).toNat : Int) != ((t.getD k 0).toNat : Int))))] 0 (panicFree_then (panicFree_block (panicFree_then (panicFree_then (panicFree_block (panicFree_then panicFree_body)))))) (fun _ h => h ▸ aa.cells) rfl au fun bd ae => ?_
   clear au
   refine anyC_done kz ?_ _
   refine then_normal ?_
   refine cond_of ae (b := ((s.getD k 0).toNat : Int) != ((t.getD k 0).toNat : Int)) kz (fun ag => ?_) (fun ag => ?_)
   ·
    have aM : ((s.getD k 0).toNat : Int) ≠ ((t.getD k 0).toNat : Int) := by simpa using ag
    refine go_sp [(4, .v (.bool false))] aa ae fun bf aA => ?_
    clear ae
    refine wp_ret ?_
    refine block_ret ?_
    refine then_ret ?_
    refine then_ret ?_
    refine block_ret ?_
    refine then_ret ?_
    refine leave aA aa.cells (v := .bool false) kz ?_
    exact ⟨by first | rw [← same_end hq (by omega) hlen] | rw [← same_el (by assumption)] | rw [← same_len (by assumption)], aa.step⟩
   ·
    have aN : ((s.getD k 0).toNat : Int) = ((t.getD k 0).toNat : Int) := by simpa using ag
    refine wp_skip ?_
    refine block_normal ?_
    refine then_normal ?_
    refine go_region [0, 1] kz ?_
    refine go_rn [0, 1] [] [(0, .v (.slice A s.length c)), (1, .v (.slice A' t.length c')), (12, .v (.int .i64 ((s.length : Nat) : Int))), (13, .v (.int .i64 (IntKind.i64.wrap (((k : Nat) : Int) + 1))))] aa ae fun bg av => ?_
    clear ae
    refine wpOps_nil (then_normal ?_)
    have aB : IntKind.i64.wrap (((k : Nat) : Int) + 1) = ((k + 1 : Nat) : Int) := wrap_succ (by omega)
    rw [aB] at av
    exact ⟨s.length - (k + 1), by omega, k + 1, rfl, by omega, take_step hq (by omega) hlen (by assumption), av.pk, aa, (aw.trans ax)⟩
  ·
   have aO := of_decide_eq_false af
   refine wp_exit ?_
   refine then_exit ?_
   refine then_exit ?_
   refine block_exit ?_
   refine then_normal ?_
   refine go_sp [(4, .v (.bool true))] ab ac fun bh aC => ?_
   clear ac
   refine wp_ret ?_
   refine leave aC ab.cells (v := .bool true) kz ?_
   exact ⟨by first | rw [← same_end hq (by omega) hlen] | rw [← same_el (by assumption)] | rw [← same_len (by assumption)], ab.step⟩
theorem sAt (ct : List Value) (t : Tree) (i : Nat) (w : World) (F : Nat → Nat → Prop) (ht : TreeR w F ct t) :
  Calls Tryz.prog 57 #[.agg ct.toArray, .int .i64 (i : Int)] w (GivesO w F (t.at_ i)) := by
 obtain ⟨n1, s2, b3, l4, u5, A6, c7, A8, c9, aO, aP, aQ, rfl, rfl, aR, aJ, aS, bp⟩ := ht.open_
 have aK := aR.small
 have aL := aJ.small
 refine enter (n := 16) Tryz.func57 rfl Tryz.ntmps57 kz fun a hE => ?_
 have hW := WOk.start w Nil
 refine go_seq_region [0, 1] kz ?_
 refine of_op (wpOp_box hW hE (d := 2) (cs := [.int .i64 n1, .slice A6 s2.length c7, .bool b3, .slice A8 l4.length c9, .slice aO u5.length aP]) kz fun bq bt bu aT aU aV ah ai => ?_)
 clear hE hW
 refine of_op (wpOp_alloc ah ai (d := 4) (cs := [.int .i64 0, .slice none 0 0, .bool false, .slice none 0 0, .slice none 0 0]) kz fun bw bx bz aW aX aY aa aj => ?_)
 clear ai ah
 refine wpOps_nil (then_normal ?_)
 refine wp_seq ?_
 refine go_sp [(1, .v (.int .i64 ((i : Nat) : Int))), (2, .p 0 0), (4, .p 1 0), (9, .v (.bool (decide (((i : Nat) : Int) < ((l4.length : Nat) : Int)))))] aa aj fun bA ab => ?_
 clear aj
 refine cond_of ab (b := decide (((i : Nat) : Int) < ((l4.length : Nat) : Int))) kz (fun af => ?_) (fun af => ?_)
 ·
  have aZ := of_decide_eq_true af
  refine go_seq_region [0, 1, 2, 3, 4, 5] kz ?_
  refine go_rn [0, 1, 2] [3, 4, 5] [(4, .p 1 0), (11, .v (.slice A8 l4.length c9)), (12, .v (.int .i64 ((i : Nat) : Int)))] aa ab fun bB ak => ?_
  clear ab
  obtain ⟨ba, bd, aG, bf, ac⟩ := Slots.get aJ (i := i) (by omega)
  obtain ⟨bg, al⟩ : ∃ x, l4[i]? = some x := ⟨_, List.getElem?_eq_getElem (by omega)⟩
  have ag := aS i bg al
  obtain ⟨av, aw, ax, ay, az, aA, aB, aC, aD, aE, aF, bh, rfl, ae, bi, bj, bC, bD⟩ := ag.open_
  rw [ae] at ag
  have aM := bi.small
  have aN := bj.small
  rw [ae] at ac
  refine of_op (wpOp_index ak (t := 23) (A := A8) (m := l4.length) (q := ((i : Nat) : Int)) (d := 13) kz (e := 26) (size := 5) (bytes := 88) kz aG rfl (by omega) fun bE am => ?_)
  clear ak
  refine of_op (wpOp_load am (t := 26) (b := ba) (o := bd + i * 5) (d := 14) kz (cs := [.int .i64 av, .slice aA aw.length aB, .bool ax, .slice aC ay.length aD, .slice aE az.length aF]) (v := .agg #[.int .i64 av, .slice aA aw.length aB, .bool ax, .slice aC ay.length aD, .slice aE az.length aF]) kz (AtF.move ac aa.step nilM keepF).at_ fun bF ao => ?_)
  clear am
  refine of_op (wpOp_store aa ao (oi := 1) (cs := [.int .i64 av, .slice aA aw.length aB, .bool ax, .slice aC ay.length aD, .slice aE az.length aF]) kz fun bG bk ap aH => ?_)
  clear ao aa
  refine wpOps_nil (then_normal ?_)
  refine wp_ret ?_
  refine then_ret ?_
  refine leave aH ap.cells (v := .agg #[.int .i64 av, .slice aA aw.length aB, .bool ax, .slice aC ay.length aD, .slice aE az.length aF]) kz ?_
  exact ⟨_, rfl, by rw [at_some al]; exact ag, ap.step⟩
 ·
  have bn := of_decide_eq_false af
  refine wp_skip ?_
  refine then_normal ?_
  refine go_seq_region [0, 1] kz ?_
  refine go_rn [0] [1] [(4, .p 1 0), (15, .v (.agg #[.int .i64 0, .slice none 0 0, .bool false, .slice none 0 0, .slice none 0 0]))] aa ab fun bH ar => ?_
  clear ab
  refine of_op (wpOp_store aa ar (oi := 1) (cs := [.int .i64 0, .slice none 0 0, .bool false, .slice none 0 0, .slice none 0 0]) kz fun bI bo au aI => ?_)
  clear ar aa
  refine wpOps_nil (then_normal ?_)
  refine wp_ret ?_
  refine leave aI au.cells (v := .agg #[.int .i64 0, .slice none 0 0, .bool false, .slice none 0 0, .slice none 0 0]) kz ?_
  exact ⟨_, rfl, by rw [at_none (by omega)]; exact TreeR.zero _ _, au.step⟩
theorem sFixed (x : Int) (size : Nat) (hsz : size ≤ 8) (w : World) :
  Calls Tryz.prog 128 #[.int .i64 x, .int .i64 ((size : Nat) : Int)] w (FreshB w 5 (be size x)) := by
 refine enter (n := 22) Tryz.func128 rfl Tryz.ntmps128 kz fun a hE => ?_
 have hW := WOk.start w Nil
 refine go_sp [(0, .v (.int .i64 x)), (1, .v (.int .i64 ((size : Nat) : Int)))] hW hE fun a1 hE2 => ?_
 clear hE
 refine go_sp [(0, .v (.int .i64 x)), (1, .v (.int .i64 ((size : Nat) : Int))), (5, .v (.slice none 0 0))] hW hE2 fun a3 hE4 => ?_
 clear hE2
 refine wp_seq ?_
 refine go_sp [(0, .v (.int .i64 x)), (5, .v (.slice none 0 0)), (6, .v (.int .i64 (IntKind.i64.wrap (((size : Nat) : Int) - 1))))] hW hE4 fun a5 hE6 => ?_
 clear hE4
 refine wp_block ?_
 have hW7 := hW.addNil 5 1
 have hF8 := hW.frNil 5 1
 clear hW
 have aw : IntKind.i64.wrap (((size : Nat) : Int) - 1) = ((size : Nat) : Int) - 1 - ((0 : Nat) : Int) := by rw [wrap_i64 (by omega) (by omega)]; omega
 rw [aw] at hE6
 refine wp_loop_ghost (fun n_ a_ w_ => ∃ (k : Nat) (A : Option Addr) (c : Nat), n_ = size - k ∧ k ≤ size ∧ LInv hW7 22 [] [brow A c 5 ((be size x).take k)] [(0, .v (.int .i64 x)), (5, .v (.slice A (((be size x).take k).length) c)), (6, .v (.int .i64 (((size : Nat) : Int) - 1 - ((k : Nat) : Int))))] a_ w_) (size) ⟨0, none, 0, by omega, by omega, hE6.pk, hW7, Fr.refl _ _ _⟩ ?_
 clear hE6
 rintro n9 aK aL ⟨k, A, c, aG, aH, ai, aa, ax⟩
 refine wp_seq ?_
 refine go_sp [(0, .v (.int .i64 x)), (5, .v (.slice A (((be size x).take k).length) c)), (6, .v (.int .i64 (((size : Nat) : Int) - 1 - ((k : Nat) : Int)))), (10, .v (.bool (decide ((((size : Nat) : Int) - 1 - ((k : Nat) : Int)) ≥ 0))))] aa ai fun aM ab => ?_
 clear ai
 refine cond_of ab (b := decide ((((size : Nat) : Int) - 1 - ((k : Nat) : Int)) ≥ 0)) kz (fun ag => ?_) (fun ag => ?_)
 ·
  have aI := of_decide_eq_true ag
  refine wp_skip ?_
  refine then_normal ?_
  refine wp_seq ?_
  refine wp_block ?_
  refine go_region [0, 1, 2, 3, 4, 5, 6, 7, 8] kz ?_
  refine go_rn [0, 1, 2, 3] [4, 5, 6, 7, 8] [(0, .v (.int .i64 x)), (6, .v (.int .i64 (((size : Nat) : Int) - 1 - ((k : Nat) : Int)))), (13, .v (.slice A (((be size x).take k).length) c)), (14, .v (.int .i64 x)), (16, .v (.int .i64 (IntKind.i64.wrap (8 * (((size : Nat) : Int) - 1 - ((k : Nat) : Int))))))] aa ab fun aN aj => ?_
  clear ab
  refine of_op (wpOp_shr aj (k := .i64) (p := x) (q := (IntKind.i64.wrap (8 * (((size : Nat) : Int) - 1 - ((k : Nat) : Int))))) (d := 17) (j := 8 * (size - 1 - k)) kz (by rw [wrap_i64 (by omega) (by omega)]; omega) (by simp only [IntKind.bits]; omega) fun aO ak => ?_)
  clear aj
  refine go_rn [5] [6, 7, 8] [(0, .v (.int .i64 x)), (6, .v (.int .i64 (((size : Nat) : Int) - 1 - ((k : Nat) : Int)))), (13, .v (.slice A (((be size x).take k).length) c)), (18, .v (.int .u8 (IntKind.u8.wrap (x / 2 ^ (8 * (size - 1 - k))))))] aa ak fun aP al => ?_
  clear ak
  refine wpOps_push aa al (k := 0) (e := 5) (size := 1) (len := 1) (cs := [.int .u8 (IntKind.u8.wrap (x / 2 ^ (8 * (size - 1 - k))))]) (d1 := 19) (d := 20) kz (t := 22) (bytes := 1) kz (fun _ => by kernel_rfl) rfl kz (by first | (have := hroom; omega) | (simp; done) | (simp; omega)) fun ac ae aQ aR ay am ⟨_, ao⟩ => ?_
  clear al aa
  have az : (⟨ac, ae, 5, 1, ((be size x).take k).length + 1, bc ((be size x).take k) ++ [.int .u8 (IntKind.u8.wrap (x / 2 ^ (8 * (size - 1 - k))))]⟩ : Rw) = brow ac ae 5 ((be size x).take k ++ [by8 (x / 2 ^ (8 * (size - 1 - k)))]) := brow_eq (by simp only [bc, List.map, by8_wrap]; try rfl) rfl
  obtain ⟨af, aA⟩ := am.rowEq 0 [brow ac ae 5 ((be size x).take k ++ [by8 (x / 2 ^ (8 * (size - 1 - k)))])] az
  clear am
  have ap := EnvOk.pick ao (ks := [0, 6, 13, 18, 20]) (env' := [(0, .v (.int .i64 x)), (6, .v (.int .i64 (((size : Nat) : Int) - 1 - ((k : Nat) : Int)))), (13, .v (.slice A (((be size x).take k).length) c)), (18, .v (.int .u8 (IntKind.u8.wrap (x / 2 ^ (8 * (size - 1 - k)))))), (20, .v (.slice ac (((be size x).take k).length + 1) ae))]) kz
  have ar := ap.cast (env' := [(0, .v (.int .i64 x)), (6, .v (.int .i64 (((size : Nat) : Int) - 1 - ((k : Nat) : Int)))), (13, .v (.slice A (((be size x).take k).length) c)), (18, .v (.int .u8 (IntKind.u8.wrap (x / 2 ^ (8 * (size - 1 - k)))))), (20, .v (.slice ac (((be size x).take k ++ [by8 (x / 2 ^ (8 * (size - 1 - k)))]).length) ae))]) (by simp only [List.length_append, List.length_cons, List.length_nil, Nat.zero_add])
  clear ao
  clear ap
  refine go_rn [8] [] [(0, .v (.int .i64 x)), (5, .v (.slice ac (((be size x).take k ++ [by8 (x / 2 ^ (8 * (size - 1 - k)))]).length) ae)), (6, .v (.int .i64 (((size : Nat) : Int) - 1 - ((k : Nat) : Int))))] af ar fun aS au => ?_
  clear ar
  refine wpOps_nil ?_
  refine block_normal ?_
  refine then_normal ?_
  refine go_region [0, 1, 2] kz ?_
  refine go_rn [0, 1, 2] [] [(0, .v (.int .i64 x)), (5, .v (.slice ac (((be size x).take k ++ [by8 (x / 2 ^ (8 * (size - 1 - k)))]).length) ae)), (6, .v (.int .i64 (IntKind.i64.wrap ((((size : Nat) : Int) - 1 - ((k : Nat) : Int)) - 1))))] af au fun aT ah => ?_
  clear au
  refine wpOps_nil (then_normal ?_)
  have av : ((be size x).take k ++ [by8 (x / 2 ^ (8 * (size - 1 - k)))]) = ((be size x).take (k + 1)) := (be_take_succ (by omega)).symm
  have aB := congrArg (brow ac ae 5) av
  obtain ⟨aC, aD⟩ := af.rowEq 0 [brow ac ae 5 ((be size x).take (k + 1))] aB
  clear af
  rw [av] at ah
  have aE : IntKind.i64.wrap ((((size : Nat) : Int) - 1 - ((k : Nat) : Int)) - 1) = ((size : Nat) : Int) - 1 - (((k + 1) : Nat) : Int) := by rw [wrap_i64 (by omega) (by omega)]; omega
  rw [aE] at ah
  exact ⟨size - (k + 1), by omega, k + 1, ac, ae, rfl, by omega, ah.pk, aC, (((ax.trans ay).trans aA).trans aD)⟩
 ·
  have aJ := of_decide_eq_false ag
  refine wp_exit ?_
  refine then_exit ?_
  refine then_exit ?_
  refine block_exit ?_
  refine then_normal ?_
  refine go_sp [(4, .v (.slice A (((be size x).take k).length) c))] aa ab fun aU aF => ?_
  clear ab
  refine wp_ret ?_
  refine leave aF aa.cells (v := .slice A (((be size x).take k).length) c) kz ?_
  exact fresh_end aa (k := 0) rfl (List.take_of_length_le (by simp; omega))
theorem sUvarint (x : Nat) (hx : x < 18446744073709551616) (w : World) :
  Calls Tryz.prog 127 #[.int .u64 ((x : Nat) : Int)] w (FreshB w 5 (uv x)) := by
 refine enter (n := 20) Tryz.func127 rfl Tryz.ntmps127 kz fun a hE => ?_
 have hW := WOk.start w Nil
 refine go_sp [(0, .v (.int .u64 ((x : Nat) : Int)))] hW hE fun a1 hE2 => ?_
 clear hE
 refine go_sp [(0, .v (.int .u64 ((x : Nat) : Int))), (3, .v (.slice none 0 0))] hW hE2 fun a3 hE4 => ?_
 clear hE2
 refine wp_seq ?_
 refine wp_block ?_
 have hW5 := hW.addNil 5 1
 have hF6 := hW.frNil 5 1
 clear hW
 refine wp_loop_ghost (fun n_ a_ w_ => ∃ (A : Option Addr) (c : Nat) (pre : Bs) (m : Nat), n_ = m ∧ (pre ++ uv m = uv x) ∧ (m < 18446744073709551616) ∧ LInv hW5 20 [] [brow A c 5 pre] [(0, .v (.int .u64 ((m : Nat) : Int))), (3, .v (.slice A pre.length c))] a_ w_) (x) ⟨none, 0, [], x, rfl, rfl, hx, hE4.pk, hW5, Fr.refl _ _ _⟩ ?_
 clear hE4
 rintro n7 a8 w9 ⟨A, c, pre, m, aM, hp, hm, al, aa, aC⟩
 refine wp_seq ?_
 refine go_sp [(0, .v (.int .u64 ((m : Nat) : Int))), (3, .v (.slice A pre.length c)), (5, .v (.bool (decide (((m : Nat) : Int) > 127))))] aa al fun aR ab => ?_
 clear al
 refine cond_of ab (b := decide (((m : Nat) : Int) > 127)) kz (fun ag => ?_) (fun ag => ?_)
 ·
  have aN := of_decide_eq_true ag
  refine wp_skip ?_
  refine then_normal ?_
  refine wp_block ?_
  refine go_seq_region [0, 1, 2, 3, 4, 5, 6, 7] kz ?_
  refine go_rn [0, 1, 2, 3, 4] [5, 6, 7] [(0, .v (.int .u64 ((m : Nat) : Int))), (6, .v (.slice A pre.length c)), (10, .v (.int .u8 (IntKind.u8.wrap (BitVec.ofInt 8 (IntKind.u8.wrap (IntKind.u64.wrap (BitVec.ofInt 64 ((m : Nat) : Int) &&& BitVec.ofInt 64 127).toNat)) ||| BitVec.ofInt 8 128).toNat)))] aa ab fun aS am => ?_
  clear ab
  refine wpOps_push aa am (k := 0) (e := 5) (size := 1) (len := 1) (cs := [.int .u8 (IntKind.u8.wrap (BitVec.ofInt 8 (IntKind.u8.wrap (IntKind.u64.wrap (BitVec.ofInt 64 ((m : Nat) : Int) &&& BitVec.ofInt 64 127).toNat)) ||| BitVec.ofInt 8 128).toNat)]) (d1 := 11) (d := 12) kz (t := 22) (bytes := 1) kz (fun _ => by kernel_rfl) rfl kz (by have h1_ := uv_len10 x hx; rw [← hp, List.length_append] at h1_; omega) fun ac ae aT aU aD ao ⟨_, ap⟩ => ?_
  clear am aa
  have aE : (⟨ac, ae, 5, 1, pre.length + 1, bc pre ++ [.int .u8 (IntKind.u8.wrap (BitVec.ofInt 8 (IntKind.u8.wrap (IntKind.u64.wrap (BitVec.ofInt 64 ((m : Nat) : Int) &&& BitVec.ofInt 64 127).toNat)) ||| BitVec.ofInt 8 128).toNat)]⟩ : Rw) = brow ac ae 5 (pre ++ [by8 (BitVec.ofInt 8 (IntKind.u8.wrap (IntKind.u64.wrap (BitVec.ofInt 64 ((m : Nat) : Int) &&& BitVec.ofInt 64 127).toNat)) ||| BitVec.ofInt 8 128).toNat]) := brow_eq (by simp only [bc, List.map, by8_wrap]; try rfl) rfl
  obtain ⟨af, aF⟩ := ao.rowEq 0 [brow ac ae 5 (pre ++ [by8 (BitVec.ofInt 8 (IntKind.u8.wrap (IntKind.u64.wrap (BitVec.ofInt 64 ((m : Nat) : Int) &&& BitVec.ofInt 64 127).toNat)) ||| BitVec.ofInt 8 128).toNat])] aE
  clear ao
  have ar := EnvOk.pick ap (ks := [0, 6, 10, 12]) (env' := [(0, .v (.int .u64 ((m : Nat) : Int))), (6, .v (.slice A pre.length c)), (10, .v (.int .u8 (IntKind.u8.wrap (BitVec.ofInt 8 (IntKind.u8.wrap (IntKind.u64.wrap (BitVec.ofInt 64 ((m : Nat) : Int) &&& BitVec.ofInt 64 127).toNat)) ||| BitVec.ofInt 8 128).toNat))), (12, .v (.slice ac (pre.length + 1) ae))]) kz
  have au := ar.cast (env' := [(0, .v (.int .u64 ((m : Nat) : Int))), (6, .v (.slice A pre.length c)), (10, .v (.int .u8 (IntKind.u8.wrap (BitVec.ofInt 8 (IntKind.u8.wrap (IntKind.u64.wrap (BitVec.ofInt 64 ((m : Nat) : Int) &&& BitVec.ofInt 64 127).toNat)) ||| BitVec.ofInt 8 128).toNat))), (12, .v (.slice ac ((pre ++ [by8 (BitVec.ofInt 8 (IntKind.u8.wrap (IntKind.u64.wrap (BitVec.ofInt 64 ((m : Nat) : Int) &&& BitVec.ofInt 64 127).toNat)) ||| BitVec.ofInt 8 128).toNat]).length) ae))]) (by simp only [List.length_append, List.length_cons, List.length_nil, Nat.zero_add])
  clear ap
  clear ar
  refine go_rn [7] [] [(0, .v (.int .u64 ((m : Nat) : Int))), (3, .v (.slice ac ((pre ++ [by8 (BitVec.ofInt 8 (IntKind.u8.wrap (IntKind.u64.wrap (BitVec.ofInt 64 ((m : Nat) : Int) &&& BitVec.ofInt 64 127).toNat)) ||| BitVec.ofInt 8 128).toNat]).length) ae))] af au fun aV av => ?_
  clear au
  refine wpOps_nil (then_normal ?_)
  refine go_region [0, 1, 2] kz ?_
  refine go_rn [0, 1, 2] [] [(0, .v (.int .u64 (Int.fdiv ((m : Nat) : Int) 128))), (3, .v (.slice ac ((pre ++ [by8 (BitVec.ofInt 8 (IntKind.u8.wrap (IntKind.u64.wrap (BitVec.ofInt 64 ((m : Nat) : Int) &&& BitVec.ofInt 64 127).toNat)) ||| BitVec.ofInt 8 128).toNat]).length) ae))] af av fun aW ah => ?_
  clear av
  refine wpOps_nil ?_
  refine block_normal ?_
  refine then_normal ?_
  have aw : (pre ++ [by8 (BitVec.ofInt 8 (IntKind.u8.wrap (IntKind.u64.wrap (BitVec.ofInt 64 ((m : Nat) : Int) &&& BitVec.ofInt 64 127).toNat)) ||| BitVec.ofInt 8 128).toNat]) = (pre ++ [UInt8.ofNat (m % 128 + 128)]) := by rw [uv_oct64 m (by omega)]
  have aG := congrArg (brow ac ae 5) aw
  obtain ⟨aH, aI⟩ := af.rowEq 0 [brow ac ae 5 (pre ++ [UInt8.ofNat (m % 128 + 128)])] aG
  clear af
  rw [aw] at ah
  have aJ : Int.fdiv ((m : Nat) : Int) 128 = ((m / 128 : Nat) : Int) := fdiv128 m
  rw [aJ] at ah
  exact ⟨m / 128, by omega, ac, ae, pre ++ [UInt8.ofNat (m % 128 + 128)], m / 128, rfl, by rw [← hp, uv_big (show 128 ≤ m by omega)]; simp, by omega, ah.pk, aH, (((aC.trans aD).trans aF).trans aI)⟩
 ·
  have aO := of_decide_eq_false ag
  refine wp_exit ?_
  refine then_exit ?_
  refine then_exit ?_
  refine block_exit ?_
  refine then_normal ?_
  refine go_seq_region [0, 1, 2, 3, 4, 5] kz ?_
  refine go_rn [0, 1, 2] [3, 4, 5] [(15, .v (.slice A pre.length c)), (17, .v (.int .u8 (IntKind.u8.wrap ((m : Nat) : Int))))] aa ab fun aX ax => ?_
  clear ab
  refine wpOps_push aa ax (k := 0) (e := 5) (size := 1) (len := 1) (cs := [.int .u8 (IntKind.u8.wrap ((m : Nat) : Int))]) (d1 := 18) (d := 19) kz (t := 22) (bytes := 1) kz (fun _ => by kernel_rfl) rfl kz (by have h1_ := uv_len10 x hx; rw [← hp, List.length_append] at h1_; omega) fun ai aj aY aZ aP ay ⟨_, az⟩ => ?_
  clear ax aa
  have aK : (⟨ai, aj, 5, 1, pre.length + 1, bc pre ++ [.int .u8 (IntKind.u8.wrap ((m : Nat) : Int))]⟩ : Rw) = brow ai aj 5 (pre ++ [by8 ((m : Nat) : Int)]) := brow_eq (by simp only [bc, List.map, by8_wrap]; try rfl) rfl
  obtain ⟨ak, aQ⟩ := ay.rowEq 0 [brow ai aj 5 (pre ++ [by8 ((m : Nat) : Int)])] aK
  clear ay
  have aA := EnvOk.pick az (ks := [15, 17, 19]) (env' := [(15, .v (.slice A pre.length c)), (17, .v (.int .u8 (IntKind.u8.wrap ((m : Nat) : Int)))), (19, .v (.slice ai (pre.length + 1) aj))]) kz
  have aB := aA.cast (env' := [(15, .v (.slice A pre.length c)), (17, .v (.int .u8 (IntKind.u8.wrap ((m : Nat) : Int)))), (19, .v (.slice ai ((pre ++ [by8 ((m : Nat) : Int)]).length) aj))]) (by simp only [List.length_append, List.length_cons, List.length_nil, Nat.zero_add])
  clear az
  clear aA
  refine go_rn [5] [] [(2, .v (.slice ai ((pre ++ [by8 ((m : Nat) : Int)]).length) aj))] ak aB fun ba aL => ?_
  clear aB
  refine wpOps_nil (then_normal ?_)
  refine wp_ret ?_
  refine leave aL ak.cells (v := .slice ai ((pre ++ [by8 ((m : Nat) : Int)]).length) aj) kz ?_
  exact fresh_end ak (k := 0) rfl (by rw [← hp, uv_small (show m < 128 by omega), by8_nat])
theorem sCounted (flex null : Bool) (m sz : Nat) (hm : m ≤ 1099511627776) (hsz : sz ≤ 8) (w : World) :
  Calls Tryz.prog 186 #[.bool flex, .bool null, .int .i64 ((m : Nat) : Int), .int .i64 ((sz : Nat) : Int)] w (FreshB w 5 (countedB flex null m sz)) := by
 refine enter (n := 28) Tryz.func186 rfl Tryz.ntmps186 kz fun a hE => ?_
 have hW := WOk.start w Nil
 refine go_sp [(0, .v (.bool flex)), (1, .v (.bool null)), (2, .v (.int .i64 ((m : Nat) : Int))), (3, .v (.int .i64 ((sz : Nat) : Int)))] hW hE fun a1 hE2 => ?_
 clear hE
 refine wp_seq ?_
 refine wp_block ?_
 refine go_seq_region [0, 1, 2, 3, 4] kz ?_
 refine go_rn [0, 1] [2, 3, 4] [(0, .v (.bool flex)), (1, .v (.bool null)), (2, .v (.int .i64 ((m : Nat) : Int))), (3, .v (.int .i64 ((sz : Nat) : Int))), (11, .v (.bool flex))] hW hE2 fun a3 hE4 => ?_
 clear hE2
 refine (Bool.eq_false_or_eq_true (flex)).elim (fun hc5 => ?_) (fun hc5 => ?_)
 ·
  have hE7 := hE4.cast (env' := [(0, .v (.bool true)), (1, .v (.bool null)), (2, .v (.int .i64 ((m : Nat) : Int))), (3, .v (.int .i64 ((sz : Nat) : Int))), (11, .v (.bool true))]) (by rw [hc5])
  clear hE4
  refine go_rn [2, 3, 4] [] [(0, .v (.bool true)), (1, .v (.bool null)), (2, .v (.int .i64 ((m : Nat) : Int))), (3, .v (.int .i64 ((sz : Nat) : Int))), (9, .v (.bool null))] hW hE7 fun a8 hE9 => ?_
  clear hE7
  refine wpOps_nil (then_normal ?_)
  refine cond_of hE9 (b := null) kz (fun ab => ?_) (fun ab => ?_)
  ·
   refine go_seq_region [0, 1] kz ?_
   refine of_op (wpOp_lit hW hE9 (e := 5) (size := 1) (len := 1) (cs := [.int .u8 0]) (d := 14) kz kz fun ac bf bg aV aW aX am ao => ?_)
   clear hE9 hW
   have aD : (⟨some ⟨ac, 0, none⟩, 1, 5, 1, 1, [.int .u8 0]⟩ : Rw) = brow (some ⟨ac, 0, none⟩) 1 5 [by8 0] := by first | rfl | (simp only [brow, bc, List.map, by8_wrap]; try rfl)
   obtain ⟨ae, aY⟩ := am.rowEq 0 [brow (some ⟨ac, 0, none⟩) 1 5 [by8 0]] aD
   clear am
   have ap := EnvOk.pick ao (ks := [0, 1, 2, 3, 9, 14]) (env' := [(0, .v (.bool true)), (1, .v (.bool null)), (2, .v (.int .i64 ((m : Nat) : Int))), (3, .v (.int .i64 ((sz : Nat) : Int))), (9, .v (.bool null)), (14, .v (.slice (some ⟨ac, 0, none⟩) 1 1))]) kz
   have ar := ap.cast (env' := [(0, .v (.bool true)), (1, .v (.bool null)), (2, .v (.int .i64 ((m : Nat) : Int))), (3, .v (.int .i64 ((sz : Nat) : Int))), (9, .v (.bool null)), (14, .v (.slice (some ⟨ac, 0, none⟩) ([by8 0].length) 1))]) rfl
   clear ao ap
   refine go_rn [1] [] [(8, .v (.slice (some ⟨ac, 0, none⟩) ([by8 0].length) 1))] ae ar fun bh aE => ?_
   clear ar
   refine wpOps_nil (then_normal ?_)
   refine wp_ret ?_
   refine block_ret ?_
   refine then_ret ?_
   refine leave aE ae.cells (v := .slice (some ⟨ac, 0, none⟩) ([by8 0].length) 1) kz ?_
   exact fresh_end ae (k := 0) rfl (by simp [countedB, hc5, ab]; try rfl)
  ·
   refine go_sp [(1, .v (.bool null)), (2, .v (.int .i64 ((m : Nat) : Int))), (3, .v (.int .i64 ((sz : Nat) : Int))), (15, .v (.bool true))] hW hE9 fun bi af => ?_
   clear hE9
   refine cond_true af (b := true) kz rfl ?_
   refine go_seq_region [0, 1, 2, 3, 4] kz ?_
   refine go_rn [0, 1, 2] [3, 4] [(19, .v (.int .u64 (IntKind.u64.wrap ((IntKind.u64.wrap ((m : Nat) : Int)) + 1))))] hW af fun bj au => ?_
   clear af
   have aF : IntKind.u64.wrap ((IntKind.u64.wrap ((m : Nat) : Int)) + 1) = ((m + 1 : Nat) : Int) := by simp only [wrap_u64, wrap_u32, wrap_u16, IntKind.wrap_i64, IntKind.wrap_i32]; omega
   have av := EnvOk.pick au (ks := [19]) (env' := [(19, .v (.int .u64 (IntKind.u64.wrap ((IntKind.u64.wrap ((m : Nat) : Int)) + 1))))]) kz
   have aw := av.cast (env' := [(19, .v (.int .u64 ((m + 1 : Nat) : Int)))]) (by rw [aF])
   clear au av
   refine of_op (wpOp_call aw (f := 127) (vs := [.int .u64 ((m + 1 : Nat) : Int)]) (d := 20) kz Tryz.call127 (sUvarint (m + 1) (by omega) _) ?_)
   rintro e_ bk ⟨aG, aH, rfl, aI, aJ⟩
   refine ⟨_, rfl, fun bn ax => ?_⟩
   obtain ⟨ag, aZ⟩ := hW.frFresh aJ (brow aG aH 5 (uv (m + 1))) (Nat.le_refl _) aI
   clear aw hW
   refine go_rn [4] [] [(8, .v (.slice aG ((uv (m + 1)).length) aH))] ag ax fun bo aK => ?_
   clear ax
   refine wpOps_nil (then_normal ?_)
   refine wp_ret ?_
   refine block_ret ?_
   refine then_ret ?_
   refine leave aK ag.cells (v := .slice aG ((uv (m + 1)).length) aH) kz ?_
   exact fresh_end ag (k := 0) rfl (by simp [countedB, hc5, ab]; try rfl)
 ·
  have ay := hE4.cast (env' := [(0, .v (.bool false)), (1, .v (.bool null)), (2, .v (.int .i64 ((m : Nat) : Int))), (3, .v (.int .i64 ((sz : Nat) : Int))), (11, .v (.bool false))]) (by rw [hc5])
  clear hE4
  refine go_rn [2, 3, 4] [] [(0, .v (.bool false)), (1, .v (.bool null)), (2, .v (.int .i64 ((m : Nat) : Int))), (3, .v (.int .i64 ((sz : Nat) : Int))), (9, .v (.bool false))] hW ay fun bp ah => ?_
  clear ay
  refine wpOps_nil (then_normal ?_)
  refine cond_false ah (b := false) kz rfl ?_
  refine go_sp [(1, .v (.bool null)), (2, .v (.int .i64 ((m : Nat) : Int))), (3, .v (.int .i64 ((sz : Nat) : Int))), (15, .v (.bool false))] hW ah fun bq ai => ?_
  clear ah
  refine cond_false ai (b := false) kz rfl ?_
  refine go_sp [(2, .v (.int .i64 ((m : Nat) : Int))), (3, .v (.int .i64 ((sz : Nat) : Int))), (21, .v (.bool null))] hW ai fun bt aa => ?_
  clear ai
  refine cond_of aa (b := null) kz (fun aj => ?_) (fun aj => ?_)
  ·
   refine go_seq_region [0, 1, 2] kz ?_
   refine go_rn [0] [1, 2] [(23, .v (.int .i64 ((sz : Nat) : Int)))] hW aa fun bu az => ?_
   clear aa
   refine of_op (wpOp_call az (f := 128) (vs := [.int .i64 (-1), .int .i64 ((sz : Nat) : Int)]) (d := 24) kz Tryz.call128 (sFixed (-1) sz (by first | decide | exact widthI_le _ | omega) _) ?_)
   rintro e_ bw ⟨aL, aM, rfl, aN, aO⟩
   refine ⟨_, rfl, fun bx aA => ?_⟩
   obtain ⟨ak, ba⟩ := hW.frFresh aO (brow aL aM 5 (be sz (-1))) (Nat.le_refl _) aN
   clear az hW
   refine go_rn [2] [] [(8, .v (.slice aL ((be sz (-1)).length) aM))] ak aA fun bz aP => ?_
   clear aA
   refine wpOps_nil (then_normal ?_)
   refine wp_ret ?_
   refine block_ret ?_
   refine then_ret ?_
   refine leave aP ak.cells (v := .slice aL ((be sz (-1)).length) aM) kz ?_
   exact fresh_end ak (k := 0) rfl (by simp [countedB, hc5, aj]; try rfl)
  ·
   refine wp_skip ?_
   refine block_normal ?_
   refine then_normal ?_
   refine go_seq_region [0, 1, 2, 3] kz ?_
   refine go_rn [0, 1] [2, 3] [(25, .v (.int .i64 ((m : Nat) : Int))), (26, .v (.int .i64 ((sz : Nat) : Int)))] hW aa fun bA aB => ?_
   clear aa
   refine of_op (wpOp_call aB (f := 128) (vs := [.int .i64 ((m : Nat) : Int), .int .i64 ((sz : Nat) : Int)]) (d := 27) kz Tryz.call128 (sFixed ((m : Nat) : Int) sz (by first | decide | exact widthI_le _ | omega) _) ?_)
   rintro e_ bB ⟨aQ, aR, rfl, aS, aT⟩
   refine ⟨_, rfl, fun bC aC => ?_⟩
   obtain ⟨al, bd⟩ := hW.frFresh aT (brow aQ aR 5 (be sz ((m : Nat) : Int))) (Nat.le_refl _) aS
   clear aB hW
   refine go_rn [3] [] [(8, .v (.slice aQ ((be sz ((m : Nat) : Int)).length) aR))] al aC fun bD aU => ?_
   clear aC
   refine wpOps_nil (then_normal ?_)
   refine wp_ret ?_
   refine leave aU al.cells (v := .slice aQ ((be sz ((m : Nat) : Int)).length) aR) kz ?_
   exact fresh_end al (k := 0) rfl (by simp [countedB, hc5, aj]; try rfl)
theorem sKnown (A : Option Addr) (c : Nat) (l : List Fld) (w : World) (F : Nat → Nat → Prop) (hl : FldsR w F A c l) :
  Calls Tryz.prog 126 #[.slice A l.length c] w (Gives w (.int .u32 (knownI l))) := by
 obtain ⟨xfs, h1, h2⟩ := hl.ex
 have hsm := h1.small
 refine enter (n := 23) Tryz.func126 rfl Tryz.ntmps126 kz fun a hE => ?_
 have hW := WOk.start w Nil
 refine go_sp [(0, .v (.slice A l.length c))] hW hE fun a1 hE2 => ?_
 clear hE
 refine go_sp [(0, .v (.slice A l.length c)), (3, .v (.int .u32 0))] hW hE2 fun a3 hE4 => ?_
 clear hE2
 refine wp_seq ?_
 refine go_sp [(3, .v (.int .u32 0)), (6, .v (.slice A l.length c)), (7, .v (.int .i64 ((l.length : Nat) : Int))), (8, .v (.int .i64 0))] hW hE4 fun a5 hE6 => ?_
 clear hE4
 refine wp_block ?_
 refine wp_loop_ghost (fun n_ a_ w_ => ∃ (k : Nat), n_ = l.length - k ∧ k ≤ l.length ∧ LInv hW 23 [] [] [(3, .v (.int .u32 (knownI (l.take k)))), (6, .v (.slice A l.length c)), (7, .v (.int .i64 ((l.length : Nat) : Int))), (8, .v (.int .i64 ((k : Nat) : Int)))] a_ w_) (l.length) ⟨0, by omega, by omega, hE6.pk, hW, Fr.refl _ _ _⟩ ?_
 clear hE6
 rintro n7 a8 w9 ⟨k, ba, bd, ao, aa, ap⟩
 refine go_sp [(3, .v (.int .u32 (knownI (l.take k)))), (6, .v (.slice A l.length c)), (7, .v (.int .i64 ((l.length : Nat) : Int))), (8, .v (.int .i64 ((k : Nat) : Int))), (9, .v (.bool (decide (((k : Nat) : Int) < ((l.length : Nat) : Int)))))] aa ao fun bt ae => ?_
 clear ao
 refine wp_seq ?_
 refine cond_of ae (b := decide (((k : Nat) : Int) < ((l.length : Nat) : Int))) kz (fun ai => ?_) (fun ai => ?_)
 ·
  have bf := of_decide_eq_true ai
  refine wp_skip ?_
  refine then_normal ?_
  refine wp_seq ?_
  refine wp_block ?_
  refine go_seq_region [0, 1, 2, 3] kz ?_
  obtain ⟨bg, bh, aC, bi, ag⟩ := Slots.get h1 (i := k) (by omega)
  obtain ⟨bj, aj⟩ : ∃ x, l[k]? = some x := ⟨_, List.getElem?_eq_getElem (by omega)⟩
  have ar := h2 k bj aj
  obtain ⟨aD, aE, aF, aG, ab, aH, aI, aJ, aK, aL, bk, rfl, ah, bn, bu⟩ := ar.open_
  rw [ah] at ar
  have aZ := bn.small
  rw [ah] at ag
  refine of_op (wpOp_index ae (t := 29) (A := A) (m := l.length) (q := ((k : Nat) : Int)) (d := 10) kz (e := 52) (size := 8) (bytes := 80) kz aC rfl (by omega) fun bw au => ?_)
  clear ae
  refine of_op (wpOp_load au (t := 52) (b := bg) (o := bh + k * 8) (d := 11) kz (cs := [.int .i64 aD, .int .i64 aE, .int .i64 aF, .int .i64 aG, .int .i64 ab, .int .i64 aH, .int .i64 aI, .slice aK aJ.length aL]) (v := .agg #[.int .i64 aD, .int .i64 aE, .int .i64 aF, .int .i64 aG, .int .i64 ab, .int .i64 aH, .int .i64 aI, .slice aK aJ.length aL]) kz (AtF.move ag aa.step nilM keepF).at_ fun bx av => ?_)
  clear au
  refine of_op (wpOp_alloc aa av (d := 5) (cs := [.int .i64 0, .int .i64 0, .int .i64 0, .int .i64 0, .int .i64 0, .int .i64 0, .int .i64 0, .slice none 0 0]) kz fun bz bA bB bo bp aw ax ay => ?_)
  clear av aa
  refine of_op (wpOp_store ax ay (oi := 0) (cs := [.int .i64 aD, .int .i64 aE, .int .i64 aF, .int .i64 aG, .int .i64 ab, .int .i64 aH, .int .i64 aI, .slice aK aJ.length aL]) kz fun bC az ac aA => ?_)
  clear ay ax
  refine wpOps_nil (then_normal ?_)
  refine go_sp [(3, .v (.int .u32 (knownI (l.take k)))), (5, .p 0 0), (6, .v (.slice A l.length c)), (7, .v (.int .i64 ((l.length : Nat) : Int))), (8, .v (.int .i64 ((k : Nat) : Int))), (14, .v (.bool (decide (ab ≥ 0))))] ac aA fun bD af => ?_
  clear aA
  refine cond_of af (b := decide (ab ≥ 0)) kz (fun ak => ?_) (fun ak => ?_)
  ·
   have aM := of_decide_eq_true ak
   refine go_region [0, 1, 2, 3, 4, 5, 6] kz ?_
   refine go_rn [0, 1, 2, 3, 4, 5, 6] [] [(3, .v (.int .u32 (if IntKind.u32.wrap ((IntKind.u32.wrap ab) + 1) > knownI (l.take k) then IntKind.u32.wrap ((IntKind.u32.wrap ab) + 1) else knownI (l.take k)))), (6, .v (.slice A l.length c)), (7, .v (.int .i64 ((l.length : Nat) : Int))), (8, .v (.int .i64 ((k : Nat) : Int)))] ac af fun bE aB => ?_
   clear af
   refine wpOps_nil ?_
   refine block_normal ?_
   refine then_normal ?_
   refine go_region [0, 1] kz ?_
   refine go_rn [0, 1] [] [(3, .v (.int .u32 (if IntKind.u32.wrap ((IntKind.u32.wrap ab) + 1) > knownI (l.take k) then IntKind.u32.wrap ((IntKind.u32.wrap ab) + 1) else knownI (l.take k)))), (6, .v (.slice A l.length c)), (7, .v (.int .i64 ((l.length : Nat) : Int))), (8, .v (.int .i64 (IntKind.i64.wrap (((k : Nat) : Int) + 1))))] ac aB fun bF aN => ?_
   clear aB
   refine wpOps_nil (then_normal ?_)
   obtain ⟨al, aO, aP⟩ := ac.cutB aN 0 [] [(3, .v (.int .u32 (if IntKind.u32.wrap ((IntKind.u32.wrap ab) + 1) > knownI (l.take k) then IntKind.u32.wrap ((IntKind.u32.wrap ab) + 1) else knownI (l.take k)))), (6, .v (.slice A l.length c)), (7, .v (.int .i64 ((l.length : Nat) : Int))), (8, .v (.int .i64 (IntKind.i64.wrap (((k : Nat) : Int) + 1))))]
   have aQ : IntKind.i64.wrap (((k : Nat) : Int) + 1) = ((k + 1 : Nat) : Int) := wrap_succ (by omega)
   rw [aQ] at al
   have aR : (if IntKind.u32.wrap ((IntKind.u32.wrap ab) + 1) > knownI (l.take k) then IntKind.u32.wrap ((IntKind.u32.wrap ab) + 1) else knownI (l.take k)) = knownI (l.take (k + 1)) := known_pos aj aM
   rw [aR] at al
   exact ⟨l.length - (k + 1), by omega, k + 1, rfl, by omega, al.pk, aO, (((ap.trans aw).trans az).trans aP)⟩
  ·
   have aS := of_decide_eq_false ak
   refine wp_skip ?_
   refine block_normal ?_
   refine then_normal ?_
   refine go_region [0, 1] kz ?_
   refine go_rn [0, 1] [] [(3, .v (.int .u32 (knownI (l.take k)))), (6, .v (.slice A l.length c)), (7, .v (.int .i64 ((l.length : Nat) : Int))), (8, .v (.int .i64 (IntKind.i64.wrap (((k : Nat) : Int) + 1))))] ac af fun bG aT => ?_
   clear af
   refine wpOps_nil (then_normal ?_)
   obtain ⟨am, aU, aV⟩ := ac.cutB aT 0 [] [(3, .v (.int .u32 (knownI (l.take k)))), (6, .v (.slice A l.length c)), (7, .v (.int .i64 ((l.length : Nat) : Int))), (8, .v (.int .i64 (IntKind.i64.wrap (((k : Nat) : Int) + 1))))]
   have aW : IntKind.i64.wrap (((k : Nat) : Int) + 1) = ((k + 1 : Nat) : Int) := wrap_succ (by omega)
   rw [aW] at am
   have aX : knownI (l.take k) = knownI (l.take (k + 1)) := known_neg aj aS
   rw [aX] at am
   exact ⟨l.length - (k + 1), by omega, k + 1, rfl, by omega, am.pk, aU, (((ap.trans aw).trans az).trans aV)⟩
 ·
  have bq := of_decide_eq_false ai
  refine wp_exit ?_
  refine then_exit ?_
  refine then_exit ?_
  refine block_exit ?_
  refine then_normal ?_
  refine go_sp [(2, .v (.int .u32 (knownI (l.take k))))] aa ae fun bH aY => ?_
  clear ae
  refine wp_ret ?_
  refine leave aY aa.cells (v := .int .u32 (knownI (l.take k))) kz ?_
  exact ⟨by rw [List.take_of_length_le (by omega)], aa.step⟩
def PartOK (d : Nat) : Prop := ∀ (A : Option Addr) (c : Nat) (l : List Fld) (v : Int) (flex : Bool) (ct : List Value) (t : Tree) (w : World) (F : Nat → Nat → Prop), FldsR w F A c l → depths l ≤ d → TreeR w F ct t → (partB d l v flex t).length ≤ 1099511627776 →
  Calls Tryz.prog 56 #[.slice A l.length c, .int .i64 v, .bool flex, .agg ct.toArray] w (FreshB w 5 (partB d l v flex t))
theorem sValue {d : Nat} (hp : PartOK d) (kind : Int) (A : Option Addr) (c : Nat) (l : List Fld) (null : Bool) (v : Int) (flex : Bool) (ct : List Value) (t : Tree) (w : World) (F : Nat → Nat → Prop) (hl : FldsR w F A c l) (hd : depths l ≤ d) (ht : TreeR w F ct t) (hroom : (valueB (partB d l v flex) kind null flex t).length ≤ 1099511627776) :
  Calls Tryz.prog 187 #[.int .i64 kind, .slice A l.length c, .bool null, .int .i64 v, .bool flex, .agg ct.toArray] w (FreshB w 5 (valueB (partB d l v flex) kind null flex t)) := by
 obtain ⟨n1, s2, b3, l4, u5, A6, c7, A8, c9, dD, dE, d9, rfl, rfl, bg, ea, fA, fB⟩ := ht.open_
 have dM := bg.small
 have dN := ea.small
 have hl0 := hl
 obtain ⟨xfs, h1, h2⟩ := hl.ex
 have hsm := h1.small
 refine enter (n := 70) Tryz.func187 rfl Tryz.ntmps187 kz fun a hE => ?_
 have hW := WOk.start w Nil
 refine go_seq_region [0, 1] kz ?_
 refine of_op (wpOp_box hW hE (d := 11) (cs := [.int .i64 n1, .slice A6 s2.length c7, .bool b3, .slice A8 l4.length c9, .slice dD u5.length dE]) kz fun fC fD fE eb ec ee aa cE => ?_)
 clear hE hW
 refine go_rn [1] [] [(0, .v (.int .i64 kind)), (1, .v (.slice A l.length c)), (2, .v (.bool null)), (3, .v (.int .i64 v)), (4, .v (.bool flex)), (11, .p 0 0)] aa cE fun fF cG => ?_
 clear cE
 refine wpOps_nil (then_normal ?_)
 refine wp_seq ?_
 refine go_sp [(0, .v (.int .i64 kind)), (1, .v (.slice A l.length c)), (2, .v (.bool null)), (3, .v (.int .i64 v)), (4, .v (.bool flex)), (11, .p 0 0), (16, .v (.int .i64 kind))] aa cG fun fG cH => ?_
 clear cG
 refine wp_block ?_
 refine go_sp [(0, .v (.int .i64 kind)), (1, .v (.slice A l.length c)), (2, .v (.bool null)), (3, .v (.int .i64 v)), (4, .v (.bool flex)), (11, .p 0 0), (16, .v (.int .i64 kind)), (17, .v (.bool (kind == 0)))] aa cH fun fH aH => ?_
 clear cH
 refine cond_of aH (b := kind == 0) kz (fun ae => ?_) (fun ae => ?_)
 ·
  have dF : kind = 0 := by simpa using ae
  refine go_seq_region [0, 1, 2, 3, 4, 5] kz ?_
  refine go_rn [0, 1, 2, 3] [4, 5] [(22, .v (.int .u8 (IntKind.u8.wrap (IntKind.i64.wrap (BitVec.ofInt 64 n1 &&& BitVec.ofInt 64 1).toNat))))] aa aH fun fI cI => ?_
  clear aH
  refine of_op (wpOp_lit aa cI (e := 5) (size := 1) (len := 1) (cs := [.int .u8 (IntKind.u8.wrap (IntKind.i64.wrap (BitVec.ofInt 64 n1 &&& BitVec.ofInt 64 1).toNat))]) (d := 23) kz kz fun cu fJ fK ef eg eh cJ cK => ?_)
  clear cI aa
  have dG : (⟨some ⟨cu, 0, none⟩, 1, 5, 1, 1, [.int .u8 (IntKind.u8.wrap (IntKind.i64.wrap (BitVec.ofInt 64 n1 &&& BitVec.ofInt 64 1).toNat))]⟩ : Rw) = brow (some ⟨cu, 0, none⟩) 1 5 [by8 (IntKind.i64.wrap (BitVec.ofInt 64 n1 &&& BitVec.ofInt 64 1).toNat)] := by first | rfl | (simp only [brow, bc, List.map, by8_wrap]; try rfl)
  obtain ⟨cw, ei⟩ := cJ.rowEq 0 [brow (some ⟨cu, 0, none⟩) 1 5 [by8 (IntKind.i64.wrap (BitVec.ofInt 64 n1 &&& BitVec.ofInt 64 1).toNat)]] dG
  clear cJ
  have cL := EnvOk.pick cK (ks := [22, 23]) (env' := [(22, .v (.int .u8 (IntKind.u8.wrap (IntKind.i64.wrap (BitVec.ofInt 64 n1 &&& BitVec.ofInt 64 1).toNat)))), (23, .v (.slice (some ⟨cu, 0, none⟩) 1 1))]) kz
  have cM := cL.cast (env' := [(22, .v (.int .u8 (IntKind.u8.wrap (IntKind.i64.wrap (BitVec.ofInt 64 n1 &&& BitVec.ofInt 64 1).toNat)))), (23, .v (.slice (some ⟨cu, 0, none⟩) ([by8 (IntKind.i64.wrap (BitVec.ofInt 64 n1 &&& BitVec.ofInt 64 1).toNat)].length) 1))]) rfl
  clear cK cL
  refine go_rn [5] [] [(12, .v (.slice (some ⟨cu, 0, none⟩) ([by8 (IntKind.i64.wrap (BitVec.ofInt 64 n1 &&& BitVec.ofInt 64 1).toNat)].length) 1))] cw cM fun fL dH => ?_
  clear cM
  refine wpOps_nil (then_normal ?_)
  refine wp_ret ?_
  refine block_ret ?_
  refine then_ret ?_
  refine leave dH cw.cells (v := .slice (some ⟨cu, 0, none⟩) ([by8 (IntKind.i64.wrap (BitVec.ofInt 64 n1 &&& BitVec.ofInt 64 1).toNat)].length) 1) kz ?_
  exact fresh_end cw (k := 0) rfl (by (try simp only [and1]); simp [valueB, Tree.S, Tree.N, dF, ae])
 ·
  have al : kind ≠ 0 := by simpa using ae
  refine go_sp [(0, .v (.int .i64 kind)), (1, .v (.slice A l.length c)), (2, .v (.bool null)), (3, .v (.int .i64 v)), (4, .v (.bool flex)), (11, .p 0 0), (16, .v (.int .i64 kind)), (24, .v (.bool (kind == 7)))] aa aH fun fM aI => ?_
  clear aH
  refine cond_of aI (b := kind == 7) kz (fun af => ?_) (fun af => ?_)
  ·
   have dI : kind = 7 := by simpa using af
   refine go_seq_region [0, 1] kz ?_
   refine of_op (wpOp_make1 aa aI (d := 26) (j := 16) (t := 22) (e := 5) (bytes := 1) (z := .int .u8 0) kz kz kz kz (rfl) (rfl) (by omega) fun aF fN fO ej ek em aG cN => ?_)
   clear aI aa
   refine go_rn [1] [] [(11, .p 0 0), (13, .v (.slice (some ⟨aF, 0, none⟩) 16 16))] aG cN fun fP cO => ?_
   clear cN
   refine wpOps_nil (then_normal ?_)
   refine go_seq_region [0, 1, 2, 3] kz ?_
   refine go_rn [0, 1, 2] [3] [(13, .v (.slice (some ⟨aF, 0, none⟩) 16 16)), (27, .v (.slice (some ⟨aF, 0, none⟩) 16 16)), (29, .v (.slice A6 s2.length c7))] aG cO fun fQ cP => ?_
   clear cO
   refine of_op (wpOp_copyR aG cP (k := 0) (d := 30) (t := 22) (u := 22) (e := 5) (bytes := 1) (A := (some ⟨aF, 0, none⟩)) (As := A6) (m := s2.length) (cs := c7) (m0 := 16) (c := 16) (xs := (List.replicate 16 (.int .u8 0))) (news := bc s2) kz kz rfl (bg.move aG.step nilM aG.imm).src fun fR fS eo cQ cR => ?_)
   clear cP aG
   have dJ : (⟨(some ⟨aF, 0, none⟩), 16, 5, 1, 16, splice (List.replicate 16 (.int .u8 0)) 0 ((bc s2).take (min s2.length 16))⟩ : Rw) = brow (some ⟨aF, 0, none⟩) 16 5 (uuidB s2) := uuid_row _ _ _
   obtain ⟨cz, ep⟩ := cQ.rowEq 0 [brow (some ⟨aF, 0, none⟩) 16 5 (uuidB s2)] dJ
   clear cQ
   have cS := EnvOk.pick cR (ks := [13, 27, 29, 30]) (env' := [(13, .v (.slice (some ⟨aF, 0, none⟩) 16 16)), (27, .v (.slice (some ⟨aF, 0, none⟩) 16 16)), (29, .v (.slice A6 s2.length c7)), (30, .v (.int .i64 ((min s2.length 16 : Nat) : Int)))]) kz
   have cT := cS.cast (env' := [(13, .v (.slice (some ⟨aF, 0, none⟩) ((uuidB s2).length) 16)), (27, .v (.slice (some ⟨aF, 0, none⟩) ((uuidB s2).length) 16)), (29, .v (.slice A6 s2.length c7)), (30, .v (.int .i64 ((min s2.length 16 : Nat) : Int)))]) (by rw [uuidB_length _])
   clear cR cS
   refine wpOps_nil (then_normal ?_)
   refine go_sp [(12, .v (.slice (some ⟨aF, 0, none⟩) ((uuidB s2).length) 16))] cz cT fun fT dK => ?_
   clear cT
   refine wp_ret ?_
   refine block_ret ?_
   refine then_ret ?_
   refine leave dK cz.cells (v := .slice (some ⟨aF, 0, none⟩) ((uuidB s2).length) 16) kz ?_
   exact fresh_end cz (k := 0) rfl (by (try simp only [and1]); simp [valueB, Tree.S, Tree.N, al, dI, ae, af])
  ·
   have av : kind ≠ 7 := by simpa using af
   refine go_sp [(0, .v (.int .i64 kind)), (1, .v (.slice A l.length c)), (2, .v (.bool null)), (3, .v (.int .i64 v)), (4, .v (.bool flex)), (11, .p 0 0), (16, .v (.int .i64 kind)), (32, .v (.bool (kind == 8)))] aa aI fun fU aJ => ?_
   clear aI
   refine cond_of aJ (b := kind == 8) kz (fun ai => ?_) (fun ai => ?_)
   ·
    have cU : kind = 8 := by simpa using ai
    refine go_seq_region [0, 1, 2, 3] kz ?_
    refine go_rn [0, 1] [2, 3] [(2, .v (.bool null)), (4, .v (.bool flex)), (35, .v (.slice A6 s2.length c7))] aa aJ fun fV cV => ?_
    clear aJ
    have dO := whole_le s2
    refine of_op (wpOp_call cV (f := 64) (vs := [.slice A6 s2.length c7]) (d := 36) kz Tryz.call64 (sWhole _ _ s2 (bg.move aa.step nilM aa.imm).le _) ?_)
    rintro e_ fW ⟨rfl, cW⟩
    refine ⟨_, rfl, fun fX cX => ?_⟩
    have ak := aa.next_nil cW
    have eu := aa.frN cW
    clear cV aa
    refine go_rn [3] [] [(2, .v (.bool null)), (4, .v (.bool flex)), (14, .v (.slice A6 ((whole s2).length) c7))] ak cX fun fY bh => ?_
    clear cX
    refine wpOps_nil (then_normal ?_)
    refine wp_seq ?_
    refine go_sp [(2, .v (.bool null)), (4, .v (.bool flex)), (14, .v (.slice A6 ((whole s2).length) c7)), (37, .v (.bool null))] ak bh fun ev am => ?_
    clear bh
    refine cond_of am (b := null) kz (fun aK => ?_) (fun aK => ?_)
    ·
     refine go_region [0] kz ?_
     refine go_rn [0] [] [(2, .v (.bool null)), (4, .v (.bool flex)), (14, .v (.slice none 0 0))] ak am fun ew bi => ?_
     clear am
     refine wpOps_nil (then_normal ?_)
     refine go_seq_region [0, 1, 2, 3, 4, 5, 6, 7] kz ?_
     refine go_rn [0, 1, 2, 3] [4, 5, 6, 7] [(14, .v (.slice none 0 0)), (38, .v (.bool flex)), (39, .v (.bool null)), (41, .v (.int .i64 0))] ak bi fun ey bj => ?_
     clear bi
     refine of_op (wpOp_call bj (f := 186) (vs := [.bool flex, .bool null, .int .i64 0, .int .i64 2]) (d := 42) kz Tryz.call186 (sCounted flex null 0 2 (by first | omega | exact Nat.le_trans (whole_le _) (by decide) | exact Nat.le_trans (things_le _) (by decide) | (simp; done) | (have := hroom; omega)) (by first | decide | omega) _) ?_)
     rintro e_ ez ⟨aL, aM, rfl, cY, cZ⟩
     refine ⟨_, rfl, fun eB bk => ?_⟩
     obtain ⟨aN, dP⟩ := ak.frFresh cZ (brow aL aM 5 (countedB flex null 0 2)) (Nat.le_refl _) cY
     clear bj ak
     refine go_rn [5] [6, 7] [(42, .v (.slice aL ((countedB flex null 0 2).length) aM)), (43, .v (.slice none 0 0))] aN bk fun eC bn => ?_
     clear bk
     refine of_op (wpOp_append aN bn (k := 0) (d := 44) (t := 22) (e := 5) (size := 1) (bytes := 1) (A := aL) (As := none) (m0 := ((countedB flex null 0 2).length)) (c := aM) (m := 0) (cs := 0) (xs := (bc (countedB flex null 0 2))) (news := bc ([] : Bs)) kz kz rfl (Octs.nil _ (fun _ _ => True)).src (fun _ => rfl) (by first | exact cw_room (by omega) (by decide) (by omega) | exact cw_room (Nat.le_trans (whole_le _) (by decide)) (by decide) (Nat.le_trans (whole_le _) (by decide)) | (simp; done)) fun aw ax eD eE dQ bo bp => ?_)
     clear bn aN
     have c5 : (⟨aw, ax, 5, 1, (countedB flex null 0 2).length + 0, bc (countedB flex null 0 2) ++ bc ([] : Bs)⟩ : Rw) = brow aw ax 5 (countedB flex null 0 2 ++ ([] : Bs)) := brow_eq (rfl) rfl
     obtain ⟨aO, dR⟩ := bo.rowEq 0 [brow aw ax 5 (countedB flex null 0 2 ++ ([] : Bs))] c5
     clear bo
     have bq := EnvOk.pick bp (ks := [42, 43, 44]) (env' := [(42, .v (.slice aL ((countedB flex null 0 2).length) aM)), (43, .v (.slice none 0 0)), (44, .v (.slice aw ((countedB flex null 0 2).length + 0) ax))]) kz
     have bt := bq.cast (env' := [(42, .v (.slice aL ((countedB flex null 0 2).length) aM)), (43, .v (.slice none 0 0)), (44, .v (.slice aw ((countedB flex null 0 2 ++ ([] : Bs)).length) ax))]) (by simp only [List.length_append, List.length_cons, List.length_nil, Nat.zero_add])
     clear bp
     clear bq
     refine go_rn [7] [] [(12, .v (.slice aw ((countedB flex null 0 2 ++ ([] : Bs)).length) ax))] aO bt fun eF c6 => ?_
     clear bt
     refine wpOps_nil (then_normal ?_)
     refine wp_ret ?_
     refine block_ret ?_
     refine then_ret ?_
     refine leave c6 aO.cells (v := .slice aw ((countedB flex null 0 2 ++ ([] : Bs)).length) ax) kz ?_
     exact fresh_end aO (k := 0) rfl (by (try simp only [and1]); simp [valueB, Tree.S, Tree.N, al, av, cU, ae, af, ai, aK])
    ·
     refine wp_skip ?_
     refine then_normal ?_
     refine go_seq_region [0, 1, 2, 3, 4, 5, 6, 7] kz ?_
     refine go_rn [0, 1, 2, 3] [4, 5, 6, 7] [(14, .v (.slice A6 ((whole s2).length) c7)), (38, .v (.bool flex)), (39, .v (.bool null)), (41, .v (.int .i64 (((whole s2).length : Nat) : Int)))] ak am fun eG bu => ?_
     clear am
     refine of_op (wpOp_call bu (f := 186) (vs := [.bool flex, .bool null, .int .i64 (((whole s2).length : Nat) : Int), .int .i64 2]) (d := 42) kz Tryz.call186 (sCounted flex null ((whole s2).length) 2 (by first | omega | exact Nat.le_trans (whole_le _) (by decide) | exact Nat.le_trans (things_le _) (by decide) | (simp; done) | (have := hroom; omega)) (by first | decide | omega) _) ?_)
     rintro e_ eH ⟨aP, aQ, rfl, da, db⟩
     refine ⟨_, rfl, fun eI bw => ?_⟩
     obtain ⟨ag, dS⟩ := ak.frFresh db (brow aP aQ 5 (countedB flex null ((whole s2).length) 2)) (Nat.le_refl _) da
     clear bu ak
     refine go_rn [5] [6, 7] [(42, .v (.slice aP ((countedB flex null ((whole s2).length) 2).length) aQ)), (43, .v (.slice A6 ((whole s2).length) c7))] ag bw fun eJ bx => ?_
     clear bw
     refine of_op (wpOp_append ag bx (k := 0) (d := 44) (t := 22) (e := 5) (size := 1) (bytes := 1) (A := aP) (As := A6) (m0 := ((countedB flex null ((whole s2).length) 2).length)) (c := aQ) (m := ((whole s2).length)) (cs := c7) (xs := (bc (countedB flex null ((whole s2).length) 2))) (news := bc (whole s2)) kz kz rfl ((bg.take 32767).move ag.step nilM ag.imm).src ((bg.take 32767).move ag.step nilM ag.imm).cap (by first | exact cw_room (by omega) (by decide) (by omega) | exact cw_room (Nat.le_trans (whole_le _) (by decide)) (by decide) (Nat.le_trans (whole_le _) (by decide)) | (simp; done)) fun ay az eK eL dT bz bA => ?_)
     clear bx ag
     have dc : (⟨ay, az, 5, 1, (countedB flex null ((whole s2).length) 2).length + (whole s2).length, bc (countedB flex null ((whole s2).length) 2) ++ bc (whole s2)⟩ : Rw) = brow ay az 5 (countedB flex null ((whole s2).length) 2 ++ (whole s2)) := brow_eq (rfl) rfl
     obtain ⟨aR, dU⟩ := bz.rowEq 0 [brow ay az 5 (countedB flex null ((whole s2).length) 2 ++ (whole s2))] dc
     clear bz
     have bB := EnvOk.pick bA (ks := [42, 43, 44]) (env' := [(42, .v (.slice aP ((countedB flex null ((whole s2).length) 2).length) aQ)), (43, .v (.slice A6 ((whole s2).length) c7)), (44, .v (.slice ay ((countedB flex null ((whole s2).length) 2).length + (whole s2).length) az))]) kz
     have bC := bB.cast (env' := [(42, .v (.slice aP ((countedB flex null ((whole s2).length) 2).length) aQ)), (43, .v (.slice A6 ((whole s2).length) c7)), (44, .v (.slice ay ((countedB flex null ((whole s2).length) 2 ++ (whole s2)).length) az))]) (by simp only [List.length_append, List.length_cons, List.length_nil, Nat.zero_add])
     clear bA
     clear bB
     refine go_rn [7] [] [(12, .v (.slice ay ((countedB flex null ((whole s2).length) 2 ++ (whole s2)).length) az))] aR bC fun eM de => ?_
     clear bC
     refine wpOps_nil (then_normal ?_)
     refine wp_ret ?_
     refine block_ret ?_
     refine then_ret ?_
     refine leave de aR.cells (v := .slice ay ((countedB flex null ((whole s2).length) 2 ++ (whole s2)).length) az) kz ?_
     exact fresh_end aR (k := 0) rfl (by (try simp only [and1]); simp [valueB, Tree.S, Tree.N, al, av, cU, ae, af, ai, aK])
   ·
    have ao : kind ≠ 8 := by simpa using ai
    refine go_sp [(0, .v (.int .i64 kind)), (1, .v (.slice A l.length c)), (2, .v (.bool null)), (3, .v (.int .i64 v)), (4, .v (.bool flex)), (11, .p 0 0), (16, .v (.int .i64 kind)), (45, .v (.bool (kind == 9)))] aa aJ fun eN ap => ?_
    clear aJ
    refine cond_of ap (b := kind == 9) kz (fun ac => ?_) (fun ac => ?_)
    ·
     have bD : kind = 9 := by simpa using ac
     refine go_seq_region [0, 1, 2, 3] kz ?_
     refine go_rn [0, 1] [2, 3] [(2, .v (.bool null)), (4, .v (.bool flex)), (48, .v (.slice A6 s2.length c7))] aa ap fun eO bE => ?_
     clear ap
     have dL := whole_le s2
     refine of_op (wpOp_call bE (f := 64) (vs := [.slice A6 s2.length c7]) (d := 49) kz Tryz.call64 (sWhole _ _ s2 (bg.move aa.step nilM aa.imm).le _) ?_)
     rintro e_ eP ⟨rfl, bF⟩
     refine ⟨_, rfl, fun eQ bG => ?_⟩
     have ab := aa.next_nil bF
     have dV := aa.frN bF
     clear bE aa
     refine go_rn [3] [] [(2, .v (.bool null)), (4, .v (.bool flex)), (15, .v (.slice A6 ((whole s2).length) c7))] ab bG fun eR bH => ?_
     clear bG
     refine wpOps_nil (then_normal ?_)
     refine wp_seq ?_
     refine go_sp [(2, .v (.bool null)), (4, .v (.bool flex)), (15, .v (.slice A6 ((whole s2).length) c7)), (50, .v (.bool null))] ab bH fun eS ar => ?_
     clear bH
     refine cond_of ar (b := null) kz (fun aS => ?_) (fun aS => ?_)
     ·
      refine go_region [0] kz ?_
      refine go_rn [0] [] [(2, .v (.bool null)), (4, .v (.bool flex)), (15, .v (.slice none 0 0))] ab ar fun eU bI => ?_
      clear ar
      refine wpOps_nil (then_normal ?_)
      refine go_seq_region [0, 1, 2, 3, 4, 5, 6, 7] kz ?_
      refine go_rn [0, 1, 2, 3] [4, 5, 6, 7] [(15, .v (.slice none 0 0)), (51, .v (.bool flex)), (52, .v (.bool null)), (54, .v (.int .i64 0))] ab bI fun eV bJ => ?_
      clear bI
      refine of_op (wpOp_call bJ (f := 186) (vs := [.bool flex, .bool null, .int .i64 0, .int .i64 4]) (d := 55) kz Tryz.call186 (sCounted flex null 0 4 (by first | omega | exact Nat.le_trans (whole_le _) (by decide) | exact Nat.le_trans (things_le _) (by decide) | (simp; done) | (have := hroom; omega)) (by first | decide | omega) _) ?_)
      rintro e_ eW ⟨aT, aU, rfl, df, dg⟩
      refine ⟨_, rfl, fun eX bK => ?_⟩
      obtain ⟨aV, dW⟩ := ab.frFresh dg (brow aT aU 5 (countedB flex null 0 4)) (Nat.le_refl _) df
      clear bJ ab
      refine go_rn [5] [6, 7] [(55, .v (.slice aT ((countedB flex null 0 4).length) aU)), (56, .v (.slice none 0 0))] aV bK fun eY bL => ?_
      clear bK
      refine of_op (wpOp_append aV bL (k := 0) (d := 57) (t := 22) (e := 5) (size := 1) (bytes := 1) (A := aT) (As := none) (m0 := ((countedB flex null 0 4).length)) (c := aU) (m := 0) (cs := 0) (xs := (bc (countedB flex null 0 4))) (news := bc ([] : Bs)) kz kz rfl (Octs.nil _ (fun _ _ => True)).src (fun _ => rfl) (by first | exact cw_room (by omega) (by decide) (by omega) | exact cw_room (Nat.le_trans (whole_le _) (by decide)) (by decide) (Nat.le_trans (whole_le _) (by decide)) | (simp; done)) fun aA aB eZ e9 dX bM bN => ?_)
      clear bL aV
      have dh : (⟨aA, aB, 5, 1, (countedB flex null 0 4).length + 0, bc (countedB flex null 0 4) ++ bc ([] : Bs)⟩ : Rw) = brow aA aB 5 (countedB flex null 0 4 ++ ([] : Bs)) := brow_eq (rfl) rfl
      obtain ⟨aW, dY⟩ := bM.rowEq 0 [brow aA aB 5 (countedB flex null 0 4 ++ ([] : Bs))] dh
      clear bM
      have bO := EnvOk.pick bN (ks := [55, 56, 57]) (env' := [(55, .v (.slice aT ((countedB flex null 0 4).length) aU)), (56, .v (.slice none 0 0)), (57, .v (.slice aA ((countedB flex null 0 4).length + 0) aB))]) kz
      have bP := bO.cast (env' := [(55, .v (.slice aT ((countedB flex null 0 4).length) aU)), (56, .v (.slice none 0 0)), (57, .v (.slice aA ((countedB flex null 0 4 ++ ([] : Bs)).length) aB))]) (by simp only [List.length_append, List.length_cons, List.length_nil, Nat.zero_add])
      clear bN
      clear bO
      refine go_rn [7] [] [(12, .v (.slice aA ((countedB flex null 0 4 ++ ([] : Bs)).length) aB))] aW bP fun fa di => ?_
      clear bP
      refine wpOps_nil (then_normal ?_)
      refine wp_ret ?_
      refine block_ret ?_
      refine then_ret ?_
      refine leave di aW.cells (v := .slice aA ((countedB flex null 0 4 ++ ([] : Bs)).length) aB) kz ?_
      exact fresh_end aW (k := 0) rfl (by (try simp only [and1]); simp [valueB, Tree.S, Tree.N, al, av, ao, bD, ae, af, ai, ac, aS])
     ·
      refine wp_skip ?_
      refine then_normal ?_
      refine go_seq_region [0, 1, 2, 3, 4, 5, 6, 7] kz ?_
      refine go_rn [0, 1, 2, 3] [4, 5, 6, 7] [(15, .v (.slice A6 ((whole s2).length) c7)), (51, .v (.bool flex)), (52, .v (.bool null)), (54, .v (.int .i64 (((whole s2).length : Nat) : Int)))] ab ar fun fb bQ => ?_
      clear ar
      refine of_op (wpOp_call bQ (f := 186) (vs := [.bool flex, .bool null, .int .i64 (((whole s2).length : Nat) : Int), .int .i64 4]) (d := 55) kz Tryz.call186 (sCounted flex null ((whole s2).length) 4 (by first | omega | exact Nat.le_trans (whole_le _) (by decide) | exact Nat.le_trans (things_le _) (by decide) | (simp; done) | (have := hroom; omega)) (by first | decide | omega) _) ?_)
      rintro e_ fe ⟨aX, aY, rfl, dj, dl⟩
      refine ⟨_, rfl, fun ff bR => ?_⟩
      obtain ⟨ah, dZ⟩ := ab.frFresh dl (brow aX aY 5 (countedB flex null ((whole s2).length) 4)) (Nat.le_refl _) dj
      clear bQ ab
      refine go_rn [5] [6, 7] [(55, .v (.slice aX ((countedB flex null ((whole s2).length) 4).length) aY)), (56, .v (.slice A6 ((whole s2).length) c7))] ah bR fun fg bS => ?_
      clear bR
      refine of_op (wpOp_append ah bS (k := 0) (d := 57) (t := 22) (e := 5) (size := 1) (bytes := 1) (A := aX) (As := A6) (m0 := ((countedB flex null ((whole s2).length) 4).length)) (c := aY) (m := ((whole s2).length)) (cs := c7) (xs := (bc (countedB flex null ((whole s2).length) 4))) (news := bc (whole s2)) kz kz rfl ((bg.take 32767).move ah.step nilM ah.imm).src ((bg.take 32767).move ah.step nilM ah.imm).cap (by first | exact cw_room (by omega) (by decide) (by omega) | exact cw_room (Nat.le_trans (whole_le _) (by decide)) (by decide) (Nat.le_trans (whole_le _) (by decide)) | (simp; done)) fun aC aD fh fi d5 bT bU => ?_)
      clear bS ah
      have dp : (⟨aC, aD, 5, 1, (countedB flex null ((whole s2).length) 4).length + (whole s2).length, bc (countedB flex null ((whole s2).length) 4) ++ bc (whole s2)⟩ : Rw) = brow aC aD 5 (countedB flex null ((whole s2).length) 4 ++ (whole s2)) := brow_eq (rfl) rfl
      obtain ⟨aZ, d6⟩ := bT.rowEq 0 [brow aC aD 5 (countedB flex null ((whole s2).length) 4 ++ (whole s2))] dp
      clear bT
      have bV := EnvOk.pick bU (ks := [55, 56, 57]) (env' := [(55, .v (.slice aX ((countedB flex null ((whole s2).length) 4).length) aY)), (56, .v (.slice A6 ((whole s2).length) c7)), (57, .v (.slice aC ((countedB flex null ((whole s2).length) 4).length + (whole s2).length) aD))]) kz
      have bW := bV.cast (env' := [(55, .v (.slice aX ((countedB flex null ((whole s2).length) 4).length) aY)), (56, .v (.slice A6 ((whole s2).length) c7)), (57, .v (.slice aC ((countedB flex null ((whole s2).length) 4 ++ (whole s2)).length) aD))]) (by simp only [List.length_append, List.length_cons, List.length_nil, Nat.zero_add])
      clear bU
      clear bV
      refine go_rn [7] [] [(12, .v (.slice aC ((countedB flex null ((whole s2).length) 4 ++ (whole s2)).length) aD))] aZ bW fun fj dq => ?_
      clear bW
      refine wpOps_nil (then_normal ?_)
      refine wp_ret ?_
      refine block_ret ?_
      refine then_ret ?_
      refine leave dq aZ.cells (v := .slice aC ((countedB flex null ((whole s2).length) 4 ++ (whole s2)).length) aD) kz ?_
      exact fresh_end aZ (k := 0) rfl (by (try simp only [and1]); simp [valueB, Tree.S, Tree.N, al, av, ao, bD, ae, af, ai, ac, aS])
    ·
     have ba : kind ≠ 9 := by simpa using ac
     refine go_sp [(0, .v (.int .i64 kind)), (1, .v (.slice A l.length c)), (3, .v (.int .i64 v)), (4, .v (.bool flex)), (11, .p 0 0), (58, .v (.bool (kind == 10)))] aa ap fun fk au => ?_
     clear ap
     refine cond_of au (b := kind == 10) kz (fun aj => ?_) (fun aj => ?_)
     ·
      have bX : kind = 10 := by simpa using aj
      refine go_seq_region [0, 1, 2, 3, 4, 5] kz ?_
      refine go_rn [0, 1, 2, 3] [4, 5] [(60, .v (.slice A l.length c)), (61, .v (.int .i64 v)), (62, .v (.bool flex)), (63, .v (.agg #[.int .i64 n1, .slice A6 s2.length c7, .bool b3, .slice A8 l4.length c9, .slice dD u5.length dE]))] aa au fun fm bY => ?_
      clear au
      refine of_op (wpOp_call bY (f := 56) (vs := [.slice A l.length c, .int .i64 v, .bool flex, .agg #[.int .i64 n1, .slice A6 s2.length c7, .bool b3, .slice A8 l4.length c9, .slice dD u5.length dE]]) (d := 64) kz Tryz.call56 (hp _ _ l v flex _ (Tree.mk n1 s2 b3 l4 u5) _ _ ⟨xfs, (h1.move aa.step nilM aa.imm), (fun i_ x_ h_ => ((h2 i_ x_ h_).move aa.step nilM aa.imm))⟩ hd (ht.move aa.step nilM aa.imm) (by simpa [valueB, al, av, ao, ba, bX, ae, af, ai, ac, aj] using hroom)) ?_)
      rintro e_ fo ⟨cA, cB, rfl, dr, dt⟩
      refine ⟨_, rfl, fun fq bZ => ?_⟩
      obtain ⟨bd, d7⟩ := aa.frFresh dt (brow cA cB 5 (partB d l v flex (Tree.mk n1 s2 b3 l4 u5))) (Nat.le_refl _) dr
      clear bY aa
      refine go_rn [5] [] [(12, .v (.slice cA ((partB d l v flex (Tree.mk n1 s2 b3 l4 u5)).length) cB))] bd bZ fun fr du => ?_
      clear bZ
      refine wpOps_nil (then_normal ?_)
      refine wp_ret ?_
      refine block_ret ?_
      refine then_ret ?_
      refine leave du bd.cells (v := .slice cA ((partB d l v flex (Tree.mk n1 s2 b3 l4 u5)).length) cB) kz ?_
      exact fresh_end bd (k := 0) rfl (by (try simp only [and1]); simp [valueB, Tree.S, Tree.N, al, av, ao, ba, bX, ae, af, ai, ac, aj])
     ·
      have dv : kind ≠ 10 := by simpa using aj
      refine wp_skip ?_
      refine block_normal ?_
      refine then_normal ?_
      refine go_seq_drawK 5 kz aa fun ft d8 b8 dw => ?_
      clear aa
      refine go_rnD [0, 1, 2] [(66, .v (.int .i64 n1)), (67, .v (.int .i64 kind))] 3 (panicFree_then panicFree_body) (fun _ h => h.cells) dw au fun fu cd => ?_
      clear au
      refine anyC_op (i := 3) kz (wpOp_call cd (f := 129) (vs := [.int .i64 kind]) (d := 68) kz Tryz.call129 (sWidth kind _) ?_)
      rintro e_ fv ⟨rfl, ce⟩
      refine ⟨_, rfl, fun fw cm => ?_⟩
      have bf := b8.next_nil ce
      have cq := b8.frN ce
      clear cd
      have dx := TT.ofW cq bf
      refine ⟨fun _ => dx, ?_⟩
      refine anyC_op (i := 4) kz (wpOp_call cm (f := 128) (vs := [.int .i64 n1, .int .i64 ((widthI kind : Nat) : Int)]) (d := 69) kz Tryz.call128 (sFixed n1 (widthI kind) (by first | decide | exact widthI_le _ | omega) _) ?_)
      rintro e_ fx ⟨cC, cD, rfl, dy, dz⟩
      refine ⟨_, rfl, fun fy cr => ?_⟩
      obtain ⟨aE, dA⟩ := bf.frFresh dz (brow cC cD 5 (be (widthI kind) n1)) (Nat.le_refl _) dy
      clear cm bf
      have dB := TT.ofW (cq.trans dA) aE
      refine ⟨fun _ => dB, ?_⟩
      refine anyC_op (i := 5) kz (wpOp_pure [12] aE.cells cr (env' := [(12, .v (.slice cC ((be (widthI kind) n1).length) cD))]) kz fun fz dC => ?_)
      clear cr
      refine ⟨fun h => absurd rfl h, ?_⟩
      refine anyC_done kz ?_ _
      refine then_normal ?_
      refine wp_ret ?_
      refine leave dC aE.cells (v := .slice cC ((be (widthI kind) n1).length) cD) kz ?_
      exact fresh_end aE (k := 0) rfl (by (try simp only [and1]); simp [valueB, Tree.S, Tree.N, al, av, ao, ba, dv, ae, af, ai, ac, aj])
theorem sField {d : Nat} (hp : PartOK d) (cf : List Value) (f : Fld) (v : Int) (flex : Bool) (ct : List Value) (t : Tree) (w : World) (F : Nat → Nat → Prop) (hf : FldR w F cf f) (hd : depths f.sub ≤ d) (ht : TreeR w F ct t) (hroom : (fieldD d f v flex t).length ≤ 1099511627776) :
  Calls Tryz.prog 125 #[.agg cf.toArray, .int .i64 v, .bool flex, .agg ct.toArray] w (FreshB w 5 (fieldD d f v flex t)) := by
 obtain ⟨n1, s2, b3, l4, u5, A6, c7, A8, c9, aP, aQ, eY, rfl, rfl, eZ, eg, e9, gn⟩ := ht.open_
 have ev := eZ.small
 have ew := eg.small
 obtain ⟨ac, af, ag, ae, ah, ai, ab, aa, az, aA, bE, rfl, rfl, cX, ef⟩ := hf.open_
 have ey := cX.small
 refine enter (n := 76) Tryz.func125 rfl Tryz.ntmps125 kz fun a hE => ?_
 have hW := WOk.start w Nil
 refine go_seq_region [0, 1, 2] kz ?_
 refine of_op (wpOp_box hW hE (d := 4) (cs := [.int .i64 ac, .int .i64 af, .int .i64 ag, .int .i64 ae, .int .i64 ah, .int .i64 ai, .int .i64 ab, .slice az aa.length aA]) kz fun ez gp gq fa fb fe cY cZ => ?_)
 clear hE hW
 refine of_op (wpOp_box cY cZ (d := 7) (cs := [.int .i64 n1, .slice A6 s2.length c7, .bool b3, .slice A8 l4.length c9, .slice aP u5.length aQ]) kz fun eB gt gv ff fg fh aT c5 => ?_)
 clear cZ cY
 refine go_rn [2] [] [(1, .v (.int .i64 v)), (2, .v (.bool flex)), (4, .p 0 0), (7, .p 1 0)] aT c5 fun gw c6 => ?_
 clear c5
 refine wpOps_nil (then_normal ?_)
 refine go_seq_region [0, 1, 2, 3, 4] kz ?_
 refine go_rn [0, 1, 2] [3, 4] [(1, .v (.int .i64 v)), (2, .v (.bool flex)), (4, .p 0 0), (7, .p 1 0), (13, .v (.agg #[.int .i64 ac, .int .i64 af, .int .i64 ag, .int .i64 ae, .int .i64 ah, .int .i64 ai, .int .i64 ab, .slice az aa.length aA])), (14, .v (.int .i64 v)), (15, .v (.agg #[.int .i64 n1, .slice A6 s2.length c7, .bool b3, .slice A8 l4.length c9, .slice aP u5.length aQ]))] aT c6 fun gx da => ?_
 clear c6
 refine of_op (wpOp_call da (f := 130) (vs := [.agg #[.int .i64 ac, .int .i64 af, .int .i64 ag, .int .i64 ae, .int .i64 ah, .int .i64 ai, .int .i64 ab, .slice az aa.length aA], .int .i64 v, .agg #[.int .i64 n1, .slice A6 s2.length c7, .bool b3, .slice A8 l4.length c9, .slice aP u5.length aQ]]) (d := 16) kz Tryz.call130 (sNull ac af ag ae ah ai ab aa _ _ v n1 s2 b3 l4 u5 _ _ _ _ _ _ _) ?_)
 rintro e_ gy ⟨rfl, db⟩
 refine ⟨_, rfl, fun gz dc => ?_⟩
 have aj := aT.next_nil db
 have fi := aT.frN db
 clear da aT
 refine go_rn [4] [] [(1, .v (.int .i64 v)), (2, .v (.bool flex)), (4, .p 0 0), (7, .p 1 0), (9, .v (.bool (Fld.nul (Fld.mk ac af ag ae ah ai ab aa) v (Tree.mk n1 s2 b3 l4 u5))))] aj dc fun gA de => ?_
 clear dc
 refine wpOps_nil (then_normal ?_)
 refine wp_seq ?_
 refine go_sp [(1, .v (.int .i64 v)), (2, .v (.bool flex)), (4, .p 0 0), (7, .p 1 0), (9, .v (.bool (Fld.nul (Fld.mk ac af ag ae ah ai ab aa) v (Tree.mk n1 s2 b3 l4 u5)))), (19, .v (.bool (ac == 11)))] aj de fun gB aU => ?_
 clear de
 refine cond_of aU (b := ac == 11) kz (fun cL => ?_) (fun cL => ?_)
 ·
  have fj : ac = 11 := by simpa using cL
  refine go_seq_region [0, 1, 2, 3] kz ?_
  refine go_rn [0, 1] [2, 3] [(1, .v (.int .i64 v)), (2, .v (.bool flex)), (4, .p 0 0), (9, .v (.bool (Fld.nul (Fld.mk ac af ag ae ah ai ab aa) v (Tree.mk n1 s2 b3 l4 u5)))), (21, .v (.slice A8 l4.length c9))] aj aU fun gC df => ?_
  clear aU
  refine of_op (wpOp_call df (f := 131) (vs := [.slice A8 l4.length c9]) (d := 22) kz Tryz.call131 (sThings _ _ l4 (eg.move aj.step nilM aj.imm).le _) ?_)
  rintro e_ gD ⟨rfl, dg⟩
  refine ⟨_, rfl, fun gE dh => ?_⟩
  have ay := aj.next_nil dg
  have fk := aj.frN dg
  clear df aj
  refine go_rn [3] [] [(1, .v (.int .i64 v)), (2, .v (.bool flex)), (4, .p 0 0), (9, .v (.bool (Fld.nul (Fld.mk ac af ag ae ah ai ab aa) v (Tree.mk n1 s2 b3 l4 u5)))), (10, .v (.slice A8 ((things l4).length) c9))] ay dh fun gF di => ?_
  clear dh
  refine wpOps_nil (then_normal ?_)
  refine wp_seq ?_
  refine go_sp [(1, .v (.int .i64 v)), (2, .v (.bool flex)), (4, .p 0 0), (9, .v (.bool (Fld.nul (Fld.mk ac af ag ae ah ai ab aa) v (Tree.mk n1 s2 b3 l4 u5)))), (10, .v (.slice A8 ((things l4).length) c9)), (23, .v (.bool (Fld.nul (Fld.mk ac af ag ae ah ai ab aa) v (Tree.mk n1 s2 b3 l4 u5))))] ay di fun gG aV => ?_
  clear di
  refine cond_of aV (b := Fld.nul (Fld.mk ac af ag ae ah ai ab aa) v (Tree.mk n1 s2 b3 l4 u5)) kz (fun eh => ?_) (fun eh => ?_)
  ·
   refine go_region [0] kz ?_
   refine go_rn [0] [] [(1, .v (.int .i64 v)), (2, .v (.bool flex)), (4, .p 0 0), (9, .v (.bool (Fld.nul (Fld.mk ac af ag ae ah ai ab aa) v (Tree.mk n1 s2 b3 l4 u5)))), (10, .v (.slice none 0 0))] ay aV fun gH dj => ?_
   clear aV
   refine wpOps_nil (then_normal ?_)
   refine go_seq_region [0, 1, 2, 3, 4, 5] kz ?_
   refine go_rn [0, 1, 2, 3] [4, 5] [(1, .v (.int .i64 v)), (2, .v (.bool flex)), (4, .p 0 0), (10, .v (.slice none 0 0)), (24, .v (.bool flex)), (25, .v (.bool (Fld.nul (Fld.mk ac af ag ae ah ai ab aa) v (Tree.mk n1 s2 b3 l4 u5)))), (27, .v (.int .i64 0))] ay dj fun gI dl => ?_
   clear dj
   refine of_op (wpOp_call dl (f := 186) (vs := [.bool flex, .bool (Fld.nul (Fld.mk ac af ag ae ah ai ab aa) v (Tree.mk n1 s2 b3 l4 u5)), .int .i64 0, .int .i64 4]) (d := 28) kz Tryz.call186 (sCounted flex (Fld.nul (Fld.mk ac af ag ae ah ai ab aa) v (Tree.mk n1 s2 b3 l4 u5)) 0 4 (by first | omega | exact Nat.le_trans (whole_le _) (by decide) | exact Nat.le_trans (things_le _) (by decide) | (simp; done) | (have := hroom; omega)) (by first | decide | omega) _) ?_)
   rintro e_ gJ ⟨cV, cW, rfl, ei, ej⟩
   refine ⟨_, rfl, fun gK dp => ?_⟩
   obtain ⟨bF, fm⟩ := ay.frFresh ej (brow cV cW 5 (countedB flex (Fld.nul (Fld.mk ac af ag ae ah ai ab aa) v (Tree.mk n1 s2 b3 l4 u5)) 0 4)) (Nat.le_refl _) ei
   clear dl ay
   refine go_rn [5] [] [(1, .v (.int .i64 v)), (2, .v (.bool flex)), (4, .p 0 0), (10, .v (.slice none 0 0)), (11, .v (.slice cV ((countedB flex (Fld.nul (Fld.mk ac af ag ae ah ai ab aa) v (Tree.mk n1 s2 b3 l4 u5)) 0 4).length) cW))] bF dp fun gL dq => ?_
   clear dp
   refine wpOps_nil (then_normal ?_)
   refine wp_seq ?_
   refine go_sp [(1, .v (.int .i64 v)), (2, .v (.bool flex)), (4, .p 0 0), (10, .v (.slice none 0 0)), (11, .v (.slice cV ((countedB flex (Fld.nul (Fld.mk ac af ag ae ah ai ab aa) v (Tree.mk n1 s2 b3 l4 u5)) 0 4).length) cW)), (30, .v (.int .i64 0)), (31, .v (.int .i64 0))] bF dq fun gM cM => ?_
   clear dq
   refine wp_block ?_
   have hr2 : (countedB flex (Fld.nul (Fld.mk ac af ag ae ah ai ab aa) v (Tree.mk n1 s2 b3 l4 u5)) 0 4 ++ ([] : List Tree).flatMap (valueB (partB d aa v flex) ab false flex)).length ≤ 1099511627776 := by have h_ := hroom; rw [fieldD_11n (by assumption) (by assumption)] at h_; exact h_
   rw [List.length_append] at hr2
   have hr3 := flatMap_take_le ([] : List Tree) (valueB (partB d aa v flex) ab false flex)
   have dr : (countedB flex (Fld.nul (Fld.mk ac af ag ae ah ai ab aa) v (Tree.mk n1 s2 b3 l4 u5)) 0 4) = (countedB flex (Fld.nul (Fld.mk ac af ag ae ah ai ab aa) v (Tree.mk n1 s2 b3 l4 u5)) 0 4 ++ (([] : List Tree).take 0).flatMap (valueB (partB d aa v flex) ab false flex)) := by simp
   have dt := congrArg (brow cV cW 5) dr
   obtain ⟨bI, eC⟩ := bF.rowEq 0 [brow cV cW 5 (countedB flex (Fld.nul (Fld.mk ac af ag ae ah ai ab aa) v (Tree.mk n1 s2 b3 l4 u5)) 0 4 ++ (([] : List Tree).take 0).flatMap (valueB (partB d aa v flex) ab false flex))] dt
   clear bF
   rw [dr] at cM
   refine wp_loop_ghost (fun n_ a_ w_ => ∃ (k : Nat) (A_ : Option Addr) (c_ : Nat), n_ = 0 - k ∧ k ≤ 0 ∧ LInv bI 76 [⟨ez, 0, [.int .i64 ac, .int .i64 af, .int .i64 ag, .int .i64 ae, .int .i64 ah, .int .i64 ai, .int .i64 ab, .slice az aa.length aA], true⟩, ⟨eB, 0, [.int .i64 n1, .slice A6 s2.length c7, .bool b3, .slice A8 l4.length c9, .slice aP u5.length aQ], true⟩] [brow A_ c_ 5 (countedB flex (Fld.nul (Fld.mk ac af ag ae ah ai ab aa) v (Tree.mk n1 s2 b3 l4 u5)) 0 4 ++ (([] : List Tree).take k).flatMap (valueB (partB d aa v flex) ab false flex))] [(1, .v (.int .i64 v)), (2, .v (.bool flex)), (4, .p 0 0), (10, .v (.slice none 0 0)), (11, .v (.slice A_ ((countedB flex (Fld.nul (Fld.mk ac af ag ae ah ai ab aa) v (Tree.mk n1 s2 b3 l4 u5)) 0 4 ++ (([] : List Tree).take k).flatMap (valueB (partB d aa v flex) ab false flex)).length) c_)), (30, .v (.int .i64 0)), (31, .v (.int .i64 ((k : Nat) : Int)))] a_ w_) (0) ⟨0, cV, cW, by omega, by omega, cM.pk, bI, Fr.refl _ _ _⟩ ?_
   clear cM
   rintro fo fq fr ⟨k, A_, c_, eD, eE, bJ, aJ, eF⟩
   refine go_sp [(1, .v (.int .i64 v)), (2, .v (.bool flex)), (4, .p 0 0), (10, .v (.slice none 0 0)), (11, .v (.slice A_ ((countedB flex (Fld.nul (Fld.mk ac af ag ae ah ai ab aa) v (Tree.mk n1 s2 b3 l4 u5)) 0 4 ++ (([] : List Tree).take k).flatMap (valueB (partB d aa v flex) ab false flex)).length) c_)), (30, .v (.int .i64 0)), (31, .v (.int .i64 ((k : Nat) : Int))), (32, .v (.bool (decide (((k : Nat) : Int) < 0))))] aJ bJ fun ft aW => ?_
   clear bJ
   refine wp_seq ?_
   refine cond_false aW (b := decide (((k : Nat) : Int) < 0)) kz (decide_eq_false (by omega)) ?_
   refine wp_exit ?_
   refine then_exit ?_
   refine then_exit ?_
   refine block_exit ?_
   refine then_normal ?_
   refine go_sp [(8, .v (.slice A_ ((countedB flex (Fld.nul (Fld.mk ac af ag ae ah ai ab aa) v (Tree.mk n1 s2 b3 l4 u5)) 0 4 ++ (([] : List Tree).take k).flatMap (valueB (partB d aa v flex) ab false flex)).length) c_))] aJ aW fun fu du => ?_
   clear aW
   refine wp_ret ?_
   refine then_ret ?_
   refine leave du aJ.cells (v := .slice A_ ((countedB flex (Fld.nul (Fld.mk ac af ag ae ah ai ab aa) v (Tree.mk n1 s2 b3 l4 u5)) 0 4 ++ (([] : List Tree).take k).flatMap (valueB (partB d aa v flex) ab false flex)).length) c_) kz ?_
   exact fresh_end aJ (k := 0) rfl (by rw [fieldD_11n (by assumption) (by assumption)]; simp)
  ·
   refine wp_skip ?_
   refine then_normal ?_
   refine go_seq_region [0, 1, 2, 3, 4, 5] kz ?_
   refine go_rn [0, 1, 2, 3] [4, 5] [(1, .v (.int .i64 v)), (2, .v (.bool flex)), (4, .p 0 0), (10, .v (.slice A8 ((things l4).length) c9)), (24, .v (.bool flex)), (25, .v (.bool (Fld.nul (Fld.mk ac af ag ae ah ai ab aa) v (Tree.mk n1 s2 b3 l4 u5)))), (27, .v (.int .i64 (((things l4).length : Nat) : Int)))] ay aV fun fv bK => ?_
   clear aV
   refine of_op (wpOp_call bK (f := 186) (vs := [.bool flex, .bool (Fld.nul (Fld.mk ac af ag ae ah ai ab aa) v (Tree.mk n1 s2 b3 l4 u5)), .int .i64 (((things l4).length : Nat) : Int), .int .i64 4]) (d := 28) kz Tryz.call186 (sCounted flex (Fld.nul (Fld.mk ac af ag ae ah ai ab aa) v (Tree.mk n1 s2 b3 l4 u5)) ((things l4).length) 4 (by first | omega | exact Nat.le_trans (whole_le _) (by decide) | exact Nat.le_trans (things_le _) (by decide) | (simp; done) | (have := hroom; omega)) (by first | decide | omega) _) ?_)
   rintro e_ fw ⟨aR, aS, rfl, dv, dw⟩
   refine ⟨_, rfl, fun fx bL => ?_⟩
   obtain ⟨aK, eG⟩ := ay.frFresh dw (brow aR aS 5 (countedB flex (Fld.nul (Fld.mk ac af ag ae ah ai ab aa) v (Tree.mk n1 s2 b3 l4 u5)) ((things l4).length) 4)) (Nat.le_refl _) dv
   clear bK ay
   refine go_rn [5] [] [(1, .v (.int .i64 v)), (2, .v (.bool flex)), (4, .p 0 0), (10, .v (.slice A8 ((things l4).length) c9)), (11, .v (.slice aR ((countedB flex (Fld.nul (Fld.mk ac af ag ae ah ai ab aa) v (Tree.mk n1 s2 b3 l4 u5)) ((things l4).length) 4).length) aS))] aK bL fun fy bM => ?_
   clear bL
   refine wpOps_nil (then_normal ?_)
   refine wp_seq ?_
   refine go_sp [(1, .v (.int .i64 v)), (2, .v (.bool flex)), (4, .p 0 0), (10, .v (.slice A8 ((things l4).length) c9)), (11, .v (.slice aR ((countedB flex (Fld.nul (Fld.mk ac af ag ae ah ai ab aa) v (Tree.mk n1 s2 b3 l4 u5)) ((things l4).length) 4).length) aS)), (30, .v (.int .i64 (((things l4).length : Nat) : Int))), (31, .v (.int .i64 0))] aK bM fun fz aX => ?_
   clear bM
   refine wp_block ?_
   have hr2 : (countedB flex (Fld.nul (Fld.mk ac af ag ae ah ai ab aa) v (Tree.mk n1 s2 b3 l4 u5)) ((things l4).length) 4 ++ (things l4).flatMap (valueB (partB d aa v flex) ab false flex)).length ≤ 1099511627776 := by have h_ := hroom; rw [fieldD_11 (by assumption) (by assumption)] at h_; exact h_
   rw [List.length_append] at hr2
   have hr3 := flatMap_take_le (things l4) (valueB (partB d aa v flex) ab false flex)
   have hsm3 : (things l4).length ≤ 32767 := by simp only [things, List.length_take]; omega
   have bN : (countedB flex (Fld.nul (Fld.mk ac af ag ae ah ai ab aa) v (Tree.mk n1 s2 b3 l4 u5)) ((things l4).length) 4) = (countedB flex (Fld.nul (Fld.mk ac af ag ae ah ai ab aa) v (Tree.mk n1 s2 b3 l4 u5)) ((things l4).length) 4 ++ ((things l4).take 0).flatMap (valueB (partB d aa v flex) ab false flex)) := by simp
   have dx := congrArg (brow aR aS 5) bN
   obtain ⟨bO, eH⟩ := aK.rowEq 0 [brow aR aS 5 (countedB flex (Fld.nul (Fld.mk ac af ag ae ah ai ab aa) v (Tree.mk n1 s2 b3 l4 u5)) ((things l4).length) 4 ++ ((things l4).take 0).flatMap (valueB (partB d aa v flex) ab false flex))] dx
   clear aK
   rw [bN] at aX
   refine wp_loop_ghost (fun n_ a_ w_ => ∃ (k : Nat) (A_ : Option Addr) (c_ : Nat), n_ = (things l4).length - k ∧ k ≤ (things l4).length ∧ LInv bO 76 [⟨ez, 0, [.int .i64 ac, .int .i64 af, .int .i64 ag, .int .i64 ae, .int .i64 ah, .int .i64 ai, .int .i64 ab, .slice az aa.length aA], true⟩, ⟨eB, 0, [.int .i64 n1, .slice A6 s2.length c7, .bool b3, .slice A8 l4.length c9, .slice aP u5.length aQ], true⟩] [brow A_ c_ 5 (countedB flex (Fld.nul (Fld.mk ac af ag ae ah ai ab aa) v (Tree.mk n1 s2 b3 l4 u5)) ((things l4).length) 4 ++ ((things l4).take k).flatMap (valueB (partB d aa v flex) ab false flex))] [(1, .v (.int .i64 v)), (2, .v (.bool flex)), (4, .p 0 0), (10, .v (.slice A8 ((things l4).length) c9)), (11, .v (.slice A_ ((countedB flex (Fld.nul (Fld.mk ac af ag ae ah ai ab aa) v (Tree.mk n1 s2 b3 l4 u5)) ((things l4).length) 4 ++ ((things l4).take k).flatMap (valueB (partB d aa v flex) ab false flex)).length) c_)), (30, .v (.int .i64 (((things l4).length : Nat) : Int))), (31, .v (.int .i64 ((k : Nat) : Int)))] a_ w_) ((things l4).length) ⟨0, aR, aS, by omega, by omega, aX.pk, bO, Fr.refl _ _ _⟩ ?_
   clear aX
   rintro fA fB fC ⟨k, A_, c_, eI, eJ, bP, av, dy⟩
   refine go_sp [(1, .v (.int .i64 v)), (2, .v (.bool flex)), (4, .p 0 0), (10, .v (.slice A8 ((things l4).length) c9)), (11, .v (.slice A_ ((countedB flex (Fld.nul (Fld.mk ac af ag ae ah ai ab aa) v (Tree.mk n1 s2 b3 l4 u5)) ((things l4).length) 4 ++ ((things l4).take k).flatMap (valueB (partB d aa v flex) ab false flex)).length) c_)), (30, .v (.int .i64 (((things l4).length : Nat) : Int))), (31, .v (.int .i64 ((k : Nat) : Int))), (32, .v (.bool (decide (((k : Nat) : Int) < (((things l4).length : Nat) : Int)))))] av bP fun fD aB => ?_
   clear bP
   refine wp_seq ?_
   refine cond_of aB (b := decide (((k : Nat) : Int) < (((things l4).length : Nat) : Int))) kz (fun aY => ?_) (fun aY => ?_)
   ·
    have eK := of_decide_eq_true aY
    refine wp_skip ?_
    refine then_normal ?_
    refine wp_seq ?_
    refine wp_block ?_
    refine go_sp [(1, .v (.int .i64 v)), (2, .v (.bool flex)), (4, .p 0 0), (10, .v (.slice A8 ((things l4).length) c9)), (11, .v (.slice A_ ((countedB flex (Fld.nul (Fld.mk ac af ag ae ah ai ab aa) v (Tree.mk n1 s2 b3 l4 u5)) ((things l4).length) 4 ++ ((things l4).take k).flatMap (valueB (partB d aa v flex) ab false flex)).length) c_)), (12, .v (.int .i64 ((k : Nat) : Int))), (30, .v (.int .i64 (((things l4).length : Nat) : Int))), (31, .v (.int .i64 ((k : Nat) : Int)))] av aB fun fE bQ => ?_
    clear aB
    refine go_drawK 13 kz av fun fF dz au aZ => ?_
    clear av
    refine go_rnD [0, 1, 2, 3, 4, 5, 6, 7, 8] [(1, .v (.int .i64 v)), (2, .v (.bool flex)), (4, .p 0 0), (10, .v (.slice A8 ((things l4).length) c9)), (11, .v (.slice A_ ((countedB flex (Fld.nul (Fld.mk ac af ag ae ah ai ab aa) v (Tree.mk n1 s2 b3 l4 u5)) ((things l4).length) 4 ++ ((things l4).take k).flatMap (valueB (partB d aa v flex) ab false flex)).length) c_)), (30, .v (.int .i64 (((things l4).length : Nat) : Int))), (31, .v (.int .i64 ((k : Nat) : Int))), (34, .v (.slice A_ ((countedB flex (Fld.nul (Fld.mk ac af ag ae ah ai ab aa) v (Tree.mk n1 s2 b3 l4 u5)) ((things l4).length) 4 ++ ((things l4).take k).flatMap (valueB (partB d aa v flex) ab false flex)).length) c_)), (36, .v (.int .i64 ab)), (38, .v (.slice az aa.length aA)), (39, .v (.int .i64 v)), (40, .v (.bool flex)), (41, .v (.slice A8 ((things l4).length) c9)), (42, .v (.int .i64 ((k : Nat) : Int)))] 5 (panicFree_block (panicFree_then (panicFree_then (panicFree_block (panicFree_then (panicFree_then panicFree_body)))))) (fun _ h => h.cells) aZ bQ fun fG bR => ?_
    clear bQ
    obtain ⟨cN, cO, dA, eL, ba⟩ := Slots.get (things_slots eg) (i := k) (by omega)
    obtain ⟨ek, aL⟩ : ∃ x, (things l4)[k]? = some x := ⟨_, List.getElem?_eq_getElem (by omega)⟩
    have bd := (things_each e9) k ek aL
    obtain ⟨ak, al, am, ao, ap, bf, bg, bh, bi, bj, bk, eM, rfl, bn, em, eo, fH, fI⟩ := bd.open_
    rw [bn] at bd
    have ep := em.small
    have eu := eo.small
    rw [bn] at ba
    refine takeC_index bR (i := 9) (t := 23) (A := A8) (m := ((things l4).length)) (q := ((k : Nat) : Int)) (d := 43) kz (e := 26) (size := 5) (bytes := 88) kz dA rfl (by omega) kz kz (panicFree_block (panicFree_then (panicFree_then (panicFree_block (panicFree_then (panicFree_then panicFree_body)))))) aZ fun fJ bS => ?_
    clear bR
    refine takeC_load bS (i := 10) (t := 26) (b := cN) (o := cO + k * 5) (d := 44) kz (cs := [.int .i64 ak, .slice bf al.length bg, .bool am, .slice bh ao.length bi, .slice bj ap.length bk]) (v := .agg #[.int .i64 ak, .slice bf al.length bg, .bool am, .slice bh ao.length bi, .slice bj ap.length bk]) kz (fun w' h' => (AtF.move ba (TT.step0 au h') nilM keepF).at_) kz kz (panicFree_block (panicFree_then (panicFree_then (panicFree_block (panicFree_then (panicFree_then panicFree_body)))))) aZ fun fK bT => ?_
    clear bS
    refine anyC_op (i := 11) kz (wpOp_call bT (f := 187) (vs := [.int .i64 ab, .slice az aa.length aA, .bool false, .int .i64 v, .bool flex, .agg #[.int .i64 ak, .slice bf al.length bg, .bool am, .slice bh ao.length bi, .slice bj ap.length bk]]) (d := 45) kz Tryz.call187 (sValue hp ab _ _ aa false v flex _ (Tree.mk ak al am ao ap) _ _ ⟨bE, (cX.move au.step nilM au.imm), (fun i_ x_ h_ => ((ef i_ x_ h_).move au.step nilM au.imm))⟩ hd (bd.move au.step nilM au.imm) (by have := flatMap_le (g := valueB (partB d aa v flex) ab false flex) aL; omega)) ?_)
    rintro e_ fL ⟨bo, bp, rfl, dB, dC⟩
    refine ⟨_, rfl, fun fM bU => ?_⟩
    obtain ⟨aC, bq⟩ := au.frFresh dC (brow bo bp 5 (valueB (partB d aa v flex) ab false flex (Tree.mk ak al am ao ap))) (Nat.le_refl _) dB
    clear bT
    have dD := TT.ofW bq aC
    refine ⟨fun _ => dD, ?_⟩
    refine anyC_op (i := 12) kz (wpOp_append aC bU (k := 0) (d := 46) (t := 22) (e := 5) (size := 1) (bytes := 1) (A := A_) (As := bo) (m0 := ((countedB flex (Fld.nul (Fld.mk ac af ag ae ah ai ab aa) v (Tree.mk n1 s2 b3 l4 u5)) ((things l4).length) 4 ++ ((things l4).take k).flatMap (valueB (partB d aa v flex) ab false flex)).length)) (c := c_) (m := ((valueB (partB d aa v flex) ab false flex (Tree.mk ak al am ao ap)).length)) (cs := bp) (xs := (bc (countedB flex (Fld.nul (Fld.mk ac af ag ae ah ai ab aa) v (Tree.mk n1 s2 b3 l4 u5)) ((things l4).length) 4 ++ ((things l4).take k).flatMap (valueB (partB d aa v flex) ab false flex)))) (news := bc (valueB (partB d aa v flex) ab false flex (Tree.mk ak al am ao ap))) kz kz rfl (own_src (aC.own 1 _ rfl) (bc_one _)) (own_cap (aC.own 1 _ rfl)) (by rw [List.length_append]; have h8_ := hr3 k; have h9_ := flatMap_le (g := valueB (partB d aa v flex) ab false flex) aL; omega) fun aw ax fN fO bV bW bX => ?_)
    clear bU aC
    have dE : (⟨aw, ax, 5, 1, (countedB flex (Fld.nul (Fld.mk ac af ag ae ah ai ab aa) v (Tree.mk n1 s2 b3 l4 u5)) ((things l4).length) 4 ++ ((things l4).take k).flatMap (valueB (partB d aa v flex) ab false flex)).length + (valueB (partB d aa v flex) ab false flex (Tree.mk ak al am ao ap)).length, bc (countedB flex (Fld.nul (Fld.mk ac af ag ae ah ai ab aa) v (Tree.mk n1 s2 b3 l4 u5)) ((things l4).length) 4 ++ ((things l4).take k).flatMap (valueB (partB d aa v flex) ab false flex)) ++ bc (valueB (partB d aa v flex) ab false flex (Tree.mk ak al am ao ap))⟩ : Rw) = brow aw ax 5 (countedB flex (Fld.nul (Fld.mk ac af ag ae ah ai ab aa) v (Tree.mk n1 s2 b3 l4 u5)) ((things l4).length) 4 ++ ((things l4).take k).flatMap (valueB (partB d aa v flex) ab false flex) ++ (valueB (partB d aa v flex) ab false flex (Tree.mk ak al am ao ap))) := brow_eq (rfl) rfl
    obtain ⟨aM, bY⟩ := bW.rowEq 0 [brow aw ax 5 (countedB flex (Fld.nul (Fld.mk ac af ag ae ah ai ab aa) v (Tree.mk n1 s2 b3 l4 u5)) ((things l4).length) 4 ++ ((things l4).take k).flatMap (valueB (partB d aa v flex) ab false flex) ++ (valueB (partB d aa v flex) ab false flex (Tree.mk ak al am ao ap))), brow bo bp 5 (valueB (partB d aa v flex) ab false flex (Tree.mk ak al am ao ap))] dE
    clear bW
    have bZ := EnvOk.pick bX (ks := [1, 2, 4, 10, 11, 30, 31, 34, 36, 38, 39, 40, 41, 42, 43, 44, 45, 46]) (env' := [(1, .v (.int .i64 v)), (2, .v (.bool flex)), (4, .p 0 0), (10, .v (.slice A8 ((things l4).length) c9)), (11, .v (.slice A_ ((countedB flex (Fld.nul (Fld.mk ac af ag ae ah ai ab aa) v (Tree.mk n1 s2 b3 l4 u5)) ((things l4).length) 4 ++ ((things l4).take k).flatMap (valueB (partB d aa v flex) ab false flex)).length) c_)), (30, .v (.int .i64 (((things l4).length : Nat) : Int))), (31, .v (.int .i64 ((k : Nat) : Int))), (34, .v (.slice A_ ((countedB flex (Fld.nul (Fld.mk ac af ag ae ah ai ab aa) v (Tree.mk n1 s2 b3 l4 u5)) ((things l4).length) 4 ++ ((things l4).take k).flatMap (valueB (partB d aa v flex) ab false flex)).length) c_)), (36, .v (.int .i64 ab)), (38, .v (.slice az aa.length aA)), (39, .v (.int .i64 v)), (40, .v (.bool flex)), (41, .v (.slice A8 ((things l4).length) c9)), (42, .v (.int .i64 ((k : Nat) : Int))), (43, .v (.pointer (some ⟨cN, cO + k * 5, none⟩))), (44, .v (.agg #[.int .i64 ak, .slice bf al.length bg, .bool am, .slice bh ao.length bi, .slice bj ap.length bk])), (45, .v (.slice bo ((valueB (partB d aa v flex) ab false flex (Tree.mk ak al am ao ap)).length) bp)), (46, .v (.slice aw ((countedB flex (Fld.nul (Fld.mk ac af ag ae ah ai ab aa) v (Tree.mk n1 s2 b3 l4 u5)) ((things l4).length) 4 ++ ((things l4).take k).flatMap (valueB (partB d aa v flex) ab false flex)).length + (valueB (partB d aa v flex) ab false flex (Tree.mk ak al am ao ap)).length) ax))]) kz
    have b8 := bZ.cast (env' := [(1, .v (.int .i64 v)), (2, .v (.bool flex)), (4, .p 0 0), (10, .v (.slice A8 ((things l4).length) c9)), (11, .v (.slice A_ ((countedB flex (Fld.nul (Fld.mk ac af ag ae ah ai ab aa) v (Tree.mk n1 s2 b3 l4 u5)) ((things l4).length) 4 ++ ((things l4).take k).flatMap (valueB (partB d aa v flex) ab false flex)).length) c_)), (30, .v (.int .i64 (((things l4).length : Nat) : Int))), (31, .v (.int .i64 ((k : Nat) : Int))), (34, .v (.slice A_ ((countedB flex (Fld.nul (Fld.mk ac af ag ae ah ai ab aa) v (Tree.mk n1 s2 b3 l4 u5)) ((things l4).length) 4 ++ ((things l4).take k).flatMap (valueB (partB d aa v flex) ab false flex)).length) c_)), (36, .v (.int .i64 ab)), (38, .v (.slice az aa.length aA)), (39, .v (.int .i64 v)), (40, .v (.bool flex)), (41, .v (.slice A8 ((things l4).length) c9)), (42, .v (.int .i64 ((k : Nat) : Int))), (43, .v (.pointer (some ⟨cN, cO + k * 5, none⟩))), (44, .v (.agg #[.int .i64 ak, .slice bf al.length bg, .bool am, .slice bh ao.length bi, .slice bj ap.length bk])), (45, .v (.slice bo ((valueB (partB d aa v flex) ab false flex (Tree.mk ak al am ao ap)).length) bp)), (46, .v (.slice aw ((countedB flex (Fld.nul (Fld.mk ac af ag ae ah ai ab aa) v (Tree.mk n1 s2 b3 l4 u5)) ((things l4).length) 4 ++ ((things l4).take k).flatMap (valueB (partB d aa v flex) ab false flex) ++ (valueB (partB d aa v flex) ab false flex (Tree.mk ak al am ao ap))).length) ax))]) (by simp only [List.length_append, List.length_cons, List.length_nil, Nat.zero_add])
    clear bX
    clear bZ
    have dF := TT.ofW ((bq.trans bV).trans bY) aM
    refine ⟨fun _ => dF, ?_⟩
    refine anyC_op (i := 13) kz (wpOp_pure [1, 2, 4, 10, 11, 30, 31] aM.cells b8 (env' := [(1, .v (.int .i64 v)), (2, .v (.bool flex)), (4, .p 0 0), (10, .v (.slice A8 ((things l4).length) c9)), (11, .v (.slice aw ((countedB flex (Fld.nul (Fld.mk ac af ag ae ah ai ab aa) v (Tree.mk n1 s2 b3 l4 u5)) ((things l4).length) 4 ++ ((things l4).take k).flatMap (valueB (partB d aa v flex) ab false flex) ++ (valueB (partB d aa v flex) ab false flex (Tree.mk ak al am ao ap))).length) ax)), (30, .v (.int .i64 (((things l4).length : Nat) : Int))), (31, .v (.int .i64 ((k : Nat) : Int)))]) kz fun fP cd => ?_)
    clear b8
    refine ⟨fun h => absurd rfl h, ?_⟩
    refine anyC_done kz ?_ _
    refine block_normal ?_
    refine then_normal ?_
    refine go_region [0, 1] kz ?_
    refine go_rn [0, 1] [] [(1, .v (.int .i64 v)), (2, .v (.bool flex)), (4, .p 0 0), (10, .v (.slice A8 ((things l4).length) c9)), (11, .v (.slice aw ((countedB flex (Fld.nul (Fld.mk ac af ag ae ah ai ab aa) v (Tree.mk n1 s2 b3 l4 u5)) ((things l4).length) 4 ++ ((things l4).take k).flatMap (valueB (partB d aa v flex) ab false flex) ++ (valueB (partB d aa v flex) ab false flex (Tree.mk ak al am ao ap))).length) ax)), (30, .v (.int .i64 (((things l4).length : Nat) : Int))), (31, .v (.int .i64 (IntKind.i64.wrap (((k : Nat) : Int) + 1))))] aM cd fun fQ bt => ?_
    clear cd
    refine wpOps_nil (then_normal ?_)
    obtain ⟨ce, dG⟩ := aM.cutR 1 [brow aw ax 5 (countedB flex (Fld.nul (Fld.mk ac af ag ae ah ai ab aa) v (Tree.mk n1 s2 b3 l4 u5)) ((things l4).length) 4 ++ ((things l4).take k).flatMap (valueB (partB d aa v flex) ab false flex) ++ (valueB (partB d aa v flex) ab false flex (Tree.mk ak al am ao ap)))]
    have cm : (countedB flex (Fld.nul (Fld.mk ac af ag ae ah ai ab aa) v (Tree.mk n1 s2 b3 l4 u5)) ((things l4).length) 4 ++ ((things l4).take k).flatMap (valueB (partB d aa v flex) ab false flex) ++ (valueB (partB d aa v flex) ab false flex (Tree.mk ak al am ao ap))) = (countedB flex (Fld.nul (Fld.mk ac af ag ae ah ai ab aa) v (Tree.mk n1 s2 b3 l4 u5)) ((things l4).length) 4 ++ ((things l4).take (k + 1)).flatMap (valueB (partB d aa v flex) ab false flex)) := by rw [flatMap_take_succ aL, List.append_assoc]
    have dH := congrArg (brow aw ax 5) cm
    obtain ⟨dI, dJ⟩ := ce.rowEq 0 [brow aw ax 5 (countedB flex (Fld.nul (Fld.mk ac af ag ae ah ai ab aa) v (Tree.mk n1 s2 b3 l4 u5)) ((things l4).length) 4 ++ ((things l4).take (k + 1)).flatMap (valueB (partB d aa v flex) ab false flex))] dH
    clear ce
    rw [cm] at bt
    have dK : IntKind.i64.wrap (((k : Nat) : Int) + 1) = ((k + 1 : Nat) : Int) := wrap_succ (by omega)
    rw [dK] at bt
    exact ⟨(things l4).length - (k + 1), by omega, k + 1, aw, ax, rfl, by omega, bt.pk, dI, ((((((dy.trans dz).trans bq).trans bV).trans bY).trans dG).trans dJ)⟩
   ·
    have eN := of_decide_eq_false aY
    refine wp_exit ?_
    refine then_exit ?_
    refine then_exit ?_
    refine block_exit ?_
    refine then_normal ?_
    refine go_sp [(8, .v (.slice A_ ((countedB flex (Fld.nul (Fld.mk ac af ag ae ah ai ab aa) v (Tree.mk n1 s2 b3 l4 u5)) ((things l4).length) 4 ++ ((things l4).take k).flatMap (valueB (partB d aa v flex) ab false flex)).length) c_))] av aB fun fR dL => ?_
    clear aB
    refine wp_ret ?_
    refine then_ret ?_
    refine leave dL av.cells (v := .slice A_ ((countedB flex (Fld.nul (Fld.mk ac af ag ae ah ai ab aa) v (Tree.mk n1 s2 b3 l4 u5)) ((things l4).length) 4 ++ ((things l4).take k).flatMap (valueB (partB d aa v flex) ab false flex)).length) c_) kz ?_
    have hkk : (things l4).take k = things l4 := List.take_of_length_le (by omega)
    exact fresh_end av (k := 0) rfl (by rw [hkk, fieldD_11 (by assumption) (by assumption)]; rfl)
 ·
  have eO : ac ≠ 11 := by simpa using cL
  refine wp_skip ?_
  refine then_normal ?_
  refine wp_seq ?_
  refine go_seq_region [0, 1, 2, 3, 4, 5, 6, 7] kz ?_
  refine go_rn [0, 1, 2, 3] [4, 5, 6, 7] [(1, .v (.int .i64 v)), (2, .v (.bool flex)), (4, .p 0 0), (7, .p 1 0), (9, .v (.bool (Fld.nul (Fld.mk ac af ag ae ah ai ab aa) v (Tree.mk n1 s2 b3 l4 u5)))), (52, .v (.bool (ac == 10)))] aj aU fun fS aN => ?_
  clear aU
  refine (Bool.eq_false_or_eq_true (ac == 10)).elim (fun aD => ?_) (fun aD => ?_)
  ·
   have eP : ac = 10 := by simpa using aD
   have cq := aN.cast (env' := [(1, .v (.int .i64 v)), (2, .v (.bool flex)), (4, .p 0 0), (7, .p 1 0), (9, .v (.bool (Fld.nul (Fld.mk ac af ag ae ah ai ab aa) v (Tree.mk n1 s2 b3 l4 u5)))), (52, .v (.bool true))]) (by rw [aD])
   clear aN
   refine go_rn [4, 5, 6, 7] [] [(1, .v (.int .i64 v)), (2, .v (.bool flex)), (4, .p 0 0), (7, .p 1 0), (9, .v (.bool (Fld.nul (Fld.mk ac af ag ae ah ai ab aa) v (Tree.mk n1 s2 b3 l4 u5)))), (56, .v (.bool (decide (ae ≥ 0))))] aj cq fun fT aE => ?_
   clear cq
   refine wpOps_nil (then_normal ?_)
   refine cond_of aE (b := decide (ae ≥ 0)) kz (fun bu => ?_) (fun bu => ?_)
   ·
    have eQ := of_decide_eq_true bu
    refine wp_seq ?_
    refine go_sp [(1, .v (.int .i64 v)), (2, .v (.bool flex)), (4, .p 0 0), (7, .p 1 0), (57, .v (.bool (Fld.nul (Fld.mk ac af ag ae ah ai ab aa) v (Tree.mk n1 s2 b3 l4 u5))))] aj aE fun fU aF => ?_
    clear aE
    refine cond_of aF (b := Fld.nul (Fld.mk ac af ag ae ah ai ab aa) v (Tree.mk n1 s2 b3 l4 u5)) kz (fun dM => ?_) (fun dM => ?_)
    ·
     refine go_seq_region [0, 1] kz ?_
     refine of_op (wpOp_call aF (f := 128) (vs := [.int .i64 (-1), .int .i64 1]) (d := 58) kz Tryz.call128 (sFixed (-1) 1 (by first | decide | exact widthI_le _ | omega) _) ?_)
     rintro e_ fV ⟨cP, cQ, rfl, dN, dO⟩
     refine ⟨_, rfl, fun fW cr => ?_⟩
     obtain ⟨bw, eR⟩ := aj.frFresh dO (brow cP cQ 5 (be 1 (-1))) (Nat.le_refl _) dN
     clear aF aj
     refine go_rn [1] [] [(8, .v (.slice cP ((be 1 (-1)).length) cQ))] bw cr fun fX dP => ?_
     clear cr
     refine wpOps_nil (then_normal ?_)
     refine wp_ret ?_
     refine then_ret ?_
     refine then_ret ?_
     refine leave dP bw.cells (v := .slice cP ((be 1 (-1)).length) cQ) kz ?_
     exact fresh_end bw (k := 0) rfl (by first | rw [fieldD_0 (by assumption) (by assumption)] | rw [fieldD_1 (by assumption) (by assumption) (by assumption)] | rw [fieldD_10 (by assumption) (by assumption) (by assumption) (by assumption)] | rw [fieldD_10n (by assumption) (by assumption) (by assumption) (by assumption)])
    ·
     refine wp_skip ?_
     refine then_normal ?_
     refine go_seq_drawK 8 kz aj fun fY eS dQ dR => ?_
     clear aj
     refine go_rnD [1, 2, 3, 4, 5] [(61, .v (.slice az aa.length aA)), (62, .v (.int .i64 v)), (63, .v (.bool flex)), (64, .v (.agg #[.int .i64 n1, .slice A6 s2.length c7, .bool b3, .slice A8 l4.length c9, .slice aP u5.length aQ]))] 4 (panicFree_then (panicFree_then panicFree_body)) (fun _ h => h.cells) dR aF fun fZ cu => ?_
     clear aF
     refine anyC_op (i := 0) kz (wpOp_call cu (f := 128) (vs := [.int .i64 1, .int .i64 1]) (d := 59) kz Tryz.call128 (sFixed 1 1 (by first | decide | exact widthI_le _ | omega) _) ?_)
     rintro e_ f5 ⟨bG, bH, rfl, dS, dT⟩
     refine ⟨_, rfl, fun f7 cw => ?_⟩
     obtain ⟨ar, bx⟩ := dQ.frFresh dT (brow bG bH 5 (be 1 1)) (Nat.le_refl _) dS
     clear cu
     have dU := TT.ofW bx ar
     refine ⟨fun _ => dU, ?_⟩
     refine anyC_op (i := 6) kz (wpOp_call cw (f := 56) (vs := [.slice az aa.length aA, .int .i64 v, .bool flex, .agg #[.int .i64 n1, .slice A6 s2.length c7, .bool b3, .slice A8 l4.length c9, .slice aP u5.length aQ]]) (d := 65) kz Tryz.call56 (hp _ _ aa v flex _ (Tree.mk n1 s2 b3 l4 u5) _ _ ⟨bE, (cX.move ar.step nilM ar.imm), (fun i_ x_ h_ => ((ef i_ x_ h_).move ar.step nilM ar.imm))⟩ hd (ht.move ar.step nilM ar.imm) (by have h9_ := hroom; rw [fieldD_10 (by assumption) (by assumption) (by assumption) (by assumption), List.length_append] at h9_; omega)) ?_)
     rintro e_ f8 ⟨bz, bA, rfl, dV, dW⟩
     refine ⟨_, rfl, fun f9 cz => ?_⟩
     obtain ⟨aG, cA⟩ := ar.frFresh dW (brow bz bA 5 (partB d aa v flex (Tree.mk n1 s2 b3 l4 u5))) (Nat.le_refl _) dV
     clear cw ar
     have dX := TT.ofW (bx.trans cA) aG
     refine ⟨fun _ => dX, ?_⟩
     refine anyC_op (i := 7) kz (wpOp_append aG cz (k := 0) (d := 66) (t := 22) (e := 5) (size := 1) (bytes := 1) (A := bG) (As := bz) (m0 := ((be 1 1).length)) (c := bH) (m := ((partB d aa v flex (Tree.mk n1 s2 b3 l4 u5)).length)) (cs := bA) (xs := (bc (be 1 1))) (news := bc (partB d aa v flex (Tree.mk n1 s2 b3 l4 u5))) kz kz rfl (own_src (aG.own 1 _ rfl) (bc_one _)) (own_cap (aG.own 1 _ rfl)) (by have h9_ := hroom; rw [fieldD_10 (by assumption) (by assumption) (by assumption) (by assumption), List.length_append] at h9_; omega) fun aH aI ga gb dY cB cC => ?_)
     clear cz aG
     have dZ : (⟨aH, aI, 5, 1, (be 1 1).length + (partB d aa v flex (Tree.mk n1 s2 b3 l4 u5)).length, bc (be 1 1) ++ bc (partB d aa v flex (Tree.mk n1 s2 b3 l4 u5))⟩ : Rw) = brow aH aI 5 (be 1 1 ++ (partB d aa v flex (Tree.mk n1 s2 b3 l4 u5))) := brow_eq (rfl) rfl
     obtain ⟨aO, d5⟩ := cB.rowEq 0 [brow aH aI 5 (be 1 1 ++ (partB d aa v flex (Tree.mk n1 s2 b3 l4 u5))), brow bz bA 5 (partB d aa v flex (Tree.mk n1 s2 b3 l4 u5))] dZ
     clear cB
     have cD := EnvOk.pick cC (ks := [61, 62, 63, 64, 59, 65, 66]) (env' := [(61, .v (.slice az aa.length aA)), (62, .v (.int .i64 v)), (63, .v (.bool flex)), (64, .v (.agg #[.int .i64 n1, .slice A6 s2.length c7, .bool b3, .slice A8 l4.length c9, .slice aP u5.length aQ])), (59, .v (.slice bG ((be 1 1).length) bH)), (65, .v (.slice bz ((partB d aa v flex (Tree.mk n1 s2 b3 l4 u5)).length) bA)), (66, .v (.slice aH ((be 1 1).length + (partB d aa v flex (Tree.mk n1 s2 b3 l4 u5)).length) aI))]) kz
     have cE := cD.cast (env' := [(61, .v (.slice az aa.length aA)), (62, .v (.int .i64 v)), (63, .v (.bool flex)), (64, .v (.agg #[.int .i64 n1, .slice A6 s2.length c7, .bool b3, .slice A8 l4.length c9, .slice aP u5.length aQ])), (59, .v (.slice bG ((be 1 1).length) bH)), (65, .v (.slice bz ((partB d aa v flex (Tree.mk n1 s2 b3 l4 u5)).length) bA)), (66, .v (.slice aH ((be 1 1 ++ (partB d aa v flex (Tree.mk n1 s2 b3 l4 u5))).length) aI))]) (by simp only [List.length_append, List.length_cons, List.length_nil, Nat.zero_add])
     clear cC
     clear cD
     have d6 := TT.ofW (((bx.trans cA).trans dY).trans d5) aO
     refine ⟨fun _ => d6, ?_⟩
     refine anyC_op (i := 8) kz (wpOp_pure [8] aO.cells cE (env' := [(8, .v (.slice aH ((be 1 1 ++ (partB d aa v flex (Tree.mk n1 s2 b3 l4 u5))).length) aI))]) kz fun gc d7 => ?_)
     clear cE
     refine ⟨fun h => absurd rfl h, ?_⟩
     refine anyC_done kz ?_ _
     refine then_normal ?_
     refine wp_ret ?_
     refine then_ret ?_
     refine leave d7 aO.cells (v := .slice aH ((be 1 1 ++ (partB d aa v flex (Tree.mk n1 s2 b3 l4 u5))).length) aI) kz ?_
     exact fresh_end aO (k := 0) rfl (by first | rw [fieldD_0 (by assumption) (by assumption)] | rw [fieldD_1 (by assumption) (by assumption) (by assumption)] | rw [fieldD_10 (by assumption) (by assumption) (by assumption) (by assumption)] | rw [fieldD_10n (by assumption) (by assumption) (by assumption) (by assumption)])
   ·
    have eU := of_decide_eq_false bu
    refine wp_skip ?_
    refine then_normal ?_
    refine go_seq_region [0, 1, 2, 3, 4, 5, 6, 7, 8, 9] kz ?_
    refine go_rn [0, 1, 2, 3, 4, 5, 6, 7] [8, 9] [(68, .v (.int .i64 ac)), (70, .v (.slice az aa.length aA)), (71, .v (.bool (Fld.nul (Fld.mk ac af ag ae ah ai ab aa) v (Tree.mk n1 s2 b3 l4 u5)))), (72, .v (.int .i64 v)), (73, .v (.bool flex)), (74, .v (.agg #[.int .i64 n1, .slice A6 s2.length c7, .bool b3, .slice A8 l4.length c9, .slice aP u5.length aQ]))] aj aE fun gd cG => ?_
    clear aE
    refine of_op (wpOp_call cG (f := 187) (vs := [.int .i64 ac, .slice az aa.length aA, .bool (Fld.nul (Fld.mk ac af ag ae ah ai ab aa) v (Tree.mk n1 s2 b3 l4 u5)), .int .i64 v, .bool flex, .agg #[.int .i64 n1, .slice A6 s2.length c7, .bool b3, .slice A8 l4.length c9, .slice aP u5.length aQ]]) (d := 75) kz Tryz.call187 (sValue hp ac _ _ aa (Fld.nul (Fld.mk ac af ag ae ah ai ab aa) v (Tree.mk n1 s2 b3 l4 u5)) v flex _ (Tree.mk n1 s2 b3 l4 u5) _ _ ⟨bE, (cX.move aj.step nilM aj.imm), (fun i_ x_ h_ => ((ef i_ x_ h_).move aj.step nilM aj.imm))⟩ hd (ht.move aj.step nilM aj.imm) (by have h_ := hroom; (first | rw [fieldD_0 (by assumption) (by assumption)] at h_ | rw [fieldD_1 (by assumption) (by assumption) (by assumption)] at h_); exact h_)) ?_)
    rintro e_ ge ⟨cR, cS, rfl, d8, d9⟩
    refine ⟨_, rfl, fun gg cH => ?_⟩
    obtain ⟨bB, eV⟩ := aj.frFresh d9 (brow cR cS 5 (valueB (partB d aa v flex) ac (Fld.nul (Fld.mk ac af ag ae ah ai ab aa) v (Tree.mk n1 s2 b3 l4 u5)) flex (Tree.mk n1 s2 b3 l4 u5))) (Nat.le_refl _) d8
    clear cG aj
    refine go_rn [9] [] [(8, .v (.slice cR ((valueB (partB d aa v flex) ac (Fld.nul (Fld.mk ac af ag ae ah ai ab aa) v (Tree.mk n1 s2 b3 l4 u5)) flex (Tree.mk n1 s2 b3 l4 u5)).length) cS))] bB cH fun gh ea => ?_
    clear cH
    refine wpOps_nil (then_normal ?_)
    refine wp_ret ?_
    refine leave ea bB.cells (v := .slice cR ((valueB (partB d aa v flex) ac (Fld.nul (Fld.mk ac af ag ae ah ai ab aa) v (Tree.mk n1 s2 b3 l4 u5)) flex (Tree.mk n1 s2 b3 l4 u5)).length) cS) kz ?_
    exact fresh_end bB (k := 0) rfl (by first | rw [fieldD_0 (by assumption) (by assumption)] | rw [fieldD_1 (by assumption) (by assumption) (by assumption)] | rw [fieldD_10 (by assumption) (by assumption) (by assumption) (by assumption)] | rw [fieldD_10n (by assumption) (by assumption) (by assumption) (by assumption)])
  ·
   have eW : ac ≠ 10 := by simpa using aD
   have cI := aN.cast (env' := [(1, .v (.int .i64 v)), (2, .v (.bool flex)), (4, .p 0 0), (7, .p 1 0), (9, .v (.bool (Fld.nul (Fld.mk ac af ag ae ah ai ab aa) v (Tree.mk n1 s2 b3 l4 u5)))), (52, .v (.bool false))]) (by rw [aD])
   clear aN
   refine go_rn [4, 5, 6, 7] [] [(1, .v (.int .i64 v)), (2, .v (.bool flex)), (4, .p 0 0), (7, .p 1 0), (9, .v (.bool (Fld.nul (Fld.mk ac af ag ae ah ai ab aa) v (Tree.mk n1 s2 b3 l4 u5)))), (56, .v (.bool false))] aj cI fun gi bC => ?_
   clear cI
   refine wpOps_nil (then_normal ?_)
   refine cond_false bC (b := false) kz rfl ?_
   refine wp_skip ?_
   refine then_normal ?_
   refine go_seq_region [0, 1, 2, 3, 4, 5, 6, 7, 8, 9] kz ?_
   refine go_rn [0, 1, 2, 3, 4, 5, 6, 7] [8, 9] [(68, .v (.int .i64 ac)), (70, .v (.slice az aa.length aA)), (71, .v (.bool (Fld.nul (Fld.mk ac af ag ae ah ai ab aa) v (Tree.mk n1 s2 b3 l4 u5)))), (72, .v (.int .i64 v)), (73, .v (.bool flex)), (74, .v (.agg #[.int .i64 n1, .slice A6 s2.length c7, .bool b3, .slice A8 l4.length c9, .slice aP u5.length aQ]))] aj bC fun gj cJ => ?_
   clear bC
   refine of_op (wpOp_call cJ (f := 187) (vs := [.int .i64 ac, .slice az aa.length aA, .bool (Fld.nul (Fld.mk ac af ag ae ah ai ab aa) v (Tree.mk n1 s2 b3 l4 u5)), .int .i64 v, .bool flex, .agg #[.int .i64 n1, .slice A6 s2.length c7, .bool b3, .slice A8 l4.length c9, .slice aP u5.length aQ]]) (d := 75) kz Tryz.call187 (sValue hp ac _ _ aa (Fld.nul (Fld.mk ac af ag ae ah ai ab aa) v (Tree.mk n1 s2 b3 l4 u5)) v flex _ (Tree.mk n1 s2 b3 l4 u5) _ _ ⟨bE, (cX.move aj.step nilM aj.imm), (fun i_ x_ h_ => ((ef i_ x_ h_).move aj.step nilM aj.imm))⟩ hd (ht.move aj.step nilM aj.imm) (by have h_ := hroom; (first | rw [fieldD_0 (by assumption) (by assumption)] at h_ | rw [fieldD_1 (by assumption) (by assumption) (by assumption)] at h_); exact h_)) ?_)
   rintro e_ gk ⟨cT, cU, rfl, eb, ec⟩
   refine ⟨_, rfl, fun gl cK => ?_⟩
   obtain ⟨bD, eX⟩ := aj.frFresh ec (brow cT cU 5 (valueB (partB d aa v flex) ac (Fld.nul (Fld.mk ac af ag ae ah ai ab aa) v (Tree.mk n1 s2 b3 l4 u5)) flex (Tree.mk n1 s2 b3 l4 u5))) (Nat.le_refl _) eb
   clear cJ aj
   refine go_rn [9] [] [(8, .v (.slice cT ((valueB (partB d aa v flex) ac (Fld.nul (Fld.mk ac af ag ae ah ai ab aa) v (Tree.mk n1 s2 b3 l4 u5)) flex (Tree.mk n1 s2 b3 l4 u5)).length) cU))] bD cK fun gm ee => ?_
   clear cK
   refine wpOps_nil (then_normal ?_)
   refine wp_ret ?_
   refine leave ee bD.cells (v := .slice cT ((valueB (partB d aa v flex) ac (Fld.nul (Fld.mk ac af ag ae ah ai ab aa) v (Tree.mk n1 s2 b3 l4 u5)) flex (Tree.mk n1 s2 b3 l4 u5)).length) cU) kz ?_
   exact fresh_end bD (k := 0) rfl (by first | rw [fieldD_0 (by assumption) (by assumption)] | rw [fieldD_1 (by assumption) (by assumption) (by assumption)] | rw [fieldD_10 (by assumption) (by assumption) (by assumption) (by assumption)] | rw [fieldD_10n (by assumption) (by assumption) (by assumption) (by assumption)])
theorem sUnknown (Af : Option Addr) (cf : Nat) (l : List Fld) (A : Option Addr) (c : Nat) (u : List (Int × Bs)) (w : World) (F : Nat → Nat → Prop) (hl : FldsR w F Af cf l) (hu : TagsR w F A c u) :
  Calls Tryz.prog 62 #[.slice Af l.length cf, .slice A u.length c] w (GivesU w F (unknownT l u)) := by
 obtain ⟨xf, hf1, hf2⟩ := hl.ex
 obtain ⟨xu, hu1, hu2⟩ := hu.ex
 have hsmu := hu1.small
 have hule : (u.take 32767).length ≤ 32767 := by rw [List.length_take]; omega
 refine enter (n := 85) Tryz.func62 rfl Tryz.ntmps62 kz fun a hE => ?_
 have hW := WOk.start w Nil
 refine go_sp [(0, .v (.slice Af l.length cf)), (1, .v (.slice A u.length c))] hW hE fun a1 hE2 => ?_
 clear hE
 refine go_seq_region [0, 1, 2] kz ?_
 refine go_rn [0] [1, 2] [(1, .v (.slice A u.length c)), (11, .v (.slice Af l.length cf))] hW hE2 fun a3 hE4 => ?_
 clear hE2
 refine of_op (wpOp_call hE4 (f := 126) (vs := [.slice Af l.length cf]) (d := 12) kz Tryz.call126 (sKnown _ _ l _ _ ⟨xf, (hf1.move hW.step nilM hW.imm), (fun i_ x_ h_ => ((hf2 i_ x_ h_).move hW.step nilM hW.imm))⟩) ?_)
 rintro e_ w6 ⟨rfl, hs5⟩
 refine ⟨_, rfl, fun a7 hE8 => ?_⟩
 have hW9 := hW.next_nil hs5
 have fC := hW.frN hs5
 clear hE4 hW
 refine go_rn [2] [] [(1, .v (.slice A u.length c)), (5, .v (.int .u32 (knownI l)))] hW9 hE8 fun hZ dD => ?_
 clear hE8
 refine wpOps_nil (then_normal ?_)
 refine go_sp [(1, .v (.slice A u.length c)), (5, .v (.int .u32 (knownI l))), (6, .v (.slice none 0 0))] hW9 dD fun ia dE => ?_
 clear dD
 refine wp_seq ?_
 refine go_seq_region [0, 1, 2, 3, 4, 5, 6] kz ?_
 refine go_rn [0, 1, 2, 3] [4, 5, 6] [(5, .v (.int .u32 (knownI l))), (6, .v (.slice none 0 0)), (13, .v (.slice A u.length c)), (16, .v (.int .i64 (if 32767 < ((u.length : Nat) : Int) then 32767 else ((u.length : Nat) : Int))))] hW9 dE fun ib dF => ?_
 clear dE
 refine of_op (wpOp_cut_hi dF (t := 24) (A := A) (m := u.length) (cp := c) (q := (if 32767 < ((u.length : Nat) : Int) then 32767 else ((u.length : Nat) : Int))) (d := 17) (j := (u.take 32767).length) kz (e := 66) (size := 2) (bytes := 32) kz (by simpa using min_lit u.length) (by rw [List.length_take]; have := hu1.le; omega) fun ic dG => ?_)
 clear dF
 refine go_rn [5, 6] [] [(5, .v (.int .u32 (knownI l))), (6, .v (.slice none 0 0)), (17, .v (.slice A ((u.take 32767).length) c)), (18, .v (.int .i64 (((u.take 32767).length : Nat) : Int))), (19, .v (.int .i64 0))] hW9 dG fun ig dH => ?_
 clear dG
 refine wpOps_nil (then_normal ?_)
 refine wp_block ?_
 have dI := hW9.addNil 66 2
 have fD := hW9.frNil 66 2
 clear hW9
 refine wp_loop_ghost (fun n_ a_ w_ => ∃ (k : Nat) (A_ : Option Addr) (c_ : Nat) (out : List (Int × Bs)) (css : List (List Value)), n_ = (u.take 32767).length - k ∧ k ≤ (u.take 32767).length ∧ (TagsE w_ (Imm F w w_ [] [⟨A_, c_, 66, 2, out.length, css.flatten⟩]) out css) ∧ (out = ((u.take 32767).take k).foldl (insTag (knownI l)) []) ∧ (out.length ≤ k) ∧ LInv dI 85 [] [⟨A_, c_, 66, 2, out.length, css.flatten⟩] [(5, .v (.int .u32 (knownI l))), (6, .v (.slice A_ out.length c_)), (17, .v (.slice A ((u.take 32767).length) c)), (18, .v (.int .i64 (((u.take 32767).length : Nat) : Int))), (19, .v (.int .i64 ((k : Nat) : Int)))] a_ w_) ((u.take 32767).length) ⟨0, none, 0, [], [], by omega, by omega, TagsE.nil _ _, rfl, Nat.zero_le _, dH.pk, dI, Fr.refl _ _ _⟩ ?_
 clear dH
 rintro ii ij ik ⟨k, A_, c_, out, css, fE, fF, hT, hout, hlen, dJ, aR, aZ⟩
 refine go_sp [(5, .v (.int .u32 (knownI l))), (6, .v (.slice A_ out.length c_)), (17, .v (.slice A ((u.take 32767).length) c)), (18, .v (.int .i64 (((u.take 32767).length : Nat) : Int))), (19, .v (.int .i64 ((k : Nat) : Int))), (20, .v (.bool (decide (((k : Nat) : Int) < (((u.take 32767).length : Nat) : Int)))))] aR dJ fun il ba => ?_
 clear dJ
 refine wp_seq ?_
 refine cond_of ba (b := decide (((k : Nat) : Int) < (((u.take 32767).length : Nat) : Int))) kz (fun dx => ?_) (fun dx => ?_)
 ·
  have fG := of_decide_eq_true dx
  refine wp_skip ?_
  refine then_normal ?_
  refine wp_seq ?_
  refine wp_block ?_
  refine go_seq_region [0, 1, 2, 3] kz ?_
  obtain ⟨fH, fI, eY, fJ, bT⟩ := Slots.get (tags_take_slots hu1 32767) (i := k) (by omega)
  obtain ⟨⟨al, ax⟩, aX⟩ : ∃ x, (u.take 32767)[k]? = some x := ⟨_, List.getElem?_eq_getElem (by omega)⟩
  obtain ⟨⟨aI, aJ, dK, dL⟩, fb, fe⟩ := (tags_take_each hu2 32767) k al ax aX
  rw [dK] at bT
  refine of_op (wpOp_index ba (t := 24) (A := A) (m := ((u.take 32767).length)) (q := ((k : Nat) : Int)) (d := 21) kz (e := 66) (size := 2) (bytes := 32) kz eY rfl (by omega) fun im dM => ?_)
  clear ba
  refine of_op (wpOp_load dM (t := 66) (b := fH) (o := fI + k * 2) (d := 22) kz (cs := [.int .u32 al, .slice aI ax.length aJ]) (v := .agg #[.int .u32 al, .slice aI ax.length aJ]) kz (AtF.move bT aR.step nilM keepF).at_ fun io dN => ?_)
  clear dM
  refine of_op (wpOp_alloc aR dN (d := 8) (cs := [.int .u32 0, .slice none 0 0]) kz fun eZ ip iq fK fL ac dO dP => ?_)
  clear dN aR
  refine of_op (wpOp_store dO dP (oi := 0) (cs := [.int .u32 al, .slice aI ax.length aJ]) kz fun ir ae dy dQ => ?_)
  clear dP dO
  refine wpOps_nil (then_normal ?_)
  refine go_sp [(5, .v (.int .u32 (knownI l))), (6, .v (.slice A_ out.length c_)), (8, .p 0 0), (9, .v (.int .i64 0)), (17, .v (.slice A ((u.take 32767).length) c)), (18, .v (.int .i64 (((u.take 32767).length : Nat) : Int))), (19, .v (.int .i64 ((k : Nat) : Int)))] dy dQ fun iu dR => ?_
  clear dQ
  refine wp_seq ?_
  refine wp_block ?_
  refine wp_loop_ghost (fun n_ a_ w_ => ∃ (i : Nat), n_ = out.length - i ∧ (i ≤ out.length) ∧ (∀ q, q < i → (out.getD q (0, [])).1 < al) ∧ LInv dy 85 [⟨eZ, 0, [.int .u32 al, .slice aI ax.length aJ], true⟩] [⟨A_, c_, 66, 2, out.length, css.flatten⟩] [(5, .v (.int .u32 (knownI l))), (6, .v (.slice A_ out.length c_)), (8, .p 0 0), (9, .v (.int .i64 ((i : Nat) : Int))), (17, .v (.slice A ((u.take 32767).length) c)), (18, .v (.int .i64 (((u.take 32767).length : Nat) : Int))), (19, .v (.int .i64 ((k : Nat) : Int)))] a_ w_) (out.length - 0) ⟨0, rfl, Nat.zero_le _, fun q h_ => absurd h_ (Nat.not_lt_zero q), dR.pk, dy, Fr.refl _ _ _⟩ ?_
  clear dR
  rintro iv iw ix ⟨i, fM, hi, hlt, dS, dT, aa⟩
  refine wp_seq ?_
  refine go_seq_drawQ kz dT fun iy ab aB => ?_
  clear dT
  refine go_rnD [0, 1, 2, 3, 4] [(5, .v (.int .u32 (knownI l))), (6, .v (.slice A_ out.length c_)), (8, .p 0 0), (9, .v (.int .i64 ((i : Nat) : Int))), (17, .v (.slice A ((u.take 32767).length) c)), (18, .v (.int .i64 (((u.take 32767).length : Nat) : Int))), (19, .v (.int .i64 ((k : Nat) : Int))), (27, .v (.bool (decide (((i : Nat) : Int) < ((out.length : Nat) : Int)))))] 9 (panicFree_then (panicFree_then (panicFree_then (panicFree_block (panicFree_then (panicFree_block (panicFree_then (panicFree_then (panicFree_block (panicFree_then panicFree_body)))))))))) (fun _ h => h ▸ aB.cells) rfl dS fun iz bJ => ?_
  clear dS
  refine (Bool.eq_false_or_eq_true (decide (((i : Nat) : Int) < ((out.length : Nat) : Int)))).elim (fun aS => ?_) (fun aS => ?_)
  ·
   have fN := of_decide_eq_true aS
   have dU := bJ.cast (env' := [(5, .v (.int .u32 (knownI l))), (6, .v (.slice A_ out.length c_)), (8, .p 0 0), (9, .v (.int .i64 ((i : Nat) : Int))), (17, .v (.slice A ((u.take 32767).length) c)), (18, .v (.int .i64 (((u.take 32767).length : Nat) : Int))), (19, .v (.int .i64 ((k : Nat) : Int))), (27, .v (.bool true))]) (by rw [aS])
   clear bJ
   refine go_rnD [5, 6, 10, 11] [(5, .v (.int .u32 (knownI l))), (6, .v (.slice A_ out.length c_)), (8, .p 0 0), (9, .v (.int .i64 ((i : Nat) : Int))), (17, .v (.slice A ((u.take 32767).length) c)), (18, .v (.int .i64 (((u.take 32767).length : Nat) : Int))), (19, .v (.int .i64 ((k : Nat) : Int))), (27, .v (.bool true)), (28, .v (.slice A_ out.length c_)), (29, .v (.int .i64 ((i : Nat) : Int))), (34, .v (.int .u32 al))] 5 (panicFree_then (panicFree_then (panicFree_then (panicFree_block (panicFree_then (panicFree_block (panicFree_then (panicFree_then (panicFree_block (panicFree_then panicFree_body)))))))))) (fun _ h => h ▸ aB.cells) rfl dU fun iA dV => ?_
   clear dU
   obtain ⟨e9, dW⟩ := own_addr (aB.own 0 _ rfl) (show 0 < out.length by omega)
   obtain ⟨⟨eX, iB⟩, bK⟩ : ∃ x, out[i]? = some x := ⟨_, List.getElem?_eq_getElem (by omega)⟩
   obtain ⟨iC, iD, fa, fO, iE, iF⟩ := TagsE.get2 (hT.move (((ac.trans ae).trans aa).trans ab).step immM (((ac.trans ae).trans aa).trans ab).to') bK
   have dX := own_at (aB.own 0 _ rfl) dW (flat_cells (hT.move (((ac.trans ae).trans aa).trans ab).step immM (((ac.trans ae).trans aa).trans ab).to').two fa)
   refine takeC_index dV (i := 7) (t := 24) (A := A_) (m := out.length) (q := ((i : Nat) : Int)) (d := 30) kz (e := 66) (size := 2) (bytes := 32) kz (b := e9) (o := 0) (j := i) dW (rfl) (by omega) kz kz (panicFree_then (panicFree_then (panicFree_then (panicFree_block (panicFree_then (panicFree_block (panicFree_then (panicFree_then (panicFree_block (panicFree_then panicFree_body)))))))))) rfl fun iG dY => ?_
   clear dV
   refine go_rnD [8] [(5, .v (.int .u32 (knownI l))), (6, .v (.slice A_ out.length c_)), (8, .p 0 0), (9, .v (.int .i64 ((i : Nat) : Int))), (17, .v (.slice A ((u.take 32767).length) c)), (18, .v (.int .i64 (((u.take 32767).length : Nat) : Int))), (19, .v (.int .i64 ((k : Nat) : Int))), (27, .v (.bool true)), (31, .v (.pointer (some ⟨e9, 0 + i * 2, none⟩))), (34, .v (.int .u32 al))] 3 (panicFree_then (panicFree_then (panicFree_then (panicFree_block (panicFree_then (panicFree_block (panicFree_then (panicFree_then (panicFree_block (panicFree_then panicFree_body)))))))))) (fun _ h => h ▸ aB.cells) rfl dY fun iH dZ => ?_
   clear dY
   refine takeC_load dZ (i := 9) (t := 64) (b := e9) (o := 0 + i * 2) (d := 32) kz (cs := [.int .u32 eX]) (v := .int .u32 eX) kz (fun w' h' => h' ▸ (At.drop dX 0 1)) kz kz (panicFree_then (panicFree_then (panicFree_then (panicFree_block (panicFree_then (panicFree_block (panicFree_then (panicFree_then (panicFree_block (panicFree_then panicFree_body)))))))))) rfl fun fP bU => ?_
   clear dZ
   refine go_rnD [12, 13] [(5, .v (.int .u32 (knownI l))), (6, .v (.slice A_ out.length c_)), (8, .p 0 0), (9, .v (.int .i64 ((i : Nat) : Int))), (17, .v (.slice A ((u.take 32767).length) c)), (18, .v (.int .i64 (((u.take 32767).length : Nat) : Int))), (19, .v (.int .i64 ((k : Nat) : Int))), (36, .v (.bool (decide (eX < al))))] 0 (panicFree_then (panicFree_then (panicFree_then (panicFree_block (panicFree_then (panicFree_block (panicFree_then (panicFree_then (panicFree_block (panicFree_then panicFree_body)))))))))) (fun _ h => h ▸ aB.cells) rfl bU fun fQ aK => ?_
   clear bU
   refine anyC_done kz ?_ _
   refine then_normal ?_
   refine cond_of aK (b := decide (eX < al)) kz (fun bd => ?_) (fun bd => ?_)
   ·
    have ff := of_decide_eq_true bd
    refine wp_skip ?_
    refine then_normal ?_
    refine wp_block ?_
    refine go_region [0, 1, 2] kz ?_
    refine go_rn [0, 1, 2] [] [(5, .v (.int .u32 (knownI l))), (6, .v (.slice A_ out.length c_)), (8, .p 0 0), (9, .v (.int .i64 (IntKind.i64.wrap (((i : Nat) : Int) + 1)))), (17, .v (.slice A ((u.take 32767).length) c)), (18, .v (.int .i64 (((u.take 32767).length : Nat) : Int))), (19, .v (.int .i64 ((k : Nat) : Int)))] aB aK fun fR bV => ?_
    clear aK
    refine wpOps_nil ?_
    refine block_normal ?_
    refine then_normal ?_
    have d5 : IntKind.i64.wrap (((i : Nat) : Int) + 1) = ((i + 1 : Nat) : Int) := wrap_succ (by omega)
    rw [d5] at bV
    exact ⟨out.length - (i + 1), by omega, (i + 1), rfl, by omega, fun q hq => by rcases Nat.lt_succ_iff_lt_or_eq.1 hq with h_ | h_; exact hlt q h_; rw [h_, getD_of bK]; assumption, bV.pk, aB, (aa.trans ab)⟩
   ·
    have fg := of_decide_eq_false bd
    refine wp_exit ?_
    refine then_exit ?_
    refine then_exit ?_
    refine block_exit ?_
    refine then_normal ?_
    refine wp_seq ?_
    refine go_seq_drawQ kz aB fun fS af ap => ?_
    refine go_rnD [0, 1, 2, 3, 4] [(5, .v (.int .u32 (knownI l))), (6, .v (.slice A_ out.length c_)), (8, .p 0 0), (9, .v (.int .i64 ((i : Nat) : Int))), (17, .v (.slice A ((u.take 32767).length) c)), (18, .v (.int .i64 (((u.take 32767).length : Nat) : Int))), (19, .v (.int .i64 ((k : Nat) : Int))), (43, .v (.bool (decide (al < (knownI l)))))] 15 (panicFree_then (panicFree_then (panicFree_block (panicFree_then (panicFree_then (panicFree_block (panicFree_then panicFree_body))))))) (fun _ h => h ▸ ap.cells) rfl aK fun fT aT => ?_
    clear aK
    refine (Bool.eq_false_or_eq_true (decide (al < (knownI l)))).elim (fun aL => ?_) (fun aL => ?_)
    ·
     have fh := of_decide_eq_true aL
     have bW := aT.cast (env' := [(5, .v (.int .u32 (knownI l))), (6, .v (.slice A_ out.length c_)), (8, .p 0 0), (9, .v (.int .i64 ((i : Nat) : Int))), (17, .v (.slice A ((u.take 32767).length) c)), (18, .v (.int .i64 (((u.take 32767).length : Nat) : Int))), (19, .v (.int .i64 ((k : Nat) : Int))), (43, .v (.bool true))]) (by rw [aL])
     clear aT
     refine go_rnD [5, 6, 7, 8, 9, 10, 11, 12, 13, 14, 15, 16, 17, 18, 19] [(5, .v (.int .u32 (knownI l))), (6, .v (.slice A_ out.length c_)), (8, .p 0 0), (9, .v (.int .i64 ((i : Nat) : Int))), (17, .v (.slice A ((u.take 32767).length) c)), (18, .v (.int .i64 (((u.take 32767).length : Nat) : Int))), (19, .v (.int .i64 ((k : Nat) : Int))), (58, .v (.bool true))] 0 (panicFree_then (panicFree_then (panicFree_block (panicFree_then (panicFree_then (panicFree_block (panicFree_then panicFree_body))))))) (fun _ h => h ▸ ap.cells) rfl bW fun fU bf => ?_
     clear bW
     refine anyC_done kz ?_ _
     refine then_normal ?_
     refine cond_true bf (b := true) kz rfl ?_
     refine wp_exit ?_
     refine then_exit ?_
     refine block_exit ?_
     refine then_normal ?_
     refine go_region [0, 1] kz ?_
     refine go_rn [0, 1] [] [(5, .v (.int .u32 (knownI l))), (6, .v (.slice A_ out.length c_)), (17, .v (.slice A ((u.take 32767).length) c)), (18, .v (.int .i64 (((u.take 32767).length : Nat) : Int))), (19, .v (.int .i64 (IntKind.i64.wrap (((k : Nat) : Int) + 1))))] ap bf fun fV d6 => ?_
     clear bf
     refine wpOps_nil (then_normal ?_)
     obtain ⟨bX, d7, bg⟩ := ap.cutB d6 0 [] [(5, .v (.int .u32 (knownI l))), (6, .v (.slice A_ out.length c_)), (17, .v (.slice A ((u.take 32767).length) c)), (18, .v (.int .i64 (((u.take 32767).length : Nat) : Int))), (19, .v (.int .i64 (IntKind.i64.wrap (((k : Nat) : Int) + 1))))]
     have d8 : IntKind.i64.wrap (((k : Nat) : Int) + 1) = ((k + 1 : Nat) : Int) := wrap_succ (by omega)
     rw [d8] at bX
     exact ⟨(u.take 32767).length - (k + 1), by omega, k + 1, A_, c_, out, css, rfl, by omega, (hT.move (((((ac.trans ae).trans aa).trans ab).trans af).trans bg).step immM (((((ac.trans ae).trans aa).trans ab).trans af).trans bg).to'), by rw [foldl_take_succ aX, ← hout]; exact (ins_low (by assumption)).symm, by omega, bX.pk, d7, ((((((aZ.trans ac).trans ae).trans aa).trans ab).trans af).trans bg)⟩
    ·
     have fi := of_decide_eq_false aL
     have bY := aT.cast (env' := [(5, .v (.int .u32 (knownI l))), (6, .v (.slice A_ out.length c_)), (8, .p 0 0), (9, .v (.int .i64 ((i : Nat) : Int))), (17, .v (.slice A ((u.take 32767).length) c)), (18, .v (.int .i64 (((u.take 32767).length : Nat) : Int))), (19, .v (.int .i64 ((k : Nat) : Int))), (43, .v (.bool false))]) (by rw [aL])
     clear aT
     refine go_rnD [5, 6, 7, 8, 9] [(5, .v (.int .u32 (knownI l))), (6, .v (.slice A_ out.length c_)), (8, .p 0 0), (9, .v (.int .i64 ((i : Nat) : Int))), (17, .v (.slice A ((u.take 32767).length) c)), (18, .v (.int .i64 (((u.take 32767).length : Nat) : Int))), (19, .v (.int .i64 ((k : Nat) : Int))), (43, .v (.bool false)), (48, .v (.bool (decide (((i : Nat) : Int) < ((out.length : Nat) : Int)))))] 10 (panicFree_then (panicFree_then (panicFree_block (panicFree_then (panicFree_then (panicFree_block (panicFree_then panicFree_body))))))) (fun _ h => h ▸ ap.cells) rfl bY fun fW bZ => ?_
     clear bY
     have d9 : (decide (((i : Nat) : Int) < ((out.length : Nat) : Int))) = true := aS
     have b8 := bZ.cast (env' := [(5, .v (.int .u32 (knownI l))), (6, .v (.slice A_ out.length c_)), (8, .p 0 0), (9, .v (.int .i64 ((i : Nat) : Int))), (17, .v (.slice A ((u.take 32767).length) c)), (18, .v (.int .i64 (((u.take 32767).length : Nat) : Int))), (19, .v (.int .i64 ((k : Nat) : Int))), (43, .v (.bool false)), (48, .v (.bool true))]) (by rw [d9])
     clear bZ
     refine go_rnD [10, 11, 15, 16] [(5, .v (.int .u32 (knownI l))), (6, .v (.slice A_ out.length c_)), (8, .p 0 0), (9, .v (.int .i64 ((i : Nat) : Int))), (17, .v (.slice A ((u.take 32767).length) c)), (18, .v (.int .i64 (((u.take 32767).length : Nat) : Int))), (19, .v (.int .i64 ((k : Nat) : Int))), (43, .v (.bool false)), (48, .v (.bool true)), (49, .v (.slice A_ out.length c_)), (50, .v (.int .i64 ((i : Nat) : Int))), (55, .v (.int .u32 al))] 6 (panicFree_then (panicFree_then (panicFree_block (panicFree_then (panicFree_then (panicFree_block (panicFree_then panicFree_body))))))) (fun _ h => h ▸ ap.cells) rfl b8 fun fX cd => ?_
     clear b8
     obtain ⟨dz, ce⟩ := own_addr (ap.own 0 _ rfl) (show 0 < out.length by omega)
     obtain ⟨⟨aY, fY⟩, aM⟩ : ∃ x, out[i]? = some x := ⟨_, List.getElem?_eq_getElem (by omega)⟩
     obtain ⟨fZ, f5, ea, fj, f7, f8⟩ := TagsE.get2 (hT.move ((((ac.trans ae).trans aa).trans ab).trans af).step immM ((((ac.trans ae).trans aa).trans ab).trans af).to') aM
     have dA := own_at (ap.own 0 _ rfl) ce (flat_cells (hT.move ((((ac.trans ae).trans aa).trans ab).trans af).step immM ((((ac.trans ae).trans aa).trans ab).trans af).to').two ea)
     refine takeC_index cd (i := 12) (t := 24) (A := A_) (m := out.length) (q := ((i : Nat) : Int)) (d := 51) kz (e := 66) (size := 2) (bytes := 32) kz (b := dz) (o := 0) (j := i) ce (rfl) (by omega) kz kz (panicFree_then (panicFree_then (panicFree_block (panicFree_then (panicFree_then (panicFree_block (panicFree_then panicFree_body))))))) rfl fun f9 cm => ?_
     clear cd
     refine go_rnD [13] [(5, .v (.int .u32 (knownI l))), (6, .v (.slice A_ out.length c_)), (8, .p 0 0), (9, .v (.int .i64 ((i : Nat) : Int))), (17, .v (.slice A ((u.take 32767).length) c)), (18, .v (.int .i64 (((u.take 32767).length : Nat) : Int))), (19, .v (.int .i64 ((k : Nat) : Int))), (43, .v (.bool false)), (48, .v (.bool true)), (52, .v (.pointer (some ⟨dz, 0 + i * 2, none⟩))), (55, .v (.int .u32 al))] 4 (panicFree_then (panicFree_then (panicFree_block (panicFree_then (panicFree_then (panicFree_block (panicFree_then panicFree_body))))))) (fun _ h => h ▸ ap.cells) rfl cm fun ga cq => ?_
     clear cm
     refine takeC_load cq (i := 14) (t := 64) (b := dz) (o := 0 + i * 2) (d := 53) kz (cs := [.int .u32 aY]) (v := .int .u32 aY) kz (fun w' h' => h' ▸ (At.drop dA 0 1)) kz kz (panicFree_then (panicFree_then (panicFree_block (panicFree_then (panicFree_then (panicFree_block (panicFree_then panicFree_body))))))) rfl fun gb cr => ?_
     clear cq
     refine go_rnD [17, 18, 19] [(5, .v (.int .u32 (knownI l))), (6, .v (.slice A_ out.length c_)), (8, .p 0 0), (9, .v (.int .i64 ((i : Nat) : Int))), (17, .v (.slice A ((u.take 32767).length) c)), (18, .v (.int .i64 (((u.take 32767).length : Nat) : Int))), (19, .v (.int .i64 ((k : Nat) : Int))), (58, .v (.bool (aY == al)))] 0 (panicFree_then (panicFree_then (panicFree_block (panicFree_then (panicFree_then (panicFree_block (panicFree_then panicFree_body))))))) (fun _ h => h ▸ ap.cells) rfl cr fun gc aN => ?_
     clear cr
     refine anyC_done kz ?_ _
     refine then_normal ?_
     refine cond_of aN (b := aY == al) kz (fun bh => ?_) (fun bh => ?_)
     ·
      have fk : aY = al := by simpa using bh
      refine wp_exit ?_
      refine then_exit ?_
      refine block_exit ?_
      refine then_normal ?_
      refine go_region [0, 1] kz ?_
      refine go_rn [0, 1] [] [(5, .v (.int .u32 (knownI l))), (6, .v (.slice A_ out.length c_)), (17, .v (.slice A ((u.take 32767).length) c)), (18, .v (.int .i64 (((u.take 32767).length : Nat) : Int))), (19, .v (.int .i64 (IntKind.i64.wrap (((k : Nat) : Int) + 1))))] ap aN fun gd eb => ?_
      clear aN
      refine wpOps_nil (then_normal ?_)
      obtain ⟨cu, ec, bi⟩ := ap.cutB eb 0 [] [(5, .v (.int .u32 (knownI l))), (6, .v (.slice A_ out.length c_)), (17, .v (.slice A ((u.take 32767).length) c)), (18, .v (.int .i64 (((u.take 32767).length : Nat) : Int))), (19, .v (.int .i64 (IntKind.i64.wrap (((k : Nat) : Int) + 1))))]
      have ee : IntKind.i64.wrap (((k : Nat) : Int) + 1) = ((k + 1 : Nat) : Int) := wrap_succ (by omega)
      rw [ee] at cu
      exact ⟨(u.take 32767).length - (k + 1), by omega, k + 1, A_, c_, out, css, rfl, by omega, (hT.move (((((ac.trans ae).trans aa).trans ab).trans af).trans bi).step immM (((((ac.trans ae).trans aa).trans ab).trans af).trans bi).to'), by rw [foldl_take_succ aX, ← hout]; exact (ins_same (tagPos_eq hi hlt (fun _ => by rw [getD_fst aM]; omega)) (by omega) (by rw [getD_fst aM]; omega)).symm, by omega, cu.pk, ec, ((((((aZ.trans ac).trans ae).trans aa).trans ab).trans af).trans bi)⟩
     ·
      have fm : aY ≠ al := by simpa using bh
      refine wp_skip ?_
      refine then_normal ?_
      refine go_seq_region [0, 1, 2, 3, 4] kz ?_
      refine go_rn [0, 1] [2, 3, 4] [(5, .v (.int .u32 (knownI l))), (8, .p 0 0), (9, .v (.int .i64 ((i : Nat) : Int))), (17, .v (.slice A ((u.take 32767).length) c)), (18, .v (.int .i64 (((u.take 32767).length : Nat) : Int))), (19, .v (.int .i64 ((k : Nat) : Int))), (59, .v (.slice A_ out.length c_)), (60, .v (.agg #[.int .u32 0, .slice none 0 0]))] ap aN fun ge cw => ?_
      clear aN
      refine wpOps_push ap cw (k := 0) (e := 66) (size := 2) (len := 1) (cs := [.int .u32 0, .slice none 0 0]) (d1 := 61) (d := 62) kz (t := 24) (bytes := 32) kz (fun _ => by kernel_rfl) rfl kz (by omega) fun ag ai gg gh am aU ⟨_, cz⟩ => ?_
      clear cw
      refine go_rn [4] [] [(5, .v (.int .u32 (knownI l))), (6, .v (.slice ag (out.length + 1) ai)), (8, .p 0 0), (9, .v (.int .i64 ((i : Nat) : Int))), (17, .v (.slice A ((u.take 32767).length) c)), (18, .v (.int .i64 (((u.take 32767).length : Nat) : Int))), (19, .v (.int .i64 ((k : Nat) : Int)))] aU cz fun gi cA => ?_
      clear cz
      refine wpOps_nil (then_normal ?_)
      refine wp_seq ?_
      refine go_sp [(5, .v (.int .u32 (knownI l))), (6, .v (.slice ag (out.length + 1) ai)), (8, .p 0 0), (9, .v (.int .i64 ((i : Nat) : Int))), (10, .v (.int .i64 (IntKind.i64.wrap (((out.length + 1 : Nat) : Int) - 1)))), (17, .v (.slice A ((u.take 32767).length) c)), (18, .v (.int .i64 (((u.take 32767).length : Nat) : Int))), (19, .v (.int .i64 ((k : Nat) : Int)))] aU cA fun gj bj => ?_
      clear cA
      refine wp_block ?_
      have hcl0 := (hT.move (((((ac.trans ae).trans aa).trans ab).trans af).trans am).step immM (((((ac.trans ae).trans aa).trans ab).trans af).trans am).to').len
      have ef : (⟨ag, ai, 66, 2, out.length + 1, css.flatten ++ [.int .u32 0, .slice none 0 0]⟩ : Rw) = ⟨ag, ai, 66, 2, out.length + 1, (rowAt css [.int .u32 0, .slice none 0 0] out.length).flatten⟩ := by rw [push_row hcl0]
      obtain ⟨cB, av⟩ := aU.rowEq 0 [⟨ag, ai, 66, 2, out.length + 1, (rowAt css [.int .u32 0, .slice none 0 0] out.length).flatten⟩] ef
      clear aU
      have eg : IntKind.i64.wrap (((out.length + 1 : Nat) : Int) - 1) = ((out.length : Nat) : Int) := by rw [wrap_i64 (by omega) (by omega)]; omega
      rw [eg] at bj
      refine wp_loop_ghost (fun n_ a_ w_ => ∃ (j : Nat), n_ = j ∧ (i ≤ j) ∧ (j ≤ out.length) ∧ LInv cB 85 [⟨eZ, 0, [.int .u32 al, .slice aI ax.length aJ], true⟩] [⟨ag, ai, 66, 2, out.length + 1, (rowAt css [.int .u32 0, .slice none 0 0] j).flatten⟩] [(5, .v (.int .u32 (knownI l))), (6, .v (.slice ag (out.length + 1) ai)), (8, .p 0 0), (9, .v (.int .i64 ((i : Nat) : Int))), (10, .v (.int .i64 ((j : Nat) : Int))), (17, .v (.slice A ((u.take 32767).length) c)), (18, .v (.int .i64 (((u.take 32767).length : Nat) : Int))), (19, .v (.int .i64 ((k : Nat) : Int)))] a_ w_) (out.length) ⟨out.length, rfl, hi, Nat.le_refl _, bj.pk, cB, Fr.refl _ _ _⟩ ?_
      clear bj
      rintro gk gl gm ⟨j, fo, hij, hjl, cC, ay, ar⟩
      refine wp_seq ?_
      refine go_sp [(5, .v (.int .u32 (knownI l))), (6, .v (.slice ag (out.length + 1) ai)), (8, .p 0 0), (9, .v (.int .i64 ((i : Nat) : Int))), (10, .v (.int .i64 ((j : Nat) : Int))), (17, .v (.slice A ((u.take 32767).length) c)), (18, .v (.int .i64 (((u.take 32767).length : Nat) : Int))), (19, .v (.int .i64 ((k : Nat) : Int))), (68, .v (.bool (decide (((j : Nat) : Int) > ((i : Nat) : Int)))))] ay cC fun gn aO => ?_
      clear cC
      refine cond_of aO (b := decide (((j : Nat) : Int) > ((i : Nat) : Int))) kz (fun bk => ?_) (fun bk => ?_)
      ·
       have fq := of_decide_eq_true bk
       refine wp_skip ?_
       refine then_normal ?_
       refine wp_seq ?_
       refine wp_block ?_
       refine go_region [0, 1, 2, 3, 4, 5, 6, 7, 8] kz ?_
       refine go_rn [0, 1, 2, 3, 4] [5, 6, 7, 8] [(5, .v (.int .u32 (knownI l))), (6, .v (.slice ag (out.length + 1) ai)), (8, .p 0 0), (9, .v (.int .i64 ((i : Nat) : Int))), (10, .v (.int .i64 ((j : Nat) : Int))), (17, .v (.slice A ((u.take 32767).length) c)), (18, .v (.int .i64 (((u.take 32767).length : Nat) : Int))), (19, .v (.int .i64 ((k : Nat) : Int))), (71, .v (.slice ag (out.length + 1) ai)), (72, .v (.int .i64 ((j : Nat) : Int))), (73, .v (.slice ag (out.length + 1) ai)), (75, .v (.int .i64 (IntKind.i64.wrap (((j : Nat) : Int) - 1))))] ay aO fun gp cD => ?_
       clear aO
       obtain ⟨eh, cE⟩ := own_addr (ay.own 0 _ rfl) (show 0 < out.length + 1 by omega)
       obtain ⟨⟨bL, bM⟩, ei⟩ : ∃ x, out[j - 1]? = some x := ⟨_, List.getElem?_eq_getElem (by omega)⟩
       obtain ⟨bN, bO, cG, fr, gq, gt⟩ := TagsE.get2 (hT.move (((((((ac.trans ae).trans aa).trans ab).trans af).trans am).trans av).trans ar).step immM (((((((ac.trans ae).trans aa).trans ab).trans af).trans am).trans av).trans ar).to') ei
       have dB := own_at (ay.own 0 _ rfl) cE (flat_cells (rowAt_two (hT.move (((((((ac.trans ae).trans aa).trans ab).trans af).trans am).trans av).trans ar).step immM (((((((ac.trans ae).trans aa).trans ab).trans af).trans am).trans av).trans ar).to').two rfl j) (rowAt_get (show j - 1 < j by omega) cG))
       refine of_op (wpOp_index cD (t := 24) (A := ag) (m := (out.length + 1)) (q := (IntKind.i64.wrap (((j : Nat) : Int) - 1))) (d := 76) kz (e := 66) (size := 2) (bytes := 32) kz (b := eh) (o := 0) (j := (j - 1)) cE (by rw [wrap_i64 (by omega) (by omega)]; omega) (by omega) fun gv cH => ?_)
       clear cD
       refine of_op (wpOp_load cH (t := 66) (b := eh) (o := 0 + (j - 1) * 2) (d := 77) kz (cs := [.int .u32 bL, .slice bN bM.length bO]) (v := .agg #[.int .u32 bL, .slice bN bM.length bO]) kz dB fun gw cI => ?_)
       clear cH
       obtain ⟨ej, cJ⟩ := own_addr (ay.own 0 _ rfl) (show 0 < out.length + 1 by omega)
       refine of_op (wpOp_index cI (t := 24) (A := ag) (m := (out.length + 1)) (q := ((j : Nat) : Int)) (d := 78) kz (e := 66) (size := 2) (bytes := 32) kz (b := ej) (o := 0) (j := j) cJ (rfl) (by omega) fun gx cK => ?_)
       clear cI
       refine of_op (wpOp_storeR ay cK (k := 0) (g := ej) (o := j * 2) (c := ai) (m := (out.length + 1)) (size := 2) (e := 66) (A := ag) (xs := ((rowAt css [.int .u32 0, .slice none 0 0] j).flatten)) (vs := [.int .u32 bL, .slice bN bM.length bO]) kz rfl cJ (by simp only [List.length_cons, List.length_nil]; omega) fun gy bn bo cL => ?_)
       clear cK ay
       refine wpOps_nil ?_
       refine block_normal ?_
       refine then_normal ?_
       refine go_region [0, 1, 2] kz ?_
       refine go_rn [0, 1, 2] [] [(5, .v (.int .u32 (knownI l))), (6, .v (.slice ag (out.length + 1) ai)), (8, .p 0 0), (9, .v (.int .i64 ((i : Nat) : Int))), (10, .v (.int .i64 (IntKind.i64.wrap (((j : Nat) : Int) - 1)))), (17, .v (.slice A ((u.take 32767).length) c)), (18, .v (.int .i64 (((u.take 32767).length : Nat) : Int))), (19, .v (.int .i64 ((k : Nat) : Int)))] bo cL fun gz cM => ?_
       clear cL
       refine wpOps_nil (then_normal ?_)
       have ek : (⟨ag, ai, 66, 2, out.length + 1, splice ((rowAt css [.int .u32 0, .slice none 0 0] j).flatten) (j * 2) [.int .u32 bL, .slice bN bM.length bO]⟩ : Rw) = ⟨ag, ai, 66, 2, out.length + 1, (rowAt css [.int .u32 0, .slice none 0 0] (j - 1)).flatten⟩ := by rw [shift_row (hT.move ((((((((ac.trans ae).trans aa).trans ab).trans af).trans am).trans av).trans ar).trans bn).step immM ((((((((ac.trans ae).trans aa).trans ab).trans af).trans am).trans av).trans ar).trans bn).to').two rfl (by omega) (by omega) cG]
       obtain ⟨em, eo⟩ := bo.rowEq 0 [⟨ag, ai, 66, 2, out.length + 1, (rowAt css [.int .u32 0, .slice none 0 0] (j - 1)).flatten⟩] ek
       clear bo
       have ep : IntKind.i64.wrap (((j : Nat) : Int) - 1) = ((j - 1 : Nat) : Int) := by rw [wrap_i64 (by omega) (by omega)]; omega
       rw [ep] at cM
       exact ⟨(j - 1), by omega, (j - 1), rfl, by omega, by omega, cM.pk, em, ((ar.trans bn).trans eo)⟩
      ·
       have ft := of_decide_eq_false bk
       refine wp_exit ?_
       refine then_exit ?_
       refine then_exit ?_
       refine block_exit ?_
       refine then_normal ?_
       refine go_region [0, 1, 2, 3, 4] kz ?_
       refine go_rn [0, 1, 2] [3, 4] [(5, .v (.int .u32 (knownI l))), (6, .v (.slice ag (out.length + 1) ai)), (17, .v (.slice A ((u.take 32767).length) c)), (18, .v (.int .i64 (((u.take 32767).length : Nat) : Int))), (19, .v (.int .i64 ((k : Nat) : Int))), (79, .v (.slice ag (out.length + 1) ai)), (80, .v (.int .i64 ((i : Nat) : Int))), (81, .v (.agg #[.int .u32 al, .slice aI ax.length aJ]))] ay aO fun gA cN => ?_
       clear aO
       have hji : j = i := by omega
       have eu : (⟨ag, ai, 66, 2, out.length + 1, (rowAt css [.int .u32 0, .slice none 0 0] j).flatten⟩ : Rw) = ⟨ag, ai, 66, 2, out.length + 1, (rowAt css [.int .u32 0, .slice none 0 0] i).flatten⟩ := by rw [hji]
       obtain ⟨bp, aC⟩ := ay.rowEq 0 [⟨ag, ai, 66, 2, out.length + 1, (rowAt css [.int .u32 0, .slice none 0 0] i).flatten⟩] eu
       clear ay
       obtain ⟨ev, cO⟩ := own_addr (bp.own 0 _ rfl) (show 0 < out.length + 1 by omega)
       refine of_op (wpOp_index cN (t := 24) (A := ag) (m := (out.length + 1)) (q := ((i : Nat) : Int)) (d := 82) kz (e := 66) (size := 2) (bytes := 32) kz (b := ev) (o := 0) (j := i) cO (rfl) (by omega) fun gB cP => ?_)
       clear cN
       refine of_op (wpOp_storeR bp cP (k := 0) (g := ev) (o := i * 2) (c := ai) (m := (out.length + 1)) (size := 2) (e := 66) (A := ag) (xs := ((rowAt css [.int .u32 0, .slice none 0 0] i).flatten)) (vs := [.int .u32 al, .slice aI ax.length aJ]) kz rfl cO (by simp only [List.length_cons, List.length_nil]; omega) fun gC aD cQ cR => ?_)
       clear cP bp
       refine wpOps_nil ?_
       refine block_normal ?_
       refine then_normal ?_
       refine go_region [0, 1] kz ?_
       refine go_rn [0, 1] [] [(5, .v (.int .u32 (knownI l))), (6, .v (.slice ag (out.length + 1) ai)), (17, .v (.slice A ((u.take 32767).length) c)), (18, .v (.int .i64 (((u.take 32767).length : Nat) : Int))), (19, .v (.int .i64 (IntKind.i64.wrap (((k : Nat) : Int) + 1))))] cQ cR fun gD ew => ?_
       clear cR
       refine wpOps_nil (then_normal ?_)
       obtain ⟨bq, cS, aE⟩ := cQ.cutB ew 0 [] [(5, .v (.int .u32 (knownI l))), (6, .v (.slice ag (out.length + 1) ai)), (17, .v (.slice A ((u.take 32767).length) c)), (18, .v (.int .i64 (((u.take 32767).length : Nat) : Int))), (19, .v (.int .i64 (IntKind.i64.wrap (((k : Nat) : Int) + 1))))]
       have hcl := (hT.move ((((((((((ac.trans ae).trans aa).trans ab).trans af).trans am).trans av).trans ar).trans aC).trans aD).trans aE).step immM ((((((((((ac.trans ae).trans aa).trans ab).trans af).trans am).trans av).trans ar).trans aC).trans aD).trans aE).to').len
       have ey : (⟨ag, ai, 66, 2, out.length + 1, splice ((rowAt css [.int .u32 0, .slice none 0 0] i).flatten) (i * 2) [.int .u32 al, .slice aI ax.length aJ]⟩ : Rw) = ⟨ag, ai, 66, 2, (out.take i ++ (al, ax) :: out.drop i).length, (css.take i ++ [.int .u32 al, .slice aI ax.length aJ] :: css.drop i).flatten⟩ := by rw [place_row (hT.move ((((((((((ac.trans ae).trans aa).trans ab).trans af).trans am).trans av).trans ar).trans aC).trans aD).trans aE).step immM ((((((((((ac.trans ae).trans aa).trans ab).trans af).trans am).trans av).trans ar).trans aC).trans aD).trans aE).to').two rfl (by omega) rfl, ins_length (al, ax) hi]
       obtain ⟨bt, bu⟩ := cS.rowEq 0 [⟨ag, ai, 66, 2, (out.take i ++ (al, ax) :: out.drop i).length, (css.take i ++ [.int .u32 al, .slice aI ax.length aJ] :: css.drop i).flatten⟩] ey
       clear cS
       have ez : IntKind.i64.wrap (((k : Nat) : Int) + 1) = ((k + 1 : Nat) : Int) := wrap_succ (by omega)
       rw [ez] at bq
       have eB : out.length + 1 = (out.take i ++ (al, ax) :: out.drop i).length := ins_length (al, ax) hi
       rw [eB] at bq
       exact ⟨(u.take 32767).length - (k + 1), by omega, k + 1, ag, ai, (out.take i ++ (al, ax) :: out.drop i), (css.take i ++ [.int .u32 al, .slice aI ax.length aJ] :: css.drop i), rfl, by omega, (hT.move (((((((((((ac.trans ae).trans aa).trans ab).trans af).trans am).trans av).trans ar).trans aC).trans aD).trans aE).trans bu).step immM (((((((((((ac.trans ae).trans aa).trans ab).trans af).trans am).trans av).trans ar).trans aC).trans aD).trans aE).trans bu).to').ins ⟨⟨aI, aJ, rfl, (dL.move bt.step nilM bt.imm)⟩, fb, fe⟩ hi, by rw [foldl_take_succ aX, ← hout]; exact (ins_new (tagPos_eq hi hlt (fun _ => by first | (rw [getD_fst bK]; omega) | (rw [getD_fst aM]; omega))) (by assumption) (fun _ => by first | (rw [getD_fst bK]; omega) | (rw [getD_fst aM]; omega))).symm, by rw [← ins_length (al, ax) hi]; omega, bq.pk, bt, ((((((((((((aZ.trans ac).trans ae).trans aa).trans ab).trans af).trans am).trans av).trans ar).trans aC).trans aD).trans aE).trans bu)⟩
  ·
   have fu := of_decide_eq_false aS
   have cT := bJ.cast (env' := [(5, .v (.int .u32 (knownI l))), (6, .v (.slice A_ out.length c_)), (8, .p 0 0), (9, .v (.int .i64 ((i : Nat) : Int))), (17, .v (.slice A ((u.take 32767).length) c)), (18, .v (.int .i64 (((u.take 32767).length : Nat) : Int))), (19, .v (.int .i64 ((k : Nat) : Int))), (27, .v (.bool false))]) (by rw [aS])
   clear bJ
   refine go_rnD [5, 6, 7, 8, 9, 10, 11, 12, 13] [(5, .v (.int .u32 (knownI l))), (6, .v (.slice A_ out.length c_)), (8, .p 0 0), (9, .v (.int .i64 ((i : Nat) : Int))), (17, .v (.slice A ((u.take 32767).length) c)), (18, .v (.int .i64 (((u.take 32767).length : Nat) : Int))), (19, .v (.int .i64 ((k : Nat) : Int))), (36, .v (.bool false))] 0 (panicFree_then (panicFree_then (panicFree_then (panicFree_block (panicFree_then (panicFree_block (panicFree_then (panicFree_then (panicFree_block (panicFree_then panicFree_body)))))))))) (fun _ h => h ▸ aB.cells) rfl cT fun gE bw => ?_
   clear cT
   refine anyC_done kz ?_ _
   refine then_normal ?_
   refine cond_false bw (b := false) kz rfl ?_
   refine wp_exit ?_
   refine then_exit ?_
   refine then_exit ?_
   refine block_exit ?_
   refine then_normal ?_
   refine wp_seq ?_
   refine go_seq_drawQ kz aB fun gF ak aA => ?_
   refine go_rnD [0, 1, 2, 3, 4] [(5, .v (.int .u32 (knownI l))), (6, .v (.slice A_ out.length c_)), (8, .p 0 0), (9, .v (.int .i64 ((i : Nat) : Int))), (17, .v (.slice A ((u.take 32767).length) c)), (18, .v (.int .i64 (((u.take 32767).length : Nat) : Int))), (19, .v (.int .i64 ((k : Nat) : Int))), (43, .v (.bool (decide (al < (knownI l)))))] 15 (panicFree_then (panicFree_then (panicFree_block (panicFree_then (panicFree_then (panicFree_block (panicFree_then panicFree_body))))))) (fun _ h => h ▸ aA.cells) rfl bw fun gG aV => ?_
   clear bw
   refine (Bool.eq_false_or_eq_true (decide (al < (knownI l)))).elim (fun aP => ?_) (fun aP => ?_)
   ·
    have fv := of_decide_eq_true aP
    have cU := aV.cast (env' := [(5, .v (.int .u32 (knownI l))), (6, .v (.slice A_ out.length c_)), (8, .p 0 0), (9, .v (.int .i64 ((i : Nat) : Int))), (17, .v (.slice A ((u.take 32767).length) c)), (18, .v (.int .i64 (((u.take 32767).length : Nat) : Int))), (19, .v (.int .i64 ((k : Nat) : Int))), (43, .v (.bool true))]) (by rw [aP])
    clear aV
    refine go_rnD [5, 6, 7, 8, 9, 10, 11, 12, 13, 14, 15, 16, 17, 18, 19] [(5, .v (.int .u32 (knownI l))), (6, .v (.slice A_ out.length c_)), (8, .p 0 0), (9, .v (.int .i64 ((i : Nat) : Int))), (17, .v (.slice A ((u.take 32767).length) c)), (18, .v (.int .i64 (((u.take 32767).length : Nat) : Int))), (19, .v (.int .i64 ((k : Nat) : Int))), (58, .v (.bool true))] 0 (panicFree_then (panicFree_then (panicFree_block (panicFree_then (panicFree_then (panicFree_block (panicFree_then panicFree_body))))))) (fun _ h => h ▸ aA.cells) rfl cU fun gH bx => ?_
    clear cU
    refine anyC_done kz ?_ _
    refine then_normal ?_
    refine cond_true bx (b := true) kz rfl ?_
    refine wp_exit ?_
    refine then_exit ?_
    refine block_exit ?_
    refine then_normal ?_
    refine go_region [0, 1] kz ?_
    refine go_rn [0, 1] [] [(5, .v (.int .u32 (knownI l))), (6, .v (.slice A_ out.length c_)), (17, .v (.slice A ((u.take 32767).length) c)), (18, .v (.int .i64 (((u.take 32767).length : Nat) : Int))), (19, .v (.int .i64 (IntKind.i64.wrap (((k : Nat) : Int) + 1))))] aA bx fun gI eC => ?_
    clear bx
    refine wpOps_nil (then_normal ?_)
    obtain ⟨cV, eD, bz⟩ := aA.cutB eC 0 [] [(5, .v (.int .u32 (knownI l))), (6, .v (.slice A_ out.length c_)), (17, .v (.slice A ((u.take 32767).length) c)), (18, .v (.int .i64 (((u.take 32767).length : Nat) : Int))), (19, .v (.int .i64 (IntKind.i64.wrap (((k : Nat) : Int) + 1))))]
    have eE : IntKind.i64.wrap (((k : Nat) : Int) + 1) = ((k + 1 : Nat) : Int) := wrap_succ (by omega)
    rw [eE] at cV
    exact ⟨(u.take 32767).length - (k + 1), by omega, k + 1, A_, c_, out, css, rfl, by omega, (hT.move (((((ac.trans ae).trans aa).trans ab).trans ak).trans bz).step immM (((((ac.trans ae).trans aa).trans ab).trans ak).trans bz).to'), by rw [foldl_take_succ aX, ← hout]; exact (ins_low (by assumption)).symm, by omega, cV.pk, eD, ((((((aZ.trans ac).trans ae).trans aa).trans ab).trans ak).trans bz)⟩
   ·
    have fw := of_decide_eq_false aP
    have cW := aV.cast (env' := [(5, .v (.int .u32 (knownI l))), (6, .v (.slice A_ out.length c_)), (8, .p 0 0), (9, .v (.int .i64 ((i : Nat) : Int))), (17, .v (.slice A ((u.take 32767).length) c)), (18, .v (.int .i64 (((u.take 32767).length : Nat) : Int))), (19, .v (.int .i64 ((k : Nat) : Int))), (43, .v (.bool false))]) (by rw [aP])
    clear aV
    refine go_rnD [5, 6, 7, 8, 9] [(5, .v (.int .u32 (knownI l))), (6, .v (.slice A_ out.length c_)), (8, .p 0 0), (9, .v (.int .i64 ((i : Nat) : Int))), (17, .v (.slice A ((u.take 32767).length) c)), (18, .v (.int .i64 (((u.take 32767).length : Nat) : Int))), (19, .v (.int .i64 ((k : Nat) : Int))), (43, .v (.bool false)), (48, .v (.bool (decide (((i : Nat) : Int) < ((out.length : Nat) : Int)))))] 10 (panicFree_then (panicFree_then (panicFree_block (panicFree_then (panicFree_then (panicFree_block (panicFree_then panicFree_body))))))) (fun _ h => h ▸ aA.cells) rfl cW fun gJ cX => ?_
    clear cW
    have eF : (decide (((i : Nat) : Int) < ((out.length : Nat) : Int))) = false := aS
    have cY := cX.cast (env' := [(5, .v (.int .u32 (knownI l))), (6, .v (.slice A_ out.length c_)), (8, .p 0 0), (9, .v (.int .i64 ((i : Nat) : Int))), (17, .v (.slice A ((u.take 32767).length) c)), (18, .v (.int .i64 (((u.take 32767).length : Nat) : Int))), (19, .v (.int .i64 ((k : Nat) : Int))), (43, .v (.bool false)), (48, .v (.bool false))]) (by rw [eF])
    clear cX
    refine go_rnD [10, 11, 12, 13, 14, 15, 16, 17, 18, 19] [(5, .v (.int .u32 (knownI l))), (6, .v (.slice A_ out.length c_)), (8, .p 0 0), (9, .v (.int .i64 ((i : Nat) : Int))), (17, .v (.slice A ((u.take 32767).length) c)), (18, .v (.int .i64 (((u.take 32767).length : Nat) : Int))), (19, .v (.int .i64 ((k : Nat) : Int))), (58, .v (.bool false))] 0 (panicFree_then (panicFree_then (panicFree_block (panicFree_then (panicFree_then (panicFree_block (panicFree_then panicFree_body))))))) (fun _ h => h ▸ aA.cells) rfl cY fun gK bA => ?_
    clear cY
    refine anyC_done kz ?_ _
    refine then_normal ?_
    refine cond_false bA (b := false) kz rfl ?_
    refine wp_skip ?_
    refine then_normal ?_
    refine go_seq_region [0, 1, 2, 3, 4] kz ?_
    refine go_rn [0, 1] [2, 3, 4] [(5, .v (.int .u32 (knownI l))), (8, .p 0 0), (9, .v (.int .i64 ((i : Nat) : Int))), (17, .v (.slice A ((u.take 32767).length) c)), (18, .v (.int .i64 (((u.take 32767).length : Nat) : Int))), (19, .v (.int .i64 ((k : Nat) : Int))), (59, .v (.slice A_ out.length c_)), (60, .v (.agg #[.int .u32 0, .slice none 0 0]))] aA bA fun gL cZ => ?_
    clear bA
    refine wpOps_push aA cZ (k := 0) (e := 66) (size := 2) (len := 1) (cs := [.int .u32 0, .slice none 0 0]) (d1 := 61) (d := 62) kz (t := 24) (bytes := 32) kz (fun _ => by kernel_rfl) rfl kz (by omega) fun ah aj gM gN ao aW ⟨_, c5⟩ => ?_
    clear cZ
    refine go_rn [4] [] [(5, .v (.int .u32 (knownI l))), (6, .v (.slice ah (out.length + 1) aj)), (8, .p 0 0), (9, .v (.int .i64 ((i : Nat) : Int))), (17, .v (.slice A ((u.take 32767).length) c)), (18, .v (.int .i64 (((u.take 32767).length : Nat) : Int))), (19, .v (.int .i64 ((k : Nat) : Int)))] aW c5 fun gO c6 => ?_
    clear c5
    refine wpOps_nil (then_normal ?_)
    refine wp_seq ?_
    refine go_sp [(5, .v (.int .u32 (knownI l))), (6, .v (.slice ah (out.length + 1) aj)), (8, .p 0 0), (9, .v (.int .i64 ((i : Nat) : Int))), (10, .v (.int .i64 (IntKind.i64.wrap (((out.length + 1 : Nat) : Int) - 1)))), (17, .v (.slice A ((u.take 32767).length) c)), (18, .v (.int .i64 (((u.take 32767).length : Nat) : Int))), (19, .v (.int .i64 ((k : Nat) : Int)))] aW c6 fun gP bB => ?_
    clear c6
    refine wp_block ?_
    have hcl0 := (hT.move (((((ac.trans ae).trans aa).trans ab).trans ak).trans ao).step immM (((((ac.trans ae).trans aa).trans ab).trans ak).trans ao).to').len
    have eG : (⟨ah, aj, 66, 2, out.length + 1, css.flatten ++ [.int .u32 0, .slice none 0 0]⟩ : Rw) = ⟨ah, aj, 66, 2, out.length + 1, (rowAt css [.int .u32 0, .slice none 0 0] out.length).flatten⟩ := by rw [push_row hcl0]
    obtain ⟨da, aw⟩ := aW.rowEq 0 [⟨ah, aj, 66, 2, out.length + 1, (rowAt css [.int .u32 0, .slice none 0 0] out.length).flatten⟩] eG
    clear aW
    have eH : IntKind.i64.wrap (((out.length + 1 : Nat) : Int) - 1) = ((out.length : Nat) : Int) := by rw [wrap_i64 (by omega) (by omega)]; omega
    rw [eH] at bB
    refine wp_loop_ghost (fun n_ a_ w_ => ∃ (j : Nat), n_ = j ∧ (i ≤ j) ∧ (j ≤ out.length) ∧ LInv da 85 [⟨eZ, 0, [.int .u32 al, .slice aI ax.length aJ], true⟩] [⟨ah, aj, 66, 2, out.length + 1, (rowAt css [.int .u32 0, .slice none 0 0] j).flatten⟩] [(5, .v (.int .u32 (knownI l))), (6, .v (.slice ah (out.length + 1) aj)), (8, .p 0 0), (9, .v (.int .i64 ((i : Nat) : Int))), (10, .v (.int .i64 ((j : Nat) : Int))), (17, .v (.slice A ((u.take 32767).length) c)), (18, .v (.int .i64 (((u.take 32767).length : Nat) : Int))), (19, .v (.int .i64 ((k : Nat) : Int)))] a_ w_) (out.length) ⟨out.length, rfl, hi, Nat.le_refl _, bB.pk, da, Fr.refl _ _ _⟩ ?_
    clear bB
    rintro gQ gR gS ⟨j, fx, hij, hjl, db, az, au⟩
    refine wp_seq ?_
    refine go_sp [(5, .v (.int .u32 (knownI l))), (6, .v (.slice ah (out.length + 1) aj)), (8, .p 0 0), (9, .v (.int .i64 ((i : Nat) : Int))), (10, .v (.int .i64 ((j : Nat) : Int))), (17, .v (.slice A ((u.take 32767).length) c)), (18, .v (.int .i64 (((u.take 32767).length : Nat) : Int))), (19, .v (.int .i64 ((k : Nat) : Int))), (68, .v (.bool (decide (((j : Nat) : Int) > ((i : Nat) : Int)))))] az db fun gT aQ => ?_
    clear db
    refine cond_of aQ (b := decide (((j : Nat) : Int) > ((i : Nat) : Int))) kz (fun bC => ?_) (fun bC => ?_)
    ·
     have fy := of_decide_eq_true bC
     refine wp_skip ?_
     refine then_normal ?_
     refine wp_seq ?_
     refine wp_block ?_
     refine go_region [0, 1, 2, 3, 4, 5, 6, 7, 8] kz ?_
     refine go_rn [0, 1, 2, 3, 4] [5, 6, 7, 8] [(5, .v (.int .u32 (knownI l))), (6, .v (.slice ah (out.length + 1) aj)), (8, .p 0 0), (9, .v (.int .i64 ((i : Nat) : Int))), (10, .v (.int .i64 ((j : Nat) : Int))), (17, .v (.slice A ((u.take 32767).length) c)), (18, .v (.int .i64 (((u.take 32767).length : Nat) : Int))), (19, .v (.int .i64 ((k : Nat) : Int))), (71, .v (.slice ah (out.length + 1) aj)), (72, .v (.int .i64 ((j : Nat) : Int))), (73, .v (.slice ah (out.length + 1) aj)), (75, .v (.int .i64 (IntKind.i64.wrap (((j : Nat) : Int) - 1))))] az aQ fun gU dc => ?_
     clear aQ
     obtain ⟨eI, de⟩ := own_addr (az.own 0 _ rfl) (show 0 < out.length + 1 by omega)
     obtain ⟨⟨bP, bQ⟩, eJ⟩ : ∃ x, out[j - 1]? = some x := ⟨_, List.getElem?_eq_getElem (by omega)⟩
     obtain ⟨bR, bS, df, fz, gV, gW⟩ := TagsE.get2 (hT.move (((((((ac.trans ae).trans aa).trans ab).trans ak).trans ao).trans aw).trans au).step immM (((((((ac.trans ae).trans aa).trans ab).trans ak).trans ao).trans aw).trans au).to') eJ
     have dC := own_at (az.own 0 _ rfl) de (flat_cells (rowAt_two (hT.move (((((((ac.trans ae).trans aa).trans ab).trans ak).trans ao).trans aw).trans au).step immM (((((((ac.trans ae).trans aa).trans ab).trans ak).trans ao).trans aw).trans au).to').two rfl j) (rowAt_get (show j - 1 < j by omega) df))
     refine of_op (wpOp_index dc (t := 24) (A := ah) (m := (out.length + 1)) (q := (IntKind.i64.wrap (((j : Nat) : Int) - 1))) (d := 76) kz (e := 66) (size := 2) (bytes := 32) kz (b := eI) (o := 0) (j := (j - 1)) de (by rw [wrap_i64 (by omega) (by omega)]; omega) (by omega) fun gX dg => ?_)
     clear dc
     refine of_op (wpOp_load dg (t := 66) (b := eI) (o := 0 + (j - 1) * 2) (d := 77) kz (cs := [.int .u32 bP, .slice bR bQ.length bS]) (v := .agg #[.int .u32 bP, .slice bR bQ.length bS]) kz dC fun gY dh => ?_)
     clear dg
     obtain ⟨eK, di⟩ := own_addr (az.own 0 _ rfl) (show 0 < out.length + 1 by omega)
     refine of_op (wpOp_index dh (t := 24) (A := ah) (m := (out.length + 1)) (q := ((j : Nat) : Int)) (d := 78) kz (e := 66) (size := 2) (bytes := 32) kz (b := eK) (o := 0) (j := j) di (rfl) (by omega) fun gZ dj => ?_)
     clear dh
     refine of_op (wpOp_storeR az dj (k := 0) (g := eK) (o := j * 2) (c := aj) (m := (out.length + 1)) (size := 2) (e := 66) (A := ah) (xs := ((rowAt css [.int .u32 0, .slice none 0 0] j).flatten)) (vs := [.int .u32 bP, .slice bR bQ.length bS]) kz rfl di (by simp only [List.length_cons, List.length_nil]; omega) fun g6 bD bE dl => ?_)
     clear dj az
     refine wpOps_nil ?_
     refine block_normal ?_
     refine then_normal ?_
     refine go_region [0, 1, 2] kz ?_
     refine go_rn [0, 1, 2] [] [(5, .v (.int .u32 (knownI l))), (6, .v (.slice ah (out.length + 1) aj)), (8, .p 0 0), (9, .v (.int .i64 ((i : Nat) : Int))), (10, .v (.int .i64 (IntKind.i64.wrap (((j : Nat) : Int) - 1)))), (17, .v (.slice A ((u.take 32767).length) c)), (18, .v (.int .i64 (((u.take 32767).length : Nat) : Int))), (19, .v (.int .i64 ((k : Nat) : Int)))] bE dl fun g7 dp => ?_
     clear dl
     refine wpOps_nil (then_normal ?_)
     have eL : (⟨ah, aj, 66, 2, out.length + 1, splice ((rowAt css [.int .u32 0, .slice none 0 0] j).flatten) (j * 2) [.int .u32 bP, .slice bR bQ.length bS]⟩ : Rw) = ⟨ah, aj, 66, 2, out.length + 1, (rowAt css [.int .u32 0, .slice none 0 0] (j - 1)).flatten⟩ := by rw [shift_row (hT.move ((((((((ac.trans ae).trans aa).trans ab).trans ak).trans ao).trans aw).trans au).trans bD).step immM ((((((((ac.trans ae).trans aa).trans ab).trans ak).trans ao).trans aw).trans au).trans bD).to').two rfl (by omega) (by omega) df]
     obtain ⟨eM, eN⟩ := bE.rowEq 0 [⟨ah, aj, 66, 2, out.length + 1, (rowAt css [.int .u32 0, .slice none 0 0] (j - 1)).flatten⟩] eL
     clear bE
     have eO : IntKind.i64.wrap (((j : Nat) : Int) - 1) = ((j - 1 : Nat) : Int) := by rw [wrap_i64 (by omega) (by omega)]; omega
     rw [eO] at dp
     exact ⟨(j - 1), by omega, (j - 1), rfl, by omega, by omega, dp.pk, eM, ((au.trans bD).trans eN)⟩
    ·
     have fA := of_decide_eq_false bC
     refine wp_exit ?_
     refine then_exit ?_
     refine then_exit ?_
     refine block_exit ?_
     refine then_normal ?_
     refine go_region [0, 1, 2, 3, 4] kz ?_
     refine go_rn [0, 1, 2] [3, 4] [(5, .v (.int .u32 (knownI l))), (6, .v (.slice ah (out.length + 1) aj)), (17, .v (.slice A ((u.take 32767).length) c)), (18, .v (.int .i64 (((u.take 32767).length : Nat) : Int))), (19, .v (.int .i64 ((k : Nat) : Int))), (79, .v (.slice ah (out.length + 1) aj)), (80, .v (.int .i64 ((i : Nat) : Int))), (81, .v (.agg #[.int .u32 al, .slice aI ax.length aJ]))] az aQ fun g8 dq => ?_
     clear aQ
     have hji : j = i := by omega
     have eP : (⟨ah, aj, 66, 2, out.length + 1, (rowAt css [.int .u32 0, .slice none 0 0] j).flatten⟩ : Rw) = ⟨ah, aj, 66, 2, out.length + 1, (rowAt css [.int .u32 0, .slice none 0 0] i).flatten⟩ := by rw [hji]
     obtain ⟨bF, aF⟩ := az.rowEq 0 [⟨ah, aj, 66, 2, out.length + 1, (rowAt css [.int .u32 0, .slice none 0 0] i).flatten⟩] eP
     clear az
     obtain ⟨eQ, dr⟩ := own_addr (bF.own 0 _ rfl) (show 0 < out.length + 1 by omega)
     refine of_op (wpOp_index dq (t := 24) (A := ah) (m := (out.length + 1)) (q := ((i : Nat) : Int)) (d := 82) kz (e := 66) (size := 2) (bytes := 32) kz (b := eQ) (o := 0) (j := i) dr (rfl) (by omega) fun g9 dt => ?_)
     clear dq
     refine of_op (wpOp_storeR bF dt (k := 0) (g := eQ) (o := i * 2) (c := aj) (m := (out.length + 1)) (size := 2) (e := 66) (A := ah) (xs := ((rowAt css [.int .u32 0, .slice none 0 0] i).flatten)) (vs := [.int .u32 al, .slice aI ax.length aJ]) kz rfl dr (by simp only [List.length_cons, List.length_nil]; omega) fun hC aG du dv => ?_)
     clear dt bF
     refine wpOps_nil ?_
     refine block_normal ?_
     refine then_normal ?_
     refine go_region [0, 1] kz ?_
     refine go_rn [0, 1] [] [(5, .v (.int .u32 (knownI l))), (6, .v (.slice ah (out.length + 1) aj)), (17, .v (.slice A ((u.take 32767).length) c)), (18, .v (.int .i64 (((u.take 32767).length : Nat) : Int))), (19, .v (.int .i64 (IntKind.i64.wrap (((k : Nat) : Int) + 1))))] du dv fun hJ eR => ?_
     clear dv
     refine wpOps_nil (then_normal ?_)
     obtain ⟨bG, dw, aH⟩ := du.cutB eR 0 [] [(5, .v (.int .u32 (knownI l))), (6, .v (.slice ah (out.length + 1) aj)), (17, .v (.slice A ((u.take 32767).length) c)), (18, .v (.int .i64 (((u.take 32767).length : Nat) : Int))), (19, .v (.int .i64 (IntKind.i64.wrap (((k : Nat) : Int) + 1))))]
     have hcl := (hT.move ((((((((((ac.trans ae).trans aa).trans ab).trans ak).trans ao).trans aw).trans au).trans aF).trans aG).trans aH).step immM ((((((((((ac.trans ae).trans aa).trans ab).trans ak).trans ao).trans aw).trans au).trans aF).trans aG).trans aH).to').len
     have eS : (⟨ah, aj, 66, 2, out.length + 1, splice ((rowAt css [.int .u32 0, .slice none 0 0] i).flatten) (i * 2) [.int .u32 al, .slice aI ax.length aJ]⟩ : Rw) = ⟨ah, aj, 66, 2, (out.take i ++ (al, ax) :: out.drop i).length, (css.take i ++ [.int .u32 al, .slice aI ax.length aJ] :: css.drop i).flatten⟩ := by rw [place_row (hT.move ((((((((((ac.trans ae).trans aa).trans ab).trans ak).trans ao).trans aw).trans au).trans aF).trans aG).trans aH).step immM ((((((((((ac.trans ae).trans aa).trans ab).trans ak).trans ao).trans aw).trans au).trans aF).trans aG).trans aH).to').two rfl (by omega) rfl, ins_length (al, ax) hi]
     obtain ⟨bH, bI⟩ := dw.rowEq 0 [⟨ah, aj, 66, 2, (out.take i ++ (al, ax) :: out.drop i).length, (css.take i ++ [.int .u32 al, .slice aI ax.length aJ] :: css.drop i).flatten⟩] eS
     clear dw
     have eU : IntKind.i64.wrap (((k : Nat) : Int) + 1) = ((k + 1 : Nat) : Int) := wrap_succ (by omega)
     rw [eU] at bG
     have eV : out.length + 1 = (out.take i ++ (al, ax) :: out.drop i).length := ins_length (al, ax) hi
     rw [eV] at bG
     exact ⟨(u.take 32767).length - (k + 1), by omega, k + 1, ah, aj, (out.take i ++ (al, ax) :: out.drop i), (css.take i ++ [.int .u32 al, .slice aI ax.length aJ] :: css.drop i), rfl, by omega, (hT.move (((((((((((ac.trans ae).trans aa).trans ab).trans ak).trans ao).trans aw).trans au).trans aF).trans aG).trans aH).trans bI).step immM (((((((((((ac.trans ae).trans aa).trans ab).trans ak).trans ao).trans aw).trans au).trans aF).trans aG).trans aH).trans bI).to').ins ⟨⟨aI, aJ, rfl, (dL.move bH.step nilM bH.imm)⟩, fb, fe⟩ hi, by rw [foldl_take_succ aX, ← hout]; exact (ins_new (tagPos_eq hi hlt (fun h_ => absurd h_ (by omega))) (by assumption) (fun h_ => absurd h_ (by omega))).symm, by rw [← ins_length (al, ax) hi]; omega, bG.pk, bH, ((((((((((((aZ.trans ac).trans ae).trans aa).trans ab).trans ak).trans ao).trans aw).trans au).trans aF).trans aG).trans aH).trans bI)⟩
 ·
  have fB := of_decide_eq_false dx
  refine wp_exit ?_
  refine then_exit ?_
  refine then_exit ?_
  refine block_exit ?_
  refine then_normal ?_
  refine go_sp [(4, .v (.slice A_ out.length c_))] aR ba fun hK eW => ?_
  clear ba
  refine wp_ret ?_
  refine leave eW aR.cells (v := .slice A_ out.length c_) kz ?_
  exact unknown_end aR (k := 0) rfl rfl rfl hT (by omega) (by rw [hout, List.take_of_length_le (by omega)]; rfl)
end Go.Proofs.YtgolpmkenmedoaaGreatDoor.ME