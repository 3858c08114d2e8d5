/- Words for trees that are laid anew. Own work. -/
import Derived.Test.YtbjopfcbpobnpaaPy
namespace Go.Proofs.Ytbjopfcbpobnpaa.ME
open Go
set_option linter.unusedVariables false
set_option linter.unusedSimpArgs false

theorem deep_get : ∀ {l : List Tree} {i : Nat} {x : Tree}, l[i]? = some x → x.depth ≤ deep l
  | [], i, x, h => by simp at h
  | a :: r, 0, x, h => by
    simp only [List.getElem?_cons_zero, Option.some.injEq] at h
    subst h
    exact Nat.le_max_left _ _
  | a :: r, i + 1, x, h => Nat.le_trans (deep_get (l := r) (i := i) (by simpa using h)) (Nat.le_max_right _ _)
theorem tdepth_mk (n : Int) (s : Bs) (b : Bool) (l : List Tree) (u : List (Int × Bs)) : (Tree.mk n s b l u).depth = deep l + 1 := by rw [Tree.depth]
theorem take_succ_of {α : Type} {l : List α} {k : Nat} {x : α} (h : l[k]? = some x) : l.take (k + 1) = l.take k ++ [x] := by rw [List.take_add_one, h]; rfl
section
variable {F : Nat → Nat → Prop} {w0 w : World} {tb : Tb} {rs : List Rw}
theorem own_fp (hW : WOk w0 Nil w tb rs) {k : Nat} {r : Rw} (hk : rs[k]? = some r) : ∀ g, r.A.map (·.block) = some g → ∀ o, Fp F w0 g o := by
  intro g hg o
  rcases hW.ownM k r hk g hg with h | h
  · exact .inr h
  · exact (h 0).elim
theorem trees_fp (hW : WOk w0 Nil w tb rs) {k : Nat} {A : Option Addr} {c e n : Nat} {xs : List Value} {l : List Tree} {css : List (List Value)} (hk : rs[k]? = some ⟨A, c, e, 5, n, xs⟩) (hT : Trees w (Imm F w0 w tb rs) xs l css) (hn : n = l.length) (hsm : l.length ≤ 1099511627776) :
    Slots w (Fp F w0) 5 A c l.length (fun i => css.getD i []) ∧ ∀ (i : Nat) (x : Tree), l[i]? = some x → TreeR w (Fp F w0) (css.getD i []) x :=
  (hT.move (Step.refl w Nil) nilM immOut).slots (hW.own k _ hk) hn hsm (own_fp hW hk)
theorem tags_fp (hW : WOk w0 Nil w tb rs) {k : Nat} {A : Option Addr} {c e n : Nat} {xs : List Value} {l : List (Int × Bs)} {css : List (List Value)} (hk : rs[k]? = some ⟨A, c, e, 2, n, xs⟩) (hT : Tags w (Imm F w0 w tb rs) xs l css) (hn : n = l.length) (hsm : l.length ≤ 1099511627776) : TagsR w (Fp F w0) A c l :=
  (hT.move (Step.refl w Nil) nilM immOut).slots (hW.own k _ hk) hn hsm (own_fp hW hk)
theorem tree_end (hW : WOk w0 Nil w tb rs) {A1 A2 A3 : Option Addr} {c1 c2 c3 n2 n3 : Nat} {n : Int} {s : Bs} {b : Bool} {l : List Tree} {u : List (Int × Bs)} {xs : Nat → List Value} {m : Nat} (hm : m = s.length) (hS : Octs w (Fp F w0) A1 c1 s) (hn2 : n2 = l.length) (hL : Slots w (Fp F w0) 5 A2 c2 l.length xs ∧ ∀ (i : Nat) (x : Tree), l[i]? = some x → TreeR w (Fp F w0) (xs i) x)
    (hn3 : n3 = u.length) (hU : TagsR w (Fp F w0) A3 c3 u) {t : Tree} (ht : t = .mk n s b l u) : GivesT w0 F t (.returned (.agg #[.int .i64 n, .slice A1 m c1, .bool b, .slice A2 n2 c2, .slice A3 n3 c3])) w := by
  subst hm; subst hn2; subst hn3; subst ht
  exact ⟨_, rfl, TreeR.mk xs hS hL.1 hL.2 hU, hW.step⟩
theorem startFp {G : Nat → Nat → Prop} : ∀ b o, G b o → b < w0.heap.size → Fp G w0 b o := fun _ _ h _ => .inl h
theorem noTrees (w : World) (F : Nat → Nat → Prop) : Slots w F 5 none 0 ([] : List Tree).length (fun _ => []) ∧ ∀ (i : Nat) (x : Tree), ([] : List Tree)[i]? = some x → TreeR w F [] x :=
  ⟨Slots.nil w F 5 _, fun i x h => by simp at h⟩
end

theorem fits_len (W : Fld → Tree → Tree) (t : Tree) : ∀ (l : List Fld) (i : Nat), (fitsW W l t i).length = l.length
  | [], i => rfl
  | f :: r, i => by rw [fitsW, List.length_cons, List.length_cons, fits_len W t r (i + 1)]
theorem fits_getI (W : Fld → Tree → Tree) (t : Tree) : ∀ {l : List Fld} {i k : Nat} {f : Fld}, l[k]? = some f → (fitsW W l t i)[k]? = some (W f (t.at_ (i + k)))
  | [], i, k, f, h => by simp at h
  | a :: r, i, 0, f, h => by
    simp only [List.getElem?_cons_zero, Option.some.injEq] at h
    subst h; rfl
  | a :: r, i, k + 1, f, h => by
    rw [fitsW, List.getElem?_cons_succ, fits_getI W t (l := r) (i := i + 1) (by simpa using h), show i + 1 + k = i + (k + 1) by omega]
theorem fits_get {W : Fld → Tree → Tree} {t : Tree} {l : List Fld} {k : Nat} {f : Fld} (h : l[k]? = some f) : (fitsW W l t 0)[k]? = some (W f (t.at_ k)) := by
  have := fits_getI W t (i := 0) h
  rwa [Nat.zero_add] at this
def wholeU (u : List (Int × Bs)) : List (Int × Bs) := u.map fun x => (x.1, whole x.2)
theorem wholeU_get {u : List (Int × Bs)} {k : Nat} {i : Int} {s : Bs} (h : u[k]? = some (i, s)) : (wholeU u)[k]? = some (i, whole s) := by
  rw [wholeU, List.getElem?_map, h]; rfl
theorem wholeU_len (u : List (Int × Bs)) : (wholeU u).length = u.length := by rw [wholeU, List.length_map]
section
variable {p : List Fld → Tree → Tree} {k x1 x2 x3 x4 x5 x6 v n : Int} {l : List Fld} {s : Bs} {b null : Bool} {ll : List Tree} {u : List (Int × Bs)}
theorem fitted_8 (h : k = 8 ∨ k = 9) : fitted0 p (.mk k x1 x2 x3 x4 x5 x6 l) null (.mk n s b ll u) = .mk 0 (whole s) null [] [] := by
  unfold fitted0
  rw [if_pos (show (Fld.mk k x1 x2 x3 x4 x5 x6 l).kind = 8 ∨ (Fld.mk k x1 x2 x3 x4 x5 x6 l).kind = 9 from h)]; rfl
theorem fitted_10 (h8 : k ≠ 8) (h9 : k ≠ 9) (h : k = 10) {t : Tree} {n' : Int} {s' : Bs} {b' : Bool} {l' : List Tree} {u' : List (Int × Bs)} (he : p l t = .mk n' s' b' l' u') : fitted0 p (.mk k x1 x2 x3 x4 x5 x6 l) null t = .mk n' s' null l' u' := by
  unfold fitted0
  rw [if_neg (show ¬ ((Fld.mk k x1 x2 x3 x4 x5 x6 l).kind = 8 ∨ (Fld.mk k x1 x2 x3 x4 x5 x6 l).kind = 9) from fun h => h.elim h8 h9), if_pos (show (Fld.mk k x1 x2 x3 x4 x5 x6 l).kind = 10 from h)]
  show (match p l t with | .mk n s _ l u => Tree.mk n s null l u) = _
  rw [he]
theorem fitted_else (h8 : k ≠ 8) (h9 : k ≠ 9) (h : k ≠ 10) : fitted0 p (.mk k x1 x2 x3 x4 x5 x6 l) null (.mk n s b ll u) = .mk n s false [] [] := by
  unfold fitted0
  rw [if_neg (show ¬ ((Fld.mk k x1 x2 x3 x4 x5 x6 l).kind = 8 ∨ (Fld.mk k x1 x2 x3 x4 x5 x6 l).kind = 9) from fun h => h.elim h8 h9), if_neg (show ¬ (Fld.mk k x1 x2 x3 x4 x5 x6 l).kind = 10 from h)]; rfl
theorem fittedW_no {t : Tree} (h : k ≠ 11) : fittedW p v (.mk k x1 x2 x3 x4 x5 x6 l) t = fitted0 p (.mk k x1 x2 x3 x4 x5 x6 l) (Fld.nul (.mk k x1 x2 x3 x4 x5 x6 l) v t) t := by
  unfold fittedW
  rw [if_neg (show ¬ (Fld.mk k x1 x2 x3 x4 x5 x6 l).kind = 11 from h)]
/-- a list of things that fit -/
def fitL (p : List Fld → Tree → Tree) (v : Int) (f : Fld) (ll : List Tree) : List Tree := (things ll).map fun x => fitted0 p f (f.nul v x) x
theorem fitL_len (f : Fld) : (fitL p v f ll).length = (things ll).length := by rw [fitL, List.length_map]
theorem fitL_get {f : Fld} {i : Nat} {x : Tree} (h : (things ll)[i]? = some x) : (fitL p v f ll)[i]? = some (fitted0 p f (f.nul v x) x) := by
  rw [fitL, List.getElem?_map, h]; rfl
theorem fittedW_11 (h : k = 11) {c : Bool} (hc : (Fld.nul (.mk k x1 x2 x3 x4 x5 x6 l) v (.mk n s b ll u) || (decide (x4 ≥ 0) && ((((ll.length : Nat) : Int)) == 0))) = c) : fittedW p v (.mk k x1 x2 x3 x4 x5 x6 l) (.mk n s b ll u) = .mk 0 [] c (fitL p v (.mk x6 x1 x2 (-1) (-1) x5 x6 l) ll) [] := by
  unfold fittedW
  rw [if_pos (show (Fld.mk k x1 x2 x3 x4 x5 x6 l).kind = 11 from h), ← hc]
  have e : decide ((Tree.mk n s b ll u).L.length = 0) = (((((ll.length : Nat) : Int)) == 0)) := by
    rw [Bool.eq_iff_iff, decide_eq_true_iff, beq_iff_eq]
    show ll.length = 0 ↔ _
    omega
  rw [e]; rfl
end

theorem plains_mem : ∀ {l : List Fld} {f : Fld}, plains l → f ∈ l → f.plain
  | [], f, _, h => by cases h
  | a :: r, f, hp, h => by
    rcases List.mem_cons.1 h with rfl | h
    · exact hp.1
    · exact plains_mem (l := r) hp.2 h
theorem plain_sub {f : Fld} (h : f.plain) : plains f.sub := by cases f; exact h.2
/-- a function that hands back a truth value, whichever -/
def GivesB (w : World) : Ending → World → Prop := fun en w' => ∃ b, en = .returned (.bool b) ∧ Step w w' Nil
/-- fields in a row that is being laid -/
structure Flds (w : World) (F : Nat → Nat → Prop) (xs : List Value) (l : List Fld) (css : List (List Value)) : Prop where
  flat : Flat 8 xs css
  len : css.length = l.length
  each : ∀ (i : Nat) (c : List Value) (x : Fld), css[i]? = some c → l[i]? = some x → FldR w F c x
theorem Flds.nil (w : World) (F : Nat → Nat → Prop) : Flds w F [] [] [] := ⟨Flat.nil 8, rfl, fun i c x h => by simp at h⟩
theorem FldR.eight {w : World} {F : Nat → Nat → Prop} {cs : List Value} {t : Fld} (h : FldR w F cs t) : cs.length = 8 := by
  obtain ⟨k, x1, x2, x3, x4, x5, x6, l, A, c, xs, rfl, rfl, _⟩ := h.open_; rfl
theorem FldR.one {w : World} {F : Nat → Nat → Prop} {cs : List Value} {t : Fld} (h : FldR w F cs t) : ∀ u ∈ cs, u.oneCell' = true := by
  obtain ⟨k, x1, x2, x3, x4, x5, x6, l, A, c, xs, rfl, rfl, _⟩ := h.open_
  intro v hv
  simp only [List.mem_cons, List.not_mem_nil, or_false] at hv
  rcases hv with rfl | rfl | rfl | rfl | rfl | rfl | rfl | rfl <;> rfl
theorem Flds.snoc {w : World} {F : Nat → Nat → Prop} {xs : List Value} {l : List Fld} {css : List (List Value)} (h : Flds w F xs l css) {c : List Value} {x : Fld} (hx : FldR w F c x) : Flds w F (xs ++ c) (l ++ [x]) (css ++ [c]) := by
  refine ⟨h.flat.snoc hx.eight, by simp [h.len], fun i d y hd hy => ?_⟩
  rcases get_snoc_eq hd with ⟨h1, h2⟩ | ⟨h1, rfl⟩
  · rcases get_snoc_eq hy with ⟨_, h3⟩ | ⟨h3, _⟩
    · exact h.each i d y h2 h3
    · have := h.len; omega
  · rcases get_snoc_eq hy with ⟨h3, _⟩ | ⟨_, rfl⟩
    · have := h.len; omega
    · exact hx
theorem Flds.slots {w0 w : World} {tb : Tb} {rs : List Rw} {F : Nat → Nat → Prop} (hW : WOk w0 Nil w tb rs) {k e n : Nat} {A : Option Addr} {c : Nat} {xs : List Value} {l : List Fld} {css : List (List Value)} (hk : rs[k]? = some ⟨A, c, e, 8, n, xs⟩) (h : Flds w (Fp F w0) xs l css) (hn : n = l.length) (hsm : l.length ≤ 1099511627776) :
    Slots w (Fp F w0) 8 A c l.length (fun i => css.getD i []) ∧ ∀ (i : Nat) (x : Fld), l[i]? = some x → FldR w (Fp F w0) (css.getD i []) x := by
  subst hn
  have ho := hW.own k _ hk
  have h1 : ∀ u ∈ xs, u.oneCell' = true := by
    intro v hv
    rw [h.flat.eq] at hv
    obtain ⟨c, hc, hv⟩ := List.mem_flatten.1 hv
    obtain ⟨i, hi, rfl⟩ := List.getElem_of_mem hc
    have hl := h.len
    exact (h.each i _ _ (List.getElem?_eq_getElem hi) (List.getElem?_eq_getElem (show i < l.length by omega))).one v hv
  refine ⟨?_, fun i x hx => ?_⟩
  · have hx := h.flat
    simp only [Rw.v] at ho
    rw [← h.len] at ho ⊢
    exact hx.slots ho h1 (by rw [h.len]; exact hsm) (own_fp hW hk)
  · have hi : i < css.length := by rw [h.len]; exact (List.getElem?_eq_some_iff.1 hx).1
    have : css.getD i [] = css[i] := by rw [List.getD_eq_getElem?_getD, List.getElem?_eq_getElem hi]; rfl
    rw [this]
    exact h.each i _ x (List.getElem?_eq_getElem hi) hx
theorem noFlds (w : World) (F : Nat → Nat → Prop) : Slots w F 8 none 0 ([] : List Fld).length (fun _ => []) ∧ ∀ (i : Nat) (x : Fld), ([] : List Fld)[i]? = some x → FldR w F [] x :=
  ⟨Slots.nil w F 8 _, fun i x h => by simp at h⟩
/-- a message's description -/
def GivesM (w : World) (F : Nat → Nat → Prop) (l : List Fld) (x : Int) : Ending → World → Prop := fun en w' => ∃ A c, en = .returned (.agg #[.slice A l.length c, .int .i64 x]) ∧ FldsR w' (Fp F w) A c l ∧ Step w w' Nil

end Go.Proofs.Ytbjopfcbpobnpaa.ME
