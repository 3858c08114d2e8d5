/- What is known along a call: what was there before it, and what it has laid and does not write any more. Own work. -/
import Derived.Test.YtbjopfcbpobnpaaPu
namespace Go.Proofs.Ytbjopfcbpobnpaa.ME
open Go
set_option linter.unusedVariables false
set_option linter.unusedSimpArgs false

section
variable {G : Nat → Nat → Prop} {w0 w w' : World} {M : Nat → Nat → Prop} {tb tb' : Tb} {rs rs' : List Rw}

theorem Fr.castR {rs'' : List Rw} (h : Fr w tb rs w' tb' rs') (e : rs' = rs'') : Fr w tb rs w' tb' rs'' := e ▸ h
theorem immM : ∀ b o, Imm G w0 w tb rs b o → b < w.heap.size → ¬ Act_ tb rs b o := fun _ _ h _ => h.2.2
theorem Fr.to' (h : Fr w tb rs w' tb' rs') : ∀ b o, Imm G w0 w tb rs b o → b < w.heap.size → Imm G w0 w' tb' rs' b o := fun b o hi _ => h.to b o hi
/-- what was there when the call began -/
theorem WOk.imm (h : WOk w0 Nil w tb rs) : ∀ b o, G b o → b < w0.heap.size → Imm G w0 w tb rs b o := by
  refine fun b o hg hb => ⟨.inl hg, Nat.lt_of_lt_of_le hb h.step.size, fun ha => ?_⟩
  rcases ha with ⟨i, ob, hi, hr, rfl, h1, h2⟩ | ⟨i, r, hi, hr⟩
  · have := (h.rw_ i ob hi hr (o - ob.off) (by omega)).1
    rcases this with h3 | h3
    · omega
    · exact h3
  · rcases h.ownM i r hi b hr with h3 | h3
    · omega
    · exact h3 0
/-- what a call has laid anew -/
theorem WOk.laid (h : WOk w0 M w tb rs) (hs : Step w w' Nil) : ∀ b o, Fp (Imm G w0 w tb rs) w b o → b < w'.heap.size → Imm G w0 w' tb rs b o := by
  intro b o hf hb
  rcases hf with hf | hf
  · exact ⟨hf.1, hb, hf.2.2⟩
  · exact ⟨.inr (Nat.le_trans h.step.size hf), hb, fun ha => by have := h.act_live ha; omega⟩
theorem immOut : ∀ b o, Imm G w0 w tb rs b o → b < w.heap.size → Fp G w0 b o := fun _ _ h _ => h.1
theorem fpFp (hs : w0.heap.size ≤ w.heap.size) : ∀ b o, Fp (Fp G w0) w b o → b < w'.heap.size → Fp G w0 b o := fun b o h _ => by
  rcases h with h | h
  · exact h
  · exact .inr (Nat.le_trans hs h)
theorem allF {w : World} {F : Nat → Nat → Prop} : ∀ b o, F b o → b < w.heap.size → True := fun _ _ _ _ => trivial

/-- a row of the call's own, of several cells each thing: as slots -/
theorem slots_own {e size n : Nat} {A : Option Addr} {c : Nat} {xs : List Value} (ho : w.ownsRow 0 e size (.slice A n c) n xs) (h1 : ∀ u ∈ xs, u.oneCell' = true) (hsm : n ≤ 1099511627776) {F : Nat → Nat → Prop} (hF : ∀ g, A.map (·.block) = some g → ∀ o, F g o)
    {cs : Nat → List Value} (hl : ∀ i, i < n → (cs i).length = size) (hc : ∀ i, i < n → ∀ j, j < size → (cs i)[j]? = xs[i * size + j]?) : Slots w F size A c n cs := by
  obtain ⟨A', c', hv, h2, h3, h4⟩ := own_form ho
  simp only [Value.slice.injEq, true_and] at hv
  obtain ⟨rfl, rfl⟩ := hv
  refine ⟨h4, hsm, h2, fun ad hA hn => ?_⟩
  obtain ⟨g, rfl⟩ := h3 ad hA
  refine ⟨g, 0, rfl, fun i hi => ⟨hl i hi, fun j v hj => ⟨hF g (by rw [hA]; rfl) _, ?_⟩⟩⟩
  have hjs : j < size := by rw [← hl i hi]; exact (List.getElem?_eq_some_iff.1 hj).1
  rw [hc i hi j hjs] at hj
  have := (own_src ho h1).cells _ hA _ v hj
  rw [add_none] at this
  rw [show 0 + i * size + j = 0 + (i * size + j) by omega]
  exact this

/-- cells of things, one after the other -/
structure Flat (size : Nat) (xs : List Value) (css : List (List Value)) : Prop where
  eq : xs = css.flatten
  each : ∀ c ∈ css, c.length = size
theorem flatten_get {size : Nat} : ∀ {css : List (List Value)}, (∀ c ∈ css, c.length = size) → ∀ i j, i < css.length → j < size → (css.getD i [])[j]? = css.flatten[i * size + j]?
  | [], _, i, j, hi, _ => by simp at hi
  | c :: r, h, i, j, hi, hj => by
    have hc : c.length = size := h c (List.mem_cons_self ..)
    cases i with
    | zero =>
      rw [List.flatten_cons, List.getElem?_append_left (by omega)]
      simp
    | succ i =>
      rw [List.flatten_cons, List.getElem?_append_right (by rw [hc, Nat.add_mul]; omega)]
      have := flatten_get (css := r) (fun c hc => h c (List.mem_cons_of_mem _ hc)) i j (by simpa using hi) hj
      rw [show (i + 1) * size + j - c.length = i * size + j by rw [hc, Nat.add_mul]; omega]
      simpa using this
theorem Flat.nil (size : Nat) : Flat size [] [] := ⟨rfl, fun _ h => by cases h⟩
theorem Flat.snoc {size : Nat} {xs : List Value} {css : List (List Value)} (h : Flat size xs css) {c : List Value} (hc : c.length = size) : Flat size (xs ++ c) (css ++ [c]) := by
  refine ⟨by rw [h.eq]; simp, fun d hd => ?_⟩
  rcases List.mem_append.1 hd with hd | hd
  · exact h.each d hd
  · rw [List.mem_singleton.1 hd]; exact hc
theorem Flat.slots {e size : Nat} {A : Option Addr} {c : Nat} {xs : List Value} {css : List (List Value)} (h : Flat size xs css) (ho : w.ownsRow 0 e size (.slice A css.length c) css.length xs) (h1 : ∀ u ∈ xs, u.oneCell' = true) (hsm : css.length ≤ 1099511627776) {F : Nat → Nat → Prop} (hF : ∀ g, A.map (·.block) = some g → ∀ o, F g o) :
    Slots w F size A c css.length (fun i => css.getD i []) :=
  slots_own ho h1 hsm hF (fun i hi => by
    rw [List.getD_eq_getElem?_getD, List.getElem?_eq_getElem hi]
    exact h.each _ (List.getElem_mem hi)) (fun i hi j hj => by rw [h.eq]; exact flatten_get h.each i j hi hj)

/-- trees in a row that is being laid -/
structure Trees (w : World) (F : Nat → Nat → Prop) (xs : List Value) (l : List Tree) (css : List (List Value)) : Prop where
  flat : Flat 5 xs css
  len : css.length = l.length
  each : ∀ (i : Nat) (c : List Value) (x : Tree), css[i]? = some c → l[i]? = some x → TreeR w F c x
theorem Trees.move {F F' N : Nat → Nat → Prop} {xs : List Value} {l : List Tree} {css : List (List Value)} (h : Trees w F xs l css) (hs : Step w w' N) (hM : ∀ b o, F b o → b < w.heap.size → ¬ N b o) (hF : ∀ b o, F b o → b < w.heap.size → F' b o) : Trees w' F' xs l css :=
  ⟨h.flat, h.len, fun i c x hc hx => (h.each i c x hc hx).move hs hM hF⟩
theorem Trees.nil (w : World) (F : Nat → Nat → Prop) : Trees w F [] [] [] := ⟨Flat.nil 5, rfl, fun i c x h => by simp at h⟩
theorem TreeR.five {F : Nat → Nat → Prop} {cs : List Value} {t : Tree} (h : TreeR w F cs t) : cs.length = 5 := by
  obtain ⟨n, s, b, l, u, A1, c1, A2, c2, A3, c3, xs, rfl, rfl, _⟩ := h.open_; rfl
theorem TreeR.one {F : Nat → Nat → Prop} {cs : List Value} {t : Tree} (h : TreeR w F cs t) : ∀ u ∈ cs, u.oneCell' = true := by
  obtain ⟨n, s, b, l, u, A1, c1, A2, c2, A3, c3, xs, rfl, rfl, _⟩ := h.open_
  intro v hv
  simp only [List.mem_cons, List.not_mem_nil, or_false] at hv
  rcases hv with rfl | rfl | rfl | rfl | rfl <;> rfl
theorem get_snoc_eq {α : Type} {l : List α} {x y : α} {i : Nat} (h : (l ++ [x])[i]? = some y) : (i < l.length ∧ l[i]? = some y) ∨ (i = l.length ∧ x = y) := by
  rcases Nat.lt_or_ge i l.length with hl | hl
  · rw [List.getElem?_append_left hl] at h; exact .inl ⟨hl, h⟩
  · rw [List.getElem?_append_right hl] at h
    rcases Nat.eq_or_lt_of_le hl with he | hl'
    · rw [← he, Nat.sub_self] at h
      exact .inr ⟨he.symm, by simpa using h⟩
    · rw [List.getElem?_eq_none (by simp; omega)] at h; cases h
theorem Trees.snoc {F : Nat → Nat → Prop} {xs : List Value} {l : List Tree} {css : List (List Value)} (h : Trees w F xs l css) {c : List Value} {x : Tree} (hx : TreeR w F c x) : Trees w F (xs ++ c) (l ++ [x]) (css ++ [c]) := by
  refine ⟨h.flat.snoc hx.five, by simp [h.len], fun i d y hd hy => ?_⟩
  rcases get_snoc_eq hd with ⟨h1, h2⟩ | ⟨h1, rfl⟩
  · rcases get_snoc_eq hy with ⟨_, h3⟩ | ⟨h3, _⟩
    · exact h.each i d y h2 h3
    · have := h.len; omega
  · rcases get_snoc_eq hy with ⟨h3, _⟩ | ⟨_, rfl⟩
    · have := h.len; omega
    · exact hx
theorem Trees.one {F : Nat → Nat → Prop} {xs : List Value} {l : List Tree} {css : List (List Value)} (h : Trees w F xs l css) : ∀ u ∈ xs, u.oneCell' = true := by
  intro v hv
  rw [h.flat.eq] at hv
  obtain ⟨c, hc, hv⟩ := List.mem_flatten.1 hv
  obtain ⟨i, hi, rfl⟩ := List.getElem_of_mem hc
  have hl := h.len
  exact (h.each i _ _ (List.getElem?_eq_getElem hi) (List.getElem?_eq_getElem (show i < l.length by omega))).one v hv
/-- the row, done -/
theorem Trees.slots {e : Nat} {A : Option Addr} {c n : Nat} {xs : List Value} {l : List Tree} {css : List (List Value)} {F : Nat → Nat → Prop} (h : Trees w F xs l css) (ho : w.ownsRow 0 e 5 (.slice A n c) n xs) (hn : n = l.length) (hsm : l.length ≤ 1099511627776) (hF : ∀ g, A.map (·.block) = some g → ∀ o, F g o) :
    Slots w F 5 A c l.length (fun i => css.getD i []) ∧ ∀ i x, l[i]? = some x → TreeR w F (css.getD i []) x := by
  subst hn
  refine ⟨?_, fun i x hx => ?_⟩
  · rw [← h.len] at ho ⊢
    exact h.flat.slots ho h.one (by rw [h.len]; exact hsm) hF
  · have hi : i < css.length := by rw [h.len]; exact (List.getElem?_eq_some_iff.1 hx).1
    have : css.getD i [] = css[i] := by rw [List.getD_eq_getElem?_getD, List.getElem?_eq_getElem hi]; rfl
    rw [this]
    exact h.each i _ x (List.getElem?_eq_getElem hi) hx

/-- a tag's two cells -/
structure TagR (w : World) (F : Nat → Nat → Prop) (cs : List Value) (x : Int × Bs) : Prop where
  ex : ∃ A c, cs = [.int .u32 x.1, .slice A x.2.length c] ∧ Octs w F A c x.2
  lo : 0 ≤ x.1
  hi : x.1 < 4294967296
theorem TagR.move {F F' N : Nat → Nat → Prop} {cs : List Value} {x : Int × Bs} (h : TagR w F cs x) (hs : Step w w' N) (hM : ∀ b o, F b o → b < w.heap.size → ¬ N b o) (hF : ∀ b o, F b o → b < w.heap.size → F' b o) : TagR w' F' cs x := by
  obtain ⟨⟨A, c, h1, h2⟩, h3, h4⟩ := h
  exact ⟨⟨A, c, h1, h2.move hs hM hF⟩, h3, h4⟩
theorem TagR.two {F : Nat → Nat → Prop} {cs : List Value} {x : Int × Bs} (h : TagR w F cs x) : cs.length = 2 := by
  obtain ⟨⟨A, c, rfl, _⟩, _, _⟩ := h; rfl
theorem TagR.one {F : Nat → Nat → Prop} {cs : List Value} {x : Int × Bs} (h : TagR w F cs x) : ∀ u ∈ cs, u.oneCell' = true := by
  obtain ⟨⟨A, c, rfl, _⟩, _, _⟩ := h
  intro v hv
  simp only [List.mem_cons, List.not_mem_nil, or_false] at hv
  rcases hv with rfl | rfl <;> rfl
/-- tags in a row that is being laid -/
structure Tags (w : World) (F : Nat → Nat → Prop) (xs : List Value) (l : List (Int × Bs)) (css : List (List Value)) : Prop where
  flat : Flat 2 xs css
  len : css.length = l.length
  each : ∀ (i : Nat) (c : List Value) (x : Int × Bs), css[i]? = some c → l[i]? = some x → TagR w F c x
theorem Tags.move {F F' N : Nat → Nat → Prop} {xs : List Value} {l : List (Int × Bs)} {css : List (List Value)} (h : Tags w F xs l css) (hs : Step w w' N) (hM : ∀ b o, F b o → b < w.heap.size → ¬ N b o) (hF : ∀ b o, F b o → b < w.heap.size → F' b o) : Tags w' F' xs l css :=
  ⟨h.flat, h.len, fun i c x hc hx => (h.each i c x hc hx).move hs hM hF⟩
theorem Tags.nil (w : World) (F : Nat → Nat → Prop) : Tags w F [] [] [] := ⟨Flat.nil 2, rfl, fun i c x h => by simp at h⟩
theorem Tags.snoc {F : Nat → Nat → Prop} {xs : List Value} {l : List (Int × Bs)} {css : List (List Value)} (h : Tags w F xs l css) {c : List Value} {x : Int × Bs} (hx : TagR w F c x) : Tags w F (xs ++ c) (l ++ [x]) (css ++ [c]) := by
  refine ⟨h.flat.snoc hx.two, by simp [h.len], fun i d y hd hy => ?_⟩
  rcases get_snoc_eq hd with ⟨h1, h2⟩ | ⟨h1, rfl⟩
  · rcases get_snoc_eq hy with ⟨_, h3⟩ | ⟨h3, _⟩
    · exact h.each i d y h2 h3
    · have := h.len; omega
  · rcases get_snoc_eq hy with ⟨h3, _⟩ | ⟨_, rfl⟩
    · have := h.len; omega
    · exact hx
theorem Tags.one {F : Nat → Nat → Prop} {xs : List Value} {l : List (Int × Bs)} {css : List (List Value)} (h : Tags w F xs l css) : ∀ u ∈ xs, u.oneCell' = true := by
  intro v hv
  rw [h.flat.eq] at hv
  obtain ⟨c, hc, hv⟩ := List.mem_flatten.1 hv
  obtain ⟨i, hi, rfl⟩ := List.getElem_of_mem hc
  have hl := h.len
  exact (h.each i _ _ (List.getElem?_eq_getElem hi) (List.getElem?_eq_getElem (show i < l.length by omega))).one v hv
theorem Tags.slots {e : Nat} {A : Option Addr} {c n : Nat} {xs : List Value} {l : List (Int × Bs)} {css : List (List Value)} {F : Nat → Nat → Prop} (h : Tags w F xs l css) (ho : w.ownsRow 0 e 2 (.slice A n c) n xs) (hn : n = l.length) (hsm : l.length ≤ 1099511627776) (hF : ∀ g, A.map (·.block) = some g → ∀ o, F g o) :
    TagsR w F A c l := by
  subst hn
  refine ⟨fun i => css.getD i [], ?_, fun i k s hx => ?_⟩
  · rw [← h.len] at ho ⊢
    exact h.flat.slots ho h.one (by rw [h.len]; exact hsm) hF
  · have hi : i < css.length := by rw [h.len]; exact (List.getElem?_eq_some_iff.1 hx).1
    have : css.getD i [] = css[i] := by rw [List.getD_eq_getElem?_getD, List.getElem?_eq_getElem hi]; rfl
    dsimp only
    rw [this]
    obtain ⟨h1, h2, h3⟩ := h.each i _ _ (List.getElem?_eq_getElem hi) hx
    exact ⟨h1, h2, h3⟩

/-- what a function hands back: a tree that was there -/
def GivesO (w : World) (F : Nat → Nat → Prop) (t : Tree) : Ending → World → Prop := fun en w' => ∃ cs, en = .returned (.agg cs.toArray) ∧ TreeR w F cs t ∧ Step w w' Nil
/-- a tree, laid anew or in parts there before -/
def GivesT (w : World) (F : Nat → Nat → Prop) (t : Tree) : Ending → World → Prop := fun en w' => ∃ cs, en = .returned (.agg cs.toArray) ∧ TreeR w' (Fp F w) cs t ∧ Step w w' Nil
def GivesU (w : World) (F : Nat → Nat → Prop) (u : List (Int × Bs)) : Ending → World → Prop := fun en w' => ∃ A c, en = .returned (.slice A u.length c) ∧ TagsR w' (Fp F w) A c u ∧ Step w w' Nil
theorem at_some {n : Int} {s : Bs} {b : Bool} {l : List Tree} {u : List (Int × Bs)} {i : Nat} {x : Tree} (h : l[i]? = some x) : (Tree.mk n s b l u).at_ i = x := by
  simp [Tree.at_, Tree.L, List.getD_eq_getElem?_getD, h]
theorem at_none {n : Int} {s : Bs} {b : Bool} {l : List Tree} {u : List (Int × Bs)} {i : Nat} (h : l.length ≤ i) : (Tree.mk n s b l u).at_ i = .zero := by
  simp [Tree.at_, Tree.L, List.getD_eq_getElem?_getD, List.getElem?_eq_none h]
/-- known memory that is let go -/
theorem WOk.cutTb (n : Nat) (h : WOk w0 M w tb rs) : WOk w0 M w (tb.take n) rs := by
  have ht : ∀ {i : Nat} {o : Ob}, (tb.take n)[i]? = some o → tb[i]? = some o := fun {i o} hi => by
    rw [List.getElem?_take] at hi
    split at hi
    · exact hi
    · cases hi
  exact ⟨h.step, fun i o hi => h.cells i o (ht hi), fun i o hi => h.live i o (ht hi), fun i o hi => h.rw_ i o (ht hi), fun i j o o' hij hi hj hw => h.apart i j o o' hij (ht hi) (ht hj) hw, h.own, h.ownM, fun i r hi g hg j o hj => h.rtb i r hi g hg j o (ht hj), h.rr⟩
theorem Fr.cutTb (w : World) (tb : Tb) (rs : List Rw) (n : Nat) : Fr w tb rs w (tb.take n) rs := by
  refine ⟨fun b o _ ha hc => ?_, Step.refl _ _⟩
  rcases hc with ⟨i, ob, hi, h1⟩ | h
  · rw [List.getElem?_take] at hi
    split at hi
    · exact ha (.inl ⟨i, ob, hi, h1⟩)
    · cases hi
  · exact ha (.inr h)
def below (m : Nat) : Env → Bool
  | [] => true
  | (_, .v _) :: r => below m r
  | (_, .p i _) :: r => match Nat.blt i m with
    | true => below m r
    | false => false
theorem below_ok {m : Nat} : ∀ {env : Env}, below m env = true → ∀ s i k, lk env s = some (.p i k) → i < m
  | [], _, s, i, k, h => by cases h
  | (t, .v x) :: r, hb, s, i, k, h => by
    simp only [lk] at h
    split at h
    · cases h
    · exact below_ok (env := r) hb s i k h
  | (t, .p j k') :: r, hb, s, i, k, h => by
    simp only [below] at hb
    split at hb
    · rename_i hj
      simp only [lk] at h
      split at h
      · simp only [Option.some.injEq, SV.p.injEq] at h
        obtain ⟨rfl, _⟩ := h
        simpa [Nat.blt_eq] using hj
      · exact below_ok (env := r) hb s i k h
    · cases hb
theorem EnvOk.cutTb {n : Nat} {env : Env} {a : Act} (m : Nat) (h : EnvOk n tb env a) (hb : below m env = true) : EnvOk n (tb.take m) env a := by
  refine ⟨h.defers, h.size, fun s x hl => ?_⟩
  obtain ⟨h1, h2⟩ := h.at_ s x hl
  cases x with
  | v y => exact ⟨h1, trivial⟩
  | p i k =>
    have hm := below_ok hb s i k hl
    have h2' : i < tb.length := h2
    have : obAt (tb.take m) i = obAt tb i := by
      unfold obAt
      rw [List.getD_eq_getElem?_getD, List.getD_eq_getElem?_getD, List.getElem?_take, if_pos hm]
    refine ⟨?_, ?_⟩
    · rw [h1]; simp only [SV.val, this]
    · show i < (tb.take m).length
      rw [List.length_take]; omega
theorem be_take_succ {size k : Nat} {x : Int} (h : k < size) : (be size x).take (k + 1) = (be size x).take k ++ [by8 (x / 2 ^ (8 * (size - 1 - k)))] := by
  induction size generalizing k with
  | zero => omega
  | succ n ih =>
    cases k with
    | zero =>
      simp only [be, List.take_succ_cons, List.take_zero, List.nil_append]
      rw [show n + 1 - 1 - 0 = n by omega, Int.pow_mul]
      rfl
    | succ k =>
      simp only [be, List.take_succ_cons, List.cons_append]
      rw [ih (by omega), show n + 1 - 1 - (k + 1) = n - 1 - k by omega]
theorem widthI_le (k : Int) : widthI k ≤ 8 := by
  unfold widthI
  split
  · omega
  · split
    · omega
    · split <;> omega
/-- a row of the call's own is new since the call began -/
theorem own_fresh {k : Nat} {r : Rw} (h : WOk w0 Nil w tb rs) (hk : rs[k]? = some r) {e size n : Nat} {A : Option Addr} {c : Nat} {xs : List Value} (hr : r.A = A) (ho : w.ownsRow 0 e size (.slice A n c) n xs) : w.ownsRow w0.heap.size e size (.slice A n c) n xs := by
  refine ⟨ho.1, ?_⟩
  rcases ho.2 with hn | ⟨g, cap, cur, hv, hb, rest⟩
  · exact .inl hn
  · refine .inr ⟨g, cap, cur, hv, ?_, rest⟩
    simp only [Value.slice.injEq] at hv
    have hb := h.ownM k r hk g (by unfold Rw.blk; rw [hr, hv.1]; rfl)
    rcases hb with hb | hb
    · exact hb
    · exact (hb 0).elim
theorem fresh_end {k : Nat} {e c : Nat} {A : Option Addr} {s t : Bs} (h : WOk w0 Nil w tb rs) (hk : rs[k]? = some (brow A c e s)) (he : s = t) : FreshB w0 e t (.returned (.slice A s.length c)) w := by
  subst he
  exact ⟨A, c, rfl, own_fresh h hk rfl (h.own k _ hk), h.step⟩
theorem things_slots {F : Nat → Nat → Prop} {A : Option Addr} {c : Nat} {l : List Tree} {xs : Nat → List Value} (h : Slots w F 5 A c l.length xs) : Slots w F 5 A c (things l).length xs := h.take (by simp only [things, List.length_take]; omega)
theorem things_each {F : Nat → Nat → Prop} {l : List Tree} {xs : Nat → List Value} (h : ∀ i x, l[i]? = some x → TreeR w F (xs i) x) : ∀ (i : Nat) (x : Tree), (things l)[i]? = some x → TreeR w F (xs i) x := fun i x hx => by
  unfold things at hx
  rw [List.getElem?_take] at hx
  split at hx
  · exact h i x hx
  · cases hx
end

end Go.Proofs.Ytbjopfcbpobnpaa.ME
