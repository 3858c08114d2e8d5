/- What is read: octets, trees, fields: plain data, and how they lie in memory. Own work. -/
import Derived.Test.YtbjopfcbpobnpaaMeh
namespace Go.Proofs.Ytbjopfcbpobnpaa.ME
open Go
set_option linter.unusedVariables false
set_option linter.unusedSimpArgs false

abbrev Bs := List UInt8

/-- what a field says (the program's and the reference's trees) -/
inductive Tree where
  | mk (N : Int) (S : Bs) (null : Bool) (L : List Tree) (U : List (Int × Bs))
def Tree.N : Tree → Int | .mk n _ _ _ _ => n
def Tree.S : Tree → Bs | .mk _ s _ _ _ => s
def Tree.null : Tree → Bool | .mk _ _ b _ _ => b
def Tree.L : Tree → List Tree | .mk _ _ _ l _ => l
def Tree.U : Tree → List (Int × Bs) | .mk _ _ _ _ u => u
def Tree.zero : Tree := .mk 0 [] false [] []

/-- a field, as the reference has it -/
inductive Fld where
  | mk (kind frm to null tag dfl of : Int) (sub : List Fld)
def Fld.kind : Fld → Int | .mk k _ _ _ _ _ _ _ => k
def Fld.frm : Fld → Int | .mk _ x _ _ _ _ _ _ => x
def Fld.to : Fld → Int | .mk _ _ x _ _ _ _ _ => x
def Fld.null : Fld → Int | .mk _ _ _ x _ _ _ _ => x
def Fld.tag : Fld → Int | .mk _ _ _ _ x _ _ _ => x
def Fld.dfl : Fld → Int | .mk _ _ _ _ _ x _ _ => x
def Fld.of : Fld → Int | .mk _ _ _ _ _ _ x _ => x
def Fld.sub : Fld → List Fld | .mk _ _ _ _ _ _ _ x => x

/-- cells in memory, within a footprint -/
def AtF (w : World) (F : Nat → Nat → Prop) (b o : Nat) (cs : List Value) : Prop := ∀ (j : Nat) (v : Value), cs[j]? = some v → F b (o + j) ∧ w.cell? ⟨b, o + j, none⟩ = some v
theorem AtF.at_ {w : World} {F : Nat → Nat → Prop} {b o : Nat} {cs : List Value} (h : AtF w F b o cs) : At w b o cs := fun j v hj => (h j v hj).2
theorem AtF.move {w w' : World} {F F' M : Nat → Nat → Prop} {b o : Nat} {cs : List Value} (h : AtF w F b o cs) (hs : Step w w' M) (hM : ∀ b o, F b o → b < w.heap.size → ¬ M b o) (hF : ∀ b o, F b o → b < w.heap.size → F' b o) : AtF w' F' b o cs := by
  intro j v hj
  obtain ⟨h1, h2⟩ := h j v hj
  exact ⟨hF _ _ h1 (World.lt_of_cell h2), hs.cell (hM _ _ h1 (World.lt_of_cell h2)) h2⟩

/-- a slice of n things of so many cells each: the things' cells -/
structure Slots (w : World) (F : Nat → Nat → Prop) (size : Nat) (A : Option Addr) (c n : Nat) (cs : Nat → List Value) : Prop where
  le : n ≤ c
  small : n ≤ 1099511627776
  none_ : A = none → n = 0 ∧ c = 0
  some_ : ∀ ad, A = some ad → 0 < n → ∃ b o, ad = ⟨b, o, none⟩ ∧ ∀ i, i < n → (cs i).length = size ∧ AtF w F b (o + i * size) (cs i)
theorem Slots.move {w w' : World} {F F' M : Nat → Nat → Prop} {size : Nat} {A : Option Addr} {c n : Nat} {cs : Nat → List Value} (h : Slots w F size A c n cs) (hs : Step w w' M) (hM : ∀ b o, F b o → b < w.heap.size → ¬ M b o) (hF : ∀ b o, F b o → b < w.heap.size → F' b o) : Slots w' F' size A c n cs := by
  refine ⟨h.le, h.small, h.none_, fun ad hA hn => ?_⟩
  obtain ⟨b, o, h1, h2⟩ := h.some_ ad hA hn
  exact ⟨b, o, h1, fun i hi => ⟨(h2 i hi).1, (h2 i hi).2.move hs hM hF⟩⟩
theorem Slots.nil (w : World) (F : Nat → Nat → Prop) (size : Nat) (cs : Nat → List Value) : Slots w F size none 0 0 cs := ⟨Nat.le_refl _, by omega, fun _ => ⟨rfl, rfl⟩, fun _ h => by cases h⟩
/-- where there is a thing, there is an address -/
theorem Slots.get {w : World} {F : Nat → Nat → Prop} {size : Nat} {A : Option Addr} {c n : Nat} {cs : Nat → List Value} (h : Slots w F size A c n cs) {i : Nat} (hi : i < n) : ∃ b o, A = some ⟨b, o, none⟩ ∧ (cs i).length = size ∧ AtF w F b (o + i * size) (cs i) := by
  cases A with
  | none => have := (h.none_ rfl).1; omega
  | some ad =>
    obtain ⟨b, o, rfl, h2⟩ := h.some_ ad rfl (by omega)
    exact ⟨b, o, rfl, h2 i hi⟩
/-- the first ones of them -/
theorem Slots.take {w : World} {F : Nat → Nat → Prop} {size : Nat} {A : Option Addr} {c n : Nat} {cs : Nat → List Value} (h : Slots w F size A c n cs) {m : Nat} (hm : m ≤ n) : Slots w F size A c m cs := by
  refine ⟨Nat.le_trans hm h.le, Nat.le_trans hm h.small, fun hA => ?_, fun ad hA hn => ?_⟩
  · have := h.none_ hA; exact ⟨by omega, this.2⟩
  · obtain ⟨b, o, h1, h2⟩ := h.some_ ad hA (by omega)
    exact ⟨b, o, h1, fun i hi => h2 i (by omega)⟩

def byteCell (b : UInt8) : Value := .int .u8 b.toNat
/-- a slice of octets -/
def Octs (w : World) (F : Nat → Nat → Prop) (A : Option Addr) (c : Nat) (s : Bs) : Prop := Slots w F 1 A c s.length (fun i => [byteCell (s.getD i 0)])
theorem Octs.move {w w' : World} {F F' M : Nat → Nat → Prop} {A : Option Addr} {c : Nat} {s : Bs} (h : Octs w F A c s) (hs : Step w w' M) (hM : ∀ b o, F b o → b < w.heap.size → ¬ M b o) (hF : ∀ b o, F b o → b < w.heap.size → F' b o) : Octs w' F' A c s := Slots.move h hs hM hF
theorem Octs.nil (w : World) (F : Nat → Nat → Prop) : Octs w F none 0 [] := Slots.nil _ _ _ _
theorem Octs.le {w : World} {F : Nat → Nat → Prop} {A : Option Addr} {c : Nat} {s : Bs} (h : Octs w F A c s) : s.length ≤ c := Slots.le h
theorem Octs.cap {w : World} {F : Nat → Nat → Prop} {A : Option Addr} {c : Nat} {s : Bs} (h : Octs w F A c s) : A = none → c = 0 := fun hA => (h.none_ hA).2
theorem Octs.take {w : World} {F : Nat → Nat → Prop} {A : Option Addr} {c : Nat} {s : Bs} (h : Octs w F A c s) (m : Nat) : Octs w F A c (s.take m) := by
  have h1 := Slots.take h (m := min m s.length) (Nat.min_le_right _ _)
  unfold Octs
  rw [List.length_take]
  refine ⟨h1.le, h1.small, h1.none_, fun ad hA hn => ?_⟩
  obtain ⟨b, o, h2, h3⟩ := h1.some_ ad hA hn
  refine ⟨b, o, h2, fun i hi => ?_⟩
  have : (s.take m).getD i 0 = s.getD i 0 := by
    rw [List.getD_eq_getElem?_getD, List.getD_eq_getElem?_getD, List.getElem?_take, if_pos (by omega)]
  rw [this]
  exact h3 i hi
theorem bc_get {s : Bs} {j : Nat} {u : Value} (h : (bc s)[j]? = some u) : j < s.length ∧ u = byteCell (s.getD j 0) := by
  rw [bc, List.getElem?_map] at h
  cases hs : s[j]? with
  | none => rw [hs] at h; cases h
  | some b =>
    rw [hs] at h
    simp only [Option.map_some, Option.some.injEq] at h
    refine ⟨(List.getElem?_eq_some_iff.1 hs).1, ?_⟩
    rw [List.getD_eq_getElem?_getD, hs, ← h]
    rfl
theorem Octs.src {w : World} {F : Nat → Nat → Prop} {A : Option Addr} {c : Nat} {s : Bs} (h : Octs w F A c s) : Src w A s.length 1 (bc s) := by
  refine ⟨by simp, fun hA => (h.none_ hA).1, fun ad hA j u hu => ?_, bc_one s⟩
  obtain ⟨hj, rfl⟩ := bc_get hu
  obtain ⟨b, o, rfl, h2⟩ := h.some_ ad hA (by omega)
  have := ((h2 j hj).2 0 _ rfl).2
  rw [add_none]
  simpa using this
/-- a row of the call's own, read -/
theorem octs_own {w : World} {base e : Nat} {A : Option Addr} {c : Nat} {s : Bs} (h : w.ownsRow base e 1 (.slice A s.length c) s.length (bc s)) (hsm : s.length ≤ 1099511627776) {F : Nat → Nat → Prop} (hF : ∀ g, A.map (·.block) = some g → ∀ o, F g o) : Octs w F A c s := by
  obtain ⟨A', c', hv, h1, h2, h3⟩ := own_form h
  simp only [Value.slice.injEq, true_and] at hv
  obtain ⟨rfl, rfl⟩ := hv
  refine ⟨h3, hsm, h1, fun ad hA hn => ?_⟩
  obtain ⟨g, rfl⟩ := h2 ad hA
  refine ⟨g, 0, rfl, fun i hi => ⟨rfl, fun j v hj => ?_⟩⟩
  have hj0 : j = 0 := by
    cases j with
    | zero => rfl
    | succ j => simp at hj
  subst hj0
  simp only [List.getElem?_cons_zero, Option.some.injEq] at hj
  subst hj
  refine ⟨hF g (by rw [hA]; rfl) _, ?_⟩
  have hb : (bc s)[i]? = some (byteCell (s.getD i 0)) := by
    rw [bc, List.getElem?_map, List.getElem?_eq_getElem hi, List.getD_eq_getElem?_getD, List.getElem?_eq_getElem hi]
    rfl
  have := (own_src h (bc_one s)).cells _ hA i _ hb
  rw [add_none] at this
  simpa using this

/-- unknown tags -/
structure TagsR (w : World) (F : Nat → Nat → Prop) (A : Option Addr) (c : Nat) (u : List (Int × Bs)) : Prop where
  ex : ∃ cs : Nat → List Value, Slots w F 2 A c u.length cs ∧ ∀ i k s, u[i]? = some (k, s) → (∃ A' c', cs i = [.int .u32 k, .slice A' s.length c'] ∧ Octs w F A' c' s) ∧ 0 ≤ k ∧ k < 4294967296
theorem TagsR.move {w w' : World} {F F' M : Nat → Nat → Prop} {A : Option Addr} {c : Nat} {u : List (Int × Bs)} (h : TagsR w F A c u) (hs : Step w w' M) (hM : ∀ b o, F b o → b < w.heap.size → ¬ M b o) (hF : ∀ b o, F b o → b < w.heap.size → F' b o) : TagsR w' F' A c u := by
  obtain ⟨cs, h1, h2⟩ := h.ex
  refine ⟨cs, h1.move hs hM hF, fun i k s hi => ?_⟩
  obtain ⟨⟨A', c', g1, g2⟩, g3⟩ := h2 i k s hi
  exact ⟨⟨A', c', g1, g2.move hs hM hF⟩, g3⟩
theorem TagsR.nil (w : World) (F : Nat → Nat → Prop) : TagsR w F none 0 [] := ⟨fun _ => [], Slots.nil _ _ _ _, fun i k s h => by simp at h⟩

/-- a tree by its five cells -/
inductive TreeR (w : World) (F : Nat → Nat → Prop) : List Value → Tree → Prop
  | mk {n : Int} {s : Bs} {b : Bool} {l : List Tree} {u : List (Int × Bs)} {A1 A2 A3 : Option Addr} {c1 c2 c3 : Nat} (cs : Nat → List Value)
      (hs : Octs w F A1 c1 s) (hl : Slots w F 5 A2 c2 l.length cs) (hx : ∀ i x, l[i]? = some x → TreeR w F (cs i) x) (hu : TagsR w F A3 c3 u) :
      TreeR w F [.int .i64 n, .slice A1 s.length c1, .bool b, .slice A2 l.length c2, .slice A3 u.length c3] (.mk n s b l u)
theorem TreeR.move {w w' : World} {F F' M : Nat → Nat → Prop} {cs : List Value} {t : Tree} (h : TreeR w F cs t) (hs : Step w w' M) (hM : ∀ b o, F b o → b < w.heap.size → ¬ M b o) (hF : ∀ b o, F b o → b < w.heap.size → F' b o) : TreeR w' F' cs t := by
  induction h with
  | mk cs h1 h2 h3 h4 ih => exact .mk cs (h1.move hs hM hF) (h2.move hs hM hF) ih (h4.move hs hM hF)
theorem TreeR.open_ {w : World} {F : Nat → Nat → Prop} {cs : List Value} {t : Tree} (h : TreeR w F cs t) :
    ∃ n s b l u A1 c1 A2 c2 A3 c3 xs, t = .mk n s b l u ∧ cs = [.int .i64 n, .slice A1 s.length c1, .bool b, .slice A2 l.length c2, .slice A3 u.length c3] ∧ Octs w F A1 c1 s ∧ Slots w F 5 A2 c2 l.length xs ∧ (∀ i x, l[i]? = some x → TreeR w F (xs i) x) ∧ TagsR w F A3 c3 u := by
  cases h with
  | mk cs h1 h2 h3 h4 => exact ⟨_, _, _, _, _, _, _, _, _, _, _, cs, rfl, rfl, h1, h2, h3, h4⟩
theorem TreeR.zero (w : World) (F : Nat → Nat → Prop) : TreeR w F [.int .i64 0, .slice none 0 0, .bool false, .slice none 0 0, .slice none 0 0] .zero :=
  .mk (l := []) (u := []) (s := []) (fun _ => []) (Octs.nil w F) (Slots.nil w F 5 _) (fun i x h => by simp at h) (TagsR.nil w F)

/-- a field by its eight cells -/
inductive FldR (w : World) (F : Nat → Nat → Prop) : List Value → Fld → Prop
  | mk {k x1 x2 x3 x4 x5 x6 : Int} {l : List Fld} {A : Option Addr} {c : Nat} (cs : Nat → List Value)
      (hl : Slots w F 8 A c l.length cs) (hx : ∀ i x, l[i]? = some x → FldR w F (cs i) x) :
      FldR w F [.int .i64 k, .int .i64 x1, .int .i64 x2, .int .i64 x3, .int .i64 x4, .int .i64 x5, .int .i64 x6, .slice A l.length c] (.mk k x1 x2 x3 x4 x5 x6 l)
theorem FldR.move {w w' : World} {F F' M : Nat → Nat → Prop} {cs : List Value} {t : Fld} (h : FldR w F cs t) (hs : Step w w' M) (hM : ∀ b o, F b o → b < w.heap.size → ¬ M b o) (hF : ∀ b o, F b o → b < w.heap.size → F' b o) : FldR w' F' cs t := by
  induction h with
  | mk cs h1 h2 ih => exact .mk cs (h1.move hs hM hF) ih
theorem FldR.open_ {w : World} {F : Nat → Nat → Prop} {cs : List Value} {t : Fld} (h : FldR w F cs t) :
    ∃ k x1 x2 x3 x4 x5 x6 l A c xs, t = .mk k x1 x2 x3 x4 x5 x6 l ∧ cs = [.int .i64 k, .int .i64 x1, .int .i64 x2, .int .i64 x3, .int .i64 x4, .int .i64 x5, .int .i64 x6, .slice A l.length c] ∧ Slots w F 8 A c l.length xs ∧ (∀ i x, l[i]? = some x → FldR w F (xs i) x) := by
  cases h with
  | mk cs h1 h2 => exact ⟨_, _, _, _, _, _, _, _, _, _, cs, rfl, rfl, h1, h2⟩
/-- a slice of fields -/
structure FldsR (w : World) (F : Nat → Nat → Prop) (A : Option Addr) (c : Nat) (l : List Fld) : Prop where
  ex : ∃ cs : Nat → List Value, Slots w F 8 A c l.length cs ∧ ∀ i x, l[i]? = some x → FldR w F (cs i) x
theorem FldsR.move {w w' : World} {F F' M : Nat → Nat → Prop} {A : Option Addr} {c : Nat} {l : List Fld} (h : FldsR w F A c l) (hs : Step w w' M) (hM : ∀ b o, F b o → b < w.heap.size → ¬ M b o) (hF : ∀ b o, F b o → b < w.heap.size → F' b o) : FldsR w' F' A c l := by
  obtain ⟨cs, h1, h2⟩ := h.ex
  exact ⟨cs, h1.move hs hM hF, fun i x hi => (h2 i x hi).move hs hM hF⟩

/-! the moves along a call -/
/-- the footprint F, and what has been laid since w -/
def Fp (F : Nat → Nat → Prop) (w : World) (b o : Nat) : Prop := F b o ∨ w.heap.size ≤ b
/-- a function that only reads and lays anew: what it hands back -/
def FreshB (w : World) (e : TypeId) (s : Bs) : Ending → World → Prop := fun en w' =>
  ∃ A' c', en = .returned (.slice A' s.length c') ∧ w'.ownsRow w.heap.size e 1 (.slice A' s.length c') s.length (bc s) ∧ Step w w' Nil
def Gives (w : World) (v : Value) : Ending → World → Prop := fun en w' => en = .returned v ∧ Step w w' Nil

theorem WOk.nilStep {w0 w : World} {tb : Tb} {rs : List Rw} (h : WOk w0 Nil w tb rs) : Step w0 w Nil := h.step
theorem nilM {F : Nat → Nat → Prop} {w : World} : ∀ b o, F b o → b < w.heap.size → ¬ Nil b o := fun _ _ _ _ h => h
theorem keepF {F : Nat → Nat → Prop} {w : World} : ∀ b o, F b o → b < w.heap.size → F b o := fun _ _ h _ => h
theorem toFp {F : Nat → Nat → Prop} {w : World} : ∀ b o, F b o → b < w.heap.size → Fp F w b o := fun _ _ h _ => .inl h

end Go.Proofs.Ytbjopfcbpobnpaa.ME
