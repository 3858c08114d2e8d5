/- The package's messages: kinds of fields, their cells, what they say, and how they lie in memory. Own work. -/
import Derived.Test.YtbjopfcbpobnpaaDb
namespace Go.Proofs.Ytbjopfcbpobnpaa.ME
open Go
set_option linter.unusedVariables false
set_option linter.unusedSimpArgs false

/-- a text's octets -/
def sb (s : ByteArray) : Bs := s.data.toList
theorem sb_length (s : ByteArray) : (sb s).length = s.size := by simp [sb]
theorem strCells_sb (s : ByteArray) : Lib.strCells s = bc (sb s) := rfl

/-- kinds of a message's fields, as the package has them -/
inductive MK where
  | int (k : IntKind)
  | bool
  | f64
  | uuid
  | text
  | textN
  | octs
  | list (size : Nat) (e : MK)
  | part (tags : Bool) (fs : List MK)
  | partN (tags : Bool) (fs : List MK)
/-- what a field holds: a number, a truth, a text, octets, an address, how many, a capacity, a map, its tags, the fields or things -/
inductive DV where
  | mk (n : Int) (b : Bool) (s : ByteArray) (o : Bs) (A : Option Addr) (l c : Nat) (m : Option Nat) (u : List (Int × Bs)) (f : Nat → DV)
def DV.n : DV → Int | .mk x _ _ _ _ _ _ _ _ _ => x
def DV.b : DV → Bool | .mk _ x _ _ _ _ _ _ _ _ => x
def DV.s : DV → ByteArray | .mk _ _ x _ _ _ _ _ _ _ => x
def DV.o : DV → Bs | .mk _ _ _ x _ _ _ _ _ _ => x
def DV.A : DV → Option Addr | .mk _ _ _ _ x _ _ _ _ _ => x
def DV.l : DV → Nat | .mk _ _ _ _ _ x _ _ _ _ => x
def DV.c : DV → Nat | .mk _ _ _ _ _ _ x _ _ _ => x
def DV.m : DV → Option Nat | .mk _ _ _ _ _ _ _ x _ _ => x
def DV.u : DV → List (Int × Bs) | .mk _ _ _ _ _ _ _ _ x _ => x
def DV.f : DV → Nat → DV | .mk _ _ _ _ _ _ _ _ _ x => x

def tagCell (tags : Bool) (d : DV) : List Value := match tags with
  | true => [.map d.m]
  | false => []
def MK.cells : MK → DV → List Value
  | .int k, d => [.int k d.n]
  | .bool, d => [.bool d.b]
  | .f64, d => [.float .f64 d.l]
  | .uuid, d => (List.range 16).map fun i => byteCell (d.o.getD i 0)
  | .text, d => [.string d.s]
  | .textN, d => [.pointer d.A]
  | .octs, d => [.slice d.A d.o.length d.c]
  | .list _ _, d => [.slice d.A d.l d.c]
  | .part tags fs, d => cellsL fs d 0 ++ tagCell tags d
  | .partN _ _, d => [.pointer d.A]
where cellsL : List MK → DV → Nat → List Value
  | [], _, _ => []
  | k :: r, d, i => k.cells (d.f i) ++ cellsL r d (i + 1)
abbrev cellsL := MK.cells.cellsL

def MK.tree : MK → DV → Tree
  | .int _, d => .mk d.n [] false [] []
  | .bool, d => .mk (if d.b then 1 else 0) [] false [] []
  | .f64, d => .mk (IntKind.i64.wrap d.l) [] false [] []
  | .uuid, d => .mk 0 d.o false [] []
  | .text, d => .mk 0 (sb d.s) false [] []
  | .textN, d => .mk 0 (match d.A with | none => [] | some _ => sb d.s) d.A.isNone [] []
  | .octs, d => .mk 0 d.o d.A.isNone [] []
  | .list _ e, d => .mk 0 [] d.A.isNone ((List.range d.l).map fun i => e.tree (d.f i)) []
  | .part _ fs, d => .mk 0 [] false (treeL fs d 0) d.u
  | .partN _ fs, d => match d.A with
    | none => .mk 0 [] true [] []
    | some _ => .mk 0 [] false (treeL fs d 0) d.u
where treeL : List MK → DV → Nat → List Tree
  | [], _, _ => []
  | k :: r, d, i => k.tree (d.f i) :: treeL r d (i + 1)
abbrev treeL := MK.tree.treeL

/-- the unknown tags, as a map -/
structure MapR (w : World) (F : Nat → Nat → Prop) (m : Option Nat) (u : List (Int × Bs)) : Prop where
  sorted : u.Pairwise fun x y => x.1 < y.1
  range : ∀ x ∈ u, 0 ≤ x.1 ∧ x.1 < 4294967296
  none_ : m = none → u = []
  some_ : ∀ r, m = some r → (∀ o, F r o) ∧ ∃ es clk, w.heap[r]? = some (.map es clk) ∧ (es.toList.map (·.key)).Perm (u.map fun x => Value.int .u32 x.1) ∧ (∀ e ∈ es.toList, e.born < clk) ∧ (es.toList.map (·.born)).Nodup ∧
    ∀ e ∈ es.toList, ∃ k s A c, e.key = .int .u32 k ∧ e.val = .slice A (s : Bs).length c ∧ Octs w F A c s ∧ (k, s) ∈ u
theorem MapR.move {w w' : World} {F F' M : Nat → Nat → Prop} {m : Option Nat} {u : List (Int × Bs)} (h : MapR w F m u) (hs : Step w w' M) (hM : ∀ b o, F b o → b < w.heap.size → ¬ M b o) (hF : ∀ b o, F b o → b < w.heap.size → F' b o) : MapR w' F' m u := by
  refine ⟨h.sorted, h.range, h.none_, fun r hr => ?_⟩
  obtain ⟨h1, es, clk, h2, h3, h6, h7, h5⟩ := h.some_ r hr
  have hlt : r < w.heap.size := (Array.getElem?_eq_some_iff.1 h2).1
  refine ⟨fun o => hF r o (h1 o) hlt, es, clk, hs.heap (fun o => hM r o (h1 o) hlt) h2, h3, h6, h7, fun e he => ?_⟩
  obtain ⟨k, s, A, c, g1, g2, g3, g4⟩ := h5 e he
  exact ⟨k, s, A, c, g1, g2, g3.move hs hM hF, g4⟩
theorem MapR.size {w : World} {F : Nat → Nat → Prop} {u : List (Int × Bs)} {es : Array MapEntry} (h : (es.toList.map (·.key)).Perm (u.map fun x => Value.int .u32 x.1)) : es.size = u.length := by
  have := h.length_eq
  simpa using this
theorem MapR.nil (w : World) (F : Nat → Nat → Prop) : MapR w F none [] := ⟨List.Pairwise.nil, fun _ h => by (cases h), fun _ => rfl, fun _ h => by (cases h)⟩

def tagOk (w : World) (F : Nat → Nat → Prop) (tags : Bool) (d : DV) : Prop := match tags with
  | true => MapR w F d.m d.u
  | false => d.u = []
theorem tagOk.move {w w' : World} {F F' M : Nat → Nat → Prop} {tags : Bool} {d : DV} (h : tagOk w F tags d) (hs : Step w w' M) (hM : ∀ b o, F b o → b < w.heap.size → ¬ M b o) (hF : ∀ b o, F b o → b < w.heap.size → F' b o) : tagOk w' F' tags d := by
  cases tags with
  | true => exact MapR.move h hs hM hF
  | false => exact h

def MK.ok (w : World) (F : Nat → Nat → Prop) : MK → DV → Prop
  | .int k, d => k.wrap d.n = d.n
  | .bool, _ => True
  | .f64, d => d.l < 18446744073709551616
  | .uuid, d => d.o.length = 16
  | .text, _ => True
  | .textN, d => ∀ ad, d.A = some ad → ∃ b o, ad = ⟨b, o, none⟩ ∧ AtF w F b o [.string d.s]
  | .octs, d => Octs w F d.A d.c d.o
  | .list sz e, d => Slots w F sz d.A d.c d.l (fun i => e.cells (d.f i)) ∧ ∀ i, i < d.l → e.ok w F (d.f i)
  | .part tags fs, d => okL fs d 0 ∧ tagOk w F tags d
  | .partN tags fs, d => ∀ ad, d.A = some ad → ∃ b o, ad = ⟨b, o, none⟩ ∧ AtF w F b o (cellsL fs d 0 ++ tagCell tags d) ∧ okL fs d 0 ∧ tagOk w F tags d
where okL : List MK → DV → Nat → Prop
  | [], _, _ => True
  | k :: r, d, i => k.ok w F (d.f i) ∧ okL r d (i + 1)
abbrev okL := MK.ok.okL

section
variable {w w' : World} {F F' M : Nat → Nat → Prop}
theorem MK.ok_move (hs : Step w w' M) (hM : ∀ b o, F b o → b < w.heap.size → ¬ M b o) (hF : ∀ b o, F b o → b < w.heap.size → F' b o) : ∀ (k : MK) (d : DV), k.ok w F d → k.ok w' F' d
  | .int _, _, h => by simpa [MK.ok] using h
  | .bool, _, _ => by simp [MK.ok]
  | .f64, _, h => by simpa [MK.ok] using h
  | .uuid, _, h => by simpa [MK.ok] using h
  | .text, _, _ => by simp [MK.ok]
  | .textN, d, h => by
    simp only [MK.ok] at h ⊢
    intro ad hA
    obtain ⟨b, o, h1, h2⟩ := h ad hA
    exact ⟨b, o, h1, h2.move hs hM hF⟩
  | .octs, d, h => by
    simp only [MK.ok] at h ⊢
    exact Octs.move h hs hM hF
  | .list sz e, d, h => by
    simp only [MK.ok] at h ⊢
    exact ⟨h.1.move hs hM hF, fun i hi => MK.ok_move hs hM hF e _ (h.2 i hi)⟩
  | .part tags fs, d, h => by
    simp only [MK.ok] at h ⊢
    exact ⟨moveL fs d 0 h.1, h.2.move hs hM hF⟩
  | .partN tags fs, d, h => by
    simp only [MK.ok] at h ⊢
    intro ad hA
    obtain ⟨b, o, h1, h2, h3, h4⟩ := h ad hA
    exact ⟨b, o, h1, h2.move hs hM hF, moveL fs d 0 h3, h4.move hs hM hF⟩
where moveL : ∀ (fs : List MK) (d : DV) (i : Nat), okL w F fs d i → okL w' F' fs d i
  | [], _, _, _ => trivial
  | k :: r, d, i, h => ⟨MK.ok_move hs hM hF k _ h.1, moveL r d (i + 1) h.2⟩
end

end Go.Proofs.Ytbjopfcbpobnpaa.ME
