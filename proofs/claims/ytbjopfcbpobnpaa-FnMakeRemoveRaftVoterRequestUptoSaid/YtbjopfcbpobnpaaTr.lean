/- What the statement's reading of a tree says of memory. Own work. -/
import Derived.Test.YtbjopfcbpobnpaaRows
import Derived.Test.YtbjopfcbpobnpaaPz
import Derived.WalkKit
import Derived.ProofKit
import Derived.OpenShut
import Derived.JoinedCond
import Derived.WideKeyArgs
import Derived.ChangeSame
namespace Go.Proofs.Ytbjopfcbpobnpaa.ME
open Go
open Go.Proofs.Ytbjopfcbpobnpaa.Rows (uptoBulk uptoBulkAll)
set_option linter.unusedVariables false
set_option linter.unusedSimpArgs false

theorem bulk_pos {H : Type} (d : DataW H) : 1 ≤ uptoBulk d := by cases d <;> first | (unfold uptoBulk; omega) | (rename_i l; cases l <;> (unfold uptoBulk; omega))
theorem bulk_len {H : Type} : ∀ (l : List (DataW H)), l.length ≤ uptoBulkAll l
  | [] => Nat.zero_le _
  | d :: r => by
    have h1 := bulk_pos d
    have h2 := bulk_len r
    unfold uptoBulkAll
    rw [List.length_cons]; omega
theorem bulk_mem {H : Type} : ∀ {l : List (DataW H)} {d : DataW H}, d ∈ l → uptoBulk d ≤ uptoBulkAll l
  | [], d, h => by cases h
  | a :: r, d, h => by
    unfold uptoBulkAll
    rcases List.mem_cons.1 h with rfl | h
    · omega
    · have := bulk_mem h; omega
theorem mapM_some {α β : Type} {f : α → Option β} : ∀ {l : List α} {r : List β}, l.mapM f = some r → r.length = l.length ∧ ∀ (i : Nat) (a : α), l[i]? = some a → ∃ b, f a = some b ∧ r[i]? = some b
  | [], r, h => by
    simp only [List.mapM_nil, Option.pure_def, Option.some.injEq] at h
    subst h
    exact ⟨rfl, fun i a h => by simp at h⟩
  | x :: l, r, h => by
    rw [List.mapM_cons] at h
    cases hx : f x with
    | none => rw [hx] at h; cases h
    | some y =>
      rw [hx] at h
      cases hl : l.mapM f with
      | none => rw [hl] at h; cases h
      | some ys =>
        rw [hl] at h
        obtain rfl : y :: ys = r := Option.some.inj h
        obtain ⟨h1, h2⟩ := mapM_some hl
        refine ⟨by simp [h1], fun i a ha => ?_⟩
        cases i with
        | zero =>
          simp only [List.getElem?_cons_zero, Option.some.injEq] at ha
          subst ha
          exact ⟨y, hx, rfl⟩
        | succ i => simpa using h2 i a (by simpa using ha)
theorem cells_some {w : World} {a : Addr} {n : Nat} {cs : List Value} (h : w.cells? 0 a n = some cs) : cs.length = n ∧ ∀ (j : Nat) (v : Value), cs[j]? = some v → w.cell? (a.add j) = some v := by
  unfold World.cells? at h
  rw [if_pos (Nat.zero_le _)] at h
  obtain ⟨h1, h2⟩ := mapM_some h
  rw [List.length_range] at h1
  refine ⟨h1, fun j v hj => ?_⟩
  have hjn : j < n := by rw [← h1]; exact (List.getElem?_eq_some_iff.1 hj).1
  obtain ⟨b, hb, hc⟩ := h2 j j (by rw [List.getElem?_range hjn])
  rw [hj] at hc
  rw [hb, Option.some.inj hc]

theorem cell_plain {w : World} {a : Addr} {v : Value} (h : w.cell? a = some v) : a.spot = none := by
  unfold World.cell? at h
  split at h
  · split at h
    · cases h
    · rename_i hs; simpa using hs
  · cases h
/-- things of a slice, read: where there are some, the address is plain -/
theorem slots_of {w : World} {size n c : Nat} {ad : Addr} {cs : Nat → List Value} (hle : n ≤ c) (hsm : n ≤ 1099511627776) (hsz : 0 < size) (h : ∀ i, i < n → (cs i).length = size ∧ ∀ (j : Nat) (v : Value), (cs i)[j]? = some v → w.cell? ((ad.add (i * size)).add j) = some v) : Slots w (fun _ _ => True) size (some ad) c n cs := by
  refine ⟨hle, hsm, (fun hA => by cases hA), fun ad' hA hn => ?_⟩
  obtain rfl := Option.some.inj hA
  have h0 := h 0 hn
  have hp : ad.spot = none := by
    have h1 := cell_plain (h0.2 0 _ (List.getElem?_eq_getElem (by omega)))
    unfold Addr.add at h1
    split at h1
    · split at h1 <;> simp_all
    · simp_all
  obtain ⟨b, o, sp⟩ := ad
  simp only at hp
  subst hp
  refine ⟨b, o, rfl, fun i hi => ⟨(h i hi).1, fun j v hj => ⟨trivial, ?_⟩⟩⟩
  have := (h i hi).2 j v hj
  rwa [add_none, add_none] at this

theorem exists_list {α : Type} {R : Nat → α → Prop} : ∀ (n : Nat), (∀ i, i < n → ∃ x, R i x) → ∃ l : List α, l.length = n ∧ ∀ i x, l[i]? = some x → R i x
  | 0, _ => ⟨[], rfl, fun i x h => by simp at h⟩
  | n + 1, h => by
    obtain ⟨l, h1, h2⟩ := exists_list n fun i hi => h i (by omega)
    obtain ⟨x, hx⟩ := h n (by omega)
    refine ⟨l ++ [x], by simp [h1], fun i y hy => ?_⟩
    rcases get_snoc hy with hy | ⟨rfl, rfl⟩
    · exact h2 i y hy
    · rw [h1]; exact hx

theorem slice_list {α : Type} {w : World} {a : Addr} {len cap size : Nat} (R : List Value → α → Prop) (hle : len ≤ cap) (hsm : len ≤ 1099511627776) (hsz : 0 < size)
    (hex : ∀ i, i < len → ∃ ci : List Value, ci.length = size ∧ (∀ (j : Nat) (v : Value), ci[j]? = some v → w.cell? ((a.add (i * size)).add j) = some v) ∧ ∃ x, R ci x) :
    ∃ l : List α, l.length = len ∧ ∃ xs : Nat → List Value, Slots w (fun _ _ => True) size (some a) cap len xs ∧ ∀ i x, l[i]? = some x → R (xs i) x := by
  obtain ⟨l, h1, h2⟩ := exists_list (R := fun i (z : List Value × α) => z.1.length = size ∧ (∀ (j : Nat) (v : Value), z.1[j]? = some v → w.cell? ((a.add (i * size)).add j) = some v) ∧ R z.1 z.2) len (fun i hi => by
    obtain ⟨ci, g1, g2, x, g3⟩ := hex i hi
    exact ⟨(ci, x), g1, g2, g3⟩)
  have hget : ∀ i, i < len → ∃ z, l[i]? = some z := fun i hi => ⟨_, List.getElem?_eq_getElem (by omega)⟩
  have hxs : ∀ i z, l[i]? = some z → ((l.map (·.1)).getD i []) = z.1 := fun i z hz => by
    rw [List.getD_eq_getElem?_getD, List.getElem?_map, hz]; rfl
  refine ⟨l.map (·.2), by simp [h1], fun i => (l.map (·.1)).getD i [], slots_of hle hsm hsz (fun i hi => ?_), fun i x hx => ?_⟩
  · obtain ⟨z, hz⟩ := hget i hi
    rw [hxs i z hz]
    exact ⟨(h2 i z hz).1, (h2 i z hz).2.1⟩
  · rw [List.getElem?_map] at hx
    cases hz : l[i]? with
    | none => rw [hz] at hx; cases hx
    | some z =>
      rw [hz] at hx
      simp only [Option.map_some, Option.some.injEq] at hx
      subst hx
      dsimp only
      rw [hxs i z hz]
      exact (h2 i z hz).2.2

/-- a structure's fields: their types and places -/
def fieldsOf (P : Program) (t : TypeId) : Option (List (TypeId × Nat)) :=
  match P.underlying t with
  | some (.struct fs) => some (fs.toList.map fun f => (f.type, f.offset))
  | _ => none
theorem fieldsOf_ok {P : Program} {t : TypeId} {l : List (TypeId × Nat)} (h : fieldsOf P t = some l) : ∃ fs : Array Field, P.underlying t = some (.struct fs) ∧ fs.size = l.length ∧ ∀ (i : Nat) ty off, l[i]? = some (ty, off) → ∃ f, fs[i]? = some f ∧ f.type = ty ∧ f.offset = off := by
  unfold fieldsOf at h
  split at h
  · rename_i fs hfs
    simp only [Option.some.injEq] at h
    subst h
    refine ⟨fs, hfs, by simp, fun i ty off hi => ?_⟩
    rw [List.getElem?_map] at hi
    cases hf : fs.toList[i]? with
    | none => rw [hf] at hi; cases hi
    | some f =>
      rw [hf] at hi
      simp only [Option.map_some, Option.some.injEq, Prod.mk.injEq] at hi
      exact ⟨f, by simpa using hf, hi.1, hi.2⟩
  · cases h

/-- the types that a tree is of -/
structure TreeTys (P : Program) (T TL TU TG TB TI TO TK T8 : TypeId) : Prop where
  tree : fieldsOf P T = some [(TI, 0), (TB, 1), (TO, 2), (TL, 3), (TU, 4)]
  tag : fieldsOf P TG = some [(TK, 0), (TB, 1)]
  trees : P.underlying TL = some (.slice T)
  tags : P.underlying TU = some (.slice TG)
  bytes : P.underlying TB = some (.slice T8)
  int : P.underlying TI = some (.int .i64)
  bool : P.underlying TO = some .bool
  key : P.underlying TK = some (.int .u32)
  byte : P.underlying T8 = some (.int .u8)
  cells : (P.cellsOf T, P.cellsOf TL, P.cellsOf TU, P.cellsOf TG, P.cellsOf TB, P.cellsOf TI, P.cellsOf TO, P.cellsOf TK, P.cellsOf T8) = (5, 1, 1, 2, 1, 1, 1, 1, 1)

section
variable {H : Type} {enc : TypeId × Value → H} {P : Program} {W : World} {sp : Nat → Bool} {hd : Bool} {T TL TU TG TB TI TO TK T8 : TypeId}

theorem bind_get {α β : Type} {x : Option α} {f : α → Option β} {l : List β} {i : Nat} (h : x.bind f = l[i]?) (hi : i < l.length) : ∃ a b, x = some a ∧ f a = some b ∧ l[i]? = some b := by
  rw [List.getElem?_eq_getElem hi] at h
  obtain ⟨a, ha, hb⟩ := Option.bind_eq_some_iff.1 h
  exact ⟨a, _, ha, hb, List.getElem?_eq_getElem hi⟩
theorem slice_bulk {elems spare : List (DataW H)} {n : Nat} (h : uptoBulk (.slice elems spare) ≤ n) : elems.length ≤ n ∧ ∀ d ∈ elems, uptoBulk d ≤ n := by
  unfold uptoBulk at h
  have h1 := bulk_len elems
  exact ⟨by omega, fun d hd => by have := bulk_mem hd; omega⟩
theorem agg_bulk {parts : List (DataW H)} {n : Nat} (h : uptoBulk (.agg parts) ≤ n) : ∀ d ∈ parts, uptoBulk d ≤ n := by
  unfold uptoBulk at h
  exact fun d hd => by have := bulk_mem hd; omega

theorem trod_octs {fuel : Nat} {cs : List Value} {x : DataW H × List MemPlace} (hT : TreeTys P T TL TU TG TB TI TO TK T8) (h : DataW.trod enc P W 0 sp hd fuel TB cs = some x) (hb : uptoBulk x.1 ≤ 1048576) :
    ∃ A c s, cs = [.slice A (s : Bs).length c] ∧ Octs W (fun _ _ => True) A c s := by
  have hc := hT.cells
  simp only [Prod.mk.injEq] at hc
  rcases DataW.trod_slice hT.bytes h with ⟨rfl, rfl⟩ | ⟨a, len, cap, elems, rest, n, _, rfl, rfl, _, hle, _, hlen, he, _⟩
  · exact ⟨none, 0, [], rfl, Octs.nil _ _⟩
  · have hbl := slice_bulk hb
    simp only [List.length_map] at hbl
    obtain ⟨l, hl, xs, h1, h2⟩ := slice_list (w := W) (a := a) (len := len) (cap := cap) (size := 1) (fun ci (q : UInt8) => ci = [byteCell q]) hle (by omega) (by omega) (fun i hi => by
      obtain ⟨ci, y, g1, g2, g3⟩ := bind_get (he i hi) (by omega)
      obtain ⟨g4, g5⟩ := cells_some g1
      rw [hc.2.2.2.2.2.2.2.2] at g4 g5
      refine ⟨ci, g4, g5, ?_⟩
      obtain ⟨v, rfl, _, hw⟩ := DataW.trod_int hT.byte g2
      have hx : 0 ≤ v ∧ v ≤ 255 := by simpa [Lit.wf, IntKind.min, IntKind.max, IntKind.signed, IntKind.bits] using hw
      refine ⟨UInt8.ofNat v.toNat, ?_⟩
      unfold byteCell
      rw [UInt8.toNat_ofNat']
      congr 2
      omega)
    refine ⟨some a, cap, l, by rw [hl], ?_⟩
    unfold Octs
    rw [hl]
    refine ⟨h1.le, h1.small, h1.none_, fun ad hA hn => ?_⟩
    obtain ⟨b, o, e1, e2⟩ := h1.some_ ad hA hn
    refine ⟨b, o, e1, fun i hi => ?_⟩
    have hli : l[i]? = some (l.getD i 0) := by
      rw [List.getD_eq_getElem?_getD, List.getElem?_eq_getElem (by omega)]; rfl
    have := h2 i _ hli
    rw [← this]
    exact e2 i hi

theorem fld_one {n : Nat} {fs : Array Field} {xs : List (DataW H × List MemPlace)} {cs : List Value} {l : List (TypeId × Nat)} (hx : ∀ (i : Nat) (f : Field), fs[i]? = some f → DataW.trod enc P W 0 sp hd n f.type ((cs.drop f.offset).take (P.cellsOf f.type)) = xs[i]?)
    (hl : ∀ (i : Nat) ty off, l[i]? = some (ty, off) → ∃ f, fs[i]? = some f ∧ f.type = ty ∧ f.offset = off) {i : Nat} {ty off : Nat} (hi : l[i]? = some (ty, off)) (h1 : P.cellsOf ty = 1) (hxl : i < xs.length) {c : Value} (hc : cs[off]? = some c) :
    ∃ y, xs[i]? = some y ∧ DataW.trod enc P W 0 sp hd n ty [c] = some y := by
  obtain ⟨f, hf, rfl, rfl⟩ := hl i _ _ hi
  have := hx i f hf
  rw [h1] at this
  refine ⟨xs[i], List.getElem?_eq_getElem hxl, ?_⟩
  rw [List.getElem?_eq_getElem hxl] at this
  have e : (cs.drop f.offset).take 1 = [c] := by
    rw [List.take_one, List.head?_drop, hc]; rfl
  rw [e] at this
  exact this

theorem trod_tags {fuel : Nat} {cs : List Value} {x : DataW H × List MemPlace} (hT : TreeTys P T TL TU TG TB TI TO TK T8) (h : DataW.trod enc P W 0 sp hd fuel TU cs = some x) (hb : uptoBulk x.1 ≤ 1048576) :
    ∃ A c u, cs = [.slice A (u : List (Int × Bs)).length c] ∧ TagsR W (fun _ _ => True) A c u := by
  have hc := hT.cells
  simp only [Prod.mk.injEq] at hc
  rcases DataW.trod_slice hT.tags h with ⟨rfl, rfl⟩ | ⟨a, len, cap, elems, rest, n, _, rfl, rfl, _, hle, _, hlen, he, _⟩
  · exact ⟨none, 0, [], rfl, TagsR.nil _ _⟩
  · have hbl := slice_bulk hb
    simp only [List.length_map] at hbl
    obtain ⟨l, hl, xs, h1, h2⟩ := slice_list (w := W) (a := a) (len := len) (cap := cap) (size := 2) (fun ci (q : Int × Bs) => (∃ A' c', ci = [.int .u32 q.1, .slice A' q.2.length c'] ∧ Octs W (fun _ _ => True) A' c' q.2) ∧ 0 ≤ q.1 ∧ q.1 < 4294967296) hle (by omega) (by omega) (fun i hi => by
      obtain ⟨ci, y, g1, g2, g3⟩ := bind_get (he i hi) (by omega)
      obtain ⟨g4, g5⟩ := cells_some g1
      rw [hc.2.2.2.1] at g4 g5
      refine ⟨ci, g4, g5, ?_⟩
      obtain ⟨fs, hfs, hsz, hl⟩ := fieldsOf_ok hT.tag
      obtain ⟨xs, m, _, rfl, _, hxl, hx⟩ := DataW.trod_struct hfs g2
      rw [hsz] at hxl
      have hxl' : xs.length = 2 := hxl
      match ci, g4 with
      | [c0, c1], _ =>
        obtain ⟨y0, _, k0⟩ := fld_one hx hl (i := 0) rfl hc.2.2.2.2.2.2.2.1 (by omega) (c := c0) rfl
        obtain ⟨y1, e1, k1⟩ := fld_one hx hl (i := 1) rfl hc.2.2.2.2.1 (by omega) (c := c1) rfl
        obtain ⟨v, hv, _, hw⟩ := DataW.trod_int hT.key k0
        have hx : 0 ≤ v ∧ v ≤ 4294967295 := by simpa [Lit.wf, IntKind.min, IntKind.max, IntKind.signed, IntKind.bits] using hw
        have hby : uptoBulk y1.1 ≤ 1048576 := by
          have hm : DataW.agg (xs.map (·.1)) ∈ elems.map (·.1) := by
            have := List.mem_of_getElem? g3
            exact List.mem_map.2 ⟨_, this, rfl⟩
          exact agg_bulk (hbl.2 _ hm) _ (List.mem_map.2 ⟨_, List.mem_of_getElem? e1, rfl⟩)
        obtain ⟨A', c', s, hs, ho⟩ := trod_octs hT k1 hby
        simp only [List.cons.injEq, and_true] at hv hs
        subst hv; subst hs
        exact ⟨(v, s), ⟨A', c', rfl, ho⟩, by dsimp only; omega, by dsimp only; omega⟩)
    refine ⟨some a, cap, l, by rw [hl], xs, by rw [hl]; exact h1, fun i k s hi => h2 i (k, s) hi⟩

theorem trod_tree (hT : TreeTys P T TL TU TG TB TI TO TK T8) : ∀ (fuel : Nat) (cs : List Value) (x : DataW H × List MemPlace), DataW.trod enc P W 0 sp hd fuel T cs = some x → uptoBulk x.1 ≤ 1048576 → ∃ t, TreeR W (fun _ _ => True) cs t := by
  intro fuel
  induction fuel using Nat.strongRecOn with
  | _ fuel ih =>
  intro cs x h hb
  have hc := hT.cells
  simp only [Prod.mk.injEq] at hc
  obtain ⟨fs, hfs, hsz, hl⟩ := fieldsOf_ok hT.tree
  obtain ⟨xs, m, rfl, rfl, hcl, hxl, hx⟩ := DataW.trod_struct hfs h
  rw [hsz] at hxl
  have hxl' : xs.length = 5 := hxl
  rw [hc.1] at hcl
  have hbe : ∀ {i : Nat} {y : DataW H × List MemPlace}, xs[i]? = some y → uptoBulk y.1 ≤ 1048576 := fun e => agg_bulk hb _ (List.mem_map.2 ⟨_, List.mem_of_getElem? e, rfl⟩)
  match cs, hcl with
  | [c0, c1, c2, c3, c4], _ =>
    obtain ⟨y0, _, k0⟩ := fld_one hx hl (i := 0) rfl hc.2.2.2.2.2.1 (by omega) (c := c0) rfl
    obtain ⟨y1, e1, k1⟩ := fld_one hx hl (i := 1) rfl hc.2.2.2.2.1 (by omega) (c := c1) rfl
    obtain ⟨y2, _, k2⟩ := fld_one hx hl (i := 2) rfl hc.2.2.2.2.2.2.1 (by omega) (c := c2) rfl
    obtain ⟨y3, e3, k3⟩ := fld_one hx hl (i := 3) rfl hc.2.1 (by omega) (c := c3) rfl
    obtain ⟨y4, e4, k4⟩ := fld_one hx hl (i := 4) rfl hc.2.2.1 (by omega) (c := c4) rfl
    obtain ⟨v, hv, _, _⟩ := DataW.trod_int hT.int k0
    obtain ⟨A1, d1, s, hs, ho⟩ := trod_octs hT k1 (hbe e1)
    obtain ⟨b, hbo, _⟩ := DataW.trod_bool hT.bool k2
    obtain ⟨A3, d3, u, hu, hur⟩ := trod_tags hT k4 (hbe e4)
    have hll : ∃ A2 d2 l xs2, [c3] = [.slice A2 (l : List Tree).length d2] ∧ Slots W (fun _ _ => True) 5 A2 d2 l.length xs2 ∧ ∀ i x, l[i]? = some x → TreeR W (fun _ _ => True) (xs2 i) x := by
      rcases DataW.trod_slice hT.trees k3 with ⟨e, _⟩ | ⟨a, len, cap, elems, rest, n, rfl, e, rfl, _, hle, _, hlen, he, _⟩
      · exact ⟨none, 0, [], fun _ => [], e, Slots.nil _ _ _ _, fun i x h => by simp at h⟩
      · have hbl := slice_bulk (hbe e3)
        simp only [List.length_map] at hbl
        obtain ⟨l, hl, xs2, h1, h2⟩ := slice_list (w := W) (a := a) (len := len) (cap := cap) (size := 5) (fun ci (q : Tree) => TreeR W (fun _ _ => True) ci q) hle (by omega) (by omega) (fun i hi => by
          obtain ⟨ci, y, g1, g2, g3⟩ := bind_get (he i hi) (by omega)
          obtain ⟨g4, g5⟩ := cells_some g1
          rw [hc.1] at g4 g5
          exact ⟨ci, g4, g5, ih n (by omega) ci y g2 (hbl.2 _ (List.mem_map.2 ⟨_, List.mem_of_getElem? g3, rfl⟩))⟩)
        exact ⟨some a, cap, l, xs2, by rw [e, hl], by rw [hl]; exact h1, h2⟩
    obtain ⟨A2, d2, l, xs2, hl2, hsl, hxl2⟩ := hll
    simp only [List.cons.injEq, and_true] at hv hs hbo hl2 hu
    subst hv; subst hs; subst hbo; subst hl2; subst hu
    exact ⟨_, .mk xs2 ho hsl hxl2 hur⟩
end

/-! behind the call -/
section
variable {H : Type} {enc : TypeId × Value → H} {P : Program}
open Go.ChangeShapes Go.WideShapes Go.ChangeAt Go.RowKit
theorem Step.same {W W' : World} (h : Step W W' Nil) {b : Nat} (hb : b < W.heap.size) : W'.heap[b]? = W.heap[b]? := (h.keeps b hb).1 fun _ hn => hn
theorem Step.sameAt {W W' : World} (h : Step W W' Nil) {p : MemPlace} (hp : p.block < W.heap.size) : W.sameAt W' p := by
  cases p with
  | cell b o => exact World.cell_of_heap (h.same hp)
  | map b => exact h.same hp
theorem Step.keptBut {W W' : World} (h : Step W W' Nil) (may : MemPlace → Prop) : W.keptBut W' may := by
  refine ⟨h.os, h.output, fun i hi => ?_⟩
  rw [h.same hi]
  cases hx : W.heap[i]? with
  | none => rfl
  | some x =>
    cases x with
    | cells c t f => exact ⟨rfl, rfl, rfl, fun _ _ => rfl⟩
    | map es clock => exact .inr ⟨rfl, rfl⟩
    | _ => rfl
theorem trodAll_stays (hl : laidOutB P = true) {W W' : World} (hs : Step W W' Nil) : ∀ {ts : List TypeId} {vs : List Value} {ds : List (DataW H)} {ps : List MemPlace}, (∀ t ∈ ts, P.readableRec t = true ∧ t < P.types.size) → DataW.TrodAll enc P W 0 (fun _ => true) true ts vs ds ps → (∀ p ∈ ps, p.block < W.heap.size) →
    DataW.TrodAll enc P W' 0 (fun b => decide (b < W.heap.size)) true ts vs ds ps
  | [], vs, ds, ps, _, h, _ => by
    obtain ⟨rfl, rfl, rfl⟩ := trodAll_nil h
    exact rfl
  | t :: ts, vs, ds, ps, ht, h, hp => by
    obtain ⟨v, vs', d, ds', p, q, rfl, rfl, rfl, h1, h2⟩ := trodAll_cons h
    have h0 := ht t (List.mem_cons_self ..)
    refine ⟨p, q, ?_, trodAll_stays hl hs (fun t' h' => ht t' (List.mem_cons_of_mem _ h')) h2 (fun x hx => hp x (List.mem_append_right _ hx)), rfl⟩
    exact Go.WideElems.Trod_stays hl h0.1 h0.2 h1 (fun x hx => hs.sameAt (hp x (List.mem_append_left _ hx))) (fun x hx => decide_eq_true (hp x (List.mem_append_left _ hx)))
/-- the law's last step -/
theorem post_step {f : Func} {s : ChangeSpec} {W W' : World} {args : Array Value} {v : Value} {ds gs : List (DataW H)} {before : List MemPlace} {handsOn : Bool}
    (hW : DataW.Whole enc P f.params.toList s.vars false W args.toList ds gs before) (hs : Step W W' Nil) (hl : laidOutB P = true) (hpar : ∀ t ∈ f.params.toList, P.readableRec t = true ∧ t < P.types.size)
    (hv : s.vars = []) (hargs : (s.fn H (ds ++ gs)).args = ds) (hvars : (s.fn H (ds ++ gs)).vars = [])
    (hres : ∀ (b : Nat) (sp : Nat → Bool) (hd : Bool), DataW.TrodAll enc P W' b sp hd f.resultTypes.toList (v.resultList f.resultTypes.size) (s.fn H (ds ++ gs)).results []) :
    s.post enc P f false true handsOn false W args v W' := by
  have hlt : ∀ p ∈ before, p.block < W.heap.size := fun p hp => hW.lt p hp
  obtain ⟨p, q, hA, hV, rfl, _, _⟩ := id hW
  rw [hv] at hV
  obtain ⟨rfl, rfl⟩ := trodVars_none hV
  refine ⟨ds, [], _, [], p, [], hW, hres _ _ _, ?_, ?_, hs.keptBut _, fun h => by cases h⟩
  · rw [hargs]
    exact trodAll_stays hl hs hpar hA (fun x hx => hlt x (List.mem_append_left _ hx))
  · rw [hvars, hv]; exact rfl
end

end Go.Proofs.Ytbjopfcbpobnpaa.ME
