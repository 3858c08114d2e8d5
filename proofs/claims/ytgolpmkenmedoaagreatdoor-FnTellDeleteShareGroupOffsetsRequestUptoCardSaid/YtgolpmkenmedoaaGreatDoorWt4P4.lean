/- The texts of a claim, put together: the engine, the contracts, the law. Own work. -/
import Derived.Test.YtgolpmkenmedoaaGreatDoorWt4P3
namespace Go.Proofs.YtgolpmkenmedoaaGreatDoor.ME
open Go
open Go.RowKit
set_option linter.unusedVariables false
set_option linter.unusedSimpArgs false
theorem n8w (x : Int) : IntKind.i8.wrap x = (x + 128) % 256 - 128 := by simp [IntKind.wrap, IntKind.signed, IntKind.bits]; omega
theorem n16w (x : Int) : IntKind.i16.wrap x = (x + 32768) % 65536 - 32768 := by simp [IntKind.wrap, IntKind.signed, IntKind.bits]; omega
theorem n32w (x : Int) : IntKind.i32.wrap x = (x + 2147483648) % 4294967296 - 2147483648 := by simp [IntKind.wrap, IntKind.signed, IntKind.bits]; omega
theorem n64w (x : Int) : IntKind.i64.wrap x = (x + 9223372036854775808) % 18446744073709551616 - 9223372036854775808 := by simp [IntKind.wrap, IntKind.signed, IntKind.bits]; omega
theorem n64_8 (x : Int) : IntKind.i64.wrap (IntKind.i8.wrap x) = IntKind.i8.wrap x := by rw [n64w, n8w]; omega
theorem n64_16 (x : Int) : IntKind.i64.wrap (IntKind.i16.wrap x) = IntKind.i16.wrap x := by rw [n64w, n16w]; omega
theorem n64_32 (x : Int) : IntKind.i64.wrap (IntKind.i32.wrap x) = IntKind.i32.wrap x := by rw [n64w, n32w]; omega
theorem n64_u16 (x : Int) : IntKind.i64.wrap (IntKind.u16.wrap x) = IntKind.u16.wrap x := by rw [n64w, wrap_u16]; omega
def numberI (k n : Int) : Int := if k = 0 then n % 2 else if k = 1 then IntKind.i8.wrap n else if k = 2 then IntKind.i16.wrap n else if k = 3 then IntKind.i32.wrap n else if k = 5 then IntKind.u16.wrap n else n
structure UsQ (U : List Fld → Tree → Prop) (k x1 x2 x3 x4 x5 x6 : Int) (sub : List Fld) (n : Int) (s : Bs) (b : Bool) (l : List Tree) (u : List (Int × Bs)) : Prop where
 text : k = 8 → b = decide (x3 ≥ 0) ∧ s = []
 uuid : k = 7 → s = List.replicate 16 0
 octs : k = 9 ∨ k = 11 → s = [] ∧ l = []
 part : k = 10 → (x3 ≥ 0 → b = true) ∧ (x3 < 0 → U sub (.mk n s b l u))
 num : k ≠ 7 → k ≠ 8 → k ≠ 9 → k ≠ 10 → k ≠ 11 → n = numberI k x5
def UsF (U : List Fld → Tree → Prop) : Fld → Tree → Prop
 | .mk k x1 x2 x3 x4 x5 x6 sub, .mk n s b l u => UsQ U k x1 x2 x3 x4 x5 x6 sub n s b l u
def UsP (U : List Fld → Tree → Prop) (l : List Fld) (g : Tree) : Prop := g.U = [] ∧ ∀ (i : Nat) (f : Fld), l[i]? = some f → UsF U f (g.at_ i)
def UsualP : Nat → List Fld → Tree → Prop
 | 0 => UsP fun _ _ => False
 | d + 1 => UsP (UsualP d)
structure ToQ (T : List Fld → Tree → Tree → Prop) (v : Int) (f : Fld) (k x3 : Int) (sub : List Fld) (t : Tree) (tn : Int) (ts : Bs) (n : Int) (s : Bs) (b : Bool) (g : Tree) : Prop where
 null : k = 8 ∨ k = 10 ∨ (x3 ≥ 0 ∧ v ≥ x3) → b = f.nul v t
 text : f.nul v t = false → k = 8 ∨ k = 9 → s = whole ts
 uuid : f.nul v t = false → k = 7 → s = uuidB ts
 part : f.nul v t = false → k = 10 → T sub t g
 num : f.nul v t = false → k ≠ 7 → k ≠ 8 → k ≠ 9 → k ≠ 10 → k ≠ 11 → n = numberI k tn
def ToF0 (T : List Fld → Tree → Tree → Prop) (v : Int) : Fld → Tree → Tree → Prop
 | .mk k x1 x2 x3 x4 x5 x6 sub, .mk tn ts tb tl tu, .mk n s b l u => ToQ T v (.mk k x1 x2 x3 x4 x5 x6 sub) k x3 sub (.mk tn ts tb tl tu) tn ts n s b (.mk n s b l u)
def ToF (T : List Fld → Tree → Tree → Prop) (v : Int) (f : Fld) (t g : Tree) : Prop :=
 ToF0 T v f t g ∧ (f.kind = 11 → f.nul v t = false → g.L.length = (things t.L).length ∧ ∀ (i : Nat) (x y : Tree), (things t.L)[i]? = some x → g.L[i]? = some y → ToF0 T v f.elem x y)
def Fld.pres (f : Fld) (v : Int) (flex : Bool) (x : Tree) : Bool := (decide (f.tag < 0) && f.has v) || (decide (f.tag ≥ 0) && (flex && !f.usual x))
def ToP (T : List Fld → Tree → Tree → Prop) (U : List Fld → Tree → Prop) (l : List Fld) (v : Int) (flex : Bool) (t g : Tree) : Prop :=
 g.L.length = l.length ∧ (∀ (i : Nat) (f : Fld) (y : Tree), l[i]? = some f → g.L[i]? = some y → (f.pres v flex (t.at_ i) = true → ToF T v f (t.at_ i) y) ∧ (f.pres v flex (t.at_ i) = false → UsF U f y)) ∧
  g.U = (if flex = true then wholeU (unknownT l t.U) else [])
def ToldP (v : Int) (flex : Bool) : Nat → List Fld → Tree → Tree → Prop
 | 0 => fun l t g => ToP (fun _ _ _ => False) (fun _ _ => False) l v flex t g
 | d + 1 => fun l t g => ToP (ToldP v flex d) (UsualP d) l v flex t g
theorem us_one {U : List Fld → Tree → Prop} {f : Fld} {y : Tree} (h : UsF U f y) : UsP U [f] (.mk 0 [] false [y] []) := by
 refine ⟨rfl, fun i g hg => ?_⟩
 cases i with
 | zero =>
  simp only [List.getElem?_cons_zero, Option.some.injEq] at hg
  subst hg
  exact h
 | succ i => simp at hg
theorem octs_zero {w : World} {e : Nat} {A : Option Addr} {c : Nat} {F : Nat → Nat → Prop} (h : w.ownsRow 0 e 1 (.slice A 16 c) 16 (List.replicate 16 (.int .u8 0))) (hF : ∀ g, A.map (·.block) = some g → ∀ o, F g o) : Octs w F A c (List.replicate 16 0) :=
 octs_own (s := List.replicate 16 0) h (by decide) hF
section
variable {U : List Fld → Tree → Prop} {k x1 x2 x3 x4 x5 x6 n : Int} {sub : List Fld} {s : Bs} {b : Bool} {l : List Tree} {u : List (Int × Bs)}
abbrev UsH (U : List Fld → Tree → Prop) (k x1 x2 x3 x4 x5 x6 : Int) (sub : List Fld) (n : Int) (s : Bs) (b : Bool) (l : List Tree) (u : List (Int × Bs)) : Prop := UsF U (.mk k x1 x2 x3 x4 x5 x6 sub) (.mk n s b l u)
theorem us_q (h : UsH U k x1 x2 x3 x4 x5 x6 sub n s b l u) : UsQ U k x1 x2 x3 x4 x5 x6 sub n s b l u := h
theorem us_8a (h : UsH U k x1 x2 x3 x4 x5 x6 sub n s b l u) (hk : k = 8) (hc : (b != decide (x3 ≥ 0)) = true) : False := by
 have := ((us_q h).text hk).1
 rw [this] at hc; simp at hc
theorem us_8b (h : UsH U k x1 x2 x3 x4 x5 x6 sub n s b l u) (hk : k = 8) (hc : ((s.length : Nat) : Int) > 0) : False := by
 have := ((us_q h).text hk).2
 rw [this] at hc; simp at hc
theorem us_7 (h : UsH U k x1 x2 x3 x4 x5 x6 sub n s b l u) (hk : k = 7) (hc : (!decide (s = (List.replicate 16 0 : Bs))) = true) : False := by
 have := (us_q h).uuid hk
 rw [this] at hc; simp at hc
theorem us_9a (h : UsH U k x1 x2 x3 x4 x5 x6 sub n s b l u) (hk : k = 9) (hc : ((s.length : Nat) : Int) > 0) : False := by
 have := ((us_q h).octs (.inl hk)).1
 rw [this] at hc; simp at hc
theorem us_9b (h : UsH U k x1 x2 x3 x4 x5 x6 sub n s b l u) (hk : k = 9) (hc : ((l.length : Nat) : Int) > 0) : False := by
 have := ((us_q h).octs (.inl hk)).2
 rw [this] at hc; simp at hc
theorem us_11a (h : UsH U k x1 x2 x3 x4 x5 x6 sub n s b l u) (hk : k = 11) (hc : ((s.length : Nat) : Int) > 0) : False := by
 have := ((us_q h).octs (.inr hk)).1
 rw [this] at hc; simp at hc
theorem us_11b (h : UsH U k x1 x2 x3 x4 x5 x6 sub n s b l u) (hk : k = 11) (hc : ((l.length : Nat) : Int) > 0) : False := by
 have := ((us_q h).octs (.inr hk)).2
 rw [this] at hc; simp at hc
theorem us_10 (h : UsH U k x1 x2 x3 x4 x5 x6 sub n s b l u) (hk : k = 10) (h3 : x3 ≥ 0) (hc : (!b) = true) : False := by
 have := ((us_q h).part hk).1 h3
 rw [this] at hc; simp at hc
theorem us_sub (h : UsH U k x1 x2 x3 x4 x5 x6 sub n s b l u) (hk : k = 10) (h3 : x3 < 0) : U sub (.mk n s b l u) := ((us_q h).part hk).2 h3
theorem us_n (h : UsH U k x1 x2 x3 x4 x5 x6 sub n s b l u) (h7 : k ≠ 7) (h8 : k ≠ 8) (h9 : k ≠ 9) (h10 : k ≠ 10) (h11 : k ≠ 11) (hc : n ≠ numberI k x5) : False := hc ((us_q h).num h7 h8 h9 h10 h11)
theorem us_u {g : Tree} (h : g.U = []) {u : List (Int × Bs)} (e : g.U = u) (hc : ((u.length : Nat) : Int) > 0) : False := by
 rw [← e, h] at hc; simp at hc
end
section
variable {T : List Fld → Tree → Tree → Prop} {v k x1 x2 x3 x4 x5 x6 tn n : Int} {sub : List Fld} {ts s : Bs} {tb b : Bool} {tl l : List Tree} {tu u : List (Int × Bs)}
abbrev ToH (T : List Fld → Tree → Tree → Prop) (v k x1 x2 x3 x4 x5 x6 : Int) (sub : List Fld) (tn : Int) (ts : Bs) (tb : Bool) (tl : List Tree) (tu : List (Int × Bs)) (n : Int) (s : Bs) (b : Bool) (l : List Tree) (u : List (Int × Bs)) : Prop := ToF0 T v (.mk k x1 x2 x3 x4 x5 x6 sub) (.mk tn ts tb tl tu) (.mk n s b l u)
abbrev NulH (v k x1 x2 x3 x4 x5 x6 : Int) (sub : List Fld) (tn : Int) (ts : Bs) (tb : Bool) (tl : List Tree) (tu : List (Int × Bs)) : Bool := Fld.nul (.mk k x1 x2 x3 x4 x5 x6 sub) v (.mk tn ts tb tl tu)
theorem to_q (h : ToH T v k x1 x2 x3 x4 x5 x6 sub tn ts tb tl tu n s b l u) : ToQ T v (.mk k x1 x2 x3 x4 x5 x6 sub) k x3 sub (.mk tn ts tb tl tu) tn ts n s b (.mk n s b l u) := h
theorem to_n8 (h : ToH T v k x1 x2 x3 x4 x5 x6 sub tn ts tb tl tu n s b l u) (hk : k = 8) (hc : (b != NulH v k x1 x2 x3 x4 x5 x6 sub tn ts tb tl tu) = true) : False := by
 rw [(to_q h).null (.inl hk)] at hc; simp at hc
theorem to_n10 (h : ToH T v k x1 x2 x3 x4 x5 x6 sub tn ts tb tl tu n s b l u) (hk : k = 10) (hc : (b != NulH v k x1 x2 x3 x4 x5 x6 sub tn ts tb tl tu) = true) : False := by
 rw [(to_q h).null (.inr (.inl hk))] at hc; simp at hc
theorem to_nm (h : ToH T v k x1 x2 x3 x4 x5 x6 sub tn ts tb tl tu n s b l u) (h1 : x3 ≥ 0) (h2 : v ≥ x3) (hc : (b != NulH v k x1 x2 x3 x4 x5 x6 sub tn ts tb tl tu) = true) : False := by
 rw [(to_q h).null (.inr (.inr ⟨h1, h2⟩))] at hc; simp at hc
theorem to_part (h : ToH T v k x1 x2 x3 x4 x5 x6 sub tn ts tb tl tu n s b l u) (hn : NulH v k x1 x2 x3 x4 x5 x6 sub tn ts tb tl tu = false) (hk : k = 10) : T sub (.mk tn ts tb tl tu) (.mk n s b l u) := (to_q h).part hn hk
theorem to_t8 (h : ToH T v k x1 x2 x3 x4 x5 x6 sub tn ts tb tl tu n s b l u) (hn : NulH v k x1 x2 x3 x4 x5 x6 sub tn ts tb tl tu = false) (hk : k = 8) : decide (s = whole ts) = true := decide_eq_true ((to_q h).text hn (.inl hk))
theorem to_t9 (h : ToH T v k x1 x2 x3 x4 x5 x6 sub tn ts tb tl tu n s b l u) (hn : NulH v k x1 x2 x3 x4 x5 x6 sub tn ts tb tl tu = false) (hk : k = 9) : decide (s = whole ts) = true := decide_eq_true ((to_q h).text hn (.inr hk))
theorem to_u (h : ToH T v k x1 x2 x3 x4 x5 x6 sub tn ts tb tl tu n s b l u) (hn : NulH v k x1 x2 x3 x4 x5 x6 sub tn ts tb tl tu = false) (hk : k = 7) : decide (s = uuidB ts) = true := decide_eq_true ((to_q h).uuid hn hk)
theorem to_m (h : ToH T v k x1 x2 x3 x4 x5 x6 sub tn ts tb tl tu n s b l u) (hn : NulH v k x1 x2 x3 x4 x5 x6 sub tn ts tb tl tu = false) (h8 : k ≠ 8) (h9 : k ≠ 9) (h7 : k ≠ 7) (h10 : k ≠ 10) (h11 : k ≠ 11) : (n == numberI k tn) = true := by
 rw [(to_q h).num hn h7 h8 h9 h10 h11]; simp
theorem to_len {a c : Nat} (h : a = c) (hc : ((a : Nat) : Int) ≠ ((c : Nat) : Int)) : False := hc (by rw [h])
end
theorem anyC_two {P : Program} {ops : Array Oper} {Q : Exit → Act → World → Prop} {a : Act} {w : World} {T : World → Prop} {c i j fuel : Nat} {listed : Array Bool} (hr : Region.ready .any ops listed = [i, j]) (h : wpOp P ops Q i (fun a' w' => (i ≠ c → T w') ∧ wpAnyC P ops Q T c fuel (listed.setIfInBounds i true) a' w') a w)
  (h' : wpOp P ops Q j (fun a' w' => (j ≠ c → T w') ∧ wpAnyC P ops Q T c fuel (listed.setIfInBounds j true) a' w') a w) : wpAnyC P ops Q T c (fuel + 1) listed a w := by
 refine ⟨fun h0 => (by rw [hr] at h0; cases h0), fun q hq => ?_⟩
 rw [hr] at hq
 simp only [List.mem_cons, List.not_mem_nil, or_false] at hq
 rcases hq with rfl | rfl
 ·exact h
 ·exact h'
theorem pres_a {k x1 x2 x3 x4 x5 x6 v : Int} {sub : List Fld} {flex : Bool} {x : Tree} (h : x4 < 0) (h2 : Fld.has (.mk k x1 x2 x3 x4 x5 x6 sub) v = true) : Fld.pres (.mk k x1 x2 x3 x4 x5 x6 sub) v flex x = true := by
 simp [Fld.pres, Fld.tag, h, h2]
theorem pres_b {k x1 x2 x3 x4 x5 x6 v : Int} {sub : List Fld} {flex : Bool} {x : Tree} (h : x4 ≥ 0) (h2 : flex = true) (h3 : (!Fld.usual (.mk k x1 x2 x3 x4 x5 x6 sub) x) = true) : Fld.pres (.mk k x1 x2 x3 x4 x5 x6 sub) v flex x = true := by
 subst h2
 simp only [Bool.not_eq_true'] at h3
 simp [Fld.pres, Fld.tag, h, h3]
theorem pres_c {k x1 x2 x3 x4 x5 x6 v : Int} {sub : List Fld} {flex : Bool} {x : Tree} (h : x4 < 0) (h2 : Fld.has (.mk k x1 x2 x3 x4 x5 x6 sub) v = false) : Fld.pres (.mk k x1 x2 x3 x4 x5 x6 sub) v flex x = false := by
 have : ¬ x4 ≥ 0 := by omega
 simp [Fld.pres, Fld.tag, h2, this]
theorem pres_d {k x1 x2 x3 x4 x5 x6 v : Int} {sub : List Fld} {flex : Bool} {x : Tree} (h : ¬ x4 < 0) (h2 : flex = false) : Fld.pres (.mk k x1 x2 x3 x4 x5 x6 sub) v flex x = false := by
 subst h2
 simp [Fld.pres, Fld.tag, h]
theorem pres_e {k x1 x2 x3 x4 x5 x6 v : Int} {sub : List Fld} {flex : Bool} {x : Tree} (h : ¬ x4 < 0) (h3 : (!Fld.usual (.mk k x1 x2 x3 x4 x5 x6 sub) x) = false) : Fld.pres (.mk k x1 x2 x3 x4 x5 x6 sub) v flex x = false := by
 simp only [Bool.not_eq_false'] at h3
 simp [Fld.pres, Fld.tag, h, h3]
theorem pres_f {k x1 x2 x3 x4 x5 x6 v : Int} {sub : List Fld} {flex : Bool} {x : Tree} (h : ¬ x4 < 0) (h2 : flex = true) : Fld.pres (.mk k x1 x2 x3 x4 x5 x6 sub) v flex x = !Fld.usual (.mk k x1 x2 x3 x4 x5 x6 sub) x := by
 subst h2
 have : x4 ≥ 0 := by omega
 simp [Fld.pres, Fld.tag, h, this]
theorem pres_g {k x1 x2 x3 x4 x5 x6 v : Int} {sub : List Fld} {flex : Bool} {x : Tree} (h : x4 < 0) : Fld.pres (.mk k x1 x2 x3 x4 x5 x6 sub) v flex x = Fld.has (.mk k x1 x2 x3 x4 x5 x6 sub) v := by
 have : ¬ x4 ≥ 0 := by omega
 simp [Fld.pres, Fld.tag, h, this]
section
variable {w : World} {F : Nat → Nat → Prop}
theorem at_own {e size b c : Nat} {xs : List Value} {n : Nat} (h : w.ownsRow 0 e size (.slice (some ⟨b, 0, none⟩) n c) n xs) : AtF w (fun _ _ => True) b 0 xs := fun j v hj => ⟨trivial, by
 have := h.cells (g := b) rfl j v hj
 rw [add_none] at this
 exact this⟩
theorem flds_one {e b c : Nat} {cf : List Value} {f : Fld} (h : w.ownsRow 0 e 8 (.slice (some ⟨b, 0, none⟩) 1 c) 1 cf) (hf : FldR w F cf f) (hc : 1 ≤ c) : FldsR w (fun _ _ => True) (some ⟨b, 0, none⟩) c [f] := by
 refine ⟨fun _ => cf, ⟨hc, (by show 1 ≤ 1099511627776; decide), fun h => (by cases h), fun ad hA _ => ?_⟩, fun i x hx => ?_⟩
 ·obtain rfl := Option.some.inj hA
  refine ⟨b, 0, rfl, fun i hi => ⟨hf.eight, ?_⟩⟩
  have : i = 0 := by simp at hi; omega
  subst this
  simpa using at_own h
 ·cases i with
  | zero =>
   simp only [List.getElem?_cons_zero, Option.some.injEq] at hx
   subst hx
   exact hf.move (Step.refl _ Nil) nilM fun _ _ _ _ => trivial
  | succ i => simp at hx
theorem tree_one {e b c : Nat} {cy : List Value} {y : Tree} (h : w.ownsRow 0 e 5 (.slice (some ⟨b, 0, none⟩) 1 c) 1 cy) (hy : TreeR w F cy y) (hc : 1 ≤ c) : TreeR w (fun _ _ => True) [.int .i64 0, .slice none 0 0, .bool false, .slice (some ⟨b, 0, none⟩) 1 c, .slice none 0 0] (.mk 0 [] false [y] []) := by
 refine TreeR.mk (l := [y]) (s := []) (u := []) (fun _ => cy) (Octs.nil _ _) ⟨hc, (by show 1 ≤ 1099511627776; decide), fun h => (by cases h), fun ad hA _ => ?_⟩ (fun i x hx => ?_) (TagsR.nil _ _)
 ·obtain rfl := Option.some.inj hA
  refine ⟨b, 0, rfl, fun i hi => ⟨hy.five, ?_⟩⟩
  have : i = 0 := by simp at hi; omega
  subst this
  simpa using at_own h
 ·cases i with
  | zero =>
   simp only [List.getElem?_cons_zero, Option.some.injEq] at hx
   subst hx
   exact hy.move (Step.refl _ Nil) nilM fun _ _ _ _ => trivial
  | succ i => simp at hx
end
section
variable {gu tu : List (Int × Bs)} {l : List Fld} {flex : Bool} {i : Nat} {k k' : Int} {s s' : Bs}
theorem told_len (h : gu = if flex = true then wholeU (unknownT l tu) else []) (hf : (!flex) = false) (hc : ((gu.length : Nat) : Int) ≠ (((unknownT l tu).length : Nat) : Int)) : False := by
 cases flex
 ·cases hf
 ·rw [if_pos rfl] at h
  rw [h, wholeU_len] at hc
  exact hc rfl
theorem told_len0 (h : gu = if flex = true then wholeU (unknownT l tu) else []) (hf : (!flex) = true) (hc : ((gu.length : Nat) : Int) ≠ 0) : False := by
 cases flex
 ·rw [if_neg (by decide)] at h
  rw [h] at hc
  exact hc rfl
 ·cases hf
theorem told_at (h : gu = if flex = true then wholeU (unknownT l tu) else []) (hf : (!flex) = false) (hu : (unknownT l tu)[i]? = some (k, s)) (hg : gu[i]? = some (k', s')) : k' = k ∧ s' = whole s := by
 cases flex
 ·cases hf
 ·rw [if_pos rfl] at h
  rw [h, wholeU_get hu] at hg
  have := Option.some.inj hg
  exact ⟨(Prod.mk.injEq .. ▸ this).1.symm, (Prod.mk.injEq .. ▸ this).2.symm⟩
theorem told_key (h : gu = if flex = true then wholeU (unknownT l tu) else []) (hf : (!flex) = false) (hu : (unknownT l tu)[i]? = some (k, s)) (hg : gu[i]? = some (k', s')) (hc : k' ≠ k) : False := hc (told_at h hf hu hg).1
theorem told_val (h : gu = if flex = true then wholeU (unknownT l tu) else []) (hf : (!flex) = false) (hu : (unknownT l tu)[i]? = some (k, s)) (hg : gu[i]? = some (k', s')) (hc : (!decide (s' = whole s)) = true) : False := by
 rw [(told_at h hf hu hg).2] at hc; simp at hc
theorem told_idx (h : gu = if flex = true then wholeU (unknownT l tu) else []) (hf : (!flex) = false) : gu.length = (unknownT l tu).length := by
 cases flex
 ·cases hf
 ·rw [if_pos rfl] at h
  rw [h, wholeU_len]
end
end Go.Proofs.YtgolpmkenmedoaaGreatDoor.ME
namespace Go.Proofs.YtgolpmkenmedoaaGreatDoor.ME
open Go
open Go.RowKit
set_option linter.unusedVariables false
set_option linter.unusedSimpArgs false
set_option maxRecDepth 20000
def trDeleteShareGroupOffsetsRequestTopic (D : DV) : Tree := .mk 0 [] false [.mk 0 (sb (D.f 0).s) false [] []] D.u
def trDeleteShareGroupOffsetsRequest (D : DV) : Tree := .mk 0 [] false [.mk 0 (sb (D.f 0).s) false [] [], .mk 0 [] (D.f 1).A.isNone ((List.range (D.f 1).l).map fun i => trDeleteShareGroupOffsetsRequestTopic ((D.f 1).f i)) []] D.u
set_option maxHeartbeats 4000000 in
theorem tlDeleteShareGroupOffsetsRequestTopic (v : Int) (D : DV) (b o : Nat) (w : World) (F : Nat → Nat → Prop) (hat : AtF w F b o [.string ((D.f 0).s), .map D.m]) (hok : okDeleteShareGroupOffsetsRequestTopic w F D) : Calls Tryz.prog 135 #[.pointer (some ⟨b, o, none⟩)] w (GivesT w F (trDeleteShareGroupOffsetsRequestTopic D)) := by
 refine enter (n := 24) Tryz.func135 rfl Tryz.ntmps135 kz fun a hE => ?_
 have hW : WOk w Nil w [⟨b, o, [.string ((D.f 0).s), .map D.m], false⟩] [] := (WOk.start w Nil).start1 hat rfl rfl
 unfold okDeleteShareGroupOffsetsRequestTopic at hok
 obtain ⟨g1, g2, g2l, g2x, _⟩ := hok
 have hE0 := (EnvOk.ptr0 (cs := [.string ((D.f 0).s), .map D.m]) (r := false) hE).pk (env' := [(0, .p 0 0)])
 refine go_seq_region [0] kz ?_
 refine of_op (wpOp_alloc hW hE0 (d := 2) (cs := [.int .i64 0, .slice none 0 0, .bool false, .slice none 0 0, .slice none 0 0]) kz fun b3 a4 w5 hb6 hz7 hF8 hW9 ar => ?_)
 clear hE0 hW
 refine wpOps_nil (then_normal ?_)
 refine go_seq_region [0, 1, 2, 3] kz ?_
 refine of_op (wpOp_makeZ (t := 34) (e := 37) (size := 5) (bytes := 88) (d := 4) (j := 1) (.agg #[.int .i64 0, .slice none 0 0, .bool false, .slice none 0 0, .slice none 0 0]) [.int .i64 0, .slice none 0 0, .bool false, .slice none 0 0, .slice none 0 0] hW9 ar fun aa bu bw bh bi bj al au => ?_)
 clear ar hW9
 refine go_rn [1] [2, 3] [(0, .p 0 0), (2, .p 1 0), (5, .v (.agg #[.int .i64 0, .slice none 0 0, .bool false, .slice (some ⟨aa, 0, none⟩) 1 1, .slice none 0 0]))] al au fun bx av => ?_
 clear au
 refine of_op (wpOp_alloc al av (d := 3) (cs := [.int .i64 0, .slice none 0 0, .bool false, .slice none 0 0, .slice none 0 0]) kz fun ah bz bA bk bn bo aw ax => ?_)
 clear av al
 refine of_op (wpOp_store aw ax (oi := 3) (cs := [.int .i64 0, .slice none 0 0, .bool false, .slice (some ⟨aa, 0, none⟩) 1 1, .slice none 0 0]) kz fun bB bp ay az => ?_)
 clear ax aw
 refine wpOps_nil (then_normal ?_)
 refine go_seq_drawK 9 kz ay fun bC bq aT aU => ?_
 clear ay
 refine go_rnD [0, 1, 2, 3, 4, 5] [(0, .p 0 0), (2, .p 1 0), (3, .p 3 0), (7, .v (.slice (some ⟨aa, 0, none⟩) 1 1)), (11, .v (.string ((D.f 0).s)))] 4 (panicFree_then panicFree_body) (fun _ h => h.cells) aU az fun bD aA => ?_
 clear az
 refine anyC_op (i := 6) kz (wpOp_bytes (d := 12) (src := 9) (dst := 22) (e := 5) (s := ((D.f 0).s)) aT aA (by omega) fun af ag bE bF aV am aW aB => ?_)
 clear aA
 have aX := aW F
 have ao := TT.ofW aV am
 refine ⟨fun _ => ao, ?_⟩
 refine go_rnD [7] [(0, .p 0 0), (2, .p 1 0), (3, .p 3 0), (7, .v (.slice (some ⟨aa, 0, none⟩) 1 1)), (13, .v (.agg #[.int .i64 0, .slice (some ⟨af, 0, none⟩) ((sb ((D.f 0).s)).length) ag, .bool false, .slice none 0 0, .slice none 0 0]))] 2 (panicFree_then panicFree_body) (fun _ h => h.cells) ao aB fun bG aC => ?_
 clear aB
 refine takeC_index aC (i := 8) (t := 34) (A := (some ⟨aa, 0, none⟩)) (m := 1) (q := 0) (d := 14) kz (e := 37) (size := 5) (bytes := 88) (j := 0) kz (b := aa) (o := 0) rfl rfl (by decide) kz kz (panicFree_then panicFree_body) ao fun bH aD => ?_
 clear aC
 have aE := aD.recast 14 (.v (.pointer (some ⟨aa, 0 + 0 * 5, none⟩))) (.p 2 0) rfl rfl (Nat.le_of_ble_eq_true (n := 3) rfl)
 clear aD
 have aF := aE.pk (env' := [(0, .p 0 0), (2, .p 1 0), (3, .p 3 0), (7, .v (.slice (some ⟨aa, 0, none⟩) 1 1)), (13, .v (.agg #[.int .i64 0, .slice (some ⟨af, 0, none⟩) ((sb ((D.f 0).s)).length) ag, .bool false, .slice none 0 0, .slice none 0 0])), (14, .p 2 0)])
 clear aE
 refine anyC_op (i := 9) kz (wpOp_store am aF (oi := 2) (cs := [.int .i64 0, .slice (some ⟨af, 0, none⟩) ((sb ((D.f 0).s)).length) ag, .bool false, .slice none 0 0, .slice none 0 0]) kz fun bt aG ab aH => ?_)
 clear aF am
 refine ⟨fun h => absurd rfl h, ?_⟩
 refine anyC_done kz ?_ _
 refine then_normal ?_
 refine go_seq_region [0, 1, 2, 3, 4] kz ?_
 refine go_rn [0, 1, 2] [3, 4] [(2, .p 1 0), (3, .p 3 0), (17, .p 0 1)] ab aH fun bI aI => ?_
 clear aH
 refine of_op (wpOp_mkf aI (v := .func (.func 189) #[] #[.pointer (some ⟨ah, 0, none⟩)]) (d := 18) kz fun bJ aJ => ?_)
 clear aI
 refine of_op (wpOp_call aJ (f := 122) (vs := [.pointer (some ⟨b, o + 1, none⟩), .func (.func 189) #[] #[.pointer (some ⟨ah, 0, none⟩)]]) (d := 19) kz Tryz.call122 (kEachTell (F := (Imm F w bt [⟨b, o, [.string ((D.f 0).s), .map D.m], false⟩, ⟨b3, 0, [.int .i64 0, .slice none 0 0, .bool false, .slice none 0 0, .slice none 0 0], true⟩, ⟨aa, 0, [.int .i64 0, .slice (some ⟨af, 0, none⟩) ((sb ((D.f 0).s)).length) ag, .bool false, .slice none 0 0, .slice none 0 0], true⟩, ⟨ah, 0, [.int .i64 0, .slice none 0 0, .bool false, .slice (some ⟨aa, 0, none⟩) 1 1, .slice none 0 0], true⟩] [])) Tryz.call189 tDeleteShareGroupOffsetsRequestTopic_1 ((hat.one 1 rfl).move ab.step nilM ab.imm) (g2.move ab.step nilM ab.imm) (Str.of ab 3 rfl) (imm_n 3 rfl) g2l) ?_)
 rintro e_ bK ⟨rfl, ac, ae, aK, aY, aZ⟩
 obtain ⟨ai, aL, ba⟩ := ab.wrote 3 [⟨b, o, [.string ((D.f 0).s), .map D.m], false⟩, ⟨b3, 0, [.int .i64 0, .slice none 0 0, .bool false, .slice none 0 0, .slice none 0 0], true⟩, ⟨aa, 0, [.int .i64 0, .slice (some ⟨af, 0, none⟩) ((sb ((D.f 0).s)).length) ag, .bool false, .slice none 0 0, .slice none 0 0], true⟩, ⟨ah, 0, [.int .i64 0, .slice none 0 0, .bool false, .slice (some ⟨aa, 0, none⟩) 1 1, .slice ac D.u.length ae], true⟩] rfl aZ aK
 have aM := aY.move (Step.refl _ Nil) nilM (fun b_ o_ h_ hb_ => ba (G := F) b_ o_ (.inr h_) hb_)
 refine ⟨_, rfl, fun bL bd => ?_⟩
 have aN := (EnvOk.places (tb' := [⟨b, o, [.string ((D.f 0).s), .map D.m], false⟩, ⟨b3, 0, [.int .i64 0, .slice none 0 0, .bool false, .slice none 0 0, .slice none 0 0], true⟩, ⟨aa, 0, [.int .i64 0, .slice (some ⟨af, 0, none⟩) ((sb ((D.f 0).s)).length) ag, .bool false, .slice none 0 0, .slice none 0 0], true⟩, ⟨ah, 0, [.int .i64 0, .slice none 0 0, .bool false, .slice (some ⟨aa, 0, none⟩) 1 1, .slice ac D.u.length ae], true⟩]) bd (show Pl [⟨b, o, [.string ((D.f 0).s), .map D.m], false⟩, ⟨b3, 0, [.int .i64 0, .slice none 0 0, .bool false, .slice none 0 0, .slice none 0 0], true⟩, ⟨aa, 0, [.int .i64 0, .slice (some ⟨af, 0, none⟩) ((sb ((D.f 0).s)).length) ag, .bool false, .slice none 0 0, .slice none 0 0], true⟩, ⟨ah, 0, [.int .i64 0, .slice none 0 0, .bool false, .slice (some ⟨aa, 0, none⟩) 1 1, .slice none 0 0], true⟩] [⟨b, o, [.string ((D.f 0).s), .map D.m], false⟩, ⟨b3, 0, [.int .i64 0, .slice none 0 0, .bool false, .slice none 0 0, .slice none 0 0], true⟩, ⟨aa, 0, [.int .i64 0, .slice (some ⟨af, 0, none⟩) ((sb ((D.f 0).s)).length) ag, .bool false, .slice none 0 0, .slice none 0 0], true⟩, ⟨ah, 0, [.int .i64 0, .slice none 0 0, .bool false, .slice (some ⟨aa, 0, none⟩) 1 1, .slice ac D.u.length ae], true⟩] from ⟨rfl, rfl, ⟨rfl, rfl, ⟨rfl, rfl, ⟨rfl, rfl, trivial⟩⟩⟩⟩)).pk (env' := [(19, .v (.tuple #[])), (2, .p 1 0), (3, .p 3 0), (17, .p 0 1), (18, .v (.func (.func 189) #[] #[.pointer (some ⟨ah, 0, none⟩)]))])
 clear aJ
 refine wpOps_nil (then_normal ?_)
 refine go_seq_region [0, 1, 2] kz ?_
 refine go_rn [0, 1] [2] [(2, .p 1 0), (3, .p 3 0), (21, .v (.slice ac D.u.length ae))] ai aN fun bM aO => ?_
 clear aN
 refine of_op (wpOp_call aO (f := 124) (vs := [.slice ac D.u.length ae]) (d := 22) kz Tryz.call124 (tSorted aM g2.sorted) ?_)
 rintro e_ bN ⟨rfl, aP⟩
 refine ⟨_, rfl, fun bO aQ => ?_⟩
 have ap := ai.next_nil aP
 have aj := ai.frN aP
 clear aO ai
 refine wpOps_nil (then_normal ?_)
 refine go_seq_region [0, 1] kz ?_
 refine go_rn [0] [1] [(2, .p 1 0), (23, .v (.agg #[.int .i64 0, .slice none 0 0, .bool false, .slice (some ⟨aa, 0, none⟩) 1 1, .slice ac D.u.length ae]))] ap aQ fun bP aR => ?_
 clear aQ
 refine of_op (wpOp_store ap aR (oi := 1) (cs := [.int .i64 0, .slice none 0 0, .bool false, .slice (some ⟨aa, 0, none⟩) 1 1, .slice ac D.u.length ae]) kz fun bg ak aS bf => ?_)
 clear aR ap
 refine wpOps_nil (then_normal ?_)
 refine wp_ret ?_
 refine leave bf aS.cells (v := .agg #[.int .i64 0, .slice none 0 0, .bool false, .slice (some ⟨aa, 0, none⟩) 1 1, .slice ac D.u.length ae]) kz ?_
 exact tell_end (u := D.u) (l := [.mk 0 (sb (D.f 0).s) false [] []]) (css := [[.int .i64 0, .slice (some ⟨af, 0, none⟩) ((sb ((D.f 0).s)).length) ag, .bool false, .slice none 0 0, .slice none 0 0]]) aS 2 rfl ⟨(show TreeR _ (Imm F w bg [⟨b, o, [.string ((D.f 0).s), .map D.m], false⟩, ⟨b3, 0, [.int .i64 0, .slice none 0 0, .bool false, .slice (some ⟨aa, 0, none⟩) 1 1, .slice ac D.u.length ae], true⟩, ⟨aa, 0, [.int .i64 0, .slice (some ⟨af, 0, none⟩) ((sb ((D.f 0).s)).length) ag, .bool false, .slice none 0 0, .slice none 0 0], true⟩, ⟨ah, 0, [.int .i64 0, .slice none 0 0, .bool false, .slice (some ⟨aa, 0, none⟩) 1 1, .slice ac D.u.length ae], true⟩] []) _ _ from (TreeR.mk (n := 0) (b := false) (s := (sb ((D.f 0).s))) (l := []) (u := []) (fun _ => []) (aX.move (((aG.trans aL).trans aj).trans ak).step immM (((aG.trans aL).trans aj).trans ak).to') (Slots.nil _ _ _ _) (fun i_ x_ h_ => by simp at h_) (TagsR.nil _ _))).move (Step.refl _ Nil) nilM immOut, trivial⟩ ((show TagsR _ (Imm F w bg [⟨b, o, [.string ((D.f 0).s), .map D.m], false⟩, ⟨b3, 0, [.int .i64 0, .slice none 0 0, .bool false, .slice (some ⟨aa, 0, none⟩) 1 1, .slice ac D.u.length ae], true⟩, ⟨aa, 0, [.int .i64 0, .slice (some ⟨af, 0, none⟩) ((sb ((D.f 0).s)).length) ag, .bool false, .slice none 0 0, .slice none 0 0], true⟩, ⟨ah, 0, [.int .i64 0, .slice none 0 0, .bool false, .slice (some ⟨aa, 0, none⟩) 1 1, .slice ac D.u.length ae], true⟩] []) _ _ _ from (aM.move (aj.trans ak).step immM (aj.trans ak).to')).move (Step.refl _ Nil) nilM immOut)
set_option maxHeartbeats 4000000 in
theorem tlDeleteShareGroupOffsetsRequest (v : Int) (D : DV) (b o : Nat) (w : World) (F : Nat → Nat → Prop) (hat : AtF w F b o [.int .i16 v, .string ((D.f 0).s), .slice ((D.f 1).A) ((D.f 1).l) ((D.f 1).c), .map D.m]) (hok : okDeleteShareGroupOffsetsRequest w F D) : Calls Tryz.prog 70 #[.pointer (some ⟨b, o, none⟩)] w (GivesT w F (trDeleteShareGroupOffsetsRequest D)) := by
 refine enter (n := 81) Tryz.func70 rfl Tryz.ntmps70 kz fun a hE => ?_
 have hW : WOk w Nil w [⟨b, o, [.int .i16 v, .string ((D.f 0).s), .slice ((D.f 1).A) ((D.f 1).l) ((D.f 1).c), .map D.m], false⟩] [] := (WOk.start w Nil).start1 hat rfl rfl
 unfold okDeleteShareGroupOffsetsRequest at hok
 obtain ⟨g1, ⟨g2, g2l, g2e⟩, g3, g3l, g3x, _⟩ := hok
 have hE0 := (EnvOk.ptr0 (cs := [.int .i16 v, .string ((D.f 0).s), .slice ((D.f 1).A) ((D.f 1).l) ((D.f 1).c), .map D.m]) (r := false) hE).pk (env' := [(0, .p 0 0)])
 refine go_seq_region [0] kz ?_
 refine of_op (wpOp_alloc hW hE0 (d := 2) (cs := [.int .i64 0, .slice none 0 0, .bool false, .slice none 0 0, .slice none 0 0]) kz fun b4 a5 w6 hb7 hz8 hF9 eB eC => ?_)
 clear hE0 hW
 refine wpOps_nil (then_normal ?_)
 refine go_seq_region [0, 1, 2, 3] kz ?_
 refine of_op (wpOp_makeZ (t := 34) (e := 37) (size := 5) (bytes := 88) (d := 5) (j := 2) (.agg #[.int .i64 0, .slice none 0 0, .bool false, .slice none 0 0, .slice none 0 0]) [.int .i64 0, .slice none 0 0, .bool false, .slice none 0 0, .slice none 0 0, .int .i64 0, .slice none 0 0, .bool false, .slice none 0 0, .slice none 0 0] eB eC fun aa jt ju gX gY gZ ek eD => ?_)
 clear eC eB
 refine go_rn [1] [2, 3] [(0, .p 0 0), (2, .p 1 0), (6, .v (.agg #[.int .i64 0, .slice none 0 0, .bool false, .slice (some ⟨aa, 0, none⟩) 2 2, .slice none 0 0]))] ek eD fun jv eE => ?_
 clear eD
 refine of_op (wpOp_alloc ek eE (d := 3) (cs := [.int .i64 0, .slice none 0 0, .bool false, .slice none 0 0, .slice none 0 0]) kz fun bI jw jx g6 g7 g8 eF eG => ?_)
 clear eE ek
 refine of_op (wpOp_store eF eG (oi := 3) (cs := [.int .i64 0, .slice none 0 0, .bool false, .slice (some ⟨aa, 0, none⟩) 2 2, .slice none 0 0]) kz fun jy g9 eH eI => ?_)
 clear eG eF
 refine wpOps_nil (then_normal ?_)
 refine go_seq_drawK 9 kz eH fun jz hC gd ge => ?_
 clear eH
 refine go_rnD [0, 1, 2, 3, 4, 5] [(0, .p 0 0), (2, .p 1 0), (3, .p 3 0), (8, .v (.slice (some ⟨aa, 0, none⟩) 2 2)), (12, .v (.string ((D.f 0).s)))] 4 (panicFree_then panicFree_body) (fun _ h => h.cells) ge eI fun jA eJ => ?_
 clear eI
 refine anyC_op (i := 6) kz (wpOp_bytes (d := 13) (src := 9) (dst := 22) (e := 5) (s := ((D.f 0).s)) gd eJ (by omega) fun aB aC jB jC gg em gh eK => ?_)
 clear eJ
 have gi := gh F
 have eo := TT.ofW gg em
 refine ⟨fun _ => eo, ?_⟩
 refine go_rnD [7] [(0, .p 0 0), (2, .p 1 0), (3, .p 3 0), (8, .v (.slice (some ⟨aa, 0, none⟩) 2 2)), (14, .v (.agg #[.int .i64 0, .slice (some ⟨aB, 0, none⟩) ((sb ((D.f 0).s)).length) aC, .bool false, .slice none 0 0, .slice none 0 0]))] 2 (panicFree_then panicFree_body) (fun _ h => h.cells) eo eK fun jD eL => ?_
 clear eK
 refine takeC_index eL (i := 8) (t := 34) (A := (some ⟨aa, 0, none⟩)) (m := 2) (q := 0) (d := 15) kz (e := 37) (size := 5) (bytes := 88) (j := 0) kz (b := aa) (o := 0) rfl rfl (by decide) kz kz (panicFree_then panicFree_body) eo fun jE eM => ?_
 clear eL
 have eN := eM.recast 15 (.v (.pointer (some ⟨aa, 0 + 0 * 5, none⟩))) (.p 2 0) rfl rfl (Nat.le_of_ble_eq_true (n := 3) rfl)
 clear eM
 have eO := eN.pk (env' := [(0, .p 0 0), (2, .p 1 0), (3, .p 3 0), (8, .v (.slice (some ⟨aa, 0, none⟩) 2 2)), (14, .v (.agg #[.int .i64 0, .slice (some ⟨aB, 0, none⟩) ((sb ((D.f 0).s)).length) aC, .bool false, .slice none 0 0, .slice none 0 0])), (15, .p 2 0)])
 clear eN
 refine anyC_op (i := 9) kz (wpOp_store em eO (oi := 2) (cs := [.int .i64 0, .slice (some ⟨aB, 0, none⟩) ((sb ((D.f 0).s)).length) aC, .bool false, .slice none 0 0, .slice none 0 0, .int .i64 0, .slice none 0 0, .bool false, .slice none 0 0, .slice none 0 0]) kz fun jF eP eQ eR => ?_)
 clear eO em
 refine ⟨fun h => absurd rfl h, ?_⟩
 refine anyC_done kz ?_ _
 refine then_normal ?_
 refine go_seq_drawK 9 kz eQ fun jG eS gj ep => ?_
 clear eQ
 refine go_rnD [0, 1, 2, 3, 4, 5, 6] [(0, .p 0 0), (2, .p 1 0), (3, .p 3 0), (17, .v (.slice (some ⟨aa, 0, none⟩) 2 2)), (22, .v (.bool (((D.f 1).A).isNone)))] 3 (panicFree_then panicFree_body) (fun _ h => h.cells) ep eR fun jH eU => ?_
 clear eR
 refine anyC_op (i := 7) kz (wpOp_index eU (t := 34) (A := (some ⟨aa, 0, none⟩)) (m := 2) (q := 1) (d := 23) kz (e := 37) (size := 5) (bytes := 88) (j := 1) kz (b := aa) (o := 0) rfl rfl (by decide) fun jI eV => ?_)
 clear eU
 have eW := eV.recast 23 (.v (.pointer (some ⟨aa, 0 + 1 * 5, none⟩))) (.p 2 5) rfl rfl (Nat.le_of_ble_eq_true (n := 3) rfl)
 clear eV
 have eX := eW.pk (env' := [(0, .p 0 0), (2, .p 1 0), (3, .p 3 0), (17, .v (.slice (some ⟨aa, 0, none⟩) 2 2)), (22, .v (.bool (((D.f 1).A).isNone))), (23, .p 2 5)])
 clear eW
 refine ⟨fun _ => ep, ?_⟩
 refine go_rnD [8] [(0, .p 0 0), (2, .p 1 0), (3, .p 3 0), (22, .v (.bool (((D.f 1).A).isNone))), (24, .p 2 7)] 1 (panicFree_then panicFree_body) (fun _ h => h.cells) ep eX fun jJ eY => ?_
 clear eX
 refine anyC_op (i := 9) kz (wpOp_store gj eY (oi := 2) (cs := [.int .i64 0, .slice (some ⟨aB, 0, none⟩) ((sb ((D.f 0).s)).length) aC, .bool false, .slice none 0 0, .slice none 0 0, .int .i64 0, .slice none 0 0, .bool (((D.f 1).A).isNone), .slice none 0 0, .slice none 0 0]) kz fun jK eZ cU e9 => ?_)
 clear eY
 refine ⟨fun h => absurd rfl h, ?_⟩
 refine anyC_done kz ?_ _
 refine then_normal ?_
 refine wp_seq ?_
 refine go_sp [(0, .p 0 0), (2, .p 1 0), (3, .p 3 0), (29, .v (.int .i64 (((D.f 1).l : Nat) : Int))), (30, .v (.int .i64 0))] cU e9 fun jL fa => ?_
 clear e9
 refine wp_block ?_
 have fb := cU.addNil 37 5
 have fe := cU.frNil 37 5
 clear cU
 refine wp_loop_ghost (fun n_ a_ w_ => ∃ (k1_ : Nat) (A1_ : Option Addr) (c1_ : Nat) (xs1_ : List Value) (css1_ : List (List Value)), n_ = (D.f 1).l - k1_ ∧ k1_ ≤ (D.f 1).l ∧ (Trees w_ (Imm F w w_ [⟨b, o, [.int .i16 v, .string ((D.f 0).s), .slice ((D.f 1).A) ((D.f 1).l) ((D.f 1).c), .map D.m], false⟩, ⟨b4, 0, [.int .i64 0, .slice none 0 0, .bool false, .slice none 0 0, .slice none 0 0], true⟩, ⟨aa, 0, [.int .i64 0, .slice (some ⟨aB, 0, none⟩) ((sb ((D.f 0).s)).length) aC, .bool false, .slice none 0 0, .slice none 0 0, .int .i64 0, .slice none 0 0, .bool (((D.f 1).A).isNone), .slice A1_ k1_ c1_, .slice none 0 0], true⟩, ⟨bI, 0, [.int .i64 0, .slice none 0 0, .bool false, .slice (some ⟨aa, 0, none⟩) 2 2, .slice none 0 0], true⟩] [⟨A1_, c1_, 37, 5, k1_, xs1_⟩]) xs1_ (((List.range (D.f 1).l).map (fun i => trDeleteShareGroupOffsetsRequestTopic ((D.f 1).f i))).take k1_) css1_) ∧ LInv fb 81 [⟨b, o, [.int .i16 v, .string ((D.f 0).s), .slice ((D.f 1).A) ((D.f 1).l) ((D.f 1).c), .map D.m], false⟩, ⟨b4, 0, [.int .i64 0, .slice none 0 0, .bool false, .slice none 0 0, .slice none 0 0], true⟩, ⟨aa, 0, [.int .i64 0, .slice (some ⟨aB, 0, none⟩) ((sb ((D.f 0).s)).length) aC, .bool false, .slice none 0 0, .slice none 0 0, .int .i64 0, .slice none 0 0, .bool (((D.f 1).A).isNone), .slice A1_ k1_ c1_, .slice none 0 0], true⟩, ⟨bI, 0, [.int .i64 0, .slice none 0 0, .bool false, .slice (some ⟨aa, 0, none⟩) 2 2, .slice none 0 0], true⟩] [⟨A1_, c1_, 37, 5, k1_, xs1_⟩] [(0, .p 0 0), (2, .p 1 0), (3, .p 3 0), (29, .v (.int .i64 (((D.f 1).l : Nat) : Int))), (30, .v (.int .i64 ((k1_ : Nat) : Int)))] a_ w_) ((D.f 1).l) ⟨0, none, 0, [], [], by omega, by omega, Trees.nil _ _, fa.pk, fb, Fr.refl _ _ _⟩ ?_
 clear fa
 rintro jM jN hJ ⟨k1_, A1_, c1_, xs1_, css1_, hK, hZ, hT1_, ff, ao, cr⟩
 refine go_sp [(0, .p 0 0), (2, .p 1 0), (3, .p 3 0), (29, .v (.int .i64 (((D.f 1).l : Nat) : Int))), (30, .v (.int .i64 ((k1_ : Nat) : Int))), (31, .v (.bool (decide (((k1_ : Nat) : Int) < (((D.f 1).l : Nat) : Int)))))] ao ff fun jO cu => ?_
 clear ff
 refine wp_seq ?_
 refine cond_of cu (b := decide (((k1_ : Nat) : Int) < (((D.f 1).l : Nat) : Int))) kz (fun eu => ?_) (fun eu => ?_)
 ·
  have ia := of_decide_eq_true eu
  refine wp_skip ?_
  refine then_normal ?_
  refine wp_seq ?_
  refine wp_block ?_
  refine go_sp [(0, .p 0 0), (2, .p 1 0), (3, .p 3 0), (4, .v (.int .i64 ((k1_ : Nat) : Int))), (29, .v (.int .i64 (((D.f 1).l : Nat) : Int))), (30, .v (.int .i64 ((k1_ : Nat) : Int)))] ao cu fun jP fg => ?_
  clear cu
  refine go_seq_drawK 4 kz ao fun jQ aI gk ib => ?_
  clear ao
  refine anyC_op (i := 0) kz (wpOp_alloc gk fg (d := 33) (cs := [.bool false]) kz fun jR ic ig gD gE ab bi bJ => ?_)
  clear fg
  have fh := TT.ofW ab bi
  refine ⟨fun _ => fh, ?_⟩
  refine anyC_two (i := 1) (j := 2) kz ?_ ?_
  ·
   refine (wpOp_store bi bJ (oi := 4) (cs := [.bool true]) kz fun ii aD cw cX => ?_)
   clear bJ bi
   have fi := TT.ofW (ab.trans aD) cw
   refine ⟨fun _ => fi, ?_⟩
   refine anyC_op (i := 2) kz (wpOp_store cw cX (oi := 4) (cs := [.bool false]) kz fun ij bj bk cY => ?_)
   clear cX cw
   have fj := TT.ofW ((ab.trans aD).trans bj) bk
   refine ⟨fun _ => fj, ?_⟩
   refine anyC_op (i := 3) kz (wpOp_pure [0, 2, 3, 4, 29, 30, 34] bk.cells cY (env' := [(0, .p 0 0), (2, .p 1 0), (3, .p 3 0), (4, .v (.int .i64 ((k1_ : Nat) : Int))), (29, .v (.int .i64 (((D.f 1).l : Nat) : Int))), (30, .v (.int .i64 ((k1_ : Nat) : Int))), (34, .v (.bool false))]) kz fun ik cz => ?_)
   clear cY
   have fk := TT.ofW ((ab.trans aD).trans bj) bk
   refine ⟨fun _ => fk, ?_⟩
   refine anyC_done kz ?_ _
   refine then_normal ?_
   refine cond_false cz (b := false) kz rfl ?_
   refine go_drawK 18 kz bk fun il cA ap bK => ?_
   clear bk
   refine go_rnD [0, 1, 2, 3, 7, 8, 9, 10, 11] [(0, .p 0 0), (2, .p 1 0), (3, .p 3 0), (29, .v (.int .i64 (((D.f 1).l : Nat) : Int))), (30, .v (.int .i64 ((k1_ : Nat) : Int))), (54, .v (.slice (some ⟨aa, 0, none⟩) 2 2)), (56, .v (.slice (some ⟨aa, 0, none⟩) 2 2)), (63, .v (.slice ((D.f 1).A) ((D.f 1).l) ((D.f 1).c))), (64, .v (.int .i64 ((k1_ : Nat) : Int)))] 10 (panicFree_block (panicFree_then (panicFree_then (panicFree_block (panicFree_then panicFree_body))))) (fun _ h => h.cells) bK cz fun im cZ => ?_
   clear cz
   refine takeC_index cZ (i := 4) (t := 34) (A := (some ⟨aa, 0, none⟩)) (m := 2) (q := 1) (d := 57) kz (e := 37) (size := 5) (bytes := 88) (j := 1) kz (b := aa) (o := 0) rfl rfl (by decide) kz kz (panicFree_block (panicFree_then (panicFree_then (panicFree_block (panicFree_then panicFree_body))))) bK fun io c5 => ?_
   clear cZ
   have c6 := c5.recast 57 (.v (.pointer (some ⟨aa, 0 + 1 * 5, none⟩))) (.p 2 5) rfl rfl (Nat.le_of_ble_eq_true (n := 3) rfl)
   clear c5
   have da := c6.pk (env' := [(0, .p 0 0), (2, .p 1 0), (3, .p 3 0), (29, .v (.int .i64 (((D.f 1).l : Nat) : Int))), (30, .v (.int .i64 ((k1_ : Nat) : Int))), (54, .v (.slice (some ⟨aa, 0, none⟩) 2 2)), (56, .v (.slice (some ⟨aa, 0, none⟩) 2 2)), (63, .v (.slice ((D.f 1).A) ((D.f 1).l) ((D.f 1).c))), (64, .v (.int .i64 ((k1_ : Nat) : Int))), (57, .p 2 5)])
   clear c6
   refine go_rnD [5, 6] [(0, .p 0 0), (2, .p 1 0), (3, .p 3 0), (29, .v (.int .i64 (((D.f 1).l : Nat) : Int))), (30, .v (.int .i64 ((k1_ : Nat) : Int))), (54, .v (.slice (some ⟨aa, 0, none⟩) 2 2)), (59, .v (.slice A1_ k1_ c1_)), (63, .v (.slice ((D.f 1).A) ((D.f 1).l) ((D.f 1).c))), (64, .v (.int .i64 ((k1_ : Nat) : Int)))] 7 (panicFree_block (panicFree_then (panicFree_then (panicFree_block (panicFree_then panicFree_body))))) (fun _ h => h.cells) bK da fun ip db => ?_
   clear da
   obtain ⟨fm, fo, fq, gF, ev⟩ := Slots.get g2 (i := k1_) (by omega)
   refine takeC_index db (i := 12) (t := 121) (A := (D.f 1).A) (m := ((D.f 1).l)) (q := ((k1_ : Nat) : Int)) (d := 65) kz (e := 127) (size := 2) (bytes := 24) kz fq rfl (by omega) kz kz (panicFree_block (panicFree_then (panicFree_then (panicFree_block (panicFree_then panicFree_body))))) bK fun iq dc => ?_
   clear db
   refine anyC_op (i := 13) kz (wpOp_call dc (f := 135) (vs := [.pointer (some ⟨fm, fo + k1_ * 2, none⟩)]) (d := 66) kz Tryz.call135 (tlDeleteShareGroupOffsetsRequestTopic 0 ((D.f 1).f k1_) _ _ _ _ (ev.move ap.step nilM ap.imm) (mvDeleteShareGroupOffsetsRequestTopic _ ap.step nilM ap.imm (g2e k1_ (by omega)))) ?_)
   rintro e_ ir ⟨gG, rfl, fr, cB⟩
   have cC := fr.move (Step.refl _ Nil) nilM (ap.laid (G := F) cB)
   obtain ⟨bS, bT, bU, bV, bW, bX, bY, bZ, b8, cd, ce, gH, gI, cD, gl, gm, iu, iv⟩ := cC.open_
   rw [cD] at cC
   have gn := gl.small
   have gp := gm.small
   rw [cD]
   refine ⟨_, rfl, fun iw de => ?_⟩
   have cE := ap.next_nil cB
   have ar := ap.frN cB
   clear dc
   have ft := TT.ofW ar cE
   refine ⟨fun _ => ft, ?_⟩
   refine anyC_op (i := 14) kz (wpOp_lit cE de (e := 37) (size := 5) (len := 1) (cs := [.int .i64 bS, .slice bX bT.length bY, .bool bU, .slice bZ bV.length b8, .slice cd bW.length ce]) (d := 67) kz kz fun fu ix iy gJ gK ae bn df => ?_)
   clear de cE
   have fv := TT.ofW (ar.trans ae) bn
   refine ⟨fun _ => fv, ?_⟩
   refine anyC_op (i := 15) kz (wpOp_append bn df (k := 0) (d := 68) (t := 34) (e := 37) (size := 5) (bytes := 88) (A := A1_) (As := (some ⟨fu, 0, none⟩)) (m0 := k1_) (c := c1_) (m := 1) (cs := 1) (xs := xs1_) (news := [.int .i64 bS, .slice bX bT.length bY, .bool bU, .slice bZ bV.length b8, .slice cd bW.length ce]) kz kz rfl (own_src (bn.own 1 _ rfl) (allOne_ok kz)) (own_cap (bn.own 1 _ rfl)) (by omega) fun cm cq iz iA au bL dg => ?_)
   clear df bn
   have fw := TT.ofW ((ar.trans ae).trans au) bL
   refine ⟨fun _ => fw, ?_⟩
   refine anyC_op (i := 16) kz (wpOp_index dg (t := 34) (A := (some ⟨aa, 0, none⟩)) (m := 2) (q := 1) (d := 69) kz (e := 37) (size := 5) (bytes := 88) (j := 1) kz (b := aa) (o := 0) rfl rfl (by decide) fun iB dh => ?_)
   clear dg
   have di := dh.recast 69 (.v (.pointer (some ⟨aa, 0 + 1 * 5, none⟩))) (.p 2 5) rfl rfl (Nat.le_of_ble_eq_true (n := 3) rfl)
   clear dh
   have dj := di.pk (env' := [(0, .p 0 0), (2, .p 1 0), (3, .p 3 0), (29, .v (.int .i64 (((D.f 1).l : Nat) : Int))), (30, .v (.int .i64 ((k1_ : Nat) : Int))), (54, .v (.slice (some ⟨aa, 0, none⟩) 2 2)), (59, .v (.slice A1_ k1_ c1_)), (63, .v (.slice ((D.f 1).A) ((D.f 1).l) ((D.f 1).c))), (64, .v (.int .i64 ((k1_ : Nat) : Int))), (65, .v (.pointer (some ⟨fm, fo + k1_ * 2, none⟩))), (66, .v (.agg #[.int .i64 bS, .slice bX bT.length bY, .bool bU, .slice bZ bV.length b8, .slice cd bW.length ce])), (67, .v (.slice (some ⟨fu, 0, none⟩) 1 1)), (68, .v (.slice cm (k1_ + 1) cq)), (69, .p 2 5)])
   clear di
   have dl := TT.ofW ((ar.trans ae).trans au) bL
   refine ⟨fun _ => dl, ?_⟩
   refine go_rnD [17] [(0, .p 0 0), (2, .p 1 0), (3, .p 3 0), (29, .v (.int .i64 (((D.f 1).l : Nat) : Int))), (30, .v (.int .i64 ((k1_ : Nat) : Int))), (68, .v (.slice cm (k1_ + 1) cq)), (70, .p 2 8)] 1 (panicFree_block (panicFree_then (panicFree_then (panicFree_block (panicFree_then panicFree_body))))) (fun _ h => h.cells) dl dj fun iC dp => ?_
   clear dj
   refine anyC_op (i := 18) kz (wpOp_store bL dp (oi := 2) (cs := [.int .i64 0, .slice (some ⟨aB, 0, none⟩) ((sb ((D.f 0).s)).length) aC, .bool false, .slice none 0 0, .slice none 0 0, .int .i64 0, .slice none 0 0, .bool (((D.f 1).A).isNone), .slice cm (k1_ + 1) cq, .slice none 0 0]) kz fun iD bo dq dr => ?_)
   clear dp bL
   refine ⟨fun h => absurd rfl h, ?_⟩
   refine anyC_done kz ?_ _
   refine block_normal ?_
   refine then_normal ?_
   refine go_region [0, 1] kz ?_
   refine go_rn [0, 1] [] [(0, .p 0 0), (2, .p 1 0), (3, .p 3 0), (29, .v (.int .i64 (((D.f 1).l : Nat) : Int))), (30, .v (.int .i64 (IntKind.i64.wrap (((k1_ : Nat) : Int) + 1))))] dq dr fun iE fx => ?_
   clear dr
   refine wpOps_nil (then_normal ?_)
   obtain ⟨dt, fy, bp⟩ := dq.cutB fx 4 [⟨b, o, [.int .i16 v, .string ((D.f 0).s), .slice ((D.f 1).A) ((D.f 1).l) ((D.f 1).c), .map D.m], false⟩, ⟨b4, 0, [.int .i64 0, .slice none 0 0, .bool false, .slice none 0 0, .slice none 0 0], true⟩, ⟨aa, 0, [.int .i64 0, .slice (some ⟨aB, 0, none⟩) ((sb ((D.f 0).s)).length) aC, .bool false, .slice none 0 0, .slice none 0 0, .int .i64 0, .slice none 0 0, .bool (((D.f 1).A).isNone), .slice cm (k1_ + 1) cq, .slice none 0 0], true⟩, ⟨bI, 0, [.int .i64 0, .slice none 0 0, .bool false, .slice (some ⟨aa, 0, none⟩) 2 2, .slice none 0 0], true⟩] [(0, .p 0 0), (2, .p 1 0), (3, .p 3 0), (29, .v (.int .i64 (((D.f 1).l : Nat) : Int))), (30, .v (.int .i64 (IntKind.i64.wrap (((k1_ : Nat) : Int) + 1))))]
   obtain ⟨fz, bq⟩ := fy.cutR 1 [⟨cm, cq, 37, 5, k1_ + 1, xs1_ ++ [.int .i64 bS, .slice bX bT.length bY, .bool bU, .slice bZ bV.length b8, .slice cd bW.length ce]⟩]
   have fA : IntKind.i64.wrap (((k1_ : Nat) : Int) + 1) = ((k1_ + 1 : Nat) : Int) := wrap_succ (by omega)
   rw [fA] at dt
   exact ⟨(D.f 1).l - (k1_ + 1), by omega, k1_ + 1, cm, cq, xs1_ ++ [Value.int .i64 bS, .slice bX bT.length bY, .bool bU, .slice bZ bV.length b8, .slice cd bW.length ce], (css1_ ++ [[Value.int .i64 bS, .slice bX bT.length bY, .bool bU, .slice bZ bV.length b8, .slice cd bW.length ce]]), rfl, by omega, by rw [take_range (by omega)]; exact (hT1_.move ((((((((((aI.trans ab).trans aD).trans bj).trans cA).trans ar).trans ae).trans au).trans bo).trans bp).trans bq).step immM ((((((((((aI.trans ab).trans aD).trans bj).trans cA).trans ar).trans ae).trans au).trans bo).trans bp).trans bq).to').snoc (x := (fun i => trDeleteShareGroupOffsetsRequestTopic ((D.f 1).f i)) k1_) (cC.move ((((ae.trans au).trans bo).trans bp).trans bq).step immM ((((ae.trans au).trans bo).trans bp).trans bq).to'), dt.pk, fz, (((((((((((cr.trans aI).trans ab).trans aD).trans bj).trans cA).trans ar).trans ae).trans au).trans bo).trans bp).trans bq)⟩
  ·
   refine (wpOp_store bi bJ (oi := 4) (cs := [.bool false]) kz fun iF ac cG du => ?_)
   clear bJ bi
   have fB := TT.ofW (ab.trans ac) cG
   refine ⟨fun _ => fB, ?_⟩
   refine anyC_op (i := 1) kz (wpOp_store cG du (oi := 4) (cs := [.bool true]) kz fun iG af bt dv => ?_)
   clear du cG
   have fC := TT.ofW ((ab.trans ac).trans af) bt
   refine ⟨fun _ => fC, ?_⟩
   refine anyC_op (i := 3) kz (wpOp_pure [0, 2, 3, 4, 29, 30, 34] bt.cells dv (env' := [(0, .p 0 0), (2, .p 1 0), (3, .p 3 0), (4, .v (.int .i64 ((k1_ : Nat) : Int))), (29, .v (.int .i64 (((D.f 1).l : Nat) : Int))), (30, .v (.int .i64 ((k1_ : Nat) : Int))), (34, .v (.bool true))]) kz fun iH cH => ?_)
   clear dv
   have fD := TT.ofW ((ab.trans ac).trans af) bt
   refine ⟨fun _ => fD, ?_⟩
   refine anyC_done kz ?_ _
   refine then_normal ?_
   refine cond_true cH (b := true) kz rfl ?_
   refine go_seq_drawK 17 kz bt fun iI aE ag bM => ?_
   clear bt
   refine go_rnD [0, 1, 5, 6, 7, 8, 9] [(0, .p 0 0), (2, .p 1 0), (3, .p 3 0), (29, .v (.int .i64 (((D.f 1).l : Nat) : Int))), (30, .v (.int .i64 ((k1_ : Nat) : Int))), (36, .v (.slice (some ⟨aa, 0, none⟩) 2 2)), (43, .v (.slice ((D.f 1).A) ((D.f 1).l) ((D.f 1).c))), (44, .v (.int .i64 ((k1_ : Nat) : Int)))] 11 (panicFree_then (panicFree_block (panicFree_then (panicFree_then (panicFree_block (panicFree_then panicFree_body)))))) (fun _ h => h.cells) bM cH fun iJ dw => ?_
   clear cH
   refine takeC_index dw (i := 2) (t := 34) (A := (some ⟨aa, 0, none⟩)) (m := 2) (q := 1) (d := 37) kz (e := 37) (size := 5) (bytes := 88) (j := 1) kz (b := aa) (o := 0) rfl rfl (by decide) kz kz (panicFree_then (panicFree_block (panicFree_then (panicFree_then (panicFree_block (panicFree_then panicFree_body)))))) bM fun iK dx => ?_
   clear dw
   have dy := dx.recast 37 (.v (.pointer (some ⟨aa, 0 + 1 * 5, none⟩))) (.p 2 5) rfl rfl (Nat.le_of_ble_eq_true (n := 3) rfl)
   clear dx
   have dz := dy.pk (env' := [(0, .p 0 0), (2, .p 1 0), (3, .p 3 0), (29, .v (.int .i64 (((D.f 1).l : Nat) : Int))), (30, .v (.int .i64 ((k1_ : Nat) : Int))), (36, .v (.slice (some ⟨aa, 0, none⟩) 2 2)), (43, .v (.slice ((D.f 1).A) ((D.f 1).l) ((D.f 1).c))), (44, .v (.int .i64 ((k1_ : Nat) : Int))), (37, .p 2 5)])
   clear dy
   refine go_rnD [3, 4, 12] [(0, .p 0 0), (2, .p 1 0), (3, .p 3 0), (29, .v (.int .i64 (((D.f 1).l : Nat) : Int))), (30, .v (.int .i64 ((k1_ : Nat) : Int))), (36, .v (.slice (some ⟨aa, 0, none⟩) 2 2)), (39, .v (.slice A1_ k1_ c1_)), (43, .v (.slice ((D.f 1).A) ((D.f 1).l) ((D.f 1).c))), (44, .v (.int .i64 ((k1_ : Nat) : Int))), (47, .v (.int .i64 ((k1_ : Nat) : Int)))] 7 (panicFree_then (panicFree_block (panicFree_then (panicFree_then (panicFree_block (panicFree_then panicFree_body)))))) (fun _ h => h.cells) bM dz fun iL dA => ?_
   clear dz
   obtain ⟨cV, cW, fE, gL, cI⟩ := Slots.get g2 (i := k1_) (by omega)
   refine takeC_index dA (i := 10) (t := 121) (A := (D.f 1).A) (m := ((D.f 1).l)) (q := ((k1_ : Nat) : Int)) (d := 45) kz (e := 127) (size := 2) (bytes := 24) kz fE rfl (by omega) kz kz (panicFree_then (panicFree_block (panicFree_then (panicFree_then (panicFree_block (panicFree_then panicFree_body)))))) bM fun iM bN => ?_
   clear dA
   refine anyC_two (i := 11) (j := 13) kz ?_ ?_
   ·
    refine (wpOp_call bN (f := 135) (vs := [.pointer (some ⟨cV, cW + k1_ * 2, none⟩)]) (d := 46) kz Tryz.call135 (tlDeleteShareGroupOffsetsRequestTopic 0 ((D.f 1).f k1_) _ _ _ _ (cI.move ag.step nilM ag.imm) (mvDeleteShareGroupOffsetsRequestTopic _ ag.step nilM ag.imm (g2e k1_ (by omega)))) ?_)
    rintro e_ iN ⟨gM, rfl, fF, cJ⟩
    have cK := fF.move (Step.refl _ Nil) nilM (ag.laid (G := F) cJ)
    obtain ⟨aJ, aK, aL, aM, aN, aO, aP, aQ, aR, aS, aT, gN, gO, cL, gq, gt, iO, iP⟩ := cK.open_
    rw [cL] at cK
    have gv := gq.small
    have gw := gt.small
    rw [cL]
    refine ⟨_, rfl, fun iQ dB => ?_⟩
    have cM := ag.next_nil cJ
    have av := ag.frN cJ
    clear bN
    have fG := TT.ofW av cM
    refine ⟨fun _ => fG, ?_⟩
    refine anyC_op (i := 13) kz (wpOp_lit cM dB (e := 37) (size := 5) (len := 1) (cs := [.int .i64 0, .slice none 0 0, .bool false, .slice none 0 0, .slice none 0 0]) (d := 48) kz kz fun ew iR iS gP gQ ah bu dC => ?_)
    clear dB cM
    have fH := TT.ofW (av.trans ah) bu
    refine ⟨fun _ => fH, ?_⟩
    refine anyC_op (i := 14) kz (wpOp_append bu dC (k := 0) (d := 49) (t := 34) (e := 37) (size := 5) (bytes := 88) (A := A1_) (As := (some ⟨ew, 0, none⟩)) (m0 := k1_) (c := c1_) (m := 1) (cs := 1) (xs := xs1_) (news := [.int .i64 0, .slice none 0 0, .bool false, .slice none 0 0, .slice none 0 0]) kz kz rfl (own_src (bu.own 1 _ rfl) (allOne_ok kz)) (own_cap (bu.own 1 _ rfl)) (by omega) fun aj aw iT iU ax bO dD => ?_)
    clear dC bu
    have fI := TT.ofW ((av.trans ah).trans ax) bO
    refine ⟨fun _ => fI, ?_⟩
    refine anyC_op (i := 15) kz (wpOp_index dD (t := 34) (A := (some ⟨aa, 0, none⟩)) (m := 2) (q := 1) (d := 50) kz (e := 37) (size := 5) (bytes := 88) (j := 1) kz (b := aa) (o := 0) rfl rfl (by decide) fun iV dE => ?_)
    clear dD
    have dF := dE.recast 50 (.v (.pointer (some ⟨aa, 0 + 1 * 5, none⟩))) (.p 2 5) rfl rfl (Nat.le_of_ble_eq_true (n := 3) rfl)
    clear dE
    have dG := dF.pk (env' := [(0, .p 0 0), (2, .p 1 0), (3, .p 3 0), (29, .v (.int .i64 (((D.f 1).l : Nat) : Int))), (30, .v (.int .i64 ((k1_ : Nat) : Int))), (36, .v (.slice (some ⟨aa, 0, none⟩) 2 2)), (39, .v (.slice A1_ k1_ c1_)), (43, .v (.slice ((D.f 1).A) ((D.f 1).l) ((D.f 1).c))), (44, .v (.int .i64 ((k1_ : Nat) : Int))), (47, .v (.int .i64 ((k1_ : Nat) : Int))), (45, .v (.pointer (some ⟨cV, cW + k1_ * 2, none⟩))), (46, .v (.agg #[.int .i64 aJ, .slice aO aK.length aP, .bool aL, .slice aQ aM.length aR, .slice aS aN.length aT])), (48, .v (.slice (some ⟨ew, 0, none⟩) 1 1)), (49, .v (.slice aj (k1_ + 1) aw)), (50, .p 2 5)])
    clear dF
    have dH := TT.ofW ((av.trans ah).trans ax) bO
    refine ⟨fun _ => dH, ?_⟩
    refine go_rnD [16] [(0, .p 0 0), (2, .p 1 0), (3, .p 3 0), (29, .v (.int .i64 (((D.f 1).l : Nat) : Int))), (30, .v (.int .i64 ((k1_ : Nat) : Int))), (46, .v (.agg #[.int .i64 aJ, .slice aO aK.length aP, .bool aL, .slice aQ aM.length aR, .slice aS aN.length aT])), (47, .v (.int .i64 ((k1_ : Nat) : Int))), (49, .v (.slice aj (k1_ + 1) aw)), (51, .p 2 8)] 1 (panicFree_then (panicFree_block (panicFree_then (panicFree_then (panicFree_block (panicFree_then panicFree_body)))))) (fun _ h => h.cells) dH dG fun iW dI => ?_
    clear dG
    refine anyC_op (i := 17) kz (wpOp_store bO dI (oi := 2) (cs := [.int .i64 0, .slice (some ⟨aB, 0, none⟩) ((sb ((D.f 0).s)).length) aC, .bool false, .slice none 0 0, .slice none 0 0, .int .i64 0, .slice none 0 0, .bool (((D.f 1).A).isNone), .slice aj (k1_ + 1) aw, .slice none 0 0]) kz fun gx bw cN dJ => ?_)
    clear dI bO
    refine ⟨fun h => absurd rfl h, ?_⟩
    refine anyC_done kz ?_ _
    refine then_normal ?_
    refine go_region [0, 1] kz ?_
    have fJ : World.ownsRow gx 0 37 5 (.slice aj (k1_ + 1) aw) (k1_ + 1) (xs1_ ++ [.int .i64 0, .slice none 0 0, .bool false, .slice none 0 0, .slice none 0 0]) := cN.own 0 _ rfl
    obtain ⟨fK, dK⟩ := own_addr fJ (by omega)
    refine of_op (wpOp_index dJ (t := 34) (A := aj) (m := (k1_ + 1)) (q := ((k1_ : Nat) : Int)) (d := 52) kz (e := 37) (size := 5) (bytes := 88) kz (b := fK) (o := 0) (j := k1_) dK (rfl) (by omega) fun iX dL => ?_)
    clear dJ
    refine of_op (wpOp_storeR cN dL (k := 0) (g := fK) (o := k1_ * 5) (c := aw) (m := (k1_ + 1)) (size := 5) (e := 37) (A := aj) (xs := (xs1_ ++ [.int .i64 0, .slice none 0 0, .bool false, .slice none 0 0, .slice none 0 0])) (vs := [.int .i64 aJ, .slice aO aK.length aP, .bool aL, .slice aQ aM.length aR, .slice aS aN.length aT]) kz rfl dK (by simp only [List.length_cons, List.length_nil]; omega) fun iY bx dM dN => ?_)
    clear dL cN
    have fL : (⟨aj, aw, 37, 5, k1_ + 1, splice (xs1_ ++ [.int .i64 0, .slice none 0 0, .bool false, .slice none 0 0, .slice none 0 0]) (k1_ * 5) [.int .i64 aJ, .slice aO aK.length aP, .bool aL, .slice aQ aM.length aR, .slice aS aN.length aT]⟩ : Rw) = ⟨aj, aw, 37, 5, k1_ + 1, xs1_ ++ [.int .i64 aJ, .slice aO aK.length aP, .bool aL, .slice aQ aM.length aR, .slice aS aN.length aT]⟩ := by rw [splice_last (by rw [hT1_.xslen, List.length_take, len_range]; omega)]
    obtain ⟨dO, bz⟩ := dM.rowEq 0 [⟨aj, aw, 37, 5, k1_ + 1, xs1_ ++ [.int .i64 aJ, .slice aO aK.length aP, .bool aL, .slice aQ aM.length aR, .slice aS aN.length aT]⟩, ⟨some ⟨ew, 0, none⟩, 1, 37, 5, 1, [.int .i64 0, .slice none 0 0, .bool false, .slice none 0 0, .slice none 0 0]⟩] fL
    clear dM
    refine wpOps_nil ?_
    refine block_normal ?_
    refine then_normal ?_
    refine go_region [0, 1] kz ?_
    refine go_rn [0, 1] [] [(0, .p 0 0), (2, .p 1 0), (3, .p 3 0), (29, .v (.int .i64 (((D.f 1).l : Nat) : Int))), (30, .v (.int .i64 (IntKind.i64.wrap (((k1_ : Nat) : Int) + 1))))] dO dN fun iZ fM => ?_
    clear dN
    refine wpOps_nil (then_normal ?_)
    obtain ⟨dP, fN, bA⟩ := dO.cutB fM 4 [⟨b, o, [.int .i16 v, .string ((D.f 0).s), .slice ((D.f 1).A) ((D.f 1).l) ((D.f 1).c), .map D.m], false⟩, ⟨b4, 0, [.int .i64 0, .slice none 0 0, .bool false, .slice none 0 0, .slice none 0 0], true⟩, ⟨aa, 0, [.int .i64 0, .slice (some ⟨aB, 0, none⟩) ((sb ((D.f 0).s)).length) aC, .bool false, .slice none 0 0, .slice none 0 0, .int .i64 0, .slice none 0 0, .bool (((D.f 1).A).isNone), .slice aj (k1_ + 1) aw, .slice none 0 0], true⟩, ⟨bI, 0, [.int .i64 0, .slice none 0 0, .bool false, .slice (some ⟨aa, 0, none⟩) 2 2, .slice none 0 0], true⟩] [(0, .p 0 0), (2, .p 1 0), (3, .p 3 0), (29, .v (.int .i64 (((D.f 1).l : Nat) : Int))), (30, .v (.int .i64 (IntKind.i64.wrap (((k1_ : Nat) : Int) + 1))))]
    obtain ⟨fO, bB⟩ := fN.cutR 1 [⟨aj, aw, 37, 5, k1_ + 1, xs1_ ++ [.int .i64 aJ, .slice aO aK.length aP, .bool aL, .slice aQ aM.length aR, .slice aS aN.length aT]⟩]
    have fP : IntKind.i64.wrap (((k1_ : Nat) : Int) + 1) = ((k1_ + 1 : Nat) : Int) := wrap_succ (by omega)
    rw [fP] at dP
    exact ⟨(D.f 1).l - (k1_ + 1), by omega, k1_ + 1, aj, aw, xs1_ ++ [Value.int .i64 aJ, .slice aO aK.length aP, .bool aL, .slice aQ aM.length aR, .slice aS aN.length aT], (css1_ ++ [[Value.int .i64 aJ, .slice aO aK.length aP, .bool aL, .slice aQ aM.length aR, .slice aS aN.length aT]]), rfl, by omega, by rw [take_range (by omega)]; exact (hT1_.move ((((((((((((aI.trans ab).trans ac).trans af).trans aE).trans av).trans ah).trans ax).trans bw).trans bx).trans bz).trans bA).trans bB).step immM ((((((((((((aI.trans ab).trans ac).trans af).trans aE).trans av).trans ah).trans ax).trans bw).trans bx).trans bz).trans bA).trans bB).to').snoc (x := (fun i => trDeleteShareGroupOffsetsRequestTopic ((D.f 1).f i)) k1_) (cK.move ((((((ah.trans ax).trans bw).trans bx).trans bz).trans bA).trans bB).step immM ((((((ah.trans ax).trans bw).trans bx).trans bz).trans bA).trans bB).to'), dP.pk, fO, (((((((((((((cr.trans aI).trans ab).trans ac).trans af).trans aE).trans av).trans ah).trans ax).trans bw).trans bx).trans bz).trans bA).trans bB)⟩
   ·
    refine (wpOp_lit ag bN (e := 37) (size := 5) (len := 1) (cs := [.int .i64 0, .slice none 0 0, .bool false, .slice none 0 0, .slice none 0 0]) (d := 48) kz kz fun ey i6 i7 gR gS ay ai dQ => ?_)
    clear bN
    have fQ := TT.ofW ay ai
    refine ⟨fun _ => fQ, ?_⟩
    refine anyC_op (i := 11) kz (wpOp_call dQ (f := 135) (vs := [.pointer (some ⟨cV, cW + k1_ * 2, none⟩)]) (d := 46) kz Tryz.call135 (tlDeleteShareGroupOffsetsRequestTopic 0 ((D.f 1).f k1_) _ _ _ _ (cI.move ai.step nilM ai.imm) (mvDeleteShareGroupOffsetsRequestTopic _ ai.step nilM ai.imm (g2e k1_ (by omega)))) ?_)
    rintro e_ ja ⟨gT, rfl, fR, cO⟩
    have cP := fR.move (Step.refl _ Nil) nilM (ai.laid (G := F) cO)
    obtain ⟨aU, aV, aW, aX, aY, aZ, ba, bd, bf, bg, bh, gU, gV, cQ, gy, gz, jb, jc⟩ := cP.open_
    rw [cQ] at cP
    have gA := gy.small
    have gB := gz.small
    rw [cQ]
    refine ⟨_, rfl, fun jd dR => ?_⟩
    have bC := ai.next_nil cO
    have aF := ai.frN cO
    clear dQ
    have fS := TT.ofW (ay.trans aF) bC
    refine ⟨fun _ => fS, ?_⟩
    refine anyC_op (i := 14) kz (wpOp_append bC dR (k := 0) (d := 49) (t := 34) (e := 37) (size := 5) (bytes := 88) (A := A1_) (As := (some ⟨ey, 0, none⟩)) (m0 := k1_) (c := c1_) (m := 1) (cs := 1) (xs := xs1_) (news := [.int .i64 0, .slice none 0 0, .bool false, .slice none 0 0, .slice none 0 0]) kz kz rfl (own_src (bC.own 1 _ rfl) (allOne_ok kz)) (own_cap (bC.own 1 _ rfl)) (by omega) fun ak az je jf aA bP dS => ?_)
    clear dR bC
    have fT := TT.ofW ((ay.trans aF).trans aA) bP
    refine ⟨fun _ => fT, ?_⟩
    refine anyC_op (i := 15) kz (wpOp_index dS (t := 34) (A := (some ⟨aa, 0, none⟩)) (m := 2) (q := 1) (d := 50) kz (e := 37) (size := 5) (bytes := 88) (j := 1) kz (b := aa) (o := 0) rfl rfl (by decide) fun jg dT => ?_)
    clear dS
    have dU := dT.recast 50 (.v (.pointer (some ⟨aa, 0 + 1 * 5, none⟩))) (.p 2 5) rfl rfl (Nat.le_of_ble_eq_true (n := 3) rfl)
    clear dT
    have dV := dU.pk (env' := [(0, .p 0 0), (2, .p 1 0), (3, .p 3 0), (29, .v (.int .i64 (((D.f 1).l : Nat) : Int))), (30, .v (.int .i64 ((k1_ : Nat) : Int))), (36, .v (.slice (some ⟨aa, 0, none⟩) 2 2)), (39, .v (.slice A1_ k1_ c1_)), (43, .v (.slice ((D.f 1).A) ((D.f 1).l) ((D.f 1).c))), (44, .v (.int .i64 ((k1_ : Nat) : Int))), (47, .v (.int .i64 ((k1_ : Nat) : Int))), (45, .v (.pointer (some ⟨cV, cW + k1_ * 2, none⟩))), (48, .v (.slice (some ⟨ey, 0, none⟩) 1 1)), (46, .v (.agg #[.int .i64 aU, .slice aZ aV.length ba, .bool aW, .slice bd aX.length bf, .slice bg aY.length bh])), (49, .v (.slice ak (k1_ + 1) az)), (50, .p 2 5)])
    clear dU
    have dW := TT.ofW ((ay.trans aF).trans aA) bP
    refine ⟨fun _ => dW, ?_⟩
    refine go_rnD [16] [(0, .p 0 0), (2, .p 1 0), (3, .p 3 0), (29, .v (.int .i64 (((D.f 1).l : Nat) : Int))), (30, .v (.int .i64 ((k1_ : Nat) : Int))), (46, .v (.agg #[.int .i64 aU, .slice aZ aV.length ba, .bool aW, .slice bd aX.length bf, .slice bg aY.length bh])), (47, .v (.int .i64 ((k1_ : Nat) : Int))), (49, .v (.slice ak (k1_ + 1) az)), (51, .p 2 8)] 1 (panicFree_then (panicFree_block (panicFree_then (panicFree_then (panicFree_block (panicFree_then panicFree_body)))))) (fun _ h => h.cells) dW dV fun jh dX => ?_
    clear dV
    refine anyC_op (i := 17) kz (wpOp_store bP dX (oi := 2) (cs := [.int .i64 0, .slice (some ⟨aB, 0, none⟩) ((sb ((D.f 0).s)).length) aC, .bool false, .slice none 0 0, .slice none 0 0, .int .i64 0, .slice none 0 0, .bool (((D.f 1).A).isNone), .slice ak (k1_ + 1) az, .slice none 0 0]) kz fun gC bD cR dY => ?_)
    clear dX bP
    refine ⟨fun h => absurd rfl h, ?_⟩
    refine anyC_done kz ?_ _
    refine then_normal ?_
    refine go_region [0, 1] kz ?_
    have fU : World.ownsRow gC 0 37 5 (.slice ak (k1_ + 1) az) (k1_ + 1) (xs1_ ++ [.int .i64 0, .slice none 0 0, .bool false, .slice none 0 0, .slice none 0 0]) := cR.own 0 _ rfl
    obtain ⟨fV, dZ⟩ := own_addr fU (by omega)
    refine of_op (wpOp_index dY (t := 34) (A := ak) (m := (k1_ + 1)) (q := ((k1_ : Nat) : Int)) (d := 52) kz (e := 37) (size := 5) (bytes := 88) kz (b := fV) (o := 0) (j := k1_) dZ (rfl) (by omega) fun ji d5 => ?_)
    clear dY
    refine of_op (wpOp_storeR cR d5 (k := 0) (g := fV) (o := k1_ * 5) (c := az) (m := (k1_ + 1)) (size := 5) (e := 37) (A := ak) (xs := (xs1_ ++ [.int .i64 0, .slice none 0 0, .bool false, .slice none 0 0, .slice none 0 0])) (vs := [.int .i64 aU, .slice aZ aV.length ba, .bool aW, .slice bd aX.length bf, .slice bg aY.length bh]) kz rfl dZ (by simp only [List.length_cons, List.length_nil]; omega) fun jj bE d6 d7 => ?_)
    clear d5 cR
    have fW : (⟨ak, az, 37, 5, k1_ + 1, splice (xs1_ ++ [.int .i64 0, .slice none 0 0, .bool false, .slice none 0 0, .slice none 0 0]) (k1_ * 5) [.int .i64 aU, .slice aZ aV.length ba, .bool aW, .slice bd aX.length bf, .slice bg aY.length bh]⟩ : Rw) = ⟨ak, az, 37, 5, k1_ + 1, xs1_ ++ [.int .i64 aU, .slice aZ aV.length ba, .bool aW, .slice bd aX.length bf, .slice bg aY.length bh]⟩ := by rw [splice_last (by rw [hT1_.xslen, List.length_take, len_range]; omega)]
    obtain ⟨d8, bF⟩ := d6.rowEq 0 [⟨ak, az, 37, 5, k1_ + 1, xs1_ ++ [.int .i64 aU, .slice aZ aV.length ba, .bool aW, .slice bd aX.length bf, .slice bg aY.length bh]⟩, ⟨some ⟨ey, 0, none⟩, 1, 37, 5, 1, [.int .i64 0, .slice none 0 0, .bool false, .slice none 0 0, .slice none 0 0]⟩] fW
    clear d6
    refine wpOps_nil ?_
    refine block_normal ?_
    refine then_normal ?_
    refine go_region [0, 1] kz ?_
    refine go_rn [0, 1] [] [(0, .p 0 0), (2, .p 1 0), (3, .p 3 0), (29, .v (.int .i64 (((D.f 1).l : Nat) : Int))), (30, .v (.int .i64 (IntKind.i64.wrap (((k1_ : Nat) : Int) + 1))))] d8 d7 fun jk fX => ?_
    clear d7
    refine wpOps_nil (then_normal ?_)
    obtain ⟨d9, fY, bG⟩ := d8.cutB fX 4 [⟨b, o, [.int .i16 v, .string ((D.f 0).s), .slice ((D.f 1).A) ((D.f 1).l) ((D.f 1).c), .map D.m], false⟩, ⟨b4, 0, [.int .i64 0, .slice none 0 0, .bool false, .slice none 0 0, .slice none 0 0], true⟩, ⟨aa, 0, [.int .i64 0, .slice (some ⟨aB, 0, none⟩) ((sb ((D.f 0).s)).length) aC, .bool false, .slice none 0 0, .slice none 0 0, .int .i64 0, .slice none 0 0, .bool (((D.f 1).A).isNone), .slice ak (k1_ + 1) az, .slice none 0 0], true⟩, ⟨bI, 0, [.int .i64 0, .slice none 0 0, .bool false, .slice (some ⟨aa, 0, none⟩) 2 2, .slice none 0 0], true⟩] [(0, .p 0 0), (2, .p 1 0), (3, .p 3 0), (29, .v (.int .i64 (((D.f 1).l : Nat) : Int))), (30, .v (.int .i64 (IntKind.i64.wrap (((k1_ : Nat) : Int) + 1))))]
    obtain ⟨fZ, bH⟩ := fY.cutR 1 [⟨ak, az, 37, 5, k1_ + 1, xs1_ ++ [.int .i64 aU, .slice aZ aV.length ba, .bool aW, .slice bd aX.length bf, .slice bg aY.length bh]⟩]
    have f5 : IntKind.i64.wrap (((k1_ : Nat) : Int) + 1) = ((k1_ + 1 : Nat) : Int) := wrap_succ (by omega)
    rw [f5] at d9
    exact ⟨(D.f 1).l - (k1_ + 1), by omega, k1_ + 1, ak, az, xs1_ ++ [Value.int .i64 aU, .slice aZ aV.length ba, .bool aW, .slice bd aX.length bf, .slice bg aY.length bh], (css1_ ++ [[Value.int .i64 aU, .slice aZ aV.length ba, .bool aW, .slice bd aX.length bf, .slice bg aY.length bh]]), rfl, by omega, by rw [take_range (by omega)]; exact (hT1_.move ((((((((((((aI.trans ab).trans ac).trans af).trans aE).trans ay).trans aF).trans aA).trans bD).trans bE).trans bF).trans bG).trans bH).step immM ((((((((((((aI.trans ab).trans ac).trans af).trans aE).trans ay).trans aF).trans aA).trans bD).trans bE).trans bF).trans bG).trans bH).to').snoc (x := (fun i => trDeleteShareGroupOffsetsRequestTopic ((D.f 1).f i)) k1_) (cP.move (((((aA.trans bD).trans bE).trans bF).trans bG).trans bH).step immM (((((aA.trans bD).trans bE).trans bF).trans bG).trans bH).to'), d9.pk, fZ, (((((((((((((cr.trans aI).trans ab).trans ac).trans af).trans aE).trans ay).trans aF).trans aA).trans bD).trans bE).trans bF).trans bG).trans bH)⟩
 ·
  have gW := of_decide_eq_false eu
  refine wp_exit ?_
  refine then_exit ?_
  refine then_exit ?_
  refine block_exit ?_
  refine then_normal ?_
  refine go_seq_region [0, 1, 2, 3, 4] kz ?_
  refine go_rn [0, 1, 2] [3, 4] [(2, .p 1 0), (3, .p 3 0), (74, .p 0 3)] ao cu fun jl ea => ?_
  clear cu
  refine of_op (wpOp_mkf ea (v := .func (.func 136) #[] #[.pointer (some ⟨bI, 0, none⟩)]) (d := 75) kz fun jm eb => ?_)
  clear ea
  refine of_op (wpOp_call eb (f := 122) (vs := [.pointer (some ⟨b, o + 3, none⟩), .func (.func 136) #[] #[.pointer (some ⟨bI, 0, none⟩)]]) (d := 76) kz Tryz.call122 (kEachTell (F := (Imm F w hJ [⟨b, o, [.int .i16 v, .string ((D.f 0).s), .slice ((D.f 1).A) ((D.f 1).l) ((D.f 1).c), .map D.m], false⟩, ⟨b4, 0, [.int .i64 0, .slice none 0 0, .bool false, .slice none 0 0, .slice none 0 0], true⟩, ⟨aa, 0, [.int .i64 0, .slice (some ⟨aB, 0, none⟩) ((sb ((D.f 0).s)).length) aC, .bool false, .slice none 0 0, .slice none 0 0, .int .i64 0, .slice none 0 0, .bool (((D.f 1).A).isNone), .slice A1_ k1_ c1_, .slice none 0 0], true⟩, ⟨bI, 0, [.int .i64 0, .slice none 0 0, .bool false, .slice (some ⟨aa, 0, none⟩) 2 2, .slice none 0 0], true⟩] [⟨A1_, c1_, 37, 5, k1_, xs1_⟩])) Tryz.call136 tDeleteShareGroupOffsetsRequest_1 ((hat.one 3 rfl).move ao.step nilM ao.imm) (g3.move ao.step nilM ao.imm) (Str.of ao 3 rfl) (imm_n 3 rfl) g3l) ?_)
  rintro e_ jn ⟨rfl, al, am, ez, f7, f8⟩
  obtain ⟨bQ, bR, f9⟩ := ao.wrote 3 [⟨b, o, [.int .i16 v, .string ((D.f 0).s), .slice ((D.f 1).A) ((D.f 1).l) ((D.f 1).c), .map D.m], false⟩, ⟨b4, 0, [.int .i64 0, .slice none 0 0, .bool false, .slice none 0 0, .slice none 0 0], true⟩, ⟨aa, 0, [.int .i64 0, .slice (some ⟨aB, 0, none⟩) ((sb ((D.f 0).s)).length) aC, .bool false, .slice none 0 0, .slice none 0 0, .int .i64 0, .slice none 0 0, .bool (((D.f 1).A).isNone), .slice A1_ k1_ c1_, .slice none 0 0], true⟩, ⟨bI, 0, [.int .i64 0, .slice none 0 0, .bool false, .slice (some ⟨aa, 0, none⟩) 2 2, .slice al D.u.length am], true⟩] rfl f8 ez
  have ec := f7.move (Step.refl _ Nil) nilM (fun b_ o_ h_ hb_ => f9 (G := F) b_ o_ (.inr h_) hb_)
  refine ⟨_, rfl, fun jo ga => ?_⟩
  have ee := (EnvOk.places (tb' := [⟨b, o, [.int .i16 v, .string ((D.f 0).s), .slice ((D.f 1).A) ((D.f 1).l) ((D.f 1).c), .map D.m], false⟩, ⟨b4, 0, [.int .i64 0, .slice none 0 0, .bool false, .slice none 0 0, .slice none 0 0], true⟩, ⟨aa, 0, [.int .i64 0, .slice (some ⟨aB, 0, none⟩) ((sb ((D.f 0).s)).length) aC, .bool false, .slice none 0 0, .slice none 0 0, .int .i64 0, .slice none 0 0, .bool (((D.f 1).A).isNone), .slice A1_ k1_ c1_, .slice none 0 0], true⟩, ⟨bI, 0, [.int .i64 0, .slice none 0 0, .bool false, .slice (some ⟨aa, 0, none⟩) 2 2, .slice al D.u.length am], true⟩]) ga (show Pl [⟨b, o, [.int .i16 v, .string ((D.f 0).s), .slice ((D.f 1).A) ((D.f 1).l) ((D.f 1).c), .map D.m], false⟩, ⟨b4, 0, [.int .i64 0, .slice none 0 0, .bool false, .slice none 0 0, .slice none 0 0], true⟩, ⟨aa, 0, [.int .i64 0, .slice (some ⟨aB, 0, none⟩) ((sb ((D.f 0).s)).length) aC, .bool false, .slice none 0 0, .slice none 0 0, .int .i64 0, .slice none 0 0, .bool (((D.f 1).A).isNone), .slice A1_ k1_ c1_, .slice none 0 0], true⟩, ⟨bI, 0, [.int .i64 0, .slice none 0 0, .bool false, .slice (some ⟨aa, 0, none⟩) 2 2, .slice none 0 0], true⟩] [⟨b, o, [.int .i16 v, .string ((D.f 0).s), .slice ((D.f 1).A) ((D.f 1).l) ((D.f 1).c), .map D.m], false⟩, ⟨b4, 0, [.int .i64 0, .slice none 0 0, .bool false, .slice none 0 0, .slice none 0 0], true⟩, ⟨aa, 0, [.int .i64 0, .slice (some ⟨aB, 0, none⟩) ((sb ((D.f 0).s)).length) aC, .bool false, .slice none 0 0, .slice none 0 0, .int .i64 0, .slice none 0 0, .bool (((D.f 1).A).isNone), .slice A1_ k1_ c1_, .slice none 0 0], true⟩, ⟨bI, 0, [.int .i64 0, .slice none 0 0, .bool false, .slice (some ⟨aa, 0, none⟩) 2 2, .slice al D.u.length am], true⟩] from ⟨rfl, rfl, ⟨rfl, rfl, ⟨rfl, rfl, ⟨rfl, rfl, trivial⟩⟩⟩⟩)).pk (env' := [(76, .v (.tuple #[])), (2, .p 1 0), (3, .p 3 0), (74, .p 0 3), (75, .v (.func (.func 136) #[] #[.pointer (some ⟨bI, 0, none⟩)]))])
  clear eb
  refine wpOps_nil (then_normal ?_)
  refine go_seq_region [0, 1, 2] kz ?_
  refine go_rn [0, 1] [2] [(2, .p 1 0), (3, .p 3 0), (78, .v (.slice al D.u.length am))] bQ ee fun jp ef => ?_
  clear ee
  refine of_op (wpOp_call ef (f := 124) (vs := [.slice al D.u.length am]) (d := 79) kz Tryz.call124 (tSorted ec g3.sorted) ?_)
  rintro e_ jq ⟨rfl, eg⟩
  refine ⟨_, rfl, fun jr eh => ?_⟩
  have cS := bQ.next_nil eg
  have aG := bQ.frN eg
  clear ef bQ
  refine wpOps_nil (then_normal ?_)
  refine go_seq_region [0, 1] kz ?_
  refine go_rn [0] [1] [(2, .p 1 0), (80, .v (.agg #[.int .i64 0, .slice none 0 0, .bool false, .slice (some ⟨aa, 0, none⟩) 2 2, .slice al D.u.length am]))] cS eh fun js ei => ?_
  clear eh
  refine of_op (wpOp_store cS ei (oi := 1) (cs := [.int .i64 0, .slice none 0 0, .bool false, .slice (some ⟨aa, 0, none⟩) 2 2, .slice al D.u.length am]) kz fun gb aH cT gc => ?_)
  clear ei cS
  refine wpOps_nil (then_normal ?_)
  refine wp_ret ?_
  refine leave gc cT.cells (v := .agg #[.int .i64 0, .slice none 0 0, .bool false, .slice (some ⟨aa, 0, none⟩) 2 2, .slice al D.u.length am]) kz ?_
  have ej := (hT1_.move ((bR.trans aG).trans aH).step immM ((bR.trans aG).trans aH).to')
  rw [take_all (by omega)] at ej
  exact tell_end (u := D.u) (l := [.mk 0 (sb (D.f 0).s) false [] [], .mk 0 [] (D.f 1).A.isNone ((List.range (D.f 1).l).map fun i => trDeleteShareGroupOffsetsRequestTopic ((D.f 1).f i)) []]) (css := [[.int .i64 0, .slice (some ⟨aB, 0, none⟩) ((sb ((D.f 0).s)).length) aC, .bool false, .slice none 0 0, .slice none 0 0], [.int .i64 0, .slice none 0 0, .bool (((D.f 1).A).isNone), .slice A1_ k1_ c1_, .slice none 0 0]]) cT 2 rfl ⟨(show TreeR _ (Imm F w gb [⟨b, o, [.int .i16 v, .string ((D.f 0).s), .slice ((D.f 1).A) ((D.f 1).l) ((D.f 1).c), .map D.m], false⟩, ⟨b4, 0, [.int .i64 0, .slice none 0 0, .bool false, .slice (some ⟨aa, 0, none⟩) 2 2, .slice al D.u.length am], true⟩, ⟨aa, 0, [.int .i64 0, .slice (some ⟨aB, 0, none⟩) ((sb ((D.f 0).s)).length) aC, .bool false, .slice none 0 0, .slice none 0 0, .int .i64 0, .slice none 0 0, .bool (((D.f 1).A).isNone), .slice A1_ k1_ c1_, .slice none 0 0], true⟩, ⟨bI, 0, [.int .i64 0, .slice none 0 0, .bool false, .slice (some ⟨aa, 0, none⟩) 2 2, .slice al D.u.length am], true⟩] [⟨A1_, c1_, 37, 5, k1_, xs1_⟩]) _ _ from (TreeR.mk (n := 0) (b := false) (s := (sb ((D.f 0).s))) (l := []) (u := []) (fun _ => []) (gi.move (((((((eP.trans eS).trans eZ).trans fe).trans cr).trans bR).trans aG).trans aH).step immM (((((((eP.trans eS).trans eZ).trans fe).trans cr).trans bR).trans aG).trans aH).to') (Slots.nil _ _ _ _) (fun i_ x_ h_ => by simp at h_) (TagsR.nil _ _))).move (Step.refl _ Nil) nilM immOut, tell_list cT (k := 0) rfl ej (by rw [len_range]; omega) (by rw [len_range]; omega), trivial⟩ ((show TagsR _ (Imm F w gb [⟨b, o, [.int .i16 v, .string ((D.f 0).s), .slice ((D.f 1).A) ((D.f 1).l) ((D.f 1).c), .map D.m], false⟩, ⟨b4, 0, [.int .i64 0, .slice none 0 0, .bool false, .slice (some ⟨aa, 0, none⟩) 2 2, .slice al D.u.length am], true⟩, ⟨aa, 0, [.int .i64 0, .slice (some ⟨aB, 0, none⟩) ((sb ((D.f 0).s)).length) aC, .bool false, .slice none 0 0, .slice none 0 0, .int .i64 0, .slice none 0 0, .bool (((D.f 1).A).isNone), .slice A1_ k1_ c1_, .slice none 0 0], true⟩, ⟨bI, 0, [.int .i64 0, .slice none 0 0, .bool false, .slice (some ⟨aa, 0, none⟩) 2 2, .slice al D.u.length am], true⟩] [⟨A1_, c1_, 37, 5, k1_, xs1_⟩]) _ _ _ from (ec.move (aG.trans aH).step immM (aG.trans aH).to')).move (Step.refl _ Nil) nilM immOut)
end Go.Proofs.YtgolpmkenmedoaaGreatDoor.ME
namespace Go.Proofs.YtgolpmkenmedoaaGreatDoor.ME
open Go
set_option linter.unusedVariables false
set_option linter.unusedSimpArgs false
theorem i64_at {t : Tree} (h : t.i64s) (i : Nat) : (t.at_ i).i64s := by
 cases t with
 | mk n s b l u =>
  have h1 : ∀ x ∈ l, x.i64s := i64ss_mem h.2
  show (l.getD i .zero).i64s
  rw [List.getD_eq_getElem?_getD]
  cases hx : l[i]? with
  | none => exact ⟨by decide, trivial⟩
  | some x => exact h1 x (List.mem_of_getElem? hx)
theorem i64_thing {t x : Tree} (h : t.i64s) {i : Nat} (hx : (things t.L)[i]? = some x) : x.i64s := by
 cases t with
 | mk n s b l u =>
  have h1 : ∀ x ∈ l, x.i64s := i64ss_mem h.2
  exact h1 x (List.mem_of_mem_take (List.mem_of_getElem? hx))
theorem pres_has {k x1 x2 x3 x5 x6 v : Int} {s : List Fld} {flex : Bool} {x : Tree} : Fld.pres (.mk k x1 x2 x3 (-1) x5 x6 s) v flex x = (decide (x1 ≤ v) && (decide (x2 < 0) || decide (v ≤ x2))) := by simp [Fld.pres, Fld.tag, Fld.has]
section
variable {T : List Fld → Tree → Tree → Prop} {U : List Fld → Tree → Prop} {v k x1 x2 x3 x4 x5 x6 n : Int} {sub : List Fld} {x T' : Tree} {A : Option Addr} {s : ByteArray} {o : Bs} {b : Bool}
theorem to0_text (hs : o = whole x.S) : ToF0 T v (.mk 8 x1 x2 (-1) x4 x5 x6 sub) x (.mk 0 o false [] []) := by
 cases x with
 | mk a1 a2 a3 a4 a5 =>
  exact ⟨fun _ => nul_no.symm, fun _ _ => hs, fun _ h => by omega, fun _ h => by omega, fun _ _ h => absurd rfl h⟩
theorem to_text (h : s = bs T'.S) (h1 : T'.S = whole x.S) : ToF T v (.mk 8 x1 x2 (-1) x4 x5 x6 sub) x (.mk 0 (sb s) false [] []) :=
 ⟨to0_text (by rw [h, sb_bs, h1]), fun h => absurd (show (8 : Int) = 11 from h) (by decide)⟩
theorem to0_part {g : Tree} (hg : g.null = false) (h : T sub x g) : ToF0 T v (.mk 10 x1 x2 (-1) x4 x5 x6 sub) x g := by
 cases x with
 | mk a1 a2 a3 a4 a5 =>
  cases g with
  | mk g1 g2 g3 g4 g5 =>
   exact ⟨fun _ => by rw [nul_no]; exact hg, fun _ h => by omega, fun _ h => by omega, fun _ _ => h, fun _ _ _ _ h => absurd rfl h⟩
theorem to_list {l : Nat} {g : Nat → Tree} {W : Tree → Tree} (hb : x3 ≥ 0 ∧ v ≥ x3 → b = Fld.nul (.mk 11 x1 x2 x3 x4 x5 x6 sub) v x) (hl : l = (lst T').length) (hlst : lst T' = (if Fld.nul (.mk 11 x1 x2 x3 (-1) x5 x6 sub) v x = true then [] else things x.L).map W)
  (he : ∀ i y, i < l → (lst T').getD i .zero = W y → (things x.L)[i]? = some y → ToF0 T v (.mk x6 x1 x2 (-1) (-1) x5 x6 sub) y (g i)) : ToF T v (.mk 11 x1 x2 x3 x4 x5 x6 sub) x (.mk 0 [] b ((List.range l).map g) []) := by
 have hn : Fld.nul (.mk 11 x1 x2 x3 (-1) x5 x6 sub) v x = Fld.nul (.mk 11 x1 x2 x3 x4 x5 x6 sub) v x := by cases x; rfl
 refine ⟨?_, fun _ hnn => ?_⟩
 ·cases x with
  | mk a1 a2 a3 a4 a5 =>
   refine ⟨fun h => hb ?_, fun _ h => by omega, fun _ h => by omega, fun _ h => by omega, fun _ _ _ _ _ h => absurd rfl h⟩
   rcases h with h | h | h
   ·omega
   ·omega
   ·exact h
 ·rw [hn, hnn, if_neg (by decide)] at hlst
  have hll : l = (things x.L).length := by rw [hl, hlst, List.length_map]
  refine ⟨by show ((List.range l).map g).length = _; rw [List.length_map, List.length_range, hll], fun i y z hy hz => ?_⟩
  have hi : i < l := by rw [hll]; exact (List.getElem?_eq_some_iff.1 hy).1
  have hz' : ((List.range l).map g)[i]? = some z := hz
  rw [List.getElem?_map, List.getElem?_range hi] at hz'
  obtain rfl := Option.some.inj hz'
  refine he i y hi ?_ hy
  rw [hlst, List.getD_eq_getElem?_getD, List.getElem?_map, hy]
  rfl
end
end Go.Proofs.YtgolpmkenmedoaaGreatDoor.ME
namespace Go.Proofs.YtgolpmkenmedoaaGreatDoor.ME
open Go
open Go.RowKit
set_option linter.unusedVariables false
set_option linter.unusedSimpArgs false
set_option maxRecDepth 20000
theorem toldDeleteShareGroupOffsetsRequestTopic (v : Int) (h0 : 0 ≤ v) (t Y : Tree) (hY : ∀ i, Y.at_ i = (fitT v 7 [(Fld.mk 8 0 (-1) (-1) (-1) 0 0 [])] t).at_ i) (hU : Y.U = (fitT v 7 [(Fld.mk 8 0 (-1) (-1) (-1) 0 0 [])] t).U) (hi : t.i64s) (D : DV) (h : rvDeleteShareGroupOffsetsRequestTopic v D Y) : ToldP v (decide (v ≥ sDeleteShareGroupOffsetsRequestX)) 7 [(Fld.mk 8 0 (-1) (-1) (-1) 0 0 [])] t (trDeleteShareGroupOffsetsRequestTopic D) := by
 unfold rvDeleteShareGroupOffsetsRequestTopic at h
 obtain ⟨r0, rU, _⟩ := h
 refine ⟨rfl, fun i f y hf hy => ?_, ?_⟩
 ·match i, hf, hy with
  | 0, hf, hy =>
   obtain rfl := Option.some.inj hf
   obtain rfl := Option.some.inj hy
   have e := hY 0
   refine ⟨fun hp => ?_, fun hp => ?_⟩
   ·have hc : True := trivial
    have r := r0
    rw [e] at r
    exact to_text r (fit_t (v := v) (d := 6) (t := t) (show [(Fld.mk 8 0 (-1) (-1) (-1) 0 0 [])][0]? = _ from rfl) (by decide))
   ·rw [pres_has] at hp; simp at hp; omega
  | n_ + 1, hf, hy => exact absurd (List.getElem?_eq_some_iff.1 hf).1 (by show ¬ n_ + 1 < 1; omega)
 ·show D.u = if (decide (v ≥ sDeleteShareGroupOffsetsRequestX)) = true then wholeU (unknownT [(Fld.mk 8 0 (-1) (-1) (-1) 0 0 [])] t.U) else []
  by_cases hc : (decide (v ≥ 0)) = true
  ·rw [if_pos (show (decide (v ≥ sDeleteShareGroupOffsetsRequestX)) = true from hc), rU.1 hc, hU, fit_U]
  ·rw [if_neg (show ¬ (decide (v ≥ sDeleteShareGroupOffsetsRequestX)) = true from hc), rU.2 (by simpa using hc)]
theorem toldDeleteShareGroupOffsetsRequest (v : Int) (h0 : 0 ≤ v) (t Y : Tree) (hY : ∀ i, Y.at_ i = (fitT v 8 sDeleteShareGroupOffsetsRequestF t).at_ i) (hU : Y.U = (fitT v 8 sDeleteShareGroupOffsetsRequestF t).U) (hi : t.i64s) (D : DV) (h : rvDeleteShareGroupOffsetsRequest v D Y) : ToldP v (decide (v ≥ sDeleteShareGroupOffsetsRequestX)) 8 sDeleteShareGroupOffsetsRequestF t (trDeleteShareGroupOffsetsRequest D) := by
 unfold rvDeleteShareGroupOffsetsRequest at h
 obtain ⟨r0, r1, rU, _⟩ := h
 refine ⟨rfl, fun i f y hf hy => ?_, ?_⟩
 ·match i, hf, hy with
  | 0, hf, hy =>
   obtain rfl := Option.some.inj hf
   obtain rfl := Option.some.inj hy
   have e := hY 0
   refine ⟨fun hp => ?_, fun hp => ?_⟩
   ·have hc : True := trivial
    have r := r0
    rw [e] at r
    exact to_text r (fit_t (v := v) (d := 7) (t := t) (show sDeleteShareGroupOffsetsRequestF[0]? = _ from rfl) (by decide))
   ·rw [pres_has] at hp; simp at hp; omega
  | 1, hf, hy =>
   obtain rfl := Option.some.inj hf
   obtain rfl := Option.some.inj hy
   have e := hY 1
   refine ⟨fun hp => ?_, fun hp => ?_⟩
   ·have hc : True := trivial
    have r := r1
    rw [e] at r
    obtain ⟨_, fl⟩ := fit_11 (v := v) (d := 7) (t := t) (show sDeleteShareGroupOffsetsRequestF[1]? = _ from rfl)
    refine to_list (fun h_ => absurd h_.1 (by decide)) r.1 fl fun i_ y_ hi_ hg_ hy_ => ?_
    have q := r.2 i_ hi_
    rw [hg_] at q
    exact to0_part rfl (toldDeleteShareGroupOffsetsRequestTopic v h0 y_ _ (fun i => fit_10.1 i) fit_10.2 (i64_thing (i64_at hi 1) hy_) _ q)
   ·rw [pres_has] at hp; simp at hp; omega
  | n_ + 2, hf, hy => exact absurd (List.getElem?_eq_some_iff.1 hf).1 (by show ¬ n_ + 2 < 2; omega)
 ·show D.u = if (decide (v ≥ sDeleteShareGroupOffsetsRequestX)) = true then wholeU (unknownT sDeleteShareGroupOffsetsRequestF t.U) else []
  by_cases hc : (decide (v ≥ 0)) = true
  ·rw [if_pos (show (decide (v ≥ sDeleteShareGroupOffsetsRequestX)) = true from hc), rU.1 hc, hU, fit_U]
  ·rw [if_neg (show ¬ (decide (v ≥ sDeleteShareGroupOffsetsRequestX)) = true from hc), rU.2 (by simpa using hc)]
set_option maxHeartbeats 4000000 in
theorem tzDeleteShareGroupOffsetsRequest (v : Int) (T : Tree) {A2 : Option Addr} {c2 : Nat} {w : World} {F : Nat → Nat → Prop} (hs_ : Octs w F A2 c2 (tDeleteShareGroupOffsetsRequest (IntKind.i16.wrap v) T)) (hc : canDeleteShareGroupOffsetsRequest T) (hkey : T.ranged) (hroom : (tDeleteShareGroupOffsetsRequest (IntKind.i16.wrap v) T).length + 16 ≤ 1099511627776) :
  Calls Tryz.prog 24 #[.int .i64 v, .slice A2 (tDeleteShareGroupOffsetsRequest (IntKind.i16.wrap v) T).length c2] w (fun e w' => ∃ D cs, e = .returned (.tuple #[.agg cs.toArray, .bool true]) ∧ TreeR w' (Fp NoF w) cs (trDeleteShareGroupOffsetsRequest D) ∧ rvDeleteShareGroupOffsetsRequest (IntKind.i16.wrap v) D T ∧ Step w w' Nil) := by
 refine enter (n := 20) Tryz.func24 rfl Tryz.ntmps24 kz fun a hE => ?_
 have hW := WOk.start w Nil
 have hsm2 := Slots.small hs_
 refine go_seq_region [0, 1] kz ?_
 refine of_op (wpOp_alloc hW hE (d := 4) (cs := [.int .i64 0, .slice none 0 0, .bool false, .slice none 0 0, .slice none 0 0]) kz fun b1 a2 w3 hb4 hz5 hF6 hW7 hE8 => ?_)
 clear hE hW
 refine go_rn [1] [] [(0, .v (.int .i64 v)), (1, .v (.slice A2 ((tDeleteShareGroupOffsetsRequest (IntKind.i16.wrap v) T).length) c2)), (4, .p 0 0)] hW7 hE8 fun a9 bu => ?_
 clear hE8
 refine wpOps_nil (then_normal ?_)
 refine go_seq_region [0, 1] kz ?_
 refine of_op (wpOp_inline bu (f := 65) (vs := []) (d := 7) (n' := 3) kz Tryz.call65 Tryz.func65 rfl Tryz.ntmps65 kz fun cI aN => ?_)
 refine go_sp [] hW7 aN fun cJ aO => ?_
 clear aN
 refine go_seq_region [0] kz ?_
 refine of_op (wpOp_alloc hW7 aO (d := 1) (cs := [.int .i16 0, .string ByteArray.empty, .slice none 0 0, .map none]) kz fun aa cK cL ce cm cq ac bw => ?_)
 clear aO hW7
 refine wpOps_nil (then_normal ?_)
 refine go_seq_region [0] kz ?_
 refine of_op (wpOp_inline bw (f := 133) (vs := [.pointer (some ⟨aa, 0, none⟩)]) (d := 2) (n' := 2) kz Tryz.call133 Tryz.func133 rfl Tryz.ntmps133 kz fun cM bx => ?_)
 have bz := bx.recast 0 (.v (.pointer (some ⟨aa, 0, none⟩))) (.p 1 0) rfl rfl (Nat.le_of_ble_eq_true (n := 2) rfl)
 refine wp_skip ?_
 refine leave_end bz ac.cells (v := .tuple #[]) kz ?_
 refine ⟨_, rfl, fun cN bA => ?_⟩
 have aP : EnvOk 3 [⟨b1, 0, [.int .i64 0, .slice none 0 0, .bool false, .slice none 0 0, .slice none 0 0], true⟩, ⟨aa, 0, [.int .i16 0, .string ByteArray.empty, .slice none 0 0, .map none], true⟩] [(2, .v (.tuple #[])), (1, .p 1 0)] _ := bA.places (⟨rfl, rfl, ⟨rfl, rfl, trivial⟩⟩)
 refine wpOps_nil (then_normal ?_)
 refine go_sp [(0, .p 1 0)] ac aP fun cO bB => ?_
 clear aP
 refine wp_ret ?_
 refine leave bB ac.cells (v := .pointer (some ⟨aa, 0, none⟩)) kz ?_
 refine ⟨_, rfl, fun cP bC => ?_⟩
 have aQ : EnvOk 20 [⟨b1, 0, [.int .i64 0, .slice none 0 0, .bool false, .slice none 0 0, .slice none 0 0], true⟩, ⟨aa, 0, [.int .i16 0, .string ByteArray.empty, .slice none 0 0, .map none], true⟩] [(7, .v (.pointer (some ⟨aa, 0, none⟩))), (0, .v (.int .i64 v)), (1, .v (.slice A2 ((tDeleteShareGroupOffsetsRequest (IntKind.i16.wrap v) T).length) c2)), (4, .p 0 0)] _ := bC.places (⟨rfl, rfl, trivial⟩)
 have aR := aQ.recast 7 (.v (.pointer (some ⟨aa, 0, none⟩))) (.p 1 0) rfl rfl (Nat.le_of_ble_eq_true (n := 2) rfl)
 have aS := aR.pick (ks := [0, 1, 4, 7]) (env' := [(0, .v (.int .i64 v)), (1, .v (.slice A2 ((tDeleteShareGroupOffsetsRequest (IntKind.i16.wrap v) T).length) c2)), (4, .p 0 0), (7, .p 1 0)]) kz
 clear aQ
 clear aR
 refine go_rn [1] [] [(0, .v (.int .i64 v)), (1, .v (.slice A2 ((tDeleteShareGroupOffsetsRequest (IntKind.i16.wrap v) T).length) c2)), (4, .p 0 0), (6, .p 1 0)] ac aS fun cQ aT => ?_
 clear aS
 refine wpOps_nil (then_normal ?_)
 refine go_seq_region [0, 1, 2, 3] kz ?_
 refine go_rn [0, 1, 2] [3] [(1, .v (.slice A2 ((tDeleteShareGroupOffsetsRequest (IntKind.i16.wrap v) T).length) c2)), (4, .p 0 0), (6, .p 1 0), (8, .p 1 0), (10, .v (.int .i16 (IntKind.i16.wrap v)))] ac aT fun cR bD => ?_
 clear aT
 refine of_op (wpOp_inline bD (f := 68) (vs := [.pointer (some ⟨aa, 0, none⟩), .int .i16 (IntKind.i16.wrap v)]) (d := 11) (n' := 8) kz Tryz.call68 Tryz.func68 rfl Tryz.ntmps68 kz fun cS bE => ?_)
 have aU := bE.recast 0 (.v (.pointer (some ⟨aa, 0, none⟩))) (.p 1 0) rfl rfl (Nat.le_of_ble_eq_true (n := 2) rfl)
 refine go_region [0, 1, 2, 3, 4] kz ?_
 refine go_rn [0, 1, 2, 3] [4] [(5, .v (.int .i16 (IntKind.i16.wrap v))), (7, .p 1 0)] ac aU fun cT aV => ?_
 clear aU
 refine of_op (wpOp_store ac aV (oi := 1) (cs := [.int .i16 (IntKind.i16.wrap v), .string ByteArray.empty, .slice none 0 0, .map none]) kz fun cU cr ai bF => ?_)
 clear aV ac
 refine wpOps_nil ?_
 refine leave_end bF ai.cells (v := .tuple #[]) kz ?_
 refine ⟨_, rfl, fun cV bG => ?_⟩
 have aW : EnvOk 20 [⟨b1, 0, [.int .i64 0, .slice none 0 0, .bool false, .slice none 0 0, .slice none 0 0], true⟩, ⟨aa, 0, [.int .i16 (IntKind.i16.wrap v), .string ByteArray.empty, .slice none 0 0, .map none], true⟩] [(11, .v (.tuple #[])), (1, .v (.slice A2 ((tDeleteShareGroupOffsetsRequest (IntKind.i16.wrap v) T).length) c2)), (4, .p 0 0), (6, .p 1 0), (8, .p 1 0), (10, .v (.int .i16 (IntKind.i16.wrap v)))] _ := bG.places (⟨rfl, rfl, ⟨rfl, rfl, trivial⟩⟩)
 refine wpOps_nil (then_normal ?_)
 refine wp_seq ?_
 refine go_seq_region [0, 1, 2, 3, 4] kz ?_
 refine go_rn [0, 1] [2, 3, 4] [(4, .p 0 0), (6, .p 1 0), (12, .p 1 0), (13, .v (.slice A2 ((tDeleteShareGroupOffsetsRequest (IntKind.i16.wrap v) T).length) c2))] ai aW fun cW aX => ?_
 clear aW
 have ae := ai.addNil 5 1
 have cu := ai.frNil 5 1
 clear ai
 refine of_op (wpOp_append ae aX (k := 0) (d := 14) (t := 22) (e := 5) (size := 1) (bytes := 1) (A := none) (As := A2) (m0 := 0) (c := 0) (m := ((tDeleteShareGroupOffsetsRequest (IntKind.i16.wrap v) T).length)) (cs := c2) (xs := []) (news := bc (tDeleteShareGroupOffsetsRequest (IntKind.i16.wrap v) T)) kz kz rfl (hs_.move ae.step nilM ae.imm).src (hs_.move ae.step nilM ae.imm).cap (by first | omega | (simp only [List.length_nil]; omega) | (simp; omega)) fun ag ah cX cY cw aY aZ => ?_)
 clear aX ae
 have bH : (⟨ag, ah, 5, 1, 0 + (tDeleteShareGroupOffsetsRequest (IntKind.i16.wrap v) T).length, [] ++ bc (tDeleteShareGroupOffsetsRequest (IntKind.i16.wrap v) T)⟩ : Rw) = brow ag ah 5 (tDeleteShareGroupOffsetsRequest (IntKind.i16.wrap v) T) := by rw [List.nil_append, Nat.zero_add]
 obtain ⟨ap, cz⟩ := aY.rowEq 0 [brow ag ah 5 (tDeleteShareGroupOffsetsRequest (IntKind.i16.wrap v) T)] bH
 clear aY
 have ba := EnvOk.pick aZ (ks := [4, 6, 12, 13, 14]) (env' := [(4, .p 0 0), (6, .p 1 0), (12, .p 1 0), (13, .v (.slice A2 ((tDeleteShareGroupOffsetsRequest (IntKind.i16.wrap v) T).length) c2)), (14, .v (.slice ag (0 + (tDeleteShareGroupOffsetsRequest (IntKind.i16.wrap v) T).length) ah))]) kz
 have bI := ba.cast (env' := [(4, .p 0 0), (6, .p 1 0), (12, .p 1 0), (13, .v (.slice A2 ((tDeleteShareGroupOffsetsRequest (IntKind.i16.wrap v) T).length) c2)), (14, .v (.slice ag ((tDeleteShareGroupOffsetsRequest (IntKind.i16.wrap v) T).length) ah))]) (by simp only [List.length_append, List.length_cons, List.length_nil, Nat.zero_add])
 clear aZ
 clear ba
 refine of_op (wpOp_inline bI (f := 69) (vs := [.pointer (some ⟨aa, 0, none⟩), .slice ag ((tDeleteShareGroupOffsetsRequest (IntKind.i16.wrap v) T).length) ah]) (d := 15) (n' := 8) kz Tryz.call69 Tryz.func69 rfl Tryz.ntmps69 kz fun cZ bJ => ?_)
 have bd := bJ.recast 0 (.v (.pointer (some ⟨aa, 0, none⟩))) (.p 1 0) rfl rfl (Nat.le_of_ble_eq_true (n := 2) rfl)
 refine go_sp [(0, .p 1 0), (1, .v (.slice ag ((tDeleteShareGroupOffsetsRequest (IntKind.i16.wrap v) T).length) ah))] ap bd fun c5 bf => ?_
 clear bd
 refine go_seq_region [0, 1, 2, 3] kz ?_
 refine go_rn [0, 1] [2, 3] [(5, .p 1 0), (6, .v (.slice ag ((tDeleteShareGroupOffsetsRequest (IntKind.i16.wrap v) T).length) ah))] ap bf fun c6 bg => ?_
 clear bf
 have bK := ap.giveUp (G := NoF) 0 [] (show _ = some (brow ag ah 5 (tDeleteShareGroupOffsetsRequest (IntKind.i16.wrap v) T)) from rfl) (by omega)
 obtain ⟨bh, cA⟩ := ap.cutR 0 []
 refine of_op (wpOp_call bg (f := 134) (vs := [.pointer (some ⟨aa, 0, none⟩), .slice ag ((tDeleteShareGroupOffsetsRequest (IntKind.i16.wrap v) T).length) ah, .bool false]) (d := 7) kz Tryz.call134 (rdDeleteShareGroupOffsetsRequest (IntKind.i16.wrap v) T (Str.of bh 1 rfl) bK (imm_n 1 rfl) hc hkey) ?_)
 rintro e_ da ⟨ab, rfl, bL, bM, bN, bi⟩
 obtain ⟨af, cB, bO⟩ := bh.wrote 1 [⟨b1, 0, [.int .i64 0, .slice none 0 0, .bool false, .slice none 0 0, .slice none 0 0], true⟩, ⟨aa, 0, [.int .i16 (IntKind.i16.wrap v), .string ((ab.f 0).s), .slice ((ab.f 1).A) ((ab.f 1).l) ((ab.f 1).c), .map ab.m], true⟩] rfl bi bL
 have bP := mvDeleteShareGroupOffsetsRequest _ (Step.refl _ Nil) nilM bO bM
 refine ⟨_, rfl, fun db bQ => ?_⟩
 have bj := (EnvOk.places (tb' := [⟨b1, 0, [.int .i64 0, .slice none 0 0, .bool false, .slice none 0 0, .slice none 0 0], true⟩, ⟨aa, 0, [.int .i16 (IntKind.i16.wrap v), .string ((ab.f 0).s), .slice ((ab.f 1).A) ((ab.f 1).l) ((ab.f 1).c), .map ab.m], true⟩]) bQ (show Pl [⟨b1, 0, [.int .i64 0, .slice none 0 0, .bool false, .slice none 0 0, .slice none 0 0], true⟩, ⟨aa, 0, [.int .i16 (IntKind.i16.wrap v), .string ByteArray.empty, .slice none 0 0, .map none], true⟩] [⟨b1, 0, [.int .i64 0, .slice none 0 0, .bool false, .slice none 0 0, .slice none 0 0], true⟩, ⟨aa, 0, [.int .i16 (IntKind.i16.wrap v), .string ((ab.f 0).s), .slice ((ab.f 1).A) ((ab.f 1).l) ((ab.f 1).c), .map ab.m], true⟩] from ⟨rfl, rfl, ⟨rfl, rfl, trivial⟩⟩)).pk (env' := [(7, .v (.nilIface)), (5, .p 1 0), (6, .v (.slice ag ((tDeleteShareGroupOffsetsRequest (IntKind.i16.wrap v) T).length) ah))])
 clear bg
 refine go_rn [3] [] [(4, .v (.nilIface))] af bj fun dc bR => ?_
 clear bj
 refine wpOps_nil (then_normal ?_)
 refine wp_ret ?_
 refine leave bR af.cells (v := .nilIface) kz ?_
 refine ⟨_, rfl, fun de bS => ?_⟩
 have bk : EnvOk 20 [⟨b1, 0, [.int .i64 0, .slice none 0 0, .bool false, .slice none 0 0, .slice none 0 0], true⟩, ⟨aa, 0, [.int .i16 (IntKind.i16.wrap v), .string ((ab.f 0).s), .slice ((ab.f 1).A) ((ab.f 1).l) ((ab.f 1).c), .map ab.m], true⟩] [(15, .v (.nilIface)), (4, .p 0 0), (6, .p 1 0), (12, .p 1 0), (13, .v (.slice A2 ((tDeleteShareGroupOffsetsRequest (IntKind.i16.wrap v) T).length) c2)), (14, .v (.slice ag ((tDeleteShareGroupOffsetsRequest (IntKind.i16.wrap v) T).length) ah))] _ := bS.places (⟨rfl, rfl, ⟨rfl, rfl, trivial⟩⟩)
 refine go_rn [4] [] [(4, .p 0 0), (6, .p 1 0), (16, .v (.bool false))] af bk fun df aA => ?_
 clear bk
 refine wpOps_nil (then_normal ?_)
 refine cond_false aA (b := false) kz rfl ?_
 refine wp_skip ?_
 refine then_normal ?_
 refine go_seq_region [0, 1, 2, 3] kz ?_
 refine go_rn [0] [1, 2, 3] [(4, .p 0 0), (18, .p 1 0)] af aA fun dg bn => ?_
 clear aA
 have ar := bn.recast 18 (.p 1 0) (.v (.pointer (some ⟨aa, 0, none⟩))) rfl rfl trivial
 have bo := ar.pk (env' := [(4, .p 0 0), (18, .v (.pointer (some ⟨aa, 0, none⟩)))])
 clear bn ar
 have aB := WOk.strOut (G := NoF) [⟨b1, 0, [.int .i64 0, .slice none 0 0, .bool false, .slice none 0 0, .slice none 0 0], true⟩] af
 obtain ⟨au, aj, av⟩ := af.cutB bo 1 [⟨b1, 0, [.int .i64 0, .slice none 0 0, .bool false, .slice none 0 0, .slice none 0 0], true⟩] [(4, .p 0 0), (18, .v (.pointer (some ⟨aa, 0, none⟩)))]
 have bp := mvDeleteShareGroupOffsetsRequest _ av.step immM av.to' bP
 refine of_op (wpOp_call au (f := 70) (vs := [.pointer (some ⟨aa, 0, none⟩)]) (d := 19) kz Tryz.call70 (tlDeleteShareGroupOffsetsRequest (IntKind.i16.wrap v) ab aa 0 _ _ aB bp) ?_)
 rintro e_ cC ⟨bY, rfl, bq, ak⟩
 have al := bq.move (Step.refl _ Nil) nilM (aj.laid (G := NoF) ak)
 obtain ⟨aC, aD, aE, aF, aG, aH, aI, aJ, aK, aL, aM, bZ, b8, am, bT, bU, cD, cE⟩ := al.open_
 rw [am] at al
 have bV := bT.small
 have bW := bU.small
 rw [am]
 refine ⟨_, rfl, fun cG aw => ?_⟩
 have ax := aj.next_nil ak
 have cd := aj.frN ak
 clear au
 refine of_op (wpOp_store ax aw (oi := 0) (cs := [.int .i64 aC, .slice aH aD.length aI, .bool aE, .slice aJ aF.length aK, .slice aL aG.length aM]) kz fun bX ay ao az => ?_)
 clear aw ax
 refine go_rn [3] [] [(4, .p 0 0), (5, .v (.bool true))] ao az fun cH bt => ?_
 clear az
 refine wpOps_nil (then_normal ?_)
 refine wp_ret ?_
 refine leave bt ao.cells (v := .tuple #[.agg #[.int .i64 aC, .slice aH aD.length aI, .bool aE, .slice aJ aF.length aK, .slice aL aG.length aM], .bool true]) kz ?_
 exact ⟨ab, _, rfl, (show TreeR _ (Imm NoF w bX [⟨b1, 0, [.int .i64 aC, .slice aH aD.length aI, .bool aE, .slice aJ aF.length aK, .slice aL aG.length aM], true⟩] []) _ (trDeleteShareGroupOffsetsRequest ab) from (al.move ay.step immM ay.to')).move (Step.refl _ Nil) nilM immOut, bN, ao.step⟩
theorem tegDeleteShareGroupOffsetsRequest (v : Int) (T : Tree) (B : Bs) {A2 : Option Addr} {c2 : Nat} {w : World} {F : Nat → Nat → Prop} (hB : tDeleteShareGroupOffsetsRequest (IntKind.i16.wrap v) T = B) (hs_ : Octs w F A2 c2 B) (hc : canDeleteShareGroupOffsetsRequest T) (hkey : T.ranged) (hroom : B.length + 16 ≤ 1099511627776) :
  Calls Tryz.prog 24 #[.int .i64 v, .slice A2 B.length c2] w (fun e w' => ∃ D cs, e = .returned (.tuple #[.agg cs.toArray, .bool true]) ∧ TreeR w' (Fp NoF w) cs (trDeleteShareGroupOffsetsRequest D) ∧ rvDeleteShareGroupOffsetsRequest (IntKind.i16.wrap v) D T ∧ Step w w' Nil) := by
 subst hB
 exact tzDeleteShareGroupOffsetsRequest v T hs_ hc hkey hroom
end Go.Proofs.YtgolpmkenmedoaaGreatDoor.ME