/- Appending code: calls whose slice stands anywhere among the arguments; words for the package's messages. Own work. -/
import Derived.Test.YtbjopfcbpobnpaaTf
namespace Go.Proofs.Ytbjopfcbpobnpaa.ME
open Go
open Go.RowKit
set_option linter.unusedVariables false
set_option linter.unusedSimpArgs false
set_option maxRecDepth 20000

theorem AtF.one {w : World} {F : Nat → Nat → Prop} {b o : Nat} {cs : List Value} (h : AtF w F b o cs) (k : Nat) {v : Value} (hk : cs[k]? = some v) : AtF w F b (o + k) [v] := fun j x hj => by
  have hj0 : j = 0 := by
    have := (List.getElem?_eq_some_iff.1 hj).1
    simp at this; omega
  subst hj0
  simp only [List.getElem?_cons_zero, Option.some.injEq] at hj
  subst hj
  exact h k _ hk
theorem AtF.base {w : World} {F : Nat → Nat → Prop} {b : Nat} {cs : List Value} {o o' : Nat} (h : AtF w F b o cs) (e : o = o') : AtF w F b o' cs := e ▸ h

section
variable {P : Program} {n : Nat} {w0 : World} {A0 : Option Addr} {e8 d : Nat} {tb : Tb} {env e1 env' : Env} {c c1 c2 : Code} {x x1 x2 y : Bs}
theorem ch_callG {id : Nat} {ops : Array Oper} (i : Nat) (keys : List Nat) {f : FuncId} (args : Value → List Value)
    (h : ∀ A m cp A' m' cp', callP P ops n tb i (d :: keys) ((d, .v (.slice A m cp)) :: env) (.slice A' m' cp') = some ((f, args (.slice A m cp)), (d, .v (.slice A' m' cp')) :: env'))
    (hi : Nat.blt i ops.size = true) (hf : ∀ args w, (callFunc f args).run P w = .ok (.enter f args) w)
    (hc : ∀ (A : Option Addr) (cp : Nat) (s : Bs) (w : World), Step w0 w (Blk A0) → Near w0 A0 A → w.ownsRow 0 e8 1 (.slice A s.length cp) s.length (bc s) → s.length + x.length + 16 ≤ 1099511627776 → Calls P f (args (.slice A s.length cp)).toArray w (AppPost w e8 A (s ++ x))) :
    Ch P n w0 A0 e8 d tb env env' (.region id ops false) x := fun Q A cp s a w hE hW hr k => by
  have hi' : i < ops.size := by simpa [Nat.blt_eq] using hi
  obtain ⟨e, t, h1, h2, _⟩ := callP_ok (h A s.length cp none 0 0)
  refine go_region (List.range i ++ i :: upto (i + 1) ops.size) (by rw [← upto_split hi']; rfl) ?_
  refine wpOps_runs hW.cells hE h1 fun a1 hE1 => of_op (wpOp_call hE1 h2 hf (hc A cp s w hW.step (near_of hW) (hW.own 0 _ rfl) hr) ?_)
  rintro e_ w' ⟨A', c', rfl, ho, hs, hn⟩
  refine ⟨_, rfl, fun a2 hE2 => ?_⟩
  obtain ⟨e', t', g1, g2, g3⟩ := callP_ok (h A s.length cp A' (s ++ x).length c')
  rw [h1] at g1
  obtain rfl := Option.some.inj g1
  rw [h2] at g2
  simp only [Option.some.injEq, Prod.mk.injEq, true_and] at g2
  subst g2
  have hW' : WOk w0 (Blk A0) w' tb [brow A' c' e8 (s ++ x)] := hW.grow (k := 0) rfl hs ho hn
  refine go_runs (upto (i + 1) ops.size) [] (d :: keys) hW' hE2 g3 (List.append_nil _).symm fun a3 hE3 => wpOps_nil ?_
  exact k A' c' a3 w' hE3 hW'
/-- an 'if' with one arm -/
theorem ch_when {o : Operand} {b : Bool} (hb : ∀ A m cp, opd ((d, .v (.slice A m cp)) :: env) o = some (.v (.bool b))) (h1 : b = true → Ch P n w0 A0 e8 d tb env env' c1 x) (h2 : b = false → Ch P n w0 A0 e8 d tb env env' c2 []) :
    Ch P n w0 A0 e8 d tb env env' (.cond o c1 c2) (if b = true then x else []) :=
  ch_cond hb (fun h => ch_eq (h1 h) (by rw [if_pos h])) (fun h => ch_eq (h2 h) (by rw [if_neg (by rw [h]; decide)]))
theorem ch_pick (keys : List Nat) (h : ∀ A m cp, pick ((d, .v (.slice A m cp)) :: env) (d :: keys) = some ((d, .v (.slice A m cp)) :: e1)) (hc : Ch P n w0 A0 e8 d tb e1 env' c x) : Ch P n w0 A0 e8 d tb env env' c x := fun Q A cp s a w hE hW hr k =>
  hc Q A cp s a w (hE.pick (h _ _ _)) hW hr k
theorem ch_drop (keys : List Nat) (h : ∀ A m cp, pick ((d, .v (.slice A m cp)) :: e1) (d :: keys) = some ((d, .v (.slice A m cp)) :: env')) (hc : Ch P n w0 A0 e8 d tb env e1 c x) : Ch P n w0 A0 e8 d tb env env' c x := fun Q A cp s a w hE hW hr k =>
  hc Q A cp s a w hE hW hr fun A' cp' a' w' hE' hW' => k A' cp' a' w' (hE'.pick (h _ _ _)) hW'
end

/-- tags by rising number -/
def Sorted (u : List (Int × Bs)) : Prop := u.Pairwise fun x y => x.1 < y.1
theorem setT_next {u : List (Int × Bs)} {j : Nat} {k : Int} {s : Bs} (h : Sorted u) (hj : u[j]? = some (k, s)) : setT (u.take j) k s = u.take (j + 1) := by
  obtain ⟨hlt, he⟩ := List.getElem?_eq_some_iff.1 hj
  rw [setT_last, List.take_add_one, hj]
  · rfl
  · intro x hx
    obtain ⟨i, hi⟩ := List.getElem?_of_mem hx
    rw [List.getElem?_take] at hi
    split at hi
    · rename_i hij
      obtain ⟨hi1, hi2⟩ := List.getElem?_eq_some_iff.1 hi
      have := List.pairwise_iff_getElem.1 h i j hi1 hlt hij
      rw [hi2, he] at this
      exact this
    · cases hi
theorem fresh_of_app {w w' : World} {e : Nat} {s : Bs} {en : Ending} {w2 : World} (hs : Step w w' Nil) (h : AppPost w' e none s en w2) : FreshB w e s en w2 := by
  obtain ⟨A', c', h1, h2, h3, h4⟩ := h
  refine ⟨A', c', h1, ?_, hs.trans h3 fun b o _ h => by cases h⟩
  refine ⟨h2.1, ?_⟩
  rcases h2.2 with h5 | ⟨g, cap, cur, hv, _, hg, hr⟩
  · exact .inl h5
  · refine .inr ⟨g, cap, cur, hv, ?_, hg, hr⟩
    have : A' = some ⟨g, 0, none⟩ := by injection hv
    rcases h4 g (by rw [this]; rfl) with h6 | h6
    · cases h6
    · exact Nat.le_trans hs.size h6
theorem wrap_u32_len (m : Nat) (h : m ≤ 1000000) : IntKind.u32.wrap (0 + IntKind.u32.wrap ((m : Nat) : Int)) = ((m : Nat) : Int) := by simp only [wrap_u32]; omega

end Go.Proofs.Ytbjopfcbpobnpaa.ME
