/- Maps of tags: what the operations do. Own work. -/
import Derived.Test.YtbjopfcbpobnpaaCj
import Derived.Maps.RangeRun
namespace Go.Proofs.Ytbjopfcbpobnpaa.ME
open Go
open Go.RowKit
open Go.ChangeMaps (setBlock)
set_option linter.unusedVariables false
set_option linter.unusedSimpArgs false

section
variable {P : Program} {ops : Array Oper} {Q : Exit → Act → World → Prop} {n : Nat} {tb : Tb} {env : Env} {rs : List Rw} {w0 : World} {M : Nat → Nat → Prop} {a : Act} {w : World} {F : Nat → Nat → Prop}

def mapTy (P : Program) (t : TypeId) : Option (TypeId × TypeId) := match P.underlying t with
  | some (.map k e) => some (k, e)
  | _ => none
theorem mapTy_ok {t k e : TypeId} (h : mapTy P t = some (k, e)) : P.underlying t = some (.map k e) := by
  unfold mapTy at h
  split at h
  · simp only [Option.some.injEq, Prod.mk.injEq] at h
    obtain ⟨rfl, rfl⟩ := h
    assumption
  · cases h
theorem run_getObj' {r : Nat} {es : Array MapEntry} {clk : Nat} (h : w.heap[r]? = some (.map es clk)) : (getObj r).run P w = .ok (.map es clk) w := MapKept.run_getObj_map h

/-- how many entries -/
def lenME (env : Env) (ops : Array Oper) (n i : Nat) : Option (TypeId × Option Nat × Nat) :=
  match opAt env ops n i with
  | some (.call c, d) => match c.callee, c.args.toList, c.argTypes.toList with
    | .builtin .len, [x], [t] => match opd env x with
      | some (.v (.map m)) => some (t, m, d)
      | _ => none
    | _, _, _ => none
  | _ => none
theorem wpOp_lenM {i d : Nat} {t kt et : TypeId} {m : Option Nat} {u : List (Int × Bs)} {N : Act → World → Prop} (hE : EnvOk n tb env a) (h : lenME env ops n i = some (t, m, d)) (ht : mapTy P t = some (kt, et)) (hm : MapR w F m u)
    (K : ∀ a', EnvOk n tb ((d, .v (.int .i64 ((u.length : Nat) : Int))) :: env) a' → N a' w) : wpOp P ops Q i N a w := by
  unfold lenME at h
  split at h
  · rename_i c d' ho
    split at h
    · rename_i x t' hcal hargs hats
      split at h
      · rename_i m' hs
        simp only [Option.some.injEq, Prod.mk.injEq] at h
        obtain ⟨rfl, rfl, rfl⟩ := h
        have hd := (opAt_ok hE ho).choose_spec.2.2.2.1
        refine wpOp_value hE ho (v := .int .i64 ((u.length : Nat) : Int)) (w' := w) ?_ (K _ (hE.put hd (.v _) trivial))
        intro o hop
        have hx := (opd_ok hE hs).1
        have ha := toList_one hargs
        have hat := toList_one hats
        unfold execOp
        rw [hop]
        cases m' with
        | none =>
          obtain rfl := hm.none_ rfl
          simp [resolve, hcal, ha, hat, invoke, builtin, Builtin.len_, hx, SV.val, run_underlying (mapTy_ok ht), goInt]
        | some r =>
          obtain ⟨_, es, clk, h2, h3, _⟩ := hm.some_ r rfl
          simp [resolve, hcal, ha, hat, invoke, builtin, Builtin.len_, hx, SV.val, run_underlying (mapTy_ok ht), goInt, run_getObj' h2, MapR.size (w := w) (F := F) h3]
      · cases h
    · cases h
  · cases h

/-- where a key stands -/
theorem findNow_int {k : Int} : ∀ (es : List MapEntry) (i : Nat), (∀ e ∈ es, ∃ q, e.key = .int .u32 q) →
    (Instr.findNow (.int .u32) (.int .u32 k) es i = some none ∧ ∀ e ∈ es, e.key ≠ .int .u32 k) ∨ ∃ j e, es[j]? = some e ∧ e.key = .int .u32 k ∧ Instr.findNow (.int .u32) (.int .u32 k) es i = some (some (i + j, e.val)) ∧ ∀ j' e', j' < j → es[j']? = some e' → e'.key ≠ .int .u32 k
  | [], i, _ => .inl ⟨rfl, fun e h => by cases h⟩
  | e :: r, i, h => by
    obtain ⟨q, hq⟩ := h e (List.mem_cons_self ..)
    unfold Instr.findNow
    rw [hq]
    by_cases hk : k = q
    · subst hk
      refine .inr ⟨0, e, rfl, hq, ?_, fun j' e' hj => by omega⟩
      simp [Instr.sameNow]
    · have hs : Instr.sameNow (.int .u32) (.int .u32 k) (.int .u32 q) = some false := by simp [Instr.sameNow, hk]
      rw [hs]
      dsimp only
      rcases findNow_int r (i + 1) (fun e' he' => h e' (List.mem_cons_of_mem _ he')) with ⟨h1, h2⟩ | ⟨j, e1, h1, h2, h3, h4⟩
      · refine .inl ⟨h1, fun e' he' => ?_⟩
        rcases List.mem_cons.1 he' with rfl | he'
        · rw [hq]; intro e2; exact hk (by injection e2 with _ e3; exact e3.symm)
        · exact h2 e' he'
      · refine .inr ⟨j + 1, e1, by simpa using h1, h2, by rw [h3]; congr 3; omega, fun j' e' hj he' => ?_⟩
        cases j' with
        | zero =>
          simp only [List.getElem?_cons_zero, Option.some.injEq] at he'
          subst he'
          rw [hq]; intro e2; exact hk (by injection e2 with _ e3; exact e3.symm)
        | succ j' => exact h4 j' e' (by omega) (by simpa using he')
theorem checkKey_int {b : Bool} {kt : TypeId} {k : Int} (hk : P.underlying kt = some (.int .u32)) : (Instr.checkKey b 10000 kt (.int .u32 k)).run P w = .ok () w := by
  show (Instr.checkKey b (9999 + 1) kt (.int .u32 k)).run P w = .ok () w
  generalize 9999 = d
  unfold Instr.checkKey
  simp [run_underlying hk]
theorem findKey_int {kt : TypeId} {k : Int} {es : List MapEntry} {x : Option (Nat × Value)} (hk : P.underlying kt = some (.int .u32)) (h : Instr.findNow (.int .u32) (.int .u32 k) es 0 = some x) : (Instr.findKey kt (.int .u32 k) es).run P w = .ok x w := by
  unfold Instr.findKey
  simp [run_underlying hk, h]

/-- an element looked up -/
def lookE (env : Env) (ops : Array Oper) (n i : Nat) : Option (TypeId × Option Nat × Int × Nat) :=
  match opAt env ops n i with
  | some (.lookup t x y false, d) => match opd env x, opd env y with
    | some (.v (.map m)), some (.v (.int .u32 k)) => some (t, m, k, d)
    | _, _ => none
  | _ => none
theorem wpOp_look {i d : Nat} {t kt et : TypeId} {m : Option Nat} {u : List (Int × Bs)} {k : Int} {s : Bs} {N : Act → World → Prop} (hE : EnvOk n tb env a) (h : lookE env ops n i = some (t, m, k, d)) (ht : mapTy P t = some (kt, et)) (hkt : P.underlying kt = some (.int .u32)) (hm : MapR w F m u) (hk : (k, s) ∈ u)
    (K : ∀ a' A c, Octs w F A c s → EnvOk n tb ((d, .v (.slice A s.length c)) :: env) a' → N a' w) : wpOp P ops Q i N a w := by
  unfold lookE at h
  split at h
  · rename_i t' x y d' ho
    split at h
    · rename_i m' k' hs1 hs2
      simp only [Option.some.injEq, Prod.mk.injEq] at h
      obtain ⟨rfl, rfl, rfl, rfl⟩ := h
      have hd := (opAt_ok hE ho).choose_spec.2.2.2.1
      cases m' with
      | none => rw [hm.none_ rfl] at hk; cases hk
      | some r =>
        obtain ⟨_, es, clk, h2, h3, h6, h7, h5⟩ := hm.some_ r rfl
        have hkeys : ∀ e ∈ es.toList, ∃ q, e.key = .int .u32 q := fun e he => by
          obtain ⟨q, _, _, _, h, _⟩ := h5 e he; exact ⟨q, h⟩
        have hthere : ∃ e ∈ es.toList, e.key = .int .u32 k' := by
          have : Value.int .u32 k' ∈ es.toList.map (·.key) := h3.mem_iff.2 (List.mem_map.2 ⟨_, hk, rfl⟩)
          exact List.mem_map.1 this
        obtain ⟨e0, he0, hke0⟩ := hthere
        rcases findNow_int (k := k') es.toList 0 hkeys with ⟨_, hn⟩ | ⟨j, e, g1, g2, g3, _⟩
        · exact absurd hke0 (hn e0 he0)
        · obtain ⟨q, s', A, c, f1, f2, f3, f4⟩ := h5 e (List.mem_of_getElem? g1)
          have hq : q = k' := by rw [g2] at f1; injection f1 with _ e3; exact e3.symm
          subst hq
          have hs : s' = s := by
            have hp := hm.sorted
            obtain ⟨i1, hi1⟩ := List.getElem?_of_mem f4
            obtain ⟨i2, hi2⟩ := List.getElem?_of_mem hk
            rcases Nat.lt_trichotomy i1 i2 with hlt | rfl | hlt
            · have h1 := List.getElem?_eq_some_iff.1 hi1
              have h2' := List.getElem?_eq_some_iff.1 hi2
              have := List.pairwise_iff_getElem.1 hp i1 i2 h1.1 h2'.1 hlt
              rw [h1.2, h2'.2] at this; exact absurd this (Int.lt_irrefl _)
            · rw [hi1] at hi2; injection Option.some.inj hi2
            · have h1 := List.getElem?_eq_some_iff.1 hi1
              have h2' := List.getElem?_eq_some_iff.1 hi2
              have := List.pairwise_iff_getElem.1 hp i2 i1 h2'.1 h1.1 hlt
              rw [h1.2, h2'.2] at this; exact absurd this (Int.lt_irrefl _)
          subst hs
          refine wpOp_value hE ho (v := .slice A s'.length c) (w' := w) ?_ (K _ A c f3 (hE.put hd (.v _) trivial))
          intro o hop
          unfold execOp
          rw [hop]
          simp only [(opd_ok hE hs1).1, (opd_ok hE hs2).1, SV.val]
          unfold Instr.lookup
          simp [run_underlying (mapTy_ok ht), run_getObj' h2, checkKey_int hkt, findKey_int hkt g3, f2]
    · cases h
  · cases h
end

end Go.Proofs.Ytbjopfcbpobnpaa.ME
