/- The engine, fifth part: slices: elements, parts, append, make, texts. Own work. -/
import Derived.Test.YtbjopfcbpobnpaaMed
import Derived.Laws.MakeOwn
import Derived.Laws.OwnMore
import Derived.Lib.AppendStr
import Derived.Lib.ConvBytes
import Derived.Laws.BytesArg
namespace Go.Proofs.Ytbjopfcbpobnpaa.ME
open Go
set_option linter.unusedVariables false
set_option linter.unusedSimpArgs false

/-- what a slice value names: its cells -/
structure Src (w : World) (A : Option Addr) (m size : Nat) (xs : List Value) : Prop where
  len : xs.length = m * size
  nil : A = none → m = 0
  cells : ∀ ad, A = some ad → ∀ (j : Nat) (u : Value), xs[j]? = some u → w.cell? (ad.add j) = some u
  one : ∀ u ∈ xs, u.oneCell' = true

theorem grown_step {w w' : World} {A : Option Addr} {row : Option Nat} (h : w.grownBy w' row) (hr : row = A.map (·.block)) : Step w w' (Blk A) := by
  refine ⟨h.os, h.output, h.size, fun b hb => ?_⟩
  by_cases hB : A.map (·.block) = some b
  · exact ⟨fun hm => absurd hB (hm 0), fun ⟨o, ho⟩ => absurd hB ho⟩
  · have := h.block b hb (by rw [hr]; exact fun e => hB e.symm)
    rw [this]
    exact Keeps.refl _ _

theorem own_form {w : World} {base e size n : Nat} {v : Value} {xs : List Value} (h : w.ownsRow base e size v n xs) : ∃ A c, v = .slice A n c ∧ (A = none → n = 0 ∧ c = 0) ∧ (∀ ad, A = some ad → ∃ g, ad = ⟨g, 0, none⟩) ∧ n ≤ c := by
  rcases h.2 with ⟨rfl, rfl⟩ | ⟨g, cap, cur, rfl, _, _, hn, _⟩
  · exact ⟨none, 0, rfl, fun _ => ⟨rfl, rfl⟩, fun _ h => by (cases h), Nat.le_refl _⟩
  · exact ⟨some ⟨g, 0, none⟩, cap, rfl, fun h => by (cases h), fun ad h => ⟨g, (Option.some.inj h).symm⟩, hn⟩

theorem own_src {w : World} {base e size n : Nat} {A : Option Addr} {c : Nat} {xs : List Value} (h : w.ownsRow base e size (.slice A n c) n xs) (h1 : ∀ u ∈ xs, u.oneCell' = true) : Src w A n size xs := by
  refine ⟨h.1, fun hA => ?_, fun ad hA j u hu => ?_, h1⟩
  · subst hA
    rcases h.2 with ⟨_, h2⟩ | ⟨g, cap, cur, hv, _⟩
    · exact h2
    · cases hv
  · subst hA
    rcases h.2 with ⟨hv, _⟩ | ⟨g, cap, cur, hv, _⟩
    · cases hv
    · simp only [Value.slice.injEq, Option.some.injEq] at hv
      obtain ⟨rfl, _, _⟩ := hv
      exact h.cells (g := g) rfl j u hu

/-- append onto a row of the call's own -/
theorem app_own {P : Program} {w : World} {t ty e : TypeId} {i : TypeInfo} {z : Value} (ht : P.underlying t = some (.slice e)) (hi : P.info? e = some i) (hz : i.zero = some z) (hzs : z.cells.size = i.size) (hsz : 0 < i.size) (hbp : 0 < i.bytes)
    {A : Option Addr} {n c : Nat} {xs : List Value} (hown : w.ownsRow 0 e i.size (.slice A n c) n xs) {As : Option Addr} {m cs : Nat} {news : List Value} (hs : Src w As m i.size news) (hsv : As = none → cs = 0)
    (hb : (n + m) * i.bytes ≤ 140737488355328) :
    ∃ A' c' w', (Builtin.append_ #[t, t] ty #[.slice A n c, .slice As m cs]).run P w = .ok (.slice A' (n + m) c') w' ∧ w'.ownsRow 0 e i.size (.slice A' (n + m) c') (n + m) (xs ++ news) ∧ Step w w' (Blk A) ∧
      (∀ g, A'.map (·.block) = some g → A.map (·.block) = some g ∨ w.heap.size ≤ g) := by
  have h63 : n + m ≤ maxLen := by
    have := Nat.le_mul_of_pos_right (n + m) hbp
    simp only [maxLen]; omega
  cases As with
  | none =>
    have hm := hs.nil rfl
    have hc := hsv rfl
    subst hm; subst hc
    have hnews : news = [] := List.eq_nil_of_length_eq_zero (by simpa using hs.len)
    subst hnews
    have hr := run_append_owned_none (P := P) (w := w) 0 t ty e i i.size ht hi _ n xs hown
    exact ⟨A, c, w, hr, by simpa using hown, Step.refl _ _, fun g h => .inl h⟩
  | some ad =>
    have hcells := hs.cells ad rfl
    obtain ⟨v', w', hr, h2, h3, h4⟩ := run_append_own (P := P) w 0 t ty e i z i.size i.bytes ht hi hz rfl rfl hzs hsz _ n xs hown ad m cs news hs.len hcells hs.one h63 hb (Nat.zero_le _)
    have hst : Step w w' (Blk A) := grown_step h3 (by cases A <;> rfl)
    have h63' : ((n + m : Nat) : Int) ≤ 9223372036854775807 := by simp only [maxLen] at h63; omega
    rcases hown.2 with ⟨hv, hn⟩ | ⟨g, cap, cur, hv, _, hg, hnc, _, hcs, htake⟩
    · simp only [Value.slice.injEq] at hv
      obtain ⟨rfl, _, rfl⟩ := hv
      subst hn
      by_cases hm : m = 0
      · have hv' := h4.2 ⟨rfl, hm⟩
        subst hv'; subst hm
        exact ⟨none, 0, w', hr, h2, hst, fun g h => by cases h⟩
      · have hr' := run_append_nil (P := P) w t ty e i z ht hi hz ad m cs news hs.len hcells (by omega) (by simpa using h63') (by have hb' := hb; simp only [Nat.zero_add] at hb'; omega)
        rw [hr] at hr'
        simp only [Result.ok.injEq] at hr'
        obtain ⟨rfl, rfl⟩ := hr'
        simp only [Nat.zero_add] at h2 hr ⊢
        refine ⟨_, _, _, hr, h2, hst, fun g h => .inr ?_⟩
        simp only [Option.map_some, Option.some.injEq] at h
        omega
    · simp only [Value.slice.injEq] at hv
      obtain ⟨rfl, _, rfl⟩ := hv
      by_cases hroom : n + m ≤ c
      · have hfit : n * i.size + news.length ≤ cur.size := by rw [hs.len, hcs, ← Nat.add_mul]; exact Nat.mul_le_mul_right _ hroom
        have hr' := run_append_room (P := P) w t ty e i ht hi g n c cur hg ad m cs news hs.len hcells hs.one hroom hfit
        rw [hr] at hr'
        simp only [Result.ok.injEq] at hr'
        obtain ⟨rfl, rfl⟩ := hr'
        exact ⟨_, _, _, hr, h2, hst, fun g h => .inl h⟩
      · have holds : ∀ j u, xs[j]? = some u → w.cell? ((⟨g, 0, none⟩ : Addr).add j) = some u := hown.cells (g := g) rfl
        have hr' := run_append_grow (P := P) w t ty e i z ht hi hz ⟨g, 0, none⟩ n c xs hown.1 holds ad m cs news hs.len hcells (by omega) h63' (growslice_fits (by omega) hb)
        rw [hr] at hr'
        simp only [Result.ok.injEq] at hr'
        obtain ⟨rfl, rfl⟩ := hr'
        refine ⟨_, _, _, hr, h2, hst, fun g h => .inr ?_⟩
        simp only [Option.map_some, Option.some.injEq] at h
        omega

theorem app_string {P : Program} {w : World} {t u ty e : TypeId} {i : TypeInfo} (ht : P.underlying t = some (.slice e)) (hu : P.underlying u = some .string) (hi : P.info? e = some i) (hz : i.zero = some (.int .u8 0)) (hsz : i.size = 1) (hbp : i.bytes = 1)
    {A : Option Addr} {n c : Nat} {xs : List Value} (hown : w.ownsRow 0 e 1 (.slice A n c) n xs) (s : ByteArray) (hb : n + s.size ≤ 140737488355328) :
    ∃ A' c' w', (Builtin.append_ #[t, u] ty #[.slice A n c, .string s]).run P w = .ok (.slice A' (n + s.size) c') w' ∧ w'.ownsRow 0 e 1 (.slice A' (n + s.size) c') (n + s.size) (xs ++ Lib.strCells s) ∧ Step w w' (Blk A) ∧
      (∀ g, A'.map (·.block) = some g → A.map (·.block) = some g ∨ w.heap.size ≤ g) := by
  have h63 : n + s.size ≤ maxLen := by simp only [maxLen]; omega
  obtain ⟨v', w', hr, h2, h3, h4⟩ := Lib.run_append_own_string (P := P) w 0 t u ty e i ht hu hi hz hsz hbp _ n xs hown s h63 hb (Nat.zero_le _)
  have hst : Step w w' (Blk A) := grown_step h3 (by cases A <;> rfl)
  have h63' : ((n + s.size : Nat) : Int) ≤ 9223372036854775807 := by simp only [maxLen] at h63; omega
  rcases hown.2 with ⟨hv, hn⟩ | ⟨g, cap, cur, hv, _, hg, hnc, _, hcs, htake⟩
  · simp only [Value.slice.injEq] at hv
    obtain ⟨rfl, _, rfl⟩ := hv
    subst hn
    by_cases hm : s.size = 0
    · have hv' := h4.2 ⟨rfl, hm⟩
      subst hv'
      rw [hm] at h2 ⊢
      exact ⟨none, 0, w', hr, h2, hst, fun g h => by cases h⟩
    · have hr' := run_append_nil_string (P := P) w t u ty e i _ ht hu hi hz s (by omega) (by simpa using h63') (by rw [hbp]; omega)
      rw [hr] at hr'
      simp only [Result.ok.injEq] at hr'
      obtain ⟨rfl, rfl⟩ := hr'
      simp only [Nat.zero_add] at h2 hr ⊢
      refine ⟨_, _, _, hr, h2, hst, fun g h => .inr ?_⟩
      simp only [Option.map_some, Option.some.injEq] at h
      omega
  · simp only [Value.slice.injEq] at hv
    obtain ⟨rfl, _, rfl⟩ := hv
    by_cases hroom : n + s.size ≤ c
    · have hr' := Lib.run_append_room_string (P := P) w t u ty e i ht hu hi hsz g n c cur hg s hroom (by rw [hcs]; omega)
      rw [hr] at hr'
      simp only [Result.ok.injEq] at hr'
      obtain ⟨rfl, rfl⟩ := hr'
      exact ⟨_, _, _, hr, h2, hst, fun g h => .inl h⟩
    · have holds : ∀ j u, xs[j]? = some u → w.cell? ((⟨g, 0, none⟩ : Addr).add j) = some u := hown.cells (g := g) rfl
      have hr' := Lib.run_append_grow_string (P := P) w t u ty e i _ ht hu hi hz ⟨g, 0, none⟩ n c xs (by rw [hsz]; exact hown.1) holds s (by omega) h63' (by rw [hbp, Nat.mul_one]; have := growslice_fits (need := n + s.size) (old := c) (bytes := 1) (by omega) (by omega); omega)
      rw [hr] at hr'
      simp only [Result.ok.injEq] at hr'
      obtain ⟨rfl, rfl⟩ := hr'
      refine ⟨_, _, _, hr, h2, hst, fun g h => .inr ?_⟩
      simp only [Option.map_some, Option.some.injEq] at h
      omega

/-- the element type of a slice type, its cells, its bytes -/
def rowTy (P : Program) (t : TypeId) : Option (TypeId × Nat × Nat) :=
  match P.underlying t with
  | some (.slice e) => match P.info? e with
    | some i => match i.zero with
      | some z => match Nat.beq z.cells.size i.size, Nat.blt 0 i.size, Nat.blt 0 i.bytes with
        | true, true, true => some (e, i.size, i.bytes)
        | _, _, _ => none
      | none => none
    | none => none
  | _ => none
theorem rowTy_ok {P : Program} {t e : TypeId} {size bytes : Nat} (h : rowTy P t = some (e, size, bytes)) :
    P.underlying t = some (.slice e) ∧ ∃ i z, P.info? e = some i ∧ i.zero = some z ∧ z.cells.size = i.size ∧ i.size = size ∧ i.bytes = bytes ∧ 0 < size ∧ 0 < bytes := by
  unfold rowTy at h
  split at h
  · rename_i e' ht
    split at h
    · rename_i i hi
      split at h
      · rename_i z hz
        split at h
        · rename_i h1 h2 h3
          simp only [Option.some.injEq, Prod.mk.injEq] at h
          obtain ⟨rfl, rfl, rfl⟩ := h
          exact ⟨ht, i, z, hi, hz, Nat.eq_of_beq_eq_true h1, rfl, rfl, by simpa [Nat.blt_eq] using h2, by simpa [Nat.blt_eq] using h3⟩
        · cases h
      · cases h
    · cases h
  · cases h

section
variable {P : Program} {ops : Array Oper} {Q : Exit → Act → World → Prop} {n : Nat} {tb : Tb} {env : Env} {rs : List Rw} {w0 : World} {M : Nat → Nat → Prop} {a : Act} {w : World}

def appE (tb : Tb) (env : Env) (ops : Array Oper) (n i : Nat) : Option (TypeId × TypeId × Value × Value × Nat) :=
  match opAt env ops n i with
  | some (.call c, d) => match c.callee, c.args.toList, c.argTypes.toList with
    | .builtin .append, [s, x], [t, u] => match opd env s, opd env x with
      | some s1, some s2 => some (t, u, s1.val tb, s2.val tb, d)
      | _, _ => none
    | _, _, _ => none
  | _ => none

theorem appE_ok {i d : Nat} {t u : TypeId} {v x : Value} (hE : EnvOk n tb env a) (h : appE tb env ops n i = some (t, u, v, x, d)) :
    ∃ op, opAt env ops n i = some (op, d) ∧ d < n ∧ ∀ (o : Oper) (v' : Value) (w' : World), o.op = op → (Builtin.append_ #[t, u] o.type #[v, x]).run P w = .ok v' w' → (execOp a.eval o).run P w = .ok (.value v') w' := by
  unfold appE at h
  split at h
  · rename_i c d' ho
    split at h
    · rename_i s y t' u' hcal hargs hats
      split at h
      · rename_i s1 s2 hs1 hs2
        simp only [Option.some.injEq, Prod.mk.injEq] at h
        obtain ⟨rfl, rfl, rfl, rfl, rfl⟩ := h
        refine ⟨_, ho, (opAt_ok hE ho).choose_spec.2.2.2.1, fun o v' w' hop hr => ?_⟩
        have h1 := (opd_ok hE hs1).1
        have h2 := (opd_ok hE hs2).1
        have ha := array_two hargs
        have hat := array_two hats
        unfold execOp
        rw [hop]
        simp only [resolve, hcal, ha, hat, invoke, builtin, Sem.run_bind, Sem.run_pure, Result.andThen_ok, List.map_toArray, List.map_cons, List.map_nil, h1, h2, hr]
      · cases h
    · cases h
  · cases h

theorem wpOp_append {i d k : Nat} {t e : TypeId} {size bytes : Nat} {A As : Option Addr} {m0 c m cs : Nat} {xs news : List Value} {N : Act → World → Prop} (hW : WOk w0 M w tb rs) (hE : EnvOk n tb env a)
    (h : appE tb env ops n i = some (t, t, .slice A m0 c, .slice As m cs, d)) (ht : rowTy P t = some (e, size, bytes)) (hk : rs[k]? = some ⟨A, c, e, size, m0, xs⟩)
    (hs : Src w As m size news) (hsv : As = none → cs = 0) (hb : (m0 + m) * bytes ≤ 140737488355328)
    (K : ∀ A' c' a' w', Fr w tb rs w' tb (rs.set k ⟨A', c', e, size, m0 + m, xs ++ news⟩) → WOk w0 M w' tb (rs.set k ⟨A', c', e, size, m0 + m, xs ++ news⟩) →
      EnvOk n tb ((d, .v (.slice A' (m0 + m) c')) :: env) a' → N a' w') : wpOp P ops Q i N a w := by
  obtain ⟨ht', inf, z, hi, hz, hzs, rfl, rfl, hsz, hbp⟩ := rowTy_ok ht
  obtain ⟨op, ho, hd, hrun⟩ := appE_ok (P := P) (w := w) hE h
  obtain ⟨o, h1, h2, h3, h4, h5⟩ := opAt_ok hE ho
  have hown := hW.own k _ hk
  obtain ⟨A', c', w', hr, hown', hst, hnew⟩ := app_own (P := P) (ty := o.type) ht' hi hz hzs hsz hbp hown hs hsv hb
  simp only [wpOp, h1]
  have : Region.wanted o (yielded ops a.tmps) = true := by first | exact h2 | simp [Region.wanted, h2]
  rw [this]
  simp only [if_true]
  refine .inl ?_
  unfold Oper.wp
  rw [hrun o _ _ h5 hr, Oper.upon, h3]
  exact K A' c' _ w' (Fr.grow tb hk hst hnew) (hW.grow hk hst hown' hnew) (hE.put hd (.v _) trivial)

theorem wpOp_appendS {i d k : Nat} {t u e : TypeId} {A : Option Addr} {m0 c : Nat} {xs : List Value} {s : ByteArray} {N : Act → World → Prop} (hW : WOk w0 M w tb rs) (hE : EnvOk n tb env a)
    (h : appE tb env ops n i = some (t, u, .slice A m0 c, .string s, d)) (ht : rowTy P t = some (e, 1, 1)) (hz : (P.info? e).bind (·.zero) = some (.int .u8 0)) (hu : P.underlying u = some .string) (hk : rs[k]? = some ⟨A, c, e, 1, m0, xs⟩)
    (hb : m0 + s.size ≤ 140737488355328)
    (K : ∀ A' c' a' w', Fr w tb rs w' tb (rs.set k ⟨A', c', e, 1, m0 + s.size, xs ++ Lib.strCells s⟩) → WOk w0 M w' tb (rs.set k ⟨A', c', e, 1, m0 + s.size, xs ++ Lib.strCells s⟩) →
      EnvOk n tb ((d, .v (.slice A' (m0 + s.size) c')) :: env) a' → N a' w') : wpOp P ops Q i N a w := by
  obtain ⟨ht', inf, z, hi, hz', hzs, hs1, hb1, hsz, hbp⟩ := rowTy_ok ht
  rw [hi] at hz
  obtain ⟨op, ho, hd, hrun⟩ := appE_ok (P := P) (w := w) hE h
  obtain ⟨o, h1, h2, h3, h4, h5⟩ := opAt_ok hE ho
  have hown := hW.own k _ hk
  obtain ⟨A', c', w', hr, hown', hst, hnew⟩ := app_string (P := P) (ty := o.type) ht' hu hi hz hs1 hb1 hown s hb
  simp only [wpOp, h1]
  have : Region.wanted o (yielded ops a.tmps) = true := by first | exact h2 | simp [Region.wanted, h2]
  rw [this]
  simp only [if_true]
  refine .inl ?_
  unfold Oper.wp
  rw [hrun o _ _ h5 hr, Oper.upon, h3]
  exact K A' c' _ w' (Fr.grow tb hk hst hnew) (hW.grow hk hst hown' hnew) (hE.put hd (.v _) trivial)

/-- a slice literal: its element type, its cells, how many, where it goes -/
def litE (P : Program) (tb : Tb) (env : Env) (ops : Array Oper) (n i : Nat) : Option (TypeId × Nat × Nat × List Value × Nat) :=
  match opAt env ops n i with
  | some (.buildSlice t len parts, d) => match rowTy P t, partsV tb env parts.toList with
    | some (e, size, _), some ps => match P.info? e with
      | some inf => match inf.zero, Nat.ble (len * size) 16777216 with
        | some z, true => match Instr.fill (fun i => some (i * size, size)) ((Array.range (len * size)).map (z.cells[· % z.cells.size]!)) ps with
          | some cs => match Nat.beq cs.size (len * size) with
            | true => some (e, size, len, cs.toList, d)
            | false => none
          | none => none
        | _, _ => none
      | none => none
    | _, _ => none
  | _ => none

theorem litE_ok {i d : Nat} {e : TypeId} {size len : Nat} {cs : List Value} (hE : EnvOk n tb env a) (h : litE P tb env ops n i = some (e, size, len, cs, d)) :
    ∃ op, opAt env ops n i = some (op, d) ∧ d < n ∧ cs.length = len * size ∧ ∀ o : Oper, o.op = op → (execOp a.eval o).run P w = .ok (.value (.slice (some ⟨w.heap.size, 0, none⟩) len len)) (w.alloc (.cells cs.toArray e)) := by
  unfold litE at h
  split at h
  · rename_i t len' parts d' ho
    split at h
    · rename_i e' size' bytes ps ht hps
      split at h
      · rename_i inf hi
        split at h
        · rename_i z hz hle
          split at h
          · rename_i cs' hcs
            split at h
            · rename_i hl
              simp only [Option.some.injEq, Prod.mk.injEq] at h
              obtain ⟨rfl, rfl, rfl, rfl, rfl⟩ := h
              obtain ⟨ht', inf', z', hi', hz', hzs, hs1, hb1, hsz, hbp⟩ := rowTy_ok ht
              have : inf' = inf := by rw [hi] at hi'; exact (Option.some.inj hi').symm
              subst this
              refine ⟨_, ho, (opAt_ok hE ho).choose_spec.2.2.2.1, by simpa using Nat.eq_of_beq_eq_true hl, fun o hop => ?_⟩
              have hp : (parts.map fun (i, x) => (i, a.eval x)) = ps.toArray := by
                apply Array.ext'
                simpa using partsV_ok hE hps
              have hle' : ¬ (len' * size' > 2 ^ 24) := by have := Nat.le_of_ble_eq_true hle; omega
              unfold execOp
              rw [hop]
              simp only [hp]
              unfold Instr.buildSlice
              simp only [Sem.run_bind, run_underlying ht', Result.andThen_ok, run_sizeOf' hi', hs1, if_neg hle', Sem.run_pure]
              by_cases h0 : len' * size' = 0
              · have hzr : ((Array.range (len' * size')).map (z.cells[· % z.cells.size]!)) = ((Array.range (len' * size')).map ((#[] : Array Value)[· % (#[] : Array Value).size]!)) := by rw [h0]; simp
                rw [hzr] at hcs
                simp only [if_pos h0, Sem.run_pure, Result.andThen_ok, hcs, newRow, Sem.run_bind, run_newObj, Array.toArray_toList]
                rfl
              · simp only [if_neg h0, Sem.run_bind, run_zeroValue' hi' hz, Sem.run_pure, Result.andThen_ok, hcs, newRow, run_newObj, Array.toArray_toList]
                rfl
            · cases h
          · cases h
        · cases h
      · cases h
    · cases h
  · cases h

theorem own_lit (w : World) (e : TypeId) (size len : Nat) (cs : List Value) (hl : cs.length = len * size) (hm : len ≤ maxLen) : (w.alloc (.cells cs.toArray e)).ownsRow w.heap.size e size (.slice (some ⟨w.heap.size, 0, none⟩) len len) len cs := by
  refine ⟨hl, .inr ⟨w.heap.size, len, cs.toArray, rfl, Nat.le_refl _, heap_new w _, Nat.le_refl _, hm, by simpa using hl, ?_⟩⟩
  rw [← hl]
  simp

/-- a slice literal that stays: a new row -/
theorem wpOp_lit {i d : Nat} {e : TypeId} {size len : Nat} {cs : List Value} {N : Act → World → Prop} (hW : WOk w0 M w tb rs) (hE : EnvOk n tb env a) (h : litE P tb env ops n i = some (e, size, len, cs, d)) (hm : Nat.ble len 1000000 = true)
    (K : ∀ b a' w', b = w.heap.size → w0.heap.size ≤ b → Fr w tb rs w' tb (rs ++ [⟨some ⟨b, 0, none⟩, len, e, size, len, cs⟩]) → WOk w0 M w' tb (rs ++ [⟨some ⟨b, 0, none⟩, len, e, size, len, cs⟩]) →
      EnvOk n tb ((d, .v (.slice (some ⟨b, 0, none⟩) len len)) :: env) a' → N a' w') : wpOp P ops Q i N a w := by
  obtain ⟨op, ho, hd, hl, hrun⟩ := litE_ok (P := P) (w := w) hE h
  have hm' : len ≤ maxLen := by have := Nat.le_of_ble_eq_true hm; simp only [maxLen]; omega
  have hown := own_lit w e size len cs hl hm'
  refine wpOp_value hE ho hrun ?_
  exact K w.heap.size _ _ rfl hW.step.size (Fr.fresh tb rs (Step.alloc _ _) _ (Nat.le_refl _) hown) (hW.fresh (Step.alloc _ _) _ (Nat.le_refl _) hown) (hE.put hd (.v _) trivial)

/-- 'append(row, x, y ..)' -/
theorem wpOps_push {i j d1 d k : Nat} {t e : TypeId} {size bytes len : Nat} {A : Option Addr} {m0 c : Nat} {xs cs : List Value} {rest : List Nat} (hW : WOk w0 M w tb rs) (hE : EnvOk n tb env a)
    (h1 : litE P tb env ops n i = some (e, size, len, cs, d1)) (ht : rowTy P t = some (e, size, bytes))
    (h2 : ∀ b, appE tb ((d1, .v (.slice (some ⟨b, 0, none⟩) len len)) :: env) ops n j = some (t, t, .slice A m0 c, .slice (some ⟨b, 0, none⟩) len len, d))
    (hk : rs[k]? = some ⟨A, c, e, size, m0, xs⟩) (hone : allOne cs = true) (hb : (m0 + len) * bytes ≤ 140737488355328)
    (K : ∀ A' c' a' w', Fr w tb rs w' tb (rs.set k ⟨A', c', e, size, m0 + len, xs ++ cs⟩) → WOk w0 M w' tb (rs.set k ⟨A', c', e, size, m0 + len, xs ++ cs⟩) →
      (∃ b, EnvOk n tb ((d, .v (.slice A' (m0 + len) c')) :: (d1, .v (.slice (some ⟨b, 0, none⟩) len len)) :: env) a') → wpOps P ops Q rest a' w') : wpOps P ops Q (i :: j :: rest) a w := by
  obtain ⟨op, ho, hd, hl, hrun⟩ := litE_ok (P := P) (w := w) hE h1
  rw [wpOps_cons]
  refine wpOp_value hE ho hrun ?_
  rw [wpOps_cons]
  have hF1 : Fr w tb rs (w.alloc (.cells cs.toArray e)) tb rs := Fr.nil tb rs (Step.alloc _ _)
  have hW1 := hW.next_nil (Step.alloc w (.cells cs.toArray e))
  have hE1 := hE.put hd (.v (.slice (some ⟨w.heap.size, 0, none⟩) len len)) trivial
  have hs : Src (w.alloc (.cells cs.toArray e)) (some ⟨w.heap.size, 0, none⟩) len size cs := by
    refine ⟨hl, fun h => by (cases h), fun ad hA q u hu => ?_, allOne_ok hone⟩
    simp only [Option.some.injEq] at hA
    subst hA
    rw [add_none, Nat.zero_add, cell_alloc_new]
    simpa using hu
  refine wpOp_append hW1 hE1 (h2 w.heap.size) ht hk hs (fun h => by cases h) hb fun A' c' a' w' hF hW' hE' => ?_
  exact K A' c' a' w' (hF1.trans hF) hW' ⟨w.heap.size, hE'⟩
end

end Go.Proofs.Ytbjopfcbpobnpaa.ME
