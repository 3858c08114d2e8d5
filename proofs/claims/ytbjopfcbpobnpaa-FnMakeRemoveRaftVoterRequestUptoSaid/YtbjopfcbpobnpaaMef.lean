/- The engine, sixth part: regions whose order is drawn; elements of slices; parts of slices; texts; make; loops. Own work. -/
import Derived.Test.YtbjopfcbpobnpaaMee
namespace Go.Proofs.Ytbjopfcbpobnpaa.ME
open Go
set_option linter.unusedVariables false
set_option linter.unusedSimpArgs false

section
variable {P : Program} {ops : Array Oper} {Q : Exit → Act → World → Prop} {n : Nat} {tb : Tb} {env : Env} {rs : List Rw} {w0 : World} {M : Nat → Nat → Prop} {a : Act} {w : World} {T : World → Prop} {c : Nat}

theorem of_op {i : Nat} {rest : List Nat} (h : wpOp P ops Q i (wpOps P ops Q rest) a w) : wpOps P ops Q (i :: rest) a w := by
  rw [wpOps_cons]; exact h

/-- operation c waits for operation i by an edge of its own (or c is none of them) -/
def waits (ops : Array Oper) (c i : Nat) : Bool :=
  Nat.ble ops.size c || ((!Nat.beq c i) && (match ops.toList[c]? with
  | some o => o.after.toList.any fun e => Region.binds .any e && Nat.beq e.on i
  | none => false))

/-- whatever order is drawn; behind every operation but c, T holds -/
def wpAnyC (P : Program) (ops : Array Oper) (Q : Exit → Act → World → Prop) (T : World → Prop) (c : Nat) : Nat → Array Bool → Act → World → Prop
  | 0, listed, a, w => Region.ready .any ops listed = [] ∧ Q .normal a w
  | fuel + 1, listed, a, w =>
    (Region.ready .any ops listed = [] → Q .normal a w) ∧
    ∀ i ∈ Region.ready .any ops listed, wpOp P ops Q i (fun a' w' => (i ≠ c → T w') ∧ wpAnyC P ops Q T c fuel (listed.setIfInBounds i true) a' w') a w

theorem wpAny_ofC : ∀ (fuel : Nat) (listed : Array Bool) (a : Act) (w : World), wpAnyC P ops Q T c fuel listed a w → wpAny P .any ops Q fuel listed a w
  | 0, _, _, _, h => h
  | fuel + 1, _, _, _, h => ⟨h.1, fun i hi => wpOp_mono (fun a' w' h' => wpAny_ofC fuel _ a' w' h'.2) (h.2 i hi)⟩

theorem waits_spec {i : Nat} (h : waits ops c i = true) (hc : c < ops.size) : c ≠ i ∧ ∃ o, ops[c]? = some o ∧ ∃ e ∈ o.after, Region.binds .any e = true ∧ e.on = i := by
  unfold waits at h
  have h1 : Nat.ble ops.size c = false := by
    cases hb : Nat.ble ops.size c with
    | false => rfl
    | true => have := Nat.le_of_ble_eq_true hb; omega
  rw [h1, Bool.false_or, Bool.and_eq_true] at h
  obtain ⟨h2, h3⟩ := h
  refine ⟨fun e => ?_, ?_⟩
  · subst e; simp [Nat.beq_refl] at h2
  · split at h3
    · rename_i o ho
      refine ⟨o, by simpa using ho, ?_⟩
      obtain ⟨e, he, hb⟩ := List.any_eq_true.1 h3
      rw [Bool.and_eq_true] at hb
      exact ⟨e, by simpa using he, hb.1, Nat.eq_of_beq_eq_true hb.2⟩
    · cases h3

theorem anyC_first {i : Nat} {oi : Oper} {v : Value} (hi : ops[i]? = some oi) (hsel : ∀ (j : Nat) (o : Oper) cs b, ops[j]? = some o → o.op ≠ .select cs b)
    (hQ : ∀ ch a w, Q (.panic ch) (a.put oi.dst v) w → Q (.panic ch) a w) (hw : waits ops c i = true) :
    ∀ (fuel : Nat) (listed : Array Bool) (a : Act) (w : World),
      (∀ j oj, ops[j]? = some oj → j ≠ i → listed.getD j true = false → (∀ e ∈ oj.after, Region.binds .any e = true → e.on ≠ i) → oi.apart ops oj = true) →
      i ∈ Region.ready .any ops listed → YieldsIf P ops T oi v a → T w →
      wpAnyC P ops Q T c fuel (listed.setIfInBounds i true) (a.put oi.dst v) w → wpAnyC P ops Q T c (fuel + 1) listed a w := by
  intro fuel
  induction fuel with
  | zero =>
    intro listed a w _ hr hy hT H
    refine ⟨fun h => (by rw [h] at hr; cases hr), fun j hj => ?_⟩
    by_cases hji : j = i
    · subst hji; exact hy.wpOp hi hT ⟨fun _ => hT, H⟩
    · have := ready_mono hj hji
      rw [H.1] at this
      cases this
  | succ fuel ih =>
    intro listed a w hfree hr hy hT H
    refine ⟨fun h => (by rw [h] at hr; cases hr), fun j hj => ?_⟩
    by_cases hji : j = i
    · subst hji; exact hy.wpOp hi hT ⟨fun _ => hT, H⟩
    · have h1 := H.2 j (ready_mono hj hji)
      obtain ⟨hjun, oj, hoj, hall⟩ := mem_ready.1 hj
      have hnot : ∀ e ∈ oj.after, Region.binds .any e = true → e.on ≠ i := fun e he hb heq => by
        have h1 := hall e he hb
        have h0 := (mem_ready.1 hr).1
        rw [heq] at h1
        rcases Nat.lt_or_ge i listed.size with h' | h'
        · simp [h'] at h0 h1; rw [h0] at h1; cases h1
        · simp [Array.getElem?_eq_none h'] at h1
      have hjc : j ≠ c := by
        intro e
        subst e
        have hlt : j < ops.size := (Array.getElem?_eq_some_iff.1 hoj).1
        obtain ⟨_, o, ho, ed, hed, hb, hon⟩ := waits_spec hw hlt
        rw [hoj] at ho
        obtain rfl := Option.some.inj ho
        exact hnot ed hed hb hon
      have h2 := wpOp_putIf hoj (hfree j oj hoj hji hjun hnot) (fun cs b => hsel i oi cs b hi) (fun cs b => hsel j oj cs b hoj) hQ hy h1
      have hfree' : ∀ k ok, ops[k]? = some ok → k ≠ i → (listed.setIfInBounds j true).getD k true = false →
          (∀ e ∈ ok.after, Region.binds .any e = true → e.on ≠ i) → oi.apart ops ok = true := fun k ok hk hki hun hno => by
        refine hfree k ok hk hki ?_ hno
        by_cases hjk : j = k
        · subst hjk; exact hjun
        · rw [getD_set_ne true hjk] at hun; exact hun
      refine wpOp_mono (fun a' w' h3 => ⟨h3.2.1, ih (listed.setIfInBounds j true) a' w' hfree' (ready_mono hr (Ne.symm hji)) h3.1 (h3.2.1 hjc) ?_⟩) h2
      rw [Array.setIfInBounds_comm _ _ hji]
      exact h3.2.2

/-- Q says the same of a panic whatever the slots -/
def PanicFree (Q : Exit → Act → World → Prop) : Prop := ∀ (ch : List PanicEntry) (a : Act) (d : Option Tmp) (v : Value) (w : World), Q (.panic ch) (a.put d v) w → Q (.panic ch) a w

theorem anyC_take {i : Nat} {oi : Oper} {v : Value} {fuel : Nat} {listed : Array Bool} (hi : ops[i]? = some oi) (hns : Region.noSelect ops = true) (hf : Region.free .any ops listed i = true) (hr : (Region.ready .any ops listed).contains i = true) (hw : waits ops c i = true)
    (hQ : PanicFree Q) (hy : YieldsIf P ops T oi v a) (hT : T w) (h : wpAnyC P ops Q T c fuel (listed.setIfInBounds i true) (a.put oi.dst v) w) : wpAnyC P ops Q T c (fuel + 1) listed a w :=
  anyC_first hi (Region.noSelect_spec hns) (fun ch a w => hQ ch a oi.dst v w) hw fuel listed a w (Region.free_spec hi hf) (by simpa using hr) hy hT h

/-- these may be taken first, one behind the other -/
def takes (ops : Array Oper) (c : Nat) : List Nat → Array Bool → Bool
  | [], _ => true
  | i :: r, listed => Region.free .any ops listed i && (Region.ready .any ops listed).contains i && waits ops c i && takes ops c r (listed.setIfInBounds i true)
def lists : List Nat → Array Bool → Array Bool
  | [], l => l
  | i :: r, l => lists r (l.setIfInBounds i true)

theorem anyC_runs (hns : Region.noSelect ops = true) (hQ : PanicFree Q) (hTc : ∀ w', T w' → CellsOk w' tb) (hT : T w) : ∀ {idxs : List Nat} {fuel : Nat} {listed : Array Bool} {env env' : Env} {a : Act}, EnvOk n tb env a → takes ops c idxs listed = true → runs P ops n tb idxs env = some env' →
    (∀ a', EnvOk n tb env' a' → wpAnyC P ops Q T c fuel (lists idxs listed) a' w) → wpAnyC P ops Q T c (idxs.length + fuel) listed a w
  | [], fuel, listed, env, env', a, h, _, e, k => by
    simp only [runs, Option.some.injEq] at e
    subst e
    simpa [lists] using k a h
  | i :: r, fuel, listed, env, env', a, h, ht, e, k => by
    simp only [takes, Bool.and_eq_true] at ht
    obtain ⟨⟨⟨hf, hr⟩, hw⟩, ht'⟩ := ht
    simp only [runs] at e
    rw [show (i :: r).length + fuel = (r.length + fuel) + 1 by simp; omega]
    split at e
    · cases e
    · rename_i o ho
      have ho' : ops[i]? = some o := by simpa using ho
      split at e
      · cases e
      · rename_i d hd
        split at e
        · cases e
        · rename_i hlt
          have hlt' : d < n := by simpa [Nat.blt_eq] using hlt
          split at e
          · rename_i hg
            split at e
            · rename_i s hs
              have hok := (run1_ok h hs (hTc w hT)).2
              refine anyC_take ho' hns hf hr hw hQ (v := s.val tb) (.inl ⟨guardE_ok h hg, fun w' hw' => (run1_ok h hs (hTc w' hw')).1⟩) hT ?_
              rw [hd]
              exact anyC_runs hns hQ hTc hT (h.put hlt' s hok) ht' e k
            · cases e
          · rename_i hg
            refine anyC_take ho' hns hf hr hw hQ (v := undef) (.inr ⟨guardE_ok h hg, rfl⟩) hT ?_
            rw [hd]
            exact anyC_runs hns hQ hTc hT (h.put hlt' (.v undef) trivial) ht' e k
          · cases e

theorem anyC_op {i fuel : Nat} {listed : Array Bool} (hr : Region.ready .any ops listed = [i]) (h : wpOp P ops Q i (fun a' w' => (i ≠ c → T w') ∧ wpAnyC P ops Q T c fuel (listed.setIfInBounds i true) a' w') a w) : wpAnyC P ops Q T c (fuel + 1) listed a w := by
  refine ⟨fun h0 => (by rw [hr] at h0; cases h0), fun j hj => ?_⟩
  rw [hr] at hj
  obtain rfl := List.mem_singleton.1 hj
  exact h
theorem anyC_done {listed : Array Bool} (hr : Region.ready .any ops listed = []) (h : Q .normal a w) : ∀ fuel, wpAnyC P ops Q T c fuel listed a w
  | 0 => ⟨hr, h⟩
  | _ + 1 => ⟨fun _ => h, by rw [hr]; simp⟩
theorem region_draw {id : Nat} (T : World → Prop) (c : Nat) (hm : P.follows .mixedOrders = true) (h : wpAnyC P ops Q T c ops.size (Array.replicate ops.size false) a w.drew) : (Code.region id ops true).wp P Q a w :=
  wp_region_any hm (wpAny_ofC _ _ _ _ h)
theorem WOk.drew (hW : WOk w0 M w tb rs) : WOk w0 M w.drew tb rs := hW.next_nil (Step.drew w)
theorem Fr.drew (w : World) (tb : Tb) (rs : List Rw) : Fr w tb rs w.drew tb rs := Fr.nil tb rs (Step.drew w)

theorem panicFree_then {N : Act → World → Prop} (h : PanicFree Q) : PanicFree (Exit.then N Q) := fun ch a d v w hq => h ch a d v w hq
theorem panicFree_block {id : Nat} (h : PanicFree Q) : PanicFree (Exit.inBlock id Q) := fun ch a d v w hq => h ch a d v w hq

/-! elements -/
def idxE (tb : Tb) (env : Env) (ops : Array Oper) (n i : Nat) : Option (TypeId × Option Addr × Nat × Int × Nat) :=
  match opAt env ops n i with
  | some (.indexAddr t x y, d) => match opd env x, opd env y with
    | some (.v (.slice A m _)), some (.v (.int _ q)) => some (t, A, m, q, d)
    | _, _ => none
  | _ => none

theorem run_indexAt {t e : TypeId} {size bytes : Nat} (ht : rowTy P t = some (e, size, bytes)) {b o m cp : Nat} {k : IntKind} {q : Int} (h0 : 0 ≤ q) (h1 : q < m) :
    (Instr.indexAt t (.slice (some ⟨b, o, none⟩) m cp) (.int k q)).run P w = .ok (.pointer (some ⟨b, o + q.toNat * size, none⟩)) w := by
  obtain ⟨ht', inf, z, hi, hz, hzs, rfl, rfl, hsz, hbp⟩ := rowTy_ok ht
  unfold Instr.indexAt
  simp only [asIntOf, Sem.run_bind, Sem.run_pure, Result.andThen_ok, run_underlying ht']
  have : (0 ≤ q ∧ q < (m : Int)) := ⟨h0, h1⟩
  simp only [if_pos this, Sem.run_bind, run_sizeOf' hi, Result.andThen_ok, Sem.run_pure, add_none]

theorem idx_run {i d j : Nat} {t e : TypeId} {size bytes b o m : Nat} {q : Int} {A : Option Addr} (hE : EnvOk n tb env a) (h : idxE tb env ops n i = some (t, A, m, q, d)) (ht : rowTy P t = some (e, size, bytes)) (hA : A = some ⟨b, o, none⟩) (hq : q = (j : Int)) (h1 : j < m) :
    ∃ op, opAt env ops n i = some (op, d) ∧ d < n ∧ ∀ (o' : Oper) (w : World), o'.op = op → (execOp a.eval o').run P w = .ok (.value (.pointer (some ⟨b, o + j * size, none⟩))) w := by
  subst hA; subst hq
  unfold idxE at h
  split at h
  · rename_i t' x y d' ho
    split at h
    · rename_i A m' cp k q' hs1 hs2
      simp only [Option.some.injEq, Prod.mk.injEq] at h
      obtain ⟨rfl, rfl, rfl, rfl, rfl⟩ := h
      refine ⟨_, ho, (opAt_ok hE ho).choose_spec.2.2.2.1, fun o' w hop => ?_⟩
      have e1 := (opd_ok hE hs1).1
      have e2 := (opd_ok hE hs2).1
      have hr := run_indexAt (P := P) (w := w) (b := b) (o := o) (m := m') (cp := cp) (k := k) ht (q := (j : Int)) (by omega) (by omega)
      rw [Int.toNat_natCast] at hr
      unfold execOp
      rw [hop]
      simp only [e1, e2, SV.val, Sem.run_bind, hr, Result.andThen_ok, Sem.run_pure]
    · cases h
  · cases h

theorem wpOp_index {i d j : Nat} {N : Act → World → Prop} {t e : TypeId} {size bytes b o m : Nat} {q : Int} {A : Option Addr} (hE : EnvOk n tb env a) (h : idxE tb env ops n i = some (t, A, m, q, d)) (ht : rowTy P t = some (e, size, bytes)) (hA : A = some ⟨b, o, none⟩) (hq : q = (j : Int)) (h1 : j < m)
    (K : ∀ a', EnvOk n tb ((d, .v (.pointer (some ⟨b, o + j * size, none⟩))) :: env) a' → N a' w) : wpOp P ops Q i N a w := by
  obtain ⟨op, ho, hd, hrun⟩ := idx_run (P := P) hE h ht hA hq h1
  exact wpOp_value hE ho (fun o' ho' => hrun o' w ho') (K _ (hE.put hd (.v _) trivial))

theorem wanted_of (ops : Array Oper) (a : Act) {o : Oper} (h : o.guard = none) : Region.wanted o (yielded ops a.tmps) = true := by simp [Region.wanted, h]

theorem takeC_index {i d j : Nat} {t e : TypeId} {size bytes b o m : Nat} {q : Int} {A : Option Addr} {fuel : Nat} {listed : Array Bool} (hE : EnvOk n tb env a) (h : idxE tb env ops n i = some (t, A, m, q, d)) (ht : rowTy P t = some (e, size, bytes)) (hA : A = some ⟨b, o, none⟩) (hq : q = (j : Int)) (h1 : j < m)
    (hns : Region.noSelect ops = true) (hk : takes ops c [i] listed = true) (hQ : PanicFree Q) (hT : T w)
    (K : ∀ a', EnvOk n tb ((d, .v (.pointer (some ⟨b, o + j * size, none⟩))) :: env) a' → wpAnyC P ops Q T c fuel (listed.setIfInBounds i true) a' w) : wpAnyC P ops Q T c (fuel + 1) listed a w := by
  obtain ⟨op, ho, hd, hrun⟩ := idx_run (P := P) hE h ht hA hq h1
  obtain ⟨o', g1, g2, g3, g4, g5⟩ := opAt_ok hE ho
  simp only [takes, Bool.and_eq_true, and_true] at hk
  refine anyC_take g1 hns hk.1.1 hk.1.2 hk.2 hQ (v := .pointer (some ⟨b, o + j * size, none⟩)) (.inl ⟨g2, fun w' _ => hrun o' w' g5⟩) hT ?_
  rw [g3]
  exact K _ (hE.put hd (.v _) trivial)

/-- a load by an address that is known -/
def ldE (env : Env) (ops : Array Oper) (n i : Nat) : Option (TypeId × Addr × Nat) :=
  match opAt env ops n i with
  | some (.load t x, d) => match opd env x with
    | some (.v (.pointer (some ad))) => some (t, ad, d)
    | _ => none
  | _ => none
def ofCells (P : Program) (t : TypeId) (cs : List Value) : Option Value :=
  match P.underlying t, P.info? t with
  | some d, some inf => match oneB d with
    | true => match cs with
      | [v] => some v
      | _ => none
    | false => match Nat.beq cs.length inf.size with
      | true => some (.agg cs.toArray)
      | false => none
  | _, _ => none
/-- the cells at an address -/
def At (w : World) (b o : Nat) (cs : List Value) : Prop := ∀ (j : Nat) (v : Value), cs[j]? = some v → w.cell? ⟨b, o + j, none⟩ = some v
theorem ofCells_ok {t : TypeId} {b o : Nat} {cs : List Value} {v : Value} (h : ofCells P t cs = some v) (hc : At w b o cs) : (loadVar t ⟨b, o, none⟩).run P w = .ok v w := by
  unfold ofCells at h
  split at h
  · rename_i d inf hd hi
    split at h
    · rename_i ho
      split at h
      · rename_i v'
        simp only [Option.some.injEq] at h
        subst h
        exact run_loadVar_one hd ho (hc 0 _ rfl)
      · cases h
    · rename_i ho
      split at h
      · rename_i hl
        simp only [Option.some.injEq] at h
        subst h
        exact run_loadVar_agg hd ho hi (Nat.eq_of_beq_eq_true hl) fun j v hj => by rw [add_none]; exact hc j v hj
      · cases h
  · cases h
theorem ld_run {i d b o : Nat} {t : TypeId} {cs : List Value} {v : Value} (hE : EnvOk n tb env a) (h : ldE env ops n i = some (t, ⟨b, o, none⟩, d)) (hv : ofCells P t cs = some v) :
    ∃ op, opAt env ops n i = some (op, d) ∧ d < n ∧ ∀ (o' : Oper) (w : World), o'.op = op → At w b o cs → (execOp a.eval o').run P w = .ok (.value v) w := by
  unfold ldE at h
  split at h
  · rename_i t' x d' ho
    split at h
    · rename_i ad hs
      simp only [Option.some.injEq, Prod.mk.injEq] at h
      obtain ⟨rfl, rfl, rfl⟩ := h
      refine ⟨_, ho, (opAt_ok hE ho).choose_spec.2.2.2.1, fun o' w hop hc => ?_⟩
      have e1 := (opd_ok hE hs).1
      unfold execOp
      rw [hop]
      simp only [e1, SV.val, Instr.loadAt, Instr.sureAddr, Sem.run_bind, Sem.run_pure, Result.andThen_ok, ofCells_ok hv hc]
    · cases h
  · cases h
theorem wpOp_load {i d b o : Nat} {N : Act → World → Prop} {t : TypeId} {cs : List Value} {v : Value} (hE : EnvOk n tb env a) (h : ldE env ops n i = some (t, ⟨b, o, none⟩, d)) (hv : ofCells P t cs = some v) (hc : At w b o cs)
    (K : ∀ a', EnvOk n tb ((d, .v v) :: env) a' → N a' w) : wpOp P ops Q i N a w := by
  obtain ⟨op, ho, hd, hrun⟩ := ld_run (P := P) hE h hv
  exact wpOp_value hE ho (fun o' ho' => hrun o' w ho' hc) (K _ (hE.put hd (.v _) trivial))
theorem takeC_load {i d b o : Nat} {t : TypeId} {cs : List Value} {v : Value} {fuel : Nat} {listed : Array Bool} (hE : EnvOk n tb env a) (h : ldE env ops n i = some (t, ⟨b, o, none⟩, d)) (hv : ofCells P t cs = some v) (hc : ∀ w', T w' → At w' b o cs)
    (hns : Region.noSelect ops = true) (hk : takes ops c [i] listed = true) (hQ : PanicFree Q) (hT : T w)
    (K : ∀ a', EnvOk n tb ((d, .v v) :: env) a' → wpAnyC P ops Q T c fuel (listed.setIfInBounds i true) a' w) : wpAnyC P ops Q T c (fuel + 1) listed a w := by
  obtain ⟨op, ho, hd, hrun⟩ := ld_run (P := P) hE h hv
  obtain ⟨o', g1, g2, g3, g4, g5⟩ := opAt_ok hE ho
  simp only [takes, Bool.and_eq_true, and_true] at hk
  refine anyC_take g1 hns hk.1.1 hk.1.2 hk.2 hQ (v := v) (.inl ⟨g2, fun w' hw' => hrun o' w' g5 (hc w' hw')⟩) hT ?_
  rw [g3]
  exact K _ (hE.put hd (.v _) trivial)

/-- a store by an address that is known, into a row of the call's own -/
theorem At.step {w w' : World} {N : Nat → Nat → Prop} {b o : Nat} {cs : List Value} (h : At w b o cs) (hs : Step w w' N) (hN : ∀ j, j < cs.length → ¬ N b (o + j)) : At w' b o cs :=
  fun j v hj => hs.cell (hN j (List.getElem?_eq_some_iff.1 hj).1) (h j v hj)

theorem At.drop {w : World} {b o : Nat} {cs : List Value} (h : At w b o cs) (k m : Nat) : At w b (o + k) ((cs.drop k).take m) := by
  intro j v hj
  rw [List.getElem?_take] at hj
  split at hj
  · rw [List.getElem?_drop] at hj
    have := h (k + j) v hj
    rwa [← Nat.add_assoc] at this
  · cases hj

/-! parts of slices: 'x[:h]' -/
def cutE (tb : Tb) (env : Env) (ops : Array Oper) (n i : Nat) : Option (TypeId × Value × Option Int × Option Int × Nat) :=
  match opAt env ops n i with
  | some (.slice t x lo hi none, d) => match opd env x, lo, hi with
    | some s, none, none => some (t, s.val tb, none, none, d)
    | some s, some l, none => match opd env l with
      | some (.v (.int _ q)) => some (t, s.val tb, some q, none, d)
      | _ => none
    | some s, none, some h => match opd env h with
      | some (.v (.int _ q)) => some (t, s.val tb, none, some q, d)
      | _ => none
    | some s, some l, some h => match opd env l, opd env h with
      | some (.v (.int _ p)), some (.v (.int _ q)) => some (t, s.val tb, some p, some q, d)
      | _, _ => none
    | none, _, _ => none
  | _ => none

theorem run_cut_hi {t e : TypeId} {size bytes : Nat} (ht : rowTy P t = some (e, size, bytes)) {A : Option Addr} {m cp : Nat} {k : IntKind} {q : Int} (h0 : 0 ≤ q) (h1 : q ≤ cp) :
    (Instr.sliceAt t (.slice A m cp) none (some (.int k q)) none).run P w = .ok (.slice A q.toNat cp) w := by
  obtain ⟨ht', inf, z, hi, hz, hzs, rfl, rfl, hsz, hbp⟩ := rowTy_ok ht
  unfold Instr.sliceAt
  simp only [Sem.run_bind, run_underlying ht', Result.andThen_ok]
  unfold Instr.slice
  have hb : (0 ≤ q ∧ q ≤ (cp : Int)) := ⟨h0, h1⟩
  simp only [Sem.run_bind, run_underlying ht', Result.andThen_ok, Instr.sliceBounds, Instr.sliceBound, asIntOf, Sem.run_pure, if_pos hb, run_sizeOf' hi]
  cases A with
  | none => simp
  | some ad => simp [Addr.add]

theorem wpOp_cut_hi {i d j : Nat} {N : Act → World → Prop} {t e : TypeId} {size bytes m cp : Nat} {A : Option Addr} {q : Int} (hE : EnvOk n tb env a) (h : cutE tb env ops n i = some (t, .slice A m cp, none, some q, d)) (ht : rowTy P t = some (e, size, bytes)) (hq : q = (j : Int)) (hj : j ≤ cp)
    (K : ∀ a', EnvOk n tb ((d, .v (.slice A j cp)) :: env) a' → N a' w) : wpOp P ops Q i N a w := by
  have h0 : 0 ≤ q := by omega
  have h1 : q ≤ cp := by omega
  obtain rfl : j = q.toNat := by omega
  unfold cutE at h
  split at h
  · rename_i t' x lo hi d' ho
    have hd : d' < n := (opAt_ok hE ho).choose_spec.2.2.2.1
    split at h
    · simp at h
    · split at h <;> simp at h
    · rename_i s hh hs
      split at h
      · rename_i k q' hs2
        simp only [Option.some.injEq, Prod.mk.injEq, true_and] at h
        obtain ⟨rfl, hsv, rfl, rfl⟩ := h
        have e1 := (opd_ok hE hs).1
        have e2 := (opd_ok hE hs2).1
        refine wpOp_value hE ho (v := .slice A q'.toNat cp) (w' := w) (fun o' hop => ?_) (K _ (hE.put hd (.v _) trivial))
        unfold execOp
        rw [hop]
        rw [hsv] at e1
        simp only [SV.val] at e2
        simp only [e1, e2, Option.map_none, Option.map_some, Sem.run_bind, run_cut_hi ht h0 h1, Result.andThen_ok, Sem.run_pure]
      · cases h
    · split at h <;> simp at h
    · cases h
  · cases h

/-- a shift to the right by a number that is no constant -/
def shrE (env : Env) (ops : Array Oper) (n i : Nat) : Option (IntKind × Int × Int × Nat) :=
  match opAt env ops n i with
  | some (.binOp .shr _ x y _, d) => match opd env x, opd env y with
    | some (.v (.int k p)), some (.v (.int _ q)) => some (k, p, q, d)
    | _, _ => none
  | _ => none
theorem wpOp_shr {i d j : Nat} {N : Act → World → Prop} {k : IntKind} {p q : Int} (hE : EnvOk n tb env a) (h : shrE env ops n i = some (k, p, q, d)) (hq : q = (j : Int)) (hj : j ≤ k.bits)
    (K : ∀ a', EnvOk n tb ((d, .v (.int k (p / 2 ^ j))) :: env) a' → N a' w) : wpOp P ops Q i N a w := by
  unfold shrE at h
  split at h
  · rename_i t x y yt d' ho
    split at h
    · rename_i k' p' k2 q' hs1 hs2
      simp only [Option.some.injEq, Prod.mk.injEq] at h
      obtain ⟨rfl, rfl, rfl, rfl⟩ := h
      subst hq
      have hd : d' < n := (opAt_ok hE ho).choose_spec.2.2.2.1
      have e1 := (opd_ok hE hs1).1
      have e2 := (opd_ok hE hs2).1
      refine wpOp_value hE ho (v := .int k' (p' / 2 ^ j)) (w' := w) (fun o' hop => ?_) (K _ (hE.put hd (.v _) trivial))
      unfold execOp
      rw [hop]
      have hn : ¬ ((j : Int) < 0) := by omega
      have hm : min (j : Int).toNat k'.bits = j := by omega
      have hp : (0 : Int) ≤ 2 ^ j := Int.le_of_lt (Int.pow_pos (by decide))
      have hgd : (eqGuard .shr t x y (Value.int k' p') (Value.int k2 (j : Int))).run P w = .ok () w := eqGuard_plain rfl P w
      simp only [e1, e2, SV.val, Sem.run_bind, hgd, Result.andThen_ok, binOp, Op.shift, if_neg hn, hm, Int.fdiv_eq_ediv_of_nonneg _ hp, Sem.run_pure]
    · cases h
  · cases h
end

end Go.Proofs.Ytbjopfcbpobnpaa.ME
