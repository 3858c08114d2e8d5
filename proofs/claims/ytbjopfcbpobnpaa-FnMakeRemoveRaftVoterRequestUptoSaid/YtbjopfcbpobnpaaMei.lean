/- The engine, ninth part: rows of the call's own, read and written in their midst; make; copy; regions that write nothing. Own work. -/
import Derived.Test.YtbjopfcbpobnpaaMeh
import Derived.Laws.CopyRow
import Derived.Laws.IdiomCopy
namespace Go.Proofs.Ytbjopfcbpobnpaa.ME
open Go
set_option linter.unusedVariables false
set_option linter.unusedSimpArgs false

theorem Step.setRow (w : World) (g : Nat) (cs : Array Value) : Step w (w.setRow g cs) (fun b _ => b = g) := by
  refine ⟨rfl, rfl, by simp [World.setRow], fun b hb => ?_⟩
  by_cases h : b = g
  · exact ⟨fun hm => absurd h (hm 0), fun ⟨o, ho⟩ => absurd h ho⟩
  · rw [setRow_other w g b cs h]; exact Keeps.refl _ _

theorem take_splice {l vs : List Value} {o N : Nat} (h : o + vs.length ≤ N) (hN : N ≤ l.length) : (l.take o ++ vs ++ l.drop (o + vs.length)).take N = splice (l.take N) o vs := by
  unfold splice
  rw [List.append_assoc, List.take_append, List.take_append, List.length_take, List.take_take, List.take_take]
  have e1 : min o l.length = o := by omega
  have e2 : min N o = min o N := Nat.min_comm _ _
  rw [e1, e2]
  have e3 : (vs.take (N - o)) = vs := List.take_of_length_le (by omega)
  rw [e3, List.drop_take]
  congr 3
  omega

theorem own_set {w : World} {e size n g c : Nat} {xs vs : List Value} {o : Nat} (ho : w.ownsRow 0 e size (.slice (some ⟨g, 0, none⟩) n c) n xs) (hb : o + vs.length ≤ n * size) :
    ∃ cur : Array Value, w.heap[g]? = some (.cells cur e (0, 0)) ∧ o + vs.length ≤ cur.size ∧ (w.setRow g (cur.toList.take o ++ vs ++ cur.toList.drop (o + vs.length)).toArray).ownsRow 0 e size (.slice (some ⟨g, 0, none⟩) n c) n (splice xs o vs) := by
  rcases ho.2 with ⟨hv, _⟩ | ⟨g', cap, cur, hv, _, hg, hnc, hmx, hcs, htake⟩
  · cases hv
  · simp only [Value.slice.injEq, Option.some.injEq, Addr.mk.injEq, true_and, and_true] at hv
    obtain ⟨rfl, rfl⟩ := hv
    have hle : n * size ≤ c * size := Nat.mul_le_mul_right _ hnc
    have hx : o + vs.length ≤ xs.length := by rw [ho.1]; exact hb
    refine ⟨cur, hg, by omega, by rw [splice_length hx]; exact ho.1, .inr ⟨g, c, _, rfl, Nat.zero_le _, setRow_heap w g cur _ e _ hg, hnc, hmx, ?_, ?_⟩⟩
    · simp only [List.size_toArray, List.length_append, List.length_take, List.length_drop, Array.length_toList]
      omega
    · rw [List.toList_toArray, take_splice hb (by rw [Array.length_toList]; omega), htake]

section
variable {P : Program} {ops : Array Oper} {Q : Exit → Act → World → Prop} {n : Nat} {tb : Tb} {env : Env} {rs : List Rw} {w0 : World} {M : Nat → Nat → Prop} {a : Act} {w : World}

/-- a store into a row of the call's own -/
def storeRE (P : Program) (tb : Tb) (env : Env) (ops : Array Oper) (i : Nat) : Option (Addr × List Value) :=
  match opAt0 ops i with
  | some (.store t ad x) => match opd env ad, opd env x, P.info? t with
    | some (.v (.pointer (some p))), some s, some inf =>
      match Nat.beq (s.val tb).cells.toList.length inf.size, allOne (s.val tb).cells.toList with
      | true, true => some (p, (s.val tb).cells.toList)
      | _, _ => none
    | _, _, _ => none
  | _ => none
theorem wpOp_storeR {i k g o c m size e : Nat} {A : Option Addr} {xs vs : List Value} {N : Act → World → Prop} (hW : WOk w0 M w tb rs) (hE : EnvOk n tb env a) (h : storeRE P tb env ops i = some (⟨g, 0 + o, none⟩, vs))
    (hk : rs[k]? = some ⟨A, c, e, size, m, xs⟩) (hA : A = some ⟨g, 0, none⟩) (hb : o + vs.length ≤ m * size)
    (K : ∀ w', Fr w tb rs w' tb (rs.set k ⟨A, c, e, size, m, splice xs o vs⟩) → WOk w0 M w' tb (rs.set k ⟨A, c, e, size, m, splice xs o vs⟩) → EnvOk n tb env a → N a w') : wpOp P ops Q i N a w := by
  subst hA
  unfold storeRE at h
  split at h
  · rename_i t ad x ho
    split at h
    · rename_i p s inf hs1 hs2 hi
      split at h
      · rename_i hl h1
        simp only [Option.some.injEq, Prod.mk.injEq] at h
        obtain ⟨rfl, rfl⟩ := h
        have had := (opd_ok hE hs1).1
        have hx := (opd_ok hE hs2).1
        have hl' : (s.val tb).cells.size = inf.size := by have := Nat.eq_of_beq_eq_true hl; simpa using this
        obtain ⟨cur, hg, hsz, hown⟩ := own_set (hW.own k _ hk) hb
        refine wpOp_skip ho (w' := w.setRow g (cur.toList.take o ++ (s.val tb).cells.toList ++ cur.toList.drop (o + (s.val tb).cells.toList.length)).toArray) ?_ ?_
        · intro op hop
          unfold execOp
          rw [hop]
          have hst := run_storeCells_at P g (0 + o) e (s.val tb).cells.toList 0 cur w hg (by omega) (allOne_ok h1)
          rw [Nat.add_zero, Nat.zero_add] at hst
          have hrun : (Instr.storeAt t (a.eval ad) (a.eval x)).run P w = .ok () (w.setRow g (cur.toList.take o ++ (s.val tb).cells.toList ++ cur.toList.drop (o + (s.val tb).cells.toList.length)).toArray) := by
            unfold Instr.storeAt
            rw [had, hx]
            generalize s.val tb = u at *
            simp only [SV.val, Instr.sureAddr, Sem.run_bind, Sem.run_pure, Result.andThen_ok]
            unfold storeVar
            rw [Nat.zero_add]
            simp only [Sem.run_bind, run_sizeOf' hi, Result.andThen_ok, hl', ne_eq, not_true_eq_false, if_false, Sem.run_pure, hst]
          simp only [Sem.run_bind, hrun, Result.andThen_ok, Sem.run_pure]
        · have hst : Step w (w.setRow g (cur.toList.take o ++ (s.val tb).cells.toList ++ cur.toList.drop (o + (s.val tb).cells.toList.length)).toArray) (Blk (some ⟨g, 0, none⟩)) := (Step.setRow w g _).mono fun b _ _ hb => by rw [hb]; rfl
          exact K _ (Fr.grow tb (r' := ⟨some ⟨g, 0, none⟩, c, e, size, m, splice xs o (s.val tb).cells.toList⟩) hk hst fun g' hg' => .inl hg') (hW.grow (r' := ⟨some ⟨g, 0, none⟩, c, e, size, m, splice xs o (s.val tb).cells.toList⟩) hk hst hown fun g' hg' => .inl hg') hE
      · cases h
    · cases h
  · cases h

/-- 'copy' into a row of the call's own -/
def copyE (tb : Tb) (env : Env) (ops : Array Oper) (n i : Nat) : Option (TypeId × TypeId × Value × Value × Nat) :=
  match opAt env ops n i with
  | some (.call c, d) => match c.callee, c.args.toList, c.argTypes.toList with
    | .builtin .copy, [s, x], [t, u] => match opd env s, opd env x with
      | some s1, some s2 => some (t, u, s1.val tb, s2.val tb, d)
      | _, _ => none
    | _, _, _ => none
  | _ => none
theorem copyE_ok {i d : Nat} {t u : TypeId} {v x : Value} (hE : EnvOk n tb env a) (h : copyE tb env ops n i = some (t, u, v, x, d)) :
    ∃ op, opAt env ops n i = some (op, d) ∧ d < n ∧ ∀ (o : Oper) (v' : Value) (w' : World), o.op = op → (Builtin.copy_ #[t, u] o.type #[v, x]).run P w = .ok v' w' → (execOp a.eval o).run P w = .ok (.value v') w' := by
  unfold copyE at h
  split at h
  · rename_i c d' ho
    split at h
    · rename_i s y t' u' hcal hargs hats
      split at h
      · rename_i s1 s2 hs1 hs2
        simp only [Option.some.injEq, Prod.mk.injEq] at h
        obtain ⟨rfl, rfl, rfl, rfl, rfl⟩ := h
        refine ⟨_, ho, (opAt_ok hE ho).choose_spec.2.2.2.1, fun o v' w' hop hr => ?_⟩
        have h1 := (opd_ok hE hs1).1
        have h2 := (opd_ok hE hs2).1
        have ha := array_two hargs
        have hat := array_two hats
        unfold execOp
        rw [hop]
        simp only [resolve, hcal, ha, hat, invoke, builtin, Sem.run_bind, Sem.run_pure, Result.andThen_ok, List.map_toArray, List.map_cons, List.map_nil, h1, h2, hr]
      · cases h
    · cases h
  · cases h
theorem wpOp_copyR {i d k : Nat} {t u e : TypeId} {bytes : Nat} {A As : Option Addr} {m0 c m cs : Nat} {xs news : List Value} {N : Act → World → Prop} (hW : WOk w0 M w tb rs) (hE : EnvOk n tb env a)
    (h : copyE tb env ops n i = some (t, u, .slice A m0 c, .slice As m cs, d)) (ht : rowTy P t = some (e, 1, bytes)) (hk : rs[k]? = some ⟨A, c, e, 1, m0, xs⟩)
    (hs : Src w As m 1 news)
    (K : ∀ a' w', Fr w tb rs w' tb (rs.set k ⟨A, c, e, 1, m0, splice xs 0 (news.take (min m m0))⟩) → WOk w0 M w' tb (rs.set k ⟨A, c, e, 1, m0, splice xs 0 (news.take (min m m0))⟩) →
      EnvOk n tb ((d, .v (.int .i64 ((min m m0 : Nat) : Int))) :: env) a' → N a' w') : wpOp P ops Q i N a w := by
  obtain ⟨ht', inf, z, hi, hz, hzs, hs1, rfl, hsz, hbp⟩ := rowTy_ok ht
  obtain ⟨op, ho, hd, hrun⟩ := copyE_ok (P := P) (w := w) hE h
  have hsz' : (P.info? e).map (·.size) = some 1 := by rw [hi]; simp [hs1]
  have hlen : news.length = m := by have := hs.len; omega
  have hown := hW.own k _ hk
  by_cases h0 : min m m0 = 0
  · have hr := fun ty => run_copy_none (P := P) w t u ty e A As m0 c m cs ht' hsz' h0
    have hsp : splice xs 0 (news.take (min m m0)) = xs := by rw [h0]; simp [splice]
    rw [hsp] at K
    have hset : rs.set k ⟨A, c, e, 1, m0, xs⟩ = rs := by
      apply List.ext_getElem?
      intro j
      rw [List.getElem?_set]
      split
      · rename_i hj
        subst hj
        rw [hk, if_pos (List.getElem?_eq_some_iff.1 hk).1]
      · rfl
    rw [hset] at K
    refine wpOp_value hE ho (v := .int .i64 0) (w' := w) (fun o hop => hrun o _ _ hop (hr o.type)) ?_
    have := K (a.put (some d) (.int .i64 0)) w (Fr.refl _ _ _) hW (by rw [h0]; exact hE.put hd (.v _) trivial)
    exact this
  · have hAs : ∃ ad, As = some ad := by
      cases As with
      | none => have := hs.nil rfl; omega
      | some ad => exact ⟨ad, rfl⟩
    obtain ⟨ad, rfl⟩ := hAs
    have hA : ∃ g, A = some ⟨g, 0, none⟩ := by
      rcases hown.2 with ⟨hv, hn⟩ | ⟨g, cap, cur, hv, _⟩
      · have hn' : m0 = 0 := hn
        omega
      · simp only [Rw.v, Value.slice.injEq] at hv
        exact ⟨g, hv.1⟩
    obtain ⟨g, rfl⟩ := hA
    have hcl : (news.take (min m m0)).length = min m m0 := by rw [List.length_take, hlen]; omega
    obtain ⟨cur, hg, hle, hown'⟩ := own_set (o := 0) (vs := news.take (min m m0)) hown (by rw [hcl]; show 0 + min m m0 ≤ m0 * 1; omega)
    have hr := fun ty => run_copy_row P w t u ty e g 0 m0 c ad m cs cur e (news.take (min m m0)) ht' hsz' hg hcl (fun j v hj => hs.cells ad rfl j v (by
      rw [List.getElem?_take] at hj
      split at hj
      · exact hj
      · cases hj)) hle (fun v hv => hs.one v (List.mem_of_mem_take hv))
    refine wpOp_value hE ho (v := .int .i64 ((min m m0 : Nat) : Int)) (w' := w.setRow g (cur.toList.take 0 ++ news.take (min m m0) ++ cur.toList.drop (0 + (news.take (min m m0)).length)).toArray) (fun o hop => hrun o _ _ hop (by rw [hr o.type]; simp only [hcl]; rfl)) ?_
    have hst : Step w (w.setRow g (cur.toList.take 0 ++ news.take (min m m0) ++ cur.toList.drop (0 + (news.take (min m m0)).length)).toArray) (Blk (some ⟨g, 0, none⟩)) := (Step.setRow w g _).mono fun b _ _ hb => by rw [hb]; rfl
    exact K _ _ (Fr.grow tb (r' := ⟨some ⟨g, 0, none⟩, c, e, 1, m0, splice xs 0 (news.take (min m m0))⟩) hk hst fun g' hg' => .inl hg') (hW.grow (r' := ⟨some ⟨g, 0, none⟩, c, e, 1, m0, splice xs 0 (news.take (min m m0))⟩) hk hst hown' fun g' hg' => .inl hg') (hE.put hd (.v _) trivial)

/-- 'make' of a slice -/
def makeE (env : Env) (ops : Array Oper) (n i : Nat) : Option (TypeId × Int × Int × Nat) :=
  match opAt env ops n i with
  | some (.makeSlice t l c, d) => match opd env l, opd env c with
    | some (.v (.int _ p)), some (.v (.int _ q)) => some (t, p, q, d)
    | _, _ => none
  | _ => none
theorem makeE_ok {i d : Nat} {t : TypeId} {p q : Int} (hE : EnvOk n tb env a) (h : makeE env ops n i = some (t, p, q, d)) :
    ∃ op, opAt env ops n i = some (op, d) ∧ d < n ∧ ∃ kl kc, ∀ (o : Oper) (v' : Value) (w' : World), o.op = op → (Instr.makeSlice t (.int kl p) (.int kc q)).run P w = .ok v' w' → (execOp a.eval o).run P w = .ok (.value v') w' := by
  unfold makeE at h
  split at h
  · rename_i t' l c d' ho
    split at h
    · rename_i kl p' kc q' hs1 hs2
      simp only [Option.some.injEq, Prod.mk.injEq] at h
      obtain ⟨rfl, rfl, rfl, rfl⟩ := h
      refine ⟨_, ho, (opAt_ok hE ho).choose_spec.2.2.2.1, kl, kc, fun o v' w' hop hr => ?_⟩
      have h1 := (opd_ok hE hs1).1
      have h2 := (opd_ok hE hs2).1
      unfold execOp
      rw [hop]
      simp only [h1, h2, SV.val, Sem.run_bind, hr, Result.andThen_ok, Sem.run_pure]
    · cases h
  · cases h
/-- 'make([]T, n)' of things of one cell -/
theorem wpOp_make1 {i d j : Nat} {t e : TypeId} {bytes : Nat} {z : Value} {q p : Int} {N : Act → World → Prop} (hW : WOk w0 M w tb rs) (hE : EnvOk n tb env a) (h : makeE env ops n i = some (t, p, q, d)) (ht : rowTy P t = some (e, 1, bytes))
    (hz : (P.info? e).bind (·.zero) = some z) (hz1 : z.cells = #[z]) (hp : p = (j : Int)) (hq : q = (j : Int)) (hb : bytes * j ≤ 140737488355328)
    (K : ∀ b a' w', b = w.heap.size → w0.heap.size ≤ b → Fr w tb rs w' tb (rs ++ [⟨some ⟨b, 0, none⟩, j, e, 1, j, List.replicate j z⟩]) → WOk w0 M w' tb (rs ++ [⟨some ⟨b, 0, none⟩, j, e, 1, j, List.replicate j z⟩]) →
      EnvOk n tb ((d, .v (.slice (some ⟨b, 0, none⟩) j j)) :: env) a' → N a' w') : wpOp P ops Q i N a w := by
  subst hp; subst hq
  obtain ⟨ht', inf, z', hi, hz', hzs, hs1, rfl, hsz, hbp⟩ := rowTy_ok ht
  obtain ⟨op, ho, hd, kl, kc, hrun⟩ := makeE_ok (P := P) (w := w) hE h
  have hzz : z' = z := by rw [hi] at hz; simp only [Option.bind_some, hz', Option.some.injEq] at hz; exact hz
  subst hzz
  have hjm : j ≤ maxLen := by
    have := Nat.le_mul_of_pos_left j hbp
    simp only [maxLen]; omega
  have hr := run_make (P := P) w t e inf z' ht' hi hz' kl kc (j : Int) (j : Int) (by omega) (Int.le_refl _) (by
    have : ((inf.bytes * j : Nat) : Int) ≤ 281474976710656 := by omega
    rwa [Int.natCast_mul] at this) (by simp only [maxLen] at hjm; omega)
  simp only [Int.toNat_natCast, hs1, Nat.mul_one, hz1] at hr
  have hcl : (madeCells #[z'] j).toList = List.replicate j z' := by
    apply List.ext_getElem?
    intro i
    simp only [madeCells, Array.toList_map, Array.toList_range, List.getElem?_map, List.getElem?_replicate]
    by_cases hij : i < j
    · rw [List.getElem?_range hij]
      simp [hij, Nat.mod_one]
    · rw [List.getElem?_eq_none (by simp; omega)]
      simp [hij]
  have hown : (w.alloc (.cells (madeCells #[z'] j) e)).ownsRow w.heap.size e 1 (.slice (some ⟨w.heap.size, 0, none⟩) j j) j (List.replicate j z') := by
    refine ⟨by simp, .inr ⟨w.heap.size, j, _, rfl, Nat.le_refl _, heap_new w _, Nat.le_refl _, hjm, by rw [size_madeCells]; omega, ?_⟩⟩
    rw [hcl, Nat.mul_one]; simp
  refine wpOp_value hE ho (fun o hop => hrun o _ _ hop hr) ?_
  exact K w.heap.size _ _ rfl hW.step.size (Fr.fresh tb rs (Step.alloc _ _) ⟨some ⟨w.heap.size, 0, none⟩, j, e, 1, j, List.replicate j z'⟩ (Nat.le_refl _) hown) (hW.fresh (Step.alloc _ _) ⟨some ⟨w.heap.size, 0, none⟩, j, e, 1, j, List.replicate j z'⟩ (Nat.le_refl _) hown) (hE.put hd (.v _) trivial)
/-- 'make([]T, 0, n)' -/
theorem wpOp_make0 {i d j : Nat} {t e : TypeId} {size bytes : Nat} {q p : Int} {N : Act → World → Prop} (hW : WOk w0 M w tb rs) (hE : EnvOk n tb env a) (h : makeE env ops n i = some (t, p, q, d)) (ht : rowTy P t = some (e, size, bytes))
    (hp : p = 0) (hq : q = (j : Int)) (hb : bytes * j ≤ 140737488355328)
    (K : ∀ b a' w', b = w.heap.size → w0.heap.size ≤ b → Fr w tb rs w' tb (rs ++ [⟨some ⟨b, 0, none⟩, j, e, size, 0, []⟩]) → WOk w0 M w' tb (rs ++ [⟨some ⟨b, 0, none⟩, j, e, size, 0, []⟩]) →
      EnvOk n tb ((d, .v (.slice (some ⟨b, 0, none⟩) 0 j)) :: env) a' → N a' w') : wpOp P ops Q i N a w := by
  subst hp; subst hq
  obtain ⟨ht', inf, z', hi, hz', hzs, hs1, rfl, hsz, hbp⟩ := rowTy_ok ht
  obtain ⟨op, ho, hd, kl, kc, hrun⟩ := makeE_ok (P := P) (w := w) hE h
  have hjm : j ≤ maxLen := by
    have := Nat.le_mul_of_pos_left j hbp
    simp only [maxLen]; omega
  obtain ⟨w', hr, hown, hg⟩ := run_make_own (P := P) w w.heap.size t e inf z' size ht' hi hz' hs1 kl kc j (by omega) hjm (Nat.le_refl _)
  have hst : Step w w' Nil := (grown_step hg (A := none) rfl).mono fun b _ _ hb => by cases hb
  refine wpOp_value hE ho (fun o hop => hrun o _ _ hop hr) ?_
  exact K w.heap.size _ _ rfl hW.step.size (Fr.fresh tb rs hst ⟨some ⟨w.heap.size, 0, none⟩, j, e, size, 0, []⟩ (Nat.le_refl _) hown) (hW.fresh hst ⟨some ⟨w.heap.size, 0, none⟩, j, e, size, 0, []⟩ (Nat.le_refl _) hown) (hE.put hd (.v _) trivial)

theorem own_cap {base e size m c : Nat} {A : Option Addr} {xs : List Value} (ho : w.ownsRow base e size (.slice A m c) m xs) : A = none → c = 0 := by
  obtain ⟨A', c', hv, h1, _⟩ := own_form ho
  simp only [Value.slice.injEq, true_and] at hv
  obtain ⟨rfl, rfl⟩ := hv
  exact fun h => (h1 h).2
/-- cells of a row of the call's own -/
theorem own_at {e size m g c o : Nat} {A : Option Addr} {xs cs : List Value} (ho : w.ownsRow 0 e size (.slice A m c) m xs) (hA : A = some ⟨g, 0, none⟩) (hc : ∀ (j : Nat) (v : Value), cs[j]? = some v → xs[o + j]? = some v) : At w g (0 + o) cs := by
  intro j v hj
  subst hA
  have := ho.cells (g := g) rfl (o + j) v (hc j v hj)
  rw [add_none] at this
  rw [show 0 + o + j = 0 + (o + j) by omega]
  exact this
theorem own_addr {e size m c : Nat} {A : Option Addr} {xs : List Value} (ho : w.ownsRow 0 e size (.slice A m c) m xs) (hm : 0 < m) : ∃ g, A = some ⟨g, 0, none⟩ := by
  rcases ho.2 with ⟨_, hn⟩ | ⟨g, cap, cur, hv, _⟩
  · omega
  · simp only [Value.slice.injEq] at hv
    exact ⟨g, hv.1⟩

/-- a region whose order is drawn and that writes nothing -/
theorem go_seq_drawQ {id : Nat} {y : Code} (hm : P.follows .mixedOrders = true) (hW : WOk w0 M w tb rs) (h : ∀ w', Fr w tb rs w' tb rs → WOk w0 M w' tb rs → wpAnyC P ops (Exit.then (y.wp P Q) Q) (fun x => x = w') ops.size ops.size (Array.replicate ops.size false) a w') : (Code.seq (.region id ops true) y).wp P Q a w :=
  go_seq_draw (fun x => x = w.drew) ops.size hm (h _ (Fr.drew w tb rs) hW.drew)
theorem go_drawQ {id : Nat} (hm : P.follows .mixedOrders = true) (hW : WOk w0 M w tb rs) (h : ∀ w', Fr w tb rs w' tb rs → WOk w0 M w' tb rs → wpAnyC P ops Q (fun x => x = w') ops.size ops.size (Array.replicate ops.size false) a w') : (Code.region id ops true).wp P Q a w :=
  region_draw (fun x => x = w.drew) ops.size hm (h _ (Fr.drew w tb rs) hW.drew)
/-- a remainder by a number that is no constant -/
def remE (env : Env) (ops : Array Oper) (n i : Nat) : Option (IntKind × Int × Int × Nat) :=
  match opAt env ops n i with
  | some (.binOp .rem _ x y _, d) => match opd env x, opd env y with
    | some (.v (.int k p)), some (.v (.int k' q)) => match decide (k = k') with
      | true => some (k, p, q, d)
      | false => none
    | _, _ => none
  | _ => none
theorem wpOp_rem {i d : Nat} {N : Act → World → Prop} {k : IntKind} {p q : Int} (hE : EnvOk n tb env a) (h : remE env ops n i = some (k, p, q, d)) (hq : q ≠ 0)
    (K : ∀ a', EnvOk n tb ((d, .v (.int k (p.tmod q))) :: env) a' → N a' w) : wpOp P ops Q i N a w := by
  unfold remE at h
  split at h
  · rename_i t x y yt d' ho
    split at h
    · rename_i k1 p1 k2 q1 hs1 hs2
      split at h
      · rename_i hk
        have hk' := of_decide_eq_true hk
        subst hk'
        simp only [Option.some.injEq, Prod.mk.injEq] at h
        obtain ⟨rfl, rfl, rfl, rfl⟩ := h
        have hd : d' < n := (opAt_ok hE ho).choose_spec.2.2.2.1
        have e1 := (opd_ok hE hs1).1
        have e2 := (opd_ok hE hs2).1
        refine wpOp_value hE ho (v := .int k1 (p1.tmod q1)) (w' := w) (fun o' hop => ?_) (K _ (hE.put hd (.v _) trivial))
        have hgd : (eqGuard .rem t x y (Value.int k1 p1) (Value.int k1 q1)).run P w = .ok () w := eqGuard_plain rfl P w
        unfold execOp
        rw [hop]
        simp only [e1, e2, SV.val, Sem.run_bind, hgd, Result.andThen_ok]
        simp [binOp, Op.intArith, Op.intDiv, hq]
      · cases h
    · cases h
  · cases h
/-- the same places, whatever lies there -/
def Pl : Tb → Tb → Prop
  | [], _ => True
  | o :: r, o' :: r' => o'.blk = o.blk ∧ o'.off = o.off ∧ Pl r r'
  | _ :: _, [] => False
theorem Pl.at_ : ∀ {tb tb' : Tb}, Pl tb tb' → ∀ i, i < tb.length → i < tb'.length ∧ (obAt tb' i).blk = (obAt tb i).blk ∧ (obAt tb' i).off = (obAt tb i).off
  | [], _, _, i, hi => by simp at hi
  | o :: r, [], h, _, _ => h.elim
  | o :: r, o' :: r', h, 0, _ => ⟨by simp, h.1, h.2.1⟩
  | o :: r, o' :: r', h, i + 1, hi => by
    have := Pl.at_ h.2.2 i (by simpa using hi)
    exact ⟨by simpa using this.1, this.2.1, this.2.2⟩
theorem EnvOk.places {tb' : Tb} (h : EnvOk n tb env a) (hp : Pl tb tb') : EnvOk n tb' env a := h.table hp.at_
/-- a call, walked through where it stands -/
theorem wpOp_inline {i d n' : Nat} {f : FuncId} {fn : Func} {c : Code} {vs : List Value} {N : Act → World → Prop} (hE : EnvOk n tb env a) (h : callE tb env ops n i = some (f, vs, d))
    (hf : ∀ args w, (callFunc f args).run P w = .ok (.enter f args) w) (hfn : P.funcs[f]? = some fn) (hb : fn.body = some c) (hn : fn.ntmps = n') (hl : Nat.ble vs.length n' = true)
    (K : ∀ a2, EnvOk n' tb (envFrom 0 vs) a2 → c.wp P (bodyPost P fn (fun e w' => ∃ v, e = .returned v ∧ ∀ a', EnvOk n tb ((d, .v v) :: env) a' → N a' w')) a2 w) : wpOp P ops Q i N a w :=
  wpOp_call hE h hf (R := fun e w' => ∃ v, e = .returned v ∧ ∀ a', EnvOk n tb ((d, .v v) :: env) a' → N a' w')
    (enter hfn hb hn hl fun a2 h2 => K a2 (h2.table fun i hi => by simp at hi)) fun e w' h => h
end

end Go.Proofs.Ytbjopfcbpobnpaa.ME
