/- The engine, fourth part: stores, calls, the structure of the code, entering and leaving a function. Own work. -/
import Derived.Test.YtbjopfcbpobnpaaMec
import Derived.Laws.IdiomCopy
namespace Go.Proofs.Ytbjopfcbpobnpaa.ME
open Go
set_option linter.unusedVariables false
set_option linter.unusedSimpArgs false

/-- the places o, .., o + n - 1 of block b -/
def Rng (b o n : Nat) : Nat → Nat → Prop := fun b' o' => b' = b ∧ o ≤ o' ∧ o' < o + n

theorem Step.setCell (w : World) (b o : Nat) (v : Value) : Step w (w.setCell ⟨b, o, none⟩ v) (Rng b o 1) := by
  refine ⟨rfl, rfl, by simp, fun b' hb' => ?_⟩
  have hh : (w.setCell ⟨b, o, none⟩ v).heap[b']? = if b = b' then (w.heap[b']?).map (fun | .cells c e f => .cells (c.setIfInBounds o v) e f | x => x) else w.heap[b']? := by
    simp only [World.setCell, Array.getElem?_modify]
    split
    · rfl
    · rfl
  rw [hh]
  by_cases hbb : b = b'
  · subst hbb
    rw [if_pos rfl]
    refine ⟨fun hm => absurd ⟨rfl, Nat.le_refl o, by omega⟩ (hm o), fun _ c t f hx => ?_⟩
    rw [hx]
    refine ⟨c.setIfInBounds o v, rfl, by simp, fun o' ho' => ?_⟩
    rw [Array.getElem?_setIfInBounds]
    by_cases h : o = o'
    · subst h; exact absurd ⟨rfl, Nat.le_refl o, by omega⟩ ho'
    · rw [if_neg h]
  · rw [if_neg hbb]; exact Keeps.refl _ _

theorem Step.setCells (b : Nat) : ∀ (vs : List Value) (o : Nat) (w : World), Step w (w.setCells b o vs) (Rng b o vs.length)
  | [], o, w => Step.refl w _
  | v :: r, o, w => by
    have h1 : Step w (w.setCell ⟨b, o, none⟩ v) (Rng b o (v :: r).length) := (Step.setCell w b o v).mono fun b' o' _ h => ⟨h.1, h.2.1, by have := h.2.2; simp; omega⟩
    exact h1.trans (Step.setCells b r (o + 1) _) fun b' o' _ h => ⟨h.1, by have := h.2.1; omega, by have := h.2.2; simp; omega⟩

theorem cell_setCells (b : Nat) : ∀ (vs : List Value) (o : Nat) (w : World), (∀ j, j < vs.length → (w.cell? ⟨b, o + j, none⟩).isSome = true) → ∀ (j : Nat) (v : Value), vs[j]? = some v → (w.setCells b o vs).cell? ⟨b, o + j, none⟩ = some v
  | [], o, w, h, j, v, e => by simp at e
  | u :: r, o, w, h, j, v, e => by
    have hs : ∀ k, k < r.length → ((w.setCell ⟨b, o, none⟩ u).cell? ⟨b, o + 1 + k, none⟩).isSome = true := fun k hk => by
      rw [World.cell?_setCell_other _ _ _ _ (by simp only [ne_eq, Addr.mk.injEq]; omega)]
      have := h (k + 1) (by simp; omega)
      rwa [show o + (k + 1) = o + 1 + k by omega] at this
    cases j with
    | zero =>
      simp only [List.getElem?_cons_zero, Option.some.injEq] at e
      subst e
      obtain ⟨x, hx⟩ := Option.isSome_iff_exists.1 (h 0 (by simp))
      have h1 := World.cell?_setCell_same (w := w) (a := ⟨b, o, none⟩) (v := u) hx
      exact (Step.setCells b r (o + 1) _).cell (fun h => by have := h.2.1; omega) h1
    | succ j =>
      rw [show o + (j + 1) = o + 1 + j by omega]
      exact cell_setCells b r (o + 1) _ hs j v (by simpa using e)

theorem frozen_setCells (b : Nat) : ∀ (vs : List Value) (o : Nat) (w : World) (ad : Addr), (w.setCells b o vs).frozen? ad = w.frozen? ad
  | [], _, _, _ => rfl
  | v :: r, o, w, ad => by
    show ((w.setCell ⟨b, o, none⟩ v).setCells b (o + 1) r).frozen? ad = _
    rw [frozen_setCells b r, World.frozen?_setCell]

/-- the contents behind a store -/
def splice (cs : List Value) (k : Nat) (vs : List Value) : List Value := cs.take k ++ (vs ++ cs.drop (k + vs.length))

theorem splice_length {cs vs : List Value} {k : Nat} (h : k + vs.length ≤ cs.length) : (splice cs k vs).length = cs.length := by
  simp [splice]; omega
theorem splice_get {cs vs : List Value} {k : Nat} (h : k + vs.length ≤ cs.length) (j : Nat) : (splice cs k vs)[j]? = if k ≤ j ∧ j < k + vs.length then vs[j - k]? else cs[j]? := by
  unfold splice
  by_cases h1 : j < k
  · rw [List.getElem?_append_left (by simp; omega), List.getElem?_take, if_pos h1, if_neg (by omega)]
  · rw [List.getElem?_append_right (by simp; omega)]
    simp only [List.length_take]
    rw [show j - min k cs.length = j - k by omega]
    by_cases h2 : j < k + vs.length
    · rw [List.getElem?_append_left (by omega), if_pos ⟨by omega, h2⟩]
    · rw [List.getElem?_append_right (by omega), List.getElem?_drop, if_neg (by omega)]
      congr 1; omega

def Tb.put (tb : Tb) (i : Nat) (cs : List Value) : Tb := tb.set i { obAt tb i with cells := cs }

theorem put_get {tb : Tb} {i : Nat} {cs : List Value} {j : Nat} {o : Ob} (hi : i < tb.length) (h : (Tb.put tb i cs)[j]? = some o) : (j = i ∧ o = { obAt tb i with cells := cs }) ∨ (j ≠ i ∧ tb[j]? = some o) := by
  unfold Tb.put at h
  rw [List.getElem?_set] at h
  split at h
  · rename_i e
    first
      | exact .inl ⟨e.symm, (Option.some.inj h).symm⟩
      | (rw [if_pos hi] at h; exact .inl ⟨e.symm, (Option.some.inj h).symm⟩)
  · rename_i e
    exact .inr ⟨fun h' => e h'.symm, h⟩

theorem WOk.store {w0 w : World} {M : Nat → Nat → Prop} {tb : Tb} {rs : List Rw} (h : WOk w0 M w tb rs) {i k : Nat} {vs : List Value} (hi : i < tb.length) (hr : (obAt tb i).rw = true) (hk : k + vs.length ≤ (obAt tb i).cells.length) :
    WOk w0 M (w.setCells (obAt tb i).blk ((obAt tb i).off + k) vs) (Tb.put tb i (splice (obAt tb i).cells k vs)) rs := by
  have hob := obAt_of hi
  have hs := Step.setCells (obAt tb i).blk vs ((obAt tb i).off + k) w
  have hlen := splice_length hk
  have hsome : ∀ j, j < vs.length → (w.cell? ⟨(obAt tb i).blk, (obAt tb i).off + k + j, none⟩).isSome = true := fun j hj => by
    have := h.cells i _ hob (k + j) _ (List.getElem?_eq_getElem (show k + j < (obAt tb i).cells.length by omega))
    rw [Nat.add_assoc, this]; rfl
  refine ⟨h.step.trans hs ?_, ?_, ?_, ?_, ?_, ?_, h.ownM, ?_, h.rr⟩
  · intro b o hb hR
    obtain ⟨rfl, h1, h2⟩ := hR
    have := (h.rw_ i _ hob hr (o - (obAt tb i).off) (by omega)).1
    rw [show (obAt tb i).off + (o - (obAt tb i).off) = o by omega] at this
    rcases this with h3 | h3
    · omega
    · exact h3
  · intro j o hj q v hv
    rcases put_get hi hj with ⟨rfl, rfl⟩ | ⟨hne, hj⟩
    · dsimp only at hv ⊢
      rw [splice_get hk] at hv
      split at hv
      · rename_i hc
        have := cell_setCells (obAt tb j).blk vs _ w hsome (q - k) v hv
        rwa [show (obAt tb j).off + k + (q - k) = (obAt tb j).off + q by omega] at this
      · rename_i hc
        exact hs.cell (fun hR => hc ⟨by have := hR.2.1; omega, by have := hR.2.2; omega⟩) (h.cells j _ hob q v hv)
    · have hq : q < o.cells.length := (List.getElem?_eq_some_iff.1 hv).1
      refine hs.cell (fun hR => ?_) (h.cells j o hj q v hv)
      have := h.apart j i o _ hne hj hob (.inr hr)
      obtain ⟨h1, h2, h3⟩ := hR
      rcases this with g | g | g
      · exact g h1
      · omega
      · omega
  · intro j o hj
    rcases put_get hi hj with ⟨rfl, rfl⟩ | ⟨_, hj⟩
    · exact Nat.lt_of_lt_of_le (show (obAt tb j).blk < w.heap.size from h.live j _ hob) hs.size
    · exact Nat.lt_of_lt_of_le (h.live j o hj) hs.size
  · intro j o hj hro q hq
    have hfz := fun b o => frozen_setCells (obAt tb i).blk vs ((obAt tb i).off + k) w ⟨b, o, none⟩
    rcases put_get hi hj with ⟨rfl, rfl⟩ | ⟨_, hj⟩
    · dsimp only at hq ⊢
      rw [hlen] at hq
      rw [hfz]
      exact h.rw_ j _ hob hr q hq
    · rw [hfz]
      exact h.rw_ j o hj hro q hq
  · intro p q o o' hpq hp hq hw
    rcases put_get hi hp with ⟨rfl, rfl⟩ | ⟨hp1, hp'⟩
    · rcases put_get hi hq with ⟨rfl, rfl⟩ | ⟨_, hq'⟩
      · exact absurd rfl hpq
      · dsimp only
        rw [hlen]
        exact h.apart p q _ o' hpq hob hq' hw
    · rcases put_get hi hq with ⟨rfl, rfl⟩ | ⟨_, hq'⟩
      · dsimp only
        rw [hlen]
        exact h.apart p q o _ hpq hp' hob hw
      · exact h.apart p q o o' hpq hp' hq' hw
  · intro j r hj
    refine own_keep (h.own j r hj) fun g hg => (hs.keeps g (own_live (h.own j r hj) hg)).1 fun o hR => ?_
    exact h.rtb j r hj g hg i _ hob hR.1.symm
  · intro j r hj g hg q o hq
    rcases put_get hi hq with ⟨rfl, rfl⟩ | ⟨_, hq⟩
    · exact show (obAt tb q).blk ≠ g from h.rtb j r hj g hg q _ hob
    · exact h.rtb j r hj g hg q o hq
theorem Fr.store (w : World) {tb : Tb} (rs : List Rw) {i k : Nat} {vs : List Value} (hi : i < tb.length) (hr : (obAt tb i).rw = true) (hk : k + vs.length ≤ (obAt tb i).cells.length) :
    Fr w tb rs (w.setCells (obAt tb i).blk ((obAt tb i).off + k) vs) (Tb.put tb i (splice (obAt tb i).cells k vs)) rs := by
  have hob := obAt_of hi
  refine ⟨fun b o _ ha hc => ?_, (Step.setCells _ vs _ w).mono fun b o _ hR => .inl ⟨i, _, hob, hr, hR.1.symm, by have := hR.2.1; omega, by have := hR.2.2; omega⟩⟩
  rcases hc with ⟨j, ob, hj, hr', h1, h2, h3⟩ | h
  · rcases put_get hi hj with ⟨rfl, rfl⟩ | ⟨_, hj⟩
    · dsimp only at h1 h2 h3
      rw [splice_length hk] at h3
      exact ha (.inl ⟨j, _, hob, hr, h1, h2, h3⟩)
    · exact ha (.inl ⟨j, ob, hj, hr', h1, h2, h3⟩)
  · exact ha (.inr h)

theorem EnvOk.put_tb {n : Nat} {tb : Tb} {env : Env} {a : Act} (h : EnvOk n tb env a) (i : Nat) (cs : List Value) : EnvOk n (Tb.put tb i cs) env a := by
  refine h.table fun j hj => ?_
  have hl : (Tb.put tb i cs).length = tb.length := by simp [Tb.put]
  refine ⟨by rw [hl]; exact hj, ?_⟩
  by_cases hij : i = j
  · subst hij
    simp [Tb.put, obAt, List.getD_eq_getElem?_getD, List.getElem?_set, hj]
  · simp [Tb.put, obAt, List.getD_eq_getElem?_getD, List.getElem?_set, hij]

def allOne (vs : List Value) : Bool := match vs with
  | [] => true
  | v :: r => match v.oneCell' with
    | true => allOne r
    | false => false
theorem allOne_ok : ∀ {vs : List Value}, allOne vs = true → ∀ v ∈ vs, v.oneCell' = true
  | [], _, v, h => by cases h
  | u :: r, e, v, h => by
    simp only [allOne] at e
    split at e
    · rename_i hu
      rcases List.mem_cons.1 h with rfl | h
      · exact hu
      · exact allOne_ok e v h
    · cases e

section
variable {P : Program} {ops : Array Oper} {Q : Exit → Act → World → Prop} {n : Nat} {tb : Tb} {env : Env} {rs : List Rw} {w0 : World} {M : Nat → Nat → Prop} {a : Act} {w : World}

def storeE (P : Program) (tb : Tb) (env : Env) (ops : Array Oper) (i : Nat) : Option (Nat × List Value) :=
  match opAt0 ops i with
  | some (.store t ad x) => match opd env ad, opd env x, P.info? t with
    | some (.p oi k), some s, some inf =>
      let vs := (s.val tb).cells.toList
      match (obAt tb oi).rw, Nat.beq vs.length inf.size, Nat.ble (k + vs.length) (obAt tb oi).cells.length, allOne vs with
      | true, true, true, true => some (oi, splice (obAt tb oi).cells k vs)
      | _, _, _, _ => none
    | _, _, _ => none
  | _ => none

theorem wpOp_store {i oi : Nat} {cs : List Value} {N : Act → World → Prop} (hW : WOk w0 M w tb rs) (hE : EnvOk n tb env a) (h : storeE P tb env ops i = some (oi, cs))
    (k : ∀ w', Fr w tb rs w' (Tb.put tb oi cs) rs → WOk w0 M w' (Tb.put tb oi cs) rs → EnvOk n (Tb.put tb oi cs) env a → N a w') : wpOp P ops Q i N a w := by
  unfold storeE at h
  split at h
  · rename_i t ad x ho
    split at h
    · rename_i oi' kk s inf hs1 hs2 hi
      dsimp only at h
      split at h
      · rename_i hr hl hb h1
        simp only [Option.some.injEq, Prod.mk.injEq] at h
        obtain ⟨rfl, rfl⟩ := h
        have had := opd_ok hE hs1
        have hx := opd_ok hE hs2
        have hin : oi' < tb.length := had.2
        have hk : kk + (s.val tb).cells.toList.length ≤ (obAt tb oi').cells.length := Nat.le_of_ble_eq_true hb
        have hl' : (s.val tb).cells.size = inf.size := by have := Nat.eq_of_beq_eq_true hl; simpa using this
        refine wpOp_skip ho (w' := w.setCells (obAt tb oi').blk ((obAt tb oi').off + kk) (s.val tb).cells.toList) ?_ ?_
        · intro o hop
          unfold execOp
          rw [hop]
          have hrun : (Instr.storeAt t (a.eval ad) (a.eval x)).run P w = .ok () (w.setCells (obAt tb oi').blk ((obAt tb oi').off + kk) (s.val tb).cells.toList) := by
            have hst := run_storeCells_cells (P := P) (obAt tb oi').blk ((obAt tb oi').off + kk) (s.val tb).cells.toList 0 w
              (fun j hj => by
                have := hW.cells oi' _ (obAt_of hin) (kk + j) _ (List.getElem?_eq_getElem (show kk + j < (obAt tb oi').cells.length by omega))
                rw [Nat.add_zero, Nat.add_assoc, this]; rfl)
              (fun j hj => by
                have := (hW.rw_ oi' _ (obAt_of hin) hr (kk + j) (by omega)).2
                rw [Nat.add_zero, Nat.add_assoc, this])
              (allOne_ok h1)
            rw [Nat.add_zero] at hst
            unfold Instr.storeAt
            rw [had.1, hx.1]
            generalize s.val tb = u at *
            simp only [SV.val, Instr.sureAddr, Sem.run_bind, Sem.run_pure, Result.andThen_ok]
            unfold storeVar
            simp only [Sem.run_bind, run_sizeOf' hi, Result.andThen_ok, hl', ne_eq, not_true_eq_false, if_false, Sem.run_pure, hst]
          simp only [Sem.run_bind, hrun, Result.andThen_ok, Sem.run_pure]
        · exact k _ (Fr.store w rs hin hr hk) (hW.store hin hr hk) (hE.put_tb _ _)
      · cases h
    · cases h
  · cases h

def argsV (tb : Tb) (env : Env) : List Operand → Option (List Value)
  | [] => some []
  | x :: r => match opd env x with
    | some s => match argsV tb env r with
      | some l => some (s.val tb :: l)
      | none => none
    | none => none
theorem argsV_ok {a : Act} (h : EnvOk n tb env a) : ∀ {l : List Operand} {vs : List Value}, argsV tb env l = some vs → l.map a.eval = vs
  | [], vs, e => by simp only [argsV, Option.some.injEq] at e; subst e; rfl
  | x :: r, vs, e => by
    simp only [argsV] at e
    split at e
    · rename_i s hs
      split at e
      · rename_i l hl
        simp only [Option.some.injEq] at e
        subst e
        simp only [List.map_cons, (opd_ok h hs).1, argsV_ok h hl]
      · cases e
    · cases e

/-- a call of a function: its number, its arguments, where the answer goes -/
def callE (tb : Tb) (env : Env) (ops : Array Oper) (n i : Nat) : Option (FuncId × List Value × Nat) :=
  match opAt env ops n i with
  | some (.call c, d) => match c.callee with
    | .value x => match opd env x, argsV tb env c.args.toList with
      | some (.v (.func (.func f) first cap)), some vs => some (f, first.toList ++ vs ++ cap.toList, d)
      | _, _ => none
    | _ => none
  | _ => none

theorem wpOp_call {i d : Nat} {f : FuncId} {vs : List Value} {N : Act → World → Prop} {R : Ending → World → Prop} (hE : EnvOk n tb env a) (h : callE tb env ops n i = some (f, vs, d))
    (hf : ∀ args w, (callFunc f args).run P w = .ok (.enter f args) w) (hc : Calls P f vs.toArray w R)
    (k : ∀ e w', R e w' → ∃ v, e = .returned v ∧ ∀ a', EnvOk n tb ((d, .v v) :: env) a' → N a' w') : wpOp P ops Q i N a w := by
  unfold callE at h
  split at h
  · rename_i c d' ho
    split at h
    · rename_i x hcal
      split at h
      · rename_i f' first cap vs' hx hargs
        simp only [Option.some.injEq, Prod.mk.injEq] at h
        obtain ⟨rfl, rfl, rfl⟩ := h
        obtain ⟨o, h1, h2, h3, h4, h5⟩ := opAt_ok hE ho
        have hx' := (opd_ok hE hx).1
        have ha' : c.args.map a.eval = vs'.toArray := by
          apply Array.ext'
          simpa using argsV_ok hE hargs
        simp only [wpOp, h1]
        have : Region.wanted o (yielded ops a.tmps) = true := by first | exact h2 | simp [Region.wanted, h2]
        rw [this]
        simp only [if_true]
        refine .inl ?_
        have hr : (execOp a.eval o).run P w = .ok (.enter f' (first.toList ++ vs' ++ cap.toList).toArray) w := by
          unfold execOp
          rw [h5]
          simp only [resolve, hcal, hx', SV.val, Deferred.ofValue, ha', invoke, Sem.run_bind, Sem.run_pure, Result.andThen_ok, hf]
          congr 2
          apply Array.ext'
          simp
        unfold Oper.wp
        rw [hr, Oper.upon]
        refine hc.mono fun e w' he => ?_
        obtain ⟨v, rfl, hk⟩ := k e w' he
        show N (a.put o.dst v) w'
        rw [h3]
        exact hk _ (hE.put h4 (.v v) trivial)
      · cases h
    · cases h
  · cases h

theorem wpOps_nil (h : Q .normal a w) : wpOps P ops Q [] a w := h

/-! the code's structure -/
theorem seq_region {id : Nat} {y : Code} (h : wpOps P ops (Exit.then (y.wp P Q) Q) (List.range ops.size) a w) : (Code.seq (.region id ops false) y).wp P Q a w :=
  wp_seq (wp_region h)
theorem then_normal {N : Act → World → Prop} (h : N a w) : Exit.then N Q .normal a w := h
theorem then_exit {N : Act → World → Prop} {id : Nat} (h : Q (.exit id) a w) : Exit.then N Q (.exit id) a w := h
theorem then_ret {N : Act → World → Prop} (h : Q .ret a w) : Exit.then N Q .ret a w := h
theorem then_goto {N : Act → World → Prop} {l : Nat} (h : Q (.goto l) a w) : Exit.then N Q (.goto l) a w := h
theorem block_normal {id : Nat} (h : Q .normal a w) : Exit.inBlock id Q .normal a w := h
theorem block_exit {id : Nat} (h : Q .normal a w) : Exit.inBlock id Q (.exit id) a w := by simpa [Exit.inBlock] using h
theorem block_pass {id id' : Nat} (hne : id' ≠ id) (h : Q (.exit id') a w) : Exit.inBlock id Q (.exit id') a w := by simpa [Exit.inBlock, hne] using h
theorem block_ret {id : Nat} (h : Q .ret a w) : Exit.inBlock id Q .ret a w := h

theorem cond_of {x y : Code} {c : Operand} {b : Bool} (hE : EnvOk n tb env a) (hc : opd env c = some (.v (.bool b))) (h1 : b = true → x.wp P Q a w) (h2 : b = false → y.wp P Q a w) : (Code.cond c x y).wp P Q a w :=
  wp_cond_split (opd_ok hE hc).1 h1 h2
theorem cond_true {x y : Code} {c : Operand} {b : Bool} (hE : EnvOk n tb env a) (hc : opd env c = some (.v (.bool b))) (hb : b = true) (h1 : x.wp P Q a w) : (Code.cond c x y).wp P Q a w :=
  cond_of hE hc (fun _ => h1) (fun h => by rw [hb] at h; cases h)
theorem cond_false {x y : Code} {c : Operand} {b : Bool} (hE : EnvOk n tb env a) (hc : opd env c = some (.v (.bool b))) (hb : b = false) (h1 : y.wp P Q a w) : (Code.cond c x y).wp P Q a w :=
  cond_of hE hc (fun h => by rw [hb] at h; cases h) (fun _ => h1)
end

/-! entering -/
def envFrom : Nat → List Value → Env
  | _, [] => []
  | i, v :: r => (i, .v v) :: envFrom (i + 1) r

theorem lk_envFrom : ∀ (vs : List Value) (i s : Nat) (x : SV), lk (envFrom i vs) s = some x → i ≤ s ∧ ∃ v, vs[s - i]? = some v ∧ x = .v v
  | [], i, s, x, h => by cases h
  | v :: r, i, s, x, h => by
    simp only [envFrom, lk] at h
    split at h
    · rename_i hb
      have := Nat.eq_of_beq_eq_true hb
      subst this
      simp only [Option.some.injEq] at h
      exact ⟨Nat.le_refl _, v, by simp, h.symm⟩
    · obtain ⟨h1, u, h2, h3⟩ := lk_envFrom r (i + 1) s x h
      refine ⟨by omega, u, ?_, h3⟩
      rw [show s - i = (s - (i + 1)) + 1 by omega, List.getElem?_cons_succ]
      exact h2

theorem enter {P : Program} {f : FuncId} {fn : Func} {c : Code} {vs : List Value} {w : World} {R : Ending → World → Prop} {n : Nat} (hf : P.funcs[f]? = some fn) (hb : fn.body = some c) (hn : fn.ntmps = n) (hl : Nat.ble vs.length n = true)
    (h : ∀ a, EnvOk n [] (envFrom 0 vs) a → c.wp P (bodyPost P fn R) a w) : Calls P f vs.toArray w R := by
  refine calls_of_wp hf hb (h _ ⟨rfl, ?_, fun s x hx => ?_⟩)
  · have := Nat.le_of_ble_eq_true hl
    simp [hn]; omega
  · obtain ⟨_, v, h2, rfl⟩ := lk_envFrom vs 0 s x hx
    refine ⟨?_, trivial⟩
    show (vs.toArray ++ _)[s]? = some v
    rw [Nat.sub_zero] at h2
    have hs : s < vs.length := (List.getElem?_eq_some_iff.1 h2).1
    rw [Array.getElem?_append_left (by simpa using hs)]
    simpa using h2

/-! leaving -/
def resV (P : Program) (tb : Tb) (env : Env) : ResultVar → Option Value
  | .tmp t => match lk env t with
    | some s => some (s.val tb)
    | none => none
  | .cell t ty => match lk env t with
    | some (.p i k) => loadV P tb ty i k
    | _ => none
def resL (P : Program) (tb : Tb) (env : Env) : List ResultVar → Option (List Value)
  | [] => some []
  | r :: l => match resV P tb env r with
    | some v => match resL P tb env l with
      | some vs => some (v :: vs)
      | none => none
    | none => none
def resE (P : Program) (tb : Tb) (env : Env) (rs : Array ResultVar) : Option Value :=
  match resL P tb env rs.toList with
  | some [v] => some v
  | some vs => some (.tuple vs.toArray)
  | none => none

def resM (tmps : Array Value) : ResultVar → Sem Value
  | .tmp t => pure (tmps.getD t undef)
  | .cell ad t => do loadVar t (← asAddr (tmps.getD ad undef))
theorem results_eq (fn : Func) (tmps : Array Value) : results fn tmps = (do
    let vs ← fn.results.mapM (resM tmps)
    pure (if h : vs.size = 1 then vs[0] else .tuple vs)) := by
  unfold results
  have h : (fun r : ResultVar => (match r with | .tmp t => pure (tmps.getD t undef) | .cell a t => do loadVar t (← asAddr (tmps.getD a undef)) : Sem Value)) = resM tmps := by
    funext r
    cases r <;> rfl
  rw [← h]
  rfl

theorem resV_ok {P : Program} {n : Nat} {tb : Tb} {env : Env} {a : Act} {w : World} (hE : EnvOk n tb env a) (hc : CellsOk w tb) {r : ResultVar} {v : Value} (h : resV P tb env r = some v) :
    (resM a.tmps r).run P w = .ok v w := by
  cases r with
  | tmp t =>
    simp only [resV] at h
    split at h
    · rename_i s hs
      simp only [Option.some.injEq] at h
      subst h
      have := (opd_ok hE (x := .tmp t) hs).1
      simp only [Act.eval] at this
      simp only [resM, this, Sem.run_pure]
    · cases h
  | cell t ty =>
    simp only [resV] at h
    split at h
    · rename_i i k hs
      have := opd_ok hE (x := .tmp t) hs
      simp only [Act.eval] at this
      simp only [resM, this.1, SV.val, asAddr, Sem.run_bind, Sem.run_pure, Result.andThen_ok, loadV_ok this.2 h hc]
    · cases h

theorem resL_ok {P : Program} {n : Nat} {tb : Tb} {env : Env} {a : Act} {w : World} (hE : EnvOk n tb env a) (hc : CellsOk w tb) : ∀ {rs : List ResultVar} {vs : List Value}, resL P tb env rs = some vs →
    (rs.mapM (resM a.tmps)).run P w = .ok vs w
  | [], vs, e => by simp only [resL, Option.some.injEq] at e; subst e; rfl
  | r :: l, vs, e => by
    simp only [resL] at e
    split at e
    · rename_i v hv
      split at e
      · rename_i us hu
        simp only [Option.some.injEq] at e
        subst e
        rw [List.mapM_cons, Sem.run_bind, resV_ok hE hc hv, Result.andThen_ok, Sem.run_bind, resL_ok hE hc hu]
        rfl
      · cases e
    · cases e

theorem leave {P : Program} {fn : Func} {R : Ending → World → Prop} {n : Nat} {tb : Tb} {env : Env} {a : Act} {w : World} {v : Value} (hE : EnvOk n tb env a) (hc : CellsOk w tb) (h : resE P tb env fn.results = some v) (hR : R (.returned v) w) :
    bodyPost P fn R .ret a w := by
  refine ⟨hE.defers, v, ?_, hR⟩
  unfold resE at h
  rw [results_eq]
  have key : ∀ {vs : List Value}, resL P tb env fn.results.toList = some vs → (fn.results.mapM (resM a.tmps)).run P w = .ok vs.toArray w := by
    intro vs hvs
    rw [← Array.toArray_toList (xs := fn.results), List.mapM_toArray, Sem.run_map, resL_ok hE hc hvs]
    rfl
  cases hrl : resL P tb env fn.results.toList with
  | none => rw [hrl] at h; cases h
  | some vs =>
    rw [hrl] at h
    rw [Sem.run_bind, key hrl, Result.andThen_ok]
    match vs, h with
    | [], h =>
      simp only [Option.some.injEq] at h
      subst h
      rfl
    | [u], h =>
      simp only [Option.some.injEq] at h
      subst h
      rfl
    | u :: u' :: r, h =>
      simp only [Option.some.injEq] at h
      subst h
      simp
theorem leave_end {P : Program} {fn : Func} {R : Ending → World → Prop} {n : Nat} {tb : Tb} {env : Env} {a : Act} {w : World} {v : Value} (hE : EnvOk n tb env a) (hc : CellsOk w tb) (h : resE P tb env fn.results = some v) (hR : R (.returned v) w) :
    bodyPost P fn R .normal a w := leave hE hc h hR

end Go.Proofs.Ytbjopfcbpobnpaa.ME
