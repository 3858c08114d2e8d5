/- The engine, second part: a run of operations that write nothing; calls, stores, new blocks; the structure of the code. Own work. -/
import Derived.Test.YtbjopfcbpobnpaaMea
import Derived.Deep.LoopGhost
namespace Go.Proofs.Ytbjopfcbpobnpaa.ME
open Go
set_option linter.unusedVariables false
set_option linter.unusedSimpArgs false

def convV (P : Program) (src dst : TypeId) (x : Value) : Option Value :=
  match P.underlying src, P.underlying dst, x with
  | some _, some (.int k), .int _ n => some (.int k (k.wrap n))
  | _, _, _ => none

def lenV (P : Program) (t : TypeId) (x : Value) : Option Value :=
  match P.underlying t, x with
  | some .string, .string s => some (.int .i64 s.size)
  | some (.slice _), .slice _ n _ => some (.int .i64 n)
  | _, _ => none

/-- one operation that writes nothing: what it yields -/
def run1 (P : Program) (tb : Tb) (env : Env) (o : Oper) : Option SV :=
  match o.op with
  | .move x => opd env x
  | .assign x => opd env x
  | .nilCheck x => match opd env x with
    | some (.p i k) => some (.p i k)
    | some (.v (.pointer (some a))) => some (.v (.pointer (some a)))
    | _ => none
  | .fieldAddr s x f => match P.underlying s with
    | some (.struct fields) => match fields.toList[f]? with
      | some fd => match P.info? fd.type with
        | some inf => match inf.size with
          | 0 => none
          | _ + 1 => match opd env x with
            | some (.p i k) => some (.p i (k + fd.offset))
            | some (.v (.pointer (some ⟨b, o, none⟩))) => some (.v (.pointer (some ⟨b, o + fd.offset, none⟩)))
            | _ => none
        | none => none
      | none => none
    | _ => none
  | .field t x f => match P.underlying t with
    | some (.struct fields) => match fields.toList[f]? with
      | some fd => match opd env x with
        | some (.v (.agg cs)) => match partV P fd.type cs fd.offset with
          | some v => some (.v v)
          | none => none
        | _ => none
      | none => none
    | _ => none
  | .load t x => match opd env x with
    | some (.p i k) => match loadV P tb t i k with
      | some v => some (.v v)
      | none => none
    | _ => none
  | .binOp op t x y _ => match opd env x, opd env y with
    | some s1, some s2 => match binV P op t x y (s1.val tb) (s2.val tb) with
      | some v => some (.v v)
      | none => none
    | _, _ => none
  | .unOp .not _ x => match opd env x with
    | some (.v (.bool b)) => some (.v (.bool !b))
    | _ => none
  | .convert s d x => match opd env x with
    | some (.v y) => match convV P s d y with
      | some v => some (.v v)
      | none => none
    | _ => none
  | .pick c x y => match opd env c, opd env x, opd env y with
    | some (.v (.bool b)), some (.v u), some (.v u') => some (.v (if b then u else u'))
    | _, _, _ => none
  | .build t ps => match partsV tb env ps.toList with
    | some l => match buildV P t l with
      | some v => some (.v v)
      | none => none
    | none => none
  | .extract x i => match opd env x with
    | some (.v (.tuple vs)) => match vs.toList[i]? with
      | some v => some (.v v)
      | none => none
    | _ => none
  | .makeInterface t x => match P.underlying t with
    | some d => match (match d with | .interface _ => true | _ => false) with
      | true => none
      | false => match opd env x with
        | some (.v v) => some (.v (.iface t v))
        | some (.p i k) => some (.v (.iface t (SV.val tb (.p i k))))
        | none => none
    | none => none
  | .slice t x none none none => match P.underlying t with
    | some (.array m e) => match P.info? e, opd env x with
      | some inf, some (.p i k) => some (.v (.slice (some ⟨(obAt tb i).blk, (obAt tb i).off + k, none⟩) m m))
      | _, _ => none
    | _ => none
  | .call c => match c.callee, c.args.toList, c.argTypes.toList with
    | .builtin .len, [x], [t] => match opd env x with
      | some (.v y) => match lenV P t y with
        | some v => some (.v v)
        | none => none
      | _ => none
    | .builtin .min, [x, y], _ => match opd env x, opd env y with
      | some (.v (.int k a)), some (.v (.int _ b)) => some (.v (.int k (if b < a then b else a)))
      | _, _ => none
    | .builtin .max, [x, y], _ => match opd env x, opd env y with
      | some (.v (.int k a)), some (.v (.int _ b)) => some (.v (.int k (if b > a then b else a)))
      | _, _ => none
    | _, _, _ => none
  | _ => none

theorem array_ext_toList {α : Type} {a b : Array α} (h : a.toList = b.toList) : a = b := Array.ext' h
theorem array_two {α : Type} {a : Array α} {x y : α} (h : a.toList = [x, y]) : a = #[x, y] := Array.ext' h
theorem toList_one {α : Type} {a : Array α} {x : α} (h : a.toList = [x]) : a = #[x] := Array.ext' h

set_option maxHeartbeats 1000000 in
theorem run1_ok {P : Program} {n : Nat} {tb : Tb} {env : Env} {a : Act} (h : EnvOk n tb env a) {o : Oper} {s : SV} (e : run1 P tb env o = some s) {w : World} (hc : CellsOk w tb) :
    (execOp a.eval o).run P w = .ok (.value (s.val tb)) w ∧ s.ok tb := by
  unfold run1 at e
  unfold execOp
  split at e
  · rename_i x hx
    rw [hx]; have := opd_ok h e
    exact ⟨by simp only [Sem.run_pure, this.1], this.2⟩
  · rename_i x hx
    rw [hx]; have := opd_ok h e
    exact ⟨by simp only [Sem.run_pure, this.1], this.2⟩
  · rename_i x hx
    rw [hx]
    split at e
    · rename_i i k hs
      have := opd_ok h hs
      simp only [Option.some.injEq] at e
      subst e
      simp only [this.1, SV.val, Sem.run_pure]
      exact ⟨trivial, this.2⟩
    · rename_i ad hs
      have := opd_ok h hs
      simp only [Option.some.injEq] at e
      subst e
      simp only [this.1, SV.val, Sem.run_pure]
      exact ⟨trivial, trivial⟩
    · cases e
  · rename_i st x f hx
    rw [hx]
    split at e
    · rename_i fields hd
      split at e
      · rename_i fd hfd
        split at e
        · rename_i inf hinf
          have hfd' : fields[f]? = some fd := by simpa using hfd
          split at e
          · cases e
          · rename_i m hm
            have hne : ¬ (inf.size = 0) := by omega
            split at e
            · rename_i i k hs
              have := opd_ok h hs
              simp only [Option.some.injEq] at e
              subst e
              refine ⟨?_, this.2⟩
              unfold Instr.fieldAt
              simp only [this.1, SV.val, Sem.run_bind, run_underlying hd, Result.andThen_ok, hfd', Instr.sureAddr, Sem.run_pure]
              unfold fieldPlace
              simp only [Sem.run_bind, run_sizeOf' hinf, Result.andThen_ok, if_neg hne, Sem.run_pure, add_none, Nat.add_assoc]
            · rename_i b o' hs
              have := opd_ok h hs
              simp only [Option.some.injEq] at e
              subst e
              refine ⟨?_, trivial⟩
              unfold Instr.fieldAt
              simp only [this.1, SV.val, Sem.run_bind, run_underlying hd, Result.andThen_ok, hfd', Instr.sureAddr, Sem.run_pure]
              unfold fieldPlace
              simp only [Sem.run_bind, run_sizeOf' hinf, Result.andThen_ok, if_neg hne, Sem.run_pure, add_none]
            · cases e
        · cases e
      · cases e
    · cases e
  · rename_i t x f hx
    rw [hx]
    split at e
    · rename_i fields hd
      split at e
      · rename_i fd hfd
        have hfd' : fields[f]? = some fd := by simpa using hfd
        split at e
        · rename_i cs hs
          have := opd_ok h hs
          split at e
          · rename_i v hv
            simp only [Option.some.injEq] at e
            subst e
            refine ⟨?_, trivial⟩
            unfold Instr.field
            simp only [this.1, SV.val, Sem.run_bind, run_underlying hd, Result.andThen_ok, hfd', asAgg, Sem.run_pure, partV_ok hv]
          · cases e
        · cases e
      · cases e
    · cases e
  · rename_i t x hx
    rw [hx]
    split at e
    · rename_i i k hs
      have := opd_ok h hs
      split at e
      · rename_i v hv
        simp only [Option.some.injEq] at e
        subst e
        refine ⟨?_, trivial⟩
        unfold Instr.loadAt
        simp only [this.1, SV.val, Sem.run_bind, Instr.sureAddr, Sem.run_pure, Result.andThen_ok, loadV_ok this.2 hv hc]
      · cases e
    · cases e
  · rename_i op t x y yt hx
    rw [hx]
    split at e
    · rename_i s1 s2 hs1 hs2
      have h1 := opd_ok h hs1
      have h2 := opd_ok h hs2
      split at e
      · rename_i v hv
        simp only [Option.some.injEq] at e
        subst e
        refine ⟨?_, trivial⟩
        have := binV_ok hv w
        simp only [h1.1, h2.1]
        rw [Sem.run_bind, this]
        rfl
      · cases e
    · cases e
  · rename_i t x hx
    rw [hx]
    split at e
    · rename_i b hs
      have := opd_ok h hs
      simp only [Option.some.injEq] at e
      subst e
      refine ⟨?_, trivial⟩
      simp only [this.1, SV.val, Op.unary, Sem.run_bind, Sem.run_pure, Result.andThen_ok]
    · cases e
  · rename_i src dst x hx
    rw [hx]
    split at e
    · rename_i y hs
      have := opd_ok h hs
      split at e
      · rename_i v hv
        simp only [Option.some.injEq] at e
        subst e
        refine ⟨?_, trivial⟩
        unfold convV at hv
        split at hv
        · rename_i _ _ d k k' m hd1 hd2
          simp only [Option.some.injEq] at hv
          subst hv
          unfold convert
          simp only [this.1, SV.val, Sem.run_bind, run_underlying hd1, run_underlying hd2, Result.andThen_ok, Conv.intToInt, Sem.run_pure]
        · cases hv
      · cases e
    · cases e
  · rename_i c x y hx
    rw [hx]
    split at e
    · rename_i b u u' hs1 hs2 hs3
      have h1 := opd_ok h hs1
      have h2 := opd_ok h hs2
      have h3 := opd_ok h hs3
      simp only [Option.some.injEq] at e
      subst e
      refine ⟨?_, trivial⟩
      simp only [h1.1, h2.1, h3.1, SV.val, asBool, Sem.run_bind, Sem.run_pure, Result.andThen_ok]
    · cases e
  · rename_i t ps hx
    rw [hx]
    split at e
    · rename_i l hl
      split at e
      · rename_i v hv
        simp only [Option.some.injEq] at e
        subst e
        refine ⟨?_, trivial⟩
        have hp : (ps.map fun (i, x) => (i, a.eval x)) = l.toArray := by
          apply Array.ext'
          simpa using partsV_ok h hl
        simp only [hp, Sem.run_bind, buildV_ok hv, Result.andThen_ok, Sem.run_pure, SV.val]
      · cases e
    · cases e
  · rename_i x i hx
    rw [hx]
    split at e
    · rename_i vs hs
      have := opd_ok h hs
      split at e
      · rename_i v hv
        simp only [Option.some.injEq] at e
        subst e
        refine ⟨?_, trivial⟩
        have hv' : vs[i]? = some v := by simpa using hv
        simp only [this.1, SV.val, Instr.extract, hv', Sem.run_bind, Sem.run_pure, Result.andThen_ok]
      · cases e
    · cases e
  · rename_i t x hx
    rw [hx]
    split at e
    · rename_i d hd
      split at e
      · cases e
      · rename_i hni
        have key : ∀ y : Value, (Instr.makeInterface t y).run P w = .ok (.iface t y) w := by
          intro y
          unfold Instr.makeInterface
          rw [Sem.run_bind, run_underlying hd, Result.andThen_ok]
          cases d <;> first | rfl | (exact absurd hni (by simp))
        split at e
        · rename_i v hs
          have := opd_ok h hs
          simp only [Option.some.injEq] at e
          subst e
          refine ⟨?_, trivial⟩
          simp only [this.1, SV.val, Sem.run_bind, key, Sem.run_pure, Result.andThen_ok]
        · rename_i i k hs
          have := opd_ok h hs
          simp only [Option.some.injEq] at e
          subst e
          refine ⟨?_, trivial⟩
          simp only [this.1, SV.val, Sem.run_bind, key, Sem.run_pure, Result.andThen_ok]
        · cases e
    · cases e
  · rename_i t x hx
    rw [hx]
    split at e
    · rename_i m e' hd
      split at e
      · rename_i inf i k hi hs
        have := opd_ok h hs
        simp only [Option.some.injEq] at e
        subst e
        refine ⟨?_, trivial⟩
        simp only [this.1, SV.val, Option.map_none]
        unfold Instr.sliceAt
        simp only [Sem.run_bind, run_underlying hd, Result.andThen_ok, Instr.sureAddr, Sem.run_pure, Instr.sliceBounds, run_sizeOf' hi, if_true, Nat.sub_zero, Nat.zero_mul, add_none, Nat.add_zero, ite_self]
      · cases e
    · cases e
  · rename_i c hx
    rw [hx]
    split at e
    · rename_i x t hcal hargs hats
      split at e
      · rename_i y hs
        have := opd_ok h hs
        split at e
        · rename_i v hv
          simp only [Option.some.injEq] at e
          subst e
          refine ⟨?_, trivial⟩
          have ha := toList_one hargs
          have ht := toList_one hats
          unfold lenV at hv
          split at hv
          · rename_i hd
            simp only [Option.some.injEq] at hv
            subst hv
            simp [resolve, hcal, ha, ht, invoke, builtin, Builtin.len_, this.1, SV.val, run_underlying hd, goInt]
          · rename_i hd
            simp only [Option.some.injEq] at hv
            subst hv
            simp [resolve, hcal, ha, ht, invoke, builtin, Builtin.len_, this.1, SV.val, run_underlying hd, goInt]
          · cases hv
        · cases e
      · cases e
    · rename_i x y ats hcal hargs
      split at e
      · rename_i k a1 k' b1 hs1 hs2
        have h1 := opd_ok h hs1
        have h2 := opd_ok h hs2
        simp only [Option.some.injEq] at e
        subst e
        refine ⟨?_, trivial⟩
        have ha := array_two hargs
        simp [resolve, hcal, ha, invoke, builtin, Builtin.min_, Builtin.min2, h1.1, h2.1, SV.val]
      · cases e
    · rename_i x y ats hcal hargs
      split at e
      · rename_i k a1 k' b1 hs1 hs2
        have h1 := opd_ok h hs1
        have h2 := opd_ok h hs2
        simp only [Option.some.injEq] at e
        subst e
        refine ⟨?_, trivial⟩
        have ha := array_two hargs
        simp [resolve, hcal, ha, invoke, builtin, Builtin.max_, Builtin.max2, h1.1, h2.1, SV.val]
      · cases e
    · cases e
  · cases e

def guardE (ops : Array Oper) (env : Env) (o : Oper) : Option Bool :=
  match o.guard with
  | none => some true
  | some (j, want) => match ops.toList[j]? with
    | some oj => match oj.dst with
      | some t => match lk env t with
        | some (.v (.bool b)) => some (b == want)
        | some (.v (.tuple _)) => some false
        | _ => none
      | none => none
    | none => none

theorem guardE_ok {ops : Array Oper} {n : Nat} {tb : Tb} {env : Env} {a : Act} (h : EnvOk n tb env a) {o : Oper} {b : Bool} (e : guardE ops env o = some b) : Region.wanted o (yielded ops a.tmps) = b := by
  unfold guardE at e
  unfold Region.wanted
  split at e
  · rename_i hg
    simp only [Option.some.injEq] at e
    subst e
    rw [hg]
  · rename_i j want hg
    rw [hg]
    split at e
    · rename_i oj hj
      have hj' : ops[j]? = some oj := by simpa using hj
      split at e
      · rename_i t ht
        split at e
        · rename_i b' hl
          simp only [Option.some.injEq] at e
          subst e
          have := (h.at_ t _ hl).1
          simp only [yielded, hj', Option.bind_some, ht, this, SV.val]
          cases b' <;> cases want <;> rfl
        · rename_i vs hl
          simp only [Option.some.injEq] at e
          subst e
          have := (h.at_ t _ hl).1
          simp only [yielded, hj', Option.bind_some, ht, this, SV.val]
          cases want <;> rfl
        · cases e
      · cases e
    · cases e

/-- a run of operations that write nothing -/
def runs (P : Program) (ops : Array Oper) (n : Nat) (tb : Tb) : List Nat → Env → Option Env
  | [], env => some env
  | i :: r, env => match ops.toList[i]? with
    | none => none
    | some o => match o.dst with
      | none => none
      | some d => match Nat.blt d n with
        | false => none
        | true => match guardE ops env o with
          | some true => match run1 P tb env o with
            | some s => runs P ops n tb r ((d, s) :: env)
            | none => none
          | some false => runs P ops n tb r ((d, .v undef) :: env)
          | none => none

section
variable {P : Program} {ops : Array Oper} {Q : Exit → Act → World → Prop} {n : Nat} {tb : Tb}

theorem wpOps_runs {w : World} (hc : CellsOk w tb) : ∀ {idxs : List Nat} {rest : List Nat} {env env' : Env} {a : Act}, EnvOk n tb env a → runs P ops n tb idxs env = some env' →
    (∀ a', EnvOk n tb env' a' → wpOps P ops Q rest a' w) → wpOps P ops Q (idxs ++ rest) a w
  | [], rest, env, env', a, h, e, k => by
    simp only [runs, Option.some.injEq] at e
    subst e
    exact k a h
  | i :: r, rest, env, env', a, h, e, k => by
    simp only [runs] at e
    split at e
    · cases e
    · rename_i o ho
      have ho' : ops[i]? = some o := by simpa using ho
      split at e
      · cases e
      · rename_i d hd
        split at e
        · cases e
        · rename_i hlt
          have hlt' : d < n := by simpa [Nat.blt_eq] using hlt
          simp only [List.cons_append, wpOps, ho']
          split at e
          · rename_i hg
            rw [guardE_ok h hg]
            simp only [if_true]
            split at e
            · rename_i s hs
              have hr := run1_ok h hs hc
              refine .inl ?_
              unfold Oper.wp
              rw [hr.1]
              show wpOps P ops Q (r ++ rest) (a.put o.dst (s.val tb)) w
              rw [hd]
              exact wpOps_runs hc (h.put hlt' s hr.2) e k
            · cases e
          · rename_i hg
            rw [guardE_ok h hg]
            simp only [Bool.false_eq_true, if_false, hd]
            exact wpOps_runs hc (h.put hlt' (.v undef) trivial) e k
          · cases e
end

/-- the slots that go on living -/
def pick (env : Env) : List Nat → Option Env
  | [] => some []
  | s :: r => match lk env s with
    | some x => match pick env r with
      | some l => some ((s, x) :: l)
      | none => none
    | none => none

theorem pick_ok {env : Env} : ∀ {ks : List Nat} {env' : Env}, pick env ks = some env' → ∀ s x, lk env' s = some x → lk env s = some x
  | [], env', e, s, x, hl => by simp only [pick, Option.some.injEq] at e; subst e; cases hl
  | k :: r, env', e, s, x, hl => by
    simp only [pick] at e
    split at e
    · rename_i y hy
      split at e
      · rename_i l hl'
        simp only [Option.some.injEq] at e
        subst e
        simp only [lk] at hl
        split at hl
        · rename_i hb
          have := Nat.eq_of_beq_eq_true hb
          subst this
          rw [hy]; exact hl
        · exact pick_ok hl' s x hl
      · cases e
    · cases e

theorem EnvOk.pick {n : Nat} {tb : Tb} {env env' : Env} {a : Act} {ks : List Nat} (h : EnvOk n tb env a) (e : pick env ks = some env') : EnvOk n tb env' a :=
  ⟨h.defers, h.size, fun s x hl => h.at_ s x (pick_ok e s x hl)⟩

end Go.Proofs.Ytbjopfcbpobnpaa.ME
