/- The engine, first part: symbolic values, slots, known memory, and the run of operations that write nothing. Own work. -/
import Derived.WalkKit
import Derived.KernelRfl
import Derived.OrdersHeld
namespace Go.Proofs.Ytbjopfcbpobnpaa.ME
open Go
set_option linter.unusedVariables false
set_option linter.unusedSimpArgs false

inductive SV where
  | v (x : Value)
  | p (i k : Nat)

structure Ob where
  blk : Nat
  off : Nat
  cells : List Value
  rw : Bool

abbrev Tb := List Ob
def obAt (tb : Tb) (i : Nat) : Ob := tb.getD i ⟨0, 0, [], false⟩

def SV.val (tb : Tb) : SV → Value
  | .v x => x
  | .p i k => .pointer (some ⟨(obAt tb i).blk, (obAt tb i).off + k, none⟩)
def SV.ok (tb : Tb) : SV → Prop
  | .v _ => True
  | .p i _ => i < tb.length

abbrev Env := List (Nat × SV)
def lk : Env → Nat → Option SV
  | [], _ => none
  | (s, x) :: r, t => match Nat.beq s t with | true => some x | false => lk r t

structure EnvOk (n : Nat) (tb : Tb) (env : Env) (a : Act) : Prop where
  defers : a.defers = []
  size : a.tmps.size = n
  at_ : ∀ s x, lk env s = some x → a.tmps[s]? = some (x.val tb) ∧ x.ok tb

def opd (env : Env) : Operand → Option SV
  | .tmp t => lk env t
  | .const v => some (.v v)
  | .global g => some (.v (.pointer (some ⟨g, 0, none⟩)))
  | .func f => some (.v (.func (.func f) #[] #[]))

theorem opd_ok {n : Nat} {tb : Tb} {env : Env} {a : Act} (h : EnvOk n tb env a) {x : Operand} {s : SV} (e : opd env x = some s) : a.eval x = s.val tb ∧ s.ok tb := by
  cases x with
  | tmp t =>
    have := h.at_ t s e
    refine ⟨?_, this.2⟩
    show a.tmps.getD t undef = _
    rw [Array.getD_eq_getD_getElem?, this.1]; rfl
  | const v => simp only [opd, Option.some.injEq] at e; subst e; exact ⟨rfl, trivial⟩
  | global g => simp only [opd, Option.some.injEq] at e; subst e; exact ⟨rfl, trivial⟩
  | func f => simp only [opd, Option.some.injEq] at e; subst e; exact ⟨rfl, trivial⟩

theorem EnvOk.put {n : Nat} {tb : Tb} {env : Env} {a : Act} (h : EnvOk n tb env a) {d : Nat} (hd : d < n) (s : SV) (hs : s.ok tb) : EnvOk n tb ((d, s) :: env) (a.put (some d) (s.val tb)) := by
  refine ⟨h.defers, by simpa [Act.put] using h.size, fun t x e => ?_⟩
  simp only [lk] at e
  show (a.tmps.setIfInBounds d (s.val tb))[t]? = _ ∧ _
  rw [Array.getElem?_setIfInBounds]
  by_cases hdt : d = t
  · subst hdt
    rw [Nat.beq_refl] at e
    simp only [Option.some.injEq] at e
    subst e
    rw [if_pos rfl, if_pos (by rw [h.size]; exact hd)]
    exact ⟨rfl, hs⟩
  · have : Nat.beq d t = false := by
      cases hb : Nat.beq d t with
      | false => rfl
      | true => exact absurd (Nat.eq_of_beq_eq_true hb) hdt
    rw [this] at e
    rw [if_neg hdt]
    exact h.at_ t x e

/-- what is known of memory -/
def CellsOk (w : World) (tb : Tb) : Prop := ∀ (i : Nat) (o : Ob), tb[i]? = some o → ∀ (j : Nat) (v : Value), o.cells[j]? = some v → w.cell? ⟨o.blk, o.off + j, none⟩ = some v

theorem obAt_of {tb : Tb} {i : Nat} (h : i < tb.length) : tb[i]? = some (obAt tb i) := by
  simp [obAt, List.getElem?_eq_getElem h]

theorem CellsOk.at_ {w : World} {tb : Tb} (h : CellsOk w tb) {i j : Nat} (hi : i < tb.length) {v : Value} (e : (obAt tb i).cells[j]? = some v) : w.cell? ⟨(obAt tb i).blk, (obAt tb i).off + j, none⟩ = some v :=
  h i _ (obAt_of hi) j v e

def oneB (d : TypeDesc) : Bool := match d with | .struct _ | .array _ _ => false | _ => true

theorem run_isAggB {P : Program} {t : TypeId} {d : TypeDesc} (h : P.underlying t = some d) (w : World) : (isAgg t).run P w = .ok (!oneB d) w := by
  unfold isAgg
  simp only [Sem.run_bind, run_underlying h, Result.andThen_ok]
  cases d <;> rfl

theorem run_typeInfo' {P : Program} {t : TypeId} {i : TypeInfo} (h : P.info? t = some i) (w : World) : (typeInfo t).run P w = .ok i w := by
  unfold typeInfo
  simp only [Sem.run_bind, run_program, Result.andThen_ok, h, Sem.run_pure]

theorem run_sizeOf' {P : Program} {t : TypeId} {i : TypeInfo} (h : P.info? t = some i) (w : World) : (sizeOf t).run P w = .ok i.size w := by
  unfold sizeOf
  simp only [Sem.run_bind, run_typeInfo' h, Result.andThen_ok, Sem.run_pure]

theorem run_zeroValue' {P : Program} {t : TypeId} {i : TypeInfo} {z : Value} (h : P.info? t = some i) (hz : i.zero = some z) (w : World) : (zeroValue t).run P w = .ok z w := by
  unfold zeroValue
  simp only [Sem.run_bind, run_typeInfo' h, Result.andThen_ok, hz, Sem.run_pure]

theorem run_loadVar_one {P : Program} {t : TypeId} {d : TypeDesc} (hd : P.underlying t = some d) (ho : oneB d = true) {a : Addr} {v : Value} {w : World} (hc : w.cell? a = some v) : (loadVar t a).run P w = .ok v w := by
  unfold loadVar
  simp only [Sem.run_bind, run_isAggB hd, ho, Result.andThen_ok, Bool.not_true, Bool.false_eq_true, if_false, run_load, hc]

theorem run_loadVar_agg {P : Program} {t : TypeId} {d : TypeDesc} {i : TypeInfo} (hd : P.underlying t = some d) (ho : oneB d = false) (hi : P.info? t = some i) {a : Addr} {cs : List Value} (hl : cs.length = i.size) {w : World}
    (hc : ∀ j v, cs[j]? = some v → w.cell? (a.add j) = some v) : (loadVar t a).run P w = .ok (.agg cs.toArray) w := by
  unfold loadVar
  simp only [Sem.run_bind, run_isAggB hd, ho, Result.andThen_ok, Bool.not_false, if_true, run_sizeOf' hi, ← hl, run_loadCells_list w a cs hc, Sem.run_pure]

theorem add_none (b o k : Nat) : (⟨b, o, none⟩ : Addr).add k = ⟨b, o + k, none⟩ := by
  unfold Addr.add; split <;> simp_all

/-- a load out of known memory -/
def loadV (P : Program) (tb : Tb) (t : TypeId) (i k : Nat) : Option Value :=
  match P.underlying t, P.info? t with
  | some d, some inf =>
    match oneB d with
    | true => (obAt tb i).cells[k]?
    | false =>
      let cs := ((obAt tb i).cells.drop k).take inf.size
      match Nat.beq cs.length inf.size with
      | true => some (.agg cs.toArray)
      | false => none
  | _, _ => none

theorem loadV_ok {P : Program} {tb : Tb} {t : TypeId} {i k : Nat} {v : Value} (hi : i < tb.length) (h : loadV P tb t i k = some v) {w : World} (hc : CellsOk w tb) :
    (loadVar t ⟨(obAt tb i).blk, (obAt tb i).off + k, none⟩).run P w = .ok v w := by
  unfold loadV at h
  split at h
  · rename_i d inf hd hinf
    split at h
    · rename_i ho
      exact run_loadVar_one hd ho (hc.at_ hi h)
    · rename_i ho
      dsimp only at h
      split at h
      · rename_i hl
        simp only [Option.some.injEq] at h
        subst h
        refine run_loadVar_agg hd ho hinf (Nat.eq_of_beq_eq_true hl) fun j v hj => ?_
        rw [add_none, Nat.add_assoc]
        refine hc.at_ hi ?_
        rw [List.getElem?_take] at hj
        split at hj
        · rwa [List.getElem?_drop] at hj
        · cases hj
      · cases h
  · cases h

def partV (P : Program) (t : TypeId) (cs : Array Value) (off : Nat) : Option Value :=
  match P.underlying t, P.info? t with
  | some d, some inf =>
    match oneB d with
    | true => cs.toList[off]?
    | false => some (.agg ((cs.toList.drop off).take inf.size).toArray)
  | _, _ => none

theorem partV_ok {P : Program} {t : TypeId} {cs : Array Value} {off : Nat} {v : Value} (h : partV P t cs off = some v) (w : World) : (part t cs off).run P w = .ok v w := by
  unfold partV at h
  unfold part
  split at h
  · rename_i d inf hd hinf
    split at h
    · rename_i ho
      have h' : cs[off]? = some v := by simpa using h
      simp only [Sem.run_bind, run_isAggB hd, ho, Result.andThen_ok, Bool.not_true, Bool.false_eq_true, if_false, h', Sem.run_pure]
    · rename_i ho
      simp only [Option.some.injEq] at h
      subst h
      simp only [Sem.run_bind, run_isAggB hd, ho, Result.andThen_ok, Bool.not_false, if_true, run_sizeOf' hinf, Sem.run_pure]
      congr 2
      apply Array.ext'
      rw [Array.toList_extract]
      simp [List.extract]
  · cases h

def intBin (op : BinOp) (k : IntKind) (a b : Int) : Option Value :=
  match op with
  | .add => some (.int k (k.wrap (a + b)))
  | .sub => some (.int k (k.wrap (a - b)))
  | .mul => some (.int k (k.wrap (a * b)))
  | .eql => some (.bool (a == b))
  | .neq => some (.bool (a != b))
  | .lss => some (.bool (decide (a < b)))
  | .leq => some (.bool (decide (a ≤ b)))
  | .gtr => some (.bool (decide (a > b)))
  | .geq => some (.bool (decide (a ≥ b)))
  | .and => some (.int k (k.wrap (BitVec.ofInt k.bits a &&& BitVec.ofInt k.bits b).toNat))
  | .or => some (.int k (k.wrap (BitVec.ofInt k.bits a ||| BitVec.ofInt k.bits b).toNat))
  | .xor => some (.int k (k.wrap (BitVec.ofInt k.bits a ^^^ BitVec.ofInt k.bits b).toNat))
  | .rem => match decide (b = 0) with
    | true => none
    | false => some (.int k (a.tmod b))
  | .quo => match decide (b = 0) with
    | true => none
    | false => some (.int k (k.wrap (a.tdiv b)))
  | _ => none

def shlV (k : IntKind) (a b : Int) : Option Value :=
  match decide (b < 0) with
  | false => some (.int k (k.wrap (a * 2 ^ (min b.toNat k.bits))))
  | true => none
def shrV (k : IntKind) (a b : Int) : Option Value :=
  match decide (b < 0) with
  | false => some (.int k (a.fdiv (2 ^ (min b.toNat k.bits))))
  | true => none

def isConstO : Operand → Bool
  | .const _ => true
  | _ => false

def eqV (op : BinOp) (b : Bool) : Option Value :=
  match op with
  | .eql => some (.bool b)
  | .neq => some (.bool !b)
  | _ => none

def binV (P : Program) (op : BinOp) (t : TypeId) (x y : Operand) (a b : Value) : Option Value :=
  match a, b with
  | .int k m, .int k' m' => match op with
    | .shl => shlV k m m'
    | .shr => shrV k m m'
    | op => match decide (k = k') with
      | true => intBin op k m m'
      | false => none
  | .bool p, .bool q => match P.underlying t with
    | some .bool => eqV op (p == q)
    | _ => none
  | .string s, .string s' => eqV op (s.toList == s'.toList)
  | .pointer p, .pointer none => match P.underlying t with
    | some (.pointer _) => eqV op p.isNone
    | _ => none
  | .slice A _ _, .slice none _ _ => match P.underlying t with
    | some (.slice _) => eqV op A.isNone
    | _ => none
  | .map r, .map none => match P.underlying t with
    | some (.map _ _) => eqV op r.isNone
    | _ => none
  | .iface _ _, .nilIface => match P.underlying t with
    | some (.interface _) => eqV op false
    | _ => none
  | .nilIface, .nilIface => match P.underlying t, (isConstO x || isConstO y) with
    | some (.interface _), true => eqV op true
    | _, _ => none
  | _, _ => none

def plainV : Value → Bool
  | .nilIface | .agg _ => false
  | _ => true
theorem eqGuard_plain {op : BinOp} {t : TypeId} {x y : Operand} {a b : Value} (h : plainV a = true) (P : Program) (w : World) : (eqGuard op t x y a b).run P w = .ok () w := by
  cases op <;> first
    | rfl
    | (cases a <;> first
        | rfl
        | (simp [plainV] at h; done)
        | (cases b <;> rfl))
theorem eqGuard_nil {op : BinOp} {t : TypeId} {x y : Operand} (h : (isConstO x || isConstO y) = true) (P : Program) (w : World) : (eqGuard op t x y .nilIface .nilIface).run P w = .ok () w := by
  cases op <;> first
    | rfl
    | (cases x <;> cases y <;> first | rfl | (simp [isConstO] at h; done))

theorem equal_step (t : TypeId) (x y : Value) : Op.equal t x y = Op.equalIn (9999 + 1) t x y := rfl
theorem run_equal {P : Program} {w : World} {t : TypeId} {x y : Value} {b : Bool} {op : BinOp} {v : Value} (he : (Op.equal t x y).run P w = .ok b w) (hv : eqV op b = some v) (h1 : ∀ o, o = .eql ∨ o = .neq → (binOp o t x y) = (do let r ← Op.equal t x y; pure (.bool (if o = .eql then r else !r)))) : (binOp op t x y).run P w = .ok v w := by
  unfold eqV at hv
  split at hv
  · simp only [Option.some.injEq] at hv
    subst hv
    rw [h1 _ (.inl rfl), Sem.run_bind, he]
    rfl
  · simp only [Option.some.injEq] at hv
    subst hv
    rw [h1 _ (.inr rfl), Sem.run_bind, he]
    rfl
  · cases hv

set_option maxHeartbeats 1000000 in
theorem binV_ok {P : Program} {op : BinOp} {t : TypeId} {x y : Operand} {a b v : Value} (h : binV P op t x y a b = some v) (w : World) : (do eqGuard op t x y a b; binOp op t a b : Sem Value).run P w = .ok v w := by
  unfold binV at h
  split at h
  · rename_i k m k' m'
    rw [Sem.run_bind, eqGuard_plain rfl, Result.andThen_ok]
    split at h
    · unfold shlV at h
      split at h
      · rename_i hb; simp only [Option.some.injEq] at h; subst h
        have hb' : ¬ m' < 0 := of_decide_eq_false hb
        simp [binOp, Op.shift, hb']
      · cases h
    · unfold shrV at h
      split at h
      · rename_i hb; simp only [Option.some.injEq] at h; subst h
        have hb' : ¬ m' < 0 := of_decide_eq_false hb
        simp [binOp, Op.shift, hb']
      · cases h
    · rename_i hn1 hn2
      split at h
      · rename_i hk
        have hk' : k = k' := of_decide_eq_true hk
        subst hk'
        unfold binOp
        cases op <;> simp only [intBin, Option.some.injEq, reduceCtorEq] at h <;> first
          | (subst h; simp [Op.intArith, Op.intCmp, Op.intBits]; done)
          | (split at h
             · cases h
             · rename_i hb
               have hb' : ¬ m' = 0 := of_decide_eq_false hb
               simp only [Option.some.injEq] at h
               subst h
               simp [Op.intDiv, hb'])
          | skip
      · cases h
  · rename_i p q
    rw [Sem.run_bind, eqGuard_plain rfl, Result.andThen_ok]
    split at h
    · rename_i hd
      exact run_equal (by (rw [equal_step]; generalize 9999 = dd; simp [Op.equalIn, run_underlying hd])) h (fun o ho => by rcases ho with rfl | rfl <;> rfl)
    · cases h
  · rename_i s s'
    rw [Sem.run_bind, eqGuard_plain rfl, Result.andThen_ok]
    unfold eqV at h
    split at h
    · simp only [Option.some.injEq] at h; subst h; rfl
    · simp only [Option.some.injEq] at h; subst h; rfl
    · cases h
  · rename_i p
    rw [Sem.run_bind, eqGuard_plain rfl, Result.andThen_ok]
    split at h
    · rename_i e hd
      refine run_equal ?_ h (fun o ho => by rcases ho with rfl | rfl <;> rfl)
      cases p <;> (rw [equal_step]; generalize 9999 = dd; simp [Op.equalIn, run_underlying hd])
    · cases h
  · rename_i A n c n' c'
    rw [Sem.run_bind, eqGuard_plain rfl, Result.andThen_ok]
    split at h
    · rename_i e hd
      refine run_equal ?_ h (fun o ho => by rcases ho with rfl | rfl <;> rfl)
      cases A <;> (rw [equal_step]; generalize 9999 = dd; simp [Op.equalIn, run_underlying hd])
    · cases h
  · rename_i r
    rw [Sem.run_bind, eqGuard_plain rfl, Result.andThen_ok]
    split at h
    · rename_i k e hd
      refine run_equal ?_ h (fun o ho => by rcases ho with rfl | rfl <;> rfl)
      cases r <;> (rw [equal_step]; generalize 9999 = dd; simp [Op.equalIn, run_underlying hd])
    · cases h
  · rename_i ti vi
    rw [Sem.run_bind, eqGuard_plain rfl, Result.andThen_ok]
    split at h
    · rename_i ms hd
      exact run_equal (by (rw [equal_step]; generalize 9999 = dd; simp [Op.equalIn, run_underlying hd])) h (fun o ho => by rcases ho with rfl | rfl <;> rfl)
    · cases h
  · split at h
    · rename_i ms hd hc
      rw [Sem.run_bind, eqGuard_nil hc, Result.andThen_ok]
      exact run_equal (by (rw [equal_step]; generalize 9999 = dd; simp [Op.equalIn, run_underlying hd])) h (fun o ho => by rcases ho with rfl | rfl <;> rfl)
    · cases h
  · cases h

/-- two SVs' parts of a build, as values -/
def partsV (tb : Tb) (env : Env) : List (Nat × Operand) → Option (List (Nat × Value))
  | [] => some []
  | (i, x) :: r => match opd env x with
    | some s => match partsV tb env r with
      | some l => some ((i, s.val tb) :: l)
      | none => none
    | none => none

theorem partsV_ok {n : Nat} {tb : Tb} {env : Env} {a : Act} (h : EnvOk n tb env a) : ∀ {l : List (Nat × Operand)} {vs : List (Nat × Value)}, partsV tb env l = some vs → l.map (fun (i, x) => (i, a.eval x)) = vs
  | [], vs, e => by simp only [partsV, Option.some.injEq] at e; subst e; rfl
  | (i, x) :: r, vs, e => by
    simp only [partsV] at e
    split at e
    · rename_i s hs
      split at e
      · rename_i l hl
        simp only [Option.some.injEq] at e
        subst e
        simp only [List.map_cons, (opd_ok h hs).1, partsV_ok h hl]
      · cases e
    · cases e

def places (P : Program) : List Field → Option (List (Nat × Nat))
  | [] => some []
  | f :: r => match P.info? f.type with
    | some i => match places P r with
      | some l => some ((f.offset, i.size) :: l)
      | none => none
    | none => none

theorem run_places {P : Program} (w : World) : ∀ {l : List Field} {ps : List (Nat × Nat)}, places P l = some ps → (l.mapM fun f => (do pure (f.offset, ← sizeOf f.type) : Sem (Nat × Nat))).run P w = .ok ps w
  | [], ps, e => by simp only [places, Option.some.injEq] at e; subst e; rfl
  | f :: r, ps, e => by
    simp only [places] at e
    split at e
    · rename_i i hi
      split at e
      · rename_i l hl
        simp only [Option.some.injEq] at e
        subst e
        simp only [List.mapM_cons, Sem.run_bind, run_sizeOf' hi, Result.andThen_ok, Sem.run_pure, run_places w hl]
      · cases e
    · cases e

def buildV (P : Program) (t : TypeId) (parts : List (Nat × Value)) : Option Value :=
  match P.underlying t, P.info? t with
  | some (.struct fields), some inf =>
    match inf.zero, places P fields.toList with
    | some z, some ps => match Instr.fill (fun i => ps[i]?) z.cells parts with
      | some cs => some (.agg cs)
      | none => none
    | _, _ => none
  | some (.array _ elem), some inf =>
    match inf.zero, P.info? elem with
    | some z, some ie => match Instr.fill (fun i => some (i * ie.size, ie.size)) z.cells parts with
      | some cs => some (.agg cs)
      | none => none
    | _, _ => none
  | _, _ => none

theorem buildV_ok {P : Program} {t : TypeId} {parts : List (Nat × Value)} {v : Value} (h : buildV P t parts = some v) (w : World) : (Instr.build t parts.toArray).run P w = .ok v w := by
  unfold buildV at h
  unfold Instr.build
  split at h
  · rename_i fields inf hd hi
    split at h
    · rename_i z ps hz hps
      split at h
      · rename_i cs hcs
        simp only [Option.some.injEq] at h
        subst h
        have hm : (fields.mapM fun f => (do pure (f.offset, ← sizeOf f.type) : Sem (Nat × Nat))).run P w = .ok ps.toArray w := by
          rw [← Array.toArray_toList (xs := fields)]
          rw [List.mapM_toArray, Sem.run_map, run_places w hps]
          rfl
        simp only [Sem.run_bind, run_zeroValue' hi hz, Result.andThen_ok, run_underlying hd, hm, List.getElem?_toArray]
        simp only [hcs, Sem.run_pure]
      · cases h
    · cases h
  · rename_i n elem inf hd hi
    split at h
    · rename_i z ie hz hie
      split at h
      · rename_i cs hcs
        simp only [Option.some.injEq] at h
        subst h
        simp only [Sem.run_bind, run_zeroValue' hi hz, Result.andThen_ok, run_underlying hd, run_sizeOf' hie, hcs, Sem.run_pure]
      · cases h
    · cases h
  · cases h

end Go.Proofs.Ytbjopfcbpobnpaa.ME
