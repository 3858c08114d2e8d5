/- Packed. Own work. -/
import Derived.WalkKit
import Derived.KernelRfl
import Derived.OrdersHeld
import Derived.Deep.LoopGhost
import Derived.Laws.IdiomCopy
import Derived.Laws.MakeOwn
import Derived.Laws.OwnMore
import Derived.Lib.AppendStr
import Derived.Lib.ConvBytes
import Derived.Laws.BytesArg
import Derived.Laws.CopyRow
import Derived.Lib.Strings
import Derived.Lib.Slices
import Derived.Lib.Small
import Derived.Lib.Walk
import Derived.Lib.BitFns
import Derived.Maps.RangeRun
import Derived.Test.YtipblegipibplaaGreatDoorProg
namespace Go.Proofs.YtipblegipibplaaGreatDoor.ME
open Go
open Go.RowKit
set_option linter.unusedVariables false
set_option linter.unusedSimpArgs false
set_option maxRecDepth 20000
theorem kz {p:Prop} (h:p:=by kernel_rfl):p:=h
end Go.Proofs.YtipblegipibplaaGreatDoor.ME
namespace Go.Proofs.YtipblegipibplaaGreatDoor.ME
open Go
set_option linter.unusedVariables false
set_option linter.unusedSimpArgs false
inductive SV where
 | v (x:Value)
 | p (i k:Nat)
structure Ob where
 blk:Nat
 off:Nat
 cells:List Value
 rw:Bool
abbrev Tb:=List Ob
def D0 (tb:Tb) (i:Nat):Ob:=tb.getD i ⟨0,0,[],false⟩
def SV.val (tb:Tb):SV → Value
 | .v x=>x
 | .p i k=>.pointer (some ⟨(D0 tb i).blk,(D0 tb i).off + k,none⟩)
def SV.ok (tb:Tb):SV → Prop
 | .v _=>True
 | .p i _=>i < tb.length
abbrev C8:=List (Nat × SV)
def lk:C8 → Nat → Option SV
 | [],_=>none
 | (s,x) :: r,t=>match Nat.beq s t with | true=>some x | false=>lk r t
structure EnvOk (n:Nat) (tb:Tb) (env:C8) (a:Act):Prop where
 defers:a.defers = []
 size:a.tmps.size = n
 at_:∀ s x,lk env s = some x → a.tmps[s]? = some (x.val tb) ∧ x.ok tb
def E8 (env:C8):Operand → Option SV
 | .tmp t=>lk env t
 | .const v=>some (.v v)
 | .global g=>some (.v (.pointer (some ⟨g,0,none⟩)))
 | .func f=>some (.v (.func (.func f) #[] #[]))
theorem F4 {n:Nat} {tb:Tb} {env:C8} {a:Act} (h:EnvOk n tb env a) {x:Operand} {s:SV} (e:E8 env x = some s):a.eval x = s.val tb ∧ s.ok tb:=by
 cases x with
 | tmp t =>
  have:=h.at_ t s e
  refine ⟨?_,this.2⟩
  show a.tmps.getD t undef = _
  rw [Array.getD_eq_getD_getElem?,this.1]; rfl
 | const v=>simp only [E8,Option.some.injEq] at e; subst e; exact ⟨rfl,trivial⟩
 | global g=>simp only [E8,Option.some.injEq] at e; subst e; exact ⟨rfl,trivial⟩
 | func f=>simp only [E8,Option.some.injEq] at e; subst e; exact ⟨rfl,trivial⟩
theorem EnvOk.put {n:Nat} {tb:Tb} {env:C8} {a:Act} (h:EnvOk n tb env a) {d:Nat} (hd:d < n) (s:SV) (hs:s.ok tb):EnvOk n tb ((d,s) :: env) (a.put (some d) (s.val tb)):=by
 refine ⟨h.defers,by simpa [Act.put] using h.size,fun t x e=>?_⟩
 simp only [lk] at e
 show (a.tmps.setIfInBounds d (s.val tb))[t]? = _ ∧ _
 rw [Array.getElem?_setIfInBounds]
 by_cases hdt:d = t
 ·subst hdt
  rw [Nat.beq_refl] at e
  simp only [Option.some.injEq] at e
  subst e
  rw [if_pos rfl,if_pos (by rw [h.size]; exact hd)]
  exact ⟨rfl,hs⟩
 have:Nat.beq d t = false:=by
  cases hb:Nat.beq d t with
  | false=>rfl
  | true=>exact absurd (Nat.eq_of_beq_eq_true hb) hdt
 rw [this] at e
 rw [if_neg hdt]
 exact h.at_ t x e
def CellsOk (w:World) (tb:Tb):Prop:=∀ (i:Nat) (o:Ob),tb[i]? = some o → ∀ (j:Nat) (v:Value),o.cells[j]? = some v → w.cell? ⟨o.blk,o.off + j,none⟩ = some v
theorem Cs {tb:Tb} {i:Nat} (h:i < tb.length):tb[i]? = some (D0 tb i):=by
 simp [D0,List.getElem?_eq_getElem h]
theorem CellsOk.at_ {w:World} {tb:Tb} (h:CellsOk w tb) {i j:Nat} (hi:i < tb.length) {v:Value} (e:(D0 tb i).cells[j]? = some v):w.cell? ⟨(D0 tb i).blk,(D0 tb i).off + j,none⟩ = some v :=
 h i _ (Cs hi) j v e
def R5 (d:TypeDesc):Bool:=match d with | .struct _ | .array _ _=>false | _=>true
theorem Du {P:Program} {t:TypeId} {d:TypeDesc} (h:P.underlying t = some d) (w:World):(isAgg t).run P w = .ok (!R5 d) w:=by
 unfold isAgg
 simp only [Sem.run_bind,run_underlying h,Result.andThen_ok]
 cases d <;> rfl
theorem run_typeInfo' {P:Program} {t:TypeId} {i:TypeInfo} (h:P.info? t = some i) (w:World):(typeInfo t).run P w = .ok i w:=by
 unfold typeInfo
 simp only [Sem.run_bind,run_program,Result.andThen_ok,h,Sem.run_pure]
theorem run_sizeOf' {P:Program} {t:TypeId} {i:TypeInfo} (h:P.info? t = some i) (w:World):(sizeOf t).run P w = .ok i.size w:=by
 unfold sizeOf
 simp only [Sem.run_bind,run_typeInfo' h,Result.andThen_ok,Sem.run_pure]
theorem run_zeroValue' {P:Program} {t:TypeId} {i:TypeInfo} {z:Value} (h:P.info? t = some i) (hz:i.zero = some z) (w:World):(zeroValue t).run P w = .ok z w:=by
 unfold zeroValue
 simp only [Sem.run_bind,run_typeInfo' h,Result.andThen_ok,hz,Sem.run_pure]
theorem GX {P:Program} {t:TypeId} {d:TypeDesc} (hd:P.underlying t = some d) (ho:R5 d = true) {a:Addr} {v:Value} {w:World} (hc:w.cell? a = some v):(loadVar t a).run P w = .ok v w:=by
 unfold loadVar
 simp only [Sem.run_bind,Du hd,ho,Result.andThen_ok,Bool.not_true,Bool.false_eq_true,if_false,run_load,hc]
theorem GY {P:Program} {t:TypeId} {d:TypeDesc} {i:TypeInfo} (hd:P.underlying t = some d) (ho:R5 d = false) (hi:P.info? t = some i) {a:Addr} {cs:List Value} (hl:cs.length = i.size) {w:World}
  (hc:∀ j v,cs[j]? = some v → w.cell? (a.add j) = some v):(loadVar t a).run P w = .ok (.agg cs.toArray) w:=by
 unfold loadVar
 simp only [Sem.run_bind,Du hd,ho,Result.andThen_ok,Bool.not_false,if_true,run_sizeOf' hi,← hl,run_loadCells_list w a cs hc,Sem.run_pure]
theorem Q2 (b o k:Nat):(⟨b,o,none⟩:Addr).add k = ⟨b,o + k,none⟩:=by
 unfold Addr.add; split <;> simp_all
def Dv (P:Program) (tb:Tb) (t:TypeId) (i k:Nat):Option Value :=
 match P.underlying t,P.info? t with
 | some d,some inf =>
  match R5 d with
  | true=>(D0 tb i).cells[k]?
  | false =>
   let cs:=((D0 tb i).cells.drop k).take inf.size
   match Nat.beq cs.length inf.size with
   | true=>some (.agg cs.toArray)
   | false=>none
 | _,_=>none
theorem GZ {P:Program} {tb:Tb} {t:TypeId} {i k:Nat} {v:Value} (hi:i < tb.length) (h:Dv P tb t i k = some v) {w:World} (hc:CellsOk w tb) :
  (loadVar t ⟨(D0 tb i).blk,(D0 tb i).off + k,none⟩).run P w = .ok v w:=by
 unfold Dv at h
 split at h
 ·rename_i d inf hd hinf
  split at h
  ·rename_i ho
   exact GX hd ho (hc.at_ hi h)
  rename_i ho
  dsimp only at h
  split at h
  ·rename_i hl
   simp only [Option.some.injEq] at h
   subst h
   refine GY hd ho hinf (Nat.eq_of_beq_eq_true hl) fun j v hj=>?_
   rw [Q2,Nat.add_assoc]
   refine hc.at_ hi ?_
   rw [List.getElem?_take] at hj
   split at hj
   ·rwa [List.getElem?_drop] at hj
   cases hj
  cases h
 cases h
def EA (P:Program) (t:TypeId) (cs:Array Value) (off:Nat):Option Value :=
 match P.underlying t,P.info? t with
 | some d,some inf =>
  match R5 d with
  | true=>cs.toList[off]?
  | false=>some (.agg ((cs.toList.drop off).take inf.size).toArray)
 | _,_=>none
theorem JN {P:Program} {t:TypeId} {cs:Array Value} {off:Nat} {v:Value} (h:EA P t cs off = some v) (w:World):(part t cs off).run P w = .ok v w:=by
 unfold EA at h
 unfold part
 split at h
 ·rename_i d inf hd hinf
  split at h
  ·rename_i ho
   have h':cs[off]? = some v:=by simpa using h
   simp only [Sem.run_bind,Du hd,ho,Result.andThen_ok,Bool.not_true,Bool.false_eq_true,if_false,h',Sem.run_pure]
  rename_i ho
  simp only [Option.some.injEq] at h
  subst h
  simp only [Sem.run_bind,Du hd,ho,Result.andThen_ok,Bool.not_false,if_true,run_sizeOf' hinf,Sem.run_pure]
  congr 2
  apply Array.ext'
  rw [Array.toList_extract]
  simp [List.extract]
 cases h
def Ha (op:BinOp) (k:IntKind) (a b:Int):Option Value :=
 match op with
 | .add=>some (.int k (k.wrap (a + b)))
 | .sub=>some (.int k (k.wrap (a - b)))
 | .mul=>some (.int k (k.wrap (a * b)))
 | .eql=>some (.bool (a == b))
 | .neq=>some (.bool (a != b))
 | .lss=>some (.bool (decide (a < b)))
 | .leq=>some (.bool (decide (a ≤ b)))
 | .gtr=>some (.bool (decide (a > b)))
 | .geq=>some (.bool (decide (a ≥ b)))
 | .and=>some (.int k (k.wrap (BitVec.ofInt k.bits a &&& BitVec.ofInt k.bits b).toNat))
 | .or=>some (.int k (k.wrap (BitVec.ofInt k.bits a ||| BitVec.ofInt k.bits b).toNat))
 | .xor=>some (.int k (k.wrap (BitVec.ofInt k.bits a ^^^ BitVec.ofInt k.bits b).toNat))
 | .rem=>match decide (b = 0) with
  | true=>none
  | false=>some (.int k (a.tmod b))
 | .quo=>match decide (b = 0) with
  | true=>none
  | false=>some (.int k (k.wrap (a.tdiv b)))
 | _=>none
def Ct (k:IntKind) (a b:Int):Option Value :=
 match decide (b < 0) with
 | false=>some (.int k (k.wrap (a * 2 ^ (min b.toNat k.bits))))
 | true=>none
def Cu (k:IntKind) (a b:Int):Option Value :=
 match decide (b < 0) with
 | false=>some (.int k (a.fdiv (2 ^ (min b.toNat k.bits))))
 | true=>none
def Cv:Operand → Bool
 | .const _=>true
 | _=>false
def U3 (op:BinOp) (b:Bool):Option Value :=
 match op with
 | .eql=>some (.bool b)
 | .neq=>some (.bool !b)
 | _=>none
def Bk (P:Program) (op:BinOp) (t:TypeId) (x y:Operand) (a b:Value):Option Value :=
 match a,b with
 | .int k m,.int k' m'=>match op with
  | .shl=>Ct k m m'
  | .shr=>Cu k m m'
  | op=>match decide (k = k') with
   | true=>Ha op k m m'
   | false=>none
 | .bool p,.bool q=>match P.underlying t with
  | some .bool=>U3 op (p == q)
  | _=>none
 | .string s,.string s'=>U3 op (s.toList == s'.toList)
 | .pointer p,.pointer none=>match P.underlying t with
  | some (.pointer _)=>U3 op p.isNone
  | _=>none
 | .slice A _ _,.slice none _ _=>match P.underlying t with
  | some (.slice _)=>U3 op A.isNone
  | _=>none
 | .map r,.map none=>match P.underlying t with
  | some (.map _ _)=>U3 op r.isNone
  | _=>none
 | .iface _ _,.nilIface=>match P.underlying t with
  | some (.interface _)=>U3 op false
  | _=>none
 | .nilIface,.nilIface=>match P.underlying t,(Cv x || Cv y) with
  | some (.interface _),true=>U3 op true
  | _,_=>none
 | _,_=>none
def Hb:Value → Bool
 | .nilIface | .agg _=>false
 | _=>true
theorem Z0 {op:BinOp} {t:TypeId} {x y:Operand} {a b:Value} (h:Hb a = true) (P:Program) (w:World):(eqGuard op t x y a b).run P w = .ok () w:=by
 cases op <;> first
  | rfl
  | (cases a <;> first
    | rfl
    | (simp [Hb] at h; done)
    | (cases b <;> rfl))
theorem JO {op:BinOp} {t:TypeId} {x y:Operand} (h:(Cv x || Cv y) = true) (P:Program) (w:World):(eqGuard op t x y .nilIface .nilIface).run P w = .ok () w:=by
 cases op <;> first
  | rfl
  | (cases x <;> cases y <;> first | rfl | (simp [Cv] at h; done))
theorem BK (t:TypeId) (x y:Value):Op.equal t x y = Op.equalIn (9999 + 1) t x y:=rfl
theorem BL {P:Program} {w:World} {t:TypeId} {x y:Value} {b:Bool} {op:BinOp} {v:Value} (he:(Op.equal t x y).run P w = .ok b w) (hv:U3 op b = some v) (h1:∀ o,o = .eql ∨ o = .neq → (binOp o t x y) = (do let r ← Op.equal t x y; pure (.bool (if o = .eql then r else !r)))):(binOp op t x y).run P w = .ok v w:=by
 unfold U3 at hv
 split at hv
 ·simp only [Option.some.injEq] at hv
  subst hv
  rw [h1 _ (.inl rfl),Sem.run_bind,he]
  rfl
 ·simp only [Option.some.injEq] at hv
  subst hv
  rw [h1 _ (.inr rfl),Sem.run_bind,he]
  rfl
 cases hv
set_option maxHeartbeats 1000000 in
theorem JP {P:Program} {op:BinOp} {t:TypeId} {x y:Operand} {a b v:Value} (h:Bk P op t x y a b = some v) (w:World):(do eqGuard op t x y a b; binOp op t a b:Sem Value).run P w = .ok v w:=by
  unfold Bk at h
  split at h
  · rename_i k m k' m'
    rw [Sem.run_bind,Z0 rfl,Result.andThen_ok]
    split at h
    · unfold Ct at h
      split at h
      · rename_i hb; simp only [Option.some.injEq] at h; subst h
        have hb':¬ m' < 0:=of_decide_eq_false hb
        simp [binOp,Op.shift,hb']
      cases h
    · unfold Cu at h
      split at h
      · rename_i hb; simp only [Option.some.injEq] at h; subst h
        have hb':¬ m' < 0:=of_decide_eq_false hb
        simp [binOp,Op.shift,hb']
      cases h
    rename_i hn1 hn2
    split at h
    · rename_i hk
      have hk':k = k':=of_decide_eq_true hk
      subst hk'
      unfold binOp
      cases op <;> simp only [Ha,Option.some.injEq,reduceCtorEq] at h <;> first
        | (subst h; simp [Op.intArith,Op.intCmp,Op.intBits]; done)
        | (split at h
           · cases h
           rename_i hb
           have hb':¬ m' = 0:=of_decide_eq_false hb
           simp only [Option.some.injEq] at h
           subst h
           simp [Op.intDiv,hb'])
        | skip
    cases h
  · rename_i p q
    rw [Sem.run_bind,Z0 rfl,Result.andThen_ok]
    split at h
    · rename_i hd
      exact BL (by (rw [BK]; generalize 9999 = dd; simp [Op.equalIn,run_underlying hd])) h (fun o ho=>by rcases ho with rfl | rfl <;> rfl)
    cases h
  · rename_i s s'
    rw [Sem.run_bind,Z0 rfl,Result.andThen_ok]
    unfold U3 at h
    split at h
    · simp only [Option.some.injEq] at h; subst h; rfl
    · simp only [Option.some.injEq] at h; subst h; rfl
    cases h
  · rename_i p
    rw [Sem.run_bind,Z0 rfl,Result.andThen_ok]
    split at h
    · rename_i e hd
      refine BL ?_ h (fun o ho=>by rcases ho with rfl | rfl <;> rfl)
      cases p <;> (rw [BK]; generalize 9999 = dd; simp [Op.equalIn,run_underlying hd])
    cases h
  · rename_i A n c n' c'
    rw [Sem.run_bind,Z0 rfl,Result.andThen_ok]
    split at h
    · rename_i e hd
      refine BL ?_ h (fun o ho=>by rcases ho with rfl | rfl <;> rfl)
      cases A <;> (rw [BK]; generalize 9999 = dd; simp [Op.equalIn,run_underlying hd])
    cases h
  · rename_i r
    rw [Sem.run_bind,Z0 rfl,Result.andThen_ok]
    split at h
    · rename_i k e hd
      refine BL ?_ h (fun o ho=>by rcases ho with rfl | rfl <;> rfl)
      cases r <;> (rw [BK]; generalize 9999 = dd; simp [Op.equalIn,run_underlying hd])
    cases h
  · rename_i ti vi
    rw [Sem.run_bind,Z0 rfl,Result.andThen_ok]
    split at h
    · rename_i ms hd
      exact BL (by (rw [BK]; generalize 9999 = dd; simp [Op.equalIn,run_underlying hd])) h (fun o ho=>by rcases ho with rfl | rfl <;> rfl)
    cases h
  · split at h
    · rename_i ms hd hc
      rw [Sem.run_bind,JO hc,Result.andThen_ok]
      exact BL (by (rw [BK]; generalize 9999 = dd; simp [Op.equalIn,run_underlying hd])) h (fun o ho=>by rcases ho with rfl | rfl <;> rfl)
    cases h
  cases h
def BN (tb:Tb) (env:C8):List (Nat × Operand) → Option (List (Nat × Value))
 | []=>some []
 | (i,x) :: r=>match E8 env x with
  | some s=>match BN tb env r with
   | some l=>some ((i,s.val tb) :: l)
   | none=>none
  | none=>none
theorem EB {n:Nat} {tb:Tb} {env:C8} {a:Act} (h:EnvOk n tb env a):∀ {l:List (Nat × Operand)} {vs:List (Nat × Value)},BN tb env l = some vs → l.map (fun (i,x)=>(i,a.eval x)) = vs
 | [],vs,e=>by simp only [BN,Option.some.injEq] at e; subst e; rfl
 | (i,x) :: r,vs,e=>by
  simp only [BN] at e
  split at e
  ·rename_i s hs
   split at e
   ·rename_i l hl
    simp only [Option.some.injEq] at e
    subst e
    simp only [List.map_cons,(F4 h hs).1,EB h hl]
   cases e
  cases e
def places (P:Program):List Field → Option (List (Nat × Nat))
 | []=>some []
 | f :: r=>match P.info? f.type with
  | some i=>match places P r with
   | some l=>some ((f.offset,i.size) :: l)
   | none=>none
  | none=>none
theorem Hc {P:Program} (w:World):∀ {l:List Field} {ps:List (Nat × Nat)},places P l = some ps → (l.mapM fun f=>(do pure (f.offset,← sizeOf f.type):Sem (Nat × Nat))).run P w = .ok ps w
 | [],ps,e=>by simp only [places,Option.some.injEq] at e; subst e; rfl
 | f :: r,ps,e=>by
  simp only [places] at e
  split at e
  ·rename_i i hi
   split at e
   ·rename_i l hl
    simp only [Option.some.injEq] at e
    subst e
    simp only [List.mapM_cons,Sem.run_bind,run_sizeOf' hi,Result.andThen_ok,Sem.run_pure,Hc w hl]
   cases e
  cases e
def EC (P:Program) (t:TypeId) (parts:List (Nat × Value)):Option Value :=
 match P.underlying t,P.info? t with
 | some (.struct fields),some inf =>
  match inf.zero,places P fields.toList with
  | some z,some ps=>match Instr.fill (fun i=>ps[i]?) z.cells parts with
   | some cs=>some (.agg cs)
   | none=>none
  | _,_=>none
 | some (.array _ elem),some inf =>
  match inf.zero,P.info? elem with
  | some z,some ie=>match Instr.fill (fun i=>some (i * ie.size,ie.size)) z.cells parts with
   | some cs=>some (.agg cs)
   | none=>none
  | _,_=>none
 | _,_=>none
theorem JQ {P:Program} {t:TypeId} {parts:List (Nat × Value)} {v:Value} (h:EC P t parts = some v) (w:World):(Instr.build t parts.toArray).run P w = .ok v w:=by
 unfold EC at h
 unfold Instr.build
 split at h
 ·rename_i fields inf hd hi
  split at h
  ·rename_i z ps hz hps
   split at h
   ·rename_i cs hcs
    simp only [Option.some.injEq] at h
    subst h
    have hm:(fields.mapM fun f=>(do pure (f.offset,← sizeOf f.type):Sem (Nat × Nat))).run P w = .ok ps.toArray w:=by
     rw [← Array.toArray_toList (xs:=fields)]
     rw [List.mapM_toArray,Sem.run_map,Hc w hps]
     rfl
    simp only [Sem.run_bind,run_zeroValue' hi hz,Result.andThen_ok,run_underlying hd,hm,List.getElem?_toArray]
    simp only [hcs,Sem.run_pure]
   cases h
  cases h
 ·rename_i n elem inf hd hi
  split at h
  ·rename_i z ie hz hie
   split at h
   ·rename_i cs hcs
    simp only [Option.some.injEq] at h
    subst h
    simp only [Sem.run_bind,run_zeroValue' hi hz,Result.andThen_ok,run_underlying hd,run_sizeOf' hie,hcs,Sem.run_pure]
   cases h
  cases h
 cases h
def Hd (P:Program) (src dst:TypeId) (x:Value):Option Value :=
 match P.underlying src,P.underlying dst,x with
 | some _,some (.int k),.int _ n=>some (.int k (k.wrap n))
 | _,_,_=>none
def Cw (P:Program) (t:TypeId) (x:Value):Option Value :=
 match P.underlying t,x with
 | some .string,.string s=>some (.int .i64 s.size)
 | some (.slice _),.slice _ n _=>some (.int .i64 n)
 | _,_=>none
def Bl (P:Program) (tb:Tb) (env:C8) (o:Oper):Option SV :=
 match o.op with
 | .move x=>E8 env x
 | .assign x=>E8 env x
 | .nilCheck x=>match E8 env x with
  | some (.p i k)=>some (.p i k)
  | some (.v (.pointer (some a)))=>some (.v (.pointer (some a)))
  | _=>none
 | .fieldAddr s x f=>match P.underlying s with
  | some (.struct fields)=>match fields.toList[f]? with
   | some fd=>match P.info? fd.type with
    | some inf=>match inf.size with
     | 0=>none
     | _ + 1=>match E8 env x with
      | some (.p i k)=>some (.p i (k + fd.offset))
      | some (.v (.pointer (some ⟨b,o,none⟩)))=>some (.v (.pointer (some ⟨b,o + fd.offset,none⟩)))
      | _=>none
    | none=>none
   | none=>none
  | _=>none
 | .field t x f=>match P.underlying t with
  | some (.struct fields)=>match fields.toList[f]? with
   | some fd=>match E8 env x with
    | some (.v (.agg cs))=>match EA P fd.type cs fd.offset with
     | some v=>some (.v v)
     | none=>none
    | _=>none
   | none=>none
  | _=>none
 | .load t x=>match E8 env x with
  | some (.p i k)=>match Dv P tb t i k with
   | some v=>some (.v v)
   | none=>none
  | _=>none
 | .binOp op t x y _=>match E8 env x,E8 env y with
  | some s1,some s2=>match Bk P op t x y (s1.val tb) (s2.val tb) with
   | some v=>some (.v v)
   | none=>none
  | _,_=>none
 | .unOp .not _ x=>match E8 env x with
  | some (.v (.bool b))=>some (.v (.bool !b))
  | _=>none
 | .convert s d x=>match E8 env x with
  | some (.v y)=>match Hd P s d y with
   | some v=>some (.v v)
   | none=>none
  | _=>none
 | .pick c x y=>match E8 env c,E8 env x,E8 env y with
  | some (.v (.bool b)),some (.v u),some (.v u')=>some (.v (if b then u else u'))
  | _,_,_=>none
 | .build t ps=>match BN tb env ps.toList with
  | some l=>match EC P t l with
   | some v=>some (.v v)
   | none=>none
  | none=>none
 | .extract x i=>match E8 env x with
  | some (.v (.tuple vs))=>match vs.toList[i]? with
   | some v=>some (.v v)
   | none=>none
  | _=>none
 | .makeInterface t x=>match P.underlying t with
  | some d=>match (match d with | .interface _=>true | _=>false) with
   | true=>none
   | false=>match E8 env x with
    | some (.v v)=>some (.v (.iface t v))
    | some (.p i k)=>some (.v (.iface t (SV.val tb (.p i k))))
    | none=>none
  | none=>none
 | .slice t x none none none=>match P.underlying t with
  | some (.array m e)=>match P.info? e,E8 env x with
   | some inf,some (.p i k)=>some (.v (.slice (some ⟨(D0 tb i).blk,(D0 tb i).off + k,none⟩) m m))
   | some inf,some (.v (.pointer (some ⟨b,o,none⟩)))=>some (.v (.slice (some ⟨b,o,none⟩) m m))
   | _,_=>none
  | _=>none
 | .call c=>match c.callee,c.args.toList,c.argTypes.toList with
  | .builtin .len,[x],[t]=>match E8 env x with
   | some (.v y)=>match Cw P t y with
    | some v=>some (.v v)
    | none=>none
   | _=>none
  | .builtin .min,[x,y],_=>match E8 env x,E8 env y with
   | some (.v (.int k a)),some (.v (.int _ b))=>some (.v (.int k (if b < a then b else a)))
   | _,_=>none
  | .builtin .max,[x,y],_=>match E8 env x,E8 env y with
   | some (.v (.int k a)),some (.v (.int _ b))=>some (.v (.int k (if b > a then b else a)))
   | _,_=>none
  | _,_,_=>none
 | _=>none
theorem Dw {α:Type} {a:Array α} {x y:α} (h:a.toList = [x,y]):a = #[x,y]:=Array.ext' h
theorem Dx {α:Type} {a:Array α} {x:α} (h:a.toList = [x]):a = #[x]:=Array.ext' h
set_option maxHeartbeats 1000000 in
theorem Dy {P:Program} {n:Nat} {tb:Tb} {env:C8} {a:Act} (h:EnvOk n tb env a) {o:Oper} {s:SV} (e:Bl P tb env o = some s) {w:World} (hc:CellsOk w tb) :
  (execOp a.eval o).run P w = .ok (.value (s.val tb)) w ∧ s.ok tb:=by
 unfold Bl at e
 unfold execOp
 split at e
 ·rename_i x hx
  rw [hx]; have:=F4 h e
  exact ⟨by simp only [Sem.run_pure,this.1],this.2⟩
 ·rename_i x hx
  rw [hx]; have:=F4 h e
  exact ⟨by simp only [Sem.run_pure,this.1],this.2⟩
 ·rename_i x hx
  rw [hx]
  split at e
  ·rename_i i k hs
   have:=F4 h hs
   simp only [Option.some.injEq] at e
   subst e
   simp only [this.1,SV.val,Sem.run_pure]
   exact ⟨trivial,this.2⟩
  ·rename_i ad hs
   have:=F4 h hs
   simp only [Option.some.injEq] at e
   subst e
   simp only [this.1,SV.val,Sem.run_pure]
   exact ⟨trivial,trivial⟩
  cases e
 ·rename_i st x f hx
  rw [hx]
  split at e
  ·rename_i fields hd
   split at e
   ·rename_i fd hfd
    split at e
    ·rename_i inf hinf
     have hfd':fields[f]? = some fd:=by simpa using hfd
     split at e
     ·cases e
     rename_i m hm
     have hne:¬ (inf.size = 0):=by omega
     split at e
     ·rename_i i k hs
      have:=F4 h hs
      simp only [Option.some.injEq] at e
      subst e
      refine ⟨?_,this.2⟩
      unfold Instr.fieldAt
      simp only [this.1,SV.val,Sem.run_bind,run_underlying hd,Result.andThen_ok,hfd',Instr.sureAddr,Sem.run_pure]
      unfold fieldPlace
      simp only [Sem.run_bind,run_sizeOf' hinf,Result.andThen_ok,if_neg hne,Sem.run_pure,Q2,Nat.add_assoc]
     ·rename_i b o' hs
      have:=F4 h hs
      simp only [Option.some.injEq] at e
      subst e
      refine ⟨?_,trivial⟩
      unfold Instr.fieldAt
      simp only [this.1,SV.val,Sem.run_bind,run_underlying hd,Result.andThen_ok,hfd',Instr.sureAddr,Sem.run_pure]
      unfold fieldPlace
      simp only [Sem.run_bind,run_sizeOf' hinf,Result.andThen_ok,if_neg hne,Sem.run_pure,Q2]
     cases e
    cases e
   cases e
  cases e
 ·rename_i t x f hx
  rw [hx]
  split at e
  ·rename_i fields hd
   split at e
   ·rename_i fd hfd
    have hfd':fields[f]? = some fd:=by simpa using hfd
    split at e
    ·rename_i cs hs
     have:=F4 h hs
     split at e
     ·rename_i v hv
      simp only [Option.some.injEq] at e
      subst e
      refine ⟨?_,trivial⟩
      unfold Instr.field
      simp only [this.1,SV.val,Sem.run_bind,run_underlying hd,Result.andThen_ok,hfd',asAgg,Sem.run_pure,JN hv]
     cases e
    cases e
   cases e
  cases e
 ·rename_i t x hx
  rw [hx]
  split at e
  ·rename_i i k hs
   have:=F4 h hs
   split at e
   ·rename_i v hv
    simp only [Option.some.injEq] at e
    subst e
    refine ⟨?_,trivial⟩
    unfold Instr.loadAt
    simp only [this.1,SV.val,Sem.run_bind,Instr.sureAddr,Sem.run_pure,Result.andThen_ok,GZ this.2 hv hc]
   cases e
  cases e
 ·rename_i op t x y yt hx
  rw [hx]
  split at e
  ·rename_i s1 s2 hs1 hs2
   have h1:=F4 h hs1
   have h2:=F4 h hs2
   split at e
   ·rename_i v hv
    simp only [Option.some.injEq] at e
    subst e
    refine ⟨?_,trivial⟩
    have:=JP hv w
    simp only [h1.1,h2.1]
    rw [Sem.run_bind,this]
    rfl
   cases e
  cases e
 ·rename_i t x hx
  rw [hx]
  split at e
  ·rename_i b hs
   have:=F4 h hs
   simp only [Option.some.injEq] at e
   subst e
   refine ⟨?_,trivial⟩
   simp only [this.1,SV.val,Op.unary,Sem.run_bind,Sem.run_pure,Result.andThen_ok]
  cases e
 ·rename_i src dst x hx
  rw [hx]
  split at e
  ·rename_i y hs
   have:=F4 h hs
   split at e
   ·rename_i v hv
    simp only [Option.some.injEq] at e
    subst e
    refine ⟨?_,trivial⟩
    unfold Hd at hv
    split at hv
    ·rename_i _ _ d k k' m hd1 hd2
     simp only [Option.some.injEq] at hv
     subst hv
     unfold convert
     simp only [this.1,SV.val,Sem.run_bind,run_underlying hd1,run_underlying hd2,Result.andThen_ok,Conv.intToInt,Sem.run_pure]
    cases hv
   cases e
  cases e
 ·rename_i c x y hx
  rw [hx]
  split at e
  ·rename_i b u u' hs1 hs2 hs3
   have h1:=F4 h hs1
   have h2:=F4 h hs2
   have h3:=F4 h hs3
   simp only [Option.some.injEq] at e
   subst e
   refine ⟨?_,trivial⟩
   simp only [h1.1,h2.1,h3.1,SV.val,asBool,Sem.run_bind,Sem.run_pure,Result.andThen_ok]
  cases e
 ·rename_i t ps hx
  rw [hx]
  split at e
  ·rename_i l hl
   split at e
   ·rename_i v hv
    simp only [Option.some.injEq] at e
    subst e
    refine ⟨?_,trivial⟩
    have hp:(ps.map fun (i,x)=>(i,a.eval x)) = l.toArray:=by
     apply Array.ext'
     simpa using EB h hl
    simp only [hp,Sem.run_bind,JQ hv,Result.andThen_ok,Sem.run_pure,SV.val]
   cases e
  cases e
 ·rename_i x i hx
  rw [hx]
  split at e
  ·rename_i vs hs
   have:=F4 h hs
   split at e
   ·rename_i v hv
    simp only [Option.some.injEq] at e
    subst e
    refine ⟨?_,trivial⟩
    have hv':vs[i]? = some v:=by simpa using hv
    simp only [this.1,SV.val,Instr.extract,hv',Sem.run_bind,Sem.run_pure,Result.andThen_ok]
   cases e
  cases e
 ·rename_i t x hx
  rw [hx]
  split at e
  ·rename_i d hd
   split at e
   ·cases e
   rename_i hni
   have key:∀ y:Value,(Instr.makeInterface t y).run P w = .ok (.iface t y) w:=by
    intro y
    unfold Instr.makeInterface
    rw [Sem.run_bind,run_underlying hd,Result.andThen_ok]
    cases d <;> first | rfl | (exact absurd hni (by simp))
   split at e
   ·rename_i v hs
    have:=F4 h hs
    simp only [Option.some.injEq] at e
    subst e
    refine ⟨?_,trivial⟩
    simp only [this.1,SV.val,Sem.run_bind,key,Sem.run_pure,Result.andThen_ok]
   ·rename_i i k hs
    have:=F4 h hs
    simp only [Option.some.injEq] at e
    subst e
    refine ⟨?_,trivial⟩
    simp only [this.1,SV.val,Sem.run_bind,key,Sem.run_pure,Result.andThen_ok]
   cases e
  cases e
 ·rename_i t x hx
  rw [hx]
  split at e
  ·rename_i m e' hd
   split at e
   ·rename_i inf i k hi hs
    have:=F4 h hs
    simp only [Option.some.injEq] at e
    subst e
    refine ⟨?_,trivial⟩
    simp only [this.1,SV.val,Option.map_none]
    unfold Instr.sliceAt
    simp only [Sem.run_bind,run_underlying hd,Result.andThen_ok,Instr.sureAddr,Sem.run_pure,Instr.sliceBounds,run_sizeOf' hi,if_true,Nat.sub_zero,Nat.zero_mul,Q2,Nat.add_zero,ite_self]
   ·rename_i inf b o hi hs
    have:=F4 h hs
    simp only [Option.some.injEq] at e
    subst e
    refine ⟨?_,trivial⟩
    simp only [this.1,SV.val,Option.map_none]
    unfold Instr.sliceAt
    simp only [Sem.run_bind,run_underlying hd,Result.andThen_ok,Instr.sureAddr,Sem.run_pure,Instr.sliceBounds,run_sizeOf' hi,if_true,Nat.sub_zero,Nat.zero_mul,Q2,Nat.add_zero,ite_self]
   cases e
  cases e
 ·rename_i c hx
  rw [hx]
  split at e
  ·rename_i x t hcal hargs hats
   split at e
   ·rename_i y hs
    have:=F4 h hs
    split at e
    ·rename_i v hv
     simp only [Option.some.injEq] at e
     subst e
     refine ⟨?_,trivial⟩
     have ha:=Dx hargs
     have ht:=Dx hats
     unfold Cw at hv
     split at hv
     ·rename_i hd
      simp only [Option.some.injEq] at hv
      subst hv
      simp [resolve,hcal,ha,ht,invoke,builtin,Builtin.len_,this.1,SV.val,run_underlying hd,goInt]
     ·rename_i hd
      simp only [Option.some.injEq] at hv
      subst hv
      simp [resolve,hcal,ha,ht,invoke,builtin,Builtin.len_,this.1,SV.val,run_underlying hd,goInt]
     cases hv
    cases e
   cases e
  ·rename_i x y ats hcal hargs
   split at e
   ·rename_i k a1 k' b1 hs1 hs2
    have h1:=F4 h hs1
    have h2:=F4 h hs2
    simp only [Option.some.injEq] at e
    subst e
    refine ⟨?_,trivial⟩
    have ha:=Dw hargs
    simp [resolve,hcal,ha,invoke,builtin,Builtin.min_,Builtin.min2,h1.1,h2.1,SV.val]
   cases e
  ·rename_i x y ats hcal hargs
   split at e
   ·rename_i k a1 k' b1 hs1 hs2
    have h1:=F4 h hs1
    have h2:=F4 h hs2
    simp only [Option.some.injEq] at e
    subst e
    refine ⟨?_,trivial⟩
    have ha:=Dw hargs
    simp [resolve,hcal,ha,invoke,builtin,Builtin.max_,Builtin.max2,h1.1,h2.1,SV.val]
   cases e
  cases e
 cases e
def Dz (ops:Array Oper) (env:C8) (o:Oper):Option Bool :=
 match o.guard with
 | none=>some true
 | some (j,want)=>match ops.toList[j]? with
  | some oj=>match oj.dst with
   | some t=>match lk env t with
    | some (.v (.bool b))=>some (b == want)
    | some (.v (.tuple _))=>some false
    | _=>none
   | none=>none
  | none=>none
theorem Bm {ops:Array Oper} {n:Nat} {tb:Tb} {env:C8} {a:Act} (h:EnvOk n tb env a) {o:Oper} {b:Bool} (e:Dz ops env o = some b):Region.wanted o (yielded ops a.tmps) = b:=by
 unfold Dz at e
 unfold Region.wanted
 split at e
 ·rename_i hg
  simp only [Option.some.injEq] at e
  subst e
  rw [hg]
 rename_i j want hg
 rw [hg]
 split at e
 ·rename_i oj hj
  have hj':ops[j]? = some oj:=by simpa using hj
  split at e
  ·rename_i t ht
   split at e
   ·rename_i b' hl
    simp only [Option.some.injEq] at e
    subst e
    have:=(h.at_ t _ hl).1
    simp only [yielded,hj',Option.bind_some,ht,this,SV.val]
    cases b' <;> cases want <;> rfl
   ·rename_i vs hl
    simp only [Option.some.injEq] at e
    subst e
    have:=(h.at_ t _ hl).1
    simp only [yielded,hj',Option.bind_some,ht,this,SV.val]
    cases want <;> rfl
   cases e
  cases e
 cases e
def G8 (P:Program) (ops:Array Oper) (n:Nat) (tb:Tb):List Nat → C8 → Option C8
 | [],env=>some env
 | i :: r,env=>match ops.toList[i]? with
  | none=>none
  | some o=>match o.dst with
   | none=>none
   | some d=>match Nat.blt d n with
    | false=>none
    | true=>match Dz ops env o with
     | some true=>match Bl P tb env o with
      | some s=>G8 P ops n tb r ((d,s) :: env)
      | none=>none
     | some false=>G8 P ops n tb r ((d,.v undef) :: env)
     | none=>none
section
variable {P:Program} {ops:Array Oper} {Q:Exit → Act → World → Prop} {n:Nat} {tb:Tb}
theorem R2 {w:World} (hc:CellsOk w tb):∀ {idxs:List Nat} {rest:List Nat} {env env':C8} {a:Act},EnvOk n tb env a → G8 P ops n tb idxs env = some env' →
  (∀ a',EnvOk n tb env' a' → wpOps P ops Q rest a' w) → wpOps P ops Q (idxs ++ rest) a w
 | [],rest,env,env',a,h,e,k=>by
  simp only [G8,Option.some.injEq] at e
  subst e
  exact k a h
 | i :: r,rest,env,env',a,h,e,k=>by
  simp only [G8] at e
  split at e
  ·cases e
  rename_i o ho
  have ho':ops[i]? = some o:=by simpa using ho
  split at e
  ·cases e
  rename_i d hd
  split at e
  ·cases e
  rename_i hlt
  have hlt':d < n:=by simpa [Nat.blt_eq] using hlt
  simp only [List.cons_append,wpOps,ho']
  split at e
  ·rename_i hg
   rw [Bm h hg]
   simp only [if_true]
   split at e
   ·rename_i s hs
    have hr:=Dy h hs hc
    refine .inl ?_
    unfold Oper.wp
    rw [hr.1]
    show wpOps P ops Q (r ++ rest) (a.put o.dst (s.val tb)) w
    rw [hd]
    exact R2 hc (h.put hlt' s hr.2) e k
   cases e
  ·rename_i hg
   rw [Bm h hg]
   simp only [Bool.false_eq_true,if_false,hd]
   exact R2 hc (h.put hlt' (.v undef) trivial) e k
  cases e
end
def pick (env:C8):List Nat → Option C8
 | []=>some []
 | s :: r=>match lk env s with
  | some x=>match pick env r with
   | some l=>some ((s,x) :: l)
   | none=>none
  | none=>none
theorem He {env:C8}:∀ {ks:List Nat} {env':C8},pick env ks = some env' → ∀ s x,lk env' s = some x → lk env s = some x
 | [],env',e,s,x,hl=>by simp only [pick,Option.some.injEq] at e; subst e; cases hl
 | k :: r,env',e,s,x,hl=>by
  simp only [pick] at e
  split at e
  ·rename_i y hy
   split at e
   ·rename_i l hl'
    simp only [Option.some.injEq] at e
    subst e
    simp only [lk] at hl
    split at hl
    ·rename_i hb
     have:=Nat.eq_of_beq_eq_true hb
     subst this
     rw [hy]; exact hl
    exact He hl' s x hl
   cases e
  cases e
theorem EnvOk.pick {n:Nat} {tb:Tb} {env env':C8} {a:Act} {ks:List Nat} (h:EnvOk n tb env a) (e:pick env ks = some env'):EnvOk n tb env' a :=
 ⟨h.defers,h.size,fun s x hl=>h.at_ s x (He e s x hl)⟩
def Keeps (M:Nat → Prop) (x y:Option Obj):Prop :=
 ((∀ o,¬ M o) → y = x) ∧ ((∃ o,¬ M o) → ∀ c t f,x = some (.cells c t f) → ∃ c',y = some (.cells c' t f) ∧ c'.size = c.size ∧ ∀ o,¬ M o → c'[o]? = c[o]?)
theorem Keeps.refl (M:Nat → Prop) (x:Option Obj):Keeps M x x:=⟨fun _=>rfl,fun _ c t f h=>⟨c,h,rfl,fun _ _=>rfl⟩⟩
theorem Keeps.trans {M N:Nat → Prop} {x y z:Option Obj} (h:Keeps M x y) (h':Keeps N y z) (hN:∀ o,N o → M o):Keeps M x z:=by
 refine ⟨fun hm=>(h'.1 fun o ho=>hm o (hN o ho)).trans (h.1 hm),fun ⟨o,ho⟩ c t f hx=>?_⟩
 obtain ⟨c1,h1,h2,h3⟩:=h.2 ⟨o,ho⟩ c t f hx
 obtain ⟨c2,g1,g2,g3⟩:=h'.2 ⟨o,fun hn=>ho (hN o hn)⟩ c1 t f h1
 exact ⟨c2,g1,g2.trans h2,fun o ho=>(g3 o fun hn=>ho (hN o hn)).trans (h3 o ho)⟩
theorem Keeps.mono {M N:Nat → Prop} {x y:Option Obj} (h:Keeps M x y) (hN:∀ o,M o → N o):Keeps N x y:=by
 refine ⟨fun hm=>h.1 fun o ho=>hm o (hN o ho),fun ⟨o,ho⟩ c t f hx=>?_⟩
 obtain ⟨c1,h1,h2,h3⟩:=h.2 ⟨o,fun hm=>ho (hN o hm)⟩ c t f hx
 exact ⟨c1,h1,h2,fun o ho=>h3 o fun hm=>ho (hN o hm)⟩
structure Step (w w':World) (M:Nat → Nat → Prop):Prop where
 os:w'.os = w.os
 output:w'.output = w.output
 size:w.heap.size ≤ w'.heap.size
 keeps:∀ b,b < w.heap.size → Keeps (M b) w.heap[b]? w'.heap[b]?
def B5:Nat → Nat → Prop:=fun _ _=>False
theorem Step.refl (w:World) (M:Nat → Nat → Prop):Step w w M:=⟨rfl,rfl,Nat.le_refl _,fun _ _=>Keeps.refl _ _⟩
theorem Step.trans {w w1 w2:World} {M N:Nat → Nat → Prop} (h:Step w w1 M) (h':Step w1 w2 N) (hN:∀ b o,b < w.heap.size → N b o → M b o):Step w w2 M :=
 ⟨h'.os.trans h.os,h'.output.trans h.output,Nat.le_trans h.size h'.size,fun b hb=>(h.keeps b hb).trans (h'.keeps b (Nat.lt_of_lt_of_le hb h.size)) fun o=>hN b o hb⟩
theorem Step.mono {w w1:World} {M N:Nat → Nat → Prop} (h:Step w w1 M) (hN:∀ b o,b < w.heap.size → M b o → N b o):Step w w1 N :=
 ⟨h.os,h.output,h.size,fun b hb=>(h.keeps b hb).mono fun o=>hN b o hb⟩
theorem Step.trans' {w w1 w2:World} {M:Nat → Nat → Prop} (h:Step w w1 M) (h':Step w1 w2 B5):Step w w2 M:=h.trans h' fun _ _ _ f=>f.elim
theorem World.cell_of_heap {w w':World} {b o:Nat} (h:w'.heap[b]? = w.heap[b]?):w'.cell? ⟨b,o,none⟩ = w.cell? ⟨b,o,none⟩:=by simp [World.cell?,h]
theorem World.frozen_of_heap {w w':World} {b o:Nat} (h:w'.heap[b]? = w.heap[b]?):w'.frozen? ⟨b,o,none⟩ = w.frozen? ⟨b,o,none⟩:=by simp [World.frozen?,h]
theorem World.lt_of_cell {w:World} {b o:Nat} {v:Value} (h:w.cell? ⟨b,o,none⟩ = some v):b < w.heap.size:=by
 unfold World.cell? at h
 split at h
 ·rename_i c t f hb
  exact (Array.getElem?_eq_some_iff.1 hb).1
 cases h
theorem Step.cell {w w':World} {M:Nat → Nat → Prop} (h:Step w w' M) {b o:Nat} {v:Value} (hM:¬ M b o) (hc:w.cell? ⟨b,o,none⟩ = some v):w'.cell? ⟨b,o,none⟩ = some v:=by
 have hb:=World.lt_of_cell hc
 have hk:=h.keeps b hb
 unfold World.cell? at hc ⊢
 cases hx:w.heap[b]? with
 | none=>rw [hx] at hc; cases hc
 | some x =>
  rw [hx] at hc hk
  cases x with
  | cells c t f =>
   obtain ⟨c',h1,h2,h3⟩:=hk.2 ⟨o,hM⟩ c t f rfl
   rw [h1]
   simp only [Option.isSome_none,Bool.false_eq_true,if_false] at hc ⊢
   rw [h3 o hM]; exact hc
  | _=>cases hc
theorem Step.frozen {w w':World} {M:Nat → Nat → Prop} (h:Step w w' M) {b o:Nat} {v:Value} (hM:¬ M b o) (hc:w.cell? ⟨b,o,none⟩ = some v) (hf:w.frozen? ⟨b,o,none⟩ = false):w'.frozen? ⟨b,o,none⟩ = false:=by
 have hb:=World.lt_of_cell hc
 have hk:=h.keeps b hb
 unfold World.cell? at hc
 unfold World.frozen? at hf ⊢
 cases hx:w.heap[b]? with
 | none=>rw [hx] at hc; cases hc
 | some x =>
  rw [hx] at hc hk hf
  cases x with
  | cells c t f =>
   obtain ⟨c',h1,h2,h3⟩:=hk.2 ⟨o,hM⟩ c t f rfl
   rw [h1]; exact hf
  | _=>cases hc
theorem Step.heap {w w':World} {M:Nat → Nat → Prop} (h:Step w w' M) {b:Nat} {x:Obj} (hM:∀ o,¬ M b o) (hc:w.heap[b]? = some x):w'.heap[b]? = some x:=by
 have hb:b < w.heap.size:=(Array.getElem?_eq_some_iff.1 hc).1
 rw [(h.keeps b hb).1 hM,hc]
theorem JR (w:World) (o:Obj) (b:Nat) (hb:b < w.heap.size):(w.alloc o).heap[b]? = w.heap[b]?:=by
 show (w.heap.push o)[b]? = _
 rw [Array.getElem?_push,if_neg (by omega)]
theorem Bn (w:World) (o:Obj):(w.alloc o).heap[w.heap.size]? = some o:=by
 show (w.heap.push o)[w.heap.size]? = _
 rw [Array.getElem?_push,if_pos rfl]
theorem DA (w:World) (o:Obj):(w.alloc o).heap.size = w.heap.size + 1:=by
 show (w.heap.push o).size = _
 rw [Array.size_push]
theorem Step.alloc (w:World) (o:Obj):Step w (w.alloc o) B5 :=
 ⟨rfl,rfl,by rw [DA]; omega,fun b hb=>by rw [JR w o b hb]; exact Keeps.refl _ _⟩
theorem Step.drew (w:World):Step w w.drew B5:=⟨rfl,rfl,Nat.le_refl _,fun _ _=>Keeps.refl _ _⟩
structure Rw where
 A:Option Addr
 c:Nat
 e:TypeId
 size:Nat
 n:Nat
 xs:List Value
def Rw.v (r:Rw):Value:=.slice r.A r.n r.c
def Rw.blk (r:Rw):Option Nat:=r.A.map (·.block)
theorem Rw.own_eq (r:Rw):r.v.ownBlock = r.blk:=by
 cases r with
 | mk A c e size n xs=>cases A <;> rfl
structure WOk (w0:World) (M:Nat → Nat → Prop) (w:World) (tb:Tb) (rs:List Rw):Prop where
 step:Step w0 w M
 cells:CellsOk w tb
 live:∀ (i:Nat) (o:Ob),tb[i]? = some o → o.blk < w.heap.size
 rw_:∀ (i:Nat) (o:Ob),tb[i]? = some o → o.rw = true → ∀ j,j < o.cells.length → (w0.heap.size ≤ o.blk ∨ M o.blk (o.off + j)) ∧ w.frozen? ⟨o.blk,o.off + j,none⟩ = false
 apart:∀ (i j:Nat) (o o':Ob),i ≠ j → tb[i]? = some o → tb[j]? = some o' → (o.rw = true ∨ o'.rw = true) → o.blk ≠ o'.blk ∨ o.off + o.cells.length ≤ o'.off ∨ o'.off + o'.cells.length ≤ o.off
 own:∀ (i:Nat) (r:Rw),rs[i]? = some r → w.ownsRow 0 r.e r.size r.v r.n r.xs
 ownM:∀ (i:Nat) (r:Rw),rs[i]? = some r → ∀ g,r.blk = some g → w0.heap.size ≤ g ∨ ∀ o,M g o
 rtb:∀ (i:Nat) (r:Rw),rs[i]? = some r → ∀ g,r.blk = some g → ∀ (j:Nat) (o:Ob),tb[j]? = some o → o.blk ≠ g
 rr:∀ (i j:Nat) (r r':Rw),i ≠ j → rs[i]? = some r → rs[j]? = some r' → ∀ g,r.blk = some g → r'.blk ≠ some g
def G9 (tb:Tb) (rs:List Rw) (b o:Nat):Prop :=
 (∃ (i:Nat) (ob:Ob),tb[i]? = some ob ∧ ob.rw = true ∧ ob.blk = b ∧ ob.off ≤ o ∧ o < ob.off + ob.cells.length) ∨ (∃ (i:Nat) (r:Rw),rs[i]? = some r ∧ r.blk = some b)
structure Fr (w:World) (tb:Tb) (rs:List Rw) (w':World) (tb':Tb) (rs':List Rw):Prop where
 imm:∀ b o,b < w.heap.size → ¬ G9 tb rs b o → ¬ G9 tb' rs' b o
 step:Step w w' (G9 tb rs)
theorem Fr.refl (w:World) (tb:Tb) (rs:List Rw):Fr w tb rs w tb rs:=⟨fun _ _ _ h=>h,Step.refl _ _⟩
theorem Fr.trans {w w1 w2:World} {tb tb1 tb2:Tb} {rs rs1 rs2:List Rw} (h:Fr w tb rs w1 tb1 rs1) (h':Fr w1 tb1 rs1 w2 tb2 rs2):Fr w tb rs w2 tb2 rs2 :=
  ⟨fun b o hb ha=>h'.imm b o (Nat.lt_of_lt_of_le hb h.step.size) (h.imm b o hb ha),
   h.step.trans h'.step fun b o hb hn=>Classical.byContradiction fun hc=>h.imm b o hb hc hn⟩
theorem WOk.start (w:World) (M:Nat → Nat → Prop):WOk w M w [] [] :=
  ⟨Step.refl w M,fun i o h=>by simp at h,fun i o h=>by simp at h,fun i o h=>by simp at h,fun i j o o' _ h=>by simp at h,
   fun i r h=>by simp at h,fun i r h=>by simp at h,fun i r h=>by simp at h,fun i j r r' _ h=>by simp at h⟩
theorem L9 {α:Type} {l:List α} {x y:α} {i:Nat} (h:(l ++ [x])[i]? = some y):l[i]? = some y ∨ (i = l.length ∧ y = x):=by
 rcases Nat.lt_or_ge i l.length with hlt | hge
 ·rw [List.getElem?_append_left hlt] at h; exact .inl h
 rw [List.getElem?_append_right hge] at h
 rcases Nat.eq_or_lt_of_le hge with he | hl
 ·rw [← he,Nat.sub_self] at h
  simp only [List.getElem?_cons_zero,Option.some.injEq] at h
  exact .inr ⟨he.symm,h.symm⟩
 rw [List.getElem?_eq_none (by simp; omega)] at h; cases h
theorem WOk.add {w0 w:World} {M:Nat → Nat → Prop} {tb:Tb} {rs:List Rw} (h:WOk w0 M w tb rs) (ob:Ob) (hl:ob.blk < w.heap.size)
  (hc:∀ (j:Nat) (v:Value),ob.cells[j]? = some v → w.cell? ⟨ob.blk,ob.off + j,none⟩ = some v)
  (hr:ob.rw = true → ∀ j,j < ob.cells.length → (w0.heap.size ≤ ob.blk ∨ M ob.blk (ob.off + j)) ∧ w.frozen? ⟨ob.blk,ob.off + j,none⟩ = false)
  (ha:∀ (i:Nat) (o:Ob),tb[i]? = some o → (o.rw = true ∨ ob.rw = true) → o.blk ≠ ob.blk ∨ o.off + o.cells.length ≤ ob.off ∨ ob.off + ob.cells.length ≤ o.off)
  (hrs:∀ (i:Nat) (r:Rw),rs[i]? = some r → r.blk ≠ some ob.blk):WOk w0 M w (tb ++ [ob]) rs:=by
 refine ⟨h.step,?_,?_,?_,?_,h.own,h.ownM,?_,h.rr⟩
 ·intro i o hi
  rcases L9 hi with hi | ⟨_,rfl⟩
  ·exact h.cells i o hi
  exact hc
 ·intro i o hi
  rcases L9 hi with hi | ⟨_,rfl⟩
  ·exact h.live i o hi
  exact hl
 ·intro i o hi
  rcases L9 hi with hi | ⟨_,rfl⟩
  ·exact h.rw_ i o hi
  exact hr
 ·intro i j o o' hij hi hj hw
  rcases L9 hi with hi' | ⟨hi1,rfl⟩
  ·rcases L9 hj with hj' | ⟨_,rfl⟩
   ·exact h.apart i j o o' hij hi' hj' hw
   exact ha i o hi' hw
  rcases L9 hj with hj' | ⟨hj1,rfl⟩
  ·rcases ha j o' hj' hw.symm with h1 | h1 | h1
   ·exact .inl fun e=>h1 e.symm
   ·exact .inr (.inr h1)
   exact .inr (.inl h1)
  exact absurd (hi1.trans hj1.symm) hij
 intro i r hi g hg j o hj
 rcases L9 hj with hj' | ⟨_,rfl⟩
 ·exact h.rtb i r hi g hg j o hj'
 intro e; exact hrs i r hi (by rw [hg,e])
theorem Bo {w w':World} {r:Rw} (h:w.ownsRow 0 r.e r.size r.v r.n r.xs) (hk:∀ g,r.blk = some g → w'.heap[g]? = w.heap[g]?):w'.ownsRow 0 r.e r.size r.v r.n r.xs:=by
 refine ⟨h.1,?_⟩
 rcases h.2 with hn | ⟨g,cap,cur,hv,hb,hg,rest⟩
 ·exact .inl hn
 refine .inr ⟨g,cap,cur,hv,hb,?_,rest⟩
 rw [hk g ?_]
 ·exact hg
 rw [← r.own_eq,hv]; rfl
theorem M0 {w:World} {r:Rw} (h:w.ownsRow 0 r.e r.size r.v r.n r.xs) {g:Nat} (hg:r.blk = some g):g < w.heap.size :=
 (h.lt g (by rw [r.own_eq]; exact hg)).2
theorem WOk.next {w0 w w':World} {M N:Nat → Nat → Prop} {tb:Tb} {rs:List Rw} (h:WOk w0 M w tb rs) (hs:Step w w' N) (hN:∀ b o,b < w0.heap.size → N b o → M b o)
  (ht:∀ (i:Nat) (o:Ob),tb[i]? = some o → ∀ j,j < o.cells.length → ¬ N o.blk (o.off + j))
  (hrs:∀ (i:Nat) (r:Rw),rs[i]? = some r → ∀ g,r.blk = some g → ∀ o,¬ N g o):WOk w0 M w' tb rs:=by
 refine ⟨h.step.trans hs hN,?_,fun i o hi=>Nat.lt_of_lt_of_le (h.live i o hi) hs.size,?_,h.apart,?_,h.ownM,h.rtb,h.rr⟩
 ·intro i o hi j v hv
  have hj:j < o.cells.length:=(List.getElem?_eq_some_iff.1 hv).1
  exact hs.cell (ht i o hi j hj) (h.cells i o hi j v hv)
 ·intro i o hi hr j hj
  obtain ⟨h1,h2⟩:=h.rw_ i o hi hr j hj
  exact ⟨h1,hs.frozen (ht i o hi j hj) (h.cells i o hi j _ (List.getElem?_eq_getElem hj)) h2⟩
 intro i r hi
 refine Bo (h.own i r hi) fun g hg=>?_
 exact (hs.keeps g (M0 (h.own i r hi) hg)).1 (hrs i r hi g hg)
theorem WOk.next_nil {w0 w w':World} {M:Nat → Nat → Prop} {tb:Tb} {rs:List Rw} (h:WOk w0 M w tb rs) (hs:Step w w' B5):WOk w0 M w' tb rs :=
 h.next hs (fun _ _ _ f=>f.elim) (fun _ _ _ _ _ f=>f) (fun _ _ _ _ _ _ f=>f)
theorem Fr.nil {w w':World} (tb:Tb) (rs:List Rw) (hs:Step w w' B5):Fr w tb rs w' tb rs:=⟨fun _ _ _ h=>h,hs.mono fun _ _ _ f=>f.elim⟩
theorem Hf (w:World) (c:Array Value) (t:TypeId) (j:Nat):(w.alloc (.cells c t)).cell? ⟨w.heap.size,j,none⟩ = c[j]?:=by
 simp only [World.cell?,Bn,Option.isSome_none,Bool.false_eq_true,if_false]
theorem JS (w:World) (c:Array Value) (t:TypeId) (j:Nat):(w.alloc (.cells c t)).frozen? ⟨w.heap.size,j,none⟩ = false:=by
 unfold World.frozen?
 rw [Bn]
 simp
theorem WOk.alloc {w0 w:World} {M:Nat → Nat → Prop} {tb:Tb} {rs:List Rw} (h:WOk w0 M w tb rs) (cs:List Value) (t:TypeId):WOk w0 M (w.alloc (.cells cs.toArray t)) (tb ++ [⟨w.heap.size,0,cs,true⟩]) rs:=by
 have h1:=h.next_nil (Step.alloc w (.cells cs.toArray t))
 refine h1.add _ (by show w.heap.size < _; rw [DA]; omega) (fun j v hv=>?_) (fun _ j hj=>⟨.inl h.step.size,?_⟩) (fun i o hi _=>?_) (fun i r hi hb=>?_)
 ·show (w.alloc (.cells cs.toArray t)).cell? ⟨w.heap.size,0 + j,none⟩ = some v
  rw [Nat.zero_add,Hf]
  simpa using hv
 ·show (w.alloc (.cells cs.toArray t)).frozen? ⟨w.heap.size,0 + j,none⟩ = false
  exact JS w _ t _
 ·exact .inl (Nat.ne_of_lt (h.live i o hi))
 exact absurd (M0 (h.own i r hi) hb) (Nat.lt_irrefl _)
theorem Fr.alloc (w:World) (tb:Tb) (rs:List Rw) (o:Obj) (cs:List Value) (b:Bool):Fr w tb rs (w.alloc o) (tb ++ [⟨w.heap.size,0,cs,b⟩]) rs:=by
 refine ⟨fun b' o' hb ha hc=>?_,(Step.alloc w o).mono fun _ _ _ f=>f.elim⟩
 rcases hc with ⟨i,ob,hi,hr,h1,h2⟩ | h
 ·rcases L9 hi with hi | ⟨_,rfl⟩
  ·exact ha (.inl ⟨i,ob,hi,hr,h1,h2⟩)
  exact absurd h1.symm (Nat.ne_of_lt hb)
 exact ha (.inr h)
theorem WOk.fresh {w0 w w':World} {M:Nat → Nat → Prop} {tb:Tb} {rs:List Rw} (h:WOk w0 M w tb rs) (hs:Step w w' B5) (r:Rw) {base:Nat} (hb:w.heap.size ≤ base) (ho:w'.ownsRow base r.e r.size r.v r.n r.xs):WOk w0 M w' tb (rs ++ [r]):=by
 have h1:=h.next_nil hs
 have hge:∀ g,r.blk = some g → w.heap.size ≤ g:=fun g hg=>Nat.le_trans hb (ho.lt g (by rw [r.own_eq]; exact hg)).1
 have ho':w'.ownsRow 0 r.e r.size r.v r.n r.xs:=by
  refine ⟨ho.1,?_⟩
  rcases ho.2 with hn | ⟨g,cap,cur,hv,hb,rest⟩
  ·exact .inl hn
  exact .inr ⟨g,cap,cur,hv,Nat.zero_le _,rest⟩
 refine ⟨h1.step,h1.cells,h1.live,h1.rw_,h1.apart,?_,?_,?_,?_⟩
 ·intro i q hi
  rcases L9 hi with hi | ⟨_,rfl⟩
  ·exact h1.own i q hi
  exact ho'
 ·intro i q hi g hg
  rcases L9 hi with hi | ⟨_,rfl⟩
  ·exact h1.ownM i q hi g hg
  exact .inl (Nat.le_trans h.step.size (hge g hg))
 ·intro i q hi g hg j o hj
  rcases L9 hi with hi | ⟨_,rfl⟩
  ·exact h1.rtb i q hi g hg j o hj
  exact fun e=>by have:=h.live j o hj; have:=hge g hg; omega
 intro i j q q' hij hi hj g hg
 rcases L9 hi with hi' | ⟨hi1,rfl⟩
 ·rcases L9 hj with hj' | ⟨_,rfl⟩
  ·exact h1.rr i j q q' hij hi' hj' g hg
  intro e; have:=M0 (h.own i q hi') hg; have:=hge g e; omega
 rcases L9 hj with hj' | ⟨hj1,rfl⟩
 ·intro e; have:=M0 (h.own j q' hj') e; have:=hge g hg; omega
 exact absurd (hi1.trans hj1.symm) hij
theorem Fr.fresh {w w':World} (tb:Tb) (rs:List Rw) (hs:Step w w' B5) (r:Rw) {base:Nat} (hb:w.heap.size ≤ base) (ho:w'.ownsRow base r.e r.size r.v r.n r.xs):Fr w tb rs w' tb (rs ++ [r]):=by
 refine ⟨fun b' o' hb' ha hc=>?_,hs.mono fun _ _ _ f=>f.elim⟩
 rcases hc with h | ⟨i,q,hi,hq⟩
 ·exact ha (.inl h)
 rcases L9 hi with hi | ⟨_,rfl⟩
 ·exact ha (.inr ⟨i,q,hi,hq⟩)
 have:=(ho.lt b' (by rw [q.own_eq]; exact hq)).1; omega
def G1 (A:Option Addr):Nat → Nat → Prop:=fun b _=>A.map (·.block) = some b
theorem W4 {α:Type} {l:List α} {k i:Nat} {x y:α} (h:(l.set k x)[i]? = some y):(i = k ∧ y = x ∧ k < l.length) ∨ (i ≠ k ∧ l[i]? = some y):=by
 rw [List.getElem?_set] at h
 split at h
 ·rename_i e
  split at h
  ·exact .inl ⟨e.symm,(Option.some.inj h).symm,by assumption⟩
  cases h
 rename_i e
 exact .inr ⟨fun h'=>e h'.symm,h⟩
theorem WOk.grow {w0 w w':World} {M:Nat → Nat → Prop} {tb:Tb} {rs:List Rw} (h:WOk w0 M w tb rs) {k:Nat} {r r':Rw} (hk:rs[k]? = some r) (hs:Step w w' (G1 r.A)) (ho:w'.ownsRow 0 r'.e r'.size r'.v r'.n r'.xs)
  (hb:∀ g,r'.blk = some g → r.blk = some g ∨ w.heap.size ≤ g):WOk w0 M w' tb (rs.set k r'):=by
 refine ⟨h.step.trans hs ?_,?_,fun i o hi=>Nat.lt_of_lt_of_le (h.live i o hi) hs.size,?_,h.apart,?_,?_,?_,?_⟩
 ·intro b o hb' hB
  rcases h.ownM k r hk b hB with h1 | h1
  ·omega
  exact h1 o
 ·intro i o hi j v hv
  exact hs.cell (fun hB=>h.rtb k r hk _ hB i o hi rfl) (h.cells i o hi j v hv)
 ·intro i o hi hr j hj
  obtain ⟨h1,h2⟩:=h.rw_ i o hi hr j hj
  exact ⟨h1,hs.frozen (fun hB=>h.rtb k r hk _ hB i o hi rfl) (h.cells i o hi j _ (List.getElem?_eq_getElem hj)) h2⟩
 ·intro i q hi
  rcases W4 hi with ⟨_,rfl,_⟩ | ⟨hne,hi⟩
  ·exact ho
  refine Bo (h.own i q hi) fun g hg=>(hs.keeps g (M0 (h.own i q hi) hg)).1 fun _ hB=>?_
  exact h.rr k i r q (fun e=>hne e.symm) hk hi g hB hg
 ·intro i q hi g hg
  rcases W4 hi with ⟨_,rfl,_⟩ | ⟨hne,hi⟩
  ·rcases hb g hg with h1 | h1
   ·exact h.ownM k r hk g h1
   exact .inl (Nat.le_trans h.step.size h1)
  exact h.ownM i q hi g hg
 ·intro i q hi g hg j o hj
  rcases W4 hi with ⟨_,rfl,_⟩ | ⟨hne,hi⟩
  ·rcases hb g hg with h1 | h1
   ·exact h.rtb k r hk g h1 j o hj
   intro e; have:=h.live j o hj; omega
  exact h.rtb i q hi g hg j o hj
 intro i j q q' hij hi hj g hg
 rcases W4 hi with ⟨hi1,rfl,_⟩ | ⟨hne,hi'⟩
 ·rcases W4 hj with ⟨hj1,rfl,_⟩ | ⟨hne',hj'⟩
  ·exact absurd (hi1.trans hj1.symm) hij
  rcases hb g hg with h1 | h1
  ·exact h.rr k j r q' (fun e=>hne' e.symm) hk hj' g h1
  intro e; have:=M0 (h.own j q' hj') e; omega
 rcases W4 hj with ⟨hj1,rfl,_⟩ | ⟨hne',hj'⟩
 ·intro e
  rcases hb g e with h1 | h1
  ·exact h.rr k i r q (fun e=>hne e.symm) hk hi' g h1 hg
  have:=M0 (h.own i q hi') hg; omega
 exact h.rr i j q q' hij hi' hj' g hg
theorem Fr.grow {w w':World} (tb:Tb) {rs:List Rw} {k:Nat} {r r':Rw} (hk:rs[k]? = some r) (hs:Step w w' (G1 r.A)) (hb:∀ g,r'.blk = some g → r.blk = some g ∨ w.heap.size ≤ g):Fr w tb rs w' tb (rs.set k r'):=by
 refine ⟨fun b' o' hb' ha hc=>?_,hs.mono fun b o _ hB=>.inr ⟨k,r,hk,hB⟩⟩
 rcases hc with h | ⟨i,q,hi,hq⟩
 ·exact ha (.inl h)
 rcases W4 hi with ⟨_,rfl,_⟩ | ⟨hne,hi⟩
 ·rcases hb b' hq with h1 | h1
  ·exact ha (.inr ⟨k,r,hk,h1⟩)
  omega
 exact ha (.inr ⟨i,q,hi,hq⟩)
theorem WOk.rows {w0 w:World} {M:Nat → Nat → Prop} {tb:Tb} {rs:List Rw} (h:WOk w0 M w tb rs) (n:Nat):WOk w0 M w tb (rs.take n):=by
 have ht:∀ {i:Nat} {r:Rw},(rs.take n)[i]? = some r → rs[i]? = some r:=fun {i r} hi=>by
  rw [List.getElem?_take] at hi
  split at hi
  ·exact hi
  cases hi
 exact ⟨h.step,h.cells,h.live,h.rw_,h.apart,fun i r hi=>h.own i r (ht hi),fun i r hi=>h.ownM i r (ht hi),fun i r hi=>h.rtb i r (ht hi),fun i j r r' hij hi hj=>h.rr i j r r' hij (ht hi) (ht hj)⟩
theorem Fr.rows (w:World) (tb:Tb) (rs:List Rw) (n:Nat):Fr w tb rs w tb (rs.take n):=by
 refine ⟨fun b o _ ha hc=>?_,Step.refl _ _⟩
 rcases hc with h | ⟨i,r,hi,hr⟩
 ·exact ha (.inl h)
 rw [List.getElem?_take] at hi
 split at hi
 ·exact ha (.inr ⟨i,r,hi,hr⟩)
 cases hi
def D4 (G:Nat → Nat → Prop) (w0 w:World) (tb:Tb) (rs:List Rw) (b o:Nat):Prop:=(G b o ∨ w0.heap.size ≤ b) ∧ b < w.heap.size ∧ ¬ G9 tb rs b o
theorem WOk.act_live {w0 w:World} {M:Nat → Nat → Prop} {tb:Tb} {rs:List Rw} (h:WOk w0 M w tb rs) {b o:Nat} (ha:G9 tb rs b o):b < w.heap.size:=by
 rcases ha with ⟨i,ob,hi,_,rfl,_⟩ | ⟨i,r,hi,hr⟩
 ·exact h.live i ob hi
 exact M0 (h.own i r hi) hr
theorem Fr.to {G:Nat → Nat → Prop} {w0 w w':World} {tb tb':Tb} {rs rs':List Rw} (h:Fr w tb rs w' tb' rs'):∀ b o,D4 G w0 w tb rs b o → D4 G w0 w' tb' rs' b o :=
 fun b o ⟨h1,h2,h3⟩=>⟨h1,Nat.lt_of_lt_of_le h2 h.step.size,h.imm b o h2 h3⟩
theorem EnvOk.table {n:Nat} {tb tb':Tb} {env:C8} {a:Act} (h:EnvOk n tb env a) (ht:∀ i,i < tb.length → i < tb'.length ∧ (D0 tb' i).blk = (D0 tb i).blk ∧ (D0 tb' i).off = (D0 tb i).off):EnvOk n tb' env a:=by
 refine ⟨h.defers,h.size,fun s x hl=>?_⟩
 obtain ⟨h1,h2⟩:=h.at_ s x hl
 cases x with
 | v y=>exact ⟨h1,trivial⟩
 | p i k =>
  have:=ht i h2
  refine ⟨?_,this.1⟩
  rw [h1]
  simp only [SV.val,this.2.1,this.2.2]
theorem EnvOk.grow {n:Nat} {tb:Tb} {env:C8} {a:Act} (h:EnvOk n tb env a) (ob:Ob):EnvOk n (tb ++ [ob]) env a :=
 h.table fun i hi=>⟨by simp; omega,by simp [D0,List.getD_eq_getElem?_getD,List.getElem?_append_left hi],by simp [D0,List.getD_eq_getElem?_getD,List.getElem?_append_left hi]⟩
theorem EnvOk.recast {n:Nat} {tb:Tb} {env:C8} {a:Act} (h:EnvOk n tb env a) (s:Nat) (x y:SV) (hx:lk env s = some x) (hy:y.val tb = x.val tb) (ho:y.ok tb):EnvOk n tb ((s,y) :: env) a:=by
 refine ⟨h.defers,h.size,fun t z hl=>?_⟩
 simp only [lk] at hl
 split at hl
 ·rename_i hb
  have:=Nat.eq_of_beq_eq_true hb
  subst this
  simp only [Option.some.injEq] at hl
  subst hl
  rw [hy]
  exact ⟨(h.at_ s x hx).1,ho⟩
 exact h.at_ t z hl
section
variable {P:Program} {ops:Array Oper} {Q:Exit → Act → World → Prop} {n:Nat} {tb:Tb} {env:C8} {rs:List Rw} {w0:World} {M:Nat → Nat → Prop} {a:Act} {w:World}
def F7 (env:C8) (ops:Array Oper) (n i:Nat):Option (Op × Nat) :=
 match ops.toList[i]? with
 | some o=>match Dz ops env o,o.dst with
  | some true,some d=>match Nat.blt d n with
   | true=>some (o.op,d)
   | false=>none
  | _,_=>none
 | none=>none
def BO (ops:Array Oper) (i:Nat):Option Op :=
 match ops.toList[i]? with
 | some o=>match o.guard,o.dst with
  | none,none=>some o.op
  | _,_=>none
 | none=>none
theorem K8 {i d:Nat} {op:Op} (hE:EnvOk n tb env a) (h:F7 env ops n i = some (op,d)):∃ o,ops[i]? = some o ∧ Region.wanted o (yielded ops a.tmps) = true ∧ o.dst = some d ∧ d < n ∧ o.op = op:=by
 unfold F7 at h
 split at h
 ·rename_i o ho
  split at h
  ·rename_i d' hg hd
   split at h
   ·rename_i hlt
    simp only [Option.some.injEq,Prod.mk.injEq] at h
    obtain ⟨rfl,rfl⟩:=h
    exact ⟨o,by simpa using ho,Bm hE hg,hd,by simpa [Nat.blt_eq] using hlt,rfl⟩
   cases h
  cases h
 cases h
theorem JT {i:Nat} {op:Op} (h:BO ops i = some op):∃ o,ops[i]? = some o ∧ o.guard = none ∧ o.dst = none ∧ o.op = op:=by
 unfold BO at h
 split at h
 ·rename_i o ho
  split at h
  ·rename_i hg hd
   simp only [Option.some.injEq] at h
   exact ⟨o,by simpa using ho,hg,hd,h⟩
  cases h
 cases h
theorem N0 {i d:Nat} {op:Op} {N:Act → World → Prop} (hE:EnvOk n tb env a) (ho:F7 env ops n i = some (op,d)) {v:Value} {w':World}
  (hr:∀ o:Oper,o.op = op → (execOp a.eval o).run P w = .ok (.value v) w') (k:N (a.put (some d) v) w'):wpOp P ops Q i N a w:=by
 obtain ⟨o,h1,h2,h3,h4,h5⟩:=K8 hE ho
 simp only [wpOp,h1]
 have:Region.wanted o (yielded ops a.tmps) = true:=by first | exact h2 | simp [Region.wanted,h2]
 rw [this]
 simp only [if_true]
 refine .inl ?_
 unfold Oper.wp
 rw [hr o h5,Oper.upon,h3]
 exact k
theorem ED {i:Nat} {op:Op} {N:Act → World → Prop} (ho:BO ops i = some op) {w':World}
  (hr:∀ o:Oper,o.op = op → (execOp a.eval o).run P w = .ok .skip w') (k:N a w'):wpOp P ops Q i N a w:=by
 obtain ⟨o,h1,h2,h3,h5⟩:=JT ho
 simp only [wpOp,h1]
 have:Region.wanted o (yielded ops a.tmps) = true:=by first | exact h2 | simp [Region.wanted,h2]
 rw [this]
 simp only [if_true]
 refine .inl ?_
 unfold Oper.wp
 rw [hr o h5,Oper.upon,h3]
 exact k
def Hg (P:Program) (env:C8) (ops:Array Oper) (n i:Nat):Option (Nat × List Value) :=
 match F7 env ops n i with
 | some (.alloc t,d)=>match P.info? t with
  | some inf=>match inf.zero with
   | some z=>some (d,z.cells.toList)
   | none=>none
  | none=>none
 | _=>none
theorem D7 {i d:Nat} {cs:List Value} {N:Act → World → Prop} (hW:WOk w0 M w tb rs) (hE:EnvOk n tb env a) (h:Hg P env ops n i = some (d,cs))
  (k:∀ b a' w',b = w.heap.size → w0.heap.size ≤ b → Fr w tb rs w' (tb ++ [⟨b,0,cs,true⟩]) rs → WOk w0 M w' (tb ++ [⟨b,0,cs,true⟩]) rs → EnvOk n (tb ++ [⟨b,0,cs,true⟩]) ((d,.p tb.length 0) :: env) a' → N a' w'):wpOp P ops Q i N a w:=by
 unfold Hg at h
 split at h
 ·rename_i t d' ho
  split at h
  ·rename_i inf hi
   split at h
   ·rename_i z hz
    simp only [Option.some.injEq,Prod.mk.injEq] at h
    obtain ⟨rfl,rfl⟩:=h
    have hd:d' < n:=(K8 hE ho).choose_spec.2.2.2.1
    refine N0 hE ho (v:=.pointer (some ⟨w.heap.size,0,none⟩)) (w':=w.alloc (.cells z.cells t)) ?_ ?_
    ·intro o hop
     unfold execOp
     rw [hop]
     simp only [Instr.alloc,Sem.run_bind,run_zeroValue' hi hz,Result.andThen_ok,newVar,newRow,run_newObj,Sem.run_pure]
     rfl
    have hW':=hW.alloc z.cells.toList t
    rw [Array.toArray_toList] at hW'
    refine k w.heap.size _ _ rfl hW.step.size (Fr.alloc _ _ _ _ _ _) hW' ?_
    have hE':=(hE.grow ⟨w.heap.size,0,z.cells.toList,true⟩).put hd (.p tb.length 0) (by simp [SV.ok])
    have hv:SV.val (tb ++ [⟨w.heap.size,0,z.cells.toList,true⟩]) (.p tb.length 0) = .pointer (some ⟨w.heap.size,0,none⟩):=by
     simp [SV.val,D0,List.getD_eq_getElem?_getD]
    rw [hv] at hE'
    exact hE'
   cases h
  cases h
 cases h
def Cx (P:Program) (tb:Tb) (env:C8) (ops:Array Oper) (n i:Nat):Option (Nat × List Value) :=
 match F7 env ops n i with
 | some (.box t x,d)=>match E8 env x with
  | some s=>some (d,(s.val tb).cells.toList)
  | none=>none
 | _=>none
theorem J1 {i d:Nat} {cs:List Value} {N:Act → World → Prop} (hW:WOk w0 M w tb rs) (hE:EnvOk n tb env a) (h:Cx P tb env ops n i = some (d,cs))
  (k:∀ b a' w',b = w.heap.size → w0.heap.size ≤ b → Fr w tb rs w' (tb ++ [⟨b,0,cs,true⟩]) rs → WOk w0 M w' (tb ++ [⟨b,0,cs,true⟩]) rs → EnvOk n (tb ++ [⟨b,0,cs,true⟩]) ((d,.p tb.length 0) :: env) a' → N a' w'):wpOp P ops Q i N a w:=by
 unfold Cx at h
 split at h
 ·rename_i t x d' ho
  split at h
  ·rename_i s hs
   simp only [Option.some.injEq,Prod.mk.injEq] at h
   obtain ⟨rfl,rfl⟩:=h
   have hd:d' < n:=(K8 hE ho).choose_spec.2.2.2.1
   have hx:=F4 hE hs
   refine N0 hE ho (v:=.pointer (some ⟨w.heap.size,0,none⟩)) (w':=w.alloc (.cells (s.val tb).cells t)) ?_ ?_
   ·intro o hop
    unfold execOp
    rw [hop]
    simp only [Instr.box,hx.1,Sem.run_bind,Result.andThen_ok,newVar,newRow,run_newObj,Sem.run_pure]
    rfl
   have hW':=hW.alloc (s.val tb).cells.toList t
   rw [Array.toArray_toList] at hW'
   refine k w.heap.size _ _ rfl hW.step.size (Fr.alloc _ _ _ _ _ _) hW' ?_
   have hE':=(hE.grow ⟨w.heap.size,0,(s.val tb).cells.toList,true⟩).put hd (.p tb.length 0) (by simp [SV.ok])
   have hv:SV.val (tb ++ [⟨w.heap.size,0,(s.val tb).cells.toList,true⟩]) (.p tb.length 0) = .pointer (some ⟨w.heap.size,0,none⟩):=by
    simp [SV.val,D0,List.getD_eq_getElem?_getD]
   rw [hv] at hE'
   exact hE'
  cases h
 cases h
end
def EE (b o n:Nat):Nat → Nat → Prop:=fun b' o'=>b' = b ∧ o ≤ o' ∧ o' < o + n
theorem Step.setCell (w:World) (b o:Nat) (v:Value):Step w (w.setCell ⟨b,o,none⟩ v) (EE b o 1):=by
 refine ⟨rfl,rfl,by simp,fun b' hb'=>?_⟩
 have hh:(w.setCell ⟨b,o,none⟩ v).heap[b']? = if b = b' then (w.heap[b']?).map (fun | .cells c e f=>.cells (c.setIfInBounds o v) e f | x=>x) else w.heap[b']?:=by
  simp only [World.setCell,Array.getElem?_modify]
  split
  ·rfl
  rfl
 rw [hh]
 by_cases hbb:b = b'
 ·subst hbb
  rw [if_pos rfl]
  refine ⟨fun hm=>absurd ⟨rfl,Nat.le_refl o,by omega⟩ (hm o),fun _ c t f hx=>?_⟩
  rw [hx]
  refine ⟨c.setIfInBounds o v,rfl,by simp,fun o' ho'=>?_⟩
  rw [Array.getElem?_setIfInBounds]
  by_cases h:o = o'
  ·subst h; exact absurd ⟨rfl,Nat.le_refl o,by omega⟩ ho'
  rw [if_neg h]
 rw [if_neg hbb]; exact Keeps.refl _ _
theorem Step.setCells (b:Nat):∀ (vs:List Value) (o:Nat) (w:World),Step w (w.setCells b o vs) (EE b o vs.length)
 | [],o,w=>Step.refl w _
 | v :: r,o,w=>by
  have h1:Step w (w.setCell ⟨b,o,none⟩ v) (EE b o (v :: r).length):=(Step.setCell w b o v).mono fun b' o' _ h=>⟨h.1,h.2.1,by have:=h.2.2; simp; omega⟩
  exact h1.trans (Step.setCells b r (o + 1) _) fun b' o' _ h=>⟨h.1,by have:=h.2.1; omega,by have:=h.2.2; simp; omega⟩
theorem Hh (b:Nat):∀ (vs:List Value) (o:Nat) (w:World),(∀ j,j < vs.length → (w.cell? ⟨b,o + j,none⟩).isSome = true) → ∀ (j:Nat) (v:Value),vs[j]? = some v → (w.setCells b o vs).cell? ⟨b,o + j,none⟩ = some v
 | [],o,w,h,j,v,e=>by simp at e
 | u :: r,o,w,h,j,v,e=>by
  have hs:∀ k,k < r.length → ((w.setCell ⟨b,o,none⟩ u).cell? ⟨b,o + 1 + k,none⟩).isSome = true:=fun k hk=>by
   rw [World.cell?_setCell_other _ _ _ _ (by simp only [ne_eq,Addr.mk.injEq]; omega)]
   have:=h (k + 1) (by simp; omega)
   rwa [show o + (k + 1) = o + 1 + k by omega] at this
  cases j with
  | zero =>
   simp only [List.getElem?_cons_zero,Option.some.injEq] at e
   subst e
   obtain ⟨x,hx⟩:=Option.isSome_iff_exists.1 (h 0 (by simp))
   have h1:=World.cell?_setCell_same (w:=w) (a:=⟨b,o,none⟩) (v:=u) hx
   exact (Step.setCells b r (o + 1) _).cell (fun h=>by have:=h.2.1; omega) h1
  | succ j =>
   rw [show o + (j + 1) = o + 1 + j by omega]
   exact Hh b r (o + 1) _ hs j v (by simpa using e)
theorem Hi (b:Nat):∀ (vs:List Value) (o:Nat) (w:World) (ad:Addr),(w.setCells b o vs).frozen? ad = w.frozen? ad
 | [],_,_,_=>rfl
 | v :: r,o,w,ad=>by
  show ((w.setCell ⟨b,o,none⟩ v).setCells b (o + 1) r).frozen? ad = _
  rw [Hi b r,World.frozen?_setCell]
def K5 (cs:List Value) (k:Nat) (vs:List Value):List Value:=cs.take k ++ (vs ++ cs.drop (k + vs.length))
theorem EF {cs vs:List Value} {k:Nat} (h:k + vs.length ≤ cs.length):(K5 cs k vs).length = cs.length:=by
 simp [K5]; omega
theorem JU {cs vs:List Value} {k:Nat} (h:k + vs.length ≤ cs.length) (j:Nat):(K5 cs k vs)[j]? = if k ≤ j ∧ j < k + vs.length then vs[j - k]? else cs[j]?:=by
 unfold K5
 by_cases h1:j < k
 ·rw [List.getElem?_append_left (by simp; omega),List.getElem?_take,if_pos h1,if_neg (by omega)]
 rw [List.getElem?_append_right (by simp; omega)]
 simp only [List.length_take]
 rw [show j - min k cs.length = j - k by omega]
 by_cases h2:j < k + vs.length
 ·rw [List.getElem?_append_left (by omega),if_pos ⟨by omega,h2⟩]
 rw [List.getElem?_append_right (by omega),List.getElem?_drop,if_neg (by omega)]
 congr 1; omega
def Tb.put (tb:Tb) (i:Nat) (cs:List Value):Tb:=tb.set i { D0 tb i with cells:=cs }
theorem Z1 {tb:Tb} {i:Nat} {cs:List Value} {j:Nat} {o:Ob} (hi:i < tb.length) (h:(Tb.put tb i cs)[j]? = some o):(j = i ∧ o = { D0 tb i with cells:=cs }) ∨ (j ≠ i ∧ tb[j]? = some o):=by
 unfold Tb.put at h
 rw [List.getElem?_set] at h
 split at h
 ·rename_i e
  first
   | exact .inl ⟨e.symm,(Option.some.inj h).symm⟩
   | (rw [if_pos hi] at h; exact .inl ⟨e.symm,(Option.some.inj h).symm⟩)
 rename_i e
 exact .inr ⟨fun h'=>e h'.symm,h⟩
theorem WOk.store {w0 w:World} {M:Nat → Nat → Prop} {tb:Tb} {rs:List Rw} (h:WOk w0 M w tb rs) {i k:Nat} {vs:List Value} (hi:i < tb.length) (hr:(D0 tb i).rw = true) (hk:k + vs.length ≤ (D0 tb i).cells.length) :
  WOk w0 M (w.setCells (D0 tb i).blk ((D0 tb i).off + k) vs) (Tb.put tb i (K5 (D0 tb i).cells k vs)) rs:=by
 have hob:=Cs hi
 have hs:=Step.setCells (D0 tb i).blk vs ((D0 tb i).off + k) w
 have hlen:=EF hk
 have hsome:∀ j,j < vs.length → (w.cell? ⟨(D0 tb i).blk,(D0 tb i).off + k + j,none⟩).isSome = true:=fun j hj=>by
  have:=h.cells i _ hob (k + j) _ (List.getElem?_eq_getElem (show k + j < (D0 tb i).cells.length by omega))
  rw [Nat.add_assoc,this]; rfl
 refine ⟨h.step.trans hs ?_,?_,?_,?_,?_,?_,h.ownM,?_,h.rr⟩
 ·intro b o hb hR
  obtain ⟨rfl,h1,h2⟩:=hR
  have:=(h.rw_ i _ hob hr (o - (D0 tb i).off) (by omega)).1
  rw [show (D0 tb i).off + (o - (D0 tb i).off) = o by omega] at this
  rcases this with h3 | h3
  ·omega
  exact h3
 ·intro j o hj q v hv
  rcases Z1 hi hj with ⟨rfl,rfl⟩ | ⟨hne,hj⟩
  ·dsimp only at hv ⊢
   rw [JU hk] at hv
   split at hv
   ·rename_i hc
    have:=Hh (D0 tb j).blk vs _ w hsome (q - k) v hv
    rwa [show (D0 tb j).off + k + (q - k) = (D0 tb j).off + q by omega] at this
   rename_i hc
   exact hs.cell (fun hR=>hc ⟨by have:=hR.2.1; omega,by have:=hR.2.2; omega⟩) (h.cells j _ hob q v hv)
  have hq:q < o.cells.length:=(List.getElem?_eq_some_iff.1 hv).1
  refine hs.cell (fun hR=>?_) (h.cells j o hj q v hv)
  have:=h.apart j i o _ hne hj hob (.inr hr)
  obtain ⟨h1,h2,h3⟩:=hR
  rcases this with g | g | g
  ·exact g h1
  ·omega
  omega
 ·intro j o hj
  rcases Z1 hi hj with ⟨rfl,rfl⟩ | ⟨_,hj⟩
  ·exact Nat.lt_of_lt_of_le (show (D0 tb j).blk < w.heap.size from h.live j _ hob) hs.size
  exact Nat.lt_of_lt_of_le (h.live j o hj) hs.size
 ·intro j o hj hro q hq
  have hfz:=fun b o=>Hi (D0 tb i).blk vs ((D0 tb i).off + k) w ⟨b,o,none⟩
  rcases Z1 hi hj with ⟨rfl,rfl⟩ | ⟨_,hj⟩
  ·dsimp only at hq ⊢
   rw [hlen] at hq
   rw [hfz]
   exact h.rw_ j _ hob hr q hq
  rw [hfz]
  exact h.rw_ j o hj hro q hq
 ·intro p q o o' hpq hp hq hw
  rcases Z1 hi hp with ⟨rfl,rfl⟩ | ⟨hp1,hp'⟩
  ·rcases Z1 hi hq with ⟨rfl,rfl⟩ | ⟨_,hq'⟩
   ·exact absurd rfl hpq
   dsimp only
   rw [hlen]
   exact h.apart p q _ o' hpq hob hq' hw
  rcases Z1 hi hq with ⟨rfl,rfl⟩ | ⟨_,hq'⟩
  ·dsimp only
   rw [hlen]
   exact h.apart p q o _ hpq hp' hob hw
  exact h.apart p q o o' hpq hp' hq' hw
 ·intro j r hj
  refine Bo (h.own j r hj) fun g hg=>(hs.keeps g (M0 (h.own j r hj) hg)).1 fun o hR=>?_
  exact h.rtb j r hj g hg i _ hob hR.1.symm
 intro j r hj g hg q o hq
 rcases Z1 hi hq with ⟨rfl,rfl⟩ | ⟨_,hq⟩
 ·exact show (D0 tb q).blk ≠ g from h.rtb j r hj g hg q _ hob
 exact h.rtb j r hj g hg q o hq
theorem Fr.store (w:World) {tb:Tb} (rs:List Rw) {i k:Nat} {vs:List Value} (hi:i < tb.length) (hr:(D0 tb i).rw = true) (hk:k + vs.length ≤ (D0 tb i).cells.length) :
  Fr w tb rs (w.setCells (D0 tb i).blk ((D0 tb i).off + k) vs) (Tb.put tb i (K5 (D0 tb i).cells k vs)) rs:=by
 have hob:=Cs hi
 refine ⟨fun b o _ ha hc=>?_,(Step.setCells _ vs _ w).mono fun b o _ hR=>.inl ⟨i,_,hob,hr,hR.1.symm,by have:=hR.2.1; omega,by have:=hR.2.2; omega⟩⟩
 rcases hc with ⟨j,ob,hj,hr',h1,h2,h3⟩ | h
 ·rcases Z1 hi hj with ⟨rfl,rfl⟩ | ⟨_,hj⟩
  ·dsimp only at h1 h2 h3
   rw [EF hk] at h3
   exact ha (.inl ⟨j,_,hob,hr,h1,h2,h3⟩)
  exact ha (.inl ⟨j,ob,hj,hr',h1,h2,h3⟩)
 exact ha (.inr h)
theorem EnvOk.put_tb {n:Nat} {tb:Tb} {env:C8} {a:Act} (h:EnvOk n tb env a) (i:Nat) (cs:List Value):EnvOk n (Tb.put tb i cs) env a:=by
 refine h.table fun j hj=>?_
 have hl:(Tb.put tb i cs).length = tb.length:=by simp [Tb.put]
 refine ⟨by rw [hl]; exact hj,?_⟩
 by_cases hij:i = j
 ·subst hij
  simp [Tb.put,D0,List.getD_eq_getElem?_getD,List.getElem?_set,hj]
 simp [Tb.put,D0,List.getD_eq_getElem?_getD,List.getElem?_set,hij]
def Z2 (vs:List Value):Bool:=match vs with
 | []=>true
 | v :: r=>match v.oneCell' with
  | true=>Z2 r
  | false=>false
theorem K6:∀ {vs:List Value},Z2 vs = true → ∀ v ∈ vs,v.oneCell' = true
 | [],_,v,h=>by cases h
 | u :: r,e,v,h=>by
  simp only [Z2] at e
  split at e
  ·rename_i hu
   rcases List.mem_cons.1 h with rfl | h
   ·exact hu
   exact K6 e v h
  cases e
section
variable {P:Program} {ops:Array Oper} {Q:Exit → Act → World → Prop} {n:Nat} {tb:Tb} {env:C8} {rs:List Rw} {w0:World} {M:Nat → Nat → Prop} {a:Act} {w:World}
def DB (P:Program) (tb:Tb) (env:C8) (ops:Array Oper) (i:Nat):Option (Nat × List Value) :=
 match BO ops i with
 | some (.store t ad x)=>match E8 env ad,E8 env x,P.info? t with
  | some (.p oi k),some s,some inf =>
   let vs:=(s.val tb).cells.toList
   match (D0 tb oi).rw,Nat.beq vs.length inf.size,Nat.ble (k + vs.length) (D0 tb oi).cells.length,Z2 vs with
   | true,true,true,true=>some (oi,K5 (D0 tb oi).cells k vs)
   | _,_,_,_=>none
  | _,_,_=>none
 | _=>none
theorem C7 {i oi:Nat} {cs:List Value} {N:Act → World → Prop} (hW:WOk w0 M w tb rs) (hE:EnvOk n tb env a) (h:DB P tb env ops i = some (oi,cs))
  (k:∀ w',Fr w tb rs w' (Tb.put tb oi cs) rs → WOk w0 M w' (Tb.put tb oi cs) rs → EnvOk n (Tb.put tb oi cs) env a → N a w'):wpOp P ops Q i N a w:=by
 unfold DB at h
 split at h
 ·rename_i t ad x ho
  split at h
  ·rename_i oi' kk s inf hs1 hs2 hi
   dsimp only at h
   split at h
   ·rename_i hr hl hb h1
    simp only [Option.some.injEq,Prod.mk.injEq] at h
    obtain ⟨rfl,rfl⟩:=h
    have had:=F4 hE hs1
    have hx:=F4 hE hs2
    have hin:oi' < tb.length:=had.2
    have hk:kk + (s.val tb).cells.toList.length ≤ (D0 tb oi').cells.length:=Nat.le_of_ble_eq_true hb
    have hl':(s.val tb).cells.size = inf.size:=by have:=Nat.eq_of_beq_eq_true hl; simpa using this
    refine ED ho (w':=w.setCells (D0 tb oi').blk ((D0 tb oi').off + kk) (s.val tb).cells.toList) ?_ ?_
    ·intro o hop
     unfold execOp
     rw [hop]
     have hrun:(Instr.storeAt t (a.eval ad) (a.eval x)).run P w = .ok () (w.setCells (D0 tb oi').blk ((D0 tb oi').off + kk) (s.val tb).cells.toList):=by
      have hst:=run_storeCells_cells (P:=P) (D0 tb oi').blk ((D0 tb oi').off + kk) (s.val tb).cells.toList 0 w
       (fun j hj=>by
        have:=hW.cells oi' _ (Cs hin) (kk + j) _ (List.getElem?_eq_getElem (show kk + j < (D0 tb oi').cells.length by omega))
        rw [Nat.add_zero,Nat.add_assoc,this]; rfl)
       (fun j hj=>by
        have:=(hW.rw_ oi' _ (Cs hin) hr (kk + j) (by omega)).2
        rw [Nat.add_zero,Nat.add_assoc,this])
       (K6 h1)
      rw [Nat.add_zero] at hst
      unfold Instr.storeAt
      rw [had.1,hx.1]
      generalize s.val tb = u at *
      simp only [SV.val,Instr.sureAddr,Sem.run_bind,Sem.run_pure,Result.andThen_ok]
      unfold storeVar
      simp only [Sem.run_bind,run_sizeOf' hi,Result.andThen_ok,hl',ne_eq,not_true_eq_false,if_false,Sem.run_pure,hst]
     simp only [Sem.run_bind,hrun,Result.andThen_ok,Sem.run_pure]
    exact k _ (Fr.store w rs hin hr hk) (hW.store hin hr hk) (hE.put_tb _ _)
   cases h
  cases h
 cases h
def BP (tb:Tb) (env:C8):List Operand → Option (List Value)
 | []=>some []
 | x :: r=>match E8 env x with
  | some s=>match BP tb env r with
   | some l=>some (s.val tb :: l)
   | none=>none
  | none=>none
theorem EG {a:Act} (h:EnvOk n tb env a):∀ {l:List Operand} {vs:List Value},BP tb env l = some vs → l.map a.eval = vs
 | [],vs,e=>by simp only [BP,Option.some.injEq] at e; subst e; rfl
 | x :: r,vs,e=>by
  simp only [BP] at e
  split at e
  ·rename_i s hs
   split at e
   ·rename_i l hl
    simp only [Option.some.injEq] at e
    subst e
    simp only [List.map_cons,(F4 h hs).1,EG h hl]
   cases e
  cases e
def O6 (tb:Tb) (env:C8) (ops:Array Oper) (n i:Nat):Option (FuncId × List Value × Nat) :=
 match F7 env ops n i with
 | some (.call c,d)=>match c.callee with
  | .value x=>match E8 env x,BP tb env c.args.toList with
   | some (.v (.func (.func f) first cap)),some vs=>some (f,first.toList ++ vs ++ cap.toList,d)
   | _,_=>none
  | _=>none
 | _=>none
theorem C3 {i d:Nat} {f:FuncId} {vs:List Value} {N:Act → World → Prop} {R:Ending → World → Prop} (hE:EnvOk n tb env a) (h:O6 tb env ops n i = some (f,vs,d))
  (hf:∀ args w,(callFunc f args).run P w = .ok (.enter f args) w) (hc:Calls P f vs.toArray w R)
  (k:∀ e w',R e w' → ∃ v,e = .returned v ∧ ∀ a',EnvOk n tb ((d,.v v) :: env) a' → N a' w'):wpOp P ops Q i N a w:=by
 unfold O6 at h
 split at h
 ·rename_i c d' ho
  split at h
  ·rename_i x hcal
   split at h
   ·rename_i f' first cap vs' hx hargs
    simp only [Option.some.injEq,Prod.mk.injEq] at h
    obtain ⟨rfl,rfl,rfl⟩:=h
    obtain ⟨o,h1,h2,h3,h4,h5⟩:=K8 hE ho
    have hx':=(F4 hE hx).1
    have ha':c.args.map a.eval = vs'.toArray:=by
     apply Array.ext'
     simpa using EG hE hargs
    simp only [wpOp,h1]
    have:Region.wanted o (yielded ops a.tmps) = true:=by first | exact h2 | simp [Region.wanted,h2]
    rw [this]
    simp only [if_true]
    refine .inl ?_
    have hr:(execOp a.eval o).run P w = .ok (.enter f' (first.toList ++ vs' ++ cap.toList).toArray) w:=by
     unfold execOp
     rw [h5]
     simp only [resolve,hcal,hx',SV.val,Deferred.ofValue,ha',invoke,Sem.run_bind,Sem.run_pure,Result.andThen_ok,hf]
     congr 2
     apply Array.ext'
     simp
    unfold Oper.wp
    rw [hr,Oper.upon]
    refine hc.mono fun e w' he=>?_
    obtain ⟨v,rfl,hk⟩:=k e w' he
    show N (a.put o.dst v) w'
    rw [h3]
    exact hk _ (hE.put h4 (.v v) trivial)
   cases h
  cases h
 cases h
theorem B4 (h:Q .normal a w):wpOps P ops Q [] a w:=h
theorem A7 {N:Act → World → Prop} (h:N a w):Exit.then N Q .normal a w:=h
theorem E2 {N:Act → World → Prop} {id:Nat} (h:Q (.exit id) a w):Exit.then N Q (.exit id) a w:=h
theorem F5 {N:Act → World → Prop} (h:Q .ret a w):Exit.then N Q .ret a w:=h
theorem G2 {id:Nat} (h:Q .normal a w):Exit.inBlock id Q .normal a w:=h
theorem G3 {id:Nat} (h:Q .normal a w):Exit.inBlock id Q (.exit id) a w:=by simpa [Exit.inBlock] using h
theorem N1 {id:Nat} (h:Q .ret a w):Exit.inBlock id Q .ret a w:=h
theorem D8 {x y:Code} {c:Operand} {b:Bool} (hE:EnvOk n tb env a) (hc:E8 env c = some (.v (.bool b))) (h1:b = true → x.wp P Q a w) (h2:b = false → y.wp P Q a w):(Code.cond c x y).wp P Q a w :=
 wp_cond_split (F4 hE hc).1 h1 h2
theorem Q6 {x y:Code} {c:Operand} {b:Bool} (hE:EnvOk n tb env a) (hc:E8 env c = some (.v (.bool b))) (hb:b = true) (h1:x.wp P Q a w):(Code.cond c x y).wp P Q a w :=
 D8 hE hc (fun _=>h1) (fun h=>by rw [hb] at h; cases h)
theorem F6 {x y:Code} {c:Operand} {b:Bool} (hE:EnvOk n tb env a) (hc:E8 env c = some (.v (.bool b))) (hb:b = false) (h1:y.wp P Q a w):(Code.cond c x y).wp P Q a w :=
 D8 hE hc (fun h=>by rw [hb] at h; cases h) (fun _=>h1)
end
def BQ:Nat → List Value → C8
 | _,[]=>[]
 | i,v :: r=>(i,.v v) :: BQ (i + 1) r
theorem Hj:∀ (vs:List Value) (i s:Nat) (x:SV),lk (BQ i vs) s = some x → i ≤ s ∧ ∃ v,vs[s - i]? = some v ∧ x = .v v
 | [],i,s,x,h=>by cases h
 | v :: r,i,s,x,h=>by
  simp only [BQ,lk] at h
  split at h
  ·rename_i hb
   have:=Nat.eq_of_beq_eq_true hb
   subst this
   simp only [Option.some.injEq] at h
   exact ⟨Nat.le_refl _,v,by simp,h.symm⟩
  obtain ⟨h1,u,h2,h3⟩:=Hj r (i + 1) s x h
  refine ⟨by omega,u,?_,h3⟩
  rw [show s - i = (s - (i + 1)) + 1 by omega,List.getElem?_cons_succ]
  exact h2
theorem enter {P:Program} {f:FuncId} {fn:Func} {c:Code} {vs:List Value} {w:World} {R:Ending → World → Prop} {n:Nat} (hf:P.funcs[f]? = some fn) (hb:fn.body = some c) (hn:fn.ntmps = n) (hl:Nat.ble vs.length n = true)
  (h:∀ a,EnvOk n [] (BQ 0 vs) a → c.wp P (bodyPost P fn R) a w):Calls P f vs.toArray w R:=by
 refine calls_of_wp hf hb (h _ ⟨rfl,?_,fun s x hx=>?_⟩)
 ·have:=Nat.le_of_ble_eq_true hl
  simp [hn]; omega
 obtain ⟨_,v,h2,rfl⟩:=Hj vs 0 s x hx
 refine ⟨?_,trivial⟩
 show (vs.toArray ++ _)[s]? = some v
 rw [Nat.sub_zero] at h2
 have hs:s < vs.length:=(List.getElem?_eq_some_iff.1 h2).1
 rw [Array.getElem?_append_left (by simpa using hs)]
 simpa using h2
def R6 (P:Program) (tb:Tb) (env:C8):ResultVar → Option Value
 | .tmp t=>match lk env t with
  | some s=>some (s.val tb)
  | none=>none
 | .cell t ty=>match lk env t with
  | some (.p i k)=>Dv P tb ty i k
  | _=>none
def O8 (P:Program) (tb:Tb) (env:C8):List ResultVar → Option (List Value)
 | []=>some []
 | r :: l=>match R6 P tb env r with
  | some v=>match O8 P tb env l with
   | some vs=>some (v :: vs)
   | none=>none
  | none=>none
def T2 (P:Program) (tb:Tb) (env:C8) (rs:Array ResultVar):Option Value :=
 match O8 P tb env rs.toList with
 | some [v]=>some v
 | some vs=>some (.tuple vs.toArray)
 | none=>none
def Q7 (tmps:Array Value):ResultVar → Sem Value
 | .tmp t=>pure (tmps.getD t undef)
 | .cell ad t=>do loadVar t (← asAddr (tmps.getD ad undef))
theorem JV (fn:Func) (tmps:Array Value):results fn tmps = (do
  let vs ← fn.results.mapM (Q7 tmps)
  pure (if h:vs.size = 1 then vs[0] else .tuple vs)):=by
 unfold results
 have h:(fun r:ResultVar=>(match r with | .tmp t=>pure (tmps.getD t undef) | .cell a t=>do loadVar t (← asAddr (tmps.getD a undef)):Sem Value)) = Q7 tmps:=by
  funext r
  cases r <;> rfl
 rw [← h]
 rfl
theorem JW {P:Program} {n:Nat} {tb:Tb} {env:C8} {a:Act} {w:World} (hE:EnvOk n tb env a) (hc:CellsOk w tb) {r:ResultVar} {v:Value} (h:R6 P tb env r = some v) :
  (Q7 a.tmps r).run P w = .ok v w:=by
 cases r with
 | tmp t =>
  simp only [R6] at h
  split at h
  ·rename_i s hs
   simp only [Option.some.injEq] at h
   subst h
   have:=(F4 hE (x:=.tmp t) hs).1
   simp only [Act.eval] at this
   simp only [Q7,this,Sem.run_pure]
  cases h
 | cell t ty =>
  simp only [R6] at h
  split at h
  ·rename_i i k hs
   have:=F4 hE (x:=.tmp t) hs
   simp only [Act.eval] at this
   simp only [Q7,this.1,SV.val,asAddr,Sem.run_bind,Sem.run_pure,Result.andThen_ok,GZ this.2 h hc]
  cases h
theorem Hk {P:Program} {n:Nat} {tb:Tb} {env:C8} {a:Act} {w:World} (hE:EnvOk n tb env a) (hc:CellsOk w tb):∀ {rs:List ResultVar} {vs:List Value},O8 P tb env rs = some vs →
  (rs.mapM (Q7 a.tmps)).run P w = .ok vs w
 | [],vs,e=>by simp only [O8,Option.some.injEq] at e; subst e; rfl
 | r :: l,vs,e=>by
  simp only [O8] at e
  split at e
  ·rename_i v hv
   split at e
   ·rename_i us hu
    simp only [Option.some.injEq] at e
    subst e
    rw [List.mapM_cons,Sem.run_bind,JW hE hc hv,Result.andThen_ok,Sem.run_bind,Hk hE hc hu]
    rfl
   cases e
  cases e
theorem D5 {P:Program} {fn:Func} {R:Ending → World → Prop} {n:Nat} {tb:Tb} {env:C8} {a:Act} {w:World} {v:Value} (hE:EnvOk n tb env a) (hc:CellsOk w tb) (h:T2 P tb env fn.results = some v) (hR:R (.returned v) w) :
  bodyPost P fn R .ret a w:=by
 refine ⟨hE.defers,v,?_,hR⟩
 unfold T2 at h
 rw [JV]
 have key:∀ {vs:List Value},O8 P tb env fn.results.toList = some vs → (fn.results.mapM (Q7 a.tmps)).run P w = .ok vs.toArray w:=by
  intro vs hvs
  rw [← Array.toArray_toList (xs:=fn.results),List.mapM_toArray,Sem.run_map,Hk hE hc hvs]
  rfl
 cases hrl:O8 P tb env fn.results.toList with
 | none=>rw [hrl] at h; cases h
 | some vs =>
  rw [hrl] at h
  rw [Sem.run_bind,key hrl,Result.andThen_ok]
  match vs,h with
  | [],h =>
   simp only [Option.some.injEq] at h
   subst h
   rfl
  | [u],h =>
   simp only [Option.some.injEq] at h
   subst h
   rfl
  | u :: u' :: r,h =>
   simp only [Option.some.injEq] at h
   subst h
   simp
theorem M3 {P:Program} {fn:Func} {R:Ending → World → Prop} {n:Nat} {tb:Tb} {env:C8} {a:Act} {w:World} {v:Value} (hE:EnvOk n tb env a) (hc:CellsOk w tb) (h:T2 P tb env fn.results = some v) (hR:R (.returned v) w) :
  bodyPost P fn R .normal a w:=D5 hE hc h hR
structure Src (w:World) (A:Option Addr) (m size:Nat) (xs:List Value):Prop where
 len:xs.length = m * size
 nil:A = none → m = 0
 cells:∀ ad,A = some ad → ∀ (j:Nat) (u:Value),xs[j]? = some u → w.cell? (ad.add j) = some u
 one:∀ u ∈ xs,u.oneCell' = true
theorem EH {w w':World} {A:Option Addr} {row:Option Nat} (h:w.grownBy w' row) (hr:row = A.map (·.block)):Step w w' (G1 A):=by
 refine ⟨h.os,h.output,h.size,fun b hb=>?_⟩
 by_cases hB:A.map (·.block) = some b
 ·exact ⟨fun hm=>absurd hB (hm 0),fun ⟨o,ho⟩=>absurd hB ho⟩
 have:=h.block b hb (by rw [hr]; exact fun e=>hB e.symm)
 rw [this]
 exact Keeps.refl _ _
theorem DC {w:World} {base e size n:Nat} {v:Value} {xs:List Value} (h:w.ownsRow base e size v n xs):∃ A c,v = .slice A n c ∧ (A = none → n = 0 ∧ c = 0) ∧ (∀ ad,A = some ad → ∃ g,ad = ⟨g,0,none⟩) ∧ n ≤ c:=by
 rcases h.2 with ⟨rfl,rfl⟩ | ⟨g,cap,cur,rfl,_,_,hn,_⟩
 ·exact ⟨none,0,rfl,fun _=>⟨rfl,rfl⟩,fun _ h=>by (cases h),Nat.le_refl _⟩
 exact ⟨some ⟨g,0,none⟩,cap,rfl,fun h=>by (cases h),fun ad h=>⟨g,(Option.some.inj h).symm⟩,hn⟩
theorem M5 {w:World} {base e size n:Nat} {A:Option Addr} {c:Nat} {xs:List Value} (h:w.ownsRow base e size (.slice A n c) n xs) (h1:∀ u ∈ xs,u.oneCell' = true):Src w A n size xs:=by
 refine ⟨h.1,fun hA=>?_,fun ad hA j u hu=>?_,h1⟩
 ·subst hA
  rcases h.2 with ⟨_,h2⟩ | ⟨g,cap,cur,hv,_⟩
  ·exact h2
  cases hv
 subst hA
 rcases h.2 with ⟨hv,_⟩ | ⟨g,cap,cur,hv,_⟩
 ·cases hv
 simp only [Value.slice.injEq,Option.some.injEq] at hv
 obtain ⟨rfl,_,_⟩:=hv
 exact h.cells (g:=g) rfl j u hu
theorem JX {P:Program} {w:World} {t ty e:TypeId} {i:TypeInfo} {z:Value} (ht:P.underlying t = some (.slice e)) (hi:P.info? e = some i) (hz:i.zero = some z) (hzs:z.cells.size = i.size) (hsz:0 < i.size) (hbp:0 < i.bytes)
  {A:Option Addr} {n c:Nat} {xs:List Value} (hown:w.ownsRow 0 e i.size (.slice A n c) n xs) {As:Option Addr} {m cs:Nat} {news:List Value} (hs:Src w As m i.size news) (hsv:As = none → cs = 0)
  (hb:(n + m) * i.bytes ≤ 140737488355328) :
  ∃ A' c' w',(Builtin.append_ #[t,t] ty #[.slice A n c,.slice As m cs]).run P w = .ok (.slice A' (n + m) c') w' ∧ w'.ownsRow 0 e i.size (.slice A' (n + m) c') (n + m) (xs ++ news) ∧ Step w w' (G1 A) ∧
   (∀ g,A'.map (·.block) = some g → A.map (·.block) = some g ∨ w.heap.size ≤ g):=by
 have h63:n + m ≤ maxLen:=by
  have:=Nat.le_mul_of_pos_right (n + m) hbp
  simp only [maxLen]; omega
 cases As with
 | none =>
  have hm:=hs.nil rfl
  have hc:=hsv rfl
  subst hm; subst hc
  have hnews:news = []:=List.eq_nil_of_length_eq_zero (by simpa using hs.len)
  subst hnews
  have hr:=run_append_owned_none (P:=P) (w:=w) 0 t ty e i i.size ht hi _ n xs hown
  exact ⟨A,c,w,hr,by simpa using hown,Step.refl _ _,fun g h=>.inl h⟩
 | some ad =>
  have hcells:=hs.cells ad rfl
  obtain ⟨v',w',hr,h2,h3,h4⟩:=run_append_own (P:=P) w 0 t ty e i z i.size i.bytes ht hi hz rfl rfl hzs hsz _ n xs hown ad m cs news hs.len hcells hs.one h63 hb (Nat.zero_le _)
  have hst:Step w w' (G1 A):=EH h3 (by cases A <;> rfl)
  have h63':((n + m:Nat):Int) ≤ 9223372036854775807:=by simp only [maxLen] at h63; omega
  rcases hown.2 with ⟨hv,hn⟩ | ⟨g,cap,cur,hv,_,hg,hnc,_,hcs,htake⟩
  ·simp only [Value.slice.injEq] at hv
   obtain ⟨rfl,_,rfl⟩:=hv
   subst hn
   by_cases hm:m = 0
   ·have hv':=h4.2 ⟨rfl,hm⟩
    subst hv'; subst hm
    exact ⟨none,0,w',hr,h2,hst,fun g h=>by cases h⟩
   have hr':=run_append_nil (P:=P) w t ty e i z ht hi hz ad m cs news hs.len hcells (by omega) (by simpa using h63') (by have hb':=hb; simp only [Nat.zero_add] at hb'; omega)
   rw [hr] at hr'
   simp only [Result.ok.injEq] at hr'
   obtain ⟨rfl,rfl⟩:=hr'
   simp only [Nat.zero_add] at h2 hr ⊢
   refine ⟨_,_,_,hr,h2,hst,fun g h=>.inr ?_⟩
   simp only [Option.map_some,Option.some.injEq] at h
   omega
  simp only [Value.slice.injEq] at hv
  obtain ⟨rfl,_,rfl⟩:=hv
  by_cases hroom:n + m ≤ c
  ·have hfit:n * i.size + news.length ≤ cur.size:=by rw [hs.len,hcs,← Nat.add_mul]; exact Nat.mul_le_mul_right _ hroom
   have hr':=run_append_room (P:=P) w t ty e i ht hi g n c cur hg ad m cs news hs.len hcells hs.one hroom hfit
   rw [hr] at hr'
   simp only [Result.ok.injEq] at hr'
   obtain ⟨rfl,rfl⟩:=hr'
   exact ⟨_,_,_,hr,h2,hst,fun g h=>.inl h⟩
  have holds:∀ j u,xs[j]? = some u → w.cell? ((⟨g,0,none⟩:Addr).add j) = some u:=hown.cells (g:=g) rfl
  have hr':=run_append_grow (P:=P) w t ty e i z ht hi hz ⟨g,0,none⟩ n c xs hown.1 holds ad m cs news hs.len hcells (by omega) h63' (growslice_fits (by omega) hb)
  rw [hr] at hr'
  simp only [Result.ok.injEq] at hr'
  obtain ⟨rfl,rfl⟩:=hr'
  refine ⟨_,_,_,hr,h2,hst,fun g h=>.inr ?_⟩
  simp only [Option.map_some,Option.some.injEq] at h
  omega
theorem JY {P:Program} {w:World} {t u ty e:TypeId} {i:TypeInfo} (ht:P.underlying t = some (.slice e)) (hu:P.underlying u = some .string) (hi:P.info? e = some i) (hz:i.zero = some (.int .u8 0)) (hsz:i.size = 1) (hbp:i.bytes = 1)
  {A:Option Addr} {n c:Nat} {xs:List Value} (hown:w.ownsRow 0 e 1 (.slice A n c) n xs) (s:ByteArray) (hb:n + s.size ≤ 140737488355328) :
  ∃ A' c' w',(Builtin.append_ #[t,u] ty #[.slice A n c,.string s]).run P w = .ok (.slice A' (n + s.size) c') w' ∧ w'.ownsRow 0 e 1 (.slice A' (n + s.size) c') (n + s.size) (xs ++ Lib.strCells s) ∧ Step w w' (G1 A) ∧
   (∀ g,A'.map (·.block) = some g → A.map (·.block) = some g ∨ w.heap.size ≤ g):=by
 have h63:n + s.size ≤ maxLen:=by simp only [maxLen]; omega
 obtain ⟨v',w',hr,h2,h3,h4⟩:=Lib.run_append_own_string (P:=P) w 0 t u ty e i ht hu hi hz hsz hbp _ n xs hown s h63 hb (Nat.zero_le _)
 have hst:Step w w' (G1 A):=EH h3 (by cases A <;> rfl)
 have h63':((n + s.size:Nat):Int) ≤ 9223372036854775807:=by simp only [maxLen] at h63; omega
 rcases hown.2 with ⟨hv,hn⟩ | ⟨g,cap,cur,hv,_,hg,hnc,_,hcs,htake⟩
 ·simp only [Value.slice.injEq] at hv
  obtain ⟨rfl,_,rfl⟩:=hv
  subst hn
  by_cases hm:s.size = 0
  ·have hv':=h4.2 ⟨rfl,hm⟩
   subst hv'
   rw [hm] at h2 ⊢
   exact ⟨none,0,w',hr,h2,hst,fun g h=>by cases h⟩
  have hr':=run_append_nil_string (P:=P) w t u ty e i _ ht hu hi hz s (by omega) (by simpa using h63') (by rw [hbp]; omega)
  rw [hr] at hr'
  simp only [Result.ok.injEq] at hr'
  obtain ⟨rfl,rfl⟩:=hr'
  simp only [Nat.zero_add] at h2 hr ⊢
  refine ⟨_,_,_,hr,h2,hst,fun g h=>.inr ?_⟩
  simp only [Option.map_some,Option.some.injEq] at h
  omega
 simp only [Value.slice.injEq] at hv
 obtain ⟨rfl,_,rfl⟩:=hv
 by_cases hroom:n + s.size ≤ c
 ·have hr':=Lib.run_append_room_string (P:=P) w t u ty e i ht hu hi hsz g n c cur hg s hroom (by rw [hcs]; omega)
  rw [hr] at hr'
  simp only [Result.ok.injEq] at hr'
  obtain ⟨rfl,rfl⟩:=hr'
  exact ⟨_,_,_,hr,h2,hst,fun g h=>.inl h⟩
 have holds:∀ j u,xs[j]? = some u → w.cell? ((⟨g,0,none⟩:Addr).add j) = some u:=hown.cells (g:=g) rfl
 have hr':=Lib.run_append_grow_string (P:=P) w t u ty e i _ ht hu hi hz ⟨g,0,none⟩ n c xs (by rw [hsz]; exact hown.1) holds s (by omega) h63' (by rw [hbp,Nat.mul_one]; have:=growslice_fits (need:=n + s.size) (old:=c) (bytes:=1) (by omega) (by omega); omega)
 rw [hr] at hr'
 simp only [Result.ok.injEq] at hr'
 obtain ⟨rfl,rfl⟩:=hr'
 refine ⟨_,_,_,hr,h2,hst,fun g h=>.inr ?_⟩
 simp only [Option.map_some,Option.some.injEq] at h
 omega
def L4 (P:Program) (t:TypeId):Option (TypeId × Nat × Nat) :=
 match P.underlying t with
 | some (.slice e)=>match P.info? e with
  | some i=>match i.zero with
   | some z=>match Nat.beq z.cells.size i.size,Nat.blt 0 i.size,Nat.blt 0 i.bytes with
    | true,true,true=>some (e,i.size,i.bytes)
    | _,_,_=>none
   | none=>none
  | none=>none
 | _=>none
theorem T3 {P:Program} {t e:TypeId} {size bytes:Nat} (h:L4 P t = some (e,size,bytes)) :
  P.underlying t = some (.slice e) ∧ ∃ i z,P.info? e = some i ∧ i.zero = some z ∧ z.cells.size = i.size ∧ i.size = size ∧ i.bytes = bytes ∧ 0 < size ∧ 0 < bytes:=by
 unfold L4 at h
 split at h
 ·rename_i e' ht
  split at h
  ·rename_i i hi
   split at h
   ·rename_i z hz
    split at h
    ·rename_i h1 h2 h3
     simp only [Option.some.injEq,Prod.mk.injEq] at h
     obtain ⟨rfl,rfl,rfl⟩:=h
     exact ⟨ht,i,z,hi,hz,Nat.eq_of_beq_eq_true h1,rfl,rfl,by simpa [Nat.blt_eq] using h2,by simpa [Nat.blt_eq] using h3⟩
    cases h
   cases h
  cases h
 cases h
section
variable {P:Program} {ops:Array Oper} {Q:Exit → Act → World → Prop} {n:Nat} {tb:Tb} {env:C8} {rs:List Rw} {w0:World} {M:Nat → Nat → Prop} {a:Act} {w:World}
def M4 (tb:Tb) (env:C8) (ops:Array Oper) (n i:Nat):Option (TypeId × TypeId × Value × Value × Nat) :=
 match F7 env ops n i with
 | some (.call c,d)=>match c.callee,c.args.toList,c.argTypes.toList with
  | .builtin .append,[s,x],[t,u]=>match E8 env s,E8 env x with
   | some s1,some s2=>some (t,u,s1.val tb,s2.val tb,d)
   | _,_=>none
  | _,_,_=>none
 | _=>none
theorem DD {i d:Nat} {t u:TypeId} {v x:Value} (hE:EnvOk n tb env a) (h:M4 tb env ops n i = some (t,u,v,x,d)) :
  ∃ op,F7 env ops n i = some (op,d) ∧ d < n ∧ ∀ (o:Oper) (v':Value) (w':World),o.op = op → (Builtin.append_ #[t,u] o.type #[v,x]).run P w = .ok v' w' → (execOp a.eval o).run P w = .ok (.value v') w':=by
 unfold M4 at h
 split at h
 ·rename_i c d' ho
  split at h
  ·rename_i s y t' u' hcal hargs hats
   split at h
   ·rename_i s1 s2 hs1 hs2
    simp only [Option.some.injEq,Prod.mk.injEq] at h
    obtain ⟨rfl,rfl,rfl,rfl,rfl⟩:=h
    refine ⟨_,ho,(K8 hE ho).choose_spec.2.2.2.1,fun o v' w' hop hr=>?_⟩
    have h1:=(F4 hE hs1).1
    have h2:=(F4 hE hs2).1
    have ha:=Dw hargs
    have hat:=Dw hats
    unfold execOp
    rw [hop]
    simp only [resolve,hcal,ha,hat,invoke,builtin,Sem.run_bind,Sem.run_pure,Result.andThen_ok,List.map_toArray,List.map_cons,List.map_nil,h1,h2,hr]
   cases h
  cases h
 cases h
theorem I7 {i d k:Nat} {t e:TypeId} {size bytes:Nat} {A As:Option Addr} {m0 c m cs:Nat} {xs news:List Value} {N:Act → World → Prop} (hW:WOk w0 M w tb rs) (hE:EnvOk n tb env a)
  (h:M4 tb env ops n i = some (t,t,.slice A m0 c,.slice As m cs,d)) (ht:L4 P t = some (e,size,bytes)) (hk:rs[k]? = some ⟨A,c,e,size,m0,xs⟩)
  (hs:Src w As m size news) (hsv:As = none → cs = 0) (hb:(m0 + m) * bytes ≤ 140737488355328)
  (K:∀ A' c' a' w',Fr w tb rs w' tb (rs.set k ⟨A',c',e,size,m0 + m,xs ++ news⟩) → WOk w0 M w' tb (rs.set k ⟨A',c',e,size,m0 + m,xs ++ news⟩) →
   EnvOk n tb ((d,.v (.slice A' (m0 + m) c')) :: env) a' → N a' w'):wpOp P ops Q i N a w:=by
 obtain ⟨ht',inf,z,hi,hz,hzs,rfl,rfl,hsz,hbp⟩:=T3 ht
 obtain ⟨op,ho,hd,hrun⟩:=DD (P:=P) (w:=w) hE h
 obtain ⟨o,h1,h2,h3,h4,h5⟩:=K8 hE ho
 have hown:=hW.own k _ hk
 obtain ⟨A',c',w',hr,hown',hst,hnew⟩:=JX (P:=P) (ty:=o.type) ht' hi hz hzs hsz hbp hown hs hsv hb
 simp only [wpOp,h1]
 have:Region.wanted o (yielded ops a.tmps) = true:=by first | exact h2 | simp [Region.wanted,h2]
 rw [this]
 simp only [if_true]
 refine .inl ?_
 unfold Oper.wp
 rw [hrun o _ _ h5 hr,Oper.upon,h3]
 exact K A' c' _ w' (Fr.grow tb hk hst hnew) (hW.grow hk hst hown' hnew) (hE.put hd (.v _) trivial)
theorem JZ {i d k:Nat} {t u e:TypeId} {A:Option Addr} {m0 c:Nat} {xs:List Value} {s:ByteArray} {N:Act → World → Prop} (hW:WOk w0 M w tb rs) (hE:EnvOk n tb env a)
  (h:M4 tb env ops n i = some (t,u,.slice A m0 c,.string s,d)) (ht:L4 P t = some (e,1,1)) (hz:(P.info? e).bind (·.zero) = some (.int .u8 0)) (hu:P.underlying u = some .string) (hk:rs[k]? = some ⟨A,c,e,1,m0,xs⟩)
  (hb:m0 + s.size ≤ 140737488355328)
  (K:∀ A' c' a' w',Fr w tb rs w' tb (rs.set k ⟨A',c',e,1,m0 + s.size,xs ++ Lib.strCells s⟩) → WOk w0 M w' tb (rs.set k ⟨A',c',e,1,m0 + s.size,xs ++ Lib.strCells s⟩) →
   EnvOk n tb ((d,.v (.slice A' (m0 + s.size) c')) :: env) a' → N a' w'):wpOp P ops Q i N a w:=by
 obtain ⟨ht',inf,z,hi,hz',hzs,hs1,hb1,hsz,hbp⟩:=T3 ht
 rw [hi] at hz
 obtain ⟨op,ho,hd,hrun⟩:=DD (P:=P) (w:=w) hE h
 obtain ⟨o,h1,h2,h3,h4,h5⟩:=K8 hE ho
 have hown:=hW.own k _ hk
 obtain ⟨A',c',w',hr,hown',hst,hnew⟩:=JY (P:=P) (ty:=o.type) ht' hu hi hz hs1 hb1 hown s hb
 simp only [wpOp,h1]
 have:Region.wanted o (yielded ops a.tmps) = true:=by first | exact h2 | simp [Region.wanted,h2]
 rw [this]
 simp only [if_true]
 refine .inl ?_
 unfold Oper.wp
 rw [hrun o _ _ h5 hr,Oper.upon,h3]
 exact K A' c' _ w' (Fr.grow tb hk hst hnew) (hW.grow hk hst hown' hnew) (hE.put hd (.v _) trivial)
def R7 (P:Program) (tb:Tb) (env:C8) (ops:Array Oper) (n i:Nat):Option (TypeId × Nat × Nat × List Value × Nat) :=
 match F7 env ops n i with
 | some (.buildSlice t len parts,d)=>match L4 P t,BN tb env parts.toList with
  | some (e,size,_),some ps=>match P.info? e with
   | some inf=>match inf.zero,Nat.ble (len * size) 16777216 with
    | some z,true=>match Instr.fill (fun i=>some (i * size,size)) ((Array.range (len * size)).map (z.cells[· % z.cells.size]!)) ps with
     | some cs=>match Nat.beq cs.size (len * size) with
      | true=>some (e,size,len,cs.toList,d)
      | false=>none
     | none=>none
    | _,_=>none
   | none=>none
  | _,_=>none
 | _=>none
theorem Hl {i d:Nat} {e:TypeId} {size len:Nat} {cs:List Value} (hE:EnvOk n tb env a) (h:R7 P tb env ops n i = some (e,size,len,cs,d)) :
  ∃ op,F7 env ops n i = some (op,d) ∧ d < n ∧ cs.length = len * size ∧ ∀ o:Oper,o.op = op → (execOp a.eval o).run P w = .ok (.value (.slice (some ⟨w.heap.size,0,none⟩) len len)) (w.alloc (.cells cs.toArray e)):=by
 unfold R7 at h
 split at h
 ·rename_i t len' parts d' ho
  split at h
  ·rename_i e' size' bytes ps ht hps
   split at h
   ·rename_i inf hi
    split at h
    ·rename_i z hz hle
     split at h
     ·rename_i cs' hcs
      split at h
      ·rename_i hl
       simp only [Option.some.injEq,Prod.mk.injEq] at h
       obtain ⟨rfl,rfl,rfl,rfl,rfl⟩:=h
       obtain ⟨ht',inf',z',hi',hz',hzs,hs1,hb1,hsz,hbp⟩:=T3 ht
       have:inf' = inf:=by rw [hi] at hi'; exact (Option.some.inj hi').symm
       subst this
       refine ⟨_,ho,(K8 hE ho).choose_spec.2.2.2.1,by simpa using Nat.eq_of_beq_eq_true hl,fun o hop=>?_⟩
       have hp:(parts.map fun (i,x)=>(i,a.eval x)) = ps.toArray:=by
        apply Array.ext'
        simpa using EB hE hps
       have hle':¬ (len' * size' > 2 ^ 24):=by have:=Nat.le_of_ble_eq_true hle; omega
       unfold execOp
       rw [hop]
       simp only [hp]
       unfold Instr.buildSlice
       simp only [Sem.run_bind,run_underlying ht',Result.andThen_ok,run_sizeOf' hi',hs1,if_neg hle',Sem.run_pure]
       by_cases h0:len' * size' = 0
       ·have hzr:((Array.range (len' * size')).map (z.cells[· % z.cells.size]!)) = ((Array.range (len' * size')).map ((#[]:Array Value)[· % (#[]:Array Value).size]!)):=by rw [h0]; simp
        rw [hzr] at hcs
        simp only [if_pos h0,Sem.run_pure,Result.andThen_ok,hcs,newRow,Sem.run_bind,run_newObj,Array.toArray_toList]
        rfl
       simp only [if_neg h0,Sem.run_bind,run_zeroValue' hi' hz,Sem.run_pure,Result.andThen_ok,hcs,newRow,run_newObj,Array.toArray_toList]
       rfl
      cases h
     cases h
    cases h
   cases h
  cases h
 cases h
theorem Ka (w:World) (e:TypeId) (size len:Nat) (cs:List Value) (hl:cs.length = len * size) (hm:len ≤ maxLen):(w.alloc (.cells cs.toArray e)).ownsRow w.heap.size e size (.slice (some ⟨w.heap.size,0,none⟩) len len) len cs:=by
 refine ⟨hl,.inr ⟨w.heap.size,len,cs.toArray,rfl,Nat.le_refl _,Bn w _,Nat.le_refl _,hm,by simpa using hl,?_⟩⟩
 rw [← hl]
 simp
theorem G4 {i d:Nat} {e:TypeId} {size len:Nat} {cs:List Value} {N:Act → World → Prop} (hW:WOk w0 M w tb rs) (hE:EnvOk n tb env a) (h:R7 P tb env ops n i = some (e,size,len,cs,d)) (hm:Nat.ble len 1000000 = true)
  (K:∀ b a' w',b = w.heap.size → w0.heap.size ≤ b → Fr w tb rs w' tb (rs ++ [⟨some ⟨b,0,none⟩,len,e,size,len,cs⟩]) → WOk w0 M w' tb (rs ++ [⟨some ⟨b,0,none⟩,len,e,size,len,cs⟩]) →
   EnvOk n tb ((d,.v (.slice (some ⟨b,0,none⟩) len len)) :: env) a' → N a' w'):wpOp P ops Q i N a w:=by
 obtain ⟨op,ho,hd,hl,hrun⟩:=Hl (P:=P) (w:=w) hE h
 have hm':len ≤ maxLen:=by have:=Nat.le_of_ble_eq_true hm; simp only [maxLen]; omega
 have hown:=Ka w e size len cs hl hm'
 refine N0 hE ho hrun ?_
 exact K w.heap.size _ _ rfl hW.step.size (Fr.fresh tb rs (Step.alloc _ _) _ (Nat.le_refl _) hown) (hW.fresh (Step.alloc _ _) _ (Nat.le_refl _) hown) (hE.put hd (.v _) trivial)
theorem W5 {i j d1 d k:Nat} {t e:TypeId} {size bytes len:Nat} {A:Option Addr} {m0 c:Nat} {xs cs:List Value} {rest:List Nat} (hW:WOk w0 M w tb rs) (hE:EnvOk n tb env a)
  (h1:R7 P tb env ops n i = some (e,size,len,cs,d1)) (ht:L4 P t = some (e,size,bytes))
  (h2:∀ b,M4 tb ((d1,.v (.slice (some ⟨b,0,none⟩) len len)) :: env) ops n j = some (t,t,.slice A m0 c,.slice (some ⟨b,0,none⟩) len len,d))
  (hk:rs[k]? = some ⟨A,c,e,size,m0,xs⟩) (hone:Z2 cs = true) (hb:(m0 + len) * bytes ≤ 140737488355328)
  (K:∀ A' c' a' w',Fr w tb rs w' tb (rs.set k ⟨A',c',e,size,m0 + len,xs ++ cs⟩) → WOk w0 M w' tb (rs.set k ⟨A',c',e,size,m0 + len,xs ++ cs⟩) →
   (∃ b,EnvOk n tb ((d,.v (.slice A' (m0 + len) c')) :: (d1,.v (.slice (some ⟨b,0,none⟩) len len)) :: env) a') → wpOps P ops Q rest a' w'):wpOps P ops Q (i :: j :: rest) a w:=by
 obtain ⟨op,ho,hd,hl,hrun⟩:=Hl (P:=P) (w:=w) hE h1
 rw [wpOps_cons]
 refine N0 hE ho hrun ?_
 rw [wpOps_cons]
 have hF1:Fr w tb rs (w.alloc (.cells cs.toArray e)) tb rs:=Fr.nil tb rs (Step.alloc _ _)
 have hW1:=hW.next_nil (Step.alloc w (.cells cs.toArray e))
 have hE1:=hE.put hd (.v (.slice (some ⟨w.heap.size,0,none⟩) len len)) trivial
 have hs:Src (w.alloc (.cells cs.toArray e)) (some ⟨w.heap.size,0,none⟩) len size cs:=by
  refine ⟨hl,fun h=>by (cases h),fun ad hA q u hu=>?_,K6 hone⟩
  simp only [Option.some.injEq] at hA
  subst hA
  rw [Q2,Nat.zero_add,Hf]
  simpa using hu
 refine I7 hW1 hE1 (h2 w.heap.size) ht hk hs (fun h=>by cases h) hb fun A' c' a' w' hF hW' hE'=>?_
 exact K A' c' a' w' (hF1.trans hF) hW' ⟨w.heap.size,hE'⟩
end
section
variable {P:Program} {ops:Array Oper} {Q:Exit → Act → World → Prop} {n:Nat} {tb:Tb} {env:C8} {rs:List Rw} {w0:World} {M:Nat → Nat → Prop} {a:Act} {w:World} {T:World → Prop} {c:Nat}
theorem B1 {i:Nat} {rest:List Nat} (h:wpOp P ops Q i (wpOps P ops Q rest) a w):wpOps P ops Q (i :: rest) a w:=by
 rw [wpOps_cons]; exact h
def Cy (ops:Array Oper) (c i:Nat):Bool :=
 Nat.ble ops.size c || ((!Nat.beq c i) && (match ops.toList[c]? with
 | some o=>o.after.toList.any fun e=>Region.binds .any e && Nat.beq e.on i
 | none=>false))
def I5 (P:Program) (ops:Array Oper) (Q:Exit → Act → World → Prop) (T:World → Prop) (c:Nat):Nat → Array Bool → Act → World → Prop
 | 0,listed,a,w=>Region.ready .any ops listed = [] ∧ Q .normal a w
 | fuel + 1,listed,a,w =>
  (Region.ready .any ops listed = [] → Q .normal a w) ∧
  ∀ i ∈ Region.ready .any ops listed,wpOp P ops Q i (fun a' w'=>(i ≠ c → T w') ∧ I5 P ops Q T c fuel (listed.setIfInBounds i true) a' w') a w
theorem Hm:∀ (fuel:Nat) (listed:Array Bool) (a:Act) (w:World),I5 P ops Q T c fuel listed a w → wpAny P .any ops Q fuel listed a w
 | 0,_,_,_,h=>h
 | fuel + 1,_,_,_,h=>⟨h.1,fun i hi=>wpOp_mono (fun a' w' h'=>Hm fuel _ a' w' h'.2) (h.2 i hi)⟩
theorem Kb {i:Nat} (h:Cy ops c i = true) (hc:c < ops.size):c ≠ i ∧ ∃ o,ops[c]? = some o ∧ ∃ e ∈ o.after,Region.binds .any e = true ∧ e.on = i:=by
 unfold Cy at h
 have h1:Nat.ble ops.size c = false:=by
  cases hb:Nat.ble ops.size c with
  | false=>rfl
  | true=>have:=Nat.le_of_ble_eq_true hb; omega
 rw [h1,Bool.false_or,Bool.and_eq_true] at h
 obtain ⟨h2,h3⟩:=h
 refine ⟨fun e=>?_,?_⟩
 ·subst e; simp [Nat.beq_refl] at h2
 split at h3
 ·rename_i o ho
  refine ⟨o,by simpa using ho,?_⟩
  obtain ⟨e,he,hb⟩:=List.any_eq_true.1 h3
  rw [Bool.and_eq_true] at hb
  exact ⟨e,by simpa using he,hb.1,Nat.eq_of_beq_eq_true hb.2⟩
 cases h3
theorem Kc {i:Nat} {oi:Oper} {v:Value} (hi:ops[i]? = some oi) (hsel:∀ (j:Nat) (o:Oper) cs b,ops[j]? = some o → o.op ≠ .select cs b)
  (hQ:∀ ch a w,Q (.panic ch) (a.put oi.dst v) w → Q (.panic ch) a w) (hw:Cy ops c i = true) :
  ∀ (fuel:Nat) (listed:Array Bool) (a:Act) (w:World),
   (∀ j oj,ops[j]? = some oj → j ≠ i → listed.getD j true = false → (∀ e ∈ oj.after,Region.binds .any e = true → e.on ≠ i) → oi.apart ops oj = true) →
   i ∈ Region.ready .any ops listed → YieldsIf P ops T oi v a → T w →
   I5 P ops Q T c fuel (listed.setIfInBounds i true) (a.put oi.dst v) w → I5 P ops Q T c (fuel + 1) listed a w:=by
 intro fuel
 induction fuel with
 | zero =>
  intro listed a w _ hr hy hT H
  refine ⟨fun h=>(by rw [h] at hr; cases hr),fun j hj=>?_⟩
  by_cases hji:j = i
  ·subst hji; exact hy.wpOp hi hT ⟨fun _=>hT,H⟩
  have:=ready_mono hj hji
  rw [H.1] at this
  cases this
 | succ fuel ih =>
  intro listed a w hfree hr hy hT H
  refine ⟨fun h=>(by rw [h] at hr; cases hr),fun j hj=>?_⟩
  by_cases hji:j = i
  ·subst hji; exact hy.wpOp hi hT ⟨fun _=>hT,H⟩
  have h1:=H.2 j (ready_mono hj hji)
  obtain ⟨hjun,oj,hoj,hall⟩:=mem_ready.1 hj
  have hnot:∀ e ∈ oj.after,Region.binds .any e = true → e.on ≠ i:=fun e he hb heq=>by
   have h1:=hall e he hb
   have h0:=(mem_ready.1 hr).1
   rw [heq] at h1
   rcases Nat.lt_or_ge i listed.size with h' | h'
   ·simp [h'] at h0 h1; rw [h0] at h1; cases h1
   simp [Array.getElem?_eq_none h'] at h1
  have hjc:j ≠ c:=by
   intro e
   subst e
   have hlt:j < ops.size:=(Array.getElem?_eq_some_iff.1 hoj).1
   obtain ⟨_,o,ho,ed,hed,hb,hon⟩:=Kb hw hlt
   rw [hoj] at ho
   obtain rfl:=Option.some.inj ho
   exact hnot ed hed hb hon
  have h2:=wpOp_putIf hoj (hfree j oj hoj hji hjun hnot) (fun cs b=>hsel i oi cs b hi) (fun cs b=>hsel j oj cs b hoj) hQ hy h1
  have hfree':∀ k ok,ops[k]? = some ok → k ≠ i → (listed.setIfInBounds j true).getD k true = false →
    (∀ e ∈ ok.after,Region.binds .any e = true → e.on ≠ i) → oi.apart ops ok = true:=fun k ok hk hki hun hno=>by
   refine hfree k ok hk hki ?_ hno
   by_cases hjk:j = k
   ·subst hjk; exact hjun
   rw [getD_set_ne true hjk] at hun; exact hun
  refine wpOp_mono (fun a' w' h3=>⟨h3.2.1,ih (listed.setIfInBounds j true) a' w' hfree' (ready_mono hr (Ne.symm hji)) h3.1 (h3.2.1 hjc) ?_⟩) h2
  rw [Array.setIfInBounds_comm _ _ hji]
  exact h3.2.2
def S7 (Q:Exit → Act → World → Prop):Prop:=∀ (ch:List PanicEntry) (a:Act) (d:Option Tmp) (v:Value) (w:World),Q (.panic ch) (a.put d v) w → Q (.panic ch) a w
theorem DE {i:Nat} {oi:Oper} {v:Value} {fuel:Nat} {listed:Array Bool} (hi:ops[i]? = some oi) (hns:Region.noSelect ops = true) (hf:Region.free .any ops listed i = true) (hr:(Region.ready .any ops listed).contains i = true) (hw:Cy ops c i = true)
  (hQ:S7 Q) (hy:YieldsIf P ops T oi v a) (hT:T w) (h:I5 P ops Q T c fuel (listed.setIfInBounds i true) (a.put oi.dst v) w):I5 P ops Q T c (fuel + 1) listed a w :=
 Kc hi (Region.noSelect_spec hns) (fun ch a w=>hQ ch a oi.dst v w) hw fuel listed a w (Region.free_spec hi hf) (by simpa using hr) hy hT h
def W6 (ops:Array Oper) (c:Nat):List Nat → Array Bool → Bool
 | [],_=>true
 | i :: r,listed=>Region.free .any ops listed i && (Region.ready .any ops listed).contains i && Cy ops c i && W6 ops c r (listed.setIfInBounds i true)
def Cz:List Nat → Array Bool → Array Bool
 | [],l=>l
 | i :: r,l=>Cz r (l.setIfInBounds i true)
theorem EI (hns:Region.noSelect ops = true) (hQ:S7 Q) (hTc:∀ w',T w' → CellsOk w' tb) (hT:T w):∀ {idxs:List Nat} {fuel:Nat} {listed:Array Bool} {env env':C8} {a:Act},EnvOk n tb env a → W6 ops c idxs listed = true → G8 P ops n tb idxs env = some env' →
  (∀ a',EnvOk n tb env' a' → I5 P ops Q T c fuel (Cz idxs listed) a' w) → I5 P ops Q T c (idxs.length + fuel) listed a w
 | [],fuel,listed,env,env',a,h,_,e,k=>by
  simp only [G8,Option.some.injEq] at e
  subst e
  simpa [Cz] using k a h
 | i :: r,fuel,listed,env,env',a,h,ht,e,k=>by
  simp only [W6,Bool.and_eq_true] at ht
  obtain ⟨⟨⟨hf,hr⟩,hw⟩,ht'⟩:=ht
  simp only [G8] at e
  rw [show (i :: r).length + fuel = (r.length + fuel) + 1 by simp; omega]
  split at e
  ·cases e
  rename_i o ho
  have ho':ops[i]? = some o:=by simpa using ho
  split at e
  ·cases e
  rename_i d hd
  split at e
  ·cases e
  rename_i hlt
  have hlt':d < n:=by simpa [Nat.blt_eq] using hlt
  split at e
  ·rename_i hg
   split at e
   ·rename_i s hs
    have hok:=(Dy h hs (hTc w hT)).2
    refine DE ho' hns hf hr hw hQ (v:=s.val tb) (.inl ⟨Bm h hg,fun w' hw'=>(Dy h hs (hTc w' hw')).1⟩) hT ?_
    rw [hd]
    exact EI hns hQ hTc hT (h.put hlt' s hok) ht' e k
   cases e
  ·rename_i hg
   refine DE ho' hns hf hr hw hQ (v:=undef) (.inr ⟨Bm h hg,rfl⟩) hT ?_
   rw [hd]
   exact EI hns hQ hTc hT (h.put hlt' (.v undef) trivial) ht' e k
  cases e
theorem C9 {i fuel:Nat} {listed:Array Bool} (hr:Region.ready .any ops listed = [i]) (h:wpOp P ops Q i (fun a' w'=>(i ≠ c → T w') ∧ I5 P ops Q T c fuel (listed.setIfInBounds i true) a' w') a w):I5 P ops Q T c (fuel + 1) listed a w:=by
 refine ⟨fun h0=>(by rw [hr] at h0; cases h0),fun j hj=>?_⟩
 rw [hr] at hj
 obtain rfl:=List.mem_singleton.1 hj
 exact h
theorem F3 {listed:Array Bool} (hr:Region.ready .any ops listed = []) (h:Q .normal a w):∀ fuel,I5 P ops Q T c fuel listed a w
 | 0=>⟨hr,h⟩
 | _ + 1=>⟨fun _=>h,by rw [hr]; simp⟩
theorem DF {id:Nat} (T:World → Prop) (c:Nat) (hm:P.follows .mixedOrders = true) (h:I5 P ops Q T c ops.size (Array.replicate ops.size false) a w.drew):(Code.region id ops true).wp P Q a w :=
 wp_region_any hm (Hm _ _ _ _ h)
theorem WOk.drew (hW:WOk w0 M w tb rs):WOk w0 M w.drew tb rs:=hW.next_nil (Step.drew w)
theorem Fr.drew (w:World) (tb:Tb) (rs:List Rw):Fr w tb rs w.drew tb rs:=Fr.nil tb rs (Step.drew w)
theorem B2 {N:Act → World → Prop} (h:S7 Q):S7 (Exit.then N Q):=fun ch a d v w hq=>h ch a d v w hq
theorem C0 {id:Nat} (h:S7 Q):S7 (Exit.inBlock id Q):=fun ch a d v w hq=>h ch a d v w hq
def Q3 (tb:Tb) (env:C8) (ops:Array Oper) (n i:Nat):Option (TypeId × Option Addr × Nat × Int × Nat) :=
 match F7 env ops n i with
 | some (.indexAddr t x y,d)=>match E8 env x,E8 env y with
  | some (.v (.slice A m _)),some (.v (.int _ q))=>some (t,A,m,q,d)
  | _,_=>none
 | _=>none
theorem Kd {t e:TypeId} {size bytes:Nat} (ht:L4 P t = some (e,size,bytes)) {b o m cp:Nat} {k:IntKind} {q:Int} (h0:0 ≤ q) (h1:q < m) :
  (Instr.indexAt t (.slice (some ⟨b,o,none⟩) m cp) (.int k q)).run P w = .ok (.pointer (some ⟨b,o + q.toNat * size,none⟩)) w:=by
 obtain ⟨ht',inf,z,hi,hz,hzs,rfl,rfl,hsz,hbp⟩:=T3 ht
 unfold Instr.indexAt
 simp only [asIntOf,Sem.run_bind,Sem.run_pure,Result.andThen_ok,run_underlying ht']
 have:(0 ≤ q ∧ q < (m:Int)):=⟨h0,h1⟩
 simp only [if_pos this,Sem.run_bind,run_sizeOf' hi,Result.andThen_ok,Sem.run_pure,Q2]
theorem Hn {i d j:Nat} {t e:TypeId} {size bytes b o m:Nat} {q:Int} {A:Option Addr} (hE:EnvOk n tb env a) (h:Q3 tb env ops n i = some (t,A,m,q,d)) (ht:L4 P t = some (e,size,bytes)) (hA:A = some ⟨b,o,none⟩) (hq:q = (j:Int)) (h1:j < m) :
  ∃ op,F7 env ops n i = some (op,d) ∧ d < n ∧ ∀ (o':Oper) (w:World),o'.op = op → (execOp a.eval o').run P w = .ok (.value (.pointer (some ⟨b,o + j * size,none⟩))) w:=by
 subst hA; subst hq
 unfold Q3 at h
 split at h
 ·rename_i t' x y d' ho
  split at h
  ·rename_i A m' cp k q' hs1 hs2
   simp only [Option.some.injEq,Prod.mk.injEq] at h
   obtain ⟨rfl,rfl,rfl,rfl,rfl⟩:=h
   refine ⟨_,ho,(K8 hE ho).choose_spec.2.2.2.1,fun o' w hop=>?_⟩
   have e1:=(F4 hE hs1).1
   have e2:=(F4 hE hs2).1
   have hr:=Kd (P:=P) (w:=w) (b:=b) (o:=o) (m:=m') (cp:=cp) (k:=k) ht (q:=(j:Int)) (by omega) (by omega)
   rw [Int.toNat_natCast] at hr
   unfold execOp
   rw [hop]
   simp only [e1,e2,SV.val,Sem.run_bind,hr,Result.andThen_ok,Sem.run_pure]
  cases h
 cases h
theorem F2 {i d j:Nat} {N:Act → World → Prop} {t e:TypeId} {size bytes b o m:Nat} {q:Int} {A:Option Addr} (hE:EnvOk n tb env a) (h:Q3 tb env ops n i = some (t,A,m,q,d)) (ht:L4 P t = some (e,size,bytes)) (hA:A = some ⟨b,o,none⟩) (hq:q = (j:Int)) (h1:j < m)
  (K:∀ a',EnvOk n tb ((d,.v (.pointer (some ⟨b,o + j * size,none⟩))) :: env) a' → N a' w):wpOp P ops Q i N a w:=by
 obtain ⟨op,ho,hd,hrun⟩:=Hn (P:=P) hE h ht hA hq h1
 exact N0 hE ho (fun o' ho'=>hrun o' w ho') (K _ (hE.put hd (.v _) trivial))
theorem H9 {i d j:Nat} {t e:TypeId} {size bytes b o m:Nat} {q:Int} {A:Option Addr} {fuel:Nat} {listed:Array Bool} (hE:EnvOk n tb env a) (h:Q3 tb env ops n i = some (t,A,m,q,d)) (ht:L4 P t = some (e,size,bytes)) (hA:A = some ⟨b,o,none⟩) (hq:q = (j:Int)) (h1:j < m)
  (hns:Region.noSelect ops = true) (hk:W6 ops c [i] listed = true) (hQ:S7 Q) (hT:T w)
  (K:∀ a',EnvOk n tb ((d,.v (.pointer (some ⟨b,o + j * size,none⟩))) :: env) a' → I5 P ops Q T c fuel (listed.setIfInBounds i true) a' w):I5 P ops Q T c (fuel + 1) listed a w:=by
 obtain ⟨op,ho,hd,hrun⟩:=Hn (P:=P) hE h ht hA hq h1
 obtain ⟨o',g1,g2,g3,g4,g5⟩:=K8 hE ho
 simp only [W6,Bool.and_eq_true,and_true] at hk
 refine DE g1 hns hk.1.1 hk.1.2 hk.2 hQ (v:=.pointer (some ⟨b,o + j * size,none⟩)) (.inl ⟨g2,fun w' _=>hrun o' w' g5⟩) hT ?_
 rw [g3]
 exact K _ (hE.put hd (.v _) trivial)
def DG (env:C8) (ops:Array Oper) (n i:Nat):Option (TypeId × Addr × Nat) :=
 match F7 env ops n i with
 | some (.load t x,d)=>match E8 env x with
  | some (.v (.pointer (some ad)))=>some (t,ad,d)
  | _=>none
 | _=>none
def CA (P:Program) (t:TypeId) (cs:List Value):Option Value :=
 match P.underlying t,P.info? t with
 | some d,some inf=>match R5 d with
  | true=>match cs with
   | [v]=>some v
   | _=>none
  | false=>match Nat.beq cs.length inf.size with
   | true=>some (.agg cs.toArray)
   | false=>none
 | _,_=>none
def At (w:World) (b o:Nat) (cs:List Value):Prop:=∀ (j:Nat) (v:Value),cs[j]? = some v → w.cell? ⟨b,o + j,none⟩ = some v
theorem Ke {t:TypeId} {b o:Nat} {cs:List Value} {v:Value} (h:CA P t cs = some v) (hc:At w b o cs):(loadVar t ⟨b,o,none⟩).run P w = .ok v w:=by
 unfold CA at h
 split at h
 ·rename_i d inf hd hi
  split at h
  ·rename_i ho
   split at h
   ·rename_i v'
    simp only [Option.some.injEq] at h
    subst h
    exact GX hd ho (hc 0 _ rfl)
   cases h
  rename_i ho
  split at h
  ·rename_i hl
   simp only [Option.some.injEq] at h
   subst h
   exact GY hd ho hi (Nat.eq_of_beq_eq_true hl) fun j v hj=>by rw [Q2]; exact hc j v hj
  cases h
 cases h
theorem Ho {i d b o:Nat} {t:TypeId} {cs:List Value} {v:Value} (hE:EnvOk n tb env a) (h:DG env ops n i = some (t,⟨b,o,none⟩,d)) (hv:CA P t cs = some v) :
  ∃ op,F7 env ops n i = some (op,d) ∧ d < n ∧ ∀ (o':Oper) (w:World),o'.op = op → At w b o cs → (execOp a.eval o').run P w = .ok (.value v) w:=by
 unfold DG at h
 split at h
 ·rename_i t' x d' ho
  split at h
  ·rename_i ad hs
   simp only [Option.some.injEq,Prod.mk.injEq] at h
   obtain ⟨rfl,rfl,rfl⟩:=h
   refine ⟨_,ho,(K8 hE ho).choose_spec.2.2.2.1,fun o' w hop hc=>?_⟩
   have e1:=(F4 hE hs).1
   unfold execOp
   rw [hop]
   simp only [e1,SV.val,Instr.loadAt,Instr.sureAddr,Sem.run_bind,Sem.run_pure,Result.andThen_ok,Ke hv hc]
  cases h
 cases h
theorem G7 {i d b o:Nat} {N:Act → World → Prop} {t:TypeId} {cs:List Value} {v:Value} (hE:EnvOk n tb env a) (h:DG env ops n i = some (t,⟨b,o,none⟩,d)) (hv:CA P t cs = some v) (hc:At w b o cs)
  (K:∀ a',EnvOk n tb ((d,.v v) :: env) a' → N a' w):wpOp P ops Q i N a w:=by
 obtain ⟨op,ho,hd,hrun⟩:=Ho (P:=P) hE h hv
 exact N0 hE ho (fun o' ho'=>hrun o' w ho' hc) (K _ (hE.put hd (.v _) trivial))
theorem P4 {i d b o:Nat} {t:TypeId} {cs:List Value} {v:Value} {fuel:Nat} {listed:Array Bool} (hE:EnvOk n tb env a) (h:DG env ops n i = some (t,⟨b,o,none⟩,d)) (hv:CA P t cs = some v) (hc:∀ w',T w' → At w' b o cs)
  (hns:Region.noSelect ops = true) (hk:W6 ops c [i] listed = true) (hQ:S7 Q) (hT:T w)
  (K:∀ a',EnvOk n tb ((d,.v v) :: env) a' → I5 P ops Q T c fuel (listed.setIfInBounds i true) a' w):I5 P ops Q T c (fuel + 1) listed a w:=by
 obtain ⟨op,ho,hd,hrun⟩:=Ho (P:=P) hE h hv
 obtain ⟨o',g1,g2,g3,g4,g5⟩:=K8 hE ho
 simp only [W6,Bool.and_eq_true,and_true] at hk
 refine DE g1 hns hk.1.1 hk.1.2 hk.2 hQ (v:=v) (.inl ⟨g2,fun w' hw'=>hrun o' w' g5 (hc w' hw')⟩) hT ?_
 rw [g3]
 exact K _ (hE.put hd (.v _) trivial)
theorem At.step {w w':World} {N:Nat → Nat → Prop} {b o:Nat} {cs:List Value} (h:At w b o cs) (hs:Step w w' N) (hN:∀ j,j < cs.length → ¬ N b (o + j)):At w' b o cs :=
 fun j v hj=>hs.cell (hN j (List.getElem?_eq_some_iff.1 hj).1) (h j v hj)
theorem At.drop {w:World} {b o:Nat} {cs:List Value} (h:At w b o cs) (k m:Nat):At w b (o + k) ((cs.drop k).take m):=by
 intro j v hj
 rw [List.getElem?_take] at hj
 split at hj
 ·rw [List.getElem?_drop] at hj
  have:=h (k + j) v hj
  rwa [← Nat.add_assoc] at this
 cases hj
def T4 (tb:Tb) (env:C8) (ops:Array Oper) (n i:Nat):Option (TypeId × Value × Option Int × Option Int × Nat) :=
 match F7 env ops n i with
 | some (.slice t x lo hi none,d)=>match E8 env x,lo,hi with
  | some s,none,none=>some (t,s.val tb,none,none,d)
  | some s,some l,none=>match E8 env l with
   | some (.v (.int _ q))=>some (t,s.val tb,some q,none,d)
   | _=>none
  | some s,none,some h=>match E8 env h with
   | some (.v (.int _ q))=>some (t,s.val tb,none,some q,d)
   | _=>none
  | some s,some l,some h=>match E8 env l,E8 env h with
   | some (.v (.int _ p)),some (.v (.int _ q))=>some (t,s.val tb,some p,some q,d)
   | _,_=>none
  | none,_,_=>none
 | _=>none
theorem Kf {t e:TypeId} {size bytes:Nat} (ht:L4 P t = some (e,size,bytes)) {A:Option Addr} {m cp:Nat} {k:IntKind} {q:Int} (h0:0 ≤ q) (h1:q ≤ cp) :
  (Instr.sliceAt t (.slice A m cp) none (some (.int k q)) none).run P w = .ok (.slice A q.toNat cp) w:=by
 obtain ⟨ht',inf,z,hi,hz,hzs,rfl,rfl,hsz,hbp⟩:=T3 ht
 unfold Instr.sliceAt
 simp only [Sem.run_bind,run_underlying ht',Result.andThen_ok]
 unfold Instr.slice
 have hb:(0 ≤ q ∧ q ≤ (cp:Int)):=⟨h0,h1⟩
 simp only [Sem.run_bind,run_underlying ht',Result.andThen_ok,Instr.sliceBounds,Instr.sliceBound,asIntOf,Sem.run_pure,if_pos hb,run_sizeOf' hi]
 cases A with
 | none=>simp
 | some ad=>simp [Addr.add]
theorem DH {i d j:Nat} {N:Act → World → Prop} {t e:TypeId} {size bytes m cp:Nat} {A:Option Addr} {q:Int} (hE:EnvOk n tb env a) (h:T4 tb env ops n i = some (t,.slice A m cp,none,some q,d)) (ht:L4 P t = some (e,size,bytes)) (hq:q = (j:Int)) (hj:j ≤ cp)
  (K:∀ a',EnvOk n tb ((d,.v (.slice A j cp)) :: env) a' → N a' w):wpOp P ops Q i N a w:=by
 have h0:0 ≤ q:=by omega
 have h1:q ≤ cp:=by omega
 obtain rfl:j = q.toNat:=by omega
 unfold T4 at h
 split at h
 ·rename_i t' x lo hi d' ho
  have hd:d' < n:=(K8 hE ho).choose_spec.2.2.2.1
  split at h
  ·simp at h
  ·split at h <;> simp at h
  ·rename_i s hh hs
   split at h
   ·rename_i k q' hs2
    simp only [Option.some.injEq,Prod.mk.injEq,true_and] at h
    obtain ⟨rfl,hsv,rfl,rfl⟩:=h
    have e1:=(F4 hE hs).1
    have e2:=(F4 hE hs2).1
    refine N0 hE ho (v:=.slice A q'.toNat cp) (w':=w) (fun o' hop=>?_) (K _ (hE.put hd (.v _) trivial))
    unfold execOp
    rw [hop]
    rw [hsv] at e1
    simp only [SV.val] at e2
    simp only [e1,e2,Option.map_none,Option.map_some,Sem.run_bind,Kf ht h0 h1,Result.andThen_ok,Sem.run_pure]
   cases h
  ·split at h <;> simp at h
  cases h
 cases h
end
section
variable {P:Program} {ops:Array Oper} {Q:Exit → Act → World → Prop} {n:Nat} {tb:Tb} {env:C8} {rs:List Rw} {w0:World} {M:Nat → Nat → Prop} {a:Act} {w:World} {T:World → Prop} {c:Nat}
def I3 (P:Program) (ops:Array Oper) (n:Nat) (tb:Tb) (idxs keys:List Nat) (env:C8):Option C8 :=
 match G8 P ops n tb idxs env with
 | some e=>pick e keys
 | none=>none
theorem EJ {idxs keys:List Nat} {env env':C8} (h:I3 P ops n tb idxs keys env = some env'):∃ e,G8 P ops n tb idxs env = some e ∧ pick e keys = some env':=by
 unfold I3 at h
 split at h
 ·rename_i e he
  exact ⟨e,he,h⟩
 cases h
theorem F0 {L:List Nat} (idxs rest keys:List Nat) {env env':C8} (hW:WOk w0 M w tb rs) (h:EnvOk n tb env a) (e:I3 P ops n tb idxs keys env = some env') (hl:L = idxs ++ rest)
  (k:∀ a',EnvOk n tb env' a' → wpOps P ops Q rest a' w):wpOps P ops Q L a w:=by
 subst hl
 obtain ⟨e1,h1,h2⟩:=EJ e
 exact R2 hW.cells h h1 fun a' h'=>k a' (h'.pick h2)
theorem Kg {fuel':Nat} (idxs keys:List Nat) (fuel:Nat) {listed:Array Bool} {env env':C8} (hns:Region.noSelect ops = true) (hQ:S7 Q) (hTc:∀ w',T w' → CellsOk w' tb) (hT:T w) (h:EnvOk n tb env a) (ht:W6 ops c idxs listed = true)
  (e:I3 P ops n tb idxs keys env = some env') (hl:fuel' = idxs.length + fuel) (k:∀ a',EnvOk n tb env' a' → I5 P ops Q T c fuel (Cz idxs listed) a' w):I5 P ops Q T c fuel' listed a w:=by
 subst hl
 obtain ⟨e1,h1,h2⟩:=EJ e
 exact EI hns hQ hTc hT h ht h1 fun a' h'=>k a' (h'.pick h2)
theorem EnvOk.cast {env env':C8} (h:EnvOk n tb env a) (e:env = env'):EnvOk n tb env' a:=e ▸ h
theorem B8 {id:Nat} {y:Code} (L:List Nat) (hl:List.range ops.size = L) (h:wpOps P ops (Exit.then (y.wp P Q) Q) L a w):(Code.seq (.region id ops false) y).wp P Q a w:=by
 subst hl
 exact wp_seq (wp_region h)
theorem D9 {id:Nat} (L:List Nat) (hl:List.range ops.size = L) (h:wpOps P ops Q L a w):(Code.region id ops false).wp P Q a w:=by
 subst hl
 exact wp_region h
theorem Hp {id:Nat} {y:Code} (T:World → Prop) (c:Nat) (hm:P.follows .mixedOrders = true) (h:I5 P ops (Exit.then (y.wp P Q) Q) T c ops.size (Array.replicate ops.size false) a w.drew):(Code.seq (.region id ops true) y).wp P Q a w :=
 wp_seq (DF T c hm h)
def TT (w:World) (tb:Tb) (rs:List Rw) (w':World):Prop:=CellsOk w' tb ∧ Step w w' (G9 tb rs)
theorem TT.cells {w w':World} {tb:Tb} {rs:List Rw} (h:TT w tb rs w'):CellsOk w' tb:=h.1
theorem TT.start (hW:WOk w0 M w tb rs):TT w tb rs w:=⟨hW.cells,Step.refl _ _⟩
theorem TT.step0 {w':World} (hW:WOk w0 M w tb rs) (h:TT w tb rs w'):Step w0 w' M:=by
 refine hW.step.trans h.2 fun b o hb ha=>?_
 rcases ha with ⟨i,ob,hi,hr,rfl,h1,h2⟩ | ⟨i,r,hi,hr⟩
 ·have:=(hW.rw_ i ob hi hr (o - ob.off) (by omega)).1
  rw [show ob.off + (o - ob.off) = o by omega] at this
  rcases this with h3 | h3
  ·omega
  exact h3
 rcases hW.ownM i r hi b hr with h3 | h3
 ·omega
 exact h3 o
theorem J2 {id:Nat} {y:Code} (c:Nat) (hm:P.follows .mixedOrders = true) (hW:WOk w0 M w tb rs) (h:∀ w',Fr w tb rs w' tb rs → WOk w0 M w' tb rs → TT w' tb rs w' → I5 P ops (Exit.then (y.wp P Q) Q) (TT w' tb rs) c ops.size (Array.replicate ops.size false) a w'):(Code.seq (.region id ops true) y).wp P Q a w :=
 Hp (TT w.drew tb rs) c hm (h _ (Fr.drew w tb rs) hW.drew (TT.start hW.drew))
theorem P5 {id:Nat} (c:Nat) (hm:P.follows .mixedOrders = true) (hW:WOk w0 M w tb rs) (h:∀ w',Fr w tb rs w' tb rs → WOk w0 M w' tb rs → TT w' tb rs w' → I5 P ops Q (TT w' tb rs) c ops.size (Array.replicate ops.size false) a w'):(Code.region id ops true).wp P Q a w :=
 DF (TT w.drew tb rs) c hm (h _ (Fr.drew w tb rs) hW.drew (TT.start hW.drew))
theorem T5 {i:Nat} {N:Act → World → Prop} (keys:List Nat) {env':C8} (hc:CellsOk w tb) (h:EnvOk n tb env a) (e:I3 P ops n tb [i] keys env = some env') (k:∀ a',EnvOk n tb env' a' → N a' w):wpOp P ops Q i N a w:=by
 obtain ⟨e1,h1,h2⟩:=EJ e
 simp only [G8] at h1
 split at h1
 ·cases h1
 rename_i o ho
 have ho':ops[i]? = some o:=by simpa using ho
 split at h1
 ·cases h1
 rename_i d hd
 split at h1
 ·cases h1
 rename_i hlt
 have hlt':d < n:=by simpa [Nat.blt_eq] using hlt
 simp only [wpOp,ho']
 split at h1
 ·rename_i hg
  rw [Bm h hg]
  simp only [if_true]
  split at h1
  ·rename_i s hs
   simp only [Option.some.injEq] at h1
   subst h1
   have hr:=Dy h hs hc
   refine .inl ?_
   unfold Oper.wp
   rw [hr.1,Oper.upon,hd]
   exact k _ ((h.put hlt' s hr.2).pick h2)
  cases h1
 ·rename_i hg
  rw [Bm h hg]
  simp only [Option.some.injEq] at h1
  subst h1
  simp only [Bool.false_eq_true,if_false,hd]
  exact k _ ((h.put hlt' (.v undef) trivial).pick h2)
 cases h1
theorem C6 {fn:Func} {R:Ending → World → Prop}:S7 (bodyPost P fn R):=fun ch a d v w h=>by
 cases d <;> exact h
theorem WOk.addRow (h:WOk w0 M w tb rs) (r:Rw) (ho:w.ownsRow 0 r.e r.size r.v r.n r.xs) (hM:∀ g,r.blk = some g → w0.heap.size ≤ g ∨ ∀ o,M g o)
  (ht:∀ (i:Nat) (o:Ob),tb[i]? = some o → r.blk ≠ some o.blk) (hr:∀ (i:Nat) (r':Rw),rs[i]? = some r' → ∀ g,r.blk = some g → r'.blk ≠ some g):WOk w0 M w tb (rs ++ [r]):=by
 refine ⟨h.step,h.cells,h.live,h.rw_,h.apart,?_,?_,?_,?_⟩
 ·intro i q hi
  rcases L9 hi with hi | ⟨_,rfl⟩
  ·exact h.own i q hi
  exact ho
 ·intro i q hi
  rcases L9 hi with hi | ⟨_,rfl⟩
  ·exact h.ownM i q hi
  exact hM
 ·intro i q hi g hg j o hj
  rcases L9 hi with hi | ⟨_,rfl⟩
  ·exact h.rtb i q hi g hg j o hj
  intro e; exact ht j o hj (by rw [hg,e])
 intro i j q q' hij hi hj g hg
 rcases L9 hi with hi' | ⟨hi1,rfl⟩
 ·rcases L9 hj with hj' | ⟨_,rfl⟩
  ·exact h.rr i j q q' hij hi' hj' g hg
  intro e; exact hr i q hi' g e hg
 rcases L9 hj with hj' | ⟨hj1,rfl⟩
 ·exact hr j q' hj' g hg
 exact absurd (hi1.trans hj1.symm) hij
theorem WOk.addNil (h:WOk w0 M w tb rs) (e size:Nat):WOk w0 M w tb (rs ++ [⟨none,0,e,size,0,[]⟩]) :=
 h.addRow ⟨none,0,e,size,0,[]⟩ (World.ownsRow_nil w 0 e size) (fun g hg=>by cases hg) (fun i o hi=>by intro e; cases e) (fun i r hi g hg=>by cases hg)
theorem Fr.addNil (w:World) (tb:Tb) (rs:List Rw) (e size:Nat):Fr w tb rs w tb (rs ++ [⟨none,0,e,size,0,[]⟩]):=by
 refine ⟨fun b o _ ha hc=>?_,Step.refl _ _⟩
 rcases hc with h | ⟨i,q,hi,hq⟩
 ·exact ha (.inl h)
 rcases L9 hi with hi | ⟨_,rfl⟩
 ·exact ha (.inr ⟨i,q,hi,hq⟩)
 cases hq
theorem WOk.startRow (w:World) {A:Option Addr} {c e size n:Nat} {xs:List Value} (ho:w.ownsRow 0 e size (.slice A n c) n xs):WOk w (G1 A) w [] [⟨A,c,e,size,n,xs⟩] :=
 (WOk.start w (G1 A)).addRow ⟨A,c,e,size,n,xs⟩ ho (fun g hg=>.inr fun _=>hg) (fun i o h=>by simp at h) (fun i r h=>by simp at h)
end
def B7 (x:Int):UInt8:=UInt8.ofNat (x % 256).toNat
theorem Hq (x:Int):((B7 x).toNat:Int) = x % 256:=by
 have h:=Int.emod_lt_of_pos x (show (0:Int) < 256 by decide)
 have h0:=Int.emod_nonneg x (show (256:Int) ≠ 0 by decide)
 unfold B7
 rw [UInt8.toNat_ofNat']
 omega
theorem Hr (x:Int):IntKind.u8.wrap x = x % 256:=by
 simp [IntKind.wrap,IntKind.signed,IntKind.bits]
theorem N4 (x:Int):IntKind.u8.wrap x = ((B7 x).toNat:Int):=by rw [Hq,Hr]
def bc (s:List UInt8):List Value:=s.map fun b=>.int .u8 b.toNat
@[simp] theorem bc_length (s:List UInt8):(bc s).length = s.length:=by simp [bc]
theorem Kh (s t:List UInt8):bc (s ++ t) = bc s ++ bc t:=by simp [bc]
theorem Hs (s:List UInt8):∀ u ∈ bc s,u.oneCell' = true:=by
 intro u hu
 simp only [bc,List.mem_map] at hu
 obtain ⟨b,_,rfl⟩:=hu
 rfl
abbrev B6 (A:Option Addr) (c:Nat) (e:TypeId) (s:List UInt8):Rw:=⟨A,c,e,1,s.length,bc s⟩
theorem BR {A:Option Addr} {c e n:Nat} {s t:List UInt8} {xs:List Value} (hx:xs = bc t) (hm:n = s.length + t.length):(⟨A,c,e,1,n,bc s ++ xs⟩:Rw) = B6 A c e (s ++ t):=by
 subst hx; subst hm
 simp [B6,Kh]
def K9 (w:World) (e:TypeId) (A:Option Addr) (s:List UInt8):Ending → World → Prop:=fun en w' =>
 ∃ A' c',en = .returned (.slice A' s.length c') ∧ w'.ownsRow 0 e 1 (.slice A' s.length c') s.length (bc s) ∧ Step w w' (G1 A) ∧ (∀ g,A'.map (·.block) = some g → A.map (·.block) = some g ∨ w.heap.size ≤ g)
theorem BS {w w':World} {A A':Option Addr} {c' e:Nat} {s:List UInt8} {tb:Tb} {rs:List Rw} (hW:WOk w (G1 A) w' tb rs) (k:Nat) (hk:rs[k]? = some (B6 A' c' e s)):K9 w e A s (.returned (.slice A' s.length c')) w':=by
 refine ⟨A',c',rfl,hW.own k _ hk,hW.step,fun g hg=>?_⟩
 rcases hW.ownM k _ hk g hg with h | h
 ·exact .inr h
 exact .inl (h 0)
def be:Nat → Int → List UInt8
 | 0,_=>[]
 | n + 1,x=>B7 (x / 256 ^ n) :: be n x
@[simp] theorem be_length (n:Nat) (x:Int):(be n x).length = n:=by
 induction n with
 | zero=>rfl
 | succ n ih=>simp [be,ih]
theorem S8 {x y:Int} (h:x % 256 = y % 256):B7 x = B7 y:=by unfold B7; rw [h]
theorem S9 (x:Int):IntKind.u16.wrap x = x % 65536:=by simp [IntKind.wrap,IntKind.signed,IntKind.bits]
theorem E1 (x:Int):IntKind.u32.wrap x = x % 4294967296:=by simp [IntKind.wrap,IntKind.signed,IntKind.bits]
theorem Ki (x:Int):IntKind.u64.wrap x = x % 18446744073709551616:=by simp [IntKind.wrap,IntKind.signed,IntKind.bits]
theorem Kj (x:Int):be 2 (IntKind.u16.wrap x) = be 2 x:=by
 rw [S9]
 simp only [be,List.cons.injEq,and_true]
 exact ⟨S8 (by simp only [Int.reducePow]; omega),S8 (by simp only [Int.reducePow]; omega)⟩
theorem Kk (x:Int):be 4 (IntKind.u32.wrap x) = be 4 x:=by
 rw [E1]
 simp only [be,List.cons.injEq,and_true]
 refine ⟨S8 ?_,S8 ?_,S8 ?_,S8 ?_⟩ <;> simp only [Int.reducePow] <;> omega
theorem wrap_i64 {x:Int} (h:-9223372036854775808 ≤ x) (h':x < 9223372036854775808):IntKind.i64.wrap x = x:=by
 rw [IntKind.wrap_i64]; omega
theorem H1 {k:Nat} (h:k + 1 < 9223372036854775808):IntKind.i64.wrap (((k:Nat):Int) + 1) = ((k + 1:Nat):Int):=by
 rw [wrap_i64 (by omega) (by omega)]; omega
theorem EK (n:Nat):(if (32767:Int) < ((n:Nat):Int) then (32767:Int) else ((n:Nat):Int)) = ((min 32767 n:Nat):Int):=by
 split <;> omega
abbrev Bs:=List UInt8
inductive Tree where
 | mk (N:Int) (S:Bs) (null:Bool) (L:List Tree) (U:List (Int × Bs))
def Tree.N:Tree → Int | .mk n _ _ _ _=>n
def Tree.S:Tree → Bs | .mk _ s _ _ _=>s
def Tree.null:Tree → Bool | .mk _ _ b _ _=>b
def Tree.L:Tree → List Tree | .mk _ _ _ l _=>l
def Tree.U:Tree → List (Int × Bs) | .mk _ _ _ _ u=>u
def Tree.zero:Tree:=.mk 0 [] false [] []
inductive Fld where
 | mk (kind frm to null tag dfl of:Int) (sub:List Fld)
def Fld.kind:Fld → Int | .mk k _ _ _ _ _ _ _=>k
def Fld.tag:Fld → Int | .mk _ _ _ _ x _ _ _=>x
def Fld.sub:Fld → List Fld | .mk _ _ _ _ _ _ _ x=>x
def AtF (w:World) (F:Nat → Nat → Prop) (b o:Nat) (cs:List Value):Prop:=∀ (j:Nat) (v:Value),cs[j]? = some v → F b (o + j) ∧ w.cell? ⟨b,o + j,none⟩ = some v
theorem AtF.at_ {w:World} {F:Nat → Nat → Prop} {b o:Nat} {cs:List Value} (h:AtF w F b o cs):At w b o cs:=fun j v hj=>(h j v hj).2
theorem AtF.move {w w':World} {F F' M:Nat → Nat → Prop} {b o:Nat} {cs:List Value} (h:AtF w F b o cs) (hs:Step w w' M) (hM:∀ b o,F b o → b < w.heap.size → ¬ M b o) (hF:∀ b o,F b o → b < w.heap.size → F' b o):AtF w' F' b o cs:=by
 intro j v hj
 obtain ⟨h1,h2⟩:=h j v hj
 exact ⟨hF _ _ h1 (World.lt_of_cell h2),hs.cell (hM _ _ h1 (World.lt_of_cell h2)) h2⟩
structure Slots (w:World) (F:Nat → Nat → Prop) (size:Nat) (A:Option Addr) (c n:Nat) (cs:Nat → List Value):Prop where
 le:n ≤ c
 small:n ≤ 1099511627776
 none_:A = none → n = 0 ∧ c = 0
 some_:∀ ad,A = some ad → 0 < n → ∃ b o,ad = ⟨b,o,none⟩ ∧ ∀ i,i < n → (cs i).length = size ∧ AtF w F b (o + i * size) (cs i)
theorem Slots.move {w w':World} {F F' M:Nat → Nat → Prop} {size:Nat} {A:Option Addr} {c n:Nat} {cs:Nat → List Value} (h:Slots w F size A c n cs) (hs:Step w w' M) (hM:∀ b o,F b o → b < w.heap.size → ¬ M b o) (hF:∀ b o,F b o → b < w.heap.size → F' b o):Slots w' F' size A c n cs:=by
 refine ⟨h.le,h.small,h.none_,fun ad hA hn=>?_⟩
 obtain ⟨b,o,h1,h2⟩:=h.some_ ad hA hn
 exact ⟨b,o,h1,fun i hi=>⟨(h2 i hi).1,(h2 i hi).2.move hs hM hF⟩⟩
theorem Slots.nil (w:World) (F:Nat → Nat → Prop) (size:Nat) (cs:Nat → List Value):Slots w F size none 0 0 cs:=⟨Nat.le_refl _,by omega,fun _=>⟨rfl,rfl⟩,fun _ h=>by cases h⟩
theorem Slots.get {w:World} {F:Nat → Nat → Prop} {size:Nat} {A:Option Addr} {c n:Nat} {cs:Nat → List Value} (h:Slots w F size A c n cs) {i:Nat} (hi:i < n):∃ b o,A = some ⟨b,o,none⟩ ∧ (cs i).length = size ∧ AtF w F b (o + i * size) (cs i):=by
 cases A with
 | none=>have:=(h.none_ rfl).1; omega
 | some ad =>
  obtain ⟨b,o,rfl,h2⟩:=h.some_ ad rfl (by omega)
  exact ⟨b,o,rfl,h2 i hi⟩
theorem Slots.take {w:World} {F:Nat → Nat → Prop} {size:Nat} {A:Option Addr} {c n:Nat} {cs:Nat → List Value} (h:Slots w F size A c n cs) {m:Nat} (hm:m ≤ n):Slots w F size A c m cs:=by
 refine ⟨Nat.le_trans hm h.le,Nat.le_trans hm h.small,fun hA=>?_,fun ad hA hn=>?_⟩
 ·have:=h.none_ hA; exact ⟨by omega,this.2⟩
 obtain ⟨b,o,h1,h2⟩:=h.some_ ad hA (by omega)
 exact ⟨b,o,h1,fun i hi=>h2 i (by omega)⟩
def Z3 (b:UInt8):Value:=.int .u8 b.toNat
def Octs (w:World) (F:Nat → Nat → Prop) (A:Option Addr) (c:Nat) (s:Bs):Prop:=Slots w F 1 A c s.length (fun i=>[Z3 (s.getD i 0)])
theorem Octs.move {w w':World} {F F' M:Nat → Nat → Prop} {A:Option Addr} {c:Nat} {s:Bs} (h:Octs w F A c s) (hs:Step w w' M) (hM:∀ b o,F b o → b < w.heap.size → ¬ M b o) (hF:∀ b o,F b o → b < w.heap.size → F' b o):Octs w' F' A c s:=Slots.move h hs hM hF
theorem Octs.nil (w:World) (F:Nat → Nat → Prop):Octs w F none 0 []:=Slots.nil _ _ _ _
theorem Octs.le {w:World} {F:Nat → Nat → Prop} {A:Option Addr} {c:Nat} {s:Bs} (h:Octs w F A c s):s.length ≤ c:=Slots.le h
theorem Octs.cap {w:World} {F:Nat → Nat → Prop} {A:Option Addr} {c:Nat} {s:Bs} (h:Octs w F A c s):A = none → c = 0:=fun hA=>(h.none_ hA).2
theorem Octs.take {w:World} {F:Nat → Nat → Prop} {A:Option Addr} {c:Nat} {s:Bs} (h:Octs w F A c s) (m:Nat):Octs w F A c (s.take m):=by
 have h1:=Slots.take h (m:=min m s.length) (Nat.min_le_right _ _)
 unfold Octs
 rw [List.length_take]
 refine ⟨h1.le,h1.small,h1.none_,fun ad hA hn=>?_⟩
 obtain ⟨b,o,h2,h3⟩:=h1.some_ ad hA hn
 refine ⟨b,o,h2,fun i hi=>?_⟩
 have:(s.take m).getD i 0 = s.getD i 0:=by
  rw [List.getD_eq_getElem?_getD,List.getD_eq_getElem?_getD,List.getElem?_take,if_pos (by omega)]
 rw [this]
 exact h3 i hi
theorem Kl {s:Bs} {j:Nat} {u:Value} (h:(bc s)[j]? = some u):j < s.length ∧ u = Z3 (s.getD j 0):=by
 rw [bc,List.getElem?_map] at h
 cases hs:s[j]? with
 | none=>rw [hs] at h; cases h
 | some b =>
  rw [hs] at h
  simp only [Option.map_some,Option.some.injEq] at h
  refine ⟨(List.getElem?_eq_some_iff.1 hs).1,?_⟩
  rw [List.getD_eq_getElem?_getD,hs,← h]
  rfl
theorem Octs.src {w:World} {F:Nat → Nat → Prop} {A:Option Addr} {c:Nat} {s:Bs} (h:Octs w F A c s):Src w A s.length 1 (bc s):=by
 refine ⟨by simp,fun hA=>(h.none_ hA).1,fun ad hA j u hu=>?_,Hs s⟩
 obtain ⟨hj,rfl⟩:=Kl hu
 obtain ⟨b,o,rfl,h2⟩:=h.some_ ad hA (by omega)
 have:=((h2 j hj).2 0 _ rfl).2
 rw [Q2]
 simpa using this
theorem BT {w:World} {base e:Nat} {A:Option Addr} {c:Nat} {s:Bs} (h:w.ownsRow base e 1 (.slice A s.length c) s.length (bc s)) (hsm:s.length ≤ 1099511627776) {F:Nat → Nat → Prop} (hF:∀ g,A.map (·.block) = some g → ∀ o,F g o):Octs w F A c s:=by
 obtain ⟨A',c',hv,h1,h2,h3⟩:=DC h
 simp only [Value.slice.injEq,true_and] at hv
 obtain ⟨rfl,rfl⟩:=hv
 refine ⟨h3,hsm,h1,fun ad hA hn=>?_⟩
 obtain ⟨g,rfl⟩:=h2 ad hA
 refine ⟨g,0,rfl,fun i hi=>⟨rfl,fun j v hj=>?_⟩⟩
 have hj0:j = 0:=by
  cases j with
  | zero=>rfl
  | succ j=>simp at hj
 subst hj0
 simp only [List.getElem?_cons_zero,Option.some.injEq] at hj
 subst hj
 refine ⟨hF g (by rw [hA]; rfl) _,?_⟩
 have hb:(bc s)[i]? = some (Z3 (s.getD i 0)):=by
  rw [bc,List.getElem?_map,List.getElem?_eq_getElem hi,List.getD_eq_getElem?_getD,List.getElem?_eq_getElem hi]
  rfl
 have:=(M5 h (Hs s)).cells _ hA i _ hb
 rw [Q2] at this
 simpa using this
structure TagsR (w:World) (F:Nat → Nat → Prop) (A:Option Addr) (c:Nat) (u:List (Int × Bs)):Prop where
 ex:∃ cs:Nat → List Value,Slots w F 2 A c u.length cs ∧ ∀ i k s,u[i]? = some (k,s) → (∃ A' c',cs i = [.int .u32 k,.slice A' s.length c'] ∧ Octs w F A' c' s) ∧ 0 ≤ k ∧ k < 4294967296
theorem TagsR.move {w w':World} {F F' M:Nat → Nat → Prop} {A:Option Addr} {c:Nat} {u:List (Int × Bs)} (h:TagsR w F A c u) (hs:Step w w' M) (hM:∀ b o,F b o → b < w.heap.size → ¬ M b o) (hF:∀ b o,F b o → b < w.heap.size → F' b o):TagsR w' F' A c u:=by
 obtain ⟨cs,h1,h2⟩:=h.ex
 refine ⟨cs,h1.move hs hM hF,fun i k s hi=>?_⟩
 obtain ⟨⟨A',c',g1,g2⟩,g3⟩:=h2 i k s hi
 exact ⟨⟨A',c',g1,g2.move hs hM hF⟩,g3⟩
theorem TagsR.nil (w:World) (F:Nat → Nat → Prop):TagsR w F none 0 []:=⟨fun _=>[],Slots.nil _ _ _ _,fun i k s h=>by simp at h⟩
inductive TreeR (w:World) (F:Nat → Nat → Prop):List Value → Tree → Prop
 | mk {n:Int} {s:Bs} {b:Bool} {l:List Tree} {u:List (Int × Bs)} {A1 A2 A3:Option Addr} {c1 c2 c3:Nat} (cs:Nat → List Value)
   (hs:Octs w F A1 c1 s) (hl:Slots w F 5 A2 c2 l.length cs) (hx:∀ i x,l[i]? = some x → TreeR w F (cs i) x) (hu:TagsR w F A3 c3 u) :
   TreeR w F [.int .i64 n,.slice A1 s.length c1,.bool b,.slice A2 l.length c2,.slice A3 u.length c3] (.mk n s b l u)
theorem TreeR.move {w w':World} {F F' M:Nat → Nat → Prop} {cs:List Value} {t:Tree} (h:TreeR w F cs t) (hs:Step w w' M) (hM:∀ b o,F b o → b < w.heap.size → ¬ M b o) (hF:∀ b o,F b o → b < w.heap.size → F' b o):TreeR w' F' cs t:=by
 induction h with
 | mk cs h1 h2 h3 h4 ih=>exact .mk cs (h1.move hs hM hF) (h2.move hs hM hF) ih (h4.move hs hM hF)
theorem TreeR.open_ {w:World} {F:Nat → Nat → Prop} {cs:List Value} {t:Tree} (h:TreeR w F cs t) :
  ∃ n s b l u A1 c1 A2 c2 A3 c3 xs,t = .mk n s b l u ∧ cs = [.int .i64 n,.slice A1 s.length c1,.bool b,.slice A2 l.length c2,.slice A3 u.length c3] ∧ Octs w F A1 c1 s ∧ Slots w F 5 A2 c2 l.length xs ∧ (∀ i x,l[i]? = some x → TreeR w F (xs i) x) ∧ TagsR w F A3 c3 u:=by
 cases h with
 | mk cs h1 h2 h3 h4=>exact ⟨_,_,_,_,_,_,_,_,_,_,_,cs,rfl,rfl,h1,h2,h3,h4⟩
theorem TreeR.zero (w:World) (F:Nat → Nat → Prop):TreeR w F [.int .i64 0,.slice none 0 0,.bool false,.slice none 0 0,.slice none 0 0] .zero :=
 .mk (l:=[]) (u:=[]) (s:=[]) (fun _=>[]) (Octs.nil w F) (Slots.nil w F 5 _) (fun i x h=>by simp at h) (TagsR.nil w F)
inductive FldR (w:World) (F:Nat → Nat → Prop):List Value → Fld → Prop
 | mk {k x1 x2 x3 x4 x5 x6:Int} {l:List Fld} {A:Option Addr} {c:Nat} (cs:Nat → List Value)
   (hl:Slots w F 8 A c l.length cs) (hx:∀ i x,l[i]? = some x → FldR w F (cs i) x) :
   FldR w F [.int .i64 k,.int .i64 x1,.int .i64 x2,.int .i64 x3,.int .i64 x4,.int .i64 x5,.int .i64 x6,.slice A l.length c] (.mk k x1 x2 x3 x4 x5 x6 l)
theorem FldR.move {w w':World} {F F' M:Nat → Nat → Prop} {cs:List Value} {t:Fld} (h:FldR w F cs t) (hs:Step w w' M) (hM:∀ b o,F b o → b < w.heap.size → ¬ M b o) (hF:∀ b o,F b o → b < w.heap.size → F' b o):FldR w' F' cs t:=by
 induction h with
 | mk cs h1 h2 ih=>exact .mk cs (h1.move hs hM hF) ih
theorem FldR.open_ {w:World} {F:Nat → Nat → Prop} {cs:List Value} {t:Fld} (h:FldR w F cs t) :
  ∃ k x1 x2 x3 x4 x5 x6 l A c xs,t = .mk k x1 x2 x3 x4 x5 x6 l ∧ cs = [.int .i64 k,.int .i64 x1,.int .i64 x2,.int .i64 x3,.int .i64 x4,.int .i64 x5,.int .i64 x6,.slice A l.length c] ∧ Slots w F 8 A c l.length xs ∧ (∀ i x,l[i]? = some x → FldR w F (xs i) x):=by
 cases h with
 | mk cs h1 h2=>exact ⟨_,_,_,_,_,_,_,_,_,_,cs,rfl,rfl,h1,h2⟩
structure FldsR (w:World) (F:Nat → Nat → Prop) (A:Option Addr) (c:Nat) (l:List Fld):Prop where
 ex:∃ cs:Nat → List Value,Slots w F 8 A c l.length cs ∧ ∀ i x,l[i]? = some x → FldR w F (cs i) x
theorem FldsR.move {w w':World} {F F' M:Nat → Nat → Prop} {A:Option Addr} {c:Nat} {l:List Fld} (h:FldsR w F A c l) (hs:Step w w' M) (hM:∀ b o,F b o → b < w.heap.size → ¬ M b o) (hF:∀ b o,F b o → b < w.heap.size → F' b o):FldsR w' F' A c l:=by
 obtain ⟨cs,h1,h2⟩:=h.ex
 exact ⟨cs,h1.move hs hM hF,fun i x hi=>(h2 i x hi).move hs hM hF⟩
def Fp (F:Nat → Nat → Prop) (w:World) (b o:Nat):Prop:=F b o ∨ w.heap.size ≤ b
def BU (w:World) (e:TypeId) (s:Bs):Ending → World → Prop:=fun en w' =>
 ∃ A' c',en = .returned (.slice A' s.length c') ∧ w'.ownsRow w.heap.size e 1 (.slice A' s.length c') s.length (bc s) ∧ Step w w' B5
def N5 (w:World) (v:Value):Ending → World → Prop:=fun en w'=>en = .returned v ∧ Step w w' B5
theorem B0 {F:Nat → Nat → Prop} {w:World}:∀ b o,F b o → b < w.heap.size → ¬ B5 b o:=fun _ _ _ _ h=>h
theorem E6 {F:Nat → Nat → Prop} {w:World}:∀ b o,F b o → b < w.heap.size → F b o:=fun _ _ h _=>h
def uv (n:Nat):Bs:=if n < 128 then [UInt8.ofNat n] else UInt8.ofNat (n % 128 + 128) :: uv (n / 128)
termination_by n
decreasing_by omega
def J6 (b:Bs):Bs:=b.take 32767
def E3 (l:List Tree):List Tree:=l.take 32767
def Tree.at_ (t:Tree) (i:Nat):Tree:=t.L.getD i .zero
def DI (k:Int):Nat:=if k = 1 then 1 else if k = 2 ∨ k = 5 then 2 else if k = 3 then 4 else 8
def Fld.nul:Fld → Int → Tree → Bool | .mk _ _ _ null _ _ _ _,v,.mk _ _ b _ _=>b && decide (null ≥ 0) && decide (v ≥ null)
def u32 (x:Int):Int:=x % 4294967296
def E4 (l:List Fld):Int:=l.foldl (fun n f=>if f.tag ≥ 0 then (if u32 (u32 f.tag + 1) > n then u32 (u32 f.tag + 1) else n) else n) 0
def U4 (out:List (Int × Bs)) (k:Int):Nat:=(out.takeWhile fun x=>decide (x.1 < k)).length
def N2 (least:Int) (out:List (Int × Bs)) (t:Int × Bs):List (Int × Bs) :=
 let i:=U4 out t.1
 if t.1 < least ∨ (i < out.length ∧ (out.getD i (0,[])).1 = t.1) then out else out.take i ++ t :: out.drop i
def I6 (fields:List Fld) (l:List (Int × Bs)):List (Int × Bs):=(l.take 32767).foldl (N2 (E4 fields)) []
def Ht (s:Bs):Bs:=(s.take 16) ++ List.replicate (16 - s.length) 0
def Fld.depth:Fld → Nat
 | .mk _ _ _ _ _ _ _ sub=>depths sub + 1
where depths:List Fld → Nat
 | []=>0
 | f :: r=>max f.depth (depths r)
abbrev depths:=Fld.depth.depths
def Fld.usual:Fld → Tree → Bool
 | .mk kind _ _ null _ dfl _ sub,t =>
  if kind = 0 then decide (t.N % 2 = dfl)
  else if kind = 7 then (t.S.take 16).all (· == 0)
  else if kind = 8 ∨ kind = 9 then (if null ≥ 0 then t.null else decide (t.S.length = 0))
  else if kind = 11 then decide (t.L.length = 0)
  else if kind = 10 then usuals sub t 0 && decide ((I6 sub t.U).length = 0)
  else decide (be (DI kind) t.N = be (DI kind) dfl)
where usuals:List Fld → Tree → Nat → Bool
 | [],_,_=>true
 | f :: r,t,i=>f.usual (t.at_ i) && usuals r t (i + 1)
abbrev usuals:=Fld.usual.usuals
def Tree.depth:Tree → Nat
 | .mk _ _ _ l _=>deep l + 1
where deep:List Tree → Nat
 | []=>0
 | t :: r=>max t.depth (deep r)
abbrev deep:=Tree.depth.deep
def M1 (p:List Fld → Tree → Tree) (f:Fld) (null:Bool) (t:Tree):Tree :=
 if f.kind = 8 ∨ f.kind = 9 then .mk 0 (J6 t.S) null [] []
 else if f.kind = 10 then (match p f.sub t with | .mk n s _ l u=>.mk n s null l u)
 else .mk t.N t.S false [] []
def Fld.elem:Fld → Fld | .mk _ frm to _ _ dfl of sub=>.mk of frm to (-1) (-1) dfl of sub
def P6 (p:List Fld → Tree → Tree) (v:Int) (f:Fld) (t:Tree):Tree :=
 if f.kind = 11 then .mk 0 [] (f.nul v t || (decide (f.tag ≥ 0) && decide (t.L.length = 0))) ((E3 t.L).map fun x=>M1 p f.elem (f.elem.nul v x) x) []
 else M1 p f (f.nul v t) t
def R8 (w:Fld → Tree → Tree):List Fld → Tree → Nat → List Tree
 | [],_,_=>[]
 | f :: r,t,i=>w f (t.at_ i) :: R8 w r t (i + 1)
def W7 (w:Fld → Tree → Tree) (l:List Fld) (t:Tree):Tree:=.mk 0 [] false (R8 w l t 0) ((I6 l t.U).map fun x=>(x.1,J6 x.2))
def C2 (v:Int):Nat → List Fld → Tree → Tree
 | 0,l,t=>W7 (fun _ _=>.zero) l t
 | d + 1,l,t=>W7 (P6 (C2 v d) v) l t
def Fld.plain:Fld → Prop
 | .mk _ _ _ _ _ _ of sub=>of ≠ 11 ∧ plains sub
where plains:List Fld → Prop
 | []=>True
 | f :: r=>f.plain ∧ plains r
abbrev plains:=Fld.plain.plains
theorem EL {s t:Bs} (h:((s.length:Nat):Int) ≠ ((t.length:Nat):Int)):false = decide (s = t):=by
 symm; rw [decide_eq_false_iff_not]
 rintro rfl; exact h rfl
theorem EM {s t:Bs} {k:Nat} (h:(((s.getD k 0).toNat:Nat):Int) ≠ (((t.getD k 0).toNat:Nat):Int)):false = decide (s = t):=by
 symm; rw [decide_eq_false_iff_not]
 rintro rfl; exact h rfl
theorem Km {s t:Bs} {k:Nat} (h:s.take k = t.take k) (hk:k < s.length) (hl:s.length = t.length) (he:(((s.getD k 0).toNat:Nat):Int) = (((t.getD k 0).toNat:Nat):Int)):s.take (k + 1) = t.take (k + 1):=by
 have hk':k < t.length:=by omega
 rw [List.take_add_one,List.take_add_one,h,List.getElem?_eq_getElem hk,List.getElem?_eq_getElem hk']
 rw [List.getD_eq_getElem?_getD,List.getD_eq_getElem?_getD,List.getElem?_eq_getElem hk,List.getElem?_eq_getElem hk'] at he
 have:s[k] = t[k]:=UInt8.toNat.inj (by exact_mod_cast he)
 rw [this]
theorem EN {s t:Bs} {k:Nat} (h:s.take k = t.take k) (hk:s.length ≤ k) (hl:s.length = t.length):true = decide (s = t):=by
 symm; rw [decide_eq_true_iff]
 rwa [List.take_of_length_le hk,List.take_of_length_le (by omega)] at h
section
variable {G:Nat → Nat → Prop} {w0 w w':World} {M:Nat → Nat → Prop} {tb tb':Tb} {rs rs':List Rw}
theorem immM:∀ b o,D4 G w0 w tb rs b o → b < w.heap.size → ¬ G9 tb rs b o:=fun _ _ h _=>h.2.2
theorem Fr.to' (h:Fr w tb rs w' tb' rs'):∀ b o,D4 G w0 w tb rs b o → b < w.heap.size → D4 G w0 w' tb' rs' b o:=fun b o hi _=>h.to b o hi
theorem WOk.imm (h:WOk w0 B5 w tb rs):∀ b o,G b o → b < w0.heap.size → D4 G w0 w tb rs b o:=by
 refine fun b o hg hb=>⟨.inl hg,Nat.lt_of_lt_of_le hb h.step.size,fun ha=>?_⟩
 rcases ha with ⟨i,ob,hi,hr,rfl,h1,h2⟩ | ⟨i,r,hi,hr⟩
 ·have:=(h.rw_ i ob hi hr (o - ob.off) (by omega)).1
  rcases this with h3 | h3
  ·omega
  exact h3
 rcases h.ownM i r hi b hr with h3 | h3
 ·omega
 exact h3 0
theorem WOk.laid (h:WOk w0 M w tb rs) (hs:Step w w' B5):∀ b o,Fp (D4 G w0 w tb rs) w b o → b < w'.heap.size → D4 G w0 w' tb rs b o:=by
 intro b o hf hb
 rcases hf with hf | hf
 ·exact ⟨hf.1,hb,hf.2.2⟩
 exact ⟨.inr (Nat.le_trans h.step.size hf),hb,fun ha=>by have:=h.act_live ha; omega⟩
theorem G0:∀ b o,D4 G w0 w tb rs b o → b < w.heap.size → Fp G w0 b o:=fun _ _ h _=>h.1
theorem R9 {w:World} {F:Nat → Nat → Prop}:∀ b o,F b o → b < w.heap.size → True:=fun _ _ _ _=>trivial
theorem Hu {e size n:Nat} {A:Option Addr} {c:Nat} {xs:List Value} (ho:w.ownsRow 0 e size (.slice A n c) n xs) (h1:∀ u ∈ xs,u.oneCell' = true) (hsm:n ≤ 1099511627776) {F:Nat → Nat → Prop} (hF:∀ g,A.map (·.block) = some g → ∀ o,F g o)
  {cs:Nat → List Value} (hl:∀ i,i < n → (cs i).length = size) (hc:∀ i,i < n → ∀ j,j < size → (cs i)[j]? = xs[i * size + j]?):Slots w F size A c n cs:=by
 obtain ⟨A',c',hv,h2,h3,h4⟩:=DC ho
 simp only [Value.slice.injEq,true_and] at hv
 obtain ⟨rfl,rfl⟩:=hv
 refine ⟨h4,hsm,h2,fun ad hA hn=>?_⟩
 obtain ⟨g,rfl⟩:=h3 ad hA
 refine ⟨g,0,rfl,fun i hi=>⟨hl i hi,fun j v hj=>⟨hF g (by rw [hA]; rfl) _,?_⟩⟩⟩
 have hjs:j < size:=by rw [← hl i hi]; exact (List.getElem?_eq_some_iff.1 hj).1
 rw [hc i hi j hjs] at hj
 have:=(M5 ho h1).cells _ hA _ v hj
 rw [Q2] at this
 rw [show 0 + i * size + j = 0 + (i * size + j) by omega]
 exact this
structure Flat (size:Nat) (xs:List Value) (css:List (List Value)):Prop where
 eq:xs = css.flatten
 each:∀ c ∈ css,c.length = size
theorem CB {size:Nat}:∀ {css:List (List Value)},(∀ c ∈ css,c.length = size) → ∀ i j,i < css.length → j < size → (css.getD i [])[j]? = css.flatten[i * size + j]?
 | [],_,i,j,hi,_=>by simp at hi
 | c :: r,h,i,j,hi,hj=>by
  have hc:c.length = size:=h c (List.mem_cons_self ..)
  cases i with
  | zero =>
   rw [List.flatten_cons,List.getElem?_append_left (by omega)]
   simp
  | succ i =>
   rw [List.flatten_cons,List.getElem?_append_right (by rw [hc,Nat.add_mul]; omega)]
   have:=CB (css:=r) (fun c hc=>h c (List.mem_cons_of_mem _ hc)) i j (by simpa using hi) hj
   rw [show (i + 1) * size + j - c.length = i * size + j by rw [hc,Nat.add_mul]; omega]
   simpa using this
theorem Flat.nil (size:Nat):Flat size [] []:=⟨rfl,fun _ h=>by cases h⟩
theorem Flat.snoc {size:Nat} {xs:List Value} {css:List (List Value)} (h:Flat size xs css) {c:List Value} (hc:c.length = size):Flat size (xs ++ c) (css ++ [c]):=by
 refine ⟨by rw [h.eq]; simp,fun d hd=>?_⟩
 rcases List.mem_append.1 hd with hd | hd
 ·exact h.each d hd
 rw [List.mem_singleton.1 hd]; exact hc
theorem Flat.slots {e size:Nat} {A:Option Addr} {c:Nat} {xs:List Value} {css:List (List Value)} (h:Flat size xs css) (ho:w.ownsRow 0 e size (.slice A css.length c) css.length xs) (h1:∀ u ∈ xs,u.oneCell' = true) (hsm:css.length ≤ 1099511627776) {F:Nat → Nat → Prop} (hF:∀ g,A.map (·.block) = some g → ∀ o,F g o) :
  Slots w F size A c css.length (fun i=>css.getD i []) :=
 Hu ho h1 hsm hF (fun i hi=>by
  rw [List.getD_eq_getElem?_getD,List.getElem?_eq_getElem hi]
  exact h.each _ (List.getElem_mem hi)) (fun i hi j hj=>by rw [h.eq]; exact CB h.each i j hi hj)
structure Trees (w:World) (F:Nat → Nat → Prop) (xs:List Value) (l:List Tree) (css:List (List Value)):Prop where
 flat:Flat 5 xs css
 len:css.length = l.length
 each:∀ (i:Nat) (c:List Value) (x:Tree),css[i]? = some c → l[i]? = some x → TreeR w F c x
theorem Trees.move {F F' N:Nat → Nat → Prop} {xs:List Value} {l:List Tree} {css:List (List Value)} (h:Trees w F xs l css) (hs:Step w w' N) (hM:∀ b o,F b o → b < w.heap.size → ¬ N b o) (hF:∀ b o,F b o → b < w.heap.size → F' b o):Trees w' F' xs l css :=
 ⟨h.flat,h.len,fun i c x hc hx=>(h.each i c x hc hx).move hs hM hF⟩
theorem Trees.nil (w:World) (F:Nat → Nat → Prop):Trees w F [] [] []:=⟨Flat.nil 5,rfl,fun i c x h=>by simp at h⟩
theorem TreeR.five {F:Nat → Nat → Prop} {cs:List Value} {t:Tree} (h:TreeR w F cs t):cs.length = 5:=by
 obtain ⟨n,s,b,l,u,A1,c1,A2,c2,A3,c3,xs,rfl,rfl,_⟩:=h.open_; rfl
theorem TreeR.one {F:Nat → Nat → Prop} {cs:List Value} {t:Tree} (h:TreeR w F cs t):∀ u ∈ cs,u.oneCell' = true:=by
 obtain ⟨n,s,b,l,u,A1,c1,A2,c2,A3,c3,xs,rfl,rfl,_⟩:=h.open_
 intro v hv
 simp only [List.mem_cons,List.not_mem_nil,or_false] at hv
 rcases hv with rfl | rfl | rfl | rfl | rfl <;> rfl
theorem W8 {α:Type} {l:List α} {x y:α} {i:Nat} (h:(l ++ [x])[i]? = some y):(i < l.length ∧ l[i]? = some y) ∨ (i = l.length ∧ x = y):=by
 rcases Nat.lt_or_ge i l.length with hl | hl
 ·rw [List.getElem?_append_left hl] at h; exact .inl ⟨hl,h⟩
 rw [List.getElem?_append_right hl] at h
 rcases Nat.eq_or_lt_of_le hl with he | hl'
 ·rw [← he,Nat.sub_self] at h
  exact .inr ⟨he.symm,by simpa using h⟩
 rw [List.getElem?_eq_none (by simp; omega)] at h; cases h
theorem Trees.snoc {F:Nat → Nat → Prop} {xs:List Value} {l:List Tree} {css:List (List Value)} (h:Trees w F xs l css) {c:List Value} {x:Tree} (hx:TreeR w F c x):Trees w F (xs ++ c) (l ++ [x]) (css ++ [c]):=by
 refine ⟨h.flat.snoc hx.five,by simp [h.len],fun i d y hd hy=>?_⟩
 rcases W8 hd with ⟨h1,h2⟩ | ⟨h1,rfl⟩
 ·rcases W8 hy with ⟨_,h3⟩ | ⟨h3,_⟩
  ·exact h.each i d y h2 h3
  have:=h.len; omega
 rcases W8 hy with ⟨h3,_⟩ | ⟨_,rfl⟩
 ·have:=h.len; omega
 exact hx
theorem Trees.one {F:Nat → Nat → Prop} {xs:List Value} {l:List Tree} {css:List (List Value)} (h:Trees w F xs l css):∀ u ∈ xs,u.oneCell' = true:=by
 intro v hv
 rw [h.flat.eq] at hv
 obtain ⟨c,hc,hv⟩:=List.mem_flatten.1 hv
 obtain ⟨i,hi,rfl⟩:=List.getElem_of_mem hc
 have hl:=h.len
 exact (h.each i _ _ (List.getElem?_eq_getElem hi) (List.getElem?_eq_getElem (show i < l.length by omega))).one v hv
theorem Trees.slots {e:Nat} {A:Option Addr} {c n:Nat} {xs:List Value} {l:List Tree} {css:List (List Value)} {F:Nat → Nat → Prop} (h:Trees w F xs l css) (ho:w.ownsRow 0 e 5 (.slice A n c) n xs) (hn:n = l.length) (hsm:l.length ≤ 1099511627776) (hF:∀ g,A.map (·.block) = some g → ∀ o,F g o) :
  Slots w F 5 A c l.length (fun i=>css.getD i []) ∧ ∀ i x,l[i]? = some x → TreeR w F (css.getD i []) x:=by
 subst hn
 refine ⟨?_,fun i x hx=>?_⟩
 ·rw [← h.len] at ho ⊢
  exact h.flat.slots ho h.one (by rw [h.len]; exact hsm) hF
 have hi:i < css.length:=by rw [h.len]; exact (List.getElem?_eq_some_iff.1 hx).1
 have:css.getD i [] = css[i]:=by rw [List.getD_eq_getElem?_getD,List.getElem?_eq_getElem hi]; rfl
 rw [this]
 exact h.each i _ x (List.getElem?_eq_getElem hi) hx
structure TagR (w:World) (F:Nat → Nat → Prop) (cs:List Value) (x:Int × Bs):Prop where
 ex:∃ A c,cs = [.int .u32 x.1,.slice A x.2.length c] ∧ Octs w F A c x.2
 lo:0 ≤ x.1
 hi:x.1 < 4294967296
theorem TagR.move {F F' N:Nat → Nat → Prop} {cs:List Value} {x:Int × Bs} (h:TagR w F cs x) (hs:Step w w' N) (hM:∀ b o,F b o → b < w.heap.size → ¬ N b o) (hF:∀ b o,F b o → b < w.heap.size → F' b o):TagR w' F' cs x:=by
 obtain ⟨⟨A,c,h1,h2⟩,h3,h4⟩:=h
 exact ⟨⟨A,c,h1,h2.move hs hM hF⟩,h3,h4⟩
theorem TagR.two {F:Nat → Nat → Prop} {cs:List Value} {x:Int × Bs} (h:TagR w F cs x):cs.length = 2:=by
 obtain ⟨⟨A,c,rfl,_⟩,_,_⟩:=h; rfl
theorem TagR.one {F:Nat → Nat → Prop} {cs:List Value} {x:Int × Bs} (h:TagR w F cs x):∀ u ∈ cs,u.oneCell' = true:=by
 obtain ⟨⟨A,c,rfl,_⟩,_,_⟩:=h
 intro v hv
 simp only [List.mem_cons,List.not_mem_nil,or_false] at hv
 rcases hv with rfl | rfl <;> rfl
structure Tags (w:World) (F:Nat → Nat → Prop) (xs:List Value) (l:List (Int × Bs)) (css:List (List Value)):Prop where
 flat:Flat 2 xs css
 len:css.length = l.length
 each:∀ (i:Nat) (c:List Value) (x:Int × Bs),css[i]? = some c → l[i]? = some x → TagR w F c x
theorem Tags.move {F F' N:Nat → Nat → Prop} {xs:List Value} {l:List (Int × Bs)} {css:List (List Value)} (h:Tags w F xs l css) (hs:Step w w' N) (hM:∀ b o,F b o → b < w.heap.size → ¬ N b o) (hF:∀ b o,F b o → b < w.heap.size → F' b o):Tags w' F' xs l css :=
 ⟨h.flat,h.len,fun i c x hc hx=>(h.each i c x hc hx).move hs hM hF⟩
theorem Tags.nil (w:World) (F:Nat → Nat → Prop):Tags w F [] [] []:=⟨Flat.nil 2,rfl,fun i c x h=>by simp at h⟩
theorem Tags.snoc {F:Nat → Nat → Prop} {xs:List Value} {l:List (Int × Bs)} {css:List (List Value)} (h:Tags w F xs l css) {c:List Value} {x:Int × Bs} (hx:TagR w F c x):Tags w F (xs ++ c) (l ++ [x]) (css ++ [c]):=by
 refine ⟨h.flat.snoc hx.two,by simp [h.len],fun i d y hd hy=>?_⟩
 rcases W8 hd with ⟨h1,h2⟩ | ⟨h1,rfl⟩
 ·rcases W8 hy with ⟨_,h3⟩ | ⟨h3,_⟩
  ·exact h.each i d y h2 h3
  have:=h.len; omega
 rcases W8 hy with ⟨h3,_⟩ | ⟨_,rfl⟩
 ·have:=h.len; omega
 exact hx
theorem Tags.one {F:Nat → Nat → Prop} {xs:List Value} {l:List (Int × Bs)} {css:List (List Value)} (h:Tags w F xs l css):∀ u ∈ xs,u.oneCell' = true:=by
 intro v hv
 rw [h.flat.eq] at hv
 obtain ⟨c,hc,hv⟩:=List.mem_flatten.1 hv
 obtain ⟨i,hi,rfl⟩:=List.getElem_of_mem hc
 have hl:=h.len
 exact (h.each i _ _ (List.getElem?_eq_getElem hi) (List.getElem?_eq_getElem (show i < l.length by omega))).one v hv
theorem Tags.slots {e:Nat} {A:Option Addr} {c n:Nat} {xs:List Value} {l:List (Int × Bs)} {css:List (List Value)} {F:Nat → Nat → Prop} (h:Tags w F xs l css) (ho:w.ownsRow 0 e 2 (.slice A n c) n xs) (hn:n = l.length) (hsm:l.length ≤ 1099511627776) (hF:∀ g,A.map (·.block) = some g → ∀ o,F g o) :
  TagsR w F A c l:=by
 subst hn
 refine ⟨fun i=>css.getD i [],?_,fun i k s hx=>?_⟩
 ·rw [← h.len] at ho ⊢
  exact h.flat.slots ho h.one (by rw [h.len]; exact hsm) hF
 have hi:i < css.length:=by rw [h.len]; exact (List.getElem?_eq_some_iff.1 hx).1
 have:css.getD i [] = css[i]:=by rw [List.getD_eq_getElem?_getD,List.getElem?_eq_getElem hi]; rfl
 dsimp only
 rw [this]
 obtain ⟨h1,h2,h3⟩:=h.each i _ _ (List.getElem?_eq_getElem hi) hx
 exact ⟨h1,h2,h3⟩
def EO (w:World) (F:Nat → Nat → Prop) (t:Tree):Ending → World → Prop:=fun en w'=>∃ cs,en = .returned (.agg cs.toArray) ∧ TreeR w F cs t ∧ Step w w' B5
def O9 (w:World) (F:Nat → Nat → Prop) (t:Tree):Ending → World → Prop:=fun en w'=>∃ cs,en = .returned (.agg cs.toArray) ∧ TreeR w' (Fp F w) cs t ∧ Step w w' B5
def Hv (w:World) (F:Nat → Nat → Prop) (u:List (Int × Bs)):Ending → World → Prop:=fun en w'=>∃ A c,en = .returned (.slice A u.length c) ∧ TagsR w' (Fp F w) A c u ∧ Step w w' B5
theorem EP {n:Int} {s:Bs} {b:Bool} {l:List Tree} {u:List (Int × Bs)} {i:Nat} {x:Tree} (h:l[i]? = some x):(Tree.mk n s b l u).at_ i = x:=by
 simp [Tree.at_,Tree.L,List.getD_eq_getElem?_getD,h]
theorem EQ {n:Int} {s:Bs} {b:Bool} {l:List Tree} {u:List (Int × Bs)} {i:Nat} (h:l.length ≤ i):(Tree.mk n s b l u).at_ i = .zero:=by
 simp [Tree.at_,Tree.L,List.getD_eq_getElem?_getD,List.getElem?_eq_none h]
theorem WOk.cutTb (n:Nat) (h:WOk w0 M w tb rs):WOk w0 M w (tb.take n) rs:=by
 have ht:∀ {i:Nat} {o:Ob},(tb.take n)[i]? = some o → tb[i]? = some o:=fun {i o} hi=>by
  rw [List.getElem?_take] at hi
  split at hi
  ·exact hi
  cases hi
 exact ⟨h.step,fun i o hi=>h.cells i o (ht hi),fun i o hi=>h.live i o (ht hi),fun i o hi=>h.rw_ i o (ht hi),fun i j o o' hij hi hj hw=>h.apart i j o o' hij (ht hi) (ht hj) hw,h.own,h.ownM,fun i r hi g hg j o hj=>h.rtb i r hi g hg j o (ht hj),h.rr⟩
theorem Fr.cutTb (w:World) (tb:Tb) (rs:List Rw) (n:Nat):Fr w tb rs w (tb.take n) rs:=by
 refine ⟨fun b o _ ha hc=>?_,Step.refl _ _⟩
 rcases hc with ⟨i,ob,hi,h1⟩ | h
 ·rw [List.getElem?_take] at hi
  split at hi
  ·exact ha (.inl ⟨i,ob,hi,h1⟩)
  cases hi
 exact ha (.inr h)
def Q8 (m:Nat):C8 → Bool
 | []=>true
 | (_,.v _) :: r=>Q8 m r
 | (_,.p i _) :: r=>match Nat.blt i m with
  | true=>Q8 m r
  | false=>false
theorem ER {m:Nat}:∀ {env:C8},Q8 m env = true → ∀ s i k,lk env s = some (.p i k) → i < m
 | [],_,s,i,k,h=>by cases h
 | (t,.v x) :: r,hb,s,i,k,h=>by
  simp only [lk] at h
  split at h
  ·cases h
  exact ER (env:=r) hb s i k h
 | (t,.p j k') :: r,hb,s,i,k,h=>by
  simp only [Q8] at hb
  split at hb
  ·rename_i hj
   simp only [lk] at h
   split at h
   ·simp only [Option.some.injEq,SV.p.injEq] at h
    obtain ⟨rfl,_⟩:=h
    simpa [Nat.blt_eq] using hj
   exact ER (env:=r) hb s i k h
  cases hb
theorem EnvOk.cutTb {n:Nat} {env:C8} {a:Act} (m:Nat) (h:EnvOk n tb env a) (hb:Q8 m env = true):EnvOk n (tb.take m) env a:=by
 refine ⟨h.defers,h.size,fun s x hl=>?_⟩
 obtain ⟨h1,h2⟩:=h.at_ s x hl
 cases x with
 | v y=>exact ⟨h1,trivial⟩
 | p i k =>
  have hm:=ER hb s i k hl
  have h2':i < tb.length:=h2
  have:D0 (tb.take m) i = D0 tb i:=by
   unfold D0
   rw [List.getD_eq_getElem?_getD,List.getD_eq_getElem?_getD,List.getElem?_take,if_pos hm]
  refine ⟨?_,?_⟩
  ·rw [h1]; simp only [SV.val,this]
  show i < (tb.take m).length
  rw [List.length_take]; omega
theorem Hw (k:Int):DI k ≤ 8:=by
 unfold DI
 split
 ·omega
 split
 ·omega
 split <;> omega
theorem Kn {k:Nat} {r:Rw} (h:WOk w0 B5 w tb rs) (hk:rs[k]? = some r) {e size n:Nat} {A:Option Addr} {c:Nat} {xs:List Value} (hr:r.A = A) (ho:w.ownsRow 0 e size (.slice A n c) n xs):w.ownsRow w0.heap.size e size (.slice A n c) n xs:=by
 refine ⟨ho.1,?_⟩
 rcases ho.2 with hn | ⟨g,cap,cur,hv,hb,rest⟩
 ·exact .inl hn
 refine .inr ⟨g,cap,cur,hv,?_,rest⟩
 simp only [Value.slice.injEq] at hv
 have hb:=h.ownM k r hk g (by unfold Rw.blk; rw [hr,hv.1]; rfl)
 rcases hb with hb | hb
 ·exact hb
 exact (hb 0).elim
theorem Ko {k:Nat} {e c:Nat} {A:Option Addr} {s t:Bs} (h:WOk w0 B5 w tb rs) (hk:rs[k]? = some (B6 A c e s)) (he:s = t):BU w0 e t (.returned (.slice A s.length c)) w:=by
 subst he
 exact ⟨A,c,rfl,Kn h hk rfl (h.own k _ hk),h.step⟩
theorem ES {F:Nat → Nat → Prop} {A:Option Addr} {c:Nat} {l:List Tree} {xs:Nat → List Value} (h:Slots w F 5 A c l.length xs):Slots w F 5 A c (E3 l).length xs:=h.take (by simp only [E3,List.length_take]; omega)
theorem ET {F:Nat → Nat → Prop} {l:List Tree} {xs:Nat → List Value} (h:∀ i x,l[i]? = some x → TreeR w F (xs i) x):∀ (i:Nat) (x:Tree),(E3 l)[i]? = some x → TreeR w F (xs i) x:=fun i x hx=>by
 unfold E3 at hx
 rw [List.getElem?_take] at hx
 split at hx
 ·exact h i x hx
 cases hx
end
section
variable {w0 w w':World} {M:Nat → Nat → Prop} {tb tb':Tb} {rs rs':List Rw} {n:Nat} {env env':C8} {a:Act} {P:Program} {ops:Array Oper} {Q:Exit → Act → World → Prop}
def L0:C8 → List Nat
 | []=>[]
 | (k,_) :: r=>k :: L0 r
theorem EnvOk.pk (h:EnvOk n tb env a) (e:ME.pick env (L0 env') = some env':=by kernel_rfl):EnvOk n tb env' a:=h.pick e
theorem B3 {L:List Nat} (idxs rest:List Nat) (env':C8) (hW:WOk w0 M w tb rs) (h:EnvOk n tb env a) (k:∀ a',EnvOk n tb env' a' → wpOps P ops Q rest a' w) (e:I3 P ops n tb idxs (L0 env') env = some env':=by kernel_rfl) (hl:L = idxs ++ rest:=by rfl):wpOps P ops Q L a w :=
 F0 idxs rest (L0 env') hW h e hl k
theorem C1 {id:Nat} {y:Code} (env':C8) (hW:WOk w0 M w tb rs) (h:EnvOk n tb env a) (k:∀ a',EnvOk n tb env' a' → y.wp P Q a' w) (e:I3 P ops n tb (List.range ops.size) (L0 env') env = some env':=by kernel_rfl):(Code.seq (.region id ops false) y).wp P Q a w :=
 B8 (List.range ops.size) rfl (F0 (List.range ops.size) [] (L0 env') hW h e (List.append_nil _).symm fun a' h'=>B4 (A7 (k a' h')))
theorem D6 {T:World → Prop} {c:Nat} {listed:Array Bool} {fuel':Nat} (idxs:List Nat) (env':C8) (fuel:Nat) (hQ:S7 Q) (hTc:∀ w',T w' → CellsOk w' tb) (hT:T w) (h:EnvOk n tb env a) (k:∀ a',EnvOk n tb env' a' → I5 P ops Q T c fuel (Cz idxs listed) a' w)
  (hns:Region.noSelect ops = true:=by kernel_rfl) (ht:W6 ops c idxs listed = true:=by kernel_rfl) (e:I3 P ops n tb idxs (L0 env') env = some env':=by kernel_rfl) (hl:fuel' = idxs.length + fuel:=by rfl):I5 P ops Q T c fuel' listed a w :=
 Kg idxs (L0 env') fuel hns hQ hTc hT h ht e hl k
theorem Kp {α:Type} {l:List α} {k:Nat} {x:α} (h:l[k]? = some x):l.set k x = l:=by
 apply List.ext_getElem?
 intro j
 rw [List.getElem?_set]
 split
 ·rename_i hj
  subst hj
  rw [h,if_pos (List.getElem?_eq_some_iff.1 h).1]
 rfl
theorem WOk.rowEq {r r':Rw} (h:WOk w0 M w tb rs) (k:Nat) (rs':List Rw) (e:r = r') (hr:rs[k]? = some r:=by rfl) (hs:rs.set k r' = rs':=by rfl):WOk w0 M w tb rs' ∧ Fr w tb rs w tb rs':=by
 subst e
 rw [Kp hr] at hs
 subst hs
 exact ⟨h,Fr.refl _ _ _⟩
theorem WOk.frNil (h:WOk w0 M w tb rs) (e size:Nat):Fr w tb rs w tb (rs ++ [⟨none,0,e,size,0,[]⟩]):=Fr.addNil w tb rs e size
theorem WOk.frN (h:WOk w0 M w tb rs) (hs:Step w w' B5):Fr w tb rs w' tb rs:=Fr.nil tb rs hs
theorem WOk.frFresh (h:WOk w0 M w tb rs) (hs:Step w w' B5) (r:Rw) {base:Nat} (hb:w.heap.size ≤ base) (ho:w'.ownsRow base r.e r.size r.v r.n r.xs):WOk w0 M w' tb (rs ++ [r]) ∧ Fr w tb rs w' tb (rs ++ [r]):=⟨h.fresh hs r hb ho,Fr.fresh tb rs hs r hb ho⟩
theorem WOk.cutB (hW:WOk w0 M w tb rs) (hE:EnvOk n tb env a) (m:Nat) (tb':Tb) (env':C8) (ht:tb.take m = tb':=by rfl) (e:pick env (L0 env') = some env':=by kernel_rfl) (hb:Q8 m env' = true:=by kernel_rfl):EnvOk n tb' env' a ∧ WOk w0 M w tb' rs ∧ Fr w tb rs w tb' rs:=by
 subst ht
 exact ⟨(hE.pick e).cutTb m hb,hW.cutTb m,Fr.cutTb w tb rs m⟩
theorem WOk.cutR (hW:WOk w0 M w tb rs) (m:Nat) (rs':List Rw) (hr:rs.take m = rs':=by rfl):WOk w0 M w tb rs' ∧ Fr w tb rs w tb rs':=by
 subst hr
 exact ⟨hW.rows m,Fr.rows w tb rs m⟩
theorem TT.ofW (hF:Fr w tb rs w' tb' rs') (hW:WOk w0 M w' tb' rs') (ht:tb'.take tb.length = tb:=by rfl):TT w tb rs w':=by
 refine ⟨?_,hF.step⟩
 have:=(hW.cutTb tb.length).cells
 rwa [ht] at this
abbrev F1 {w0 w:World} {M:Nat → Nat → Prop} {tb0:Tb} {rs0:List Rw} (h:WOk w0 M w tb0 rs0) (n:Nat) (tb:Tb) (rs:List Rw) (env:C8) (a:Act) (w':World):Prop :=
 EnvOk n tb env a ∧ WOk w0 M w' tb rs ∧ Fr w tb0 rs0 w' tb rs
end
def sb (s:ByteArray):Bs:=s.data.toList
theorem Bp (s:ByteArray):(sb s).length = s.size:=by simp [sb]
inductive DV where
 | leaf
 | mk (n:Int) (b:Bool) (s:ByteArray) (o:Bs) (A:Option Addr) (l c:Nat) (m:Option Nat) (u:List (Int × Bs)) (f:Nat → DV)
def DV.n:DV → Int | .leaf=>0 | .mk x _ _ _ _ _ _ _ _ _=>x
def DV.s:DV → ByteArray | .leaf=>ByteArray.empty | .mk _ _ x _ _ _ _ _ _ _=>x
def DV.o:DV → Bs | .leaf=>[] | .mk _ _ _ x _ _ _ _ _ _=>x
def DV.A:DV → Option Addr | .leaf=>none | .mk _ _ _ _ x _ _ _ _ _=>x
def DV.l:DV → Nat | .leaf=>0 | .mk _ _ _ _ _ x _ _ _ _=>x
def DV.c:DV → Nat | .leaf=>0 | .mk _ _ _ _ _ _ x _ _ _=>x
def DV.m:DV → Option Nat | .leaf=>none | .mk _ _ _ _ _ _ _ x _ _=>x
def DV.u:DV → List (Int × Bs) | .leaf=>[] | .mk _ _ _ _ _ _ _ _ x _=>x
def DV.f:DV → Nat → DV | .leaf=>fun _=>.leaf | .mk _ _ _ _ _ _ _ _ _ x=>x
structure MapR (w:World) (F:Nat → Nat → Prop) (m:Option Nat) (u:List (Int × Bs)):Prop where
 sorted:u.Pairwise fun x y=>x.1 < y.1
 range:∀ x ∈ u,0 ≤ x.1 ∧ x.1 < 4294967296
 none_:m = none → u = []
 some_:∀ r,m = some r → (∀ o,F r o) ∧ ∃ es clk,w.heap[r]? = some (.map es clk) ∧ (es.toList.map (·.key)).Perm (u.map fun x=>Value.int .u32 x.1) ∧ (∀ e ∈ es.toList,e.born < clk) ∧ (es.toList.map (·.born)).Nodup ∧
  ∀ e ∈ es.toList,∃ k s A c,e.key = .int .u32 k ∧ e.val = .slice A (s:Bs).length c ∧ Octs w F A c s ∧ (k,s) ∈ u
theorem MapR.move {w w':World} {F F' M:Nat → Nat → Prop} {m:Option Nat} {u:List (Int × Bs)} (h:MapR w F m u) (hs:Step w w' M) (hM:∀ b o,F b o → b < w.heap.size → ¬ M b o) (hF:∀ b o,F b o → b < w.heap.size → F' b o):MapR w' F' m u:=by
 refine ⟨h.sorted,h.range,h.none_,fun r hr=>?_⟩
 obtain ⟨h1,es,clk,h2,h3,h6,h7,h5⟩:=h.some_ r hr
 have hlt:r < w.heap.size:=(Array.getElem?_eq_some_iff.1 h2).1
 refine ⟨fun o=>hF r o (h1 o) hlt,es,clk,hs.heap (fun o=>hM r o (h1 o) hlt) h2,h3,h6,h7,fun e he=>?_⟩
 obtain ⟨k,s,A,c,g1,g2,g3,g4⟩:=h5 e he
 exact ⟨k,s,A,c,g1,g2,g3.move hs hM hF,g4⟩
theorem MapR.size {w:World} {F:Nat → Nat → Prop} {u:List (Int × Bs)} {es:Array MapEntry} (h:(es.toList.map (·.key)).Perm (u.map fun x=>Value.int .u32 x.1)):es.size = u.length:=by
 have:=h.length_eq
 simpa using this
theorem MapR.nil (w:World) (F:Nat → Nat → Prop):MapR w F none []:=⟨List.Pairwise.nil,fun _ h=>by (cases h),fun _=>rfl,fun _ h=>by (cases h)⟩
def N3 (w0:World) (A0 A:Option Addr):Prop:=∀ g,A.map (·.block) = some g → A0.map (·.block) = some g ∨ w0.heap.size ≤ g
theorem DJ {w0 w:World} {A0 A:Option Addr} {cp e8:Nat} {s:Bs} {tb:Tb} (hW:WOk w0 (G1 A0) w tb [B6 A cp e8 s]):N3 w0 A0 A:=fun g hg=>by
 rcases hW.ownM 0 _ rfl g hg with h | h
 ·exact .inr h
 exact .inl (h 0)
def Lo (F:Nat → Nat → Prop) (w0:World) (b o:Nat):Prop:=F b o ∧ b < w0.heap.size
theorem P0 {F:Nat → Nat → Prop} {w0:World} {A0 A:Option Addr} (hF:∀ b o,F b o → ¬ G1 A0 b o) (hA:N3 w0 A0 A):∀ b o,Lo F w0 b o → ¬ G1 A b o:=fun b o h hb=>by
 rcases hA b hb with h1 | h1
 ·exact hF b o h.1 h1
 have:=h.2; omega
theorem F8 {F:Nat → Nat → Prop} {w0:World} {A0:Option Addr} (hF:∀ b o,F b o → ¬ G1 A0 b o):∀ b o,F b o → b < w0.heap.size → ¬ G1 A0 b o:=fun b o h _=>hF b o h
theorem F9 {F:Nat → Nat → Prop} {w0:World}:∀ b o,F b o → b < w0.heap.size → Lo F w0 b o:=fun b o h hb=>⟨h,hb⟩
def Ch (P:Program) (n:Nat) (w0:World) (A0:Option Addr) (e8 d:Nat) (tb:Tb) (env env':C8) (c:Code) (x:Bs):Prop :=
 ∀ (Q:Exit → Act → World → Prop) (A:Option Addr) (cp:Nat) (s:Bs) (a:Act) (w:World),
  EnvOk n tb ((d,.v (.slice A s.length cp)) :: env) a → WOk w0 (G1 A0) w tb [B6 A cp e8 s] → s.length + x.length + 16 ≤ 1099511627776 →
  (∀ A' cp' a' w',EnvOk n tb ((d,.v (.slice A' (s ++ x).length cp')) :: env') a' → WOk w0 (G1 A0) w' tb [B6 A' cp' e8 (s ++ x)] → Q .normal a' w') → c.wp P Q a w
section
variable {P:Program} {n:Nat} {w0:World} {A0:Option Addr} {e8 d:Nat} {tb:Tb} {env e1 env':C8} {c c1 c2:Code} {x x1 x2 y:Bs}
theorem DK (h:Ch P n w0 A0 e8 d tb env env' c x) (e:x = y):Ch P n w0 A0 e8 d tb env env' c y:=e ▸ h
theorem W9:Ch P n w0 A0 e8 d tb env env .skip []:=fun Q A cp s a w hE hW hr k=>wp_skip (k A cp a w (by simpa using hE) (by simpa using hW))
theorem U5 (h1:Ch P n w0 A0 e8 d tb env e1 c1 x1) (h2:Ch P n w0 A0 e8 d tb e1 env' c2 x2):Ch P n w0 A0 e8 d tb env env' (.seq c1 c2) (x1 ++ x2):=fun Q A cp s a w hE hW hr k=>by
 rw [List.length_append] at hr
 refine wp_seq (h1 _ A cp s a w hE hW (by omega) fun A' cp' a' w' hE' hW'=>A7 (h2 Q A' cp' (s ++ x1) a' w' hE' hW' (by rw [List.length_append]; omega) fun A2 cp2 a2 w2 hE2 hW2=>?_))
 rw [List.append_assoc] at hE2 hW2
 exact k A2 cp2 a2 w2 hE2 hW2
theorem H3 (h1:Ch P n w0 A0 e8 d tb env e1 c1 []) (h2:Ch P n w0 A0 e8 d tb e1 env' c2 x):Ch P n w0 A0 e8 d tb env env' (.seq c1 c2) x:=U5 h1 h2
theorem E7 {id:Nat} {ops:Array Oper} (keys:List Nat) (h:∀ A m cp,I3 P ops n tb (List.range ops.size) (d :: keys) ((d,.v (.slice A m cp)) :: env) = some ((d,.v (.slice A m cp)) :: env')) :
  Ch P n w0 A0 e8 d tb env env' (.region id ops false) []:=fun Q A cp s a w hE hW hr k=>by
 refine D9 _ rfl (F0 (List.range ops.size) [] (d :: keys) hW hE (h _ _ _) (List.append_nil _).symm fun a' hE'=>B4 ?_)
 exact k A cp a' w (by simpa using hE') (by simpa using hW)
def upto (i j:Nat):List Nat:=(List.range j).drop i
theorem U6 {i j:Nat} (h:i < j):upto 0 j = List.range i ++ i :: upto (i + 1) j:=by
 unfold upto
 rw [List.drop_zero]
 have e1:=(List.take_append_drop i (List.range j)).symm
 have e2:(List.range j).take i = List.range i:=by
  rw [List.take_range]; congr 1; omega
 have e3:(List.range j).drop i = i :: (List.range j).drop (i + 1):=by
  rw [List.drop_eq_getElem_cons (by simpa using h)]
  simp
 rw [e2,e3] at e1
 exact e1
theorem upto_split' {i k j:Nat} (hk:i ≤ k) (h:k < j):upto i j = upto i k ++ k :: upto (k + 1) j:=by
 have e1:=U6 h
 unfold upto at e1 ⊢
 rw [List.drop_zero] at e1
 rw [e1,List.drop_append_of_le_length (by simpa using hk)]
 congr 2
 rw [← e1]
def BV (P:Program) (ops:Array Oper) (n:Nat) (tb:Tb) (i:Nat) (keys:List Nat) (env:C8) (r:Value):Option ((FuncId × List Value) × C8) :=
 match G8 P ops n tb (List.range i) env with
 | some e=>match O6 tb e ops n i with
  | some (f,vs,t)=>match I3 P ops n tb (upto (i + 1) ops.size) keys ((t,.v r) :: e) with
   | some e'=>some ((f,vs),e')
   | none=>none
  | none=>none
 | none=>none
theorem Bq {ops:Array Oper} {i:Nat} {keys:List Nat} {env:C8} {r:Value} {f:FuncId} {vs:List Value} {env':C8} (h:BV P ops n tb i keys env r = some ((f,vs),env')) :
  ∃ e t,G8 P ops n tb (List.range i) env = some e ∧ O6 tb e ops n i = some (f,vs,t) ∧ I3 P ops n tb (upto (i + 1) ops.size) keys ((t,.v r) :: e) = some env':=by
 unfold BV at h
 split at h
 ·rename_i e he
  split at h
  ·rename_i f' vs' t ht
   split at h
   ·rename_i e' he'
    simp only [Option.some.injEq,Prod.mk.injEq] at h
    obtain ⟨⟨rfl,rfl⟩,rfl⟩:=h
    exact ⟨e,t,he,ht,he'⟩
   cases h
  cases h
 cases h
theorem I8 {id:Nat} {ops:Array Oper} (i:Nat) (keys:List Nat) {f:FuncId} {vs:List Value}
  (h:∀ A m cp A' m' cp',BV P ops n tb i (d :: keys) ((d,.v (.slice A m cp)) :: env) (.slice A' m' cp') = some ((f,.slice A m cp :: vs),(d,.v (.slice A' m' cp')) :: env'))
  (hi:Nat.blt i ops.size = true) (hf:∀ args w,(callFunc f args).run P w = .ok (.enter f args) w)
  (hc:∀ (A:Option Addr) (cp:Nat) (s:Bs) (w:World),Step w0 w (G1 A0) → N3 w0 A0 A → w.ownsRow 0 e8 1 (.slice A s.length cp) s.length (bc s) → s.length + x.length + 16 ≤ 1099511627776 → Calls P f (.slice A s.length cp :: vs).toArray w (K9 w e8 A (s ++ x))) :
  Ch P n w0 A0 e8 d tb env env' (.region id ops false) x:=fun Q A cp s a w hE hW hr k=>by
 have hi':i < ops.size:=by simpa [Nat.blt_eq] using hi
 obtain ⟨e,t,h1,h2,_⟩:=Bq (h A s.length cp none 0 0)
 refine D9 (List.range i ++ i :: upto (i + 1) ops.size) (by rw [← U6 hi']; rfl) ?_
 refine R2 hW.cells hE h1 fun a1 hE1=>B1 (C3 hE1 h2 hf (hc A cp s w hW.step (DJ hW) (hW.own 0 _ rfl) hr) ?_)
 rintro e_ w' ⟨A',c',rfl,ho,hs,hn⟩
 refine ⟨_,rfl,fun a2 hE2=>?_⟩
 obtain ⟨e',t',g1,g2,g3⟩:=Bq (h A s.length cp A' (s ++ x).length c')
 rw [h1] at g1
 obtain rfl:=Option.some.inj g1
 rw [h2] at g2
 simp only [Option.some.injEq,Prod.mk.injEq,true_and] at g2
 subst g2
 have hW':WOk w0 (G1 A0) w' tb [B6 A' c' e8 (s ++ x)]:=hW.grow (k:=0) rfl hs ho hn
 refine F0 (upto (i + 1) ops.size) [] (d :: keys) hW' hE2 g3 (List.append_nil _).symm fun a3 hE3=>B4 ?_
 exact k A' c' a3 w' hE3 hW'
def EU (P:Program) (ops:Array Oper) (n:Nat) (tb:Tb) (i j:Nat) (keys:List Nat) (env:C8) (r1 r:Value):Option ((FuncId × List Value) × (FuncId × List Value) × C8) :=
 match G8 P ops n tb (List.range i) env with
 | some e=>match O6 tb e ops n i with
  | some (f1,vs1,t1)=>match G8 P ops n tb (upto (i + 1) j) ((t1,.v r1) :: e) with
   | some e2=>match O6 tb e2 ops n j with
    | some (f,vs,t)=>match I3 P ops n tb (upto (j + 1) ops.size) keys ((t,.v r) :: e2) with
     | some e'=>some ((f1,vs1),(f,vs),e')
     | none=>none
    | none=>none
   | none=>none
  | none=>none
 | none=>none
theorem Hx {ops:Array Oper} {i j:Nat} {keys:List Nat} {env:C8} {r1 r:Value} {f1 f:FuncId} {vs1 vs:List Value} {env':C8} (h:EU P ops n tb i j keys env r1 r = some ((f1,vs1),(f,vs),env')) :
  ∃ e t1 e2 t,G8 P ops n tb (List.range i) env = some e ∧ O6 tb e ops n i = some (f1,vs1,t1) ∧ G8 P ops n tb (upto (i + 1) j) ((t1,.v r1) :: e) = some e2 ∧ O6 tb e2 ops n j = some (f,vs,t) ∧ I3 P ops n tb (upto (j + 1) ops.size) keys ((t,.v r) :: e2) = some env':=by
 unfold EU at h
 split at h
 ·rename_i e he
  split at h
  ·rename_i f' vs' t ht
   split at h
   ·rename_i e2 he2
    split at h
    ·rename_i f2 vs2 t2 ht2
     split at h
     ·rename_i e' he'
      simp only [Option.some.injEq,Prod.mk.injEq] at h
      obtain ⟨⟨rfl,rfl⟩,⟨rfl,rfl⟩,rfl⟩:=h
      exact ⟨e,t,e2,t2,he,ht,he2,ht2,he'⟩
     cases h
    cases h
   cases h
  cases h
 cases h
theorem EV {id:Nat} {ops:Array Oper} (i j:Nat) (keys:List Nat) {f1 f:FuncId} {vs1 vs:List Value} {r1:Value}
  (h:∀ A m cp A' m' cp',EU P ops n tb i j (d :: keys) ((d,.v (.slice A m cp)) :: env) r1 (.slice A' m' cp') = some ((f1,vs1),(f,.slice A m cp :: vs),(d,.v (.slice A' m' cp')) :: env'))
  (hi:(Nat.blt i j && Nat.blt j ops.size) = true) (hf1:∀ args w,(callFunc f1 args).run P w = .ok (.enter f1 args) w) (hf:∀ args w,(callFunc f args).run P w = .ok (.enter f args) w)
  (hc1:∀ (w:World),Step w0 w (G1 A0) → Calls P f1 vs1.toArray w (N5 w r1))
  (hc:∀ (A:Option Addr) (cp:Nat) (s:Bs) (w:World),Step w0 w (G1 A0) → N3 w0 A0 A → w.ownsRow 0 e8 1 (.slice A s.length cp) s.length (bc s) → s.length + x.length + 16 ≤ 1099511627776 → Calls P f (.slice A s.length cp :: vs).toArray w (K9 w e8 A (s ++ x))) :
  Ch P n w0 A0 e8 d tb env env' (.region id ops false) x:=fun Q A cp s a w hE hW hr k=>by
 have hi':i < j ∧ j < ops.size:=by simpa [Nat.blt_eq] using hi
 obtain ⟨e,t1,e2,t,h1,h2,h3,h4,_⟩:=Hx (h A s.length cp none 0 0)
 refine D9 (List.range i ++ i :: (upto (i + 1) j ++ j :: upto (j + 1) ops.size)) (by
  rw [← upto_split' (by omega) hi'.2,← U6 (by omega)]; rfl) ?_
 refine R2 hW.cells hE h1 fun a1 hE1=>B1 (C3 hE1 h2 hf1 (hc1 w hW.step) ?_)
 rintro e_ w1 ⟨rfl,hs1⟩
 refine ⟨_,rfl,fun a2 hE2=>?_⟩
 have hW1:=hW.next_nil hs1
 refine R2 hW1.cells hE2 h3 fun a3 hE3=>B1 (C3 hE3 h4 hf (hc A cp s w1 hW1.step (DJ hW1) (hW1.own 0 _ rfl) hr) ?_)
 rintro e_ w' ⟨A',c',rfl,ho,hs,hn⟩
 refine ⟨_,rfl,fun a4 hE4=>?_⟩
 obtain ⟨e',t1',e2',t',g1,g2,g3,g4,g5⟩:=Hx (h A s.length cp A' (s ++ x).length c')
 rw [h1] at g1
 obtain rfl:=Option.some.inj g1
 rw [h2] at g2
 simp only [Option.some.injEq,Prod.mk.injEq,true_and] at g2
 subst g2
 rw [h3] at g3
 obtain rfl:=Option.some.inj g3
 rw [h4] at g4
 simp only [Option.some.injEq,Prod.mk.injEq,true_and] at g4
 subst g4
 have hW':WOk w0 (G1 A0) w' tb [B6 A' c' e8 (s ++ x)]:=hW1.grow (k:=0) rfl hs ho hn
 refine F0 (upto (j + 1) ops.size) [] (d :: keys) hW' hE4 g5 (List.append_nil _).symm fun a5 hE5=>B4 ?_
 exact k A' c' a5 w' hE5 hW'
theorem Hy {o:Operand} {b:Bool} (hb:∀ A m cp,E8 ((d,.v (.slice A m cp)) :: env) o = some (.v (.bool b))) (h1:b = true → Ch P n w0 A0 e8 d tb env env' c1 x) (h2:b = false → Ch P n w0 A0 e8 d tb env env' c2 x) :
  Ch P n w0 A0 e8 d tb env env' (.cond o c1 c2) x:=fun Q A cp s a w hE hW hr k =>
 D8 hE (hb _ _ _) (fun hb'=>h1 hb' Q A cp s a w hE hW hr k) (fun hb'=>h2 hb' Q A cp s a w hE hW hr k)
theorem WOk.addRead {F:Nat → Nat → Prop} {b o:Nat} {cs:List Value} {A:Option Addr} {cp:Nat} {s:Bs} {w:World} (hW:WOk w0 (G1 A0) w tb [B6 A cp e8 s]) (hat:AtF w0 F b o cs) (hF:∀ b o,F b o → ¬ G1 A0 b o) (hn:Nat.blt 0 cs.length = true) (hne:tb.all (fun ob=>!ob.rw || Nat.blt 0 ob.cells.length) = true) :
  WOk w0 (G1 A0) w (tb ++ [⟨b,o,cs,false⟩]) [B6 A cp e8 s]:=by
 have hn':0 < cs.length:=by simpa [Nat.blt_eq] using hn
 obtain ⟨g1,g2⟩:=hat 0 _ (List.getElem?_eq_getElem hn')
 have hlt:=World.lt_of_cell g2
 refine hW.add ⟨b,o,cs,false⟩ (Nat.lt_of_lt_of_le hlt hW.step.size) (fun j v hj=>(hW.step.cell (hF _ _ (hat j v hj).1) (hat j v hj).2)) (fun h=>by cases h) (fun i ob hi hrw=>?_) (fun i r hi hb=>?_)
 ·rcases hrw with hrw | hrw
  ·have hl:0 < ob.cells.length:=by
    have:=List.all_eq_true.1 hne ob (List.mem_of_getElem? hi)
    rw [hrw] at this
    simpa [Nat.blt_eq] using this
   refine .inl fun e=>?_
   dsimp only at e
   rcases (hW.rw_ i ob hi hrw 0 hl).1 with h3 | h3
   ·rw [e] at h3; omega
   rw [e] at h3
   exact hF _ _ g1 h3
  cases hrw
 have hi0:i = 0 ∧ r = B6 A cp e8 s:=by
  cases i with
  | zero=>exact ⟨rfl,(Option.some.inj hi).symm⟩
  | succ i=>simp at hi
 obtain ⟨rfl,rfl⟩:=hi0
 rcases hW.ownM 0 _ rfl _ hb with h3 | h3
 ·exact absurd hlt (Nat.not_lt.2 h3)
 exact hF _ _ g1 (h3 _)
theorem Hz (xs:Nat → Bs) {m:Nat}:∀ {l:Nat},m ≤ l → ((List.range m).flatMap xs).length ≤ ((List.range l).flatMap xs).length
 | 0,h=>by
  obtain rfl:m = 0:=by omega
  exact Nat.le_refl _
 | l + 1,h=>by
  rcases Nat.eq_or_lt_of_le h with rfl | h
  ·exact Nat.le_refl _
  have:=Hz xs (m:=m) (l:=l) (by omega)
  rw [List.range_succ,List.flatMap_append,List.length_append]
  omega
theorem EW (xs:Nat → Bs) (m:Nat):(List.range (m + 1)).flatMap xs = (List.range m).flatMap xs ++ xs m:=by
 rw [List.range_succ,List.flatMap_append]; simp
theorem EX {B C id1 id2:Nat} {ops1 ops2:Array Oper} {body:Code} {len:Nat} {xs:Nat → Bs} (ti tc:Nat) (keys:List Nat)
  (h1:∀ (k:Nat) A m cp,I3 P ops1 n tb (List.range ops1.size) (d :: tc :: ti :: keys) ((d,.v (.slice A m cp)) :: (ti,.v (.int .i64 ((k:Nat):Int))) :: env) = some ((d,.v (.slice A m cp)) :: (tc,.v (.bool (decide (((k:Nat):Int) < ((len:Nat):Int))))) :: (ti,.v (.int .i64 ((k:Nat):Int))) :: env))
  (h2:∀ (k:Nat) A m cp,I3 P ops2 n tb (List.range ops2.size) (d :: ti :: keys) ((d,.v (.slice A m cp)) :: (ti,.v (.int .i64 ((k:Nat):Int))) :: env) = some ((d,.v (.slice A m cp)) :: (ti,.v (.int .i64 (IntKind.i64.wrap (((k:Nat):Int) + 1)))) :: env))
  (h3:∀ (k:Nat) A m cp b,pick ((d,.v (.slice A m cp)) :: (tc,.v (.bool b)) :: (ti,.v (.int .i64 ((k:Nat):Int))) :: env) (d :: ti :: keys) = some ((d,.v (.slice A m cp)) :: (ti,.v (.int .i64 ((k:Nat):Int))) :: env))
  (h4:∀ (k:Nat) A m cp b,pick ((d,.v (.slice A m cp)) :: (tc,.v (.bool b)) :: (ti,.v (.int .i64 ((k:Nat):Int))) :: env) (d :: keys) = some ((d,.v (.slice A m cp)) :: env))
  (hd:Nat.beq d tc = false) (hl:len ≤ 1099511627776)
  (hb:∀ k,k < len → Ch P n w0 A0 e8 d tb ((ti,.v (.int .i64 ((k:Nat):Int))) :: env) ((ti,.v (.int .i64 ((k:Nat):Int))) :: env) body (xs k)) :
  Ch P n w0 A0 e8 d tb ((ti,.v (.int .i64 0)) :: env) env (.block B (.loop (.seq (.region id1 ops1 false) (.seq (.cond (.tmp tc) .skip (.exit B)) (.seq (.block C body) (.region id2 ops2 false)))))) ((List.range len).flatMap xs):=fun Q A cp s a w hE hW hr k=>by
 refine wp_block ?_
 refine wp_loop_ghost (fun m a_ w_=>∃ (j:Nat) (A_:Option Addr) (cp_:Nat),m = len - j ∧ j ≤ len ∧ EnvOk n tb ((d,.v (.slice A_ (s ++ (List.range j).flatMap xs).length cp_)) :: (ti,.v (.int .i64 ((j:Nat):Int))) :: env) a_ ∧ WOk w0 (G1 A0) w_ tb [B6 A_ cp_ e8 (s ++ (List.range j).flatMap xs)]) len
  ⟨0,A,cp,by omega,by omega,by simpa using hE,by simpa using hW⟩ ?_
 rintro m a1 w1 ⟨j,A1,cp1,rfl,hj,hE1,hW1⟩
 refine B8 _ rfl (F0 (List.range ops1.size) [] (d :: tc :: ti :: keys) hW1 hE1 (h1 j _ _ _) (List.append_nil _).symm fun a2 hE2=>B4 (A7 (wp_seq ?_)))
 refine D8 hE2 (b:=decide (((j:Nat):Int) < ((len:Nat):Int))) (by simp [E8,lk,hd]) (fun hc=>?_) (fun hc=>?_)
 ·have hlt:j < len:=by have:=of_decide_eq_true hc; omega
  refine wp_skip (A7 (wp_seq (wp_block ?_)))
  have hfm:=Hz xs (m:=j + 1) (l:=len) (by omega)
  rw [EW,List.length_append] at hfm
  refine hb j hlt _ A1 cp1 _ a2 w1 (hE2.pick (h3 j _ _ _ _)) hW1 (by rw [List.length_append]; omega) fun A' cp' a' w' hE' hW'=>G2 (A7 ?_)
  refine D9 _ rfl (F0 (List.range ops2.size) [] (d :: ti :: keys) hW' hE' (h2 j _ _ _) (List.append_nil _).symm fun a3 hE3=>B4 (A7 ?_))
  refine ⟨len - (j + 1),by omega,j + 1,A',cp',rfl,by omega,?_,?_⟩
  ·rw [H1 (by omega)] at hE3
   rw [EW,← List.append_assoc]
   exact hE3
  rw [EW,← List.append_assoc]
  exact hW'
 have hge:j = len:=by have:=of_decide_eq_false hc; omega
 subst hge
 exact wp_exit (E2 (E2 (G3 (k A1 cp1 a2 w1 (hE2.pick (h4 j _ _ _ _)) hW1))))
def L5 (P:Program) (n:Nat) (w0:World) (A0:Option Addr) (e8 d:Nat) (tb:Tb) (env:C8) (tr:Nat) (c:Code) (x:Bs):Prop :=
 ∀ (Q:Exit → Act → World → Prop) (A:Option Addr) (cp:Nat) (s:Bs) (a:Act) (w:World),
  EnvOk n tb ((d,.v (.slice A s.length cp)) :: env) a → WOk w0 (G1 A0) w tb [B6 A cp e8 s] → s.length + x.length + 16 ≤ 1099511627776 →
  (∀ tb' A' cp' a' w',EnvOk n tb' [(tr,.v (.slice A' (s ++ x).length cp'))] a' → WOk w0 (G1 A0) w' tb' [B6 A' cp' e8 (s ++ x)] → Q .ret a' w') → c.wp P Q a w
theorem N6 {tr:Nat} (h1:Ch P n w0 A0 e8 d tb env e1 c1 x1) (h2:L5 P n w0 A0 e8 d tb e1 tr c2 x2):L5 P n w0 A0 e8 d tb env tr (.seq c1 c2) (x1 ++ x2):=fun Q A cp s a w hE hW hr k=>by
 rw [List.length_append] at hr
 refine wp_seq (h1 _ A cp s a w hE hW (by omega) fun A' cp' a' w' hE' hW'=>A7 (h2 Q A' cp' (s ++ x1) a' w' hE' hW' (by rw [List.length_append]; omega) fun tb2 A2 cp2 a2 w2 hE2 hW2=>?_))
 rw [List.append_assoc] at hE2 hW2
 exact k tb2 A2 cp2 a2 w2 hE2 hW2
theorem L1 {tr:Nat} (h1:Ch P n w0 A0 e8 d tb env e1 c1 []) (h2:L5 P n w0 A0 e8 d tb e1 tr c2 x):L5 P n w0 A0 e8 d tb env tr (.seq c1 c2) x:=N6 h1 h2
theorem EY {tr id:Nat} {ops:Array Oper} (h:∀ A m cp,I3 P ops n tb (List.range ops.size) [tr] ((d,.v (.slice A m cp)) :: env) = some [(tr,.v (.slice A m cp))]):L5 P n w0 A0 e8 d tb env tr (.seq (.region id ops false) .ret) []:=fun Q A cp s a w hE hW hr k=>by
 refine B8 _ rfl (F0 (List.range ops.size) [] [tr] hW hE (h _ _ _) (List.append_nil _).symm fun a' hE'=>B4 (A7 (wp_ret ?_)))
 exact k tb A cp a' w (by simpa using hE') (by simpa using hW)
theorem CC {F:Nat → Nat → Prop} {tr:Nat} (b o:Nat) (cs:List Value) (hat:AtF w0 F b o cs) (hF:∀ b o,F b o → ¬ G1 A0 b o) (hn:Nat.blt 0 cs.length = true) (hne:tb.all (fun ob=>!ob.rw || Nat.blt 0 ob.cells.length) = true)
  (h:L5 P n w0 A0 e8 d (tb ++ [⟨b,o,cs,false⟩]) env tr c x):L5 P n w0 A0 e8 d tb env tr c x:=fun Q A cp s a w hE hW hr k =>
 h Q A cp s a w (hE.grow _) (hW.addRead hat hF hn hne) hr k
theorem CD {tr:Nat} (t i k b o:Nat) (hi:i < tb.length) (hb:(D0 tb i).blk = b) (ho:(D0 tb i).off + k = o) (ht:Nat.beq d t = false) (h:L5 P n w0 A0 e8 d tb ((t,.p i k) :: env) tr c x) :
  L5 P n w0 A0 e8 d tb ((t,.v (.pointer (some ⟨b,o,none⟩))) :: env) tr c x:=fun Q A cp s a w hE hW hr kk=>by
 refine h Q A cp s a w ?_ hW hr kk
 subst hb; subst ho
 refine ⟨hE.defers,hE.size,fun s' y hl=>?_⟩
 simp only [lk] at hl
 split at hl
 ·rename_i hb; exact hE.at_ s' y (by simp only [lk,hb]; exact hl)
 rename_i hb
 split at hl
 ·rename_i hb2
  simp only [Option.some.injEq] at hl
  subst hl
  have:=(hE.at_ s' (.v (.pointer (some ⟨(D0 tb i).blk,(D0 tb i).off + k,none⟩))) (by simp only [lk,hb,hb2])).1
  exact ⟨this,hi⟩
 rename_i hb2
 exact hE.at_ s' y (by simp only [lk,hb,hb2]; exact hl)
theorem EZ {f:FuncId} {fn:Func} {tr:Nat} {v:Value} {A:Option Addr} {cp:Nat} {s:Bs} {w:World} (hf:P.funcs[f]? = some fn) (hb:fn.body = some c) (hn:fn.ntmps = n) (hl:Nat.ble 2 n = true) (hr:fn.results = #[.tmp tr])
  (ho:w.ownsRow 0 e8 1 (.slice A s.length cp) s.length (bc s)) (hroom:s.length + x.length + 16 ≤ 1099511627776) (h:L5 P n w A e8 1 [] [(0,.v v)] tr c x):Calls P f [v,.slice A s.length cp].toArray w (K9 w e8 A (s ++ x)):=by
 refine enter hf hb hn hl fun a hE=>?_
 have hE':EnvOk n [] ((1,.v (.slice A s.length cp)) :: [(0,.v v)]) a:=hE.pick (ks:=[1,0]) rfl
 refine h _ A cp s a w hE' (WOk.startRow w ho) hroom fun tb' A' cp' a' w' hE2 hW2=>?_
 refine D5 hE2 hW2.cells (v:=.slice A' (s ++ x).length cp') ?_ (BS hW2 0 rfl)
 rw [hr]
 simp [T2,O8,R6,lk,SV.val]
end
theorem Step.setRow (w:World) (g:Nat) (cs:Array Value):Step w (w.setRow g cs) (fun b _=>b = g):=by
 refine ⟨rfl,rfl,by simp [World.setRow],fun b hb=>?_⟩
 by_cases h:b = g
 ·exact ⟨fun hm=>absurd h (hm 0),fun ⟨o,ho⟩=>absurd h ho⟩
 rw [setRow_other w g b cs h]; exact Keeps.refl _ _
theorem Kq {l vs:List Value} {o N:Nat} (h:o + vs.length ≤ N) (hN:N ≤ l.length):(l.take o ++ vs ++ l.drop (o + vs.length)).take N = K5 (l.take N) o vs:=by
 unfold K5
 rw [List.append_assoc,List.take_append,List.take_append,List.length_take,List.take_take,List.take_take]
 have e1:min o l.length = o:=by omega
 have e2:min N o = min o N:=Nat.min_comm _ _
 rw [e1,e2]
 have e3:(vs.take (N - o)) = vs:=List.take_of_length_le (by omega)
 rw [e3,List.drop_take]
 congr 3
 omega
theorem Kr {w:World} {e size n g c:Nat} {xs vs:List Value} {o:Nat} (ho:w.ownsRow 0 e size (.slice (some ⟨g,0,none⟩) n c) n xs) (hb:o + vs.length ≤ n * size) :
  ∃ cur:Array Value,w.heap[g]? = some (.cells cur e (0,0)) ∧ o + vs.length ≤ cur.size ∧ (w.setRow g (cur.toList.take o ++ vs ++ cur.toList.drop (o + vs.length)).toArray).ownsRow 0 e size (.slice (some ⟨g,0,none⟩) n c) n (K5 xs o vs):=by
 rcases ho.2 with ⟨hv,_⟩ | ⟨g',cap,cur,hv,_,hg,hnc,hmx,hcs,htake⟩
 ·cases hv
 simp only [Value.slice.injEq,Option.some.injEq,Addr.mk.injEq,true_and,and_true] at hv
 obtain ⟨rfl,rfl⟩:=hv
 have hle:n * size ≤ c * size:=Nat.mul_le_mul_right _ hnc
 have hx:o + vs.length ≤ xs.length:=by rw [ho.1]; exact hb
 refine ⟨cur,hg,by omega,by rw [EF hx]; exact ho.1,.inr ⟨g,c,_,rfl,Nat.zero_le _,setRow_heap w g cur _ e _ hg,hnc,hmx,?_,?_⟩⟩
 ·simp only [List.size_toArray,List.length_append,List.length_take,List.length_drop,Array.length_toList]
  omega
 rw [List.toList_toArray,Kq hb (by rw [Array.length_toList]; omega),htake]
section
variable {P:Program} {ops:Array Oper} {Q:Exit → Act → World → Prop} {n:Nat} {tb:Tb} {env:C8} {rs:List Rw} {w0:World} {M:Nat → Nat → Prop} {a:Act} {w:World}
def HA (P:Program) (tb:Tb) (env:C8) (ops:Array Oper) (i:Nat):Option (Addr × List Value) :=
 match BO ops i with
 | some (.store t ad x)=>match E8 env ad,E8 env x,P.info? t with
  | some (.v (.pointer (some p))),some s,some inf =>
   match Nat.beq (s.val tb).cells.toList.length inf.size,Z2 (s.val tb).cells.toList with
   | true,true=>some (p,(s.val tb).cells.toList)
   | _,_=>none
  | _,_,_=>none
 | _=>none
theorem X0 {i k g o c m size e:Nat} {A:Option Addr} {xs vs:List Value} {N:Act → World → Prop} (hW:WOk w0 M w tb rs) (hE:EnvOk n tb env a) (h:HA P tb env ops i = some (⟨g,0 + o,none⟩,vs))
  (hk:rs[k]? = some ⟨A,c,e,size,m,xs⟩) (hA:A = some ⟨g,0,none⟩) (hb:o + vs.length ≤ m * size)
  (K:∀ w',Fr w tb rs w' tb (rs.set k ⟨A,c,e,size,m,K5 xs o vs⟩) → WOk w0 M w' tb (rs.set k ⟨A,c,e,size,m,K5 xs o vs⟩) → EnvOk n tb env a → N a w'):wpOp P ops Q i N a w:=by
 subst hA
 unfold HA at h
 split at h
 ·rename_i t ad x ho
  split at h
  ·rename_i p s inf hs1 hs2 hi
   split at h
   ·rename_i hl h1
    simp only [Option.some.injEq,Prod.mk.injEq] at h
    obtain ⟨rfl,rfl⟩:=h
    have had:=(F4 hE hs1).1
    have hx:=(F4 hE hs2).1
    have hl':(s.val tb).cells.size = inf.size:=by have:=Nat.eq_of_beq_eq_true hl; simpa using this
    obtain ⟨cur,hg,hsz,hown⟩:=Kr (hW.own k _ hk) hb
    refine ED ho (w':=w.setRow g (cur.toList.take o ++ (s.val tb).cells.toList ++ cur.toList.drop (o + (s.val tb).cells.toList.length)).toArray) ?_ ?_
    ·intro op hop
     unfold execOp
     rw [hop]
     have hst:=run_storeCells_at P g (0 + o) e (s.val tb).cells.toList 0 cur w hg (by omega) (K6 h1)
     rw [Nat.add_zero,Nat.zero_add] at hst
     have hrun:(Instr.storeAt t (a.eval ad) (a.eval x)).run P w = .ok () (w.setRow g (cur.toList.take o ++ (s.val tb).cells.toList ++ cur.toList.drop (o + (s.val tb).cells.toList.length)).toArray):=by
      unfold Instr.storeAt
      rw [had,hx]
      generalize s.val tb = u at *
      simp only [SV.val,Instr.sureAddr,Sem.run_bind,Sem.run_pure,Result.andThen_ok]
      unfold storeVar
      rw [Nat.zero_add]
      simp only [Sem.run_bind,run_sizeOf' hi,Result.andThen_ok,hl',ne_eq,not_true_eq_false,if_false,Sem.run_pure,hst]
     simp only [Sem.run_bind,hrun,Result.andThen_ok,Sem.run_pure]
    have hst:Step w (w.setRow g (cur.toList.take o ++ (s.val tb).cells.toList ++ cur.toList.drop (o + (s.val tb).cells.toList.length)).toArray) (G1 (some ⟨g,0,none⟩)):=(Step.setRow w g _).mono fun b _ _ hb=>by rw [hb]; rfl
    exact K _ (Fr.grow tb (r':=⟨some ⟨g,0,none⟩,c,e,size,m,K5 xs o (s.val tb).cells.toList⟩) hk hst fun g' hg'=>.inl hg') (hW.grow (r':=⟨some ⟨g,0,none⟩,c,e,size,m,K5 xs o (s.val tb).cells.toList⟩) hk hst hown fun g' hg'=>.inl hg') hE
   cases h
  cases h
 cases h
def DL (env:C8) (ops:Array Oper) (n i:Nat):Option (TypeId × Int × Int × Nat) :=
 match F7 env ops n i with
 | some (.makeSlice t l c,d)=>match E8 env l,E8 env c with
  | some (.v (.int _ p)),some (.v (.int _ q))=>some (t,p,q,d)
  | _,_=>none
 | _=>none
theorem HB {i d:Nat} {t:TypeId} {p q:Int} (hE:EnvOk n tb env a) (h:DL env ops n i = some (t,p,q,d)) :
  ∃ op,F7 env ops n i = some (op,d) ∧ d < n ∧ ∃ kl kc,∀ (o:Oper) (v':Value) (w':World),o.op = op → (Instr.makeSlice t (.int kl p) (.int kc q)).run P w = .ok v' w' → (execOp a.eval o).run P w = .ok (.value v') w':=by
 unfold DL at h
 split at h
 ·rename_i t' l c d' ho
  split at h
  ·rename_i kl p' kc q' hs1 hs2
   simp only [Option.some.injEq,Prod.mk.injEq] at h
   obtain ⟨rfl,rfl,rfl,rfl⟩:=h
   refine ⟨_,ho,(K8 hE ho).choose_spec.2.2.2.1,kl,kc,fun o v' w' hop hr=>?_⟩
   have h1:=(F4 hE hs1).1
   have h2:=(F4 hE hs2).1
   unfold execOp
   rw [hop]
   simp only [h1,h2,SV.val,Sem.run_bind,hr,Result.andThen_ok,Sem.run_pure]
  cases h
 cases h
theorem CE {i d j:Nat} {t e:TypeId} {size bytes:Nat} {q p:Int} {N:Act → World → Prop} (hW:WOk w0 M w tb rs) (hE:EnvOk n tb env a) (h:DL env ops n i = some (t,p,q,d)) (ht:L4 P t = some (e,size,bytes))
  (hp:p = 0) (hq:q = (j:Int)) (hb:bytes * j ≤ 140737488355328)
  (K:∀ b a' w',b = w.heap.size → w0.heap.size ≤ b → Fr w tb rs w' tb (rs ++ [⟨some ⟨b,0,none⟩,j,e,size,0,[]⟩]) → WOk w0 M w' tb (rs ++ [⟨some ⟨b,0,none⟩,j,e,size,0,[]⟩]) →
   EnvOk n tb ((d,.v (.slice (some ⟨b,0,none⟩) 0 j)) :: env) a' → N a' w'):wpOp P ops Q i N a w:=by
 subst hp; subst hq
 obtain ⟨ht',inf,z',hi,hz',hzs,hs1,rfl,hsz,hbp⟩:=T3 ht
 obtain ⟨op,ho,hd,kl,kc,hrun⟩:=HB (P:=P) (w:=w) hE h
 have hjm:j ≤ maxLen:=by
  have:=Nat.le_mul_of_pos_left j hbp
  simp only [maxLen]; omega
 obtain ⟨w',hr,hown,hg⟩:=run_make_own (P:=P) w w.heap.size t e inf z' size ht' hi hz' hs1 kl kc j (by omega) hjm (Nat.le_refl _)
 have hst:Step w w' B5:=(EH hg (A:=none) rfl).mono fun b _ _ hb=>by cases hb
 refine N0 hE ho (fun o hop=>hrun o _ _ hop hr) ?_
 exact K w.heap.size _ _ rfl hW.step.size (Fr.fresh tb rs hst ⟨some ⟨w.heap.size,0,none⟩,j,e,size,0,[]⟩ (Nat.le_refl _) hown) (hW.fresh hst ⟨some ⟨w.heap.size,0,none⟩,j,e,size,0,[]⟩ (Nat.le_refl _) hown) (hE.put hd (.v _) trivial)
theorem N7 {base e size m c:Nat} {A:Option Addr} {xs:List Value} (ho:w.ownsRow base e size (.slice A m c) m xs):A = none → c = 0:=by
 obtain ⟨A',c',hv,h1,_⟩:=DC ho
 simp only [Value.slice.injEq,true_and] at hv
 obtain ⟨rfl,rfl⟩:=hv
 exact fun h=>(h1 h).2
theorem DM {e size m g c o:Nat} {A:Option Addr} {xs cs:List Value} (ho:w.ownsRow 0 e size (.slice A m c) m xs) (hA:A = some ⟨g,0,none⟩) (hc:∀ (j:Nat) (v:Value),cs[j]? = some v → xs[o + j]? = some v):At w g (0 + o) cs:=by
 intro j v hj
 subst hA
 have:=ho.cells (g:=g) rfl (o + j) v (hc j v hj)
 rw [Q2] at this
 rw [show 0 + o + j = 0 + (o + j) by omega]
 exact this
theorem Q9 {e size m c:Nat} {A:Option Addr} {xs:List Value} (ho:w.ownsRow 0 e size (.slice A m c) m xs) (hm:0 < m):∃ g,A = some ⟨g,0,none⟩:=by
 rcases ho.2 with ⟨_,hn⟩ | ⟨g,cap,cur,hv,_⟩
 ·omega
 simp only [Value.slice.injEq] at hv
 exact ⟨g,hv.1⟩
theorem Br {id:Nat} {y:Code} (hm:P.follows .mixedOrders = true) (hW:WOk w0 M w tb rs) (h:∀ w',Fr w tb rs w' tb rs → WOk w0 M w' tb rs → I5 P ops (Exit.then (y.wp P Q) Q) (fun x=>x = w') ops.size ops.size (Array.replicate ops.size false) a w'):(Code.seq (.region id ops true) y).wp P Q a w :=
 Hp (fun x=>x = w.drew) ops.size hm (h _ (Fr.drew w tb rs) hW.drew)
def CF (env:C8) (ops:Array Oper) (n i:Nat):Option (IntKind × Int × Int × Nat) :=
 match F7 env ops n i with
 | some (.binOp .rem _ x y _,d)=>match E8 env x,E8 env y with
  | some (.v (.int k p)),some (.v (.int k' q))=>match decide (k = k') with
   | true=>some (k,p,q,d)
   | false=>none
  | _,_=>none
 | _=>none
theorem Ks {i d:Nat} {N:Act → World → Prop} {k:IntKind} {p q:Int} (hE:EnvOk n tb env a) (h:CF env ops n i = some (k,p,q,d)) (hq:q ≠ 0)
  (K:∀ a',EnvOk n tb ((d,.v (.int k (p.tmod q))) :: env) a' → N a' w):wpOp P ops Q i N a w:=by
 unfold CF at h
 split at h
 ·rename_i t x y yt d' ho
  split at h
  ·rename_i k1 p1 k2 q1 hs1 hs2
   split at h
   ·rename_i hk
    have hk':=of_decide_eq_true hk
    subst hk'
    simp only [Option.some.injEq,Prod.mk.injEq] at h
    obtain ⟨rfl,rfl,rfl,rfl⟩:=h
    have hd:d' < n:=(K8 hE ho).choose_spec.2.2.2.1
    have e1:=(F4 hE hs1).1
    have e2:=(F4 hE hs2).1
    refine N0 hE ho (v:=.int k1 (p1.tmod q1)) (w':=w) (fun o' hop=>?_) (K _ (hE.put hd (.v _) trivial))
    have hgd:(eqGuard .rem t x y (Value.int k1 p1) (Value.int k1 q1)).run P w = .ok () w:=Z0 rfl P w
    unfold execOp
    rw [hop]
    simp only [e1,e2,SV.val,Sem.run_bind,hgd,Result.andThen_ok]
    simp [binOp,Op.intArith,Op.intDiv,hq]
   cases h
  cases h
 cases h
def Pl:Tb → Tb → Prop
 | [],_=>True
 | o :: r,o' :: r'=>o'.blk = o.blk ∧ o'.off = o.off ∧ Pl r r'
 | _ :: _,[]=>False
theorem Pl.at_:∀ {tb tb':Tb},Pl tb tb' → ∀ i,i < tb.length → i < tb'.length ∧ (D0 tb' i).blk = (D0 tb i).blk ∧ (D0 tb' i).off = (D0 tb i).off
 | [],_,_,i,hi=>by simp at hi
 | o :: r,[],h,_,_=>h.elim
 | o :: r,o' :: r',h,0,_=>⟨by simp,h.1,h.2.1⟩
 | o :: r,o' :: r',h,i + 1,hi=>by
  have:=Pl.at_ h.2.2 i (by simpa using hi)
  exact ⟨by simpa using this.1,this.2.1,this.2.2⟩
theorem EnvOk.places {tb':Tb} (h:EnvOk n tb env a) (hp:Pl tb tb'):EnvOk n tb' env a:=h.table hp.at_
theorem L6 {i d n':Nat} {f:FuncId} {fn:Func} {c:Code} {vs:List Value} {N:Act → World → Prop} (hE:EnvOk n tb env a) (h:O6 tb env ops n i = some (f,vs,d))
  (hf:∀ args w,(callFunc f args).run P w = .ok (.enter f args) w) (hfn:P.funcs[f]? = some fn) (hb:fn.body = some c) (hn:fn.ntmps = n') (hl:Nat.ble vs.length n' = true)
  (K:∀ a2,EnvOk n' tb (BQ 0 vs) a2 → c.wp P (bodyPost P fn (fun e w'=>∃ v,e = .returned v ∧ ∀ a',EnvOk n tb ((d,.v v) :: env) a' → N a' w')) a2 w):wpOp P ops Q i N a w :=
 C3 hE h hf (R:=fun e w'=>∃ v,e = .returned v ∧ ∀ a',EnvOk n tb ((d,.v v) :: env) a' → N a' w')
  (enter hfn hb hn hl fun a2 h2=>K a2 (h2.table fun i hi=>by simp at hi)) fun e w' h=>h
end
theorem Kt (x:Nat) (h:x < 128):x ||| 128 = x + 128:=by
 have:∀ y:Fin 128,y.val ||| 128 = y.val + 128:=by decide
 exact this ⟨x,h⟩
theorem Ku (x:Nat):x &&& 127 = x % 128:=Nat.and_two_pow_sub_one_eq_mod x 7
theorem HC (k m:Nat) (h:m < 2 ^ k):(BitVec.ofInt k (m:Int)).toNat = m:=by
 rw [BitVec.toNat_ofInt]
 have h0:((m:Int) % ((2 ^ k:Nat):Int)) = (m:Int):=Int.emod_eq_of_lt (by omega) (by exact_mod_cast h)
 rw [h0]; rfl
theorem HD (m:Nat):B7 (m:Int) = UInt8.ofNat m:=by
 unfold B7
 apply UInt8.toNat.inj
 simp only [UInt8.toNat_ofNat']
 omega
theorem HE {k:IntKind} {m:Nat} (hk:k.signed = false) (h:m < 2 ^ k.bits):k.wrap (m:Int) = (m:Int):=by
 simp only [IntKind.wrap,hk,Bool.false_eq_true,if_false,false_and]
 exact Int.emod_eq_of_lt (by omega) (by exact_mod_cast h)
theorem Kv (m:Nat) (h:m < 4294967296) :
  B7 (IntKind.u32.wrap (BitVec.ofInt 32 (IntKind.u32.wrap (BitVec.ofInt 32 ((m:Nat):Int) &&& BitVec.ofInt 32 127).toNat) ||| BitVec.ofInt 32 128).toNat) = UInt8.ofNat (m % 128 + 128):=by
 have h1:(BitVec.ofInt 32 ((m:Nat):Int) &&& BitVec.ofInt 32 127).toNat = m % 128:=by
  rw [BitVec.toNat_and,HC 32 m h,show (BitVec.ofInt 32 127).toNat = 127 by decide,Ku]
 have h2:m % 128 < 128:=Nat.mod_lt _ (by decide)
 rw [h1]
 have h3:(BitVec.ofInt 32 ((m % 128:Nat):Int) ||| BitVec.ofInt 32 128).toNat = m % 128 + 128:=by
  rw [BitVec.toNat_or,HC 32 _ (by omega),show (BitVec.ofInt 32 128).toNat = 128 by decide,Kt _ h2]
 rw [HE (k:=.u32) rfl (show m % 128 < 2 ^ IntKind.u32.bits by simp only [IntKind.bits]; omega),h3,HE rfl (by simp only [IntKind.bits]; omega),HD]
theorem S0 {n:Nat} (h:n < 128):uv n = [UInt8.ofNat n]:=by rw [uv,if_pos h]
theorem X3 {n:Nat} (h:128 ≤ n):uv n = UInt8.ofNat (n % 128 + 128) :: uv (n / 128):=by rw [uv,if_neg (by omega)]
theorem HF (n:Nat):∀ k,n < 128 ^ k → 0 < k → (uv n).length ≤ k:=by
 intro k
 induction k generalizing n with
 | zero=>intro _ h; omega
 | succ k ih =>
  intro h _
  by_cases hn:n < 128
  ·rw [S0 hn]; simp
  rw [X3 (by omega),List.length_cons]
  cases k with
  | zero=>simp at h; omega
  | succ k =>
   have:=ih (n / 128) (by rw [Nat.pow_succ] at h; omega) (by omega)
   omega
theorem HG (s:Bs):(Ht s).length = 16:=by
 simp only [Ht,List.length_append,List.length_take,List.length_replicate]; omega
theorem X4 (s:Bs):(J6 s).length ≤ 32767:=by simp only [J6,List.length_take]; omega
theorem Fa (l:List Tree):(E3 l).length ≤ 32767:=by simp only [E3,List.length_take]; omega
theorem Kw {α:Type} (l:List α) (g:α → Bs) (k:Nat):((l.take k).flatMap g).length ≤ (l.flatMap g).length:=by
 have h:(l.take k ++ l.drop k).flatMap g = l.flatMap g:=by rw [List.take_append_drop]
 rw [← h,List.flatMap_append,List.length_append]; omega
theorem Kx {α:Type} {l:List α} {g:α → Bs} {k:Nat} {x:α} (h:l[k]? = some x):(l.take (k + 1)).flatMap g = (l.take k).flatMap g ++ g x:=by
 rw [List.take_add_one,h,List.flatMap_append]; simp
theorem HH {l:List Fld} {k:Nat} {f:Fld} (h:l[k]? = some f):E4 (l.take (k + 1)) = (if f.tag ≥ 0 then (if u32 (u32 f.tag + 1) > E4 (l.take k) then u32 (u32 f.tag + 1) else E4 (l.take k)) else E4 (l.take k)):=by
 unfold E4
 rw [List.take_add_one,h,List.foldl_append]
 rfl
theorem Ky {l:List Fld} {k:Nat} {a b c d t e g:Int} {s:List Fld} (h:l[k]? = some (.mk a b c d t e g s)) (ht:t ≥ 0):(if IntKind.u32.wrap (IntKind.u32.wrap t + 1) > E4 (l.take k) then IntKind.u32.wrap (IntKind.u32.wrap t + 1) else E4 (l.take k)) = E4 (l.take (k + 1)):=by
 rw [HH h]
 have wu:∀ x,IntKind.u32.wrap x = u32 x:=E1
 rw [if_pos (show (Fld.mk a b c d t e g s).tag ≥ 0 from ht),wu,wu]
 rfl
theorem Kz {l:List Fld} {k:Nat} {a b c d t e g:Int} {s:List Fld} (h:l[k]? = some (.mk a b c d t e g s)) (ht:¬ t ≥ 0):E4 (l.take k) = E4 (l.take (k + 1)):=by
 rw [HH h]
 rw [if_neg (show ¬ (Fld.mk a b c d t e g s).tag ≥ 0 from ht)]
section
variable {P:Program} {n:Nat} {w0:World} {A0:Option Addr} {e8 d tr:Nat} {tb:Tb} {env e1 env':C8} {c c1 c2:Code} {x x1 x2 y:Bs}
theorem CG {o:Operand} {b:Bool} (hb:∀ A m cp,E8 ((d,.v (.slice A m cp)) :: env) o = some (.v (.bool b))) (h1:b = true → L5 P n w0 A0 e8 d tb env tr c1 x) (h2:b = false → L5 P n w0 A0 e8 d tb env tr c2 x) :
  L5 P n w0 A0 e8 d tb env tr (.cond o c1 c2) x:=fun Q A cp s a w hE hW hr k =>
 D8 hE (hb _ _ _) (fun hb'=>h1 hb' Q A cp s a w hE hW hr k) (fun hb'=>h2 hb' Q A cp s a w hE hW hr k)
theorem KA {id:Nat} (h:L5 P n w0 A0 e8 d tb env tr c x):L5 P n w0 A0 e8 d tb env tr (.block id c) x:=fun Q A cp s a w hE hW hr k =>
 wp_block (h _ A cp s a w hE hW hr fun tb' A' cp' a' w' hE' hW'=>N1 (k tb' A' cp' a' w' hE' hW'))
theorem KB (h:L5 P n w0 A0 e8 d tb env tr c1 x):L5 P n w0 A0 e8 d tb env tr (.seq c1 c2) x:=fun Q A cp s a w hE hW hr k =>
 wp_seq (h _ A cp s a w hE hW hr fun tb' A' cp' a' w' hE' hW'=>F5 (k tb' A' cp' a' w' hE' hW'))
theorem Fb {r1:Code} {o:Operand} {b:Bool} (h0:Ch P n w0 A0 e8 d tb env e1 r1 []) (hb:∀ A m cp,E8 ((d,.v (.slice A m cp)) :: e1) o = some (.v (.bool b))) (h1:b = true → L5 P n w0 A0 e8 d tb e1 tr c1 x) (h2:b = false → L5 P n w0 A0 e8 d tb e1 tr c2 x) :
  L5 P n w0 A0 e8 d tb env tr (.seq (.seq r1 (.cond o c1 .skip)) c2) x:=fun Q A cp s a w hE hW hr k =>
 wp_seq (wp_seq (h0 _ A cp s a w hE hW (by simp; omega) fun A1 cp1 a1 w1 hE1 hW1=>A7 (by
  rw [List.append_nil] at hE1 hW1
  exact D8 hE1 (hb _ _ _) (fun hb'=>h1 hb' _ A1 cp1 s a1 w1 hE1 hW1 hr fun tb' A' cp' a' w' hE' hW'=>F5 (k tb' A' cp' a' w' hE' hW'))
   (fun hb'=>wp_skip (A7 (h2 hb' Q A1 cp1 s a1 w1 hE1 hW1 hr k))))))
theorem KC {id:Nat} {ops:Array Oper} (i:Nat) (keys:List Nat) {f:FuncId} {vs:List Value} {r:Value}
  (h:∀ A m cp,BV P ops n tb i (d :: keys) ((d,.v (.slice A m cp)) :: env) r = some ((f,vs),(d,.v (.slice A m cp)) :: env'))
  (hi:Nat.blt i ops.size = true) (hf:∀ args w,(callFunc f args).run P w = .ok (.enter f args) w) (hc:∀ (w:World),Step w0 w (G1 A0) → Calls P f vs.toArray w (N5 w r)) :
  Ch P n w0 A0 e8 d tb env env' (.region id ops false) []:=fun Q A cp s a w hE hW hr k=>by
 have hi':i < ops.size:=by simpa [Nat.blt_eq] using hi
 obtain ⟨e,t,h1,h2,h3⟩:=Bq (h A s.length cp)
 refine D9 (List.range i ++ i :: upto (i + 1) ops.size) (by rw [← U6 hi']; rfl) ?_
 refine R2 hW.cells hE h1 fun a1 hE1=>B1 (C3 hE1 h2 hf (hc w hW.step) ?_)
 rintro e_ w' ⟨rfl,hs⟩
 refine ⟨_,rfl,fun a2 hE2=>?_⟩
 have hW':=hW.next_nil hs
 refine F0 (upto (i + 1) ops.size) [] (d :: keys) hW' hE2 h3 (List.append_nil _).symm fun a3 hE3=>B4 ?_
 exact k A cp a3 w' (by simpa using hE3) (by simpa using hW')
theorem Z4 {id:Nat} {ops:Array Oper} (i:Nat) {f:FuncId} {vs:List Value}
  (h:∀ A m cp A' m' cp',BV P ops n tb i [tr] ((d,.v (.slice A m cp)) :: env) (.slice A' m' cp') = some ((f,.slice A m cp :: vs),[(tr,.v (.slice A' m' cp'))]))
  (hi:Nat.blt i ops.size = true) (hf:∀ args w,(callFunc f args).run P w = .ok (.enter f args) w)
  (hc:∀ (A:Option Addr) (cp:Nat) (s:Bs) (w:World),Step w0 w (G1 A0) → N3 w0 A0 A → w.ownsRow 0 e8 1 (.slice A s.length cp) s.length (bc s) → s.length + x.length + 16 ≤ 1099511627776 → Calls P f (.slice A s.length cp :: vs).toArray w (K9 w e8 A (s ++ x))) :
  L5 P n w0 A0 e8 d tb env tr (.seq (.region id ops false) .ret) x:=fun Q A cp s a w hE hW hr k=>by
 have hi':i < ops.size:=by simpa [Nat.blt_eq] using hi
 obtain ⟨e,t,h1,h2,_⟩:=Bq (h A s.length cp none 0 0)
 refine B8 (List.range i ++ i :: upto (i + 1) ops.size) (by rw [← U6 hi']; rfl) ?_
 refine R2 hW.cells hE h1 fun a1 hE1=>B1 (C3 hE1 h2 hf (hc A cp s w hW.step (DJ hW) (hW.own 0 _ rfl) hr) ?_)
 rintro e_ w' ⟨A',c',rfl,ho,hs,hn⟩
 refine ⟨_,rfl,fun a2 hE2=>?_⟩
 obtain ⟨e',t',g1,g2,g3⟩:=Bq (h A s.length cp A' (s ++ x).length c')
 rw [h1] at g1
 obtain rfl:=Option.some.inj g1
 rw [h2] at g2
 simp only [Option.some.injEq,Prod.mk.injEq,true_and] at g2
 subst g2
 have hW':WOk w0 (G1 A0) w' tb [B6 A' c' e8 (s ++ x)]:=hW.grow (k:=0) rfl hs ho hn
 refine F0 (upto (i + 1) ops.size) [] [tr] hW' hE2 g3 (List.append_nil _).symm fun a3 hE3=>B4 (A7 (wp_ret ?_))
 exact k tb A' c' a3 w' hE3 hW'
def X5 (P:Program) (ops:Array Oper) (n:Nat) (tb:Tb) (i:Nat) (keys:List Nat) (env:C8) (r:Value):Option ((TypeId × TypeId × Value × Value) × C8) :=
 match G8 P ops n tb (List.range i) env with
 | some e=>match M4 tb e ops n i with
  | some (t,u,v,y,dd)=>match I3 P ops n tb (upto (i + 1) ops.size) keys ((dd,.v r) :: e) with
   | some e'=>some ((t,u,v,y),e')
   | none=>none
  | none=>none
 | none=>none
theorem DN {ops:Array Oper} {i:Nat} {keys:List Nat} {env:C8} {r:Value} {t u:TypeId} {v y:Value} {env':C8} (h:X5 P ops n tb i keys env r = some ((t,u,v,y),env')) :
  ∃ e dd,G8 P ops n tb (List.range i) env = some e ∧ M4 tb e ops n i = some (t,u,v,y,dd) ∧ I3 P ops n tb (upto (i + 1) ops.size) keys ((dd,.v r) :: e) = some env':=by
 unfold X5 at h
 split at h
 ·rename_i e he
  split at h
  ·rename_i t' u' v' y' dd ht
   split at h
   ·rename_i e' he'
    simp only [Option.some.injEq,Prod.mk.injEq] at h
    obtain ⟨⟨rfl,rfl,rfl,rfl⟩,rfl⟩:=h
    exact ⟨e,dd,he,ht,he'⟩
   cases h
  cases h
 cases h
theorem HI {id:Nat} {ops:Array Oper} {t u:TypeId} {s':ByteArray} (i:Nat) (h:∀ A m cp A' m' cp',X5 P ops n tb i [tr] ((d,.v (.slice A m cp)) :: env) (.slice A' m' cp') = some ((t,u,.slice A m cp,.string s'),[(tr,.v (.slice A' m' cp'))]))
  (hi:Nat.blt i ops.size = true) (ht:L4 P t = some (e8,1,1)) (hz:(P.info? e8).bind (·.zero) = some (.int .u8 0)) (hu:P.underlying u = some .string) :
  L5 P n w0 A0 e8 d tb env tr (.seq (.region id ops false) .ret) (sb s'):=fun Q A cp s a w hE hW hr k=>by
 have hi':i < ops.size:=by simpa [Nat.blt_eq] using hi
 rw [Bp] at hr
 obtain ⟨e,dd,h1,h2,_⟩:=DN (h A s.length cp none 0 0)
 refine B8 (List.range i ++ i :: upto (i + 1) ops.size) (by rw [← U6 hi']; rfl) ?_
 refine R2 hW.cells hE h1 fun a1 hE1=>B1 (JZ hW hE1 (k:=0) h2 ht hz hu rfl (by omega) fun A' c' a2 w' hF hW' hE2=>?_)
 obtain ⟨e',dd',g1,g2,g3⟩:=DN (h A s.length cp A' (s.length + s'.size) c')
 rw [h1] at g1
 obtain rfl:=Option.some.inj g1
 rw [h2] at g2
 simp only [Option.some.injEq,Prod.mk.injEq,true_and] at g2
 subst g2
 refine F0 (upto (i + 1) ops.size) [] [tr] hW' hE2 g3 (List.append_nil _).symm fun a3 hE3=>B4 (A7 (wp_ret ?_))
 have er:(⟨A',c',e8,1,s.length + s'.size,bc s ++ Lib.strCells s'⟩:Rw) = B6 A' c' e8 (s ++ sb s'):=BR rfl (by rw [Bp])
 refine k tb A' c' a3 w' ?_ ?_
 ·rw [List.length_append,Bp]; exact hE3
 rw [← er]; exact hW'
theorem HJ {id:Nat} {ops:Array Oper} {t:TypeId} {o:Bs} {Ao:Option Addr} {co:Nat} {F:Nat → Nat → Prop} (i:Nat) (h:∀ A m cp A' m' cp',X5 P ops n tb i [tr] ((d,.v (.slice A m cp)) :: env) (.slice A' m' cp') = some ((t,t,.slice A m cp,.slice Ao o.length co),[(tr,.v (.slice A' m' cp'))]))
  (hi:Nat.blt i ops.size = true) (ht:L4 P t = some (e8,1,1)) (ho:Octs w0 F Ao co o) (hF:∀ b o,F b o → ¬ G1 A0 b o) :
  L5 P n w0 A0 e8 d tb env tr (.seq (.region id ops false) .ret) o:=fun Q A cp s a w hE hW hr k=>by
 have hi':i < ops.size:=by simpa [Nat.blt_eq] using hi
 obtain ⟨e,dd,h1,h2,_⟩:=DN (h A s.length cp none 0 0)
 have ho':Octs w F Ao co o:=ho.move hW.step (fun b o hf _=>hF b o hf) E6
 refine B8 (List.range i ++ i :: upto (i + 1) ops.size) (by rw [← U6 hi']; rfl) ?_
 refine R2 hW.cells hE h1 fun a1 hE1=>B1 (I7 hW hE1 (k:=0) h2 ht rfl ho'.src ho'.cap (by omega) fun A' c' a2 w' hF hW' hE2=>?_)
 obtain ⟨e',dd',g1,g2,g3⟩:=DN (h A s.length cp A' (s.length + o.length) c')
 rw [h1] at g1
 obtain rfl:=Option.some.inj g1
 rw [h2] at g2
 simp only [Option.some.injEq,Prod.mk.injEq,true_and] at g2
 subst g2
 refine F0 (upto (i + 1) ops.size) [] [tr] hW' hE2 g3 (List.append_nil _).symm fun a3 hE3=>B4 (A7 (wp_ret ?_))
 have er:(⟨A',c',e8,1,s.length + o.length,bc s ++ bc o⟩:Rw) = B6 A' c' e8 (s ++ o):=BR rfl rfl
 refine k tb A' c' a3 w' ?_ ?_
 ·rw [List.length_append]; exact hE3
 rw [← er]; exact hW'
def Fc (P:Program) (ops:Array Oper) (n:Nat) (tb:Tb) (i:Nat) (keys:List Nat) (env:C8) (b:Nat) (r:Value):Option ((TypeId × Nat × List Value × TypeId × Value × Nat × Nat × Nat) × C8) :=
 match G8 P ops n tb (List.range i) env with
 | some e=>match R7 P tb e ops n i with
  | some (el,1,len,cs,d1)=>match M4 tb ((d1,.v (.slice (some ⟨b,0,none⟩) len len)) :: e) ops n (i + 1) with
   | some (t,u,v,.slice (some ⟨b',0,none⟩) l c,dd)=>match I3 P ops n tb (upto (i + 2) ops.size) keys ((dd,.v r) :: (d1,.v (.slice (some ⟨b,0,none⟩) len len)) :: e) with
    | some e'=>match Nat.beq t u,Nat.beq l len,Nat.beq c len with
     | true,true,true=>some ((el,len,cs,t,v,d1,dd,b'),e')
     | _,_,_=>none
    | none=>none
   | _=>none
  | _=>none
 | none=>none
theorem Fd {ops:Array Oper} {i:Nat} {keys:List Nat} {env:C8} {b:Nat} {r:Value} {el len:Nat} {cs:List Value} {t:TypeId} {v:Value} {d1 dd:Nat} {env':C8} (h:Fc P ops n tb i keys env b r = some ((el,len,cs,t,v,d1,dd,b),env')) :
  ∃ e,G8 P ops n tb (List.range i) env = some e ∧ R7 P tb e ops n i = some (el,1,len,cs,d1) ∧ M4 tb ((d1,.v (.slice (some ⟨b,0,none⟩) len len)) :: e) ops n (i + 1) = some (t,t,v,.slice (some ⟨b,0,none⟩) len len,dd) ∧
   I3 P ops n tb (upto (i + 2) ops.size) keys ((dd,.v r) :: (d1,.v (.slice (some ⟨b,0,none⟩) len len)) :: e) = some env':=by
 unfold Fc at h
 split at h
 ·rename_i e he
  split at h
  ·rename_i el' len' cs' d1' hl
   split at h
   ·rename_i t' u' v' b' l' c' dd' ha
    split at h
    ·rename_i e' he'
     split at h
     ·rename_i hd1 hd2 hd3
      have e1:=Nat.eq_of_beq_eq_true hd1
      have e2:=Nat.eq_of_beq_eq_true hd2
      have e3:=Nat.eq_of_beq_eq_true hd3
      subst e1; subst e2; subst e3
      simp only [Option.some.injEq,Prod.mk.injEq] at h
      obtain ⟨⟨rfl,rfl,rfl,rfl,rfl,rfl,rfl,rfl⟩,rfl⟩:=h
      exact ⟨e,he,hl,ha,he'⟩
     cases h
    cases h
   cases h
  cases h
 cases h
theorem HK:∀ x:Bs,Z2 (bc x) = true
 | []=>rfl
 | b :: r=>by
  show (match (Value.int .u8 b.toNat).oneCell' with | true=>Z2 (bc r) | false=>false) = true
  exact HK r
theorem CH {id:Nat} {ops:Array Oper} {t:TypeId} {len d1 dd:Nat} {cs:List Value} (i:Nat) (h:∀ A m cp b A' m' cp',Fc P ops n tb i [tr] ((d,.v (.slice A m cp)) :: env) b (.slice A' m' cp') = some ((e8,len,cs,t,.slice A m cp,d1,dd,b),[(tr,.v (.slice A' m' cp'))]))
  (hi:Nat.blt (i + 1) ops.size = true) (ht:L4 P t = some (e8,1,1)) (hx:cs = bc x) (hl:Nat.beq len cs.length = true) :
  L5 P n w0 A0 e8 d tb env tr (.seq (.region id ops false) .ret) x:=fun Q A cp s a w hE hW hr k=>by
 have hi':i + 1 < ops.size:=by simpa [Nat.blt_eq] using hi
 have hl':len = x.length:=by have:=Nat.eq_of_beq_eq_true hl; rw [this,hx,bc_length]
 subst hl'; subst hx
 obtain ⟨e,h1,h2,h3,_⟩:=Fd (h A s.length cp 0 none 0 0)
 have hspl:List.range ops.size = List.range i ++ i :: (i + 1) :: upto (i + 2) ops.size:=by
  have g1:=U6 (i:=i) (j:=ops.size) (by omega)
  have g2:=upto_split' (i:=i + 1) (k:=i + 1) (j:=ops.size) (Nat.le_refl _) hi'
  have g3:upto (i + 1) (i + 1) = []:=by unfold upto; simp
  rw [g3,List.nil_append] at g2
  rw [g2] at g1
  rw [← g1]; rfl
 refine B8 _ hspl ?_
 refine R2 hW.cells hE h1 fun a1 hE1=>W5 hW hE1 (k:=0) (d:=dd) h2 ht (fun b=>?_) rfl (HK x) (by omega) fun A' c' a2 w' hF hW' hE2'=>?_
 ·obtain ⟨e',g1,g2,g3,_⟩:=Fd (h A s.length cp b none 0 0)
  rw [h1] at g1
  obtain rfl:=Option.some.inj g1
  exact g3
 obtain ⟨b,hE2⟩:=hE2'
 obtain ⟨e',g1,g2,g3,g4⟩:=Fd (h A s.length cp b A' (s.length + x.length) c')
 rw [h1] at g1
 obtain rfl:=Option.some.inj g1
 refine F0 (upto (i + 2) ops.size) [] [tr] hW' hE2 g4 (List.append_nil _).symm fun a3 hE3=>B4 (A7 (wp_ret ?_))
 have er:(⟨A',c',e8,1,s.length + x.length,bc s ++ bc x⟩:Rw) = B6 A' c' e8 (s ++ x):=BR rfl rfl
 refine k tb A' c' a3 w' ?_ ?_
 ·rw [List.length_append]; exact hE3
 rw [← er]; exact hW'
end
theorem KD (x:Int):be 2 (IntKind.i16.wrap x) = be 2 x:=by
 have:IntKind.i16.wrap x = (x + 32768) % 65536 - 32768:=by simp [IntKind.wrap,IntKind.signed,IntKind.bits]; omega
 rw [this]
 simp only [be,List.cons.injEq,and_true]
 exact ⟨S8 (by simp only [Int.reducePow]; omega),S8 (by simp only [Int.reducePow]; omega)⟩
theorem be4_i32' (x:Int):be 4 (IntKind.i32.wrap x) = be 4 x:=by
 rw [IntKind.wrap_i32]
 simp only [be,List.cons.injEq,and_true]
 refine ⟨S8 ?_,S8 ?_,S8 ?_,S8 ?_⟩ <;> simp only [Int.reducePow] <;> omega
section
variable {P:Program} {n:Nat} {w0:World} {A0:Option Addr} {e8 d tr:Nat} {tb:Tb} {env e1 env':C8} {c c1 c2:Code} {x x1 x2 y:Bs}
theorem U7 {f:FuncId} {fn:Func} {vs:List Value} {A:Option Addr} {cp:Nat} {s:Bs} {w:World} (hf:P.funcs[f]? = some fn) (hb:fn.body = some c) (hn:fn.ntmps = n) (hl:Nat.ble (vs.length + 1) n = true) (hr:fn.results = #[.tmp tr])
  (ho:w.ownsRow 0 e8 1 (.slice A s.length cp) s.length (bc s)) (hroom:s.length + x.length + 16 ≤ 1099511627776) (h:L5 P n w A e8 0 [] (BQ 1 vs) tr c x):Calls P f (.slice A s.length cp :: vs).toArray w (K9 w e8 A (s ++ x)):=by
 refine enter hf hb hn hl fun a hE=>?_
 refine h _ A cp s a w hE (WOk.startRow w ho) hroom fun tb' A' cp' a' w' hE2 hW2=>?_
 refine D5 hE2 hW2.cells (v:=.slice A' (s ++ x).length cp') ?_ (BS hW2 0 rfl)
 rw [hr]
 simp [T2,O8,R6,lk,SV.val]
theorem HL (keys:List Nat) (h:∀ A m cp,pick ((d,.v (.slice A m cp)) :: env) (d :: keys) = some ((d,.v (.slice A m cp)) :: e1)) (hc:L5 P n w0 A0 e8 d tb e1 tr c x):L5 P n w0 A0 e8 d tb env tr c x:=fun Q A cp s a w hE hW hr k =>
 hc Q A cp s a w (hE.pick (h _ _ _)) hW hr k
variable {ops:Array Oper} {Q:Exit → Act → World → Prop} {a:Act} {w:World}
def HM (env:C8) (ops:Array Oper) (n i:Nat):Option (TypeId × ByteArray × Int × Nat) :=
 match F7 env ops n i with
 | some (.index t x y,dd)=>match E8 env x,E8 env y with
  | some (.v (.string s)),some (.v (.int _ q))=>some (t,s,q,dd)
  | _,_=>none
 | _=>none
theorem KE {i dd j:Nat} {N:Act → World → Prop} {t:TypeId} {s:ByteArray} {b:UInt8} (hE:EnvOk n tb env a) (h:HM env ops n i = some (t,s,((j:Nat):Int),dd)) (ht:P.underlying t = some .string) (hb:s[j]? = some b)
  (K:∀ a',EnvOk n tb ((dd,.v (.int .u8 b.toNat)) :: env) a' → N a' w):wpOp P ops Q i N a w:=by
 unfold HM at h
 split at h
 ·rename_i t' x y d' ho
  split at h
  ·rename_i s' k q hs1 hs2
   simp only [Option.some.injEq,Prod.mk.injEq] at h
   obtain ⟨rfl,rfl,rfl,rfl⟩:=h
   have hd:=(K8 hE ho).choose_spec.2.2.2.1
   refine N0 hE ho (v:=.int .u8 b.toNat) (w':=w) ?_ (K _ (hE.put hd (.v _) trivial))
   intro o hop
   unfold execOp
   rw [hop]
   simp only [(F4 hE hs1).1,(F4 hE hs2).1,SV.val]
   unfold Instr.index
   simp only [asIntOf,Sem.run_bind,Sem.run_pure,Result.andThen_ok,run_underlying ht]
   have h0:(0:Int) ≤ ((j:Nat):Int):=by omega
   simp only [if_pos h0,Int.toNat_natCast,hb,Sem.run_pure]
   rfl
  cases h
 cases h
end
theorem DO (x:Nat):0 < (uv x).length:=by
 by_cases h:x < 128
 ·rw [S0 h]; simp
 rw [X3 (by omega)]; simp
theorem Z5 {x:Nat} (hx:x < 4294967296):(uv x).length = if x < 128 then 1 else if x < 16384 then 2 else if x < 2097152 then 3 else if x < 268435456 then 4 else 5:=by
 by_cases h1:x < 128
 ·rw [if_pos h1,S0 h1]; rfl
 rw [if_neg h1,X3 (by omega),List.length_cons]
 by_cases h2:x < 16384
 ·rw [if_pos h2,S0 (by omega)]; rfl
 rw [if_neg h2,X3 (by omega),List.length_cons]
 by_cases h3:x < 2097152
 ·rw [if_pos h3,S0 (by omega)]; rfl
 rw [if_neg h3,X3 (by omega),List.length_cons]
 by_cases h4:x < 268435456
 ·rw [if_pos h4,S0 (by omega)]; rfl
 rw [if_neg h4,X3 (by omega),List.length_cons,S0 (by omega)]; rfl
def CI (m:Nat):Nat:=if m ≤ 7 then 1 else if m ≤ 14 then 2 else if m ≤ 21 then 3 else if m ≤ 28 then 4 else 5
theorem KF {k x:Nat} (h:2 ^ k ≤ x) (hx:x < 2 ^ 64):k + 1 ≤ Lib.bitLen x:=by
 rw [Lib.bitLen_shift k x h hx]
 have hq:0 < x / 2 ^ k:=Nat.div_pos h (Nat.two_pow_pos k)
 rw [Lib.bitLen_half (x / 2 ^ k) (by omega) (Nat.lt_of_le_of_lt (Nat.div_le_self _ _) hx)]
 omega
theorem KG {x:Nat} (hx:x < 4294967296):(uv x).length = CI (Lib.bitLen x):=by
 rw [Z5 hx]
 unfold CI
 have g:=fun k (h:2 ^ k ≤ x)=>KF (k:=k) h (by omega)
 have l:=fun k (hk:k ≤ 64) (h:x < 2 ^ k)=>Lib.bitLen_le x k hk h
 by_cases h1:x < 128
 ·rw [if_pos h1,if_pos (l 7 (by omega) (by omega))]
 have b1:¬ Lib.bitLen x ≤ 7:=by have:=g 7 (by omega); omega
 rw [if_neg h1,if_neg b1]
 by_cases h2:x < 16384
 ·rw [if_pos h2,if_pos (l 14 (by omega) (by omega))]
 have b2:¬ Lib.bitLen x ≤ 14:=by have:=g 14 (by omega); omega
 rw [if_neg h2,if_neg b2]
 by_cases h3:x < 2097152
 ·rw [if_pos h3,if_pos (l 21 (by omega) (by omega))]
 have b3:¬ Lib.bitLen x ≤ 21:=by have:=g 21 (by omega); omega
 rw [if_neg h3,if_neg b3]
 by_cases h4:x < 268435456
 ·rw [if_pos h4,if_pos (l 28 (by omega) (by omega))]
 have b4:¬ Lib.bitLen x ≤ 28:=by have:=g 28 (by omega); omega
 rw [if_neg h4,if_neg b4]
theorem KH (m:Nat):CI m ≤ 5:=by unfold CI; repeat (split <;> try omega)
theorem KI (m:Nat):IntKind.u8.wrap (IntKind.u32.wrap (BitVec.ofInt 32 (IntKind.u32.wrap (BitVec.ofInt 32 ((m:Nat):Int) &&& BitVec.ofInt 32 127).toNat) ||| BitVec.ofInt 32 128).toNat) = ((B7 (IntKind.u32.wrap (BitVec.ofInt 32 (IntKind.u32.wrap (BitVec.ofInt 32 ((m:Nat):Int) &&& BitVec.ofInt 32 127).toNat) ||| BitVec.ofInt 32 128).toNat)).toNat:Int):=N4 _
theorem KJ (m:Nat) (h:m < 4294967296):Value.int .u8 (IntKind.u8.wrap (IntKind.u32.wrap (BitVec.ofInt 32 (IntKind.u32.wrap (BitVec.ofInt 32 ((m:Nat):Int) &&& BitVec.ofInt 32 127).toNat) ||| BitVec.ofInt 32 128).toNat)) = .int .u8 ((UInt8.ofNat (m % 128 + 128)).toNat:Int):=by rw [KI,Kv m h]
theorem CJ (m:Nat):Value.int .u8 (IntKind.u8.wrap ((m:Nat):Int)) = .int .u8 ((UInt8.ofNat m).toNat:Int):=by rw [N4,HD]
theorem U8 (m k:Nat):Int.fdiv ((m:Nat):Int) ((k:Nat):Int) = ((m / k:Nat):Int):=by
 rw [Int.fdiv_eq_ediv_of_nonneg _ (by omega)]; rfl
theorem KK (b:UInt8) (r:Bs):bc (b :: r) = .int .u8 (b.toNat:Int) :: bc r:=rfl
theorem KL (x:Nat) (hx:x < 4294967296) (h:(uv x).length = 1):[Value.int .u8 (IntKind.u8.wrap ((x:Nat):Int))] = bc (uv x):=by
 rw [Z5 hx] at h
 by_cases h1:x < 128
 ·rw [S0 h1,CJ]; rfl
 rw [if_neg h1] at h; exfalso; repeat' (split at h)
 all_goals omega
abbrev gr (m:Nat):Int:=IntKind.u8.wrap (IntKind.u32.wrap (BitVec.ofInt 32 (IntKind.u32.wrap (BitVec.ofInt 32 ((m:Nat):Int) &&& BitVec.ofInt 32 127).toNat) ||| BitVec.ofInt 32 128).toNat)
theorem U9 {x:Nat} (hx:x < 4294967296) (hb:128 ≤ x) {r:List Value} (h:r = bc (uv (x / 128))):Value.int .u8 (gr x) :: r = bc (uv x):=by
 rw [X3 hb,KK,h]
 show Value.int .u8 (IntKind.u8.wrap _) :: _ = _
 rw [KJ x hx]
theorem Bt (x:Nat):x / 16384 = x / 128 / 128:=by omega
theorem CK (x:Nat):x / 2097152 = x / 128 / 128 / 128:=by omega
theorem Fe (x:Nat):x / 268435456 = x / 128 / 128 / 128 / 128:=by omega
theorem KM (x:Nat) (hx:x < 4294967296) (h:(uv x).length = 2):[Value.int .u8 (gr x),.int .u8 (IntKind.u8.wrap (Int.fdiv ((x:Nat):Int) 128))] = bc (uv x):=by
 rw [Z5 hx] at h
 have hb:128 ≤ x ∧ x < 16384:=by
  by_cases h1:x < 128
  ·rw [if_pos h1] at h; omega
  rw [if_neg h1] at h
  by_cases h2:x < 16384
  ·omega
  rw [if_neg h2] at h; exfalso; repeat' (split at h)
  all_goals omega
 refine U9 hx hb.1 ?_
 rw [show Int.fdiv ((x:Nat):Int) 128 = ((x / 128:Nat):Int) from U8 x 128,CJ,S0 (by omega)]; rfl
theorem KN (x:Nat) (hx:x < 4294967296) (h:(uv x).length = 3):[Value.int .u8 (gr x),.int .u8 (IntKind.u8.wrap (IntKind.u32.wrap (BitVec.ofInt 32 (IntKind.u32.wrap (BitVec.ofInt 32 (Int.fdiv ((x:Nat):Int) 128) &&& BitVec.ofInt 32 127).toNat) ||| BitVec.ofInt 32 128).toNat)),.int .u8 (IntKind.u8.wrap (Int.fdiv ((x:Nat):Int) 16384))] = bc (uv x):=by
 rw [Z5 hx] at h
 have hb:16384 ≤ x ∧ x < 2097152:=by
  by_cases h1:x < 128
  ·rw [if_pos h1] at h; omega
  rw [if_neg h1] at h
  by_cases h2:x < 16384
  ·rw [if_pos h2] at h; omega
  rw [if_neg h2] at h
  by_cases h3:x < 2097152
  ·omega
  rw [if_neg h3] at h; exfalso; repeat' (split at h)
  all_goals omega
 rw [show Int.fdiv ((x:Nat):Int) 128 = ((x / 128:Nat):Int) from U8 x 128,show Int.fdiv ((x:Nat):Int) 16384 = ((x / 16384:Nat):Int) from U8 x 16384,Bt]
 refine U9 hx (by omega) (U9 (by omega) (by omega) ?_)
 rw [CJ,S0 (by omega)]; rfl
theorem KO (x:Nat) (hx:x < 4294967296) (h:(uv x).length = 4):[Value.int .u8 (gr x),.int .u8 (IntKind.u8.wrap (IntKind.u32.wrap (BitVec.ofInt 32 (IntKind.u32.wrap (BitVec.ofInt 32 (Int.fdiv ((x:Nat):Int) 128) &&& BitVec.ofInt 32 127).toNat) ||| BitVec.ofInt 32 128).toNat)),
  .int .u8 (IntKind.u8.wrap (IntKind.u32.wrap (BitVec.ofInt 32 (IntKind.u32.wrap (BitVec.ofInt 32 (Int.fdiv ((x:Nat):Int) 16384) &&& BitVec.ofInt 32 127).toNat) ||| BitVec.ofInt 32 128).toNat)),.int .u8 (IntKind.u8.wrap (Int.fdiv ((x:Nat):Int) 2097152))] = bc (uv x):=by
 rw [Z5 hx] at h
 have hb:2097152 ≤ x ∧ x < 268435456:=by
  by_cases h1:x < 128
  ·rw [if_pos h1] at h; omega
  rw [if_neg h1] at h
  by_cases h2:x < 16384
  ·rw [if_pos h2] at h; omega
  rw [if_neg h2] at h
  by_cases h3:x < 2097152
  ·rw [if_pos h3] at h; omega
  rw [if_neg h3] at h
  by_cases h4:x < 268435456
  ·omega
  rw [if_neg h4] at h; omega
 rw [show Int.fdiv ((x:Nat):Int) 128 = ((x / 128:Nat):Int) from U8 x 128,show Int.fdiv ((x:Nat):Int) 16384 = ((x / 16384:Nat):Int) from U8 x 16384,show Int.fdiv ((x:Nat):Int) 2097152 = ((x / 2097152:Nat):Int) from U8 x 2097152,Bt,CK]
 refine U9 hx (by omega) (U9 (by omega) (by omega) (U9 (by omega) (by omega) ?_))
 rw [CJ,S0 (by omega)]; rfl
theorem KP (x:Nat) (hx:x < 4294967296) (h:(uv x).length = 5):[Value.int .u8 (gr x),.int .u8 (IntKind.u8.wrap (IntKind.u32.wrap (BitVec.ofInt 32 (IntKind.u32.wrap (BitVec.ofInt 32 (Int.fdiv ((x:Nat):Int) 128) &&& BitVec.ofInt 32 127).toNat) ||| BitVec.ofInt 32 128).toNat)),
  .int .u8 (IntKind.u8.wrap (IntKind.u32.wrap (BitVec.ofInt 32 (IntKind.u32.wrap (BitVec.ofInt 32 (Int.fdiv ((x:Nat):Int) 16384) &&& BitVec.ofInt 32 127).toNat) ||| BitVec.ofInt 32 128).toNat)),
  .int .u8 (IntKind.u8.wrap (IntKind.u32.wrap (BitVec.ofInt 32 (IntKind.u32.wrap (BitVec.ofInt 32 (Int.fdiv ((x:Nat):Int) 2097152) &&& BitVec.ofInt 32 127).toNat) ||| BitVec.ofInt 32 128).toNat)),.int .u8 (IntKind.u8.wrap (Int.fdiv ((x:Nat):Int) 268435456))] = bc (uv x):=by
 rw [Z5 hx] at h
 have hb:268435456 ≤ x:=by
  by_cases h1:x < 128
  ·rw [if_pos h1] at h; omega
  rw [if_neg h1] at h
  by_cases h2:x < 16384
  ·rw [if_pos h2] at h; omega
  rw [if_neg h2] at h
  by_cases h3:x < 2097152
  ·rw [if_pos h3] at h; omega
  rw [if_neg h3] at h
  by_cases h4:x < 268435456
  ·rw [if_pos h4] at h; omega
  omega
 rw [show Int.fdiv ((x:Nat):Int) 128 = ((x / 128:Nat):Int) from U8 x 128,show Int.fdiv ((x:Nat):Int) 16384 = ((x / 16384:Nat):Int) from U8 x 16384,show Int.fdiv ((x:Nat):Int) 2097152 = ((x / 2097152:Nat):Int) from U8 x 2097152,show Int.fdiv ((x:Nat):Int) 268435456 = ((x / 268435456:Nat):Int) from U8 x 268435456,Bt,CK,Fe]
 refine U9 hx (by omega) (U9 (by omega) (by omega) (U9 (by omega) (by omega) (U9 (by omega) (by omega) ?_)))
 rw [CJ,S0 (by omega)]; rfl
end Go.Proofs.YtipblegipibplaaGreatDoor.ME
namespace Go.Proofs.YtipblegipibplaaGreatDoor.ME
open Go
open Go.RowKit
open Go.ChangeMaps (setBlock)
set_option linter.unusedVariables false
set_option linter.unusedSimpArgs false
section
variable {P:Program} {ops:Array Oper} {Q:Exit → Act → World → Prop} {n:Nat} {tb:Tb} {env:C8} {rs:List Rw} {w0:World} {M:Nat → Nat → Prop} {a:Act} {w:World} {F:Nat → Nat → Prop}
def Bu (P:Program) (t:TypeId):Option (TypeId × TypeId):=match P.underlying t with
 | some (.map k e)=>some (k,e)
 | _=>none
theorem BW {t k e:TypeId} (h:Bu P t = some (k,e)):P.underlying t = some (.map k e):=by
 unfold Bu at h
 split at h
 ·simp only [Option.some.injEq,Prod.mk.injEq] at h
  obtain ⟨rfl,rfl⟩:=h
  assumption
 cases h
theorem run_getObj' {r:Nat} {es:Array MapEntry} {clk:Nat} (h:w.heap[r]? = some (.map es clk)):(getObj r).run P w = .ok (.map es clk) w:=MapKept.run_getObj_map h
def HN (env:C8) (ops:Array Oper) (n i:Nat):Option (TypeId × Option Nat × Nat) :=
 match F7 env ops n i with
 | some (.call c,d)=>match c.callee,c.args.toList,c.argTypes.toList with
  | .builtin .len,[x],[t]=>match E8 env x with
   | some (.v (.map m))=>some (t,m,d)
   | _=>none
  | _,_,_=>none
 | _=>none
theorem CL {i d:Nat} {t kt et:TypeId} {m:Option Nat} {u:List (Int × Bs)} {N:Act → World → Prop} (hE:EnvOk n tb env a) (h:HN env ops n i = some (t,m,d)) (ht:Bu P t = some (kt,et)) (hm:MapR w F m u)
  (K:∀ a',EnvOk n tb ((d,.v (.int .i64 ((u.length:Nat):Int))) :: env) a' → N a' w):wpOp P ops Q i N a w:=by
 unfold HN at h
 split at h
 ·rename_i c d' ho
  split at h
  ·rename_i x t' hcal hargs hats
   split at h
   ·rename_i m' hs
    simp only [Option.some.injEq,Prod.mk.injEq] at h
    obtain ⟨rfl,rfl,rfl⟩:=h
    have hd:=(K8 hE ho).choose_spec.2.2.2.1
    refine N0 hE ho (v:=.int .i64 ((u.length:Nat):Int)) (w':=w) ?_ (K _ (hE.put hd (.v _) trivial))
    intro o hop
    have hx:=(F4 hE hs).1
    have ha:=Dx hargs
    have hat:=Dx hats
    unfold execOp
    rw [hop]
    cases m' with
    | none =>
     obtain rfl:=hm.none_ rfl
     simp [resolve,hcal,ha,hat,invoke,builtin,Builtin.len_,hx,SV.val,run_underlying (BW ht),goInt]
    | some r =>
     obtain ⟨_,es,clk,h2,h3,_⟩:=hm.some_ r rfl
     simp [resolve,hcal,ha,hat,invoke,builtin,Builtin.len_,hx,SV.val,run_underlying (BW ht),goInt,run_getObj' h2,MapR.size (w:=w) (F:=F) h3]
   cases h
  cases h
 cases h
theorem Ff {k:Int}:∀ (es:List MapEntry) (i:Nat),(∀ e ∈ es,∃ q,e.key = .int .u32 q) →
  (Instr.findNow (.int .u32) (.int .u32 k) es i = some none ∧ ∀ e ∈ es,e.key ≠ .int .u32 k) ∨ ∃ j e,es[j]? = some e ∧ e.key = .int .u32 k ∧ Instr.findNow (.int .u32) (.int .u32 k) es i = some (some (i + j,e.val)) ∧ ∀ j' e',j' < j → es[j']? = some e' → e'.key ≠ .int .u32 k
 | [],i,_=>.inl ⟨rfl,fun e h=>by cases h⟩
 | e :: r,i,h=>by
  obtain ⟨q,hq⟩:=h e (List.mem_cons_self ..)
  unfold Instr.findNow
  rw [hq]
  by_cases hk:k = q
  ·subst hk
   refine .inr ⟨0,e,rfl,hq,?_,fun j' e' hj=>by omega⟩
   simp [Instr.sameNow]
  have hs:Instr.sameNow (.int .u32) (.int .u32 k) (.int .u32 q) = some false:=by simp [Instr.sameNow,hk]
  rw [hs]
  dsimp only
  rcases Ff r (i + 1) (fun e' he'=>h e' (List.mem_cons_of_mem _ he')) with ⟨h1,h2⟩ | ⟨j,e1,h1,h2,h3,h4⟩
  ·refine .inl ⟨h1,fun e' he'=>?_⟩
   rcases List.mem_cons.1 he' with rfl | he'
   ·rw [hq]; intro e2; exact hk (by injection e2 with _ e3; exact e3.symm)
   exact h2 e' he'
  refine .inr ⟨j + 1,e1,by simpa using h1,h2,by rw [h3]; congr 3; omega,fun j' e' hj he'=>?_⟩
  cases j' with
  | zero =>
   simp only [List.getElem?_cons_zero,Option.some.injEq] at he'
   subst he'
   rw [hq]; intro e2; exact hk (by injection e2 with _ e3; exact e3.symm)
  | succ j'=>exact h4 j' e' (by omega) (by simpa using he')
theorem Fg {b:Bool} {kt:TypeId} {k:Int} (hk:P.underlying kt = some (.int .u32)):(Instr.checkKey b 10000 kt (.int .u32 k)).run P w = .ok () w:=by
 show (Instr.checkKey b (9999 + 1) kt (.int .u32 k)).run P w = .ok () w
 generalize 9999 = d
 unfold Instr.checkKey
 simp [run_underlying hk]
theorem Fh {kt:TypeId} {k:Int} {es:List MapEntry} {x:Option (Nat × Value)} (hk:P.underlying kt = some (.int .u32)) (h:Instr.findNow (.int .u32) (.int .u32 k) es 0 = some x):(Instr.findKey kt (.int .u32 k) es).run P w = .ok x w:=by
 unfold Instr.findKey
 simp [run_underlying hk,h]
def HO (env:C8) (ops:Array Oper) (n i:Nat):Option (TypeId × Option Nat × Int × Nat) :=
 match F7 env ops n i with
 | some (.lookup t x y false,d)=>match E8 env x,E8 env y with
  | some (.v (.map m)),some (.v (.int .u32 k))=>some (t,m,k,d)
  | _,_=>none
 | _=>none
theorem HP {i d:Nat} {t kt et:TypeId} {m:Option Nat} {u:List (Int × Bs)} {k:Int} {s:Bs} {N:Act → World → Prop} (hE:EnvOk n tb env a) (h:HO env ops n i = some (t,m,k,d)) (ht:Bu P t = some (kt,et)) (hkt:P.underlying kt = some (.int .u32)) (hm:MapR w F m u) (hk:(k,s) ∈ u)
  (K:∀ a' A c,Octs w F A c s → EnvOk n tb ((d,.v (.slice A s.length c)) :: env) a' → N a' w):wpOp P ops Q i N a w:=by
 unfold HO at h
 split at h
 ·rename_i t' x y d' ho
  split at h
  ·rename_i m' k' hs1 hs2
   simp only [Option.some.injEq,Prod.mk.injEq] at h
   obtain ⟨rfl,rfl,rfl,rfl⟩:=h
   have hd:=(K8 hE ho).choose_spec.2.2.2.1
   cases m' with
   | none=>rw [hm.none_ rfl] at hk; cases hk
   | some r =>
    obtain ⟨_,es,clk,h2,h3,h6,h7,h5⟩:=hm.some_ r rfl
    have hkeys:∀ e ∈ es.toList,∃ q,e.key = .int .u32 q:=fun e he=>by
     obtain ⟨q,_,_,_,h,_⟩:=h5 e he; exact ⟨q,h⟩
    have hthere:∃ e ∈ es.toList,e.key = .int .u32 k':=by
     have:Value.int .u32 k' ∈ es.toList.map (·.key):=h3.mem_iff.2 (List.mem_map.2 ⟨_,hk,rfl⟩)
     exact List.mem_map.1 this
    obtain ⟨e0,he0,hke0⟩:=hthere
    rcases Ff (k:=k') es.toList 0 hkeys with ⟨_,hn⟩ | ⟨j,e,g1,g2,g3,_⟩
    ·exact absurd hke0 (hn e0 he0)
    obtain ⟨q,s',A,c,f1,f2,f3,f4⟩:=h5 e (List.mem_of_getElem? g1)
    have hq:q = k':=by rw [g2] at f1; injection f1 with _ e3; exact e3.symm
    subst hq
    have hs:s' = s:=by
     have hp:=hm.sorted
     obtain ⟨i1,hi1⟩:=List.getElem?_of_mem f4
     obtain ⟨i2,hi2⟩:=List.getElem?_of_mem hk
     rcases Nat.lt_trichotomy i1 i2 with hlt | rfl | hlt
     ·have h1:=List.getElem?_eq_some_iff.1 hi1
      have h2':=List.getElem?_eq_some_iff.1 hi2
      have:=List.pairwise_iff_getElem.1 hp i1 i2 h1.1 h2'.1 hlt
      rw [h1.2,h2'.2] at this; exact absurd this (Int.lt_irrefl _)
     ·rw [hi1] at hi2; injection Option.some.inj hi2
     have h1:=List.getElem?_eq_some_iff.1 hi1
     have h2':=List.getElem?_eq_some_iff.1 hi2
     have:=List.pairwise_iff_getElem.1 hp i2 i1 h2'.1 h1.1 hlt
     rw [h1.2,h2'.2] at this; exact absurd this (Int.lt_irrefl _)
    subst hs
    refine N0 hE ho (v:=.slice A s'.length c) (w':=w) ?_ (K _ A c f3 (hE.put hd (.v _) trivial))
    intro o hop
    unfold execOp
    rw [hop]
    simp only [(F4 hE hs1).1,(F4 hE hs2).1,SV.val]
    unfold Instr.lookup
    simp [run_underlying (BW ht),run_getObj' h2,Fg hkt,Fh hkt g3,f2]
  cases h
 cases h
end
def J7:List (Int × Bs) → Int → Bs → List (Int × Bs)
 | [],k,s=>[(k,s)]
 | x :: r,k,s=>if k < x.1 then (k,s) :: x :: r else if k = x.1 then (k,s) :: r else x :: J7 r k s
theorem S1 {k:Int} {s:Bs}:∀ {u:List (Int × Bs)},(u.Pairwise fun x y=>x.1 < y.1) → ∀ x,x ∈ J7 u k s ↔ x = (k,s) ∨ (x ∈ u ∧ x.1 ≠ k)
 | [],_,x=>by simp [J7]
 | y :: r,h,x=>by
  have h1:=@List.rel_of_pairwise_cons _ _ _ _ h
  have ih:=S1 (k:=k) (s:=s) (List.Pairwise.of_cons h) x
  unfold J7
  split
  ·rename_i hlt
   simp only [List.mem_cons]
   constructor
   ·rintro (rfl | rfl | hx)
    ·exact .inl rfl
    ·exact .inr ⟨.inl rfl,by omega⟩
    exact .inr ⟨.inr hx,by have:=h1 hx; omega⟩
   rintro (rfl | ⟨rfl | hx,_⟩)
   ·exact .inl rfl
   ·exact .inr (.inl rfl)
   exact .inr (.inr hx)
  split
  ·rename_i hge heq
   simp only [List.mem_cons]
   constructor
   ·rintro (rfl | hx)
    ·exact .inl rfl
    exact .inr ⟨.inr hx,by have:=h1 hx; omega⟩
   rintro (rfl | ⟨rfl | hx,hne⟩)
   ·exact .inl rfl
   ·exact absurd heq.symm hne
   exact .inr hx
  rename_i hge hne
  simp only [List.mem_cons,ih]
  constructor
  ·rintro (rfl | rfl | ⟨hx,hk⟩)
   ·exact .inr ⟨.inl rfl,fun e=>hne e.symm⟩
   ·exact .inl rfl
   exact .inr ⟨.inr hx,hk⟩
  rintro (rfl | ⟨rfl | hx,hk⟩)
  ·exact .inr (.inl rfl)
  ·exact .inl rfl
  exact .inr (.inr ⟨hx,hk⟩)
theorem HQ {k:Int} {s:Bs}:∀ {u:List (Int × Bs)},(u.Pairwise fun x y=>x.1 < y.1) → (J7 u k s).Pairwise fun x y=>x.1 < y.1
 | [],_=>by simp [J7]
 | y :: r,h=>by
  have h1:=@List.rel_of_pairwise_cons _ _ _ _ h
  have ih:=HQ (k:=k) (s:=s) (List.Pairwise.of_cons h)
  unfold J7
  split
  ·rename_i hlt
   refine List.pairwise_cons.2 ⟨fun z hz=>?_,h⟩
   rcases List.mem_cons.1 hz with rfl | hz
   ·exact hlt
   have:=h1 hz; show k < z.1; omega
  split
  ·rename_i hge heq
   refine List.pairwise_cons.2 ⟨fun z hz=>?_,List.Pairwise.of_cons h⟩
   have:=h1 hz; show k < z.1; omega
  rename_i hge hne
  refine List.pairwise_cons.2 ⟨fun z hz=>?_,ih⟩
  rcases (S1 (List.Pairwise.of_cons h) z).1 hz with rfl | ⟨hz,_⟩
  ·show y.1 < k; omega
  exact h1 hz
theorem HR {k:Int} {s:Bs}:∀ {u:List (Int × Bs)},(∀ x ∈ u,x.1 < k) → J7 u k s = u ++ [(k,s)]
 | [],_=>rfl
 | y :: r,h=>by
  have h1:=h y (List.mem_cons_self ..)
  unfold J7
  rw [if_neg (by omega),if_neg (by omega),HR fun x hx=>h x (List.mem_cons_of_mem _ hx)]
  rfl
structure MapC (w:World) (G:Nat → Nat → Prop) (es:Array MapEntry) (clk:Nat) (u:List (Int × Bs)):Prop where
 sorted:u.Pairwise fun x y=>x.1 < y.1
 range:∀ x ∈ u,0 ≤ x.1 ∧ x.1 < 4294967296
 keys:(es.toList.map (·.key)).Perm (u.map fun x=>Value.int .u32 x.1)
 born:∀ e ∈ es.toList,e.born < clk
 once:(es.toList.map (·.born)).Nodup
 each:∀ e ∈ es.toList,∃ k s A c,e.key = .int .u32 k ∧ e.val = .slice A (s:Bs).length c ∧ Octs w G A c s ∧ (k,s) ∈ u
theorem MapC.move {w w':World} {F F' M:Nat → Nat → Prop} {es:Array MapEntry} {clk:Nat} {u:List (Int × Bs)} (h:MapC w F es clk u) (hs:Step w w' M) (hM:∀ b o,F b o → b < w.heap.size → ¬ M b o) (hF:∀ b o,F b o → b < w.heap.size → F' b o):MapC w' F' es clk u :=
 ⟨h.sorted,h.range,h.keys,h.born,h.once,fun e he=>by
  obtain ⟨k,s,A,c,g1,g2,g3,g4⟩:=h.each e he
  exact ⟨k,s,A,c,g1,g2,g3.move hs hM hF,g4⟩⟩
structure OwnM (w:World) (G:Nat → Nat → Prop) (m:Option Nat) (u:List (Int × Bs)):Prop where
 none_:m = none → u = []
 some_:∀ r,m = some r → ∃ es clk,w.heap[r]? = some (.map es clk) ∧ MapC w G es clk u
theorem OwnM.nil (w:World) (G:Nat → Nat → Prop):OwnM w G none []:=⟨fun _=>rfl,fun _ h=>by cases h⟩
theorem OwnM.move {w w':World} {F F' M:Nat → Nat → Prop} {m:Option Nat} {u:List (Int × Bs)} (h:OwnM w F m u) (hs:Step w w' M) (hM:∀ b o,F b o → b < w.heap.size → ¬ M b o) (hF:∀ b o,F b o → b < w.heap.size → F' b o) (hr:∀ r o,m = some r → ¬ M r o):OwnM w' F' m u :=
 ⟨h.none_,fun r e=>by
  obtain ⟨es,clk,h1,h2⟩:=h.some_ r e
  exact ⟨es,clk,hs.heap (fun o=>hr r o e) h1,h2.move hs hM hF⟩⟩
theorem OwnM.map {w:World} {G F:Nat → Nat → Prop} {m:Option Nat} {u:List (Int × Bs)} (h:OwnM w G m u) (hG:∀ b o,G b o → F b o) (hr:∀ r o,m = some r → F r o) (hsorted:u.Pairwise fun x y=>x.1 < y.1) (hrange:∀ x ∈ u,0 ≤ x.1 ∧ x.1 < 4294967296):MapR w F m u:=by
 refine ⟨hsorted,hrange,h.none_,fun r e=>⟨fun o=>hr r o e,?_⟩⟩
 obtain ⟨es,clk,h1,h2⟩:=h.some_ r e
 have h2':=h2.move (Step.refl w B5) B0 (fun b o hg _=>hG b o hg)
 exact ⟨es,clk,h1,h2'.keys,h2'.born,h2'.once,h2'.each⟩
theorem DP {u:List (Int × Bs)} (h:u.Pairwise fun x y=>x.1 < y.1):(u.map fun x=>Value.int .u32 x.1).Nodup:=by
 rw [List.nodup_iff_pairwise_ne,List.pairwise_map]
 exact h.imp fun h e=>by injection e with _ e; omega
theorem Step.setBlock (w:World) (r:Nat) (o:Obj):Step w (setBlock w r o) (fun b _=>b = r):=by
 refine ⟨rfl,rfl,by simp [ChangeMaps.setBlock],fun b hb=>?_⟩
 by_cases h:b = r
 ·exact ⟨fun hm=>absurd h (hm 0),fun ⟨o,ho⟩=>absurd h ho⟩
 have:(ChangeMaps.setBlock w r o).heap[b]? = w.heap[b]?:=by
  simp only [ChangeMaps.setBlock,Array.getElem?_setIfInBounds]
  rw [if_neg fun e=>h e.symm]
 rw [this]; exact Keeps.refl _ _
theorem Fi {w:World} {r:Nat} {o o':Obj} (h:w.heap[r]? = some o'):(setBlock w r o).heap[r]? = some o:=by
 have hlt:r < w.heap.size:=(Array.getElem?_eq_some_iff.1 h).1
 simp only [ChangeMaps.setBlock,Array.getElem?_setIfInBounds,if_true,if_pos hlt]
section
variable {P:Program} {w:World} {G:Nat → Nat → Prop}
theorem run_setObj' {r:Nat} {es:Array MapEntry} {clk:Nat} (hr:w.heap[r]? = some (.map es clk)) (es':Array MapEntry) (clk':Nat):(setObj r (.map es' clk')).run P w = .ok () (setBlock w r (.map es' clk')):=by
 simp [setObj,Sem.run,hr,setBlock]
theorem run_mapUpdate' {t kt et:TypeId} {r:Nat} {es:Array MapEntry} {clk:Nat} {u:List (Int × Bs)} {k:Int} {A:Option Addr} {c:Nat} {s:Bs} (ht:Bu P t = some (kt,et)) (hkt:P.underlying kt = some (.int .u32)) (hr:w.heap[r]? = some (.map es clk)) (hm:MapC w G es clk u)
  (hs:Octs w G A c s) (hk:0 ≤ k ∧ k < 4294967296) (hG:∀ b o,G b o → b ≠ r):∃ es' clk',(Instr.mapUpdate t (.map (some r)) (.int .u32 k) (.slice A s.length c)).run P w = .ok () (setBlock w r (.map es' clk')) ∧ MapC (setBlock w r (.map es' clk')) G es' clk' (J7 u k s):=by
 have hkeys:∀ e ∈ es.toList,∃ q,e.key = .int .u32 q:=fun e he=>by
  obtain ⟨q,_,_,_,h,_⟩:=hm.each e he; exact ⟨q,h⟩
 have hstep:=fun es' clk'=>Step.setBlock w r (.map es' clk')
 have hmove:∀ es' clk' {A c} {s:Bs},Octs w G A c s → Octs (setBlock w r (.map es' clk')) G A c s:=fun es' clk' {A c s} h=>h.move (hstep es' clk') (fun b o hg _=>hG b o hg) E6
 have hsT:=HQ (k:=k) (s:=s) hm.sorted
 have hrT:∀ x ∈ J7 u k s,0 ≤ x.1 ∧ x.1 < 4294967296:=fun x hx=>by
  rcases (S1 hm.sorted x).1 hx with rfl | ⟨hx,_⟩
  ·exact hk
  exact hm.range x hx
 rcases Ff (k:=k) es.toList 0 hkeys with ⟨h1,h2⟩ | ⟨j,e,h1,h2,h3,h4⟩
 ·-- a new key
  refine ⟨es.push { key:=.int .u32 k,val:=.slice A s.length c,born:=clk },clk + 1,?_,?_⟩
  ·unfold Instr.mapUpdate
   simp only [Sem.run_bind,run_underlying (BW ht),Result.andThen_ok,run_getObj' hr,Fg hkt,Fh hkt h1,run_setObj' hr]
  have hnew:∀ x ∈ u,x.1 ≠ k:=fun x hx e=>by
   have:Value.int .u32 k ∈ es.toList.map (·.key):=hm.keys.mem_iff.2 (List.mem_map.2 ⟨x,hx,by rw [e]⟩)
   obtain ⟨e',he',hk'⟩:=List.mem_map.1 this
   exact h2 e' he' hk'
  refine ⟨hsT,hrT,?_,fun e he=>?_,?_,fun e he=>?_⟩
  ·have hn1:((es.push { key:=.int .u32 k,val:=.slice A s.length c,born:=clk }).toList.map (·.key)).Nodup:=by
    rw [Array.toList_push,List.map_append,List.nodup_append]
    refine ⟨hm.keys.nodup_iff.2 (DP hm.sorted),by simp,fun a ha b hb=>?_⟩
    simp only [List.map_cons,List.map_nil,List.mem_singleton] at hb
    subst hb
    obtain ⟨e',he',rfl⟩:=List.mem_map.1 ha
    exact h2 e' he'
   refine (List.perm_ext_iff_of_nodup hn1 (DP hsT)).2 fun v=>?_
   rw [Array.toList_push,List.map_append,List.mem_append,hm.keys.mem_iff]
   simp only [List.map_cons,List.map_nil,List.mem_singleton,List.mem_map]
   constructor
   ·rintro (⟨x,hx,rfl⟩ | rfl)
    ·exact ⟨x,(S1 hm.sorted x).2 (.inr ⟨hx,hnew x hx⟩),rfl⟩
    exact ⟨(k,s),(S1 hm.sorted _).2 (.inl rfl),rfl⟩
   rintro ⟨x,hx,rfl⟩
   rcases (S1 hm.sorted x).1 hx with rfl | ⟨hx,_⟩
   ·exact .inr rfl
   exact .inl ⟨x,hx,rfl⟩
  ·rw [Array.toList_push,List.mem_append] at he
   rcases he with he | he
   ·have:=hm.born e he; omega
   rw [List.mem_singleton.1 he]; exact Nat.lt_succ_self _
  ·rw [Array.toList_push,List.map_append,List.nodup_append]
   refine ⟨hm.once,by simp,fun a ha b hb=>?_⟩
   simp only [List.map_cons,List.map_nil,List.mem_singleton] at hb
   subst hb
   obtain ⟨e',he',rfl⟩:=List.mem_map.1 ha
   have:=hm.born e' he'
   omega
  rw [Array.toList_push,List.mem_append] at he
  rcases he with he | he
  ·obtain ⟨q,s',A',c',g1,g2,g3,g4⟩:=hm.each e he
   exact ⟨q,s',A',c',g1,g2,hmove _ _ g3,(S1 hm.sorted _).2 (.inr ⟨g4,hnew _ g4⟩)⟩
  rw [List.mem_singleton.1 he]
  exact ⟨k,s,A,c,rfl,rfl,hmove _ _ hs,(S1 hm.sorted _).2 (.inl rfl)⟩
 -- a key that is there
 have hj:j < es.size:=by have:=(List.getElem?_eq_some_iff.1 h1).1; simpa using this
 have hej:es[j]? = some e:=by simpa using h1
 have hmap:∀ {β:Type} (g:MapEntry → β),(∀ v,g { e with key:=.int .u32 k,val:=v } = g e) → (es.modify j fun e=>{ e with key:=.int .u32 k,val:=.slice A s.length c }).toList.map g = es.toList.map g:=fun {β} g hg=>by
  apply List.ext_getElem?
  intro i
  rw [List.getElem?_map,List.getElem?_map]
  simp only [Array.getElem?_toList,Array.getElem?_modify]
  split
  ·rename_i hij
   subst hij
   rw [hej]
   simp only [Option.map_some]
   rw [hg]
  rfl
 have hmem:∀ x ∈ (es.modify j fun e=>{ e with key:=.int .u32 k,val:=.slice A s.length c }).toList,x = { e with key:=.int .u32 k,val:=.slice A s.length c } ∨ ∃ i,i ≠ j ∧ es.toList[i]? = some x:=fun x hx=>by
  obtain ⟨i,hi⟩:=List.getElem?_of_mem hx
  simp only [Array.getElem?_toList,Array.getElem?_modify] at hi
  split at hi
  ·rename_i hij
   subst hij
   rw [hej] at hi
   exact .inl (Option.some.inj hi).symm
  rename_i hij
  exact .inr ⟨i,fun e=>hij e.symm,by simpa using hi⟩
 have hke:e.key = .int .u32 k:=h2
 refine ⟨es.modify j fun e=>{ e with key:=.int .u32 k,val:=.slice A s.length c },clk,?_,?_⟩
 ·unfold Instr.mapUpdate
  have hst:(Instr.keyThatStays (((es[j]?).map (·.key)).getD (.int .u32 k)) (.int .u32 k)).run P w = .ok (.int .u32 k) w:=by
   rw [hej]
   unfold Instr.keyThatStays
   simp only [Option.map_some,Option.getD_some,hke]
   have:Instr.sameBits 10000 (.int .u32 k) (.int .u32 k) = true:=by
    show Instr.sameBits (9999 + 1) _ _ = true
    generalize 9999 = d
    simp [Instr.sameBits]
   rw [this]; rfl
  simp only [Sem.run_bind,run_underlying (BW ht),Result.andThen_ok,run_getObj' hr,Fg hkt,Fh hkt h3,hst,run_setObj' hr,Nat.zero_add]
 have hkeq:(es.modify j fun e=>{ e with key:=.int .u32 k,val:=.slice A s.length c }).toList.map (·.key) = es.toList.map (·.key):=hmap (·.key) fun v=>hke.symm
 have hbeq:(es.modify j fun e=>{ e with key:=.int .u32 k,val:=.slice A s.length c }).toList.map (·.born) = es.toList.map (·.born):=hmap (·.born) fun v=>rfl
 have hnd:(es.toList.map (·.key)).Nodup:=hm.keys.nodup_iff.2 (DP hm.sorted)
 have hkin:∃ x ∈ u,x.1 = k:=by
  have:Value.int .u32 k ∈ u.map fun x=>Value.int .u32 x.1:=hm.keys.mem_iff.1 (List.mem_map.2 ⟨e,List.mem_of_getElem? h1,hke⟩)
  obtain ⟨x,hx,he⟩:=List.mem_map.1 this
  injection he with _ he
  exact ⟨x,hx,he⟩
 refine ⟨hsT,hrT,?_,fun x hx=>?_,by rw [hbeq]; exact hm.once,fun x hx=>?_⟩
 ·rw [hkeq]
  refine (List.perm_ext_iff_of_nodup hnd (DP hsT)).2 fun v=>?_
  rw [hm.keys.mem_iff]
  simp only [List.mem_map]
  constructor
  ·rintro ⟨x,hx,rfl⟩
   by_cases hxk:x.1 = k
   ·exact ⟨(k,s),(S1 hm.sorted _).2 (.inl rfl),by rw [hxk]⟩
   exact ⟨x,(S1 hm.sorted x).2 (.inr ⟨hx,hxk⟩),rfl⟩
  rintro ⟨x,hx,rfl⟩
  rcases (S1 hm.sorted x).1 hx with rfl | ⟨hx,_⟩
  ·obtain ⟨y,hy,hye⟩:=hkin
   exact ⟨y,hy,by rw [hye]⟩
  exact ⟨x,hx,rfl⟩
 ·rcases hmem x hx with rfl | ⟨i,_,hi⟩
  ·exact hm.born e (List.mem_of_getElem? h1)
  exact hm.born x (List.mem_of_getElem? hi)
 rcases hmem x hx with rfl | ⟨i,hij,hi⟩
 ·exact ⟨k,s,A,c,rfl,rfl,hmove _ _ hs,(S1 hm.sorted _).2 (.inl rfl)⟩
 obtain ⟨q,s',A',c',g1,g2,g3,g4⟩:=hm.each x (List.mem_of_getElem? hi)
 refine ⟨q,s',A',c',g1,g2,hmove _ _ g3,(S1 hm.sorted _).2 (.inr ⟨g4,fun hq=>hij ?_⟩)⟩
 have hxi:(es.toList.map (·.key))[i]? = some (.int .u32 k):=by rw [List.getElem?_map,hi,Option.map_some,g1]; dsimp only at hq; rw [hq]
 have hxj:(es.toList.map (·.key))[j]? = some (.int .u32 k):=by rw [List.getElem?_map,h1,Option.map_some,hke]
 exact (List.getElem?_inj (List.getElem?_eq_some_iff.1 hxi).1 hnd).1 (hxi.trans hxj.symm)
end
end Go.Proofs.YtipblegipibplaaGreatDoor.ME
namespace Go.Proofs.YtipblegipibplaaGreatDoor.ME
open Go
open Go.RowKit
open Go.ChangeMaps (setBlock)
set_option linter.unusedVariables false
set_option linter.unusedSimpArgs false
set_option maxRecDepth 20000
theorem WOk.start1 {w:World} {M F:Nat → Nat → Prop} {b o:Nat} {cs:List Value} {tb:Tb} (hW:WOk w M w tb []) (hat:AtF w F b o cs) (hn:Nat.blt 0 cs.length = true) (hrw:tb.all (fun ob=>!ob.rw) = true):WOk w M w (tb ++ [⟨b,o,cs,false⟩]) []:=by
 have hn':0 < cs.length:=by simpa [Nat.blt_eq] using hn
 obtain ⟨g1,g2⟩:=hat 0 _ (List.getElem?_eq_getElem hn')
 refine hW.add ⟨b,o,cs,false⟩ (World.lt_of_cell g2) (fun j v hj=>(hat j v hj).2) (fun h=>by cases h) (fun i ob hi hr=>?_) (fun i r hi=>by simp at hi)
 rcases hr with hr | hr
 ·have:=List.all_eq_true.1 hrw ob (List.mem_of_getElem? hi)
  rw [hr] at this; cases this
 cases hr
theorem EnvOk.ptr0 {n:Nat} {env:C8} {a:Act} {b o:Nat} {cs:List Value} {r:Bool} (h:EnvOk n [] ((0,.v (.pointer (some ⟨b,o,none⟩))) :: env) a):EnvOk n [⟨b,o,cs,r⟩] ((0,.p 0 0) :: (0,.v (.pointer (some ⟨b,o,none⟩))) :: env) a :=
 (h.grow ⟨b,o,cs,r⟩).recast 0 (.v (.pointer (some ⟨b,o,none⟩))) (.p 0 0) rfl rfl (by simp [SV.ok])
theorem Fj {m:Option Nat} {u:List (Int × Bs)} {b o:Nat} {w:World} {F:Nat → Nat → Prop} (hat:AtF w F b o [.map m]) (hm:MapR w F m u) :
  Calls Tryz.prog 75 [.pointer (some ⟨b,o,none⟩)].toArray w (N5 w (.int .i64 ((u.length:Nat):Int))):=by
 refine enter (n:=8) Tryz.func75 rfl Tryz.ntmps75 kz fun a hE=>?_
 have hW:WOk w B5 w [⟨b,o,[.map m],false⟩] []:=(WOk.start w B5).start1 hat rfl rfl
 refine B8 [0] kz (F0 [0] [] [0] hW (EnvOk.ptr0 (cs:=[.map m]) (r:=false) hE) (env':=[(0,.p 0 0)]) kz rfl fun a1 hE1=>B4 (A7 ?_))
 refine B8 [0,1,2,3,4,5] kz ?_
 refine F0 [0,1,2,3] [4,5] [6] hW hE1 (env':=[(6,.v (.map m))]) kz rfl fun a2 hE2=>?_
 refine B1 (CL (t:=78) (kt:=85) (et:=30) hE2 (m:=m) (d:=7) kz kz hm fun a3 hE3=>?_)
 refine F0 [5] [] [2] hW hE3 (env':=[(2,.v (.int .i64 ((u.length:Nat):Int)))]) kz rfl fun a4 hE4=>B4 (A7 (wp_ret ?_))
 exact D5 hE4 hW.cells (v:=.int .i64 ((u.length:Nat):Int)) kz ⟨rfl,Step.refl _ _⟩
section
variable {P:Program} {ops:Array Oper} {Q:Exit → Act → World → Prop} {n:Nat} {tb:Tb} {env:C8} {rs:List Rw} {w0:World} {M:Nat → Nat → Prop} {a:Act} {w:World} {G:Nat → Nat → Prop}
def HS (env:C8) (ops:Array Oper) (n i:Nat):Option Nat :=
 match F7 env ops n i with
 | some (.makeMap t none,d)=>some d
 | _=>none
theorem KQ {i d:Nat} {N:Act → World → Prop} (hE:EnvOk n tb env a) (h:HS env ops n i = some d) (K:∀ a',EnvOk n tb ((d,.v (.map (some w.heap.size))) :: env) a' → N a' (w.alloc (.map #[] 0))):wpOp P ops Q i N a w:=by
 unfold HS at h
 split at h
 ·rename_i t d' ho
  simp only [Option.some.injEq] at h
  subst h
  have hd:=(K8 hE ho).choose_spec.2.2.2.1
  refine N0 hE ho (v:=.map (some w.heap.size)) (w':=w.alloc (.map #[] 0)) ?_ (K _ (hE.put hd (.v _) trivial))
  intro o hop
  unfold execOp
  rw [hop]
  rfl
 cases h
def CM (env:C8) (ops:Array Oper) (i:Nat):Option (TypeId × Nat × Int × Value) :=
 match BO ops i with
 | some (.mapUpdate t m k x)=>match E8 env m,E8 env k,E8 env x with
  | some (.v (.map (some r))),some (.v (.int .u32 q)),some (.v v)=>some (t,r,q,v)
  | _,_,_=>none
 | _=>none
theorem KR {i:Nat} {t kt et:TypeId} {r:Nat} {es:Array MapEntry} {clk:Nat} {u:List (Int × Bs)} {k:Int} {A:Option Addr} {c:Nat} {s:Bs} {N:Act → World → Prop} (hE:EnvOk n tb env a) (h:CM env ops i = some (t,r,k,.slice A s.length c)) (ht:Bu P t = some (kt,et)) (hkt:P.underlying kt = some (.int .u32)) (hr:w.heap[r]? = some (.map es clk)) (hm:MapC w G es clk u)
  (hs:Octs w G A c s) (hk:0 ≤ k ∧ k < 4294967296) (hG:∀ b o,G b o → b ≠ r) (K:∀ es' clk',MapC (setBlock w r (.map es' clk')) G es' clk' (J7 u k s) → N a (setBlock w r (.map es' clk'))):wpOp P ops Q i N a w:=by
 obtain ⟨es',clk',h1,h2⟩:=run_mapUpdate' (P:=P) ht hkt hr hm hs hk hG
 unfold CM at h
 split at h
 ·rename_i t' x y z ho
  split at h
  ·rename_i r' q v hs1 hs2 hs3
   simp only [Option.some.injEq,Prod.mk.injEq] at h
   obtain ⟨rfl,rfl,rfl,rfl⟩:=h
   refine ED ho (w':=setBlock w r' (.map es' clk')) ?_ (K es' clk' h2)
   intro o hop
   unfold execOp
   rw [hop]
   simp only [(F4 hE hs1).1,(F4 hE hs2).1,(F4 hE hs3).1,SV.val,Sem.run_bind,h1,Result.andThen_ok,Sem.run_pure]
  cases h
 cases h
end
def KS:Option Code → Array Oper
 | some (.seq _ (.region _ ops _))=>ops
 | _=>#[]
def HT (w:World) (G:Nat → Nat → Prop) (b o:Nat) (m:Option Nat) (u:List (Int × Bs)):Ending → World → Prop:=fun e w' =>
 e = .returned (.tuple #[]) ∧ ∃ r,w'.cell? ⟨b,o,none⟩ = some (.map (some r)) ∧ w'.frozen? ⟨b,o,none⟩ = false ∧ OwnM w' G (some r) u ∧ (m = some r ∨ w.heap.size ≤ r) ∧ Step w w' (fun b' o'=>(b' = b ∧ o' = o) ∨ m = some b')
theorem DQ {w:World} {b o:Nat} {v:Value} (h:w.cell? ⟨b,o,none⟩ = some v) {r:Nat} {es:Array MapEntry} {clk:Nat} (hr:w.heap[r]? = some (.map es clk)):b ≠ r:=by
 rintro rfl
 unfold World.cell? at h
 rw [hr] at h
 cases h
theorem HU {m:Option Nat} {u:List (Int × Bs)} {b o c:Nat} {k:Int} {A:Option Addr} {s:Bs} {w:World} {G:Nat → Nat → Prop} (hcell:w.cell? ⟨b,o,none⟩ = some (.map m)) (hfz:w.frozen? ⟨b,o,none⟩ = false) (hm:OwnM w G m u) (hs:Octs w G A c s) (hk:0 ≤ k ∧ k < 4294967296)
  (hG:∀ b' o',G b' o' → ¬ (b' = b ∧ o' = o) ∧ m ≠ some b') (hG':∀ b' o',G b' o' → b' < w.heap.size) :
  Calls Tryz.prog 64 [.pointer (some ⟨b,o,none⟩),.int .u32 k,.slice A s.length c].toArray w (HT w G b o m (J7 u k s)):=by
 refine enter (n:=21) Tryz.func64 rfl Tryz.ntmps64 kz fun a hE=>?_
 have hW:WOk w (fun b' o'=>(b' = b ∧ o' = o) ∨ m = some b') w [⟨b,o,[.map m],true⟩] []:=by
  refine (WOk.start w _).add ⟨b,o,[.map m],true⟩ (World.lt_of_cell hcell) (fun j v hj=>?_) (fun _ j hj=>?_) (fun i ob hi=>by simp at hi) (fun i r hi=>by simp at hi)
  ·have hj0:j = 0:=by
    have:=(List.getElem?_eq_some_iff.1 hj).1
    simp at this; omega
   subst hj0
   simp only [List.getElem?_cons_zero,Option.some.injEq] at hj
   subst hj
   exact hcell
  have hj0:j = 0:=by simp at hj; omega
  subst hj0
  exact ⟨.inr (.inl ⟨rfl,rfl⟩),hfz⟩
 refine wp_seq (wp_seq ?_)
 refine D9 [0,1,2,3,4] kz (F0 [0,1,2,3,4] [] [0,1,2,10] hW (EnvOk.ptr0 (cs:=[.map m]) (r:=true) hE) (env':=[(0,.p 0 0),(1,.v (.int .u32 k)),(2,.v (.slice A s.length c)),(10,.v (.bool m.isNone))]) kz rfl fun a1 hE1=>B4 (A7 ?_))
 have key:∀ (r:Nat) (w1:World) (a':Act) (es:Array MapEntry) (clk:Nat),WOk w (fun b' o'=>(b' = b ∧ o' = o) ∨ m = some b') w1 [⟨b,o,[.map (some r)],true⟩] [] → EnvOk 21 [⟨b,o,[.map (some r)],true⟩] [(0,.p 0 0),(1,.v (.int .u32 k)),(2,.v (.slice A s.length c))] a' →
   w1.heap[r]? = some (.map es clk) → MapC w1 G es clk u → Octs w1 G A c s → (∀ b' o',G b' o' → b' ≠ r) → (m = some r ∨ w.heap.size ≤ r) →
   (Code.region 2 (KS Tryz.f64.body) false).wp Tryz.prog (bodyPost Tryz.prog Tryz.f64 (HT w G b o m (J7 u k s))) a' w1:=by
  intro r w1 a' es clk hW1 hE' hr hmc hso hGr hnew
  refine D9 [0,1,2,3,4,5,6] kz ?_
  refine F0 [0,1,2,3,4,5] [6] [18,19,20] hW1 hE' (env':=[(18,.v (.map (some r))),(19,.v (.int .u32 k)),(20,.v (.slice A s.length c))]) kz rfl fun a2 hE2=>?_
  refine B1 (KR (t:=78) (kt:=85) (et:=30) hE2 kz kz kz hr hmc hso hk hGr fun es' clk' hmc'=>B4 ?_)
  have hcell1:=hW1.cells 0 _ rfl 0 _ rfl
  have hbr:b ≠ r:=DQ hcell1 hr
  have hst:=Step.setBlock w1 r (.map es' clk')
  have hW2:WOk w (fun b' o'=>(b' = b ∧ o' = o) ∨ m = some b') (setBlock w1 r (.map es' clk')) [⟨b,o,[.map (some r)],true⟩] []:=by
   refine hW1.next hst (fun b' o' hb' hN=>?_) (fun i ob hi j hj hN=>?_) (fun i q hi=>by simp at hi)
   ·subst hN
    rcases hnew with h1 | h1
    ·exact .inr h1
    omega
   cases i with
   | zero=>simp only [List.getElem?_cons_zero,Option.some.injEq] at hi; subst hi; exact hbr hN
   | succ i=>simp at hi
  refine M3 hE2 hW2.cells (v:=.tuple #[]) kz ⟨rfl,r,?_,?_,⟨(fun h=>by cases h),fun r' hr'=>?_⟩,hnew,hW2.step⟩
  ·simpa using hW2.cells 0 _ rfl 0 _ rfl
  ·simpa using (hW2.rw_ 0 _ rfl rfl 0 (by simp)).2
  obtain rfl:=Option.some.inj hr'
  exact ⟨es',clk',Fi hr,hmc'⟩
 refine D8 hE1 (b:=m.isNone) kz (fun hb=>?_) (fun hb=>?_)
 ·obtain rfl:m = none:=by simpa using hb
  obtain rfl:=hm.none_ rfl
  refine D9 [0,1,2,3,4] kz ?_
  refine F0 [0] [1,2,3,4] [0,1,2,11] hW hE1 (env':=[(0,.p 0 0),(1,.v (.int .u32 k)),(2,.v (.slice A s.length c)),(11,.p 0 0)]) kz rfl fun a2 hE2=>?_
  refine B1 (KQ hE2 (d:=12) kz fun a3 hE3=>?_)
  have hW1:=hW.next_nil (Step.alloc w (.map #[] 0))
  refine F0 [2,3] [4] [0,1,2,12,14] hW1 hE3 (env':=[(0,.p 0 0),(1,.v (.int .u32 k)),(2,.v (.slice A s.length c)),(12,.v (.map (some w.heap.size))),(14,.p 0 0)]) kz rfl fun a4 hE4=>?_
  refine B1 (C7 hW1 hE4 (oi:=0) (cs:=[.map (some w.heap.size)]) kz fun w2 hF2 hW2 hE5=>B4 (A7 ?_))
  have hr1:(w.alloc (.map #[] 0)).heap[w.heap.size]? = some (.map #[] 0):=Bn _ _
  have hst2:Step (w.alloc (.map #[] 0)) w2 (G9 [⟨b,o,[.map none],true⟩] []):=hF2.step
  have hact:∀ {b' o':Nat},G9 [⟨b,o,[.map none],true⟩] [] b' o' → b' = b ∧ o' = o:=by
   rintro b' o' (⟨i,ob,hi,_,rfl,h1,h2⟩ | ⟨i,q,hi,_⟩)
   ·cases i with
    | zero =>
     simp only [List.getElem?_cons_zero,Option.some.injEq] at hi; subst hi
     simp at h1 h2
     exact ⟨rfl,by omega⟩
    | succ i=>simp at hi
   simp at hi
  have hblt:=World.lt_of_cell hcell
  have hr2:w2.heap[w.heap.size]? = some (.map #[] 0):=hst2.heap (fun o' ha=>by have:=(hact ha).1; omega) hr1
  refine key w.heap.size w2 _ #[] 0 hW2 (hE5.pick (ks:=[0,1,2]) kz) hr2 ⟨List.Pairwise.nil,(fun _ h=>by cases h),List.Perm.refl _,(fun _ h=>by cases h),List.nodup_nil,(fun _ h=>by cases h)⟩ ?_ (fun b' o' hg=>by have:=hG' b' o' hg; omega) (.inr (Nat.le_refl _))
  exact (hs.move (Step.alloc w (.map #[] 0)) B0 E6).move hst2 (fun b' o' hg _ ha=>(hG b' o' hg).1 (hact ha)) E6
 cases m with
 | none=>cases hb
 | some r =>
  obtain ⟨es,clk,h1,h2⟩:=hm.some_ r rfl
  exact wp_skip (A7 (key r w a1 es clk hW (hE1.pick (ks:=[0,1,2]) kz) h1 h2 hs (fun b' o' hg e=>(hG b' o' hg).2 (by rw [e])) (.inl rfl)))
end Go.Proofs.YtipblegipibplaaGreatDoor.ME