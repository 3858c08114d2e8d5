/- Tags: how many, and one set. Own work. -/
import Derived.Test.YtbjopfcbpobnpaaTb
import Derived.Test.YtbjopfcbpobnpaaProg
namespace Go.Proofs.Ytbjopfcbpobnpaa.ME
open Go
open Go.RowKit
open Go.ChangeMaps (setBlock)
set_option linter.unusedVariables false
set_option linter.unusedSimpArgs false
set_option maxRecDepth 20000

/-- memory that came in, known -/
theorem WOk.start1 {w : World} {M F : Nat → Nat → Prop} {b o : Nat} {cs : List Value} {tb : Tb} (hW : WOk w M w tb []) (hat : AtF w F b o cs) (hn : Nat.blt 0 cs.length = true) (hrw : tb.all (fun ob => !ob.rw) = true) : WOk w M w (tb ++ [⟨b, o, cs, false⟩]) [] := by
  have hn' : 0 < cs.length := by simpa [Nat.blt_eq] using hn
  obtain ⟨g1, g2⟩ := hat 0 _ (List.getElem?_eq_getElem hn')
  refine hW.add ⟨b, o, cs, false⟩ (World.lt_of_cell g2) (fun j v hj => (hat j v hj).2) (fun h => by cases h) (fun i ob hi hr => ?_) (fun i r hi => by simp at hi)
  rcases hr with hr | hr
  · have := List.all_eq_true.1 hrw ob (List.mem_of_getElem? hi)
    rw [hr] at this; cases this
  · cases hr
theorem EnvOk.ptr0 {n : Nat} {env : Env} {a : Act} {b o : Nat} {cs : List Value} {r : Bool} (h : EnvOk n [] ((0, .v (.pointer (some ⟨b, o, none⟩))) :: env) a) : EnvOk n [⟨b, o, cs, r⟩] ((0, .p 0 0) :: (0, .v (.pointer (some ⟨b, o, none⟩))) :: env) a :=
  (h.grow ⟨b, o, cs, r⟩).recast 0 (.v (.pointer (some ⟨b, o, none⟩))) (.p 0 0) rfl rfl (by simp [SV.ok])

theorem kTagsLen {m : Option Nat} {u : List (Int × Bs)} {b o : Nat} {w : World} {F : Nat → Nat → Prop} (hat : AtF w F b o [.map m]) (hm : MapR w F m u) :
    Calls Try.prog 101 [.pointer (some ⟨b, o, none⟩)].toArray w (Gives w (.int .i64 ((u.length : Nat) : Int))) := by
  refine enter (n := 8) Try.func101 rfl Try.ntmps101 (by kernel_rfl) fun a hE => ?_
  have hW : WOk w Nil w [⟨b, o, [.map m], false⟩] [] := (WOk.start w Nil).start1 hat rfl rfl
  refine go_seq_region [0] (by kernel_rfl) (go_runs [0] [] [0] hW (EnvOk.ptr0 (cs := [.map m]) (r := false) hE) (env' := [(0, .p 0 0)]) (by kernel_rfl) rfl fun a1 hE1 => wpOps_nil (then_normal ?_))
  refine go_seq_region [0, 1, 2, 3, 4, 5] (by kernel_rfl) ?_
  refine go_runs [0, 1, 2, 3] [4, 5] [6] hW hE1 (env' := [(6, .v (.map m))]) (by kernel_rfl) rfl fun a2 hE2 => ?_
  refine of_op (wpOp_lenM (t := 51) (kt := 59) (et := 22) hE2 (m := m) (d := 7) (by kernel_rfl) (by kernel_rfl) hm fun a3 hE3 => ?_)
  refine go_runs [5] [] [2] hW hE3 (env' := [(2, .v (.int .i64 ((u.length : Nat) : Int)))]) (by kernel_rfl) rfl fun a4 hE4 => wpOps_nil (then_normal (wp_ret ?_))
  exact leave hE4 hW.cells (v := .int .i64 ((u.length : Nat) : Int)) (by kernel_rfl) ⟨rfl, Step.refl _ _⟩

section
variable {P : Program} {ops : Array Oper} {Q : Exit → Act → World → Prop} {n : Nat} {tb : Tb} {env : Env} {rs : List Rw} {w0 : World} {M : Nat → Nat → Prop} {a : Act} {w : World} {G : Nat → Nat → Prop}
def makeME (env : Env) (ops : Array Oper) (n i : Nat) : Option Nat :=
  match opAt env ops n i with
  | some (.makeMap t none, d) => some d
  | _ => none
theorem wpOp_makeM {i d : Nat} {N : Act → World → Prop} (hE : EnvOk n tb env a) (h : makeME env ops n i = some d) (K : ∀ a', EnvOk n tb ((d, .v (.map (some w.heap.size))) :: env) a' → N a' (w.alloc (.map #[] 0))) : wpOp P ops Q i N a w := by
  unfold makeME at h
  split at h
  · rename_i t d' ho
    simp only [Option.some.injEq] at h
    subst h
    have hd := (opAt_ok hE ho).choose_spec.2.2.2.1
    refine wpOp_value hE ho (v := .map (some w.heap.size)) (w' := w.alloc (.map #[] 0)) ?_ (K _ (hE.put hd (.v _) trivial))
    intro o hop
    unfold execOp
    rw [hop]
    rfl
  · cases h
def updE (env : Env) (ops : Array Oper) (i : Nat) : Option (TypeId × Nat × Int × Value) :=
  match opAt0 ops i with
  | some (.mapUpdate t m k x) => match opd env m, opd env k, opd env x with
    | some (.v (.map (some r))), some (.v (.int .u32 q)), some (.v v) => some (t, r, q, v)
    | _, _, _ => none
  | _ => none
theorem wpOp_upd {i : Nat} {t kt et : TypeId} {r : Nat} {es : Array MapEntry} {clk : Nat} {u : List (Int × Bs)} {k : Int} {A : Option Addr} {c : Nat} {s : Bs} {N : Act → World → Prop} (hE : EnvOk n tb env a) (h : updE env ops i = some (t, r, k, .slice A s.length c)) (ht : mapTy P t = some (kt, et)) (hkt : P.underlying kt = some (.int .u32)) (hr : w.heap[r]? = some (.map es clk)) (hm : MapC w G es clk u)
    (hs : Octs w G A c s) (hk : 0 ≤ k ∧ k < 4294967296) (hG : ∀ b o, G b o → b ≠ r) (K : ∀ es' clk', MapC (setBlock w r (.map es' clk')) G es' clk' (setT u k s) → N a (setBlock w r (.map es' clk'))) : wpOp P ops Q i N a w := by
  obtain ⟨es', clk', h1, h2⟩ := run_mapUpdate' (P := P) ht hkt hr hm hs hk hG
  unfold updE at h
  split at h
  · rename_i t' x y z ho
    split at h
    · rename_i r' q v hs1 hs2 hs3
      simp only [Option.some.injEq, Prod.mk.injEq] at h
      obtain ⟨rfl, rfl, rfl, rfl⟩ := h
      refine wpOp_skip ho (w' := setBlock w r' (.map es' clk')) ?_ (K es' clk' h2)
      intro o hop
      unfold execOp
      rw [hop]
      simp only [(opd_ok hE hs1).1, (opd_ok hE hs2).1, (opd_ok hE hs3).1, SV.val, Sem.run_bind, h1, Result.andThen_ok, Sem.run_pure]
    · cases h
  · cases h
end

def lastOps : Option Code → Array Oper
  | some (.seq _ (.region _ ops _)) => ops
  | _ => #[]
/-- what a tag's setting leaves -/
def SetPost (w : World) (G : Nat → Nat → Prop) (b o : Nat) (m : Option Nat) (u : List (Int × Bs)) : Ending → World → Prop := fun e w' =>
  e = .returned (.tuple #[]) ∧ ∃ r, w'.cell? ⟨b, o, none⟩ = some (.map (some r)) ∧ w'.frozen? ⟨b, o, none⟩ = false ∧ OwnM w' G (some r) u ∧ (m = some r ∨ w.heap.size ≤ r) ∧ Step w w' (fun b' o' => (b' = b ∧ o' = o) ∨ m = some b')
theorem cell_block {w : World} {b o : Nat} {v : Value} (h : w.cell? ⟨b, o, none⟩ = some v) {r : Nat} {es : Array MapEntry} {clk : Nat} (hr : w.heap[r]? = some (.map es clk)) : b ≠ r := by
  rintro rfl
  unfold World.cell? at h
  rw [hr] at h
  cases h

theorem kTagsSet {m : Option Nat} {u : List (Int × Bs)} {b o c : Nat} {k : Int} {A : Option Addr} {s : Bs} {w : World} {G : Nat → Nat → Prop} (hcell : w.cell? ⟨b, o, none⟩ = some (.map m)) (hfz : w.frozen? ⟨b, o, none⟩ = false) (hm : OwnM w G m u) (hs : Octs w G A c s) (hk : 0 ≤ k ∧ k < 4294967296)
    (hG : ∀ b' o', G b' o' → ¬ (b' = b ∧ o' = o) ∧ m ≠ some b') (hG' : ∀ b' o', G b' o' → b' < w.heap.size) :
    Calls Try.prog 96 [.pointer (some ⟨b, o, none⟩), .int .u32 k, .slice A s.length c].toArray w (SetPost w G b o m (setT u k s)) := by
  refine enter (n := 21) Try.func96 rfl Try.ntmps96 (by kernel_rfl) fun a hE => ?_
  have hW : WOk w (fun b' o' => (b' = b ∧ o' = o) ∨ m = some b') w [⟨b, o, [.map m], true⟩] [] := by
    refine (WOk.start w _).add ⟨b, o, [.map m], true⟩ (World.lt_of_cell hcell) (fun j v hj => ?_) (fun _ j hj => ?_) (fun i ob hi => by simp at hi) (fun i r hi => by simp at hi)
    · have hj0 : j = 0 := by
        have := (List.getElem?_eq_some_iff.1 hj).1
        simp at this; omega
      subst hj0
      simp only [List.getElem?_cons_zero, Option.some.injEq] at hj
      subst hj
      exact hcell
    · have hj0 : j = 0 := by simp at hj; omega
      subst hj0
      exact ⟨.inr (.inl ⟨rfl, rfl⟩), hfz⟩
  refine wp_seq (wp_seq ?_)
  refine go_region [0, 1, 2, 3, 4] (by kernel_rfl) (go_runs [0, 1, 2, 3, 4] [] [0, 1, 2, 10] hW (EnvOk.ptr0 (cs := [.map m]) (r := true) hE) (env' := [(0, .p 0 0), (1, .v (.int .u32 k)), (2, .v (.slice A s.length c)), (10, .v (.bool m.isNone))]) (by kernel_rfl) rfl fun a1 hE1 => wpOps_nil (then_normal ?_))
  -- what follows where the map is r
  have key : ∀ (r : Nat) (w1 : World) (a' : Act) (es : Array MapEntry) (clk : Nat), WOk w (fun b' o' => (b' = b ∧ o' = o) ∨ m = some b') w1 [⟨b, o, [.map (some r)], true⟩] [] → EnvOk 21 [⟨b, o, [.map (some r)], true⟩] [(0, .p 0 0), (1, .v (.int .u32 k)), (2, .v (.slice A s.length c))] a' →
      w1.heap[r]? = some (.map es clk) → MapC w1 G es clk u → Octs w1 G A c s → (∀ b' o', G b' o' → b' ≠ r) → (m = some r ∨ w.heap.size ≤ r) →
      (Code.region 2 (lastOps Try.f96.body) false).wp Try.prog (bodyPost Try.prog Try.f96 (SetPost w G b o m (setT u k s))) a' w1 := by
    intro r w1 a' es clk hW1 hE' hr hmc hso hGr hnew
    refine go_region [0, 1, 2, 3, 4, 5, 6] (by kernel_rfl) ?_
    refine go_runs [0, 1, 2, 3, 4, 5] [6] [18, 19, 20] hW1 hE' (env' := [(18, .v (.map (some r))), (19, .v (.int .u32 k)), (20, .v (.slice A s.length c))]) (by kernel_rfl) rfl fun a2 hE2 => ?_
    refine of_op (wpOp_upd (t := 51) (kt := 59) (et := 22) hE2 (by kernel_rfl) (by kernel_rfl) (by kernel_rfl) hr hmc hso hk hGr fun es' clk' hmc' => wpOps_nil ?_)
    have hcell1 := hW1.cells 0 _ rfl 0 _ rfl
    have hbr : b ≠ r := cell_block hcell1 hr
    have hst := Step.setBlock w1 r (.map es' clk')
    have hW2 : WOk w (fun b' o' => (b' = b ∧ o' = o) ∨ m = some b') (setBlock w1 r (.map es' clk')) [⟨b, o, [.map (some r)], true⟩] [] := by
      refine hW1.next hst (fun b' o' hb' hN => ?_) (fun i ob hi j hj hN => ?_) (fun i q hi => by simp at hi)
      · subst hN
        rcases hnew with h1 | h1
        · exact .inr h1
        · omega
      · cases i with
        | zero => simp only [List.getElem?_cons_zero, Option.some.injEq] at hi; subst hi; exact hbr hN
        | succ i => simp at hi
    refine leave_end hE2 hW2.cells (v := .tuple #[]) (by kernel_rfl) ⟨rfl, r, ?_, ?_, ⟨(fun h => by cases h), fun r' hr' => ?_⟩, hnew, hW2.step⟩
    · simpa using hW2.cells 0 _ rfl 0 _ rfl
    · simpa using (hW2.rw_ 0 _ rfl rfl 0 (by simp)).2
    · obtain rfl := Option.some.inj hr'
      exact ⟨es', clk', heap_setBlock hr, hmc'⟩
  refine cond_of hE1 (b := m.isNone) (by kernel_rfl) (fun hb => ?_) (fun hb => ?_)
  · obtain rfl : m = none := by simpa using hb
    obtain rfl := hm.none_ rfl
    refine go_region [0, 1, 2, 3, 4] (by kernel_rfl) ?_
    refine go_runs [0] [1, 2, 3, 4] [0, 1, 2, 11] hW hE1 (env' := [(0, .p 0 0), (1, .v (.int .u32 k)), (2, .v (.slice A s.length c)), (11, .p 0 0)]) (by kernel_rfl) rfl fun a2 hE2 => ?_
    refine of_op (wpOp_makeM hE2 (d := 12) (by kernel_rfl) fun a3 hE3 => ?_)
    have hW1 := hW.next_nil (Step.alloc w (.map #[] 0))
    refine go_runs [2, 3] [4] [0, 1, 2, 12, 14] hW1 hE3 (env' := [(0, .p 0 0), (1, .v (.int .u32 k)), (2, .v (.slice A s.length c)), (12, .v (.map (some w.heap.size))), (14, .p 0 0)]) (by kernel_rfl) rfl fun a4 hE4 => ?_
    refine of_op (wpOp_store hW1 hE4 (oi := 0) (cs := [.map (some w.heap.size)]) (by kernel_rfl) fun w2 hF2 hW2 hE5 => wpOps_nil (then_normal ?_))
    have hr1 : (w.alloc (.map #[] 0)).heap[w.heap.size]? = some (.map #[] 0) := heap_new _ _
    have hst2 : Step (w.alloc (.map #[] 0)) w2 (Act_ [⟨b, o, [.map none], true⟩] []) := hF2.step
    have hact : ∀ {b' o' : Nat}, Act_ [⟨b, o, [.map none], true⟩] [] b' o' → b' = b ∧ o' = o := by
      rintro b' o' (⟨i, ob, hi, _, rfl, h1, h2⟩ | ⟨i, q, hi, _⟩)
      · cases i with
        | zero =>
          simp only [List.getElem?_cons_zero, Option.some.injEq] at hi; subst hi
          simp at h1 h2
          exact ⟨rfl, by omega⟩
        | succ i => simp at hi
      · simp at hi
    have hblt := World.lt_of_cell hcell
    have hr2 : w2.heap[w.heap.size]? = some (.map #[] 0) := hst2.heap (fun o' ha => by have := (hact ha).1; omega) hr1
    refine key w.heap.size w2 _ #[] 0 hW2 (hE5.pick (ks := [0, 1, 2]) (by kernel_rfl)) hr2 ⟨List.Pairwise.nil, (fun _ h => by cases h), List.Perm.refl _, (fun _ h => by cases h), List.nodup_nil, (fun _ h => by cases h)⟩ ?_ (fun b' o' hg => by have := hG' b' o' hg; omega) (.inr (Nat.le_refl _))
    exact (hs.move (Step.alloc w (.map #[] 0)) nilM keepF).move hst2 (fun b' o' hg _ ha => (hG b' o' hg).1 (hact ha)) keepF
  · cases m with
    | none => cases hb
    | some r =>
      obtain ⟨es, clk, h1, h2⟩ := hm.some_ r rfl
      exact wp_skip (then_normal (key r w a1 es clk hW (hE1.pick (ks := [0, 1, 2]) (by kernel_rfl)) h1 h2 hs (fun b' o' hg e => (hG b' o' hg).2 (by rw [e])) (.inl rfl)))

end Go.Proofs.Ytbjopfcbpobnpaa.ME
