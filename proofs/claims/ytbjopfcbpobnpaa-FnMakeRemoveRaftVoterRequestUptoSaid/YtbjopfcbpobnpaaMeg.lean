/- The engine, seventh part: the forms that the walker's texts use; bytes. Own work. -/
import Derived.Test.YtbjopfcbpobnpaaMef
namespace Go.Proofs.Ytbjopfcbpobnpaa.ME
open Go
set_option linter.unusedVariables false
set_option linter.unusedSimpArgs false

section
variable {P : Program} {ops : Array Oper} {Q : Exit → Act → World → Prop} {n : Nat} {tb : Tb} {env : Env} {rs : List Rw} {w0 : World} {M : Nat → Nat → Prop} {a : Act} {w : World} {T : World → Prop} {c : Nat}

def runsP (P : Program) (ops : Array Oper) (n : Nat) (tb : Tb) (idxs keys : List Nat) (env : Env) : Option Env :=
  match runs P ops n tb idxs env with
  | some e => pick e keys
  | none => none

theorem runsP_ok {idxs keys : List Nat} {env env' : Env} (h : runsP P ops n tb idxs keys env = some env') : ∃ e, runs P ops n tb idxs env = some e ∧ pick e keys = some env' := by
  unfold runsP at h
  split at h
  · rename_i e he
    exact ⟨e, he, h⟩
  · cases h

theorem go_runs {L : List Nat} (idxs rest keys : List Nat) {env env' : Env} (hW : WOk w0 M w tb rs) (h : EnvOk n tb env a) (e : runsP P ops n tb idxs keys env = some env') (hl : L = idxs ++ rest)
    (k : ∀ a', EnvOk n tb env' a' → wpOps P ops Q rest a' w) : wpOps P ops Q L a w := by
  subst hl
  obtain ⟨e1, h1, h2⟩ := runsP_ok e
  exact wpOps_runs hW.cells h h1 fun a' h' => k a' (h'.pick h2)
theorem go_runsD {fuel' : Nat} (idxs keys : List Nat) (fuel : Nat) {listed : Array Bool} {env env' : Env} (hns : Region.noSelect ops = true) (hQ : PanicFree Q) (hTc : ∀ w', T w' → CellsOk w' tb) (hT : T w) (h : EnvOk n tb env a) (ht : takes ops c idxs listed = true)
    (e : runsP P ops n tb idxs keys env = some env') (hl : fuel' = idxs.length + fuel) (k : ∀ a', EnvOk n tb env' a' → wpAnyC P ops Q T c fuel (lists idxs listed) a' w) : wpAnyC P ops Q T c fuel' listed a w := by
  subst hl
  obtain ⟨e1, h1, h2⟩ := runsP_ok e
  exact anyC_runs hns hQ hTc hT h ht h1 fun a' h' => k a' (h'.pick h2)

theorem EnvOk.cast {env env' : Env} (h : EnvOk n tb env a) (e : env = env') : EnvOk n tb env' a := e ▸ h
theorem go_seq_region {id : Nat} {y : Code} (L : List Nat) (hl : List.range ops.size = L) (h : wpOps P ops (Exit.then (y.wp P Q) Q) L a w) : (Code.seq (.region id ops false) y).wp P Q a w := by
  subst hl
  exact wp_seq (wp_region h)
theorem go_region {id : Nat} (L : List Nat) (hl : List.range ops.size = L) (h : wpOps P ops Q L a w) : (Code.region id ops false).wp P Q a w := by
  subst hl
  exact wp_region h
theorem go_seq_draw {id : Nat} {y : Code} (T : World → Prop) (c : Nat) (hm : P.follows .mixedOrders = true) (h : wpAnyC P ops (Exit.then (y.wp P Q) Q) T c ops.size (Array.replicate ops.size false) a w.drew) : (Code.seq (.region id ops true) y).wp P Q a w :=
  wp_seq (region_draw T c hm h)

/-- what holds all through a region whose order is drawn -/
def TT (w : World) (tb : Tb) (rs : List Rw) (w' : World) : Prop := CellsOk w' tb ∧ Step w w' (Act_ tb rs)
theorem TT.cells {w w' : World} {tb : Tb} {rs : List Rw} (h : TT w tb rs w') : CellsOk w' tb := h.1
theorem TT.start (hW : WOk w0 M w tb rs) : TT w tb rs w := ⟨hW.cells, Step.refl _ _⟩
/-- what is not the call's own is, at any moment of the region, as it was when the call began -/
theorem TT.step0 {w' : World} (hW : WOk w0 M w tb rs) (h : TT w tb rs w') : Step w0 w' M := by
  refine hW.step.trans h.2 fun b o hb ha => ?_
  rcases ha with ⟨i, ob, hi, hr, rfl, h1, h2⟩ | ⟨i, r, hi, hr⟩
  · have := (hW.rw_ i ob hi hr (o - ob.off) (by omega)).1
    rw [show ob.off + (o - ob.off) = o by omega] at this
    rcases this with h3 | h3
    · omega
    · exact h3
  · rcases hW.ownM i r hi b hr with h3 | h3
    · omega
    · exact h3 o
theorem CellsOk.pre {w : World} {tb tb' : Tb} (h : CellsOk w (tb ++ tb')) : CellsOk w tb := fun i o hi => h i o (by
  have : i < tb.length := (List.getElem?_eq_some_iff.1 hi).1
  rw [List.getElem?_append_left this]; exact hi)
theorem go_seq_drawK {id : Nat} {y : Code} (c : Nat) (hm : P.follows .mixedOrders = true) (hW : WOk w0 M w tb rs) (h : ∀ w', Fr w tb rs w' tb rs → WOk w0 M w' tb rs → TT w' tb rs w' → wpAnyC P ops (Exit.then (y.wp P Q) Q) (TT w' tb rs) c ops.size (Array.replicate ops.size false) a w') : (Code.seq (.region id ops true) y).wp P Q a w :=
  go_seq_draw (TT w.drew tb rs) c hm (h _ (Fr.drew w tb rs) hW.drew (TT.start hW.drew))
theorem go_drawK {id : Nat} (c : Nat) (hm : P.follows .mixedOrders = true) (hW : WOk w0 M w tb rs) (h : ∀ w', Fr w tb rs w' tb rs → WOk w0 M w' tb rs → TT w' tb rs w' → wpAnyC P ops Q (TT w' tb rs) c ops.size (Array.replicate ops.size false) a w') : (Code.region id ops true).wp P Q a w :=
  region_draw (TT w.drew tb rs) c hm (h _ (Fr.drew w tb rs) hW.drew (TT.start hW.drew))
/-- an operation that writes nothing, where it stands alone -/
theorem wpOp_pure {i : Nat} {N : Act → World → Prop} (keys : List Nat) {env' : Env} (hc : CellsOk w tb) (h : EnvOk n tb env a) (e : runsP P ops n tb [i] keys env = some env') (k : ∀ a', EnvOk n tb env' a' → N a' w) : wpOp P ops Q i N a w := by
  obtain ⟨e1, h1, h2⟩ := runsP_ok e
  simp only [runs] at h1
  split at h1
  · cases h1
  · rename_i o ho
    have ho' : ops[i]? = some o := by simpa using ho
    split at h1
    · cases h1
    · rename_i d hd
      split at h1
      · cases h1
      · rename_i hlt
        have hlt' : d < n := by simpa [Nat.blt_eq] using hlt
        simp only [wpOp, ho']
        split at h1
        · rename_i hg
          rw [guardE_ok h hg]
          simp only [if_true]
          split at h1
          · rename_i s hs
            simp only [Option.some.injEq] at h1
            subst h1
            have hr := run1_ok h hs hc
            refine .inl ?_
            unfold Oper.wp
            rw [hr.1, Oper.upon, hd]
            exact k _ ((h.put hlt' s hr.2).pick h2)
          · cases h1
        · rename_i hg
          rw [guardE_ok h hg]
          simp only [Option.some.injEq] at h1
          subst h1
          simp only [Bool.false_eq_true, if_false, hd]
          exact k _ ((h.put hlt' (.v undef) trivial).pick h2)
        · cases h1

theorem panicFree_body {fn : Func} {R : Ending → World → Prop} : PanicFree (bodyPost P fn R) := fun ch a d v w h => by
  cases d <;> exact h

/-- a row of the caller's that the call may grow -/
theorem WOk.addRow (h : WOk w0 M w tb rs) (r : Rw) (ho : w.ownsRow 0 r.e r.size r.v r.n r.xs) (hM : ∀ g, r.blk = some g → w0.heap.size ≤ g ∨ ∀ o, M g o)
    (ht : ∀ (i : Nat) (o : Ob), tb[i]? = some o → r.blk ≠ some o.blk) (hr : ∀ (i : Nat) (r' : Rw), rs[i]? = some r' → ∀ g, r.blk = some g → r'.blk ≠ some g) : WOk w0 M w tb (rs ++ [r]) := by
  refine ⟨h.step, h.cells, h.live, h.rw_, h.apart, ?_, ?_, ?_, ?_⟩
  · intro i q hi
    rcases get_snoc hi with hi | ⟨_, rfl⟩
    · exact h.own i q hi
    · exact ho
  · intro i q hi
    rcases get_snoc hi with hi | ⟨_, rfl⟩
    · exact h.ownM i q hi
    · exact hM
  · intro i q hi g hg j o hj
    rcases get_snoc hi with hi | ⟨_, rfl⟩
    · exact h.rtb i q hi g hg j o hj
    · intro e; exact ht j o hj (by rw [hg, e])
  · intro i j q q' hij hi hj g hg
    rcases get_snoc hi with hi' | ⟨hi1, rfl⟩
    · rcases get_snoc hj with hj' | ⟨_, rfl⟩
      · exact h.rr i j q q' hij hi' hj' g hg
      · intro e; exact hr i q hi' g e hg
    · rcases get_snoc hj with hj' | ⟨hj1, rfl⟩
      · exact hr j q' hj' g hg
      · exact absurd (hi1.trans hj1.symm) hij

/-- a nil slice of the call's own -/
theorem WOk.addNil (h : WOk w0 M w tb rs) (e size : Nat) : WOk w0 M w tb (rs ++ [⟨none, 0, e, size, 0, []⟩]) :=
  h.addRow ⟨none, 0, e, size, 0, []⟩ (World.ownsRow_nil w 0 e size) (fun g hg => by cases hg) (fun i o hi => by intro e; cases e) (fun i r hi g hg => by cases hg)
theorem Fr.addNil (w : World) (tb : Tb) (rs : List Rw) (e size : Nat) : Fr w tb rs w tb (rs ++ [⟨none, 0, e, size, 0, []⟩]) := by
  refine ⟨fun b o _ ha hc => ?_, Step.refl _ _⟩
  rcases hc with h | ⟨i, q, hi, hq⟩
  · exact ha (.inl h)
  · rcases get_snoc hi with hi | ⟨_, rfl⟩
    · exact ha (.inr ⟨i, q, hi, hq⟩)
    · cases hq
theorem WOk.castR {rs' : List Rw} (h : WOk w0 M w tb rs) (e : rs = rs') : WOk w0 M w tb rs' := e ▸ h
theorem WOk.startRow (w : World) {A : Option Addr} {c e size n : Nat} {xs : List Value} (ho : w.ownsRow 0 e size (.slice A n c) n xs) : WOk w (Blk A) w [] [⟨A, c, e, size, n, xs⟩] :=
  (WOk.start w (Blk A)).addRow ⟨A, c, e, size, n, xs⟩ ho (fun g hg => .inr fun _ => hg) (fun i o h => by simp at h) (fun i r h => by simp at h)
end

/-! bytes -/
def by8 (x : Int) : UInt8 := UInt8.ofNat (x % 256).toNat
theorem by8_toNat (x : Int) : ((by8 x).toNat : Int) = x % 256 := by
  have h := Int.emod_lt_of_pos x (show (0 : Int) < 256 by decide)
  have h0 := Int.emod_nonneg x (show (256 : Int) ≠ 0 by decide)
  unfold by8
  rw [UInt8.toNat_ofNat']
  omega
theorem wrap_u8 (x : Int) : IntKind.u8.wrap x = x % 256 := by
  simp [IntKind.wrap, IntKind.signed, IntKind.bits]
theorem by8_wrap (x : Int) : IntKind.u8.wrap x = ((by8 x).toNat : Int) := by rw [by8_toNat, wrap_u8]

def bc (s : List UInt8) : List Value := s.map fun b => .int .u8 b.toNat
@[simp] theorem bc_length (s : List UInt8) : (bc s).length = s.length := by simp [bc]
theorem bc_append (s t : List UInt8) : bc (s ++ t) = bc s ++ bc t := by simp [bc]
theorem bc_one (s : List UInt8) : ∀ u ∈ bc s, u.oneCell' = true := by
  intro u hu
  simp only [bc, List.mem_map] at hu
  obtain ⟨b, _, rfl⟩ := hu
  rfl

/-- a row of bytes -/
abbrev brow (A : Option Addr) (c : Nat) (e : TypeId) (s : List UInt8) : Rw := ⟨A, c, e, 1, s.length, bc s⟩
theorem brow_eq {A : Option Addr} {c e n : Nat} {s t : List UInt8} {xs : List Value} (hx : xs = bc t) (hm : n = s.length + t.length) : (⟨A, c, e, 1, n, bc s ++ xs⟩ : Rw) = brow A c e (s ++ t) := by
  subst hx; subst hm
  simp [brow, bc_append]

/-- what a function that appends bytes hands back -/
def AppPost (w : World) (e : TypeId) (A : Option Addr) (s : List UInt8) : Ending → World → Prop := fun en w' =>
  ∃ A' c', en = .returned (.slice A' s.length c') ∧ w'.ownsRow 0 e 1 (.slice A' s.length c') s.length (bc s) ∧ Step w w' (Blk A) ∧ (∀ g, A'.map (·.block) = some g → A.map (·.block) = some g ∨ w.heap.size ≤ g)

/-- the end of such a function -/
theorem app_end {w w' : World} {A A' : Option Addr} {c' e : Nat} {s : List UInt8} {tb : Tb} {rs : List Rw} (hW : WOk w (Blk A) w' tb rs) (k : Nat) (hk : rs[k]? = some (brow A' c' e s)) : AppPost w e A s (.returned (.slice A' s.length c')) w' := by
  refine ⟨A', c', rfl, hW.own k _ hk, hW.step, fun g hg => ?_⟩
  rcases hW.ownM k _ hk g hg with h | h
  · exact .inr h
  · exact .inl (h 0)

end Go.Proofs.Ytbjopfcbpobnpaa.ME
