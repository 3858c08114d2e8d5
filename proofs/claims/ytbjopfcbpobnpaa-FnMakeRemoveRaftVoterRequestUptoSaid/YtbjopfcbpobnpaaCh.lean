/- Code that appends octets to one slice: a judgement, and its rules. Own work. -/
import Derived.Test.YtbjopfcbpobnpaaDm
import Derived.Deep.LoopGhost
namespace Go.Proofs.Ytbjopfcbpobnpaa.ME
open Go
open Go.RowKit
set_option linter.unusedVariables false
set_option linter.unusedSimpArgs false

/-- the slice's block is the one that came, or a new one -/
def Near (w0 : World) (A0 A : Option Addr) : Prop := ∀ g, A.map (·.block) = some g → A0.map (·.block) = some g ∨ w0.heap.size ≤ g
theorem near_of {w0 w : World} {A0 A : Option Addr} {cp e8 : Nat} {s : Bs} {tb : Tb} (hW : WOk w0 (Blk A0) w tb [brow A cp e8 s]) : Near w0 A0 A := fun g hg => by
  rcases hW.ownM 0 _ rfl g hg with h | h
  · exact .inr h
  · exact .inl (h 0)
/-- what was there when the call began -/
def Lo (F : Nat → Nat → Prop) (w0 : World) (b o : Nat) : Prop := F b o ∧ b < w0.heap.size
theorem lo_dis {F : Nat → Nat → Prop} {w0 : World} {A0 A : Option Addr} (hF : ∀ b o, F b o → ¬ Blk A0 b o) (hA : Near w0 A0 A) : ∀ b o, Lo F w0 b o → ¬ Blk A b o := fun b o h hb => by
  rcases hA b hb with h1 | h1
  · exact hF b o h.1 h1
  · have := h.2; omega
theorem lo_M {F : Nat → Nat → Prop} {w0 : World} {A0 : Option Addr} (hF : ∀ b o, F b o → ¬ Blk A0 b o) : ∀ b o, F b o → b < w0.heap.size → ¬ Blk A0 b o := fun b o h _ => hF b o h
theorem lo_F {F : Nat → Nat → Prop} {w0 : World} : ∀ b o, F b o → b < w0.heap.size → Lo F w0 b o := fun b o h hb => ⟨h, hb⟩

/-- the octets x are appended to the slice in slot d; the other slots that live on are env, and env' behind it -/
def Ch (P : Program) (n : Nat) (w0 : World) (A0 : Option Addr) (e8 d : Nat) (tb : Tb) (env env' : Env) (c : Code) (x : Bs) : Prop :=
  ∀ (Q : Exit → Act → World → Prop) (A : Option Addr) (cp : Nat) (s : Bs) (a : Act) (w : World),
    EnvOk n tb ((d, .v (.slice A s.length cp)) :: env) a → WOk w0 (Blk A0) w tb [brow A cp e8 s] → s.length + x.length + 16 ≤ 1099511627776 →
    (∀ A' cp' a' w', EnvOk n tb ((d, .v (.slice A' (s ++ x).length cp')) :: env') a' → WOk w0 (Blk A0) w' tb [brow A' cp' e8 (s ++ x)] → Q .normal a' w') → c.wp P Q a w

section
variable {P : Program} {n : Nat} {w0 : World} {A0 : Option Addr} {e8 d : Nat} {tb : Tb} {env e1 env' : Env} {c c1 c2 : Code} {x x1 x2 y : Bs}

theorem ch_eq (h : Ch P n w0 A0 e8 d tb env env' c x) (e : x = y) : Ch P n w0 A0 e8 d tb env env' c y := e ▸ h
theorem ch_skip : Ch P n w0 A0 e8 d tb env env .skip [] := fun Q A cp s a w hE hW hr k => wp_skip (k A cp a w (by simpa using hE) (by simpa using hW))
theorem ch_seq (h1 : Ch P n w0 A0 e8 d tb env e1 c1 x1) (h2 : Ch P n w0 A0 e8 d tb e1 env' c2 x2) : Ch P n w0 A0 e8 d tb env env' (.seq c1 c2) (x1 ++ x2) := fun Q A cp s a w hE hW hr k => by
  rw [List.length_append] at hr
  refine wp_seq (h1 _ A cp s a w hE hW (by omega) fun A' cp' a' w' hE' hW' => then_normal (h2 Q A' cp' (s ++ x1) a' w' hE' hW' (by rw [List.length_append]; omega) fun A2 cp2 a2 w2 hE2 hW2 => ?_))
  rw [List.append_assoc] at hE2 hW2
  exact k A2 cp2 a2 w2 hE2 hW2
theorem ch_seq0 (h1 : Ch P n w0 A0 e8 d tb env e1 c1 []) (h2 : Ch P n w0 A0 e8 d tb e1 env' c2 x) : Ch P n w0 A0 e8 d tb env env' (.seq c1 c2) x := ch_seq h1 h2
theorem ch_seq1 (h1 : Ch P n w0 A0 e8 d tb env e1 c1 x) (h2 : Ch P n w0 A0 e8 d tb e1 env' c2 []) : Ch P n w0 A0 e8 d tb env env' (.seq c1 c2) x := ch_eq (ch_seq h1 h2) (List.append_nil _)

/-- a region that writes nothing -/
theorem ch_pure {id : Nat} {ops : Array Oper} (keys : List Nat) (h : ∀ A m cp, runsP P ops n tb (List.range ops.size) (d :: keys) ((d, .v (.slice A m cp)) :: env) = some ((d, .v (.slice A m cp)) :: env')) :
    Ch P n w0 A0 e8 d tb env env' (.region id ops false) [] := fun Q A cp s a w hE hW hr k => by
  refine go_region _ rfl (go_runs (List.range ops.size) [] (d :: keys) hW hE (h _ _ _) (List.append_nil _).symm fun a' hE' => wpOps_nil ?_)
  exact k A cp a' w (by simpa using hE') (by simpa using hW)

/-- the operations from one on, up to another -/
def upto (i j : Nat) : List Nat := (List.range j).drop i
theorem upto_split {i j : Nat} (h : i < j) : upto 0 j = List.range i ++ i :: upto (i + 1) j := by
  unfold upto
  rw [List.drop_zero]
  have e1 := (List.take_append_drop i (List.range j)).symm
  have e2 : (List.range j).take i = List.range i := by
    rw [List.take_range]; congr 1; omega
  have e3 : (List.range j).drop i = i :: (List.range j).drop (i + 1) := by
    rw [List.drop_eq_getElem_cons (by simpa using h)]
    simp
  rw [e2, e3] at e1
  exact e1
theorem upto_split' {i k j : Nat} (hk : i ≤ k) (h : k < j) : upto i j = upto i k ++ k :: upto (k + 1) j := by
  have e1 := upto_split h
  unfold upto at e1 ⊢
  rw [List.drop_zero] at e1
  rw [e1, List.drop_append_of_le_length (by simpa using hk)]
  congr 2
  rw [← e1]

/-- a region with one call: the function, its arguments, and the slots behind it where its answer is r -/
def callP (P : Program) (ops : Array Oper) (n : Nat) (tb : Tb) (i : Nat) (keys : List Nat) (env : Env) (r : Value) : Option ((FuncId × List Value) × Env) :=
  match runs P ops n tb (List.range i) env with
  | some e => match callE tb e ops n i with
    | some (f, vs, t) => match runsP P ops n tb (upto (i + 1) ops.size) keys ((t, .v r) :: e) with
      | some e' => some ((f, vs), e')
      | none => none
    | none => none
  | none => none
theorem callP_ok {ops : Array Oper} {i : Nat} {keys : List Nat} {env : Env} {r : Value} {f : FuncId} {vs : List Value} {env' : Env} (h : callP P ops n tb i keys env r = some ((f, vs), env')) :
    ∃ e t, runs P ops n tb (List.range i) env = some e ∧ callE tb e ops n i = some (f, vs, t) ∧ runsP P ops n tb (upto (i + 1) ops.size) keys ((t, .v r) :: e) = some env' := by
  unfold callP at h
  split at h
  · rename_i e he
    split at h
    · rename_i f' vs' t ht
      split at h
      · rename_i e' he'
        simp only [Option.some.injEq, Prod.mk.injEq] at h
        obtain ⟨⟨rfl, rfl⟩, rfl⟩ := h
        exact ⟨e, t, he, ht, he'⟩
      · cases h
    · cases h
  · cases h

theorem ch_call {id : Nat} {ops : Array Oper} (i : Nat) (keys : List Nat) {f : FuncId} {vs : List Value}
    (h : ∀ A m cp A' m' cp', callP P ops n tb i (d :: keys) ((d, .v (.slice A m cp)) :: env) (.slice A' m' cp') = some ((f, .slice A m cp :: vs), (d, .v (.slice A' m' cp')) :: env'))
    (hi : Nat.blt i ops.size = true) (hf : ∀ args w, (callFunc f args).run P w = .ok (.enter f args) w)
    (hc : ∀ (A : Option Addr) (cp : Nat) (s : Bs) (w : World), Step w0 w (Blk A0) → Near w0 A0 A → w.ownsRow 0 e8 1 (.slice A s.length cp) s.length (bc s) → s.length + x.length + 16 ≤ 1099511627776 → Calls P f (.slice A s.length cp :: vs).toArray w (AppPost w e8 A (s ++ x))) :
    Ch P n w0 A0 e8 d tb env env' (.region id ops false) x := fun Q A cp s a w hE hW hr k => by
  have hi' : i < ops.size := by simpa [Nat.blt_eq] using hi
  obtain ⟨e, t, h1, h2, _⟩ := callP_ok (h A s.length cp none 0 0)
  refine go_region (List.range i ++ i :: upto (i + 1) ops.size) (by rw [← upto_split hi']; rfl) ?_
  refine wpOps_runs hW.cells hE h1 fun a1 hE1 => of_op (wpOp_call hE1 h2 hf (hc A cp s w hW.step (near_of hW) (hW.own 0 _ rfl) hr) ?_)
  rintro e_ w' ⟨A', c', rfl, ho, hs, hn⟩
  refine ⟨_, rfl, fun a2 hE2 => ?_⟩
  obtain ⟨e', t', g1, g2, g3⟩ := callP_ok (h A s.length cp A' (s ++ x).length c')
  rw [h1] at g1
  obtain rfl := Option.some.inj g1
  rw [h2] at g2
  simp only [Option.some.injEq, Prod.mk.injEq, true_and] at g2
  subst g2
  have hW' : WOk w0 (Blk A0) w' tb [brow A' c' e8 (s ++ x)] := hW.grow (k := 0) rfl hs ho hn
  refine go_runs (upto (i + 1) ops.size) [] (d :: keys) hW' hE2 g3 (List.append_nil _).symm fun a3 hE3 => wpOps_nil ?_
  exact k A' c' a3 w' hE3 hW'

/-- a region with a quiet call ahead -/
def callP2 (P : Program) (ops : Array Oper) (n : Nat) (tb : Tb) (i j : Nat) (keys : List Nat) (env : Env) (r1 r : Value) : Option ((FuncId × List Value) × (FuncId × List Value) × Env) :=
  match runs P ops n tb (List.range i) env with
  | some e => match callE tb e ops n i with
    | some (f1, vs1, t1) => match runs P ops n tb (upto (i + 1) j) ((t1, .v r1) :: e) with
      | some e2 => match callE tb e2 ops n j with
        | some (f, vs, t) => match runsP P ops n tb (upto (j + 1) ops.size) keys ((t, .v r) :: e2) with
          | some e' => some ((f1, vs1), (f, vs), e')
          | none => none
        | none => none
      | none => none
    | none => none
  | none => none
theorem callP2_ok {ops : Array Oper} {i j : Nat} {keys : List Nat} {env : Env} {r1 r : Value} {f1 f : FuncId} {vs1 vs : List Value} {env' : Env} (h : callP2 P ops n tb i j keys env r1 r = some ((f1, vs1), (f, vs), env')) :
    ∃ e t1 e2 t, runs P ops n tb (List.range i) env = some e ∧ callE tb e ops n i = some (f1, vs1, t1) ∧ runs P ops n tb (upto (i + 1) j) ((t1, .v r1) :: e) = some e2 ∧ callE tb e2 ops n j = some (f, vs, t) ∧ runsP P ops n tb (upto (j + 1) ops.size) keys ((t, .v r) :: e2) = some env' := by
  unfold callP2 at h
  split at h
  · rename_i e he
    split at h
    · rename_i f' vs' t ht
      split at h
      · rename_i e2 he2
        split at h
        · rename_i f2 vs2 t2 ht2
          split at h
          · rename_i e' he'
            simp only [Option.some.injEq, Prod.mk.injEq] at h
            obtain ⟨⟨rfl, rfl⟩, ⟨rfl, rfl⟩, rfl⟩ := h
            exact ⟨e, t, e2, t2, he, ht, he2, ht2, he'⟩
          · cases h
        · cases h
      · cases h
    · cases h
  · cases h
theorem ch_call2 {id : Nat} {ops : Array Oper} (i j : Nat) (keys : List Nat) {f1 f : FuncId} {vs1 vs : List Value} {r1 : Value}
    (h : ∀ A m cp A' m' cp', callP2 P ops n tb i j (d :: keys) ((d, .v (.slice A m cp)) :: env) r1 (.slice A' m' cp') = some ((f1, vs1), (f, .slice A m cp :: vs), (d, .v (.slice A' m' cp')) :: env'))
    (hi : (Nat.blt i j && Nat.blt j ops.size) = true) (hf1 : ∀ args w, (callFunc f1 args).run P w = .ok (.enter f1 args) w) (hf : ∀ args w, (callFunc f args).run P w = .ok (.enter f args) w)
    (hc1 : ∀ (w : World), Step w0 w (Blk A0) → Calls P f1 vs1.toArray w (Gives w r1))
    (hc : ∀ (A : Option Addr) (cp : Nat) (s : Bs) (w : World), Step w0 w (Blk A0) → Near w0 A0 A → w.ownsRow 0 e8 1 (.slice A s.length cp) s.length (bc s) → s.length + x.length + 16 ≤ 1099511627776 → Calls P f (.slice A s.length cp :: vs).toArray w (AppPost w e8 A (s ++ x))) :
    Ch P n w0 A0 e8 d tb env env' (.region id ops false) x := fun Q A cp s a w hE hW hr k => by
  have hi' : i < j ∧ j < ops.size := by simpa [Nat.blt_eq] using hi
  obtain ⟨e, t1, e2, t, h1, h2, h3, h4, _⟩ := callP2_ok (h A s.length cp none 0 0)
  refine go_region (List.range i ++ i :: (upto (i + 1) j ++ j :: upto (j + 1) ops.size)) (by
    rw [← upto_split' (by omega) hi'.2, ← upto_split (by omega)]; rfl) ?_
  refine wpOps_runs hW.cells hE h1 fun a1 hE1 => of_op (wpOp_call hE1 h2 hf1 (hc1 w hW.step) ?_)
  rintro e_ w1 ⟨rfl, hs1⟩
  refine ⟨_, rfl, fun a2 hE2 => ?_⟩
  have hW1 := hW.next_nil hs1
  refine wpOps_runs hW1.cells hE2 h3 fun a3 hE3 => of_op (wpOp_call hE3 h4 hf (hc A cp s w1 hW1.step (near_of hW1) (hW1.own 0 _ rfl) hr) ?_)
  rintro e_ w' ⟨A', c', rfl, ho, hs, hn⟩
  refine ⟨_, rfl, fun a4 hE4 => ?_⟩
  obtain ⟨e', t1', e2', t', g1, g2, g3, g4, g5⟩ := callP2_ok (h A s.length cp A' (s ++ x).length c')
  rw [h1] at g1
  obtain rfl := Option.some.inj g1
  rw [h2] at g2
  simp only [Option.some.injEq, Prod.mk.injEq, true_and] at g2
  subst g2
  rw [h3] at g3
  obtain rfl := Option.some.inj g3
  rw [h4] at g4
  simp only [Option.some.injEq, Prod.mk.injEq, true_and] at g4
  subst g4
  have hW' : WOk w0 (Blk A0) w' tb [brow A' c' e8 (s ++ x)] := hW1.grow (k := 0) rfl hs ho hn
  refine go_runs (upto (j + 1) ops.size) [] (d :: keys) hW' hE4 g5 (List.append_nil _).symm fun a5 hE5 => wpOps_nil ?_
  exact k A' c' a5 w' hE5 hW'

theorem ch_cond {o : Operand} {b : Bool} (hb : ∀ A m cp, opd ((d, .v (.slice A m cp)) :: env) o = some (.v (.bool b))) (h1 : b = true → Ch P n w0 A0 e8 d tb env env' c1 x) (h2 : b = false → Ch P n w0 A0 e8 d tb env env' c2 x) :
    Ch P n w0 A0 e8 d tb env env' (.cond o c1 c2) x := fun Q A cp s a w hE hW hr k =>
  cond_of hE (hb _ _ _) (fun hb' => h1 hb' Q A cp s a w hE hW hr k) (fun hb' => h2 hb' Q A cp s a w hE hW hr k)

/-- memory that is only read, known for a while -/
theorem WOk.addRead {F : Nat → Nat → Prop} {b o : Nat} {cs : List Value} {A : Option Addr} {cp : Nat} {s : Bs} {w : World} (hW : WOk w0 (Blk A0) w tb [brow A cp e8 s]) (hat : AtF w0 F b o cs) (hF : ∀ b o, F b o → ¬ Blk A0 b o) (hn : Nat.blt 0 cs.length = true) (hne : tb.all (fun ob => !ob.rw || Nat.blt 0 ob.cells.length) = true) :
    WOk w0 (Blk A0) w (tb ++ [⟨b, o, cs, false⟩]) [brow A cp e8 s] := by
  have hn' : 0 < cs.length := by simpa [Nat.blt_eq] using hn
  obtain ⟨g1, g2⟩ := hat 0 _ (List.getElem?_eq_getElem hn')
  have hlt := World.lt_of_cell g2
  refine hW.add ⟨b, o, cs, false⟩ (Nat.lt_of_lt_of_le hlt hW.step.size) (fun j v hj => (hW.step.cell (hF _ _ (hat j v hj).1) (hat j v hj).2)) (fun h => by cases h) (fun i ob hi hrw => ?_) (fun i r hi hb => ?_)
  · rcases hrw with hrw | hrw
    · have hl : 0 < ob.cells.length := by
        have := List.all_eq_true.1 hne ob (List.mem_of_getElem? hi)
        rw [hrw] at this
        simpa [Nat.blt_eq] using this
      refine .inl fun e => ?_
      dsimp only at e
      rcases (hW.rw_ i ob hi hrw 0 hl).1 with h3 | h3
      · rw [e] at h3; omega
      · rw [e] at h3
        exact hF _ _ g1 h3
    · cases hrw
  · have hi0 : i = 0 ∧ r = brow A cp e8 s := by
      cases i with
      | zero => exact ⟨rfl, (Option.some.inj hi).symm⟩
      | succ i => simp at hi
    obtain ⟨rfl, rfl⟩ := hi0
    rcases hW.ownM 0 _ rfl _ hb with h3 | h3
    · exact absurd hlt (Nat.not_lt.2 h3)
    · exact hF _ _ g1 (h3 _)
theorem ch_ob {F : Nat → Nat → Prop} (b o : Nat) (cs : List Value) (hat : AtF w0 F b o cs) (hF : ∀ b o, F b o → ¬ Blk A0 b o) (hn : Nat.blt 0 cs.length = true) (hne : tb.all (fun ob => !ob.rw || Nat.blt 0 ob.cells.length) = true) (hp : below tb.length env' = true)
    (h : Ch P n w0 A0 e8 d (tb ++ [⟨b, o, cs, false⟩]) env env' c x) : Ch P n w0 A0 e8 d tb env env' c x := fun Q A cp s a w hE hW hr k => by
  refine h Q A cp s a w (hE.grow _) (hW.addRead hat hF hn hne) hr fun A' cp' a' w' hE' hW' => ?_
  have e1 := EnvOk.cutTb tb.length hE' (by simpa [below] using hp)
  have e2 := hW'.cutTb tb.length
  rw [List.take_left' rfl] at e1 e2
  exact k A' cp' a' w' e1 e2

/-- a slot that points to known memory -/
theorem ch_ptr (t i k b o : Nat) (hi : i < tb.length) (hb : (obAt tb i).blk = b) (ho : (obAt tb i).off + k = o) (ht : Nat.beq d t = false) (h : Ch P n w0 A0 e8 d tb ((t, .p i k) :: env) env' c x) :
    Ch P n w0 A0 e8 d tb ((t, .v (.pointer (some ⟨b, o, none⟩))) :: env) env' c x := fun Q A cp s a w hE hW hr kk => by
  refine h Q A cp s a w ?_ hW hr kk
  subst hb; subst ho
  refine ⟨hE.defers, hE.size, fun s' y hl => ?_⟩
  simp only [lk] at hl
  split at hl
  · rename_i hb; exact hE.at_ s' y (by simp only [lk, hb]; exact hl)
  · rename_i hb
    split at hl
    · rename_i hb2
      simp only [Option.some.injEq] at hl
      subst hl
      have := (hE.at_ s' (.v (.pointer (some ⟨(obAt tb i).blk, (obAt tb i).off + k, none⟩))) (by simp only [lk, hb, hb2])).1
      exact ⟨this, hi⟩
    · rename_i hb2
      exact hE.at_ s' y (by simp only [lk, hb, hb2]; exact hl)

/-- a variable of the call's own, laid and filled -/
def boxP (P : Program) (ops : Array Oper) (n : Nat) (tb : Tb) (i : Nat) (keys : List Nat) (blk : Nat) (env : Env) : Option (List Value × Env) :=
  match runs P ops n tb (List.range i) env with
  | some e => match allocE P e ops n i with
    | some (t, zs) => match storeE P (tb ++ [⟨blk, 0, zs, true⟩]) ((t, .p tb.length 0) :: e) ops (i + 1) with
      | some (oi, cs) => match Nat.beq oi tb.length, pick ((t, .p tb.length 0) :: e) keys with
        | true, some e' => some (cs, e')
        | _, _ => none
      | none => none
    | none => none
  | none => none
theorem boxP_ok {ops : Array Oper} {i : Nat} {keys : List Nat} {blk : Nat} {env : Env} {cs : List Value} {env' : Env} (h : boxP P ops n tb i keys blk env = some (cs, env')) :
    ∃ e t zs, runs P ops n tb (List.range i) env = some e ∧ allocE P e ops n i = some (t, zs) ∧ storeE P (tb ++ [⟨blk, 0, zs, true⟩]) ((t, .p tb.length 0) :: e) ops (i + 1) = some (tb.length, cs) ∧ pick ((t, .p tb.length 0) :: e) keys = some env' := by
  unfold boxP at h
  split at h
  · rename_i e he
    split at h
    · rename_i t zs ht
      split at h
      · rename_i oi cs' ho
        split at h
        · rename_i hb hp
          simp only [Option.some.injEq, Prod.mk.injEq] at h
          obtain ⟨rfl, rfl⟩ := h
          have := Nat.eq_of_beq_eq_true hb
          subst this
          exact ⟨e, t, zs, he, ht, ho, hp⟩
        · cases h
      · cases h
    · cases h
  · cases h
theorem put_snoc {tb : Tb} {b : Nat} {zs cs : List Value} {r : Bool} : Tb.put (tb ++ [⟨b, 0, zs, r⟩]) tb.length cs = tb ++ [⟨b, 0, cs, r⟩] := by
  simp [Tb.put, obAt, List.getD_eq_getElem?_getD]
theorem ch_box {id : Nat} {ops : Array Oper} (i : Nat) (keys : List Nat) {cs : List Value} {e2 : Env} (h : ∀ blk A m cp, boxP P ops n tb i (d :: keys) blk ((d, .v (.slice A m cp)) :: env) = some (cs, (d, .v (.slice A m cp)) :: e2))
    (hi : Nat.beq (i + 2) ops.size = true) (hp : below tb.length env' = true) (hc : ∀ blk, Ch P n w0 A0 e8 d (tb ++ [⟨blk, 0, cs, true⟩]) e2 env' c2 x) : Ch P n w0 A0 e8 d tb env env' (.seq (.region id ops false) c2) x := fun Q A cp s a w hE hW hr k => by
  have hi' : i + 2 = ops.size := Nat.eq_of_beq_eq_true hi
  obtain ⟨e, t, zs, h1, h2, h3, h4⟩ := boxP_ok (h w.heap.size A s.length cp)
  refine go_seq_region (List.range i ++ [i, i + 1]) (by rw [← hi', List.range_succ, List.range_succ, List.append_assoc]; rfl) ?_
  refine wpOps_runs hW.cells hE h1 fun a1 hE1 => of_op (wpOp_alloc hW hE1 h2 fun b a2 w2 hb hb0 hF2 hW2 hE2 => of_op ?_)
  subst hb
  refine wpOp_store hW2 hE2 h3 fun w3 hF3 hW3 hE3 => wpOps_nil (then_normal ?_)
  rw [put_snoc] at hW3 hE3
  refine hc w.heap.size Q A cp s a2 w3 (hE3.pick h4) hW3 hr fun A' cp' a' w' hE' hW' => ?_
  have g1 := EnvOk.cutTb tb.length hE' (by simpa [below] using hp)
  have g2 := hW'.cutTb tb.length
  rw [List.take_left' rfl] at g1 g2
  exact k A' cp' a' w' g1 g2

theorem fm_le (xs : Nat → Bs) {m : Nat} : ∀ {l : Nat}, m ≤ l → ((List.range m).flatMap xs).length ≤ ((List.range l).flatMap xs).length
  | 0, h => by obtain rfl : m = 0 := by omega
               exact Nat.le_refl _
  | l + 1, h => by
    rcases Nat.eq_or_lt_of_le h with rfl | h
    · exact Nat.le_refl _
    · have := fm_le xs (m := m) (l := l) (by omega)
      rw [List.range_succ, List.flatMap_append, List.length_append]
      omega
theorem fm_succ (xs : Nat → Bs) (m : Nat) : (List.range (m + 1)).flatMap xs = (List.range m).flatMap xs ++ xs m := by
  rw [List.range_succ, List.flatMap_append]; simp

/-- a loop over a list -/
theorem ch_loop {B C id1 id2 : Nat} {ops1 ops2 : Array Oper} {body : Code} {len : Nat} {xs : Nat → Bs} (ti tc : Nat) (keys : List Nat)
    (h1 : ∀ (k : Nat) A m cp, runsP P ops1 n tb (List.range ops1.size) (d :: tc :: ti :: keys) ((d, .v (.slice A m cp)) :: (ti, .v (.int .i64 ((k : Nat) : Int))) :: env) = some ((d, .v (.slice A m cp)) :: (tc, .v (.bool (decide (((k : Nat) : Int) < ((len : Nat) : Int))))) :: (ti, .v (.int .i64 ((k : Nat) : Int))) :: env))
    (h2 : ∀ (k : Nat) A m cp, runsP P ops2 n tb (List.range ops2.size) (d :: ti :: keys) ((d, .v (.slice A m cp)) :: (ti, .v (.int .i64 ((k : Nat) : Int))) :: env) = some ((d, .v (.slice A m cp)) :: (ti, .v (.int .i64 (IntKind.i64.wrap (((k : Nat) : Int) + 1)))) :: env))
    (h3 : ∀ (k : Nat) A m cp b, pick ((d, .v (.slice A m cp)) :: (tc, .v (.bool b)) :: (ti, .v (.int .i64 ((k : Nat) : Int))) :: env) (d :: ti :: keys) = some ((d, .v (.slice A m cp)) :: (ti, .v (.int .i64 ((k : Nat) : Int))) :: env))
    (h4 : ∀ (k : Nat) A m cp b, pick ((d, .v (.slice A m cp)) :: (tc, .v (.bool b)) :: (ti, .v (.int .i64 ((k : Nat) : Int))) :: env) (d :: keys) = some ((d, .v (.slice A m cp)) :: env))
    (hd : Nat.beq d tc = false) (hl : len ≤ 1099511627776)
    (hb : ∀ k, k < len → Ch P n w0 A0 e8 d tb ((ti, .v (.int .i64 ((k : Nat) : Int))) :: env) ((ti, .v (.int .i64 ((k : Nat) : Int))) :: env) body (xs k)) :
    Ch P n w0 A0 e8 d tb ((ti, .v (.int .i64 0)) :: env) env (.block B (.loop (.seq (.region id1 ops1 false) (.seq (.cond (.tmp tc) .skip (.exit B)) (.seq (.block C body) (.region id2 ops2 false)))))) ((List.range len).flatMap xs) := fun Q A cp s a w hE hW hr k => by
  refine wp_block ?_
  refine wp_loop_ghost (fun m a_ w_ => ∃ (j : Nat) (A_ : Option Addr) (cp_ : Nat), m = len - j ∧ j ≤ len ∧ EnvOk n tb ((d, .v (.slice A_ (s ++ (List.range j).flatMap xs).length cp_)) :: (ti, .v (.int .i64 ((j : Nat) : Int))) :: env) a_ ∧ WOk w0 (Blk A0) w_ tb [brow A_ cp_ e8 (s ++ (List.range j).flatMap xs)]) len
    ⟨0, A, cp, by omega, by omega, by simpa using hE, by simpa using hW⟩ ?_
  rintro m a1 w1 ⟨j, A1, cp1, rfl, hj, hE1, hW1⟩
  refine go_seq_region _ rfl (go_runs (List.range ops1.size) [] (d :: tc :: ti :: keys) hW1 hE1 (h1 j _ _ _) (List.append_nil _).symm fun a2 hE2 => wpOps_nil (then_normal (wp_seq ?_)))
  refine cond_of hE2 (b := decide (((j : Nat) : Int) < ((len : Nat) : Int))) (by simp [opd, lk, hd]) (fun hc => ?_) (fun hc => ?_)
  · have hlt : j < len := by have := of_decide_eq_true hc; omega
    refine wp_skip (then_normal (wp_seq (wp_block ?_)))
    have hfm := fm_le xs (m := j + 1) (l := len) (by omega)
    rw [fm_succ, List.length_append] at hfm
    refine hb j hlt _ A1 cp1 _ a2 w1 (hE2.pick (h3 j _ _ _ _)) hW1 (by rw [List.length_append]; omega) fun A' cp' a' w' hE' hW' => block_normal (then_normal ?_)
    refine go_region _ rfl (go_runs (List.range ops2.size) [] (d :: ti :: keys) hW' hE' (h2 j _ _ _) (List.append_nil _).symm fun a3 hE3 => wpOps_nil (then_normal ?_))
    refine ⟨len - (j + 1), by omega, j + 1, A', cp', rfl, by omega, ?_, ?_⟩
    · rw [wrap_succ (by omega)] at hE3
      rw [fm_succ, ← List.append_assoc]
      exact hE3
    · rw [fm_succ, ← List.append_assoc]
      exact hW'
  · have hge : j = len := by have := of_decide_eq_false hc; omega
    subst hge
    exact wp_exit (then_exit (then_exit (block_exit (k A1 cp1 a2 w1 (hE2.pick (h4 j _ _ _ _)) hW1))))

/-- code that ends the call: slot tr holds the slice -/
def ChR (P : Program) (n : Nat) (w0 : World) (A0 : Option Addr) (e8 d : Nat) (tb : Tb) (env : Env) (tr : Nat) (c : Code) (x : Bs) : Prop :=
  ∀ (Q : Exit → Act → World → Prop) (A : Option Addr) (cp : Nat) (s : Bs) (a : Act) (w : World),
    EnvOk n tb ((d, .v (.slice A s.length cp)) :: env) a → WOk w0 (Blk A0) w tb [brow A cp e8 s] → s.length + x.length + 16 ≤ 1099511627776 →
    (∀ tb' A' cp' a' w', EnvOk n tb' [(tr, .v (.slice A' (s ++ x).length cp'))] a' → WOk w0 (Blk A0) w' tb' [brow A' cp' e8 (s ++ x)] → Q .ret a' w') → c.wp P Q a w
theorem chr_eq {tr : Nat} (h : ChR P n w0 A0 e8 d tb env tr c x) (e : x = y) : ChR P n w0 A0 e8 d tb env tr c y := e ▸ h
theorem chr_seq {tr : Nat} (h1 : Ch P n w0 A0 e8 d tb env e1 c1 x1) (h2 : ChR P n w0 A0 e8 d tb e1 tr c2 x2) : ChR P n w0 A0 e8 d tb env tr (.seq c1 c2) (x1 ++ x2) := fun Q A cp s a w hE hW hr k => by
  rw [List.length_append] at hr
  refine wp_seq (h1 _ A cp s a w hE hW (by omega) fun A' cp' a' w' hE' hW' => then_normal (h2 Q A' cp' (s ++ x1) a' w' hE' hW' (by rw [List.length_append]; omega) fun tb2 A2 cp2 a2 w2 hE2 hW2 => ?_))
  rw [List.append_assoc] at hE2 hW2
  exact k tb2 A2 cp2 a2 w2 hE2 hW2
theorem chr_seq0 {tr : Nat} (h1 : Ch P n w0 A0 e8 d tb env e1 c1 []) (h2 : ChR P n w0 A0 e8 d tb e1 tr c2 x) : ChR P n w0 A0 e8 d tb env tr (.seq c1 c2) x := chr_seq h1 h2
theorem chr_end {tr id : Nat} {ops : Array Oper} (h : ∀ A m cp, runsP P ops n tb (List.range ops.size) [tr] ((d, .v (.slice A m cp)) :: env) = some [(tr, .v (.slice A m cp))]) : ChR P n w0 A0 e8 d tb env tr (.seq (.region id ops false) .ret) [] := fun Q A cp s a w hE hW hr k => by
  refine go_seq_region _ rfl (go_runs (List.range ops.size) [] [tr] hW hE (h _ _ _) (List.append_nil _).symm fun a' hE' => wpOps_nil (then_normal (wp_ret ?_)))
  exact k tb A cp a' w (by simpa using hE') (by simpa using hW)
theorem chr_ob {F : Nat → Nat → Prop} {tr : Nat} (b o : Nat) (cs : List Value) (hat : AtF w0 F b o cs) (hF : ∀ b o, F b o → ¬ Blk A0 b o) (hn : Nat.blt 0 cs.length = true) (hne : tb.all (fun ob => !ob.rw || Nat.blt 0 ob.cells.length) = true)
    (h : ChR P n w0 A0 e8 d (tb ++ [⟨b, o, cs, false⟩]) env tr c x) : ChR P n w0 A0 e8 d tb env tr c x := fun Q A cp s a w hE hW hr k =>
  h Q A cp s a w (hE.grow _) (hW.addRead hat hF hn hne) hr k
theorem chr_ptr {tr : Nat} (t i k b o : Nat) (hi : i < tb.length) (hb : (obAt tb i).blk = b) (ho : (obAt tb i).off + k = o) (ht : Nat.beq d t = false) (h : ChR P n w0 A0 e8 d tb ((t, .p i k) :: env) tr c x) :
    ChR P n w0 A0 e8 d tb ((t, .v (.pointer (some ⟨b, o, none⟩))) :: env) tr c x := fun Q A cp s a w hE hW hr kk => by
  refine h Q A cp s a w ?_ hW hr kk
  subst hb; subst ho
  refine ⟨hE.defers, hE.size, fun s' y hl => ?_⟩
  simp only [lk] at hl
  split at hl
  · rename_i hb; exact hE.at_ s' y (by simp only [lk, hb]; exact hl)
  · rename_i hb
    split at hl
    · rename_i hb2
      simp only [Option.some.injEq] at hl
      subst hl
      have := (hE.at_ s' (.v (.pointer (some ⟨(obAt tb i).blk, (obAt tb i).off + k, none⟩))) (by simp only [lk, hb, hb2])).1
      exact ⟨this, hi⟩
    · rename_i hb2
      exact hE.at_ s' y (by simp only [lk, hb, hb2]; exact hl)
theorem chr_calls {f : FuncId} {fn : Func} {tr : Nat} {v : Value} {A : Option Addr} {cp : Nat} {s : Bs} {w : World} (hf : P.funcs[f]? = some fn) (hb : fn.body = some c) (hn : fn.ntmps = n) (hl : Nat.ble 2 n = true) (hr : fn.results = #[.tmp tr])
    (ho : w.ownsRow 0 e8 1 (.slice A s.length cp) s.length (bc s)) (hroom : s.length + x.length + 16 ≤ 1099511627776) (h : ChR P n w A e8 1 [] [(0, .v v)] tr c x) : Calls P f [v, .slice A s.length cp].toArray w (AppPost w e8 A (s ++ x)) := by
  refine enter hf hb hn hl fun a hE => ?_
  have hE' : EnvOk n [] ((1, .v (.slice A s.length cp)) :: [(0, .v v)]) a := hE.pick (ks := [1, 0]) rfl
  refine h _ A cp s a w hE' (WOk.startRow w ho) hroom fun tb' A' cp' a' w' hE2 hW2 => ?_
  refine leave hE2 hW2.cells (v := .slice A' (s ++ x).length cp') ?_ (app_end hW2 0 rfl)
  rw [hr]
  simp [resE, resL, resV, lk, SV.val]
end

end Go.Proofs.Ytbjopfcbpobnpaa.ME
