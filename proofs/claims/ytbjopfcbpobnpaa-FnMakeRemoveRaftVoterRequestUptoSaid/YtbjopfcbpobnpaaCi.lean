/- Appending code: what ends a call; texts, octets and literals appended. Own work. -/
import Derived.Test.YtbjopfcbpobnpaaCh
import Derived.Test.YtbjopfcbpobnpaaPw
namespace Go.Proofs.Ytbjopfcbpobnpaa.ME
open Go
open Go.RowKit
set_option linter.unusedVariables false
set_option linter.unusedSimpArgs false

section
variable {P : Program} {n : Nat} {w0 : World} {A0 : Option Addr} {e8 d tr : Nat} {tb : Tb} {env e1 env' : Env} {c c1 c2 : Code} {x x1 x2 y : Bs}

theorem chr_cond {o : Operand} {b : Bool} (hb : ∀ A m cp, opd ((d, .v (.slice A m cp)) :: env) o = some (.v (.bool b))) (h1 : b = true → ChR P n w0 A0 e8 d tb env tr c1 x) (h2 : b = false → ChR P n w0 A0 e8 d tb env tr c2 x) :
    ChR P n w0 A0 e8 d tb env tr (.cond o c1 c2) x := fun Q A cp s a w hE hW hr k =>
  cond_of hE (hb _ _ _) (fun hb' => h1 hb' Q A cp s a w hE hW hr k) (fun hb' => h2 hb' Q A cp s a w hE hW hr k)
theorem chr_block {id : Nat} (h : ChR P n w0 A0 e8 d tb env tr c x) : ChR P n w0 A0 e8 d tb env tr (.block id c) x := fun Q A cp s a w hE hW hr k =>
  wp_block (h _ A cp s a w hE hW hr fun tb' A' cp' a' w' hE' hW' => block_ret (k tb' A' cp' a' w' hE' hW'))
theorem chr_left (h : ChR P n w0 A0 e8 d tb env tr c1 x) : ChR P n w0 A0 e8 d tb env tr (.seq c1 c2) x := fun Q A cp s a w hE hW hr k =>
  wp_seq (h _ A cp s a w hE hW hr fun tb' A' cp' a' w' hE' hW' => then_ret (k tb' A' cp' a' w' hE' hW'))
/-- an 'if' whose first arm ends the call -/
theorem chr_if {o : Operand} {b : Bool} (hb : ∀ A m cp, opd ((d, .v (.slice A m cp)) :: env) o = some (.v (.bool b))) (h1 : b = true → ChR P n w0 A0 e8 d tb env tr c1 x) (h2 : b = false → ChR P n w0 A0 e8 d tb env tr c2 x) :
    ChR P n w0 A0 e8 d tb env tr (.seq (.cond o c1 .skip) c2) x := fun Q A cp s a w hE hW hr k =>
  wp_seq (cond_of hE (hb _ _ _) (fun hb' => h1 hb' _ A cp s a w hE hW hr fun tb' A' cp' a' w' hE' hW' => then_ret (k tb' A' cp' a' w' hE' hW'))
    (fun hb' => wp_skip (then_normal (h2 hb' Q A cp s a w hE hW hr k))))

theorem chr_iff {r1 : Code} {o : Operand} {b : Bool} (h0 : Ch P n w0 A0 e8 d tb env e1 r1 []) (hb : ∀ A m cp, opd ((d, .v (.slice A m cp)) :: e1) o = some (.v (.bool b))) (h1 : b = true → ChR P n w0 A0 e8 d tb e1 tr c1 x) (h2 : b = false → ChR P n w0 A0 e8 d tb e1 tr c2 x) :
    ChR P n w0 A0 e8 d tb env tr (.seq (.seq r1 (.cond o c1 .skip)) c2) x := fun Q A cp s a w hE hW hr k =>
  wp_seq (wp_seq (h0 _ A cp s a w hE hW (by simp; omega) fun A1 cp1 a1 w1 hE1 hW1 => then_normal (by
    rw [List.append_nil] at hE1 hW1
    exact cond_of hE1 (hb _ _ _) (fun hb' => h1 hb' _ A1 cp1 s a1 w1 hE1 hW1 hr fun tb' A' cp' a' w' hE' hW' => then_ret (k tb' A' cp' a' w' hE' hW'))
      (fun hb' => wp_skip (then_normal (h2 hb' Q A1 cp1 s a1 w1 hE1 hW1 hr k))))))

/-- a region with a quiet call -/
theorem ch_quiet {id : Nat} {ops : Array Oper} (i : Nat) (keys : List Nat) {f : FuncId} {vs : List Value} {r : Value}
    (h : ∀ A m cp, callP P ops n tb i (d :: keys) ((d, .v (.slice A m cp)) :: env) r = some ((f, vs), (d, .v (.slice A m cp)) :: env'))
    (hi : Nat.blt i ops.size = true) (hf : ∀ args w, (callFunc f args).run P w = .ok (.enter f args) w) (hc : ∀ (w : World), Step w0 w (Blk A0) → Calls P f vs.toArray w (Gives w r)) :
    Ch P n w0 A0 e8 d tb env env' (.region id ops false) [] := fun Q A cp s a w hE hW hr k => by
  have hi' : i < ops.size := by simpa [Nat.blt_eq] using hi
  obtain ⟨e, t, h1, h2, h3⟩ := callP_ok (h A s.length cp)
  refine go_region (List.range i ++ i :: upto (i + 1) ops.size) (by rw [← upto_split hi']; rfl) ?_
  refine wpOps_runs hW.cells hE h1 fun a1 hE1 => of_op (wpOp_call hE1 h2 hf (hc w hW.step) ?_)
  rintro e_ w' ⟨rfl, hs⟩
  refine ⟨_, rfl, fun a2 hE2 => ?_⟩
  have hW' := hW.next_nil hs
  refine go_runs (upto (i + 1) ops.size) [] (d :: keys) hW' hE2 h3 (List.append_nil _).symm fun a3 hE3 => wpOps_nil ?_
  exact k A cp a3 w' (by simpa using hE3) (by simpa using hW')

/-- a region with one call, behind which the call ends -/
theorem chr_call {id : Nat} {ops : Array Oper} (i : Nat) {f : FuncId} {vs : List Value}
    (h : ∀ A m cp A' m' cp', callP P ops n tb i [tr] ((d, .v (.slice A m cp)) :: env) (.slice A' m' cp') = some ((f, .slice A m cp :: vs), [(tr, .v (.slice A' m' cp'))]))
    (hi : Nat.blt i ops.size = true) (hf : ∀ args w, (callFunc f args).run P w = .ok (.enter f args) w)
    (hc : ∀ (A : Option Addr) (cp : Nat) (s : Bs) (w : World), Step w0 w (Blk A0) → Near w0 A0 A → w.ownsRow 0 e8 1 (.slice A s.length cp) s.length (bc s) → s.length + x.length + 16 ≤ 1099511627776 → Calls P f (.slice A s.length cp :: vs).toArray w (AppPost w e8 A (s ++ x))) :
    ChR P n w0 A0 e8 d tb env tr (.seq (.region id ops false) .ret) x := fun Q A cp s a w hE hW hr k => by
  have hi' : i < ops.size := by simpa [Nat.blt_eq] using hi
  obtain ⟨e, t, h1, h2, _⟩ := callP_ok (h A s.length cp none 0 0)
  refine go_seq_region (List.range i ++ i :: upto (i + 1) ops.size) (by rw [← upto_split hi']; rfl) ?_
  refine wpOps_runs hW.cells hE h1 fun a1 hE1 => of_op (wpOp_call hE1 h2 hf (hc A cp s w hW.step (near_of hW) (hW.own 0 _ rfl) hr) ?_)
  rintro e_ w' ⟨A', c', rfl, ho, hs, hn⟩
  refine ⟨_, rfl, fun a2 hE2 => ?_⟩
  obtain ⟨e', t', g1, g2, g3⟩ := callP_ok (h A s.length cp A' (s ++ x).length c')
  rw [h1] at g1
  obtain rfl := Option.some.inj g1
  rw [h2] at g2
  simp only [Option.some.injEq, Prod.mk.injEq, true_and] at g2
  subst g2
  have hW' : WOk w0 (Blk A0) w' tb [brow A' c' e8 (s ++ x)] := hW.grow (k := 0) rfl hs ho hn
  refine go_runs (upto (i + 1) ops.size) [] [tr] hW' hE2 g3 (List.append_nil _).symm fun a3 hE3 => wpOps_nil (then_normal (wp_ret ?_))
  exact k tb A' c' a3 w' hE3 hW'

/-- a region with one append -/
def appP (P : Program) (ops : Array Oper) (n : Nat) (tb : Tb) (i : Nat) (keys : List Nat) (env : Env) (r : Value) : Option ((TypeId × TypeId × Value × Value) × Env) :=
  match runs P ops n tb (List.range i) env with
  | some e => match appE tb e ops n i with
    | some (t, u, v, y, dd) => match runsP P ops n tb (upto (i + 1) ops.size) keys ((dd, .v r) :: e) with
      | some e' => some ((t, u, v, y), e')
      | none => none
    | none => none
  | none => none
theorem appP_ok {ops : Array Oper} {i : Nat} {keys : List Nat} {env : Env} {r : Value} {t u : TypeId} {v y : Value} {env' : Env} (h : appP P ops n tb i keys env r = some ((t, u, v, y), env')) :
    ∃ e dd, runs P ops n tb (List.range i) env = some e ∧ appE tb e ops n i = some (t, u, v, y, dd) ∧ runsP P ops n tb (upto (i + 1) ops.size) keys ((dd, .v r) :: e) = some env' := by
  unfold appP at h
  split at h
  · rename_i e he
    split at h
    · rename_i t' u' v' y' dd ht
      split at h
      · rename_i e' he'
        simp only [Option.some.injEq, Prod.mk.injEq] at h
        obtain ⟨⟨rfl, rfl, rfl, rfl⟩, rfl⟩ := h
        exact ⟨e, dd, he, ht, he'⟩
      · cases h
    · cases h
  · cases h
theorem chr_appS {id : Nat} {ops : Array Oper} {t u : TypeId} {s' : ByteArray} (i : Nat) (h : ∀ A m cp A' m' cp', appP P ops n tb i [tr] ((d, .v (.slice A m cp)) :: env) (.slice A' m' cp') = some ((t, u, .slice A m cp, .string s'), [(tr, .v (.slice A' m' cp'))]))
    (hi : Nat.blt i ops.size = true) (ht : rowTy P t = some (e8, 1, 1)) (hz : (P.info? e8).bind (·.zero) = some (.int .u8 0)) (hu : P.underlying u = some .string) :
    ChR P n w0 A0 e8 d tb env tr (.seq (.region id ops false) .ret) (sb s') := fun Q A cp s a w hE hW hr k => by
  have hi' : i < ops.size := by simpa [Nat.blt_eq] using hi
  rw [sb_length] at hr
  obtain ⟨e, dd, h1, h2, _⟩ := appP_ok (h A s.length cp none 0 0)
  refine go_seq_region (List.range i ++ i :: upto (i + 1) ops.size) (by rw [← upto_split hi']; rfl) ?_
  refine wpOps_runs hW.cells hE h1 fun a1 hE1 => of_op (wpOp_appendS hW hE1 (k := 0) h2 ht hz hu rfl (by omega) fun A' c' a2 w' hF hW' hE2 => ?_)
  obtain ⟨e', dd', g1, g2, g3⟩ := appP_ok (h A s.length cp A' (s.length + s'.size) c')
  rw [h1] at g1
  obtain rfl := Option.some.inj g1
  rw [h2] at g2
  simp only [Option.some.injEq, Prod.mk.injEq, true_and] at g2
  subst g2
  refine go_runs (upto (i + 1) ops.size) [] [tr] hW' hE2 g3 (List.append_nil _).symm fun a3 hE3 => wpOps_nil (then_normal (wp_ret ?_))
  have er : (⟨A', c', e8, 1, s.length + s'.size, bc s ++ Lib.strCells s'⟩ : Rw) = brow A' c' e8 (s ++ sb s') := brow_eq rfl (by rw [sb_length])
  refine k tb A' c' a3 w' ?_ ?_
  · rw [List.length_append, sb_length]; exact hE3
  · rw [← er]; exact hW'
theorem chr_appO {id : Nat} {ops : Array Oper} {t : TypeId} {o : Bs} {Ao : Option Addr} {co : Nat} {F : Nat → Nat → Prop} (i : Nat) (h : ∀ A m cp A' m' cp', appP P ops n tb i [tr] ((d, .v (.slice A m cp)) :: env) (.slice A' m' cp') = some ((t, t, .slice A m cp, .slice Ao o.length co), [(tr, .v (.slice A' m' cp'))]))
    (hi : Nat.blt i ops.size = true) (ht : rowTy P t = some (e8, 1, 1)) (ho : Octs w0 F Ao co o) (hF : ∀ b o, F b o → ¬ Blk A0 b o) :
    ChR P n w0 A0 e8 d tb env tr (.seq (.region id ops false) .ret) o := fun Q A cp s a w hE hW hr k => by
  have hi' : i < ops.size := by simpa [Nat.blt_eq] using hi
  obtain ⟨e, dd, h1, h2, _⟩ := appP_ok (h A s.length cp none 0 0)
  have ho' : Octs w F Ao co o := ho.move hW.step (fun b o hf _ => hF b o hf) keepF
  refine go_seq_region (List.range i ++ i :: upto (i + 1) ops.size) (by rw [← upto_split hi']; rfl) ?_
  refine wpOps_runs hW.cells hE h1 fun a1 hE1 => of_op (wpOp_append hW hE1 (k := 0) h2 ht rfl ho'.src ho'.cap (by omega) fun A' c' a2 w' hF hW' hE2 => ?_)
  obtain ⟨e', dd', g1, g2, g3⟩ := appP_ok (h A s.length cp A' (s.length + o.length) c')
  rw [h1] at g1
  obtain rfl := Option.some.inj g1
  rw [h2] at g2
  simp only [Option.some.injEq, Prod.mk.injEq, true_and] at g2
  subst g2
  refine go_runs (upto (i + 1) ops.size) [] [tr] hW' hE2 g3 (List.append_nil _).symm fun a3 hE3 => wpOps_nil (then_normal (wp_ret ?_))
  have er : (⟨A', c', e8, 1, s.length + o.length, bc s ++ bc o⟩ : Rw) = brow A' c' e8 (s ++ o) := brow_eq rfl rfl
  refine k tb A' c' a3 w' ?_ ?_
  · rw [List.length_append]; exact hE3
  · rw [← er]; exact hW'

/-- octets of a variable of the call's own, appended -/
theorem chr_appB {id : Nat} {ops : Array Oper} {t : TypeId} {o : Bs} {blk num : Nat} (i oi : Nat) (h : ∀ A m cp A' m' cp', appP P ops n tb i [tr] ((d, .v (.slice A m cp)) :: env) (.slice A' m' cp') = some ((t, t, .slice A m cp, .slice (some ⟨blk, 0, none⟩) num num), [(tr, .v (.slice A' m' cp'))]))
    (hi : Nat.blt i ops.size = true) (ht : rowTy P t = some (e8, 1, 1)) (hob : tb[oi]? = some ⟨blk, 0, bc o, true⟩) (hnum : o.length = num) :
    ChR P n w0 A0 e8 d tb env tr (.seq (.region id ops false) .ret) o := fun Q A cp s a w hE hW hr k => by
  have hi' : i < ops.size := by simpa [Nat.blt_eq] using hi
  subst hnum
  obtain ⟨e, dd, h1, h2, _⟩ := appP_ok (h A s.length cp none 0 0)
  have hsrc : Src w (some ⟨blk, 0, none⟩) o.length 1 (bc o) := by
    refine ⟨by simp, fun hA => (by cases hA), fun ad hA j u hu => ?_, bc_one o⟩
    obtain rfl := Option.some.inj hA
    have := hW.cells oi _ hob j u hu
    rw [add_none]
    simpa using this
  refine go_seq_region (List.range i ++ i :: upto (i + 1) ops.size) (by rw [← upto_split hi']; rfl) ?_
  refine wpOps_runs hW.cells hE h1 fun a1 hE1 => of_op (wpOp_append hW hE1 (k := 0) h2 ht rfl hsrc (fun hA => by cases hA) (by omega) fun A' c' a2 w' hF hW' hE2 => ?_)
  obtain ⟨e', dd', g1, g2, g3⟩ := appP_ok (h A s.length cp A' (s.length + o.length) c')
  rw [h1] at g1
  obtain rfl := Option.some.inj g1
  rw [h2] at g2
  simp only [Option.some.injEq, Prod.mk.injEq, true_and] at g2
  subst g2
  refine go_runs (upto (i + 1) ops.size) [] [tr] hW' hE2 g3 (List.append_nil _).symm fun a3 hE3 => wpOps_nil (then_normal (wp_ret ?_))
  have er : (⟨A', c', e8, 1, s.length + o.length, bc s ++ bc o⟩ : Rw) = brow A' c' e8 (s ++ o) := brow_eq rfl rfl
  refine k tb A' c' a3 w' ?_ ?_
  · rw [List.length_append]; exact hE3
  · rw [← er]; exact hW'
/-- a variable of the call's own, filled as it is laid -/
def bxP (P : Program) (ops : Array Oper) (n : Nat) (tb : Tb) (i : Nat) (keys : List Nat) (blk : Nat) (env : Env) : Option (List Value × Env) :=
  match runs P ops n tb (List.range i) env with
  | some e => match boxE P tb e ops n i with
    | some (t, cs) => match runsP P ops n (tb ++ [⟨blk, 0, cs, true⟩]) (upto (i + 1) ops.size) keys ((t, .p tb.length 0) :: e) with
      | some e' => some (cs, e')
      | none => none
    | none => none
  | none => none
theorem bxP_ok {ops : Array Oper} {i : Nat} {keys : List Nat} {blk : Nat} {env : Env} {cs : List Value} {env' : Env} (h : bxP P ops n tb i keys blk env = some (cs, env')) :
    ∃ e t, runs P ops n tb (List.range i) env = some e ∧ boxE P tb e ops n i = some (t, cs) ∧ runsP P ops n (tb ++ [⟨blk, 0, cs, true⟩]) (upto (i + 1) ops.size) keys ((t, .p tb.length 0) :: e) = some env' := by
  unfold bxP at h
  split at h
  · rename_i e he
    split at h
    · rename_i t cs' ht
      split at h
      · rename_i e' he'
        simp only [Option.some.injEq, Prod.mk.injEq] at h
        obtain ⟨rfl, rfl⟩ := h
        exact ⟨e, t, he, ht, he'⟩
      · cases h
    · cases h
  · cases h
theorem chr_bx {id : Nat} {ops : Array Oper} (i : Nat) (keys : List Nat) {cs : List Value} {e2 : Nat → Env} (h : ∀ blk A m cp, bxP P ops n tb i (d :: keys) blk ((d, .v (.slice A m cp)) :: env) = some (cs, (d, .v (.slice A m cp)) :: e2 blk))
    (hi : Nat.blt i ops.size = true) (hc : ∀ blk, ChR P n w0 A0 e8 d (tb ++ [⟨blk, 0, cs, true⟩]) (e2 blk) tr c2 x) : ChR P n w0 A0 e8 d tb env tr (.seq (.region id ops false) c2) x := fun Q A cp s a w hE hW hr k => by
  have hi' : i < ops.size := by simpa [Nat.blt_eq] using hi
  obtain ⟨e, t, h1, h2, h3⟩ := bxP_ok (h w.heap.size A s.length cp)
  refine go_seq_region (List.range i ++ i :: upto (i + 1) ops.size) (by rw [← upto_split hi']; rfl) ?_
  refine wpOps_runs hW.cells hE h1 fun a1 hE1 => of_op (wpOp_box hW hE1 h2 fun b a2 w2 hb hb0 hF2 hW2 hE2 => ?_)
  subst hb
  refine go_runs (upto (i + 1) ops.size) [] (d :: keys) hW2 hE2 h3 (List.append_nil _).symm fun a3 hE3 => wpOps_nil (then_normal ?_)
  exact hc w.heap.size Q A cp s a3 w2 hE3 hW2 hr k

/-- a literal appended: how many, its cells, the slots behind it -/
def pushP (P : Program) (ops : Array Oper) (n : Nat) (tb : Tb) (i : Nat) (keys : List Nat) (env : Env) (b : Nat) (r : Value) : Option ((TypeId × Nat × List Value × TypeId × Value × Nat × Nat × Nat) × Env) :=
  match runs P ops n tb (List.range i) env with
  | some e => match litE P tb e ops n i with
    | some (el, 1, len, cs, d1) => match appE tb ((d1, .v (.slice (some ⟨b, 0, none⟩) len len)) :: e) ops n (i + 1) with
      | some (t, u, v, .slice (some ⟨b', 0, none⟩) l c, dd) => match runsP P ops n tb (upto (i + 2) ops.size) keys ((dd, .v r) :: (d1, .v (.slice (some ⟨b, 0, none⟩) len len)) :: e) with
        | some e' => match Nat.beq t u, Nat.beq l len, Nat.beq c len with
          | true, true, true => some ((el, len, cs, t, v, d1, dd, b'), e')
          | _, _, _ => none
        | none => none
      | _ => none
    | _ => none
  | none => none
theorem pushP_ok {ops : Array Oper} {i : Nat} {keys : List Nat} {env : Env} {b : Nat} {r : Value} {el len : Nat} {cs : List Value} {t : TypeId} {v : Value} {d1 dd : Nat} {env' : Env} (h : pushP P ops n tb i keys env b r = some ((el, len, cs, t, v, d1, dd, b), env')) :
    ∃ e, runs P ops n tb (List.range i) env = some e ∧ litE P tb e ops n i = some (el, 1, len, cs, d1) ∧ appE tb ((d1, .v (.slice (some ⟨b, 0, none⟩) len len)) :: e) ops n (i + 1) = some (t, t, v, .slice (some ⟨b, 0, none⟩) len len, dd) ∧
      runsP P ops n tb (upto (i + 2) ops.size) keys ((dd, .v r) :: (d1, .v (.slice (some ⟨b, 0, none⟩) len len)) :: e) = some env' := by
  unfold pushP at h
  split at h
  · rename_i e he
    split at h
    · rename_i el' len' cs' d1' hl
      split at h
      · rename_i t' u' v' b' l' c' dd' ha
        split at h
        · rename_i e' he'
          split at h
          · rename_i hd1 hd2 hd3
            have e1 := Nat.eq_of_beq_eq_true hd1
            have e2 := Nat.eq_of_beq_eq_true hd2
            have e3 := Nat.eq_of_beq_eq_true hd3
            subst e1; subst e2; subst e3
            simp only [Option.some.injEq, Prod.mk.injEq] at h
            obtain ⟨⟨rfl, rfl, rfl, rfl, rfl, rfl, rfl, rfl⟩, rfl⟩ := h
            exact ⟨e, he, hl, ha, he'⟩
          · cases h
        · cases h
      · cases h
    · cases h
  · cases h
theorem allOne_bc : ∀ x : Bs, allOne (bc x) = true
  | [] => rfl
  | b :: r => by
    show (match (Value.int .u8 b.toNat).oneCell' with | true => allOne (bc r) | false => false) = true
    exact allOne_bc r
theorem chr_push {id : Nat} {ops : Array Oper} {t : TypeId} {len d1 dd : Nat} {cs : List Value} (i : Nat) (h : ∀ A m cp b A' m' cp', pushP P ops n tb i [tr] ((d, .v (.slice A m cp)) :: env) b (.slice A' m' cp') = some ((e8, len, cs, t, .slice A m cp, d1, dd, b), [(tr, .v (.slice A' m' cp'))]))
    (hi : Nat.blt (i + 1) ops.size = true) (ht : rowTy P t = some (e8, 1, 1)) (hx : cs = bc x) (hl : Nat.beq len cs.length = true) :
    ChR P n w0 A0 e8 d tb env tr (.seq (.region id ops false) .ret) x := fun Q A cp s a w hE hW hr k => by
  have hi' : i + 1 < ops.size := by simpa [Nat.blt_eq] using hi
  have hl' : len = x.length := by have := Nat.eq_of_beq_eq_true hl; rw [this, hx, bc_length]
  subst hl'; subst hx
  obtain ⟨e, h1, h2, h3, _⟩ := pushP_ok (h A s.length cp 0 none 0 0)
  have hspl : List.range ops.size = List.range i ++ i :: (i + 1) :: upto (i + 2) ops.size := by
    have g1 := upto_split (i := i) (j := ops.size) (by omega)
    have g2 := upto_split' (i := i + 1) (k := i + 1) (j := ops.size) (Nat.le_refl _) hi'
    have g3 : upto (i + 1) (i + 1) = [] := by unfold upto; simp
    rw [g3, List.nil_append] at g2
    rw [g2] at g1
    rw [← g1]; rfl
  refine go_seq_region _ hspl ?_
  refine wpOps_runs hW.cells hE h1 fun a1 hE1 => wpOps_push hW hE1 (k := 0) (d := dd) h2 ht (fun b => ?_) rfl (allOne_bc x) (by omega) fun A' c' a2 w' hF hW' hE2' => ?_
  · obtain ⟨e', g1, g2, g3, _⟩ := pushP_ok (h A s.length cp b none 0 0)
    rw [h1] at g1
    obtain rfl := Option.some.inj g1
    exact g3
  · obtain ⟨b, hE2⟩ := hE2'
    obtain ⟨e', g1, g2, g3, g4⟩ := pushP_ok (h A s.length cp b A' (s.length + x.length) c')
    rw [h1] at g1
    obtain rfl := Option.some.inj g1
    refine go_runs (upto (i + 2) ops.size) [] [tr] hW' hE2 g4 (List.append_nil _).symm fun a3 hE3 => wpOps_nil (then_normal (wp_ret ?_))
    have er : (⟨A', c', e8, 1, s.length + x.length, bc s ++ bc x⟩ : Rw) = brow A' c' e8 (s ++ x) := brow_eq rfl rfl
    refine k tb A' c' a3 w' ?_ ?_
    · rw [List.length_append]; exact hE3
    · rw [← er]; exact hW'
end

end Go.Proofs.Ytbjopfcbpobnpaa.ME
