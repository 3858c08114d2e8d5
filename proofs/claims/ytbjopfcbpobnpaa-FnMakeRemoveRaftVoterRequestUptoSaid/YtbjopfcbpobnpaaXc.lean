/- Printed by tools/mk.py. Own work. -/
import Derived.Test.YtbjopfcbpobnpaaTk
import Derived.Test.YtbjopfcbpobnpaaSp
namespace Go.Proofs.Ytbjopfcbpobnpaa.ME
open Go
open Go.RowKit
set_option linter.unusedVariables false
set_option linter.unusedSimpArgs false
set_option maxRecDepth 20000

theorem kSixteen (A : Option Addr) (c : Nat) (s : Bs) (w : World) (F : Nat → Nat → Prop) (hs : Octs w F A c s) : Calls Try.prog 116 #[.slice A s.length c] w (Gives w (.agg ((List.range 16).map fun i => byteCell (s.getD i 0)).toArray)) := by
  refine enter (n := 7) (vs := [.slice A s.length c]) Try.func116 rfl Try.ntmps116 (by kernel_rfl) fun a hE => ?_
  have hW := WOk.start w Nil
  refine go_seq_region [0] (by kernel_rfl) ?_
  refine of_op (wpOp_alloc2 hE (d := 2) (cs := ((List.range 16).map fun _ => byteCell 0)) (by kernel_rfl) fun t' a1 hE1 => wpOps_nil (then_normal ?_))
  have hW1 := hW.alloc ((List.range 16).map fun _ => byteCell 0) t'
  have hE2 := (hE1.grow ⟨w.heap.size, 0, ((List.range 16).map fun _ => byteCell 0), true⟩).recast 2 (.v (.pointer (some ⟨w.heap.size, 0, none⟩))) (.p 0 0) rfl rfl (by simp [SV.ok])
  refine go_seq_region [0, 1, 2] (by kernel_rfl) ?_
  refine go_runs [0, 1] [2] [2, 3, 4] hW1 hE2 (env' := [(2, .p 0 0), (3, .v (.slice (some ⟨w.heap.size, 0, none⟩) 16 16)), (4, .v (.slice A s.length c))]) (by kernel_rfl) rfl fun a2 hE3 => ?_
  refine of_op (wpOp_copy16 hE3 (t := 22) (u := 22) (e := 5) (bytes := 1) (b := w.heap.size) (d := 5) (by kernel_rfl) (by kernel_rfl) (heap_new _ _) rfl (hs.move (Step.alloc w _) nilM keepF) fun a3 w2 hst hat hfz hE4 => wpOps_nil (then_normal ?_))
  obtain ⟨v, hE4⟩ := hE4
  have hst2 : Step w w2 Nil := (Step.alloc w _).trans hst fun b' o hl h => by omega
  have hW2 := hat.wok hst2 hfz (Nat.le_refl _) (by kernel_rfl)
  have hE5 : EnvOk 7 [⟨w.heap.size, 0, ((List.range 16).map fun i => byteCell (s.getD i 0)), true⟩] [(2, .p 0 0)] a3 := (hE4.pick (ks := [2]) (env' := [(2, .p 0 0)]) (by kernel_rfl)).places ⟨rfl, rfl, trivial⟩
  refine go_seq_region [0, 1] (by kernel_rfl) ?_
  refine go_runs [0] [1] [2, 6] hW2 hE5 (env' := [(2, .p 0 0), (6, .v (.agg ((List.range 16).map fun i => byteCell (s.getD i 0)).toArray))]) (by kernel_rfl) rfl fun a4 hE6 => ?_
  refine of_op (wpOp_store hW2 hE6 (oi := 0) (cs := ((List.range 16).map fun i => byteCell (s.getD i 0))) (by kernel_rfl) fun w3 hF3 hW3 hE7 => wpOps_nil (then_normal (wp_ret ?_)))
  exact leave hE7 hW3.cells (v := .agg ((List.range 16).map fun i => byteCell (s.getD i 0)).toArray) (by kernel_rfl) ⟨rfl, hW3.step⟩

theorem kAppendNullableString' (Ap : Option Addr) (t : Bs) (A : Option Addr) (cp : Nat) (s : Bs) (w : World) (ho : w.ownsRow 0 5 1 (.slice A s.length cp) s.length (bc s)) (F : Nat → Nat → Prop) (hF : ∀ b o, F b o → ¬ Blk A b o) (hO : ∀ ad, Ap = some ad → ∃ b o, ad = ⟨b, o, none⟩ ∧ AtF w F b o [.string (bs t)]) (hsm : t.length ≤ 1000000) (hroom : s.length + (if Ap.isNone = true then be 2 (-1) else be 2 t.length ++ t).length + 16 ≤ 1099511627776) :
    Calls Try.prog 114 (.slice A s.length cp :: [.pointer Ap]).toArray w (AppPost w 5 A (s ++ (if Ap.isNone = true then be 2 (-1) else be 2 t.length ++ t))) := by
  have h := kAppendNullableString Ap (bs t) A cp s w ho F hF hO (by rw [bs_size]; exact hsm) (by cases Ap <;> simpa [bs_size, sb_bs] using hroom)
  cases Ap <;> simpa [bs_size, sb_bs] using h
theorem kAppendCompactNullableString' (Ap : Option Addr) (t : Bs) (A : Option Addr) (cp : Nat) (s : Bs) (w : World) (ho : w.ownsRow 0 5 1 (.slice A s.length cp) s.length (bc s)) (F : Nat → Nat → Prop) (hF : ∀ b o, F b o → ¬ Blk A b o) (hO : ∀ ad, Ap = some ad → ∃ b o, ad = ⟨b, o, none⟩ ∧ AtF w F b o [.string (bs t)]) (hsm : t.length ≤ 1000000) (hroom : s.length + (if Ap.isNone = true then uv 0 else uv (t.length + 1) ++ t).length + 16 ≤ 1099511627776) :
    Calls Try.prog 113 (.slice A s.length cp :: [.pointer Ap]).toArray w (AppPost w 5 A (s ++ (if Ap.isNone = true then uv 0 else uv (t.length + 1) ++ t))) := by
  have h := kAppendCompactNullableString Ap (bs t) A cp s w ho F hF hO (by rw [bs_size]; exact hsm) (by cases Ap <;> simpa [bs_size, sb_bs] using hroom)
  cases Ap <;> simpa [bs_size, sb_bs] using h
theorem kAppendNullableBytes' (t : Bs) (Ap : Option Addr) (co : Nat) (F : Nat → Nat → Prop) (A : Option Addr) (cp : Nat) (s : Bs) (w : World) (ho : w.ownsRow 0 5 1 (.slice A s.length cp) s.length (bc s)) (hF : ∀ b o, F b o → ¬ Blk A b o) (hO : Octs w F Ap co t) (hsm : t.length ≤ 1000000) (hroom : s.length + (if Ap.isNone = true then be 4 (-1) else be 4 t.length ++ t).length + 16 ≤ 1099511627776) :
    Calls Try.prog 98 (.slice A s.length cp :: [.slice Ap t.length co]).toArray w (AppPost w 5 A (s ++ (if Ap.isNone = true then be 4 (-1) else be 4 t.length ++ t))) := by
  have h := kAppendNullableBytes t Ap co F A cp s w ho hF hO hsm (by cases Ap <;> simpa using hroom)
  cases Ap <;> simpa using h
theorem kAppendCompactNullableBytes' (t : Bs) (Ap : Option Addr) (co : Nat) (F : Nat → Nat → Prop) (A : Option Addr) (cp : Nat) (s : Bs) (w : World) (ho : w.ownsRow 0 5 1 (.slice A s.length cp) s.length (bc s)) (hF : ∀ b o, F b o → ¬ Blk A b o) (hO : Octs w F Ap co t) (hsm : t.length ≤ 1000000) (hroom : s.length + (if Ap.isNone = true then uv 0 else uv (t.length + 1) ++ t).length + 16 ≤ 1099511627776) :
    Calls Try.prog 97 (.slice A s.length cp :: [.slice Ap t.length co]).toArray w (AppPost w 5 A (s ++ (if Ap.isNone = true then uv 0 else uv (t.length + 1) ++ t))) := by
  have h := kAppendCompactNullableBytes t Ap co F A cp s w ho hF hO hsm (by cases Ap <;> simpa using hroom)
  cases Ap <;> simpa using h
theorem kOctetsOf (ct : List Value) (t : Tree) (w : World) (F : Nat → Nat → Prop) (ht : TreeR w F ct t) : Calls Try.prog 94 #[.agg ct.toArray] w (fun e w' => ∃ A c, e = .returned (.slice A (octOf t).length c) ∧ Octs w' (Fp F w) A c (octOf t) ∧ A.isNone = t.null ∧ Step w w' Nil) := by
  obtain ⟨n, s, b, l, u, A1, c1, A2, c2, A3, c3, xs, rfl, rfl, h1, h2, h3, h4⟩ := ht.open_
  have hsm := h1.small
  refine enter (n := 9) (vs := [.agg #[.int .i64 n, .slice A1 s.length c1, .bool b, .slice A2 l.length c2, .slice A3 u.length c3]]) Try.func94 rfl Try.ntmps94 (by kernel_rfl) fun a hE => ?_
  have hW := WOk.start w Nil
  refine go_seq_region [0, 1] (by kernel_rfl) ?_
  refine of_op (wpOp_box hW hE (d := 1) (cs := [.int .i64 n, .slice A1 s.length c1, .bool b, .slice A2 l.length c2, .slice A3 u.length c3]) (by kernel_rfl) fun b1 a1 w1 hb hb0 hF1 hW1 hE1 => ?_)
  refine go_runs [1] [] [1] hW1 hE1 (env' := [(1, .p 0 0)]) (by kernel_rfl) rfl fun a2 hE2 => wpOps_nil (then_normal ?_)
  refine wp_seq (wp_seq ?_)
  refine go_region [0, 1] (by kernel_rfl) (go_runs [0, 1] [] [1, 4] hW1 hE2 (env' := [(1, .p 0 0), (4, .v (.bool b))]) (by kernel_rfl) rfl fun a3 hE3 => wpOps_nil (then_normal ?_))
  refine cond_of hE3 (b := b) (by kernel_rfl) (fun hb => ?_) (fun hb => ?_)
  · subst hb
    refine go_seq_region [0] (by kernel_rfl) (go_runs [0] [] [2] hW1 hE3 (env' := [(2, .v (.slice none 0 0))]) (by kernel_rfl) rfl fun a4 hE4 => wpOps_nil (then_normal (wp_ret (then_ret ?_))))
    exact leave hE4 hW1.cells (v := .slice none 0 0) (by kernel_rfl) ⟨none, 0, rfl, Octs.nil _ _, rfl, hW1.step⟩
  · subst hb
    refine wp_skip (then_normal ?_)
    refine go_seq_region [0, 1, 2, 3, 4] (by kernel_rfl) ?_
    refine of_op (wpOp_lit hW1 hE3 (e := 5) (size := 1) (len := 0) (cs := []) (d := 5) (by kernel_rfl) (by kernel_rfl) fun g a4 w2 hg hg0 hF2 hW2 hE4 => ?_)
    refine go_runs [1, 2] [3, 4] [5, 7] hW2 hE4 (env' := [(5, .v (.slice (some ⟨g, 0, none⟩) 0 0)), (7, .v (.slice A1 s.length c1))]) (by kernel_rfl) rfl fun a5 hE5 => ?_
    refine of_op (wpOp_append2 hW2 hE5 (k := 0) (t := 22) (bytes := 1) (d := 8) (by kernel_rfl) (by kernel_rfl) rfl (h1.move hW2.step nilM keepF) (by omega) fun A' c' a6 w3 hne hF3 hW3 hE6 => ?_)
    refine go_runs [4] [] [2] hW3 hE6 (env' := [(2, .v (.slice A' s.length c'))]) (by kernel_rfl) rfl fun a7 hE7 => wpOps_nil (then_normal (wp_ret ?_))
    refine leave hE7 hW3.cells (v := .slice A' s.length c') (by kernel_rfl) ⟨A', c', rfl, ?_, ?_, hW3.step⟩
    · refine octs_own (hW3.own 0 _ rfl) hsm fun g' hg' o => .inr ?_
      rcases hW3.ownM 0 _ rfl g' hg' with h | h
      · exact h
      · exact (h 0).elim
    · cases A' with
      | none => exact absurd rfl hne
      | some _ => rfl

theorem kTextOf (ct : List Value) (t : Tree) (w : World) (F : Nat → Nat → Prop) (ht : TreeR w F ct t) : Calls Try.prog 111 #[.agg ct.toArray] w (fun e w' => ∃ A, e = .returned (.pointer A) ∧ (∀ ad, A = some ad → ∃ b o, ad = ⟨b, o, none⟩ ∧ AtF w' (Fp F w) b o [.string (bs (octOf t))]) ∧ A.isNone = t.null ∧ Step w w' Nil) := by
  obtain ⟨n, s, b, l, u, A1, c1, A2, c2, A3, c3, xs, rfl, rfl, h1, h2, h3, h4⟩ := ht.open_
  have hsm := h1.small
  refine enter (n := 9) (vs := [.agg #[.int .i64 n, .slice A1 s.length c1, .bool b, .slice A2 l.length c2, .slice A3 u.length c3]]) Try.func111 rfl Try.ntmps111 (by kernel_rfl) fun a hE => ?_
  have hW := WOk.start w Nil
  refine go_seq_region [0, 1] (by kernel_rfl) ?_
  refine of_op (wpOp_box hW hE (d := 1) (cs := [.int .i64 n, .slice A1 s.length c1, .bool b, .slice A2 l.length c2, .slice A3 u.length c3]) (by kernel_rfl) fun b1 a1 w1 hb hb0 hF1 hW1 hE1 => ?_)
  refine go_runs [1] [] [1] hW1 hE1 (env' := [(1, .p 0 0)]) (by kernel_rfl) rfl fun a2 hE2 => wpOps_nil (then_normal ?_)
  refine wp_seq (wp_seq ?_)
  refine go_region [0, 1] (by kernel_rfl) (go_runs [0, 1] [] [1, 5] hW1 hE2 (env' := [(1, .p 0 0), (5, .v (.bool b))]) (by kernel_rfl) rfl fun a3 hE3 => wpOps_nil (then_normal ?_))
  refine cond_of hE3 (b := b) (by kernel_rfl) (fun hb => ?_) (fun hb => ?_)
  · subst hb
    refine go_seq_region [0] (by kernel_rfl) (go_runs [0] [] [2] hW1 hE3 (env' := [(2, .v (.pointer none))]) (by kernel_rfl) rfl fun a4 hE4 => wpOps_nil (then_normal (wp_ret (then_ret ?_))))
    exact leave hE4 hW1.cells (v := .pointer none) (by kernel_rfl) ⟨none, rfl, (fun ad h => by cases h), rfl, hW1.step⟩
  · subst hb
    refine wp_skip (then_normal ?_)
    refine go_seq_region [0, 1, 2, 3, 4] (by kernel_rfl) ?_
    refine go_runs [0, 1] [2, 3, 4] [7] hW1 hE3 (env' := [(7, .v (.slice A1 s.length c1))]) (by kernel_rfl) rfl fun a4 hE4 => ?_
    refine of_op (wpOp_conv hE4 (src := 22) (dst := 9) (e := 5) (d := 8) (by kernel_rfl) (by kernel_rfl) (by kernel_rfl) (by kernel_rfl) (h1.move hW1.step nilM keepF) fun a5 hE5 => ?_)
    refine of_op (wpOp_alloc hW1 hE5 (d := 3) (cs := [.string ByteArray.empty]) (by kernel_rfl) fun b2 a6 w2 hb2 hb20 hF2 hW2 hE6 => ?_)
    refine of_op (wpOp_store hW2 hE6 (oi := 1) (cs := [.string (bs s)]) (by kernel_rfl) fun w3 hF3 hW3 hE7 => wpOps_nil (then_normal ?_))
    refine go_seq_region [0] (by kernel_rfl) (go_runs [0] [] [2] hW3 hE7 (env' := [(2, .p 1 0)]) (by kernel_rfl) rfl fun a7 hE8 => wpOps_nil (then_normal (wp_ret ?_)))
    refine leave hE8 hW3.cells (v := .pointer (some ⟨b2, 0, none⟩)) (by kernel_rfl) ⟨some ⟨b2, 0, none⟩, rfl, fun ad h => ?_, rfl, hW3.step⟩
    obtain rfl := Option.some.inj h
    exact ⟨b2, 0, rfl, fun j v hj => ⟨.inr hb20, hW3.cells 1 _ rfl j v hj⟩⟩

end Go.Proofs.Ytbjopfcbpobnpaa.ME
