/- FnMakeElectLeadersResponse: the statement: of every version and every tree of the bulk that the statement speaks of the law returns true, and leaves its arguments as they are. Own work. -/
import Derived.Test.YtbjopfcbpobnpaaWElP3
/- Lists of a message, laid anew: data against trees. Own work. -/
namespace Go.Proofs.Ytbjopfcbpobnpaa.ME
open Go
open Go.RowKit
set_option linter.unusedVariables false
set_option linter.unusedSimpArgs false

/-- what is known of data stays known where nothing of it is written -/
def Moves (ok : World → (Nat → Nat → Prop) → DV → Prop) : Prop := ∀ {w w' : World} {F F' M : Nat → Nat → Prop} (d : DV), Step w w' M → (∀ b o, F b o → b < w.heap.size → ¬ M b o) → (∀ b o, F b o → b < w.heap.size → F' b o) → ok w F d → ok w' F' d
/-- things in a row that is being laid -/
structure RowL (w : World) (F : Nat → Nat → Prop) (size : Nat) (cells : DV → List Value) (ok : World → (Nat → Nat → Prop) → DV → Prop) (rel : DV → Tree → Prop) (xs : List Value) (ds : List DV) (ts : List Tree) : Prop where
  mv : Moves ok
  row : Row_ size cells (ok w F) rel xs ds ts
/-- a list, laid -/
structure LstR (w : World) (F : Nat → Nat → Prop) (size : Nat) (cells : DV → List Value) (ok : World → (Nat → Nat → Prop) → DV → Prop) (rel : DV → Tree → Prop) (A : Option Addr) (c : Nat) (f : Nat → DV) (ts : List Tree) : Prop where
  mv : Moves ok
  slots : Slots w F size A c ts.length (fun i => cells (f i))
  each : ∀ i, i < ts.length → ok w F (f i)
  rel_ : ∀ i, i < ts.length → rel (f i) (ts.getD i .zero)
section
variable {w w' w0 : World} {F F' M : Nat → Nat → Prop} {size : Nat} {cells : DV → List Value} {ok : World → (Nat → Nat → Prop) → DV → Prop} {rel : DV → Tree → Prop} {xs : List Value} {ds : List DV} {ts : List Tree} {A : Option Addr} {c : Nat} {f : Nat → DV} {tb : Tb} {rs rs' : List Rw}
theorem RowL.move (h : RowL w F size cells ok rel xs ds ts) (hs : Step w w' M) (hM : ∀ b o, F b o → b < w.heap.size → ¬ M b o) (hF : ∀ b o, F b o → b < w.heap.size → F' b o) : RowL w' F' size cells ok rel xs ds ts :=
  ⟨h.mv, h.row.mono fun d hd => h.mv d hs hM hF hd⟩
theorem RowL.nil (mv : Moves ok) : RowL w F size cells ok rel [] [] [] := ⟨mv, Row_.nil⟩
theorem RowL.snoc {l : List Tree} {k : Nat} {t : Tree} {d : DV} (h : RowL w F size cells ok rel xs ds (l.take k)) (hk : l[k]? = some t) (hc : (cells d).length = size) (ho : ok w F d) (hr : rel d t) : RowL w F size cells ok rel (xs ++ cells d) (ds ++ [d]) (l.take (k + 1)) := by
  rw [take_succ_of hk]
  exact ⟨h.mv, h.row.snoc hc ho hr⟩
theorem LstR.move (h : LstR w F size cells ok rel A c f ts) (hs : Step w w' M) (hM : ∀ b o, F b o → b < w.heap.size → ¬ M b o) (hF : ∀ b o, F b o → b < w.heap.size → F' b o) : LstR w' F' size cells ok rel A c f ts :=
  ⟨h.mv, h.slots.move hs hM hF, fun i hi => h.mv _ hs hM hF (h.each i hi), h.rel_⟩
theorem LstR.nil (mv : Moves ok) : LstR w F size cells ok rel none 0 (fun _ => dv0) [] :=
  ⟨mv, Slots.nil _ _ _ _, fun i hi => by simp at hi, fun i hi => by simp at hi⟩
/-- the row is full: it is not written any more -/
theorem LstR.of {e n k : Nat} {G : Nat → Nat → Prop} (hW : WOk w0 Nil w tb rs) (hk : rs[k]? = some ⟨A, c, e, size, n, xs⟩) (h : RowL w (Imm G w0 w tb rs) size cells ok rel xs ds (ts.take n)) (hn : n = ts.length) (h1 : ∀ d, ∀ u ∈ cells d, u.oneCell' = true) (hsm : ts.length ≤ 1099511627776) (hr : rs.take k = rs' := by rfl) :
    LstR w (Imm G w0 w tb rs') size cells ok rel A c (fun i => ds.getD i dv0) ts := by
  subst hr
  rw [hn, List.take_length] at h
  have hI : ∀ b o, Imm G w0 w tb rs b o → b < w.heap.size → Imm G w0 w tb (rs.take k) b o := fun b o hi hb => by
    refine ⟨hi.1, hi.2.1, fun ha => hi.2.2 ?_⟩
    rcases ha with ha | ⟨i, r, h2, h3⟩
    · exact .inl ha
    · rw [List.getElem?_take] at h2
      split at h2
      · exact .inr ⟨i, r, h2, h3⟩
      · cases h2
  have h' := h.move (Step.refl w Nil) nilM hI
  obtain ⟨g1, g2, g3⟩ := h'.row.slots (hW.own k _ hk) hn h1 hsm (F := Imm G w0 w tb (rs.take k)) (fun g hg o => by
    have hb := own_live (hW.own k _ hk) (r := ⟨A, c, e, size, n, xs⟩) hg
    refine ⟨?_, hb, fun ha => ?_⟩
    · rcases hW.ownM k _ hk g hg with h2 | h2
      · exact .inr h2
      · exact (h2 0).elim
    · rcases ha with ⟨i, ob, h2, _, h3, _⟩ | ⟨i, r, h2, h3⟩
      · exact hW.rtb k _ hk g hg i ob h2 h3
      · rw [List.getElem?_take] at h2
        split at h2
        · rename_i hlt
          exact hW.rr k i _ r (by omega) hk h2 g hg h3
        · cases h2)
  rw [hn] at g1 g2 g3
  exact ⟨h'.mv, g1, g2, g3⟩
end
theorem lst_of {t : Tree} (h : t.null = false) : lst t = t.L := by unfold lst; rw [h]; rfl
theorem lst_no {t : Tree} (h : t.null = true) : lst t = [] := by unfold lst; rw [h]; rfl
/-- two ways that come together again -/
theorem wp_join {P : Program} {c : Code} {Mid N : Act → World → Prop} {Q : Exit → Act → World → Prop} {a : Act} {w : World} (h1 : c.wp P (Exit.then Mid Q) a w) (h2 : ∀ a' w', Mid a' w' → N a' w') : c.wp P (Exit.then N Q) a w :=
  wp_mono h1 fun e a' w' h => by
    cases e <;> first | exact h2 a' w' h | exact h
/-- a number as a datum -/
def dvN (n : Int) : DV := .mk n false ByteArray.empty [] none 0 0 none [] (fun _ => .leaf)
def dvS (s : ByteArray) : DV := .mk 0 false s [] none 0 0 none [] (fun _ => .leaf)
def dvT (A : Option Addr) (s : ByteArray) : DV := .mk 0 false s [] A 0 0 none [] (fun _ => .leaf)
def dvL (A : Option Addr) (l c : Nat) (f : Nat → DV) : DV := .mk 0 false ByteArray.empty [] A l c none [] f
def dvP (m : Option Nat) (u : List (Int × Bs)) (fs : List DV) : DV := .mk 0 false ByteArray.empty [] none 0 0 m u (fun i => fs.getD i .leaf)

/-- behind the setting of tags: the table and the frame -/
theorem TL.tab {w wL w1 : World} {F : Nat → Nat → Prop} {p off : Nat} {cs0 : List Value} {m : Option Nat} {u : List (Int × Bs)} {tb : Tb} {rs : List Rw} (h : TL w wL w1 F p off cs0 m u) (hW : WOk w Nil wL tb rs) (i : Nat) (tb' : Tb) (hi : tb[i]? = some ⟨p, 0, cs0, true⟩) (ht : tb.set i ⟨p, 0, cs0.set off (.map m), true⟩ = tb' := by rfl) (ho : Nat.blt off cs0.length = true := by kernel_rfl) :
    WOk w Nil w1 tb' rs ∧ Fr wL tb rs w1 tb' rs := by
  subst ht
  have ho' : off < cs0.length := by simpa [Nat.blt_eq] using ho
  have hil : i < tb.length := (List.getElem?_eq_some_iff.1 hi).1
  have key : ∀ (j : Nat) (o : Ob), (tb.set i ⟨p, 0, cs0.set off (.map m), true⟩)[j]? = some o → (j = i ∧ o = ⟨p, 0, cs0.set off (.map m), true⟩) ∨ (j ≠ i ∧ tb[j]? = some o) := fun j o hj => by
    rcases set_get hj with ⟨h1, h2, _⟩ | ⟨h1, h2⟩
    · exact .inl ⟨h1, h2⟩
    · exact .inr ⟨h1, h2⟩
  have far : ∀ (j : Nat) (o : Ob), j ≠ i → tb[j]? = some o → ∀ q, q < o.cells.length → ¬ (o.blk = p ∧ o.off + q = off) := fun j o hne hj q hq e => by
    rcases hW.apart j i o _ hne hj hi (.inr rfl) with h1 | h1 | h1
    · exact h1 e.1
    · simp only [Nat.le_zero] at h1; omega
    · simp only [Nat.zero_add] at h1; omega
  have act : ∀ b o, Act_ (tb.set i ⟨p, 0, cs0.set off (.map m), true⟩) rs b o → Act_ tb rs b o := fun b o ha => by
    rcases ha with ⟨j, ob, hj, h1, h2, h3, h4⟩ | ha
    · rcases key j ob hj with ⟨rfl, rfl⟩ | ⟨_, hj⟩
      · exact .inl ⟨j, _, hi, rfl, h2, h3, by simpa using h4⟩
      · exact .inl ⟨j, ob, hj, h1, h2, h3, h4⟩
    · exact .inr ha
  refine ⟨⟨h.step, ?_, ?_, ?_, ?_, ?_, hW.ownM, ?_, hW.rr⟩, ⟨fun b o _ hn ha => hn (act b o ha), h.keep.mono fun b o _ e => .inl ⟨i, _, hi, rfl, e.1.symm, Nat.zero_le _, by simpa [e.2] using ho'⟩⟩⟩
  · intro j o hj q v hv
    rcases key j o hj with ⟨rfl, rfl⟩ | ⟨hne, hj⟩
    · dsimp only
      rw [Nat.zero_add]
      exact h.str.at_ q v hv
    · exact h.keep.cell (far j o hne hj q (List.getElem?_eq_some_iff.1 hv).1) (hW.cells j o hj q v hv)
  · intro j o hj
    rcases key j o hj with ⟨rfl, rfl⟩ | ⟨_, hj⟩
    · have h1 := hW.live j _ hi
      exact Nat.lt_of_lt_of_le h1 h.keep.size
    · exact Nat.lt_of_lt_of_le (hW.live j o hj) h.keep.size
  · intro j o hj hr q hq
    rcases key j o hj with ⟨rfl, rfl⟩ | ⟨hne, hj⟩
    · dsimp only at hq ⊢
      refine ⟨(hW.rw_ j _ hi rfl q (by simpa using hq)).1, ?_⟩
      rw [Nat.zero_add]
      exact h.str.frz q hq
    · obtain ⟨h1, h2⟩ := hW.rw_ j o hj hr q hq
      exact ⟨h1, h.keep.frozen (far j o hne hj q hq) (hW.cells j o hj q _ (List.getElem?_eq_getElem hq)) h2⟩
  · intro j k o o' hjk hj hk hw
    rcases key j o hj with ⟨rfl, rfl⟩ | ⟨hne, hj'⟩
    · rcases key k o' hk with ⟨rfl, rfl⟩ | ⟨hne', hk'⟩
      · exact absurd rfl hjk
      · have := hW.apart j k _ o' hjk hi hk' (.inl rfl)
        simpa using this
    · rcases key k o' hk with ⟨rfl, rfl⟩ | ⟨hne', hk'⟩
      · have := hW.apart j k o _ hjk hj' hi (.inr rfl)
        simpa using this
      · exact hW.apart j k o o' hjk hj' hk' hw
  · intro j r hj
    refine own_keep (hW.own j r hj) fun g hg => (h.keep.keeps g (own_live (hW.own j r hj) hg)).1 fun o e => ?_
    exact hW.rtb j r hj g hg i _ hi e.1.symm
  · intro j r hj g hg k o hk
    rcases key k o hk with ⟨rfl, rfl⟩ | ⟨_, hk⟩
    · have h1 := hW.rtb j r hj g hg k _ hi
      exact h1
    · exact hW.rtb j r hj g hg k o hk
/-- the tags that have been set, as the call's own that is not written any more -/
theorem TL.mapImm {w wL w1 : World} {F : Nat → Nat → Prop} {p off : Nat} {cs0 : List Value} {m : Option Nat} {u : List (Int × Bs)} {tb tb' : Tb} {rs : List Rw} (h : TL w wL w1 F p off cs0 m u) (hW : WOk w Nil wL tb rs) (hW' : WOk w Nil w1 tb' rs) (hf : Fr wL tb rs w1 tb' rs) (hs : Sorted u) (hr : ∀ x ∈ u, 0 ≤ x.1 ∧ x.1 < 4294967296) (hl : tb'.map (·.blk) = tb.map (·.blk) := by rfl) : MapR w1 (Imm F w w1 tb' rs) m u := by
  have blk : ∀ b o, Act_ tb' rs b o → w.heap.size ≤ b ∧ b < wL.heap.size := fun b o ha => by
    rcases ha with ⟨j, ob, hj, h1, rfl, h3, h4⟩ | ⟨j, r, hj, hb⟩
    · have hm : (tb'.map (·.blk))[j]? = some ob.blk := by rw [List.getElem?_map, hj]; rfl
      rw [hl, List.getElem?_map] at hm
      obtain ⟨ob', hk, e⟩ := Option.map_eq_some_iff.1 hm
      refine ⟨?_, by rw [← e]; exact hW.live j ob' hk⟩
      rcases (hW'.rw_ j ob hj h1 (o - ob.off) (by omega)).1 with h5 | h5
      · exact h5
      · exact h5.elim
    · refine ⟨?_, own_live (hW.own j r hj) hb⟩
      rcases hW.ownM j r hj b hb with h5 | h5
      · exact h5
      · exact (h5 0).elim
  have hb := h.big
  refine h.own.map (fun b o h1 => ⟨.inl h1.1, Nat.lt_of_lt_of_le h1.2 h.step.size, fun ha => ?_⟩) (fun r o e => ?_) hs hr
  · have := blk b o ha; have := h1.2; omega
  · have h1 := h.new r e
    obtain ⟨es, clk, h2, _⟩ := h.own.some_ r e
    refine ⟨.inr (Nat.le_trans hb h1), (Array.getElem?_eq_some_iff.1 h2).1, fun ha => ?_⟩
    have := blk r o ha; omega
theorem own_some {w0 w : World} {M : Nat → Nat → Prop} {tb : Tb} {rs : List Rw} {k e size n c : Nat} {A : Option Addr} {xs : List Value} (hW : WOk w0 M w tb rs) (hk : rs[k]? = some ⟨A, c, e, size, n, xs⟩) (hn : 0 < n) : A.isNone = false := by
  cases A with
  | some _ => rfl
  | none =>
    rcases (hW.own k _ hk).2 with ⟨_, h⟩ | ⟨_, _, _, hv, _⟩
    · have h' : n = 0 := h
      omega
    · cases hv
/-- slots that hold addresses, in a table -/
theorem EnvOk.retable {n : Nat} {env : Env} {a : Act} (tb : Tb) (h : EnvOk n [] env a) : EnvOk n tb env a := h.table fun i hi => absurd hi (Nat.not_lt_zero i)

end Go.Proofs.Ytbjopfcbpobnpaa.ME

/- Printed by tools/mk.py. Own work. -/
namespace Go.Proofs.Ytbjopfcbpobnpaa.ME
open Go
open Go.RowKit
set_option linter.unusedVariables false
set_option linter.unusedSimpArgs false
set_option maxRecDepth 20000

theorem kTextOf (ct : List Value) (t : Tree) (w : World) (F : Nat → Nat → Prop) (ht : TreeR w F ct t) : Calls Try.prog 111 #[.agg ct.toArray] w (fun e w' => ∃ A, e = .returned (.pointer A) ∧ (∀ ad, A = some ad → ∃ b o, ad = ⟨b, o, none⟩ ∧ AtF w' (Fp F w) b o [.string (bs (octOf t))]) ∧ A.isNone = t.null ∧ Step w w' Nil) := by
  obtain ⟨n, s, b, l, u, A1, c1, A2, c2, A3, c3, xs, rfl, rfl, h1, h2, h3, h4⟩ := ht.open_
  have hsm := h1.small
  refine enter (n := 9) (vs := [.agg #[.int .i64 n, .slice A1 s.length c1, .bool b, .slice A2 l.length c2, .slice A3 u.length c3]]) Try.func111 rfl Try.ntmps111 (by kernel_rfl) fun a hE => ?_
  have hW := WOk.start w Nil
  refine go_seq_region [0, 1] (by kernel_rfl) ?_
  refine of_op (wpOp_box hW hE (d := 1) (cs := [.int .i64 n, .slice A1 s.length c1, .bool b, .slice A2 l.length c2, .slice A3 u.length c3]) (by kernel_rfl) fun b1 a1 w1 hb hb0 hF1 hW1 hE1 => ?_)
  refine go_runs [1] [] [1] hW1 hE1 (env' := [(1, .p 0 0)]) (by kernel_rfl) rfl fun a2 hE2 => wpOps_nil (then_normal ?_)
  refine wp_seq (wp_seq ?_)
  refine go_region [0, 1] (by kernel_rfl) (go_runs [0, 1] [] [1, 5] hW1 hE2 (env' := [(1, .p 0 0), (5, .v (.bool b))]) (by kernel_rfl) rfl fun a3 hE3 => wpOps_nil (then_normal ?_))
  refine cond_of hE3 (b := b) (by kernel_rfl) (fun hb => ?_) (fun hb => ?_)
  · subst hb
    refine go_seq_region [0] (by kernel_rfl) (go_runs [0] [] [2] hW1 hE3 (env' := [(2, .v (.pointer none))]) (by kernel_rfl) rfl fun a4 hE4 => wpOps_nil (then_normal (wp_ret (then_ret ?_))))
    exact leave hE4 hW1.cells (v := .pointer none) (by kernel_rfl) ⟨none, rfl, (fun ad h => by cases h), rfl, hW1.step⟩
  · subst hb
    refine wp_skip (then_normal ?_)
    refine go_seq_region [0, 1, 2, 3, 4] (by kernel_rfl) ?_
    refine go_runs [0, 1] [2, 3, 4] [7] hW1 hE3 (env' := [(7, .v (.slice A1 s.length c1))]) (by kernel_rfl) rfl fun a4 hE4 => ?_
    refine of_op (wpOp_conv hE4 (src := 22) (dst := 9) (e := 5) (d := 8) (by kernel_rfl) (by kernel_rfl) (by kernel_rfl) (by kernel_rfl) (h1.move hW1.step nilM keepF) fun a5 hE5 => ?_)
    refine of_op (wpOp_alloc hW1 hE5 (d := 3) (cs := [.string ByteArray.empty]) (by kernel_rfl) fun b2 a6 w2 hb2 hb20 hF2 hW2 hE6 => ?_)
    refine of_op (wpOp_store hW2 hE6 (oi := 1) (cs := [.string (bs s)]) (by kernel_rfl) fun w3 hF3 hW3 hE7 => wpOps_nil (then_normal ?_))
    refine go_seq_region [0] (by kernel_rfl) (go_runs [0] [] [2] hW3 hE7 (env' := [(2, .p 1 0)]) (by kernel_rfl) rfl fun a7 hE8 => wpOps_nil (then_normal (wp_ret ?_)))
    refine leave hE8 hW3.cells (v := .pointer (some ⟨b2, 0, none⟩)) (by kernel_rfl) ⟨some ⟨b2, 0, none⟩, rfl, fun ad h => ?_, rfl, hW3.step⟩
    obtain rfl := Option.some.inj h
    exact ⟨b2, 0, rfl, fun j v hj => ⟨.inr hb20, hW3.cells 1 _ rfl j v hj⟩⟩

end Go.Proofs.Ytbjopfcbpobnpaa.ME

/- Contracts: printed by tools/sp.py. Own work. -/
namespace Go.Proofs.Ytbjopfcbpobnpaa.ME
open Go
set_option linter.unusedVariables false
set_option linter.unusedSimpArgs false
set_option maxRecDepth 20000

theorem lFits3 (k : Int) (A : Option Addr) (m c : Nat) (w : World) : Calls Try.prog 92 #[.agg #[.int .u32 k, .slice A m c]] w (GivesB w) := by
  refine enter (n := 7) Try.func92 rfl Try.ntmps92 (by kernel_rfl) fun a hE => ?_
  have hW := WOk.start w Nil
  refine go_seq_region [0, 1] (by kernel_rfl) ?_
  refine of_op (wpOp_box hW hE (d := 1) (cs := [.int .u32 k, .slice A m c]) (by kernel_rfl) fun b1 a2 w3 hb4 hz5 hF6 hW7 hE8 => ?_)
  clear hE hW
  refine go_rn [1] [] [(1, .p 0 0)] hW7 hE8 fun a9 hE10 => ?_
  clear hE8
  refine wpOps_nil ?_
  refine then_normal ?_
  refine wp_seq ?_
  refine go_sp [(6, .v (.bool (decide (((m : Nat) : Int) > 2147483647))))] hW7 hE10 fun a11 hE12 => ?_
  clear hE10
  refine cond_of hE12 (b := decide (((m : Nat) : Int) > 2147483647)) (by kernel_rfl) (fun hc13 => ?_) (fun hc13 => ?_)
  ·
    have hf14 := of_decide_eq_true hc13
    refine go_sp [(2, .v (.bool false))] hW7 hE12 fun a15 hE16 => ?_
    clear hE12
    refine wp_ret ?_
    refine then_ret ?_
    refine leave hE16 hW7.cells (v := .bool false) (by kernel_rfl) ?_
    exact ⟨_, rfl, hW7.step⟩
  ·
    have hf17 := of_decide_eq_false hc13
    refine wp_skip ?_
    refine then_normal ?_
    refine go_sp [(2, .v (.bool true))] hW7 hE12 fun a18 hE19 => ?_
    clear hE12
    refine wp_ret ?_
    refine leave hE19 hW7.cells (v := .bool true) (by kernel_rfl) ?_
    exact ⟨_, rfl, hW7.step⟩

theorem lFits2 (A : Option Addr) (c : Nat) (u : List (Int × Bs)) (w : World) (F : Nat → Nat → Prop) (hu : TagsR w F A c u) : Calls Try.prog 41 #[.slice A u.length c] w (GivesB w) := by
  obtain ⟨xu, h1, h2⟩ := hu.ex
  have hsm := h1.small
  refine enter (n := 18) Try.func41 rfl Try.ntmps41 (by kernel_rfl) fun a hE => ?_
  have hW := WOk.start w Nil
  refine go_sp [(0, .v (.slice A u.length c))] hW hE fun a1 hE2 => ?_
  clear hE
  refine wp_seq ?_
  refine go_sp [(0, .v (.slice A u.length c)), (7, .v (.bool (decide (((u.length : Nat) : Int) > 2147483647))))] hW hE2 fun a3 hE4 => ?_
  clear hE2
  refine cond_of hE4 (b := decide (((u.length : Nat) : Int) > 2147483647)) (by kernel_rfl) (fun hc5 => ?_) (fun hc5 => ?_)
  ·
    have hf6 := of_decide_eq_true hc5
    refine go_sp [(2, .v (.bool false))] hW hE4 fun a7 hE8 => ?_
    clear hE4
    refine wp_ret ?_
    refine then_ret ?_
    refine leave hE8 hW.cells (v := .bool false) (by kernel_rfl) ?_
    exact ⟨_, rfl, hW.step⟩
  ·
    have hf9 := of_decide_eq_false hc5
    refine wp_skip ?_
    refine then_normal ?_
    refine wp_seq ?_
    refine go_sp [(8, .v (.slice A u.length c)), (9, .v (.int .i64 ((u.length : Nat) : Int))), (10, .v (.int .i64 0))] hW hE4 fun a10 hE11 => ?_
    clear hE4
    refine wp_block ?_
    refine wp_loop_ghost (fun n_ a_ w_ => ∃ (k : Nat), n_ = u.length - k ∧ k ≤ u.length ∧ LInv hW 18 [] [] [(8, .v (.slice A u.length c)), (9, .v (.int .i64 ((u.length : Nat) : Int))), (10, .v (.int .i64 ((k : Nat) : Int)))] a_ w_) (u.length) ⟨0, by omega, by omega, hE11.pk, hW, Fr.refl _ _ _⟩ ?_
    clear hE11
    rintro n12 a13 w14 ⟨k, hn17, hk18, hE15, hW16, hF19⟩
    refine go_sp [(8, .v (.slice A u.length c)), (9, .v (.int .i64 ((u.length : Nat) : Int))), (10, .v (.int .i64 ((k : Nat) : Int))), (11, .v (.bool (decide (((k : Nat) : Int) < ((u.length : Nat) : Int)))))] hW16 hE15 fun a20 hE21 => ?_
    clear hE15
    refine wp_seq ?_
    refine cond_of hE21 (b := decide (((k : Nat) : Int) < ((u.length : Nat) : Int))) (by kernel_rfl) (fun hc22 => ?_) (fun hc22 => ?_)
    ·
      have hf23 := of_decide_eq_true hc22
      refine wp_skip ?_
      refine then_normal ?_
      refine wp_seq ?_
      refine wp_block ?_
      refine go_seq_region [0, 1, 2, 3] (by kernel_rfl) ?_
      obtain ⟨b24, o25, hA26, hl27, hat28⟩ := Slots.get h1 (i := k) (by omega)
      obtain ⟨⟨k29, s30⟩, he31⟩ : ∃ x, u[k]? = some x := ⟨_, List.getElem?_eq_getElem (by omega)⟩
      obtain ⟨⟨A32, c33, hcs34, hb35⟩, h36, h37⟩ := h2 k k29 s30 he31
      rw [hcs34] at hat28
      refine of_op (wpOp_index hE21 (t := 24) (A := A) (m := u.length) (q := ((k : Nat) : Int)) (d := 12) (by kernel_rfl) (e := 61) (size := 2) (bytes := 32) (by kernel_rfl) hA26 rfl (by omega) fun a38 hE39 => ?_)
      clear hE21
      refine of_op (wpOp_load hE39 (t := 61) (b := b24) (o := o25 + k * 2) (d := 13) (by kernel_rfl) (cs := [.int .u32 k29, .slice A32 s30.length c33]) (v := .agg #[.int .u32 k29, .slice A32 s30.length c33]) (by kernel_rfl) (AtF.move hat28 hW16.step nilM keepF).at_ fun a40 hE41 => ?_)
      clear hE39
      refine of_op (wpOp_alloc hW16 hE41 (d := 4) (cs := [.int .u32 0, .slice none 0 0]) (by kernel_rfl) fun b42 a43 w44 hb45 hz46 hF47 hW48 hE49 => ?_)
      clear hE41 hW16
      refine of_op (wpOp_store hW48 hE49 (oi := 0) (cs := [.int .u32 k29, .slice A32 s30.length c33]) (by kernel_rfl) fun w50 hF51 hW52 hE53 => ?_)
      clear hE49 hW48
      refine wpOps_nil ?_
      refine then_normal ?_
      refine go_seq_region [0, 1, 2] (by kernel_rfl) ?_
      refine go_rn [0] [1, 2] [(8, .v (.slice A u.length c)), (9, .v (.int .i64 ((u.length : Nat) : Int))), (10, .v (.int .i64 ((k : Nat) : Int))), (14, .v (.agg #[.int .u32 k29, .slice A32 s30.length c33]))] hW52 hE53 fun a54 hE55 => ?_
      clear hE53
      refine of_op (wpOp_call hE55 (f := 92) (vs := [.agg #[.int .u32 k29, .slice A32 s30.length c33]]) (d := 15) (by kernel_rfl) Try.call92 (lFits3 _ _ _ _ _) ?_)
      rintro e_ w58 ⟨b57, rfl, hs56⟩
      refine ⟨_, rfl, fun a59 hE60 => ?_⟩
      have hW61 := hW52.next_nil hs56
      have hF62 := hW52.frN hs56
      clear hE55 hW52
      refine go_rn [2] [] [(8, .v (.slice A u.length c)), (9, .v (.int .i64 ((u.length : Nat) : Int))), (10, .v (.int .i64 ((k : Nat) : Int))), (16, .v (.bool (!b57)))] hW61 hE60 fun a63 hE64 => ?_
      clear hE60
      refine wpOps_nil ?_
      refine then_normal ?_
      refine cond_of hE64 (b := !b57) (by kernel_rfl) (fun hc65 => ?_) (fun hc65 => ?_)
      ·
        refine go_sp [(2, .v (.bool false))] hW61 hE64 fun a67 hE68 => ?_
        clear hE64
        refine wp_ret ?_
        refine block_ret ?_
        refine then_ret ?_
        refine then_ret ?_
        refine block_ret ?_
        refine then_ret ?_
        refine leave hE68 hW61.cells (v := .bool false) (by kernel_rfl) ?_
        exact ⟨_, rfl, hW61.step⟩
      ·
        refine wp_skip ?_
        refine block_normal ?_
        refine then_normal ?_
        refine go_region [0, 1] (by kernel_rfl) ?_
        refine go_rn [0, 1] [] [(8, .v (.slice A u.length c)), (9, .v (.int .i64 ((u.length : Nat) : Int))), (10, .v (.int .i64 (IntKind.i64.wrap (((k : Nat) : Int) + 1))))] hW61 hE64 fun a70 hE71 => ?_
        clear hE64
        refine wpOps_nil ?_
        refine then_normal ?_
        obtain ⟨hE72, hW73, hF74⟩ := hW61.cutB hE71 0 [] [(8, .v (.slice A u.length c)), (9, .v (.int .i64 ((u.length : Nat) : Int))), (10, .v (.int .i64 (IntKind.i64.wrap (((k : Nat) : Int) + 1))))]
        have he75 : IntKind.i64.wrap (((k : Nat) : Int) + 1) = ((k + 1 : Nat) : Int) := wrap_succ (by omega)
        rw [he75] at hE72
        exact ⟨u.length - (k + 1), by omega, k + 1, rfl, by omega, hE72.pk, hW73, (Fr.trans (Fr.trans (Fr.trans (Fr.trans hF19 hF47) hF51) hF62) hF74)⟩
    ·
      have hf76 := of_decide_eq_false hc22
      refine wp_exit ?_
      refine then_exit ?_
      refine then_exit ?_
      refine block_exit ?_
      refine then_normal ?_
      refine go_sp [(2, .v (.bool true))] hW16 hE21 fun a77 hE78 => ?_
      clear hE21
      refine wp_ret ?_
      refine leave hE78 hW16.cells (v := .bool true) (by kernel_rfl) ?_
      exact ⟨_, rfl, hW16.step⟩

theorem lFits1 (ct : List Value) (t : Tree) (w : World) (F : Nat → Nat → Prop) (ht : TreeR w F ct t) : Calls Try.prog 11 #[.agg ct.toArray] w (GivesB w) := by
  obtain ⟨n1, s2, b3, l4, u5, A6, c7, A8, c9, A10, c11, xs12, rfl, rfl, h14, h15, h16, h17⟩ := ht.open_
  have hsm19 := h14.small
  have hsm20 := h15.small
  refine enter (n := 15) Try.func11 rfl Try.ntmps11 (by kernel_rfl) fun a hE => ?_
  have hW := WOk.start w Nil
  refine go_seq_region [0, 1] (by kernel_rfl) ?_
  refine of_op (wpOp_box hW hE (d := 1) (cs := [.int .i64 n1, .slice A6 s2.length c7, .bool b3, .slice A8 l4.length c9, .slice A10 u5.length c11]) (by kernel_rfl) fun b21 a22 w23 hb24 hz25 hF26 hW27 hE28 => ?_)
  clear hE hW
  refine go_rn [1] [] [(1, .p 0 0)] hW27 hE28 fun a29 hE30 => ?_
  clear hE28
  refine wpOps_nil ?_
  refine then_normal ?_
  refine wp_seq ?_
  refine go_sp [(1, .p 0 0), (6, .v (.bool (decide (((s2.length : Nat) : Int) > 2147483647))))] hW27 hE30 fun a31 hE32 => ?_
  clear hE30
  refine cond_of hE32 (b := decide (((s2.length : Nat) : Int) > 2147483647)) (by kernel_rfl) (fun hc33 => ?_) (fun hc33 => ?_)
  ·
    have hf34 := of_decide_eq_true hc33
    refine go_sp [(2, .v (.bool false))] hW27 hE32 fun a35 hE36 => ?_
    clear hE32
    refine wp_ret ?_
    refine then_ret ?_
    refine leave hE36 hW27.cells (v := .bool false) (by kernel_rfl) ?_
    exact ⟨_, rfl, hW27.step⟩
  ·
    have hf37 := of_decide_eq_false hc33
    refine wp_skip ?_
    refine then_normal ?_
    refine wp_seq ?_
    refine go_sp [(1, .p 0 0), (10, .v (.bool (decide (((l4.length : Nat) : Int) > 2147483647))))] hW27 hE32 fun a38 hE39 => ?_
    clear hE32
    refine cond_of hE39 (b := decide (((l4.length : Nat) : Int) > 2147483647)) (by kernel_rfl) (fun hc40 => ?_) (fun hc40 => ?_)
    ·
      have hf41 := of_decide_eq_true hc40
      refine go_sp [(2, .v (.bool false))] hW27 hE39 fun a42 hE43 => ?_
      clear hE39
      refine wp_ret ?_
      refine then_ret ?_
      refine leave hE43 hW27.cells (v := .bool false) (by kernel_rfl) ?_
      exact ⟨_, rfl, hW27.step⟩
    ·
      have hf44 := of_decide_eq_false hc40
      refine wp_skip ?_
      refine then_normal ?_
      refine wp_seq ?_
      refine go_seq_region [0, 1, 2, 3] (by kernel_rfl) ?_
      refine go_rn [0, 1] [2, 3] [(12, .v (.slice A10 u5.length c11))] hW27 hE39 fun a45 hE46 => ?_
      clear hE39
      refine of_op (wpOp_call hE46 (f := 41) (vs := [.slice A10 u5.length c11]) (d := 13) (by kernel_rfl) Try.call41 (lFits2 _ _ u5 _ _ (h17.move hW27.step nilM hW27.imm)) ?_)
      rintro e_ w49 ⟨b48, rfl, hs47⟩
      refine ⟨_, rfl, fun a50 hE51 => ?_⟩
      have hW52 := hW27.next_nil hs47
      have hF53 := hW27.frN hs47
      clear hE46 hW27
      refine go_rn [3] [] [(14, .v (.bool (!b48)))] hW52 hE51 fun a54 hE55 => ?_
      clear hE51
      refine wpOps_nil ?_
      refine then_normal ?_
      refine cond_of hE55 (b := !b48) (by kernel_rfl) (fun hc56 => ?_) (fun hc56 => ?_)
      ·
        refine go_sp [(2, .v (.bool false))] hW52 hE55 fun a58 hE59 => ?_
        clear hE55
        refine wp_ret ?_
        refine then_ret ?_
        refine leave hE59 hW52.cells (v := .bool false) (by kernel_rfl) ?_
        exact ⟨_, rfl, hW52.step⟩
      ·
        refine wp_skip ?_
        refine then_normal ?_
        refine go_sp [(2, .v (.bool true))] hW52 hE55 fun a61 hE62 => ?_
        clear hE55
        refine wp_ret ?_
        refine leave hE62 hW52.cells (v := .bool true) (by kernel_rfl) ?_
        exact ⟨_, rfl, hW52.step⟩

theorem lVersion (x m : Int) (hx : 0 ≤ x) (hx' : x < 256) (hm : 0 ≤ m) (hm' : m < 32768) (w : World) : Calls Try.prog 14 #[.int .u8 x, .int .i64 m] w (Gives w (.int .i64 (Int.tmod x (m + 1)))) := by
  refine enter (n := 10) Try.func14 rfl Try.ntmps14 (by kernel_rfl) fun a hE => ?_
  have hW := WOk.start w Nil
  refine go_sp [(0, .v (.int .u8 x)), (1, .v (.int .i64 m))] hW hE fun a1 hE2 => ?_
  clear hE
  refine go_seq_region [0, 1, 2, 3, 4, 5] (by kernel_rfl) ?_
  refine go_rn [0, 1, 2, 3] [4, 5] [(6, .v (.int .i64 (IntKind.i64.wrap x))), (8, .v (.int .i64 (IntKind.i64.wrap (m + 1))))] hW hE2 fun a3 hE4 => ?_
  clear hE2
  refine of_op (wpOp_rem hE4 (k := .i64) (p := (IntKind.i64.wrap x)) (q := (IntKind.i64.wrap (m + 1))) (d := 9) (by kernel_rfl) (by simp only [IntKind.wrap_i64]; omega) fun a5 hE6 => ?_)
  clear hE4
  refine go_rn [5] [] [(4, .v (.int .i64 (Int.tmod (IntKind.i64.wrap x) (IntKind.i64.wrap (m + 1)))))] hW hE6 fun a7 hE8 => ?_
  clear hE6
  refine wpOps_nil ?_
  refine then_normal ?_
  refine wp_ret ?_
  refine leave hE8 hW.cells (v := .int .i64 (Int.tmod (IntKind.i64.wrap x) (IntKind.i64.wrap (m + 1)))) (by kernel_rfl) ?_
  exact ⟨by rw [wrap_i64 (by omega) (by omega), wrap_i64 (by omega) (by omega)], hW.step⟩

end Go.Proofs.Ytbjopfcbpobnpaa.ME

/- Printed by tools/mk.py. Own work. -/
namespace Go.Proofs.Ytbjopfcbpobnpaa.ME
open Go
open Go.RowKit
set_option linter.unusedVariables false
set_option linter.unusedSimpArgs false
set_option maxRecDepth 20000

def clElectLeadersResponseTopicPartition (d : DV) : List Value := [.int .i32 ((d.f 0).n), .int .i16 ((d.f 1).n), .pointer ((d.f 2).A), .map d.m]
theorem oneElectLeadersResponseTopicPartition : ∀ d, ∀ u ∈ clElectLeadersResponseTopicPartition d, u.oneCell' = true := fun d => allOne_ok (by kernel_rfl)
theorem mvElectLeadersResponseTopicPartition : Moves okElectLeadersResponseTopicPartition := by
  intro w w' F F' M d hs hM hF h
  unfold okElectLeadersResponseTopicPartition at h ⊢
  obtain ⟨g0, g1, ⟨g2, g2l⟩, t1, t2, t3, _⟩ := h
  exact ⟨g0, g1, ⟨fun ad hA => by
    obtain ⟨b, o, h1, h2⟩ := g2 ad hA
    exact ⟨b, o, h1, h2.move hs hM hF⟩, g2l⟩, t1.move hs hM hF, t2, t3, trivial⟩

def clElectLeadersResponseTopic (d : DV) : List Value := [.string ((d.f 0).s), .slice ((d.f 1).A) ((d.f 1).l) ((d.f 1).c), .map d.m]
theorem oneElectLeadersResponseTopic : ∀ d, ∀ u ∈ clElectLeadersResponseTopic d, u.oneCell' = true := fun d => allOne_ok (by kernel_rfl)
theorem mvElectLeadersResponseTopic : Moves okElectLeadersResponseTopic := by
  intro w w' F F' M d hs hM hF h
  unfold okElectLeadersResponseTopic at h ⊢
  obtain ⟨g0, ⟨g1, g1l, g1e⟩, t1, t2, t3, _⟩ := h
  exact ⟨g0, ⟨g1.move hs hM hF, g1l, fun i hi => mvElectLeadersResponseTopicPartition _ hs hM hF (g1e i hi)⟩, t1.move hs hM hF, t2, t3, trivial⟩

set_option maxHeartbeats 4000000 in
theorem eElectLeadersResponseTopicPartition (ct : List Value) (t : Tree) (w : World) (F : Nat → Nat → Prop) (ht : TreeR w F ct t) (hc : canElectLeadersResponseTopicPartition t) :
    Calls Try.prog 149 #[.agg ct.toArray] w (fun e w' => ∃ D : DV, e = .returned (.agg #[.int .i32 ((D.f 0).n), .int .i16 ((D.f 1).n), .pointer ((D.f 2).A), .map D.m]) ∧ okElectLeadersResponseTopicPartition w' (Fp F w) D ∧ relElectLeadersResponseTopicPartition D t ∧ Step w w' Nil) := by
  obtain ⟨n1, s2, b3, l4, u5, A6, c7, A8, c9, A10, c11, xs12, rfl, rfl, h14, h15, h16, h17⟩ := ht.open_
  have hsm19 := h14.small
  have hsm20 := h15.small
  unfold canElectLeadersResponseTopicPartition at hc
  obtain ⟨c0, c1, c2, cU, _⟩ := hc
  have hsort := cU.1
  replace hsort : Sorted u5 := hsort
  have hul : u5.length ≤ 1000000 := cU.2.1
  refine enter (n := 35) Try.func149 rfl Try.ntmps149 (by kernel_rfl) fun a hE => ?_
  have hW := WOk.start w Nil
  refine go_seq_region [0, 1] (by kernel_rfl) ?_
  refine of_op (wpOp_box hW hE (d := 1) (cs := [.int .i64 n1, .slice A6 s2.length c7, .bool b3, .slice A8 l4.length c9, .slice A10 u5.length c11]) (by kernel_rfl) fun b21 a22 w23 hb24 hz25 hF26 hW27 hE28 => ?_)
  clear hE hW
  refine of_op (wpOp_alloc hW27 hE28 (d := 2) (cs := [.int .i32 0, .int .i16 0, .pointer none, .map none]) (by kernel_rfl) fun b29 a30 w31 hb32 hz33 hF34 hW35 hE36 => ?_)
  clear hE28 hW27
  refine wpOps_nil ?_
  refine then_normal ?_
  refine go_seq_region [0] (by kernel_rfl) ?_
  refine of_op (wpOp_alloc hW35 hE36 (d := 3) (cs := [.int .i32 0, .int .i16 0, .pointer none, .map none]) (by kernel_rfl) fun b37 a38 w39 hb40 hz41 hF42 hW43 hE44 => ?_)
  clear hE36 hW35
  refine wpOps_nil ?_
  refine then_normal ?_
  refine go_seq_region [0, 1, 2, 3, 4, 5] (by kernel_rfl) ?_
  refine go_rn [0] [1, 2, 3, 4, 5] [(1, .p 0 0), (2, .p 1 0), (3, .p 2 0), (6, .v (.agg #[.int .i64 n1, .slice A6 s2.length c7, .bool b3, .slice A8 l4.length c9, .slice A10 u5.length c11]))] hW43 hE44 fun a45 hE46 => ?_
  clear hE44
  refine of_op (wpOp_call hE46 (f := 95) (vs := [.agg #[.int .i64 n1, .slice A6 s2.length c7, .bool b3, .slice A8 l4.length c9, .slice A10 u5.length c11], .int .i64 0]) (d := 7) (by kernel_rfl) Try.call95 (iAt _ _ 0 _ _ (ht.move hW43.step nilM hW43.imm)) ?_)
  rintro e_ w50 ⟨cs49, rfl, hr48, hs47⟩
  have hr51 := hr48.move hs47 nilM (fun b o h_ hb_ => hW43.laid (G := F) hs47 b o (.inl h_) (Nat.lt_of_lt_of_le hb_ hs47.size))
  obtain ⟨n52, s53, b54, l55, u56, A57, c58, A59, c60, A61, c62, xs63, ht69, hcs64, h65, h66, h67, h68⟩ := hr51.open_
  rw [hcs64] at hr51
  have hsm70 := h65.small
  have hsm71 := h66.small
  rw [hcs64]
  refine ⟨_, rfl, fun a72 hE73 => ?_⟩
  have hW74 := hW43.next_nil hs47
  have hF75 := hW43.frN hs47
  clear hE46
  refine go_rn [2, 3, 4] [5] [(1, .p 0 0), (2, .p 1 0), (3, .p 2 0), (9, .v (.int .i32 (IntKind.i32.wrap n52))), (10, .p 2 0)] hW74 hE73 fun a76 hE77 => ?_
  clear hE73
  refine of_op (wpOp_store hW74 hE77 (oi := 2) (cs := [.int .i32 (IntKind.i32.wrap n52), .int .i16 0, .pointer none, .map none]) (by kernel_rfl) fun w78 hF79 hW80 hE81 => ?_)
  clear hE77 hW74
  refine wpOps_nil ?_
  refine then_normal ?_
  refine go_seq_region [0, 1, 2, 3, 4, 5] (by kernel_rfl) ?_
  refine go_rn [0] [1, 2, 3, 4, 5] [(1, .p 0 0), (2, .p 1 0), (3, .p 2 0), (11, .v (.agg #[.int .i64 n1, .slice A6 s2.length c7, .bool b3, .slice A8 l4.length c9, .slice A10 u5.length c11]))] hW80 hE81 fun a82 hE83 => ?_
  clear hE81
  refine of_op (wpOp_call hE83 (f := 95) (vs := [.agg #[.int .i64 n1, .slice A6 s2.length c7, .bool b3, .slice A8 l4.length c9, .slice A10 u5.length c11], .int .i64 1]) (d := 12) (by kernel_rfl) Try.call95 (iAt _ _ 1 _ _ (ht.move hW80.step nilM hW80.imm)) ?_)
  rintro e_ w87 ⟨cs86, rfl, hr85, hs84⟩
  have hr88 := hr85.move hs84 nilM (fun b o h_ hb_ => hW80.laid (G := F) hs84 b o (.inl h_) (Nat.lt_of_lt_of_le hb_ hs84.size))
  obtain ⟨n89, s90, b91, l92, u93, A94, c95, A96, c97, A98, c99, xs100, ht106, hcs101, h102, h103, h104, h105⟩ := hr88.open_
  rw [hcs101] at hr88
  have hsm107 := h102.small
  have hsm108 := h103.small
  rw [hcs101]
  refine ⟨_, rfl, fun a109 hE110 => ?_⟩
  have hW111 := hW80.next_nil hs84
  have hF112 := hW80.frN hs84
  clear hE83
  refine go_rn [2, 3, 4] [5] [(1, .p 0 0), (2, .p 1 0), (3, .p 2 0), (14, .v (.int .i16 (IntKind.i16.wrap n89))), (15, .p 2 1)] hW111 hE110 fun a113 hE114 => ?_
  clear hE110
  refine of_op (wpOp_store hW111 hE114 (oi := 2) (cs := [.int .i32 (IntKind.i32.wrap n52), .int .i16 (IntKind.i16.wrap n89), .pointer none, .map none]) (by kernel_rfl) fun w115 hF116 hW117 hE118 => ?_)
  clear hE114 hW111
  refine wpOps_nil ?_
  refine then_normal ?_
  refine go_seq_region [0, 1, 2, 3, 4] (by kernel_rfl) ?_
  refine go_rn [0] [1, 2, 3, 4] [(1, .p 0 0), (2, .p 1 0), (3, .p 2 0), (16, .v (.agg #[.int .i64 n1, .slice A6 s2.length c7, .bool b3, .slice A8 l4.length c9, .slice A10 u5.length c11]))] hW117 hE118 fun a119 hE120 => ?_
  clear hE118
  refine of_op (wpOp_call hE120 (f := 95) (vs := [.agg #[.int .i64 n1, .slice A6 s2.length c7, .bool b3, .slice A8 l4.length c9, .slice A10 u5.length c11], .int .i64 2]) (d := 17) (by kernel_rfl) Try.call95 (iAt _ _ 2 _ _ (ht.move hW117.step nilM hW117.imm)) ?_)
  rintro e_ w124 ⟨cs123, rfl, hr122, hs121⟩
  have hr125 := hr122.move hs121 nilM (fun b o h_ hb_ => hW117.laid (G := F) hs121 b o (.inl h_) (Nat.lt_of_lt_of_le hb_ hs121.size))
  obtain ⟨n126, s127, b128, l129, u130, A131, c132, A133, c134, A135, c136, xs137, ht143, hcs138, h139, h140, h141, h142⟩ := hr125.open_
  rw [hcs138] at hr125
  have hsm144 := h139.small
  have hsm145 := h140.small
  rw [hcs138]
  refine ⟨_, rfl, fun a146 hE147 => ?_⟩
  have hW148 := hW117.next_nil hs121
  have hF149 := hW117.frN hs121
  clear hE120
  refine of_op (wpOp_call hE147 (f := 111) (vs := [.agg #[.int .i64 n126, .slice A131 s127.length c132, .bool b128, .slice A133 l129.length c134, .slice A135 u130.length c136]]) (d := 18) (by kernel_rfl) Try.call111 (kTextOf _ (Tree.at_ (Tree.mk n1 s2 b3 l4 u5) 2) _ _ hr125) ?_)
  rintro e_ w156 ⟨A153, rfl, hr151, hn152, hs150⟩
  have hr155 : ∀ ad, A153 = some ad → ∃ b o, ad = ⟨b, o, none⟩ ∧ AtF _ _ b o [.string (bs (octOf (Tree.at_ (Tree.mk n1 s2 b3 l4 u5) 2)))] := fun ad h => by
      obtain ⟨b, o, g1, g2⟩ := hr151 ad h
      exact ⟨b, o, g1, g2.move (Step.refl _ Nil) nilM (hW148.laid (G := F) hs150)⟩
  refine ⟨_, rfl, fun a157 hE158 => ?_⟩
  have hW159 := hW148.next_nil hs150
  have hF160 := hW148.frN hs150
  clear hE147
  refine go_rn [3] [4] [(1, .p 0 0), (2, .p 1 0), (3, .p 2 0), (18, .v (.pointer A153)), (19, .p 2 2)] hW159 hE158 fun a161 hE162 => ?_
  clear hE158
  refine of_op (wpOp_store hW159 hE162 (oi := 2) (cs := [.int .i32 (IntKind.i32.wrap n52), .int .i16 (IntKind.i16.wrap n89), .pointer A153, .map none]) (by kernel_rfl) fun w163 hF164 hW165 hE166 => ?_)
  clear hE162 hW159
  refine wpOps_nil ?_
  refine then_normal ?_
  refine wp_seq ?_
  refine go_sp [(2, .p 1 0), (3, .p 2 0), (21, .v (.slice A10 u5.length c11)), (22, .v (.int .i64 ((u5.length : Nat) : Int))), (23, .v (.int .i64 0))] hW165 hE166 fun a167 hE168 => ?_
  clear hE166
  refine wp_block ?_
  have hp169 := new_of hW165 2 rfl (by kernel_rfl)
  have hE173 := hE168.recast 2 (.p 1 0) (.v (.pointer (some ⟨b29, 0, none⟩))) rfl rfl trivial
  have hE174 := hE173.recast 3 (.p 2 0) (.v (.pointer (some ⟨b37, 0, none⟩))) rfl rfl trivial
  have hE171 := (hE174.pick (ks := [2, 3, 21, 22, 23]) (env' := [(2, .v (.pointer (some ⟨b29, 0, none⟩))), (3, .v (.pointer (some ⟨b37, 0, none⟩))), (21, .v (.slice A10 u5.length c11)), (22, .v (.int .i64 ((u5.length : Nat) : Int))), (23, .v (.int .i64 0))]) (by kernel_rfl)).cutTb 0 (by kernel_rfl)
  refine wp_loop_ghost (fun q a_ w_ => ∃ (j : Nat) (m_ : Option Nat), q = u5.length - j ∧ j ≤ u5.length ∧ EnvOk 35 [] [(2, .v (.pointer (some ⟨b29, 0, none⟩))), (3, .v (.pointer (some ⟨b37, 0, none⟩))), (21, .v (.slice A10 u5.length c11)), (22, .v (.int .i64 ((u5.length : Nat) : Int))), (23, .v (.int .i64 ((j : Nat) : Int)))] a_ ∧ TL w w163 w_ F b37 3 [.int .i32 (IntKind.i32.wrap n52), .int .i16 (IntKind.i16.wrap n89), .pointer A153, .map none] m_ (u5.take j)) u5.length
    ⟨0, none, by omega, by omega, hE171, TL.start hW165 2 rfl rfl⟩ ?_
  rintro q aq wq ⟨j, m_, rfl, hj, hE2, hT⟩
  have hWq := WOk.start wq Nil
  refine go_sp [(2, .v (.pointer (some ⟨b29, 0, none⟩))), (3, .v (.pointer (some ⟨b37, 0, none⟩))), (21, .v (.slice A10 u5.length c11)), (22, .v (.int .i64 ((u5.length : Nat) : Int))), (23, .v (.int .i64 ((j : Nat) : Int))), (24, .v (.bool (decide (((j : Nat) : Int) < ((u5.length : Nat) : Int)))))] hWq hE2 fun aq2 hE3 => wp_seq ?_
  refine cond_of hE3 (b := decide (((j : Nat) : Int) < ((u5.length : Nat) : Int))) (by kernel_rfl) (fun hc => ?_) (fun hc => ?_)
  · have hlt : j < u5.length := by have := of_decide_eq_true hc; omega
    refine wp_skip (then_normal (wp_seq (wp_block ?_)))
    obtain ⟨⟨k, x⟩, hu⟩ : ∃ y, u5[j]? = some y := ⟨_, List.getElem?_eq_getElem hlt⟩
    obtain ⟨bb, bo, xA, xc, hA, hat, hxo, hk⟩ := tag_at h17 hu
    refine go_seq_region [0, 1, 2, 3] (by kernel_rfl) ?_
    refine of_op (wpOp_index hE3 (t := 37) (e := 62) (size := 2) (bytes := 32) (d := 25) (b := bb) (o := bo) (m := u5.length) (j := j) (by kernel_rfl) (by kernel_rfl) hA rfl hlt fun aq3 hE4 => ?_)
    refine of_op (wpOp_load hE4 (t := 62) (d := 26) (cs := [.int .u32 k, .slice xA x.length xc]) (v := .agg #[.int .u32 k, .slice xA x.length xc]) (by kernel_rfl) (by kernel_rfl) (hat.step_nil hT.step) fun aq4 hE5 => ?_)
    refine of_op (wpOp_alloc hWq hE5 (d := 5) (cs := [.int .u32 0, .slice none 0 0]) (by kernel_rfl) fun bx aq5 wq2 hbx hbx0 hFq2 hWq2 hE6 => ?_)
    refine of_op (wpOp_store hWq2 hE6 (oi := 0) (cs := [.int .u32 k, .slice xA x.length xc]) (by kernel_rfl) fun wq3 hFq3 hWq3 hE7 => wpOps_nil (then_normal ?_))
    refine go_region [0, 1, 2, 3, 4, 5] (by kernel_rfl) (go_rn [0, 1, 2, 3, 4] [5] [(2, .v (.pointer (some ⟨b29, 0, none⟩))), (3, .v (.pointer (some ⟨b37, 0, none⟩))), (21, .v (.slice A10 u5.length c11)), (22, .v (.int .i64 ((u5.length : Nat) : Int))), (23, .v (.int .i64 ((j : Nat) : Int))), (27, .v (.pointer (some ⟨b37, 3, none⟩))), (29, .v (.int .u32 k)), (31, .v (.slice xA x.length xc))] hWq3 hE7 fun aq6 hE8 => ?_)
    refine of_op (wpOp_call hE8 (f := 96) (vs := [.pointer (some ⟨b37, 3, none⟩), .int .u32 k, .slice xA x.length xc]) (d := 32) (by kernel_rfl) Try.call96 ((hT.move hWq3.step).set hp169 (by kernel_rfl) hsort hu hxo hk) ?_)
    rintro e_ wq5 ⟨rfl, hS5, r, hT5⟩
    refine ⟨_, rfl, fun aq7 hE9 => wpOps_nil (block_normal (then_normal ?_))⟩
    have hE10 := (hE9.pick (ks := [2, 3, 21, 22, 23]) (env' := [(2, .v (.pointer (some ⟨b29, 0, none⟩))), (3, .v (.pointer (some ⟨b37, 0, none⟩))), (21, .v (.slice A10 u5.length c11)), (22, .v (.int .i64 ((u5.length : Nat) : Int))), (23, .v (.int .i64 ((j : Nat) : Int)))]) (by kernel_rfl)).cutTb 0 (by kernel_rfl)
    refine go_region [0, 1] (by kernel_rfl) (go_rn [0, 1] [] [(2, .v (.pointer (some ⟨b29, 0, none⟩))), (3, .v (.pointer (some ⟨b37, 0, none⟩))), (21, .v (.slice A10 u5.length c11)), (22, .v (.int .i64 ((u5.length : Nat) : Int))), (23, .v (.int .i64 (IntKind.i64.wrap (((j : Nat) : Int) + 1))))] (WOk.start wq5 Nil) hE10 fun aq8 hE11 => wpOps_nil (then_normal ?_))
    rw [wrap_succ (by omega)] at hE11
    exact ⟨u5.length - (j + 1), by omega, j + 1, some r, rfl, by omega, hE11, hT5⟩
  · obtain rfl : j = u5.length := by have := of_decide_eq_false hc; omega
    refine wp_exit (then_exit (then_exit (block_exit ?_)))
    rw [List.take_length] at hT
    obtain ⟨hW175, hF176⟩ := hT.tab hW165 2 [⟨b21, 0, [.int .i64 n1, .slice A6 s2.length c7, .bool b3, .slice A8 l4.length c9, .slice A10 u5.length c11], true⟩, ⟨b29, 0, [.int .i32 0, .int .i16 0, .pointer none, .map none], true⟩, ⟨b37, 0, [.int .i32 (IntKind.i32.wrap n52), .int .i16 (IntKind.i16.wrap n89), .pointer A153, .map m_], true⟩] rfl
    have hM177 := hT.mapImm hW165 hW175 hF176 hsort (tags_range h17)
    have hE178 := (hE3.retable [⟨b21, 0, [.int .i64 n1, .slice A6 s2.length c7, .bool b3, .slice A8 l4.length c9, .slice A10 u5.length c11], true⟩, ⟨b29, 0, [.int .i32 0, .int .i16 0, .pointer none, .map none], true⟩, ⟨b37, 0, [.int .i32 (IntKind.i32.wrap n52), .int .i16 (IntKind.i16.wrap n89), .pointer A153, .map m_], true⟩]).recast 2 (.v (.pointer (some ⟨b29, 0, none⟩))) (.p 1 0) rfl rfl (Nat.le_of_ble_eq_true (n := 2) rfl)
    have hE179 := hE178.recast 3 (.v (.pointer (some ⟨b37, 0, none⟩))) (.p 2 0) rfl rfl (Nat.le_of_ble_eq_true (n := 3) rfl)
    have hE180 : EnvOk 35 [⟨b21, 0, [.int .i64 n1, .slice A6 s2.length c7, .bool b3, .slice A8 l4.length c9, .slice A10 u5.length c11], true⟩, ⟨b29, 0, [.int .i32 0, .int .i16 0, .pointer none, .map none], true⟩, ⟨b37, 0, [.int .i32 (IntKind.i32.wrap n52), .int .i16 (IntKind.i16.wrap n89), .pointer A153, .map m_], true⟩] [(2, .p 1 0), (3, .p 2 0)] _ := hE179.pk
    refine then_normal ?_
    refine go_seq_region [0, 1] (by kernel_rfl) ?_
    refine go_rn [0] [1] [(2, .p 1 0), (34, .v (.agg #[.int .i32 (IntKind.i32.wrap n52), .int .i16 (IntKind.i16.wrap n89), .pointer A153, .map m_]))] hW175 hE180 fun a181 hE182 => ?_
    clear hE180
    refine of_op (wpOp_store hW175 hE182 (oi := 1) (cs := [.int .i32 (IntKind.i32.wrap n52), .int .i16 (IntKind.i16.wrap n89), .pointer A153, .map m_]) (by kernel_rfl) fun w183 hF184 hW185 hE186 => ?_)
    clear hE182 hW175
    refine wpOps_nil ?_
    refine then_normal ?_
    refine wp_ret ?_
    refine leave hE186 hW185.cells (v := .agg #[.int .i32 (IntKind.i32.wrap n52), .int .i16 (IntKind.i16.wrap n89), .pointer A153, .map m_]) (by kernel_rfl) ?_
    refine ⟨dvP m_ u5 [dvN (IntKind.i32.wrap n52), dvN (IntKind.i16.wrap n89), dvT A153 (bs (octOf (Tree.at_ (Tree.mk n1 s2 b3 l4 u5) 2)))], rfl, ?_, ?_, hW185.step⟩
    · unfold okElectLeadersResponseTopicPartition
      exact ⟨trivial, trivial, ⟨fun ad h => by
      obtain ⟨b, o, g1, g2⟩ := hr155 ad h
      exact ⟨b, o, g1, ((g2.move (Fr.trans (Fr.trans hF164 hF176) hF184).step immM (Fr.trans (Fr.trans hF164 hF176) hF184).to').move (Step.refl _ Nil) nilM immOut)⟩, by show ByteArray.size (bs (octOf (Tree.at_ (Tree.mk n1 s2 b3 l4 u5) 2))) ≤ 1000000; rw [bs_size]; exact c2⟩, ((hM177.move hF184.step immM hF184.to').move (Step.refl _ Nil) nilM immOut), cU.2.1, cU.2.2, trivial⟩
    · unfold relElectLeadersResponseTopicPartition
      exact ⟨by rw [ht69]; rfl, by rw [ht106]; rfl, ⟨rfl, hn152⟩, rfl, trivial⟩

set_option maxHeartbeats 4000000 in
theorem eElectLeadersResponseTopic (ct : List Value) (t : Tree) (w : World) (F : Nat → Nat → Prop) (ht : TreeR w F ct t) (hc : canElectLeadersResponseTopic t) :
    Calls Try.prog 131 #[.agg ct.toArray] w (fun e w' => ∃ D : DV, e = .returned (.agg #[.string ((D.f 0).s), .slice ((D.f 1).A) ((D.f 1).l) ((D.f 1).c), .map D.m]) ∧ okElectLeadersResponseTopic w' (Fp F w) D ∧ relElectLeadersResponseTopic D t ∧ Step w w' Nil) := by
  obtain ⟨n1, s2, b3, l4, u5, A6, c7, A8, c9, A10, c11, xs12, rfl, rfl, h14, h15, h16, h17⟩ := ht.open_
  have hsm19 := h14.small
  have hsm20 := h15.small
  unfold canElectLeadersResponseTopic at hc
  obtain ⟨c0, ⟨c1, c1e⟩, cU, _⟩ := hc
  have hsort := cU.1
  replace hsort : Sorted u5 := hsort
  have hul : u5.length ≤ 1000000 := cU.2.1
  refine enter (n := 54) Try.func131 rfl Try.ntmps131 (by kernel_rfl) fun a hE => ?_
  have hW := WOk.start w Nil
  refine go_seq_region [0, 1] (by kernel_rfl) ?_
  refine of_op (wpOp_box hW hE (d := 1) (cs := [.int .i64 n1, .slice A6 s2.length c7, .bool b3, .slice A8 l4.length c9, .slice A10 u5.length c11]) (by kernel_rfl) fun b21 a22 w23 hb24 hz25 hF26 hW27 hE28 => ?_)
  clear hE hW
  refine of_op (wpOp_alloc hW27 hE28 (d := 2) (cs := [.string ByteArray.empty, .slice none 0 0, .map none]) (by kernel_rfl) fun b29 a30 w31 hb32 hz33 hF34 hW35 hE36 => ?_)
  clear hE28 hW27
  refine wpOps_nil ?_
  refine then_normal ?_
  refine go_seq_region [0] (by kernel_rfl) ?_
  refine of_op (wpOp_alloc hW35 hE36 (d := 3) (cs := [.string ByteArray.empty, .slice none 0 0, .map none]) (by kernel_rfl) fun b37 a38 w39 hb40 hz41 hF42 hW43 hE44 => ?_)
  clear hE36 hW35
  refine wpOps_nil ?_
  refine then_normal ?_
  refine go_seq_region [0, 1, 2, 3, 4, 5] (by kernel_rfl) ?_
  refine go_rn [0] [1, 2, 3, 4, 5] [(1, .p 0 0), (2, .p 1 0), (3, .p 2 0), (8, .v (.agg #[.int .i64 n1, .slice A6 s2.length c7, .bool b3, .slice A8 l4.length c9, .slice A10 u5.length c11]))] hW43 hE44 fun a45 hE46 => ?_
  clear hE44
  refine of_op (wpOp_call hE46 (f := 95) (vs := [.agg #[.int .i64 n1, .slice A6 s2.length c7, .bool b3, .slice A8 l4.length c9, .slice A10 u5.length c11], .int .i64 0]) (d := 9) (by kernel_rfl) Try.call95 (iAt _ _ 0 _ _ (ht.move hW43.step nilM hW43.imm)) ?_)
  rintro e_ w50 ⟨cs49, rfl, hr48, hs47⟩
  have hr51 := hr48.move hs47 nilM (fun b o h_ hb_ => hW43.laid (G := F) hs47 b o (.inl h_) (Nat.lt_of_lt_of_le hb_ hs47.size))
  obtain ⟨n52, s53, b54, l55, u56, A57, c58, A59, c60, A61, c62, xs63, ht69, hcs64, h65, h66, h67, h68⟩ := hr51.open_
  rw [hcs64] at hr51
  have hsm70 := h65.small
  have hsm71 := h66.small
  rw [hcs64]
  refine ⟨_, rfl, fun a72 hE73 => ?_⟩
  have hW74 := hW43.next_nil hs47
  have hF75 := hW43.frN hs47
  clear hE46
  refine go_rn [2] [3, 4, 5] [(1, .p 0 0), (2, .p 1 0), (3, .p 2 0), (10, .v (.slice A57 s53.length c58))] hW74 hE73 fun a76 hE77 => ?_
  clear hE73
  refine of_op (wpOp_conv hE77 (src := 22) (dst := 9) (e := 5) (d := 11) (by kernel_rfl) (by kernel_rfl) (by kernel_rfl) (by kernel_rfl) h65 fun a78 hE79 => ?_)
  clear hE77
  refine go_rn [4] [5] [(1, .p 0 0), (2, .p 1 0), (3, .p 2 0), (11, .v (.string (bs s53))), (12, .p 2 0)] hW74 hE79 fun a80 hE81 => ?_
  clear hE79
  refine of_op (wpOp_store hW74 hE81 (oi := 2) (cs := [.string (bs s53), .slice none 0 0, .map none]) (by kernel_rfl) fun w82 hF83 hW84 hE85 => ?_)
  clear hE81 hW74
  refine wpOps_nil ?_
  refine then_normal ?_
  refine wp_seq ?_
  refine go_seq_region [0, 1, 2, 3] (by kernel_rfl) ?_
  refine go_rn [0] [1, 2, 3] [(1, .p 0 0), (2, .p 1 0), (3, .p 2 0), (13, .v (.agg #[.int .i64 n1, .slice A6 s2.length c7, .bool b3, .slice A8 l4.length c9, .slice A10 u5.length c11]))] hW84 hE85 fun a86 hE87 => ?_
  clear hE85
  refine of_op (wpOp_call hE87 (f := 95) (vs := [.agg #[.int .i64 n1, .slice A6 s2.length c7, .bool b3, .slice A8 l4.length c9, .slice A10 u5.length c11], .int .i64 1]) (d := 14) (by kernel_rfl) Try.call95 (iAt _ _ 1 _ _ (ht.move hW84.step nilM hW84.imm)) ?_)
  rintro e_ w91 ⟨cs90, rfl, hr89, hs88⟩
  have hr92 := hr89.move hs88 nilM (fun b o h_ hb_ => hW84.laid (G := F) hs88 b o (.inl h_) (Nat.lt_of_lt_of_le hb_ hs88.size))
  obtain ⟨n93, s94, b95, l96, u97, A98, c99, A100, c101, A102, c103, xs104, ht110, hcs105, h106, h107, h108, h109⟩ := hr92.open_
  rw [hcs105] at hr92
  have hsm111 := h106.small
  have hsm112 := h107.small
  rw [hcs105]
  refine ⟨_, rfl, fun a113 hE114 => ?_⟩
  have hW115 := hW84.next_nil hs88
  have hF116 := hW84.frN hs88
  clear hE87
  refine go_rn [2, 3] [] [(1, .p 0 0), (2, .p 1 0), (3, .p 2 0), (16, .v (.bool (!b95)))] hW115 hE114 fun a117 hE118 => ?_
  clear hE114
  refine wpOps_nil ?_
  refine then_normal ?_
  refine wp_join (Mid := fun a_ w_ => ∃ (A_ : Option Addr) (c_ : Nat) (f_ : Nat → DV), A_.isNone = Tree.null (Tree.at_ (Tree.mk n1 s2 b3 l4 u5) 1) ∧ LstR w_ (Imm F w w_ [⟨b21, 0, [.int .i64 n1, .slice A6 s2.length c7, .bool b3, .slice A8 l4.length c9, .slice A10 u5.length c11], true⟩, ⟨b29, 0, [.string ByteArray.empty, .slice none 0 0, .map none], true⟩, ⟨b37, 0, [.string (bs s53), .slice A_ ((lst (Tree.at_ (Tree.mk n1 s2 b3 l4 u5) 1)).length) c_, .map none], true⟩] []) 4 clElectLeadersResponseTopicPartition okElectLeadersResponseTopicPartition relElectLeadersResponseTopicPartition A_ c_ f_ (lst (Tree.at_ (Tree.mk n1 s2 b3 l4 u5) 1)) ∧ LInv hW115 54 [⟨b21, 0, [.int .i64 n1, .slice A6 s2.length c7, .bool b3, .slice A8 l4.length c9, .slice A10 u5.length c11], true⟩, ⟨b29, 0, [.string ByteArray.empty, .slice none 0 0, .map none], true⟩, ⟨b37, 0, [.string (bs s53), .slice A_ ((lst (Tree.at_ (Tree.mk n1 s2 b3 l4 u5) 1)).length) c_, .map none], true⟩] [] [(1, .p 0 0), (2, .p 1 0), (3, .p 2 0)] a_ w_) ?_ ?_
  ·
    refine cond_of hE118 (b := !b95) (by kernel_rfl) (fun hc119 => ?_) (fun hc119 => ?_)
    ·
      have hnull_ : Tree.null (Tree.at_ (Tree.mk n1 s2 b3 l4 u5) 1) = false := by rw [ht110]; show b95 = false; simpa using hc119
      refine go_seq_region [0, 1, 2, 3, 4, 5, 6] (by kernel_rfl) ?_
      refine go_rn [0] [1, 2, 3, 4, 5, 6] [(1, .p 0 0), (2, .p 1 0), (3, .p 2 0), (17, .v (.agg #[.int .i64 n1, .slice A6 s2.length c7, .bool b3, .slice A8 l4.length c9, .slice A10 u5.length c11]))] hW115 hE118 fun a121 hE122 => ?_
      clear hE118
      refine of_op (wpOp_call hE122 (f := 95) (vs := [.agg #[.int .i64 n1, .slice A6 s2.length c7, .bool b3, .slice A8 l4.length c9, .slice A10 u5.length c11], .int .i64 1]) (d := 18) (by kernel_rfl) Try.call95 (iAt _ _ 1 _ _ (ht.move hW115.step nilM hW115.imm)) ?_)
      rintro e_ w126 ⟨cs125, rfl, hr124, hs123⟩
      have hr127 := hr124.move hs123 nilM (fun b o h_ hb_ => hW115.laid (G := F) hs123 b o (.inl h_) (Nat.lt_of_lt_of_le hb_ hs123.size))
      obtain ⟨n128, s129, b130, l131, u132, A133, c134, A135, c136, A137, c138, xs139, ht145, hcs140, h141, h142, h143, h144⟩ := hr127.open_
      rw [hcs140] at hr127
      have hsm146 := h141.small
      have hsm147 := h142.small
      rw [hcs140]
      refine ⟨_, rfl, fun a148 hE149 => ?_⟩
      have hW150 := hW115.next_nil hs123
      have hF151 := hW115.frN hs123
      clear hE122
      have hl3_ : lst (Tree.at_ (Tree.mk n1 s2 b3 l4 u5) 1) = l131 := by rw [lst_of hnull_, ht145]; rfl
      have hb152 : l131.length ≤ 1000000 := by have h_ := c1; rw [hl3_] at h_; exact h_
      refine go_rn [2, 3] [4, 5, 6] [(1, .p 0 0), (2, .p 1 0), (3, .p 2 0), (20, .v (.int .i64 ((l131.length : Nat) : Int)))] hW150 hE149 fun a153 hE154 => ?_
      clear hE149
      refine of_op (wpOp_make0 hW150 hE154 (d := 21) (j := l131.length) (t := 145) (e := 152) (size := 4) (bytes := 24) (by kernel_rfl) (by kernel_rfl) rfl (rfl) (by omega) fun b155 a156 w157 hb158 hz159 hF160 hW161 hE162 => ?_)
      clear hE154 hW150
      refine go_rn [5] [6] [(1, .p 0 0), (2, .p 1 0), (3, .p 2 0), (21, .v (.slice (some ⟨b155, 0, none⟩) 0 l131.length)), (22, .p 2 1)] hW161 hE162 fun a163 hE164 => ?_
      clear hE162
      refine of_op (wpOp_store hW161 hE164 (oi := 2) (cs := [.string (bs s53), .slice (some ⟨b155, 0, none⟩) 0 l131.length, .map none]) (by kernel_rfl) fun w165 hF166 hW167 hE168 => ?_)
      clear hE164 hW161
      refine wpOps_nil ?_
      refine then_normal ?_
      refine go_seq_region [0, 1, 2, 3, 4] (by kernel_rfl) ?_
      refine go_rn [0] [1, 2, 3, 4] [(1, .p 0 0), (2, .p 1 0), (3, .p 2 0), (23, .v (.agg #[.int .i64 n1, .slice A6 s2.length c7, .bool b3, .slice A8 l4.length c9, .slice A10 u5.length c11]))] hW167 hE168 fun a169 hE170 => ?_
      clear hE168
      refine of_op (wpOp_call hE170 (f := 95) (vs := [.agg #[.int .i64 n1, .slice A6 s2.length c7, .bool b3, .slice A8 l4.length c9, .slice A10 u5.length c11], .int .i64 1]) (d := 24) (by kernel_rfl) Try.call95 (iAt _ _ 1 _ _ (ht.move hW167.step nilM hW167.imm)) ?_)
      rintro e_ w174 ⟨cs173, rfl, hr172, hs171⟩
      have hr175 := hr172.move hs171 nilM (fun b o h_ hb_ => hW167.laid (G := F) hs171 b o (.inl h_) (Nat.lt_of_lt_of_le hb_ hs171.size))
      obtain ⟨n176, s177, b178, l179, u180, A181, c182, A183, c184, A185, c186, xs187, ht193, hcs188, h189, h190, h191, h192⟩ := hr175.open_
      rw [hcs188] at hr175
      have hsm194 := h189.small
      have hsm195 := h190.small
      rw [hcs188]
      refine ⟨_, rfl, fun a196 hE197 => ?_⟩
      have hW198 := hW167.next_nil hs171
      have hF199 := hW167.frN hs171
      clear hE170
      have hl3_ : lst (Tree.at_ (Tree.mk n1 s2 b3 l4 u5) 1) = l179 := by rw [lst_of hnull_, ht193]; rfl
      have hb200 : l179.length ≤ 1000000 := by have h_ := c1; rw [hl3_] at h_; exact h_
      refine go_rn [2, 3, 4] [] [(1, .p 0 0), (2, .p 1 0), (3, .p 2 0), (25, .v (.slice A183 l179.length c184)), (26, .v (.int .i64 ((l179.length : Nat) : Int))), (27, .v (.int .i64 0))] hW198 hE197 fun a201 hE202 => ?_
      clear hE197
      refine wpOps_nil ?_
      refine then_normal ?_
      refine wp_block ?_
      refine wp_loop_ghost (fun n_ a_ w_ => ∃ (k : Nat) (A_ : Option Addr) (c_ : Nat) (xs_ : List Value) (ds_ : List DV), n_ = l179.length - k ∧ k ≤ l179.length ∧ (A_.isNone = false) ∧ (RowL w_ (Imm F w w_ [⟨b21, 0, [.int .i64 n1, .slice A6 s2.length c7, .bool b3, .slice A8 l4.length c9, .slice A10 u5.length c11], true⟩, ⟨b29, 0, [.string ByteArray.empty, .slice none 0 0, .map none], true⟩, ⟨b37, 0, [.string (bs s53), .slice A_ k c_, .map none], true⟩] [⟨A_, c_, 152, 4, k, xs_⟩]) 4 clElectLeadersResponseTopicPartition okElectLeadersResponseTopicPartition relElectLeadersResponseTopicPartition xs_ ds_ (l179.take k)) ∧ LInv hW198 54 [⟨b21, 0, [.int .i64 n1, .slice A6 s2.length c7, .bool b3, .slice A8 l4.length c9, .slice A10 u5.length c11], true⟩, ⟨b29, 0, [.string ByteArray.empty, .slice none 0 0, .map none], true⟩, ⟨b37, 0, [.string (bs s53), .slice A_ k c_, .map none], true⟩] [⟨A_, c_, 152, 4, k, xs_⟩] [(1, .p 0 0), (2, .p 1 0), (3, .p 2 0), (25, .v (.slice A183 l179.length c184)), (26, .v (.int .i64 ((l179.length : Nat) : Int))), (27, .v (.int .i64 ((k : Nat) : Int)))] a_ w_) (l179.length) ⟨0, (some ⟨b155, 0, none⟩), l131.length, [], [], by omega, by omega, rfl, RowL.nil mvElectLeadersResponseTopicPartition, hE202.pk, hW198, Fr.refl _ _ _⟩ ?_
      clear hE202
      rintro n203 a204 w205 ⟨k, A_, c_, xs_, ds_, hn208, hk209, hA, hR, hE206, hW207, hF210⟩
      refine go_sp [(1, .p 0 0), (2, .p 1 0), (3, .p 2 0), (25, .v (.slice A183 l179.length c184)), (26, .v (.int .i64 ((l179.length : Nat) : Int))), (27, .v (.int .i64 ((k : Nat) : Int))), (28, .v (.bool (decide (((k : Nat) : Int) < ((l179.length : Nat) : Int)))))] hW207 hE206 fun a211 hE212 => ?_
      clear hE206
      refine wp_seq ?_
      refine cond_of hE212 (b := decide (((k : Nat) : Int) < ((l179.length : Nat) : Int))) (by kernel_rfl) (fun hc213 => ?_) (fun hc213 => ?_)
      ·
        have hf214 := of_decide_eq_true hc213
        refine wp_skip ?_
        refine then_normal ?_
        refine wp_seq ?_
        refine wp_block ?_
        refine go_seq_region [0, 1, 2, 3] (by kernel_rfl) ?_
        obtain ⟨b215, o216, hA217, hl218, hat219⟩ := Slots.get h190 (i := k) (by omega)
        obtain ⟨x220, he221⟩ : ∃ x, l179[k]? = some x := ⟨_, List.getElem?_eq_getElem (by omega)⟩
        have hr222 := h191 k x220 he221
        obtain ⟨n223, s224, b225, l226, u227, A228, c229, A230, c231, A232, c233, xs234, rfl, hcs235, h236, h237, h238, h239⟩ := hr222.open_
        rw [hcs235] at hr222
        have hsm241 := h236.small
        have hsm242 := h237.small
        rw [hcs235] at hat219
        refine of_op (wpOp_index hE212 (t := 36) (A := A183) (m := l179.length) (q := ((k : Nat) : Int)) (d := 29) (by kernel_rfl) (e := 39) (size := 5) (bytes := 88) (by kernel_rfl) hA217 rfl (by omega) fun a243 hE244 => ?_)
        clear hE212
        refine of_op (wpOp_load hE244 (t := 39) (b := b215) (o := o216 + k * 5) (d := 30) (by kernel_rfl) (cs := [.int .i64 n223, .slice A228 s224.length c229, .bool b225, .slice A230 l226.length c231, .slice A232 u227.length c233]) (v := .agg #[.int .i64 n223, .slice A228 s224.length c229, .bool b225, .slice A230 l226.length c231, .slice A232 u227.length c233]) (by kernel_rfl) (AtF.move hat219 hF210.step immM hF210.to').at_ fun a245 hE246 => ?_)
        clear hE244
        refine of_op (wpOp_alloc hW207 hE246 (d := 5) (cs := [.int .i64 0, .slice none 0 0, .bool false, .slice none 0 0, .slice none 0 0]) (by kernel_rfl) fun b247 a248 w249 hb250 hz251 hF252 hW253 hE254 => ?_)
        clear hE246 hW207
        refine of_op (wpOp_store hW253 hE254 (oi := 3) (cs := [.int .i64 n223, .slice A228 s224.length c229, .bool b225, .slice A230 l226.length c231, .slice A232 u227.length c233]) (by kernel_rfl) fun w255 hF256 hW257 hE258 => ?_)
        clear hE254 hW253
        refine wpOps_nil ?_
        refine then_normal ?_
        refine go_drawK 7 (by kernel_rfl) hW257 fun w259 hF260 hW261 hT262 => ?_
        clear hW257
        refine go_rnD [0, 1, 2] [(1, .p 0 0), (2, .p 1 0), (3, .p 2 0), (25, .v (.slice A183 l179.length c184)), (26, .v (.int .i64 ((l179.length : Nat) : Int))), (27, .v (.int .i64 ((k : Nat) : Int))), (32, .v (.slice A_ k c_)), (33, .v (.agg #[.int .i64 n223, .slice A228 s224.length c229, .bool b225, .slice A230 l226.length c231, .slice A232 u227.length c233]))] 5 (panicFree_block (panicFree_then (panicFree_then (panicFree_block (panicFree_then panicFree_body))))) (fun _ h => h.cells) hT262 hE258 fun a263 hE264 => ?_
        clear hE258
        refine anyC_op (i := 3) (by kernel_rfl) (wpOp_call hE264 (f := 149) (vs := [.agg #[.int .i64 n223, .slice A228 s224.length c229, .bool b225, .slice A230 l226.length c231, .slice A232 u227.length c233]]) (d := 34) (by kernel_rfl) Try.call149 (eElectLeadersResponseTopicPartition _ _ _ _ (hr222.move (Fr.trans (Fr.trans (Fr.trans hF210 hF252) hF256) hF260).step immM (Fr.trans (Fr.trans (Fr.trans hF210 hF252) hF256) hF260).to') (c1e _ (by rw [hl3_]; exact List.mem_of_getElem? he221))) ?_)
        rintro e_ w270 ⟨D268, rfl, hk266, hrel267, hs265⟩
        have hk269 := mvElectLeadersResponseTopicPartition _ (Step.refl _ Nil) nilM (hW261.laid (G := F) hs265) hk266
        refine ⟨_, rfl, fun a271 hE272 => ?_⟩
        have hW273 := hW261.next_nil hs265
        have hF274 := hW261.frN hs265
        clear hE264
        have hT275 := TT.ofW hF274 hW273
        refine ⟨fun _ => hT275, ?_⟩
        refine anyC_op (i := 4) (by kernel_rfl) (wpOp_lit hW273 hE272 (e := 152) (size := 4) (len := 1) (cs := [.int .i32 ((D268.f 0).n), .int .i16 ((D268.f 1).n), .pointer ((D268.f 2).A), .map D268.m]) (d := 35) (by kernel_rfl) (by kernel_rfl) fun b276 a277 w278 hb279 hz280 hF281 hW282 hE283 => ?_)
        clear hE272 hW273
        have hT284 := TT.ofW (Fr.trans hF274 hF281) hW282
        refine ⟨fun _ => hT284, ?_⟩
        refine anyC_op (i := 5) (by kernel_rfl) (wpOp_append hW282 hE283 (k := 0) (d := 36) (t := 145) (e := 152) (size := 4) (bytes := 24) (A := A_) (As := (some ⟨b276, 0, none⟩)) (m0 := k) (c := c_) (m := 1) (cs := 1) (xs := xs_) (news := [.int .i32 ((D268.f 0).n), .int .i16 ((D268.f 1).n), .pointer ((D268.f 2).A), .map D268.m]) (by kernel_rfl) (by kernel_rfl) rfl (own_src (hW282.own 1 _ rfl) (allOne_ok (by kernel_rfl))) (own_cap (hW282.own 1 _ rfl)) (by omega) fun A285 c286 a287 w288 hF289 hW290 hE291 => ?_)
        clear hE283 hW282
        have hT292 := TT.ofW (Fr.trans (Fr.trans hF274 hF281) hF289) hW290
        refine ⟨fun _ => hT292, ?_⟩
        refine go_rnD [6] [(1, .p 0 0), (2, .p 1 0), (3, .p 2 0), (25, .v (.slice A183 l179.length c184)), (26, .v (.int .i64 ((l179.length : Nat) : Int))), (27, .v (.int .i64 ((k : Nat) : Int))), (36, .v (.slice A285 (k + 1) c286)), (37, .p 2 1)] 1 (panicFree_block (panicFree_then (panicFree_then (panicFree_block (panicFree_then panicFree_body))))) (fun _ h => h.cells) hT292 hE291 fun a293 hE294 => ?_
        clear hE291
        refine anyC_op (i := 7) (by kernel_rfl) (wpOp_store hW290 hE294 (oi := 2) (cs := [.string (bs s53), .slice A285 (k + 1) c286, .map none]) (by kernel_rfl) fun w295 hF296 hW297 hE298 => ?_)
        clear hE294 hW290
        refine ⟨fun h => absurd rfl h, ?_⟩
        refine anyC_done (by kernel_rfl) ?_ _
        refine block_normal ?_
        refine then_normal ?_
        refine go_region [0, 1] (by kernel_rfl) ?_
        refine go_rn [0, 1] [] [(1, .p 0 0), (2, .p 1 0), (3, .p 2 0), (25, .v (.slice A183 l179.length c184)), (26, .v (.int .i64 ((l179.length : Nat) : Int))), (27, .v (.int .i64 (IntKind.i64.wrap (((k : Nat) : Int) + 1))))] hW297 hE298 fun a299 hE300 => ?_
        clear hE298
        refine wpOps_nil ?_
        refine then_normal ?_
        obtain ⟨hE301, hW302, hF303⟩ := hW297.cutB hE300 3 [⟨b21, 0, [.int .i64 n1, .slice A6 s2.length c7, .bool b3, .slice A8 l4.length c9, .slice A10 u5.length c11], true⟩, ⟨b29, 0, [.string ByteArray.empty, .slice none 0 0, .map none], true⟩, ⟨b37, 0, [.string (bs s53), .slice A285 (k + 1) c286, .map none], true⟩] [(1, .p 0 0), (2, .p 1 0), (3, .p 2 0), (25, .v (.slice A183 l179.length c184)), (26, .v (.int .i64 ((l179.length : Nat) : Int))), (27, .v (.int .i64 (IntKind.i64.wrap (((k : Nat) : Int) + 1))))]
        obtain ⟨hW304, hF305⟩ := hW302.cutR 1 [⟨A285, c286, 152, 4, k + 1, xs_ ++ [.int .i32 ((D268.f 0).n), .int .i16 ((D268.f 1).n), .pointer ((D268.f 2).A), .map D268.m]⟩]
        have he306 : IntKind.i64.wrap (((k : Nat) : Int) + 1) = ((k + 1 : Nat) : Int) := wrap_succ (by omega)
        rw [he306] at hE301
        exact ⟨l179.length - (k + 1), by omega, k + 1, A285, c286, xs_ ++ [Value.int .i32 ((D268.f 0).n), .int .i16 ((D268.f 1).n), .pointer ((D268.f 2).A), .map D268.m], (ds_ ++ [D268]), rfl, by omega, own_some hW304 (k := 0) rfl (by omega), RowL.snoc (d := D268) (hR.move (Fr.trans (Fr.trans (Fr.trans (Fr.trans (Fr.trans (Fr.trans (Fr.trans (Fr.trans hF252 hF256) hF260) hF274) hF281) hF289) hF296) hF303) hF305).step immM (Fr.trans (Fr.trans (Fr.trans (Fr.trans (Fr.trans (Fr.trans (Fr.trans (Fr.trans hF252 hF256) hF260) hF274) hF281) hF289) hF296) hF303) hF305).to') he221 rfl (mvElectLeadersResponseTopicPartition _ (Fr.trans (Fr.trans (Fr.trans (Fr.trans hF281 hF289) hF296) hF303) hF305).step immM (Fr.trans (Fr.trans (Fr.trans (Fr.trans hF281 hF289) hF296) hF303) hF305).to' hk269) hrel267, hE301.pk, hW304, (Fr.trans (Fr.trans (Fr.trans (Fr.trans (Fr.trans (Fr.trans (Fr.trans (Fr.trans (Fr.trans hF210 hF252) hF256) hF260) hF274) hF281) hF289) hF296) hF303) hF305)⟩
      ·
        have hf307 := of_decide_eq_false hc213
        refine wp_exit ?_
        refine then_exit ?_
        refine then_exit ?_
        refine block_exit ?_
        refine then_normal ?_
        have hk_ : k = (lst (Tree.at_ (Tree.mk n1 s2 b3 l4 u5) 1)).length := by rw [hl3_]; omega
        subst k
        have hL_ := LstR.of hW207 (k := 0) (rs' := []) rfl hR (by rw [hl3_]) oneElectLeadersResponseTopicPartition (by omega)
        rw [← hl3_] at hL_
        obtain ⟨hW308, hF309⟩ := hW207.cutR 0 []
        exact ⟨_, _, _, by rw [hnull_]; exact hA, hL_, hE212.pk, hW308, (Fr.trans (Fr.trans (Fr.trans (Fr.trans (Fr.trans hF151 hF160) hF166) hF199) hF210) hF309)⟩
    ·
      refine wp_skip ?_
      refine then_normal ?_
      have hn_ : Tree.null (Tree.at_ (Tree.mk n1 s2 b3 l4 u5) 1) = true := by rw [ht110]; show b95 = true; simpa using hc119
      have hl_ := lst_no hn_
      exact ⟨none, 0, fun _ => dv0, by rw [hn_]; rfl, by rw [hl_]; exact LstR.nil mvElectLeadersResponseTopicPartition, by rw [hl_]; exact ⟨hE118.pk, hW115, Fr.refl _ _ _⟩⟩
  rintro a319 w320 ⟨A311, c312, f313, hn314, hL315, hE316, hW317, hF318⟩
  refine wp_seq ?_
  refine go_sp [(2, .p 1 0), (3, .p 2 0), (40, .v (.slice A10 u5.length c11)), (41, .v (.int .i64 ((u5.length : Nat) : Int))), (42, .v (.int .i64 0))] hW317 hE316 fun a321 hE322 => ?_
  clear hE316
  refine wp_block ?_
  have hp323 := new_of hW317 2 rfl (by kernel_rfl)
  have hE327 := hE322.recast 2 (.p 1 0) (.v (.pointer (some ⟨b29, 0, none⟩))) rfl rfl trivial
  have hE328 := hE327.recast 3 (.p 2 0) (.v (.pointer (some ⟨b37, 0, none⟩))) rfl rfl trivial
  have hE325 := (hE328.pick (ks := [2, 3, 40, 41, 42]) (env' := [(2, .v (.pointer (some ⟨b29, 0, none⟩))), (3, .v (.pointer (some ⟨b37, 0, none⟩))), (40, .v (.slice A10 u5.length c11)), (41, .v (.int .i64 ((u5.length : Nat) : Int))), (42, .v (.int .i64 0))]) (by kernel_rfl)).cutTb 0 (by kernel_rfl)
  refine wp_loop_ghost (fun q a_ w_ => ∃ (j : Nat) (m_ : Option Nat), q = u5.length - j ∧ j ≤ u5.length ∧ EnvOk 54 [] [(2, .v (.pointer (some ⟨b29, 0, none⟩))), (3, .v (.pointer (some ⟨b37, 0, none⟩))), (40, .v (.slice A10 u5.length c11)), (41, .v (.int .i64 ((u5.length : Nat) : Int))), (42, .v (.int .i64 ((j : Nat) : Int)))] a_ ∧ TL w w320 w_ F b37 2 [.string (bs s53), .slice A311 ((lst (Tree.at_ (Tree.mk n1 s2 b3 l4 u5) 1)).length) c312, .map none] m_ (u5.take j)) u5.length
    ⟨0, none, by omega, by omega, hE325, TL.start hW317 2 rfl rfl⟩ ?_
  rintro q aq wq ⟨j, m_, rfl, hj, hE2, hT⟩
  have hWq := WOk.start wq Nil
  refine go_sp [(2, .v (.pointer (some ⟨b29, 0, none⟩))), (3, .v (.pointer (some ⟨b37, 0, none⟩))), (40, .v (.slice A10 u5.length c11)), (41, .v (.int .i64 ((u5.length : Nat) : Int))), (42, .v (.int .i64 ((j : Nat) : Int))), (43, .v (.bool (decide (((j : Nat) : Int) < ((u5.length : Nat) : Int)))))] hWq hE2 fun aq2 hE3 => wp_seq ?_
  refine cond_of hE3 (b := decide (((j : Nat) : Int) < ((u5.length : Nat) : Int))) (by kernel_rfl) (fun hc => ?_) (fun hc => ?_)
  · have hlt : j < u5.length := by have := of_decide_eq_true hc; omega
    refine wp_skip (then_normal (wp_seq (wp_block ?_)))
    obtain ⟨⟨k, x⟩, hu⟩ : ∃ y, u5[j]? = some y := ⟨_, List.getElem?_eq_getElem hlt⟩
    obtain ⟨bb, bo, xA, xc, hA, hat, hxo, hk⟩ := tag_at h17 hu
    refine go_seq_region [0, 1, 2, 3] (by kernel_rfl) ?_
    refine of_op (wpOp_index hE3 (t := 37) (e := 62) (size := 2) (bytes := 32) (d := 44) (b := bb) (o := bo) (m := u5.length) (j := j) (by kernel_rfl) (by kernel_rfl) hA rfl hlt fun aq3 hE4 => ?_)
    refine of_op (wpOp_load hE4 (t := 62) (d := 45) (cs := [.int .u32 k, .slice xA x.length xc]) (v := .agg #[.int .u32 k, .slice xA x.length xc]) (by kernel_rfl) (by kernel_rfl) (hat.step_nil hT.step) fun aq4 hE5 => ?_)
    refine of_op (wpOp_alloc hWq hE5 (d := 7) (cs := [.int .u32 0, .slice none 0 0]) (by kernel_rfl) fun bx aq5 wq2 hbx hbx0 hFq2 hWq2 hE6 => ?_)
    refine of_op (wpOp_store hWq2 hE6 (oi := 0) (cs := [.int .u32 k, .slice xA x.length xc]) (by kernel_rfl) fun wq3 hFq3 hWq3 hE7 => wpOps_nil (then_normal ?_))
    refine go_region [0, 1, 2, 3, 4, 5] (by kernel_rfl) (go_rn [0, 1, 2, 3, 4] [5] [(2, .v (.pointer (some ⟨b29, 0, none⟩))), (3, .v (.pointer (some ⟨b37, 0, none⟩))), (40, .v (.slice A10 u5.length c11)), (41, .v (.int .i64 ((u5.length : Nat) : Int))), (42, .v (.int .i64 ((j : Nat) : Int))), (46, .v (.pointer (some ⟨b37, 2, none⟩))), (48, .v (.int .u32 k)), (50, .v (.slice xA x.length xc))] hWq3 hE7 fun aq6 hE8 => ?_)
    refine of_op (wpOp_call hE8 (f := 96) (vs := [.pointer (some ⟨b37, 2, none⟩), .int .u32 k, .slice xA x.length xc]) (d := 51) (by kernel_rfl) Try.call96 ((hT.move hWq3.step).set hp323 (by kernel_rfl) hsort hu hxo hk) ?_)
    rintro e_ wq5 ⟨rfl, hS5, r, hT5⟩
    refine ⟨_, rfl, fun aq7 hE9 => wpOps_nil (block_normal (then_normal ?_))⟩
    have hE10 := (hE9.pick (ks := [2, 3, 40, 41, 42]) (env' := [(2, .v (.pointer (some ⟨b29, 0, none⟩))), (3, .v (.pointer (some ⟨b37, 0, none⟩))), (40, .v (.slice A10 u5.length c11)), (41, .v (.int .i64 ((u5.length : Nat) : Int))), (42, .v (.int .i64 ((j : Nat) : Int)))]) (by kernel_rfl)).cutTb 0 (by kernel_rfl)
    refine go_region [0, 1] (by kernel_rfl) (go_rn [0, 1] [] [(2, .v (.pointer (some ⟨b29, 0, none⟩))), (3, .v (.pointer (some ⟨b37, 0, none⟩))), (40, .v (.slice A10 u5.length c11)), (41, .v (.int .i64 ((u5.length : Nat) : Int))), (42, .v (.int .i64 (IntKind.i64.wrap (((j : Nat) : Int) + 1))))] (WOk.start wq5 Nil) hE10 fun aq8 hE11 => wpOps_nil (then_normal ?_))
    rw [wrap_succ (by omega)] at hE11
    exact ⟨u5.length - (j + 1), by omega, j + 1, some r, rfl, by omega, hE11, hT5⟩
  · obtain rfl : j = u5.length := by have := of_decide_eq_false hc; omega
    refine wp_exit (then_exit (then_exit (block_exit ?_)))
    rw [List.take_length] at hT
    obtain ⟨hW329, hF330⟩ := hT.tab hW317 2 [⟨b21, 0, [.int .i64 n1, .slice A6 s2.length c7, .bool b3, .slice A8 l4.length c9, .slice A10 u5.length c11], true⟩, ⟨b29, 0, [.string ByteArray.empty, .slice none 0 0, .map none], true⟩, ⟨b37, 0, [.string (bs s53), .slice A311 ((lst (Tree.at_ (Tree.mk n1 s2 b3 l4 u5) 1)).length) c312, .map m_], true⟩] rfl
    have hM331 := hT.mapImm hW317 hW329 hF330 hsort (tags_range h17)
    have hE332 := (hE3.retable [⟨b21, 0, [.int .i64 n1, .slice A6 s2.length c7, .bool b3, .slice A8 l4.length c9, .slice A10 u5.length c11], true⟩, ⟨b29, 0, [.string ByteArray.empty, .slice none 0 0, .map none], true⟩, ⟨b37, 0, [.string (bs s53), .slice A311 ((lst (Tree.at_ (Tree.mk n1 s2 b3 l4 u5) 1)).length) c312, .map m_], true⟩]).recast 2 (.v (.pointer (some ⟨b29, 0, none⟩))) (.p 1 0) rfl rfl (Nat.le_of_ble_eq_true (n := 2) rfl)
    have hE333 := hE332.recast 3 (.v (.pointer (some ⟨b37, 0, none⟩))) (.p 2 0) rfl rfl (Nat.le_of_ble_eq_true (n := 3) rfl)
    have hE334 : EnvOk 54 [⟨b21, 0, [.int .i64 n1, .slice A6 s2.length c7, .bool b3, .slice A8 l4.length c9, .slice A10 u5.length c11], true⟩, ⟨b29, 0, [.string ByteArray.empty, .slice none 0 0, .map none], true⟩, ⟨b37, 0, [.string (bs s53), .slice A311 ((lst (Tree.at_ (Tree.mk n1 s2 b3 l4 u5) 1)).length) c312, .map m_], true⟩] [(2, .p 1 0), (3, .p 2 0)] _ := hE333.pk
    refine then_normal ?_
    refine go_seq_region [0, 1] (by kernel_rfl) ?_
    refine go_rn [0] [1] [(2, .p 1 0), (53, .v (.agg #[.string (bs s53), .slice A311 ((lst (Tree.at_ (Tree.mk n1 s2 b3 l4 u5) 1)).length) c312, .map m_]))] hW329 hE334 fun a335 hE336 => ?_
    clear hE334
    refine of_op (wpOp_store hW329 hE336 (oi := 1) (cs := [.string (bs s53), .slice A311 ((lst (Tree.at_ (Tree.mk n1 s2 b3 l4 u5) 1)).length) c312, .map m_]) (by kernel_rfl) fun w337 hF338 hW339 hE340 => ?_)
    clear hE336 hW329
    refine wpOps_nil ?_
    refine then_normal ?_
    refine wp_ret ?_
    refine leave hE340 hW339.cells (v := .agg #[.string (bs s53), .slice A311 ((lst (Tree.at_ (Tree.mk n1 s2 b3 l4 u5) 1)).length) c312, .map m_]) (by kernel_rfl) ?_
    refine ⟨dvP m_ u5 [dvS (bs s53), dvL A311 (lst (Tree.at_ (Tree.mk n1 s2 b3 l4 u5) 1)).length c312 f313], rfl, ?_, ?_, hW339.step⟩
    · unfold okElectLeadersResponseTopic
      exact ⟨by show ByteArray.size (bs s53) ≤ 1000000; rw [bs_size]; have h_ := c0; rw [ht69] at h_; exact h_, ⟨((hL315.move (Fr.trans hF330 hF338).step immM (Fr.trans hF330 hF338).to').move (Step.refl _ Nil) nilM immOut).slots, c1, ((hL315.move (Fr.trans hF330 hF338).step immM (Fr.trans hF330 hF338).to').move (Step.refl _ Nil) nilM immOut).each⟩, ((hM331.move hF338.step immM hF338.to').move (Step.refl _ Nil) nilM immOut), cU.2.1, cU.2.2, trivial⟩
    · unfold relElectLeadersResponseTopic
      exact ⟨by rw [ht69]; rfl, ⟨hn314, rfl, hL315.rel_⟩, rfl, trivial⟩

def makeElectLeadersResponse (v : Int) (T : Tree) : Bs := tElectLeadersResponse (IntKind.i16.wrap v) T
set_option maxHeartbeats 4000000 in
theorem mElectLeadersResponse (v : Int) (ct : List Value) (t : Tree) (w : World) (F : Nat → Nat → Prop) (ht : TreeR w F ct t) (hc : canElectLeadersResponse t) (hroom : (makeElectLeadersResponse v t).length + 16 ≤ 1099511627776) :
    Calls Try.prog 34 #[.int .i64 v, .agg ct.toArray] w (FreshB w 5 (makeElectLeadersResponse v t)) := by
  obtain ⟨n1, s2, b3, l4, u5, A6, c7, A8, c9, A10, c11, xs12, rfl, rfl, h14, h15, h16, h17⟩ := ht.open_
  have hsm19 := h14.small
  have hsm20 := h15.small
  unfold canElectLeadersResponse at hc
  obtain ⟨c0, c1, ⟨c2, c2e⟩, cU, _⟩ := hc
  have hsort := cU.1
  replace hsort : Sorted u5 := hsort
  have hul : u5.length ≤ 1000000 := cU.2.1
  refine enter (n := 17) Try.func34 rfl Try.ntmps34 (by kernel_rfl) fun a hE => ?_
  have hW := WOk.start w Nil
  refine go_seq_region [0, 1] (by kernel_rfl) ?_
  refine of_op (wpOp_box hW hE (d := 3) (cs := [.int .i64 n1, .slice A6 s2.length c7, .bool b3, .slice A8 l4.length c9, .slice A10 u5.length c11]) (by kernel_rfl) fun b21 a22 w23 hb24 hz25 hF26 hW27 hE28 => ?_)
  clear hE hW
  refine go_rn [1] [] [(0, .v (.int .i64 v)), (3, .p 0 0)] hW27 hE28 fun a29 hE30 => ?_
  clear hE28
  refine wpOps_nil ?_
  refine then_normal ?_
  refine go_seq_region [0, 1, 2] (by kernel_rfl) ?_
  refine go_rn [0] [1, 2] [(0, .v (.int .i64 v)), (3, .p 0 0), (6, .v (.agg #[.int .i16 0, .int .i32 0, .int .i16 0, .slice none 0 0, .map none]))] hW27 hE30 fun a31 hE32 => ?_
  clear hE30
  refine of_op (wpOp_box hW27 hE32 (d := 7) (cs := [.int .i16 0, .int .i32 0, .int .i16 0, .slice none 0 0, .map none]) (by kernel_rfl) fun b33 a34 w35 hb36 hz37 hF38 hW39 hE40 => ?_)
  clear hE32 hW27
  refine go_rn [2] [] [(0, .v (.int .i64 v)), (3, .p 0 0), (5, .p 1 0)] hW39 hE40 fun a41 hE42 => ?_
  clear hE40
  refine wpOps_nil ?_
  refine then_normal ?_
  refine go_seq_region [0, 1, 2, 3] (by kernel_rfl) ?_
  refine go_rn [0, 1, 2] [3] [(3, .p 0 0), (5, .p 1 0), (8, .p 1 0), (10, .v (.int .i16 (IntKind.i16.wrap v)))] hW39 hE42 fun a43 hE44 => ?_
  clear hE42
  refine of_op (wpOp_inline hE44 (f := 77) (vs := [.pointer (some ⟨b33, 0, none⟩), .int .i16 (IntKind.i16.wrap v)]) (d := 11) (n' := 8) (by kernel_rfl) Try.call77 Try.func77 rfl Try.ntmps77 (by kernel_rfl) fun a45 hE46 => ?_)
  have hE47 := hE46.recast 0 (.v (.pointer (some ⟨b33, 0, none⟩))) (.p 1 0) rfl rfl (Nat.le_of_ble_eq_true (n := 2) rfl)
  refine go_region [0, 1, 2, 3, 4] (by kernel_rfl) ?_
  refine go_rn [0, 1, 2, 3] [4] [(5, .v (.int .i16 (IntKind.i16.wrap v))), (7, .p 1 0)] hW39 hE47 fun a48 hE49 => ?_
  clear hE47
  refine of_op (wpOp_store hW39 hE49 (oi := 1) (cs := [.int .i16 (IntKind.i16.wrap v), .int .i32 0, .int .i16 0, .slice none 0 0, .map none]) (by kernel_rfl) fun w50 hF51 hW52 hE53 => ?_)
  clear hE49 hW39
  refine wpOps_nil ?_
  refine leave_end hE53 hW52.cells (v := .tuple #[]) (by kernel_rfl) ?_
  refine ⟨_, rfl, fun a54 hE55 => ?_⟩
  have hE56 : EnvOk 17 [⟨b21, 0, [.int .i64 n1, .slice A6 s2.length c7, .bool b3, .slice A8 l4.length c9, .slice A10 u5.length c11], true⟩, ⟨b33, 0, [.int .i16 (IntKind.i16.wrap v), .int .i32 0, .int .i16 0, .slice none 0 0, .map none], true⟩] [(11, .v (.tuple #[])), (3, .p 0 0), (5, .p 1 0), (8, .p 1 0), (10, .v (.int .i16 (IntKind.i16.wrap v)))] _ := hE55.places (⟨rfl, rfl, ⟨rfl, rfl, trivial⟩⟩)
  refine wpOps_nil ?_
  refine then_normal ?_
  refine go_seq_region [0, 1, 2] (by kernel_rfl) ?_
  refine go_rn [0, 1] [2] [(5, .p 1 0), (12, .p 1 0), (13, .v (.agg #[.int .i64 n1, .slice A6 s2.length c7, .bool b3, .slice A8 l4.length c9, .slice A10 u5.length c11]))] hW52 hE56 fun a57 hE58 => ?_
  clear hE56
  refine of_op (wpOp_inline hE58 (f := 78) (vs := [.pointer (some ⟨b33, 0, none⟩), .agg #[.int .i64 n1, .slice A6 s2.length c7, .bool b3, .slice A8 l4.length c9, .slice A10 u5.length c11]]) (d := 14) (n' := 70) (by kernel_rfl) Try.call78 Try.func78 rfl Try.ntmps78 (by kernel_rfl) fun a59 hE60 => ?_)
  have hE61 := hE60.recast 0 (.v (.pointer (some ⟨b33, 0, none⟩))) (.p 1 0) rfl rfl (Nat.le_of_ble_eq_true (n := 2) rfl)
  refine go_seq_region [0] (by kernel_rfl) ?_
  refine of_op (wpOp_box hW52 hE61 (d := 3) (cs := [.int .i64 n1, .slice A6 s2.length c7, .bool b3, .slice A8 l4.length c9, .slice A10 u5.length c11]) (by kernel_rfl) fun b62 a63 w64 hb65 hz66 hF67 hW68 hE69 => ?_)
  clear hE61 hW52
  refine wpOps_nil ?_
  refine then_normal ?_
  refine go_seq_region [0, 1, 2, 3, 4, 5, 6, 7] (by kernel_rfl) ?_
  refine go_rn [0, 1] [2, 3, 4, 5, 6, 7] [(0, .p 1 0), (3, .p 2 0), (8, .p 1 0), (9, .v (.agg #[.int .i64 n1, .slice A6 s2.length c7, .bool b3, .slice A8 l4.length c9, .slice A10 u5.length c11]))] hW68 hE69 fun a70 hE71 => ?_
  clear hE69
  refine of_op (wpOp_call hE71 (f := 95) (vs := [.agg #[.int .i64 n1, .slice A6 s2.length c7, .bool b3, .slice A8 l4.length c9, .slice A10 u5.length c11], .int .i64 0]) (d := 10) (by kernel_rfl) Try.call95 (iAt _ _ 0 _ _ (ht.move hW68.step nilM hW68.imm)) ?_)
  rintro e_ w75 ⟨cs74, rfl, hr73, hs72⟩
  have hr76 := hr73.move hs72 nilM (fun b o h_ hb_ => hW68.laid (G := F) hs72 b o (.inl h_) (Nat.lt_of_lt_of_le hb_ hs72.size))
  obtain ⟨n77, s78, b79, l80, u81, A82, c83, A84, c85, A86, c87, xs88, ht94, hcs89, h90, h91, h92, h93⟩ := hr76.open_
  rw [hcs89] at hr76
  have hsm95 := h90.small
  have hsm96 := h91.small
  rw [hcs89]
  refine ⟨_, rfl, fun a97 hE98 => ?_⟩
  have hW99 := hW68.next_nil hs72
  have hF100 := hW68.frN hs72
  clear hE71
  refine go_rn [3, 4, 5, 6] [7] [(0, .p 1 0), (3, .p 2 0), (12, .v (.int .i32 (IntKind.i32.wrap n77))), (14, .p 1 1)] hW99 hE98 fun a101 hE102 => ?_
  clear hE98
  refine of_op (wpOp_store hW99 hE102 (oi := 1) (cs := [.int .i16 (IntKind.i16.wrap v), .int .i32 (IntKind.i32.wrap n77), .int .i16 0, .slice none 0 0, .map none]) (by kernel_rfl) fun w103 hF104 hW105 hE106 => ?_)
  clear hE102 hW99
  refine wpOps_nil ?_
  refine then_normal ?_
  refine go_seq_region [0, 1, 2, 3, 4, 5, 6, 7] (by kernel_rfl) ?_
  refine go_rn [0, 1] [2, 3, 4, 5, 6, 7] [(0, .p 1 0), (3, .p 2 0), (15, .p 1 0), (16, .v (.agg #[.int .i64 n1, .slice A6 s2.length c7, .bool b3, .slice A8 l4.length c9, .slice A10 u5.length c11]))] hW105 hE106 fun a107 hE108 => ?_
  clear hE106
  refine of_op (wpOp_call hE108 (f := 95) (vs := [.agg #[.int .i64 n1, .slice A6 s2.length c7, .bool b3, .slice A8 l4.length c9, .slice A10 u5.length c11], .int .i64 1]) (d := 17) (by kernel_rfl) Try.call95 (iAt _ _ 1 _ _ (ht.move hW105.step nilM hW105.imm)) ?_)
  rintro e_ w112 ⟨cs111, rfl, hr110, hs109⟩
  have hr113 := hr110.move hs109 nilM (fun b o h_ hb_ => hW105.laid (G := F) hs109 b o (.inl h_) (Nat.lt_of_lt_of_le hb_ hs109.size))
  obtain ⟨n114, s115, b116, l117, u118, A119, c120, A121, c122, A123, c124, xs125, ht131, hcs126, h127, h128, h129, h130⟩ := hr113.open_
  rw [hcs126] at hr113
  have hsm132 := h127.small
  have hsm133 := h128.small
  rw [hcs126]
  refine ⟨_, rfl, fun a134 hE135 => ?_⟩
  have hW136 := hW105.next_nil hs109
  have hF137 := hW105.frN hs109
  clear hE108
  refine go_rn [3, 4, 5, 6] [7] [(0, .p 1 0), (3, .p 2 0), (19, .v (.int .i16 (IntKind.i16.wrap n114))), (21, .p 1 2)] hW136 hE135 fun a138 hE139 => ?_
  clear hE135
  refine of_op (wpOp_store hW136 hE139 (oi := 1) (cs := [.int .i16 (IntKind.i16.wrap v), .int .i32 (IntKind.i32.wrap n77), .int .i16 (IntKind.i16.wrap n114), .slice none 0 0, .map none]) (by kernel_rfl) fun w140 hF141 hW142 hE143 => ?_)
  clear hE139 hW136
  refine wpOps_nil ?_
  refine then_normal ?_
  refine wp_seq ?_
  refine go_seq_region [0, 1, 2, 3] (by kernel_rfl) ?_
  refine go_rn [0] [1, 2, 3] [(0, .p 1 0), (3, .p 2 0), (22, .v (.agg #[.int .i64 n1, .slice A6 s2.length c7, .bool b3, .slice A8 l4.length c9, .slice A10 u5.length c11]))] hW142 hE143 fun a144 hE145 => ?_
  clear hE143
  refine of_op (wpOp_call hE145 (f := 95) (vs := [.agg #[.int .i64 n1, .slice A6 s2.length c7, .bool b3, .slice A8 l4.length c9, .slice A10 u5.length c11], .int .i64 2]) (d := 23) (by kernel_rfl) Try.call95 (iAt _ _ 2 _ _ (ht.move hW142.step nilM hW142.imm)) ?_)
  rintro e_ w149 ⟨cs148, rfl, hr147, hs146⟩
  have hr150 := hr147.move hs146 nilM (fun b o h_ hb_ => hW142.laid (G := F) hs146 b o (.inl h_) (Nat.lt_of_lt_of_le hb_ hs146.size))
  obtain ⟨n151, s152, b153, l154, u155, A156, c157, A158, c159, A160, c161, xs162, ht168, hcs163, h164, h165, h166, h167⟩ := hr150.open_
  rw [hcs163] at hr150
  have hsm169 := h164.small
  have hsm170 := h165.small
  rw [hcs163]
  refine ⟨_, rfl, fun a171 hE172 => ?_⟩
  have hW173 := hW142.next_nil hs146
  have hF174 := hW142.frN hs146
  clear hE145
  refine go_rn [2, 3] [] [(0, .p 1 0), (3, .p 2 0), (25, .v (.bool (!b153)))] hW173 hE172 fun a175 hE176 => ?_
  clear hE172
  refine wpOps_nil ?_
  refine then_normal ?_
  refine wp_join (Mid := fun a_ w_ => ∃ (A_ : Option Addr) (c_ : Nat) (f_ : Nat → DV), A_.isNone = Tree.null (Tree.at_ (Tree.mk n1 s2 b3 l4 u5) 2) ∧ LstR w_ (Imm F w w_ [⟨b21, 0, [.int .i64 n1, .slice A6 s2.length c7, .bool b3, .slice A8 l4.length c9, .slice A10 u5.length c11], true⟩, ⟨b33, 0, [.int .i16 (IntKind.i16.wrap v), .int .i32 (IntKind.i32.wrap n77), .int .i16 (IntKind.i16.wrap n114), .slice A_ ((lst (Tree.at_ (Tree.mk n1 s2 b3 l4 u5) 2)).length) c_, .map none], true⟩, ⟨b62, 0, [.int .i64 n1, .slice A6 s2.length c7, .bool b3, .slice A8 l4.length c9, .slice A10 u5.length c11], true⟩] []) 3 clElectLeadersResponseTopic okElectLeadersResponseTopic relElectLeadersResponseTopic A_ c_ f_ (lst (Tree.at_ (Tree.mk n1 s2 b3 l4 u5) 2)) ∧ LInv hW173 70 [⟨b21, 0, [.int .i64 n1, .slice A6 s2.length c7, .bool b3, .slice A8 l4.length c9, .slice A10 u5.length c11], true⟩, ⟨b33, 0, [.int .i16 (IntKind.i16.wrap v), .int .i32 (IntKind.i32.wrap n77), .int .i16 (IntKind.i16.wrap n114), .slice A_ ((lst (Tree.at_ (Tree.mk n1 s2 b3 l4 u5) 2)).length) c_, .map none], true⟩, ⟨b62, 0, [.int .i64 n1, .slice A6 s2.length c7, .bool b3, .slice A8 l4.length c9, .slice A10 u5.length c11], true⟩] [] [(0, .p 1 0), (3, .p 2 0)] a_ w_) ?_ ?_
  ·
    refine cond_of hE176 (b := !b153) (by kernel_rfl) (fun hc177 => ?_) (fun hc177 => ?_)
    ·
      have hnull_ : Tree.null (Tree.at_ (Tree.mk n1 s2 b3 l4 u5) 2) = false := by rw [ht168]; show b153 = false; simpa using hc177
      refine go_seq_region [0, 1, 2, 3, 4, 5, 6, 7, 8] (by kernel_rfl) ?_
      refine go_rn [0, 1] [2, 3, 4, 5, 6, 7, 8] [(0, .p 1 0), (3, .p 2 0), (26, .p 1 0), (27, .v (.agg #[.int .i64 n1, .slice A6 s2.length c7, .bool b3, .slice A8 l4.length c9, .slice A10 u5.length c11]))] hW173 hE176 fun a179 hE180 => ?_
      clear hE176
      refine of_op (wpOp_call hE180 (f := 95) (vs := [.agg #[.int .i64 n1, .slice A6 s2.length c7, .bool b3, .slice A8 l4.length c9, .slice A10 u5.length c11], .int .i64 2]) (d := 28) (by kernel_rfl) Try.call95 (iAt _ _ 2 _ _ (ht.move hW173.step nilM hW173.imm)) ?_)
      rintro e_ w184 ⟨cs183, rfl, hr182, hs181⟩
      have hr185 := hr182.move hs181 nilM (fun b o h_ hb_ => hW173.laid (G := F) hs181 b o (.inl h_) (Nat.lt_of_lt_of_le hb_ hs181.size))
      obtain ⟨n186, s187, b188, l189, u190, A191, c192, A193, c194, A195, c196, xs197, ht203, hcs198, h199, h200, h201, h202⟩ := hr185.open_
      rw [hcs198] at hr185
      have hsm204 := h199.small
      have hsm205 := h200.small
      rw [hcs198]
      refine ⟨_, rfl, fun a206 hE207 => ?_⟩
      have hW208 := hW173.next_nil hs181
      have hF209 := hW173.frN hs181
      clear hE180
      have hl3_ : lst (Tree.at_ (Tree.mk n1 s2 b3 l4 u5) 2) = l189 := by rw [lst_of hnull_, ht203]; rfl
      have hb210 : l189.length ≤ 1000000 := by have h_ := c2; rw [hl3_] at h_; exact h_
      refine go_rn [3, 4] [5, 6, 7, 8] [(0, .p 1 0), (3, .p 2 0), (26, .p 1 0), (30, .v (.int .i64 ((l189.length : Nat) : Int)))] hW208 hE207 fun a211 hE212 => ?_
      clear hE207
      refine of_op (wpOp_make0 hW208 hE212 (d := 31) (j := l189.length) (t := 94) (e := 147) (size := 3) (bytes := 48) (by kernel_rfl) (by kernel_rfl) rfl (rfl) (by omega) fun b213 a214 w215 hb216 hz217 hF218 hW219 hE220 => ?_)
      clear hE212 hW208
      refine go_rn [6, 7] [8] [(0, .p 1 0), (3, .p 2 0), (31, .v (.slice (some ⟨b213, 0, none⟩) 0 l189.length)), (33, .p 1 3)] hW219 hE220 fun a221 hE222 => ?_
      clear hE220
      refine of_op (wpOp_store hW219 hE222 (oi := 1) (cs := [.int .i16 (IntKind.i16.wrap v), .int .i32 (IntKind.i32.wrap n77), .int .i16 (IntKind.i16.wrap n114), .slice (some ⟨b213, 0, none⟩) 0 l189.length, .map none]) (by kernel_rfl) fun w223 hF224 hW225 hE226 => ?_)
      clear hE222 hW219
      refine wpOps_nil ?_
      refine then_normal ?_
      refine go_seq_region [0, 1, 2, 3, 4] (by kernel_rfl) ?_
      refine go_rn [0] [1, 2, 3, 4] [(0, .p 1 0), (3, .p 2 0), (34, .v (.agg #[.int .i64 n1, .slice A6 s2.length c7, .bool b3, .slice A8 l4.length c9, .slice A10 u5.length c11]))] hW225 hE226 fun a227 hE228 => ?_
      clear hE226
      refine of_op (wpOp_call hE228 (f := 95) (vs := [.agg #[.int .i64 n1, .slice A6 s2.length c7, .bool b3, .slice A8 l4.length c9, .slice A10 u5.length c11], .int .i64 2]) (d := 35) (by kernel_rfl) Try.call95 (iAt _ _ 2 _ _ (ht.move hW225.step nilM hW225.imm)) ?_)
      rintro e_ w232 ⟨cs231, rfl, hr230, hs229⟩
      have hr233 := hr230.move hs229 nilM (fun b o h_ hb_ => hW225.laid (G := F) hs229 b o (.inl h_) (Nat.lt_of_lt_of_le hb_ hs229.size))
      obtain ⟨n234, s235, b236, l237, u238, A239, c240, A241, c242, A243, c244, xs245, ht251, hcs246, h247, h248, h249, h250⟩ := hr233.open_
      rw [hcs246] at hr233
      have hsm252 := h247.small
      have hsm253 := h248.small
      rw [hcs246]
      refine ⟨_, rfl, fun a254 hE255 => ?_⟩
      have hW256 := hW225.next_nil hs229
      have hF257 := hW225.frN hs229
      clear hE228
      have hl3_ : lst (Tree.at_ (Tree.mk n1 s2 b3 l4 u5) 2) = l237 := by rw [lst_of hnull_, ht251]; rfl
      have hb258 : l237.length ≤ 1000000 := by have h_ := c2; rw [hl3_] at h_; exact h_
      refine go_rn [2, 3, 4] [] [(0, .p 1 0), (3, .p 2 0), (36, .v (.slice A241 l237.length c242)), (37, .v (.int .i64 ((l237.length : Nat) : Int))), (38, .v (.int .i64 0))] hW256 hE255 fun a259 hE260 => ?_
      clear hE255
      refine wpOps_nil ?_
      refine then_normal ?_
      refine wp_block ?_
      refine wp_loop_ghost (fun n_ a_ w_ => ∃ (k : Nat) (A_ : Option Addr) (c_ : Nat) (xs_ : List Value) (ds_ : List DV), n_ = l237.length - k ∧ k ≤ l237.length ∧ (A_.isNone = false) ∧ (RowL w_ (Imm F w w_ [⟨b21, 0, [.int .i64 n1, .slice A6 s2.length c7, .bool b3, .slice A8 l4.length c9, .slice A10 u5.length c11], true⟩, ⟨b33, 0, [.int .i16 (IntKind.i16.wrap v), .int .i32 (IntKind.i32.wrap n77), .int .i16 (IntKind.i16.wrap n114), .slice A_ k c_, .map none], true⟩, ⟨b62, 0, [.int .i64 n1, .slice A6 s2.length c7, .bool b3, .slice A8 l4.length c9, .slice A10 u5.length c11], true⟩] [⟨A_, c_, 147, 3, k, xs_⟩]) 3 clElectLeadersResponseTopic okElectLeadersResponseTopic relElectLeadersResponseTopic xs_ ds_ (l237.take k)) ∧ LInv hW256 70 [⟨b21, 0, [.int .i64 n1, .slice A6 s2.length c7, .bool b3, .slice A8 l4.length c9, .slice A10 u5.length c11], true⟩, ⟨b33, 0, [.int .i16 (IntKind.i16.wrap v), .int .i32 (IntKind.i32.wrap n77), .int .i16 (IntKind.i16.wrap n114), .slice A_ k c_, .map none], true⟩, ⟨b62, 0, [.int .i64 n1, .slice A6 s2.length c7, .bool b3, .slice A8 l4.length c9, .slice A10 u5.length c11], true⟩] [⟨A_, c_, 147, 3, k, xs_⟩] [(0, .p 1 0), (3, .p 2 0), (36, .v (.slice A241 l237.length c242)), (37, .v (.int .i64 ((l237.length : Nat) : Int))), (38, .v (.int .i64 ((k : Nat) : Int)))] a_ w_) (l237.length) ⟨0, (some ⟨b213, 0, none⟩), l189.length, [], [], by omega, by omega, rfl, RowL.nil mvElectLeadersResponseTopic, hE260.pk, hW256, Fr.refl _ _ _⟩ ?_
      clear hE260
      rintro n261 a262 w263 ⟨k, A_, c_, xs_, ds_, hn266, hk267, hA, hR, hE264, hW265, hF268⟩
      refine go_sp [(0, .p 1 0), (3, .p 2 0), (36, .v (.slice A241 l237.length c242)), (37, .v (.int .i64 ((l237.length : Nat) : Int))), (38, .v (.int .i64 ((k : Nat) : Int))), (39, .v (.bool (decide (((k : Nat) : Int) < ((l237.length : Nat) : Int)))))] hW265 hE264 fun a269 hE270 => ?_
      clear hE264
      refine wp_seq ?_
      refine cond_of hE270 (b := decide (((k : Nat) : Int) < ((l237.length : Nat) : Int))) (by kernel_rfl) (fun hc271 => ?_) (fun hc271 => ?_)
      ·
        have hf272 := of_decide_eq_true hc271
        refine wp_skip ?_
        refine then_normal ?_
        refine wp_seq ?_
        refine wp_block ?_
        refine go_seq_region [0, 1, 2, 3] (by kernel_rfl) ?_
        obtain ⟨b273, o274, hA275, hl276, hat277⟩ := Slots.get h248 (i := k) (by omega)
        obtain ⟨x278, he279⟩ : ∃ x, l237[k]? = some x := ⟨_, List.getElem?_eq_getElem (by omega)⟩
        have hr280 := h249 k x278 he279
        obtain ⟨n281, s282, b283, l284, u285, A286, c287, A288, c289, A290, c291, xs292, rfl, hcs293, h294, h295, h296, h297⟩ := hr280.open_
        rw [hcs293] at hr280
        have hsm299 := h294.small
        have hsm300 := h295.small
        rw [hcs293] at hat277
        refine of_op (wpOp_index hE270 (t := 36) (A := A241) (m := l237.length) (q := ((k : Nat) : Int)) (d := 40) (by kernel_rfl) (e := 39) (size := 5) (bytes := 88) (by kernel_rfl) hA275 rfl (by omega) fun a301 hE302 => ?_)
        clear hE270
        refine of_op (wpOp_load hE302 (t := 39) (b := b273) (o := o274 + k * 5) (d := 41) (by kernel_rfl) (cs := [.int .i64 n281, .slice A286 s282.length c287, .bool b283, .slice A288 l284.length c289, .slice A290 u285.length c291]) (v := .agg #[.int .i64 n281, .slice A286 s282.length c287, .bool b283, .slice A288 l284.length c289, .slice A290 u285.length c291]) (by kernel_rfl) (AtF.move hat277 hF268.step immM hF268.to').at_ fun a303 hE304 => ?_)
        clear hE302
        refine of_op (wpOp_alloc hW265 hE304 (d := 5) (cs := [.int .i64 0, .slice none 0 0, .bool false, .slice none 0 0, .slice none 0 0]) (by kernel_rfl) fun b305 a306 w307 hb308 hz309 hF310 hW311 hE312 => ?_)
        clear hE304 hW265
        refine of_op (wpOp_store hW311 hE312 (oi := 3) (cs := [.int .i64 n281, .slice A286 s282.length c287, .bool b283, .slice A288 l284.length c289, .slice A290 u285.length c291]) (by kernel_rfl) fun w313 hF314 hW315 hE316 => ?_)
        clear hE312 hW311
        refine wpOps_nil ?_
        refine then_normal ?_
        refine go_drawK 11 (by kernel_rfl) hW315 fun w317 hF318 hW319 hT320 => ?_
        clear hW315
        refine go_rnD [0, 1, 2, 3, 4, 5] [(0, .p 1 0), (3, .p 2 0), (36, .v (.slice A241 l237.length c242)), (37, .v (.int .i64 ((l237.length : Nat) : Int))), (38, .v (.int .i64 ((k : Nat) : Int))), (42, .p 1 0), (46, .v (.slice A_ k c_)), (47, .v (.agg #[.int .i64 n281, .slice A286 s282.length c287, .bool b283, .slice A288 l284.length c289, .slice A290 u285.length c291]))] 6 (panicFree_block (panicFree_then (panicFree_then (panicFree_block (panicFree_then panicFree_body))))) (fun _ h => h.cells) hT320 hE316 fun a321 hE322 => ?_
        clear hE316
        refine anyC_op (i := 6) (by kernel_rfl) (wpOp_call hE322 (f := 131) (vs := [.agg #[.int .i64 n281, .slice A286 s282.length c287, .bool b283, .slice A288 l284.length c289, .slice A290 u285.length c291]]) (d := 48) (by kernel_rfl) Try.call131 (eElectLeadersResponseTopic _ _ _ _ (hr280.move (Fr.trans (Fr.trans (Fr.trans hF268 hF310) hF314) hF318).step immM (Fr.trans (Fr.trans (Fr.trans hF268 hF310) hF314) hF318).to') (c2e _ (by rw [hl3_]; exact List.mem_of_getElem? he279))) ?_)
        rintro e_ w328 ⟨D326, rfl, hk324, hrel325, hs323⟩
        have hk327 := mvElectLeadersResponseTopic _ (Step.refl _ Nil) nilM (hW319.laid (G := F) hs323) hk324
        refine ⟨_, rfl, fun a329 hE330 => ?_⟩
        have hW331 := hW319.next_nil hs323
        have hF332 := hW319.frN hs323
        clear hE322
        have hT333 := TT.ofW hF332 hW331
        refine ⟨fun _ => hT333, ?_⟩
        refine anyC_op (i := 7) (by kernel_rfl) (wpOp_lit hW331 hE330 (e := 147) (size := 3) (len := 1) (cs := [.string ((D326.f 0).s), .slice ((D326.f 1).A) ((D326.f 1).l) ((D326.f 1).c), .map D326.m]) (d := 49) (by kernel_rfl) (by kernel_rfl) fun b334 a335 w336 hb337 hz338 hF339 hW340 hE341 => ?_)
        clear hE330 hW331
        have hT342 := TT.ofW (Fr.trans hF332 hF339) hW340
        refine ⟨fun _ => hT342, ?_⟩
        refine anyC_op (i := 8) (by kernel_rfl) (wpOp_append hW340 hE341 (k := 0) (d := 50) (t := 94) (e := 147) (size := 3) (bytes := 48) (A := A_) (As := (some ⟨b334, 0, none⟩)) (m0 := k) (c := c_) (m := 1) (cs := 1) (xs := xs_) (news := [.string ((D326.f 0).s), .slice ((D326.f 1).A) ((D326.f 1).l) ((D326.f 1).c), .map D326.m]) (by kernel_rfl) (by kernel_rfl) rfl (own_src (hW340.own 1 _ rfl) (allOne_ok (by kernel_rfl))) (own_cap (hW340.own 1 _ rfl)) (by omega) fun A343 c344 a345 w346 hF347 hW348 hE349 => ?_)
        clear hE341 hW340
        have hT350 := TT.ofW (Fr.trans (Fr.trans hF332 hF339) hF347) hW348
        refine ⟨fun _ => hT350, ?_⟩
        refine anyC_op (i := 9) (by kernel_rfl) (wpOp_pure [0, 3, 36, 37, 38, 50, 51] hW348.cells hE349 (env' := [(0, .p 1 0), (3, .p 2 0), (36, .v (.slice A241 l237.length c242)), (37, .v (.int .i64 ((l237.length : Nat) : Int))), (38, .v (.int .i64 ((k : Nat) : Int))), (50, .v (.slice A343 (k + 1) c344)), (51, .p 1 0)]) (by kernel_rfl) fun a351 hE352 => ?_)
        clear hE349
        have hT353 := TT.ofW (Fr.trans (Fr.trans hF332 hF339) hF347) hW348
        refine ⟨fun _ => hT353, ?_⟩
        refine go_rnD [10] [(0, .p 1 0), (3, .p 2 0), (36, .v (.slice A241 l237.length c242)), (37, .v (.int .i64 ((l237.length : Nat) : Int))), (38, .v (.int .i64 ((k : Nat) : Int))), (50, .v (.slice A343 (k + 1) c344)), (52, .p 1 3)] 1 (panicFree_block (panicFree_then (panicFree_then (panicFree_block (panicFree_then panicFree_body))))) (fun _ h => h.cells) hT353 hE352 fun a354 hE355 => ?_
        clear hE352
        refine anyC_op (i := 11) (by kernel_rfl) (wpOp_store hW348 hE355 (oi := 1) (cs := [.int .i16 (IntKind.i16.wrap v), .int .i32 (IntKind.i32.wrap n77), .int .i16 (IntKind.i16.wrap n114), .slice A343 (k + 1) c344, .map none]) (by kernel_rfl) fun w356 hF357 hW358 hE359 => ?_)
        clear hE355 hW348
        refine ⟨fun h => absurd rfl h, ?_⟩
        refine anyC_done (by kernel_rfl) ?_ _
        refine block_normal ?_
        refine then_normal ?_
        refine go_region [0, 1] (by kernel_rfl) ?_
        refine go_rn [0, 1] [] [(0, .p 1 0), (3, .p 2 0), (36, .v (.slice A241 l237.length c242)), (37, .v (.int .i64 ((l237.length : Nat) : Int))), (38, .v (.int .i64 (IntKind.i64.wrap (((k : Nat) : Int) + 1))))] hW358 hE359 fun a360 hE361 => ?_
        clear hE359
        refine wpOps_nil ?_
        refine then_normal ?_
        obtain ⟨hE362, hW363, hF364⟩ := hW358.cutB hE361 3 [⟨b21, 0, [.int .i64 n1, .slice A6 s2.length c7, .bool b3, .slice A8 l4.length c9, .slice A10 u5.length c11], true⟩, ⟨b33, 0, [.int .i16 (IntKind.i16.wrap v), .int .i32 (IntKind.i32.wrap n77), .int .i16 (IntKind.i16.wrap n114), .slice A343 (k + 1) c344, .map none], true⟩, ⟨b62, 0, [.int .i64 n1, .slice A6 s2.length c7, .bool b3, .slice A8 l4.length c9, .slice A10 u5.length c11], true⟩] [(0, .p 1 0), (3, .p 2 0), (36, .v (.slice A241 l237.length c242)), (37, .v (.int .i64 ((l237.length : Nat) : Int))), (38, .v (.int .i64 (IntKind.i64.wrap (((k : Nat) : Int) + 1))))]
        obtain ⟨hW365, hF366⟩ := hW363.cutR 1 [⟨A343, c344, 147, 3, k + 1, xs_ ++ [.string ((D326.f 0).s), .slice ((D326.f 1).A) ((D326.f 1).l) ((D326.f 1).c), .map D326.m]⟩]
        have he367 : IntKind.i64.wrap (((k : Nat) : Int) + 1) = ((k + 1 : Nat) : Int) := wrap_succ (by omega)
        rw [he367] at hE362
        exact ⟨l237.length - (k + 1), by omega, k + 1, A343, c344, xs_ ++ [Value.string ((D326.f 0).s), .slice ((D326.f 1).A) ((D326.f 1).l) ((D326.f 1).c), .map D326.m], (ds_ ++ [D326]), rfl, by omega, own_some hW365 (k := 0) rfl (by omega), RowL.snoc (d := D326) (hR.move (Fr.trans (Fr.trans (Fr.trans (Fr.trans (Fr.trans (Fr.trans (Fr.trans (Fr.trans hF310 hF314) hF318) hF332) hF339) hF347) hF357) hF364) hF366).step immM (Fr.trans (Fr.trans (Fr.trans (Fr.trans (Fr.trans (Fr.trans (Fr.trans (Fr.trans hF310 hF314) hF318) hF332) hF339) hF347) hF357) hF364) hF366).to') he279 rfl (mvElectLeadersResponseTopic _ (Fr.trans (Fr.trans (Fr.trans (Fr.trans hF339 hF347) hF357) hF364) hF366).step immM (Fr.trans (Fr.trans (Fr.trans (Fr.trans hF339 hF347) hF357) hF364) hF366).to' hk327) hrel325, hE362.pk, hW365, (Fr.trans (Fr.trans (Fr.trans (Fr.trans (Fr.trans (Fr.trans (Fr.trans (Fr.trans (Fr.trans hF268 hF310) hF314) hF318) hF332) hF339) hF347) hF357) hF364) hF366)⟩
      ·
        have hf368 := of_decide_eq_false hc271
        refine wp_exit ?_
        refine then_exit ?_
        refine then_exit ?_
        refine block_exit ?_
        refine then_normal ?_
        have hk_ : k = (lst (Tree.at_ (Tree.mk n1 s2 b3 l4 u5) 2)).length := by rw [hl3_]; omega
        subst k
        have hL_ := LstR.of hW265 (k := 0) (rs' := []) rfl hR (by rw [hl3_]) oneElectLeadersResponseTopic (by omega)
        rw [← hl3_] at hL_
        obtain ⟨hW369, hF370⟩ := hW265.cutR 0 []
        exact ⟨_, _, _, by rw [hnull_]; exact hA, hL_, hE270.pk, hW369, (Fr.trans (Fr.trans (Fr.trans (Fr.trans (Fr.trans hF209 hF218) hF224) hF257) hF268) hF370)⟩
    ·
      refine wp_skip ?_
      refine then_normal ?_
      have hn_ : Tree.null (Tree.at_ (Tree.mk n1 s2 b3 l4 u5) 2) = true := by rw [ht168]; show b153 = true; simpa using hc177
      have hl_ := lst_no hn_
      exact ⟨none, 0, fun _ => dv0, by rw [hn_]; rfl, by rw [hl_]; exact LstR.nil mvElectLeadersResponseTopic, by rw [hl_]; exact ⟨hE176.pk, hW173, Fr.refl _ _ _⟩⟩
  rintro a380 w381 ⟨A372, c373, f374, hn375, hL376, hE377, hW378, hF379⟩
  refine go_sp [(0, .p 1 0), (55, .v (.slice A10 u5.length c11)), (56, .v (.int .i64 ((u5.length : Nat) : Int))), (57, .v (.int .i64 0))] hW378 hE377 fun a382 hE383 => ?_
  clear hE377
  refine wp_block ?_
  have hp384 := new_of hW378 1 rfl (by kernel_rfl)
  have hE388 := hE383.recast 0 (.p 1 0) (.v (.pointer (some ⟨b33, 0, none⟩))) rfl rfl trivial
  have hE386 := (hE388.pick (ks := [0, 55, 56, 57]) (env' := [(0, .v (.pointer (some ⟨b33, 0, none⟩))), (55, .v (.slice A10 u5.length c11)), (56, .v (.int .i64 ((u5.length : Nat) : Int))), (57, .v (.int .i64 0))]) (by kernel_rfl)).cutTb 0 (by kernel_rfl)
  refine wp_loop_ghost (fun q a_ w_ => ∃ (j : Nat) (m_ : Option Nat), q = u5.length - j ∧ j ≤ u5.length ∧ EnvOk 70 [] [(0, .v (.pointer (some ⟨b33, 0, none⟩))), (55, .v (.slice A10 u5.length c11)), (56, .v (.int .i64 ((u5.length : Nat) : Int))), (57, .v (.int .i64 ((j : Nat) : Int)))] a_ ∧ TL w w381 w_ F b33 4 [.int .i16 (IntKind.i16.wrap v), .int .i32 (IntKind.i32.wrap n77), .int .i16 (IntKind.i16.wrap n114), .slice A372 ((lst (Tree.at_ (Tree.mk n1 s2 b3 l4 u5) 2)).length) c373, .map none] m_ (u5.take j)) u5.length
    ⟨0, none, by omega, by omega, hE386, TL.start hW378 1 rfl rfl⟩ ?_
  rintro q aq wq ⟨j, m_, rfl, hj, hE2, hT⟩
  have hWq := WOk.start wq Nil
  refine go_sp [(0, .v (.pointer (some ⟨b33, 0, none⟩))), (55, .v (.slice A10 u5.length c11)), (56, .v (.int .i64 ((u5.length : Nat) : Int))), (57, .v (.int .i64 ((j : Nat) : Int))), (58, .v (.bool (decide (((j : Nat) : Int) < ((u5.length : Nat) : Int)))))] hWq hE2 fun aq2 hE3 => wp_seq ?_
  refine cond_of hE3 (b := decide (((j : Nat) : Int) < ((u5.length : Nat) : Int))) (by kernel_rfl) (fun hc => ?_) (fun hc => ?_)
  · have hlt : j < u5.length := by have := of_decide_eq_true hc; omega
    refine wp_skip (then_normal (wp_seq (wp_block ?_)))
    obtain ⟨⟨k, x⟩, hu⟩ : ∃ y, u5[j]? = some y := ⟨_, List.getElem?_eq_getElem hlt⟩
    obtain ⟨bb, bo, xA, xc, hA, hat, hxo, hk⟩ := tag_at h17 hu
    refine go_seq_region [0, 1, 2, 3] (by kernel_rfl) ?_
    refine of_op (wpOp_index hE3 (t := 37) (e := 62) (size := 2) (bytes := 32) (d := 59) (b := bb) (o := bo) (m := u5.length) (j := j) (by kernel_rfl) (by kernel_rfl) hA rfl hlt fun aq3 hE4 => ?_)
    refine of_op (wpOp_load hE4 (t := 62) (d := 60) (cs := [.int .u32 k, .slice xA x.length xc]) (v := .agg #[.int .u32 k, .slice xA x.length xc]) (by kernel_rfl) (by kernel_rfl) (hat.step_nil hT.step) fun aq4 hE5 => ?_)
    refine of_op (wpOp_alloc hWq hE5 (d := 7) (cs := [.int .u32 0, .slice none 0 0]) (by kernel_rfl) fun bx aq5 wq2 hbx hbx0 hFq2 hWq2 hE6 => ?_)
    refine of_op (wpOp_store hWq2 hE6 (oi := 0) (cs := [.int .u32 k, .slice xA x.length xc]) (by kernel_rfl) fun wq3 hFq3 hWq3 hE7 => wpOps_nil (then_normal ?_))
    have hWq4 := hWq3.drew
    refine region_draw (fun wz => CellsOk wz [⟨bx, 0, [.int .u32 k, .slice xA x.length xc], true⟩]) 8 (by kernel_rfl) ?_
    refine go_rnD [0, 1, 2, 3, 4, 5, 6] [(0, .v (.pointer (some ⟨b33, 0, none⟩))), (55, .v (.slice A10 u5.length c11)), (56, .v (.int .i64 ((u5.length : Nat) : Int))), (57, .v (.int .i64 ((j : Nat) : Int))), (63, .v (.pointer (some ⟨b33, 4, none⟩))), (65, .v (.int .u32 k)), (67, .v (.slice xA x.length xc))] 1 (panicFree_block (panicFree_then (panicFree_then (panicFree_block panicFree_body)))) (fun _ h => h) hWq4.cells hE7 fun aq6 hE8 => ?_
    refine anyC_op (i := 7) (by kernel_rfl) (wpOp_call hE8 (f := 96) (vs := [.pointer (some ⟨b33, 4, none⟩), .int .u32 k, .slice xA x.length xc]) (d := 68) (by kernel_rfl) Try.call96 ((hT.move hWq4.step).set hp384 (by kernel_rfl) hsort hu hxo hk) ?_)
    rintro e_ wq5 ⟨rfl, hS5, r, hT5⟩
    refine ⟨_, rfl, fun aq7 hE9 => ⟨fun _ => hT.keeps (off := 4) (by kernel_rfl) hS5 hWq4.cells (fun ob hm => by rw [List.mem_singleton.1 hm]; exact Nat.le_of_eq hbx.symm), anyC_done (by kernel_rfl) (block_normal (then_normal ?_)) _⟩⟩
    have hE10 := (hE9.pick (ks := [0, 55, 56, 57]) (env' := [(0, .v (.pointer (some ⟨b33, 0, none⟩))), (55, .v (.slice A10 u5.length c11)), (56, .v (.int .i64 ((u5.length : Nat) : Int))), (57, .v (.int .i64 ((j : Nat) : Int)))]) (by kernel_rfl)).cutTb 0 (by kernel_rfl)
    refine go_region [0, 1] (by kernel_rfl) (go_rn [0, 1] [] [(0, .v (.pointer (some ⟨b33, 0, none⟩))), (55, .v (.slice A10 u5.length c11)), (56, .v (.int .i64 ((u5.length : Nat) : Int))), (57, .v (.int .i64 (IntKind.i64.wrap (((j : Nat) : Int) + 1))))] (WOk.start wq5 Nil) hE10 fun aq8 hE11 => wpOps_nil (then_normal ?_))
    rw [wrap_succ (by omega)] at hE11
    exact ⟨u5.length - (j + 1), by omega, j + 1, some r, rfl, by omega, hE11, hT5⟩
  · obtain rfl : j = u5.length := by have := of_decide_eq_false hc; omega
    refine wp_exit (then_exit (then_exit (block_exit ?_)))
    rw [List.take_length] at hT
    obtain ⟨hW389, hF390⟩ := hT.tab hW378 1 [⟨b21, 0, [.int .i64 n1, .slice A6 s2.length c7, .bool b3, .slice A8 l4.length c9, .slice A10 u5.length c11], true⟩, ⟨b33, 0, [.int .i16 (IntKind.i16.wrap v), .int .i32 (IntKind.i32.wrap n77), .int .i16 (IntKind.i16.wrap n114), .slice A372 ((lst (Tree.at_ (Tree.mk n1 s2 b3 l4 u5) 2)).length) c373, .map m_], true⟩, ⟨b62, 0, [.int .i64 n1, .slice A6 s2.length c7, .bool b3, .slice A8 l4.length c9, .slice A10 u5.length c11], true⟩] rfl
    have hM391 := hT.mapImm hW378 hW389 hF390 hsort (tags_range h17)
    have hE392 : EnvOk 70 [⟨b21, 0, [.int .i64 n1, .slice A6 s2.length c7, .bool b3, .slice A8 l4.length c9, .slice A10 u5.length c11], true⟩, ⟨b33, 0, [.int .i16 (IntKind.i16.wrap v), .int .i32 (IntKind.i32.wrap n77), .int .i16 (IntKind.i16.wrap n114), .slice A372 ((lst (Tree.at_ (Tree.mk n1 s2 b3 l4 u5) 2)).length) c373, .map m_], true⟩, ⟨b62, 0, [.int .i64 n1, .slice A6 s2.length c7, .bool b3, .slice A8 l4.length c9, .slice A10 u5.length c11], true⟩] [] _ := (hE3.retable [⟨b21, 0, [.int .i64 n1, .slice A6 s2.length c7, .bool b3, .slice A8 l4.length c9, .slice A10 u5.length c11], true⟩, ⟨b33, 0, [.int .i16 (IntKind.i16.wrap v), .int .i32 (IntKind.i32.wrap n77), .int .i16 (IntKind.i16.wrap n114), .slice A372 ((lst (Tree.at_ (Tree.mk n1 s2 b3 l4 u5) 2)).length) c373, .map m_], true⟩, ⟨b62, 0, [.int .i64 n1, .slice A6 s2.length c7, .bool b3, .slice A8 l4.length c9, .slice A10 u5.length c11], true⟩]).pk
    refine leave_end hE392 hW389.cells (v := .tuple #[]) (by kernel_rfl) ?_
    refine ⟨_, rfl, fun a393 hE394 => ?_⟩
    have hE395 : EnvOk 17 [⟨b21, 0, [.int .i64 n1, .slice A6 s2.length c7, .bool b3, .slice A8 l4.length c9, .slice A10 u5.length c11], true⟩, ⟨b33, 0, [.int .i16 (IntKind.i16.wrap v), .int .i32 (IntKind.i32.wrap n77), .int .i16 (IntKind.i16.wrap n114), .slice A372 ((lst (Tree.at_ (Tree.mk n1 s2 b3 l4 u5) 2)).length) c373, .map m_], true⟩, ⟨b62, 0, [.int .i64 n1, .slice A6 s2.length c7, .bool b3, .slice A8 l4.length c9, .slice A10 u5.length c11], true⟩] [(14, .v (.tuple #[])), (5, .p 1 0), (12, .p 1 0), (13, .v (.agg #[.int .i64 n1, .slice A6 s2.length c7, .bool b3, .slice A8 l4.length c9, .slice A10 u5.length c11]))] _ := hE394.places (⟨rfl, rfl, ⟨rfl, rfl, trivial⟩⟩)
    refine wpOps_nil ?_
    refine then_normal ?_
    refine go_seq_region [0, 1, 2] (by kernel_rfl) ?_
    refine go_rn [0] [1, 2] [(15, .p 1 0)] hW389 hE395 fun a396 hE397 => ?_
    clear hE395
    have hrel_ : relElectLeadersResponse (dvP m_ u5 [dvN (IntKind.i32.wrap n77), dvN (IntKind.i16.wrap n114), dvL A372 (lst (Tree.at_ (Tree.mk n1 s2 b3 l4 u5) 2)).length c373 f374]) (Tree.mk n1 s2 b3 l4 u5) := by
      unfold relElectLeadersResponse
      exact ⟨by rw [ht94]; rfl, by rw [ht131]; rfl, ⟨hn375, rfl, hL376.rel_⟩, rfl, trivial⟩
    have he_ : aElectLeadersResponse (IntKind.i16.wrap v) (dvP m_ u5 [dvN (IntKind.i32.wrap n77), dvN (IntKind.i16.wrap n114), dvL A372 (lst (Tree.at_ (Tree.mk n1 s2 b3 l4 u5) 2)).length c373 f374]) = makeElectLeadersResponse v (Tree.mk n1 s2 b3 l4 u5) := atElectLeadersResponse _ _ _ hrel_
    rw [← he_] at hroom ⊢
    have hok_ : okElectLeadersResponse wq (fun _ _ => True) (dvP m_ u5 [dvN (IntKind.i32.wrap n77), dvN (IntKind.i16.wrap n114), dvL A372 (lst (Tree.at_ (Tree.mk n1 s2 b3 l4 u5) 2)).length c373 f374]) := by
      unfold okElectLeadersResponse
      exact ⟨trivial, trivial, ⟨((hL376.move hF390.step immM hF390.to').move (Step.refl _ Nil) nilM (fun _ _ _ _ => trivial)).slots, c2, ((hL376.move hF390.step immM hF390.to').move (Step.refl _ Nil) nilM (fun _ _ _ _ => trivial)).each⟩, (hM391.move (Step.refl _ Nil) nilM (fun _ _ _ _ => trivial)), cU.2.1, cU.2.2, trivial⟩
    refine of_op (wpOp_call hE397 (f := 79) (vs := [.pointer (some ⟨b33, 0, none⟩), .slice none 0 0]) (d := 16) (by kernel_rfl) Try.call79 (kElectLeadersResponse (IntKind.i16.wrap v) (dvP m_ u5 [dvN (IntKind.i32.wrap n77), dvN (IntKind.i16.wrap n114), dvL A372 (lst (Tree.at_ (Tree.mk n1 s2 b3 l4 u5) 2)).length c373 f374]) b33 0 none 0 [] _ _ (fun j v hj => ⟨trivial, hW389.cells 1 _ rfl j v hj⟩) hok_ none_blk (World.ownsRow_nil _ 0 _ _) (by simpa using hroom)) ?_)
    rintro e_ wz ⟨A', c', rfl, ho, hs, hn⟩
    refine ⟨_, rfl, fun az hEz => ?_⟩
    have hEy := (hEz.pick (ks := [16]) (env' := [(16, .v (.slice A' (([] ++ aElectLeadersResponse (IntKind.i16.wrap v) (dvP m_ u5 [dvN (IntKind.i32.wrap n77), dvN (IntKind.i16.wrap n114), dvL A372 (lst (Tree.at_ (Tree.mk n1 s2 b3 l4 u5) 2)).length c373 f374])).length) c'))]) (by kernel_rfl)).cutTb 0 (by kernel_rfl)
    have hWz := WOk.start wz Nil
    refine go_rn [2] [] [(4, .v (.slice A' (([] ++ aElectLeadersResponse (IntKind.i16.wrap v) (dvP m_ u5 [dvN (IntKind.i32.wrap n77), dvN (IntKind.i16.wrap n114), dvL A372 (lst (Tree.at_ (Tree.mk n1 s2 b3 l4 u5) 2)).length c373 f374])).length) c'))] hWz hEy fun a398 hE399 => ?_
    clear hEy
    refine wpOps_nil ?_
    refine then_normal ?_
    refine wp_ret ?_
    refine leave hE399 hWz.cells (v := .slice A' (([] ++ aElectLeadersResponse (IntKind.i16.wrap v) (dvP m_ u5 [dvN (IntKind.i32.wrap n77), dvN (IntKind.i16.wrap n114), dvL A372 (lst (Tree.at_ (Tree.mk n1 s2 b3 l4 u5) 2)).length c373 f374])).length) c') (by kernel_rfl) ?_
    exact fresh_of_app hW389.step ⟨A', c', rfl, ho, hs, hn⟩

theorem xElectLeadersResponse (w : World) : Calls Try.prog 32 #[] w (Gives w (.int .i64 2)) := by
  refine enter (n := 4) Try.func32 rfl Try.ntmps32 (by kernel_rfl) fun a hE => ?_
  have hW := WOk.start w Nil
  refine go_sp [] hW hE fun a1 hE2 => ?_
  clear hE
  refine go_seq_region [0, 1, 2, 3] (by kernel_rfl) ?_
  refine of_op (wpOp_inline hE2 (f := 74) (vs := []) (d := 1) (n' := 3) (by kernel_rfl) Try.call74 Try.func74 rfl Try.ntmps74 (by kernel_rfl) fun a3 hE4 => ?_)
  refine go_sp [] hW hE4 fun a5 hE6 => ?_
  clear hE4
  refine go_seq_region [0] (by kernel_rfl) ?_
  refine of_op (wpOp_alloc hW hE6 (d := 1) (cs := [.int .i16 0, .int .i32 0, .int .i16 0, .slice none 0 0, .map none]) (by kernel_rfl) fun b7 a8 w9 hb10 hz11 hF12 hW13 hE14 => ?_)
  clear hE6 hW
  refine wpOps_nil ?_
  refine then_normal ?_
  refine go_seq_region [0] (by kernel_rfl) ?_
  refine of_op (wpOp_inline hE14 (f := 129) (vs := [.pointer (some ⟨b7, 0, none⟩)]) (d := 2) (n' := 2) (by kernel_rfl) Try.call129 Try.func129 rfl Try.ntmps129 (by kernel_rfl) fun a15 hE16 => ?_)
  have hE17 := hE16.recast 0 (.v (.pointer (some ⟨b7, 0, none⟩))) (.p 0 0) rfl rfl (Nat.le_of_ble_eq_true (n := 1) rfl)
  refine wp_skip ?_
  refine leave_end hE17 hW13.cells (v := .tuple #[]) (by kernel_rfl) ?_
  refine ⟨_, rfl, fun a18 hE19 => ?_⟩
  have hE20 : EnvOk 3 [⟨b7, 0, [.int .i16 0, .int .i32 0, .int .i16 0, .slice none 0 0, .map none], true⟩] [(2, .v (.tuple #[])), (1, .p 0 0)] _ := hE19.places (⟨rfl, rfl, trivial⟩)
  refine wpOps_nil ?_
  refine then_normal ?_
  refine go_sp [(0, .p 0 0)] hW13 hE20 fun a21 hE22 => ?_
  clear hE20
  refine wp_ret ?_
  refine leave hE22 hW13.cells (v := .pointer (some ⟨b7, 0, none⟩)) (by kernel_rfl) ?_
  refine ⟨_, rfl, fun a23 hE24 => ?_⟩
  have hE25 : EnvOk 4 [⟨b7, 0, [.int .i16 0, .int .i32 0, .int .i16 0, .slice none 0 0, .map none], true⟩] [(1, .v (.pointer (some ⟨b7, 0, none⟩)))] _ := hE24.places (trivial)
  refine of_op (wpOp_inline hE25 (f := 75) (vs := [.pointer (some ⟨b7, 0, none⟩)]) (d := 2) (n' := 3) (by kernel_rfl) Try.call75 Try.func75 rfl Try.ntmps75 (by kernel_rfl) fun a26 hE27 => ?_)
  refine go_sp [] hW13 hE27 fun a28 hE29 => ?_
  clear hE27
  refine go_sp [(2, .v (.int .i16 2))] hW13 hE29 fun a30 hE31 => ?_
  clear hE29
  refine wp_ret ?_
  refine leave hE31 hW13.cells (v := .int .i16 2) (by kernel_rfl) ?_
  refine ⟨_, rfl, fun a32 hE33 => ?_⟩
  have hE34 : EnvOk 4 [⟨b7, 0, [.int .i16 0, .int .i32 0, .int .i16 0, .slice none 0 0, .map none], true⟩] [(2, .v (.int .i16 2)), (1, .v (.pointer (some ⟨b7, 0, none⟩)))] _ := hE33.places (⟨rfl, rfl, trivial⟩)
  refine go_rn [2, 3] [] [(0, .v (.int .i64 2))] hW13 hE34 fun a35 hE36 => ?_
  clear hE34
  refine wpOps_nil ?_
  refine then_normal ?_
  refine wp_ret ?_
  refine leave hE36 hW13.cells (v := .int .i64 2) (by kernel_rfl) ?_
  exact ⟨rfl, hW13.step⟩

theorem sElectLeadersResponse_depth : depths sElectLeadersResponseF ≤ 8 := by simp [sElectLeadersResponseF, Fld.depth.depths, Fld.depth]
theorem sElectLeadersResponse_plain : plains sElectLeadersResponseF := by simp [sElectLeadersResponseF, Fld.plain.plains, Fld.plain]

theorem lawElectLeadersResponse (x : Int) (hx : 0 ≤ x) (hx' : x < 256) (ct : List Value) (t : Tree) (w : World) (F : Nat → Nat → Prop) (ht : TreeR w F ct t) (hroom : (writeB 8 sElectLeadersResponseF sElectLeadersResponseX (Int.tmod x (2 + 1)) t).length ≤ 1099511627776) (hcan : canElectLeadersResponse (fitT (Int.tmod x (2 + 1)) 8 sElectLeadersResponseF t)) (hmade : (makeElectLeadersResponse (Int.tmod x (2 + 1)) (fitT (Int.tmod x (2 + 1)) 8 sElectLeadersResponseF t)).length + 16 ≤ 1099511627776) (hpure : makeElectLeadersResponse (Int.tmod x (2 + 1)) (fitT (Int.tmod x (2 + 1)) 8 sElectLeadersResponseF t) = writeB 8 sElectLeadersResponseF sElectLeadersResponseX (Int.tmod x (2 + 1)) t) :
    Calls Try.prog 8 #[.int .u8 x, .agg ct.toArray] w (Gives w (.bool true)) := by
  obtain ⟨n1, s2, b3, l4, u5, A6, c7, A8, c9, A10, c11, xs12, rfl, rfl, h14, h15, h16, h17⟩ := ht.open_
  have hsm19 := h14.small
  have hsm20 := h15.small
  refine enter (n := 31) Try.func8 rfl Try.ntmps8 (by kernel_rfl) fun a hE => ?_
  have hW := WOk.start w Nil
  refine go_seq_region [0, 1] (by kernel_rfl) ?_
  refine of_op (wpOp_box hW hE (d := 3) (cs := [.int .i64 n1, .slice A6 s2.length c7, .bool b3, .slice A8 l4.length c9, .slice A10 u5.length c11]) (by kernel_rfl) fun b21 a22 w23 hb24 hz25 hF26 hW27 hE28 => ?_)
  clear hE hW
  refine go_rn [1] [] [(0, .v (.int .u8 x)), (3, .p 0 0)] hW27 hE28 fun a29 hE30 => ?_
  clear hE28
  refine wpOps_nil ?_
  refine then_normal ?_
  refine wp_seq ?_
  refine go_seq_region [0, 1, 2] (by kernel_rfl) ?_
  refine go_rn [0] [1, 2] [(0, .v (.int .u8 x)), (3, .p 0 0), (8, .v (.agg #[.int .i64 n1, .slice A6 s2.length c7, .bool b3, .slice A8 l4.length c9, .slice A10 u5.length c11]))] hW27 hE30 fun a31 hE32 => ?_
  clear hE30
  refine of_op (wpOp_call hE32 (f := 11) (vs := [.agg #[.int .i64 n1, .slice A6 s2.length c7, .bool b3, .slice A8 l4.length c9, .slice A10 u5.length c11]]) (d := 9) (by kernel_rfl) Try.call11 (lFits1 _ _ _ _ (ht.move hW27.step nilM hW27.imm)) ?_)
  rintro e_ w35 ⟨b34, rfl, hs33⟩
  refine ⟨_, rfl, fun a36 hE37 => ?_⟩
  have hW38 := hW27.next_nil hs33
  have hF39 := hW27.frN hs33
  clear hE32 hW27
  refine go_rn [2] [] [(0, .v (.int .u8 x)), (3, .p 0 0), (10, .v (.bool (!b34)))] hW38 hE37 fun a40 hE41 => ?_
  clear hE37
  refine wpOps_nil ?_
  refine then_normal ?_
  refine cond_of hE41 (b := !b34) (by kernel_rfl) (fun hc42 => ?_) (fun hc42 => ?_)
  ·
    refine go_sp [(4, .v (.bool true))] hW38 hE41 fun a44 hE45 => ?_
    clear hE41
    refine wp_ret ?_
    refine then_ret ?_
    refine leave hE45 hW38.cells (v := .bool true) (by kernel_rfl) ?_
    exact ⟨rfl, hW38.step⟩
  ·
    refine wp_skip ?_
    refine then_normal ?_
    refine go_seq_region [0, 1] (by kernel_rfl) ?_
    refine of_op (wpOp_call hE41 (f := 32) (vs := []) (d := 11) (by kernel_rfl) Try.call32 (xElectLeadersResponse _) ?_)
    rintro e_ w48 ⟨rfl, hs47⟩
    refine ⟨_, rfl, fun a49 hE50 => ?_⟩
    have hW51 := hW38.next_nil hs47
    have hF52 := hW38.frN hs47
    clear hE41 hW38
    refine go_rn [1] [] [(0, .v (.int .u8 x)), (3, .p 0 0), (5, .v (.int .i64 2))] hW51 hE50 fun a53 hE54 => ?_
    clear hE50
    refine wpOps_nil ?_
    refine then_normal ?_
    refine wp_seq ?_
    refine go_sp [(0, .v (.int .u8 x)), (3, .p 0 0), (5, .v (.int .i64 2)), (13, .v (.bool false))] hW51 hE54 fun a55 hE56 => ?_
    clear hE54
    refine cond_false hE56 (b := false) (by kernel_rfl) rfl ?_
    refine wp_skip ?_
    refine then_normal ?_
    refine go_seq_region [0, 1, 2, 3, 4, 5, 6] (by kernel_rfl) ?_
    refine of_op (wpOp_call hE56 (f := 33) (vs := []) (d := 14) (by kernel_rfl) Try.call33 (sElectLeadersResponse _ (Imm F w w48 [⟨b21, 0, [.int .i64 n1, .slice A6 s2.length c7, .bool b3, .slice A8 l4.length c9, .slice A10 u5.length c11], true⟩] [])) ?_)
    rintro e_ w61 ⟨A59, c60, rfl, hr58, hs57⟩
    obtain ⟨xs62, h63, h64⟩ := hr58.move (Step.refl _ Nil) nilM (hW51.laid (G := F) hs57)
    refine ⟨_, rfl, fun a65 hE66 => ?_⟩
    have hW67 := hW51.next_nil hs57
    have hF68 := hW51.frN hs57
    clear hE56
    refine go_rn [1, 2] [3, 4, 5, 6] [(3, .p 0 0), (14, .v (.agg #[.slice A59 sElectLeadersResponseF.length c60, .int .i64 sElectLeadersResponseX])), (15, .v (.int .u8 x)), (16, .v (.int .i64 2))] hW67 hE66 fun a69 hE70 => ?_
    clear hE66
    refine of_op (wpOp_call hE70 (f := 14) (vs := [.int .u8 x, .int .i64 2]) (d := 17) (by kernel_rfl) Try.call14 (lVersion x 2 hx hx' (by decide) (by decide) _) ?_)
    rintro e_ w72 ⟨rfl, hs71⟩
    refine ⟨_, rfl, fun a73 hE74 => ?_⟩
    have hW75 := hW67.next_nil hs71
    have hF76 := hW67.frN hs71
    clear hE70 hW67
    refine of_op (wpOp_alloc hW75 hE74 (d := 6) (cs := [.slice none 0 0, .int .i64 0]) (by kernel_rfl) fun b77 a78 w79 hb80 hz81 hF82 hW83 hE84 => ?_)
    clear hE74 hW75
    refine of_op (wpOp_store hW83 hE84 (oi := 1) (cs := [.slice A59 sElectLeadersResponseF.length c60, .int .i64 sElectLeadersResponseX]) (by kernel_rfl) fun w85 hF86 hW87 hE88 => ?_)
    clear hE84 hW83
    refine go_rn [6] [] [(3, .p 0 0), (6, .p 1 0), (7, .v (.int .i64 (Int.tmod x (2 + 1))))] hW87 hE88 fun a89 hE90 => ?_
    clear hE88
    refine wpOps_nil ?_
    refine then_normal ?_
    refine go_seq_drawK 13 (by kernel_rfl) hW87 fun w91 hF92 hW93 hT94 => ?_
    clear hW87
    refine go_rnD [0, 1, 2, 3, 4, 8, 9, 10] [(18, .v (.int .i64 (Int.tmod x (2 + 1)))), (20, .v (.slice A59 sElectLeadersResponseF.length c60)), (21, .v (.int .i64 (Int.tmod x (2 + 1)))), (22, .v (.agg #[.int .i64 n1, .slice A6 s2.length c7, .bool b3, .slice A8 l4.length c9, .slice A10 u5.length c11])), (26, .v (.agg #[.slice A59 sElectLeadersResponseF.length c60, .int .i64 sElectLeadersResponseX])), (27, .v (.int .i64 (Int.tmod x (2 + 1)))), (28, .v (.agg #[.int .i64 n1, .slice A6 s2.length c7, .bool b3, .slice A8 l4.length c9, .slice A10 u5.length c11]))] 6 (panicFree_then panicFree_body) (fun _ h => h.cells) hT94 hE90 fun a95 hE96 => ?_
    clear hE90
    refine anyC_op (i := 5) (by kernel_rfl) (wpOp_call hE96 (f := 18) (vs := [.slice A59 sElectLeadersResponseF.length c60, .int .i64 (Int.tmod x (2 + 1)), .agg #[.int .i64 n1, .slice A6 s2.length c7, .bool b3, .slice A8 l4.length c9, .slice A10 u5.length c11]]) (d := 23) (by kernel_rfl) Try.call18 (sFitOK _ _ _ sElectLeadersResponseF (Int.tmod x (2 + 1)) _ (Tree.mk n1 s2 b3 l4 u5) _ _ ⟨xs62, (h63.move (Fr.trans (Fr.trans (Fr.trans hF76 hF82) hF86) hF92).step immM (Fr.trans (Fr.trans (Fr.trans hF76 hF82) hF86) hF92).to'), (fun i_ x_ h_ => ((h64 i_ x_ h_).move (Fr.trans (Fr.trans (Fr.trans hF76 hF82) hF86) hF92).step immM (Fr.trans (Fr.trans (Fr.trans hF76 hF82) hF86) hF92).to'))⟩ sElectLeadersResponse_plain sElectLeadersResponse_depth (ht.move hW93.step nilM hW93.imm)) ?_)
    rintro e_ w100 ⟨cs99, rfl, hr98, hs97⟩
    have hr101 := hr98.move (Step.refl _ Nil) nilM (hW93.laid (G := F) hs97)
    obtain ⟨n102, s103, b104, l105, u106, A107, c108, A109, c110, A111, c112, xs113, ht119, hcs114, h115, h116, h117, h118⟩ := hr101.open_
    rw [hcs114] at hr101
    have hsm120 := h115.small
    have hsm121 := h116.small
    rw [hcs114]
    refine ⟨_, rfl, fun a122 hE123 => ?_⟩
    have hW124 := hW93.next_nil hs97
    have hF125 := hW93.frN hs97
    clear hE96
    have hT126 := TT.ofW hF125 hW124
    refine ⟨fun _ => hT126, ?_⟩
    refine anyC_op (i := 6) (by kernel_rfl) (wpOp_call hE123 (f := 17) (vs := [.agg #[.int .i64 n102, .slice A107 s103.length c108, .bool b104, .slice A109 l105.length c110, .slice A111 u106.length c112]]) (d := 24) (by kernel_rfl) Try.call17 (lGiven _ _ _ _ _ hr101 (Nat.le_refl _)) ?_)
    rintro e_ w130 ⟨cs129, rfl, hr128, hs127⟩
    have hr131 := hr128.move (Step.refl _ Nil) nilM (hW124.laid (G := F) hs127)
    obtain ⟨n132, s133, b134, l135, u136, A137, c138, A139, c140, A141, c142, xs143, ht149, hcs144, h145, h146, h147, h148⟩ := hr131.open_
    rw [hcs144] at hr131
    have hsm150 := h145.small
    have hsm151 := h146.small
    rw [hcs144]
    refine ⟨_, rfl, fun a152 hE153 => ?_⟩
    have hW154 := hW124.next_nil hs127
    have hF155 := hW124.frN hs127
    clear hE123
    have hT156 := TT.ofW (Fr.trans hF125 hF155) hW154
    refine ⟨fun _ => hT156, ?_⟩
    refine anyC_op (i := 7) (by kernel_rfl) (wpOp_call hE153 (f := 34) (vs := [.int .i64 (Int.tmod x (2 + 1)), .agg #[.int .i64 n132, .slice A137 s133.length c138, .bool b134, .slice A139 l135.length c140, .slice A141 u136.length c142]]) (d := 25) (by kernel_rfl) Try.call34 (mElectLeadersResponse (Int.tmod x (2 + 1)) _ (fitT (Int.tmod x (2 + 1)) 8 sElectLeadersResponseF (Tree.mk n1 s2 b3 l4 u5)) _ _ hr131 hcan hmade) ?_)
    rintro e_ w161 ⟨A159, c160, rfl, ho158, hs157⟩
    refine ⟨_, rfl, fun a162 hE163 => ?_⟩
    obtain ⟨hW164, hF165⟩ := hW154.frFresh hs157 (brow A159 c160 5 (makeElectLeadersResponse (Int.tmod x (2 + 1)) (fitT (Int.tmod x (2 + 1)) 8 sElectLeadersResponseF (Tree.mk n1 s2 b3 l4 u5)))) (Nat.le_refl _) ho158
    clear hE153 hW154
    have hT166 := TT.ofW (Fr.trans (Fr.trans hF125 hF155) hF165) hW164
    refine ⟨fun _ => hT166, ?_⟩
    refine anyC_op (i := 11) (by kernel_rfl) (wpOp_call hE163 (f := 19) (vs := [.agg #[.slice A59 sElectLeadersResponseF.length c60, .int .i64 sElectLeadersResponseX], .int .i64 (Int.tmod x (2 + 1)), .agg #[.int .i64 n1, .slice A6 s2.length c7, .bool b3, .slice A8 l4.length c9, .slice A10 u5.length c11]]) (d := 29) (by kernel_rfl) Try.call19 (sWrite _ _ sElectLeadersResponseF sElectLeadersResponseX (Int.tmod x (2 + 1)) _ (Tree.mk n1 s2 b3 l4 u5) _ _ ⟨xs62, (h63.move (Fr.trans (Fr.trans (Fr.trans (Fr.trans (Fr.trans (Fr.trans hF76 hF82) hF86) hF92) hF125) hF155) hF165).step immM (Fr.trans (Fr.trans (Fr.trans (Fr.trans (Fr.trans (Fr.trans hF76 hF82) hF86) hF92) hF125) hF155) hF165).to'), (fun i_ x_ h_ => ((h64 i_ x_ h_).move (Fr.trans (Fr.trans (Fr.trans (Fr.trans (Fr.trans (Fr.trans hF76 hF82) hF86) hF92) hF125) hF155) hF165).step immM (Fr.trans (Fr.trans (Fr.trans (Fr.trans (Fr.trans (Fr.trans hF76 hF82) hF86) hF92) hF125) hF155) hF165).to'))⟩ sElectLeadersResponse_depth (ht.move hW164.step nilM hW164.imm) hroom) ?_)
    rintro e_ w171 ⟨A169, c170, rfl, ho168, hs167⟩
    refine ⟨_, rfl, fun a172 hE173 => ?_⟩
    obtain ⟨hW174, hF175⟩ := hW164.frFresh hs167 (brow A169 c170 5 (writeB 8 sElectLeadersResponseF sElectLeadersResponseX (Int.tmod x (2 + 1)) (Tree.mk n1 s2 b3 l4 u5))) (Nat.le_refl _) ho168
    clear hE163 hW164
    have hT176 := TT.ofW (Fr.trans (Fr.trans (Fr.trans hF125 hF155) hF165) hF175) hW174
    refine ⟨fun _ => hT176, ?_⟩
    refine anyC_op (i := 12) (by kernel_rfl) (wpOp_call hE173 (f := 15) (vs := [.slice A159 ((makeElectLeadersResponse (Int.tmod x (2 + 1)) (fitT (Int.tmod x (2 + 1)) 8 sElectLeadersResponseF (Tree.mk n1 s2 b3 l4 u5))).length) c160, .slice A169 ((writeB 8 sElectLeadersResponseF sElectLeadersResponseX (Int.tmod x (2 + 1)) (Tree.mk n1 s2 b3 l4 u5)).length) c170]) (d := 30) (by kernel_rfl) Try.call15 (sSame _ _ _ _ (makeElectLeadersResponse (Int.tmod x (2 + 1)) (fitT (Int.tmod x (2 + 1)) 8 sElectLeadersResponseF (Tree.mk n1 s2 b3 l4 u5))) (writeB 8 sElectLeadersResponseF sElectLeadersResponseX (Int.tmod x (2 + 1)) (Tree.mk n1 s2 b3 l4 u5)) _ _ (octs_own (hW174.own 0 _ rfl) (by first | omega | (simp only [be_length]; exact Nat.le_trans (widthI_le _) (by decide)) | (have := hroom; omega) | (have := hmade; omega)) (F := fun _ _ => True) (fun _ _ _ => trivial)) (octs_own (hW174.own 1 _ rfl) (by first | omega | (simp only [be_length]; exact Nat.le_trans (widthI_le _) (by decide)) | (have := hroom; omega) | (have := hmade; omega)) (F := fun _ _ => True) (fun _ _ _ => trivial))) ?_)
    rintro e_ w178 ⟨rfl, hs177⟩
    refine ⟨_, rfl, fun a179 hE180 => ?_⟩
    have hW181 := hW174.next_nil hs177
    have hF182 := hW174.frN hs177
    clear hE173 hW174
    have hT183 := TT.ofW (Fr.trans (Fr.trans (Fr.trans (Fr.trans hF125 hF155) hF165) hF175) hF182) hW181
    refine ⟨fun _ => hT183, ?_⟩
    refine anyC_op (i := 13) (by kernel_rfl) (wpOp_pure [4] hW181.cells hE180 (env' := [(4, .v (.bool (decide (makeElectLeadersResponse (Int.tmod x (2 + 1)) (fitT (Int.tmod x (2 + 1)) 8 sElectLeadersResponseF (Tree.mk n1 s2 b3 l4 u5)) = writeB 8 sElectLeadersResponseF sElectLeadersResponseX (Int.tmod x (2 + 1)) (Tree.mk n1 s2 b3 l4 u5)))))]) (by kernel_rfl) fun a184 hE185 => ?_)
    clear hE180
    refine ⟨fun h => absurd rfl h, ?_⟩
    refine anyC_done (by kernel_rfl) ?_ _
    refine then_normal ?_
    refine wp_ret ?_
    refine leave hE185 hW181.cells (v := .bool (decide (makeElectLeadersResponse (Int.tmod x (2 + 1)) (fitT (Int.tmod x (2 + 1)) 8 sElectLeadersResponseF (Tree.mk n1 s2 b3 l4 u5)) = writeB 8 sElectLeadersResponseF sElectLeadersResponseX (Int.tmod x (2 + 1)) (Tree.mk n1 s2 b3 l4 u5)))) (by kernel_rfl) ?_
    exact ⟨by rw [hpure]; simp, hW181.step⟩

theorem closeElectLeadersResponse (x : Int) (hx : 0 ≤ x ∧ x ≤ 255) (ct : List Value) (t : Tree) (w : World) (F : Nat → Nat → Prop) (ht : TreeR w F ct t) (hsz : t.size ≤ 8388608) : Calls Try.prog 8 #[.int .u8 x, .agg ct.toArray] w (Gives w (.bool true)) := by
  obtain ⟨g0, g1⟩ := ver_ok (m := 2 + 1) hx.1 hx.2 (by decide) (by decide)
  have hp : makeElectLeadersResponse (Int.tmod x (2 + 1)) (fitT (Int.tmod x (2 + 1)) 8 sElectLeadersResponseF t) = writeB 8 sElectLeadersResponseF sElectLeadersResponseX (Int.tmod x (2 + 1)) t := by unfold makeElectLeadersResponse; rw [i16_small g0 g1]; exact pureElectLeadersResponse (Int.tmod x (2 + 1)) g0 g1 t
  have h1 := writeB_le 8 sElectLeadersResponseF sElectLeadersResponseX (Int.tmod x (2 + 1)) t
  have h2 : costL sElectLeadersResponseF ≤ 131000 := by decide +kernel
  have h3 := Nat.mul_le_mul h2 hsz
  exact lawElectLeadersResponse x hx.1 (by omega) ct t w F ht (by omega) (canfitElectLeadersResponse (Int.tmod x (2 + 1)) t) (by rw [hp]; omega) hp

end Go.Proofs.Ytbjopfcbpobnpaa.ME

/- FnMakeElectLeadersResponse: the statement: of every version and every tree of the bulk that the statement speaks of the law returns true, and leaves its arguments as they are. Own work. -/
namespace Go.Proofs.Ytbjopfcbpobnpaa.ME
open Go
open Go.ChangeShapes Go.WideShapes Go.ChangeAt Go.RowKit
set_option linter.unusedVariables false
set_option linter.unusedSimpArgs false

theorem ownKnob_ : ownKnob Try.prog.godebug = none := by kernel_rfl
theorem laidOut_ : laidOutB Try.prog = true := by kernel_rfl
theorem treeTys : TreeTys Try.prog 26 23 24 61 22 2 4 59 5 := ⟨by kernel_rfl, by kernel_rfl, by kernel_rfl, by kernel_rfl, by kernel_rfl, by kernel_rfl, by kernel_rfl, by kernel_rfl, by kernel_rfl, by kernel_rfl⟩
theorem open_two {H : Type} {enc : TypeId × Value → H} {P : Program} {W : World} {base b' : Nat} {sp : Nat → Bool} {hd : Bool} {t0 t1 : TypeId} {v0 v1 : Value} {d0 : DataW H} {p0 : List MemPlace} (hu : P.underlying t0 = some (.int .u8))
    (hval : ∀ (j : Nat) (t : TypeId) (v : Value), #[t0, t1][j]? = some t → #[v0, v1][j]? = some v → Value.okWide P W .any base t v) (h : DataW.Trod enc P W b' sp hd t0 v0 d0 p0) : ∃ x, v0 = .int .u8 x ∧ d0 = .lit (.int .u8 x) ∧ p0 = [] ∧ (Lit.int .u8 x).wf = true :=
  open_int hu (hval 0 t0 v0 rfl rfl) h
theorem agg_of {v : Value} {cs : List Value} (h : v.cells.toList = cs) (h5 : cs.length = 5) : v = .agg cs.toArray := by
  subst h
  cases v <;> first | (simp [Value.cells] at h5; done) | simp [Value.cells]

theorem contract_ (H : Type) (enc : TypeId × Value → H) (W : World) (base : Nat) (args : Array Value) (ds gs : List (DataW H)) (before : List MemPlace)
    (hval : ∀ (j : Nat) t v, Try.f8.params[j]? = some t → args[j]? = some v → Value.okWide Try.prog W .any base t v)
    (hW : DataW.Whole enc Try.prog Try.f8.params.toList Rows.fnMakeElectLeadersResponseSpec.vars false W args.toList ds gs before) (hk : Rows.uptoSmall H (ds ++ gs) = true) :
    Calls Try.prog 8 args W fun e W' => ∃ v, e = .returned v ∧ Rows.fnMakeElectLeadersResponseSpec.post enc Try.prog Try.f8 false true false false W args v W' := by
  have hW' := hW
  obtain ⟨p, q, hA0, hV, rfl, hfz, hnd⟩ := hW
  have hA : DataW.TrodAll enc Try.prog W 0 (fun _ => true) true Try.f8.params.toList args.toList ds p := hA0
  rw [Try.params8] at hA hval
  obtain ⟨v0, v1, d0, d1, p0, p1, rfl, rfl, rfl, h0, h1⟩ := trodAll_two hA
  obtain ⟨rfl, rfl⟩ := trodVars_none hV
  obtain ⟨x, rfl, rfl, rfl, w0⟩ := open_two Try.underlying5 @hval h0
  have hx : 0 ≤ x ∧ x ≤ 255 := by simpa [Lit.wf, IntKind.min, IntKind.max, IntKind.signed, IntKind.bits] using w0
  have hb : Rows.uptoBulk d1 ≤ 1048576 := by
    have h : Rows.uptoBulkAll ([DataW.lit (H := H) (.int .u8 x), d1] ++ []) ≤ 1048576 := of_decide_eq_true hk
    simp only [List.append_nil, Rows.uptoBulkAll] at h
    omega
  obtain ⟨fuel, hf⟩ := h1
  obtain ⟨t, ht, hsz⟩ := trod_tree treeTys fuel _ _ hf hb
  replace hsz : t.size ≤ 8388608 := Nat.le_trans hsz (by show 8 * Rows.uptoBulk d1 ≤ 8388608; omega)
  have hagg := agg_of rfl ht.five
  generalize v1.cells.toList = ct at ht hagg
  subst hagg
  clear hf
  refine (closeElectLeadersResponse x hx _ t W (fun _ _ => True) ht hsz).mono fun e W' h => ?_
  obtain ⟨rfl, hs⟩ := h
  exact ⟨_, rfl, post_step hW' hs laidOut_ (by rw [Try.params8]; decide +kernel) rfl rfl rfl (fun _ _ _ => trodAll_cons_mk (shut_bool Try.underlying4 _) trodAll_mk0)⟩

set_option maxRecDepth 100000 in
theorem lifted_ (os : Os) (started : os.Started) (H : Type) (enc : TypeId × Value → H) (F : Stop.Interp) :
    ReturnsInHanded {} Try.checked os 8 .any ((Rows.OpenSpec.upto Rows.fnMakeElectLeadersResponseSpec).pre6 enc Try.prog Try.f8 Rows.fnMakeElectLeadersResponseUptoRow.domain false) (((Rows.OpenSpec.upto Rows.fnMakeElectLeadersResponseSpec).at F).post enc Try.prog Try.f8 false true false false) := by
  refine returnsInHanded_of_cond (C := Try.checked) (s := Rows.OpenSpec.upto Rows.fnMakeElectLeadersResponseSpec) (k := Rows.uptoSmall) rfl ownKnob_ started (by kernel_rfl) Try.func8
    (OpenSpec.witness (enc := enc) (C := Try.checked) (s := Rows.OpenSpec.upto Rows.fnMakeElectLeadersResponseSpec) (k := Rows.uptoSmall) rfl false ⟨#[], #[.int .u8 0, .agg #[.int .i64 0, .slice none 0 0, .bool false, .slice none 0 0, .slice none 0 0]], []⟩ 8 (by kernel_rfl) (by kernel_rfl) (by kernel_rfl)
      (x := ([.lit (.int .u8 0), .agg [.lit (.int .i64 0), .nil, .lit (.bool false), .nil, .nil]], [], [])) (by kernel_rfl) rfl (by kernel_rfl)) ?_
  intro W base args ds gs before hval hW _ hk _
  exact contract_ H enc W base args ds gs before @hval hW hk

theorem holds_ : Rows.FnMakeElectLeadersResponseUptoSaid :=
  OpenClaim.holds_of_cond 8 Try.f8 rfl rfl rfl rfl rfl rfl rfl ⟨rfl, rfl, rfl, rfl, rfl⟩ rfl rfl rfl rfl rfl (by kernel_rfl) Try.func8 (by kernel_rfl)
    (of_decide_eq_true (by kernel_rfl)) (by unfold Func.isWrapper; first | (rw [if_pos (by decide +kernel)]; kernel_rfl) | (rw [if_neg (by decide +kernel)]; exact ⟨rfl, rfl⟩))
    (fun os started H enc _ F => lifted_ os started H enc F)
end Go.Proofs.Ytbjopfcbpobnpaa.ME
namespace Go.Proofs.Ytbjopfcbpobnpaa
/-- the statement -/
theorem fnMakeElectLeadersResponse_holds : Rows.FnMakeElectLeadersResponseUptoSaid := ME.holds_
end Go.Proofs.Ytbjopfcbpobnpaa
