/- FnMakeSyncGroupRequest: the statement: of every version and every tree of the bulk that the statement speaks of the law returns true, and leaves its arguments as they are. Own work. -/
import Derived.Test.YtbjopfcbpobnpaaWSgP3
/- Lists of a message, laid anew: data against trees. Own work. -/
namespace Go.Proofs.Ytbjopfcbpobnpaa.ME
open Go
open Go.RowKit
set_option linter.unusedVariables false
set_option linter.unusedSimpArgs false

/-- what is known of data stays known where nothing of it is written -/
def Moves (ok : World → (Nat → Nat → Prop) → DV → Prop) : Prop := ∀ {w w' : World} {F F' M : Nat → Nat → Prop} (d : DV), Step w w' M → (∀ b o, F b o → b < w.heap.size → ¬ M b o) → (∀ b o, F b o → b < w.heap.size → F' b o) → ok w F d → ok w' F' d
/-- things in a row that is being laid -/
structure RowL (w : World) (F : Nat → Nat → Prop) (size : Nat) (cells : DV → List Value) (ok : World → (Nat → Nat → Prop) → DV → Prop) (rel : DV → Tree → Prop) (xs : List Value) (ds : List DV) (ts : List Tree) : Prop where
  mv : Moves ok
  row : Row_ size cells (ok w F) rel xs ds ts
/-- a list, laid -/
structure LstR (w : World) (F : Nat → Nat → Prop) (size : Nat) (cells : DV → List Value) (ok : World → (Nat → Nat → Prop) → DV → Prop) (rel : DV → Tree → Prop) (A : Option Addr) (c : Nat) (f : Nat → DV) (ts : List Tree) : Prop where
  mv : Moves ok
  slots : Slots w F size A c ts.length (fun i => cells (f i))
  each : ∀ i, i < ts.length → ok w F (f i)
  rel_ : ∀ i, i < ts.length → rel (f i) (ts.getD i .zero)
section
variable {w w' w0 : World} {F F' M : Nat → Nat → Prop} {size : Nat} {cells : DV → List Value} {ok : World → (Nat → Nat → Prop) → DV → Prop} {rel : DV → Tree → Prop} {xs : List Value} {ds : List DV} {ts : List Tree} {A : Option Addr} {c : Nat} {f : Nat → DV} {tb : Tb} {rs rs' : List Rw}
theorem RowL.move (h : RowL w F size cells ok rel xs ds ts) (hs : Step w w' M) (hM : ∀ b o, F b o → b < w.heap.size → ¬ M b o) (hF : ∀ b o, F b o → b < w.heap.size → F' b o) : RowL w' F' size cells ok rel xs ds ts :=
  ⟨h.mv, h.row.mono fun d hd => h.mv d hs hM hF hd⟩
theorem RowL.nil (mv : Moves ok) : RowL w F size cells ok rel [] [] [] := ⟨mv, Row_.nil⟩
theorem RowL.snoc {l : List Tree} {k : Nat} {t : Tree} {d : DV} (h : RowL w F size cells ok rel xs ds (l.take k)) (hk : l[k]? = some t) (hc : (cells d).length = size) (ho : ok w F d) (hr : rel d t) : RowL w F size cells ok rel (xs ++ cells d) (ds ++ [d]) (l.take (k + 1)) := by
  rw [take_succ_of hk]
  exact ⟨h.mv, h.row.snoc hc ho hr⟩
theorem LstR.move (h : LstR w F size cells ok rel A c f ts) (hs : Step w w' M) (hM : ∀ b o, F b o → b < w.heap.size → ¬ M b o) (hF : ∀ b o, F b o → b < w.heap.size → F' b o) : LstR w' F' size cells ok rel A c f ts :=
  ⟨h.mv, h.slots.move hs hM hF, fun i hi => h.mv _ hs hM hF (h.each i hi), h.rel_⟩
theorem LstR.nil (mv : Moves ok) : LstR w F size cells ok rel none 0 (fun _ => dv0) [] :=
  ⟨mv, Slots.nil _ _ _ _, fun i hi => by simp at hi, fun i hi => by simp at hi⟩
/-- the row is full: it is not written any more -/
theorem LstR.of {e n k : Nat} {G : Nat → Nat → Prop} (hW : WOk w0 Nil w tb rs) (hk : rs[k]? = some ⟨A, c, e, size, n, xs⟩) (h : RowL w (Imm G w0 w tb rs) size cells ok rel xs ds (ts.take n)) (hn : n = ts.length) (h1 : ∀ d, ∀ u ∈ cells d, u.oneCell' = true) (hsm : ts.length ≤ 1099511627776) (hr : rs.take k = rs' := by rfl) :
    LstR w (Imm G w0 w tb rs') size cells ok rel A c (fun i => ds.getD i dv0) ts := by
  subst hr
  rw [hn, List.take_length] at h
  have hI : ∀ b o, Imm G w0 w tb rs b o → b < w.heap.size → Imm G w0 w tb (rs.take k) b o := fun b o hi hb => by
    refine ⟨hi.1, hi.2.1, fun ha => hi.2.2 ?_⟩
    rcases ha with ha | ⟨i, r, h2, h3⟩
    · exact .inl ha
    · rw [List.getElem?_take] at h2
      split at h2
      · exact .inr ⟨i, r, h2, h3⟩
      · cases h2
  have h' := h.move (Step.refl w Nil) nilM hI
  obtain ⟨g1, g2, g3⟩ := h'.row.slots (hW.own k _ hk) hn h1 hsm (F := Imm G w0 w tb (rs.take k)) (fun g hg o => by
    have hb := own_live (hW.own k _ hk) (r := ⟨A, c, e, size, n, xs⟩) hg
    refine ⟨?_, hb, fun ha => ?_⟩
    · rcases hW.ownM k _ hk g hg with h2 | h2
      · exact .inr h2
      · exact (h2 0).elim
    · rcases ha with ⟨i, ob, h2, _, h3, _⟩ | ⟨i, r, h2, h3⟩
      · exact hW.rtb k _ hk g hg i ob h2 h3
      · rw [List.getElem?_take] at h2
        split at h2
        · rename_i hlt
          exact hW.rr k i _ r (by omega) hk h2 g hg h3
        · cases h2)
  rw [hn] at g1 g2 g3
  exact ⟨h'.mv, g1, g2, g3⟩
end
theorem lst_of {t : Tree} (h : t.null = false) : lst t = t.L := by unfold lst; rw [h]; rfl
theorem lst_no {t : Tree} (h : t.null = true) : lst t = [] := by unfold lst; rw [h]; rfl
/-- two ways that come together again -/
theorem wp_join {P : Program} {c : Code} {Mid N : Act → World → Prop} {Q : Exit → Act → World → Prop} {a : Act} {w : World} (h1 : c.wp P (Exit.then Mid Q) a w) (h2 : ∀ a' w', Mid a' w' → N a' w') : c.wp P (Exit.then N Q) a w :=
  wp_mono h1 fun e a' w' h => by
    cases e <;> first | exact h2 a' w' h | exact h
/-- a number as a datum -/
def dvN (n : Int) : DV := .mk n false ByteArray.empty [] none 0 0 none [] (fun _ => .leaf)
def dvS (s : ByteArray) : DV := .mk 0 false s [] none 0 0 none [] (fun _ => .leaf)
def dvT (A : Option Addr) (s : ByteArray) : DV := .mk 0 false s [] A 0 0 none [] (fun _ => .leaf)
def dvO (A : Option Addr) (o : Bs) (c : Nat) : DV := .mk 0 false ByteArray.empty o A 0 c none [] (fun _ => .leaf)
def dvL (A : Option Addr) (l c : Nat) (f : Nat → DV) : DV := .mk 0 false ByteArray.empty [] A l c none [] f
def dvP (m : Option Nat) (u : List (Int × Bs)) (fs : List DV) : DV := .mk 0 false ByteArray.empty [] none 0 0 m u (fun i => fs.getD i .leaf)

/-- behind the setting of tags: the table and the frame -/
theorem TL.tab {w wL w1 : World} {F : Nat → Nat → Prop} {p off : Nat} {cs0 : List Value} {m : Option Nat} {u : List (Int × Bs)} {tb : Tb} {rs : List Rw} (h : TL w wL w1 F p off cs0 m u) (hW : WOk w Nil wL tb rs) (i : Nat) (tb' : Tb) (hi : tb[i]? = some ⟨p, 0, cs0, true⟩) (ht : tb.set i ⟨p, 0, cs0.set off (.map m), true⟩ = tb' := by rfl) (ho : Nat.blt off cs0.length = true := by kernel_rfl) :
    WOk w Nil w1 tb' rs ∧ Fr wL tb rs w1 tb' rs := by
  subst ht
  have ho' : off < cs0.length := by simpa [Nat.blt_eq] using ho
  have hil : i < tb.length := (List.getElem?_eq_some_iff.1 hi).1
  have key : ∀ (j : Nat) (o : Ob), (tb.set i ⟨p, 0, cs0.set off (.map m), true⟩)[j]? = some o → (j = i ∧ o = ⟨p, 0, cs0.set off (.map m), true⟩) ∨ (j ≠ i ∧ tb[j]? = some o) := fun j o hj => by
    rcases set_get hj with ⟨h1, h2, _⟩ | ⟨h1, h2⟩
    · exact .inl ⟨h1, h2⟩
    · exact .inr ⟨h1, h2⟩
  have far : ∀ (j : Nat) (o : Ob), j ≠ i → tb[j]? = some o → ∀ q, q < o.cells.length → ¬ (o.blk = p ∧ o.off + q = off) := fun j o hne hj q hq e => by
    rcases hW.apart j i o _ hne hj hi (.inr rfl) with h1 | h1 | h1
    · exact h1 e.1
    · simp only [Nat.le_zero] at h1; omega
    · simp only [Nat.zero_add] at h1; omega
  have act : ∀ b o, Act_ (tb.set i ⟨p, 0, cs0.set off (.map m), true⟩) rs b o → Act_ tb rs b o := fun b o ha => by
    rcases ha with ⟨j, ob, hj, h1, h2, h3, h4⟩ | ha
    · rcases key j ob hj with ⟨rfl, rfl⟩ | ⟨_, hj⟩
      · exact .inl ⟨j, _, hi, rfl, h2, h3, by simpa using h4⟩
      · exact .inl ⟨j, ob, hj, h1, h2, h3, h4⟩
    · exact .inr ha
  refine ⟨⟨h.step, ?_, ?_, ?_, ?_, ?_, hW.ownM, ?_, hW.rr⟩, ⟨fun b o _ hn ha => hn (act b o ha), h.keep.mono fun b o _ e => .inl ⟨i, _, hi, rfl, e.1.symm, Nat.zero_le _, by simpa [e.2] using ho'⟩⟩⟩
  · intro j o hj q v hv
    rcases key j o hj with ⟨rfl, rfl⟩ | ⟨hne, hj⟩
    · dsimp only
      rw [Nat.zero_add]
      exact h.str.at_ q v hv
    · exact h.keep.cell (far j o hne hj q (List.getElem?_eq_some_iff.1 hv).1) (hW.cells j o hj q v hv)
  · intro j o hj
    rcases key j o hj with ⟨rfl, rfl⟩ | ⟨_, hj⟩
    · have h1 := hW.live j _ hi
      exact Nat.lt_of_lt_of_le h1 h.keep.size
    · exact Nat.lt_of_lt_of_le (hW.live j o hj) h.keep.size
  · intro j o hj hr q hq
    rcases key j o hj with ⟨rfl, rfl⟩ | ⟨hne, hj⟩
    · dsimp only at hq ⊢
      refine ⟨(hW.rw_ j _ hi rfl q (by simpa using hq)).1, ?_⟩
      rw [Nat.zero_add]
      exact h.str.frz q hq
    · obtain ⟨h1, h2⟩ := hW.rw_ j o hj hr q hq
      exact ⟨h1, h.keep.frozen (far j o hne hj q hq) (hW.cells j o hj q _ (List.getElem?_eq_getElem hq)) h2⟩
  · intro j k o o' hjk hj hk hw
    rcases key j o hj with ⟨rfl, rfl⟩ | ⟨hne, hj'⟩
    · rcases key k o' hk with ⟨rfl, rfl⟩ | ⟨hne', hk'⟩
      · exact absurd rfl hjk
      · have := hW.apart j k _ o' hjk hi hk' (.inl rfl)
        simpa using this
    · rcases key k o' hk with ⟨rfl, rfl⟩ | ⟨hne', hk'⟩
      · have := hW.apart j k o _ hjk hj' hi (.inr rfl)
        simpa using this
      · exact hW.apart j k o o' hjk hj' hk' hw
  · intro j r hj
    refine own_keep (hW.own j r hj) fun g hg => (h.keep.keeps g (own_live (hW.own j r hj) hg)).1 fun o e => ?_
    exact hW.rtb j r hj g hg i _ hi e.1.symm
  · intro j r hj g hg k o hk
    rcases key k o hk with ⟨rfl, rfl⟩ | ⟨_, hk⟩
    · have h1 := hW.rtb j r hj g hg k _ hi
      exact h1
    · exact hW.rtb j r hj g hg k o hk
/-- the tags that have been set, as the call's own that is not written any more -/
theorem TL.mapImm {w wL w1 : World} {F : Nat → Nat → Prop} {p off : Nat} {cs0 : List Value} {m : Option Nat} {u : List (Int × Bs)} {tb tb' : Tb} {rs : List Rw} (h : TL w wL w1 F p off cs0 m u) (hW : WOk w Nil wL tb rs) (hW' : WOk w Nil w1 tb' rs) (hf : Fr wL tb rs w1 tb' rs) (hs : Sorted u) (hr : ∀ x ∈ u, 0 ≤ x.1 ∧ x.1 < 4294967296) (hl : tb'.map (·.blk) = tb.map (·.blk) := by rfl) : MapR w1 (Imm F w w1 tb' rs) m u := by
  have blk : ∀ b o, Act_ tb' rs b o → w.heap.size ≤ b ∧ b < wL.heap.size := fun b o ha => by
    rcases ha with ⟨j, ob, hj, h1, rfl, h3, h4⟩ | ⟨j, r, hj, hb⟩
    · have hm : (tb'.map (·.blk))[j]? = some ob.blk := by rw [List.getElem?_map, hj]; rfl
      rw [hl, List.getElem?_map] at hm
      obtain ⟨ob', hk, e⟩ := Option.map_eq_some_iff.1 hm
      refine ⟨?_, by rw [← e]; exact hW.live j ob' hk⟩
      rcases (hW'.rw_ j ob hj h1 (o - ob.off) (by omega)).1 with h5 | h5
      · exact h5
      · exact h5.elim
    · refine ⟨?_, own_live (hW.own j r hj) hb⟩
      rcases hW.ownM j r hj b hb with h5 | h5
      · exact h5
      · exact (h5 0).elim
  have hb := h.big
  refine h.own.map (fun b o h1 => ⟨.inl h1.1, Nat.lt_of_lt_of_le h1.2 h.step.size, fun ha => ?_⟩) (fun r o e => ?_) hs hr
  · have := blk b o ha; have := h1.2; omega
  · have h1 := h.new r e
    obtain ⟨es, clk, h2, _⟩ := h.own.some_ r e
    refine ⟨.inr (Nat.le_trans hb h1), (Array.getElem?_eq_some_iff.1 h2).1, fun ha => ?_⟩
    have := blk r o ha; omega
theorem own_some {w0 w : World} {M : Nat → Nat → Prop} {tb : Tb} {rs : List Rw} {k e size n c : Nat} {A : Option Addr} {xs : List Value} (hW : WOk w0 M w tb rs) (hk : rs[k]? = some ⟨A, c, e, size, n, xs⟩) (hn : 0 < n) : A.isNone = false := by
  cases A with
  | some _ => rfl
  | none =>
    rcases (hW.own k _ hk).2 with ⟨_, h⟩ | ⟨_, _, _, hv, _⟩
    · have h' : n = 0 := h
      omega
    · cases hv
/-- slots that hold addresses, in a table -/
theorem EnvOk.retable {n : Nat} {env : Env} {a : Act} (tb : Tb) (h : EnvOk n [] env a) : EnvOk n tb env a := h.table fun i hi => absurd hi (Nat.not_lt_zero i)

end Go.Proofs.Ytbjopfcbpobnpaa.ME

/- Printed by tools/mk.py. Own work. -/
namespace Go.Proofs.Ytbjopfcbpobnpaa.ME
open Go
open Go.RowKit
set_option linter.unusedVariables false
set_option linter.unusedSimpArgs false
set_option maxRecDepth 20000

theorem kOctetsOf (ct : List Value) (t : Tree) (w : World) (F : Nat → Nat → Prop) (ht : TreeR w F ct t) : Calls Try.prog 94 #[.agg ct.toArray] w (fun e w' => ∃ A c, e = .returned (.slice A (octOf t).length c) ∧ Octs w' (Fp F w) A c (octOf t) ∧ A.isNone = t.null ∧ Step w w' Nil) := by
  obtain ⟨n, s, b, l, u, A1, c1, A2, c2, A3, c3, xs, rfl, rfl, h1, h2, h3, h4⟩ := ht.open_
  have hsm := h1.small
  refine enter (n := 9) (vs := [.agg #[.int .i64 n, .slice A1 s.length c1, .bool b, .slice A2 l.length c2, .slice A3 u.length c3]]) Try.func94 rfl Try.ntmps94 (by kernel_rfl) fun a hE => ?_
  have hW := WOk.start w Nil
  refine go_seq_region [0, 1] (by kernel_rfl) ?_
  refine of_op (wpOp_box hW hE (d := 1) (cs := [.int .i64 n, .slice A1 s.length c1, .bool b, .slice A2 l.length c2, .slice A3 u.length c3]) (by kernel_rfl) fun b1 a1 w1 hb hb0 hF1 hW1 hE1 => ?_)
  refine go_runs [1] [] [1] hW1 hE1 (env' := [(1, .p 0 0)]) (by kernel_rfl) rfl fun a2 hE2 => wpOps_nil (then_normal ?_)
  refine wp_seq (wp_seq ?_)
  refine go_region [0, 1] (by kernel_rfl) (go_runs [0, 1] [] [1, 4] hW1 hE2 (env' := [(1, .p 0 0), (4, .v (.bool b))]) (by kernel_rfl) rfl fun a3 hE3 => wpOps_nil (then_normal ?_))
  refine cond_of hE3 (b := b) (by kernel_rfl) (fun hb => ?_) (fun hb => ?_)
  · subst hb
    refine go_seq_region [0] (by kernel_rfl) (go_runs [0] [] [2] hW1 hE3 (env' := [(2, .v (.slice none 0 0))]) (by kernel_rfl) rfl fun a4 hE4 => wpOps_nil (then_normal (wp_ret (then_ret ?_))))
    exact leave hE4 hW1.cells (v := .slice none 0 0) (by kernel_rfl) ⟨none, 0, rfl, Octs.nil _ _, rfl, hW1.step⟩
  · subst hb
    refine wp_skip (then_normal ?_)
    refine go_seq_region [0, 1, 2, 3, 4] (by kernel_rfl) ?_
    refine of_op (wpOp_lit hW1 hE3 (e := 5) (size := 1) (len := 0) (cs := []) (d := 5) (by kernel_rfl) (by kernel_rfl) fun g a4 w2 hg hg0 hF2 hW2 hE4 => ?_)
    refine go_runs [1, 2] [3, 4] [5, 7] hW2 hE4 (env' := [(5, .v (.slice (some ⟨g, 0, none⟩) 0 0)), (7, .v (.slice A1 s.length c1))]) (by kernel_rfl) rfl fun a5 hE5 => ?_
    refine of_op (wpOp_append2 hW2 hE5 (k := 0) (t := 22) (bytes := 1) (d := 8) (by kernel_rfl) (by kernel_rfl) rfl (h1.move hW2.step nilM keepF) (by omega) fun A' c' a6 w3 hne hF3 hW3 hE6 => ?_)
    refine go_runs [4] [] [2] hW3 hE6 (env' := [(2, .v (.slice A' s.length c'))]) (by kernel_rfl) rfl fun a7 hE7 => wpOps_nil (then_normal (wp_ret ?_))
    refine leave hE7 hW3.cells (v := .slice A' s.length c') (by kernel_rfl) ⟨A', c', rfl, ?_, ?_, hW3.step⟩
    · refine octs_own (hW3.own 0 _ rfl) hsm fun g' hg' o => .inr ?_
      rcases hW3.ownM 0 _ rfl g' hg' with h | h
      · exact h
      · exact (h 0).elim
    · cases A' with
      | none => exact absurd rfl hne
      | some _ => rfl

theorem kTextOf (ct : List Value) (t : Tree) (w : World) (F : Nat → Nat → Prop) (ht : TreeR w F ct t) : Calls Try.prog 111 #[.agg ct.toArray] w (fun e w' => ∃ A, e = .returned (.pointer A) ∧ (∀ ad, A = some ad → ∃ b o, ad = ⟨b, o, none⟩ ∧ AtF w' (Fp F w) b o [.string (bs (octOf t))]) ∧ A.isNone = t.null ∧ Step w w' Nil) := by
  obtain ⟨n, s, b, l, u, A1, c1, A2, c2, A3, c3, xs, rfl, rfl, h1, h2, h3, h4⟩ := ht.open_
  have hsm := h1.small
  refine enter (n := 9) (vs := [.agg #[.int .i64 n, .slice A1 s.length c1, .bool b, .slice A2 l.length c2, .slice A3 u.length c3]]) Try.func111 rfl Try.ntmps111 (by kernel_rfl) fun a hE => ?_
  have hW := WOk.start w Nil
  refine go_seq_region [0, 1] (by kernel_rfl) ?_
  refine of_op (wpOp_box hW hE (d := 1) (cs := [.int .i64 n, .slice A1 s.length c1, .bool b, .slice A2 l.length c2, .slice A3 u.length c3]) (by kernel_rfl) fun b1 a1 w1 hb hb0 hF1 hW1 hE1 => ?_)
  refine go_runs [1] [] [1] hW1 hE1 (env' := [(1, .p 0 0)]) (by kernel_rfl) rfl fun a2 hE2 => wpOps_nil (then_normal ?_)
  refine wp_seq (wp_seq ?_)
  refine go_region [0, 1] (by kernel_rfl) (go_runs [0, 1] [] [1, 5] hW1 hE2 (env' := [(1, .p 0 0), (5, .v (.bool b))]) (by kernel_rfl) rfl fun a3 hE3 => wpOps_nil (then_normal ?_))
  refine cond_of hE3 (b := b) (by kernel_rfl) (fun hb => ?_) (fun hb => ?_)
  · subst hb
    refine go_seq_region [0] (by kernel_rfl) (go_runs [0] [] [2] hW1 hE3 (env' := [(2, .v (.pointer none))]) (by kernel_rfl) rfl fun a4 hE4 => wpOps_nil (then_normal (wp_ret (then_ret ?_))))
    exact leave hE4 hW1.cells (v := .pointer none) (by kernel_rfl) ⟨none, rfl, (fun ad h => by cases h), rfl, hW1.step⟩
  · subst hb
    refine wp_skip (then_normal ?_)
    refine go_seq_region [0, 1, 2, 3, 4] (by kernel_rfl) ?_
    refine go_runs [0, 1] [2, 3, 4] [7] hW1 hE3 (env' := [(7, .v (.slice A1 s.length c1))]) (by kernel_rfl) rfl fun a4 hE4 => ?_
    refine of_op (wpOp_conv hE4 (src := 22) (dst := 9) (e := 5) (d := 8) (by kernel_rfl) (by kernel_rfl) (by kernel_rfl) (by kernel_rfl) (h1.move hW1.step nilM keepF) fun a5 hE5 => ?_)
    refine of_op (wpOp_alloc hW1 hE5 (d := 3) (cs := [.string ByteArray.empty]) (by kernel_rfl) fun b2 a6 w2 hb2 hb20 hF2 hW2 hE6 => ?_)
    refine of_op (wpOp_store hW2 hE6 (oi := 1) (cs := [.string (bs s)]) (by kernel_rfl) fun w3 hF3 hW3 hE7 => wpOps_nil (then_normal ?_))
    refine go_seq_region [0] (by kernel_rfl) (go_runs [0] [] [2] hW3 hE7 (env' := [(2, .p 1 0)]) (by kernel_rfl) rfl fun a7 hE8 => wpOps_nil (then_normal (wp_ret ?_)))
    refine leave hE8 hW3.cells (v := .pointer (some ⟨b2, 0, none⟩)) (by kernel_rfl) ⟨some ⟨b2, 0, none⟩, rfl, fun ad h => ?_, rfl, hW3.step⟩
    obtain rfl := Option.some.inj h
    exact ⟨b2, 0, rfl, fun j v hj => ⟨.inr hb20, hW3.cells 1 _ rfl j v hj⟩⟩

end Go.Proofs.Ytbjopfcbpobnpaa.ME

/- Contracts: printed by tools/sp.py. Own work. -/
namespace Go.Proofs.Ytbjopfcbpobnpaa.ME
open Go
set_option linter.unusedVariables false
set_option linter.unusedSimpArgs false
set_option maxRecDepth 20000

theorem lFits3 (k : Int) (A : Option Addr) (m c : Nat) (w : World) : Calls Try.prog 92 #[.agg #[.int .u32 k, .slice A m c]] w (GivesB w) := by
  refine enter (n := 7) Try.func92 rfl Try.ntmps92 (by kernel_rfl) fun a hE => ?_
  have hW := WOk.start w Nil
  refine go_seq_region [0, 1] (by kernel_rfl) ?_
  refine of_op (wpOp_box hW hE (d := 1) (cs := [.int .u32 k, .slice A m c]) (by kernel_rfl) fun b1 a2 w3 hb4 hz5 hF6 hW7 hE8 => ?_)
  clear hE hW
  refine go_rn [1] [] [(1, .p 0 0)] hW7 hE8 fun a9 hE10 => ?_
  clear hE8
  refine wpOps_nil ?_
  refine then_normal ?_
  refine wp_seq ?_
  refine go_sp [(6, .v (.bool (decide (((m : Nat) : Int) > 2147483647))))] hW7 hE10 fun a11 hE12 => ?_
  clear hE10
  refine cond_of hE12 (b := decide (((m : Nat) : Int) > 2147483647)) (by kernel_rfl) (fun hc13 => ?_) (fun hc13 => ?_)
  ·
    have hf14 := of_decide_eq_true hc13
    refine go_sp [(2, .v (.bool false))] hW7 hE12 fun a15 hE16 => ?_
    clear hE12
    refine wp_ret ?_
    refine then_ret ?_
    refine leave hE16 hW7.cells (v := .bool false) (by kernel_rfl) ?_
    exact ⟨_, rfl, hW7.step⟩
  ·
    have hf17 := of_decide_eq_false hc13
    refine wp_skip ?_
    refine then_normal ?_
    refine go_sp [(2, .v (.bool true))] hW7 hE12 fun a18 hE19 => ?_
    clear hE12
    refine wp_ret ?_
    refine leave hE19 hW7.cells (v := .bool true) (by kernel_rfl) ?_
    exact ⟨_, rfl, hW7.step⟩

theorem lFits2 (A : Option Addr) (c : Nat) (u : List (Int × Bs)) (w : World) (F : Nat → Nat → Prop) (hu : TagsR w F A c u) : Calls Try.prog 41 #[.slice A u.length c] w (GivesB w) := by
  obtain ⟨xu, h1, h2⟩ := hu.ex
  have hsm := h1.small
  refine enter (n := 18) Try.func41 rfl Try.ntmps41 (by kernel_rfl) fun a hE => ?_
  have hW := WOk.start w Nil
  refine go_sp [(0, .v (.slice A u.length c))] hW hE fun a1 hE2 => ?_
  clear hE
  refine wp_seq ?_
  refine go_sp [(0, .v (.slice A u.length c)), (7, .v (.bool (decide (((u.length : Nat) : Int) > 2147483647))))] hW hE2 fun a3 hE4 => ?_
  clear hE2
  refine cond_of hE4 (b := decide (((u.length : Nat) : Int) > 2147483647)) (by kernel_rfl) (fun hc5 => ?_) (fun hc5 => ?_)
  ·
    have hf6 := of_decide_eq_true hc5
    refine go_sp [(2, .v (.bool false))] hW hE4 fun a7 hE8 => ?_
    clear hE4
    refine wp_ret ?_
    refine then_ret ?_
    refine leave hE8 hW.cells (v := .bool false) (by kernel_rfl) ?_
    exact ⟨_, rfl, hW.step⟩
  ·
    have hf9 := of_decide_eq_false hc5
    refine wp_skip ?_
    refine then_normal ?_
    refine wp_seq ?_
    refine go_sp [(8, .v (.slice A u.length c)), (9, .v (.int .i64 ((u.length : Nat) : Int))), (10, .v (.int .i64 0))] hW hE4 fun a10 hE11 => ?_
    clear hE4
    refine wp_block ?_
    refine wp_loop_ghost (fun n_ a_ w_ => ∃ (k : Nat), n_ = u.length - k ∧ k ≤ u.length ∧ LInv hW 18 [] [] [(8, .v (.slice A u.length c)), (9, .v (.int .i64 ((u.length : Nat) : Int))), (10, .v (.int .i64 ((k : Nat) : Int)))] a_ w_) (u.length) ⟨0, by omega, by omega, hE11.pk, hW, Fr.refl _ _ _⟩ ?_
    clear hE11
    rintro n12 a13 w14 ⟨k, hn17, hk18, hE15, hW16, hF19⟩
    refine go_sp [(8, .v (.slice A u.length c)), (9, .v (.int .i64 ((u.length : Nat) : Int))), (10, .v (.int .i64 ((k : Nat) : Int))), (11, .v (.bool (decide (((k : Nat) : Int) < ((u.length : Nat) : Int)))))] hW16 hE15 fun a20 hE21 => ?_
    clear hE15
    refine wp_seq ?_
    refine cond_of hE21 (b := decide (((k : Nat) : Int) < ((u.length : Nat) : Int))) (by kernel_rfl) (fun hc22 => ?_) (fun hc22 => ?_)
    ·
      have hf23 := of_decide_eq_true hc22
      refine wp_skip ?_
      refine then_normal ?_
      refine wp_seq ?_
      refine wp_block ?_
      refine go_seq_region [0, 1, 2, 3] (by kernel_rfl) ?_
      obtain ⟨b24, o25, hA26, hl27, hat28⟩ := Slots.get h1 (i := k) (by omega)
      obtain ⟨⟨k29, s30⟩, he31⟩ : ∃ x, u[k]? = some x := ⟨_, List.getElem?_eq_getElem (by omega)⟩
      obtain ⟨⟨A32, c33, hcs34, hb35⟩, h36, h37⟩ := h2 k k29 s30 he31
      rw [hcs34] at hat28
      refine of_op (wpOp_index hE21 (t := 24) (A := A) (m := u.length) (q := ((k : Nat) : Int)) (d := 12) (by kernel_rfl) (e := 61) (size := 2) (bytes := 32) (by kernel_rfl) hA26 rfl (by omega) fun a38 hE39 => ?_)
      clear hE21
      refine of_op (wpOp_load hE39 (t := 61) (b := b24) (o := o25 + k * 2) (d := 13) (by kernel_rfl) (cs := [.int .u32 k29, .slice A32 s30.length c33]) (v := .agg #[.int .u32 k29, .slice A32 s30.length c33]) (by kernel_rfl) (AtF.move hat28 hW16.step nilM keepF).at_ fun a40 hE41 => ?_)
      clear hE39
      refine of_op (wpOp_alloc hW16 hE41 (d := 4) (cs := [.int .u32 0, .slice none 0 0]) (by kernel_rfl) fun b42 a43 w44 hb45 hz46 hF47 hW48 hE49 => ?_)
      clear hE41 hW16
      refine of_op (wpOp_store hW48 hE49 (oi := 0) (cs := [.int .u32 k29, .slice A32 s30.length c33]) (by kernel_rfl) fun w50 hF51 hW52 hE53 => ?_)
      clear hE49 hW48
      refine wpOps_nil ?_
      refine then_normal ?_
      refine go_seq_region [0, 1, 2] (by kernel_rfl) ?_
      refine go_rn [0] [1, 2] [(8, .v (.slice A u.length c)), (9, .v (.int .i64 ((u.length : Nat) : Int))), (10, .v (.int .i64 ((k : Nat) : Int))), (14, .v (.agg #[.int .u32 k29, .slice A32 s30.length c33]))] hW52 hE53 fun a54 hE55 => ?_
      clear hE53
      refine of_op (wpOp_call hE55 (f := 92) (vs := [.agg #[.int .u32 k29, .slice A32 s30.length c33]]) (d := 15) (by kernel_rfl) Try.call92 (lFits3 _ _ _ _ _) ?_)
      rintro e_ w58 ⟨b57, rfl, hs56⟩
      refine ⟨_, rfl, fun a59 hE60 => ?_⟩
      have hW61 := hW52.next_nil hs56
      have hF62 := hW52.frN hs56
      clear hE55 hW52
      refine go_rn [2] [] [(8, .v (.slice A u.length c)), (9, .v (.int .i64 ((u.length : Nat) : Int))), (10, .v (.int .i64 ((k : Nat) : Int))), (16, .v (.bool (!b57)))] hW61 hE60 fun a63 hE64 => ?_
      clear hE60
      refine wpOps_nil ?_
      refine then_normal ?_
      refine cond_of hE64 (b := !b57) (by kernel_rfl) (fun hc65 => ?_) (fun hc65 => ?_)
      ·
        refine go_sp [(2, .v (.bool false))] hW61 hE64 fun a67 hE68 => ?_
        clear hE64
        refine wp_ret ?_
        refine block_ret ?_
        refine then_ret ?_
        refine then_ret ?_
        refine block_ret ?_
        refine then_ret ?_
        refine leave hE68 hW61.cells (v := .bool false) (by kernel_rfl) ?_
        exact ⟨_, rfl, hW61.step⟩
      ·
        refine wp_skip ?_
        refine block_normal ?_
        refine then_normal ?_
        refine go_region [0, 1] (by kernel_rfl) ?_
        refine go_rn [0, 1] [] [(8, .v (.slice A u.length c)), (9, .v (.int .i64 ((u.length : Nat) : Int))), (10, .v (.int .i64 (IntKind.i64.wrap (((k : Nat) : Int) + 1))))] hW61 hE64 fun a70 hE71 => ?_
        clear hE64
        refine wpOps_nil ?_
        refine then_normal ?_
        obtain ⟨hE72, hW73, hF74⟩ := hW61.cutB hE71 0 [] [(8, .v (.slice A u.length c)), (9, .v (.int .i64 ((u.length : Nat) : Int))), (10, .v (.int .i64 (IntKind.i64.wrap (((k : Nat) : Int) + 1))))]
        have he75 : IntKind.i64.wrap (((k : Nat) : Int) + 1) = ((k + 1 : Nat) : Int) := wrap_succ (by omega)
        rw [he75] at hE72
        exact ⟨u.length - (k + 1), by omega, k + 1, rfl, by omega, hE72.pk, hW73, (Fr.trans (Fr.trans (Fr.trans (Fr.trans hF19 hF47) hF51) hF62) hF74)⟩
    ·
      have hf76 := of_decide_eq_false hc22
      refine wp_exit ?_
      refine then_exit ?_
      refine then_exit ?_
      refine block_exit ?_
      refine then_normal ?_
      refine go_sp [(2, .v (.bool true))] hW16 hE21 fun a77 hE78 => ?_
      clear hE21
      refine wp_ret ?_
      refine leave hE78 hW16.cells (v := .bool true) (by kernel_rfl) ?_
      exact ⟨_, rfl, hW16.step⟩

theorem lFits1 (ct : List Value) (t : Tree) (w : World) (F : Nat → Nat → Prop) (ht : TreeR w F ct t) : Calls Try.prog 11 #[.agg ct.toArray] w (GivesB w) := by
  obtain ⟨n1, s2, b3, l4, u5, A6, c7, A8, c9, A10, c11, xs12, rfl, rfl, h14, h15, h16, h17⟩ := ht.open_
  have hsm19 := h14.small
  have hsm20 := h15.small
  refine enter (n := 15) Try.func11 rfl Try.ntmps11 (by kernel_rfl) fun a hE => ?_
  have hW := WOk.start w Nil
  refine go_seq_region [0, 1] (by kernel_rfl) ?_
  refine of_op (wpOp_box hW hE (d := 1) (cs := [.int .i64 n1, .slice A6 s2.length c7, .bool b3, .slice A8 l4.length c9, .slice A10 u5.length c11]) (by kernel_rfl) fun b21 a22 w23 hb24 hz25 hF26 hW27 hE28 => ?_)
  clear hE hW
  refine go_rn [1] [] [(1, .p 0 0)] hW27 hE28 fun a29 hE30 => ?_
  clear hE28
  refine wpOps_nil ?_
  refine then_normal ?_
  refine wp_seq ?_
  refine go_sp [(1, .p 0 0), (6, .v (.bool (decide (((s2.length : Nat) : Int) > 2147483647))))] hW27 hE30 fun a31 hE32 => ?_
  clear hE30
  refine cond_of hE32 (b := decide (((s2.length : Nat) : Int) > 2147483647)) (by kernel_rfl) (fun hc33 => ?_) (fun hc33 => ?_)
  ·
    have hf34 := of_decide_eq_true hc33
    refine go_sp [(2, .v (.bool false))] hW27 hE32 fun a35 hE36 => ?_
    clear hE32
    refine wp_ret ?_
    refine then_ret ?_
    refine leave hE36 hW27.cells (v := .bool false) (by kernel_rfl) ?_
    exact ⟨_, rfl, hW27.step⟩
  ·
    have hf37 := of_decide_eq_false hc33
    refine wp_skip ?_
    refine then_normal ?_
    refine wp_seq ?_
    refine go_sp [(1, .p 0 0), (10, .v (.bool (decide (((l4.length : Nat) : Int) > 2147483647))))] hW27 hE32 fun a38 hE39 => ?_
    clear hE32
    refine cond_of hE39 (b := decide (((l4.length : Nat) : Int) > 2147483647)) (by kernel_rfl) (fun hc40 => ?_) (fun hc40 => ?_)
    ·
      have hf41 := of_decide_eq_true hc40
      refine go_sp [(2, .v (.bool false))] hW27 hE39 fun a42 hE43 => ?_
      clear hE39
      refine wp_ret ?_
      refine then_ret ?_
      refine leave hE43 hW27.cells (v := .bool false) (by kernel_rfl) ?_
      exact ⟨_, rfl, hW27.step⟩
    ·
      have hf44 := of_decide_eq_false hc40
      refine wp_skip ?_
      refine then_normal ?_
      refine wp_seq ?_
      refine go_seq_region [0, 1, 2, 3] (by kernel_rfl) ?_
      refine go_rn [0, 1] [2, 3] [(12, .v (.slice A10 u5.length c11))] hW27 hE39 fun a45 hE46 => ?_
      clear hE39
      refine of_op (wpOp_call hE46 (f := 41) (vs := [.slice A10 u5.length c11]) (d := 13) (by kernel_rfl) Try.call41 (lFits2 _ _ u5 _ _ (h17.move hW27.step nilM hW27.imm)) ?_)
      rintro e_ w49 ⟨b48, rfl, hs47⟩
      refine ⟨_, rfl, fun a50 hE51 => ?_⟩
      have hW52 := hW27.next_nil hs47
      have hF53 := hW27.frN hs47
      clear hE46 hW27
      refine go_rn [3] [] [(14, .v (.bool (!b48)))] hW52 hE51 fun a54 hE55 => ?_
      clear hE51
      refine wpOps_nil ?_
      refine then_normal ?_
      refine cond_of hE55 (b := !b48) (by kernel_rfl) (fun hc56 => ?_) (fun hc56 => ?_)
      ·
        refine go_sp [(2, .v (.bool false))] hW52 hE55 fun a58 hE59 => ?_
        clear hE55
        refine wp_ret ?_
        refine then_ret ?_
        refine leave hE59 hW52.cells (v := .bool false) (by kernel_rfl) ?_
        exact ⟨_, rfl, hW52.step⟩
      ·
        refine wp_skip ?_
        refine then_normal ?_
        refine go_sp [(2, .v (.bool true))] hW52 hE55 fun a61 hE62 => ?_
        clear hE55
        refine wp_ret ?_
        refine leave hE62 hW52.cells (v := .bool true) (by kernel_rfl) ?_
        exact ⟨_, rfl, hW52.step⟩

theorem lVersion (x m : Int) (hx : 0 ≤ x) (hx' : x < 256) (hm : 0 ≤ m) (hm' : m < 32768) (w : World) : Calls Try.prog 14 #[.int .u8 x, .int .i64 m] w (Gives w (.int .i64 (Int.tmod x (m + 1)))) := by
  refine enter (n := 10) Try.func14 rfl Try.ntmps14 (by kernel_rfl) fun a hE => ?_
  have hW := WOk.start w Nil
  refine go_sp [(0, .v (.int .u8 x)), (1, .v (.int .i64 m))] hW hE fun a1 hE2 => ?_
  clear hE
  refine go_seq_region [0, 1, 2, 3, 4, 5] (by kernel_rfl) ?_
  refine go_rn [0, 1, 2, 3] [4, 5] [(6, .v (.int .i64 (IntKind.i64.wrap x))), (8, .v (.int .i64 (IntKind.i64.wrap (m + 1))))] hW hE2 fun a3 hE4 => ?_
  clear hE2
  refine of_op (wpOp_rem hE4 (k := .i64) (p := (IntKind.i64.wrap x)) (q := (IntKind.i64.wrap (m + 1))) (d := 9) (by kernel_rfl) (by simp only [IntKind.wrap_i64]; omega) fun a5 hE6 => ?_)
  clear hE4
  refine go_rn [5] [] [(4, .v (.int .i64 (Int.tmod (IntKind.i64.wrap x) (IntKind.i64.wrap (m + 1)))))] hW hE6 fun a7 hE8 => ?_
  clear hE6
  refine wpOps_nil ?_
  refine then_normal ?_
  refine wp_ret ?_
  refine leave hE8 hW.cells (v := .int .i64 (Int.tmod (IntKind.i64.wrap x) (IntKind.i64.wrap (m + 1)))) (by kernel_rfl) ?_
  exact ⟨by rw [wrap_i64 (by omega) (by omega), wrap_i64 (by omega) (by omega)], hW.step⟩

end Go.Proofs.Ytbjopfcbpobnpaa.ME

/- Printed by tools/mk.py. Own work. -/
namespace Go.Proofs.Ytbjopfcbpobnpaa.ME
open Go
open Go.RowKit
set_option linter.unusedVariables false
set_option linter.unusedSimpArgs false
set_option maxRecDepth 20000

def clSyncGroupRequestGroupAssignment (d : DV) : List Value := [.string ((d.f 0).s), .slice ((d.f 1).A) ((d.f 1).o.length) ((d.f 1).c), .map d.m]
theorem oneSyncGroupRequestGroupAssignment : ∀ d, ∀ u ∈ clSyncGroupRequestGroupAssignment d, u.oneCell' = true := fun d => allOne_ok (by kernel_rfl)
theorem mvSyncGroupRequestGroupAssignment : Moves okSyncGroupRequestGroupAssignment := by
  intro w w' F F' M d hs hM hF h
  unfold okSyncGroupRequestGroupAssignment at h ⊢
  obtain ⟨g0, ⟨g1, g1l⟩, t1, t2, t3, _⟩ := h
  exact ⟨g0, ⟨Octs.move g1 hs hM hF, g1l⟩, t1.move hs hM hF, t2, t3, trivial⟩

set_option maxHeartbeats 4000000 in
theorem eSyncGroupRequestGroupAssignment (ct : List Value) (t : Tree) (w : World) (F : Nat → Nat → Prop) (ht : TreeR w F ct t) (hc : canSyncGroupRequestGroupAssignment t) :
    Calls Try.prog 133 #[.agg ct.toArray] w (fun e w' => ∃ D : DV, e = .returned (.agg #[.string ((D.f 0).s), .slice ((D.f 1).A) ((D.f 1).o.length) ((D.f 1).c), .map D.m]) ∧ okSyncGroupRequestGroupAssignment w' (Fp F w) D ∧ relSyncGroupRequestGroupAssignment D t ∧ Step w w' Nil) := by
  obtain ⟨n1, s2, b3, l4, u5, A6, c7, A8, c9, A10, c11, xs12, rfl, rfl, h14, h15, h16, h17⟩ := ht.open_
  have hsm19 := h14.small
  have hsm20 := h15.small
  unfold canSyncGroupRequestGroupAssignment at hc
  obtain ⟨c0, c1, cU, _⟩ := hc
  have hsort := cU.1
  replace hsort : Sorted u5 := hsort
  have hul : u5.length ≤ 1000000 := cU.2.1
  refine enter (n := 30) Try.func133 rfl Try.ntmps133 (by kernel_rfl) fun a hE => ?_
  have hW := WOk.start w Nil
  refine go_seq_region [0, 1] (by kernel_rfl) ?_
  refine of_op (wpOp_box hW hE (d := 1) (cs := [.int .i64 n1, .slice A6 s2.length c7, .bool b3, .slice A8 l4.length c9, .slice A10 u5.length c11]) (by kernel_rfl) fun b21 a22 w23 hb24 hz25 hF26 hW27 hE28 => ?_)
  clear hE hW
  refine of_op (wpOp_alloc hW27 hE28 (d := 2) (cs := [.string ByteArray.empty, .slice none 0 0, .map none]) (by kernel_rfl) fun b29 a30 w31 hb32 hz33 hF34 hW35 hE36 => ?_)
  clear hE28 hW27
  refine wpOps_nil ?_
  refine then_normal ?_
  refine go_seq_region [0] (by kernel_rfl) ?_
  refine of_op (wpOp_alloc hW35 hE36 (d := 3) (cs := [.string ByteArray.empty, .slice none 0 0, .map none]) (by kernel_rfl) fun b37 a38 w39 hb40 hz41 hF42 hW43 hE44 => ?_)
  clear hE36 hW35
  refine wpOps_nil ?_
  refine then_normal ?_
  refine go_seq_region [0, 1, 2, 3, 4, 5] (by kernel_rfl) ?_
  refine go_rn [0] [1, 2, 3, 4, 5] [(1, .p 0 0), (2, .p 1 0), (3, .p 2 0), (6, .v (.agg #[.int .i64 n1, .slice A6 s2.length c7, .bool b3, .slice A8 l4.length c9, .slice A10 u5.length c11]))] hW43 hE44 fun a45 hE46 => ?_
  clear hE44
  refine of_op (wpOp_call hE46 (f := 95) (vs := [.agg #[.int .i64 n1, .slice A6 s2.length c7, .bool b3, .slice A8 l4.length c9, .slice A10 u5.length c11], .int .i64 0]) (d := 7) (by kernel_rfl) Try.call95 (iAt _ _ 0 _ _ (ht.move hW43.step nilM hW43.imm)) ?_)
  rintro e_ w50 ⟨cs49, rfl, hr48, hs47⟩
  have hr51 := hr48.move hs47 nilM (fun b o h_ hb_ => hW43.laid (G := F) hs47 b o (.inl h_) (Nat.lt_of_lt_of_le hb_ hs47.size))
  obtain ⟨n52, s53, b54, l55, u56, A57, c58, A59, c60, A61, c62, xs63, ht69, hcs64, h65, h66, h67, h68⟩ := hr51.open_
  rw [hcs64] at hr51
  have hsm70 := h65.small
  have hsm71 := h66.small
  rw [hcs64]
  refine ⟨_, rfl, fun a72 hE73 => ?_⟩
  have hW74 := hW43.next_nil hs47
  have hF75 := hW43.frN hs47
  clear hE46
  refine go_rn [2] [3, 4, 5] [(1, .p 0 0), (2, .p 1 0), (3, .p 2 0), (8, .v (.slice A57 s53.length c58))] hW74 hE73 fun a76 hE77 => ?_
  clear hE73
  refine of_op (wpOp_conv hE77 (src := 22) (dst := 9) (e := 5) (d := 9) (by kernel_rfl) (by kernel_rfl) (by kernel_rfl) (by kernel_rfl) h65 fun a78 hE79 => ?_)
  clear hE77
  refine go_rn [4] [5] [(1, .p 0 0), (2, .p 1 0), (3, .p 2 0), (9, .v (.string (bs s53))), (10, .p 2 0)] hW74 hE79 fun a80 hE81 => ?_
  clear hE79
  refine of_op (wpOp_store hW74 hE81 (oi := 2) (cs := [.string (bs s53), .slice none 0 0, .map none]) (by kernel_rfl) fun w82 hF83 hW84 hE85 => ?_)
  clear hE81 hW74
  refine wpOps_nil ?_
  refine then_normal ?_
  refine go_seq_region [0, 1, 2, 3, 4] (by kernel_rfl) ?_
  refine go_rn [0] [1, 2, 3, 4] [(1, .p 0 0), (2, .p 1 0), (3, .p 2 0), (11, .v (.agg #[.int .i64 n1, .slice A6 s2.length c7, .bool b3, .slice A8 l4.length c9, .slice A10 u5.length c11]))] hW84 hE85 fun a86 hE87 => ?_
  clear hE85
  refine of_op (wpOp_call hE87 (f := 95) (vs := [.agg #[.int .i64 n1, .slice A6 s2.length c7, .bool b3, .slice A8 l4.length c9, .slice A10 u5.length c11], .int .i64 1]) (d := 12) (by kernel_rfl) Try.call95 (iAt _ _ 1 _ _ (ht.move hW84.step nilM hW84.imm)) ?_)
  rintro e_ w91 ⟨cs90, rfl, hr89, hs88⟩
  have hr92 := hr89.move hs88 nilM (fun b o h_ hb_ => hW84.laid (G := F) hs88 b o (.inl h_) (Nat.lt_of_lt_of_le hb_ hs88.size))
  obtain ⟨n93, s94, b95, l96, u97, A98, c99, A100, c101, A102, c103, xs104, ht110, hcs105, h106, h107, h108, h109⟩ := hr92.open_
  rw [hcs105] at hr92
  have hsm111 := h106.small
  have hsm112 := h107.small
  rw [hcs105]
  refine ⟨_, rfl, fun a113 hE114 => ?_⟩
  have hW115 := hW84.next_nil hs88
  have hF116 := hW84.frN hs88
  clear hE87
  refine of_op (wpOp_call hE114 (f := 94) (vs := [.agg #[.int .i64 n93, .slice A98 s94.length c99, .bool b95, .slice A100 l96.length c101, .slice A102 u97.length c103]]) (d := 13) (by kernel_rfl) Try.call94 (kOctetsOf _ (Tree.at_ (Tree.mk n1 s2 b3 l4 u5) 1) _ _ hr92) ?_)
  rintro e_ w123 ⟨A120, c121, rfl, hr118, hn119, hs117⟩
  have hr122 := hr118.move (Step.refl _ Nil) nilM (hW115.laid (G := F) hs117)
  refine ⟨_, rfl, fun a124 hE125 => ?_⟩
  have hW126 := hW115.next_nil hs117
  have hF127 := hW115.frN hs117
  clear hE114
  refine go_rn [3] [4] [(1, .p 0 0), (2, .p 1 0), (3, .p 2 0), (13, .v (.slice A120 ((octOf (Tree.at_ (Tree.mk n1 s2 b3 l4 u5) 1)).length) c121)), (14, .p 2 1)] hW126 hE125 fun a128 hE129 => ?_
  clear hE125
  refine of_op (wpOp_store hW126 hE129 (oi := 2) (cs := [.string (bs s53), .slice A120 ((octOf (Tree.at_ (Tree.mk n1 s2 b3 l4 u5) 1)).length) c121, .map none]) (by kernel_rfl) fun w130 hF131 hW132 hE133 => ?_)
  clear hE129 hW126
  refine wpOps_nil ?_
  refine then_normal ?_
  refine wp_seq ?_
  refine go_sp [(2, .p 1 0), (3, .p 2 0), (16, .v (.slice A10 u5.length c11)), (17, .v (.int .i64 ((u5.length : Nat) : Int))), (18, .v (.int .i64 0))] hW132 hE133 fun a134 hE135 => ?_
  clear hE133
  refine wp_block ?_
  have hp136 := new_of hW132 2 rfl (by kernel_rfl)
  have hE140 := hE135.recast 2 (.p 1 0) (.v (.pointer (some ⟨b29, 0, none⟩))) rfl rfl trivial
  have hE141 := hE140.recast 3 (.p 2 0) (.v (.pointer (some ⟨b37, 0, none⟩))) rfl rfl trivial
  have hE138 := (hE141.pick (ks := [2, 3, 16, 17, 18]) (env' := [(2, .v (.pointer (some ⟨b29, 0, none⟩))), (3, .v (.pointer (some ⟨b37, 0, none⟩))), (16, .v (.slice A10 u5.length c11)), (17, .v (.int .i64 ((u5.length : Nat) : Int))), (18, .v (.int .i64 0))]) (by kernel_rfl)).cutTb 0 (by kernel_rfl)
  refine wp_loop_ghost (fun q a_ w_ => ∃ (j : Nat) (m_ : Option Nat), q = u5.length - j ∧ j ≤ u5.length ∧ EnvOk 30 [] [(2, .v (.pointer (some ⟨b29, 0, none⟩))), (3, .v (.pointer (some ⟨b37, 0, none⟩))), (16, .v (.slice A10 u5.length c11)), (17, .v (.int .i64 ((u5.length : Nat) : Int))), (18, .v (.int .i64 ((j : Nat) : Int)))] a_ ∧ TL w w130 w_ F b37 2 [.string (bs s53), .slice A120 ((octOf (Tree.at_ (Tree.mk n1 s2 b3 l4 u5) 1)).length) c121, .map none] m_ (u5.take j)) u5.length
    ⟨0, none, by omega, by omega, hE138, TL.start hW132 2 rfl rfl⟩ ?_
  rintro q aq wq ⟨j, m_, rfl, hj, hE2, hT⟩
  have hWq := WOk.start wq Nil
  refine go_sp [(2, .v (.pointer (some ⟨b29, 0, none⟩))), (3, .v (.pointer (some ⟨b37, 0, none⟩))), (16, .v (.slice A10 u5.length c11)), (17, .v (.int .i64 ((u5.length : Nat) : Int))), (18, .v (.int .i64 ((j : Nat) : Int))), (19, .v (.bool (decide (((j : Nat) : Int) < ((u5.length : Nat) : Int)))))] hWq hE2 fun aq2 hE3 => wp_seq ?_
  refine cond_of hE3 (b := decide (((j : Nat) : Int) < ((u5.length : Nat) : Int))) (by kernel_rfl) (fun hc => ?_) (fun hc => ?_)
  · have hlt : j < u5.length := by have := of_decide_eq_true hc; omega
    refine wp_skip (then_normal (wp_seq (wp_block ?_)))
    obtain ⟨⟨k, x⟩, hu⟩ : ∃ y, u5[j]? = some y := ⟨_, List.getElem?_eq_getElem hlt⟩
    obtain ⟨bb, bo, xA, xc, hA, hat, hxo, hk⟩ := tag_at h17 hu
    refine go_seq_region [0, 1, 2, 3] (by kernel_rfl) ?_
    refine of_op (wpOp_index hE3 (t := 37) (e := 62) (size := 2) (bytes := 32) (d := 20) (b := bb) (o := bo) (m := u5.length) (j := j) (by kernel_rfl) (by kernel_rfl) hA rfl hlt fun aq3 hE4 => ?_)
    refine of_op (wpOp_load hE4 (t := 62) (d := 21) (cs := [.int .u32 k, .slice xA x.length xc]) (v := .agg #[.int .u32 k, .slice xA x.length xc]) (by kernel_rfl) (by kernel_rfl) (hat.step_nil hT.step) fun aq4 hE5 => ?_)
    refine of_op (wpOp_alloc hWq hE5 (d := 5) (cs := [.int .u32 0, .slice none 0 0]) (by kernel_rfl) fun bx aq5 wq2 hbx hbx0 hFq2 hWq2 hE6 => ?_)
    refine of_op (wpOp_store hWq2 hE6 (oi := 0) (cs := [.int .u32 k, .slice xA x.length xc]) (by kernel_rfl) fun wq3 hFq3 hWq3 hE7 => wpOps_nil (then_normal ?_))
    refine go_region [0, 1, 2, 3, 4, 5] (by kernel_rfl) (go_rn [0, 1, 2, 3, 4] [5] [(2, .v (.pointer (some ⟨b29, 0, none⟩))), (3, .v (.pointer (some ⟨b37, 0, none⟩))), (16, .v (.slice A10 u5.length c11)), (17, .v (.int .i64 ((u5.length : Nat) : Int))), (18, .v (.int .i64 ((j : Nat) : Int))), (22, .v (.pointer (some ⟨b37, 2, none⟩))), (24, .v (.int .u32 k)), (26, .v (.slice xA x.length xc))] hWq3 hE7 fun aq6 hE8 => ?_)
    refine of_op (wpOp_call hE8 (f := 96) (vs := [.pointer (some ⟨b37, 2, none⟩), .int .u32 k, .slice xA x.length xc]) (d := 27) (by kernel_rfl) Try.call96 ((hT.move hWq3.step).set hp136 (by kernel_rfl) hsort hu hxo hk) ?_)
    rintro e_ wq5 ⟨rfl, hS5, r, hT5⟩
    refine ⟨_, rfl, fun aq7 hE9 => wpOps_nil (block_normal (then_normal ?_))⟩
    have hE10 := (hE9.pick (ks := [2, 3, 16, 17, 18]) (env' := [(2, .v (.pointer (some ⟨b29, 0, none⟩))), (3, .v (.pointer (some ⟨b37, 0, none⟩))), (16, .v (.slice A10 u5.length c11)), (17, .v (.int .i64 ((u5.length : Nat) : Int))), (18, .v (.int .i64 ((j : Nat) : Int)))]) (by kernel_rfl)).cutTb 0 (by kernel_rfl)
    refine go_region [0, 1] (by kernel_rfl) (go_rn [0, 1] [] [(2, .v (.pointer (some ⟨b29, 0, none⟩))), (3, .v (.pointer (some ⟨b37, 0, none⟩))), (16, .v (.slice A10 u5.length c11)), (17, .v (.int .i64 ((u5.length : Nat) : Int))), (18, .v (.int .i64 (IntKind.i64.wrap (((j : Nat) : Int) + 1))))] (WOk.start wq5 Nil) hE10 fun aq8 hE11 => wpOps_nil (then_normal ?_))
    rw [wrap_succ (by omega)] at hE11
    exact ⟨u5.length - (j + 1), by omega, j + 1, some r, rfl, by omega, hE11, hT5⟩
  · obtain rfl : j = u5.length := by have := of_decide_eq_false hc; omega
    refine wp_exit (then_exit (then_exit (block_exit ?_)))
    rw [List.take_length] at hT
    obtain ⟨hW142, hF143⟩ := hT.tab hW132 2 [⟨b21, 0, [.int .i64 n1, .slice A6 s2.length c7, .bool b3, .slice A8 l4.length c9, .slice A10 u5.length c11], true⟩, ⟨b29, 0, [.string ByteArray.empty, .slice none 0 0, .map none], true⟩, ⟨b37, 0, [.string (bs s53), .slice A120 ((octOf (Tree.at_ (Tree.mk n1 s2 b3 l4 u5) 1)).length) c121, .map m_], true⟩] rfl
    have hM144 := hT.mapImm hW132 hW142 hF143 hsort (tags_range h17)
    have hE145 := (hE3.retable [⟨b21, 0, [.int .i64 n1, .slice A6 s2.length c7, .bool b3, .slice A8 l4.length c9, .slice A10 u5.length c11], true⟩, ⟨b29, 0, [.string ByteArray.empty, .slice none 0 0, .map none], true⟩, ⟨b37, 0, [.string (bs s53), .slice A120 ((octOf (Tree.at_ (Tree.mk n1 s2 b3 l4 u5) 1)).length) c121, .map m_], true⟩]).recast 2 (.v (.pointer (some ⟨b29, 0, none⟩))) (.p 1 0) rfl rfl (Nat.le_of_ble_eq_true (n := 2) rfl)
    have hE146 := hE145.recast 3 (.v (.pointer (some ⟨b37, 0, none⟩))) (.p 2 0) rfl rfl (Nat.le_of_ble_eq_true (n := 3) rfl)
    have hE147 : EnvOk 30 [⟨b21, 0, [.int .i64 n1, .slice A6 s2.length c7, .bool b3, .slice A8 l4.length c9, .slice A10 u5.length c11], true⟩, ⟨b29, 0, [.string ByteArray.empty, .slice none 0 0, .map none], true⟩, ⟨b37, 0, [.string (bs s53), .slice A120 ((octOf (Tree.at_ (Tree.mk n1 s2 b3 l4 u5) 1)).length) c121, .map m_], true⟩] [(2, .p 1 0), (3, .p 2 0)] _ := hE146.pk
    refine then_normal ?_
    refine go_seq_region [0, 1] (by kernel_rfl) ?_
    refine go_rn [0] [1] [(2, .p 1 0), (29, .v (.agg #[.string (bs s53), .slice A120 ((octOf (Tree.at_ (Tree.mk n1 s2 b3 l4 u5) 1)).length) c121, .map m_]))] hW142 hE147 fun a148 hE149 => ?_
    clear hE147
    refine of_op (wpOp_store hW142 hE149 (oi := 1) (cs := [.string (bs s53), .slice A120 ((octOf (Tree.at_ (Tree.mk n1 s2 b3 l4 u5) 1)).length) c121, .map m_]) (by kernel_rfl) fun w150 hF151 hW152 hE153 => ?_)
    clear hE149 hW142
    refine wpOps_nil ?_
    refine then_normal ?_
    refine wp_ret ?_
    refine leave hE153 hW152.cells (v := .agg #[.string (bs s53), .slice A120 ((octOf (Tree.at_ (Tree.mk n1 s2 b3 l4 u5) 1)).length) c121, .map m_]) (by kernel_rfl) ?_
    refine ⟨dvP m_ u5 [dvS (bs s53), dvO A120 (octOf (Tree.at_ (Tree.mk n1 s2 b3 l4 u5) 1)) c121], rfl, ?_, ?_, hW152.step⟩
    · unfold okSyncGroupRequestGroupAssignment
      exact ⟨by show ByteArray.size (bs s53) ≤ 1000000; rw [bs_size]; have h_ := c0; rw [ht69] at h_; exact h_, ⟨((hr122.move (Fr.trans (Fr.trans hF131 hF143) hF151).step immM (Fr.trans (Fr.trans hF131 hF143) hF151).to').move (Step.refl _ Nil) nilM immOut), c1⟩, ((hM144.move hF151.step immM hF151.to').move (Step.refl _ Nil) nilM immOut), cU.2.1, cU.2.2, trivial⟩
    · unfold relSyncGroupRequestGroupAssignment
      exact ⟨by rw [ht69]; rfl, ⟨rfl, hn119⟩, rfl, trivial⟩

def makeSyncGroupRequest (v : Int) (T : Tree) : Bs := tSyncGroupRequest (IntKind.i16.wrap v) T
set_option maxHeartbeats 4000000 in
theorem mSyncGroupRequest (v : Int) (ct : List Value) (t : Tree) (w : World) (F : Nat → Nat → Prop) (ht : TreeR w F ct t) (hc : canSyncGroupRequest t) (hroom : (makeSyncGroupRequest v t).length + 16 ≤ 1099511627776) :
    Calls Try.prog 37 #[.int .i64 v, .agg ct.toArray] w (FreshB w 5 (makeSyncGroupRequest v t)) := by
  obtain ⟨n1, s2, b3, l4, u5, A6, c7, A8, c9, A10, c11, xs12, rfl, rfl, h14, h15, h16, h17⟩ := ht.open_
  have hsm19 := h14.small
  have hsm20 := h15.small
  unfold canSyncGroupRequest at hc
  obtain ⟨c0, c1, c2, c3, c4, c5, ⟨c6, c6e⟩, cU, _⟩ := hc
  have hsort := cU.1
  replace hsort : Sorted u5 := hsort
  have hul : u5.length ≤ 1000000 := cU.2.1
  refine enter (n := 17) Try.func37 rfl Try.ntmps37 (by kernel_rfl) fun a hE => ?_
  have hW := WOk.start w Nil
  refine go_seq_region [0, 1] (by kernel_rfl) ?_
  refine of_op (wpOp_box hW hE (d := 3) (cs := [.int .i64 n1, .slice A6 s2.length c7, .bool b3, .slice A8 l4.length c9, .slice A10 u5.length c11]) (by kernel_rfl) fun b21 a22 w23 hb24 hz25 hF26 hW27 hE28 => ?_)
  clear hE hW
  refine go_rn [1] [] [(0, .v (.int .i64 v)), (3, .p 0 0)] hW27 hE28 fun a29 hE30 => ?_
  clear hE28
  refine wpOps_nil ?_
  refine then_normal ?_
  refine go_seq_region [0, 1, 2] (by kernel_rfl) ?_
  refine go_rn [0] [1, 2] [(0, .v (.int .i64 v)), (3, .p 0 0), (6, .v (.agg #[.int .i16 0, .string ByteArray.empty, .int .i32 0, .string ByteArray.empty, .pointer none, .pointer none, .pointer none, .slice none 0 0, .map none]))] hW27 hE30 fun a31 hE32 => ?_
  clear hE30
  refine of_op (wpOp_box hW27 hE32 (d := 7) (cs := [.int .i16 0, .string ByteArray.empty, .int .i32 0, .string ByteArray.empty, .pointer none, .pointer none, .pointer none, .slice none 0 0, .map none]) (by kernel_rfl) fun b33 a34 w35 hb36 hz37 hF38 hW39 hE40 => ?_)
  clear hE32 hW27
  refine go_rn [2] [] [(0, .v (.int .i64 v)), (3, .p 0 0), (5, .p 1 0)] hW39 hE40 fun a41 hE42 => ?_
  clear hE40
  refine wpOps_nil ?_
  refine then_normal ?_
  refine go_seq_region [0, 1, 2, 3] (by kernel_rfl) ?_
  refine go_rn [0, 1, 2] [3] [(3, .p 0 0), (5, .p 1 0), (8, .p 1 0), (10, .v (.int .i16 (IntKind.i16.wrap v)))] hW39 hE42 fun a43 hE44 => ?_
  clear hE42
  refine of_op (wpOp_inline hE44 (f := 83) (vs := [.pointer (some ⟨b33, 0, none⟩), .int .i16 (IntKind.i16.wrap v)]) (d := 11) (n' := 8) (by kernel_rfl) Try.call83 Try.func83 rfl Try.ntmps83 (by kernel_rfl) fun a45 hE46 => ?_)
  have hE47 := hE46.recast 0 (.v (.pointer (some ⟨b33, 0, none⟩))) (.p 1 0) rfl rfl (Nat.le_of_ble_eq_true (n := 2) rfl)
  refine go_region [0, 1, 2, 3, 4] (by kernel_rfl) ?_
  refine go_rn [0, 1, 2, 3] [4] [(5, .v (.int .i16 (IntKind.i16.wrap v))), (7, .p 1 0)] hW39 hE47 fun a48 hE49 => ?_
  clear hE47
  refine of_op (wpOp_store hW39 hE49 (oi := 1) (cs := [.int .i16 (IntKind.i16.wrap v), .string ByteArray.empty, .int .i32 0, .string ByteArray.empty, .pointer none, .pointer none, .pointer none, .slice none 0 0, .map none]) (by kernel_rfl) fun w50 hF51 hW52 hE53 => ?_)
  clear hE49 hW39
  refine wpOps_nil ?_
  refine leave_end hE53 hW52.cells (v := .tuple #[]) (by kernel_rfl) ?_
  refine ⟨_, rfl, fun a54 hE55 => ?_⟩
  have hE56 : EnvOk 17 [⟨b21, 0, [.int .i64 n1, .slice A6 s2.length c7, .bool b3, .slice A8 l4.length c9, .slice A10 u5.length c11], true⟩, ⟨b33, 0, [.int .i16 (IntKind.i16.wrap v), .string ByteArray.empty, .int .i32 0, .string ByteArray.empty, .pointer none, .pointer none, .pointer none, .slice none 0 0, .map none], true⟩] [(11, .v (.tuple #[])), (3, .p 0 0), (5, .p 1 0), (8, .p 1 0), (10, .v (.int .i16 (IntKind.i16.wrap v)))] _ := hE55.places (⟨rfl, rfl, ⟨rfl, rfl, trivial⟩⟩)
  refine wpOps_nil ?_
  refine then_normal ?_
  refine go_seq_region [0, 1, 2] (by kernel_rfl) ?_
  refine go_rn [0, 1] [2] [(5, .p 1 0), (12, .p 1 0), (13, .v (.agg #[.int .i64 n1, .slice A6 s2.length c7, .bool b3, .slice A8 l4.length c9, .slice A10 u5.length c11]))] hW52 hE56 fun a57 hE58 => ?_
  clear hE56
  refine of_op (wpOp_inline hE58 (f := 84) (vs := [.pointer (some ⟨b33, 0, none⟩), .agg #[.int .i64 n1, .slice A6 s2.length c7, .bool b3, .slice A8 l4.length c9, .slice A10 u5.length c11]]) (d := 14) (n' := 95) (by kernel_rfl) Try.call84 Try.func84 rfl Try.ntmps84 (by kernel_rfl) fun a59 hE60 => ?_)
  have hE61 := hE60.recast 0 (.v (.pointer (some ⟨b33, 0, none⟩))) (.p 1 0) rfl rfl (Nat.le_of_ble_eq_true (n := 2) rfl)
  refine go_seq_region [0] (by kernel_rfl) ?_
  refine of_op (wpOp_box hW52 hE61 (d := 3) (cs := [.int .i64 n1, .slice A6 s2.length c7, .bool b3, .slice A8 l4.length c9, .slice A10 u5.length c11]) (by kernel_rfl) fun b62 a63 w64 hb65 hz66 hF67 hW68 hE69 => ?_)
  clear hE61 hW52
  refine wpOps_nil ?_
  refine then_normal ?_
  refine go_seq_region [0, 1, 2, 3, 4, 5, 6, 7] (by kernel_rfl) ?_
  refine go_rn [0, 1] [2, 3, 4, 5, 6, 7] [(0, .p 1 0), (3, .p 2 0), (8, .p 1 0), (9, .v (.agg #[.int .i64 n1, .slice A6 s2.length c7, .bool b3, .slice A8 l4.length c9, .slice A10 u5.length c11]))] hW68 hE69 fun a70 hE71 => ?_
  clear hE69
  refine of_op (wpOp_call hE71 (f := 95) (vs := [.agg #[.int .i64 n1, .slice A6 s2.length c7, .bool b3, .slice A8 l4.length c9, .slice A10 u5.length c11], .int .i64 0]) (d := 10) (by kernel_rfl) Try.call95 (iAt _ _ 0 _ _ (ht.move hW68.step nilM hW68.imm)) ?_)
  rintro e_ w75 ⟨cs74, rfl, hr73, hs72⟩
  have hr76 := hr73.move hs72 nilM (fun b o h_ hb_ => hW68.laid (G := F) hs72 b o (.inl h_) (Nat.lt_of_lt_of_le hb_ hs72.size))
  obtain ⟨n77, s78, b79, l80, u81, A82, c83, A84, c85, A86, c87, xs88, ht94, hcs89, h90, h91, h92, h93⟩ := hr76.open_
  rw [hcs89] at hr76
  have hsm95 := h90.small
  have hsm96 := h91.small
  rw [hcs89]
  refine ⟨_, rfl, fun a97 hE98 => ?_⟩
  have hW99 := hW68.next_nil hs72
  have hF100 := hW68.frN hs72
  clear hE71
  refine go_rn [3] [4, 5, 6, 7] [(0, .p 1 0), (3, .p 2 0), (8, .p 1 0), (11, .v (.slice A82 s78.length c83))] hW99 hE98 fun a101 hE102 => ?_
  clear hE98
  refine of_op (wpOp_conv hE102 (src := 22) (dst := 9) (e := 5) (d := 12) (by kernel_rfl) (by kernel_rfl) (by kernel_rfl) (by kernel_rfl) h90 fun a103 hE104 => ?_)
  clear hE102
  refine go_rn [5, 6] [7] [(0, .p 1 0), (3, .p 2 0), (12, .v (.string (bs s78))), (14, .p 1 1)] hW99 hE104 fun a105 hE106 => ?_
  clear hE104
  refine of_op (wpOp_store hW99 hE106 (oi := 1) (cs := [.int .i16 (IntKind.i16.wrap v), .string (bs s78), .int .i32 0, .string ByteArray.empty, .pointer none, .pointer none, .pointer none, .slice none 0 0, .map none]) (by kernel_rfl) fun w107 hF108 hW109 hE110 => ?_)
  clear hE106 hW99
  refine wpOps_nil ?_
  refine then_normal ?_
  refine go_seq_region [0, 1, 2, 3, 4, 5, 6, 7] (by kernel_rfl) ?_
  refine go_rn [0, 1] [2, 3, 4, 5, 6, 7] [(0, .p 1 0), (3, .p 2 0), (15, .p 1 0), (16, .v (.agg #[.int .i64 n1, .slice A6 s2.length c7, .bool b3, .slice A8 l4.length c9, .slice A10 u5.length c11]))] hW109 hE110 fun a111 hE112 => ?_
  clear hE110
  refine of_op (wpOp_call hE112 (f := 95) (vs := [.agg #[.int .i64 n1, .slice A6 s2.length c7, .bool b3, .slice A8 l4.length c9, .slice A10 u5.length c11], .int .i64 1]) (d := 17) (by kernel_rfl) Try.call95 (iAt _ _ 1 _ _ (ht.move hW109.step nilM hW109.imm)) ?_)
  rintro e_ w116 ⟨cs115, rfl, hr114, hs113⟩
  have hr117 := hr114.move hs113 nilM (fun b o h_ hb_ => hW109.laid (G := F) hs113 b o (.inl h_) (Nat.lt_of_lt_of_le hb_ hs113.size))
  obtain ⟨n118, s119, b120, l121, u122, A123, c124, A125, c126, A127, c128, xs129, ht135, hcs130, h131, h132, h133, h134⟩ := hr117.open_
  rw [hcs130] at hr117
  have hsm136 := h131.small
  have hsm137 := h132.small
  rw [hcs130]
  refine ⟨_, rfl, fun a138 hE139 => ?_⟩
  have hW140 := hW109.next_nil hs113
  have hF141 := hW109.frN hs113
  clear hE112
  refine go_rn [3, 4, 5, 6] [7] [(0, .p 1 0), (3, .p 2 0), (19, .v (.int .i32 (IntKind.i32.wrap n118))), (21, .p 1 2)] hW140 hE139 fun a142 hE143 => ?_
  clear hE139
  refine of_op (wpOp_store hW140 hE143 (oi := 1) (cs := [.int .i16 (IntKind.i16.wrap v), .string (bs s78), .int .i32 (IntKind.i32.wrap n118), .string ByteArray.empty, .pointer none, .pointer none, .pointer none, .slice none 0 0, .map none]) (by kernel_rfl) fun w144 hF145 hW146 hE147 => ?_)
  clear hE143 hW140
  refine wpOps_nil ?_
  refine then_normal ?_
  refine go_seq_region [0, 1, 2, 3, 4, 5, 6, 7] (by kernel_rfl) ?_
  refine go_rn [0, 1] [2, 3, 4, 5, 6, 7] [(0, .p 1 0), (3, .p 2 0), (22, .p 1 0), (23, .v (.agg #[.int .i64 n1, .slice A6 s2.length c7, .bool b3, .slice A8 l4.length c9, .slice A10 u5.length c11]))] hW146 hE147 fun a148 hE149 => ?_
  clear hE147
  refine of_op (wpOp_call hE149 (f := 95) (vs := [.agg #[.int .i64 n1, .slice A6 s2.length c7, .bool b3, .slice A8 l4.length c9, .slice A10 u5.length c11], .int .i64 2]) (d := 24) (by kernel_rfl) Try.call95 (iAt _ _ 2 _ _ (ht.move hW146.step nilM hW146.imm)) ?_)
  rintro e_ w153 ⟨cs152, rfl, hr151, hs150⟩
  have hr154 := hr151.move hs150 nilM (fun b o h_ hb_ => hW146.laid (G := F) hs150 b o (.inl h_) (Nat.lt_of_lt_of_le hb_ hs150.size))
  obtain ⟨n155, s156, b157, l158, u159, A160, c161, A162, c163, A164, c165, xs166, ht172, hcs167, h168, h169, h170, h171⟩ := hr154.open_
  rw [hcs167] at hr154
  have hsm173 := h168.small
  have hsm174 := h169.small
  rw [hcs167]
  refine ⟨_, rfl, fun a175 hE176 => ?_⟩
  have hW177 := hW146.next_nil hs150
  have hF178 := hW146.frN hs150
  clear hE149
  refine go_rn [3] [4, 5, 6, 7] [(0, .p 1 0), (3, .p 2 0), (22, .p 1 0), (25, .v (.slice A160 s156.length c161))] hW177 hE176 fun a179 hE180 => ?_
  clear hE176
  refine of_op (wpOp_conv hE180 (src := 22) (dst := 9) (e := 5) (d := 26) (by kernel_rfl) (by kernel_rfl) (by kernel_rfl) (by kernel_rfl) h168 fun a181 hE182 => ?_)
  clear hE180
  refine go_rn [5, 6] [7] [(0, .p 1 0), (3, .p 2 0), (26, .v (.string (bs s156))), (28, .p 1 3)] hW177 hE182 fun a183 hE184 => ?_
  clear hE182
  refine of_op (wpOp_store hW177 hE184 (oi := 1) (cs := [.int .i16 (IntKind.i16.wrap v), .string (bs s78), .int .i32 (IntKind.i32.wrap n118), .string (bs s156), .pointer none, .pointer none, .pointer none, .slice none 0 0, .map none]) (by kernel_rfl) fun w185 hF186 hW187 hE188 => ?_)
  clear hE184 hW177
  refine wpOps_nil ?_
  refine then_normal ?_
  refine go_seq_region [0, 1, 2, 3, 4, 5, 6] (by kernel_rfl) ?_
  refine go_rn [0, 1] [2, 3, 4, 5, 6] [(0, .p 1 0), (3, .p 2 0), (29, .p 1 0), (30, .v (.agg #[.int .i64 n1, .slice A6 s2.length c7, .bool b3, .slice A8 l4.length c9, .slice A10 u5.length c11]))] hW187 hE188 fun a189 hE190 => ?_
  clear hE188
  refine of_op (wpOp_call hE190 (f := 95) (vs := [.agg #[.int .i64 n1, .slice A6 s2.length c7, .bool b3, .slice A8 l4.length c9, .slice A10 u5.length c11], .int .i64 3]) (d := 31) (by kernel_rfl) Try.call95 (iAt _ _ 3 _ _ (ht.move hW187.step nilM hW187.imm)) ?_)
  rintro e_ w194 ⟨cs193, rfl, hr192, hs191⟩
  have hr195 := hr192.move hs191 nilM (fun b o h_ hb_ => hW187.laid (G := F) hs191 b o (.inl h_) (Nat.lt_of_lt_of_le hb_ hs191.size))
  obtain ⟨n196, s197, b198, l199, u200, A201, c202, A203, c204, A205, c206, xs207, ht213, hcs208, h209, h210, h211, h212⟩ := hr195.open_
  rw [hcs208] at hr195
  have hsm214 := h209.small
  have hsm215 := h210.small
  rw [hcs208]
  refine ⟨_, rfl, fun a216 hE217 => ?_⟩
  have hW218 := hW187.next_nil hs191
  have hF219 := hW187.frN hs191
  clear hE190
  refine of_op (wpOp_call hE217 (f := 111) (vs := [.agg #[.int .i64 n196, .slice A201 s197.length c202, .bool b198, .slice A203 l199.length c204, .slice A205 u200.length c206]]) (d := 32) (by kernel_rfl) Try.call111 (kTextOf _ (Tree.at_ (Tree.mk n1 s2 b3 l4 u5) 3) _ _ hr195) ?_)
  rintro e_ w226 ⟨A223, rfl, hr221, hn222, hs220⟩
  have hr225 : ∀ ad, A223 = some ad → ∃ b o, ad = ⟨b, o, none⟩ ∧ AtF _ _ b o [.string (bs (octOf (Tree.at_ (Tree.mk n1 s2 b3 l4 u5) 3)))] := fun ad h => by
      obtain ⟨b, o, g1, g2⟩ := hr221 ad h
      exact ⟨b, o, g1, g2.move (Step.refl _ Nil) nilM (hW218.laid (G := F) hs220)⟩
  refine ⟨_, rfl, fun a227 hE228 => ?_⟩
  have hW229 := hW218.next_nil hs220
  have hF230 := hW218.frN hs220
  clear hE217
  refine go_rn [4, 5] [6] [(0, .p 1 0), (3, .p 2 0), (32, .v (.pointer A223)), (34, .p 1 4)] hW229 hE228 fun a231 hE232 => ?_
  clear hE228
  refine of_op (wpOp_store hW229 hE232 (oi := 1) (cs := [.int .i16 (IntKind.i16.wrap v), .string (bs s78), .int .i32 (IntKind.i32.wrap n118), .string (bs s156), .pointer A223, .pointer none, .pointer none, .slice none 0 0, .map none]) (by kernel_rfl) fun w233 hF234 hW235 hE236 => ?_)
  clear hE232 hW229
  refine wpOps_nil ?_
  refine then_normal ?_
  refine go_seq_region [0, 1, 2, 3, 4, 5, 6] (by kernel_rfl) ?_
  refine go_rn [0, 1] [2, 3, 4, 5, 6] [(0, .p 1 0), (3, .p 2 0), (35, .p 1 0), (36, .v (.agg #[.int .i64 n1, .slice A6 s2.length c7, .bool b3, .slice A8 l4.length c9, .slice A10 u5.length c11]))] hW235 hE236 fun a237 hE238 => ?_
  clear hE236
  refine of_op (wpOp_call hE238 (f := 95) (vs := [.agg #[.int .i64 n1, .slice A6 s2.length c7, .bool b3, .slice A8 l4.length c9, .slice A10 u5.length c11], .int .i64 4]) (d := 37) (by kernel_rfl) Try.call95 (iAt _ _ 4 _ _ (ht.move hW235.step nilM hW235.imm)) ?_)
  rintro e_ w242 ⟨cs241, rfl, hr240, hs239⟩
  have hr243 := hr240.move hs239 nilM (fun b o h_ hb_ => hW235.laid (G := F) hs239 b o (.inl h_) (Nat.lt_of_lt_of_le hb_ hs239.size))
  obtain ⟨n244, s245, b246, l247, u248, A249, c250, A251, c252, A253, c254, xs255, ht261, hcs256, h257, h258, h259, h260⟩ := hr243.open_
  rw [hcs256] at hr243
  have hsm262 := h257.small
  have hsm263 := h258.small
  rw [hcs256]
  refine ⟨_, rfl, fun a264 hE265 => ?_⟩
  have hW266 := hW235.next_nil hs239
  have hF267 := hW235.frN hs239
  clear hE238
  refine of_op (wpOp_call hE265 (f := 111) (vs := [.agg #[.int .i64 n244, .slice A249 s245.length c250, .bool b246, .slice A251 l247.length c252, .slice A253 u248.length c254]]) (d := 38) (by kernel_rfl) Try.call111 (kTextOf _ (Tree.at_ (Tree.mk n1 s2 b3 l4 u5) 4) _ _ hr243) ?_)
  rintro e_ w274 ⟨A271, rfl, hr269, hn270, hs268⟩
  have hr273 : ∀ ad, A271 = some ad → ∃ b o, ad = ⟨b, o, none⟩ ∧ AtF _ _ b o [.string (bs (octOf (Tree.at_ (Tree.mk n1 s2 b3 l4 u5) 4)))] := fun ad h => by
      obtain ⟨b, o, g1, g2⟩ := hr269 ad h
      exact ⟨b, o, g1, g2.move (Step.refl _ Nil) nilM (hW266.laid (G := F) hs268)⟩
  refine ⟨_, rfl, fun a275 hE276 => ?_⟩
  have hW277 := hW266.next_nil hs268
  have hF278 := hW266.frN hs268
  clear hE265
  refine go_rn [4, 5] [6] [(0, .p 1 0), (3, .p 2 0), (38, .v (.pointer A271)), (40, .p 1 5)] hW277 hE276 fun a279 hE280 => ?_
  clear hE276
  refine of_op (wpOp_store hW277 hE280 (oi := 1) (cs := [.int .i16 (IntKind.i16.wrap v), .string (bs s78), .int .i32 (IntKind.i32.wrap n118), .string (bs s156), .pointer A223, .pointer A271, .pointer none, .slice none 0 0, .map none]) (by kernel_rfl) fun w281 hF282 hW283 hE284 => ?_)
  clear hE280 hW277
  refine wpOps_nil ?_
  refine then_normal ?_
  refine go_seq_region [0, 1, 2, 3, 4, 5, 6] (by kernel_rfl) ?_
  refine go_rn [0, 1] [2, 3, 4, 5, 6] [(0, .p 1 0), (3, .p 2 0), (41, .p 1 0), (42, .v (.agg #[.int .i64 n1, .slice A6 s2.length c7, .bool b3, .slice A8 l4.length c9, .slice A10 u5.length c11]))] hW283 hE284 fun a285 hE286 => ?_
  clear hE284
  refine of_op (wpOp_call hE286 (f := 95) (vs := [.agg #[.int .i64 n1, .slice A6 s2.length c7, .bool b3, .slice A8 l4.length c9, .slice A10 u5.length c11], .int .i64 5]) (d := 43) (by kernel_rfl) Try.call95 (iAt _ _ 5 _ _ (ht.move hW283.step nilM hW283.imm)) ?_)
  rintro e_ w290 ⟨cs289, rfl, hr288, hs287⟩
  have hr291 := hr288.move hs287 nilM (fun b o h_ hb_ => hW283.laid (G := F) hs287 b o (.inl h_) (Nat.lt_of_lt_of_le hb_ hs287.size))
  obtain ⟨n292, s293, b294, l295, u296, A297, c298, A299, c300, A301, c302, xs303, ht309, hcs304, h305, h306, h307, h308⟩ := hr291.open_
  rw [hcs304] at hr291
  have hsm310 := h305.small
  have hsm311 := h306.small
  rw [hcs304]
  refine ⟨_, rfl, fun a312 hE313 => ?_⟩
  have hW314 := hW283.next_nil hs287
  have hF315 := hW283.frN hs287
  clear hE286
  refine of_op (wpOp_call hE313 (f := 111) (vs := [.agg #[.int .i64 n292, .slice A297 s293.length c298, .bool b294, .slice A299 l295.length c300, .slice A301 u296.length c302]]) (d := 44) (by kernel_rfl) Try.call111 (kTextOf _ (Tree.at_ (Tree.mk n1 s2 b3 l4 u5) 5) _ _ hr291) ?_)
  rintro e_ w322 ⟨A319, rfl, hr317, hn318, hs316⟩
  have hr321 : ∀ ad, A319 = some ad → ∃ b o, ad = ⟨b, o, none⟩ ∧ AtF _ _ b o [.string (bs (octOf (Tree.at_ (Tree.mk n1 s2 b3 l4 u5) 5)))] := fun ad h => by
      obtain ⟨b, o, g1, g2⟩ := hr317 ad h
      exact ⟨b, o, g1, g2.move (Step.refl _ Nil) nilM (hW314.laid (G := F) hs316)⟩
  refine ⟨_, rfl, fun a323 hE324 => ?_⟩
  have hW325 := hW314.next_nil hs316
  have hF326 := hW314.frN hs316
  clear hE313
  refine go_rn [4, 5] [6] [(0, .p 1 0), (3, .p 2 0), (44, .v (.pointer A319)), (46, .p 1 6)] hW325 hE324 fun a327 hE328 => ?_
  clear hE324
  refine of_op (wpOp_store hW325 hE328 (oi := 1) (cs := [.int .i16 (IntKind.i16.wrap v), .string (bs s78), .int .i32 (IntKind.i32.wrap n118), .string (bs s156), .pointer A223, .pointer A271, .pointer A319, .slice none 0 0, .map none]) (by kernel_rfl) fun w329 hF330 hW331 hE332 => ?_)
  clear hE328 hW325
  refine wpOps_nil ?_
  refine then_normal ?_
  refine wp_seq ?_
  refine go_seq_region [0, 1, 2, 3] (by kernel_rfl) ?_
  refine go_rn [0] [1, 2, 3] [(0, .p 1 0), (3, .p 2 0), (47, .v (.agg #[.int .i64 n1, .slice A6 s2.length c7, .bool b3, .slice A8 l4.length c9, .slice A10 u5.length c11]))] hW331 hE332 fun a333 hE334 => ?_
  clear hE332
  refine of_op (wpOp_call hE334 (f := 95) (vs := [.agg #[.int .i64 n1, .slice A6 s2.length c7, .bool b3, .slice A8 l4.length c9, .slice A10 u5.length c11], .int .i64 6]) (d := 48) (by kernel_rfl) Try.call95 (iAt _ _ 6 _ _ (ht.move hW331.step nilM hW331.imm)) ?_)
  rintro e_ w338 ⟨cs337, rfl, hr336, hs335⟩
  have hr339 := hr336.move hs335 nilM (fun b o h_ hb_ => hW331.laid (G := F) hs335 b o (.inl h_) (Nat.lt_of_lt_of_le hb_ hs335.size))
  obtain ⟨n340, s341, b342, l343, u344, A345, c346, A347, c348, A349, c350, xs351, ht357, hcs352, h353, h354, h355, h356⟩ := hr339.open_
  rw [hcs352] at hr339
  have hsm358 := h353.small
  have hsm359 := h354.small
  rw [hcs352]
  refine ⟨_, rfl, fun a360 hE361 => ?_⟩
  have hW362 := hW331.next_nil hs335
  have hF363 := hW331.frN hs335
  clear hE334
  refine go_rn [2, 3] [] [(0, .p 1 0), (3, .p 2 0), (50, .v (.bool (!b342)))] hW362 hE361 fun a364 hE365 => ?_
  clear hE361
  refine wpOps_nil ?_
  refine then_normal ?_
  refine wp_join (Mid := fun a_ w_ => ∃ (A_ : Option Addr) (c_ : Nat) (f_ : Nat → DV), A_.isNone = Tree.null (Tree.at_ (Tree.mk n1 s2 b3 l4 u5) 6) ∧ LstR w_ (Imm F w w_ [⟨b21, 0, [.int .i64 n1, .slice A6 s2.length c7, .bool b3, .slice A8 l4.length c9, .slice A10 u5.length c11], true⟩, ⟨b33, 0, [.int .i16 (IntKind.i16.wrap v), .string (bs s78), .int .i32 (IntKind.i32.wrap n118), .string (bs s156), .pointer A223, .pointer A271, .pointer A319, .slice A_ ((lst (Tree.at_ (Tree.mk n1 s2 b3 l4 u5) 6)).length) c_, .map none], true⟩, ⟨b62, 0, [.int .i64 n1, .slice A6 s2.length c7, .bool b3, .slice A8 l4.length c9, .slice A10 u5.length c11], true⟩] []) 3 clSyncGroupRequestGroupAssignment okSyncGroupRequestGroupAssignment relSyncGroupRequestGroupAssignment A_ c_ f_ (lst (Tree.at_ (Tree.mk n1 s2 b3 l4 u5) 6)) ∧ LInv hW362 95 [⟨b21, 0, [.int .i64 n1, .slice A6 s2.length c7, .bool b3, .slice A8 l4.length c9, .slice A10 u5.length c11], true⟩, ⟨b33, 0, [.int .i16 (IntKind.i16.wrap v), .string (bs s78), .int .i32 (IntKind.i32.wrap n118), .string (bs s156), .pointer A223, .pointer A271, .pointer A319, .slice A_ ((lst (Tree.at_ (Tree.mk n1 s2 b3 l4 u5) 6)).length) c_, .map none], true⟩, ⟨b62, 0, [.int .i64 n1, .slice A6 s2.length c7, .bool b3, .slice A8 l4.length c9, .slice A10 u5.length c11], true⟩] [] [(0, .p 1 0), (3, .p 2 0)] a_ w_) ?_ ?_
  ·
    refine cond_of hE365 (b := !b342) (by kernel_rfl) (fun hc366 => ?_) (fun hc366 => ?_)
    ·
      have hnull_ : Tree.null (Tree.at_ (Tree.mk n1 s2 b3 l4 u5) 6) = false := by rw [ht357]; show b342 = false; simpa using hc366
      refine go_seq_region [0, 1, 2, 3, 4, 5, 6, 7, 8] (by kernel_rfl) ?_
      refine go_rn [0, 1] [2, 3, 4, 5, 6, 7, 8] [(0, .p 1 0), (3, .p 2 0), (51, .p 1 0), (52, .v (.agg #[.int .i64 n1, .slice A6 s2.length c7, .bool b3, .slice A8 l4.length c9, .slice A10 u5.length c11]))] hW362 hE365 fun a368 hE369 => ?_
      clear hE365
      refine of_op (wpOp_call hE369 (f := 95) (vs := [.agg #[.int .i64 n1, .slice A6 s2.length c7, .bool b3, .slice A8 l4.length c9, .slice A10 u5.length c11], .int .i64 6]) (d := 53) (by kernel_rfl) Try.call95 (iAt _ _ 6 _ _ (ht.move hW362.step nilM hW362.imm)) ?_)
      rintro e_ w373 ⟨cs372, rfl, hr371, hs370⟩
      have hr374 := hr371.move hs370 nilM (fun b o h_ hb_ => hW362.laid (G := F) hs370 b o (.inl h_) (Nat.lt_of_lt_of_le hb_ hs370.size))
      obtain ⟨n375, s376, b377, l378, u379, A380, c381, A382, c383, A384, c385, xs386, ht392, hcs387, h388, h389, h390, h391⟩ := hr374.open_
      rw [hcs387] at hr374
      have hsm393 := h388.small
      have hsm394 := h389.small
      rw [hcs387]
      refine ⟨_, rfl, fun a395 hE396 => ?_⟩
      have hW397 := hW362.next_nil hs370
      have hF398 := hW362.frN hs370
      clear hE369
      have hl3_ : lst (Tree.at_ (Tree.mk n1 s2 b3 l4 u5) 6) = l378 := by rw [lst_of hnull_, ht392]; rfl
      have hb399 : l378.length ≤ 1000000 := by have h_ := c6; rw [hl3_] at h_; exact h_
      refine go_rn [3, 4] [5, 6, 7, 8] [(0, .p 1 0), (3, .p 2 0), (51, .p 1 0), (55, .v (.int .i64 ((l378.length : Nat) : Int)))] hW397 hE396 fun a400 hE401 => ?_
      clear hE396
      refine of_op (wpOp_make0 hW397 hE401 (d := 56) (j := l378.length) (t := 100) (e := 154) (size := 3) (bytes := 48) (by kernel_rfl) (by kernel_rfl) rfl (rfl) (by omega) fun b402 a403 w404 hb405 hz406 hF407 hW408 hE409 => ?_)
      clear hE401 hW397
      refine go_rn [6, 7] [8] [(0, .p 1 0), (3, .p 2 0), (56, .v (.slice (some ⟨b402, 0, none⟩) 0 l378.length)), (58, .p 1 7)] hW408 hE409 fun a410 hE411 => ?_
      clear hE409
      refine of_op (wpOp_store hW408 hE411 (oi := 1) (cs := [.int .i16 (IntKind.i16.wrap v), .string (bs s78), .int .i32 (IntKind.i32.wrap n118), .string (bs s156), .pointer A223, .pointer A271, .pointer A319, .slice (some ⟨b402, 0, none⟩) 0 l378.length, .map none]) (by kernel_rfl) fun w412 hF413 hW414 hE415 => ?_)
      clear hE411 hW408
      refine wpOps_nil ?_
      refine then_normal ?_
      refine go_seq_region [0, 1, 2, 3, 4] (by kernel_rfl) ?_
      refine go_rn [0] [1, 2, 3, 4] [(0, .p 1 0), (3, .p 2 0), (59, .v (.agg #[.int .i64 n1, .slice A6 s2.length c7, .bool b3, .slice A8 l4.length c9, .slice A10 u5.length c11]))] hW414 hE415 fun a416 hE417 => ?_
      clear hE415
      refine of_op (wpOp_call hE417 (f := 95) (vs := [.agg #[.int .i64 n1, .slice A6 s2.length c7, .bool b3, .slice A8 l4.length c9, .slice A10 u5.length c11], .int .i64 6]) (d := 60) (by kernel_rfl) Try.call95 (iAt _ _ 6 _ _ (ht.move hW414.step nilM hW414.imm)) ?_)
      rintro e_ w421 ⟨cs420, rfl, hr419, hs418⟩
      have hr422 := hr419.move hs418 nilM (fun b o h_ hb_ => hW414.laid (G := F) hs418 b o (.inl h_) (Nat.lt_of_lt_of_le hb_ hs418.size))
      obtain ⟨n423, s424, b425, l426, u427, A428, c429, A430, c431, A432, c433, xs434, ht440, hcs435, h436, h437, h438, h439⟩ := hr422.open_
      rw [hcs435] at hr422
      have hsm441 := h436.small
      have hsm442 := h437.small
      rw [hcs435]
      refine ⟨_, rfl, fun a443 hE444 => ?_⟩
      have hW445 := hW414.next_nil hs418
      have hF446 := hW414.frN hs418
      clear hE417
      have hl3_ : lst (Tree.at_ (Tree.mk n1 s2 b3 l4 u5) 6) = l426 := by rw [lst_of hnull_, ht440]; rfl
      have hb447 : l426.length ≤ 1000000 := by have h_ := c6; rw [hl3_] at h_; exact h_
      refine go_rn [2, 3, 4] [] [(0, .p 1 0), (3, .p 2 0), (61, .v (.slice A430 l426.length c431)), (62, .v (.int .i64 ((l426.length : Nat) : Int))), (63, .v (.int .i64 0))] hW445 hE444 fun a448 hE449 => ?_
      clear hE444
      refine wpOps_nil ?_
      refine then_normal ?_
      refine wp_block ?_
      refine wp_loop_ghost (fun n_ a_ w_ => ∃ (k : Nat) (A_ : Option Addr) (c_ : Nat) (xs_ : List Value) (ds_ : List DV), n_ = l426.length - k ∧ k ≤ l426.length ∧ (A_.isNone = false) ∧ (RowL w_ (Imm F w w_ [⟨b21, 0, [.int .i64 n1, .slice A6 s2.length c7, .bool b3, .slice A8 l4.length c9, .slice A10 u5.length c11], true⟩, ⟨b33, 0, [.int .i16 (IntKind.i16.wrap v), .string (bs s78), .int .i32 (IntKind.i32.wrap n118), .string (bs s156), .pointer A223, .pointer A271, .pointer A319, .slice A_ k c_, .map none], true⟩, ⟨b62, 0, [.int .i64 n1, .slice A6 s2.length c7, .bool b3, .slice A8 l4.length c9, .slice A10 u5.length c11], true⟩] [⟨A_, c_, 154, 3, k, xs_⟩]) 3 clSyncGroupRequestGroupAssignment okSyncGroupRequestGroupAssignment relSyncGroupRequestGroupAssignment xs_ ds_ (l426.take k)) ∧ LInv hW445 95 [⟨b21, 0, [.int .i64 n1, .slice A6 s2.length c7, .bool b3, .slice A8 l4.length c9, .slice A10 u5.length c11], true⟩, ⟨b33, 0, [.int .i16 (IntKind.i16.wrap v), .string (bs s78), .int .i32 (IntKind.i32.wrap n118), .string (bs s156), .pointer A223, .pointer A271, .pointer A319, .slice A_ k c_, .map none], true⟩, ⟨b62, 0, [.int .i64 n1, .slice A6 s2.length c7, .bool b3, .slice A8 l4.length c9, .slice A10 u5.length c11], true⟩] [⟨A_, c_, 154, 3, k, xs_⟩] [(0, .p 1 0), (3, .p 2 0), (61, .v (.slice A430 l426.length c431)), (62, .v (.int .i64 ((l426.length : Nat) : Int))), (63, .v (.int .i64 ((k : Nat) : Int)))] a_ w_) (l426.length) ⟨0, (some ⟨b402, 0, none⟩), l378.length, [], [], by omega, by omega, rfl, RowL.nil mvSyncGroupRequestGroupAssignment, hE449.pk, hW445, Fr.refl _ _ _⟩ ?_
      clear hE449
      rintro n450 a451 w452 ⟨k, A_, c_, xs_, ds_, hn455, hk456, hA, hR, hE453, hW454, hF457⟩
      refine go_sp [(0, .p 1 0), (3, .p 2 0), (61, .v (.slice A430 l426.length c431)), (62, .v (.int .i64 ((l426.length : Nat) : Int))), (63, .v (.int .i64 ((k : Nat) : Int))), (64, .v (.bool (decide (((k : Nat) : Int) < ((l426.length : Nat) : Int)))))] hW454 hE453 fun a458 hE459 => ?_
      clear hE453
      refine wp_seq ?_
      refine cond_of hE459 (b := decide (((k : Nat) : Int) < ((l426.length : Nat) : Int))) (by kernel_rfl) (fun hc460 => ?_) (fun hc460 => ?_)
      ·
        have hf461 := of_decide_eq_true hc460
        refine wp_skip ?_
        refine then_normal ?_
        refine wp_seq ?_
        refine wp_block ?_
        refine go_seq_region [0, 1, 2, 3] (by kernel_rfl) ?_
        obtain ⟨b462, o463, hA464, hl465, hat466⟩ := Slots.get h437 (i := k) (by omega)
        obtain ⟨x467, he468⟩ : ∃ x, l426[k]? = some x := ⟨_, List.getElem?_eq_getElem (by omega)⟩
        have hr469 := h438 k x467 he468
        obtain ⟨n470, s471, b472, l473, u474, A475, c476, A477, c478, A479, c480, xs481, rfl, hcs482, h483, h484, h485, h486⟩ := hr469.open_
        rw [hcs482] at hr469
        have hsm488 := h483.small
        have hsm489 := h484.small
        rw [hcs482] at hat466
        refine of_op (wpOp_index hE459 (t := 36) (A := A430) (m := l426.length) (q := ((k : Nat) : Int)) (d := 65) (by kernel_rfl) (e := 39) (size := 5) (bytes := 88) (by kernel_rfl) hA464 rfl (by omega) fun a490 hE491 => ?_)
        clear hE459
        refine of_op (wpOp_load hE491 (t := 39) (b := b462) (o := o463 + k * 5) (d := 66) (by kernel_rfl) (cs := [.int .i64 n470, .slice A475 s471.length c476, .bool b472, .slice A477 l473.length c478, .slice A479 u474.length c480]) (v := .agg #[.int .i64 n470, .slice A475 s471.length c476, .bool b472, .slice A477 l473.length c478, .slice A479 u474.length c480]) (by kernel_rfl) (AtF.move hat466 hF457.step immM hF457.to').at_ fun a492 hE493 => ?_)
        clear hE491
        refine of_op (wpOp_alloc hW454 hE493 (d := 5) (cs := [.int .i64 0, .slice none 0 0, .bool false, .slice none 0 0, .slice none 0 0]) (by kernel_rfl) fun b494 a495 w496 hb497 hz498 hF499 hW500 hE501 => ?_)
        clear hE493 hW454
        refine of_op (wpOp_store hW500 hE501 (oi := 3) (cs := [.int .i64 n470, .slice A475 s471.length c476, .bool b472, .slice A477 l473.length c478, .slice A479 u474.length c480]) (by kernel_rfl) fun w502 hF503 hW504 hE505 => ?_)
        clear hE501 hW500
        refine wpOps_nil ?_
        refine then_normal ?_
        refine go_drawK 11 (by kernel_rfl) hW504 fun w506 hF507 hW508 hT509 => ?_
        clear hW504
        refine go_rnD [0, 1, 2, 3, 4, 5] [(0, .p 1 0), (3, .p 2 0), (61, .v (.slice A430 l426.length c431)), (62, .v (.int .i64 ((l426.length : Nat) : Int))), (63, .v (.int .i64 ((k : Nat) : Int))), (67, .p 1 0), (71, .v (.slice A_ k c_)), (72, .v (.agg #[.int .i64 n470, .slice A475 s471.length c476, .bool b472, .slice A477 l473.length c478, .slice A479 u474.length c480]))] 6 (panicFree_block (panicFree_then (panicFree_then (panicFree_block (panicFree_then panicFree_body))))) (fun _ h => h.cells) hT509 hE505 fun a510 hE511 => ?_
        clear hE505
        refine anyC_op (i := 6) (by kernel_rfl) (wpOp_call hE511 (f := 133) (vs := [.agg #[.int .i64 n470, .slice A475 s471.length c476, .bool b472, .slice A477 l473.length c478, .slice A479 u474.length c480]]) (d := 73) (by kernel_rfl) Try.call133 (eSyncGroupRequestGroupAssignment _ _ _ _ (hr469.move (Fr.trans (Fr.trans (Fr.trans hF457 hF499) hF503) hF507).step immM (Fr.trans (Fr.trans (Fr.trans hF457 hF499) hF503) hF507).to') (c6e _ (by rw [hl3_]; exact List.mem_of_getElem? he468))) ?_)
        rintro e_ w517 ⟨D515, rfl, hk513, hrel514, hs512⟩
        have hk516 := mvSyncGroupRequestGroupAssignment _ (Step.refl _ Nil) nilM (hW508.laid (G := F) hs512) hk513
        refine ⟨_, rfl, fun a518 hE519 => ?_⟩
        have hW520 := hW508.next_nil hs512
        have hF521 := hW508.frN hs512
        clear hE511
        have hT522 := TT.ofW hF521 hW520
        refine ⟨fun _ => hT522, ?_⟩
        refine anyC_op (i := 7) (by kernel_rfl) (wpOp_lit hW520 hE519 (e := 154) (size := 3) (len := 1) (cs := [.string ((D515.f 0).s), .slice ((D515.f 1).A) ((D515.f 1).o.length) ((D515.f 1).c), .map D515.m]) (d := 74) (by kernel_rfl) (by kernel_rfl) fun b523 a524 w525 hb526 hz527 hF528 hW529 hE530 => ?_)
        clear hE519 hW520
        have hT531 := TT.ofW (Fr.trans hF521 hF528) hW529
        refine ⟨fun _ => hT531, ?_⟩
        refine anyC_op (i := 8) (by kernel_rfl) (wpOp_append hW529 hE530 (k := 0) (d := 75) (t := 100) (e := 154) (size := 3) (bytes := 48) (A := A_) (As := (some ⟨b523, 0, none⟩)) (m0 := k) (c := c_) (m := 1) (cs := 1) (xs := xs_) (news := [.string ((D515.f 0).s), .slice ((D515.f 1).A) ((D515.f 1).o.length) ((D515.f 1).c), .map D515.m]) (by kernel_rfl) (by kernel_rfl) rfl (own_src (hW529.own 1 _ rfl) (allOne_ok (by kernel_rfl))) (own_cap (hW529.own 1 _ rfl)) (by omega) fun A532 c533 a534 w535 hF536 hW537 hE538 => ?_)
        clear hE530 hW529
        have hT539 := TT.ofW (Fr.trans (Fr.trans hF521 hF528) hF536) hW537
        refine ⟨fun _ => hT539, ?_⟩
        refine anyC_op (i := 9) (by kernel_rfl) (wpOp_pure [0, 3, 61, 62, 63, 75, 76] hW537.cells hE538 (env' := [(0, .p 1 0), (3, .p 2 0), (61, .v (.slice A430 l426.length c431)), (62, .v (.int .i64 ((l426.length : Nat) : Int))), (63, .v (.int .i64 ((k : Nat) : Int))), (75, .v (.slice A532 (k + 1) c533)), (76, .p 1 0)]) (by kernel_rfl) fun a540 hE541 => ?_)
        clear hE538
        have hT542 := TT.ofW (Fr.trans (Fr.trans hF521 hF528) hF536) hW537
        refine ⟨fun _ => hT542, ?_⟩
        refine go_rnD [10] [(0, .p 1 0), (3, .p 2 0), (61, .v (.slice A430 l426.length c431)), (62, .v (.int .i64 ((l426.length : Nat) : Int))), (63, .v (.int .i64 ((k : Nat) : Int))), (75, .v (.slice A532 (k + 1) c533)), (77, .p 1 7)] 1 (panicFree_block (panicFree_then (panicFree_then (panicFree_block (panicFree_then panicFree_body))))) (fun _ h => h.cells) hT542 hE541 fun a543 hE544 => ?_
        clear hE541
        refine anyC_op (i := 11) (by kernel_rfl) (wpOp_store hW537 hE544 (oi := 1) (cs := [.int .i16 (IntKind.i16.wrap v), .string (bs s78), .int .i32 (IntKind.i32.wrap n118), .string (bs s156), .pointer A223, .pointer A271, .pointer A319, .slice A532 (k + 1) c533, .map none]) (by kernel_rfl) fun w545 hF546 hW547 hE548 => ?_)
        clear hE544 hW537
        refine ⟨fun h => absurd rfl h, ?_⟩
        refine anyC_done (by kernel_rfl) ?_ _
        refine block_normal ?_
        refine then_normal ?_
        refine go_region [0, 1] (by kernel_rfl) ?_
        refine go_rn [0, 1] [] [(0, .p 1 0), (3, .p 2 0), (61, .v (.slice A430 l426.length c431)), (62, .v (.int .i64 ((l426.length : Nat) : Int))), (63, .v (.int .i64 (IntKind.i64.wrap (((k : Nat) : Int) + 1))))] hW547 hE548 fun a549 hE550 => ?_
        clear hE548
        refine wpOps_nil ?_
        refine then_normal ?_
        obtain ⟨hE551, hW552, hF553⟩ := hW547.cutB hE550 3 [⟨b21, 0, [.int .i64 n1, .slice A6 s2.length c7, .bool b3, .slice A8 l4.length c9, .slice A10 u5.length c11], true⟩, ⟨b33, 0, [.int .i16 (IntKind.i16.wrap v), .string (bs s78), .int .i32 (IntKind.i32.wrap n118), .string (bs s156), .pointer A223, .pointer A271, .pointer A319, .slice A532 (k + 1) c533, .map none], true⟩, ⟨b62, 0, [.int .i64 n1, .slice A6 s2.length c7, .bool b3, .slice A8 l4.length c9, .slice A10 u5.length c11], true⟩] [(0, .p 1 0), (3, .p 2 0), (61, .v (.slice A430 l426.length c431)), (62, .v (.int .i64 ((l426.length : Nat) : Int))), (63, .v (.int .i64 (IntKind.i64.wrap (((k : Nat) : Int) + 1))))]
        obtain ⟨hW554, hF555⟩ := hW552.cutR 1 [⟨A532, c533, 154, 3, k + 1, xs_ ++ [.string ((D515.f 0).s), .slice ((D515.f 1).A) ((D515.f 1).o.length) ((D515.f 1).c), .map D515.m]⟩]
        have he556 : IntKind.i64.wrap (((k : Nat) : Int) + 1) = ((k + 1 : Nat) : Int) := wrap_succ (by omega)
        rw [he556] at hE551
        exact ⟨l426.length - (k + 1), by omega, k + 1, A532, c533, xs_ ++ [Value.string ((D515.f 0).s), .slice ((D515.f 1).A) ((D515.f 1).o.length) ((D515.f 1).c), .map D515.m], (ds_ ++ [D515]), rfl, by omega, own_some hW554 (k := 0) rfl (by omega), RowL.snoc (d := D515) (hR.move (Fr.trans (Fr.trans (Fr.trans (Fr.trans (Fr.trans (Fr.trans (Fr.trans (Fr.trans hF499 hF503) hF507) hF521) hF528) hF536) hF546) hF553) hF555).step immM (Fr.trans (Fr.trans (Fr.trans (Fr.trans (Fr.trans (Fr.trans (Fr.trans (Fr.trans hF499 hF503) hF507) hF521) hF528) hF536) hF546) hF553) hF555).to') he468 rfl (mvSyncGroupRequestGroupAssignment _ (Fr.trans (Fr.trans (Fr.trans (Fr.trans hF528 hF536) hF546) hF553) hF555).step immM (Fr.trans (Fr.trans (Fr.trans (Fr.trans hF528 hF536) hF546) hF553) hF555).to' hk516) hrel514, hE551.pk, hW554, (Fr.trans (Fr.trans (Fr.trans (Fr.trans (Fr.trans (Fr.trans (Fr.trans (Fr.trans (Fr.trans hF457 hF499) hF503) hF507) hF521) hF528) hF536) hF546) hF553) hF555)⟩
      ·
        have hf557 := of_decide_eq_false hc460
        refine wp_exit ?_
        refine then_exit ?_
        refine then_exit ?_
        refine block_exit ?_
        refine then_normal ?_
        have hk_ : k = (lst (Tree.at_ (Tree.mk n1 s2 b3 l4 u5) 6)).length := by rw [hl3_]; omega
        subst k
        have hL_ := LstR.of hW454 (k := 0) (rs' := []) rfl hR (by rw [hl3_]) oneSyncGroupRequestGroupAssignment (by omega)
        rw [← hl3_] at hL_
        obtain ⟨hW558, hF559⟩ := hW454.cutR 0 []
        exact ⟨_, _, _, by rw [hnull_]; exact hA, hL_, hE459.pk, hW558, (Fr.trans (Fr.trans (Fr.trans (Fr.trans (Fr.trans hF398 hF407) hF413) hF446) hF457) hF559)⟩
    ·
      refine wp_skip ?_
      refine then_normal ?_
      have hn_ : Tree.null (Tree.at_ (Tree.mk n1 s2 b3 l4 u5) 6) = true := by rw [ht357]; show b342 = true; simpa using hc366
      have hl_ := lst_no hn_
      exact ⟨none, 0, fun _ => dv0, by rw [hn_]; rfl, by rw [hl_]; exact LstR.nil mvSyncGroupRequestGroupAssignment, by rw [hl_]; exact ⟨hE365.pk, hW362, Fr.refl _ _ _⟩⟩
  rintro a569 w570 ⟨A561, c562, f563, hn564, hL565, hE566, hW567, hF568⟩
  refine go_sp [(0, .p 1 0), (80, .v (.slice A10 u5.length c11)), (81, .v (.int .i64 ((u5.length : Nat) : Int))), (82, .v (.int .i64 0))] hW567 hE566 fun a571 hE572 => ?_
  clear hE566
  refine wp_block ?_
  have hp573 := new_of hW567 1 rfl (by kernel_rfl)
  have hE577 := hE572.recast 0 (.p 1 0) (.v (.pointer (some ⟨b33, 0, none⟩))) rfl rfl trivial
  have hE575 := (hE577.pick (ks := [0, 80, 81, 82]) (env' := [(0, .v (.pointer (some ⟨b33, 0, none⟩))), (80, .v (.slice A10 u5.length c11)), (81, .v (.int .i64 ((u5.length : Nat) : Int))), (82, .v (.int .i64 0))]) (by kernel_rfl)).cutTb 0 (by kernel_rfl)
  refine wp_loop_ghost (fun q a_ w_ => ∃ (j : Nat) (m_ : Option Nat), q = u5.length - j ∧ j ≤ u5.length ∧ EnvOk 95 [] [(0, .v (.pointer (some ⟨b33, 0, none⟩))), (80, .v (.slice A10 u5.length c11)), (81, .v (.int .i64 ((u5.length : Nat) : Int))), (82, .v (.int .i64 ((j : Nat) : Int)))] a_ ∧ TL w w570 w_ F b33 8 [.int .i16 (IntKind.i16.wrap v), .string (bs s78), .int .i32 (IntKind.i32.wrap n118), .string (bs s156), .pointer A223, .pointer A271, .pointer A319, .slice A561 ((lst (Tree.at_ (Tree.mk n1 s2 b3 l4 u5) 6)).length) c562, .map none] m_ (u5.take j)) u5.length
    ⟨0, none, by omega, by omega, hE575, TL.start hW567 1 rfl rfl⟩ ?_
  rintro q aq wq ⟨j, m_, rfl, hj, hE2, hT⟩
  have hWq := WOk.start wq Nil
  refine go_sp [(0, .v (.pointer (some ⟨b33, 0, none⟩))), (80, .v (.slice A10 u5.length c11)), (81, .v (.int .i64 ((u5.length : Nat) : Int))), (82, .v (.int .i64 ((j : Nat) : Int))), (83, .v (.bool (decide (((j : Nat) : Int) < ((u5.length : Nat) : Int)))))] hWq hE2 fun aq2 hE3 => wp_seq ?_
  refine cond_of hE3 (b := decide (((j : Nat) : Int) < ((u5.length : Nat) : Int))) (by kernel_rfl) (fun hc => ?_) (fun hc => ?_)
  · have hlt : j < u5.length := by have := of_decide_eq_true hc; omega
    refine wp_skip (then_normal (wp_seq (wp_block ?_)))
    obtain ⟨⟨k, x⟩, hu⟩ : ∃ y, u5[j]? = some y := ⟨_, List.getElem?_eq_getElem hlt⟩
    obtain ⟨bb, bo, xA, xc, hA, hat, hxo, hk⟩ := tag_at h17 hu
    refine go_seq_region [0, 1, 2, 3] (by kernel_rfl) ?_
    refine of_op (wpOp_index hE3 (t := 37) (e := 62) (size := 2) (bytes := 32) (d := 84) (b := bb) (o := bo) (m := u5.length) (j := j) (by kernel_rfl) (by kernel_rfl) hA rfl hlt fun aq3 hE4 => ?_)
    refine of_op (wpOp_load hE4 (t := 62) (d := 85) (cs := [.int .u32 k, .slice xA x.length xc]) (v := .agg #[.int .u32 k, .slice xA x.length xc]) (by kernel_rfl) (by kernel_rfl) (hat.step_nil hT.step) fun aq4 hE5 => ?_)
    refine of_op (wpOp_alloc hWq hE5 (d := 7) (cs := [.int .u32 0, .slice none 0 0]) (by kernel_rfl) fun bx aq5 wq2 hbx hbx0 hFq2 hWq2 hE6 => ?_)
    refine of_op (wpOp_store hWq2 hE6 (oi := 0) (cs := [.int .u32 k, .slice xA x.length xc]) (by kernel_rfl) fun wq3 hFq3 hWq3 hE7 => wpOps_nil (then_normal ?_))
    have hWq4 := hWq3.drew
    refine region_draw (fun wz => CellsOk wz [⟨bx, 0, [.int .u32 k, .slice xA x.length xc], true⟩]) 8 (by kernel_rfl) ?_
    refine go_rnD [0, 1, 2, 3, 4, 5, 6] [(0, .v (.pointer (some ⟨b33, 0, none⟩))), (80, .v (.slice A10 u5.length c11)), (81, .v (.int .i64 ((u5.length : Nat) : Int))), (82, .v (.int .i64 ((j : Nat) : Int))), (88, .v (.pointer (some ⟨b33, 8, none⟩))), (90, .v (.int .u32 k)), (92, .v (.slice xA x.length xc))] 1 (panicFree_block (panicFree_then (panicFree_then (panicFree_block panicFree_body)))) (fun _ h => h) hWq4.cells hE7 fun aq6 hE8 => ?_
    refine anyC_op (i := 7) (by kernel_rfl) (wpOp_call hE8 (f := 96) (vs := [.pointer (some ⟨b33, 8, none⟩), .int .u32 k, .slice xA x.length xc]) (d := 93) (by kernel_rfl) Try.call96 ((hT.move hWq4.step).set hp573 (by kernel_rfl) hsort hu hxo hk) ?_)
    rintro e_ wq5 ⟨rfl, hS5, r, hT5⟩
    refine ⟨_, rfl, fun aq7 hE9 => ⟨fun _ => hT.keeps (off := 8) (by kernel_rfl) hS5 hWq4.cells (fun ob hm => by rw [List.mem_singleton.1 hm]; exact Nat.le_of_eq hbx.symm), anyC_done (by kernel_rfl) (block_normal (then_normal ?_)) _⟩⟩
    have hE10 := (hE9.pick (ks := [0, 80, 81, 82]) (env' := [(0, .v (.pointer (some ⟨b33, 0, none⟩))), (80, .v (.slice A10 u5.length c11)), (81, .v (.int .i64 ((u5.length : Nat) : Int))), (82, .v (.int .i64 ((j : Nat) : Int)))]) (by kernel_rfl)).cutTb 0 (by kernel_rfl)
    refine go_region [0, 1] (by kernel_rfl) (go_rn [0, 1] [] [(0, .v (.pointer (some ⟨b33, 0, none⟩))), (80, .v (.slice A10 u5.length c11)), (81, .v (.int .i64 ((u5.length : Nat) : Int))), (82, .v (.int .i64 (IntKind.i64.wrap (((j : Nat) : Int) + 1))))] (WOk.start wq5 Nil) hE10 fun aq8 hE11 => wpOps_nil (then_normal ?_))
    rw [wrap_succ (by omega)] at hE11
    exact ⟨u5.length - (j + 1), by omega, j + 1, some r, rfl, by omega, hE11, hT5⟩
  · obtain rfl : j = u5.length := by have := of_decide_eq_false hc; omega
    refine wp_exit (then_exit (then_exit (block_exit ?_)))
    rw [List.take_length] at hT
    obtain ⟨hW578, hF579⟩ := hT.tab hW567 1 [⟨b21, 0, [.int .i64 n1, .slice A6 s2.length c7, .bool b3, .slice A8 l4.length c9, .slice A10 u5.length c11], true⟩, ⟨b33, 0, [.int .i16 (IntKind.i16.wrap v), .string (bs s78), .int .i32 (IntKind.i32.wrap n118), .string (bs s156), .pointer A223, .pointer A271, .pointer A319, .slice A561 ((lst (Tree.at_ (Tree.mk n1 s2 b3 l4 u5) 6)).length) c562, .map m_], true⟩, ⟨b62, 0, [.int .i64 n1, .slice A6 s2.length c7, .bool b3, .slice A8 l4.length c9, .slice A10 u5.length c11], true⟩] rfl
    have hM580 := hT.mapImm hW567 hW578 hF579 hsort (tags_range h17)
    have hE581 : EnvOk 95 [⟨b21, 0, [.int .i64 n1, .slice A6 s2.length c7, .bool b3, .slice A8 l4.length c9, .slice A10 u5.length c11], true⟩, ⟨b33, 0, [.int .i16 (IntKind.i16.wrap v), .string (bs s78), .int .i32 (IntKind.i32.wrap n118), .string (bs s156), .pointer A223, .pointer A271, .pointer A319, .slice A561 ((lst (Tree.at_ (Tree.mk n1 s2 b3 l4 u5) 6)).length) c562, .map m_], true⟩, ⟨b62, 0, [.int .i64 n1, .slice A6 s2.length c7, .bool b3, .slice A8 l4.length c9, .slice A10 u5.length c11], true⟩] [] _ := (hE3.retable [⟨b21, 0, [.int .i64 n1, .slice A6 s2.length c7, .bool b3, .slice A8 l4.length c9, .slice A10 u5.length c11], true⟩, ⟨b33, 0, [.int .i16 (IntKind.i16.wrap v), .string (bs s78), .int .i32 (IntKind.i32.wrap n118), .string (bs s156), .pointer A223, .pointer A271, .pointer A319, .slice A561 ((lst (Tree.at_ (Tree.mk n1 s2 b3 l4 u5) 6)).length) c562, .map m_], true⟩, ⟨b62, 0, [.int .i64 n1, .slice A6 s2.length c7, .bool b3, .slice A8 l4.length c9, .slice A10 u5.length c11], true⟩]).pk
    refine leave_end hE581 hW578.cells (v := .tuple #[]) (by kernel_rfl) ?_
    refine ⟨_, rfl, fun a582 hE583 => ?_⟩
    have hE584 : EnvOk 17 [⟨b21, 0, [.int .i64 n1, .slice A6 s2.length c7, .bool b3, .slice A8 l4.length c9, .slice A10 u5.length c11], true⟩, ⟨b33, 0, [.int .i16 (IntKind.i16.wrap v), .string (bs s78), .int .i32 (IntKind.i32.wrap n118), .string (bs s156), .pointer A223, .pointer A271, .pointer A319, .slice A561 ((lst (Tree.at_ (Tree.mk n1 s2 b3 l4 u5) 6)).length) c562, .map m_], true⟩, ⟨b62, 0, [.int .i64 n1, .slice A6 s2.length c7, .bool b3, .slice A8 l4.length c9, .slice A10 u5.length c11], true⟩] [(14, .v (.tuple #[])), (5, .p 1 0), (12, .p 1 0), (13, .v (.agg #[.int .i64 n1, .slice A6 s2.length c7, .bool b3, .slice A8 l4.length c9, .slice A10 u5.length c11]))] _ := hE583.places (⟨rfl, rfl, ⟨rfl, rfl, trivial⟩⟩)
    refine wpOps_nil ?_
    refine then_normal ?_
    refine go_seq_region [0, 1, 2] (by kernel_rfl) ?_
    refine go_rn [0] [1, 2] [(15, .p 1 0)] hW578 hE584 fun a585 hE586 => ?_
    clear hE584
    have hrel_ : relSyncGroupRequest (dvP m_ u5 [dvS (bs s78), dvN (IntKind.i32.wrap n118), dvS (bs s156), dvT A223 (bs (octOf (Tree.at_ (Tree.mk n1 s2 b3 l4 u5) 3))), dvT A271 (bs (octOf (Tree.at_ (Tree.mk n1 s2 b3 l4 u5) 4))), dvT A319 (bs (octOf (Tree.at_ (Tree.mk n1 s2 b3 l4 u5) 5))), dvL A561 (lst (Tree.at_ (Tree.mk n1 s2 b3 l4 u5) 6)).length c562 f563]) (Tree.mk n1 s2 b3 l4 u5) := by
      unfold relSyncGroupRequest
      exact ⟨by rw [ht94]; rfl, by rw [ht135]; rfl, by rw [ht172]; rfl, ⟨rfl, hn222⟩, ⟨rfl, hn270⟩, ⟨rfl, hn318⟩, ⟨hn564, rfl, hL565.rel_⟩, rfl, trivial⟩
    have he_ : aSyncGroupRequest (IntKind.i16.wrap v) (dvP m_ u5 [dvS (bs s78), dvN (IntKind.i32.wrap n118), dvS (bs s156), dvT A223 (bs (octOf (Tree.at_ (Tree.mk n1 s2 b3 l4 u5) 3))), dvT A271 (bs (octOf (Tree.at_ (Tree.mk n1 s2 b3 l4 u5) 4))), dvT A319 (bs (octOf (Tree.at_ (Tree.mk n1 s2 b3 l4 u5) 5))), dvL A561 (lst (Tree.at_ (Tree.mk n1 s2 b3 l4 u5) 6)).length c562 f563]) = makeSyncGroupRequest v (Tree.mk n1 s2 b3 l4 u5) := atSyncGroupRequest _ _ _ hrel_
    rw [← he_] at hroom ⊢
    have hok_ : okSyncGroupRequest wq (fun _ _ => True) (dvP m_ u5 [dvS (bs s78), dvN (IntKind.i32.wrap n118), dvS (bs s156), dvT A223 (bs (octOf (Tree.at_ (Tree.mk n1 s2 b3 l4 u5) 3))), dvT A271 (bs (octOf (Tree.at_ (Tree.mk n1 s2 b3 l4 u5) 4))), dvT A319 (bs (octOf (Tree.at_ (Tree.mk n1 s2 b3 l4 u5) 5))), dvL A561 (lst (Tree.at_ (Tree.mk n1 s2 b3 l4 u5) 6)).length c562 f563]) := by
      unfold okSyncGroupRequest
      exact ⟨by show ByteArray.size (bs s78) ≤ 1000000; rw [bs_size]; have h_ := c0; rw [ht94] at h_; exact h_, trivial, by show ByteArray.size (bs s156) ≤ 1000000; rw [bs_size]; have h_ := c2; rw [ht172] at h_; exact h_, ⟨fun ad h => by
      obtain ⟨b, o, g1, g2⟩ := hr225 ad h
      exact ⟨b, o, g1, ((g2.move (Fr.trans (Fr.trans (Fr.trans (Fr.trans (Fr.trans (Fr.trans (Fr.trans (Fr.trans (Fr.trans hF234 hF267) hF278) hF282) hF315) hF326) hF330) hF363) hF568) hF579).step immM (Fr.trans (Fr.trans (Fr.trans (Fr.trans (Fr.trans (Fr.trans (Fr.trans (Fr.trans (Fr.trans hF234 hF267) hF278) hF282) hF315) hF326) hF330) hF363) hF568) hF579).to').move (Step.refl _ Nil) nilM (fun _ _ _ _ => trivial))⟩, by show ByteArray.size (bs (octOf (Tree.at_ (Tree.mk n1 s2 b3 l4 u5) 3))) ≤ 1000000; rw [bs_size]; exact c3⟩, ⟨fun ad h => by
      obtain ⟨b, o, g1, g2⟩ := hr273 ad h
      exact ⟨b, o, g1, ((g2.move (Fr.trans (Fr.trans (Fr.trans (Fr.trans (Fr.trans (Fr.trans hF282 hF315) hF326) hF330) hF363) hF568) hF579).step immM (Fr.trans (Fr.trans (Fr.trans (Fr.trans (Fr.trans (Fr.trans hF282 hF315) hF326) hF330) hF363) hF568) hF579).to').move (Step.refl _ Nil) nilM (fun _ _ _ _ => trivial))⟩, by show ByteArray.size (bs (octOf (Tree.at_ (Tree.mk n1 s2 b3 l4 u5) 4))) ≤ 1000000; rw [bs_size]; exact c4⟩, ⟨fun ad h => by
      obtain ⟨b, o, g1, g2⟩ := hr321 ad h
      exact ⟨b, o, g1, ((g2.move (Fr.trans (Fr.trans (Fr.trans hF330 hF363) hF568) hF579).step immM (Fr.trans (Fr.trans (Fr.trans hF330 hF363) hF568) hF579).to').move (Step.refl _ Nil) nilM (fun _ _ _ _ => trivial))⟩, by show ByteArray.size (bs (octOf (Tree.at_ (Tree.mk n1 s2 b3 l4 u5) 5))) ≤ 1000000; rw [bs_size]; exact c5⟩, ⟨((hL565.move hF579.step immM hF579.to').move (Step.refl _ Nil) nilM (fun _ _ _ _ => trivial)).slots, c6, ((hL565.move hF579.step immM hF579.to').move (Step.refl _ Nil) nilM (fun _ _ _ _ => trivial)).each⟩, (hM580.move (Step.refl _ Nil) nilM (fun _ _ _ _ => trivial)), cU.2.1, cU.2.2, trivial⟩
    refine of_op (wpOp_call hE586 (f := 85) (vs := [.pointer (some ⟨b33, 0, none⟩), .slice none 0 0]) (d := 16) (by kernel_rfl) Try.call85 (kSyncGroupRequest (IntKind.i16.wrap v) (dvP m_ u5 [dvS (bs s78), dvN (IntKind.i32.wrap n118), dvS (bs s156), dvT A223 (bs (octOf (Tree.at_ (Tree.mk n1 s2 b3 l4 u5) 3))), dvT A271 (bs (octOf (Tree.at_ (Tree.mk n1 s2 b3 l4 u5) 4))), dvT A319 (bs (octOf (Tree.at_ (Tree.mk n1 s2 b3 l4 u5) 5))), dvL A561 (lst (Tree.at_ (Tree.mk n1 s2 b3 l4 u5) 6)).length c562 f563]) b33 0 none 0 [] _ _ (fun j v hj => ⟨trivial, hW578.cells 1 _ rfl j v hj⟩) hok_ none_blk (World.ownsRow_nil _ 0 _ _) (by simpa using hroom)) ?_)
    rintro e_ wz ⟨A', c', rfl, ho, hs, hn⟩
    refine ⟨_, rfl, fun az hEz => ?_⟩
    have hEy := (hEz.pick (ks := [16]) (env' := [(16, .v (.slice A' (([] ++ aSyncGroupRequest (IntKind.i16.wrap v) (dvP m_ u5 [dvS (bs s78), dvN (IntKind.i32.wrap n118), dvS (bs s156), dvT A223 (bs (octOf (Tree.at_ (Tree.mk n1 s2 b3 l4 u5) 3))), dvT A271 (bs (octOf (Tree.at_ (Tree.mk n1 s2 b3 l4 u5) 4))), dvT A319 (bs (octOf (Tree.at_ (Tree.mk n1 s2 b3 l4 u5) 5))), dvL A561 (lst (Tree.at_ (Tree.mk n1 s2 b3 l4 u5) 6)).length c562 f563])).length) c'))]) (by kernel_rfl)).cutTb 0 (by kernel_rfl)
    have hWz := WOk.start wz Nil
    refine go_rn [2] [] [(4, .v (.slice A' (([] ++ aSyncGroupRequest (IntKind.i16.wrap v) (dvP m_ u5 [dvS (bs s78), dvN (IntKind.i32.wrap n118), dvS (bs s156), dvT A223 (bs (octOf (Tree.at_ (Tree.mk n1 s2 b3 l4 u5) 3))), dvT A271 (bs (octOf (Tree.at_ (Tree.mk n1 s2 b3 l4 u5) 4))), dvT A319 (bs (octOf (Tree.at_ (Tree.mk n1 s2 b3 l4 u5) 5))), dvL A561 (lst (Tree.at_ (Tree.mk n1 s2 b3 l4 u5) 6)).length c562 f563])).length) c'))] hWz hEy fun a587 hE588 => ?_
    clear hEy
    refine wpOps_nil ?_
    refine then_normal ?_
    refine wp_ret ?_
    refine leave hE588 hWz.cells (v := .slice A' (([] ++ aSyncGroupRequest (IntKind.i16.wrap v) (dvP m_ u5 [dvS (bs s78), dvN (IntKind.i32.wrap n118), dvS (bs s156), dvT A223 (bs (octOf (Tree.at_ (Tree.mk n1 s2 b3 l4 u5) 3))), dvT A271 (bs (octOf (Tree.at_ (Tree.mk n1 s2 b3 l4 u5) 4))), dvT A319 (bs (octOf (Tree.at_ (Tree.mk n1 s2 b3 l4 u5) 5))), dvL A561 (lst (Tree.at_ (Tree.mk n1 s2 b3 l4 u5) 6)).length c562 f563])).length) c') (by kernel_rfl) ?_
    exact fresh_of_app hW578.step ⟨A', c', rfl, ho, hs, hn⟩

theorem xSyncGroupRequest (w : World) : Calls Try.prog 35 #[] w (Gives w (.int .i64 5)) := by
  refine enter (n := 4) Try.func35 rfl Try.ntmps35 (by kernel_rfl) fun a hE => ?_
  have hW := WOk.start w Nil
  refine go_sp [] hW hE fun a1 hE2 => ?_
  clear hE
  refine go_seq_region [0, 1, 2, 3] (by kernel_rfl) ?_
  refine of_op (wpOp_inline hE2 (f := 80) (vs := []) (d := 1) (n' := 3) (by kernel_rfl) Try.call80 Try.func80 rfl Try.ntmps80 (by kernel_rfl) fun a3 hE4 => ?_)
  refine go_sp [] hW hE4 fun a5 hE6 => ?_
  clear hE4
  refine go_seq_region [0] (by kernel_rfl) ?_
  refine of_op (wpOp_alloc hW hE6 (d := 1) (cs := [.int .i16 0, .string ByteArray.empty, .int .i32 0, .string ByteArray.empty, .pointer none, .pointer none, .pointer none, .slice none 0 0, .map none]) (by kernel_rfl) fun b7 a8 w9 hb10 hz11 hF12 hW13 hE14 => ?_)
  clear hE6 hW
  refine wpOps_nil ?_
  refine then_normal ?_
  refine go_seq_region [0] (by kernel_rfl) ?_
  refine of_op (wpOp_inline hE14 (f := 132) (vs := [.pointer (some ⟨b7, 0, none⟩)]) (d := 2) (n' := 2) (by kernel_rfl) Try.call132 Try.func132 rfl Try.ntmps132 (by kernel_rfl) fun a15 hE16 => ?_)
  have hE17 := hE16.recast 0 (.v (.pointer (some ⟨b7, 0, none⟩))) (.p 0 0) rfl rfl (Nat.le_of_ble_eq_true (n := 1) rfl)
  refine wp_skip ?_
  refine leave_end hE17 hW13.cells (v := .tuple #[]) (by kernel_rfl) ?_
  refine ⟨_, rfl, fun a18 hE19 => ?_⟩
  have hE20 : EnvOk 3 [⟨b7, 0, [.int .i16 0, .string ByteArray.empty, .int .i32 0, .string ByteArray.empty, .pointer none, .pointer none, .pointer none, .slice none 0 0, .map none], true⟩] [(2, .v (.tuple #[])), (1, .p 0 0)] _ := hE19.places (⟨rfl, rfl, trivial⟩)
  refine wpOps_nil ?_
  refine then_normal ?_
  refine go_sp [(0, .p 0 0)] hW13 hE20 fun a21 hE22 => ?_
  clear hE20
  refine wp_ret ?_
  refine leave hE22 hW13.cells (v := .pointer (some ⟨b7, 0, none⟩)) (by kernel_rfl) ?_
  refine ⟨_, rfl, fun a23 hE24 => ?_⟩
  have hE25 : EnvOk 4 [⟨b7, 0, [.int .i16 0, .string ByteArray.empty, .int .i32 0, .string ByteArray.empty, .pointer none, .pointer none, .pointer none, .slice none 0 0, .map none], true⟩] [(1, .v (.pointer (some ⟨b7, 0, none⟩)))] _ := hE24.places (trivial)
  refine of_op (wpOp_inline hE25 (f := 81) (vs := [.pointer (some ⟨b7, 0, none⟩)]) (d := 2) (n' := 3) (by kernel_rfl) Try.call81 Try.func81 rfl Try.ntmps81 (by kernel_rfl) fun a26 hE27 => ?_)
  refine go_sp [] hW13 hE27 fun a28 hE29 => ?_
  clear hE27
  refine go_sp [(2, .v (.int .i16 5))] hW13 hE29 fun a30 hE31 => ?_
  clear hE29
  refine wp_ret ?_
  refine leave hE31 hW13.cells (v := .int .i16 5) (by kernel_rfl) ?_
  refine ⟨_, rfl, fun a32 hE33 => ?_⟩
  have hE34 : EnvOk 4 [⟨b7, 0, [.int .i16 0, .string ByteArray.empty, .int .i32 0, .string ByteArray.empty, .pointer none, .pointer none, .pointer none, .slice none 0 0, .map none], true⟩] [(2, .v (.int .i16 5)), (1, .v (.pointer (some ⟨b7, 0, none⟩)))] _ := hE33.places (⟨rfl, rfl, trivial⟩)
  refine go_rn [2, 3] [] [(0, .v (.int .i64 5))] hW13 hE34 fun a35 hE36 => ?_
  clear hE34
  refine wpOps_nil ?_
  refine then_normal ?_
  refine wp_ret ?_
  refine leave hE36 hW13.cells (v := .int .i64 5) (by kernel_rfl) ?_
  exact ⟨rfl, hW13.step⟩

theorem sSyncGroupRequest_depth : depths sSyncGroupRequestF ≤ 8 := by simp [sSyncGroupRequestF, Fld.depth.depths, Fld.depth]
theorem sSyncGroupRequest_plain : plains sSyncGroupRequestF := by simp [sSyncGroupRequestF, Fld.plain.plains, Fld.plain]

theorem lawSyncGroupRequest (x : Int) (hx : 0 ≤ x) (hx' : x < 256) (ct : List Value) (t : Tree) (w : World) (F : Nat → Nat → Prop) (ht : TreeR w F ct t) (hroom : (writeB 8 sSyncGroupRequestF sSyncGroupRequestX (Int.tmod x (5 + 1)) t).length ≤ 1099511627776) (hcan : canSyncGroupRequest (fitT (Int.tmod x (5 + 1)) 8 sSyncGroupRequestF t)) (hmade : (makeSyncGroupRequest (Int.tmod x (5 + 1)) (fitT (Int.tmod x (5 + 1)) 8 sSyncGroupRequestF t)).length + 16 ≤ 1099511627776) (hpure : makeSyncGroupRequest (Int.tmod x (5 + 1)) (fitT (Int.tmod x (5 + 1)) 8 sSyncGroupRequestF t) = writeB 8 sSyncGroupRequestF sSyncGroupRequestX (Int.tmod x (5 + 1)) t) :
    Calls Try.prog 9 #[.int .u8 x, .agg ct.toArray] w (Gives w (.bool true)) := by
  obtain ⟨n1, s2, b3, l4, u5, A6, c7, A8, c9, A10, c11, xs12, rfl, rfl, h14, h15, h16, h17⟩ := ht.open_
  have hsm19 := h14.small
  have hsm20 := h15.small
  refine enter (n := 31) Try.func9 rfl Try.ntmps9 (by kernel_rfl) fun a hE => ?_
  have hW := WOk.start w Nil
  refine go_seq_region [0, 1] (by kernel_rfl) ?_
  refine of_op (wpOp_box hW hE (d := 3) (cs := [.int .i64 n1, .slice A6 s2.length c7, .bool b3, .slice A8 l4.length c9, .slice A10 u5.length c11]) (by kernel_rfl) fun b21 a22 w23 hb24 hz25 hF26 hW27 hE28 => ?_)
  clear hE hW
  refine go_rn [1] [] [(0, .v (.int .u8 x)), (3, .p 0 0)] hW27 hE28 fun a29 hE30 => ?_
  clear hE28
  refine wpOps_nil ?_
  refine then_normal ?_
  refine wp_seq ?_
  refine go_seq_region [0, 1, 2] (by kernel_rfl) ?_
  refine go_rn [0] [1, 2] [(0, .v (.int .u8 x)), (3, .p 0 0), (8, .v (.agg #[.int .i64 n1, .slice A6 s2.length c7, .bool b3, .slice A8 l4.length c9, .slice A10 u5.length c11]))] hW27 hE30 fun a31 hE32 => ?_
  clear hE30
  refine of_op (wpOp_call hE32 (f := 11) (vs := [.agg #[.int .i64 n1, .slice A6 s2.length c7, .bool b3, .slice A8 l4.length c9, .slice A10 u5.length c11]]) (d := 9) (by kernel_rfl) Try.call11 (lFits1 _ _ _ _ (ht.move hW27.step nilM hW27.imm)) ?_)
  rintro e_ w35 ⟨b34, rfl, hs33⟩
  refine ⟨_, rfl, fun a36 hE37 => ?_⟩
  have hW38 := hW27.next_nil hs33
  have hF39 := hW27.frN hs33
  clear hE32 hW27
  refine go_rn [2] [] [(0, .v (.int .u8 x)), (3, .p 0 0), (10, .v (.bool (!b34)))] hW38 hE37 fun a40 hE41 => ?_
  clear hE37
  refine wpOps_nil ?_
  refine then_normal ?_
  refine cond_of hE41 (b := !b34) (by kernel_rfl) (fun hc42 => ?_) (fun hc42 => ?_)
  ·
    refine go_sp [(4, .v (.bool true))] hW38 hE41 fun a44 hE45 => ?_
    clear hE41
    refine wp_ret ?_
    refine then_ret ?_
    refine leave hE45 hW38.cells (v := .bool true) (by kernel_rfl) ?_
    exact ⟨rfl, hW38.step⟩
  ·
    refine wp_skip ?_
    refine then_normal ?_
    refine go_seq_region [0, 1] (by kernel_rfl) ?_
    refine of_op (wpOp_call hE41 (f := 35) (vs := []) (d := 11) (by kernel_rfl) Try.call35 (xSyncGroupRequest _) ?_)
    rintro e_ w48 ⟨rfl, hs47⟩
    refine ⟨_, rfl, fun a49 hE50 => ?_⟩
    have hW51 := hW38.next_nil hs47
    have hF52 := hW38.frN hs47
    clear hE41 hW38
    refine go_rn [1] [] [(0, .v (.int .u8 x)), (3, .p 0 0), (5, .v (.int .i64 5))] hW51 hE50 fun a53 hE54 => ?_
    clear hE50
    refine wpOps_nil ?_
    refine then_normal ?_
    refine wp_seq ?_
    refine go_sp [(0, .v (.int .u8 x)), (3, .p 0 0), (5, .v (.int .i64 5)), (13, .v (.bool false))] hW51 hE54 fun a55 hE56 => ?_
    clear hE54
    refine cond_false hE56 (b := false) (by kernel_rfl) rfl ?_
    refine wp_skip ?_
    refine then_normal ?_
    refine go_seq_region [0, 1, 2, 3, 4, 5, 6] (by kernel_rfl) ?_
    refine of_op (wpOp_call hE56 (f := 36) (vs := []) (d := 14) (by kernel_rfl) Try.call36 (sSyncGroupRequest _ (Imm F w w48 [⟨b21, 0, [.int .i64 n1, .slice A6 s2.length c7, .bool b3, .slice A8 l4.length c9, .slice A10 u5.length c11], true⟩] [])) ?_)
    rintro e_ w61 ⟨A59, c60, rfl, hr58, hs57⟩
    obtain ⟨xs62, h63, h64⟩ := hr58.move (Step.refl _ Nil) nilM (hW51.laid (G := F) hs57)
    refine ⟨_, rfl, fun a65 hE66 => ?_⟩
    have hW67 := hW51.next_nil hs57
    have hF68 := hW51.frN hs57
    clear hE56
    refine go_rn [1, 2] [3, 4, 5, 6] [(3, .p 0 0), (14, .v (.agg #[.slice A59 sSyncGroupRequestF.length c60, .int .i64 sSyncGroupRequestX])), (15, .v (.int .u8 x)), (16, .v (.int .i64 5))] hW67 hE66 fun a69 hE70 => ?_
    clear hE66
    refine of_op (wpOp_call hE70 (f := 14) (vs := [.int .u8 x, .int .i64 5]) (d := 17) (by kernel_rfl) Try.call14 (lVersion x 5 hx hx' (by decide) (by decide) _) ?_)
    rintro e_ w72 ⟨rfl, hs71⟩
    refine ⟨_, rfl, fun a73 hE74 => ?_⟩
    have hW75 := hW67.next_nil hs71
    have hF76 := hW67.frN hs71
    clear hE70 hW67
    refine of_op (wpOp_alloc hW75 hE74 (d := 6) (cs := [.slice none 0 0, .int .i64 0]) (by kernel_rfl) fun b77 a78 w79 hb80 hz81 hF82 hW83 hE84 => ?_)
    clear hE74 hW75
    refine of_op (wpOp_store hW83 hE84 (oi := 1) (cs := [.slice A59 sSyncGroupRequestF.length c60, .int .i64 sSyncGroupRequestX]) (by kernel_rfl) fun w85 hF86 hW87 hE88 => ?_)
    clear hE84 hW83
    refine go_rn [6] [] [(3, .p 0 0), (6, .p 1 0), (7, .v (.int .i64 (Int.tmod x (5 + 1))))] hW87 hE88 fun a89 hE90 => ?_
    clear hE88
    refine wpOps_nil ?_
    refine then_normal ?_
    refine go_seq_drawK 13 (by kernel_rfl) hW87 fun w91 hF92 hW93 hT94 => ?_
    clear hW87
    refine go_rnD [0, 1, 2, 3, 4, 8, 9, 10] [(18, .v (.int .i64 (Int.tmod x (5 + 1)))), (20, .v (.slice A59 sSyncGroupRequestF.length c60)), (21, .v (.int .i64 (Int.tmod x (5 + 1)))), (22, .v (.agg #[.int .i64 n1, .slice A6 s2.length c7, .bool b3, .slice A8 l4.length c9, .slice A10 u5.length c11])), (26, .v (.agg #[.slice A59 sSyncGroupRequestF.length c60, .int .i64 sSyncGroupRequestX])), (27, .v (.int .i64 (Int.tmod x (5 + 1)))), (28, .v (.agg #[.int .i64 n1, .slice A6 s2.length c7, .bool b3, .slice A8 l4.length c9, .slice A10 u5.length c11]))] 6 (panicFree_then panicFree_body) (fun _ h => h.cells) hT94 hE90 fun a95 hE96 => ?_
    clear hE90
    refine anyC_op (i := 5) (by kernel_rfl) (wpOp_call hE96 (f := 18) (vs := [.slice A59 sSyncGroupRequestF.length c60, .int .i64 (Int.tmod x (5 + 1)), .agg #[.int .i64 n1, .slice A6 s2.length c7, .bool b3, .slice A8 l4.length c9, .slice A10 u5.length c11]]) (d := 23) (by kernel_rfl) Try.call18 (sFitOK _ _ _ sSyncGroupRequestF (Int.tmod x (5 + 1)) _ (Tree.mk n1 s2 b3 l4 u5) _ _ ⟨xs62, (h63.move (Fr.trans (Fr.trans (Fr.trans hF76 hF82) hF86) hF92).step immM (Fr.trans (Fr.trans (Fr.trans hF76 hF82) hF86) hF92).to'), (fun i_ x_ h_ => ((h64 i_ x_ h_).move (Fr.trans (Fr.trans (Fr.trans hF76 hF82) hF86) hF92).step immM (Fr.trans (Fr.trans (Fr.trans hF76 hF82) hF86) hF92).to'))⟩ sSyncGroupRequest_plain sSyncGroupRequest_depth (ht.move hW93.step nilM hW93.imm)) ?_)
    rintro e_ w100 ⟨cs99, rfl, hr98, hs97⟩
    have hr101 := hr98.move (Step.refl _ Nil) nilM (hW93.laid (G := F) hs97)
    obtain ⟨n102, s103, b104, l105, u106, A107, c108, A109, c110, A111, c112, xs113, ht119, hcs114, h115, h116, h117, h118⟩ := hr101.open_
    rw [hcs114] at hr101
    have hsm120 := h115.small
    have hsm121 := h116.small
    rw [hcs114]
    refine ⟨_, rfl, fun a122 hE123 => ?_⟩
    have hW124 := hW93.next_nil hs97
    have hF125 := hW93.frN hs97
    clear hE96
    have hT126 := TT.ofW hF125 hW124
    refine ⟨fun _ => hT126, ?_⟩
    refine anyC_op (i := 6) (by kernel_rfl) (wpOp_call hE123 (f := 17) (vs := [.agg #[.int .i64 n102, .slice A107 s103.length c108, .bool b104, .slice A109 l105.length c110, .slice A111 u106.length c112]]) (d := 24) (by kernel_rfl) Try.call17 (lGiven _ _ _ _ _ hr101 (Nat.le_refl _)) ?_)
    rintro e_ w130 ⟨cs129, rfl, hr128, hs127⟩
    have hr131 := hr128.move (Step.refl _ Nil) nilM (hW124.laid (G := F) hs127)
    obtain ⟨n132, s133, b134, l135, u136, A137, c138, A139, c140, A141, c142, xs143, ht149, hcs144, h145, h146, h147, h148⟩ := hr131.open_
    rw [hcs144] at hr131
    have hsm150 := h145.small
    have hsm151 := h146.small
    rw [hcs144]
    refine ⟨_, rfl, fun a152 hE153 => ?_⟩
    have hW154 := hW124.next_nil hs127
    have hF155 := hW124.frN hs127
    clear hE123
    have hT156 := TT.ofW (Fr.trans hF125 hF155) hW154
    refine ⟨fun _ => hT156, ?_⟩
    refine anyC_op (i := 7) (by kernel_rfl) (wpOp_call hE153 (f := 37) (vs := [.int .i64 (Int.tmod x (5 + 1)), .agg #[.int .i64 n132, .slice A137 s133.length c138, .bool b134, .slice A139 l135.length c140, .slice A141 u136.length c142]]) (d := 25) (by kernel_rfl) Try.call37 (mSyncGroupRequest (Int.tmod x (5 + 1)) _ (fitT (Int.tmod x (5 + 1)) 8 sSyncGroupRequestF (Tree.mk n1 s2 b3 l4 u5)) _ _ hr131 hcan hmade) ?_)
    rintro e_ w161 ⟨A159, c160, rfl, ho158, hs157⟩
    refine ⟨_, rfl, fun a162 hE163 => ?_⟩
    obtain ⟨hW164, hF165⟩ := hW154.frFresh hs157 (brow A159 c160 5 (makeSyncGroupRequest (Int.tmod x (5 + 1)) (fitT (Int.tmod x (5 + 1)) 8 sSyncGroupRequestF (Tree.mk n1 s2 b3 l4 u5)))) (Nat.le_refl _) ho158
    clear hE153 hW154
    have hT166 := TT.ofW (Fr.trans (Fr.trans hF125 hF155) hF165) hW164
    refine ⟨fun _ => hT166, ?_⟩
    refine anyC_op (i := 11) (by kernel_rfl) (wpOp_call hE163 (f := 19) (vs := [.agg #[.slice A59 sSyncGroupRequestF.length c60, .int .i64 sSyncGroupRequestX], .int .i64 (Int.tmod x (5 + 1)), .agg #[.int .i64 n1, .slice A6 s2.length c7, .bool b3, .slice A8 l4.length c9, .slice A10 u5.length c11]]) (d := 29) (by kernel_rfl) Try.call19 (sWrite _ _ sSyncGroupRequestF sSyncGroupRequestX (Int.tmod x (5 + 1)) _ (Tree.mk n1 s2 b3 l4 u5) _ _ ⟨xs62, (h63.move (Fr.trans (Fr.trans (Fr.trans (Fr.trans (Fr.trans (Fr.trans hF76 hF82) hF86) hF92) hF125) hF155) hF165).step immM (Fr.trans (Fr.trans (Fr.trans (Fr.trans (Fr.trans (Fr.trans hF76 hF82) hF86) hF92) hF125) hF155) hF165).to'), (fun i_ x_ h_ => ((h64 i_ x_ h_).move (Fr.trans (Fr.trans (Fr.trans (Fr.trans (Fr.trans (Fr.trans hF76 hF82) hF86) hF92) hF125) hF155) hF165).step immM (Fr.trans (Fr.trans (Fr.trans (Fr.trans (Fr.trans (Fr.trans hF76 hF82) hF86) hF92) hF125) hF155) hF165).to'))⟩ sSyncGroupRequest_depth (ht.move hW164.step nilM hW164.imm) hroom) ?_)
    rintro e_ w171 ⟨A169, c170, rfl, ho168, hs167⟩
    refine ⟨_, rfl, fun a172 hE173 => ?_⟩
    obtain ⟨hW174, hF175⟩ := hW164.frFresh hs167 (brow A169 c170 5 (writeB 8 sSyncGroupRequestF sSyncGroupRequestX (Int.tmod x (5 + 1)) (Tree.mk n1 s2 b3 l4 u5))) (Nat.le_refl _) ho168
    clear hE163 hW164
    have hT176 := TT.ofW (Fr.trans (Fr.trans (Fr.trans hF125 hF155) hF165) hF175) hW174
    refine ⟨fun _ => hT176, ?_⟩
    refine anyC_op (i := 12) (by kernel_rfl) (wpOp_call hE173 (f := 15) (vs := [.slice A159 ((makeSyncGroupRequest (Int.tmod x (5 + 1)) (fitT (Int.tmod x (5 + 1)) 8 sSyncGroupRequestF (Tree.mk n1 s2 b3 l4 u5))).length) c160, .slice A169 ((writeB 8 sSyncGroupRequestF sSyncGroupRequestX (Int.tmod x (5 + 1)) (Tree.mk n1 s2 b3 l4 u5)).length) c170]) (d := 30) (by kernel_rfl) Try.call15 (sSame _ _ _ _ (makeSyncGroupRequest (Int.tmod x (5 + 1)) (fitT (Int.tmod x (5 + 1)) 8 sSyncGroupRequestF (Tree.mk n1 s2 b3 l4 u5))) (writeB 8 sSyncGroupRequestF sSyncGroupRequestX (Int.tmod x (5 + 1)) (Tree.mk n1 s2 b3 l4 u5)) _ _ (octs_own (hW174.own 0 _ rfl) (by first | omega | (simp only [be_length]; exact Nat.le_trans (widthI_le _) (by decide)) | (have := hroom; omega) | (have := hmade; omega)) (F := fun _ _ => True) (fun _ _ _ => trivial)) (octs_own (hW174.own 1 _ rfl) (by first | omega | (simp only [be_length]; exact Nat.le_trans (widthI_le _) (by decide)) | (have := hroom; omega) | (have := hmade; omega)) (F := fun _ _ => True) (fun _ _ _ => trivial))) ?_)
    rintro e_ w178 ⟨rfl, hs177⟩
    refine ⟨_, rfl, fun a179 hE180 => ?_⟩
    have hW181 := hW174.next_nil hs177
    have hF182 := hW174.frN hs177
    clear hE173 hW174
    have hT183 := TT.ofW (Fr.trans (Fr.trans (Fr.trans (Fr.trans hF125 hF155) hF165) hF175) hF182) hW181
    refine ⟨fun _ => hT183, ?_⟩
    refine anyC_op (i := 13) (by kernel_rfl) (wpOp_pure [4] hW181.cells hE180 (env' := [(4, .v (.bool (decide (makeSyncGroupRequest (Int.tmod x (5 + 1)) (fitT (Int.tmod x (5 + 1)) 8 sSyncGroupRequestF (Tree.mk n1 s2 b3 l4 u5)) = writeB 8 sSyncGroupRequestF sSyncGroupRequestX (Int.tmod x (5 + 1)) (Tree.mk n1 s2 b3 l4 u5)))))]) (by kernel_rfl) fun a184 hE185 => ?_)
    clear hE180
    refine ⟨fun h => absurd rfl h, ?_⟩
    refine anyC_done (by kernel_rfl) ?_ _
    refine then_normal ?_
    refine wp_ret ?_
    refine leave hE185 hW181.cells (v := .bool (decide (makeSyncGroupRequest (Int.tmod x (5 + 1)) (fitT (Int.tmod x (5 + 1)) 8 sSyncGroupRequestF (Tree.mk n1 s2 b3 l4 u5)) = writeB 8 sSyncGroupRequestF sSyncGroupRequestX (Int.tmod x (5 + 1)) (Tree.mk n1 s2 b3 l4 u5)))) (by kernel_rfl) ?_
    exact ⟨by rw [hpure]; simp, hW181.step⟩

theorem closeSyncGroupRequest (x : Int) (hx : 0 ≤ x ∧ x ≤ 255) (ct : List Value) (t : Tree) (w : World) (F : Nat → Nat → Prop) (ht : TreeR w F ct t) (hsz : t.size ≤ 8388608) : Calls Try.prog 9 #[.int .u8 x, .agg ct.toArray] w (Gives w (.bool true)) := by
  obtain ⟨g0, g1⟩ := ver_ok (m := 5 + 1) hx.1 hx.2 (by decide) (by decide)
  have hp : makeSyncGroupRequest (Int.tmod x (5 + 1)) (fitT (Int.tmod x (5 + 1)) 8 sSyncGroupRequestF t) = writeB 8 sSyncGroupRequestF sSyncGroupRequestX (Int.tmod x (5 + 1)) t := by unfold makeSyncGroupRequest; rw [i16_small g0 g1]; exact pureSyncGroupRequest (Int.tmod x (5 + 1)) g0 g1 t
  have h1 := writeB_le 8 sSyncGroupRequestF sSyncGroupRequestX (Int.tmod x (5 + 1)) t
  have h2 : costL sSyncGroupRequestF ≤ 131000 := by decide +kernel
  have h3 := Nat.mul_le_mul h2 hsz
  exact lawSyncGroupRequest x hx.1 (by omega) ct t w F ht (by omega) (canfitSyncGroupRequest (Int.tmod x (5 + 1)) t) (by rw [hp]; omega) hp

end Go.Proofs.Ytbjopfcbpobnpaa.ME

/- FnMakeSyncGroupRequest: the statement: of every version and every tree of the bulk that the statement speaks of the law returns true, and leaves its arguments as they are. Own work. -/
namespace Go.Proofs.Ytbjopfcbpobnpaa.ME
open Go
open Go.ChangeShapes Go.WideShapes Go.ChangeAt Go.RowKit
set_option linter.unusedVariables false
set_option linter.unusedSimpArgs false

theorem ownKnob_ : ownKnob Try.prog.godebug = none := by kernel_rfl
theorem laidOut_ : laidOutB Try.prog = true := by kernel_rfl
theorem treeTys : TreeTys Try.prog 26 23 24 61 22 2 4 59 5 := ⟨by kernel_rfl, by kernel_rfl, by kernel_rfl, by kernel_rfl, by kernel_rfl, by kernel_rfl, by kernel_rfl, by kernel_rfl, by kernel_rfl, by kernel_rfl⟩
theorem open_two {H : Type} {enc : TypeId × Value → H} {P : Program} {W : World} {base b' : Nat} {sp : Nat → Bool} {hd : Bool} {t0 t1 : TypeId} {v0 v1 : Value} {d0 : DataW H} {p0 : List MemPlace} (hu : P.underlying t0 = some (.int .u8))
    (hval : ∀ (j : Nat) (t : TypeId) (v : Value), #[t0, t1][j]? = some t → #[v0, v1][j]? = some v → Value.okWide P W .any base t v) (h : DataW.Trod enc P W b' sp hd t0 v0 d0 p0) : ∃ x, v0 = .int .u8 x ∧ d0 = .lit (.int .u8 x) ∧ p0 = [] ∧ (Lit.int .u8 x).wf = true :=
  open_int hu (hval 0 t0 v0 rfl rfl) h
theorem agg_of {v : Value} {cs : List Value} (h : v.cells.toList = cs) (h5 : cs.length = 5) : v = .agg cs.toArray := by
  subst h
  cases v <;> first | (simp [Value.cells] at h5; done) | simp [Value.cells]

theorem contract_ (H : Type) (enc : TypeId × Value → H) (W : World) (base : Nat) (args : Array Value) (ds gs : List (DataW H)) (before : List MemPlace)
    (hval : ∀ (j : Nat) t v, Try.f9.params[j]? = some t → args[j]? = some v → Value.okWide Try.prog W .any base t v)
    (hW : DataW.Whole enc Try.prog Try.f9.params.toList Rows.fnMakeSyncGroupRequestSpec.vars false W args.toList ds gs before) (hk : Rows.uptoSmall H (ds ++ gs) = true) :
    Calls Try.prog 9 args W fun e W' => ∃ v, e = .returned v ∧ Rows.fnMakeSyncGroupRequestSpec.post enc Try.prog Try.f9 false true false false W args v W' := by
  have hW' := hW
  obtain ⟨p, q, hA0, hV, rfl, hfz, hnd⟩ := hW
  have hA : DataW.TrodAll enc Try.prog W 0 (fun _ => true) true Try.f9.params.toList args.toList ds p := hA0
  rw [Try.params9] at hA hval
  obtain ⟨v0, v1, d0, d1, p0, p1, rfl, rfl, rfl, h0, h1⟩ := trodAll_two hA
  obtain ⟨rfl, rfl⟩ := trodVars_none hV
  obtain ⟨x, rfl, rfl, rfl, w0⟩ := open_two Try.underlying5 @hval h0
  have hx : 0 ≤ x ∧ x ≤ 255 := by simpa [Lit.wf, IntKind.min, IntKind.max, IntKind.signed, IntKind.bits] using w0
  have hb : Rows.uptoBulk d1 ≤ 1048576 := by
    have h : Rows.uptoBulkAll ([DataW.lit (H := H) (.int .u8 x), d1] ++ []) ≤ 1048576 := of_decide_eq_true hk
    simp only [List.append_nil, Rows.uptoBulkAll] at h
    omega
  obtain ⟨fuel, hf⟩ := h1
  obtain ⟨t, ht, hsz⟩ := trod_tree treeTys fuel _ _ hf hb
  replace hsz : t.size ≤ 8388608 := Nat.le_trans hsz (by show 8 * Rows.uptoBulk d1 ≤ 8388608; omega)
  have hagg := agg_of rfl ht.five
  generalize v1.cells.toList = ct at ht hagg
  subst hagg
  clear hf
  refine (closeSyncGroupRequest x hx _ t W (fun _ _ => True) ht hsz).mono fun e W' h => ?_
  obtain ⟨rfl, hs⟩ := h
  exact ⟨_, rfl, post_step hW' hs laidOut_ (by rw [Try.params9]; decide +kernel) rfl rfl rfl (fun _ _ _ => trodAll_cons_mk (shut_bool Try.underlying4 _) trodAll_mk0)⟩

set_option maxRecDepth 100000 in
theorem lifted_ (os : Os) (started : os.Started) (H : Type) (enc : TypeId × Value → H) (F : Stop.Interp) :
    ReturnsInHanded {} Try.checked os 9 .any ((Rows.OpenSpec.upto Rows.fnMakeSyncGroupRequestSpec).pre6 enc Try.prog Try.f9 Rows.fnMakeSyncGroupRequestUptoRow.domain false) (((Rows.OpenSpec.upto Rows.fnMakeSyncGroupRequestSpec).at F).post enc Try.prog Try.f9 false true false false) := by
  refine returnsInHanded_of_cond (C := Try.checked) (s := Rows.OpenSpec.upto Rows.fnMakeSyncGroupRequestSpec) (k := Rows.uptoSmall) rfl ownKnob_ started (by kernel_rfl) Try.func9
    (OpenSpec.witness (enc := enc) (C := Try.checked) (s := Rows.OpenSpec.upto Rows.fnMakeSyncGroupRequestSpec) (k := Rows.uptoSmall) rfl false ⟨#[], #[.int .u8 0, .agg #[.int .i64 0, .slice none 0 0, .bool false, .slice none 0 0, .slice none 0 0]], []⟩ 8 (by kernel_rfl) (by kernel_rfl) (by kernel_rfl)
      (x := ([.lit (.int .u8 0), .agg [.lit (.int .i64 0), .nil, .lit (.bool false), .nil, .nil]], [], [])) (by kernel_rfl) rfl (by kernel_rfl)) ?_
  intro W base args ds gs before hval hW _ hk _
  exact contract_ H enc W base args ds gs before @hval hW hk

theorem holds_ : Rows.FnMakeSyncGroupRequestUptoSaid :=
  OpenClaim.holds_of_cond 9 Try.f9 rfl rfl rfl rfl rfl rfl rfl ⟨rfl, rfl, rfl, rfl, rfl⟩ rfl rfl rfl rfl rfl (by kernel_rfl) Try.func9 (by kernel_rfl)
    (of_decide_eq_true (by kernel_rfl)) (by unfold Func.isWrapper; first | (rw [if_pos (by decide +kernel)]; kernel_rfl) | (rw [if_neg (by decide +kernel)]; exact ⟨rfl, rfl⟩))
    (fun os started H enc _ F => lifted_ os started H enc F)
end Go.Proofs.Ytbjopfcbpobnpaa.ME
namespace Go.Proofs.Ytbjopfcbpobnpaa
/-- the statement -/
theorem fnMakeSyncGroupRequest_holds : Rows.FnMakeSyncGroupRequestUptoSaid := ME.holds_
end Go.Proofs.Ytbjopfcbpobnpaa
