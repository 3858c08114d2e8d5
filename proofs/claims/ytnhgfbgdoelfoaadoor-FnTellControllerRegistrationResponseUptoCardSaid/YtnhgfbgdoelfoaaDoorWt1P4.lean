/- The texts of a claim, put together: the engine, the contracts, the law. Own work. -/
import Derived.Test.YtnhgfbgdoelfoaaDoorWt1P3
namespace Go.Proofs.YtnhgfbgdoelfoaaDoor.ME
open Go
open Go.RowKit
set_option linter.unusedVariables false
set_option linter.unusedSimpArgs false
set_option maxRecDepth 20000
theorem sNumber (k n : Int) (w : World) : Calls Tryd.prog 78 #[.int .i64 k, .int .i64 n] w (Gives w (.int .i64 (numberI k n))) := by
 refine enter (n := 31) Tryd.func78 rfl Tryd.ntmps78 kz fun a hE => ?_
 have hW := WOk.start w Nil
 refine go_sp [(0, .v (.int .i64 k)), (1, .v (.int .i64 n))] hW hE fun a1 hE2 => ?_
 clear hE
 refine wp_seq ?_
 refine go_sp [(1, .v (.int .i64 n)), (5, .v (.int .i64 k))] hW hE2 fun a3 hE4 => ?_
 clear hE2
 refine wp_block ?_
 refine go_sp [(1, .v (.int .i64 n)), (5, .v (.int .i64 k)), (6, .v (.bool (k == 0)))] hW hE4 fun a5 hE6 => ?_
 clear hE4
 refine cond_of hE6 (b := k == 0) kz (fun hc7 => ?_) (fun hc7 => ?_)
 ·
  have hf8 : k = 0 := by simpa using hc7
  refine go_sp [(4, .v (.int .i64 (IntKind.i64.wrap (BitVec.ofInt 64 n &&& BitVec.ofInt 64 1).toNat)))] hW hE6 fun a9 aj => ?_
  clear hE6
  refine wp_ret ?_
  refine block_ret ?_
  refine then_ret ?_
  refine leave aj hW.cells (v := .int .i64 (IntKind.i64.wrap (BitVec.ofInt 64 n &&& BitVec.ofInt 64 1).toNat)) kz ?_
  exact ⟨by (try simp only [and1]); simp_all [numberI, n64_8, n64_16, n64_32, n64_u16], hW.step⟩
 ·
  have ar : k ≠ 0 := by simpa using hc7
  refine go_sp [(1, .v (.int .i64 n)), (5, .v (.int .i64 k)), (10, .v (.bool (k == 1)))] hW hE6 fun aC aa => ?_
  clear hE6
  refine cond_of aa (b := k == 1) kz (fun af => ?_) (fun af => ?_)
  ·
   have au : k = 1 := by simpa using af
   refine go_sp [(4, .v (.int .i64 (IntKind.i64.wrap (IntKind.i8.wrap n))))] hW aa fun aD ak => ?_
   clear aa
   refine wp_ret ?_
   refine block_ret ?_
   refine then_ret ?_
   refine leave ak hW.cells (v := .int .i64 (IntKind.i64.wrap (IntKind.i8.wrap n))) kz ?_
   exact ⟨by (try simp only [and1]); simp_all [numberI, n64_8, n64_16, n64_32, n64_u16], hW.step⟩
  ·
   have av : k ≠ 1 := by simpa using af
   refine go_sp [(1, .v (.int .i64 n)), (5, .v (.int .i64 k)), (15, .v (.bool (k == 2)))] hW aa fun aE ab => ?_
   clear aa
   refine cond_of ab (b := k == 2) kz (fun ag => ?_) (fun ag => ?_)
   ·
    have aw : k = 2 := by simpa using ag
    refine go_sp [(4, .v (.int .i64 (IntKind.i64.wrap (IntKind.i16.wrap n))))] hW ab fun aF al => ?_
    clear ab
    refine wp_ret ?_
    refine block_ret ?_
    refine then_ret ?_
    refine leave al hW.cells (v := .int .i64 (IntKind.i64.wrap (IntKind.i16.wrap n))) kz ?_
    exact ⟨by (try simp only [and1]); simp_all [numberI, n64_8, n64_16, n64_32, n64_u16], hW.step⟩
   ·
    have ax : k ≠ 2 := by simpa using ag
    refine go_sp [(1, .v (.int .i64 n)), (5, .v (.int .i64 k)), (20, .v (.bool (k == 3)))] hW ab fun aG ac => ?_
    clear ab
    refine cond_of ac (b := k == 3) kz (fun ah => ?_) (fun ah => ?_)
    ·
     have ay : k = 3 := by simpa using ah
     refine go_sp [(4, .v (.int .i64 (IntKind.i64.wrap (IntKind.i32.wrap n))))] hW ac fun aH am => ?_
     clear ac
     refine wp_ret ?_
     refine block_ret ?_
     refine then_ret ?_
     refine leave am hW.cells (v := .int .i64 (IntKind.i64.wrap (IntKind.i32.wrap n))) kz ?_
     exact ⟨by (try simp only [and1]); simp_all [numberI, n64_8, n64_16, n64_32, n64_u16], hW.step⟩
    ·
     have az : k ≠ 3 := by simpa using ah
     refine go_sp [(1, .v (.int .i64 n)), (25, .v (.bool (k == 5)))] hW ac fun aI ae => ?_
     clear ac
     refine cond_of ae (b := k == 5) kz (fun ai => ?_) (fun ai => ?_)
     ·
      have aA : k = 5 := by simpa using ai
      refine go_sp [(4, .v (.int .i64 (IntKind.i64.wrap (IntKind.u16.wrap n))))] hW ae fun aJ ao => ?_
      clear ae
      refine wp_ret ?_
      refine block_ret ?_
      refine then_ret ?_
      refine leave ao hW.cells (v := .int .i64 (IntKind.i64.wrap (IntKind.u16.wrap n))) kz ?_
      exact ⟨by (try simp only [and1]); simp_all [numberI, n64_8, n64_16, n64_32, n64_u16], hW.step⟩
     ·
      have aB : k ≠ 5 := by simpa using ai
      refine wp_skip ?_
      refine block_normal ?_
      refine then_normal ?_
      refine go_sp [(4, .v (.int .i64 n))] hW ae fun aK ap => ?_
      clear ae
      refine wp_ret ?_
      refine leave ap hW.cells (v := .int .i64 n) kz ?_
      exact ⟨by (try simp only [and1]); simp_all [numberI, n64_8, n64_16, n64_32, n64_u16], hW.step⟩
def UsOK (U : List Fld → Tree → Prop) : Prop := ∀ (A : Option Addr) (c : Nat) (l : List Fld) (ct : List Value) (g : Tree) (w : World) (F : Nat → Nat → Prop), FldsR w F A c l → TreeR w F ct g → U l g →
  Calls Tryd.prog 46 #[.slice A l.length c, .agg ct.toArray] w (Gives w (.bool true))
theorem sUs {U : List Fld → Tree → Prop} (hu : UsOK U) (A : Option Addr) (c : Nat) (l : List Fld) (ct : List Value) (g : Tree) (w : World) (F : Nat → Nat → Prop) (hl : FldsR w F A c l) (ht : TreeR w F ct g) (hU : UsP U l g) :
  Calls Tryd.prog 46 #[.slice A l.length c, .agg ct.toArray] w (Gives w (.bool true)) := by
 obtain ⟨xfs, h1, h2⟩ := hl.ex
 have hsm := h1.small
 obtain ⟨n1, s2, b3, l4, u5, A6, c7, A8, c9, aZ, ba, fT, rfl, rfl, fU, fV, iC, iD⟩ := ht.open_
 have fa := fU.small
 have fb := fV.small
 refine enter (n := 89) Tryd.func46 rfl Tryd.ntmps46 kz fun a hE => ?_
 have hW := WOk.start w Nil
 refine go_seq_region [0, 1] kz ?_
 refine of_op (wpOp_box hW hE (d := 3) (cs := [.int .i64 n1, .slice A6 s2.length c7, .bool b3, .slice A8 l4.length c9, .slice aZ u5.length ba]) kz fun bQ iE iF fW fX fY aM dq => ?_)
 clear hE hW
 refine go_rn [1] [] [(0, .v (.slice A l.length c)), (3, .p 0 0)] aM dq fun iG dr => ?_
 clear dq
 refine wpOps_nil (then_normal ?_)
 refine wp_seq ?_
 refine go_sp [(0, .v (.slice A l.length c)), (3, .p 0 0), (11, .v (.bool (decide (((u5.length : Nat) : Int) > 0))))] aM dr fun iH bf => ?_
 clear dr
 refine cond_of bf (b := decide (((u5.length : Nat) : Int) > 0)) kz (fun dj => ?_) (fun dj => ?_)
 ·
  have fZ := of_decide_eq_true dj
  refine go_sp [(4, .v (.bool false))] aM bf fun iI eS => ?_
  clear bf
  refine wp_ret ?_
  refine then_ret ?_
  refine leave eS aM.cells (v := .bool false) kz ?_
  exact (us_u (g := (Tree.mk n1 s2 b3 l4 u5)) hU.1 rfl (by assumption)).elim
 ·
  have f5 := of_decide_eq_false dj
  refine wp_skip ?_
  refine then_normal ?_
  refine wp_seq ?_
  refine go_sp [(3, .p 0 0), (12, .v (.slice A l.length c)), (13, .v (.int .i64 ((l.length : Nat) : Int))), (14, .v (.int .i64 0))] aM bf fun iJ dt => ?_
  clear bf
  refine wp_block ?_
  refine wp_loop_ghost (fun n_ a_ w_ => ∃ (k : Nat), n_ = l.length - k ∧ k ≤ l.length ∧ LInv aM 89 [⟨bQ, 0, [.int .i64 n1, .slice A6 s2.length c7, .bool b3, .slice A8 l4.length c9, .slice aZ u5.length ba], true⟩] [] [(3, .p 0 0), (12, .v (.slice A l.length c)), (13, .v (.int .i64 ((l.length : Nat) : Int))), (14, .v (.int .i64 ((k : Nat) : Int)))] a_ w_) (l.length) ⟨0, by omega, by omega, dt.pk, aM, Fr.refl _ _ _⟩ ?_
  clear dt
  rintro iK iL iM ⟨k, f7, f8, du, ap, ak⟩
  refine go_sp [(3, .p 0 0), (12, .v (.slice A l.length c)), (13, .v (.int .i64 ((l.length : Nat) : Int))), (14, .v (.int .i64 ((k : Nat) : Int))), (15, .v (.bool (decide (((k : Nat) : Int) < ((l.length : Nat) : Int)))))] ap du fun iN bg => ?_
  clear du
  refine wp_seq ?_
  refine cond_of bg (b := decide (((k : Nat) : Int) < ((l.length : Nat) : Int))) kz (fun dl => ?_) (fun dl => ?_)
  ·
   have f9 := of_decide_eq_true dl
   refine wp_skip ?_
   refine then_normal ?_
   refine wp_seq ?_
   refine wp_block ?_
   refine go_seq_region [0, 1, 2, 3, 4, 5] kz ?_
   refine go_rn [0] [1, 2, 3, 4, 5] [(3, .p 0 0), (12, .v (.slice A l.length c)), (13, .v (.int .i64 ((l.length : Nat) : Int))), (14, .v (.int .i64 ((k : Nat) : Int))), (16, .v (.int .i64 ((k : Nat) : Int)))] ap bg fun iO dv => ?_
   clear bg
   obtain ⟨ga, gb, eU, gc, bS⟩ := Slots.get h1 (i := k) (by omega)
   obtain ⟨gd, dw⟩ : ∃ x, l[k]? = some x := ⟨_, List.getElem?_eq_getElem (by omega)⟩
   have dx := h2 k gd dw
   obtain ⟨ae, eO, eP, aP, eQ, bh, eR, bR, bT, bU, dy, rfl, bV, eV, fe⟩ := dx.open_
   rw [bV] at dx
   have ff := eV.small
   rw [bV] at bS
   refine of_op (wpOp_index dv (t := 29) (A := A) (m := l.length) (q := ((k : Nat) : Int)) (d := 17) kz (e := 56) (size := 8) (bytes := 80) kz eU rfl (by omega) fun iP dz => ?_)
   clear dv
   refine of_op (wpOp_load dz (t := 56) (b := ga) (o := gb + k * 8) (d := 18) kz (cs := [.int .i64 ae, .int .i64 eO, .int .i64 eP, .int .i64 aP, .int .i64 eQ, .int .i64 bh, .int .i64 eR, .slice bT bR.length bU]) (v := .agg #[.int .i64 ae, .int .i64 eO, .int .i64 eP, .int .i64 aP, .int .i64 eQ, .int .i64 bh, .int .i64 eR, .slice bT bR.length bU]) kz (AtF.move bS ap.step nilM keepF).at_ fun iQ dA => ?_)
   clear dz
   refine of_op (wpOp_alloc ap dA (d := 6) (cs := [.int .i64 0, .int .i64 0, .int .i64 0, .int .i64 0, .int .i64 0, .int .i64 0, .int .i64 0, .slice none 0 0]) kz fun iR iS iT ge gg al dp dB => ?_)
   clear dA ap
   refine go_rn [4] [5] [(3, .p 0 0), (5, .v (.int .i64 ((k : Nat) : Int))), (6, .p 1 0), (12, .v (.slice A l.length c)), (13, .v (.int .i64 ((l.length : Nat) : Int))), (14, .v (.int .i64 ((k : Nat) : Int))), (18, .v (.agg #[.int .i64 ae, .int .i64 eO, .int .i64 eP, .int .i64 aP, .int .i64 eQ, .int .i64 bh, .int .i64 eR, .slice bT bR.length bU]))] dp dB fun iU dC => ?_
   clear dB
   refine of_op (wpOp_store dp dC (oi := 1) (cs := [.int .i64 ae, .int .i64 eO, .int .i64 eP, .int .i64 aP, .int .i64 eQ, .int .i64 bh, .int .i64 eR, .slice bT bR.length bU]) kz fun iV am bd dD => ?_)
   clear dC dp
   refine wpOps_nil (then_normal ?_)
   refine go_seq_region [0, 1, 2, 3, 4] kz ?_
   refine go_rn [0, 1] [2, 3, 4] [(3, .p 0 0), (6, .p 1 0), (12, .v (.slice A l.length c)), (13, .v (.int .i64 ((l.length : Nat) : Int))), (14, .v (.int .i64 ((k : Nat) : Int))), (19, .v (.agg #[.int .i64 n1, .slice A6 s2.length c7, .bool b3, .slice A8 l4.length c9, .slice aZ u5.length ba])), (20, .v (.int .i64 ((k : Nat) : Int)))] bd dD fun iW dE => ?_
   clear dD
   refine of_op (wpOp_call dE (f := 42) (vs := [.agg #[.int .i64 n1, .slice A6 s2.length c7, .bool b3, .slice A8 l4.length c9, .slice aZ u5.length ba], .int .i64 ((k : Nat) : Int)]) (d := 21) kz Tryd.call42 (sAt _ _ k _ _ (ht.move bd.step nilM bd.imm)) ?_)
   rintro e_ gh ⟨gi, rfl, eW, bi⟩
   have aQ := eW.move bi nilM (fun b o h_ hb_ => bd.laid (G := F) bi b o (.inl h_) (Nat.lt_of_lt_of_le hb_ bi.size))
   obtain ⟨ai, af, ah, ao, bj, aN, aO, bk, bn, bo, bp, fg, bq, bt, dF, eX, gj, gk⟩ := aQ.open_
   rw [bt] at aQ
   have eY := dF.small
   have eZ := eX.small
   rw [bt]
   refine ⟨_, rfl, fun gl bW => ?_⟩
   have bX := bd.next_nil bi
   have ag := bd.frN bi
   clear dE
   have hq_ := hU.2 k _ dw
   rw [bq] at hq_
   refine of_op (wpOp_alloc bX bW (d := 7) (cs := [.int .i64 0, .slice none 0 0, .bool false, .slice none 0 0, .slice none 0 0]) kz fun gm gn gp fh fi ab bY bZ => ?_)
   clear bW bX
   refine of_op (wpOp_store bY bZ (oi := 2) (cs := [.int .i64 ai, .slice aN af.length aO, .bool ah, .slice bk ao.length bn, .slice bo bj.length bp]) kz fun gq ac aa b8 => ?_)
   clear bZ bY
   refine wpOps_nil (then_normal ?_)
   refine go_sp [(3, .p 0 0), (6, .p 1 0), (7, .p 2 0), (12, .v (.slice A l.length c)), (13, .v (.int .i64 ((l.length : Nat) : Int))), (14, .v (.int .i64 ((k : Nat) : Int))), (23, .v (.int .i64 ae))] aa b8 fun gt cd => ?_
   clear b8
   refine wp_block ?_
   refine go_sp [(3, .p 0 0), (6, .p 1 0), (7, .p 2 0), (12, .v (.slice A l.length c)), (13, .v (.int .i64 ((l.length : Nat) : Int))), (14, .v (.int .i64 ((k : Nat) : Int))), (23, .v (.int .i64 ae)), (32, .v (.bool (ae == 8)))] aa cd fun gv ar => ?_
   clear cd
   refine cond_of ar (b := ae == 8) kz (fun bu => ?_) (fun bu => ?_)
   ·
    have fj : ae = 8 := by simpa using bu
    refine go_seq_region [0, 1, 2, 3, 4, 5, 6, 7, 8, 9, 10, 11] kz ?_
    refine go_rn [0, 1, 2, 3, 4, 5, 6] [7, 8, 9, 10, 11] [(3, .p 0 0), (7, .p 2 0), (12, .v (.slice A l.length c)), (13, .v (.int .i64 ((l.length : Nat) : Int))), (14, .v (.int .i64 ((k : Nat) : Int))), (40, .v (.bool (!(ah == (decide (aP ≥ 0))))))] aa ar fun gw aR => ?_
    clear ar
    refine (Bool.eq_false_or_eq_true (!(ah == (decide (aP ≥ 0))))).elim (fun au => ?_) (fun au => ?_)
    ·
     have fk : !(ah = (decide (aP ≥ 0))) := by simpa using au
     have ce := aR.cast (env' := [(3, .p 0 0), (7, .p 2 0), (12, .v (.slice A l.length c)), (13, .v (.int .i64 ((l.length : Nat) : Int))), (14, .v (.int .i64 ((k : Nat) : Int))), (40, .v (.bool true))]) (by rw [au])
     clear aR
     refine go_rn [7, 8, 9, 10, 11] [] [(3, .p 0 0), (12, .v (.slice A l.length c)), (13, .v (.int .i64 ((l.length : Nat) : Int))), (14, .v (.int .i64 ((k : Nat) : Int))), (45, .v (.bool true))] aa ce fun gx bw => ?_
     clear ce
     refine wpOps_nil (then_normal ?_)
     refine cond_true bw (b := true) kz rfl ?_
     refine go_sp [(4, .v (.bool false))] aa bw fun gy dG => ?_
     clear bw
     refine wp_ret ?_
     refine block_ret ?_
     refine block_ret ?_
     refine then_ret ?_
     refine then_ret ?_
     refine block_ret ?_
     refine then_ret ?_
     refine leave dG aa.cells (v := .bool false) kz ?_
     first
      | exact (us_8a hq_ (by assumption) (by assumption)).elim
      | exact (us_8b hq_ (by assumption) (by assumption)).elim
      | exact (us_7 hq_ (by assumption) (by assumption)).elim
      | exact (us_9a hq_ (by assumption) (by assumption)).elim
      | exact (us_9b hq_ (by assumption) (by assumption)).elim
      | exact (us_11a hq_ (by assumption) (by assumption)).elim
      | exact (us_11b hq_ (by assumption) (by assumption)).elim
      | exact (us_10 hq_ (by assumption) (by assumption) (by assumption)).elim
      | exact (us_n hq_ (by assumption) (by assumption) (by assumption) (by assumption) (by assumption) (by assumption)).elim
    ·
     have fl : !(ah ≠ (decide (aP ≥ 0))) := by simpa using au
     have cm := aR.cast (env' := [(3, .p 0 0), (7, .p 2 0), (12, .v (.slice A l.length c)), (13, .v (.int .i64 ((l.length : Nat) : Int))), (14, .v (.int .i64 ((k : Nat) : Int))), (40, .v (.bool false))]) (by rw [au])
     clear aR
     refine go_rn [7, 8, 9, 10, 11] [] [(3, .p 0 0), (12, .v (.slice A l.length c)), (13, .v (.int .i64 ((l.length : Nat) : Int))), (14, .v (.int .i64 ((k : Nat) : Int))), (45, .v (.bool (decide (((af.length : Nat) : Int) > 0))))] aa cm fun gz av => ?_
     clear cm
     refine wpOps_nil (then_normal ?_)
     refine cond_of av (b := decide (((af.length : Nat) : Int) > 0)) kz (fun bx => ?_) (fun bx => ?_)
     ·
      have fm := of_decide_eq_true bx
      refine go_sp [(4, .v (.bool false))] aa av fun gA dH => ?_
      clear av
      refine wp_ret ?_
      refine block_ret ?_
      refine block_ret ?_
      refine then_ret ?_
      refine then_ret ?_
      refine block_ret ?_
      refine then_ret ?_
      refine leave dH aa.cells (v := .bool false) kz ?_
      first
       | exact (us_8a hq_ (by assumption) (by assumption)).elim
       | exact (us_8b hq_ (by assumption) (by assumption)).elim
       | exact (us_7 hq_ (by assumption) (by assumption)).elim
       | exact (us_9a hq_ (by assumption) (by assumption)).elim
       | exact (us_9b hq_ (by assumption) (by assumption)).elim
       | exact (us_11a hq_ (by assumption) (by assumption)).elim
       | exact (us_11b hq_ (by assumption) (by assumption)).elim
       | exact (us_10 hq_ (by assumption) (by assumption) (by assumption)).elim
       | exact (us_n hq_ (by assumption) (by assumption) (by assumption) (by assumption) (by assumption) (by assumption)).elim
     ·
      have fo := of_decide_eq_false bx
      refine wp_skip ?_
      refine block_normal ?_
      refine block_normal ?_
      refine then_normal ?_
      refine go_region [0, 1] kz ?_
      refine go_rn [0, 1] [] [(3, .p 0 0), (12, .v (.slice A l.length c)), (13, .v (.int .i64 ((l.length : Nat) : Int))), (14, .v (.int .i64 (IntKind.i64.wrap (((k : Nat) : Int) + 1))))] aa av fun gB dI => ?_
      clear av
      refine wpOps_nil (then_normal ?_)
      obtain ⟨cq, dJ, dK⟩ := aa.cutB dI 1 [⟨bQ, 0, [.int .i64 n1, .slice A6 s2.length c7, .bool b3, .slice A8 l4.length c9, .slice aZ u5.length ba], true⟩] [(3, .p 0 0), (12, .v (.slice A l.length c)), (13, .v (.int .i64 ((l.length : Nat) : Int))), (14, .v (.int .i64 (IntKind.i64.wrap (((k : Nat) : Int) + 1))))]
      have dL : IntKind.i64.wrap (((k : Nat) : Int) + 1) = ((k + 1 : Nat) : Int) := wrap_succ (by omega)
      rw [dL] at cq
      exact ⟨l.length - (k + 1), by omega, k + 1, rfl, by omega, cq.pk, dJ, ((((((ak.trans al).trans am).trans ag).trans ab).trans ac).trans dK)⟩
   ·
    have fq : ae ≠ 8 := by simpa using bu
    refine go_sp [(3, .p 0 0), (6, .p 1 0), (7, .p 2 0), (12, .v (.slice A l.length c)), (13, .v (.int .i64 ((l.length : Nat) : Int))), (14, .v (.int .i64 ((k : Nat) : Int))), (23, .v (.int .i64 ae)), (46, .v (.bool (ae == 7)))] aa ar fun gC aw => ?_
    clear ar
    refine cond_of aw (b := ae == 7) kz (fun bz => ?_) (fun bz => ?_)
    ·
     have fr : ae = 7 := by simpa using bz
     refine go_seq_drawK 5 kz aa fun gD bA dM dN => ?_
     clear aa
     refine go_rnD [0, 1] [(3, .p 0 0), (12, .v (.slice A l.length c)), (13, .v (.int .i64 ((l.length : Nat) : Int))), (14, .v (.int .i64 ((k : Nat) : Int))), (49, .v (.slice aN af.length aO))] 3 (panicFree_then (panicFree_block (panicFree_block (panicFree_then (panicFree_then (panicFree_block (panicFree_then panicFree_body))))))) (fun _ h => h.cells) dN aw fun gE cr => ?_
     clear aw
     refine anyC_op (i := 2) kz (wpOp_make1 dM cr (d := 50) (j := 16) (t := 22) (e := 5) (bytes := 1) (z := .int .u8 0) kz kz kz kz (rfl) (rfl) (by omega) fun e9 gF gG ft fu ax ay cu => ?_)
     clear cr
     have dO := TT.ofW ax ay
     refine ⟨fun _ => dO, ?_⟩
     refine anyC_op (i := 3) kz (wpOp_call cu (f := 14) (vs := [.slice aN af.length aO, .slice (some ⟨e9, 0, none⟩) 16 16]) (d := 51) kz Tryd.call14 (sSame _ _ _ _ af (List.replicate 16 0 : Bs) _ _ ((dF.move (((ab.trans ac).trans bA).trans ax).step immM (((ab.trans ac).trans bA).trans ax).to').move (Step.refl _ Nil) nilM allF) (octs_zero (ay.own 0 _ rfl) (F := fun _ _ => True) (fun _ _ _ => trivial))) ?_)
     rintro e_ gH ⟨rfl, cw⟩
     refine ⟨_, rfl, fun gI cz => ?_⟩
     have az := ay.next_nil cw
     have cA := ay.frN cw
     clear cu ay
     have cB := TT.ofW (ax.trans cA) az
     refine ⟨fun _ => cB, ?_⟩
     refine go_rnD [4] [(3, .p 0 0), (12, .v (.slice A l.length c)), (13, .v (.int .i64 ((l.length : Nat) : Int))), (14, .v (.int .i64 ((k : Nat) : Int))), (52, .v (.bool (!(decide (af = (List.replicate 16 0 : Bs))))))] 0 (panicFree_then (panicFree_block (panicFree_block (panicFree_then (panicFree_then (panicFree_block (panicFree_then panicFree_body))))))) (fun _ h => h.cells) cB cz fun gJ aA => ?_
     clear cz
     refine anyC_done kz ?_ _
     refine then_normal ?_
     refine cond_of aA (b := !(decide (af = (List.replicate 16 0 : Bs)))) kz (fun dP => ?_) (fun dP => ?_)
     ·
      refine go_sp [(4, .v (.bool false))] az aA fun gK dQ => ?_
      clear aA
      refine wp_ret ?_
      refine block_ret ?_
      refine block_ret ?_
      refine then_ret ?_
      refine then_ret ?_
      refine block_ret ?_
      refine then_ret ?_
      refine leave dQ az.cells (v := .bool false) kz ?_
      first
       | exact (us_8a hq_ (by assumption) (by assumption)).elim
       | exact (us_8b hq_ (by assumption) (by assumption)).elim
       | exact (us_7 hq_ (by assumption) (by assumption)).elim
       | exact (us_9a hq_ (by assumption) (by assumption)).elim
       | exact (us_9b hq_ (by assumption) (by assumption)).elim
       | exact (us_11a hq_ (by assumption) (by assumption)).elim
       | exact (us_11b hq_ (by assumption) (by assumption)).elim
       | exact (us_10 hq_ (by assumption) (by assumption) (by assumption)).elim
       | exact (us_n hq_ (by assumption) (by assumption) (by assumption) (by assumption) (by assumption) (by assumption)).elim
     ·
      refine wp_skip ?_
      refine block_normal ?_
      refine block_normal ?_
      refine then_normal ?_
      refine go_region [0, 1] kz ?_
      refine go_rn [0, 1] [] [(3, .p 0 0), (12, .v (.slice A l.length c)), (13, .v (.int .i64 ((l.length : Nat) : Int))), (14, .v (.int .i64 (IntKind.i64.wrap (((k : Nat) : Int) + 1))))] az aA fun gL dR => ?_
      clear aA
      refine wpOps_nil (then_normal ?_)
      obtain ⟨cC, dS, dT⟩ := az.cutB dR 1 [⟨bQ, 0, [.int .i64 n1, .slice A6 s2.length c7, .bool b3, .slice A8 l4.length c9, .slice aZ u5.length ba], true⟩] [(3, .p 0 0), (12, .v (.slice A l.length c)), (13, .v (.int .i64 ((l.length : Nat) : Int))), (14, .v (.int .i64 (IntKind.i64.wrap (((k : Nat) : Int) + 1))))]
      obtain ⟨dU, dV⟩ := dS.cutR 0 []
      have dW : IntKind.i64.wrap (((k : Nat) : Int) + 1) = ((k + 1 : Nat) : Int) := wrap_succ (by omega)
      rw [dW] at cC
      exact ⟨l.length - (k + 1), by omega, k + 1, rfl, by omega, cC.pk, dU, ((((((((((ak.trans al).trans am).trans ag).trans ab).trans ac).trans bA).trans ax).trans cA).trans dT).trans dV)⟩
    ·
     have fv : ae ≠ 7 := by simpa using bz
     refine wp_seq ?_
     refine go_sp [(3, .p 0 0), (6, .p 1 0), (7, .p 2 0), (12, .v (.slice A l.length c)), (13, .v (.int .i64 ((l.length : Nat) : Int))), (14, .v (.int .i64 ((k : Nat) : Int))), (23, .v (.int .i64 ae)), (53, .v (.bool (ae == 9)))] aa aw fun gM aj => ?_
     clear aw
     refine cond_of aj (b := ae == 9) kz (fun aS => ?_) (fun aS => ?_)
     ·
      have fw : ae = 9 := by simpa using aS
      refine wp_skip ?_
      refine then_normal ?_
      refine cond_true aj (b := ae == 9) kz (aS) ?_
      refine go_seq_region [0, 1, 2, 3, 4, 5, 6, 7, 8, 9] kz ?_
      refine go_rn [0, 1, 2, 3, 4] [5, 6, 7, 8, 9] [(3, .p 0 0), (7, .p 2 0), (12, .v (.slice A l.length c)), (13, .v (.int .i64 ((l.length : Nat) : Int))), (14, .v (.int .i64 ((k : Nat) : Int))), (60, .v (.bool (decide (((af.length : Nat) : Int) > 0))))] aa aj fun gN aT => ?_
      clear aj
      refine (Bool.eq_false_or_eq_true (decide (((af.length : Nat) : Int) > 0))).elim (fun aB => ?_) (fun aB => ?_)
      ·
       have fx := of_decide_eq_true aB
       have cD := aT.cast (env' := [(3, .p 0 0), (7, .p 2 0), (12, .v (.slice A l.length c)), (13, .v (.int .i64 ((l.length : Nat) : Int))), (14, .v (.int .i64 ((k : Nat) : Int))), (60, .v (.bool true))]) (by rw [aB])
       clear aT
       refine go_rn [5, 6, 7, 8, 9] [] [(3, .p 0 0), (12, .v (.slice A l.length c)), (13, .v (.int .i64 ((l.length : Nat) : Int))), (14, .v (.int .i64 ((k : Nat) : Int))), (65, .v (.bool true))] aa cD fun gO bB => ?_
       clear cD
       refine wpOps_nil (then_normal ?_)
       refine cond_true bB (b := true) kz rfl ?_
       refine go_sp [(4, .v (.bool false))] aa bB fun gP dX => ?_
       clear bB
       refine wp_ret ?_
       refine block_ret ?_
       refine block_ret ?_
       refine then_ret ?_
       refine then_ret ?_
       refine block_ret ?_
       refine then_ret ?_
       refine leave dX aa.cells (v := .bool false) kz ?_
       first
        | exact (us_8a hq_ (by assumption) (by assumption)).elim
        | exact (us_8b hq_ (by assumption) (by assumption)).elim
        | exact (us_7 hq_ (by assumption) (by assumption)).elim
        | exact (us_9a hq_ (by assumption) (by assumption)).elim
        | exact (us_9b hq_ (by assumption) (by assumption)).elim
        | exact (us_11a hq_ (by assumption) (by assumption)).elim
        | exact (us_11b hq_ (by assumption) (by assumption)).elim
        | exact (us_10 hq_ (by assumption) (by assumption) (by assumption)).elim
        | exact (us_n hq_ (by assumption) (by assumption) (by assumption) (by assumption) (by assumption) (by assumption)).elim
      ·
       have fy := of_decide_eq_false aB
       have cE := aT.cast (env' := [(3, .p 0 0), (7, .p 2 0), (12, .v (.slice A l.length c)), (13, .v (.int .i64 ((l.length : Nat) : Int))), (14, .v (.int .i64 ((k : Nat) : Int))), (60, .v (.bool false))]) (by rw [aB])
       clear aT
       refine go_rn [5, 6, 7, 8, 9] [] [(3, .p 0 0), (12, .v (.slice A l.length c)), (13, .v (.int .i64 ((l.length : Nat) : Int))), (14, .v (.int .i64 ((k : Nat) : Int))), (65, .v (.bool (decide (((ao.length : Nat) : Int) > 0))))] aa cE fun gQ aC => ?_
       clear cE
       refine wpOps_nil (then_normal ?_)
       refine cond_of aC (b := decide (((ao.length : Nat) : Int) > 0)) kz (fun bC => ?_) (fun bC => ?_)
       ·
        have fz := of_decide_eq_true bC
        refine go_sp [(4, .v (.bool false))] aa aC fun gR dY => ?_
        clear aC
        refine wp_ret ?_
        refine block_ret ?_
        refine block_ret ?_
        refine then_ret ?_
        refine then_ret ?_
        refine block_ret ?_
        refine then_ret ?_
        refine leave dY aa.cells (v := .bool false) kz ?_
        first
         | exact (us_8a hq_ (by assumption) (by assumption)).elim
         | exact (us_8b hq_ (by assumption) (by assumption)).elim
         | exact (us_7 hq_ (by assumption) (by assumption)).elim
         | exact (us_9a hq_ (by assumption) (by assumption)).elim
         | exact (us_9b hq_ (by assumption) (by assumption)).elim
         | exact (us_11a hq_ (by assumption) (by assumption)).elim
         | exact (us_11b hq_ (by assumption) (by assumption)).elim
         | exact (us_10 hq_ (by assumption) (by assumption) (by assumption)).elim
         | exact (us_n hq_ (by assumption) (by assumption) (by assumption) (by assumption) (by assumption) (by assumption)).elim
       ·
        have fA := of_decide_eq_false bC
        refine wp_skip ?_
        refine block_normal ?_
        refine block_normal ?_
        refine then_normal ?_
        refine go_region [0, 1] kz ?_
        refine go_rn [0, 1] [] [(3, .p 0 0), (12, .v (.slice A l.length c)), (13, .v (.int .i64 ((l.length : Nat) : Int))), (14, .v (.int .i64 (IntKind.i64.wrap (((k : Nat) : Int) + 1))))] aa aC fun gS dZ => ?_
        clear aC
        refine wpOps_nil (then_normal ?_)
        obtain ⟨cG, d5, d6⟩ := aa.cutB dZ 1 [⟨bQ, 0, [.int .i64 n1, .slice A6 s2.length c7, .bool b3, .slice A8 l4.length c9, .slice aZ u5.length ba], true⟩] [(3, .p 0 0), (12, .v (.slice A l.length c)), (13, .v (.int .i64 ((l.length : Nat) : Int))), (14, .v (.int .i64 (IntKind.i64.wrap (((k : Nat) : Int) + 1))))]
        have d7 : IntKind.i64.wrap (((k : Nat) : Int) + 1) = ((k + 1 : Nat) : Int) := wrap_succ (by omega)
        rw [d7] at cG
        exact ⟨l.length - (k + 1), by omega, k + 1, rfl, by omega, cG.pk, d5, ((((((ak.trans al).trans am).trans ag).trans ab).trans ac).trans d6)⟩
     ·
      have fB : ae ≠ 9 := by simpa using aS
      refine go_region [0, 1] kz ?_
      refine go_rn [0, 1] [] [(3, .p 0 0), (6, .p 1 0), (7, .p 2 0), (12, .v (.slice A l.length c)), (13, .v (.int .i64 ((l.length : Nat) : Int))), (14, .v (.int .i64 ((k : Nat) : Int))), (23, .v (.int .i64 ae)), (53, .v (.bool (ae == 11)))] aa aj fun gT aD => ?_
      clear aj
      refine wpOps_nil (then_normal ?_)
      refine cond_of aD (b := ae == 11) kz (fun bD => ?_) (fun bD => ?_)
      ·
       have fC : ae = 11 := by simpa using bD
       refine go_seq_region [0, 1, 2, 3, 4, 5, 6, 7, 8, 9] kz ?_
       refine go_rn [0, 1, 2, 3, 4] [5, 6, 7, 8, 9] [(3, .p 0 0), (7, .p 2 0), (12, .v (.slice A l.length c)), (13, .v (.int .i64 ((l.length : Nat) : Int))), (14, .v (.int .i64 ((k : Nat) : Int))), (60, .v (.bool (decide (((af.length : Nat) : Int) > 0))))] aa aD fun gU aU => ?_
       clear aD
       refine (Bool.eq_false_or_eq_true (decide (((af.length : Nat) : Int) > 0))).elim (fun aE => ?_) (fun aE => ?_)
       ·
        have fD := of_decide_eq_true aE
        have cH := aU.cast (env' := [(3, .p 0 0), (7, .p 2 0), (12, .v (.slice A l.length c)), (13, .v (.int .i64 ((l.length : Nat) : Int))), (14, .v (.int .i64 ((k : Nat) : Int))), (60, .v (.bool true))]) (by rw [aE])
        clear aU
        refine go_rn [5, 6, 7, 8, 9] [] [(3, .p 0 0), (12, .v (.slice A l.length c)), (13, .v (.int .i64 ((l.length : Nat) : Int))), (14, .v (.int .i64 ((k : Nat) : Int))), (65, .v (.bool true))] aa cH fun gV bE => ?_
        clear cH
        refine wpOps_nil (then_normal ?_)
        refine cond_true bE (b := true) kz rfl ?_
        refine go_sp [(4, .v (.bool false))] aa bE fun gW d8 => ?_
        clear bE
        refine wp_ret ?_
        refine block_ret ?_
        refine block_ret ?_
        refine then_ret ?_
        refine then_ret ?_
        refine block_ret ?_
        refine then_ret ?_
        refine leave d8 aa.cells (v := .bool false) kz ?_
        first
         | exact (us_8a hq_ (by assumption) (by assumption)).elim
         | exact (us_8b hq_ (by assumption) (by assumption)).elim
         | exact (us_7 hq_ (by assumption) (by assumption)).elim
         | exact (us_9a hq_ (by assumption) (by assumption)).elim
         | exact (us_9b hq_ (by assumption) (by assumption)).elim
         | exact (us_11a hq_ (by assumption) (by assumption)).elim
         | exact (us_11b hq_ (by assumption) (by assumption)).elim
         | exact (us_10 hq_ (by assumption) (by assumption) (by assumption)).elim
         | exact (us_n hq_ (by assumption) (by assumption) (by assumption) (by assumption) (by assumption) (by assumption)).elim
       ·
        have fE := of_decide_eq_false aE
        have cI := aU.cast (env' := [(3, .p 0 0), (7, .p 2 0), (12, .v (.slice A l.length c)), (13, .v (.int .i64 ((l.length : Nat) : Int))), (14, .v (.int .i64 ((k : Nat) : Int))), (60, .v (.bool false))]) (by rw [aE])
        clear aU
        refine go_rn [5, 6, 7, 8, 9] [] [(3, .p 0 0), (12, .v (.slice A l.length c)), (13, .v (.int .i64 ((l.length : Nat) : Int))), (14, .v (.int .i64 ((k : Nat) : Int))), (65, .v (.bool (decide (((ao.length : Nat) : Int) > 0))))] aa cI fun gX aF => ?_
        clear cI
        refine wpOps_nil (then_normal ?_)
        refine cond_of aF (b := decide (((ao.length : Nat) : Int) > 0)) kz (fun bF => ?_) (fun bF => ?_)
        ·
         have fF := of_decide_eq_true bF
         refine go_sp [(4, .v (.bool false))] aa aF fun gY d9 => ?_
         clear aF
         refine wp_ret ?_
         refine block_ret ?_
         refine block_ret ?_
         refine then_ret ?_
         refine then_ret ?_
         refine block_ret ?_
         refine then_ret ?_
         refine leave d9 aa.cells (v := .bool false) kz ?_
         first
          | exact (us_8a hq_ (by assumption) (by assumption)).elim
          | exact (us_8b hq_ (by assumption) (by assumption)).elim
          | exact (us_7 hq_ (by assumption) (by assumption)).elim
          | exact (us_9a hq_ (by assumption) (by assumption)).elim
          | exact (us_9b hq_ (by assumption) (by assumption)).elim
          | exact (us_11a hq_ (by assumption) (by assumption)).elim
          | exact (us_11b hq_ (by assumption) (by assumption)).elim
          | exact (us_10 hq_ (by assumption) (by assumption) (by assumption)).elim
          | exact (us_n hq_ (by assumption) (by assumption) (by assumption) (by assumption) (by assumption) (by assumption)).elim
        ·
         have fG := of_decide_eq_false bF
         refine wp_skip ?_
         refine block_normal ?_
         refine block_normal ?_
         refine then_normal ?_
         refine go_region [0, 1] kz ?_
         refine go_rn [0, 1] [] [(3, .p 0 0), (12, .v (.slice A l.length c)), (13, .v (.int .i64 ((l.length : Nat) : Int))), (14, .v (.int .i64 (IntKind.i64.wrap (((k : Nat) : Int) + 1))))] aa aF fun gZ ea => ?_
         clear aF
         refine wpOps_nil (then_normal ?_)
         obtain ⟨cJ, eb, ec⟩ := aa.cutB ea 1 [⟨bQ, 0, [.int .i64 n1, .slice A6 s2.length c7, .bool b3, .slice A8 l4.length c9, .slice aZ u5.length ba], true⟩] [(3, .p 0 0), (12, .v (.slice A l.length c)), (13, .v (.int .i64 ((l.length : Nat) : Int))), (14, .v (.int .i64 (IntKind.i64.wrap (((k : Nat) : Int) + 1))))]
         have ee : IntKind.i64.wrap (((k : Nat) : Int) + 1) = ((k + 1 : Nat) : Int) := wrap_succ (by omega)
         rw [ee] at cJ
         exact ⟨l.length - (k + 1), by omega, k + 1, rfl, by omega, cJ.pk, eb, ((((((ak.trans al).trans am).trans ag).trans ab).trans ac).trans ec)⟩
      ·
       have fH : ae ≠ 11 := by simpa using bD
       refine go_sp [(3, .p 0 0), (6, .p 1 0), (7, .p 2 0), (12, .v (.slice A l.length c)), (13, .v (.int .i64 ((l.length : Nat) : Int))), (14, .v (.int .i64 ((k : Nat) : Int))), (66, .v (.bool (ae == 10)))] aa aD fun g6 aG => ?_
       clear aD
       refine cond_of aG (b := ae == 10) kz (fun bG => ?_) (fun bG => ?_)
       ·
        have fI : ae = 10 := by simpa using bG
        refine go_seq_region [0, 1, 2, 3, 4, 5, 6, 7, 8, 9, 10, 11, 12, 13, 14, 15, 16, 17, 18, 19] kz ?_
        refine go_rn [0, 1, 2, 3] [4, 5, 6, 7, 8, 9, 10, 11, 12, 13, 14, 15, 16, 17, 18, 19] [(3, .p 0 0), (6, .p 1 0), (7, .p 2 0), (12, .v (.slice A l.length c)), (13, .v (.int .i64 ((l.length : Nat) : Int))), (14, .v (.int .i64 ((k : Nat) : Int))), (71, .v (.bool (decide (aP ≥ 0))))] aa aG fun g7 aV => ?_
        clear aG
        refine (Bool.eq_false_or_eq_true (decide (aP ≥ 0))).elim (fun aH => ?_) (fun aH => ?_)
        ·
         have fJ := of_decide_eq_true aH
         have cK := aV.cast (env' := [(3, .p 0 0), (6, .p 1 0), (7, .p 2 0), (12, .v (.slice A l.length c)), (13, .v (.int .i64 ((l.length : Nat) : Int))), (14, .v (.int .i64 ((k : Nat) : Int))), (71, .v (.bool true))]) (by rw [aH])
         clear aV
         refine go_rn [4, 5, 6, 7, 8] [9, 10, 11, 12, 13, 14, 15, 16, 17, 18, 19] [(3, .p 0 0), (6, .p 1 0), (7, .p 2 0), (12, .v (.slice A l.length c)), (13, .v (.int .i64 ((l.length : Nat) : Int))), (14, .v (.int .i64 ((k : Nat) : Int))), (76, .v (.bool (!ah)))] aa cK fun g8 aW => ?_
         clear cK
         refine (Bool.eq_false_or_eq_true (!ah)).elim (fun bH => ?_) (fun bH => ?_)
         ·
          have cL := aW.cast (env' := [(3, .p 0 0), (6, .p 1 0), (7, .p 2 0), (12, .v (.slice A l.length c)), (13, .v (.int .i64 ((l.length : Nat) : Int))), (14, .v (.int .i64 ((k : Nat) : Int))), (76, .v (.bool true))]) (by rw [bH])
          clear aW
          refine go_rn [9, 10, 11, 12, 13, 14, 15, 16, 17, 18, 19] [] [(3, .p 0 0), (12, .v (.slice A l.length c)), (13, .v (.int .i64 ((l.length : Nat) : Int))), (14, .v (.int .i64 ((k : Nat) : Int))), (87, .v (.bool true))] aa cL fun g9 bI => ?_
          clear cL
          refine wpOps_nil (then_normal ?_)
          refine cond_true bI (b := true) kz rfl ?_
          refine go_sp [(4, .v (.bool false))] aa bI fun hC ef => ?_
          clear bI
          refine wp_ret ?_
          refine block_ret ?_
          refine block_ret ?_
          refine then_ret ?_
          refine then_ret ?_
          refine block_ret ?_
          refine then_ret ?_
          refine leave ef aa.cells (v := .bool false) kz ?_
          first
           | exact (us_8a hq_ (by assumption) (by assumption)).elim
           | exact (us_8b hq_ (by assumption) (by assumption)).elim
           | exact (us_7 hq_ (by assumption) (by assumption)).elim
           | exact (us_9a hq_ (by assumption) (by assumption)).elim
           | exact (us_9b hq_ (by assumption) (by assumption)).elim
           | exact (us_11a hq_ (by assumption) (by assumption)).elim
           | exact (us_11b hq_ (by assumption) (by assumption)).elim
           | exact (us_10 hq_ (by assumption) (by assumption) (by assumption)).elim
           | exact (us_n hq_ (by assumption) (by assumption) (by assumption) (by assumption) (by assumption) (by assumption)).elim
         ·
          have cM := aW.cast (env' := [(3, .p 0 0), (6, .p 1 0), (7, .p 2 0), (12, .v (.slice A l.length c)), (13, .v (.int .i64 ((l.length : Nat) : Int))), (14, .v (.int .i64 ((k : Nat) : Int))), (76, .v (.bool false))]) (by rw [bH])
          clear aW
          refine go_rn [9, 10, 11, 12] [13, 14, 15, 16, 17, 18, 19] [(3, .p 0 0), (6, .p 1 0), (7, .p 2 0), (12, .v (.slice A l.length c)), (13, .v (.int .i64 ((l.length : Nat) : Int))), (14, .v (.int .i64 ((k : Nat) : Int))), (76, .v (.bool false)), (80, .v (.bool (decide (aP < 0))))] aa cM fun hJ aX => ?_
          clear cM
          refine (Bool.eq_false_or_eq_true (decide (aP < 0))).elim (fun aI => ?_) (fun aI => ?_)
          ·
           have fK := of_decide_eq_true aI
           have cN := aX.cast (env' := [(3, .p 0 0), (6, .p 1 0), (7, .p 2 0), (12, .v (.slice A l.length c)), (13, .v (.int .i64 ((l.length : Nat) : Int))), (14, .v (.int .i64 ((k : Nat) : Int))), (76, .v (.bool false)), (80, .v (.bool true))]) (by rw [aI])
           clear aX
           refine go_rn [13, 14, 15] [16, 17, 18, 19] [(3, .p 0 0), (12, .v (.slice A l.length c)), (13, .v (.int .i64 ((l.length : Nat) : Int))), (14, .v (.int .i64 ((k : Nat) : Int))), (76, .v (.bool false)), (80, .v (.bool true)), (82, .v (.slice bT bR.length bU)), (83, .v (.agg #[.int .i64 ai, .slice aN af.length aO, .bool ah, .slice bk ao.length bn, .slice bo bj.length bp]))] aa cN fun hK cO => ?_
           clear cN
           refine of_op (wpOp_call cO (f := 46) (vs := [.slice bT bR.length bU, .agg #[.int .i64 ai, .slice aN af.length aO, .bool ah, .slice bk ao.length bn, .slice bo bj.length bp]]) (d := 84) kz Tryd.call46 ( hu _ _ bR _ _ _ _ ⟨dy, (eV.move aa.step nilM aa.imm), (fun i_ x_ h_ => ((fe i_ x_ h_).move aa.step nilM aa.imm))⟩ (aQ.move (ab.trans ac).step immM (ab.trans ac).to') (by rw [bq]; exact us_sub hq_ (by assumption) (by assumption))) ?_)
           rintro e_ hZ ⟨rfl, cP⟩
           refine ⟨_, rfl, fun ia cQ => ?_⟩
           have bJ := aa.next_nil cP
           have eg := aa.frN cP
           clear cO aa
           refine go_rn [17, 18, 19] [] [(3, .p 0 0), (12, .v (.slice A l.length c)), (13, .v (.int .i64 ((l.length : Nat) : Int))), (14, .v (.int .i64 ((k : Nat) : Int))), (87, .v (.bool false))] bJ cQ fun ib bK => ?_
           clear cQ
           refine wpOps_nil (then_normal ?_)
           refine cond_false bK (b := false) kz rfl ?_
           refine wp_skip ?_
           refine block_normal ?_
           refine block_normal ?_
           refine then_normal ?_
           refine go_region [0, 1] kz ?_
           refine go_rn [0, 1] [] [(3, .p 0 0), (12, .v (.slice A l.length c)), (13, .v (.int .i64 ((l.length : Nat) : Int))), (14, .v (.int .i64 (IntKind.i64.wrap (((k : Nat) : Int) + 1))))] bJ bK fun ic eh => ?_
           clear bK
           refine wpOps_nil (then_normal ?_)
           obtain ⟨cR, ei, ej⟩ := bJ.cutB eh 1 [⟨bQ, 0, [.int .i64 n1, .slice A6 s2.length c7, .bool b3, .slice A8 l4.length c9, .slice aZ u5.length ba], true⟩] [(3, .p 0 0), (12, .v (.slice A l.length c)), (13, .v (.int .i64 ((l.length : Nat) : Int))), (14, .v (.int .i64 (IntKind.i64.wrap (((k : Nat) : Int) + 1))))]
           have ek : IntKind.i64.wrap (((k : Nat) : Int) + 1) = ((k + 1 : Nat) : Int) := wrap_succ (by omega)
           rw [ek] at cR
           exact ⟨l.length - (k + 1), by omega, k + 1, rfl, by omega, cR.pk, ei, (((((((ak.trans al).trans am).trans ag).trans ab).trans ac).trans eg).trans ej)⟩
          ·
           have fL := of_decide_eq_false aI
           have cS := aX.cast (env' := [(3, .p 0 0), (6, .p 1 0), (7, .p 2 0), (12, .v (.slice A l.length c)), (13, .v (.int .i64 ((l.length : Nat) : Int))), (14, .v (.int .i64 ((k : Nat) : Int))), (76, .v (.bool false)), (80, .v (.bool false))]) (by rw [aI])
           clear aX
           refine go_rn [13, 14, 15, 16, 17, 18, 19] [] [(3, .p 0 0), (12, .v (.slice A l.length c)), (13, .v (.int .i64 ((l.length : Nat) : Int))), (14, .v (.int .i64 ((k : Nat) : Int))), (87, .v (.bool false))] aa cS fun ig bL => ?_
           clear cS
           refine wpOps_nil (then_normal ?_)
           refine cond_false bL (b := false) kz rfl ?_
           refine wp_skip ?_
           refine block_normal ?_
           refine block_normal ?_
           refine then_normal ?_
           refine go_region [0, 1] kz ?_
           refine go_rn [0, 1] [] [(3, .p 0 0), (12, .v (.slice A l.length c)), (13, .v (.int .i64 ((l.length : Nat) : Int))), (14, .v (.int .i64 (IntKind.i64.wrap (((k : Nat) : Int) + 1))))] aa bL fun ii em => ?_
           clear bL
           refine wpOps_nil (then_normal ?_)
           obtain ⟨cT, eo, ep⟩ := aa.cutB em 1 [⟨bQ, 0, [.int .i64 n1, .slice A6 s2.length c7, .bool b3, .slice A8 l4.length c9, .slice aZ u5.length ba], true⟩] [(3, .p 0 0), (12, .v (.slice A l.length c)), (13, .v (.int .i64 ((l.length : Nat) : Int))), (14, .v (.int .i64 (IntKind.i64.wrap (((k : Nat) : Int) + 1))))]
           have eu : IntKind.i64.wrap (((k : Nat) : Int) + 1) = ((k + 1 : Nat) : Int) := wrap_succ (by omega)
           rw [eu] at cT
           exact ⟨l.length - (k + 1), by omega, k + 1, rfl, by omega, cT.pk, eo, ((((((ak.trans al).trans am).trans ag).trans ab).trans ac).trans ep)⟩
        ·
         have fM := of_decide_eq_false aH
         have cU := aV.cast (env' := [(3, .p 0 0), (6, .p 1 0), (7, .p 2 0), (12, .v (.slice A l.length c)), (13, .v (.int .i64 ((l.length : Nat) : Int))), (14, .v (.int .i64 ((k : Nat) : Int))), (71, .v (.bool false))]) (by rw [aH])
         clear aV
         refine go_rn [4, 5, 6, 7, 8, 9, 10, 11, 12] [13, 14, 15, 16, 17, 18, 19] [(3, .p 0 0), (6, .p 1 0), (7, .p 2 0), (12, .v (.slice A l.length c)), (13, .v (.int .i64 ((l.length : Nat) : Int))), (14, .v (.int .i64 ((k : Nat) : Int))), (76, .v (.bool false)), (80, .v (.bool (decide (aP < 0))))] aa cU fun ij aY => ?_
         clear cU
         refine (Bool.eq_false_or_eq_true (decide (aP < 0))).elim (fun aJ => ?_) (fun aJ => ?_)
         ·
          have fN := of_decide_eq_true aJ
          have cV := aY.cast (env' := [(3, .p 0 0), (6, .p 1 0), (7, .p 2 0), (12, .v (.slice A l.length c)), (13, .v (.int .i64 ((l.length : Nat) : Int))), (14, .v (.int .i64 ((k : Nat) : Int))), (76, .v (.bool false)), (80, .v (.bool true))]) (by rw [aJ])
          clear aY
          refine go_rn [13, 14, 15] [16, 17, 18, 19] [(3, .p 0 0), (12, .v (.slice A l.length c)), (13, .v (.int .i64 ((l.length : Nat) : Int))), (14, .v (.int .i64 ((k : Nat) : Int))), (76, .v (.bool false)), (80, .v (.bool true)), (82, .v (.slice bT bR.length bU)), (83, .v (.agg #[.int .i64 ai, .slice aN af.length aO, .bool ah, .slice bk ao.length bn, .slice bo bj.length bp]))] aa cV fun ik cW => ?_
          clear cV
          refine of_op (wpOp_call cW (f := 46) (vs := [.slice bT bR.length bU, .agg #[.int .i64 ai, .slice aN af.length aO, .bool ah, .slice bk ao.length bn, .slice bo bj.length bp]]) (d := 84) kz Tryd.call46 ( hu _ _ bR _ _ _ _ ⟨dy, (eV.move aa.step nilM aa.imm), (fun i_ x_ h_ => ((fe i_ x_ h_).move aa.step nilM aa.imm))⟩ (aQ.move (ab.trans ac).step immM (ab.trans ac).to') (by rw [bq]; exact us_sub hq_ (by assumption) (by assumption))) ?_)
          rintro e_ il ⟨rfl, cX⟩
          refine ⟨_, rfl, fun im cY => ?_⟩
          have bM := aa.next_nil cX
          have ev := aa.frN cX
          clear cW aa
          refine go_rn [17, 18, 19] [] [(3, .p 0 0), (12, .v (.slice A l.length c)), (13, .v (.int .i64 ((l.length : Nat) : Int))), (14, .v (.int .i64 ((k : Nat) : Int))), (87, .v (.bool false))] bM cY fun io bN => ?_
          clear cY
          refine wpOps_nil (then_normal ?_)
          refine cond_false bN (b := false) kz rfl ?_
          refine wp_skip ?_
          refine block_normal ?_
          refine block_normal ?_
          refine then_normal ?_
          refine go_region [0, 1] kz ?_
          refine go_rn [0, 1] [] [(3, .p 0 0), (12, .v (.slice A l.length c)), (13, .v (.int .i64 ((l.length : Nat) : Int))), (14, .v (.int .i64 (IntKind.i64.wrap (((k : Nat) : Int) + 1))))] bM bN fun ip ew => ?_
          clear bN
          refine wpOps_nil (then_normal ?_)
          obtain ⟨cZ, ey, ez⟩ := bM.cutB ew 1 [⟨bQ, 0, [.int .i64 n1, .slice A6 s2.length c7, .bool b3, .slice A8 l4.length c9, .slice aZ u5.length ba], true⟩] [(3, .p 0 0), (12, .v (.slice A l.length c)), (13, .v (.int .i64 ((l.length : Nat) : Int))), (14, .v (.int .i64 (IntKind.i64.wrap (((k : Nat) : Int) + 1))))]
          have eB : IntKind.i64.wrap (((k : Nat) : Int) + 1) = ((k + 1 : Nat) : Int) := wrap_succ (by omega)
          rw [eB] at cZ
          exact ⟨l.length - (k + 1), by omega, k + 1, rfl, by omega, cZ.pk, ey, (((((((ak.trans al).trans am).trans ag).trans ab).trans ac).trans ev).trans ez)⟩
         ·
          have fO := of_decide_eq_false aJ
          have c5 := aY.cast (env' := [(3, .p 0 0), (6, .p 1 0), (7, .p 2 0), (12, .v (.slice A l.length c)), (13, .v (.int .i64 ((l.length : Nat) : Int))), (14, .v (.int .i64 ((k : Nat) : Int))), (76, .v (.bool false)), (80, .v (.bool false))]) (by rw [aJ])
          clear aY
          refine go_rn [13, 14, 15, 16, 17, 18, 19] [] [(3, .p 0 0), (12, .v (.slice A l.length c)), (13, .v (.int .i64 ((l.length : Nat) : Int))), (14, .v (.int .i64 ((k : Nat) : Int))), (87, .v (.bool false))] aa c5 fun iq bO => ?_
          clear c5
          refine wpOps_nil (then_normal ?_)
          refine cond_false bO (b := false) kz rfl ?_
          refine wp_skip ?_
          refine block_normal ?_
          refine block_normal ?_
          refine then_normal ?_
          refine go_region [0, 1] kz ?_
          refine go_rn [0, 1] [] [(3, .p 0 0), (12, .v (.slice A l.length c)), (13, .v (.int .i64 ((l.length : Nat) : Int))), (14, .v (.int .i64 (IntKind.i64.wrap (((k : Nat) : Int) + 1))))] aa bO fun ir eC => ?_
          clear bO
          refine wpOps_nil (then_normal ?_)
          obtain ⟨da, eD, eE⟩ := aa.cutB eC 1 [⟨bQ, 0, [.int .i64 n1, .slice A6 s2.length c7, .bool b3, .slice A8 l4.length c9, .slice aZ u5.length ba], true⟩] [(3, .p 0 0), (12, .v (.slice A l.length c)), (13, .v (.int .i64 ((l.length : Nat) : Int))), (14, .v (.int .i64 (IntKind.i64.wrap (((k : Nat) : Int) + 1))))]
          have eF : IntKind.i64.wrap (((k : Nat) : Int) + 1) = ((k + 1 : Nat) : Int) := wrap_succ (by omega)
          rw [eF] at da
          exact ⟨l.length - (k + 1), by omega, k + 1, rfl, by omega, da.pk, eD, ((((((ak.trans al).trans am).trans ag).trans ab).trans ac).trans eE)⟩
       ·
        have fP : ae ≠ 10 := by simpa using bG
        refine go_seq_drawK 8 kz aa fun iu eG db eH => ?_
        clear aa
        refine go_rnD [0, 1, 2, 3, 4, 5] [(3, .p 0 0), (12, .v (.slice A l.length c)), (13, .v (.int .i64 ((l.length : Nat) : Int))), (14, .v (.int .i64 ((k : Nat) : Int))), (25, .v (.int .i64 ai)), (27, .v (.int .i64 ae)), (29, .v (.int .i64 bh))] 2 (panicFree_then (panicFree_block (panicFree_block (panicFree_then (panicFree_then (panicFree_block (panicFree_then panicFree_body))))))) (fun _ h => h.cells) eH aG fun iv dc => ?_
        clear aG
        refine anyC_op (i := 6) kz (wpOp_call dc (f := 78) (vs := [.int .i64 ae, .int .i64 bh]) (d := 30) kz Tryd.call78 (sNumber ae bh _) ?_)
        rintro e_ iw ⟨rfl, de⟩
        refine ⟨_, rfl, fun ix df => ?_⟩
        have aK := db.next_nil de
        have dg := db.frN de
        clear dc
        have dh := TT.ofW dg aK
        refine ⟨fun _ => dh, ?_⟩
        refine go_rnD [7] [(3, .p 0 0), (12, .v (.slice A l.length c)), (13, .v (.int .i64 ((l.length : Nat) : Int))), (14, .v (.int .i64 ((k : Nat) : Int))), (31, .v (.bool (ai != (numberI ae bh))))] 0 (panicFree_then (panicFree_block (panicFree_block (panicFree_then (panicFree_then (panicFree_block (panicFree_then panicFree_body))))))) (fun _ h => h.cells) dh df fun iy aL => ?_
        clear df
        refine anyC_done kz ?_ _
        refine then_normal ?_
        refine cond_of aL (b := ai != (numberI ae bh)) kz (fun bP => ?_) (fun bP => ?_)
        ·
         have fQ : ai ≠ (numberI ae bh) := by simpa using bP
         refine go_sp [(4, .v (.bool false))] aK aL fun iz eI => ?_
         clear aL
         refine wp_ret ?_
         refine block_ret ?_
         refine block_ret ?_
         refine then_ret ?_
         refine then_ret ?_
         refine block_ret ?_
         refine then_ret ?_
         refine leave eI aK.cells (v := .bool false) kz ?_
         first
          | exact (us_8a hq_ (by assumption) (by assumption)).elim
          | exact (us_8b hq_ (by assumption) (by assumption)).elim
          | exact (us_7 hq_ (by assumption) (by assumption)).elim
          | exact (us_9a hq_ (by assumption) (by assumption)).elim
          | exact (us_9b hq_ (by assumption) (by assumption)).elim
          | exact (us_11a hq_ (by assumption) (by assumption)).elim
          | exact (us_11b hq_ (by assumption) (by assumption)).elim
          | exact (us_10 hq_ (by assumption) (by assumption) (by assumption)).elim
          | exact (us_n hq_ (by assumption) (by assumption) (by assumption) (by assumption) (by assumption) (by assumption)).elim
        ·
         have fR : ai = (numberI ae bh) := by simpa using bP
         refine wp_skip ?_
         refine block_normal ?_
         refine block_normal ?_
         refine then_normal ?_
         refine go_region [0, 1] kz ?_
         refine go_rn [0, 1] [] [(3, .p 0 0), (12, .v (.slice A l.length c)), (13, .v (.int .i64 ((l.length : Nat) : Int))), (14, .v (.int .i64 (IntKind.i64.wrap (((k : Nat) : Int) + 1))))] aK aL fun iA eJ => ?_
         clear aL
         refine wpOps_nil (then_normal ?_)
         obtain ⟨di, eK, eL⟩ := aK.cutB eJ 1 [⟨bQ, 0, [.int .i64 n1, .slice A6 s2.length c7, .bool b3, .slice A8 l4.length c9, .slice aZ u5.length ba], true⟩] [(3, .p 0 0), (12, .v (.slice A l.length c)), (13, .v (.int .i64 ((l.length : Nat) : Int))), (14, .v (.int .i64 (IntKind.i64.wrap (((k : Nat) : Int) + 1))))]
         have eM : IntKind.i64.wrap (((k : Nat) : Int) + 1) = ((k + 1 : Nat) : Int) := wrap_succ (by omega)
         rw [eM] at di
         exact ⟨l.length - (k + 1), by omega, k + 1, rfl, by omega, di.pk, eK, ((((((((ak.trans al).trans am).trans ag).trans ab).trans ac).trans eG).trans dg).trans eL)⟩
  ·
   have fS := of_decide_eq_false dl
   refine wp_exit ?_
   refine then_exit ?_
   refine then_exit ?_
   refine block_exit ?_
   refine then_normal ?_
   refine go_sp [(4, .v (.bool true))] ap bg fun iB eN => ?_
   clear bg
   refine wp_ret ?_
   refine leave eN ap.cells (v := .bool true) kz ?_
   exact ⟨rfl, ap.step⟩
theorem sUsualP : ∀ d, UsOK (UsualP d)
 | 0 => sUs fun _ _ _ _ _ _ _ _ _ h => h.elim
 | d + 1 => sUs (sUsualP d)
def ToOK (v : Int) (flex : Bool) (T : List Fld → Tree → Tree → Prop) : Prop := ∀ (A : Option Addr) (c : Nat) (l : List Fld) (ct : List Value) (t : Tree) (cg : List Value) (g : Tree) (w : World) (F : Nat → Nat → Prop), FldsR w F A c l → TreeR w F ct t → TreeR w F cg g → plains l → T l t g →
  Calls Tryd.prog 18 #[.slice A l.length c, .int .i64 v, .bool flex, .agg ct.toArray, .agg cg.toArray] w (Gives w (.bool true))
theorem sTold0 {v : Int} {flex : Bool} {T : List Fld → Tree → Tree → Prop} (hT : ToOK v flex T) (cf : List Value) (f : Fld) (ct : List Value) (t : Tree) (cg : List Value) (g : Tree) (w : World) (F : Nat → Nat → Prop) (hf : FldR w F cf f) (hpl : plains f.sub) (bY : f.kind ≠ 11) (ht : TreeR w F ct t) (hg : TreeR w F cg g) (hq : ToF0 T v f t g) :
  Calls Tryd.prog 45 #[.agg cf.toArray, .int .i64 v, .bool flex, .agg ct.toArray, .agg cg.toArray] w (Gives w (.bool true)) := by
 obtain ⟨k1, y2, y3, y4, y5, y6, y7, l8, A9, fY, gb, rfl, rfl, iT, i7⟩ := hf.open_
 have ja := iT.small
 obtain ⟨ac, ab, ae, af, ag, ai, aj, fZ, f5, f7, f8, kJ, rfl, rfl, aM, kK, oP, oQ⟩ := ht.open_
 have jb := aM.small
 have jc := kK.small
 obtain ⟨aS, ah, ap, f9, ga, al, am, gc, gd, ge, gg, kL, rfl, rfl, bX, kM, oR, oS⟩ := hg.open_
 have jd := bX.small
 have je := kM.small
 replace hpl : plains l8 := hpl
 have bY : k1 ≠ 11 := bY
 refine enter (n := 124) Tryd.func45 rfl Tryd.ntmps45 kz fun a hE => ?_
 have hW := WOk.start w Nil
 refine go_seq_region [0, 1, 2, 3] kz ?_
 refine of_op (wpOp_box hW hE (d := 5) (cs := [.int .i64 k1, .int .i64 y2, .int .i64 y3, .int .i64 y4, .int .i64 y5, .int .i64 y6, .int .i64 y7, .slice A9 l8.length fY]) kz fun oT oU oV kN kO kP gh gi => ?_)
 clear hE hW
 refine of_op (wpOp_box gh gi (d := 8) (cs := [.int .i64 ac, .slice ai ab.length aj, .bool ae, .slice fZ af.length f5, .slice f7 ag.length f8]) kz fun oW oX oY kQ kR kS gj gk => ?_)
 clear gi gh
 refine of_op (wpOp_box gj gk (d := 9) (cs := [.int .i64 aS, .slice al ah.length am, .bool ap, .slice gc f9.length gd, .slice ge ga.length gg]) kz fun oZ o5 o6 kT kU kV bZ gl => ?_)
 clear gk gj
 refine go_rn [3] [] [(1, .v (.int .i64 v)), (2, .v (.bool flex)), (5, .p 0 0), (8, .p 1 0), (9, .p 2 0)] bZ gl fun o7 gm => ?_
 clear gl
 refine wpOps_nil (then_normal ?_)
 refine go_seq_region [0, 1, 2, 3, 4] kz ?_
 refine go_rn [0, 1, 2] [3, 4] [(1, .v (.int .i64 v)), (2, .v (.bool flex)), (5, .p 0 0), (8, .p 1 0), (9, .p 2 0), (17, .v (.agg #[.int .i64 k1, .int .i64 y2, .int .i64 y3, .int .i64 y4, .int .i64 y5, .int .i64 y6, .int .i64 y7, .slice A9 l8.length fY])), (18, .v (.int .i64 v)), (19, .v (.agg #[.int .i64 ac, .slice ai ab.length aj, .bool ae, .slice fZ af.length f5, .slice f7 ag.length f8]))] bZ gm fun o9 gn => ?_
 clear gm
 refine of_op (wpOp_call gn (f := 76) (vs := [.agg #[.int .i64 k1, .int .i64 y2, .int .i64 y3, .int .i64 y4, .int .i64 y5, .int .i64 y6, .int .i64 y7, .slice A9 l8.length fY], .int .i64 v, .agg #[.int .i64 ac, .slice ai ab.length aj, .bool ae, .slice fZ af.length f5, .slice f7 ag.length f8]]) (d := 20) kz Tryd.call76 (sNull k1 y2 y3 y4 y5 y6 y7 l8 _ _ v ac ab ae af ag _ _ _ _ _ _ _) ?_)
 rintro e_ pa ⟨rfl, gp⟩
 refine ⟨_, rfl, fun pb gq => ?_⟩
 have aa := bZ.next_nil gp
 have kW := bZ.frN gp
 clear gn bZ
 refine go_rn [4] [] [(1, .v (.int .i64 v)), (2, .v (.bool flex)), (5, .p 0 0), (8, .p 1 0), (9, .p 2 0), (11, .v (.bool (Fld.nul (Fld.mk k1 y2 y3 y4 y5 y6 y7 l8) v (Tree.mk ac ab ae af ag))))] aa gq fun pc gt => ?_
 clear gq
 refine wpOps_nil (then_normal ?_)
 refine go_seq_region [0, 1, 2, 3, 4, 5, 6, 7, 8, 9] kz ?_
 refine go_rn [0, 1, 2, 3] [4, 5, 6, 7, 8, 9] [(1, .v (.int .i64 v)), (2, .v (.bool flex)), (5, .p 0 0), (8, .p 1 0), (9, .p 2 0), (11, .v (.bool (Fld.nul (Fld.mk k1 y2 y3 y4 y5 y6 y7 l8) v (Tree.mk ac ab ae af ag)))), (24, .v (.bool (decide (y4 ≥ 0))))] aa gt fun pd de => ?_
 clear gt
 refine (Bool.eq_false_or_eq_true (decide (y4 ≥ 0))).elim (fun b8 => ?_) (fun b8 => ?_)
 ·
  have kX := of_decide_eq_true b8
  have gv := de.cast (env' := [(1, .v (.int .i64 v)), (2, .v (.bool flex)), (5, .p 0 0), (8, .p 1 0), (9, .p 2 0), (11, .v (.bool (Fld.nul (Fld.mk k1 y2 y3 y4 y5 y6 y7 l8) v (Tree.mk ac ab ae af ag)))), (24, .v (.bool true))]) (by rw [b8])
  clear de
  refine go_rn [4, 5, 6, 7, 8, 9] [] [(1, .v (.int .i64 v)), (2, .v (.bool flex)), (5, .p 0 0), (8, .p 1 0), (9, .p 2 0), (11, .v (.bool (Fld.nul (Fld.mk k1 y2 y3 y4 y5 y6 y7 l8) v (Tree.mk ac ab ae af ag)))), (12, .v (.bool (decide (v ≥ y4))))] aa gv fun pe gw => ?_
  clear gv
  refine wpOps_nil (then_normal ?_)
  refine wp_seq ?_
  refine go_seq_region [0, 1, 2, 3, 4, 5, 6, 7, 8, 9, 10, 11, 12, 13, 14, 15, 16] kz ?_
  refine go_rn [0, 1, 2, 3] [4, 5, 6, 7, 8, 9, 10, 11, 12, 13, 14, 15, 16] [(1, .v (.int .i64 v)), (2, .v (.bool flex)), (5, .p 0 0), (8, .p 1 0), (9, .p 2 0), (11, .v (.bool (Fld.nul (Fld.mk k1 y2 y3 y4 y5 y6 y7 l8) v (Tree.mk ac ab ae af ag)))), (12, .v (.bool (decide (v ≥ y4)))), (33, .v (.bool (k1 == 8)))] aa gw fun pf bz => ?_
  clear gw
  refine (Bool.eq_false_or_eq_true (k1 == 8)).elim (fun ak => ?_) (fun ak => ?_)
  ·
   have jf : k1 = 8 := by simpa using ak
   have df := bz.cast (env' := [(1, .v (.int .i64 v)), (2, .v (.bool flex)), (5, .p 0 0), (8, .p 1 0), (9, .p 2 0), (11, .v (.bool (Fld.nul (Fld.mk k1 y2 y3 y4 y5 y6 y7 l8) v (Tree.mk ac ab ae af ag)))), (12, .v (.bool (decide (v ≥ y4)))), (33, .v (.bool true))]) (by rw [ak])
   clear bz
   refine go_rn [4, 5, 6, 7, 8, 9, 10, 11, 12, 13, 14, 15, 16] [] [(1, .v (.int .i64 v)), (2, .v (.bool flex)), (5, .p 0 0), (8, .p 1 0), (9, .p 2 0), (11, .v (.bool (Fld.nul (Fld.mk k1 y2 y3 y4 y5 y6 y7 l8) v (Tree.mk ac ab ae af ag)))), (46, .v (.bool (!(ap == (Fld.nul (Fld.mk k1 y2 y3 y4 y5 y6 y7 l8) v (Tree.mk ac ab ae af ag))))))] aa df fun kY aT => ?_
   clear df
   refine wpOps_nil (then_normal ?_)
   refine cond_of aT (b := !(ap == (Fld.nul (Fld.mk k1 y2 y3 y4 y5 y6 y7 l8) v (Tree.mk ac ab ae af ag)))) kz (fun cd => ?_) (fun cd => ?_)
   ·
    have jg : !(ap = (Fld.nul (Fld.mk k1 y2 y3 y4 y5 y6 y7 l8) v (Tree.mk ac ab ae af ag))) := by simpa using cd
    refine go_sp [(10, .v (.bool false))] aa aT fun kZ gx => ?_
    clear aT
    refine wp_ret ?_
    refine then_ret ?_
    refine leave gx aa.cells (v := .bool false) kz ?_
    first
     | exact (to_n8 hq (by assumption) (by assumption)).elim
     | exact (to_n10 hq (by assumption) (by assumption)).elim
     | exact (to_nm hq (by assumption) (by assumption) (by assumption)).elim
   ·
    have jh : !(ap ≠ (Fld.nul (Fld.mk k1 y2 y3 y4 y5 y6 y7 l8) v (Tree.mk ac ab ae af ag))) := by simpa using cd
    refine wp_skip ?_
    refine then_normal ?_
    refine wp_seq ?_
    refine go_sp [(1, .v (.int .i64 v)), (2, .v (.bool flex)), (5, .p 0 0), (8, .p 1 0), (9, .p 2 0), (47, .v (.bool (Fld.nul (Fld.mk k1 y2 y3 y4 y5 y6 y7 l8) v (Tree.mk ac ab ae af ag))))] aa aT fun k5 aU => ?_
    clear aT
    refine cond_of aU (b := Fld.nul (Fld.mk k1 y2 y3 y4 y5 y6 y7 l8) v (Tree.mk ac ab ae af ag)) kz (fun gy => ?_) (fun gy => ?_)
    ·
     refine go_sp [(10, .v (.bool true))] aa aU fun k6 gz => ?_
     clear aU
     refine wp_ret ?_
     refine then_ret ?_
     refine leave gz aa.cells (v := .bool true) kz ?_
     exact ⟨rfl, aa.step⟩
    ·
     refine wp_skip ?_
     refine then_normal ?_
     refine wp_seq ?_
     refine go_sp [(1, .v (.int .i64 v)), (2, .v (.bool flex)), (5, .p 0 0), (8, .p 1 0), (9, .p 2 0), (49, .v (.int .i64 k1))] aa aU fun k7 dg => ?_
     clear aU
     refine wp_block ?_
     refine wp_seq ?_
     refine go_sp [(1, .v (.int .i64 v)), (2, .v (.bool flex)), (5, .p 0 0), (8, .p 1 0), (9, .p 2 0), (49, .v (.int .i64 k1)), (50, .v (.bool (k1 == 8)))] aa dg fun k8 bA => ?_
     clear dg
     refine cond_true bA (b := k1 == 8) kz (ak) ?_
     refine wp_skip ?_
     refine then_normal ?_
     refine cond_true bA (b := k1 == 8) kz (ak) ?_
     refine go_seq_drawK 6 kz aa fun k9 ji bB gA => ?_
     clear aa
     refine go_rnD [0, 1, 2, 3] [(54, .v (.slice al ah.length am)), (56, .v (.slice ai ab.length aj))] 3 (panicFree_then (panicFree_block (panicFree_then panicFree_body))) (fun _ h => h.cells) gA bA fun la dh => ?_
     clear bA
     have iU := whole_le ab
     refine anyC_op (i := 4) kz (wpOp_call dh (f := 48) (vs := [.slice ai ab.length aj]) (d := 57) kz Tryd.call48 (sWhole _ _ ab (aM.move bB.step nilM bB.imm).le _) ?_)
     rintro e_ lb ⟨rfl, di⟩
     refine ⟨_, rfl, fun lc dj => ?_⟩
     have ay := bB.next_nil di
     have dl := bB.frN di
     clear dh
     have gB := TT.ofW dl ay
     refine ⟨fun _ => gB, ?_⟩
     refine anyC_op (i := 5) kz (wpOp_call dj (f := 14) (vs := [.slice al ah.length am, .slice ai ((whole ab).length) aj]) (d := 58) kz Tryd.call14 (sSame _ _ _ _ ah (whole ab) _ _ ((bX.move ay.step nilM ay.imm).move (Step.refl _ Nil) nilM allF) (((aM.take 32767).move ay.step nilM ay.imm).move (Step.refl _ Nil) nilM allF)) ?_)
     rintro e_ ld ⟨rfl, dp⟩
     refine ⟨_, rfl, fun lf dq => ?_⟩
     have bC := ay.next_nil dp
     have gC := ay.frN dp
     clear dj ay
     have gD := TT.ofW (dl.trans gC) bC
     refine ⟨fun _ => gD, ?_⟩
     refine anyC_op (i := 6) kz (wpOp_pure [10] bC.cells dq (env' := [(10, .v (.bool (decide (ah = (whole ab)))))]) kz fun lg gE => ?_)
     clear dq
     refine ⟨fun h => absurd rfl h, ?_⟩
     refine anyC_done kz ?_ _
     refine then_normal ?_
     refine wp_ret ?_
     refine block_ret ?_
     refine then_ret ?_
     refine leave gE bC.cells (v := .bool (decide (ah = (whole ab)))) kz ?_
     refine ⟨congrArg (fun b_ => Ending.returned (Value.bool b_)) ?_, bC.step⟩
     first
      | exact to_t8 hq (by assumption) (by assumption)
      | exact to_t9 hq (by assumption) (by assumption)
      | exact to_u hq (by assumption) (by assumption)
      | exact to_m hq (by assumption) (by assumption) (by assumption) (by assumption) (by assumption) (by assumption)
  ·
   have jj : k1 ≠ 8 := by simpa using ak
   have dr := bz.cast (env' := [(1, .v (.int .i64 v)), (2, .v (.bool flex)), (5, .p 0 0), (8, .p 1 0), (9, .p 2 0), (11, .v (.bool (Fld.nul (Fld.mk k1 y2 y3 y4 y5 y6 y7 l8) v (Tree.mk ac ab ae af ag)))), (12, .v (.bool (decide (v ≥ y4)))), (33, .v (.bool false))]) (by rw [ak])
   clear bz
   refine go_rn [4, 5, 6, 7, 8] [9, 10, 11, 12, 13, 14, 15, 16] [(1, .v (.int .i64 v)), (2, .v (.bool flex)), (5, .p 0 0), (8, .p 1 0), (9, .p 2 0), (11, .v (.bool (Fld.nul (Fld.mk k1 y2 y3 y4 y5 y6 y7 l8) v (Tree.mk ac ab ae af ag)))), (12, .v (.bool (decide (v ≥ y4)))), (38, .v (.bool (k1 == 10)))] aa dr fun lh bD => ?_
   clear dr
   refine (Bool.eq_false_or_eq_true (k1 == 10)).elim (fun az => ?_) (fun az => ?_)
   ·
    have jk : k1 = 10 := by simpa using az
    have dt := bD.cast (env' := [(1, .v (.int .i64 v)), (2, .v (.bool flex)), (5, .p 0 0), (8, .p 1 0), (9, .p 2 0), (11, .v (.bool (Fld.nul (Fld.mk k1 y2 y3 y4 y5 y6 y7 l8) v (Tree.mk ac ab ae af ag)))), (12, .v (.bool (decide (v ≥ y4)))), (38, .v (.bool true))]) (by rw [az])
    clear bD
    refine go_rn [9, 10, 11, 12, 13, 14, 15, 16] [] [(1, .v (.int .i64 v)), (2, .v (.bool flex)), (5, .p 0 0), (8, .p 1 0), (9, .p 2 0), (11, .v (.bool (Fld.nul (Fld.mk k1 y2 y3 y4 y5 y6 y7 l8) v (Tree.mk ac ab ae af ag)))), (46, .v (.bool (!(ap == (Fld.nul (Fld.mk k1 y2 y3 y4 y5 y6 y7 l8) v (Tree.mk ac ab ae af ag))))))] aa dt fun li aV => ?_
    clear dt
    refine wpOps_nil (then_normal ?_)
    refine cond_of aV (b := !(ap == (Fld.nul (Fld.mk k1 y2 y3 y4 y5 y6 y7 l8) v (Tree.mk ac ab ae af ag)))) kz (fun ce => ?_) (fun ce => ?_)
    ·
     have jl : !(ap = (Fld.nul (Fld.mk k1 y2 y3 y4 y5 y6 y7 l8) v (Tree.mk ac ab ae af ag))) := by simpa using ce
     refine go_sp [(10, .v (.bool false))] aa aV fun lj gF => ?_
     clear aV
     refine wp_ret ?_
     refine then_ret ?_
     refine leave gF aa.cells (v := .bool false) kz ?_
     first
      | exact (to_n8 hq (by assumption) (by assumption)).elim
      | exact (to_n10 hq (by assumption) (by assumption)).elim
      | exact (to_nm hq (by assumption) (by assumption) (by assumption)).elim
    ·
     have jm : !(ap ≠ (Fld.nul (Fld.mk k1 y2 y3 y4 y5 y6 y7 l8) v (Tree.mk ac ab ae af ag))) := by simpa using ce
     refine wp_skip ?_
     refine then_normal ?_
     refine wp_seq ?_
     refine go_sp [(1, .v (.int .i64 v)), (2, .v (.bool flex)), (5, .p 0 0), (8, .p 1 0), (9, .p 2 0), (47, .v (.bool (Fld.nul (Fld.mk k1 y2 y3 y4 y5 y6 y7 l8) v (Tree.mk ac ab ae af ag))))] aa aV fun lm aW => ?_
     clear aV
     refine cond_of aW (b := Fld.nul (Fld.mk k1 y2 y3 y4 y5 y6 y7 l8) v (Tree.mk ac ab ae af ag)) kz (fun gG => ?_) (fun gG => ?_)
     ·
      refine go_sp [(10, .v (.bool true))] aa aW fun ln gH => ?_
      clear aW
      refine wp_ret ?_
      refine then_ret ?_
      refine leave gH aa.cells (v := .bool true) kz ?_
      exact ⟨rfl, aa.step⟩
     ·
      refine wp_skip ?_
      refine then_normal ?_
      refine wp_seq ?_
      refine go_sp [(1, .v (.int .i64 v)), (2, .v (.bool flex)), (5, .p 0 0), (8, .p 1 0), (9, .p 2 0), (49, .v (.int .i64 k1))] aa aW fun lp du => ?_
      clear aW
      refine wp_block ?_
      refine wp_seq ?_
      refine go_sp [(1, .v (.int .i64 v)), (2, .v (.bool flex)), (5, .p 0 0), (8, .p 1 0), (9, .p 2 0), (49, .v (.int .i64 k1)), (50, .v (.bool (k1 == 8)))] aa du fun lq cm => ?_
      clear du
      refine cond_false cm (b := k1 == 8) kz (ak) ?_
      refine go_region [0, 1] kz ?_
      refine go_rn [0, 1] [] [(1, .v (.int .i64 v)), (2, .v (.bool flex)), (5, .p 0 0), (8, .p 1 0), (9, .p 2 0), (49, .v (.int .i64 k1)), (50, .v (.bool (k1 == 9)))] aa cm fun lr aX => ?_
      clear cm
      refine wpOps_nil (then_normal ?_)
      refine cond_of aX (b := k1 == 9) kz (fun cq => ?_) (fun cq => ?_)
      ·
       have jn : k1 = 9 := by simpa using cq
       refine go_seq_drawK 6 kz aa fun ls jo bE gI => ?_
       clear aa
       refine go_rnD [0, 1, 2, 3] [(54, .v (.slice al ah.length am)), (56, .v (.slice ai ab.length aj))] 3 (panicFree_then (panicFree_block (panicFree_then panicFree_body))) (fun _ h => h.cells) gI aX fun lu dv => ?_
       clear aX
       have iV := whole_le ab
       refine anyC_op (i := 4) kz (wpOp_call dv (f := 48) (vs := [.slice ai ab.length aj]) (d := 57) kz Tryd.call48 (sWhole _ _ ab (aM.move bE.step nilM bE.imm).le _) ?_)
       rintro e_ lv ⟨rfl, dw⟩
       refine ⟨_, rfl, fun lw dx => ?_⟩
       have aA := bE.next_nil dw
       have dy := bE.frN dw
       clear dv
       have gJ := TT.ofW dy aA
       refine ⟨fun _ => gJ, ?_⟩
       refine anyC_op (i := 5) kz (wpOp_call dx (f := 14) (vs := [.slice al ah.length am, .slice ai ((whole ab).length) aj]) (d := 58) kz Tryd.call14 (sSame _ _ _ _ ah (whole ab) _ _ ((bX.move aA.step nilM aA.imm).move (Step.refl _ Nil) nilM allF) (((aM.take 32767).move aA.step nilM aA.imm).move (Step.refl _ Nil) nilM allF)) ?_)
       rintro e_ lx ⟨rfl, dz⟩
       refine ⟨_, rfl, fun ly dA => ?_⟩
       have bF := aA.next_nil dz
       have gK := aA.frN dz
       clear dx aA
       have gL := TT.ofW (dy.trans gK) bF
       refine ⟨fun _ => gL, ?_⟩
       refine anyC_op (i := 6) kz (wpOp_pure [10] bF.cells dA (env' := [(10, .v (.bool (decide (ah = (whole ab)))))]) kz fun lz gM => ?_)
       clear dA
       refine ⟨fun h => absurd rfl h, ?_⟩
       refine anyC_done kz ?_ _
       refine then_normal ?_
       refine wp_ret ?_
       refine block_ret ?_
       refine then_ret ?_
       refine leave gM bF.cells (v := .bool (decide (ah = (whole ab)))) kz ?_
       refine ⟨congrArg (fun b_ => Ending.returned (Value.bool b_)) ?_, bF.step⟩
       first
        | exact to_t8 hq (by assumption) (by assumption)
        | exact to_t9 hq (by assumption) (by assumption)
        | exact to_u hq (by assumption) (by assumption)
        | exact to_m hq (by assumption) (by assumption) (by assumption) (by assumption) (by assumption) (by assumption)
      ·
       have jp : k1 ≠ 9 := by simpa using cq
       refine go_sp [(1, .v (.int .i64 v)), (2, .v (.bool flex)), (5, .p 0 0), (8, .p 1 0), (9, .p 2 0), (49, .v (.int .i64 k1)), (59, .v (.bool (k1 == 7)))] aa aX fun lA aY => ?_
       clear aX
       refine cond_of aY (b := k1 == 7) kz (fun cr => ?_) (fun cr => ?_)
       ·
        have jq : k1 = 7 := by simpa using cr
        refine go_seq_region [0, 1] kz ?_
        refine of_op (wpOp_make1 aa aY (d := 61) (j := 16) (t := 22) (e := 5) (bytes := 1) (z := .int .u8 0) kz kz kz kz (rfl) (rfl) (by omega) fun ar lB lC jr js jt aN dB => ?_)
        clear aY aa
        refine go_rn [1] [] [(8, .p 1 0), (9, .p 2 0), (13, .v (.slice (some ⟨ar, 0, none⟩) 16 16))] aN dB fun lD dC => ?_
        clear dB
        refine wpOps_nil (then_normal ?_)
        refine go_seq_region [0, 1, 2, 3] kz ?_
        refine go_rn [0, 1, 2] [3] [(9, .p 2 0), (13, .v (.slice (some ⟨ar, 0, none⟩) 16 16)), (62, .v (.slice (some ⟨ar, 0, none⟩) 16 16)), (64, .v (.slice ai ab.length aj))] aN dC fun lE dD => ?_
        clear dC
        refine of_op (wpOp_copyR aN dD (k := 0) (d := 65) (t := 22) (u := 22) (e := 5) (bytes := 1) (A := (some ⟨ar, 0, none⟩)) (As := ai) (m := ab.length) (cs := aj) (m0 := 16) (c := 16) (xs := (List.replicate 16 (.int .u8 0))) (news := bc ab) kz kz rfl (aM.move aN.step nilM aN.imm).src fun lF lG ju dE dF => ?_)
        clear dD aN
        have gN : (⟨(some ⟨ar, 0, none⟩), 16, 5, 1, 16, splice (List.replicate 16 (.int .u8 0)) 0 ((bc ab).take (min ab.length 16))⟩ : Rw) = brow (some ⟨ar, 0, none⟩) 16 5 (uuidB ab) := uuid_row _ _ _
        obtain ⟨aG, jv⟩ := dE.rowEq 0 [brow (some ⟨ar, 0, none⟩) 16 5 (uuidB ab)] gN
        clear dE
        have dG := EnvOk.pick dF (ks := [9, 13, 62, 64, 65]) (env' := [(9, .p 2 0), (13, .v (.slice (some ⟨ar, 0, none⟩) 16 16)), (62, .v (.slice (some ⟨ar, 0, none⟩) 16 16)), (64, .v (.slice ai ab.length aj)), (65, .v (.int .i64 ((min ab.length 16 : Nat) : Int)))]) kz
        have dH := dG.cast (env' := [(9, .p 2 0), (13, .v (.slice (some ⟨ar, 0, none⟩) ((uuidB ab).length) 16)), (62, .v (.slice (some ⟨ar, 0, none⟩) ((uuidB ab).length) 16)), (64, .v (.slice ai ab.length aj)), (65, .v (.int .i64 ((min ab.length 16 : Nat) : Int)))]) (by rw [uuidB_length _])
        clear dF dG
        refine wpOps_nil (then_normal ?_)
        refine go_seq_region [0, 1, 2, 3, 4] kz ?_
        refine go_rn [0, 1, 2] [3, 4] [(67, .v (.slice al ah.length am)), (68, .v (.slice (some ⟨ar, 0, none⟩) ((uuidB ab).length) 16))] aG dH fun lH dI => ?_
        clear dH
        refine of_op (wpOp_call dI (f := 14) (vs := [.slice al ah.length am, .slice (some ⟨ar, 0, none⟩) ((uuidB ab).length) 16]) (d := 69) kz Tryd.call14 (sSame _ _ _ _ ah (uuidB ab) _ _ ((bX.move aG.step nilM aG.imm).move (Step.refl _ Nil) nilM allF) (octs_own (aG.own 0 _ rfl) (by first | omega | (rw [uuidB_length]; decide) | (simp only [be_length]; exact Nat.le_trans (widthI_le _) (by decide)) | (have := hroom; omega) | (have := hmade; omega) | (simp only [List.length_append, List.length_nil]; omega)) (F := fun _ _ => True) (fun _ _ _ => trivial))) ?_)
        rintro e_ lI ⟨rfl, dJ⟩
        refine ⟨_, rfl, fun lJ dK => ?_⟩
        have cu := aG.next_nil dJ
        have jw := aG.frN dJ
        clear dI aG
        refine go_rn [4] [] [(10, .v (.bool (decide (ah = uuidB ab))))] cu dK fun lK gO => ?_
        clear dK
        refine wpOps_nil (then_normal ?_)
        refine wp_ret ?_
        refine block_ret ?_
        refine then_ret ?_
        refine leave gO cu.cells (v := .bool (decide (ah = uuidB ab))) kz ?_
        refine ⟨congrArg (fun b_ => Ending.returned (Value.bool b_)) ?_, cu.step⟩
        first
         | exact to_t8 hq (by assumption) (by assumption)
         | exact to_t9 hq (by assumption) (by assumption)
         | exact to_u hq (by assumption) (by assumption)
         | exact to_m hq (by assumption) (by assumption) (by assumption) (by assumption) (by assumption) (by assumption)
       ·
        have jx : k1 ≠ 7 := by simpa using cr
        refine go_sp [(1, .v (.int .i64 v)), (2, .v (.bool flex)), (5, .p 0 0), (8, .p 1 0), (9, .p 2 0), (49, .v (.int .i64 k1)), (70, .v (.bool (k1 == 10)))] aa aY fun lL cw => ?_
        clear aY
        refine cond_true cw (b := k1 == 10) kz (az) ?_
        refine go_seq_region [0, 1, 2, 3, 4, 5, 6, 7] kz ?_
        refine go_rn [0, 1, 2, 3, 4, 5] [6, 7] [(73, .v (.slice A9 l8.length fY)), (74, .v (.int .i64 v)), (75, .v (.bool flex)), (76, .v (.agg #[.int .i64 ac, .slice ai ab.length aj, .bool ae, .slice fZ af.length f5, .slice f7 ag.length f8])), (77, .v (.agg #[.int .i64 aS, .slice al ah.length am, .bool ap, .slice gc f9.length gd, .slice ge ga.length gg]))] aa cw fun lM dL => ?_
        clear cw
        refine of_op (wpOp_call dL (f := 18) (vs := [.slice A9 l8.length fY, .int .i64 v, .bool flex, .agg #[.int .i64 ac, .slice ai ab.length aj, .bool ae, .slice fZ af.length f5, .slice f7 ag.length f8], .agg #[.int .i64 aS, .slice al ah.length am, .bool ap, .slice gc f9.length gd, .slice ge ga.length gg]]) (d := 78) kz Tryd.call18 ( hT _ _ l8 _ (Tree.mk ac ab ae af ag) _ (Tree.mk aS ah ap f9 ga) _ _ ⟨gb, (iT.move aa.step nilM aa.imm), (fun i_ x_ h_ => ((i7 i_ x_ h_).move aa.step nilM aa.imm))⟩ (ht.move aa.step nilM aa.imm) (hg.move aa.step nilM aa.imm) hpl (to_part hq (by assumption) (by assumption))) ?_)
        rintro e_ lN ⟨rfl, dM⟩
        refine ⟨_, rfl, fun lO dN => ?_⟩
        have cz := aa.next_nil dM
        have jy := aa.frN dM
        clear dL aa
        refine go_rn [7] [] [(10, .v (.bool true))] cz dN fun lP gP => ?_
        clear dN
        refine wpOps_nil (then_normal ?_)
        refine wp_ret ?_
        refine block_ret ?_
        refine then_ret ?_
        refine leave gP cz.cells (v := .bool true) kz ?_
        exact ⟨rfl, cz.step⟩
   ·
    have jz : k1 ≠ 10 := by simpa using az
    have dO := bD.cast (env' := [(1, .v (.int .i64 v)), (2, .v (.bool flex)), (5, .p 0 0), (8, .p 1 0), (9, .p 2 0), (11, .v (.bool (Fld.nul (Fld.mk k1 y2 y3 y4 y5 y6 y7 l8) v (Tree.mk ac ab ae af ag)))), (12, .v (.bool (decide (v ≥ y4)))), (38, .v (.bool false))]) (by rw [az])
    clear bD
    refine go_rn [9, 10, 11] [12, 13, 14, 15, 16] [(1, .v (.int .i64 v)), (2, .v (.bool flex)), (5, .p 0 0), (8, .p 1 0), (9, .p 2 0), (11, .v (.bool (Fld.nul (Fld.mk k1 y2 y3 y4 y5 y6 y7 l8) v (Tree.mk ac ab ae af ag)))), (41, .v (.bool (decide (v ≥ y4))))] aa dO fun lQ bG => ?_
    clear dO
    refine (Bool.eq_false_or_eq_true (decide (v ≥ y4))).elim (fun aZ => ?_) (fun aZ => ?_)
    ·
     have jA := of_decide_eq_true aZ
     have dP := bG.cast (env' := [(1, .v (.int .i64 v)), (2, .v (.bool flex)), (5, .p 0 0), (8, .p 1 0), (9, .p 2 0), (11, .v (.bool (Fld.nul (Fld.mk k1 y2 y3 y4 y5 y6 y7 l8) v (Tree.mk ac ab ae af ag)))), (41, .v (.bool true))]) (by rw [aZ])
     clear bG
     refine go_rn [12, 13, 14, 15, 16] [] [(1, .v (.int .i64 v)), (2, .v (.bool flex)), (5, .p 0 0), (8, .p 1 0), (9, .p 2 0), (11, .v (.bool (Fld.nul (Fld.mk k1 y2 y3 y4 y5 y6 y7 l8) v (Tree.mk ac ab ae af ag)))), (46, .v (.bool (!(ap == (Fld.nul (Fld.mk k1 y2 y3 y4 y5 y6 y7 l8) v (Tree.mk ac ab ae af ag))))))] aa dP fun lR ba => ?_
     clear dP
     refine wpOps_nil (then_normal ?_)
     refine cond_of ba (b := !(ap == (Fld.nul (Fld.mk k1 y2 y3 y4 y5 y6 y7 l8) v (Tree.mk ac ab ae af ag)))) kz (fun cA => ?_) (fun cA => ?_)
     ·
      have jB : !(ap = (Fld.nul (Fld.mk k1 y2 y3 y4 y5 y6 y7 l8) v (Tree.mk ac ab ae af ag))) := by simpa using cA
      refine go_sp [(10, .v (.bool false))] aa ba fun lS gQ => ?_
      clear ba
      refine wp_ret ?_
      refine then_ret ?_
      refine leave gQ aa.cells (v := .bool false) kz ?_
      first
       | exact (to_n8 hq (by assumption) (by assumption)).elim
       | exact (to_n10 hq (by assumption) (by assumption)).elim
       | exact (to_nm hq (by assumption) (by assumption) (by assumption)).elim
     ·
      have jC : !(ap ≠ (Fld.nul (Fld.mk k1 y2 y3 y4 y5 y6 y7 l8) v (Tree.mk ac ab ae af ag))) := by simpa using cA
      refine wp_skip ?_
      refine then_normal ?_
      refine wp_seq ?_
      refine go_sp [(1, .v (.int .i64 v)), (2, .v (.bool flex)), (5, .p 0 0), (8, .p 1 0), (9, .p 2 0), (47, .v (.bool (Fld.nul (Fld.mk k1 y2 y3 y4 y5 y6 y7 l8) v (Tree.mk ac ab ae af ag))))] aa ba fun lT bd => ?_
      clear ba
      refine cond_of bd (b := Fld.nul (Fld.mk k1 y2 y3 y4 y5 y6 y7 l8) v (Tree.mk ac ab ae af ag)) kz (fun gR => ?_) (fun gR => ?_)
      ·
       refine go_sp [(10, .v (.bool true))] aa bd fun lU gS => ?_
       clear bd
       refine wp_ret ?_
       refine then_ret ?_
       refine leave gS aa.cells (v := .bool true) kz ?_
       exact ⟨rfl, aa.step⟩
      ·
       refine wp_skip ?_
       refine then_normal ?_
       refine wp_seq ?_
       refine go_sp [(1, .v (.int .i64 v)), (2, .v (.bool flex)), (5, .p 0 0), (8, .p 1 0), (9, .p 2 0), (49, .v (.int .i64 k1))] aa bd fun lV dQ => ?_
       clear bd
       refine wp_block ?_
       refine wp_seq ?_
       refine go_sp [(1, .v (.int .i64 v)), (2, .v (.bool flex)), (5, .p 0 0), (8, .p 1 0), (9, .p 2 0), (49, .v (.int .i64 k1)), (50, .v (.bool (k1 == 8)))] aa dQ fun lW cB => ?_
       clear dQ
       refine cond_false cB (b := k1 == 8) kz (ak) ?_
       refine go_region [0, 1] kz ?_
       refine go_rn [0, 1] [] [(1, .v (.int .i64 v)), (2, .v (.bool flex)), (5, .p 0 0), (8, .p 1 0), (9, .p 2 0), (49, .v (.int .i64 k1)), (50, .v (.bool (k1 == 9)))] aa cB fun lX bf => ?_
       clear cB
       refine wpOps_nil (then_normal ?_)
       refine cond_of bf (b := k1 == 9) kz (fun cC => ?_) (fun cC => ?_)
       ·
        have jD : k1 = 9 := by simpa using cC
        refine go_seq_drawK 6 kz aa fun lY jE bH gT => ?_
        clear aa
        refine go_rnD [0, 1, 2, 3] [(54, .v (.slice al ah.length am)), (56, .v (.slice ai ab.length aj))] 3 (panicFree_then (panicFree_block (panicFree_then panicFree_body))) (fun _ h => h.cells) gT bf fun lZ dR => ?_
        clear bf
        have iW := whole_le ab
        refine anyC_op (i := 4) kz (wpOp_call dR (f := 48) (vs := [.slice ai ab.length aj]) (d := 57) kz Tryd.call48 (sWhole _ _ ab (aM.move bH.step nilM bH.imm).le _) ?_)
        rintro e_ l0 ⟨rfl, dS⟩
        refine ⟨_, rfl, fun l3 dT => ?_⟩
        have aB := bH.next_nil dS
        have dU := bH.frN dS
        clear dR
        have gU := TT.ofW dU aB
        refine ⟨fun _ => gU, ?_⟩
        refine anyC_op (i := 5) kz (wpOp_call dT (f := 14) (vs := [.slice al ah.length am, .slice ai ((whole ab).length) aj]) (d := 58) kz Tryd.call14 (sSame _ _ _ _ ah (whole ab) _ _ ((bX.move aB.step nilM aB.imm).move (Step.refl _ Nil) nilM allF) (((aM.take 32767).move aB.step nilM aB.imm).move (Step.refl _ Nil) nilM allF)) ?_)
        rintro e_ l5 ⟨rfl, dV⟩
        refine ⟨_, rfl, fun l6 dW => ?_⟩
        have bI := aB.next_nil dV
        have gV := aB.frN dV
        clear dT aB
        have gW := TT.ofW (dU.trans gV) bI
        refine ⟨fun _ => gW, ?_⟩
        refine anyC_op (i := 6) kz (wpOp_pure [10] bI.cells dW (env' := [(10, .v (.bool (decide (ah = (whole ab)))))]) kz fun l7 gX => ?_)
        clear dW
        refine ⟨fun h => absurd rfl h, ?_⟩
        refine anyC_done kz ?_ _
        refine then_normal ?_
        refine wp_ret ?_
        refine block_ret ?_
        refine then_ret ?_
        refine leave gX bI.cells (v := .bool (decide (ah = (whole ab)))) kz ?_
        refine ⟨congrArg (fun b_ => Ending.returned (Value.bool b_)) ?_, bI.step⟩
        first
         | exact to_t8 hq (by assumption) (by assumption)
         | exact to_t9 hq (by assumption) (by assumption)
         | exact to_u hq (by assumption) (by assumption)
         | exact to_m hq (by assumption) (by assumption) (by assumption) (by assumption) (by assumption) (by assumption)
       ·
        have jF : k1 ≠ 9 := by simpa using cC
        refine go_sp [(1, .v (.int .i64 v)), (2, .v (.bool flex)), (5, .p 0 0), (8, .p 1 0), (9, .p 2 0), (49, .v (.int .i64 k1)), (59, .v (.bool (k1 == 7)))] aa bf fun l9 bg => ?_
        clear bf
        refine cond_of bg (b := k1 == 7) kz (fun cD => ?_) (fun cD => ?_)
        ·
         have jG : k1 = 7 := by simpa using cD
         refine go_seq_region [0, 1] kz ?_
         refine of_op (wpOp_make1 aa bg (d := 61) (j := 16) (t := 22) (e := 5) (bytes := 1) (z := .int .u8 0) kz kz kz kz (rfl) (rfl) (by omega) fun au ma mc jH jI jJ aO dX => ?_)
         clear bg aa
         refine go_rn [1] [] [(8, .p 1 0), (9, .p 2 0), (13, .v (.slice (some ⟨au, 0, none⟩) 16 16))] aO dX fun md dY => ?_
         clear dX
         refine wpOps_nil (then_normal ?_)
         refine go_seq_region [0, 1, 2, 3] kz ?_
         refine go_rn [0, 1, 2] [3] [(9, .p 2 0), (13, .v (.slice (some ⟨au, 0, none⟩) 16 16)), (62, .v (.slice (some ⟨au, 0, none⟩) 16 16)), (64, .v (.slice ai ab.length aj))] aO dY fun me dZ => ?_
         clear dY
         refine of_op (wpOp_copyR aO dZ (k := 0) (d := 65) (t := 22) (u := 22) (e := 5) (bytes := 1) (A := (some ⟨au, 0, none⟩)) (As := ai) (m := ab.length) (cs := aj) (m0 := 16) (c := 16) (xs := (List.replicate 16 (.int .u8 0))) (news := bc ab) kz kz rfl (aM.move aO.step nilM aO.imm).src fun mf mg jK d5 d6 => ?_)
         clear dZ aO
         have gY : (⟨(some ⟨au, 0, none⟩), 16, 5, 1, 16, splice (List.replicate 16 (.int .u8 0)) 0 ((bc ab).take (min ab.length 16))⟩ : Rw) = brow (some ⟨au, 0, none⟩) 16 5 (uuidB ab) := uuid_row _ _ _
         obtain ⟨aH, jL⟩ := d5.rowEq 0 [brow (some ⟨au, 0, none⟩) 16 5 (uuidB ab)] gY
         clear d5
         have d7 := EnvOk.pick d6 (ks := [9, 13, 62, 64, 65]) (env' := [(9, .p 2 0), (13, .v (.slice (some ⟨au, 0, none⟩) 16 16)), (62, .v (.slice (some ⟨au, 0, none⟩) 16 16)), (64, .v (.slice ai ab.length aj)), (65, .v (.int .i64 ((min ab.length 16 : Nat) : Int)))]) kz
         have d8 := d7.cast (env' := [(9, .p 2 0), (13, .v (.slice (some ⟨au, 0, none⟩) ((uuidB ab).length) 16)), (62, .v (.slice (some ⟨au, 0, none⟩) ((uuidB ab).length) 16)), (64, .v (.slice ai ab.length aj)), (65, .v (.int .i64 ((min ab.length 16 : Nat) : Int)))]) (by rw [uuidB_length _])
         clear d6 d7
         refine wpOps_nil (then_normal ?_)
         refine go_seq_region [0, 1, 2, 3, 4] kz ?_
         refine go_rn [0, 1, 2] [3, 4] [(67, .v (.slice al ah.length am)), (68, .v (.slice (some ⟨au, 0, none⟩) ((uuidB ab).length) 16))] aH d8 fun mh d9 => ?_
         clear d8
         refine of_op (wpOp_call d9 (f := 14) (vs := [.slice al ah.length am, .slice (some ⟨au, 0, none⟩) ((uuidB ab).length) 16]) (d := 69) kz Tryd.call14 (sSame _ _ _ _ ah (uuidB ab) _ _ ((bX.move aH.step nilM aH.imm).move (Step.refl _ Nil) nilM allF) (octs_own (aH.own 0 _ rfl) (by first | omega | (rw [uuidB_length]; decide) | (simp only [be_length]; exact Nat.le_trans (widthI_le _) (by decide)) | (have := hroom; omega) | (have := hmade; omega) | (simp only [List.length_append, List.length_nil]; omega)) (F := fun _ _ => True) (fun _ _ _ => trivial))) ?_)
         rintro e_ mi ⟨rfl, ea⟩
         refine ⟨_, rfl, fun mj eb => ?_⟩
         have cE := aH.next_nil ea
         have jM := aH.frN ea
         clear d9 aH
         refine go_rn [4] [] [(10, .v (.bool (decide (ah = uuidB ab))))] cE eb fun ml gZ => ?_
         clear eb
         refine wpOps_nil (then_normal ?_)
         refine wp_ret ?_
         refine block_ret ?_
         refine then_ret ?_
         refine leave gZ cE.cells (v := .bool (decide (ah = uuidB ab))) kz ?_
         refine ⟨congrArg (fun b_ => Ending.returned (Value.bool b_)) ?_, cE.step⟩
         first
          | exact to_t8 hq (by assumption) (by assumption)
          | exact to_t9 hq (by assumption) (by assumption)
          | exact to_u hq (by assumption) (by assumption)
          | exact to_m hq (by assumption) (by assumption) (by assumption) (by assumption) (by assumption) (by assumption)
        ·
         have jN : k1 ≠ 7 := by simpa using cD
         refine go_sp [(1, .v (.int .i64 v)), (2, .v (.bool flex)), (5, .p 0 0), (8, .p 1 0), (9, .p 2 0), (49, .v (.int .i64 k1)), (70, .v (.bool (k1 == 10)))] aa bg fun mn cG => ?_
         clear bg
         refine cond_false cG (b := k1 == 10) kz (az) ?_
         refine go_sp [(1, .v (.int .i64 v)), (2, .v (.bool flex)), (5, .p 0 0), (8, .p 1 0), (9, .p 2 0), (79, .v (.bool (k1 == 11)))] aa cG fun mo cH => ?_
         clear cG
         refine cond_false cH (b := k1 == 11) kz (by simpa using bY) ?_
         refine wp_skip ?_
         refine block_normal ?_
         refine then_normal ?_
         refine go_seq_drawK 8 kz aa fun mp jO ec g6 => ?_
         clear aa
         refine go_rnD [0, 1, 2, 3, 4, 5] [(117, .v (.int .i64 aS)), (119, .v (.int .i64 k1)), (121, .v (.int .i64 ac))] 3 (panicFree_then panicFree_body) (fun _ h => h.cells) g6 cH fun mq ee => ?_
         clear cH
         refine anyC_op (i := 6) kz (wpOp_call ee (f := 78) (vs := [.int .i64 k1, .int .i64 ac]) (d := 122) kz Tryd.call78 (sNumber k1 ac _) ?_)
         rintro e_ mr ⟨rfl, ef⟩
         refine ⟨_, rfl, fun mt eg => ?_⟩
         have bJ := ec.next_nil ef
         have g7 := ec.frN ef
         clear ee
         have eh := TT.ofW g7 bJ
         refine ⟨fun _ => eh, ?_⟩
         refine go_rnD [7] [(123, .v (.bool (aS == (numberI k1 ac))))] 1 (panicFree_then panicFree_body) (fun _ h => h.cells) eh eg fun mu ei => ?_
         clear eg
         refine anyC_op (i := 8) kz (wpOp_pure [10] bJ.cells ei (env' := [(10, .v (.bool (aS == (numberI k1 ac))))]) kz fun mw g8 => ?_)
         clear ei
         refine ⟨fun h => absurd rfl h, ?_⟩
         refine anyC_done kz ?_ _
         refine then_normal ?_
         refine wp_ret ?_
         refine leave g8 bJ.cells (v := .bool (aS == (numberI k1 ac))) kz ?_
         refine ⟨congrArg (fun b_ => Ending.returned (Value.bool b_)) ?_, bJ.step⟩
         first
          | exact to_t8 hq (by assumption) (by assumption)
          | exact to_t9 hq (by assumption) (by assumption)
          | exact to_u hq (by assumption) (by assumption)
          | exact to_m hq (by assumption) (by assumption) (by assumption) (by assumption) (by assumption) (by assumption)
    ·
     have jP := of_decide_eq_false aZ
     have ej := bG.cast (env' := [(1, .v (.int .i64 v)), (2, .v (.bool flex)), (5, .p 0 0), (8, .p 1 0), (9, .p 2 0), (11, .v (.bool (Fld.nul (Fld.mk k1 y2 y3 y4 y5 y6 y7 l8) v (Tree.mk ac ab ae af ag)))), (41, .v (.bool false))]) (by rw [aZ])
     clear bG
     refine go_rn [12, 13, 14, 15, 16] [] [(1, .v (.int .i64 v)), (2, .v (.bool flex)), (5, .p 0 0), (8, .p 1 0), (9, .p 2 0), (11, .v (.bool (Fld.nul (Fld.mk k1 y2 y3 y4 y5 y6 y7 l8) v (Tree.mk ac ab ae af ag)))), (46, .v (.bool false))] aa ej fun mx cI => ?_
     clear ej
     refine wpOps_nil (then_normal ?_)
     refine cond_false cI (b := false) kz rfl ?_
     refine wp_skip ?_
     refine then_normal ?_
     refine wp_seq ?_
     refine go_sp [(1, .v (.int .i64 v)), (2, .v (.bool flex)), (5, .p 0 0), (8, .p 1 0), (9, .p 2 0), (47, .v (.bool (Fld.nul (Fld.mk k1 y2 y3 y4 y5 y6 y7 l8) v (Tree.mk ac ab ae af ag))))] aa cI fun my bh => ?_
     clear cI
     refine cond_of bh (b := Fld.nul (Fld.mk k1 y2 y3 y4 y5 y6 y7 l8) v (Tree.mk ac ab ae af ag)) kz (fun g9 => ?_) (fun g9 => ?_)
     ·
      refine go_sp [(10, .v (.bool true))] aa bh fun mz hC => ?_
      clear bh
      refine wp_ret ?_
      refine then_ret ?_
      refine leave hC aa.cells (v := .bool true) kz ?_
      exact ⟨rfl, aa.step⟩
     ·
      refine wp_skip ?_
      refine then_normal ?_
      refine wp_seq ?_
      refine go_sp [(1, .v (.int .i64 v)), (2, .v (.bool flex)), (5, .p 0 0), (8, .p 1 0), (9, .p 2 0), (49, .v (.int .i64 k1))] aa bh fun mA ek => ?_
      clear bh
      refine wp_block ?_
      refine wp_seq ?_
      refine go_sp [(1, .v (.int .i64 v)), (2, .v (.bool flex)), (5, .p 0 0), (8, .p 1 0), (9, .p 2 0), (49, .v (.int .i64 k1)), (50, .v (.bool (k1 == 8)))] aa ek fun mB cJ => ?_
      clear ek
      refine cond_false cJ (b := k1 == 8) kz (ak) ?_
      refine go_region [0, 1] kz ?_
      refine go_rn [0, 1] [] [(1, .v (.int .i64 v)), (2, .v (.bool flex)), (5, .p 0 0), (8, .p 1 0), (9, .p 2 0), (49, .v (.int .i64 k1)), (50, .v (.bool (k1 == 9)))] aa cJ fun mC bi => ?_
      clear cJ
      refine wpOps_nil (then_normal ?_)
      refine cond_of bi (b := k1 == 9) kz (fun cK => ?_) (fun cK => ?_)
      ·
       have jQ : k1 = 9 := by simpa using cK
       refine go_seq_drawK 6 kz aa fun mD jR bK hJ => ?_
       clear aa
       refine go_rnD [0, 1, 2, 3] [(54, .v (.slice al ah.length am)), (56, .v (.slice ai ab.length aj))] 3 (panicFree_then (panicFree_block (panicFree_then panicFree_body))) (fun _ h => h.cells) hJ bi fun mF em => ?_
       clear bi
       have iX := whole_le ab
       refine anyC_op (i := 4) kz (wpOp_call em (f := 48) (vs := [.slice ai ab.length aj]) (d := 57) kz Tryd.call48 (sWhole _ _ ab (aM.move bK.step nilM bK.imm).le _) ?_)
       rintro e_ mG ⟨rfl, eo⟩
       refine ⟨_, rfl, fun mH ep => ?_⟩
       have aC := bK.next_nil eo
       have eu := bK.frN eo
       clear em
       have hK := TT.ofW eu aC
       refine ⟨fun _ => hK, ?_⟩
       refine anyC_op (i := 5) kz (wpOp_call ep (f := 14) (vs := [.slice al ah.length am, .slice ai ((whole ab).length) aj]) (d := 58) kz Tryd.call14 (sSame _ _ _ _ ah (whole ab) _ _ ((bX.move aC.step nilM aC.imm).move (Step.refl _ Nil) nilM allF) (((aM.take 32767).move aC.step nilM aC.imm).move (Step.refl _ Nil) nilM allF)) ?_)
       rintro e_ mI ⟨rfl, ev⟩
       refine ⟨_, rfl, fun mJ ew => ?_⟩
       have bL := aC.next_nil ev
       have hZ := aC.frN ev
       clear ep aC
       have ia := TT.ofW (eu.trans hZ) bL
       refine ⟨fun _ => ia, ?_⟩
       refine anyC_op (i := 6) kz (wpOp_pure [10] bL.cells ew (env' := [(10, .v (.bool (decide (ah = (whole ab)))))]) kz fun mK ib => ?_)
       clear ew
       refine ⟨fun h => absurd rfl h, ?_⟩
       refine anyC_done kz ?_ _
       refine then_normal ?_
       refine wp_ret ?_
       refine block_ret ?_
       refine then_ret ?_
       refine leave ib bL.cells (v := .bool (decide (ah = (whole ab)))) kz ?_
       refine ⟨congrArg (fun b_ => Ending.returned (Value.bool b_)) ?_, bL.step⟩
       first
        | exact to_t8 hq (by assumption) (by assumption)
        | exact to_t9 hq (by assumption) (by assumption)
        | exact to_u hq (by assumption) (by assumption)
        | exact to_m hq (by assumption) (by assumption) (by assumption) (by assumption) (by assumption) (by assumption)
      ·
       have jS : k1 ≠ 9 := by simpa using cK
       refine go_sp [(1, .v (.int .i64 v)), (2, .v (.bool flex)), (5, .p 0 0), (8, .p 1 0), (9, .p 2 0), (49, .v (.int .i64 k1)), (59, .v (.bool (k1 == 7)))] aa bi fun mL bj => ?_
       clear bi
       refine cond_of bj (b := k1 == 7) kz (fun cL => ?_) (fun cL => ?_)
       ·
        have jT : k1 = 7 := by simpa using cL
        refine go_seq_region [0, 1] kz ?_
        refine of_op (wpOp_make1 aa bj (d := 61) (j := 16) (t := 22) (e := 5) (bytes := 1) (z := .int .u8 0) kz kz kz kz (rfl) (rfl) (by omega) fun av mM mN jU jV jW aP ey => ?_)
        clear bj aa
        refine go_rn [1] [] [(8, .p 1 0), (9, .p 2 0), (13, .v (.slice (some ⟨av, 0, none⟩) 16 16))] aP ey fun mO ez => ?_
        clear ey
        refine wpOps_nil (then_normal ?_)
        refine go_seq_region [0, 1, 2, 3] kz ?_
        refine go_rn [0, 1, 2] [3] [(9, .p 2 0), (13, .v (.slice (some ⟨av, 0, none⟩) 16 16)), (62, .v (.slice (some ⟨av, 0, none⟩) 16 16)), (64, .v (.slice ai ab.length aj))] aP ez fun mQ eB => ?_
        clear ez
        refine of_op (wpOp_copyR aP eB (k := 0) (d := 65) (t := 22) (u := 22) (e := 5) (bytes := 1) (A := (some ⟨av, 0, none⟩)) (As := ai) (m := ab.length) (cs := aj) (m0 := 16) (c := 16) (xs := (List.replicate 16 (.int .u8 0))) (news := bc ab) kz kz rfl (aM.move aP.step nilM aP.imm).src fun mR mS jX eC eD => ?_)
        clear eB aP
        have ic : (⟨(some ⟨av, 0, none⟩), 16, 5, 1, 16, splice (List.replicate 16 (.int .u8 0)) 0 ((bc ab).take (min ab.length 16))⟩ : Rw) = brow (some ⟨av, 0, none⟩) 16 5 (uuidB ab) := uuid_row _ _ _
        obtain ⟨aI, jY⟩ := eC.rowEq 0 [brow (some ⟨av, 0, none⟩) 16 5 (uuidB ab)] ic
        clear eC
        have eE := EnvOk.pick eD (ks := [9, 13, 62, 64, 65]) (env' := [(9, .p 2 0), (13, .v (.slice (some ⟨av, 0, none⟩) 16 16)), (62, .v (.slice (some ⟨av, 0, none⟩) 16 16)), (64, .v (.slice ai ab.length aj)), (65, .v (.int .i64 ((min ab.length 16 : Nat) : Int)))]) kz
        have eF := eE.cast (env' := [(9, .p 2 0), (13, .v (.slice (some ⟨av, 0, none⟩) ((uuidB ab).length) 16)), (62, .v (.slice (some ⟨av, 0, none⟩) ((uuidB ab).length) 16)), (64, .v (.slice ai ab.length aj)), (65, .v (.int .i64 ((min ab.length 16 : Nat) : Int)))]) (by rw [uuidB_length _])
        clear eD eE
        refine wpOps_nil (then_normal ?_)
        refine go_seq_region [0, 1, 2, 3, 4] kz ?_
        refine go_rn [0, 1, 2] [3, 4] [(67, .v (.slice al ah.length am)), (68, .v (.slice (some ⟨av, 0, none⟩) ((uuidB ab).length) 16))] aI eF fun mT eG => ?_
        clear eF
        refine of_op (wpOp_call eG (f := 14) (vs := [.slice al ah.length am, .slice (some ⟨av, 0, none⟩) ((uuidB ab).length) 16]) (d := 69) kz Tryd.call14 (sSame _ _ _ _ ah (uuidB ab) _ _ ((bX.move aI.step nilM aI.imm).move (Step.refl _ Nil) nilM allF) (octs_own (aI.own 0 _ rfl) (by first | omega | (rw [uuidB_length]; decide) | (simp only [be_length]; exact Nat.le_trans (widthI_le _) (by decide)) | (have := hroom; omega) | (have := hmade; omega) | (simp only [List.length_append, List.length_nil]; omega)) (F := fun _ _ => True) (fun _ _ _ => trivial))) ?_)
        rintro e_ mU ⟨rfl, eH⟩
        refine ⟨_, rfl, fun mV eI => ?_⟩
        have cM := aI.next_nil eH
        have jZ := aI.frN eH
        clear eG aI
        refine go_rn [4] [] [(10, .v (.bool (decide (ah = uuidB ab))))] cM eI fun mW ig => ?_
        clear eI
        refine wpOps_nil (then_normal ?_)
        refine wp_ret ?_
        refine block_ret ?_
        refine then_ret ?_
        refine leave ig cM.cells (v := .bool (decide (ah = uuidB ab))) kz ?_
        refine ⟨congrArg (fun b_ => Ending.returned (Value.bool b_)) ?_, cM.step⟩
        first
         | exact to_t8 hq (by assumption) (by assumption)
         | exact to_t9 hq (by assumption) (by assumption)
         | exact to_u hq (by assumption) (by assumption)
         | exact to_m hq (by assumption) (by assumption) (by assumption) (by assumption) (by assumption) (by assumption)
       ·
        have j0 : k1 ≠ 7 := by simpa using cL
        refine go_sp [(1, .v (.int .i64 v)), (2, .v (.bool flex)), (5, .p 0 0), (8, .p 1 0), (9, .p 2 0), (49, .v (.int .i64 k1)), (70, .v (.bool (k1 == 10)))] aa bj fun mX cN => ?_
        clear bj
        refine cond_false cN (b := k1 == 10) kz (az) ?_
        refine go_sp [(1, .v (.int .i64 v)), (2, .v (.bool flex)), (5, .p 0 0), (8, .p 1 0), (9, .p 2 0), (79, .v (.bool (k1 == 11)))] aa cN fun mY cO => ?_
        clear cN
        refine cond_false cO (b := k1 == 11) kz (by simpa using bY) ?_
        refine wp_skip ?_
        refine block_normal ?_
        refine then_normal ?_
        refine go_seq_drawK 8 kz aa fun mZ j1 eJ ii => ?_
        clear aa
        refine go_rnD [0, 1, 2, 3, 4, 5] [(117, .v (.int .i64 aS)), (119, .v (.int .i64 k1)), (121, .v (.int .i64 ac))] 3 (panicFree_then panicFree_body) (fun _ h => h.cells) ii cO fun m4 eK => ?_
        clear cO
        refine anyC_op (i := 6) kz (wpOp_call eK (f := 78) (vs := [.int .i64 k1, .int .i64 ac]) (d := 122) kz Tryd.call78 (sNumber k1 ac _) ?_)
        rintro e_ m5 ⟨rfl, eL⟩
        refine ⟨_, rfl, fun m6 eM => ?_⟩
        have bM := eJ.next_nil eL
        have ij := eJ.frN eL
        clear eK
        have eN := TT.ofW ij bM
        refine ⟨fun _ => eN, ?_⟩
        refine go_rnD [7] [(123, .v (.bool (aS == (numberI k1 ac))))] 1 (panicFree_then panicFree_body) (fun _ h => h.cells) eN eM fun m7 eO => ?_
        clear eM
        refine anyC_op (i := 8) kz (wpOp_pure [10] bM.cells eO (env' := [(10, .v (.bool (aS == (numberI k1 ac))))]) kz fun m8 ik => ?_)
        clear eO
        refine ⟨fun h => absurd rfl h, ?_⟩
        refine anyC_done kz ?_ _
        refine then_normal ?_
        refine wp_ret ?_
        refine leave ik bM.cells (v := .bool (aS == (numberI k1 ac))) kz ?_
        refine ⟨congrArg (fun b_ => Ending.returned (Value.bool b_)) ?_, bM.step⟩
        first
         | exact to_t8 hq (by assumption) (by assumption)
         | exact to_t9 hq (by assumption) (by assumption)
         | exact to_u hq (by assumption) (by assumption)
         | exact to_m hq (by assumption) (by assumption) (by assumption) (by assumption) (by assumption) (by assumption)
 ·
  have j2 := of_decide_eq_false b8
  have eP := de.cast (env' := [(1, .v (.int .i64 v)), (2, .v (.bool flex)), (5, .p 0 0), (8, .p 1 0), (9, .p 2 0), (11, .v (.bool (Fld.nul (Fld.mk k1 y2 y3 y4 y5 y6 y7 l8) v (Tree.mk ac ab ae af ag)))), (24, .v (.bool false))]) (by rw [b8])
  clear de
  refine go_rn [4, 5, 6, 7, 8, 9] [] [(1, .v (.int .i64 v)), (2, .v (.bool flex)), (5, .p 0 0), (8, .p 1 0), (9, .p 2 0), (11, .v (.bool (Fld.nul (Fld.mk k1 y2 y3 y4 y5 y6 y7 l8) v (Tree.mk ac ab ae af ag)))), (12, .v (.bool false))] aa eP fun m9 eQ => ?_
  clear eP
  refine wpOps_nil (then_normal ?_)
  refine wp_seq ?_
  refine go_seq_region [0, 1, 2, 3, 4, 5, 6, 7, 8, 9, 10, 11, 12, 13, 14, 15, 16] kz ?_
  refine go_rn [0, 1, 2, 3] [4, 5, 6, 7, 8, 9, 10, 11, 12, 13, 14, 15, 16] [(1, .v (.int .i64 v)), (2, .v (.bool flex)), (5, .p 0 0), (8, .p 1 0), (9, .p 2 0), (11, .v (.bool (Fld.nul (Fld.mk k1 y2 y3 y4 y5 y6 y7 l8) v (Tree.mk ac ab ae af ag)))), (12, .v (.bool false)), (33, .v (.bool (k1 == 8)))] aa eQ fun nf bN => ?_
  clear eQ
  refine (Bool.eq_false_or_eq_true (k1 == 8)).elim (fun ao => ?_) (fun ao => ?_)
  ·
   have j3 : k1 = 8 := by simpa using ao
   have eR := bN.cast (env' := [(1, .v (.int .i64 v)), (2, .v (.bool flex)), (5, .p 0 0), (8, .p 1 0), (9, .p 2 0), (11, .v (.bool (Fld.nul (Fld.mk k1 y2 y3 y4 y5 y6 y7 l8) v (Tree.mk ac ab ae af ag)))), (12, .v (.bool false)), (33, .v (.bool true))]) (by rw [ao])
   clear bN
   refine go_rn [4, 5, 6, 7, 8, 9, 10, 11, 12, 13, 14, 15, 16] [] [(1, .v (.int .i64 v)), (2, .v (.bool flex)), (5, .p 0 0), (8, .p 1 0), (9, .p 2 0), (11, .v (.bool (Fld.nul (Fld.mk k1 y2 y3 y4 y5 y6 y7 l8) v (Tree.mk ac ab ae af ag)))), (46, .v (.bool (!(ap == (Fld.nul (Fld.mk k1 y2 y3 y4 y5 y6 y7 l8) v (Tree.mk ac ab ae af ag))))))] aa eR fun ng bk => ?_
   clear eR
   refine wpOps_nil (then_normal ?_)
   refine cond_of bk (b := !(ap == (Fld.nul (Fld.mk k1 y2 y3 y4 y5 y6 y7 l8) v (Tree.mk ac ab ae af ag)))) kz (fun cP => ?_) (fun cP => ?_)
   ·
    have j4 : !(ap = (Fld.nul (Fld.mk k1 y2 y3 y4 y5 y6 y7 l8) v (Tree.mk ac ab ae af ag))) := by simpa using cP
    refine go_sp [(10, .v (.bool false))] aa bk fun nh il => ?_
    clear bk
    refine wp_ret ?_
    refine then_ret ?_
    refine leave il aa.cells (v := .bool false) kz ?_
    first
     | exact (to_n8 hq (by assumption) (by assumption)).elim
     | exact (to_n10 hq (by assumption) (by assumption)).elim
     | exact (to_nm hq (by assumption) (by assumption) (by assumption)).elim
   ·
    have j5 : !(ap ≠ (Fld.nul (Fld.mk k1 y2 y3 y4 y5 y6 y7 l8) v (Tree.mk ac ab ae af ag))) := by simpa using cP
    refine wp_skip ?_
    refine then_normal ?_
    refine wp_seq ?_
    refine go_sp [(1, .v (.int .i64 v)), (2, .v (.bool flex)), (5, .p 0 0), (8, .p 1 0), (9, .p 2 0), (47, .v (.bool (Fld.nul (Fld.mk k1 y2 y3 y4 y5 y6 y7 l8) v (Tree.mk ac ab ae af ag))))] aa bk fun ni bn => ?_
    clear bk
    refine cond_of bn (b := Fld.nul (Fld.mk k1 y2 y3 y4 y5 y6 y7 l8) v (Tree.mk ac ab ae af ag)) kz (fun im => ?_) (fun im => ?_)
    ·
     refine go_sp [(10, .v (.bool true))] aa bn fun nj io => ?_
     clear bn
     refine wp_ret ?_
     refine then_ret ?_
     refine leave io aa.cells (v := .bool true) kz ?_
     exact ⟨rfl, aa.step⟩
    ·
     refine wp_skip ?_
     refine then_normal ?_
     refine wp_seq ?_
     refine go_sp [(1, .v (.int .i64 v)), (2, .v (.bool flex)), (5, .p 0 0), (8, .p 1 0), (9, .p 2 0), (49, .v (.int .i64 k1))] aa bn fun nk eS => ?_
     clear bn
     refine wp_block ?_
     refine wp_seq ?_
     refine go_sp [(1, .v (.int .i64 v)), (2, .v (.bool flex)), (5, .p 0 0), (8, .p 1 0), (9, .p 2 0), (49, .v (.int .i64 k1)), (50, .v (.bool (k1 == 8)))] aa eS fun nl bO => ?_
     clear eS
     refine cond_true bO (b := k1 == 8) kz (ao) ?_
     refine wp_skip ?_
     refine then_normal ?_
     refine cond_true bO (b := k1 == 8) kz (ao) ?_
     refine go_seq_drawK 6 kz aa fun nm j6 bP ip => ?_
     clear aa
     refine go_rnD [0, 1, 2, 3] [(54, .v (.slice al ah.length am)), (56, .v (.slice ai ab.length aj))] 3 (panicFree_then (panicFree_block (panicFree_then panicFree_body))) (fun _ h => h.cells) ip bO fun np eU => ?_
     clear bO
     have iY := whole_le ab
     refine anyC_op (i := 4) kz (wpOp_call eU (f := 48) (vs := [.slice ai ab.length aj]) (d := 57) kz Tryd.call48 (sWhole _ _ ab (aM.move bP.step nilM bP.imm).le _) ?_)
     rintro e_ nr ⟨rfl, eV⟩
     refine ⟨_, rfl, fun ns eW => ?_⟩
     have aD := bP.next_nil eV
     have eX := bP.frN eV
     clear eU
     have iq := TT.ofW eX aD
     refine ⟨fun _ => iq, ?_⟩
     refine anyC_op (i := 5) kz (wpOp_call eW (f := 14) (vs := [.slice al ah.length am, .slice ai ((whole ab).length) aj]) (d := 58) kz Tryd.call14 (sSame _ _ _ _ ah (whole ab) _ _ ((bX.move aD.step nilM aD.imm).move (Step.refl _ Nil) nilM allF) (((aM.take 32767).move aD.step nilM aD.imm).move (Step.refl _ Nil) nilM allF)) ?_)
     rintro e_ nt ⟨rfl, eY⟩
     refine ⟨_, rfl, fun nu eZ => ?_⟩
     have bQ := aD.next_nil eY
     have ir := aD.frN eY
     clear eW aD
     have iu := TT.ofW (eX.trans ir) bQ
     refine ⟨fun _ => iu, ?_⟩
     refine anyC_op (i := 6) kz (wpOp_pure [10] bQ.cells eZ (env' := [(10, .v (.bool (decide (ah = (whole ab)))))]) kz fun nv iv => ?_)
     clear eZ
     refine ⟨fun h => absurd rfl h, ?_⟩
     refine anyC_done kz ?_ _
     refine then_normal ?_
     refine wp_ret ?_
     refine block_ret ?_
     refine then_ret ?_
     refine leave iv bQ.cells (v := .bool (decide (ah = (whole ab)))) kz ?_
     refine ⟨congrArg (fun b_ => Ending.returned (Value.bool b_)) ?_, bQ.step⟩
     first
      | exact to_t8 hq (by assumption) (by assumption)
      | exact to_t9 hq (by assumption) (by assumption)
      | exact to_u hq (by assumption) (by assumption)
      | exact to_m hq (by assumption) (by assumption) (by assumption) (by assumption) (by assumption) (by assumption)
  ·
   have j7 : k1 ≠ 8 := by simpa using ao
   have e9 := bN.cast (env' := [(1, .v (.int .i64 v)), (2, .v (.bool flex)), (5, .p 0 0), (8, .p 1 0), (9, .p 2 0), (11, .v (.bool (Fld.nul (Fld.mk k1 y2 y3 y4 y5 y6 y7 l8) v (Tree.mk ac ab ae af ag)))), (12, .v (.bool false)), (33, .v (.bool false))]) (by rw [ao])
   clear bN
   refine go_rn [4, 5, 6, 7, 8] [9, 10, 11, 12, 13, 14, 15, 16] [(1, .v (.int .i64 v)), (2, .v (.bool flex)), (5, .p 0 0), (8, .p 1 0), (9, .p 2 0), (11, .v (.bool (Fld.nul (Fld.mk k1 y2 y3 y4 y5 y6 y7 l8) v (Tree.mk ac ab ae af ag)))), (12, .v (.bool false)), (38, .v (.bool (k1 == 10)))] aa e9 fun nw bR => ?_
   clear e9
   refine (Bool.eq_false_or_eq_true (k1 == 10)).elim (fun aJ => ?_) (fun aJ => ?_)
   ·
    have j8 : k1 = 10 := by simpa using aJ
    have fa := bR.cast (env' := [(1, .v (.int .i64 v)), (2, .v (.bool flex)), (5, .p 0 0), (8, .p 1 0), (9, .p 2 0), (11, .v (.bool (Fld.nul (Fld.mk k1 y2 y3 y4 y5 y6 y7 l8) v (Tree.mk ac ab ae af ag)))), (12, .v (.bool false)), (38, .v (.bool true))]) (by rw [aJ])
    clear bR
    refine go_rn [9, 10, 11, 12, 13, 14, 15, 16] [] [(1, .v (.int .i64 v)), (2, .v (.bool flex)), (5, .p 0 0), (8, .p 1 0), (9, .p 2 0), (11, .v (.bool (Fld.nul (Fld.mk k1 y2 y3 y4 y5 y6 y7 l8) v (Tree.mk ac ab ae af ag)))), (46, .v (.bool (!(ap == (Fld.nul (Fld.mk k1 y2 y3 y4 y5 y6 y7 l8) v (Tree.mk ac ab ae af ag))))))] aa fa fun nx bo => ?_
    clear fa
    refine wpOps_nil (then_normal ?_)
    refine cond_of bo (b := !(ap == (Fld.nul (Fld.mk k1 y2 y3 y4 y5 y6 y7 l8) v (Tree.mk ac ab ae af ag)))) kz (fun cQ => ?_) (fun cQ => ?_)
    ·
     have j9 : !(ap = (Fld.nul (Fld.mk k1 y2 y3 y4 y5 y6 y7 l8) v (Tree.mk ac ab ae af ag))) := by simpa using cQ
     refine go_sp [(10, .v (.bool false))] aa bo fun ny iw => ?_
     clear bo
     refine wp_ret ?_
     refine then_ret ?_
     refine leave iw aa.cells (v := .bool false) kz ?_
     first
      | exact (to_n8 hq (by assumption) (by assumption)).elim
      | exact (to_n10 hq (by assumption) (by assumption)).elim
      | exact (to_nm hq (by assumption) (by assumption) (by assumption)).elim
    ·
     have ka : !(ap ≠ (Fld.nul (Fld.mk k1 y2 y3 y4 y5 y6 y7 l8) v (Tree.mk ac ab ae af ag))) := by simpa using cQ
     refine wp_skip ?_
     refine then_normal ?_
     refine wp_seq ?_
     refine go_sp [(1, .v (.int .i64 v)), (2, .v (.bool flex)), (5, .p 0 0), (8, .p 1 0), (9, .p 2 0), (47, .v (.bool (Fld.nul (Fld.mk k1 y2 y3 y4 y5 y6 y7 l8) v (Tree.mk ac ab ae af ag))))] aa bo fun nz bp => ?_
     clear bo
     refine cond_of bp (b := Fld.nul (Fld.mk k1 y2 y3 y4 y5 y6 y7 l8) v (Tree.mk ac ab ae af ag)) kz (fun ix => ?_) (fun ix => ?_)
     ·
      refine go_sp [(10, .v (.bool true))] aa bp fun nA iy => ?_
      clear bp
      refine wp_ret ?_
      refine then_ret ?_
      refine leave iy aa.cells (v := .bool true) kz ?_
      exact ⟨rfl, aa.step⟩
     ·
      refine wp_skip ?_
      refine then_normal ?_
      refine wp_seq ?_
      refine go_sp [(1, .v (.int .i64 v)), (2, .v (.bool flex)), (5, .p 0 0), (8, .p 1 0), (9, .p 2 0), (49, .v (.int .i64 k1))] aa bp fun nB fb => ?_
      clear bp
      refine wp_block ?_
      refine wp_seq ?_
      refine go_sp [(1, .v (.int .i64 v)), (2, .v (.bool flex)), (5, .p 0 0), (8, .p 1 0), (9, .p 2 0), (49, .v (.int .i64 k1)), (50, .v (.bool (k1 == 8)))] aa fb fun nC cR => ?_
      clear fb
      refine cond_false cR (b := k1 == 8) kz (ao) ?_
      refine go_region [0, 1] kz ?_
      refine go_rn [0, 1] [] [(1, .v (.int .i64 v)), (2, .v (.bool flex)), (5, .p 0 0), (8, .p 1 0), (9, .p 2 0), (49, .v (.int .i64 k1)), (50, .v (.bool (k1 == 9)))] aa cR fun nD bq => ?_
      clear cR
      refine wpOps_nil (then_normal ?_)
      refine cond_of bq (b := k1 == 9) kz (fun cS => ?_) (fun cS => ?_)
      ·
       have kd : k1 = 9 := by simpa using cS
       refine go_seq_drawK 6 kz aa fun nE ke bS iz => ?_
       clear aa
       refine go_rnD [0, 1, 2, 3] [(54, .v (.slice al ah.length am)), (56, .v (.slice ai ab.length aj))] 3 (panicFree_then (panicFree_block (panicFree_then panicFree_body))) (fun _ h => h.cells) iz bq fun nF fe => ?_
       clear bq
       have iZ := whole_le ab
       refine anyC_op (i := 4) kz (wpOp_call fe (f := 48) (vs := [.slice ai ab.length aj]) (d := 57) kz Tryd.call48 (sWhole _ _ ab (aM.move bS.step nilM bS.imm).le _) ?_)
       rintro e_ nG ⟨rfl, ff⟩
       refine ⟨_, rfl, fun nH fg => ?_⟩
       have aE := bS.next_nil ff
       have fh := bS.frN ff
       clear fe
       have iA := TT.ofW fh aE
       refine ⟨fun _ => iA, ?_⟩
       refine anyC_op (i := 5) kz (wpOp_call fg (f := 14) (vs := [.slice al ah.length am, .slice ai ((whole ab).length) aj]) (d := 58) kz Tryd.call14 (sSame _ _ _ _ ah (whole ab) _ _ ((bX.move aE.step nilM aE.imm).move (Step.refl _ Nil) nilM allF) (((aM.take 32767).move aE.step nilM aE.imm).move (Step.refl _ Nil) nilM allF)) ?_)
       rintro e_ nI ⟨rfl, fi⟩
       refine ⟨_, rfl, fun nJ fj => ?_⟩
       have bT := aE.next_nil fi
       have iB := aE.frN fi
       clear fg aE
       have iC := TT.ofW (fh.trans iB) bT
       refine ⟨fun _ => iC, ?_⟩
       refine anyC_op (i := 6) kz (wpOp_pure [10] bT.cells fj (env' := [(10, .v (.bool (decide (ah = (whole ab)))))]) kz fun nK iD => ?_)
       clear fj
       refine ⟨fun h => absurd rfl h, ?_⟩
       refine anyC_done kz ?_ _
       refine then_normal ?_
       refine wp_ret ?_
       refine block_ret ?_
       refine then_ret ?_
       refine leave iD bT.cells (v := .bool (decide (ah = (whole ab)))) kz ?_
       refine ⟨congrArg (fun b_ => Ending.returned (Value.bool b_)) ?_, bT.step⟩
       first
        | exact to_t8 hq (by assumption) (by assumption)
        | exact to_t9 hq (by assumption) (by assumption)
        | exact to_u hq (by assumption) (by assumption)
        | exact to_m hq (by assumption) (by assumption) (by assumption) (by assumption) (by assumption) (by assumption)
      ·
       have kf : k1 ≠ 9 := by simpa using cS
       refine go_sp [(1, .v (.int .i64 v)), (2, .v (.bool flex)), (5, .p 0 0), (8, .p 1 0), (9, .p 2 0), (49, .v (.int .i64 k1)), (59, .v (.bool (k1 == 7)))] aa bq fun nL bt => ?_
       clear bq
       refine cond_of bt (b := k1 == 7) kz (fun cT => ?_) (fun cT => ?_)
       ·
        have kg : k1 = 7 := by simpa using cT
        refine go_seq_region [0, 1] kz ?_
        refine of_op (wpOp_make1 aa bt (d := 61) (j := 16) (t := 22) (e := 5) (bytes := 1) (z := .int .u8 0) kz kz kz kz (rfl) (rfl) (by omega) fun aw nM nN kh ki kj aQ fk => ?_)
        clear bt aa
        refine go_rn [1] [] [(8, .p 1 0), (9, .p 2 0), (13, .v (.slice (some ⟨aw, 0, none⟩) 16 16))] aQ fk fun nO fl => ?_
        clear fk
        refine wpOps_nil (then_normal ?_)
        refine go_seq_region [0, 1, 2, 3] kz ?_
        refine go_rn [0, 1, 2] [3] [(9, .p 2 0), (13, .v (.slice (some ⟨aw, 0, none⟩) 16 16)), (62, .v (.slice (some ⟨aw, 0, none⟩) 16 16)), (64, .v (.slice ai ab.length aj))] aQ fl fun nP fm => ?_
        clear fl
        refine of_op (wpOp_copyR aQ fm (k := 0) (d := 65) (t := 22) (u := 22) (e := 5) (bytes := 1) (A := (some ⟨aw, 0, none⟩)) (As := ai) (m := ab.length) (cs := aj) (m0 := 16) (c := 16) (xs := (List.replicate 16 (.int .u8 0))) (news := bc ab) kz kz rfl (aM.move aQ.step nilM aQ.imm).src fun nQ nR km fo fq => ?_)
        clear fm aQ
        have iE : (⟨(some ⟨aw, 0, none⟩), 16, 5, 1, 16, splice (List.replicate 16 (.int .u8 0)) 0 ((bc ab).take (min ab.length 16))⟩ : Rw) = brow (some ⟨aw, 0, none⟩) 16 5 (uuidB ab) := uuid_row _ _ _
        obtain ⟨aK, ko⟩ := fo.rowEq 0 [brow (some ⟨aw, 0, none⟩) 16 5 (uuidB ab)] iE
        clear fo
        have fr := EnvOk.pick fq (ks := [9, 13, 62, 64, 65]) (env' := [(9, .p 2 0), (13, .v (.slice (some ⟨aw, 0, none⟩) 16 16)), (62, .v (.slice (some ⟨aw, 0, none⟩) 16 16)), (64, .v (.slice ai ab.length aj)), (65, .v (.int .i64 ((min ab.length 16 : Nat) : Int)))]) kz
        have ft := fr.cast (env' := [(9, .p 2 0), (13, .v (.slice (some ⟨aw, 0, none⟩) ((uuidB ab).length) 16)), (62, .v (.slice (some ⟨aw, 0, none⟩) ((uuidB ab).length) 16)), (64, .v (.slice ai ab.length aj)), (65, .v (.int .i64 ((min ab.length 16 : Nat) : Int)))]) (by rw [uuidB_length _])
        clear fq fr
        refine wpOps_nil (then_normal ?_)
        refine go_seq_region [0, 1, 2, 3, 4] kz ?_
        refine go_rn [0, 1, 2] [3, 4] [(67, .v (.slice al ah.length am)), (68, .v (.slice (some ⟨aw, 0, none⟩) ((uuidB ab).length) 16))] aK ft fun nS fu => ?_
        clear ft
        refine of_op (wpOp_call fu (f := 14) (vs := [.slice al ah.length am, .slice (some ⟨aw, 0, none⟩) ((uuidB ab).length) 16]) (d := 69) kz Tryd.call14 (sSame _ _ _ _ ah (uuidB ab) _ _ ((bX.move aK.step nilM aK.imm).move (Step.refl _ Nil) nilM allF) (octs_own (aK.own 0 _ rfl) (by first | omega | (rw [uuidB_length]; decide) | (simp only [be_length]; exact Nat.le_trans (widthI_le _) (by decide)) | (have := hroom; omega) | (have := hmade; omega) | (simp only [List.length_append, List.length_nil]; omega)) (F := fun _ _ => True) (fun _ _ _ => trivial))) ?_)
        rintro e_ nT ⟨rfl, fv⟩
        refine ⟨_, rfl, fun nU fw => ?_⟩
        have cU := aK.next_nil fv
        have kp := aK.frN fv
        clear fu aK
        refine go_rn [4] [] [(10, .v (.bool (decide (ah = uuidB ab))))] cU fw fun nV iF => ?_
        clear fw
        refine wpOps_nil (then_normal ?_)
        refine wp_ret ?_
        refine block_ret ?_
        refine then_ret ?_
        refine leave iF cU.cells (v := .bool (decide (ah = uuidB ab))) kz ?_
        refine ⟨congrArg (fun b_ => Ending.returned (Value.bool b_)) ?_, cU.step⟩
        first
         | exact to_t8 hq (by assumption) (by assumption)
         | exact to_t9 hq (by assumption) (by assumption)
         | exact to_u hq (by assumption) (by assumption)
         | exact to_m hq (by assumption) (by assumption) (by assumption) (by assumption) (by assumption) (by assumption)
       ·
        have kq : k1 ≠ 7 := by simpa using cT
        refine go_sp [(1, .v (.int .i64 v)), (2, .v (.bool flex)), (5, .p 0 0), (8, .p 1 0), (9, .p 2 0), (49, .v (.int .i64 k1)), (70, .v (.bool (k1 == 10)))] aa bt fun nW cV => ?_
        clear bt
        refine cond_true cV (b := k1 == 10) kz (aJ) ?_
        refine go_seq_region [0, 1, 2, 3, 4, 5, 6, 7] kz ?_
        refine go_rn [0, 1, 2, 3, 4, 5] [6, 7] [(73, .v (.slice A9 l8.length fY)), (74, .v (.int .i64 v)), (75, .v (.bool flex)), (76, .v (.agg #[.int .i64 ac, .slice ai ab.length aj, .bool ae, .slice fZ af.length f5, .slice f7 ag.length f8])), (77, .v (.agg #[.int .i64 aS, .slice al ah.length am, .bool ap, .slice gc f9.length gd, .slice ge ga.length gg]))] aa cV fun nX fx => ?_
        clear cV
        refine of_op (wpOp_call fx (f := 18) (vs := [.slice A9 l8.length fY, .int .i64 v, .bool flex, .agg #[.int .i64 ac, .slice ai ab.length aj, .bool ae, .slice fZ af.length f5, .slice f7 ag.length f8], .agg #[.int .i64 aS, .slice al ah.length am, .bool ap, .slice gc f9.length gd, .slice ge ga.length gg]]) (d := 78) kz Tryd.call18 ( hT _ _ l8 _ (Tree.mk ac ab ae af ag) _ (Tree.mk aS ah ap f9 ga) _ _ ⟨gb, (iT.move aa.step nilM aa.imm), (fun i_ x_ h_ => ((i7 i_ x_ h_).move aa.step nilM aa.imm))⟩ (ht.move aa.step nilM aa.imm) (hg.move aa.step nilM aa.imm) hpl (to_part hq (by assumption) (by assumption))) ?_)
        rintro e_ nY ⟨rfl, fy⟩
        refine ⟨_, rfl, fun nZ fz => ?_⟩
        have cW := aa.next_nil fy
        have ku := aa.frN fy
        clear fx aa
        refine go_rn [7] [] [(10, .v (.bool true))] cW fz fun n4 iG => ?_
        clear fz
        refine wpOps_nil (then_normal ?_)
        refine wp_ret ?_
        refine block_ret ?_
        refine then_ret ?_
        refine leave iG cW.cells (v := .bool true) kz ?_
        exact ⟨rfl, cW.step⟩
   ·
    have kv : k1 ≠ 10 := by simpa using aJ
    have fA := bR.cast (env' := [(1, .v (.int .i64 v)), (2, .v (.bool flex)), (5, .p 0 0), (8, .p 1 0), (9, .p 2 0), (11, .v (.bool (Fld.nul (Fld.mk k1 y2 y3 y4 y5 y6 y7 l8) v (Tree.mk ac ab ae af ag)))), (12, .v (.bool false)), (38, .v (.bool false))]) (by rw [aJ])
    clear bR
    refine go_rn [9, 10, 11, 12, 13, 14, 15, 16] [] [(1, .v (.int .i64 v)), (2, .v (.bool flex)), (5, .p 0 0), (8, .p 1 0), (9, .p 2 0), (11, .v (.bool (Fld.nul (Fld.mk k1 y2 y3 y4 y5 y6 y7 l8) v (Tree.mk ac ab ae af ag)))), (46, .v (.bool false))] aa fA fun n5 cX => ?_
    clear fA
    refine wpOps_nil (then_normal ?_)
    refine cond_false cX (b := false) kz rfl ?_
    refine wp_skip ?_
    refine then_normal ?_
    refine wp_seq ?_
    refine go_sp [(1, .v (.int .i64 v)), (2, .v (.bool flex)), (5, .p 0 0), (8, .p 1 0), (9, .p 2 0), (47, .v (.bool (Fld.nul (Fld.mk k1 y2 y3 y4 y5 y6 y7 l8) v (Tree.mk ac ab ae af ag))))] aa cX fun n8 bu => ?_
    clear cX
    refine cond_of bu (b := Fld.nul (Fld.mk k1 y2 y3 y4 y5 y6 y7 l8) v (Tree.mk ac ab ae af ag)) kz (fun iH => ?_) (fun iH => ?_)
    ·
     refine go_sp [(10, .v (.bool true))] aa bu fun oa iI => ?_
     clear bu
     refine wp_ret ?_
     refine then_ret ?_
     refine leave iI aa.cells (v := .bool true) kz ?_
     exact ⟨rfl, aa.step⟩
    ·
     refine wp_skip ?_
     refine then_normal ?_
     refine wp_seq ?_
     refine go_sp [(1, .v (.int .i64 v)), (2, .v (.bool flex)), (5, .p 0 0), (8, .p 1 0), (9, .p 2 0), (49, .v (.int .i64 k1))] aa bu fun od fB => ?_
     clear bu
     refine wp_block ?_
     refine wp_seq ?_
     refine go_sp [(1, .v (.int .i64 v)), (2, .v (.bool flex)), (5, .p 0 0), (8, .p 1 0), (9, .p 2 0), (49, .v (.int .i64 k1)), (50, .v (.bool (k1 == 8)))] aa fB fun oe cY => ?_
     clear fB
     refine cond_false cY (b := k1 == 8) kz (ao) ?_
     refine go_region [0, 1] kz ?_
     refine go_rn [0, 1] [] [(1, .v (.int .i64 v)), (2, .v (.bool flex)), (5, .p 0 0), (8, .p 1 0), (9, .p 2 0), (49, .v (.int .i64 k1)), (50, .v (.bool (k1 == 9)))] aa cY fun og bw => ?_
     clear cY
     refine wpOps_nil (then_normal ?_)
     refine cond_of bw (b := k1 == 9) kz (fun cZ => ?_) (fun cZ => ?_)
     ·
      have kw : k1 = 9 := by simpa using cZ
      refine go_seq_drawK 6 kz aa fun oh kx bU iJ => ?_
      clear aa
      refine go_rnD [0, 1, 2, 3] [(54, .v (.slice al ah.length am)), (56, .v (.slice ai ab.length aj))] 3 (panicFree_then (panicFree_block (panicFree_then panicFree_body))) (fun _ h => h.cells) iJ bw fun ol fC => ?_
      clear bw
      have i6 := whole_le ab
      refine anyC_op (i := 4) kz (wpOp_call fC (f := 48) (vs := [.slice ai ab.length aj]) (d := 57) kz Tryd.call48 (sWhole _ _ ab (aM.move bU.step nilM bU.imm).le _) ?_)
      rintro e_ om ⟨rfl, fD⟩
      refine ⟨_, rfl, fun oq fE => ?_⟩
      have aF := bU.next_nil fD
      have fF := bU.frN fD
      clear fC
      have iK := TT.ofW fF aF
      refine ⟨fun _ => iK, ?_⟩
      refine anyC_op (i := 5) kz (wpOp_call fE (f := 14) (vs := [.slice al ah.length am, .slice ai ((whole ab).length) aj]) (d := 58) kz Tryd.call14 (sSame _ _ _ _ ah (whole ab) _ _ ((bX.move aF.step nilM aF.imm).move (Step.refl _ Nil) nilM allF) (((aM.take 32767).move aF.step nilM aF.imm).move (Step.refl _ Nil) nilM allF)) ?_)
      rintro e_ ot ⟨rfl, fG⟩
      refine ⟨_, rfl, fun ou fH => ?_⟩
      have bV := aF.next_nil fG
      have iL := aF.frN fG
      clear fE aF
      have iM := TT.ofW (fF.trans iL) bV
      refine ⟨fun _ => iM, ?_⟩
      refine anyC_op (i := 6) kz (wpOp_pure [10] bV.cells fH (env' := [(10, .v (.bool (decide (ah = (whole ab)))))]) kz fun ov iN => ?_)
      clear fH
      refine ⟨fun h => absurd rfl h, ?_⟩
      refine anyC_done kz ?_ _
      refine then_normal ?_
      refine wp_ret ?_
      refine block_ret ?_
      refine then_ret ?_
      refine leave iN bV.cells (v := .bool (decide (ah = (whole ab)))) kz ?_
      refine ⟨congrArg (fun b_ => Ending.returned (Value.bool b_)) ?_, bV.step⟩
      first
       | exact to_t8 hq (by assumption) (by assumption)
       | exact to_t9 hq (by assumption) (by assumption)
       | exact to_u hq (by assumption) (by assumption)
       | exact to_m hq (by assumption) (by assumption) (by assumption) (by assumption) (by assumption) (by assumption)
     ·
      have ky : k1 ≠ 9 := by simpa using cZ
      refine go_sp [(1, .v (.int .i64 v)), (2, .v (.bool flex)), (5, .p 0 0), (8, .p 1 0), (9, .p 2 0), (49, .v (.int .i64 k1)), (59, .v (.bool (k1 == 7)))] aa bw fun ow bx => ?_
      clear bw
      refine cond_of bx (b := k1 == 7) kz (fun c5 => ?_) (fun c5 => ?_)
      ·
       have kA : k1 = 7 := by simpa using c5
       refine go_seq_region [0, 1] kz ?_
       refine of_op (wpOp_make1 aa bx (d := 61) (j := 16) (t := 22) (e := 5) (bytes := 1) (z := .int .u8 0) kz kz kz kz (rfl) (rfl) (by omega) fun ax ox oy kB kC kD aR fI => ?_)
       clear bx aa
       refine go_rn [1] [] [(8, .p 1 0), (9, .p 2 0), (13, .v (.slice (some ⟨ax, 0, none⟩) 16 16))] aR fI fun oz fJ => ?_
       clear fI
       refine wpOps_nil (then_normal ?_)
       refine go_seq_region [0, 1, 2, 3] kz ?_
       refine go_rn [0, 1, 2] [3] [(9, .p 2 0), (13, .v (.slice (some ⟨ax, 0, none⟩) 16 16)), (62, .v (.slice (some ⟨ax, 0, none⟩) 16 16)), (64, .v (.slice ai ab.length aj))] aR fJ fun oA fK => ?_
       clear fJ
       refine of_op (wpOp_copyR aR fK (k := 0) (d := 65) (t := 22) (u := 22) (e := 5) (bytes := 1) (A := (some ⟨ax, 0, none⟩)) (As := ai) (m := ab.length) (cs := aj) (m0 := 16) (c := 16) (xs := (List.replicate 16 (.int .u8 0))) (news := bc ab) kz kz rfl (aM.move aR.step nilM aR.imm).src fun oB oC kE fL fM => ?_)
       clear fK aR
       have iO : (⟨(some ⟨ax, 0, none⟩), 16, 5, 1, 16, splice (List.replicate 16 (.int .u8 0)) 0 ((bc ab).take (min ab.length 16))⟩ : Rw) = brow (some ⟨ax, 0, none⟩) 16 5 (uuidB ab) := uuid_row _ _ _
       obtain ⟨aL, kF⟩ := fL.rowEq 0 [brow (some ⟨ax, 0, none⟩) 16 5 (uuidB ab)] iO
       clear fL
       have fN := EnvOk.pick fM (ks := [9, 13, 62, 64, 65]) (env' := [(9, .p 2 0), (13, .v (.slice (some ⟨ax, 0, none⟩) 16 16)), (62, .v (.slice (some ⟨ax, 0, none⟩) 16 16)), (64, .v (.slice ai ab.length aj)), (65, .v (.int .i64 ((min ab.length 16 : Nat) : Int)))]) kz
       have fO := fN.cast (env' := [(9, .p 2 0), (13, .v (.slice (some ⟨ax, 0, none⟩) ((uuidB ab).length) 16)), (62, .v (.slice (some ⟨ax, 0, none⟩) ((uuidB ab).length) 16)), (64, .v (.slice ai ab.length aj)), (65, .v (.int .i64 ((min ab.length 16 : Nat) : Int)))]) (by rw [uuidB_length _])
       clear fM fN
       refine wpOps_nil (then_normal ?_)
       refine go_seq_region [0, 1, 2, 3, 4] kz ?_
       refine go_rn [0, 1, 2] [3, 4] [(67, .v (.slice al ah.length am)), (68, .v (.slice (some ⟨ax, 0, none⟩) ((uuidB ab).length) 16))] aL fO fun oD fP => ?_
       clear fO
       refine of_op (wpOp_call fP (f := 14) (vs := [.slice al ah.length am, .slice (some ⟨ax, 0, none⟩) ((uuidB ab).length) 16]) (d := 69) kz Tryd.call14 (sSame _ _ _ _ ah (uuidB ab) _ _ ((bX.move aL.step nilM aL.imm).move (Step.refl _ Nil) nilM allF) (octs_own (aL.own 0 _ rfl) (by first | omega | (rw [uuidB_length]; decide) | (simp only [be_length]; exact Nat.le_trans (widthI_le _) (by decide)) | (have := hroom; omega) | (have := hmade; omega) | (simp only [List.length_append, List.length_nil]; omega)) (F := fun _ _ => True) (fun _ _ _ => trivial))) ?_)
       rintro e_ oE ⟨rfl, fQ⟩
       refine ⟨_, rfl, fun oF fR => ?_⟩
       have da := aL.next_nil fQ
       have kG := aL.frN fQ
       clear fP aL
       refine go_rn [4] [] [(10, .v (.bool (decide (ah = uuidB ab))))] da fR fun oG iP => ?_
       clear fR
       refine wpOps_nil (then_normal ?_)
       refine wp_ret ?_
       refine block_ret ?_
       refine then_ret ?_
       refine leave iP da.cells (v := .bool (decide (ah = uuidB ab))) kz ?_
       refine ⟨congrArg (fun b_ => Ending.returned (Value.bool b_)) ?_, da.step⟩
       first
        | exact to_t8 hq (by assumption) (by assumption)
        | exact to_t9 hq (by assumption) (by assumption)
        | exact to_u hq (by assumption) (by assumption)
        | exact to_m hq (by assumption) (by assumption) (by assumption) (by assumption) (by assumption) (by assumption)
      ·
       have kH : k1 ≠ 7 := by simpa using c5
       refine go_sp [(1, .v (.int .i64 v)), (2, .v (.bool flex)), (5, .p 0 0), (8, .p 1 0), (9, .p 2 0), (49, .v (.int .i64 k1)), (70, .v (.bool (k1 == 10)))] aa bx fun oH db => ?_
       clear bx
       refine cond_false db (b := k1 == 10) kz (aJ) ?_
       refine go_sp [(1, .v (.int .i64 v)), (2, .v (.bool flex)), (5, .p 0 0), (8, .p 1 0), (9, .p 2 0), (79, .v (.bool (k1 == 11)))] aa db fun oI dc => ?_
       clear db
       refine cond_false dc (b := k1 == 11) kz (by simpa using bY) ?_
       refine wp_skip ?_
       refine block_normal ?_
       refine then_normal ?_
       refine go_seq_drawK 8 kz aa fun oJ kI fS iQ => ?_
       clear aa
       refine go_rnD [0, 1, 2, 3, 4, 5] [(117, .v (.int .i64 aS)), (119, .v (.int .i64 k1)), (121, .v (.int .i64 ac))] 3 (panicFree_then panicFree_body) (fun _ h => h.cells) iQ dc fun oK fT => ?_
       clear dc
       refine anyC_op (i := 6) kz (wpOp_call fT (f := 78) (vs := [.int .i64 k1, .int .i64 ac]) (d := 122) kz Tryd.call78 (sNumber k1 ac _) ?_)
       rintro e_ oL ⟨rfl, fU⟩
       refine ⟨_, rfl, fun oM fV => ?_⟩
       have bW := fS.next_nil fU
       have iR := fS.frN fU
       clear fT
       have fW := TT.ofW iR bW
       refine ⟨fun _ => fW, ?_⟩
       refine go_rnD [7] [(123, .v (.bool (aS == (numberI k1 ac))))] 1 (panicFree_then panicFree_body) (fun _ h => h.cells) fW fV fun oN fX => ?_
       clear fV
       refine anyC_op (i := 8) kz (wpOp_pure [10] bW.cells fX (env' := [(10, .v (.bool (aS == (numberI k1 ac))))]) kz fun oO iS => ?_)
       clear fX
       refine ⟨fun h => absurd rfl h, ?_⟩
       refine anyC_done kz ?_ _
       refine then_normal ?_
       refine wp_ret ?_
       refine leave iS bW.cells (v := .bool (aS == (numberI k1 ac))) kz ?_
       refine ⟨congrArg (fun b_ => Ending.returned (Value.bool b_)) ?_, bW.step⟩
       first
        | exact to_t8 hq (by assumption) (by assumption)
        | exact to_t9 hq (by assumption) (by assumption)
        | exact to_u hq (by assumption) (by assumption)
        | exact to_m hq (by assumption) (by assumption) (by assumption) (by assumption) (by assumption) (by assumption)
theorem sTold11 {v : Int} {flex : Bool} {T : List Fld → Tree → Tree → Prop} (hT : ToOK v flex T) (cf : List Value) (f : Fld) (ct : List Value) (t : Tree) (cg : List Value) (g : Tree) (w : World) (F : Nat → Nat → Prop) (hf : FldR w F cf f) (hpl : f.plain) (ac : f.kind = 11) (ht : TreeR w F ct t) (hg : TreeR w F cg g) (hQ : ToF T v f t g) :
  Calls Tryd.prog 45 #[.agg cf.toArray, .int .i64 v, .bool flex, .agg ct.toArray, .agg cg.toArray] w (Gives w (.bool true)) := by
 obtain ⟨k1, y2, y3, y4, y5, y6, y7, l8, A9, ap, fr, rfl, rfl, g8, ig⟩ := hf.open_
 have jh := g8.small
 obtain ⟨aj, ak, al, aa, am, gb, gc, ae, af, gd, ge, ko, rfl, rfl, kp, ft, ii, ny⟩ := ht.open_
 have ji := kp.small
 have jj := ft.small
 obtain ⟨g9, hC, df, ao, hJ, hK, hZ, cw, fu, ia, ib, kq, rfl, rfl, ku, ic, ij, nz⟩ := hg.open_
 have jk := ku.small
 have jl := ic.small
 have ac : k1 = 11 := ac
 have hof : y7 ≠ 11 := hpl.1
 replace hpl : plains l8 := hpl.2
 have hq := hQ.1
 refine enter (n := 124) Tryd.func45 rfl Tryd.ntmps45 kz fun a hE => ?_
 have hW := WOk.start w Nil
 refine go_seq_region [0, 1, 2, 3] kz ?_
 refine of_op (wpOp_box hW hE (d := 5) (cs := [.int .i64 k1, .int .i64 y2, .int .i64 y3, .int .i64 y4, .int .i64 y5, .int .i64 y6, .int .i64 y7, .slice A9 l8.length ap]) kz fun ik nA nB kv kw kx gg gh => ?_)
 clear hE hW
 refine of_op (wpOp_box gg gh (d := 8) (cs := [.int .i64 aj, .slice gb ak.length gc, .bool al, .slice ae aa.length af, .slice gd am.length ge]) kz fun il nC nD ky kA kB gi gj => ?_)
 clear gh gg
 refine of_op (wpOp_box gi gj (d := 9) (cs := [.int .i64 g9, .slice hK hC.length hZ, .bool df, .slice cw ao.length fu, .slice ia hJ.length ib]) kz fun im nE nF kC kD kE aO gk => ?_)
 clear gj gi
 refine go_rn [3] [] [(1, .v (.int .i64 v)), (2, .v (.bool flex)), (5, .p 0 0), (8, .p 1 0), (9, .p 2 0)] aO gk fun nG gl => ?_
 clear gk
 refine wpOps_nil (then_normal ?_)
 refine go_seq_region [0, 1, 2, 3, 4] kz ?_
 refine go_rn [0, 1, 2] [3, 4] [(1, .v (.int .i64 v)), (2, .v (.bool flex)), (5, .p 0 0), (8, .p 1 0), (9, .p 2 0), (17, .v (.agg #[.int .i64 k1, .int .i64 y2, .int .i64 y3, .int .i64 y4, .int .i64 y5, .int .i64 y6, .int .i64 y7, .slice A9 l8.length ap])), (18, .v (.int .i64 v)), (19, .v (.agg #[.int .i64 aj, .slice gb ak.length gc, .bool al, .slice ae aa.length af, .slice gd am.length ge]))] aO gl fun nH gm => ?_
 clear gl
 refine of_op (wpOp_call gm (f := 76) (vs := [.agg #[.int .i64 k1, .int .i64 y2, .int .i64 y3, .int .i64 y4, .int .i64 y5, .int .i64 y6, .int .i64 y7, .slice A9 l8.length ap], .int .i64 v, .agg #[.int .i64 aj, .slice gb ak.length gc, .bool al, .slice ae aa.length af, .slice gd am.length ge]]) (d := 20) kz Tryd.call76 (sNull k1 y2 y3 y4 y5 y6 y7 l8 _ _ v aj ak al aa am _ _ _ _ _ _ _) ?_)
 rintro e_ nI ⟨rfl, gn⟩
 refine ⟨_, rfl, fun nJ gp => ?_⟩
 have ab := aO.next_nil gn
 have kF := aO.frN gn
 clear gm aO
 refine go_rn [4] [] [(1, .v (.int .i64 v)), (2, .v (.bool flex)), (5, .p 0 0), (8, .p 1 0), (9, .p 2 0), (11, .v (.bool (Fld.nul (Fld.mk k1 y2 y3 y4 y5 y6 y7 l8) v (Tree.mk aj ak al aa am))))] ab gp fun nK gq => ?_
 clear gp
 refine wpOps_nil (then_normal ?_)
 refine go_seq_region [0, 1, 2, 3, 4, 5, 6, 7, 8, 9] kz ?_
 refine go_rn [0, 1, 2, 3] [4, 5, 6, 7, 8, 9] [(1, .v (.int .i64 v)), (2, .v (.bool flex)), (5, .p 0 0), (8, .p 1 0), (9, .p 2 0), (11, .v (.bool (Fld.nul (Fld.mk k1 y2 y3 y4 y5 y6 y7 l8) v (Tree.mk aj ak al aa am)))), (24, .v (.bool (decide (y4 ≥ 0))))] ab gq fun nL cz => ?_
 clear gq
 refine (Bool.eq_false_or_eq_true (decide (y4 ≥ 0))).elim (fun aP => ?_) (fun aP => ?_)
 ·
  have kG := of_decide_eq_true aP
  have gt := cz.cast (env' := [(1, .v (.int .i64 v)), (2, .v (.bool flex)), (5, .p 0 0), (8, .p 1 0), (9, .p 2 0), (11, .v (.bool (Fld.nul (Fld.mk k1 y2 y3 y4 y5 y6 y7 l8) v (Tree.mk aj ak al aa am)))), (24, .v (.bool true))]) (by rw [aP])
  clear cz
  refine go_rn [4, 5, 6, 7, 8, 9] [] [(1, .v (.int .i64 v)), (2, .v (.bool flex)), (5, .p 0 0), (8, .p 1 0), (9, .p 2 0), (11, .v (.bool (Fld.nul (Fld.mk k1 y2 y3 y4 y5 y6 y7 l8) v (Tree.mk aj ak al aa am)))), (12, .v (.bool (decide (v ≥ y4))))] ab gt fun nM gv => ?_
  clear gt
  refine wpOps_nil (then_normal ?_)
  refine wp_seq ?_
  refine go_seq_region [0, 1, 2, 3, 4, 5, 6, 7, 8, 9, 10, 11, 12, 13, 14, 15, 16] kz ?_
  refine go_rn [0, 1, 2, 3] [4, 5, 6, 7, 8, 9, 10, 11, 12, 13, 14, 15, 16] [(1, .v (.int .i64 v)), (2, .v (.bool flex)), (5, .p 0 0), (8, .p 1 0), (9, .p 2 0), (11, .v (.bool (Fld.nul (Fld.mk k1 y2 y3 y4 y5 y6 y7 l8) v (Tree.mk aj ak al aa am)))), (12, .v (.bool (decide (v ≥ y4)))), (33, .v (.bool (k1 == 8)))] ab gv fun nN dg => ?_
  clear gv
  have gw : (k1 == 8) = false := by simp [ac]
  have dh := dg.cast (env' := [(1, .v (.int .i64 v)), (2, .v (.bool flex)), (5, .p 0 0), (8, .p 1 0), (9, .p 2 0), (11, .v (.bool (Fld.nul (Fld.mk k1 y2 y3 y4 y5 y6 y7 l8) v (Tree.mk aj ak al aa am)))), (12, .v (.bool (decide (v ≥ y4)))), (33, .v (.bool false))]) (by rw [gw])
  clear dg
  refine go_rn [4, 5, 6, 7, 8] [9, 10, 11, 12, 13, 14, 15, 16] [(1, .v (.int .i64 v)), (2, .v (.bool flex)), (5, .p 0 0), (8, .p 1 0), (9, .p 2 0), (11, .v (.bool (Fld.nul (Fld.mk k1 y2 y3 y4 y5 y6 y7 l8) v (Tree.mk aj ak al aa am)))), (12, .v (.bool (decide (v ≥ y4)))), (38, .v (.bool (k1 == 10)))] ab dh fun kH di => ?_
  clear dh
  have gx : (k1 == 10) = false := by simp [ac]
  have dj := di.cast (env' := [(1, .v (.int .i64 v)), (2, .v (.bool flex)), (5, .p 0 0), (8, .p 1 0), (9, .p 2 0), (11, .v (.bool (Fld.nul (Fld.mk k1 y2 y3 y4 y5 y6 y7 l8) v (Tree.mk aj ak al aa am)))), (12, .v (.bool (decide (v ≥ y4)))), (38, .v (.bool false))]) (by rw [gx])
  clear di
  refine go_rn [9, 10, 11] [12, 13, 14, 15, 16] [(1, .v (.int .i64 v)), (2, .v (.bool flex)), (5, .p 0 0), (8, .p 1 0), (9, .p 2 0), (11, .v (.bool (Fld.nul (Fld.mk k1 y2 y3 y4 y5 y6 y7 l8) v (Tree.mk aj ak al aa am)))), (41, .v (.bool (decide (v ≥ y4))))] ab dj fun kI aN => ?_
  clear dj
  refine (Bool.eq_false_or_eq_true (decide (v ≥ y4))).elim (fun az => ?_) (fun az => ?_)
  ·
   have jm := of_decide_eq_true az
   have dl := aN.cast (env' := [(1, .v (.int .i64 v)), (2, .v (.bool flex)), (5, .p 0 0), (8, .p 1 0), (9, .p 2 0), (11, .v (.bool (Fld.nul (Fld.mk k1 y2 y3 y4 y5 y6 y7 l8) v (Tree.mk aj ak al aa am)))), (41, .v (.bool true))]) (by rw [az])
   clear aN
   refine go_rn [12, 13, 14, 15, 16] [] [(1, .v (.int .i64 v)), (2, .v (.bool flex)), (5, .p 0 0), (8, .p 1 0), (9, .p 2 0), (11, .v (.bool (Fld.nul (Fld.mk k1 y2 y3 y4 y5 y6 y7 l8) v (Tree.mk aj ak al aa am)))), (46, .v (.bool (!(df == (Fld.nul (Fld.mk k1 y2 y3 y4 y5 y6 y7 l8) v (Tree.mk aj ak al aa am))))))] ab dl fun kJ aA => ?_
   clear dl
   refine wpOps_nil (then_normal ?_)
   refine cond_of aA (b := !(df == (Fld.nul (Fld.mk k1 y2 y3 y4 y5 y6 y7 l8) v (Tree.mk aj ak al aa am)))) kz (fun aQ => ?_) (fun aQ => ?_)
   ·
    have jn : !(df = (Fld.nul (Fld.mk k1 y2 y3 y4 y5 y6 y7 l8) v (Tree.mk aj ak al aa am))) := by simpa using aQ
    refine go_sp [(10, .v (.bool false))] ab aA fun kK gy => ?_
    clear aA
    refine wp_ret ?_
    refine then_ret ?_
    refine leave gy ab.cells (v := .bool false) kz ?_
    first
     | exact (to_nm hq (by assumption) (by assumption) (by assumption)).elim
     | exact (to_len (hQ.2 ac (by assumption)).1 (by assumption)).elim
     | (exfalso; simp_all; done)
   ·
    have jo : !(df ≠ (Fld.nul (Fld.mk k1 y2 y3 y4 y5 y6 y7 l8) v (Tree.mk aj ak al aa am))) := by simpa using aQ
    refine wp_skip ?_
    refine then_normal ?_
    refine wp_seq ?_
    refine go_sp [(1, .v (.int .i64 v)), (2, .v (.bool flex)), (5, .p 0 0), (8, .p 1 0), (9, .p 2 0), (47, .v (.bool (Fld.nul (Fld.mk k1 y2 y3 y4 y5 y6 y7 l8) v (Tree.mk aj ak al aa am))))] ab aA fun kL aB => ?_
    clear aA
    refine cond_of aB (b := Fld.nul (Fld.mk k1 y2 y3 y4 y5 y6 y7 l8) v (Tree.mk aj ak al aa am)) kz (fun gz => ?_) (fun gz => ?_)
    ·
     refine go_sp [(10, .v (.bool true))] ab aB fun kM gA => ?_
     clear aB
     refine wp_ret ?_
     refine then_ret ?_
     refine leave gA ab.cells (v := .bool true) kz ?_
     exact ⟨rfl, ab.step⟩
    ·
     refine wp_skip ?_
     refine then_normal ?_
     refine wp_seq ?_
     refine go_sp [(1, .v (.int .i64 v)), (2, .v (.bool flex)), (5, .p 0 0), (8, .p 1 0), (9, .p 2 0), (49, .v (.int .i64 k1))] ab aB fun kN dp => ?_
     clear aB
     refine wp_block ?_
     refine wp_seq ?_
     refine go_sp [(1, .v (.int .i64 v)), (2, .v (.bool flex)), (5, .p 0 0), (8, .p 1 0), (9, .p 2 0), (49, .v (.int .i64 k1)), (50, .v (.bool (k1 == 8)))] ab dp fun kO aR => ?_
     clear dp
     refine cond_false aR (b := k1 == 8) kz (by simp [ac]) ?_
     refine go_region [0, 1] kz ?_
     refine go_rn [0, 1] [] [(1, .v (.int .i64 v)), (2, .v (.bool flex)), (5, .p 0 0), (8, .p 1 0), (9, .p 2 0), (49, .v (.int .i64 k1)), (50, .v (.bool (k1 == 9)))] ab aR fun kP aS => ?_
     clear aR
     refine wpOps_nil (then_normal ?_)
     refine cond_false aS (b := k1 == 9) kz (by simp [ac]) ?_
     refine go_sp [(1, .v (.int .i64 v)), (2, .v (.bool flex)), (5, .p 0 0), (8, .p 1 0), (9, .p 2 0), (49, .v (.int .i64 k1)), (59, .v (.bool (k1 == 7)))] ab aS fun kQ aT => ?_
     clear aS
     refine cond_false aT (b := k1 == 7) kz (by simp [ac]) ?_
     refine go_sp [(1, .v (.int .i64 v)), (2, .v (.bool flex)), (5, .p 0 0), (8, .p 1 0), (9, .p 2 0), (49, .v (.int .i64 k1)), (70, .v (.bool (k1 == 10)))] ab aT fun kR aU => ?_
     clear aT
     refine cond_false aU (b := k1 == 10) kz (by simp [ac]) ?_
     refine go_sp [(1, .v (.int .i64 v)), (2, .v (.bool flex)), (5, .p 0 0), (8, .p 1 0), (9, .p 2 0), (79, .v (.bool (k1 == 11)))] ab aU fun kS aV => ?_
     clear aU
     refine cond_true aV (b := k1 == 11) kz (by simpa using ac) ?_
     refine go_seq_region [0, 1, 2, 3] kz ?_
     refine go_rn [0, 1] [2, 3] [(1, .v (.int .i64 v)), (2, .v (.bool flex)), (5, .p 0 0), (9, .p 2 0), (82, .v (.slice ae aa.length af))] ab aV fun kT dq => ?_
     clear aV
     refine of_op (wpOp_call dq (f := 77) (vs := [.slice ae aa.length af]) (d := 83) kz Tryd.call77 (sThings _ _ aa (ft.move ab.step nilM ab.imm).le _) ?_)
     rintro e_ kU ⟨rfl, dr⟩
     refine ⟨_, rfl, fun kV dt => ?_⟩
     have ar := ab.next_nil dr
     have jp := ab.frN dr
     clear dq ab
     refine go_rn [3] [] [(1, .v (.int .i64 v)), (2, .v (.bool flex)), (5, .p 0 0), (9, .p 2 0), (14, .v (.slice ae ((things aa).length) af))] ar dt fun kW du => ?_
     clear dt
     refine wpOps_nil (then_normal ?_)
     refine wp_seq ?_
     refine go_sp [(1, .v (.int .i64 v)), (2, .v (.bool flex)), (5, .p 0 0), (9, .p 2 0), (14, .v (.slice ae ((things aa).length) af)), (89, .v (.bool (((ao.length : Nat) : Int) != (((things aa).length : Nat) : Int))))] ar du fun kX aC => ?_
     clear du
     refine cond_of aC (b := ((ao.length : Nat) : Int) != (((things aa).length : Nat) : Int)) kz (fun aW => ?_) (fun aW => ?_)
     ·
      have jq : ((ao.length : Nat) : Int) ≠ (((things aa).length : Nat) : Int) := by simpa using aW
      refine go_sp [(10, .v (.bool false))] ar aC fun kY gB => ?_
      clear aC
      refine wp_ret ?_
      refine then_ret ?_
      refine block_ret ?_
      refine then_ret ?_
      refine leave gB ar.cells (v := .bool false) kz ?_
      first
       | exact (to_nm hq (by assumption) (by assumption) (by assumption)).elim
       | exact (to_len (hQ.2 ac (by assumption)).1 (by assumption)).elim
       | (exfalso; simp_all; done)
     ·
      have jr : ((ao.length : Nat) : Int) = (((things aa).length : Nat) : Int) := by simpa using aW
      refine wp_skip ?_
      refine then_normal ?_
      refine go_seq_region [0, 1, 2] kz ?_
      refine go_rn [0] [1, 2] [(1, .v (.int .i64 v)), (2, .v (.bool flex)), (5, .p 0 0), (9, .p 2 0), (14, .v (.slice ae ((things aa).length) af)), (90, .v (.agg #[.int .i64 k1, .int .i64 y2, .int .i64 y3, .int .i64 y4, .int .i64 y5, .int .i64 y6, .int .i64 y7, .slice A9 l8.length ap]))] ar aC fun kZ dv => ?_
      clear aC
      refine of_op (wpOp_alloc ar dv (d := 15) (cs := [.int .i64 0, .int .i64 0, .int .i64 0, .int .i64 0, .int .i64 0, .int .i64 0, .int .i64 0, .slice none 0 0]) kz fun io k5 k6 js jt ju dw dx => ?_)
      clear dv ar
      refine of_op (wpOp_store dw dx (oi := 3) (cs := [.int .i64 k1, .int .i64 y2, .int .i64 y3, .int .i64 y4, .int .i64 y5, .int .i64 y6, .int .i64 y7, .slice A9 l8.length ap]) kz fun k7 jv aX dy => ?_)
      clear dx dw
      refine wpOps_nil (then_normal ?_)
      refine go_seq_region [0, 1, 2, 3, 4, 5, 6, 7] kz ?_
      refine go_rn [0, 1, 2] [3, 4, 5, 6, 7] [(1, .v (.int .i64 v)), (2, .v (.bool flex)), (9, .p 2 0), (14, .v (.slice ae ((things aa).length) af)), (15, .p 3 0), (92, .v (.int .i64 y7)), (93, .p 3 0)] aX dy fun k8 dz => ?_
      clear dy
      refine of_op (wpOp_store aX dz (oi := 3) (cs := [.int .i64 y7, .int .i64 y2, .int .i64 y3, .int .i64 y4, .int .i64 y5, .int .i64 y6, .int .i64 y7, .slice A9 l8.length ap]) kz fun k9 jw aY dA => ?_)
      clear dz aX
      refine go_rn [4] [5, 6, 7] [(1, .v (.int .i64 v)), (2, .v (.bool flex)), (9, .p 2 0), (14, .v (.slice ae ((things aa).length) af)), (15, .p 3 0), (94, .p 3 3)] aY dA fun la dB => ?_
      clear dA
      refine of_op (wpOp_store aY dB (oi := 3) (cs := [.int .i64 y7, .int .i64 y2, .int .i64 y3, .int .i64 (-1), .int .i64 y5, .int .i64 y6, .int .i64 y7, .slice A9 l8.length ap]) kz fun lb jx aZ dC => ?_)
      clear dB aY
      refine go_rn [6] [7] [(1, .v (.int .i64 v)), (2, .v (.bool flex)), (9, .p 2 0), (14, .v (.slice ae ((things aa).length) af)), (15, .p 3 0), (95, .p 3 4)] aZ dC fun lc dD => ?_
      clear dC
      refine of_op (wpOp_store aZ dD (oi := 3) (cs := [.int .i64 y7, .int .i64 y2, .int .i64 y3, .int .i64 (-1), .int .i64 (-1), .int .i64 y6, .int .i64 y7, .slice A9 l8.length ap]) kz fun ld jy ba dE => ?_)
      clear dD aZ
      refine wpOps_nil (then_normal ?_)
      refine wp_seq ?_
      refine go_sp [(1, .v (.int .i64 v)), (2, .v (.bool flex)), (9, .p 2 0), (14, .v (.slice ae ((things aa).length) af)), (15, .p 3 0), (97, .v (.int .i64 (((things aa).length : Nat) : Int))), (98, .v (.int .i64 0))] ba dE fun lf dF => ?_
      clear dE
      refine wp_block ?_
      have hl_ := (hQ.2 ac (by assumption)).2
      refine wp_loop_ghost (fun n_ a_ w_ => ∃ (k : Nat), n_ = (things aa).length - k ∧ k ≤ (things aa).length ∧ LInv ba 124 [⟨ik, 0, [.int .i64 k1, .int .i64 y2, .int .i64 y3, .int .i64 y4, .int .i64 y5, .int .i64 y6, .int .i64 y7, .slice A9 l8.length ap], true⟩, ⟨il, 0, [.int .i64 aj, .slice gb ak.length gc, .bool al, .slice ae aa.length af, .slice gd am.length ge], true⟩, ⟨im, 0, [.int .i64 g9, .slice hK hC.length hZ, .bool df, .slice cw ao.length fu, .slice ia hJ.length ib], true⟩, ⟨io, 0, [.int .i64 y7, .int .i64 y2, .int .i64 y3, .int .i64 (-1), .int .i64 (-1), .int .i64 y6, .int .i64 y7, .slice A9 l8.length ap], true⟩] [] [(1, .v (.int .i64 v)), (2, .v (.bool flex)), (9, .p 2 0), (14, .v (.slice ae ((things aa).length) af)), (15, .p 3 0), (97, .v (.int .i64 (((things aa).length : Nat) : Int))), (98, .v (.int .i64 ((k : Nat) : Int)))] a_ w_) ((things aa).length) ⟨0, by omega, by omega, dF.pk, ba, Fr.refl _ _ _⟩ ?_
      clear dF
      rintro lg lh li ⟨k, jz, jA, dG, au, gC⟩
      refine go_sp [(1, .v (.int .i64 v)), (2, .v (.bool flex)), (9, .p 2 0), (14, .v (.slice ae ((things aa).length) af)), (15, .p 3 0), (97, .v (.int .i64 (((things aa).length : Nat) : Int))), (98, .v (.int .i64 ((k : Nat) : Int))), (99, .v (.bool (decide (((k : Nat) : Int) < (((things aa).length : Nat) : Int)))))] au dG fun lj aD => ?_
      clear dG
      refine wp_seq ?_
      refine cond_of aD (b := decide (((k : Nat) : Int) < (((things aa).length : Nat) : Int))) kz (fun bd => ?_) (fun bd => ?_)
      ·
       have jB := of_decide_eq_true bd
       refine wp_skip ?_
       refine then_normal ?_
       refine wp_seq ?_
       refine wp_block ?_
       refine go_sp [(1, .v (.int .i64 v)), (2, .v (.bool flex)), (9, .p 2 0), (14, .v (.slice ae ((things aa).length) af)), (15, .p 3 0), (16, .v (.int .i64 ((k : Nat) : Int))), (97, .v (.int .i64 (((things aa).length : Nat) : Int))), (98, .v (.int .i64 ((k : Nat) : Int)))] au aD fun lm dH => ?_
       clear aD
       refine go_seq_drawK 14 kz au fun ln gD ag aE => ?_
       clear au
       refine go_rnD [0, 1, 2, 3, 4, 7, 8, 9] [(1, .v (.int .i64 v)), (2, .v (.bool flex)), (9, .p 2 0), (14, .v (.slice ae ((things aa).length) af)), (15, .p 3 0), (97, .v (.int .i64 (((things aa).length : Nat) : Int))), (98, .v (.int .i64 ((k : Nat) : Int))), (101, .v (.agg #[.int .i64 y7, .int .i64 y2, .int .i64 y3, .int .i64 (-1), .int .i64 (-1), .int .i64 y6, .int .i64 y7, .slice A9 l8.length ap])), (102, .v (.int .i64 v)), (103, .v (.bool flex)), (104, .v (.slice ae ((things aa).length) af)), (105, .v (.int .i64 ((k : Nat) : Int))), (109, .v (.slice cw ao.length fu)), (110, .v (.int .i64 ((k : Nat) : Int)))] 6 (panicFree_then (panicFree_block (panicFree_then (panicFree_then (panicFree_block (panicFree_then (panicFree_block (panicFree_then panicFree_body)))))))) (fun _ h => h.cells) aE dH fun lp dI => ?_
       clear dH
       obtain ⟨ip, iq, gE, jC, bf⟩ := Slots.get (things_slots ft) (i := k) (by first | omega | (have h_ : ao.length = (things aa).length := (hQ.2 ac (by assumption)).1; omega))
       obtain ⟨ir, dJ⟩ : ∃ x, (things aa)[k]? = some x := ⟨_, List.getElem?_eq_getElem (by omega)⟩
       have bg := (things_each ii) k ir dJ
       obtain ⟨cA, cB, cC, cD, cE, fv, fw, fx, fy, fz, fA, jD, rfl, bh, iu, iv, lq, lr⟩ := bg.open_
       rw [bh] at bg
       have iw := iu.small
       have ix := iv.small
       rw [bh] at bf
       refine takeC_index dI (i := 5) (t := 23) (A := ae) (m := ((things aa).length)) (q := ((k : Nat) : Int)) (d := 106) kz (e := 26) (size := 5) (bytes := 88) kz gE rfl (by first | omega | (have h_ : ao.length = (things aa).length := (hQ.2 ac (by assumption)).1; omega)) kz kz (panicFree_then (panicFree_block (panicFree_then (panicFree_then (panicFree_block (panicFree_then (panicFree_block (panicFree_then panicFree_body)))))))) aE fun ls dK => ?_
       clear dI
       refine takeC_load dK (i := 6) (t := 26) (b := ip) (o := iq + k * 5) (d := 107) kz (cs := [.int .i64 cA, .slice fv cB.length fw, .bool cC, .slice fx cD.length fy, .slice fz cE.length fA]) (v := .agg #[.int .i64 cA, .slice fv cB.length fw, .bool cC, .slice fx cD.length fy, .slice fz cE.length fA]) kz (fun w' h' => (AtF.move bf (TT.step0 ag h') nilM keepF).at_) kz kz (panicFree_then (panicFree_block (panicFree_then (panicFree_then (panicFree_block (panicFree_then (panicFree_block (panicFree_then panicFree_body)))))))) aE fun lu dL => ?_
       clear dK
       obtain ⟨iy, iz, gF, jE, bi⟩ := Slots.get ic (i := k) (by first | omega | (have h_ : ao.length = (things aa).length := (hQ.2 ac (by assumption)).1; omega))
       obtain ⟨iA, dM⟩ : ∃ x, ao[k]? = some x := ⟨_, List.getElem?_eq_getElem (by omega)⟩
       have bj := ij k iA dM
       obtain ⟨cG, cH, cI, cJ, cK, fB, fC, fD, fE, fF, fG, jF, rfl, bk, iB, iC, lv, lw⟩ := bj.open_
       rw [bk] at bj
       have iD := iB.small
       have iE := iC.small
       rw [bk] at bi
       refine takeC_index dL (i := 10) (t := 23) (A := cw) (m := ao.length) (q := ((k : Nat) : Int)) (d := 111) kz (e := 26) (size := 5) (bytes := 88) kz gF rfl (by first | omega | (have h_ : ao.length = (things aa).length := (hQ.2 ac (by assumption)).1; omega)) kz kz (panicFree_then (panicFree_block (panicFree_then (panicFree_then (panicFree_block (panicFree_then (panicFree_block (panicFree_then panicFree_body)))))))) aE fun lx dN => ?_
       clear dL
       refine takeC_load dN (i := 11) (t := 26) (b := iy) (o := iz + k * 5) (d := 112) kz (cs := [.int .i64 cG, .slice fB cH.length fC, .bool cI, .slice fD cJ.length fE, .slice fF cK.length fG]) (v := .agg #[.int .i64 cG, .slice fB cH.length fC, .bool cI, .slice fD cJ.length fE, .slice fF cK.length fG]) kz (fun w' h' => (AtF.move bi (TT.step0 ag h') nilM keepF).at_) kz kz (panicFree_then (panicFree_block (panicFree_then (panicFree_then (panicFree_block (panicFree_then (panicFree_block (panicFree_then panicFree_body)))))))) aE fun ly dO => ?_
       clear dN
       refine anyC_op (i := 12) kz (wpOp_call dO (f := 45) (vs := [.agg #[.int .i64 y7, .int .i64 y2, .int .i64 y3, .int .i64 (-1), .int .i64 (-1), .int .i64 y6, .int .i64 y7, .slice A9 l8.length ap], .int .i64 v, .bool flex, .agg #[.int .i64 cA, .slice fv cB.length fw, .bool cC, .slice fx cD.length fy, .slice fz cE.length fA], .agg #[.int .i64 cG, .slice fB cH.length fC, .bool cI, .slice fD cJ.length fE, .slice fF cK.length fG]]) (d := 113) kz Tryd.call45 ( sTold0 hT _ _ _ (Tree.mk cA cB cC cD cE) _ (Tree.mk cG cH cI cJ cK) _ _ (FldR.mk (l := l8) fr (g8.move ag.step nilM ag.imm) (fun i_ x_ h_ => ((ig i_ x_ h_).move ag.step nilM ag.imm))) hpl hof (bg.move ag.step nilM ag.imm) (bj.move ag.step nilM ag.imm) (hl_ _ _ _ dJ dM)) ?_)
       rintro e_ lz ⟨rfl, dP⟩
       refine ⟨_, rfl, fun lA dQ => ?_⟩
       have bn := ag.next_nil dP
       have dR := ag.frN dP
       clear dO
       have dS := TT.ofW dR bn
       refine ⟨fun _ => dS, ?_⟩
       refine go_rnD [13] [(1, .v (.int .i64 v)), (2, .v (.bool flex)), (9, .p 2 0), (14, .v (.slice ae ((things aa).length) af)), (15, .p 3 0), (97, .v (.int .i64 (((things aa).length : Nat) : Int))), (98, .v (.int .i64 ((k : Nat) : Int))), (114, .v (.bool false))] 0 (panicFree_then (panicFree_block (panicFree_then (panicFree_then (panicFree_block (panicFree_then (panicFree_block (panicFree_then panicFree_body)))))))) (fun _ h => h.cells) dS dQ fun lB bo => ?_
       clear dQ
       refine anyC_done kz ?_ _
       refine then_normal ?_
       refine cond_false bo (b := false) kz rfl ?_
       refine wp_skip ?_
       refine block_normal ?_
       refine then_normal ?_
       refine go_region [0, 1] kz ?_
       refine go_rn [0, 1] [] [(1, .v (.int .i64 v)), (2, .v (.bool flex)), (9, .p 2 0), (14, .v (.slice ae ((things aa).length) af)), (15, .p 3 0), (97, .v (.int .i64 (((things aa).length : Nat) : Int))), (98, .v (.int .i64 (IntKind.i64.wrap (((k : Nat) : Int) + 1))))] bn bo fun lC dT => ?_
       clear bo
       refine wpOps_nil (then_normal ?_)
       have gG : IntKind.i64.wrap (((k : Nat) : Int) + 1) = ((k + 1 : Nat) : Int) := wrap_succ (by omega)
       rw [gG] at dT
       exact ⟨(things aa).length - (k + 1), by omega, k + 1, rfl, by omega, dT.pk, bn, ((gC.trans gD).trans dR)⟩
      ·
       have jG := of_decide_eq_false bd
       refine wp_exit ?_
       refine then_exit ?_
       refine then_exit ?_
       refine block_exit ?_
       refine then_normal ?_
       refine go_sp [(10, .v (.bool true))] au aD fun lD gH => ?_
       clear aD
       refine wp_ret ?_
       refine block_ret ?_
       refine then_ret ?_
       refine leave gH au.cells (v := .bool true) kz ?_
       exact ⟨rfl, au.step⟩
  ·
   have jH := of_decide_eq_false az
   have dU := aN.cast (env' := [(1, .v (.int .i64 v)), (2, .v (.bool flex)), (5, .p 0 0), (8, .p 1 0), (9, .p 2 0), (11, .v (.bool (Fld.nul (Fld.mk k1 y2 y3 y4 y5 y6 y7 l8) v (Tree.mk aj ak al aa am)))), (41, .v (.bool false))]) (by rw [az])
   clear aN
   refine go_rn [12, 13, 14, 15, 16] [] [(1, .v (.int .i64 v)), (2, .v (.bool flex)), (5, .p 0 0), (8, .p 1 0), (9, .p 2 0), (11, .v (.bool (Fld.nul (Fld.mk k1 y2 y3 y4 y5 y6 y7 l8) v (Tree.mk aj ak al aa am)))), (46, .v (.bool false))] ab dU fun lE bp => ?_
   clear dU
   refine wpOps_nil (then_normal ?_)
   refine cond_false bp (b := false) kz rfl ?_
   refine wp_skip ?_
   refine then_normal ?_
   refine wp_seq ?_
   refine go_sp [(1, .v (.int .i64 v)), (2, .v (.bool flex)), (5, .p 0 0), (8, .p 1 0), (9, .p 2 0), (47, .v (.bool (Fld.nul (Fld.mk k1 y2 y3 y4 y5 y6 y7 l8) v (Tree.mk aj ak al aa am))))] ab bp fun lF aF => ?_
   clear bp
   refine cond_of aF (b := Fld.nul (Fld.mk k1 y2 y3 y4 y5 y6 y7 l8) v (Tree.mk aj ak al aa am)) kz (fun gI => ?_) (fun gI => ?_)
   ·
    refine go_sp [(10, .v (.bool true))] ab aF fun lG gJ => ?_
    clear aF
    refine wp_ret ?_
    refine then_ret ?_
    refine leave gJ ab.cells (v := .bool true) kz ?_
    exact ⟨rfl, ab.step⟩
   ·
    refine wp_skip ?_
    refine then_normal ?_
    refine wp_seq ?_
    refine go_sp [(1, .v (.int .i64 v)), (2, .v (.bool flex)), (5, .p 0 0), (8, .p 1 0), (9, .p 2 0), (49, .v (.int .i64 k1))] ab aF fun lH dV => ?_
    clear aF
    refine wp_block ?_
    refine wp_seq ?_
    refine go_sp [(1, .v (.int .i64 v)), (2, .v (.bool flex)), (5, .p 0 0), (8, .p 1 0), (9, .p 2 0), (49, .v (.int .i64 k1)), (50, .v (.bool (k1 == 8)))] ab dV fun lI bq => ?_
    clear dV
    refine cond_false bq (b := k1 == 8) kz (by simp [ac]) ?_
    refine go_region [0, 1] kz ?_
    refine go_rn [0, 1] [] [(1, .v (.int .i64 v)), (2, .v (.bool flex)), (5, .p 0 0), (8, .p 1 0), (9, .p 2 0), (49, .v (.int .i64 k1)), (50, .v (.bool (k1 == 9)))] ab bq fun lJ bt => ?_
    clear bq
    refine wpOps_nil (then_normal ?_)
    refine cond_false bt (b := k1 == 9) kz (by simp [ac]) ?_
    refine go_sp [(1, .v (.int .i64 v)), (2, .v (.bool flex)), (5, .p 0 0), (8, .p 1 0), (9, .p 2 0), (49, .v (.int .i64 k1)), (59, .v (.bool (k1 == 7)))] ab bt fun lK bu => ?_
    clear bt
    refine cond_false bu (b := k1 == 7) kz (by simp [ac]) ?_
    refine go_sp [(1, .v (.int .i64 v)), (2, .v (.bool flex)), (5, .p 0 0), (8, .p 1 0), (9, .p 2 0), (49, .v (.int .i64 k1)), (70, .v (.bool (k1 == 10)))] ab bu fun lL bw => ?_
    clear bu
    refine cond_false bw (b := k1 == 10) kz (by simp [ac]) ?_
    refine go_sp [(1, .v (.int .i64 v)), (2, .v (.bool flex)), (5, .p 0 0), (8, .p 1 0), (9, .p 2 0), (79, .v (.bool (k1 == 11)))] ab bw fun lM bx => ?_
    clear bw
    refine cond_true bx (b := k1 == 11) kz (by simpa using ac) ?_
    refine go_seq_region [0, 1, 2, 3] kz ?_
    refine go_rn [0, 1] [2, 3] [(1, .v (.int .i64 v)), (2, .v (.bool flex)), (5, .p 0 0), (9, .p 2 0), (82, .v (.slice ae aa.length af))] ab bx fun lN dW => ?_
    clear bx
    refine of_op (wpOp_call dW (f := 77) (vs := [.slice ae aa.length af]) (d := 83) kz Tryd.call77 (sThings _ _ aa (ft.move ab.step nilM ab.imm).le _) ?_)
    rintro e_ lO ⟨rfl, dX⟩
    refine ⟨_, rfl, fun lP dY => ?_⟩
    have av := ab.next_nil dX
    have jI := ab.frN dX
    clear dW ab
    refine go_rn [3] [] [(1, .v (.int .i64 v)), (2, .v (.bool flex)), (5, .p 0 0), (9, .p 2 0), (14, .v (.slice ae ((things aa).length) af))] av dY fun lQ dZ => ?_
    clear dY
    refine wpOps_nil (then_normal ?_)
    refine wp_seq ?_
    refine go_sp [(1, .v (.int .i64 v)), (2, .v (.bool flex)), (5, .p 0 0), (9, .p 2 0), (14, .v (.slice ae ((things aa).length) af)), (89, .v (.bool (((ao.length : Nat) : Int) != (((things aa).length : Nat) : Int))))] av dZ fun lR aG => ?_
    clear dZ
    refine cond_of aG (b := ((ao.length : Nat) : Int) != (((things aa).length : Nat) : Int)) kz (fun bz => ?_) (fun bz => ?_)
    ·
     have jJ : ((ao.length : Nat) : Int) ≠ (((things aa).length : Nat) : Int) := by simpa using bz
     refine go_sp [(10, .v (.bool false))] av aG fun lS gK => ?_
     clear aG
     refine wp_ret ?_
     refine then_ret ?_
     refine block_ret ?_
     refine then_ret ?_
     refine leave gK av.cells (v := .bool false) kz ?_
     first
      | exact (to_nm hq (by assumption) (by assumption) (by assumption)).elim
      | exact (to_len (hQ.2 ac (by assumption)).1 (by assumption)).elim
      | (exfalso; simp_all; done)
    ·
     have jK : ((ao.length : Nat) : Int) = (((things aa).length : Nat) : Int) := by simpa using bz
     refine wp_skip ?_
     refine then_normal ?_
     refine go_seq_region [0, 1, 2] kz ?_
     refine go_rn [0] [1, 2] [(1, .v (.int .i64 v)), (2, .v (.bool flex)), (5, .p 0 0), (9, .p 2 0), (14, .v (.slice ae ((things aa).length) af)), (90, .v (.agg #[.int .i64 k1, .int .i64 y2, .int .i64 y3, .int .i64 y4, .int .i64 y5, .int .i64 y6, .int .i64 y7, .slice A9 l8.length ap]))] av aG fun lT d5 => ?_
     clear aG
     refine of_op (wpOp_alloc av d5 (d := 15) (cs := [.int .i64 0, .int .i64 0, .int .i64 0, .int .i64 0, .int .i64 0, .int .i64 0, .int .i64 0, .slice none 0 0]) kz fun iF lU lV jL jM jN d6 d7 => ?_)
     clear d5 av
     refine of_op (wpOp_store d6 d7 (oi := 3) (cs := [.int .i64 k1, .int .i64 y2, .int .i64 y3, .int .i64 y4, .int .i64 y5, .int .i64 y6, .int .i64 y7, .slice A9 l8.length ap]) kz fun lW jO bA d8 => ?_)
     clear d7 d6
     refine wpOps_nil (then_normal ?_)
     refine go_seq_region [0, 1, 2, 3, 4, 5, 6, 7] kz ?_
     refine go_rn [0, 1, 2] [3, 4, 5, 6, 7] [(1, .v (.int .i64 v)), (2, .v (.bool flex)), (9, .p 2 0), (14, .v (.slice ae ((things aa).length) af)), (15, .p 3 0), (92, .v (.int .i64 y7)), (93, .p 3 0)] bA d8 fun lX d9 => ?_
     clear d8
     refine of_op (wpOp_store bA d9 (oi := 3) (cs := [.int .i64 y7, .int .i64 y2, .int .i64 y3, .int .i64 y4, .int .i64 y5, .int .i64 y6, .int .i64 y7, .slice A9 l8.length ap]) kz fun lY jP bB ea => ?_)
     clear d9 bA
     refine go_rn [4] [5, 6, 7] [(1, .v (.int .i64 v)), (2, .v (.bool flex)), (9, .p 2 0), (14, .v (.slice ae ((things aa).length) af)), (15, .p 3 0), (94, .p 3 3)] bB ea fun lZ eb => ?_
     clear ea
     refine of_op (wpOp_store bB eb (oi := 3) (cs := [.int .i64 y7, .int .i64 y2, .int .i64 y3, .int .i64 (-1), .int .i64 y5, .int .i64 y6, .int .i64 y7, .slice A9 l8.length ap]) kz fun l0 jQ bC ec => ?_)
     clear eb bB
     refine go_rn [6] [7] [(1, .v (.int .i64 v)), (2, .v (.bool flex)), (9, .p 2 0), (14, .v (.slice ae ((things aa).length) af)), (15, .p 3 0), (95, .p 3 4)] bC ec fun l3 ee => ?_
     clear ec
     refine of_op (wpOp_store bC ee (oi := 3) (cs := [.int .i64 y7, .int .i64 y2, .int .i64 y3, .int .i64 (-1), .int .i64 (-1), .int .i64 y6, .int .i64 y7, .slice A9 l8.length ap]) kz fun l5 jR bD ef => ?_)
     clear ee bC
     refine wpOps_nil (then_normal ?_)
     refine wp_seq ?_
     refine go_sp [(1, .v (.int .i64 v)), (2, .v (.bool flex)), (9, .p 2 0), (14, .v (.slice ae ((things aa).length) af)), (15, .p 3 0), (97, .v (.int .i64 (((things aa).length : Nat) : Int))), (98, .v (.int .i64 0))] bD ef fun l6 eg => ?_
     clear ef
     refine wp_block ?_
     have hl_ := (hQ.2 ac (by assumption)).2
     refine wp_loop_ghost (fun n_ a_ w_ => ∃ (k : Nat), n_ = (things aa).length - k ∧ k ≤ (things aa).length ∧ LInv bD 124 [⟨ik, 0, [.int .i64 k1, .int .i64 y2, .int .i64 y3, .int .i64 y4, .int .i64 y5, .int .i64 y6, .int .i64 y7, .slice A9 l8.length ap], true⟩, ⟨il, 0, [.int .i64 aj, .slice gb ak.length gc, .bool al, .slice ae aa.length af, .slice gd am.length ge], true⟩, ⟨im, 0, [.int .i64 g9, .slice hK hC.length hZ, .bool df, .slice cw ao.length fu, .slice ia hJ.length ib], true⟩, ⟨iF, 0, [.int .i64 y7, .int .i64 y2, .int .i64 y3, .int .i64 (-1), .int .i64 (-1), .int .i64 y6, .int .i64 y7, .slice A9 l8.length ap], true⟩] [] [(1, .v (.int .i64 v)), (2, .v (.bool flex)), (9, .p 2 0), (14, .v (.slice ae ((things aa).length) af)), (15, .p 3 0), (97, .v (.int .i64 (((things aa).length : Nat) : Int))), (98, .v (.int .i64 ((k : Nat) : Int)))] a_ w_) ((things aa).length) ⟨0, by omega, by omega, eg.pk, bD, Fr.refl _ _ _⟩ ?_
     clear eg
     rintro l7 l9 ma ⟨k, jS, jT, eh, aw, gL⟩
     refine go_sp [(1, .v (.int .i64 v)), (2, .v (.bool flex)), (9, .p 2 0), (14, .v (.slice ae ((things aa).length) af)), (15, .p 3 0), (97, .v (.int .i64 (((things aa).length : Nat) : Int))), (98, .v (.int .i64 ((k : Nat) : Int))), (99, .v (.bool (decide (((k : Nat) : Int) < (((things aa).length : Nat) : Int)))))] aw eh fun mc aH => ?_
     clear eh
     refine wp_seq ?_
     refine cond_of aH (b := decide (((k : Nat) : Int) < (((things aa).length : Nat) : Int))) kz (fun bE => ?_) (fun bE => ?_)
     ·
      have jU := of_decide_eq_true bE
      refine wp_skip ?_
      refine then_normal ?_
      refine wp_seq ?_
      refine wp_block ?_
      refine go_sp [(1, .v (.int .i64 v)), (2, .v (.bool flex)), (9, .p 2 0), (14, .v (.slice ae ((things aa).length) af)), (15, .p 3 0), (16, .v (.int .i64 ((k : Nat) : Int))), (97, .v (.int .i64 (((things aa).length : Nat) : Int))), (98, .v (.int .i64 ((k : Nat) : Int)))] aw aH fun md ei => ?_
      clear aH
      refine go_seq_drawK 14 kz aw fun me gM ah aI => ?_
      clear aw
      refine go_rnD [0, 1, 2, 3, 4, 7, 8, 9] [(1, .v (.int .i64 v)), (2, .v (.bool flex)), (9, .p 2 0), (14, .v (.slice ae ((things aa).length) af)), (15, .p 3 0), (97, .v (.int .i64 (((things aa).length : Nat) : Int))), (98, .v (.int .i64 ((k : Nat) : Int))), (101, .v (.agg #[.int .i64 y7, .int .i64 y2, .int .i64 y3, .int .i64 (-1), .int .i64 (-1), .int .i64 y6, .int .i64 y7, .slice A9 l8.length ap])), (102, .v (.int .i64 v)), (103, .v (.bool flex)), (104, .v (.slice ae ((things aa).length) af)), (105, .v (.int .i64 ((k : Nat) : Int))), (109, .v (.slice cw ao.length fu)), (110, .v (.int .i64 ((k : Nat) : Int)))] 6 (panicFree_then (panicFree_block (panicFree_then (panicFree_then (panicFree_block (panicFree_then (panicFree_block (panicFree_then panicFree_body)))))))) (fun _ h => h.cells) aI ei fun mf ej => ?_
      clear ei
      obtain ⟨iG, iH, gN, jV, bF⟩ := Slots.get (things_slots ft) (i := k) (by first | omega | (have h_ : ao.length = (things aa).length := (hQ.2 ac (by assumption)).1; omega))
      obtain ⟨iI, ek⟩ : ∃ x, (things aa)[k]? = some x := ⟨_, List.getElem?_eq_getElem (by omega)⟩
      have bG := (things_each ii) k iI ek
      obtain ⟨cL, cM, cN, cO, cP, fH, fI, fJ, fK, fL, fM, jW, rfl, bH, iJ, iK, mg, mh⟩ := bG.open_
      rw [bH] at bG
      have iL := iJ.small
      have iM := iK.small
      rw [bH] at bF
      refine takeC_index ej (i := 5) (t := 23) (A := ae) (m := ((things aa).length)) (q := ((k : Nat) : Int)) (d := 106) kz (e := 26) (size := 5) (bytes := 88) kz gN rfl (by first | omega | (have h_ : ao.length = (things aa).length := (hQ.2 ac (by assumption)).1; omega)) kz kz (panicFree_then (panicFree_block (panicFree_then (panicFree_then (panicFree_block (panicFree_then (panicFree_block (panicFree_then panicFree_body)))))))) aI fun mi em => ?_
      clear ej
      refine takeC_load em (i := 6) (t := 26) (b := iG) (o := iH + k * 5) (d := 107) kz (cs := [.int .i64 cL, .slice fH cM.length fI, .bool cN, .slice fJ cO.length fK, .slice fL cP.length fM]) (v := .agg #[.int .i64 cL, .slice fH cM.length fI, .bool cN, .slice fJ cO.length fK, .slice fL cP.length fM]) kz (fun w' h' => (AtF.move bF (TT.step0 ah h') nilM keepF).at_) kz kz (panicFree_then (panicFree_block (panicFree_then (panicFree_then (panicFree_block (panicFree_then (panicFree_block (panicFree_then panicFree_body)))))))) aI fun mj eo => ?_
      clear em
      obtain ⟨iN, iO, gO, jX, bI⟩ := Slots.get ic (i := k) (by first | omega | (have h_ : ao.length = (things aa).length := (hQ.2 ac (by assumption)).1; omega))
      obtain ⟨iP, ep⟩ : ∃ x, ao[k]? = some x := ⟨_, List.getElem?_eq_getElem (by omega)⟩
      have bJ := ij k iP ep
      obtain ⟨cQ, cR, cS, cT, cU, fN, fO, fP, fQ, fR, fS, jY, rfl, bK, iQ, iR, ml, mn⟩ := bJ.open_
      rw [bK] at bJ
      have iS := iQ.small
      have iT := iR.small
      rw [bK] at bI
      refine takeC_index eo (i := 10) (t := 23) (A := cw) (m := ao.length) (q := ((k : Nat) : Int)) (d := 111) kz (e := 26) (size := 5) (bytes := 88) kz gO rfl (by first | omega | (have h_ : ao.length = (things aa).length := (hQ.2 ac (by assumption)).1; omega)) kz kz (panicFree_then (panicFree_block (panicFree_then (panicFree_then (panicFree_block (panicFree_then (panicFree_block (panicFree_then panicFree_body)))))))) aI fun mo eu => ?_
      clear eo
      refine takeC_load eu (i := 11) (t := 26) (b := iN) (o := iO + k * 5) (d := 112) kz (cs := [.int .i64 cQ, .slice fN cR.length fO, .bool cS, .slice fP cT.length fQ, .slice fR cU.length fS]) (v := .agg #[.int .i64 cQ, .slice fN cR.length fO, .bool cS, .slice fP cT.length fQ, .slice fR cU.length fS]) kz (fun w' h' => (AtF.move bI (TT.step0 ah h') nilM keepF).at_) kz kz (panicFree_then (panicFree_block (panicFree_then (panicFree_then (panicFree_block (panicFree_then (panicFree_block (panicFree_then panicFree_body)))))))) aI fun mp ev => ?_
      clear eu
      refine anyC_op (i := 12) kz (wpOp_call ev (f := 45) (vs := [.agg #[.int .i64 y7, .int .i64 y2, .int .i64 y3, .int .i64 (-1), .int .i64 (-1), .int .i64 y6, .int .i64 y7, .slice A9 l8.length ap], .int .i64 v, .bool flex, .agg #[.int .i64 cL, .slice fH cM.length fI, .bool cN, .slice fJ cO.length fK, .slice fL cP.length fM], .agg #[.int .i64 cQ, .slice fN cR.length fO, .bool cS, .slice fP cT.length fQ, .slice fR cU.length fS]]) (d := 113) kz Tryd.call45 ( sTold0 hT _ _ _ (Tree.mk cL cM cN cO cP) _ (Tree.mk cQ cR cS cT cU) _ _ (FldR.mk (l := l8) fr (g8.move ah.step nilM ah.imm) (fun i_ x_ h_ => ((ig i_ x_ h_).move ah.step nilM ah.imm))) hpl hof (bG.move ah.step nilM ah.imm) (bJ.move ah.step nilM ah.imm) (hl_ _ _ _ ek ep)) ?_)
      rintro e_ mq ⟨rfl, ew⟩
      refine ⟨_, rfl, fun mr ey => ?_⟩
      have bL := ah.next_nil ew
      have ez := ah.frN ew
      clear ev
      have eB := TT.ofW ez bL
      refine ⟨fun _ => eB, ?_⟩
      refine go_rnD [13] [(1, .v (.int .i64 v)), (2, .v (.bool flex)), (9, .p 2 0), (14, .v (.slice ae ((things aa).length) af)), (15, .p 3 0), (97, .v (.int .i64 (((things aa).length : Nat) : Int))), (98, .v (.int .i64 ((k : Nat) : Int))), (114, .v (.bool false))] 0 (panicFree_then (panicFree_block (panicFree_then (panicFree_then (panicFree_block (panicFree_then (panicFree_block (panicFree_then panicFree_body)))))))) (fun _ h => h.cells) eB ey fun mt bM => ?_
      clear ey
      refine anyC_done kz ?_ _
      refine then_normal ?_
      refine cond_false bM (b := false) kz rfl ?_
      refine wp_skip ?_
      refine block_normal ?_
      refine then_normal ?_
      refine go_region [0, 1] kz ?_
      refine go_rn [0, 1] [] [(1, .v (.int .i64 v)), (2, .v (.bool flex)), (9, .p 2 0), (14, .v (.slice ae ((things aa).length) af)), (15, .p 3 0), (97, .v (.int .i64 (((things aa).length : Nat) : Int))), (98, .v (.int .i64 (IntKind.i64.wrap (((k : Nat) : Int) + 1))))] bL bM fun mu eC => ?_
      clear bM
      refine wpOps_nil (then_normal ?_)
      have gP : IntKind.i64.wrap (((k : Nat) : Int) + 1) = ((k + 1 : Nat) : Int) := wrap_succ (by omega)
      rw [gP] at eC
      exact ⟨(things aa).length - (k + 1), by omega, k + 1, rfl, by omega, eC.pk, bL, ((gL.trans gM).trans ez)⟩
     ·
      have jZ := of_decide_eq_false bE
      refine wp_exit ?_
      refine then_exit ?_
      refine then_exit ?_
      refine block_exit ?_
      refine then_normal ?_
      refine go_sp [(10, .v (.bool true))] aw aH fun mw gQ => ?_
      clear aH
      refine wp_ret ?_
      refine block_ret ?_
      refine then_ret ?_
      refine leave gQ aw.cells (v := .bool true) kz ?_
      exact ⟨rfl, aw.step⟩
 ·
  have j0 := of_decide_eq_false aP
  have eD := cz.cast (env' := [(1, .v (.int .i64 v)), (2, .v (.bool flex)), (5, .p 0 0), (8, .p 1 0), (9, .p 2 0), (11, .v (.bool (Fld.nul (Fld.mk k1 y2 y3 y4 y5 y6 y7 l8) v (Tree.mk aj ak al aa am)))), (24, .v (.bool false))]) (by rw [aP])
  clear cz
  refine go_rn [4, 5, 6, 7, 8, 9] [] [(1, .v (.int .i64 v)), (2, .v (.bool flex)), (5, .p 0 0), (8, .p 1 0), (9, .p 2 0), (11, .v (.bool (Fld.nul (Fld.mk k1 y2 y3 y4 y5 y6 y7 l8) v (Tree.mk aj ak al aa am)))), (12, .v (.bool false))] ab eD fun mx eE => ?_
  clear eD
  refine wpOps_nil (then_normal ?_)
  refine wp_seq ?_
  refine go_seq_region [0, 1, 2, 3, 4, 5, 6, 7, 8, 9, 10, 11, 12, 13, 14, 15, 16] kz ?_
  refine go_rn [0, 1, 2, 3] [4, 5, 6, 7, 8, 9, 10, 11, 12, 13, 14, 15, 16] [(1, .v (.int .i64 v)), (2, .v (.bool flex)), (5, .p 0 0), (8, .p 1 0), (9, .p 2 0), (11, .v (.bool (Fld.nul (Fld.mk k1 y2 y3 y4 y5 y6 y7 l8) v (Tree.mk aj ak al aa am)))), (12, .v (.bool false)), (33, .v (.bool (k1 == 8)))] ab eE fun my eF => ?_
  clear eE
  have gR : (k1 == 8) = false := by simp [ac]
  have eG := eF.cast (env' := [(1, .v (.int .i64 v)), (2, .v (.bool flex)), (5, .p 0 0), (8, .p 1 0), (9, .p 2 0), (11, .v (.bool (Fld.nul (Fld.mk k1 y2 y3 y4 y5 y6 y7 l8) v (Tree.mk aj ak al aa am)))), (12, .v (.bool false)), (33, .v (.bool false))]) (by rw [gR])
  clear eF
  refine go_rn [4, 5, 6, 7, 8] [9, 10, 11, 12, 13, 14, 15, 16] [(1, .v (.int .i64 v)), (2, .v (.bool flex)), (5, .p 0 0), (8, .p 1 0), (9, .p 2 0), (11, .v (.bool (Fld.nul (Fld.mk k1 y2 y3 y4 y5 y6 y7 l8) v (Tree.mk aj ak al aa am)))), (12, .v (.bool false)), (38, .v (.bool (k1 == 10)))] ab eG fun mz eH => ?_
  clear eG
  have gS : (k1 == 10) = false := by simp [ac]
  have eI := eH.cast (env' := [(1, .v (.int .i64 v)), (2, .v (.bool flex)), (5, .p 0 0), (8, .p 1 0), (9, .p 2 0), (11, .v (.bool (Fld.nul (Fld.mk k1 y2 y3 y4 y5 y6 y7 l8) v (Tree.mk aj ak al aa am)))), (12, .v (.bool false)), (38, .v (.bool false))]) (by rw [gS])
  clear eH
  refine go_rn [9, 10, 11, 12, 13, 14, 15, 16] [] [(1, .v (.int .i64 v)), (2, .v (.bool flex)), (5, .p 0 0), (8, .p 1 0), (9, .p 2 0), (11, .v (.bool (Fld.nul (Fld.mk k1 y2 y3 y4 y5 y6 y7 l8) v (Tree.mk aj ak al aa am)))), (46, .v (.bool false))] ab eI fun mA bN => ?_
  clear eI
  refine wpOps_nil (then_normal ?_)
  refine cond_false bN (b := false) kz rfl ?_
  refine wp_skip ?_
  refine then_normal ?_
  refine wp_seq ?_
  refine go_sp [(1, .v (.int .i64 v)), (2, .v (.bool flex)), (5, .p 0 0), (8, .p 1 0), (9, .p 2 0), (47, .v (.bool (Fld.nul (Fld.mk k1 y2 y3 y4 y5 y6 y7 l8) v (Tree.mk aj ak al aa am))))] ab bN fun mB aJ => ?_
  clear bN
  refine cond_of aJ (b := Fld.nul (Fld.mk k1 y2 y3 y4 y5 y6 y7 l8) v (Tree.mk aj ak al aa am)) kz (fun gT => ?_) (fun gT => ?_)
  ·
   refine go_sp [(10, .v (.bool true))] ab aJ fun mC gU => ?_
   clear aJ
   refine wp_ret ?_
   refine then_ret ?_
   refine leave gU ab.cells (v := .bool true) kz ?_
   exact ⟨rfl, ab.step⟩
  ·
   refine wp_skip ?_
   refine then_normal ?_
   refine wp_seq ?_
   refine go_sp [(1, .v (.int .i64 v)), (2, .v (.bool flex)), (5, .p 0 0), (8, .p 1 0), (9, .p 2 0), (49, .v (.int .i64 k1))] ab aJ fun mD eJ => ?_
   clear aJ
   refine wp_block ?_
   refine wp_seq ?_
   refine go_sp [(1, .v (.int .i64 v)), (2, .v (.bool flex)), (5, .p 0 0), (8, .p 1 0), (9, .p 2 0), (49, .v (.int .i64 k1)), (50, .v (.bool (k1 == 8)))] ab eJ fun mF bO => ?_
   clear eJ
   refine cond_false bO (b := k1 == 8) kz (by simp [ac]) ?_
   refine go_region [0, 1] kz ?_
   refine go_rn [0, 1] [] [(1, .v (.int .i64 v)), (2, .v (.bool flex)), (5, .p 0 0), (8, .p 1 0), (9, .p 2 0), (49, .v (.int .i64 k1)), (50, .v (.bool (k1 == 9)))] ab bO fun mG bP => ?_
   clear bO
   refine wpOps_nil (then_normal ?_)
   refine cond_false bP (b := k1 == 9) kz (by simp [ac]) ?_
   refine go_sp [(1, .v (.int .i64 v)), (2, .v (.bool flex)), (5, .p 0 0), (8, .p 1 0), (9, .p 2 0), (49, .v (.int .i64 k1)), (59, .v (.bool (k1 == 7)))] ab bP fun mH bQ => ?_
   clear bP
   refine cond_false bQ (b := k1 == 7) kz (by simp [ac]) ?_
   refine go_sp [(1, .v (.int .i64 v)), (2, .v (.bool flex)), (5, .p 0 0), (8, .p 1 0), (9, .p 2 0), (49, .v (.int .i64 k1)), (70, .v (.bool (k1 == 10)))] ab bQ fun mI bR => ?_
   clear bQ
   refine cond_false bR (b := k1 == 10) kz (by simp [ac]) ?_
   refine go_sp [(1, .v (.int .i64 v)), (2, .v (.bool flex)), (5, .p 0 0), (8, .p 1 0), (9, .p 2 0), (79, .v (.bool (k1 == 11)))] ab bR fun mJ bS => ?_
   clear bR
   refine cond_true bS (b := k1 == 11) kz (by simpa using ac) ?_
   refine go_seq_region [0, 1, 2, 3] kz ?_
   refine go_rn [0, 1] [2, 3] [(1, .v (.int .i64 v)), (2, .v (.bool flex)), (5, .p 0 0), (9, .p 2 0), (82, .v (.slice ae aa.length af))] ab bS fun mK eK => ?_
   clear bS
   refine of_op (wpOp_call eK (f := 77) (vs := [.slice ae aa.length af]) (d := 83) kz Tryd.call77 (sThings _ _ aa (ft.move ab.step nilM ab.imm).le _) ?_)
   rintro e_ mL ⟨rfl, eL⟩
   refine ⟨_, rfl, fun mM eM => ?_⟩
   have ax := ab.next_nil eL
   have j1 := ab.frN eL
   clear eK ab
   refine go_rn [3] [] [(1, .v (.int .i64 v)), (2, .v (.bool flex)), (5, .p 0 0), (9, .p 2 0), (14, .v (.slice ae ((things aa).length) af))] ax eM fun mN eN => ?_
   clear eM
   refine wpOps_nil (then_normal ?_)
   refine wp_seq ?_
   refine go_sp [(1, .v (.int .i64 v)), (2, .v (.bool flex)), (5, .p 0 0), (9, .p 2 0), (14, .v (.slice ae ((things aa).length) af)), (89, .v (.bool (((ao.length : Nat) : Int) != (((things aa).length : Nat) : Int))))] ax eN fun mO aK => ?_
   clear eN
   refine cond_of aK (b := ((ao.length : Nat) : Int) != (((things aa).length : Nat) : Int)) kz (fun bT => ?_) (fun bT => ?_)
   ·
    have j2 : ((ao.length : Nat) : Int) ≠ (((things aa).length : Nat) : Int) := by simpa using bT
    refine go_sp [(10, .v (.bool false))] ax aK fun mQ gV => ?_
    clear aK
    refine wp_ret ?_
    refine then_ret ?_
    refine block_ret ?_
    refine then_ret ?_
    refine leave gV ax.cells (v := .bool false) kz ?_
    first
     | exact (to_nm hq (by assumption) (by assumption) (by assumption)).elim
     | exact (to_len (hQ.2 ac (by assumption)).1 (by assumption)).elim
     | (exfalso; simp_all; done)
   ·
    have j3 : ((ao.length : Nat) : Int) = (((things aa).length : Nat) : Int) := by simpa using bT
    refine wp_skip ?_
    refine then_normal ?_
    refine go_seq_region [0, 1, 2] kz ?_
    refine go_rn [0] [1, 2] [(1, .v (.int .i64 v)), (2, .v (.bool flex)), (5, .p 0 0), (9, .p 2 0), (14, .v (.slice ae ((things aa).length) af)), (90, .v (.agg #[.int .i64 k1, .int .i64 y2, .int .i64 y3, .int .i64 y4, .int .i64 y5, .int .i64 y6, .int .i64 y7, .slice A9 l8.length ap]))] ax aK fun mR eO => ?_
    clear aK
    refine of_op (wpOp_alloc ax eO (d := 15) (cs := [.int .i64 0, .int .i64 0, .int .i64 0, .int .i64 0, .int .i64 0, .int .i64 0, .int .i64 0, .slice none 0 0]) kz fun iU mS mT j4 j5 j6 eP eQ => ?_)
    clear eO ax
    refine of_op (wpOp_store eP eQ (oi := 3) (cs := [.int .i64 k1, .int .i64 y2, .int .i64 y3, .int .i64 y4, .int .i64 y5, .int .i64 y6, .int .i64 y7, .slice A9 l8.length ap]) kz fun mU j7 bU eR => ?_)
    clear eQ eP
    refine wpOps_nil (then_normal ?_)
    refine go_seq_region [0, 1, 2, 3, 4, 5, 6, 7] kz ?_
    refine go_rn [0, 1, 2] [3, 4, 5, 6, 7] [(1, .v (.int .i64 v)), (2, .v (.bool flex)), (9, .p 2 0), (14, .v (.slice ae ((things aa).length) af)), (15, .p 3 0), (92, .v (.int .i64 y7)), (93, .p 3 0)] bU eR fun mV eS => ?_
    clear eR
    refine of_op (wpOp_store bU eS (oi := 3) (cs := [.int .i64 y7, .int .i64 y2, .int .i64 y3, .int .i64 y4, .int .i64 y5, .int .i64 y6, .int .i64 y7, .slice A9 l8.length ap]) kz fun mW j8 bV eU => ?_)
    clear eS bU
    refine go_rn [4] [5, 6, 7] [(1, .v (.int .i64 v)), (2, .v (.bool flex)), (9, .p 2 0), (14, .v (.slice ae ((things aa).length) af)), (15, .p 3 0), (94, .p 3 3)] bV eU fun mX eV => ?_
    clear eU
    refine of_op (wpOp_store bV eV (oi := 3) (cs := [.int .i64 y7, .int .i64 y2, .int .i64 y3, .int .i64 (-1), .int .i64 y5, .int .i64 y6, .int .i64 y7, .slice A9 l8.length ap]) kz fun mY j9 bW eW => ?_)
    clear eV bV
    refine go_rn [6] [7] [(1, .v (.int .i64 v)), (2, .v (.bool flex)), (9, .p 2 0), (14, .v (.slice ae ((things aa).length) af)), (15, .p 3 0), (95, .p 3 4)] bW eW fun mZ eX => ?_
    clear eW
    refine of_op (wpOp_store bW eX (oi := 3) (cs := [.int .i64 y7, .int .i64 y2, .int .i64 y3, .int .i64 (-1), .int .i64 (-1), .int .i64 y6, .int .i64 y7, .slice A9 l8.length ap]) kz fun m4 ka bX eY => ?_)
    clear eX bW
    refine wpOps_nil (then_normal ?_)
    refine wp_seq ?_
    refine go_sp [(1, .v (.int .i64 v)), (2, .v (.bool flex)), (9, .p 2 0), (14, .v (.slice ae ((things aa).length) af)), (15, .p 3 0), (97, .v (.int .i64 (((things aa).length : Nat) : Int))), (98, .v (.int .i64 0))] bX eY fun m5 eZ => ?_
    clear eY
    refine wp_block ?_
    have hl_ := (hQ.2 ac (by assumption)).2
    refine wp_loop_ghost (fun n_ a_ w_ => ∃ (k : Nat), n_ = (things aa).length - k ∧ k ≤ (things aa).length ∧ LInv bX 124 [⟨ik, 0, [.int .i64 k1, .int .i64 y2, .int .i64 y3, .int .i64 y4, .int .i64 y5, .int .i64 y6, .int .i64 y7, .slice A9 l8.length ap], true⟩, ⟨il, 0, [.int .i64 aj, .slice gb ak.length gc, .bool al, .slice ae aa.length af, .slice gd am.length ge], true⟩, ⟨im, 0, [.int .i64 g9, .slice hK hC.length hZ, .bool df, .slice cw ao.length fu, .slice ia hJ.length ib], true⟩, ⟨iU, 0, [.int .i64 y7, .int .i64 y2, .int .i64 y3, .int .i64 (-1), .int .i64 (-1), .int .i64 y6, .int .i64 y7, .slice A9 l8.length ap], true⟩] [] [(1, .v (.int .i64 v)), (2, .v (.bool flex)), (9, .p 2 0), (14, .v (.slice ae ((things aa).length) af)), (15, .p 3 0), (97, .v (.int .i64 (((things aa).length : Nat) : Int))), (98, .v (.int .i64 ((k : Nat) : Int)))] a_ w_) ((things aa).length) ⟨0, by omega, by omega, eZ.pk, bX, Fr.refl _ _ _⟩ ?_
    clear eZ
    rintro m6 m7 m8 ⟨k, kd, ke, e9, ay, gW⟩
    refine go_sp [(1, .v (.int .i64 v)), (2, .v (.bool flex)), (9, .p 2 0), (14, .v (.slice ae ((things aa).length) af)), (15, .p 3 0), (97, .v (.int .i64 (((things aa).length : Nat) : Int))), (98, .v (.int .i64 ((k : Nat) : Int))), (99, .v (.bool (decide (((k : Nat) : Int) < (((things aa).length : Nat) : Int)))))] ay e9 fun m9 aL => ?_
    clear e9
    refine wp_seq ?_
    refine cond_of aL (b := decide (((k : Nat) : Int) < (((things aa).length : Nat) : Int))) kz (fun bY => ?_) (fun bY => ?_)
    ·
     have kf := of_decide_eq_true bY
     refine wp_skip ?_
     refine then_normal ?_
     refine wp_seq ?_
     refine wp_block ?_
     refine go_sp [(1, .v (.int .i64 v)), (2, .v (.bool flex)), (9, .p 2 0), (14, .v (.slice ae ((things aa).length) af)), (15, .p 3 0), (16, .v (.int .i64 ((k : Nat) : Int))), (97, .v (.int .i64 (((things aa).length : Nat) : Int))), (98, .v (.int .i64 ((k : Nat) : Int)))] ay aL fun nf fa => ?_
     clear aL
     refine go_seq_drawK 14 kz ay fun ng gX ai aM => ?_
     clear ay
     refine go_rnD [0, 1, 2, 3, 4, 7, 8, 9] [(1, .v (.int .i64 v)), (2, .v (.bool flex)), (9, .p 2 0), (14, .v (.slice ae ((things aa).length) af)), (15, .p 3 0), (97, .v (.int .i64 (((things aa).length : Nat) : Int))), (98, .v (.int .i64 ((k : Nat) : Int))), (101, .v (.agg #[.int .i64 y7, .int .i64 y2, .int .i64 y3, .int .i64 (-1), .int .i64 (-1), .int .i64 y6, .int .i64 y7, .slice A9 l8.length ap])), (102, .v (.int .i64 v)), (103, .v (.bool flex)), (104, .v (.slice ae ((things aa).length) af)), (105, .v (.int .i64 ((k : Nat) : Int))), (109, .v (.slice cw ao.length fu)), (110, .v (.int .i64 ((k : Nat) : Int)))] 6 (panicFree_then (panicFree_block (panicFree_then (panicFree_then (panicFree_block (panicFree_then (panicFree_block (panicFree_then panicFree_body)))))))) (fun _ h => h.cells) aM fa fun nh fb => ?_
     clear fa
     obtain ⟨iV, iW, gY, kg, bZ⟩ := Slots.get (things_slots ft) (i := k) (by first | omega | (have h_ : ao.length = (things aa).length := (hQ.2 ac (by assumption)).1; omega))
     obtain ⟨iX, fe⟩ : ∃ x, (things aa)[k]? = some x := ⟨_, List.getElem?_eq_getElem (by omega)⟩
     have b8 := (things_each ii) k iX fe
     obtain ⟨cV, cW, cX, cY, cZ, fT, fU, fV, fW, fX, fY, kh, rfl, cd, iY, iZ, ni, nj⟩ := b8.open_
     rw [cd] at b8
     have i6 := iY.small
     have i7 := iZ.small
     rw [cd] at bZ
     refine takeC_index fb (i := 5) (t := 23) (A := ae) (m := ((things aa).length)) (q := ((k : Nat) : Int)) (d := 106) kz (e := 26) (size := 5) (bytes := 88) kz gY rfl (by first | omega | (have h_ : ao.length = (things aa).length := (hQ.2 ac (by assumption)).1; omega)) kz kz (panicFree_then (panicFree_block (panicFree_then (panicFree_then (panicFree_block (panicFree_then (panicFree_block (panicFree_then panicFree_body)))))))) aM fun nk ff => ?_
     clear fb
     refine takeC_load ff (i := 6) (t := 26) (b := iV) (o := iW + k * 5) (d := 107) kz (cs := [.int .i64 cV, .slice fT cW.length fU, .bool cX, .slice fV cY.length fW, .slice fX cZ.length fY]) (v := .agg #[.int .i64 cV, .slice fT cW.length fU, .bool cX, .slice fV cY.length fW, .slice fX cZ.length fY]) kz (fun w' h' => (AtF.move bZ (TT.step0 ai h') nilM keepF).at_) kz kz (panicFree_then (panicFree_block (panicFree_then (panicFree_then (panicFree_block (panicFree_then (panicFree_block (panicFree_then panicFree_body)))))))) aM fun nl fg => ?_
     clear ff
     obtain ⟨ja, jb, gZ, ki, ce⟩ := Slots.get ic (i := k) (by first | omega | (have h_ : ao.length = (things aa).length := (hQ.2 ac (by assumption)).1; omega))
     obtain ⟨jc, fh⟩ : ∃ x, ao[k]? = some x := ⟨_, List.getElem?_eq_getElem (by omega)⟩
     have cm := ij k jc fh
     obtain ⟨c5, da, db, dc, de, fZ, f5, f7, f8, f9, ga, kj, rfl, cq, jd, je, nm, np⟩ := cm.open_
     rw [cq] at cm
     have jf := jd.small
     have jg := je.small
     rw [cq] at ce
     refine takeC_index fg (i := 10) (t := 23) (A := cw) (m := ao.length) (q := ((k : Nat) : Int)) (d := 111) kz (e := 26) (size := 5) (bytes := 88) kz gZ rfl (by first | omega | (have h_ : ao.length = (things aa).length := (hQ.2 ac (by assumption)).1; omega)) kz kz (panicFree_then (panicFree_block (panicFree_then (panicFree_then (panicFree_block (panicFree_then (panicFree_block (panicFree_then panicFree_body)))))))) aM fun nr fi => ?_
     clear fg
     refine takeC_load fi (i := 11) (t := 26) (b := ja) (o := jb + k * 5) (d := 112) kz (cs := [.int .i64 c5, .slice fZ da.length f5, .bool db, .slice f7 dc.length f8, .slice f9 de.length ga]) (v := .agg #[.int .i64 c5, .slice fZ da.length f5, .bool db, .slice f7 dc.length f8, .slice f9 de.length ga]) kz (fun w' h' => (AtF.move ce (TT.step0 ai h') nilM keepF).at_) kz kz (panicFree_then (panicFree_block (panicFree_then (panicFree_then (panicFree_block (panicFree_then (panicFree_block (panicFree_then panicFree_body)))))))) aM fun ns fj => ?_
     clear fi
     refine anyC_op (i := 12) kz (wpOp_call fj (f := 45) (vs := [.agg #[.int .i64 y7, .int .i64 y2, .int .i64 y3, .int .i64 (-1), .int .i64 (-1), .int .i64 y6, .int .i64 y7, .slice A9 l8.length ap], .int .i64 v, .bool flex, .agg #[.int .i64 cV, .slice fT cW.length fU, .bool cX, .slice fV cY.length fW, .slice fX cZ.length fY], .agg #[.int .i64 c5, .slice fZ da.length f5, .bool db, .slice f7 dc.length f8, .slice f9 de.length ga]]) (d := 113) kz Tryd.call45 ( sTold0 hT _ _ _ (Tree.mk cV cW cX cY cZ) _ (Tree.mk c5 da db dc de) _ _ (FldR.mk (l := l8) fr (g8.move ai.step nilM ai.imm) (fun i_ x_ h_ => ((ig i_ x_ h_).move ai.step nilM ai.imm))) hpl hof (b8.move ai.step nilM ai.imm) (cm.move ai.step nilM ai.imm) (hl_ _ _ _ fe fh)) ?_)
     rintro e_ nt ⟨rfl, fk⟩
     refine ⟨_, rfl, fun nu fl => ?_⟩
     have cr := ai.next_nil fk
     have fm := ai.frN fk
     clear fj
     have fo := TT.ofW fm cr
     refine ⟨fun _ => fo, ?_⟩
     refine go_rnD [13] [(1, .v (.int .i64 v)), (2, .v (.bool flex)), (9, .p 2 0), (14, .v (.slice ae ((things aa).length) af)), (15, .p 3 0), (97, .v (.int .i64 (((things aa).length : Nat) : Int))), (98, .v (.int .i64 ((k : Nat) : Int))), (114, .v (.bool false))] 0 (panicFree_then (panicFree_block (panicFree_then (panicFree_then (panicFree_block (panicFree_then (panicFree_block (panicFree_then panicFree_body)))))))) (fun _ h => h.cells) fo fl fun nv cu => ?_
     clear fl
     refine anyC_done kz ?_ _
     refine then_normal ?_
     refine cond_false cu (b := false) kz rfl ?_
     refine wp_skip ?_
     refine block_normal ?_
     refine then_normal ?_
     refine go_region [0, 1] kz ?_
     refine go_rn [0, 1] [] [(1, .v (.int .i64 v)), (2, .v (.bool flex)), (9, .p 2 0), (14, .v (.slice ae ((things aa).length) af)), (15, .p 3 0), (97, .v (.int .i64 (((things aa).length : Nat) : Int))), (98, .v (.int .i64 (IntKind.i64.wrap (((k : Nat) : Int) + 1))))] cr cu fun nw fq => ?_
     clear cu
     refine wpOps_nil (then_normal ?_)
     have g6 : IntKind.i64.wrap (((k : Nat) : Int) + 1) = ((k + 1 : Nat) : Int) := wrap_succ (by omega)
     rw [g6] at fq
     exact ⟨(things aa).length - (k + 1), by omega, k + 1, rfl, by omega, fq.pk, cr, ((gW.trans gX).trans fm)⟩
    ·
     have km := of_decide_eq_false bY
     refine wp_exit ?_
     refine then_exit ?_
     refine then_exit ?_
     refine block_exit ?_
     refine then_normal ?_
     refine go_sp [(10, .v (.bool true))] ay aL fun nx g7 => ?_
     clear aL
     refine wp_ret ?_
     refine block_ret ?_
     refine then_ret ?_
     refine leave g7 ay.cells (v := .bool true) kz ?_
     exact ⟨rfl, ay.step⟩
theorem sTold1 {v : Int} {flex : Bool} {T : List Fld → Tree → Tree → Prop} (hT : ToOK v flex T) (cf : List Value) (f : Fld) (ct : List Value) (t : Tree) (cg : List Value) (g : Tree) (w : World) (F : Nat → Nat → Prop) (hf : FldR w F cf f) (hpl : f.plain) (ht : TreeR w F ct t) (hg : TreeR w F cg g) (hQ : ToF T v f t g) :
  Calls Tryd.prog 45 #[.agg cf.toArray, .int .i64 v, .bool flex, .agg ct.toArray, .agg cg.toArray] w (Gives w (.bool true)) := by
 by_cases h : f.kind = 11
 ·exact sTold11 hT cf f ct t cg g w F hf hpl h ht hg hQ
 ·exact sTold0 hT cf f ct t cg g w F hf (plain_sub hpl) h ht hg hQ.1
set_option maxHeartbeats 4000000 in
theorem sToldS {v : Int} {flex : Bool} {T : List Fld → Tree → Tree → Prop} {U : List Fld → Tree → Prop} (hT : ToOK v flex T) (hU : UsOK U) (A : Option Addr) (c : Nat) (l : List Fld) (ct : List Value) (t : Tree) (cg : List Value) (g : Tree) (w : World) (F : Nat → Nat → Prop) (hl : FldsR w F A c l) (ht : TreeR w F ct t) (hg : TreeR w F cg g) (hpl : plains l) (hP : ToP T U l v flex t g) :
  Calls Tryd.prog 18 #[.slice A l.length c, .int .i64 v, .bool flex, .agg ct.toArray, .agg cg.toArray] w (Gives w (.bool true)) := by
 obtain ⟨xfs, h1, h2⟩ := hl.ex
 have hsm := h1.small
 obtain ⟨n1, s2, b3, l4, u5, A6, c7, A8, c9, bT, bU, jL, rfl, rfl, jM, jN, mD, jO⟩ := ht.open_
 have iM := jM.small
 have iN := jN.small
 obtain ⟨di, dj, dl, aG, aB, dp, dq, bV, ce, bW, cm, jP, rfl, rfl, jQ, ia, iO, jR⟩ := hg.open_
 have iP := jQ.small
 have iQ := ia.small
 have hlen : aG.length = l.length := hP.1
 have hgu : aB = if flex = true then wholeU (unknownT l u5) else [] := hP.2.2
 obtain ⟨jS, iR, jT⟩ := jR.ex
 have iS := iR.small
 refine enter (n := 120) Tryd.func18 rfl Tryd.ntmps18 kz fun a hE => ?_
 have hW := WOk.start w Nil
 refine go_seq_region [0, 1, 2] kz ?_
 refine of_op (wpOp_box hW hE (d := 8) (cs := [.int .i64 n1, .slice A6 s2.length c7, .bool b3, .slice A8 l4.length c9, .slice bT u5.length bU]) kz fun dF mF mG jU jV jW fY fZ => ?_)
 clear hE hW
 refine of_op (wpOp_box fY fZ (d := 9) (cs := [.int .i64 di, .slice dp dj.length dq, .bool dl, .slice bV aG.length ce, .slice bW aB.length cm]) kz fun dG mH mI jX jY jZ bB f5 => ?_)
 clear fZ fY
 refine go_rn [2] [] [(0, .v (.slice A l.length c)), (1, .v (.int .i64 v)), (2, .v (.bool flex)), (8, .p 0 0), (9, .p 1 0)] bB f5 fun mJ f7 => ?_
 clear f5
 refine wpOps_nil (then_normal ?_)
 refine wp_seq ?_
 refine go_sp [(0, .v (.slice A l.length c)), (1, .v (.int .i64 v)), (2, .v (.bool flex)), (8, .p 0 0), (9, .p 1 0), (22, .v (.bool (((aG.length : Nat) : Int) != ((l.length : Nat) : Int))))] bB f7 fun mK cq => ?_
 clear f7
 refine cond_of cq (b := ((aG.length : Nat) : Int) != ((l.length : Nat) : Int)) kz (fun fL => ?_) (fun fL => ?_)
 ·
  have j0 : ((aG.length : Nat) : Int) ≠ ((l.length : Nat) : Int) := by simpa using fL
  refine go_sp [(10, .v (.bool false))] bB cq fun mL ib => ?_
  clear cq
  refine wp_ret ?_
  refine then_ret ?_
  refine leave ib bB.cells (v := .bool false) kz ?_
  first
   | (exfalso; omega)
   | exact (told_len hgu (by assumption) (by assumption)).elim
   | exact (told_len0 hgu (by assumption) (by assumption)).elim
   | exact (told_key hgu (by assumption) (by assumption) (by assumption) (by assumption)).elim
   | exact (told_val hgu (by assumption) (by assumption) (by assumption) (by assumption)).elim
   | (exfalso; simp_all; done)
 ·
  have j1 : ((aG.length : Nat) : Int) = ((l.length : Nat) : Int) := by simpa using fL
  refine wp_skip ?_
  refine then_normal ?_
  refine wp_seq ?_
  refine go_sp [(0, .v (.slice A l.length c)), (1, .v (.int .i64 v)), (2, .v (.bool flex)), (8, .p 0 0), (9, .p 1 0), (23, .v (.slice A l.length c)), (24, .v (.int .i64 ((l.length : Nat) : Int))), (25, .v (.int .i64 0))] bB cq fun mM f8 => ?_
  clear cq
  refine wp_block ?_
  refine wp_loop_ghost (fun n_ a_ w_ => ∃ (k : Nat), n_ = l.length - k ∧ k ≤ l.length ∧ LInv bB 120 [⟨dF, 0, [.int .i64 n1, .slice A6 s2.length c7, .bool b3, .slice A8 l4.length c9, .slice bT u5.length bU], true⟩, ⟨dG, 0, [.int .i64 di, .slice dp dj.length dq, .bool dl, .slice bV aG.length ce, .slice bW aB.length cm], true⟩] [] [(0, .v (.slice A l.length c)), (1, .v (.int .i64 v)), (2, .v (.bool flex)), (8, .p 0 0), (9, .p 1 0), (23, .v (.slice A l.length c)), (24, .v (.int .i64 ((l.length : Nat) : Int))), (25, .v (.int .i64 ((k : Nat) : Int)))] a_ w_) (l.length) ⟨0, by omega, by omega, f8.pk, bB, Fr.refl _ _ _⟩ ?_
  clear f8
  rintro mN mO mQ ⟨k, j2, j3, f9, ax, fM⟩
  refine go_sp [(0, .v (.slice A l.length c)), (1, .v (.int .i64 v)), (2, .v (.bool flex)), (8, .p 0 0), (9, .p 1 0), (23, .v (.slice A l.length c)), (24, .v (.int .i64 ((l.length : Nat) : Int))), (25, .v (.int .i64 ((k : Nat) : Int))), (26, .v (.bool (decide (((k : Nat) : Int) < ((l.length : Nat) : Int)))))] ax f9 fun mR cr => ?_
  clear f9
  refine wp_seq ?_
  refine cond_of cr (b := decide (((k : Nat) : Int) < ((l.length : Nat) : Int))) kz (fun fN => ?_) (fun fN => ?_)
  ·
   have j4 := of_decide_eq_true fN
   refine wp_skip ?_
   refine then_normal ?_
   refine wp_seq ?_
   refine wp_block ?_
   refine go_seq_region [0, 1, 2, 3, 4, 5] kz ?_
   refine go_rn [0] [1, 2, 3, 4, 5] [(0, .v (.slice A l.length c)), (1, .v (.int .i64 v)), (2, .v (.bool flex)), (8, .p 0 0), (9, .p 1 0), (23, .v (.slice A l.length c)), (24, .v (.int .i64 ((l.length : Nat) : Int))), (25, .v (.int .i64 ((k : Nat) : Int))), (27, .v (.int .i64 ((k : Nat) : Int)))] ax cr fun mS ga => ?_
   clear cr
   obtain ⟨j5, j6, ic, j7, dH⟩ := Slots.get h1 (i := k) (by first | omega | (have h_ := told_idx hgu (by assumption); omega))
   obtain ⟨j8, cu⟩ : ∃ x, l[k]? = some x := ⟨_, List.getElem?_eq_getElem (by omega)⟩
   have bC := h2 k j8 cu
   obtain ⟨aj, ak, al, am, ag, ao, aa, ab, ap, ar, iT, rfl, cw, ig, j9⟩ := bC.open_
   rw [cw] at bC
   have ii := ig.small
   rw [cw] at dH
   refine of_op (wpOp_index ga (t := 29) (A := A) (m := l.length) (q := ((k : Nat) : Int)) (d := 28) kz (e := 56) (size := 8) (bytes := 80) kz ic rfl (by first | omega | (have h_ := told_idx hgu (by assumption); omega)) fun ka dI => ?_)
   clear ga
   refine of_op (wpOp_load dI (t := 56) (b := j5) (o := j6 + k * 8) (d := 29) kz (cs := [.int .i64 aj, .int .i64 ak, .int .i64 al, .int .i64 am, .int .i64 ag, .int .i64 ao, .int .i64 aa, .slice ap ab.length ar]) (v := .agg #[.int .i64 aj, .int .i64 ak, .int .i64 al, .int .i64 am, .int .i64 ag, .int .i64 ao, .int .i64 aa, .slice ap ab.length ar]) kz (AtF.move dH ax.step nilM keepF).at_ fun kd dJ => ?_)
   clear dI
   refine of_op (wpOp_alloc ax dJ (d := 12) (cs := [.int .i64 0, .int .i64 0, .int .i64 0, .int .i64 0, .int .i64 0, .int .i64 0, .int .i64 0, .slice none 0 0]) kz fun ij ke kf iU iV cz cA dK => ?_)
   clear dJ ax
   refine go_rn [4] [5] [(0, .v (.slice A l.length c)), (1, .v (.int .i64 v)), (2, .v (.bool flex)), (8, .p 0 0), (9, .p 1 0), (11, .v (.int .i64 ((k : Nat) : Int))), (12, .p 2 0), (23, .v (.slice A l.length c)), (24, .v (.int .i64 ((l.length : Nat) : Int))), (25, .v (.int .i64 ((k : Nat) : Int))), (29, .v (.agg #[.int .i64 aj, .int .i64 ak, .int .i64 al, .int .i64 am, .int .i64 ag, .int .i64 ao, .int .i64 aa, .slice ap ab.length ar]))] cA dK fun kg dL => ?_
   clear dK
   refine of_op (wpOp_store cA dL (oi := 2) (cs := [.int .i64 aj, .int .i64 ak, .int .i64 al, .int .i64 am, .int .i64 ag, .int .i64 ao, .int .i64 aa, .slice ap ab.length ar]) kz fun kh cB aH dM => ?_)
   clear dL cA
   refine wpOps_nil (then_normal ?_)
   refine go_seq_region [0, 1, 2, 3, 4] kz ?_
   refine go_rn [0, 1] [2, 3, 4] [(0, .v (.slice A l.length c)), (1, .v (.int .i64 v)), (2, .v (.bool flex)), (8, .p 0 0), (9, .p 1 0), (11, .v (.int .i64 ((k : Nat) : Int))), (12, .p 2 0), (23, .v (.slice A l.length c)), (24, .v (.int .i64 ((l.length : Nat) : Int))), (25, .v (.int .i64 ((k : Nat) : Int))), (30, .v (.agg #[.int .i64 n1, .slice A6 s2.length c7, .bool b3, .slice A8 l4.length c9, .slice bT u5.length bU])), (31, .v (.int .i64 ((k : Nat) : Int)))] aH dM fun ki dN => ?_
   clear dM
   refine of_op (wpOp_call dN (f := 42) (vs := [.agg #[.int .i64 n1, .slice A6 s2.length c7, .bool b3, .slice A8 l4.length c9, .slice bT u5.length bU], .int .i64 ((k : Nat) : Int)]) (d := 32) kz Tryd.call42 (sAt _ _ k _ _ (ht.move aH.step nilM aH.imm)) ?_)
   rintro e_ kj ⟨iW, rfl, gb, aL⟩
   have aM := gb.move aL nilM (fun b o h_ hb_ => aH.laid (G := F) aL b o (.inl h_) (Nat.lt_of_lt_of_le hb_ aL.size))
   obtain ⟨aN, aO, aP, aQ, aR, aS, aT, aU, aV, aW, aX, iX, iY, cC, ik, il, km, ko⟩ := aM.open_
   rw [cC] at aM
   have im := ik.small
   have io := il.small
   rw [cC]
   refine ⟨_, rfl, fun kp dO => ?_⟩
   have dP := aH.next_nil aL
   have cD := aH.frN aL
   clear dN
   refine of_op (wpOp_alloc dP dO (d := 13) (cs := [.int .i64 0, .slice none 0 0, .bool false, .slice none 0 0, .slice none 0 0]) kz fun ip kq ku iZ i6 ay dQ dR => ?_)
   clear dO dP
   refine of_op (wpOp_store dQ dR (oi := 3) (cs := [.int .i64 aN, .slice aS aO.length aT, .bool aP, .slice aU aQ.length aV, .slice aW aR.length aX]) kz fun kv az ac dS => ?_)
   clear dR dQ
   refine wpOps_nil (then_normal ?_)
   refine wp_seq ?_
   refine wp_seq (wp_join (Mid := fun a_ w_ => LInv ac 120 [⟨dF, 0, [.int .i64 n1, .slice A6 s2.length c7, .bool b3, .slice A8 l4.length c9, .slice bT u5.length bU], true⟩, ⟨dG, 0, [.int .i64 di, .slice dp dj.length dq, .bool dl, .slice bV aG.length ce, .slice bW aB.length cm], true⟩, ⟨ij, 0, [.int .i64 aj, .int .i64 ak, .int .i64 al, .int .i64 am, .int .i64 ag, .int .i64 ao, .int .i64 aa, .slice ap ab.length ar], true⟩, ⟨ip, 0, [.int .i64 aN, .slice aS aO.length aT, .bool aP, .slice aU aQ.length aV, .slice aW aR.length aX], true⟩] [] [(0, .v (.slice A l.length c)), (1, .v (.int .i64 v)), (2, .v (.bool flex)), (8, .p 0 0), (9, .p 1 0), (11, .v (.int .i64 ((k : Nat) : Int))), (12, .p 2 0), (13, .p 3 0), (23, .v (.slice A l.length c)), (24, .v (.int .i64 ((l.length : Nat) : Int))), (25, .v (.int .i64 ((k : Nat) : Int))), (54, .v (.bool (Fld.pres (Fld.mk aj ak al am ag ao aa ab) v flex (Tree.at_ (Tree.mk n1 s2 b3 l4 u5) k))))] a_ w_) ?_ ?_)
   ·
    refine go_region [0, 1, 2, 3, 4, 5, 6, 7, 8, 9, 10, 11, 12, 13, 14, 15, 16, 17, 18, 19, 20, 21] kz ?_
    refine go_rn [0, 1, 2, 3] [4, 5, 6, 7, 8, 9, 10, 11, 12, 13, 14, 15, 16, 17, 18, 19, 20, 21] [(0, .v (.slice A l.length c)), (1, .v (.int .i64 v)), (2, .v (.bool flex)), (8, .p 0 0), (9, .p 1 0), (11, .v (.int .i64 ((k : Nat) : Int))), (12, .p 2 0), (13, .p 3 0), (23, .v (.slice A l.length c)), (24, .v (.int .i64 ((l.length : Nat) : Int))), (25, .v (.int .i64 ((k : Nat) : Int))), (36, .v (.bool (decide (ag < 0))))] ac dS fun kw bG => ?_
    clear dS
    refine (Bool.eq_false_or_eq_true (decide (ag < 0))).elim (fun aY => ?_) (fun aY => ?_)
    ·
     have i7 := of_decide_eq_true aY
     have dT := bG.cast (env' := [(0, .v (.slice A l.length c)), (1, .v (.int .i64 v)), (2, .v (.bool flex)), (8, .p 0 0), (9, .p 1 0), (11, .v (.int .i64 ((k : Nat) : Int))), (12, .p 2 0), (13, .p 3 0), (23, .v (.slice A l.length c)), (24, .v (.int .i64 ((l.length : Nat) : Int))), (25, .v (.int .i64 ((k : Nat) : Int))), (36, .v (.bool true))]) (by rw [aY])
     clear bG
     refine go_rn [4, 5] [6, 7, 8, 9, 10, 11, 12, 13, 14, 15, 16, 17, 18, 19, 20, 21] [(0, .v (.slice A l.length c)), (1, .v (.int .i64 v)), (2, .v (.bool flex)), (8, .p 0 0), (9, .p 1 0), (11, .v (.int .i64 ((k : Nat) : Int))), (12, .p 2 0), (13, .p 3 0), (23, .v (.slice A l.length c)), (24, .v (.int .i64 ((l.length : Nat) : Int))), (25, .v (.int .i64 ((k : Nat) : Int))), (36, .v (.bool true)), (37, .v (.agg #[.int .i64 aj, .int .i64 ak, .int .i64 al, .int .i64 am, .int .i64 ag, .int .i64 ao, .int .i64 aa, .slice ap ab.length ar])), (38, .v (.int .i64 v))] ac dT fun kx dU => ?_
     clear dT
     refine of_op (wpOp_call dU (f := 43) (vs := [.agg #[.int .i64 aj, .int .i64 ak, .int .i64 al, .int .i64 am, .int .i64 ag, .int .i64 ao, .int .i64 aa, .slice ap ab.length ar], .int .i64 v]) (d := 39) kz Tryd.call43 (sHas aj ak al am ag ao aa ab _ _ v _) ?_)
     rintro e_ ky ⟨rfl, dV⟩
     refine ⟨_, rfl, fun kA dW => ?_⟩
     have ae := ac.next_nil dV
     have aI := ac.frN dV
     clear dU
     refine go_rn [7, 8] [9, 10, 11, 12, 13, 14, 15, 16, 17, 18, 19, 20, 21] [(0, .v (.slice A l.length c)), (1, .v (.int .i64 v)), (2, .v (.bool flex)), (8, .p 0 0), (9, .p 1 0), (11, .v (.int .i64 ((k : Nat) : Int))), (12, .p 2 0), (13, .p 3 0), (23, .v (.slice A l.length c)), (24, .v (.int .i64 ((l.length : Nat) : Int))), (25, .v (.int .i64 ((k : Nat) : Int))), (41, .v (.bool (Fld.has (Fld.mk aj ak al am ag ao aa ab) v)))] ae dW fun kB bH => ?_
     clear dW
     refine (Bool.eq_false_or_eq_true (Fld.has (Fld.mk aj ak al am ag ao aa ab) v)).elim (fun cE => ?_) (fun cE => ?_)
     ·
      have dX := bH.cast (env' := [(0, .v (.slice A l.length c)), (1, .v (.int .i64 v)), (2, .v (.bool flex)), (8, .p 0 0), (9, .p 1 0), (11, .v (.int .i64 ((k : Nat) : Int))), (12, .p 2 0), (13, .p 3 0), (23, .v (.slice A l.length c)), (24, .v (.int .i64 ((l.length : Nat) : Int))), (25, .v (.int .i64 ((k : Nat) : Int))), (41, .v (.bool true))]) (by rw [cE])
      clear bH
      refine go_rn [9, 10, 11, 12, 13, 14, 15, 16, 17, 18, 19, 20, 21] [] [(0, .v (.slice A l.length c)), (1, .v (.int .i64 v)), (2, .v (.bool flex)), (8, .p 0 0), (9, .p 1 0), (11, .v (.int .i64 ((k : Nat) : Int))), (12, .p 2 0), (13, .p 3 0), (23, .v (.slice A l.length c)), (24, .v (.int .i64 ((l.length : Nat) : Int))), (25, .v (.int .i64 ((k : Nat) : Int))), (54, .v (.bool true))] ae dX fun kC gc => ?_
      clear dX
      refine wpOps_nil (then_normal ?_)
      have hp_ : Fld.pres (Fld.mk aj ak al am ag ao aa ab) v flex (Tree.at_ (Tree.mk n1 s2 b3 l4 u5) k) = true := by first | (first | exact pres_a (by assumption) (by assumption) | exact pres_b (by assumption) (by assumption) (by assumption)) | (exfalso; omega)
      exact ⟨(gc.pk (env' := [(0, .v (.slice A l.length c)), (1, .v (.int .i64 v)), (2, .v (.bool flex)), (8, .p 0 0), (9, .p 1 0), (11, .v (.int .i64 ((k : Nat) : Int))), (12, .p 2 0), (13, .p 3 0), (23, .v (.slice A l.length c)), (24, .v (.int .i64 ((l.length : Nat) : Int))), (25, .v (.int .i64 ((k : Nat) : Int))), (54, .v (.bool true))])).cast (by rw [hp_]), ae, aI⟩
     ·
      have dY := bH.cast (env' := [(0, .v (.slice A l.length c)), (1, .v (.int .i64 v)), (2, .v (.bool flex)), (8, .p 0 0), (9, .p 1 0), (11, .v (.int .i64 ((k : Nat) : Int))), (12, .p 2 0), (13, .p 3 0), (23, .v (.slice A l.length c)), (24, .v (.int .i64 ((l.length : Nat) : Int))), (25, .v (.int .i64 ((k : Nat) : Int))), (41, .v (.bool false))]) (by rw [cE])
      clear bH
      refine go_rn [9, 10, 11, 12] [13, 14, 15, 16, 17, 18, 19, 20, 21] [(0, .v (.slice A l.length c)), (1, .v (.int .i64 v)), (2, .v (.bool flex)), (8, .p 0 0), (9, .p 1 0), (11, .v (.int .i64 ((k : Nat) : Int))), (12, .p 2 0), (13, .p 3 0), (23, .v (.slice A l.length c)), (24, .v (.int .i64 ((l.length : Nat) : Int))), (25, .v (.int .i64 ((k : Nat) : Int))), (41, .v (.bool false)), (45, .v (.bool (decide (ag ≥ 0))))] ae dY fun kD bI => ?_
      clear dY
      refine (Bool.eq_false_or_eq_true (decide (ag ≥ 0))).elim (fun aZ => ?_) (fun aZ => ?_)
      ·
       have ja := of_decide_eq_true aZ
       have dZ := bI.cast (env' := [(0, .v (.slice A l.length c)), (1, .v (.int .i64 v)), (2, .v (.bool flex)), (8, .p 0 0), (9, .p 1 0), (11, .v (.int .i64 ((k : Nat) : Int))), (12, .p 2 0), (13, .p 3 0), (23, .v (.slice A l.length c)), (24, .v (.int .i64 ((l.length : Nat) : Int))), (25, .v (.int .i64 ((k : Nat) : Int))), (41, .v (.bool false)), (45, .v (.bool true))]) (by rw [aZ])
       clear bI
       refine go_rn [13, 14, 15] [16, 17, 18, 19, 20, 21] [(0, .v (.slice A l.length c)), (1, .v (.int .i64 v)), (2, .v (.bool flex)), (8, .p 0 0), (9, .p 1 0), (11, .v (.int .i64 ((k : Nat) : Int))), (12, .p 2 0), (13, .p 3 0), (23, .v (.slice A l.length c)), (24, .v (.int .i64 ((l.length : Nat) : Int))), (25, .v (.int .i64 ((k : Nat) : Int))), (41, .v (.bool false)), (48, .v (.bool flex))] ae dZ fun kE bJ => ?_
       clear dZ
       refine (Bool.eq_false_or_eq_true (flex)).elim (fun ba => ?_) (fun ba => ?_)
       ·
        have d5 := bJ.cast (env' := [(0, .v (.slice A l.length c)), (1, .v (.int .i64 v)), (2, .v (.bool true)), (8, .p 0 0), (9, .p 1 0), (11, .v (.int .i64 ((k : Nat) : Int))), (12, .p 2 0), (13, .p 3 0), (23, .v (.slice A l.length c)), (24, .v (.int .i64 ((l.length : Nat) : Int))), (25, .v (.int .i64 ((k : Nat) : Int))), (41, .v (.bool false)), (48, .v (.bool true))]) (by rw [ba])
        clear bJ
        refine go_rn [16, 17] [18, 19, 20, 21] [(0, .v (.slice A l.length c)), (1, .v (.int .i64 v)), (2, .v (.bool true)), (8, .p 0 0), (9, .p 1 0), (11, .v (.int .i64 ((k : Nat) : Int))), (12, .p 2 0), (13, .p 3 0), (23, .v (.slice A l.length c)), (24, .v (.int .i64 ((l.length : Nat) : Int))), (25, .v (.int .i64 ((k : Nat) : Int))), (41, .v (.bool false)), (48, .v (.bool true)), (49, .v (.agg #[.int .i64 aj, .int .i64 ak, .int .i64 al, .int .i64 am, .int .i64 ag, .int .i64 ao, .int .i64 aa, .slice ap ab.length ar])), (50, .v (.agg #[.int .i64 aN, .slice aS aO.length aT, .bool aP, .slice aU aQ.length aV, .slice aW aR.length aX]))] ae d5 fun kF d6 => ?_
        clear d5
        refine of_op (wpOp_call d6 (f := 44) (vs := [.agg #[.int .i64 aj, .int .i64 ak, .int .i64 al, .int .i64 am, .int .i64 ag, .int .i64 ao, .int .i64 aa, .slice ap ab.length ar], .agg #[.int .i64 aN, .slice aS aO.length aT, .bool aP, .slice aU aQ.length aV, .slice aW aR.length aX]]) (d := 51) kz Tryd.call44 (sUsual _ _ _ _ _ _ _ (bC.move ae.step nilM ae.imm) (Nat.le_refl _) (aM.move ((ay.trans az).trans aI).step immM ((ay.trans az).trans aI).to')) ?_)
        rintro e_ kG ⟨rfl, d7⟩
        refine ⟨_, rfl, fun kH d8 => ?_⟩
        have d9 := ae.next_nil d7
        have gd := ae.frN d7
        clear d6 ae
        refine go_rn [19, 20, 21] [] [(0, .v (.slice A l.length c)), (1, .v (.int .i64 v)), (2, .v (.bool true)), (8, .p 0 0), (9, .p 1 0), (11, .v (.int .i64 ((k : Nat) : Int))), (12, .p 2 0), (13, .p 3 0), (23, .v (.slice A l.length c)), (24, .v (.int .i64 ((l.length : Nat) : Int))), (25, .v (.int .i64 ((k : Nat) : Int))), (54, .v (.bool (!(Fld.usual (Fld.mk aj ak al am ag ao aa ab) (Tree.at_ (Tree.mk n1 s2 b3 l4 u5) k)))))] d9 d8 fun kI ge => ?_
        clear d8
        refine wpOps_nil (then_normal ?_)
        have hp_ : Fld.pres (Fld.mk aj ak al am ag ao aa ab) v flex (Tree.at_ (Tree.mk n1 s2 b3 l4 u5) k) = !(Fld.usual (Fld.mk aj ak al am ag ao aa ab) (Tree.at_ (Tree.mk n1 s2 b3 l4 u5) k)) := by first | (first | exact pres_f (by assumption) (by assumption) | exact pres_g (by assumption)) | (exfalso; omega)
        exact ⟨(ge.pk (env' := [(0, .v (.slice A l.length c)), (1, .v (.int .i64 v)), (2, .v (.bool true)), (8, .p 0 0), (9, .p 1 0), (11, .v (.int .i64 ((k : Nat) : Int))), (12, .p 2 0), (13, .p 3 0), (23, .v (.slice A l.length c)), (24, .v (.int .i64 ((l.length : Nat) : Int))), (25, .v (.int .i64 ((k : Nat) : Int))), (54, .v (.bool (!(Fld.usual (Fld.mk aj ak al am ag ao aa ab) (Tree.at_ (Tree.mk n1 s2 b3 l4 u5) k)))))])).cast (by rw [hp_, ba]), d9, (aI.trans gd)⟩
       ·
        have ea := bJ.cast (env' := [(0, .v (.slice A l.length c)), (1, .v (.int .i64 v)), (2, .v (.bool false)), (8, .p 0 0), (9, .p 1 0), (11, .v (.int .i64 ((k : Nat) : Int))), (12, .p 2 0), (13, .p 3 0), (23, .v (.slice A l.length c)), (24, .v (.int .i64 ((l.length : Nat) : Int))), (25, .v (.int .i64 ((k : Nat) : Int))), (41, .v (.bool false)), (48, .v (.bool false))]) (by rw [ba])
        clear bJ
        refine go_rn [16, 17, 18, 19, 20, 21] [] [(0, .v (.slice A l.length c)), (1, .v (.int .i64 v)), (2, .v (.bool false)), (8, .p 0 0), (9, .p 1 0), (11, .v (.int .i64 ((k : Nat) : Int))), (12, .p 2 0), (13, .p 3 0), (23, .v (.slice A l.length c)), (24, .v (.int .i64 ((l.length : Nat) : Int))), (25, .v (.int .i64 ((k : Nat) : Int))), (54, .v (.bool false))] ae ea fun kJ gg => ?_
        clear ea
        refine wpOps_nil (then_normal ?_)
        have hp_ : Fld.pres (Fld.mk aj ak al am ag ao aa ab) v flex (Tree.at_ (Tree.mk n1 s2 b3 l4 u5) k) = false := by first | (first | exact pres_c (by assumption) (by assumption) | exact pres_d (by assumption) (by assumption) | exact pres_e (by assumption) (by assumption)) | (exfalso; omega)
        exact ⟨(gg.pk (env' := [(0, .v (.slice A l.length c)), (1, .v (.int .i64 v)), (2, .v (.bool false)), (8, .p 0 0), (9, .p 1 0), (11, .v (.int .i64 ((k : Nat) : Int))), (12, .p 2 0), (13, .p 3 0), (23, .v (.slice A l.length c)), (24, .v (.int .i64 ((l.length : Nat) : Int))), (25, .v (.int .i64 ((k : Nat) : Int))), (54, .v (.bool false))])).cast (by rw [hp_, ba]), ae, aI⟩
      ·
       have jb := of_decide_eq_false aZ
       have eb := bI.cast (env' := [(0, .v (.slice A l.length c)), (1, .v (.int .i64 v)), (2, .v (.bool flex)), (8, .p 0 0), (9, .p 1 0), (11, .v (.int .i64 ((k : Nat) : Int))), (12, .p 2 0), (13, .p 3 0), (23, .v (.slice A l.length c)), (24, .v (.int .i64 ((l.length : Nat) : Int))), (25, .v (.int .i64 ((k : Nat) : Int))), (41, .v (.bool false)), (45, .v (.bool false))]) (by rw [aZ])
       clear bI
       refine go_rn [13, 14, 15, 16, 17, 18, 19, 20, 21] [] [(0, .v (.slice A l.length c)), (1, .v (.int .i64 v)), (2, .v (.bool flex)), (8, .p 0 0), (9, .p 1 0), (11, .v (.int .i64 ((k : Nat) : Int))), (12, .p 2 0), (13, .p 3 0), (23, .v (.slice A l.length c)), (24, .v (.int .i64 ((l.length : Nat) : Int))), (25, .v (.int .i64 ((k : Nat) : Int))), (54, .v (.bool false))] ae eb fun kK gh => ?_
       clear eb
       refine wpOps_nil (then_normal ?_)
       have hp_ : Fld.pres (Fld.mk aj ak al am ag ao aa ab) v flex (Tree.at_ (Tree.mk n1 s2 b3 l4 u5) k) = false := by first | (first | exact pres_c (by assumption) (by assumption) | exact pres_d (by assumption) (by assumption) | exact pres_e (by assumption) (by assumption)) | (exfalso; omega)
       exact ⟨(gh.pk (env' := [(0, .v (.slice A l.length c)), (1, .v (.int .i64 v)), (2, .v (.bool flex)), (8, .p 0 0), (9, .p 1 0), (11, .v (.int .i64 ((k : Nat) : Int))), (12, .p 2 0), (13, .p 3 0), (23, .v (.slice A l.length c)), (24, .v (.int .i64 ((l.length : Nat) : Int))), (25, .v (.int .i64 ((k : Nat) : Int))), (54, .v (.bool false))])).cast (by rw [hp_]), ae, aI⟩
    ·
     have jc := of_decide_eq_false aY
     have ec := bG.cast (env' := [(0, .v (.slice A l.length c)), (1, .v (.int .i64 v)), (2, .v (.bool flex)), (8, .p 0 0), (9, .p 1 0), (11, .v (.int .i64 ((k : Nat) : Int))), (12, .p 2 0), (13, .p 3 0), (23, .v (.slice A l.length c)), (24, .v (.int .i64 ((l.length : Nat) : Int))), (25, .v (.int .i64 ((k : Nat) : Int))), (36, .v (.bool false))]) (by rw [aY])
     clear bG
     refine go_rn [4, 5, 6, 7, 8, 9, 10, 11, 12] [13, 14, 15, 16, 17, 18, 19, 20, 21] [(0, .v (.slice A l.length c)), (1, .v (.int .i64 v)), (2, .v (.bool flex)), (8, .p 0 0), (9, .p 1 0), (11, .v (.int .i64 ((k : Nat) : Int))), (12, .p 2 0), (13, .p 3 0), (23, .v (.slice A l.length c)), (24, .v (.int .i64 ((l.length : Nat) : Int))), (25, .v (.int .i64 ((k : Nat) : Int))), (41, .v (.bool false)), (45, .v (.bool (decide (ag ≥ 0))))] ac ec fun kL bK => ?_
     clear ec
     refine (Bool.eq_false_or_eq_true (decide (ag ≥ 0))).elim (fun bd => ?_) (fun bd => ?_)
     ·
      have jd := of_decide_eq_true bd
      have ee := bK.cast (env' := [(0, .v (.slice A l.length c)), (1, .v (.int .i64 v)), (2, .v (.bool flex)), (8, .p 0 0), (9, .p 1 0), (11, .v (.int .i64 ((k : Nat) : Int))), (12, .p 2 0), (13, .p 3 0), (23, .v (.slice A l.length c)), (24, .v (.int .i64 ((l.length : Nat) : Int))), (25, .v (.int .i64 ((k : Nat) : Int))), (41, .v (.bool false)), (45, .v (.bool true))]) (by rw [bd])
      clear bK
      refine go_rn [13, 14, 15] [16, 17, 18, 19, 20, 21] [(0, .v (.slice A l.length c)), (1, .v (.int .i64 v)), (2, .v (.bool flex)), (8, .p 0 0), (9, .p 1 0), (11, .v (.int .i64 ((k : Nat) : Int))), (12, .p 2 0), (13, .p 3 0), (23, .v (.slice A l.length c)), (24, .v (.int .i64 ((l.length : Nat) : Int))), (25, .v (.int .i64 ((k : Nat) : Int))), (41, .v (.bool false)), (48, .v (.bool flex))] ac ee fun kM bL => ?_
      clear ee
      refine (Bool.eq_false_or_eq_true (flex)).elim (fun bf => ?_) (fun bf => ?_)
      ·
       have ef := bL.cast (env' := [(0, .v (.slice A l.length c)), (1, .v (.int .i64 v)), (2, .v (.bool true)), (8, .p 0 0), (9, .p 1 0), (11, .v (.int .i64 ((k : Nat) : Int))), (12, .p 2 0), (13, .p 3 0), (23, .v (.slice A l.length c)), (24, .v (.int .i64 ((l.length : Nat) : Int))), (25, .v (.int .i64 ((k : Nat) : Int))), (41, .v (.bool false)), (48, .v (.bool true))]) (by rw [bf])
       clear bL
       refine go_rn [16, 17] [18, 19, 20, 21] [(0, .v (.slice A l.length c)), (1, .v (.int .i64 v)), (2, .v (.bool true)), (8, .p 0 0), (9, .p 1 0), (11, .v (.int .i64 ((k : Nat) : Int))), (12, .p 2 0), (13, .p 3 0), (23, .v (.slice A l.length c)), (24, .v (.int .i64 ((l.length : Nat) : Int))), (25, .v (.int .i64 ((k : Nat) : Int))), (41, .v (.bool false)), (48, .v (.bool true)), (49, .v (.agg #[.int .i64 aj, .int .i64 ak, .int .i64 al, .int .i64 am, .int .i64 ag, .int .i64 ao, .int .i64 aa, .slice ap ab.length ar])), (50, .v (.agg #[.int .i64 aN, .slice aS aO.length aT, .bool aP, .slice aU aQ.length aV, .slice aW aR.length aX]))] ac ef fun kN eg => ?_
       clear ef
       refine of_op (wpOp_call eg (f := 44) (vs := [.agg #[.int .i64 aj, .int .i64 ak, .int .i64 al, .int .i64 am, .int .i64 ag, .int .i64 ao, .int .i64 aa, .slice ap ab.length ar], .agg #[.int .i64 aN, .slice aS aO.length aT, .bool aP, .slice aU aQ.length aV, .slice aW aR.length aX]]) (d := 51) kz Tryd.call44 (sUsual _ _ _ _ _ _ _ (bC.move ac.step nilM ac.imm) (Nat.le_refl _) (aM.move (ay.trans az).step immM (ay.trans az).to')) ?_)
       rintro e_ kO ⟨rfl, eh⟩
       refine ⟨_, rfl, fun kP ei => ?_⟩
       have ej := ac.next_nil eh
       have gi := ac.frN eh
       clear eg
       refine go_rn [19, 20, 21] [] [(0, .v (.slice A l.length c)), (1, .v (.int .i64 v)), (2, .v (.bool true)), (8, .p 0 0), (9, .p 1 0), (11, .v (.int .i64 ((k : Nat) : Int))), (12, .p 2 0), (13, .p 3 0), (23, .v (.slice A l.length c)), (24, .v (.int .i64 ((l.length : Nat) : Int))), (25, .v (.int .i64 ((k : Nat) : Int))), (54, .v (.bool (!(Fld.usual (Fld.mk aj ak al am ag ao aa ab) (Tree.at_ (Tree.mk n1 s2 b3 l4 u5) k)))))] ej ei fun kQ gj => ?_
       clear ei
       refine wpOps_nil (then_normal ?_)
       have hp_ : Fld.pres (Fld.mk aj ak al am ag ao aa ab) v flex (Tree.at_ (Tree.mk n1 s2 b3 l4 u5) k) = !(Fld.usual (Fld.mk aj ak al am ag ao aa ab) (Tree.at_ (Tree.mk n1 s2 b3 l4 u5) k)) := by first | (first | exact pres_f (by assumption) (by assumption) | exact pres_g (by assumption)) | (exfalso; omega)
       exact ⟨(gj.pk (env' := [(0, .v (.slice A l.length c)), (1, .v (.int .i64 v)), (2, .v (.bool true)), (8, .p 0 0), (9, .p 1 0), (11, .v (.int .i64 ((k : Nat) : Int))), (12, .p 2 0), (13, .p 3 0), (23, .v (.slice A l.length c)), (24, .v (.int .i64 ((l.length : Nat) : Int))), (25, .v (.int .i64 ((k : Nat) : Int))), (54, .v (.bool (!(Fld.usual (Fld.mk aj ak al am ag ao aa ab) (Tree.at_ (Tree.mk n1 s2 b3 l4 u5) k)))))])).cast (by rw [hp_, bf]), ej, gi⟩
      ·
       have ek := bL.cast (env' := [(0, .v (.slice A l.length c)), (1, .v (.int .i64 v)), (2, .v (.bool false)), (8, .p 0 0), (9, .p 1 0), (11, .v (.int .i64 ((k : Nat) : Int))), (12, .p 2 0), (13, .p 3 0), (23, .v (.slice A l.length c)), (24, .v (.int .i64 ((l.length : Nat) : Int))), (25, .v (.int .i64 ((k : Nat) : Int))), (41, .v (.bool false)), (48, .v (.bool false))]) (by rw [bf])
       clear bL
       refine go_rn [16, 17, 18, 19, 20, 21] [] [(0, .v (.slice A l.length c)), (1, .v (.int .i64 v)), (2, .v (.bool false)), (8, .p 0 0), (9, .p 1 0), (11, .v (.int .i64 ((k : Nat) : Int))), (12, .p 2 0), (13, .p 3 0), (23, .v (.slice A l.length c)), (24, .v (.int .i64 ((l.length : Nat) : Int))), (25, .v (.int .i64 ((k : Nat) : Int))), (54, .v (.bool false))] ac ek fun kR gk => ?_
       clear ek
       refine wpOps_nil (then_normal ?_)
       have hp_ : Fld.pres (Fld.mk aj ak al am ag ao aa ab) v flex (Tree.at_ (Tree.mk n1 s2 b3 l4 u5) k) = false := by first | (first | exact pres_c (by assumption) (by assumption) | exact pres_d (by assumption) (by assumption) | exact pres_e (by assumption) (by assumption)) | (exfalso; omega)
       exact ⟨(gk.pk (env' := [(0, .v (.slice A l.length c)), (1, .v (.int .i64 v)), (2, .v (.bool false)), (8, .p 0 0), (9, .p 1 0), (11, .v (.int .i64 ((k : Nat) : Int))), (12, .p 2 0), (13, .p 3 0), (23, .v (.slice A l.length c)), (24, .v (.int .i64 ((l.length : Nat) : Int))), (25, .v (.int .i64 ((k : Nat) : Int))), (54, .v (.bool false))])).cast (by rw [hp_, bf]), ac, Fr.refl _ _ _⟩
     ·
      have je := of_decide_eq_false bd
      have em := bK.cast (env' := [(0, .v (.slice A l.length c)), (1, .v (.int .i64 v)), (2, .v (.bool flex)), (8, .p 0 0), (9, .p 1 0), (11, .v (.int .i64 ((k : Nat) : Int))), (12, .p 2 0), (13, .p 3 0), (23, .v (.slice A l.length c)), (24, .v (.int .i64 ((l.length : Nat) : Int))), (25, .v (.int .i64 ((k : Nat) : Int))), (41, .v (.bool false)), (45, .v (.bool false))]) (by rw [bd])
      clear bK
      refine go_rn [13, 14, 15, 16, 17, 18, 19, 20, 21] [] [(0, .v (.slice A l.length c)), (1, .v (.int .i64 v)), (2, .v (.bool flex)), (8, .p 0 0), (9, .p 1 0), (11, .v (.int .i64 ((k : Nat) : Int))), (12, .p 2 0), (13, .p 3 0), (23, .v (.slice A l.length c)), (24, .v (.int .i64 ((l.length : Nat) : Int))), (25, .v (.int .i64 ((k : Nat) : Int))), (54, .v (.bool false))] ac em fun kS gl => ?_
      clear em
      refine wpOps_nil (then_normal ?_)
      have hp_ : Fld.pres (Fld.mk aj ak al am ag ao aa ab) v flex (Tree.at_ (Tree.mk n1 s2 b3 l4 u5) k) = false := by first | (first | exact pres_c (by assumption) (by assumption) | exact pres_d (by assumption) (by assumption) | exact pres_e (by assumption) (by assumption)) | (exfalso; omega)
      exact ⟨(gl.pk (env' := [(0, .v (.slice A l.length c)), (1, .v (.int .i64 v)), (2, .v (.bool flex)), (8, .p 0 0), (9, .p 1 0), (11, .v (.int .i64 ((k : Nat) : Int))), (12, .p 2 0), (13, .p 3 0), (23, .v (.slice A l.length c)), (24, .v (.int .i64 ((l.length : Nat) : Int))), (25, .v (.int .i64 ((k : Nat) : Int))), (54, .v (.bool false))])).cast (by rw [hp_]), ac, Fr.refl _ _ _⟩
   rintro kT kU ⟨bg, bM, bh⟩
   refine cond_of bg (b := Fld.pres (Fld.mk aj ak al am ag ao aa ab) v flex (Tree.at_ (Tree.mk n1 s2 b3 l4 u5) k)) kz (fun gm => ?_) (fun gm => ?_)
   ·
    refine wp_seq ?_
    refine go_seq_drawK 11 kz bM fun kV cG aC cH => ?_
    clear bM
    refine go_rnD [0, 1, 2, 3, 4, 5, 6] [(0, .v (.slice A l.length c)), (1, .v (.int .i64 v)), (2, .v (.bool flex)), (8, .p 0 0), (9, .p 1 0), (23, .v (.slice A l.length c)), (24, .v (.int .i64 ((l.length : Nat) : Int))), (25, .v (.int .i64 ((k : Nat) : Int))), (55, .v (.agg #[.int .i64 aj, .int .i64 ak, .int .i64 al, .int .i64 am, .int .i64 ag, .int .i64 ao, .int .i64 aa, .slice ap ab.length ar])), (56, .v (.int .i64 v)), (57, .v (.bool flex)), (58, .v (.agg #[.int .i64 aN, .slice aS aO.length aT, .bool aP, .slice aU aQ.length aV, .slice aW aR.length aX])), (60, .v (.slice bV aG.length ce)), (61, .v (.int .i64 ((k : Nat) : Int)))] 4 (panicFree_then (panicFree_then (panicFree_then (panicFree_block (panicFree_then (panicFree_then (panicFree_block (panicFree_then panicFree_body)))))))) (fun _ h => h.cells) cH bg fun kW eo => ?_
    clear bg
    obtain ⟨iq, ir, gn, jf, cI⟩ := Slots.get ia (i := k) (by first | omega | (have h_ := told_idx hgu (by assumption); omega))
    obtain ⟨iu, ep⟩ : ∃ x, aG[k]? = some x := ⟨_, List.getElem?_eq_getElem (by omega)⟩
    have cJ := iO k iu ep
    obtain ⟨dr, dt, du, dv, dw, fO, fP, fQ, fR, fS, fT, jg, rfl, cK, iv, iw, kX, kY⟩ := cJ.open_
    rw [cK] at cJ
    have ix := iv.small
    have iy := iw.small
    rw [cK] at cI
    refine takeC_index eo (i := 7) (t := 23) (A := bV) (m := aG.length) (q := ((k : Nat) : Int)) (d := 62) kz (e := 26) (size := 5) (bytes := 88) kz gn rfl (by first | omega | (have h_ := told_idx hgu (by assumption); omega)) kz kz (panicFree_then (panicFree_then (panicFree_then (panicFree_block (panicFree_then (panicFree_then (panicFree_block (panicFree_then panicFree_body)))))))) cH fun kZ eu => ?_
    clear eo
    refine takeC_load eu (i := 8) (t := 26) (b := iq) (o := ir + k * 5) (d := 63) kz (cs := [.int .i64 dr, .slice fO dt.length fP, .bool du, .slice fQ dv.length fR, .slice fS dw.length fT]) (v := .agg #[.int .i64 dr, .slice fO dt.length fP, .bool du, .slice fQ dv.length fR, .slice fS dw.length fT]) kz (fun w' h' => (AtF.move cI (TT.step0 aC h') nilM keepF).at_) kz kz (panicFree_then (panicFree_then (panicFree_then (panicFree_block (panicFree_then (panicFree_then (panicFree_block (panicFree_then panicFree_body)))))))) cH fun k5 ev => ?_
    clear eu
    refine anyC_op (i := 9) kz (wpOp_call ev (f := 45) (vs := [.agg #[.int .i64 aj, .int .i64 ak, .int .i64 al, .int .i64 am, .int .i64 ag, .int .i64 ao, .int .i64 aa, .slice ap ab.length ar], .int .i64 v, .bool flex, .agg #[.int .i64 aN, .slice aS aO.length aT, .bool aP, .slice aU aQ.length aV, .slice aW aR.length aX], .agg #[.int .i64 dr, .slice fO dt.length fP, .bool du, .slice fQ dv.length fR, .slice fS dw.length fT]]) (d := 64) kz Tryd.call45 ( sTold1 hT _ _ _ (Tree.at_ (Tree.mk n1 s2 b3 l4 u5) k) _ (Tree.mk dr dt du dv dw) _ _ (bC.move aC.step nilM aC.imm) (plains_mem hpl (List.mem_of_getElem? cu)) (aM.move (((ay.trans az).trans bh).trans cG).step immM (((ay.trans az).trans bh).trans cG).to') (cJ.move aC.step nilM aC.imm) ((hP.2.1 k _ _ cu ep).1 (by assumption))) ?_)
    rintro e_ k6 ⟨rfl, ew⟩
    refine ⟨_, rfl, fun k7 ey => ?_⟩
    have cL := aC.next_nil ew
    have ez := aC.frN ew
    clear ev
    have eB := TT.ofW ez cL
    refine ⟨fun _ => eB, ?_⟩
    refine go_rnD [10] [(0, .v (.slice A l.length c)), (1, .v (.int .i64 v)), (2, .v (.bool flex)), (8, .p 0 0), (9, .p 1 0), (23, .v (.slice A l.length c)), (24, .v (.int .i64 ((l.length : Nat) : Int))), (25, .v (.int .i64 ((k : Nat) : Int))), (65, .v (.bool false))] 0 (panicFree_then (panicFree_then (panicFree_then (panicFree_block (panicFree_then (panicFree_then (panicFree_block (panicFree_then panicFree_body)))))))) (fun _ h => h.cells) eB ey fun k8 cM => ?_
    clear ey
    refine anyC_done kz ?_ _
    refine then_normal ?_
    refine cond_false cM (b := false) kz rfl ?_
    refine wp_skip ?_
    refine then_normal ?_
    refine wp_exit ?_
    refine then_exit ?_
    refine block_exit ?_
    refine then_normal ?_
    refine go_region [0, 1] kz ?_
    refine go_rn [0, 1] [] [(0, .v (.slice A l.length c)), (1, .v (.int .i64 v)), (2, .v (.bool flex)), (8, .p 0 0), (9, .p 1 0), (23, .v (.slice A l.length c)), (24, .v (.int .i64 ((l.length : Nat) : Int))), (25, .v (.int .i64 (IntKind.i64.wrap (((k : Nat) : Int) + 1))))] cL cM fun k9 gp => ?_
    clear cM
    refine wpOps_nil (then_normal ?_)
    obtain ⟨eC, gq, gt⟩ := cL.cutB gp 2 [⟨dF, 0, [.int .i64 n1, .slice A6 s2.length c7, .bool b3, .slice A8 l4.length c9, .slice bT u5.length bU], true⟩, ⟨dG, 0, [.int .i64 di, .slice dp dj.length dq, .bool dl, .slice bV aG.length ce, .slice bW aB.length cm], true⟩] [(0, .v (.slice A l.length c)), (1, .v (.int .i64 v)), (2, .v (.bool flex)), (8, .p 0 0), (9, .p 1 0), (23, .v (.slice A l.length c)), (24, .v (.int .i64 ((l.length : Nat) : Int))), (25, .v (.int .i64 (IntKind.i64.wrap (((k : Nat) : Int) + 1))))]
    have gv : IntKind.i64.wrap (((k : Nat) : Int) + 1) = ((k + 1 : Nat) : Int) := wrap_succ (by omega)
    rw [gv] at eC
    exact ⟨l.length - (k + 1), by omega, k + 1, rfl, by omega, eC.pk, gq, (((((((((fM.trans cz).trans cB).trans cD).trans ay).trans az).trans bh).trans cG).trans ez).trans gt)⟩
   ·
    refine wp_skip ?_
    refine then_normal ?_
    refine go_seq_drawK 11 kz bM fun la eD cN cO => ?_
    clear bM
    refine go_rnD [0, 2, 3, 4] [(0, .v (.slice A l.length c)), (1, .v (.int .i64 v)), (2, .v (.bool flex)), (8, .p 0 0), (9, .p 1 0), (23, .v (.slice A l.length c)), (24, .v (.int .i64 ((l.length : Nat) : Int))), (25, .v (.int .i64 ((k : Nat) : Int))), (66, .v (.agg #[.int .i64 aj, .int .i64 ak, .int .i64 al, .int .i64 am, .int .i64 ag, .int .i64 ao, .int .i64 aa, .slice ap ab.length ar])), (69, .v (.slice bV aG.length ce)), (70, .v (.int .i64 ((k : Nat) : Int)))] 7 (panicFree_then (panicFree_block (panicFree_then (panicFree_then (panicFree_block (panicFree_then panicFree_body)))))) (fun _ h => h.cells) cO bg fun lb eE => ?_
    clear bg
    obtain ⟨iz, iA, gw, jh, cP⟩ := Slots.get ia (i := k) (by first | omega | (have h_ := told_idx hgu (by assumption); omega))
    obtain ⟨iB, cQ⟩ : ∃ x, aG[k]? = some x := ⟨_, List.getElem?_eq_getElem (by omega)⟩
    have bN := iO k iB cQ
    obtain ⟨bX, bY, bZ, b8, cd, dx, dy, dz, dA, dB, dC, ji, rfl, cR, iC, iD, lc, ld⟩ := bN.open_
    rw [cR] at bN
    have iE := iC.small
    have iF := iD.small
    rw [cR] at cP
    refine takeC_index eE (i := 5) (t := 23) (A := bV) (m := aG.length) (q := ((k : Nat) : Int)) (d := 71) kz (e := 26) (size := 5) (bytes := 88) kz gw rfl (by first | omega | (have h_ := told_idx hgu (by assumption); omega)) kz kz (panicFree_then (panicFree_block (panicFree_then (panicFree_then (panicFree_block (panicFree_then panicFree_body)))))) cO fun lf eF => ?_
    clear eE
    refine takeC_load eF (i := 6) (t := 26) (b := iz) (o := iA + k * 5) (d := 72) kz (cs := [.int .i64 bX, .slice dx bY.length dy, .bool bZ, .slice dz b8.length dA, .slice dB cd.length dC]) (v := .agg #[.int .i64 bX, .slice dx bY.length dy, .bool bZ, .slice dz b8.length dA, .slice dB cd.length dC]) kz (fun w' h' => (AtF.move cP (TT.step0 cN h') nilM keepF).at_) kz kz (panicFree_then (panicFree_block (panicFree_then (panicFree_then (panicFree_block (panicFree_then panicFree_body)))))) cO fun lg bO => ?_
    clear eF
    refine anyC_two (i := 1) (j := 7) kz ?_ ?_
    ·
     refine (wpOp_lit cN bO (e := 56) (size := 8) (len := 1) (cs := [.int .i64 aj, .int .i64 ak, .int .i64 al, .int .i64 am, .int .i64 ag, .int .i64 ao, .int .i64 aa, .slice ap ab.length ar]) (d := 67) kz kz fun gx lh li jj jk bP cS eG => ?_)
     clear bO
     have gy := TT.ofW bP cS
     refine ⟨fun _ => gy, ?_⟩
     refine anyC_op (i := 7) kz (wpOp_lit cS eG (e := 26) (size := 5) (len := 1) (cs := [.int .i64 bX, .slice dx bY.length dy, .bool bZ, .slice dz b8.length dA, .slice dB cd.length dC]) (d := 73) kz kz fun gz lj lm jl jm cT au eH => ?_)
     clear eG cS
     have eI := TT.ofW (bP.trans cT) au
     refine ⟨fun _ => eI, ?_⟩
     refine go_rnD [8] [(0, .v (.slice A l.length c)), (1, .v (.int .i64 v)), (2, .v (.bool flex)), (8, .p 0 0), (9, .p 1 0), (23, .v (.slice A l.length c)), (24, .v (.int .i64 ((l.length : Nat) : Int))), (25, .v (.int .i64 ((k : Nat) : Int))), (67, .v (.slice (some ⟨gx, 0, none⟩) 1 1)), (74, .v (.agg #[.int .i64 0, .slice none 0 0, .bool false, .slice (some ⟨gz, 0, none⟩) 1 1, .slice none 0 0]))] 2 (panicFree_then (panicFree_block (panicFree_then (panicFree_then (panicFree_block (panicFree_then panicFree_body)))))) (fun _ h => h.cells) eI eH fun ln eJ => ?_
     clear eH
     refine anyC_op (i := 9) kz (wpOp_call eJ (f := 46) (vs := [.slice (some ⟨gx, 0, none⟩) 1 1, .agg #[.int .i64 0, .slice none 0 0, .bool false, .slice (some ⟨gz, 0, none⟩) 1 1, .slice none 0 0]]) (d := 75) kz Tryd.call46 ( sUs hU _ _ [(Fld.mk aj ak al am ag ao aa ab)] _ (.mk 0 [] false [(Tree.mk bX bY bZ b8 cd)] []) _ _ (flds_one (au.own 0 _ rfl) ((bC.move au.step nilM au.imm)) (Nat.le_refl _)) (tree_one (au.own 1 _ rfl) ((bN.move au.step nilM au.imm)) (Nat.le_refl _)) (us_one ((hP.2.1 k _ _ cu cQ).2 (by assumption)))) ?_)
     rintro e_ lp ⟨rfl, eK⟩
     refine ⟨_, rfl, fun lq eL => ?_⟩
     have cU := au.next_nil eK
     have eM := au.frN eK
     clear eJ au
     have eN := TT.ofW ((bP.trans cT).trans eM) cU
     refine ⟨fun _ => eN, ?_⟩
     refine go_rnD [10] [(0, .v (.slice A l.length c)), (1, .v (.int .i64 v)), (2, .v (.bool flex)), (8, .p 0 0), (9, .p 1 0), (23, .v (.slice A l.length c)), (24, .v (.int .i64 ((l.length : Nat) : Int))), (25, .v (.int .i64 ((k : Nat) : Int))), (76, .v (.bool false))] 0 (panicFree_then (panicFree_block (panicFree_then (panicFree_then (panicFree_block (panicFree_then panicFree_body)))))) (fun _ h => h.cells) eN eL fun lr cV => ?_
     clear eL
     refine anyC_done kz ?_ _
     refine then_normal ?_
     refine cond_false cV (b := false) kz rfl ?_
     refine wp_skip ?_
     refine block_normal ?_
     refine then_normal ?_
     refine go_region [0, 1] kz ?_
     refine go_rn [0, 1] [] [(0, .v (.slice A l.length c)), (1, .v (.int .i64 v)), (2, .v (.bool flex)), (8, .p 0 0), (9, .p 1 0), (23, .v (.slice A l.length c)), (24, .v (.int .i64 ((l.length : Nat) : Int))), (25, .v (.int .i64 (IntKind.i64.wrap (((k : Nat) : Int) + 1))))] cU cV fun ls gA => ?_
     clear cV
     refine wpOps_nil (then_normal ?_)
     obtain ⟨eO, gB, gC⟩ := cU.cutB gA 2 [⟨dF, 0, [.int .i64 n1, .slice A6 s2.length c7, .bool b3, .slice A8 l4.length c9, .slice bT u5.length bU], true⟩, ⟨dG, 0, [.int .i64 di, .slice dp dj.length dq, .bool dl, .slice bV aG.length ce, .slice bW aB.length cm], true⟩] [(0, .v (.slice A l.length c)), (1, .v (.int .i64 v)), (2, .v (.bool flex)), (8, .p 0 0), (9, .p 1 0), (23, .v (.slice A l.length c)), (24, .v (.int .i64 ((l.length : Nat) : Int))), (25, .v (.int .i64 (IntKind.i64.wrap (((k : Nat) : Int) + 1))))]
     obtain ⟨gD, gE⟩ := gB.cutR 0 []
     have gF : IntKind.i64.wrap (((k : Nat) : Int) + 1) = ((k + 1 : Nat) : Int) := wrap_succ (by omega)
     rw [gF] at eO
     exact ⟨l.length - (k + 1), by omega, k + 1, rfl, by omega, eO.pk, gD, ((((((((((((fM.trans cz).trans cB).trans cD).trans ay).trans az).trans bh).trans eD).trans bP).trans cT).trans eM).trans gC).trans gE)⟩
    ·
     refine (wpOp_lit cN bO (e := 26) (size := 5) (len := 1) (cs := [.int .i64 bX, .slice dx bY.length dy, .bool bZ, .slice dz b8.length dA, .slice dB cd.length dC]) (d := 73) kz kz fun gG lu lv jn jo bQ cW eP => ?_)
     clear bO
     have eQ := TT.ofW bQ cW
     refine ⟨fun _ => eQ, ?_⟩
     refine go_rnD [8] [(0, .v (.slice A l.length c)), (1, .v (.int .i64 v)), (2, .v (.bool flex)), (8, .p 0 0), (9, .p 1 0), (23, .v (.slice A l.length c)), (24, .v (.int .i64 ((l.length : Nat) : Int))), (25, .v (.int .i64 ((k : Nat) : Int))), (66, .v (.agg #[.int .i64 aj, .int .i64 ak, .int .i64 al, .int .i64 am, .int .i64 ag, .int .i64 ao, .int .i64 aa, .slice ap ab.length ar])), (74, .v (.agg #[.int .i64 0, .slice none 0 0, .bool false, .slice (some ⟨gG, 0, none⟩) 1 1, .slice none 0 0]))] 3 (panicFree_then (panicFree_block (panicFree_then (panicFree_then (panicFree_block (panicFree_then panicFree_body)))))) (fun _ h => h.cells) eQ eP fun lw eR => ?_
     clear eP
     refine anyC_op (i := 1) kz (wpOp_lit cW eR (e := 56) (size := 8) (len := 1) (cs := [.int .i64 aj, .int .i64 ak, .int .i64 al, .int .i64 am, .int .i64 ag, .int .i64 ao, .int .i64 aa, .slice ap ab.length ar]) (d := 67) kz kz fun iG lx ly jp jq cX av eS => ?_)
     clear eR cW
     have gH := TT.ofW (bQ.trans cX) av
     refine ⟨fun _ => gH, ?_⟩
     refine anyC_op (i := 9) kz (wpOp_call eS (f := 46) (vs := [.slice (some ⟨iG, 0, none⟩) 1 1, .agg #[.int .i64 0, .slice none 0 0, .bool false, .slice (some ⟨gG, 0, none⟩) 1 1, .slice none 0 0]]) (d := 75) kz Tryd.call46 ( sUs hU _ _ [(Fld.mk aj ak al am ag ao aa ab)] _ (.mk 0 [] false [(Tree.mk bX bY bZ b8 cd)] []) _ _ (flds_one (av.own 1 _ rfl) ((bC.move av.step nilM av.imm)) (Nat.le_refl _)) (tree_one (av.own 0 _ rfl) ((bN.move av.step nilM av.imm)) (Nat.le_refl _)) (us_one ((hP.2.1 k _ _ cu cQ).2 (by assumption)))) ?_)
     rintro e_ lz ⟨rfl, eU⟩
     refine ⟨_, rfl, fun lA eV => ?_⟩
     have cY := av.next_nil eU
     have eW := av.frN eU
     clear eS av
     have eX := TT.ofW ((bQ.trans cX).trans eW) cY
     refine ⟨fun _ => eX, ?_⟩
     refine go_rnD [10] [(0, .v (.slice A l.length c)), (1, .v (.int .i64 v)), (2, .v (.bool flex)), (8, .p 0 0), (9, .p 1 0), (23, .v (.slice A l.length c)), (24, .v (.int .i64 ((l.length : Nat) : Int))), (25, .v (.int .i64 ((k : Nat) : Int))), (76, .v (.bool false))] 0 (panicFree_then (panicFree_block (panicFree_then (panicFree_then (panicFree_block (panicFree_then panicFree_body)))))) (fun _ h => h.cells) eX eV fun lB cZ => ?_
     clear eV
     refine anyC_done kz ?_ _
     refine then_normal ?_
     refine cond_false cZ (b := false) kz rfl ?_
     refine wp_skip ?_
     refine block_normal ?_
     refine then_normal ?_
     refine go_region [0, 1] kz ?_
     refine go_rn [0, 1] [] [(0, .v (.slice A l.length c)), (1, .v (.int .i64 v)), (2, .v (.bool flex)), (8, .p 0 0), (9, .p 1 0), (23, .v (.slice A l.length c)), (24, .v (.int .i64 ((l.length : Nat) : Int))), (25, .v (.int .i64 (IntKind.i64.wrap (((k : Nat) : Int) + 1))))] cY cZ fun lC gI => ?_
     clear cZ
     refine wpOps_nil (then_normal ?_)
     obtain ⟨eY, gJ, gK⟩ := cY.cutB gI 2 [⟨dF, 0, [.int .i64 n1, .slice A6 s2.length c7, .bool b3, .slice A8 l4.length c9, .slice bT u5.length bU], true⟩, ⟨dG, 0, [.int .i64 di, .slice dp dj.length dq, .bool dl, .slice bV aG.length ce, .slice bW aB.length cm], true⟩] [(0, .v (.slice A l.length c)), (1, .v (.int .i64 v)), (2, .v (.bool flex)), (8, .p 0 0), (9, .p 1 0), (23, .v (.slice A l.length c)), (24, .v (.int .i64 ((l.length : Nat) : Int))), (25, .v (.int .i64 (IntKind.i64.wrap (((k : Nat) : Int) + 1))))]
     obtain ⟨gL, gM⟩ := gJ.cutR 0 []
     have gN : IntKind.i64.wrap (((k : Nat) : Int) + 1) = ((k + 1 : Nat) : Int) := wrap_succ (by omega)
     rw [gN] at eY
     exact ⟨l.length - (k + 1), by omega, k + 1, rfl, by omega, eY.pk, gL, ((((((((((((fM.trans cz).trans cB).trans cD).trans ay).trans az).trans bh).trans eD).trans bQ).trans cX).trans eW).trans gK).trans gM)⟩
  ·
   have jr := of_decide_eq_false fN
   refine wp_exit ?_
   refine then_exit ?_
   refine then_exit ?_
   refine block_exit ?_
   refine then_normal ?_
   refine go_seq_region [0, 1, 2, 3, 4] kz ?_
   refine go_rn [0, 1, 2] [3, 4] [(2, .v (.bool flex)), (9, .p 1 0), (78, .v (.slice A l.length c)), (80, .v (.slice bT u5.length bU))] ax cr fun lD eZ => ?_
   clear cr
   refine of_op (wpOp_call eZ (f := 47) (vs := [.slice A l.length c, .slice bT u5.length bU]) (d := 81) kz Tryd.call47 (sUnknown _ _ l _ _ u5 _ _ ⟨xfs, (h1.move ax.step nilM ax.imm), (fun i_ x_ h_ => ((h2 i_ x_ h_).move ax.step nilM ax.imm))⟩ (jO.move ax.step nilM ax.imm)) ?_)
   rintro e_ lE ⟨ah, ai, rfl, gO, c5⟩
   have gP := gO.move (Step.refl _ Nil) nilM (ax.laid (G := F) c5)
   refine ⟨_, rfl, fun lF e9 => ?_⟩
   have af := ax.next_nil c5
   have js := ax.frN c5
   clear eZ
   refine go_rn [4] [] [(2, .v (.bool flex)), (9, .p 1 0), (14, .v (.slice ah ((unknownT l u5).length) ai))] af e9 fun lG fa => ?_
   clear e9
   refine wpOps_nil (then_normal ?_)
   refine wp_seq ?_
   refine go_sp [(9, .p 1 0), (14, .v (.slice ah ((unknownT l u5).length) ai)), (83, .v (.bool (!flex)))] af fa fun lH bi => ?_
   clear fa
   refine cond_of bi (b := !flex) kz (fun gQ => ?_) (fun gQ => ?_)
   ·
    refine go_region [0] kz ?_
    refine go_rn [0] [] [(9, .p 1 0), (14, .v (.slice none 0 0))] af bi fun lI fb => ?_
    clear bi
    refine wpOps_nil (then_normal ?_)
    refine wp_seq ?_
    refine go_sp [(9, .p 1 0), (14, .v (.slice none 0 0)), (89, .v (.bool (((aB.length : Nat) : Int) != 0)))] af fb fun lJ bj => ?_
    clear fb
    refine cond_of bj (b := ((aB.length : Nat) : Int) != 0) kz (fun da => ?_) (fun da => ?_)
    ·
     have jt : ((aB.length : Nat) : Int) ≠ 0 := by simpa using da
     refine go_sp [(10, .v (.bool false))] af bj fun lK gR => ?_
     clear bj
     refine wp_ret ?_
     refine then_ret ?_
     refine leave gR af.cells (v := .bool false) kz ?_
     first
      | (exfalso; omega)
      | exact (told_len hgu (by assumption) (by assumption)).elim
      | exact (told_len0 hgu (by assumption) (by assumption)).elim
      | exact (told_key hgu (by assumption) (by assumption) (by assumption) (by assumption)).elim
      | exact (told_val hgu (by assumption) (by assumption) (by assumption) (by assumption)).elim
      | (exfalso; simp_all; done)
    ·
     have ju : ((aB.length : Nat) : Int) = 0 := by simpa using da
     refine wp_skip ?_
     refine then_normal ?_
     refine wp_seq ?_
     refine go_sp [(9, .p 1 0), (90, .v (.slice none 0 0)), (91, .v (.int .i64 0)), (92, .v (.int .i64 0))] af bj fun lL fe => ?_
     clear bj
     refine wp_block ?_
     refine wp_loop_ghost (fun n_ a_ w_ => ∃ (k : Nat), n_ = 0 - k ∧ k ≤ 0 ∧ LInv af 120 [⟨dF, 0, [.int .i64 n1, .slice A6 s2.length c7, .bool b3, .slice A8 l4.length c9, .slice bT u5.length bU], true⟩, ⟨dG, 0, [.int .i64 di, .slice dp dj.length dq, .bool dl, .slice bV aG.length ce, .slice bW aB.length cm], true⟩] [] [(9, .p 1 0), (90, .v (.slice none 0 0)), (91, .v (.int .i64 0)), (92, .v (.int .i64 ((k : Nat) : Int)))] a_ w_) (0) ⟨0, by omega, by omega, fe.pk, af, Fr.refl _ _ _⟩ ?_
     clear fe
     rintro lM lN lO ⟨k, jv, jw, ff, bR, jx⟩
     refine go_sp [(9, .p 1 0), (90, .v (.slice none 0 0)), (91, .v (.int .i64 0)), (92, .v (.int .i64 ((k : Nat) : Int))), (93, .v (.bool (decide (((k : Nat) : Int) < 0))))] bR ff fun lP db => ?_
     clear ff
     refine wp_seq ?_
     refine cond_false db (b := decide (((k : Nat) : Int) < 0)) kz (decide_eq_false (by omega)) ?_
     refine wp_exit ?_
     refine then_exit ?_
     refine then_exit ?_
     refine block_exit ?_
     refine then_normal ?_
     refine go_sp [(10, .v (.bool true))] bR db fun lQ gS => ?_
     clear db
     refine wp_ret ?_
     refine leave gS bR.cells (v := .bool true) kz ?_
     exact ⟨rfl, bR.step⟩
   ·
    refine wp_skip ?_
    refine then_normal ?_
    refine wp_seq ?_
    refine go_sp [(9, .p 1 0), (14, .v (.slice ah ((unknownT l u5).length) ai)), (89, .v (.bool (((aB.length : Nat) : Int) != (((unknownT l u5).length : Nat) : Int))))] af bi fun lR bk => ?_
    clear bi
    refine cond_of bk (b := ((aB.length : Nat) : Int) != (((unknownT l u5).length : Nat) : Int)) kz (fun dc => ?_) (fun dc => ?_)
    ·
     have jy : ((aB.length : Nat) : Int) ≠ (((unknownT l u5).length : Nat) : Int) := by simpa using dc
     refine go_sp [(10, .v (.bool false))] af bk fun lS gT => ?_
     clear bk
     refine wp_ret ?_
     refine then_ret ?_
     refine leave gT af.cells (v := .bool false) kz ?_
     first
      | (exfalso; omega)
      | exact (told_len hgu (by assumption) (by assumption)).elim
      | exact (told_len0 hgu (by assumption) (by assumption)).elim
      | exact (told_key hgu (by assumption) (by assumption) (by assumption) (by assumption)).elim
      | exact (told_val hgu (by assumption) (by assumption) (by assumption) (by assumption)).elim
      | (exfalso; simp_all; done)
    ·
     have jz : ((aB.length : Nat) : Int) = (((unknownT l u5).length : Nat) : Int) := by simpa using dc
     refine wp_skip ?_
     refine then_normal ?_
     refine wp_seq ?_
     refine go_sp [(9, .p 1 0), (90, .v (.slice ah ((unknownT l u5).length) ai)), (91, .v (.int .i64 (((unknownT l u5).length : Nat) : Int))), (92, .v (.int .i64 0))] af bk fun lT fg => ?_
     clear bk
     refine wp_block ?_
     obtain ⟨jA, gU, iH⟩ := gP.ex
     have iI := gU.small
     refine wp_loop_ghost (fun n_ a_ w_ => ∃ (k : Nat), n_ = (unknownT l u5).length - k ∧ k ≤ (unknownT l u5).length ∧ LInv af 120 [⟨dF, 0, [.int .i64 n1, .slice A6 s2.length c7, .bool b3, .slice A8 l4.length c9, .slice bT u5.length bU], true⟩, ⟨dG, 0, [.int .i64 di, .slice dp dj.length dq, .bool dl, .slice bV aG.length ce, .slice bW aB.length cm], true⟩] [] [(9, .p 1 0), (90, .v (.slice ah ((unknownT l u5).length) ai)), (91, .v (.int .i64 (((unknownT l u5).length : Nat) : Int))), (92, .v (.int .i64 ((k : Nat) : Int)))] a_ w_) ((unknownT l u5).length) ⟨0, by omega, by omega, fg.pk, af, Fr.refl _ _ _⟩ ?_
     clear fg
     rintro lU lV lW ⟨k, jB, jC, fh, aD, aE⟩
     refine go_sp [(9, .p 1 0), (90, .v (.slice ah ((unknownT l u5).length) ai)), (91, .v (.int .i64 (((unknownT l u5).length : Nat) : Int))), (92, .v (.int .i64 ((k : Nat) : Int))), (93, .v (.bool (decide (((k : Nat) : Int) < (((unknownT l u5).length : Nat) : Int)))))] aD fh fun lX bn => ?_
     clear fh
     refine wp_seq ?_
     refine cond_of bn (b := decide (((k : Nat) : Int) < (((unknownT l u5).length : Nat) : Int))) kz (fun de => ?_) (fun de => ?_)
     ·
      have jD := of_decide_eq_true de
      refine wp_skip ?_
      refine then_normal ?_
      refine wp_seq ?_
      refine wp_block ?_
      refine go_seq_region [0, 1, 2, 3, 4, 5] kz ?_
      refine go_rn [0] [1, 2, 3, 4, 5] [(9, .p 1 0), (90, .v (.slice ah ((unknownT l u5).length) ai)), (91, .v (.int .i64 (((unknownT l u5).length : Nat) : Int))), (92, .v (.int .i64 ((k : Nat) : Int))), (94, .v (.int .i64 ((k : Nat) : Int)))] aD bn fun lY fi => ?_
      clear bn
      obtain ⟨iJ, iK, gV, jE, df⟩ := Slots.get gU (i := k) (by first | omega | (have h_ := told_idx hgu (by assumption); omega))
      obtain ⟨⟨aF, aA⟩, gW⟩ : ∃ x, (unknownT l u5)[k]? = some x := ⟨_, List.getElem?_eq_getElem (by omega)⟩
      obtain ⟨⟨bo, bp, fU, fj⟩, lZ, l0⟩ := iH k aF aA gW
      rw [fU] at df
      refine of_op (wpOp_index fi (t := 24) (A := ah) (m := ((unknownT l u5).length)) (q := ((k : Nat) : Int)) (d := 95) kz (e := 73) (size := 2) (bytes := 32) kz gV rfl (by first | omega | (have h_ := told_idx hgu (by assumption); omega)) fun l3 fk => ?_)
      clear fi
      refine of_op (wpOp_load fk (t := 73) (b := iJ) (o := iK + k * 2) (d := 96) kz (cs := [.int .u32 aF, .slice bo aA.length bp]) (v := .agg #[.int .u32 aF, .slice bo aA.length bp]) kz (AtF.move df aE.step immM aE.to').at_ fun l5 fl => ?_)
      clear fk
      refine of_op (wpOp_alloc aD fl (d := 16) (cs := [.int .u32 0, .slice none 0 0]) kz fun l6 l7 l9 jF jG bq dg fm => ?_)
      clear fl aD
      refine go_rn [4] [5] [(9, .p 1 0), (15, .v (.int .i64 ((k : Nat) : Int))), (16, .p 2 0), (90, .v (.slice ah ((unknownT l u5).length) ai)), (91, .v (.int .i64 (((unknownT l u5).length : Nat) : Int))), (92, .v (.int .i64 ((k : Nat) : Int))), (96, .v (.agg #[.int .u32 aF, .slice bo aA.length bp]))] dg fm fun ma fo => ?_
      clear fm
      refine of_op (wpOp_store dg fo (oi := 2) (cs := [.int .u32 aF, .slice bo aA.length bp]) kz fun mc bt fq fr => ?_)
      clear fo dg
      refine wpOps_nil (then_normal ?_)
      refine go_seq_drawK 22 kz fq fun md bu aJ aw => ?_
      clear fq
      refine go_rnD [0, 1, 2, 6, 7] [(9, .p 1 0), (15, .v (.int .i64 ((k : Nat) : Int))), (16, .p 2 0), (90, .v (.slice ah ((unknownT l u5).length) ai)), (91, .v (.int .i64 (((unknownT l u5).length : Nat) : Int))), (92, .v (.int .i64 ((k : Nat) : Int))), (98, .v (.slice bW aB.length cm)), (99, .v (.int .i64 ((k : Nat) : Int))), (104, .v (.int .u32 aF))] 17 (panicFree_then (panicFree_block (panicFree_then (panicFree_then (panicFree_block (panicFree_then panicFree_body)))))) (fun _ h => h.cells) aw fr fun me ft => ?_
      clear fr
      obtain ⟨dD, dE, fu, jH, bD⟩ := Slots.get iR (i := k) (by first | omega | (have h_ := told_idx hgu (by assumption); omega))
      obtain ⟨⟨bE, bF⟩, gX⟩ : ∃ x, aB[k]? = some x := ⟨_, List.getElem?_eq_getElem (by omega)⟩
      obtain ⟨⟨fV, fW, fX, gY⟩, mf, mg⟩ := jT k bE bF gX
      rw [fX] at bD
      refine takeC_index ft (i := 3) (t := 24) (A := bW) (m := aB.length) (q := ((k : Nat) : Int)) (d := 100) kz (e := 73) (size := 2) (bytes := 32) kz fu rfl (by first | omega | (have h_ := told_idx hgu (by assumption); omega)) kz kz (panicFree_then (panicFree_block (panicFree_then (panicFree_then (panicFree_block (panicFree_then panicFree_body)))))) aw fun mh fv => ?_
      clear ft
      refine go_rnD [4] [(9, .p 1 0), (15, .v (.int .i64 ((k : Nat) : Int))), (16, .p 2 0), (90, .v (.slice ah ((unknownT l u5).length) ai)), (91, .v (.int .i64 (((unknownT l u5).length : Nat) : Int))), (92, .v (.int .i64 ((k : Nat) : Int))), (101, .v (.pointer (some ⟨dD, dE + k * 2, none⟩))), (104, .v (.int .u32 aF))] 15 (panicFree_then (panicFree_block (panicFree_then (panicFree_then (panicFree_block (panicFree_then panicFree_body)))))) (fun _ h => h.cells) aw fv fun mi fw => ?_
      clear fv
      refine takeC_load fw (i := 5) (t := 71) (b := dD) (o := dE + k * 2) (d := 102) kz (cs := [.int .u32 bE]) (v := .int .u32 bE) kz (fun w' h' => (At.drop (AtF.move bD (TT.step0 aJ h') nilM keepF).at_ 0 1)) kz kz (panicFree_then (panicFree_block (panicFree_then (panicFree_then (panicFree_block (panicFree_then panicFree_body)))))) aw fun mj fx => ?_
      clear fw
      refine go_rnD [8, 9] [(9, .p 1 0), (15, .v (.int .i64 ((k : Nat) : Int))), (16, .p 2 0), (90, .v (.slice ah ((unknownT l u5).length) ai)), (91, .v (.int .i64 (((unknownT l u5).length : Nat) : Int))), (92, .v (.int .i64 ((k : Nat) : Int))), (106, .v (.bool (bE != aF)))] 12 (panicFree_then (panicFree_block (panicFree_then (panicFree_then (panicFree_block (panicFree_then panicFree_body)))))) (fun _ h => h.cells) aw fx fun ml bS => ?_
      clear fx
      refine (Bool.eq_false_or_eq_true (bE != aF)).elim (fun bw => ?_) (fun bw => ?_)
      ·
       have jI : bE ≠ aF := by simpa using bw
       have fy := bS.cast (env' := [(9, .p 1 0), (15, .v (.int .i64 ((k : Nat) : Int))), (16, .p 2 0), (90, .v (.slice ah ((unknownT l u5).length) ai)), (91, .v (.int .i64 (((unknownT l u5).length : Nat) : Int))), (92, .v (.int .i64 ((k : Nat) : Int))), (106, .v (.bool true))]) (by rw [bw])
       clear bS
       refine go_rnD [10, 11, 12, 13, 14, 15, 16, 17, 18, 19, 20, 21] [(9, .p 1 0), (90, .v (.slice ah ((unknownT l u5).length) ai)), (91, .v (.int .i64 (((unknownT l u5).length : Nat) : Int))), (92, .v (.int .i64 ((k : Nat) : Int))), (118, .v (.bool true))] 0 (panicFree_then (panicFree_block (panicFree_then (panicFree_then (panicFree_block (panicFree_then panicFree_body)))))) (fun _ h => h.cells) aw fy fun mn dh => ?_
       clear fy
       refine anyC_done kz ?_ _
       refine then_normal ?_
       refine cond_true dh (b := true) kz rfl ?_
       refine go_sp [(10, .v (.bool false))] aJ dh fun mo gZ => ?_
       clear dh
       refine wp_ret ?_
       refine block_ret ?_
       refine then_ret ?_
       refine then_ret ?_
       refine block_ret ?_
       refine then_ret ?_
       refine leave gZ aJ.cells (v := .bool false) kz ?_
       first
        | (exfalso; omega)
        | exact (told_len hgu (by assumption) (by assumption)).elim
        | exact (told_len0 hgu (by assumption) (by assumption)).elim
        | exact (told_key hgu (by assumption) (by assumption) (by assumption) (by assumption)).elim
        | exact (told_val hgu (by assumption) (by assumption) (by assumption) (by assumption)).elim
        | (exfalso; simp_all; done)
      ·
       have jJ : bE = aF := by simpa using bw
       have fz := bS.cast (env' := [(9, .p 1 0), (15, .v (.int .i64 ((k : Nat) : Int))), (16, .p 2 0), (90, .v (.slice ah ((unknownT l u5).length) ai)), (91, .v (.int .i64 (((unknownT l u5).length : Nat) : Int))), (92, .v (.int .i64 ((k : Nat) : Int))), (106, .v (.bool false))]) (by rw [bw])
       clear bS
       refine go_rnD [10, 11, 12, 16, 17] [(9, .p 1 0), (90, .v (.slice ah ((unknownT l u5).length) ai)), (91, .v (.int .i64 (((unknownT l u5).length : Nat) : Int))), (92, .v (.int .i64 ((k : Nat) : Int))), (106, .v (.bool false)), (108, .v (.slice bW aB.length cm)), (109, .v (.int .i64 ((k : Nat) : Int))), (114, .v (.slice bo aA.length bp))] 7 (panicFree_then (panicFree_block (panicFree_then (panicFree_then (panicFree_block (panicFree_then panicFree_body)))))) (fun _ h => h.cells) aw fz fun mp fA => ?_
       clear fz
       refine takeC_index fA (i := 13) (t := 24) (A := bW) (m := aB.length) (q := ((k : Nat) : Int)) (d := 110) kz (e := 73) (size := 2) (bytes := 32) kz fu rfl (by first | omega | (have h_ := told_idx hgu (by assumption); omega)) kz kz (panicFree_then (panicFree_block (panicFree_then (panicFree_then (panicFree_block (panicFree_then panicFree_body)))))) aw fun mq fB => ?_
       clear fA
       refine go_rnD [14] [(9, .p 1 0), (90, .v (.slice ah ((unknownT l u5).length) ai)), (91, .v (.int .i64 (((unknownT l u5).length : Nat) : Int))), (92, .v (.int .i64 ((k : Nat) : Int))), (106, .v (.bool false)), (111, .v (.pointer (some ⟨dD, dE + k * 2 + 1, none⟩))), (114, .v (.slice bo aA.length bp))] 5 (panicFree_then (panicFree_block (panicFree_then (panicFree_then (panicFree_block (panicFree_then panicFree_body)))))) (fun _ h => h.cells) aw fB fun mr fC => ?_
       clear fB
       refine takeC_load fC (i := 15) (t := 22) (b := dD) (o := dE + k * 2 + 1) (d := 112) kz (cs := [.slice fV bF.length fW]) (v := .slice fV bF.length fW) kz (fun w' h' => (At.drop (AtF.move bD (TT.step0 aJ h') nilM keepF).at_ 1 1)) kz kz (panicFree_then (panicFree_block (panicFree_then (panicFree_then (panicFree_block (panicFree_then panicFree_body)))))) aw fun mt fD => ?_
       clear fC
       have iL := whole_le aA
       refine anyC_op (i := 18) kz (wpOp_call fD (f := 48) (vs := [.slice bo aA.length bp]) (d := 115) kz Tryd.call48 (sWhole _ _ aA (fj.move (((aE.trans bq).trans bt).trans bu).step immM (((aE.trans bq).trans bt).trans bu).to').le _) ?_)
       rintro e_ mu ⟨rfl, fE⟩
       refine ⟨_, rfl, fun mw fF => ?_⟩
       have aK := aJ.next_nil fE
       have bx := aJ.frN fE
       clear fD
       have g6 := TT.ofW bx aK
       refine ⟨fun _ => g6, ?_⟩
       refine anyC_op (i := 19) kz (wpOp_call fF (f := 14) (vs := [.slice fV bF.length fW, .slice bo ((whole aA).length) bp]) (d := 116) kz Tryd.call14 (sSame _ _ _ _ bF (whole aA) _ _ ((gY.move aK.step nilM aK.imm).move (Step.refl _ Nil) nilM allF) (((fj.take 32767).move ((((aE.trans bq).trans bt).trans bu).trans bx).step immM ((((aE.trans bq).trans bt).trans bu).trans bx).to').move (Step.refl _ Nil) nilM allF)) ?_)
       rintro e_ mx ⟨rfl, fG⟩
       refine ⟨_, rfl, fun my fH => ?_⟩
       have bz := aK.next_nil fG
       have fI := aK.frN fG
       clear fF aK
       have fJ := TT.ofW (bx.trans fI) bz
       refine ⟨fun _ => fJ, ?_⟩
       refine go_rnD [20, 21] [(9, .p 1 0), (90, .v (.slice ah ((unknownT l u5).length) ai)), (91, .v (.int .i64 (((unknownT l u5).length : Nat) : Int))), (92, .v (.int .i64 ((k : Nat) : Int))), (118, .v (.bool (!(decide (bF = (whole aA))))))] 0 (panicFree_then (panicFree_block (panicFree_then (panicFree_then (panicFree_block (panicFree_then panicFree_body)))))) (fun _ h => h.cells) fJ fH fun mz bA => ?_
       clear fH
       refine anyC_done kz ?_ _
       refine then_normal ?_
       refine cond_of bA (b := !(decide (bF = (whole aA)))) kz (fun g7 => ?_) (fun g7 => ?_)
       ·
        refine go_sp [(10, .v (.bool false))] bz bA fun mA g8 => ?_
        clear bA
        refine wp_ret ?_
        refine block_ret ?_
        refine then_ret ?_
        refine then_ret ?_
        refine block_ret ?_
        refine then_ret ?_
        refine leave g8 bz.cells (v := .bool false) kz ?_
        first
         | (exfalso; omega)
         | exact (told_len hgu (by assumption) (by assumption)).elim
         | exact (told_len0 hgu (by assumption) (by assumption)).elim
         | exact (told_key hgu (by assumption) (by assumption) (by assumption) (by assumption)).elim
         | exact (told_val hgu (by assumption) (by assumption) (by assumption) (by assumption)).elim
         | (exfalso; simp_all; done)
       ·
        refine wp_skip ?_
        refine block_normal ?_
        refine then_normal ?_
        refine go_region [0, 1] kz ?_
        refine go_rn [0, 1] [] [(9, .p 1 0), (90, .v (.slice ah ((unknownT l u5).length) ai)), (91, .v (.int .i64 (((unknownT l u5).length : Nat) : Int))), (92, .v (.int .i64 (IntKind.i64.wrap (((k : Nat) : Int) + 1))))] bz bA fun mB g9 => ?_
        clear bA
        refine wpOps_nil (then_normal ?_)
        obtain ⟨fK, hC, hJ⟩ := bz.cutB g9 2 [⟨dF, 0, [.int .i64 n1, .slice A6 s2.length c7, .bool b3, .slice A8 l4.length c9, .slice bT u5.length bU], true⟩, ⟨dG, 0, [.int .i64 di, .slice dp dj.length dq, .bool dl, .slice bV aG.length ce, .slice bW aB.length cm], true⟩] [(9, .p 1 0), (90, .v (.slice ah ((unknownT l u5).length) ai)), (91, .v (.int .i64 (((unknownT l u5).length : Nat) : Int))), (92, .v (.int .i64 (IntKind.i64.wrap (((k : Nat) : Int) + 1))))]
        have hK : IntKind.i64.wrap (((k : Nat) : Int) + 1) = ((k + 1 : Nat) : Int) := wrap_succ (by omega)
        rw [hK] at fK
        exact ⟨(unknownT l u5).length - (k + 1), by omega, k + 1, rfl, by omega, fK.pk, hC, ((((((aE.trans bq).trans bt).trans bu).trans bx).trans fI).trans hJ)⟩
     ·
      have jK := of_decide_eq_false de
      refine wp_exit ?_
      refine then_exit ?_
      refine then_exit ?_
      refine block_exit ?_
      refine then_normal ?_
      refine go_sp [(10, .v (.bool true))] aD bn fun mC hZ => ?_
      clear bn
      refine wp_ret ?_
      refine leave hZ aD.cells (v := .bool true) kz ?_
      exact ⟨rfl, aD.step⟩
theorem sToldP (v : Int) (flex : Bool) : ∀ d, ToOK v flex (ToldP v flex d)
 | 0 => sToldS (fun _ _ _ _ _ _ _ _ _ _ _ _ _ h => h.elim) (fun _ _ _ _ _ _ _ _ _ h => h.elim)
 | d + 1 => sToldS (sToldP v flex d) (sUsualP d)
theorem xControllerRegistrationResponse (w : World) : Calls Tryd.prog 24 #[] w (Gives w (.int .i64 0)) := by
 refine enter (n := 4) Tryd.func24 rfl Tryd.ntmps24 kz fun a hE => ?_
 have hW := WOk.start w Nil
 refine go_sp [] hW hE fun a1 hE2 => ?_
 clear hE
 refine go_seq_region [0, 1, 2, 3] kz ?_
 refine of_op (wpOp_inline hE2 (f := 53) (vs := []) (d := 1) (n' := 3) kz Tryd.call53 Tryd.func53 rfl Tryd.ntmps53 kz fun a3 hE4 => ?_)
 refine go_sp [] hW hE4 fun a5 hE6 => ?_
 clear hE4
 refine go_seq_region [0] kz ?_
 refine of_op (wpOp_alloc hW hE6 (d := 1) (cs := [.int .i16 0, .int .i32 0, .int .i16 0, .pointer none, .map none]) kz fun b7 a8 w9 ax ay az aa ai => ?_)
 clear hE6 hW
 refine wpOps_nil (then_normal ?_)
 refine go_seq_region [0] kz ?_
 refine of_op (wpOp_inline ai (f := 82) (vs := [.pointer (some ⟨b7, 0, none⟩)]) (d := 2) (n' := 2) kz Tryd.call82 Tryd.func82 rfl Tryd.ntmps82 kz fun aA aj => ?_)
 have ak := aj.recast 0 (.v (.pointer (some ⟨b7, 0, none⟩))) (.p 0 0) rfl rfl (Nat.le_of_ble_eq_true (n := 1) rfl)
 refine wp_skip ?_
 refine leave_end ak aa.cells (v := .tuple #[]) kz ?_
 refine ⟨_, rfl, fun aB al => ?_⟩
 have ab : EnvOk 3 [⟨b7, 0, [.int .i16 0, .int .i32 0, .int .i16 0, .pointer none, .map none], true⟩] [(2, .v (.tuple #[])), (1, .p 0 0)] _ := al.places (⟨rfl, rfl, trivial⟩)
 refine wpOps_nil (then_normal ?_)
 refine go_sp [(0, .p 0 0)] aa ab fun aC am => ?_
 clear ab
 refine wp_ret ?_
 refine leave am aa.cells (v := .pointer (some ⟨b7, 0, none⟩)) kz ?_
 refine ⟨_, rfl, fun aD ao => ?_⟩
 have ac : EnvOk 4 [⟨b7, 0, [.int .i16 0, .int .i32 0, .int .i16 0, .pointer none, .map none], true⟩] [(1, .v (.pointer (some ⟨b7, 0, none⟩)))] _ := ao.places (trivial)
 have ae := ac.recast 1 (.v (.pointer (some ⟨b7, 0, none⟩))) (.p 0 0) rfl rfl (Nat.le_of_ble_eq_true (n := 1) rfl)
 have ap := ae.pick (ks := [1]) (env' := [(1, .p 0 0)]) kz
 clear ac
 clear ae
 refine of_op (wpOp_inline ap (f := 54) (vs := [.pointer (some ⟨b7, 0, none⟩)]) (d := 2) (n' := 3) kz Tryd.call54 Tryd.func54 rfl Tryd.ntmps54 kz fun aE ar => ?_)
 have af := ar.recast 0 (.v (.pointer (some ⟨b7, 0, none⟩))) (.p 0 0) rfl rfl (Nat.le_of_ble_eq_true (n := 1) rfl)
 refine go_sp [] aa af fun aF ag => ?_
 clear af
 refine go_sp [(2, .v (.int .i16 0))] aa ag fun aG au => ?_
 clear ag
 refine wp_ret ?_
 refine leave au aa.cells (v := .int .i16 0) kz ?_
 refine ⟨_, rfl, fun aH av => ?_⟩
 have ah : EnvOk 4 [⟨b7, 0, [.int .i16 0, .int .i32 0, .int .i16 0, .pointer none, .map none], true⟩] [(2, .v (.int .i16 0)), (1, .p 0 0)] _ := av.places (⟨rfl, rfl, trivial⟩)
 refine go_rn [2, 3] [] [(0, .v (.int .i64 0))] aa ah fun aI aw => ?_
 clear ah
 refine wpOps_nil (then_normal ?_)
 refine wp_ret ?_
 refine leave aw aa.cells (v := .int .i64 0) kz ?_
 exact ⟨rfl, aa.step⟩
theorem sControllerRegistrationResponse_depth : depths sControllerRegistrationResponseF ≤ 8 := by simp [sControllerRegistrationResponseF, Fld.depth.depths, Fld.depth]
theorem sControllerRegistrationResponse_plain : plains sControllerRegistrationResponseF := by simp [sControllerRegistrationResponseF, Fld.plain.plains, Fld.plain]
theorem fxControllerRegistrationResponse (A : Option Addr) (c : Nat) (v : Int) (w : World) : Calls Tryd.prog 19 #[.agg #[.slice A sControllerRegistrationResponseF.length c, .int .i64 sControllerRegistrationResponseX], .int .i64 v] w (Gives w (.bool (decide (v ≥ sControllerRegistrationResponseX)))) := by
 refine enter (n := 14) Tryd.func19 rfl Tryd.ntmps19 kz fun a hE => ?_
 have hW := WOk.start w Nil
 refine go_seq_region [0, 1] kz ?_
 refine of_op (wpOp_box hW hE (d := 2) (cs := [.slice A sControllerRegistrationResponseF.length c, .int .i64 sControllerRegistrationResponseX]) kz fun b1 a2 w3 hb4 hz5 hF6 hW7 hE8 => ?_)
 clear hE hW
 refine go_rn [1] [] [(1, .v (.int .i64 v)), (2, .p 0 0)] hW7 hE8 fun a9 aa => ?_
 clear hE8
 refine wpOps_nil (then_normal ?_)
 refine go_seq_region [0, 1, 2, 3, 4, 5, 6, 7, 8, 9] kz ?_
 refine go_rn [0, 1, 2, 3] [4, 5, 6, 7, 8, 9] [(1, .v (.int .i64 v)), (2, .p 0 0), (8, .v (.bool (decide (sControllerRegistrationResponseX ≥ 0))))] hW7 aa fun ag ab => ?_
 clear aa
 have ae : (decide (sControllerRegistrationResponseX ≥ 0)) = true := by decide
 have ac := ab.cast (env' := [(1, .v (.int .i64 v)), (2, .p 0 0), (8, .v (.bool true))]) (by rw [ae])
 clear ab
 refine go_rn [4, 5, 6, 7, 8, 9] [] [(4, .v (.bool (decide (v ≥ sControllerRegistrationResponseX))))] hW7 ac fun ah af => ?_
 clear ac
 refine wpOps_nil (then_normal ?_)
 refine wp_ret ?_
 refine leave af hW7.cells (v := .bool (decide (v ≥ sControllerRegistrationResponseX))) kz ?_
 exact ⟨rfl, hW7.step⟩
set_option maxHeartbeats 4000000 in
theorem lawControllerRegistrationResponse (x : Int) (hx : 0 ≤ x) (hx' : x < 256) (ct : List Value) (t : Tree) (w : World) (F : Nat → Nat → Prop) (ht : TreeR w F ct t) (hroom1 : (writeB 8 sControllerRegistrationResponseF sControllerRegistrationResponseX (Int.tmod x (0 + 1)) t).length + 16 ≤ 1099511627776) (hcan : canControllerRegistrationResponse (fitT (Int.tmod x (0 + 1)) 8 sControllerRegistrationResponseF t)) (hkey : Tree.ranged (fitT (Int.tmod x (0 + 1)) 8 sControllerRegistrationResponseF t)) (hpure : tControllerRegistrationResponse (IntKind.i16.wrap (Int.tmod x (0 + 1))) (fitT (Int.tmod x (0 + 1)) 8 sControllerRegistrationResponseF t) = writeB 8 sControllerRegistrationResponseF sControllerRegistrationResponseX (Int.tmod x (0 + 1)) t) (hto : ∀ D, rvControllerRegistrationResponse (IntKind.i16.wrap (Int.tmod x (0 + 1))) D (fitT (Int.tmod x (0 + 1)) 8 sControllerRegistrationResponseF t) → ToldP (Int.tmod x (0 + 1)) (decide ((Int.tmod x (0 + 1)) ≥ sControllerRegistrationResponseX)) 8 sControllerRegistrationResponseF t (trControllerRegistrationResponse D)) :
  Calls Tryd.prog 6 #[.int .u8 x, .agg ct.toArray] w (Gives w (.bool true)) := by
 obtain ⟨n1, s2, b3, l4, u5, A6, c7, A8, c9, aS, aT, de, rfl, rfl, df, dg, dS, dT⟩ := ht.open_
 have cP := df.small
 have cQ := dg.small
 refine enter (n := 42) Tryd.func6 rfl Tryd.ntmps6 kz fun a hE => ?_
 have hW := WOk.start w Nil
 refine go_seq_region [0, 1] kz ?_
 refine of_op (wpOp_box hW hE (d := 3) (cs := [.int .i64 n1, .slice A6 s2.length c7, .bool b3, .slice A8 l4.length c9, .slice aS u5.length aT]) kz fun dh dU dV di dj dl ak bu => ?_)
 clear hE hW
 refine go_rn [1] [] [(0, .v (.int .u8 x)), (3, .p 0 0)] ak bu fun dW bw => ?_
 clear bu
 refine wpOps_nil (then_normal ?_)
 refine wp_seq ?_
 refine go_seq_region [0, 1, 2] kz ?_
 refine go_rn [0] [1, 2] [(0, .v (.int .u8 x)), (3, .p 0 0), (10, .v (.agg #[.int .i64 n1, .slice A6 s2.length c7, .bool b3, .slice A8 l4.length c9, .slice aS u5.length aT]))] ak bw fun dX bx => ?_
 clear bw
 refine of_op (wpOp_call bx (f := 8) (vs := [.agg #[.int .i64 n1, .slice A6 s2.length c7, .bool b3, .slice A8 l4.length c9, .slice aS u5.length aT]]) (d := 11) kz Tryd.call8 (lFits1 _ _ _ _ (ht.move ak.step nilM ak.imm)) ?_)
 rintro e_ dY ⟨cR, rfl, bz⟩
 refine ⟨_, rfl, fun dZ bA => ?_⟩
 have al := ak.next_nil bz
 have dp := ak.frN bz
 clear bx ak
 refine go_rn [2] [] [(0, .v (.int .u8 x)), (3, .p 0 0), (12, .v (.bool (!cR)))] al bA fun d5 aw => ?_
 clear bA
 refine wpOps_nil (then_normal ?_)
 refine cond_of aw (b := !cR) kz (fun bZ => ?_) (fun bZ => ?_)
 ·
  refine go_sp [(4, .v (.bool true))] al aw fun d6 b8 => ?_
  clear aw
  refine wp_ret ?_
  refine then_ret ?_
  refine leave b8 al.cells (v := .bool true) kz ?_
  exact ⟨rfl, al.step⟩
 ·
  refine wp_skip ?_
  refine then_normal ?_
  refine go_seq_region [0, 1] kz ?_
  refine of_op (wpOp_call aw (f := 24) (vs := []) (d := 13) kz Tryd.call24 (xControllerRegistrationResponse _) ?_)
  rintro e_ dq ⟨rfl, bB⟩
  refine ⟨_, rfl, fun d7 bC => ?_⟩
  have ax := al.next_nil bB
  have dr := al.frN bB
  clear aw al
  refine go_rn [1] [] [(0, .v (.int .u8 x)), (3, .p 0 0), (5, .v (.int .i64 0))] ax bC fun d8 bD => ?_
  clear bC
  refine wpOps_nil (then_normal ?_)
  refine wp_seq ?_
  refine go_sp [(0, .v (.int .u8 x)), (3, .p 0 0), (5, .v (.int .i64 0)), (15, .v (.bool false))] ax bD fun d9 bq => ?_
  clear bD
  refine cond_false bq (b := false) kz rfl ?_
  refine wp_skip ?_
  refine then_normal ?_
  refine go_seq_region [0, 1, 2, 3, 4, 5, 6] kz ?_
  refine of_op (wpOp_call bq (f := 25) (vs := []) (d := 16) kz Tryd.call25 (sControllerRegistrationResponse _ (Imm F w dq [⟨dh, 0, [.int .i64 n1, .slice A6 s2.length c7, .bool b3, .slice A8 l4.length c9, .slice aS u5.length aT], true⟩] [])) ?_)
  rintro e_ ea ⟨aU, aV, rfl, cd, bt⟩
  obtain ⟨bE, cS, cT⟩ := cd.move (Step.refl _ Nil) nilM (ax.laid (G := F) bt)
  refine ⟨_, rfl, fun eb bF => ?_⟩
  have aG := ax.next_nil bt
  have dt := ax.frN bt
  clear bq
  refine go_rn [1, 2] [3, 4, 5, 6] [(3, .p 0 0), (16, .v (.agg #[.slice aU sControllerRegistrationResponseF.length aV, .int .i64 sControllerRegistrationResponseX])), (17, .v (.int .u8 x)), (18, .v (.int .i64 0))] aG bF fun ec bG => ?_
  clear bF
  refine of_op (wpOp_call bG (f := 11) (vs := [.int .u8 x, .int .i64 0]) (d := 19) kz Tryd.call11 (lVersion x 0 hx hx' (by decide) (by decide) _) ?_)
  rintro e_ ee ⟨rfl, bH⟩
  refine ⟨_, rfl, fun ef bI => ?_⟩
  have bJ := aG.next_nil bH
  have ah := aG.frN bH
  clear bG aG
  refine of_op (wpOp_alloc bJ bI (d := 6) (cs := [.slice none 0 0, .int .i64 0]) kz fun eg eh ei du dv ai bK bL => ?_)
  clear bI bJ
  refine of_op (wpOp_store bK bL (oi := 1) (cs := [.slice aU sControllerRegistrationResponseF.length aV, .int .i64 sControllerRegistrationResponseX]) kz fun ej aj av bM => ?_)
  clear bL bK
  refine go_rn [6] [] [(3, .p 0 0), (6, .p 1 0), (7, .v (.int .i64 (Int.tmod x (0 + 1))))] av bM fun ek bN => ?_
  clear bM
  refine wpOps_nil (then_normal ?_)
  refine go_seq_region [0, 1, 2, 3, 4, 5, 6, 7, 8, 9, 10, 11] kz ?_
  refine go_rn [0, 1, 2, 3] [4, 5, 6, 7, 8, 9, 10, 11] [(3, .p 0 0), (6, .p 1 0), (7, .v (.int .i64 (Int.tmod x (0 + 1)))), (21, .v (.int .i64 (Int.tmod x (0 + 1)))), (22, .v (.agg #[.slice aU sControllerRegistrationResponseF.length aV, .int .i64 sControllerRegistrationResponseX])), (23, .v (.int .i64 (Int.tmod x (0 + 1)))), (24, .v (.agg #[.int .i64 n1, .slice A6 s2.length c7, .bool b3, .slice A8 l4.length c9, .slice aS u5.length aT]))] av bN fun em bO => ?_
  clear bN
  refine of_op (wpOp_call bO (f := 12) (vs := [.agg #[.slice aU sControllerRegistrationResponseF.length aV, .int .i64 sControllerRegistrationResponseX], .int .i64 (Int.tmod x (0 + 1)), .agg #[.int .i64 n1, .slice A6 s2.length c7, .bool b3, .slice A8 l4.length c9, .slice aS u5.length aT]]) (d := 25) kz Tryd.call12 (sWrite _ _ sControllerRegistrationResponseF sControllerRegistrationResponseX (Int.tmod x (0 + 1)) _ (Tree.mk n1 s2 b3 l4 u5) _ _ ⟨bE, (cS.move ((ah.trans ai).trans aj).step immM ((ah.trans ai).trans aj).to'), (fun i_ x_ h_ => ((cT i_ x_ h_).move ((ah.trans ai).trans aj).step immM ((ah.trans ai).trans aj).to'))⟩ sControllerRegistrationResponse_depth (ht.move av.step nilM av.imm) (Nat.le_trans (Nat.le_add_right _ _) hroom1)) ?_)
  rintro e_ eo ⟨cU, cV, rfl, ce, cm⟩
  refine ⟨_, rfl, fun ep bP => ?_⟩
  obtain ⟨am, ao⟩ := av.frFresh cm (brow cU cV 5 (writeB 8 sControllerRegistrationResponseF sControllerRegistrationResponseX (Int.tmod x (0 + 1)) (Tree.mk n1 s2 b3 l4 u5))) (Nat.le_refl _) ce
  clear bO av
  refine of_op (wpOp_call bP (f := 26) (vs := [.int .i64 (Int.tmod x (0 + 1)), .slice cU ((writeB 8 sControllerRegistrationResponseF sControllerRegistrationResponseX (Int.tmod x (0 + 1)) (Tree.mk n1 s2 b3 l4 u5)).length) cV]) (d := 26) kz Tryd.call26 (tegControllerRegistrationResponse (Int.tmod x (0 + 1)) _ (writeB 8 sControllerRegistrationResponseF sControllerRegistrationResponseX (Int.tmod x (0 + 1)) (Tree.mk n1 s2 b3 l4 u5)) hpure (octs_own (am.own 0 _ rfl) (by first | omega | (rw [uuidB_length]; decide) | (simp only [be_length]; exact Nat.le_trans (widthI_le _) (by decide)) | (have := hroom; omega) | (have := hmade; omega) | (simp only [List.length_append, List.length_nil]; omega)) (F := fun _ _ => True) (fun _ _ _ => trivial)) hcan hkey (by first | omega | (have := hroom1; omega))) ?_)
  rintro e_ dw ⟨bQ, cW, rfl, bR, bS, ay⟩
  have az := bR.move (Step.refl _ Nil) nilM (fun b_ o_ h_ hb_ => am.laid (G := F) ay b_ o_ (.inr (h_.resolve_left id)) hb_)
  obtain ⟨aH, aI, aJ, aK, aL, aM, aN, aO, aP, aQ, aR, cX, cY, aA, cq, cr, dx, dy⟩ := az.open_
  rw [aA] at az
  have cu := cq.small
  have cw := cr.small
  rw [aA]
  refine ⟨_, rfl, fun dz aW => ?_⟩
  have aB := am.next_nil ay
  have ap := am.frN ay
  clear bP
  refine go_rn [6, 7, 8] [9, 10, 11] [(3, .p 0 0), (6, .p 1 0), (7, .v (.int .i64 (Int.tmod x (0 + 1)))), (27, .v (.agg #[.int .i64 aH, .slice aM aI.length aN, .bool aJ, .slice aO aK.length aP, .slice aQ aL.length aR])), (28, .v (.bool true))] aB aW fun dA aX => ?_
  clear aW
  refine of_op (wpOp_alloc aB aX (d := 8) (cs := [.int .i64 0, .slice none 0 0, .bool false, .slice none 0 0, .slice none 0 0]) kz fun dB dC dD cZ c5 ab aY aZ => ?_)
  clear aX aB
  refine of_op (wpOp_store aY aZ (oi := 2) (cs := [.int .i64 aH, .slice aM aI.length aN, .bool aJ, .slice aO aK.length aP, .slice aQ aL.length aR]) kz fun dE ac aC ba => ?_)
  clear aZ aY
  refine go_rn [11] [] [(3, .p 0 0), (6, .p 1 0), (7, .v (.int .i64 (Int.tmod x (0 + 1)))), (8, .p 2 0), (9, .v (.bool true))] aC ba fun dF bd => ?_
  clear ba
  refine wpOps_nil (then_normal ?_)
  refine go_seq_drawK 13 kz aC fun dG ae bf bT => ?_
  clear aC
  refine go_rnD [0, 1, 2, 3, 4, 5, 6, 8, 9] [(30, .v (.bool true)), (32, .v (.slice aU sControllerRegistrationResponseF.length aV)), (33, .v (.int .i64 (Int.tmod x (0 + 1)))), (34, .v (.agg #[.slice aU sControllerRegistrationResponseF.length aV, .int .i64 sControllerRegistrationResponseX])), (35, .v (.int .i64 (Int.tmod x (0 + 1)))), (37, .v (.agg #[.int .i64 n1, .slice A6 s2.length c7, .bool b3, .slice A8 l4.length c9, .slice aS u5.length aT])), (38, .v (.agg #[.int .i64 aH, .slice aM aI.length aN, .bool aJ, .slice aO aK.length aP, .slice aQ aL.length aR]))] 5 (panicFree_then panicFree_body) (fun _ h => h.cells) bT bd fun dH bg => ?_
  clear bd
  refine anyC_op (i := 7) kz (wpOp_call bg (f := 19) (vs := [.agg #[.slice aU sControllerRegistrationResponseF.length aV, .int .i64 sControllerRegistrationResponseX], .int .i64 (Int.tmod x (0 + 1))]) (d := 36) kz Tryd.call19 (fxControllerRegistrationResponse _ _ _ _) ?_)
  rintro e_ dI ⟨rfl, bh⟩
  refine ⟨_, rfl, fun dJ bi => ?_⟩
  have ar := bf.next_nil bh
  have aa := bf.frN bh
  clear bg
  have bU := TT.ofW aa ar
  refine ⟨fun _ => bU, ?_⟩
  refine anyC_op (i := 10) kz (wpOp_call bi (f := 20) (vs := [.agg #[.int .i64 aH, .slice aM aI.length aN, .bool aJ, .slice aO aK.length aP, .slice aQ aL.length aR]]) (d := 39) kz Tryd.call20 (lGot _ _ _ _ _ (az.move (((ab.trans ac).trans ae).trans aa).step immM (((ab.trans ac).trans ae).trans aa).to') (Nat.le_refl _)) ?_)
  rintro e_ dK ⟨da, rfl, bV, aD⟩
  have aE := bV.move (Step.refl _ Nil) nilM (ar.laid (G := F) aD)
  obtain ⟨cz, cA, cB, cC, cD, cE, cG, cH, cI, cJ, cK, db, dc, aF, cL, cM, dL, dM⟩ := aE.open_
  rw [aF] at aE
  have cN := cL.small
  have cO := cM.small
  rw [aF]
  refine ⟨_, rfl, fun dN bj => ?_⟩
  have af := ar.next_nil aD
  have ag := ar.frN aD
  clear bi
  have bW := TT.ofW (aa.trans ag) af
  refine ⟨fun _ => bW, ?_⟩
  refine anyC_op (i := 11) kz (wpOp_call bj (f := 18) (vs := [.slice aU sControllerRegistrationResponseF.length aV, .int .i64 (Int.tmod x (0 + 1)), .bool (decide ((Int.tmod x (0 + 1)) ≥ sControllerRegistrationResponseX)), .agg #[.int .i64 n1, .slice A6 s2.length c7, .bool b3, .slice A8 l4.length c9, .slice aS u5.length aT], .agg #[.int .i64 cz, .slice cE cA.length cG, .bool cB, .slice cH cC.length cI, .slice cJ cD.length cK]]) (d := 40) kz Tryd.call18 (sToldP (Int.tmod x (0 + 1)) (decide ((Int.tmod x (0 + 1)) ≥ sControllerRegistrationResponseX)) 8 _ _ sControllerRegistrationResponseF _ (Tree.mk n1 s2 b3 l4 u5) _ (trControllerRegistrationResponse bQ) _ _ ⟨bE, (cS.move (((((((((ah.trans ai).trans aj).trans ao).trans ap).trans ab).trans ac).trans ae).trans aa).trans ag).step immM (((((((((ah.trans ai).trans aj).trans ao).trans ap).trans ab).trans ac).trans ae).trans aa).trans ag).to'), (fun i_ x_ h_ => ((cT i_ x_ h_).move (((((((((ah.trans ai).trans aj).trans ao).trans ap).trans ab).trans ac).trans ae).trans aa).trans ag).step immM (((((((((ah.trans ai).trans aj).trans ao).trans ap).trans ab).trans ac).trans ae).trans aa).trans ag).to'))⟩ (ht.move af.step nilM af.imm) aE sControllerRegistrationResponse_plain (hto bQ bS)) ?_)
  rintro e_ dO ⟨rfl, bk⟩
  refine ⟨_, rfl, fun dP bn => ?_⟩
  have au := af.next_nil bk
  have bX := af.frN bk
  clear bj af
  have bo := TT.ofW ((aa.trans ag).trans bX) au
  refine ⟨fun _ => bo, ?_⟩
  refine go_rnD [12] [(41, .v (.bool true))] 1 (panicFree_then panicFree_body) (fun _ h => h.cells) bo bn fun dQ bp => ?_
  clear bn
  refine anyC_op (i := 13) kz (wpOp_pure [4] au.cells bp (env' := [(4, .v (.bool true))]) kz fun dR bY => ?_)
  clear bp
  refine ⟨fun h => absurd rfl h, ?_⟩
  refine anyC_done kz ?_ _
  refine then_normal ?_
  refine wp_ret ?_
  refine leave bY au.cells (v := .bool true) kz ?_
  exact ⟨rfl, au.step⟩
theorem closeControllerRegistrationResponse (x : Int) (hx : 0 ≤ x ∧ x ≤ 255) (ct : List Value) (t : Tree) (w : World) (F : Nat → Nat → Prop) (ht : TreeR w F ct t) (hi : t.i64s) (hsz : t.size ≤ 8388608) : Calls Tryd.prog 6 #[.int .u8 x, .agg ct.toArray] w (Gives w (.bool true)) := by
 obtain ⟨g0, g1⟩ := ver_ok (m := 0 + 1) hx.1 hx.2 (by decide) (by decide)
 have hp : tControllerRegistrationResponse (IntKind.i16.wrap (Int.tmod x (0 + 1))) (fitT (Int.tmod x (0 + 1)) 8 sControllerRegistrationResponseF t) = writeB 8 sControllerRegistrationResponseF sControllerRegistrationResponseX (Int.tmod x (0 + 1)) t := by rw [i16_small g0 g1]; exact pureControllerRegistrationResponse (Int.tmod x (0 + 1)) g0 g1 t
 have h1 := writeB_le 8 sControllerRegistrationResponseF sControllerRegistrationResponseX (Int.tmod x (0 + 1)) t
 have h2 : costL sControllerRegistrationResponseF ≤ 131000 := by decide +kernel
 have h3 := Nat.mul_le_mul h2 hsz
 exact lawControllerRegistrationResponse x hx.1 (by omega) ct t w F ht (by omega) (canfitControllerRegistrationResponse (Int.tmod x (0 + 1)) t) (ranged_fit _ _ _ _ ht.ranged) hp (fun D h => by rw [i16_small g0 g1] at h; exact toldControllerRegistrationResponse (Int.tmod x (0 + 1)) g0 t _ (fun _ => rfl) rfl hi D h)
end Go.Proofs.YtnhgfbgdoelfoaaDoor.ME