/- The texts of a claim, put together: the engine, the contracts, the law. Own work. -/
import Derived.Test.YtgolpmkenmedoaaGreatDoorWt1P4
namespace Go.Proofs.YtgolpmkenmedoaaGreatDoor.ME
open Go
open Go.RowKit
set_option linter.unusedVariables false
set_option linter.unusedSimpArgs false
set_option maxRecDepth 20000
theorem sNumber (k n : Int) (w : World) : Calls Tryz.prog 132 #[.int .i64 k, .int .i64 n] w (Gives w (.int .i64 (numberI k n))) := by
 refine enter (n := 31) Tryz.func132 rfl Tryz.ntmps132 kz fun a hE => ?_
 have hW := WOk.start w Nil
 refine go_sp [(0, .v (.int .i64 k)), (1, .v (.int .i64 n))] hW hE fun a1 hE2 => ?_
 clear hE
 refine wp_seq ?_
 refine go_sp [(1, .v (.int .i64 n)), (5, .v (.int .i64 k))] hW hE2 fun a3 hE4 => ?_
 clear hE2
 refine wp_block ?_
 refine go_sp [(1, .v (.int .i64 n)), (5, .v (.int .i64 k)), (6, .v (.bool (k == 0)))] hW hE4 fun a5 hE6 => ?_
 clear hE4
 refine cond_of hE6 (b := k == 0) kz (fun hc7 => ?_) (fun hc7 => ?_)
 ·
  have hf8 : k = 0 := by simpa using hc7
  refine go_sp [(4, .v (.int .i64 (IntKind.i64.wrap (BitVec.ofInt 64 n &&& BitVec.ofInt 64 1).toNat)))] hW hE6 fun a9 aj => ?_
  clear hE6
  refine wp_ret ?_
  refine block_ret ?_
  refine then_ret ?_
  refine leave aj hW.cells (v := .int .i64 (IntKind.i64.wrap (BitVec.ofInt 64 n &&& BitVec.ofInt 64 1).toNat)) kz ?_
  exact ⟨by (try simp only [and1]); simp_all [numberI, n64_8, n64_16, n64_32, n64_u16], hW.step⟩
 ·
  have ar : k ≠ 0 := by simpa using hc7
  refine go_sp [(1, .v (.int .i64 n)), (5, .v (.int .i64 k)), (10, .v (.bool (k == 1)))] hW hE6 fun aC aa => ?_
  clear hE6
  refine cond_of aa (b := k == 1) kz (fun af => ?_) (fun af => ?_)
  ·
   have au : k = 1 := by simpa using af
   refine go_sp [(4, .v (.int .i64 (IntKind.i64.wrap (IntKind.i8.wrap n))))] hW aa fun aD ak => ?_
   clear aa
   refine wp_ret ?_
   refine block_ret ?_
   refine then_ret ?_
   refine leave ak hW.cells (v := .int .i64 (IntKind.i64.wrap (IntKind.i8.wrap n))) kz ?_
   exact ⟨by (try simp only [and1]); simp_all [numberI, n64_8, n64_16, n64_32, n64_u16], hW.step⟩
  ·
   have av : k ≠ 1 := by simpa using af
   refine go_sp [(1, .v (.int .i64 n)), (5, .v (.int .i64 k)), (15, .v (.bool (k == 2)))] hW aa fun aE ab => ?_
   clear aa
   refine cond_of ab (b := k == 2) kz (fun ag => ?_) (fun ag => ?_)
   ·
    have aw : k = 2 := by simpa using ag
    refine go_sp [(4, .v (.int .i64 (IntKind.i64.wrap (IntKind.i16.wrap n))))] hW ab fun aF al => ?_
    clear ab
    refine wp_ret ?_
    refine block_ret ?_
    refine then_ret ?_
    refine leave al hW.cells (v := .int .i64 (IntKind.i64.wrap (IntKind.i16.wrap n))) kz ?_
    exact ⟨by (try simp only [and1]); simp_all [numberI, n64_8, n64_16, n64_32, n64_u16], hW.step⟩
   ·
    have ax : k ≠ 2 := by simpa using ag
    refine go_sp [(1, .v (.int .i64 n)), (5, .v (.int .i64 k)), (20, .v (.bool (k == 3)))] hW ab fun aG ac => ?_
    clear ab
    refine cond_of ac (b := k == 3) kz (fun ah => ?_) (fun ah => ?_)
    ·
     have ay : k = 3 := by simpa using ah
     refine go_sp [(4, .v (.int .i64 (IntKind.i64.wrap (IntKind.i32.wrap n))))] hW ac fun aH am => ?_
     clear ac
     refine wp_ret ?_
     refine block_ret ?_
     refine then_ret ?_
     refine leave am hW.cells (v := .int .i64 (IntKind.i64.wrap (IntKind.i32.wrap n))) kz ?_
     exact ⟨by (try simp only [and1]); simp_all [numberI, n64_8, n64_16, n64_32, n64_u16], hW.step⟩
    ·
     have az : k ≠ 3 := by simpa using ah
     refine go_sp [(1, .v (.int .i64 n)), (25, .v (.bool (k == 5)))] hW ac fun aI ae => ?_
     clear ac
     refine cond_of ae (b := k == 5) kz (fun ai => ?_) (fun ai => ?_)
     ·
      have aA : k = 5 := by simpa using ai
      refine go_sp [(4, .v (.int .i64 (IntKind.i64.wrap (IntKind.u16.wrap n))))] hW ae fun aJ ao => ?_
      clear ae
      refine wp_ret ?_
      refine block_ret ?_
      refine then_ret ?_
      refine leave ao hW.cells (v := .int .i64 (IntKind.i64.wrap (IntKind.u16.wrap n))) kz ?_
      exact ⟨by (try simp only [and1]); simp_all [numberI, n64_8, n64_16, n64_32, n64_u16], hW.step⟩
     ·
      have aB : k ≠ 5 := by simpa using ai
      refine wp_skip ?_
      refine block_normal ?_
      refine then_normal ?_
      refine go_sp [(4, .v (.int .i64 n))] hW ae fun aK ap => ?_
      clear ae
      refine wp_ret ?_
      refine leave ap hW.cells (v := .int .i64 n) kz ?_
      exact ⟨by (try simp only [and1]); simp_all [numberI, n64_8, n64_16, n64_32, n64_u16], hW.step⟩
def UsOK (U : List Fld → Tree → Prop) : Prop := ∀ (A : Option Addr) (c : Nat) (l : List Fld) (ct : List Value) (g : Tree) (w : World) (F : Nat → Nat → Prop), FldsR w F A c l → TreeR w F ct g → U l g →
  Calls Tryz.prog 61 #[.slice A l.length c, .agg ct.toArray] w (Gives w (.bool true))
theorem sUs {U : List Fld → Tree → Prop} (hu : UsOK U) (A : Option Addr) (c : Nat) (l : List Fld) (ct : List Value) (g : Tree) (w : World) (F : Nat → Nat → Prop) (hl : FldsR w F A c l) (ht : TreeR w F ct g) (hU : UsP U l g) :
  Calls Tryz.prog 61 #[.slice A l.length c, .agg ct.toArray] w (Gives w (.bool true)) := by
 obtain ⟨xfs, h1, h2⟩ := hl.ex
 have hsm := h1.small
 obtain ⟨n1, s2, b3, l4, u5, A6, c7, A8, c9, aZ, ba, fT, rfl, rfl, fU, fV, iC, iD⟩ := ht.open_
 have e9 := fU.small
 have fa := fV.small
 refine enter (n := 89) Tryz.func61 rfl Tryz.ntmps61 kz fun a hE => ?_
 have hW := WOk.start w Nil
 refine go_seq_region [0, 1] kz ?_
 refine of_op (wpOp_box hW hE (d := 3) (cs := [.int .i64 n1, .slice A6 s2.length c7, .bool b3, .slice A8 l4.length c9, .slice aZ u5.length ba]) kz fun bQ iE iF fW fX fY aM dp => ?_)
 clear hE hW
 refine go_rn [1] [] [(0, .v (.slice A l.length c)), (3, .p 0 0)] aM dp fun iG dq => ?_
 clear dp
 refine wpOps_nil (then_normal ?_)
 refine wp_seq ?_
 refine go_sp [(0, .v (.slice A l.length c)), (3, .p 0 0), (11, .v (.bool (decide (((u5.length : Nat) : Int) > 0))))] aM dq fun iH bf => ?_
 clear dq
 refine cond_of bf (b := decide (((u5.length : Nat) : Int) > 0)) kz (fun di => ?_) (fun di => ?_)
 ·
  have fZ := of_decide_eq_true di
  refine go_sp [(4, .v (.bool false))] aM bf fun iI eR => ?_
  clear bf
  refine wp_ret ?_
  refine then_ret ?_
  refine leave eR aM.cells (v := .bool false) kz ?_
  exact (us_u (g := (Tree.mk n1 s2 b3 l4 u5)) hU.1 rfl (by assumption)).elim
 ·
  have f5 := of_decide_eq_false di
  refine wp_skip ?_
  refine then_normal ?_
  refine wp_seq ?_
  refine go_sp [(3, .p 0 0), (12, .v (.slice A l.length c)), (13, .v (.int .i64 ((l.length : Nat) : Int))), (14, .v (.int .i64 0))] aM bf fun iJ dr => ?_
  clear bf
  refine wp_block ?_
  refine wp_loop_ghost (fun n_ a_ w_ => ∃ (k : Nat), n_ = l.length - k ∧ k ≤ l.length ∧ LInv aM 89 [⟨bQ, 0, [.int .i64 n1, .slice A6 s2.length c7, .bool b3, .slice A8 l4.length c9, .slice aZ u5.length ba], true⟩] [] [(3, .p 0 0), (12, .v (.slice A l.length c)), (13, .v (.int .i64 ((l.length : Nat) : Int))), (14, .v (.int .i64 ((k : Nat) : Int)))] a_ w_) (l.length) ⟨0, by omega, by omega, dr.pk, aM, Fr.refl _ _ _⟩ ?_
  clear dr
  rintro iK iL iM ⟨k, f7, f8, dt, ap, ak⟩
  refine go_sp [(3, .p 0 0), (12, .v (.slice A l.length c)), (13, .v (.int .i64 ((l.length : Nat) : Int))), (14, .v (.int .i64 ((k : Nat) : Int))), (15, .v (.bool (decide (((k : Nat) : Int) < ((l.length : Nat) : Int)))))] ap dt fun iN bg => ?_
  clear dt
  refine wp_seq ?_
  refine cond_of bg (b := decide (((k : Nat) : Int) < ((l.length : Nat) : Int))) kz (fun dj => ?_) (fun dj => ?_)
  ·
   have f9 := of_decide_eq_true dj
   refine wp_skip ?_
   refine then_normal ?_
   refine wp_seq ?_
   refine wp_block ?_
   refine go_seq_region [0, 1, 2, 3, 4, 5] kz ?_
   refine go_rn [0] [1, 2, 3, 4, 5] [(3, .p 0 0), (12, .v (.slice A l.length c)), (13, .v (.int .i64 ((l.length : Nat) : Int))), (14, .v (.int .i64 ((k : Nat) : Int))), (16, .v (.int .i64 ((k : Nat) : Int)))] ap bg fun iO du => ?_
   clear bg
   obtain ⟨ga, gb, eS, gc, bS⟩ := Slots.get h1 (i := k) (by omega)
   obtain ⟨gd, dv⟩ : ∃ x, l[k]? = some x := ⟨_, List.getElem?_eq_getElem (by omega)⟩
   have dw := h2 k gd dv
   obtain ⟨ae, eN, eO, aP, eP, bh, eQ, bR, bT, bU, dx, rfl, bV, eU, fb⟩ := dw.open_
   rw [bV] at dw
   have fe := eU.small
   rw [bV] at bS
   refine of_op (wpOp_index du (t := 29) (A := A) (m := l.length) (q := ((k : Nat) : Int)) (d := 17) kz (e := 52) (size := 8) (bytes := 80) kz eS rfl (by omega) fun iP dy => ?_)
   clear du
   refine of_op (wpOp_load dy (t := 52) (b := ga) (o := gb + k * 8) (d := 18) kz (cs := [.int .i64 ae, .int .i64 eN, .int .i64 eO, .int .i64 aP, .int .i64 eP, .int .i64 bh, .int .i64 eQ, .slice bT bR.length bU]) (v := .agg #[.int .i64 ae, .int .i64 eN, .int .i64 eO, .int .i64 aP, .int .i64 eP, .int .i64 bh, .int .i64 eQ, .slice bT bR.length bU]) kz (AtF.move bS ap.step nilM keepF).at_ fun iQ dz => ?_)
   clear dy
   refine of_op (wpOp_alloc ap dz (d := 6) (cs := [.int .i64 0, .int .i64 0, .int .i64 0, .int .i64 0, .int .i64 0, .int .i64 0, .int .i64 0, .slice none 0 0]) kz fun iR iS iT ge gg al dl dA => ?_)
   clear dz ap
   refine go_rn [4] [5] [(3, .p 0 0), (5, .v (.int .i64 ((k : Nat) : Int))), (6, .p 1 0), (12, .v (.slice A l.length c)), (13, .v (.int .i64 ((l.length : Nat) : Int))), (14, .v (.int .i64 ((k : Nat) : Int))), (18, .v (.agg #[.int .i64 ae, .int .i64 eN, .int .i64 eO, .int .i64 aP, .int .i64 eP, .int .i64 bh, .int .i64 eQ, .slice bT bR.length bU]))] dl dA fun iU dB => ?_
   clear dA
   refine of_op (wpOp_store dl dB (oi := 1) (cs := [.int .i64 ae, .int .i64 eN, .int .i64 eO, .int .i64 aP, .int .i64 eP, .int .i64 bh, .int .i64 eQ, .slice bT bR.length bU]) kz fun iV am bd dC => ?_)
   clear dB dl
   refine wpOps_nil (then_normal ?_)
   refine go_seq_region [0, 1, 2, 3, 4] kz ?_
   refine go_rn [0, 1] [2, 3, 4] [(3, .p 0 0), (6, .p 1 0), (12, .v (.slice A l.length c)), (13, .v (.int .i64 ((l.length : Nat) : Int))), (14, .v (.int .i64 ((k : Nat) : Int))), (19, .v (.agg #[.int .i64 n1, .slice A6 s2.length c7, .bool b3, .slice A8 l4.length c9, .slice aZ u5.length ba])), (20, .v (.int .i64 ((k : Nat) : Int)))] bd dC fun iW dD => ?_
   clear dC
   refine of_op (wpOp_call dD (f := 57) (vs := [.agg #[.int .i64 n1, .slice A6 s2.length c7, .bool b3, .slice A8 l4.length c9, .slice aZ u5.length ba], .int .i64 ((k : Nat) : Int)]) (d := 21) kz Tryz.call57 (sAt _ _ k _ _ (ht.move bd.step nilM bd.imm)) ?_)
   rintro e_ gh ⟨gi, rfl, eV, bi⟩
   have aQ := eV.move bi nilM (fun b o h_ hb_ => bd.laid (G := F) bi b o (.inl h_) (Nat.lt_of_lt_of_le hb_ bi.size))
   obtain ⟨ai, af, ah, ao, bj, aN, aO, bk, bn, bo, bp, ff, bq, bt, dE, eW, gj, gk⟩ := aQ.open_
   rw [bt] at aQ
   have eX := dE.small
   have eY := eW.small
   rw [bt]
   refine ⟨_, rfl, fun gl bW => ?_⟩
   have bX := bd.next_nil bi
   have ag := bd.frN bi
   clear dD
   have hq_ := hU.2 k _ dv
   rw [bq] at hq_
   refine of_op (wpOp_alloc bX bW (d := 7) (cs := [.int .i64 0, .slice none 0 0, .bool false, .slice none 0 0, .slice none 0 0]) kz fun gm gn gp fg fh ab bY bZ => ?_)
   clear bW bX
   refine of_op (wpOp_store bY bZ (oi := 2) (cs := [.int .i64 ai, .slice aN af.length aO, .bool ah, .slice bk ao.length bn, .slice bo bj.length bp]) kz fun gq ac aa b8 => ?_)
   clear bZ bY
   refine wpOps_nil (then_normal ?_)
   refine go_sp [(3, .p 0 0), (6, .p 1 0), (7, .p 2 0), (12, .v (.slice A l.length c)), (13, .v (.int .i64 ((l.length : Nat) : Int))), (14, .v (.int .i64 ((k : Nat) : Int))), (23, .v (.int .i64 ae))] aa b8 fun gt cd => ?_
   clear b8
   refine wp_block ?_
   refine go_sp [(3, .p 0 0), (6, .p 1 0), (7, .p 2 0), (12, .v (.slice A l.length c)), (13, .v (.int .i64 ((l.length : Nat) : Int))), (14, .v (.int .i64 ((k : Nat) : Int))), (23, .v (.int .i64 ae)), (32, .v (.bool (ae == 8)))] aa cd fun gv ar => ?_
   clear cd
   refine cond_of ar (b := ae == 8) kz (fun bu => ?_) (fun bu => ?_)
   ·
    have fi : ae = 8 := by simpa using bu
    refine go_seq_region [0, 1, 2, 3, 4, 5, 6, 7, 8, 9, 10, 11] kz ?_
    refine go_rn [0, 1, 2, 3, 4, 5, 6] [7, 8, 9, 10, 11] [(3, .p 0 0), (7, .p 2 0), (12, .v (.slice A l.length c)), (13, .v (.int .i64 ((l.length : Nat) : Int))), (14, .v (.int .i64 ((k : Nat) : Int))), (40, .v (.bool (!(ah == (decide (aP ≥ 0))))))] aa ar fun gw aR => ?_
    clear ar
    refine (Bool.eq_false_or_eq_true (!(ah == (decide (aP ≥ 0))))).elim (fun au => ?_) (fun au => ?_)
    ·
     have fj : !(ah = (decide (aP ≥ 0))) := by simpa using au
     have ce := aR.cast (env' := [(3, .p 0 0), (7, .p 2 0), (12, .v (.slice A l.length c)), (13, .v (.int .i64 ((l.length : Nat) : Int))), (14, .v (.int .i64 ((k : Nat) : Int))), (40, .v (.bool true))]) (by rw [au])
     clear aR
     refine go_rn [7, 8, 9, 10, 11] [] [(3, .p 0 0), (12, .v (.slice A l.length c)), (13, .v (.int .i64 ((l.length : Nat) : Int))), (14, .v (.int .i64 ((k : Nat) : Int))), (45, .v (.bool true))] aa ce fun gx bw => ?_
     clear ce
     refine wpOps_nil (then_normal ?_)
     refine cond_true bw (b := true) kz rfl ?_
     refine go_sp [(4, .v (.bool false))] aa bw fun gy dF => ?_
     clear bw
     refine wp_ret ?_
     refine block_ret ?_
     refine block_ret ?_
     refine then_ret ?_
     refine then_ret ?_
     refine block_ret ?_
     refine then_ret ?_
     refine leave dF aa.cells (v := .bool false) kz ?_
     first
      | exact (us_8a hq_ (by assumption) (by assumption)).elim
      | exact (us_8b hq_ (by assumption) (by assumption)).elim
      | exact (us_7 hq_ (by assumption) (by assumption)).elim
      | exact (us_9a hq_ (by assumption) (by assumption)).elim
      | exact (us_9b hq_ (by assumption) (by assumption)).elim
      | exact (us_11a hq_ (by assumption) (by assumption)).elim
      | exact (us_11b hq_ (by assumption) (by assumption)).elim
      | exact (us_10 hq_ (by assumption) (by assumption) (by assumption)).elim
      | exact (us_n hq_ (by assumption) (by assumption) (by assumption) (by assumption) (by assumption) (by assumption)).elim
    ·
     have fk : !(ah ≠ (decide (aP ≥ 0))) := by simpa using au
     have cm := aR.cast (env' := [(3, .p 0 0), (7, .p 2 0), (12, .v (.slice A l.length c)), (13, .v (.int .i64 ((l.length : Nat) : Int))), (14, .v (.int .i64 ((k : Nat) : Int))), (40, .v (.bool false))]) (by rw [au])
     clear aR
     refine go_rn [7, 8, 9, 10, 11] [] [(3, .p 0 0), (12, .v (.slice A l.length c)), (13, .v (.int .i64 ((l.length : Nat) : Int))), (14, .v (.int .i64 ((k : Nat) : Int))), (45, .v (.bool (decide (((af.length : Nat) : Int) > 0))))] aa cm fun gz av => ?_
     clear cm
     refine wpOps_nil (then_normal ?_)
     refine cond_of av (b := decide (((af.length : Nat) : Int) > 0)) kz (fun bx => ?_) (fun bx => ?_)
     ·
      have fm := of_decide_eq_true bx
      refine go_sp [(4, .v (.bool false))] aa av fun gA dG => ?_
      clear av
      refine wp_ret ?_
      refine block_ret ?_
      refine block_ret ?_
      refine then_ret ?_
      refine then_ret ?_
      refine block_ret ?_
      refine then_ret ?_
      refine leave dG aa.cells (v := .bool false) kz ?_
      first
       | exact (us_8a hq_ (by assumption) (by assumption)).elim
       | exact (us_8b hq_ (by assumption) (by assumption)).elim
       | exact (us_7 hq_ (by assumption) (by assumption)).elim
       | exact (us_9a hq_ (by assumption) (by assumption)).elim
       | exact (us_9b hq_ (by assumption) (by assumption)).elim
       | exact (us_11a hq_ (by assumption) (by assumption)).elim
       | exact (us_11b hq_ (by assumption) (by assumption)).elim
       | exact (us_10 hq_ (by assumption) (by assumption) (by assumption)).elim
       | exact (us_n hq_ (by assumption) (by assumption) (by assumption) (by assumption) (by assumption) (by assumption)).elim
     ·
      have fo := of_decide_eq_false bx
      refine wp_skip ?_
      refine block_normal ?_
      refine block_normal ?_
      refine then_normal ?_
      refine go_region [0, 1] kz ?_
      refine go_rn [0, 1] [] [(3, .p 0 0), (12, .v (.slice A l.length c)), (13, .v (.int .i64 ((l.length : Nat) : Int))), (14, .v (.int .i64 (IntKind.i64.wrap (((k : Nat) : Int) + 1))))] aa av fun gB dH => ?_
      clear av
      refine wpOps_nil (then_normal ?_)
      obtain ⟨cq, dI, dJ⟩ := aa.cutB dH 1 [⟨bQ, 0, [.int .i64 n1, .slice A6 s2.length c7, .bool b3, .slice A8 l4.length c9, .slice aZ u5.length ba], true⟩] [(3, .p 0 0), (12, .v (.slice A l.length c)), (13, .v (.int .i64 ((l.length : Nat) : Int))), (14, .v (.int .i64 (IntKind.i64.wrap (((k : Nat) : Int) + 1))))]
      have dK : IntKind.i64.wrap (((k : Nat) : Int) + 1) = ((k + 1 : Nat) : Int) := wrap_succ (by omega)
      rw [dK] at cq
      exact ⟨l.length - (k + 1), by omega, k + 1, rfl, by omega, cq.pk, dI, ((((((ak.trans al).trans am).trans ag).trans ab).trans ac).trans dJ)⟩
   ·
    have fq : ae ≠ 8 := by simpa using bu
    refine go_sp [(3, .p 0 0), (6, .p 1 0), (7, .p 2 0), (12, .v (.slice A l.length c)), (13, .v (.int .i64 ((l.length : Nat) : Int))), (14, .v (.int .i64 ((k : Nat) : Int))), (23, .v (.int .i64 ae)), (46, .v (.bool (ae == 7)))] aa ar fun gC aw => ?_
    clear ar
    refine cond_of aw (b := ae == 7) kz (fun bz => ?_) (fun bz => ?_)
    ·
     have fr : ae = 7 := by simpa using bz
     refine go_seq_drawK 5 kz aa fun gD bA dL dM => ?_
     clear aa
     refine go_rnD [0, 1] [(3, .p 0 0), (12, .v (.slice A l.length c)), (13, .v (.int .i64 ((l.length : Nat) : Int))), (14, .v (.int .i64 ((k : Nat) : Int))), (49, .v (.slice aN af.length aO))] 3 (panicFree_then (panicFree_block (panicFree_block (panicFree_then (panicFree_then (panicFree_block (panicFree_then panicFree_body))))))) (fun _ h => h.cells) dM aw fun gE cr => ?_
     clear aw
     refine anyC_op (i := 2) kz (wpOp_make1 dL cr (d := 50) (j := 16) (t := 22) (e := 5) (bytes := 1) (z := .int .u8 0) kz kz kz kz (rfl) (rfl) (by omega) fun eZ gF gG ft fu ax ay cu => ?_)
     clear cr
     have dN := TT.ofW ax ay
     refine ⟨fun _ => dN, ?_⟩
     refine anyC_op (i := 3) kz (wpOp_call cu (f := 63) (vs := [.slice aN af.length aO, .slice (some ⟨eZ, 0, none⟩) 16 16]) (d := 51) kz Tryz.call63 (sSame _ _ _ _ af (List.replicate 16 0 : Bs) _ _ ((dE.move (((ab.trans ac).trans bA).trans ax).step immM (((ab.trans ac).trans bA).trans ax).to').move (Step.refl _ Nil) nilM allF) (octs_zero (ay.own 0 _ rfl) (F := fun _ _ => True) (fun _ _ _ => trivial))) ?_)
     rintro e_ gH ⟨rfl, cw⟩
     refine ⟨_, rfl, fun gI cz => ?_⟩
     have az := ay.next_nil cw
     have cA := ay.frN cw
     clear cu ay
     have cB := TT.ofW (ax.trans cA) az
     refine ⟨fun _ => cB, ?_⟩
     refine go_rnD [4] [(3, .p 0 0), (12, .v (.slice A l.length c)), (13, .v (.int .i64 ((l.length : Nat) : Int))), (14, .v (.int .i64 ((k : Nat) : Int))), (52, .v (.bool (!(decide (af = (List.replicate 16 0 : Bs))))))] 0 (panicFree_then (panicFree_block (panicFree_block (panicFree_then (panicFree_then (panicFree_block (panicFree_then panicFree_body))))))) (fun _ h => h.cells) cB cz fun gJ aA => ?_
     clear cz
     refine anyC_done kz ?_ _
     refine then_normal ?_
     refine cond_of aA (b := !(decide (af = (List.replicate 16 0 : Bs)))) kz (fun dO => ?_) (fun dO => ?_)
     ·
      refine go_sp [(4, .v (.bool false))] az aA fun gK dP => ?_
      clear aA
      refine wp_ret ?_
      refine block_ret ?_
      refine block_ret ?_
      refine then_ret ?_
      refine then_ret ?_
      refine block_ret ?_
      refine then_ret ?_
      refine leave dP az.cells (v := .bool false) kz ?_
      first
       | exact (us_8a hq_ (by assumption) (by assumption)).elim
       | exact (us_8b hq_ (by assumption) (by assumption)).elim
       | exact (us_7 hq_ (by assumption) (by assumption)).elim
       | exact (us_9a hq_ (by assumption) (by assumption)).elim
       | exact (us_9b hq_ (by assumption) (by assumption)).elim
       | exact (us_11a hq_ (by assumption) (by assumption)).elim
       | exact (us_11b hq_ (by assumption) (by assumption)).elim
       | exact (us_10 hq_ (by assumption) (by assumption) (by assumption)).elim
       | exact (us_n hq_ (by assumption) (by assumption) (by assumption) (by assumption) (by assumption) (by assumption)).elim
     ·
      refine wp_skip ?_
      refine block_normal ?_
      refine block_normal ?_
      refine then_normal ?_
      refine go_region [0, 1] kz ?_
      refine go_rn [0, 1] [] [(3, .p 0 0), (12, .v (.slice A l.length c)), (13, .v (.int .i64 ((l.length : Nat) : Int))), (14, .v (.int .i64 (IntKind.i64.wrap (((k : Nat) : Int) + 1))))] az aA fun gL dQ => ?_
      clear aA
      refine wpOps_nil (then_normal ?_)
      obtain ⟨cC, dR, dS⟩ := az.cutB dQ 1 [⟨bQ, 0, [.int .i64 n1, .slice A6 s2.length c7, .bool b3, .slice A8 l4.length c9, .slice aZ u5.length ba], true⟩] [(3, .p 0 0), (12, .v (.slice A l.length c)), (13, .v (.int .i64 ((l.length : Nat) : Int))), (14, .v (.int .i64 (IntKind.i64.wrap (((k : Nat) : Int) + 1))))]
      obtain ⟨dT, dU⟩ := dR.cutR 0 []
      have dV : IntKind.i64.wrap (((k : Nat) : Int) + 1) = ((k + 1 : Nat) : Int) := wrap_succ (by omega)
      rw [dV] at cC
      exact ⟨l.length - (k + 1), by omega, k + 1, rfl, by omega, cC.pk, dT, ((((((((((ak.trans al).trans am).trans ag).trans ab).trans ac).trans bA).trans ax).trans cA).trans dS).trans dU)⟩
    ·
     have fv : ae ≠ 7 := by simpa using bz
     refine wp_seq ?_
     refine go_sp [(3, .p 0 0), (6, .p 1 0), (7, .p 2 0), (12, .v (.slice A l.length c)), (13, .v (.int .i64 ((l.length : Nat) : Int))), (14, .v (.int .i64 ((k : Nat) : Int))), (23, .v (.int .i64 ae)), (53, .v (.bool (ae == 9)))] aa aw fun gM aj => ?_
     clear aw
     refine cond_of aj (b := ae == 9) kz (fun aS => ?_) (fun aS => ?_)
     ·
      have fw : ae = 9 := by simpa using aS
      refine wp_skip ?_
      refine then_normal ?_
      refine cond_true aj (b := ae == 9) kz (aS) ?_
      refine go_seq_region [0, 1, 2, 3, 4, 5, 6, 7, 8, 9] kz ?_
      refine go_rn [0, 1, 2, 3, 4] [5, 6, 7, 8, 9] [(3, .p 0 0), (7, .p 2 0), (12, .v (.slice A l.length c)), (13, .v (.int .i64 ((l.length : Nat) : Int))), (14, .v (.int .i64 ((k : Nat) : Int))), (60, .v (.bool (decide (((af.length : Nat) : Int) > 0))))] aa aj fun gN aT => ?_
      clear aj
      refine (Bool.eq_false_or_eq_true (decide (((af.length : Nat) : Int) > 0))).elim (fun aB => ?_) (fun aB => ?_)
      ·
       have fx := of_decide_eq_true aB
       have cD := aT.cast (env' := [(3, .p 0 0), (7, .p 2 0), (12, .v (.slice A l.length c)), (13, .v (.int .i64 ((l.length : Nat) : Int))), (14, .v (.int .i64 ((k : Nat) : Int))), (60, .v (.bool true))]) (by rw [aB])
       clear aT
       refine go_rn [5, 6, 7, 8, 9] [] [(3, .p 0 0), (12, .v (.slice A l.length c)), (13, .v (.int .i64 ((l.length : Nat) : Int))), (14, .v (.int .i64 ((k : Nat) : Int))), (65, .v (.bool true))] aa cD fun gO bB => ?_
       clear cD
       refine wpOps_nil (then_normal ?_)
       refine cond_true bB (b := true) kz rfl ?_
       refine go_sp [(4, .v (.bool false))] aa bB fun gP dW => ?_
       clear bB
       refine wp_ret ?_
       refine block_ret ?_
       refine block_ret ?_
       refine then_ret ?_
       refine then_ret ?_
       refine block_ret ?_
       refine then_ret ?_
       refine leave dW aa.cells (v := .bool false) kz ?_
       first
        | exact (us_8a hq_ (by assumption) (by assumption)).elim
        | exact (us_8b hq_ (by assumption) (by assumption)).elim
        | exact (us_7 hq_ (by assumption) (by assumption)).elim
        | exact (us_9a hq_ (by assumption) (by assumption)).elim
        | exact (us_9b hq_ (by assumption) (by assumption)).elim
        | exact (us_11a hq_ (by assumption) (by assumption)).elim
        | exact (us_11b hq_ (by assumption) (by assumption)).elim
        | exact (us_10 hq_ (by assumption) (by assumption) (by assumption)).elim
        | exact (us_n hq_ (by assumption) (by assumption) (by assumption) (by assumption) (by assumption) (by assumption)).elim
      ·
       have fy := of_decide_eq_false aB
       have cE := aT.cast (env' := [(3, .p 0 0), (7, .p 2 0), (12, .v (.slice A l.length c)), (13, .v (.int .i64 ((l.length : Nat) : Int))), (14, .v (.int .i64 ((k : Nat) : Int))), (60, .v (.bool false))]) (by rw [aB])
       clear aT
       refine go_rn [5, 6, 7, 8, 9] [] [(3, .p 0 0), (12, .v (.slice A l.length c)), (13, .v (.int .i64 ((l.length : Nat) : Int))), (14, .v (.int .i64 ((k : Nat) : Int))), (65, .v (.bool (decide (((ao.length : Nat) : Int) > 0))))] aa cE fun gQ aC => ?_
       clear cE
       refine wpOps_nil (then_normal ?_)
       refine cond_of aC (b := decide (((ao.length : Nat) : Int) > 0)) kz (fun bC => ?_) (fun bC => ?_)
       ·
        have fz := of_decide_eq_true bC
        refine go_sp [(4, .v (.bool false))] aa aC fun gR dX => ?_
        clear aC
        refine wp_ret ?_
        refine block_ret ?_
        refine block_ret ?_
        refine then_ret ?_
        refine then_ret ?_
        refine block_ret ?_
        refine then_ret ?_
        refine leave dX aa.cells (v := .bool false) kz ?_
        first
         | exact (us_8a hq_ (by assumption) (by assumption)).elim
         | exact (us_8b hq_ (by assumption) (by assumption)).elim
         | exact (us_7 hq_ (by assumption) (by assumption)).elim
         | exact (us_9a hq_ (by assumption) (by assumption)).elim
         | exact (us_9b hq_ (by assumption) (by assumption)).elim
         | exact (us_11a hq_ (by assumption) (by assumption)).elim
         | exact (us_11b hq_ (by assumption) (by assumption)).elim
         | exact (us_10 hq_ (by assumption) (by assumption) (by assumption)).elim
         | exact (us_n hq_ (by assumption) (by assumption) (by assumption) (by assumption) (by assumption) (by assumption)).elim
       ·
        have fA := of_decide_eq_false bC
        refine wp_skip ?_
        refine block_normal ?_
        refine block_normal ?_
        refine then_normal ?_
        refine go_region [0, 1] kz ?_
        refine go_rn [0, 1] [] [(3, .p 0 0), (12, .v (.slice A l.length c)), (13, .v (.int .i64 ((l.length : Nat) : Int))), (14, .v (.int .i64 (IntKind.i64.wrap (((k : Nat) : Int) + 1))))] aa aC fun gS dY => ?_
        clear aC
        refine wpOps_nil (then_normal ?_)
        obtain ⟨cG, dZ, d5⟩ := aa.cutB dY 1 [⟨bQ, 0, [.int .i64 n1, .slice A6 s2.length c7, .bool b3, .slice A8 l4.length c9, .slice aZ u5.length ba], true⟩] [(3, .p 0 0), (12, .v (.slice A l.length c)), (13, .v (.int .i64 ((l.length : Nat) : Int))), (14, .v (.int .i64 (IntKind.i64.wrap (((k : Nat) : Int) + 1))))]
        have d6 : IntKind.i64.wrap (((k : Nat) : Int) + 1) = ((k + 1 : Nat) : Int) := wrap_succ (by omega)
        rw [d6] at cG
        exact ⟨l.length - (k + 1), by omega, k + 1, rfl, by omega, cG.pk, dZ, ((((((ak.trans al).trans am).trans ag).trans ab).trans ac).trans d5)⟩
     ·
      have fB : ae ≠ 9 := by simpa using aS
      refine go_region [0, 1] kz ?_
      refine go_rn [0, 1] [] [(3, .p 0 0), (6, .p 1 0), (7, .p 2 0), (12, .v (.slice A l.length c)), (13, .v (.int .i64 ((l.length : Nat) : Int))), (14, .v (.int .i64 ((k : Nat) : Int))), (23, .v (.int .i64 ae)), (53, .v (.bool (ae == 11)))] aa aj fun gT aD => ?_
      clear aj
      refine wpOps_nil (then_normal ?_)
      refine cond_of aD (b := ae == 11) kz (fun bD => ?_) (fun bD => ?_)
      ·
       have fC : ae = 11 := by simpa using bD
       refine go_seq_region [0, 1, 2, 3, 4, 5, 6, 7, 8, 9] kz ?_
       refine go_rn [0, 1, 2, 3, 4] [5, 6, 7, 8, 9] [(3, .p 0 0), (7, .p 2 0), (12, .v (.slice A l.length c)), (13, .v (.int .i64 ((l.length : Nat) : Int))), (14, .v (.int .i64 ((k : Nat) : Int))), (60, .v (.bool (decide (((af.length : Nat) : Int) > 0))))] aa aD fun gU aU => ?_
       clear aD
       refine (Bool.eq_false_or_eq_true (decide (((af.length : Nat) : Int) > 0))).elim (fun aE => ?_) (fun aE => ?_)
       ·
        have fD := of_decide_eq_true aE
        have cH := aU.cast (env' := [(3, .p 0 0), (7, .p 2 0), (12, .v (.slice A l.length c)), (13, .v (.int .i64 ((l.length : Nat) : Int))), (14, .v (.int .i64 ((k : Nat) : Int))), (60, .v (.bool true))]) (by rw [aE])
        clear aU
        refine go_rn [5, 6, 7, 8, 9] [] [(3, .p 0 0), (12, .v (.slice A l.length c)), (13, .v (.int .i64 ((l.length : Nat) : Int))), (14, .v (.int .i64 ((k : Nat) : Int))), (65, .v (.bool true))] aa cH fun gV bE => ?_
        clear cH
        refine wpOps_nil (then_normal ?_)
        refine cond_true bE (b := true) kz rfl ?_
        refine go_sp [(4, .v (.bool false))] aa bE fun gW d7 => ?_
        clear bE
        refine wp_ret ?_
        refine block_ret ?_
        refine block_ret ?_
        refine then_ret ?_
        refine then_ret ?_
        refine block_ret ?_
        refine then_ret ?_
        refine leave d7 aa.cells (v := .bool false) kz ?_
        first
         | exact (us_8a hq_ (by assumption) (by assumption)).elim
         | exact (us_8b hq_ (by assumption) (by assumption)).elim
         | exact (us_7 hq_ (by assumption) (by assumption)).elim
         | exact (us_9a hq_ (by assumption) (by assumption)).elim
         | exact (us_9b hq_ (by assumption) (by assumption)).elim
         | exact (us_11a hq_ (by assumption) (by assumption)).elim
         | exact (us_11b hq_ (by assumption) (by assumption)).elim
         | exact (us_10 hq_ (by assumption) (by assumption) (by assumption)).elim
         | exact (us_n hq_ (by assumption) (by assumption) (by assumption) (by assumption) (by assumption) (by assumption)).elim
       ·
        have fE := of_decide_eq_false aE
        have cI := aU.cast (env' := [(3, .p 0 0), (7, .p 2 0), (12, .v (.slice A l.length c)), (13, .v (.int .i64 ((l.length : Nat) : Int))), (14, .v (.int .i64 ((k : Nat) : Int))), (60, .v (.bool false))]) (by rw [aE])
        clear aU
        refine go_rn [5, 6, 7, 8, 9] [] [(3, .p 0 0), (12, .v (.slice A l.length c)), (13, .v (.int .i64 ((l.length : Nat) : Int))), (14, .v (.int .i64 ((k : Nat) : Int))), (65, .v (.bool (decide (((ao.length : Nat) : Int) > 0))))] aa cI fun gX aF => ?_
        clear cI
        refine wpOps_nil (then_normal ?_)
        refine cond_of aF (b := decide (((ao.length : Nat) : Int) > 0)) kz (fun bF => ?_) (fun bF => ?_)
        ·
         have fF := of_decide_eq_true bF
         refine go_sp [(4, .v (.bool false))] aa aF fun gY d8 => ?_
         clear aF
         refine wp_ret ?_
         refine block_ret ?_
         refine block_ret ?_
         refine then_ret ?_
         refine then_ret ?_
         refine block_ret ?_
         refine then_ret ?_
         refine leave d8 aa.cells (v := .bool false) kz ?_
         first
          | exact (us_8a hq_ (by assumption) (by assumption)).elim
          | exact (us_8b hq_ (by assumption) (by assumption)).elim
          | exact (us_7 hq_ (by assumption) (by assumption)).elim
          | exact (us_9a hq_ (by assumption) (by assumption)).elim
          | exact (us_9b hq_ (by assumption) (by assumption)).elim
          | exact (us_11a hq_ (by assumption) (by assumption)).elim
          | exact (us_11b hq_ (by assumption) (by assumption)).elim
          | exact (us_10 hq_ (by assumption) (by assumption) (by assumption)).elim
          | exact (us_n hq_ (by assumption) (by assumption) (by assumption) (by assumption) (by assumption) (by assumption)).elim
        ·
         have fG := of_decide_eq_false bF
         refine wp_skip ?_
         refine block_normal ?_
         refine block_normal ?_
         refine then_normal ?_
         refine go_region [0, 1] kz ?_
         refine go_rn [0, 1] [] [(3, .p 0 0), (12, .v (.slice A l.length c)), (13, .v (.int .i64 ((l.length : Nat) : Int))), (14, .v (.int .i64 (IntKind.i64.wrap (((k : Nat) : Int) + 1))))] aa aF fun gZ d9 => ?_
         clear aF
         refine wpOps_nil (then_normal ?_)
         obtain ⟨cJ, ea, eb⟩ := aa.cutB d9 1 [⟨bQ, 0, [.int .i64 n1, .slice A6 s2.length c7, .bool b3, .slice A8 l4.length c9, .slice aZ u5.length ba], true⟩] [(3, .p 0 0), (12, .v (.slice A l.length c)), (13, .v (.int .i64 ((l.length : Nat) : Int))), (14, .v (.int .i64 (IntKind.i64.wrap (((k : Nat) : Int) + 1))))]
         have ec : IntKind.i64.wrap (((k : Nat) : Int) + 1) = ((k + 1 : Nat) : Int) := wrap_succ (by omega)
         rw [ec] at cJ
         exact ⟨l.length - (k + 1), by omega, k + 1, rfl, by omega, cJ.pk, ea, ((((((ak.trans al).trans am).trans ag).trans ab).trans ac).trans eb)⟩
      ·
       have fH : ae ≠ 11 := by simpa using bD
       refine go_sp [(3, .p 0 0), (6, .p 1 0), (7, .p 2 0), (12, .v (.slice A l.length c)), (13, .v (.int .i64 ((l.length : Nat) : Int))), (14, .v (.int .i64 ((k : Nat) : Int))), (66, .v (.bool (ae == 10)))] aa aD fun g6 aG => ?_
       clear aD
       refine cond_of aG (b := ae == 10) kz (fun bG => ?_) (fun bG => ?_)
       ·
        have fI : ae = 10 := by simpa using bG
        refine go_seq_region [0, 1, 2, 3, 4, 5, 6, 7, 8, 9, 10, 11, 12, 13, 14, 15, 16, 17, 18, 19] kz ?_
        refine go_rn [0, 1, 2, 3] [4, 5, 6, 7, 8, 9, 10, 11, 12, 13, 14, 15, 16, 17, 18, 19] [(3, .p 0 0), (6, .p 1 0), (7, .p 2 0), (12, .v (.slice A l.length c)), (13, .v (.int .i64 ((l.length : Nat) : Int))), (14, .v (.int .i64 ((k : Nat) : Int))), (71, .v (.bool (decide (aP ≥ 0))))] aa aG fun g7 aV => ?_
        clear aG
        refine (Bool.eq_false_or_eq_true (decide (aP ≥ 0))).elim (fun aH => ?_) (fun aH => ?_)
        ·
         have fJ := of_decide_eq_true aH
         have cK := aV.cast (env' := [(3, .p 0 0), (6, .p 1 0), (7, .p 2 0), (12, .v (.slice A l.length c)), (13, .v (.int .i64 ((l.length : Nat) : Int))), (14, .v (.int .i64 ((k : Nat) : Int))), (71, .v (.bool true))]) (by rw [aH])
         clear aV
         refine go_rn [4, 5, 6, 7, 8] [9, 10, 11, 12, 13, 14, 15, 16, 17, 18, 19] [(3, .p 0 0), (6, .p 1 0), (7, .p 2 0), (12, .v (.slice A l.length c)), (13, .v (.int .i64 ((l.length : Nat) : Int))), (14, .v (.int .i64 ((k : Nat) : Int))), (76, .v (.bool (!ah)))] aa cK fun g8 aW => ?_
         clear cK
         refine (Bool.eq_false_or_eq_true (!ah)).elim (fun bH => ?_) (fun bH => ?_)
         ·
          have cL := aW.cast (env' := [(3, .p 0 0), (6, .p 1 0), (7, .p 2 0), (12, .v (.slice A l.length c)), (13, .v (.int .i64 ((l.length : Nat) : Int))), (14, .v (.int .i64 ((k : Nat) : Int))), (76, .v (.bool true))]) (by rw [bH])
          clear aW
          refine go_rn [9, 10, 11, 12, 13, 14, 15, 16, 17, 18, 19] [] [(3, .p 0 0), (12, .v (.slice A l.length c)), (13, .v (.int .i64 ((l.length : Nat) : Int))), (14, .v (.int .i64 ((k : Nat) : Int))), (87, .v (.bool true))] aa cL fun g9 bI => ?_
          clear cL
          refine wpOps_nil (then_normal ?_)
          refine cond_true bI (b := true) kz rfl ?_
          refine go_sp [(4, .v (.bool false))] aa bI fun hC ee => ?_
          clear bI
          refine wp_ret ?_
          refine block_ret ?_
          refine block_ret ?_
          refine then_ret ?_
          refine then_ret ?_
          refine block_ret ?_
          refine then_ret ?_
          refine leave ee aa.cells (v := .bool false) kz ?_
          first
           | exact (us_8a hq_ (by assumption) (by assumption)).elim
           | exact (us_8b hq_ (by assumption) (by assumption)).elim
           | exact (us_7 hq_ (by assumption) (by assumption)).elim
           | exact (us_9a hq_ (by assumption) (by assumption)).elim
           | exact (us_9b hq_ (by assumption) (by assumption)).elim
           | exact (us_11a hq_ (by assumption) (by assumption)).elim
           | exact (us_11b hq_ (by assumption) (by assumption)).elim
           | exact (us_10 hq_ (by assumption) (by assumption) (by assumption)).elim
           | exact (us_n hq_ (by assumption) (by assumption) (by assumption) (by assumption) (by assumption) (by assumption)).elim
         ·
          have cM := aW.cast (env' := [(3, .p 0 0), (6, .p 1 0), (7, .p 2 0), (12, .v (.slice A l.length c)), (13, .v (.int .i64 ((l.length : Nat) : Int))), (14, .v (.int .i64 ((k : Nat) : Int))), (76, .v (.bool false))]) (by rw [bH])
          clear aW
          refine go_rn [9, 10, 11, 12] [13, 14, 15, 16, 17, 18, 19] [(3, .p 0 0), (6, .p 1 0), (7, .p 2 0), (12, .v (.slice A l.length c)), (13, .v (.int .i64 ((l.length : Nat) : Int))), (14, .v (.int .i64 ((k : Nat) : Int))), (76, .v (.bool false)), (80, .v (.bool (decide (aP < 0))))] aa cM fun hJ aX => ?_
          clear cM
          refine (Bool.eq_false_or_eq_true (decide (aP < 0))).elim (fun aI => ?_) (fun aI => ?_)
          ·
           have fK := of_decide_eq_true aI
           have cN := aX.cast (env' := [(3, .p 0 0), (6, .p 1 0), (7, .p 2 0), (12, .v (.slice A l.length c)), (13, .v (.int .i64 ((l.length : Nat) : Int))), (14, .v (.int .i64 ((k : Nat) : Int))), (76, .v (.bool false)), (80, .v (.bool true))]) (by rw [aI])
           clear aX
           refine go_rn [13, 14, 15] [16, 17, 18, 19] [(3, .p 0 0), (12, .v (.slice A l.length c)), (13, .v (.int .i64 ((l.length : Nat) : Int))), (14, .v (.int .i64 ((k : Nat) : Int))), (76, .v (.bool false)), (80, .v (.bool true)), (82, .v (.slice bT bR.length bU)), (83, .v (.agg #[.int .i64 ai, .slice aN af.length aO, .bool ah, .slice bk ao.length bn, .slice bo bj.length bp]))] aa cN fun hK cO => ?_
           clear cN
           refine of_op (wpOp_call cO (f := 61) (vs := [.slice bT bR.length bU, .agg #[.int .i64 ai, .slice aN af.length aO, .bool ah, .slice bk ao.length bn, .slice bo bj.length bp]]) (d := 84) kz Tryz.call61 ( hu _ _ bR _ _ _ _ ⟨dx, (eU.move aa.step nilM aa.imm), (fun i_ x_ h_ => ((fb i_ x_ h_).move aa.step nilM aa.imm))⟩ (aQ.move (ab.trans ac).step immM (ab.trans ac).to') (by rw [bq]; exact us_sub hq_ (by assumption) (by assumption))) ?_)
           rintro e_ hZ ⟨rfl, cP⟩
           refine ⟨_, rfl, fun ia cQ => ?_⟩
           have bJ := aa.next_nil cP
           have ef := aa.frN cP
           clear cO aa
           refine go_rn [17, 18, 19] [] [(3, .p 0 0), (12, .v (.slice A l.length c)), (13, .v (.int .i64 ((l.length : Nat) : Int))), (14, .v (.int .i64 ((k : Nat) : Int))), (87, .v (.bool false))] bJ cQ fun ib bK => ?_
           clear cQ
           refine wpOps_nil (then_normal ?_)
           refine cond_false bK (b := false) kz rfl ?_
           refine wp_skip ?_
           refine block_normal ?_
           refine block_normal ?_
           refine then_normal ?_
           refine go_region [0, 1] kz ?_
           refine go_rn [0, 1] [] [(3, .p 0 0), (12, .v (.slice A l.length c)), (13, .v (.int .i64 ((l.length : Nat) : Int))), (14, .v (.int .i64 (IntKind.i64.wrap (((k : Nat) : Int) + 1))))] bJ bK fun ic eg => ?_
           clear bK
           refine wpOps_nil (then_normal ?_)
           obtain ⟨cR, eh, ei⟩ := bJ.cutB eg 1 [⟨bQ, 0, [.int .i64 n1, .slice A6 s2.length c7, .bool b3, .slice A8 l4.length c9, .slice aZ u5.length ba], true⟩] [(3, .p 0 0), (12, .v (.slice A l.length c)), (13, .v (.int .i64 ((l.length : Nat) : Int))), (14, .v (.int .i64 (IntKind.i64.wrap (((k : Nat) : Int) + 1))))]
           have ej : IntKind.i64.wrap (((k : Nat) : Int) + 1) = ((k + 1 : Nat) : Int) := wrap_succ (by omega)
           rw [ej] at cR
           exact ⟨l.length - (k + 1), by omega, k + 1, rfl, by omega, cR.pk, eh, (((((((ak.trans al).trans am).trans ag).trans ab).trans ac).trans ef).trans ei)⟩
          ·
           have fL := of_decide_eq_false aI
           have cS := aX.cast (env' := [(3, .p 0 0), (6, .p 1 0), (7, .p 2 0), (12, .v (.slice A l.length c)), (13, .v (.int .i64 ((l.length : Nat) : Int))), (14, .v (.int .i64 ((k : Nat) : Int))), (76, .v (.bool false)), (80, .v (.bool false))]) (by rw [aI])
           clear aX
           refine go_rn [13, 14, 15, 16, 17, 18, 19] [] [(3, .p 0 0), (12, .v (.slice A l.length c)), (13, .v (.int .i64 ((l.length : Nat) : Int))), (14, .v (.int .i64 ((k : Nat) : Int))), (87, .v (.bool false))] aa cS fun ig bL => ?_
           clear cS
           refine wpOps_nil (then_normal ?_)
           refine cond_false bL (b := false) kz rfl ?_
           refine wp_skip ?_
           refine block_normal ?_
           refine block_normal ?_
           refine then_normal ?_
           refine go_region [0, 1] kz ?_
           refine go_rn [0, 1] [] [(3, .p 0 0), (12, .v (.slice A l.length c)), (13, .v (.int .i64 ((l.length : Nat) : Int))), (14, .v (.int .i64 (IntKind.i64.wrap (((k : Nat) : Int) + 1))))] aa bL fun ii ek => ?_
           clear bL
           refine wpOps_nil (then_normal ?_)
           obtain ⟨cT, em, eo⟩ := aa.cutB ek 1 [⟨bQ, 0, [.int .i64 n1, .slice A6 s2.length c7, .bool b3, .slice A8 l4.length c9, .slice aZ u5.length ba], true⟩] [(3, .p 0 0), (12, .v (.slice A l.length c)), (13, .v (.int .i64 ((l.length : Nat) : Int))), (14, .v (.int .i64 (IntKind.i64.wrap (((k : Nat) : Int) + 1))))]
           have ep : IntKind.i64.wrap (((k : Nat) : Int) + 1) = ((k + 1 : Nat) : Int) := wrap_succ (by omega)
           rw [ep] at cT
           exact ⟨l.length - (k + 1), by omega, k + 1, rfl, by omega, cT.pk, em, ((((((ak.trans al).trans am).trans ag).trans ab).trans ac).trans eo)⟩
        ·
         have fM := of_decide_eq_false aH
         have cU := aV.cast (env' := [(3, .p 0 0), (6, .p 1 0), (7, .p 2 0), (12, .v (.slice A l.length c)), (13, .v (.int .i64 ((l.length : Nat) : Int))), (14, .v (.int .i64 ((k : Nat) : Int))), (71, .v (.bool false))]) (by rw [aH])
         clear aV
         refine go_rn [4, 5, 6, 7, 8, 9, 10, 11, 12] [13, 14, 15, 16, 17, 18, 19] [(3, .p 0 0), (6, .p 1 0), (7, .p 2 0), (12, .v (.slice A l.length c)), (13, .v (.int .i64 ((l.length : Nat) : Int))), (14, .v (.int .i64 ((k : Nat) : Int))), (76, .v (.bool false)), (80, .v (.bool (decide (aP < 0))))] aa cU fun ij aY => ?_
         clear cU
         refine (Bool.eq_false_or_eq_true (decide (aP < 0))).elim (fun aJ => ?_) (fun aJ => ?_)
         ·
          have fN := of_decide_eq_true aJ
          have cV := aY.cast (env' := [(3, .p 0 0), (6, .p 1 0), (7, .p 2 0), (12, .v (.slice A l.length c)), (13, .v (.int .i64 ((l.length : Nat) : Int))), (14, .v (.int .i64 ((k : Nat) : Int))), (76, .v (.bool false)), (80, .v (.bool true))]) (by rw [aJ])
          clear aY
          refine go_rn [13, 14, 15] [16, 17, 18, 19] [(3, .p 0 0), (12, .v (.slice A l.length c)), (13, .v (.int .i64 ((l.length : Nat) : Int))), (14, .v (.int .i64 ((k : Nat) : Int))), (76, .v (.bool false)), (80, .v (.bool true)), (82, .v (.slice bT bR.length bU)), (83, .v (.agg #[.int .i64 ai, .slice aN af.length aO, .bool ah, .slice bk ao.length bn, .slice bo bj.length bp]))] aa cV fun ik cW => ?_
          clear cV
          refine of_op (wpOp_call cW (f := 61) (vs := [.slice bT bR.length bU, .agg #[.int .i64 ai, .slice aN af.length aO, .bool ah, .slice bk ao.length bn, .slice bo bj.length bp]]) (d := 84) kz Tryz.call61 ( hu _ _ bR _ _ _ _ ⟨dx, (eU.move aa.step nilM aa.imm), (fun i_ x_ h_ => ((fb i_ x_ h_).move aa.step nilM aa.imm))⟩ (aQ.move (ab.trans ac).step immM (ab.trans ac).to') (by rw [bq]; exact us_sub hq_ (by assumption) (by assumption))) ?_)
          rintro e_ il ⟨rfl, cX⟩
          refine ⟨_, rfl, fun im cY => ?_⟩
          have bM := aa.next_nil cX
          have eu := aa.frN cX
          clear cW aa
          refine go_rn [17, 18, 19] [] [(3, .p 0 0), (12, .v (.slice A l.length c)), (13, .v (.int .i64 ((l.length : Nat) : Int))), (14, .v (.int .i64 ((k : Nat) : Int))), (87, .v (.bool false))] bM cY fun io bN => ?_
          clear cY
          refine wpOps_nil (then_normal ?_)
          refine cond_false bN (b := false) kz rfl ?_
          refine wp_skip ?_
          refine block_normal ?_
          refine block_normal ?_
          refine then_normal ?_
          refine go_region [0, 1] kz ?_
          refine go_rn [0, 1] [] [(3, .p 0 0), (12, .v (.slice A l.length c)), (13, .v (.int .i64 ((l.length : Nat) : Int))), (14, .v (.int .i64 (IntKind.i64.wrap (((k : Nat) : Int) + 1))))] bM bN fun ip ev => ?_
          clear bN
          refine wpOps_nil (then_normal ?_)
          obtain ⟨cZ, ew, ey⟩ := bM.cutB ev 1 [⟨bQ, 0, [.int .i64 n1, .slice A6 s2.length c7, .bool b3, .slice A8 l4.length c9, .slice aZ u5.length ba], true⟩] [(3, .p 0 0), (12, .v (.slice A l.length c)), (13, .v (.int .i64 ((l.length : Nat) : Int))), (14, .v (.int .i64 (IntKind.i64.wrap (((k : Nat) : Int) + 1))))]
          have ez : IntKind.i64.wrap (((k : Nat) : Int) + 1) = ((k + 1 : Nat) : Int) := wrap_succ (by omega)
          rw [ez] at cZ
          exact ⟨l.length - (k + 1), by omega, k + 1, rfl, by omega, cZ.pk, ew, (((((((ak.trans al).trans am).trans ag).trans ab).trans ac).trans eu).trans ey)⟩
         ·
          have fO := of_decide_eq_false aJ
          have c5 := aY.cast (env' := [(3, .p 0 0), (6, .p 1 0), (7, .p 2 0), (12, .v (.slice A l.length c)), (13, .v (.int .i64 ((l.length : Nat) : Int))), (14, .v (.int .i64 ((k : Nat) : Int))), (76, .v (.bool false)), (80, .v (.bool false))]) (by rw [aJ])
          clear aY
          refine go_rn [13, 14, 15, 16, 17, 18, 19] [] [(3, .p 0 0), (12, .v (.slice A l.length c)), (13, .v (.int .i64 ((l.length : Nat) : Int))), (14, .v (.int .i64 ((k : Nat) : Int))), (87, .v (.bool false))] aa c5 fun iq bO => ?_
          clear c5
          refine wpOps_nil (then_normal ?_)
          refine cond_false bO (b := false) kz rfl ?_
          refine wp_skip ?_
          refine block_normal ?_
          refine block_normal ?_
          refine then_normal ?_
          refine go_region [0, 1] kz ?_
          refine go_rn [0, 1] [] [(3, .p 0 0), (12, .v (.slice A l.length c)), (13, .v (.int .i64 ((l.length : Nat) : Int))), (14, .v (.int .i64 (IntKind.i64.wrap (((k : Nat) : Int) + 1))))] aa bO fun ir eB => ?_
          clear bO
          refine wpOps_nil (then_normal ?_)
          obtain ⟨c6, eC, eD⟩ := aa.cutB eB 1 [⟨bQ, 0, [.int .i64 n1, .slice A6 s2.length c7, .bool b3, .slice A8 l4.length c9, .slice aZ u5.length ba], true⟩] [(3, .p 0 0), (12, .v (.slice A l.length c)), (13, .v (.int .i64 ((l.length : Nat) : Int))), (14, .v (.int .i64 (IntKind.i64.wrap (((k : Nat) : Int) + 1))))]
          have eE : IntKind.i64.wrap (((k : Nat) : Int) + 1) = ((k + 1 : Nat) : Int) := wrap_succ (by omega)
          rw [eE] at c6
          exact ⟨l.length - (k + 1), by omega, k + 1, rfl, by omega, c6.pk, eC, ((((((ak.trans al).trans am).trans ag).trans ab).trans ac).trans eD)⟩
       ·
        have fP : ae ≠ 10 := by simpa using bG
        refine go_seq_drawK 8 kz aa fun iu eF da eG => ?_
        clear aa
        refine go_rnD [0, 1, 2, 3, 4, 5] [(3, .p 0 0), (12, .v (.slice A l.length c)), (13, .v (.int .i64 ((l.length : Nat) : Int))), (14, .v (.int .i64 ((k : Nat) : Int))), (25, .v (.int .i64 ai)), (27, .v (.int .i64 ae)), (29, .v (.int .i64 bh))] 2 (panicFree_then (panicFree_block (panicFree_block (panicFree_then (panicFree_then (panicFree_block (panicFree_then panicFree_body))))))) (fun _ h => h.cells) eG aG fun iv db => ?_
        clear aG
        refine anyC_op (i := 6) kz (wpOp_call db (f := 132) (vs := [.int .i64 ae, .int .i64 bh]) (d := 30) kz Tryz.call132 (sNumber ae bh _) ?_)
        rintro e_ iw ⟨rfl, dc⟩
        refine ⟨_, rfl, fun ix de => ?_⟩
        have aK := da.next_nil dc
        have df := da.frN dc
        clear db
        have dg := TT.ofW df aK
        refine ⟨fun _ => dg, ?_⟩
        refine go_rnD [7] [(3, .p 0 0), (12, .v (.slice A l.length c)), (13, .v (.int .i64 ((l.length : Nat) : Int))), (14, .v (.int .i64 ((k : Nat) : Int))), (31, .v (.bool (ai != (numberI ae bh))))] 0 (panicFree_then (panicFree_block (panicFree_block (panicFree_then (panicFree_then (panicFree_block (panicFree_then panicFree_body))))))) (fun _ h => h.cells) dg de fun iy aL => ?_
        clear de
        refine anyC_done kz ?_ _
        refine then_normal ?_
        refine cond_of aL (b := ai != (numberI ae bh)) kz (fun bP => ?_) (fun bP => ?_)
        ·
         have fQ : ai ≠ (numberI ae bh) := by simpa using bP
         refine go_sp [(4, .v (.bool false))] aK aL fun iz eH => ?_
         clear aL
         refine wp_ret ?_
         refine block_ret ?_
         refine block_ret ?_
         refine then_ret ?_
         refine then_ret ?_
         refine block_ret ?_
         refine then_ret ?_
         refine leave eH aK.cells (v := .bool false) kz ?_
         first
          | exact (us_8a hq_ (by assumption) (by assumption)).elim
          | exact (us_8b hq_ (by assumption) (by assumption)).elim
          | exact (us_7 hq_ (by assumption) (by assumption)).elim
          | exact (us_9a hq_ (by assumption) (by assumption)).elim
          | exact (us_9b hq_ (by assumption) (by assumption)).elim
          | exact (us_11a hq_ (by assumption) (by assumption)).elim
          | exact (us_11b hq_ (by assumption) (by assumption)).elim
          | exact (us_10 hq_ (by assumption) (by assumption) (by assumption)).elim
          | exact (us_n hq_ (by assumption) (by assumption) (by assumption) (by assumption) (by assumption) (by assumption)).elim
        ·
         have fR : ai = (numberI ae bh) := by simpa using bP
         refine wp_skip ?_
         refine block_normal ?_
         refine block_normal ?_
         refine then_normal ?_
         refine go_region [0, 1] kz ?_
         refine go_rn [0, 1] [] [(3, .p 0 0), (12, .v (.slice A l.length c)), (13, .v (.int .i64 ((l.length : Nat) : Int))), (14, .v (.int .i64 (IntKind.i64.wrap (((k : Nat) : Int) + 1))))] aK aL fun iA eI => ?_
         clear aL
         refine wpOps_nil (then_normal ?_)
         obtain ⟨dh, eJ, eK⟩ := aK.cutB eI 1 [⟨bQ, 0, [.int .i64 n1, .slice A6 s2.length c7, .bool b3, .slice A8 l4.length c9, .slice aZ u5.length ba], true⟩] [(3, .p 0 0), (12, .v (.slice A l.length c)), (13, .v (.int .i64 ((l.length : Nat) : Int))), (14, .v (.int .i64 (IntKind.i64.wrap (((k : Nat) : Int) + 1))))]
         have eL : IntKind.i64.wrap (((k : Nat) : Int) + 1) = ((k + 1 : Nat) : Int) := wrap_succ (by omega)
         rw [eL] at dh
         exact ⟨l.length - (k + 1), by omega, k + 1, rfl, by omega, dh.pk, eJ, ((((((((ak.trans al).trans am).trans ag).trans ab).trans ac).trans eF).trans df).trans eK)⟩
  ·
   have fS := of_decide_eq_false dj
   refine wp_exit ?_
   refine then_exit ?_
   refine then_exit ?_
   refine block_exit ?_
   refine then_normal ?_
   refine go_sp [(4, .v (.bool true))] ap bg fun iB eM => ?_
   clear bg
   refine wp_ret ?_
   refine leave eM ap.cells (v := .bool true) kz ?_
   exact ⟨rfl, ap.step⟩
theorem sUsualP : ∀ d, UsOK (UsualP d)
 | 0 => sUs fun _ _ _ _ _ _ _ _ _ h => h.elim
 | d + 1 => sUs (sUsualP d)
def ToOK (v : Int) (flex : Bool) (T : List Fld → Tree → Tree → Prop) : Prop := ∀ (A : Option Addr) (c : Nat) (l : List Fld) (ct : List Value) (t : Tree) (cg : List Value) (g : Tree) (w : World) (F : Nat → Nat → Prop), FldsR w F A c l → TreeR w F ct t → TreeR w F cg g → plains l → T l t g →
  Calls Tryz.prog 19 #[.slice A l.length c, .int .i64 v, .bool flex, .agg ct.toArray, .agg cg.toArray] w (Gives w (.bool true))
theorem sTold0 {v : Int} {flex : Bool} {T : List Fld → Tree → Tree → Prop} (hT : ToOK v flex T) (cf : List Value) (f : Fld) (ct : List Value) (t : Tree) (cg : List Value) (g : Tree) (w : World) (F : Nat → Nat → Prop) (hf : FldR w F cf f) (hpl : plains f.sub) (bY : f.kind ≠ 11) (ht : TreeR w F ct t) (hg : TreeR w F cg g) (hq : ToF0 T v f t g) :
  Calls Tryz.prog 60 #[.agg cf.toArray, .int .i64 v, .bool flex, .agg ct.toArray, .agg cg.toArray] w (Gives w (.bool true)) := by
 obtain ⟨k1, y2, y3, y4, y5, y6, y7, l8, A9, fY, gb, rfl, rfl, iT, i7⟩ := hf.open_
 have ja := iT.small
 obtain ⟨ac, ab, ae, af, ag, ai, aj, fZ, f5, f7, f8, kJ, rfl, rfl, aM, kK, oP, oQ⟩ := ht.open_
 have jb := aM.small
 have jc := kK.small
 obtain ⟨aS, ah, ap, f9, ga, al, am, gc, gd, ge, gg, kL, rfl, rfl, bX, kM, oR, oS⟩ := hg.open_
 have jd := bX.small
 have je := kM.small
 replace hpl : plains l8 := hpl
 have bY : k1 ≠ 11 := bY
 refine enter (n := 124) Tryz.func60 rfl Tryz.ntmps60 kz fun a hE => ?_
 have hW := WOk.start w Nil
 refine go_seq_region [0, 1, 2, 3] kz ?_
 refine of_op (wpOp_box hW hE (d := 5) (cs := [.int .i64 k1, .int .i64 y2, .int .i64 y3, .int .i64 y4, .int .i64 y5, .int .i64 y6, .int .i64 y7, .slice A9 l8.length fY]) kz fun oT oU oV kN kO kP gh gi => ?_)
 clear hE hW
 refine of_op (wpOp_box gh gi (d := 8) (cs := [.int .i64 ac, .slice ai ab.length aj, .bool ae, .slice fZ af.length f5, .slice f7 ag.length f8]) kz fun oW oX oY kQ kR kS gj gk => ?_)
 clear gi gh
 refine of_op (wpOp_box gj gk (d := 9) (cs := [.int .i64 aS, .slice al ah.length am, .bool ap, .slice gc f9.length gd, .slice ge ga.length gg]) kz fun oZ o5 o6 kT kU kV bZ gl => ?_)
 clear gk gj
 refine go_rn [3] [] [(1, .v (.int .i64 v)), (2, .v (.bool flex)), (5, .p 0 0), (8, .p 1 0), (9, .p 2 0)] bZ gl fun o7 gm => ?_
 clear gl
 refine wpOps_nil (then_normal ?_)
 refine go_seq_region [0, 1, 2, 3, 4] kz ?_
 refine go_rn [0, 1, 2] [3, 4] [(1, .v (.int .i64 v)), (2, .v (.bool flex)), (5, .p 0 0), (8, .p 1 0), (9, .p 2 0), (17, .v (.agg #[.int .i64 k1, .int .i64 y2, .int .i64 y3, .int .i64 y4, .int .i64 y5, .int .i64 y6, .int .i64 y7, .slice A9 l8.length fY])), (18, .v (.int .i64 v)), (19, .v (.agg #[.int .i64 ac, .slice ai ab.length aj, .bool ae, .slice fZ af.length f5, .slice f7 ag.length f8]))] bZ gm fun o9 gn => ?_
 clear gm
 refine of_op (wpOp_call gn (f := 130) (vs := [.agg #[.int .i64 k1, .int .i64 y2, .int .i64 y3, .int .i64 y4, .int .i64 y5, .int .i64 y6, .int .i64 y7, .slice A9 l8.length fY], .int .i64 v, .agg #[.int .i64 ac, .slice ai ab.length aj, .bool ae, .slice fZ af.length f5, .slice f7 ag.length f8]]) (d := 20) kz Tryz.call130 (sNull k1 y2 y3 y4 y5 y6 y7 l8 _ _ v ac ab ae af ag _ _ _ _ _ _ _) ?_)
 rintro e_ pa ⟨rfl, gp⟩
 refine ⟨_, rfl, fun pb gq => ?_⟩
 have aa := bZ.next_nil gp
 have kW := bZ.frN gp
 clear gn bZ
 refine go_rn [4] [] [(1, .v (.int .i64 v)), (2, .v (.bool flex)), (5, .p 0 0), (8, .p 1 0), (9, .p 2 0), (11, .v (.bool (Fld.nul (Fld.mk k1 y2 y3 y4 y5 y6 y7 l8) v (Tree.mk ac ab ae af ag))))] aa gq fun pc gt => ?_
 clear gq
 refine wpOps_nil (then_normal ?_)
 refine go_seq_region [0, 1, 2, 3, 4, 5, 6, 7, 8, 9] kz ?_
 refine go_rn [0, 1, 2, 3] [4, 5, 6, 7, 8, 9] [(1, .v (.int .i64 v)), (2, .v (.bool flex)), (5, .p 0 0), (8, .p 1 0), (9, .p 2 0), (11, .v (.bool (Fld.nul (Fld.mk k1 y2 y3 y4 y5 y6 y7 l8) v (Tree.mk ac ab ae af ag)))), (24, .v (.bool (decide (y4 ≥ 0))))] aa gt fun pd dc => ?_
 clear gt
 refine (Bool.eq_false_or_eq_true (decide (y4 ≥ 0))).elim (fun b8 => ?_) (fun b8 => ?_)
 ·
  have kX := of_decide_eq_true b8
  have gv := dc.cast (env' := [(1, .v (.int .i64 v)), (2, .v (.bool flex)), (5, .p 0 0), (8, .p 1 0), (9, .p 2 0), (11, .v (.bool (Fld.nul (Fld.mk k1 y2 y3 y4 y5 y6 y7 l8) v (Tree.mk ac ab ae af ag)))), (24, .v (.bool true))]) (by rw [b8])
  clear dc
  refine go_rn [4, 5, 6, 7, 8, 9] [] [(1, .v (.int .i64 v)), (2, .v (.bool flex)), (5, .p 0 0), (8, .p 1 0), (9, .p 2 0), (11, .v (.bool (Fld.nul (Fld.mk k1 y2 y3 y4 y5 y6 y7 l8) v (Tree.mk ac ab ae af ag)))), (12, .v (.bool (decide (v ≥ y4))))] aa gv fun pe gw => ?_
  clear gv
  refine wpOps_nil (then_normal ?_)
  refine wp_seq ?_
  refine go_seq_region [0, 1, 2, 3, 4, 5, 6, 7, 8, 9, 10, 11, 12, 13, 14, 15, 16] kz ?_
  refine go_rn [0, 1, 2, 3] [4, 5, 6, 7, 8, 9, 10, 11, 12, 13, 14, 15, 16] [(1, .v (.int .i64 v)), (2, .v (.bool flex)), (5, .p 0 0), (8, .p 1 0), (9, .p 2 0), (11, .v (.bool (Fld.nul (Fld.mk k1 y2 y3 y4 y5 y6 y7 l8) v (Tree.mk ac ab ae af ag)))), (12, .v (.bool (decide (v ≥ y4)))), (33, .v (.bool (k1 == 8)))] aa gw fun pf bz => ?_
  clear gw
  refine (Bool.eq_false_or_eq_true (k1 == 8)).elim (fun ak => ?_) (fun ak => ?_)
  ·
   have jf : k1 = 8 := by simpa using ak
   have de := bz.cast (env' := [(1, .v (.int .i64 v)), (2, .v (.bool flex)), (5, .p 0 0), (8, .p 1 0), (9, .p 2 0), (11, .v (.bool (Fld.nul (Fld.mk k1 y2 y3 y4 y5 y6 y7 l8) v (Tree.mk ac ab ae af ag)))), (12, .v (.bool (decide (v ≥ y4)))), (33, .v (.bool true))]) (by rw [ak])
   clear bz
   refine go_rn [4, 5, 6, 7, 8, 9, 10, 11, 12, 13, 14, 15, 16] [] [(1, .v (.int .i64 v)), (2, .v (.bool flex)), (5, .p 0 0), (8, .p 1 0), (9, .p 2 0), (11, .v (.bool (Fld.nul (Fld.mk k1 y2 y3 y4 y5 y6 y7 l8) v (Tree.mk ac ab ae af ag)))), (46, .v (.bool (!(ap == (Fld.nul (Fld.mk k1 y2 y3 y4 y5 y6 y7 l8) v (Tree.mk ac ab ae af ag))))))] aa de fun kY aT => ?_
   clear de
   refine wpOps_nil (then_normal ?_)
   refine cond_of aT (b := !(ap == (Fld.nul (Fld.mk k1 y2 y3 y4 y5 y6 y7 l8) v (Tree.mk ac ab ae af ag)))) kz (fun cd => ?_) (fun cd => ?_)
   ·
    have jg : !(ap = (Fld.nul (Fld.mk k1 y2 y3 y4 y5 y6 y7 l8) v (Tree.mk ac ab ae af ag))) := by simpa using cd
    refine go_sp [(10, .v (.bool false))] aa aT fun kZ gx => ?_
    clear aT
    refine wp_ret ?_
    refine then_ret ?_
    refine leave gx aa.cells (v := .bool false) kz ?_
    first
     | exact (to_n8 hq (by assumption) (by assumption)).elim
     | exact (to_n10 hq (by assumption) (by assumption)).elim
     | exact (to_nm hq (by assumption) (by assumption) (by assumption)).elim
   ·
    have jh : !(ap ≠ (Fld.nul (Fld.mk k1 y2 y3 y4 y5 y6 y7 l8) v (Tree.mk ac ab ae af ag))) := by simpa using cd
    refine wp_skip ?_
    refine then_normal ?_
    refine wp_seq ?_
    refine go_sp [(1, .v (.int .i64 v)), (2, .v (.bool flex)), (5, .p 0 0), (8, .p 1 0), (9, .p 2 0), (47, .v (.bool (Fld.nul (Fld.mk k1 y2 y3 y4 y5 y6 y7 l8) v (Tree.mk ac ab ae af ag))))] aa aT fun k5 aU => ?_
    clear aT
    refine cond_of aU (b := Fld.nul (Fld.mk k1 y2 y3 y4 y5 y6 y7 l8) v (Tree.mk ac ab ae af ag)) kz (fun gy => ?_) (fun gy => ?_)
    ·
     refine go_sp [(10, .v (.bool true))] aa aU fun k6 gz => ?_
     clear aU
     refine wp_ret ?_
     refine then_ret ?_
     refine leave gz aa.cells (v := .bool true) kz ?_
     exact ⟨rfl, aa.step⟩
    ·
     refine wp_skip ?_
     refine then_normal ?_
     refine wp_seq ?_
     refine go_sp [(1, .v (.int .i64 v)), (2, .v (.bool flex)), (5, .p 0 0), (8, .p 1 0), (9, .p 2 0), (49, .v (.int .i64 k1))] aa aU fun k7 df => ?_
     clear aU
     refine wp_block ?_
     refine wp_seq ?_
     refine go_sp [(1, .v (.int .i64 v)), (2, .v (.bool flex)), (5, .p 0 0), (8, .p 1 0), (9, .p 2 0), (49, .v (.int .i64 k1)), (50, .v (.bool (k1 == 8)))] aa df fun k8 bA => ?_
     clear df
     refine cond_true bA (b := k1 == 8) kz (ak) ?_
     refine wp_skip ?_
     refine then_normal ?_
     refine cond_true bA (b := k1 == 8) kz (ak) ?_
     refine go_seq_drawK 6 kz aa fun k9 ji bB gA => ?_
     clear aa
     refine go_rnD [0, 1, 2, 3] [(54, .v (.slice al ah.length am)), (56, .v (.slice ai ab.length aj))] 3 (panicFree_then (panicFree_block (panicFree_then panicFree_body))) (fun _ h => h.cells) gA bA fun la dg => ?_
     clear bA
     have iU := whole_le ab
     refine anyC_op (i := 4) kz (wpOp_call dg (f := 64) (vs := [.slice ai ab.length aj]) (d := 57) kz Tryz.call64 (sWhole _ _ ab (aM.move bB.step nilM bB.imm).le _) ?_)
     rintro e_ lb ⟨rfl, dh⟩
     refine ⟨_, rfl, fun lc di => ?_⟩
     have ay := bB.next_nil dh
     have dj := bB.frN dh
     clear dg
     have gB := TT.ofW dj ay
     refine ⟨fun _ => gB, ?_⟩
     refine anyC_op (i := 5) kz (wpOp_call di (f := 63) (vs := [.slice al ah.length am, .slice ai ((whole ab).length) aj]) (d := 58) kz Tryz.call63 (sSame _ _ _ _ ah (whole ab) _ _ ((bX.move ay.step nilM ay.imm).move (Step.refl _ Nil) nilM allF) (((aM.take 32767).move ay.step nilM ay.imm).move (Step.refl _ Nil) nilM allF)) ?_)
     rintro e_ ld ⟨rfl, dl⟩
     refine ⟨_, rfl, fun lf dp => ?_⟩
     have bC := ay.next_nil dl
     have gC := ay.frN dl
     clear di ay
     have gD := TT.ofW (dj.trans gC) bC
     refine ⟨fun _ => gD, ?_⟩
     refine anyC_op (i := 6) kz (wpOp_pure [10] bC.cells dp (env' := [(10, .v (.bool (decide (ah = (whole ab)))))]) kz fun lg gE => ?_)
     clear dp
     refine ⟨fun h => absurd rfl h, ?_⟩
     refine anyC_done kz ?_ _
     refine then_normal ?_
     refine wp_ret ?_
     refine block_ret ?_
     refine then_ret ?_
     refine leave gE bC.cells (v := .bool (decide (ah = (whole ab)))) kz ?_
     refine ⟨congrArg (fun b_ => Ending.returned (Value.bool b_)) ?_, bC.step⟩
     first
      | exact to_t8 hq (by assumption) (by assumption)
      | exact to_t9 hq (by assumption) (by assumption)
      | exact to_u hq (by assumption) (by assumption)
      | exact to_m hq (by assumption) (by assumption) (by assumption) (by assumption) (by assumption) (by assumption)
  ·
   have jj : k1 ≠ 8 := by simpa using ak
   have dq := bz.cast (env' := [(1, .v (.int .i64 v)), (2, .v (.bool flex)), (5, .p 0 0), (8, .p 1 0), (9, .p 2 0), (11, .v (.bool (Fld.nul (Fld.mk k1 y2 y3 y4 y5 y6 y7 l8) v (Tree.mk ac ab ae af ag)))), (12, .v (.bool (decide (v ≥ y4)))), (33, .v (.bool false))]) (by rw [ak])
   clear bz
   refine go_rn [4, 5, 6, 7, 8] [9, 10, 11, 12, 13, 14, 15, 16] [(1, .v (.int .i64 v)), (2, .v (.bool flex)), (5, .p 0 0), (8, .p 1 0), (9, .p 2 0), (11, .v (.bool (Fld.nul (Fld.mk k1 y2 y3 y4 y5 y6 y7 l8) v (Tree.mk ac ab ae af ag)))), (12, .v (.bool (decide (v ≥ y4)))), (38, .v (.bool (k1 == 10)))] aa dq fun lh bD => ?_
   clear dq
   refine (Bool.eq_false_or_eq_true (k1 == 10)).elim (fun az => ?_) (fun az => ?_)
   ·
    have jk : k1 = 10 := by simpa using az
    have dr := bD.cast (env' := [(1, .v (.int .i64 v)), (2, .v (.bool flex)), (5, .p 0 0), (8, .p 1 0), (9, .p 2 0), (11, .v (.bool (Fld.nul (Fld.mk k1 y2 y3 y4 y5 y6 y7 l8) v (Tree.mk ac ab ae af ag)))), (12, .v (.bool (decide (v ≥ y4)))), (38, .v (.bool true))]) (by rw [az])
    clear bD
    refine go_rn [9, 10, 11, 12, 13, 14, 15, 16] [] [(1, .v (.int .i64 v)), (2, .v (.bool flex)), (5, .p 0 0), (8, .p 1 0), (9, .p 2 0), (11, .v (.bool (Fld.nul (Fld.mk k1 y2 y3 y4 y5 y6 y7 l8) v (Tree.mk ac ab ae af ag)))), (46, .v (.bool (!(ap == (Fld.nul (Fld.mk k1 y2 y3 y4 y5 y6 y7 l8) v (Tree.mk ac ab ae af ag))))))] aa dr fun li aV => ?_
    clear dr
    refine wpOps_nil (then_normal ?_)
    refine cond_of aV (b := !(ap == (Fld.nul (Fld.mk k1 y2 y3 y4 y5 y6 y7 l8) v (Tree.mk ac ab ae af ag)))) kz (fun ce => ?_) (fun ce => ?_)
    ·
     have jl : !(ap = (Fld.nul (Fld.mk k1 y2 y3 y4 y5 y6 y7 l8) v (Tree.mk ac ab ae af ag))) := by simpa using ce
     refine go_sp [(10, .v (.bool false))] aa aV fun lj gF => ?_
     clear aV
     refine wp_ret ?_
     refine then_ret ?_
     refine leave gF aa.cells (v := .bool false) kz ?_
     first
      | exact (to_n8 hq (by assumption) (by assumption)).elim
      | exact (to_n10 hq (by assumption) (by assumption)).elim
      | exact (to_nm hq (by assumption) (by assumption) (by assumption)).elim
    ·
     have jm : !(ap ≠ (Fld.nul (Fld.mk k1 y2 y3 y4 y5 y6 y7 l8) v (Tree.mk ac ab ae af ag))) := by simpa using ce
     refine wp_skip ?_
     refine then_normal ?_
     refine wp_seq ?_
     refine go_sp [(1, .v (.int .i64 v)), (2, .v (.bool flex)), (5, .p 0 0), (8, .p 1 0), (9, .p 2 0), (47, .v (.bool (Fld.nul (Fld.mk k1 y2 y3 y4 y5 y6 y7 l8) v (Tree.mk ac ab ae af ag))))] aa aV fun lm aW => ?_
     clear aV
     refine cond_of aW (b := Fld.nul (Fld.mk k1 y2 y3 y4 y5 y6 y7 l8) v (Tree.mk ac ab ae af ag)) kz (fun gG => ?_) (fun gG => ?_)
     ·
      refine go_sp [(10, .v (.bool true))] aa aW fun ln gH => ?_
      clear aW
      refine wp_ret ?_
      refine then_ret ?_
      refine leave gH aa.cells (v := .bool true) kz ?_
      exact ⟨rfl, aa.step⟩
     ·
      refine wp_skip ?_
      refine then_normal ?_
      refine wp_seq ?_
      refine go_sp [(1, .v (.int .i64 v)), (2, .v (.bool flex)), (5, .p 0 0), (8, .p 1 0), (9, .p 2 0), (49, .v (.int .i64 k1))] aa aW fun lp dt => ?_
      clear aW
      refine wp_block ?_
      refine wp_seq ?_
      refine go_sp [(1, .v (.int .i64 v)), (2, .v (.bool flex)), (5, .p 0 0), (8, .p 1 0), (9, .p 2 0), (49, .v (.int .i64 k1)), (50, .v (.bool (k1 == 8)))] aa dt fun lq cm => ?_
      clear dt
      refine cond_false cm (b := k1 == 8) kz (ak) ?_
      refine go_region [0, 1] kz ?_
      refine go_rn [0, 1] [] [(1, .v (.int .i64 v)), (2, .v (.bool flex)), (5, .p 0 0), (8, .p 1 0), (9, .p 2 0), (49, .v (.int .i64 k1)), (50, .v (.bool (k1 == 9)))] aa cm fun lr aX => ?_
      clear cm
      refine wpOps_nil (then_normal ?_)
      refine cond_of aX (b := k1 == 9) kz (fun cq => ?_) (fun cq => ?_)
      ·
       have jn : k1 = 9 := by simpa using cq
       refine go_seq_drawK 6 kz aa fun ls jo bE gI => ?_
       clear aa
       refine go_rnD [0, 1, 2, 3] [(54, .v (.slice al ah.length am)), (56, .v (.slice ai ab.length aj))] 3 (panicFree_then (panicFree_block (panicFree_then panicFree_body))) (fun _ h => h.cells) gI aX fun lu du => ?_
       clear aX
       have iV := whole_le ab
       refine anyC_op (i := 4) kz (wpOp_call du (f := 64) (vs := [.slice ai ab.length aj]) (d := 57) kz Tryz.call64 (sWhole _ _ ab (aM.move bE.step nilM bE.imm).le _) ?_)
       rintro e_ lv ⟨rfl, dv⟩
       refine ⟨_, rfl, fun lw dw => ?_⟩
       have aA := bE.next_nil dv
       have dx := bE.frN dv
       clear du
       have gJ := TT.ofW dx aA
       refine ⟨fun _ => gJ, ?_⟩
       refine anyC_op (i := 5) kz (wpOp_call dw (f := 63) (vs := [.slice al ah.length am, .slice ai ((whole ab).length) aj]) (d := 58) kz Tryz.call63 (sSame _ _ _ _ ah (whole ab) _ _ ((bX.move aA.step nilM aA.imm).move (Step.refl _ Nil) nilM allF) (((aM.take 32767).move aA.step nilM aA.imm).move (Step.refl _ Nil) nilM allF)) ?_)
       rintro e_ lx ⟨rfl, dy⟩
       refine ⟨_, rfl, fun ly dz => ?_⟩
       have bF := aA.next_nil dy
       have gK := aA.frN dy
       clear dw aA
       have gL := TT.ofW (dx.trans gK) bF
       refine ⟨fun _ => gL, ?_⟩
       refine anyC_op (i := 6) kz (wpOp_pure [10] bF.cells dz (env' := [(10, .v (.bool (decide (ah = (whole ab)))))]) kz fun lz gM => ?_)
       clear dz
       refine ⟨fun h => absurd rfl h, ?_⟩
       refine anyC_done kz ?_ _
       refine then_normal ?_
       refine wp_ret ?_
       refine block_ret ?_
       refine then_ret ?_
       refine leave gM bF.cells (v := .bool (decide (ah = (whole ab)))) kz ?_
       refine ⟨congrArg (fun b_ => Ending.returned (Value.bool b_)) ?_, bF.step⟩
       first
        | exact to_t8 hq (by assumption) (by assumption)
        | exact to_t9 hq (by assumption) (by assumption)
        | exact to_u hq (by assumption) (by assumption)
        | exact to_m hq (by assumption) (by assumption) (by assumption) (by assumption) (by assumption) (by assumption)
      ·
       have jp : k1 ≠ 9 := by simpa using cq
       refine go_sp [(1, .v (.int .i64 v)), (2, .v (.bool flex)), (5, .p 0 0), (8, .p 1 0), (9, .p 2 0), (49, .v (.int .i64 k1)), (59, .v (.bool (k1 == 7)))] aa aX fun lA aY => ?_
       clear aX
       refine cond_of aY (b := k1 == 7) kz (fun cr => ?_) (fun cr => ?_)
       ·
        have jq : k1 = 7 := by simpa using cr
        refine go_seq_region [0, 1] kz ?_
        refine of_op (wpOp_make1 aa aY (d := 61) (j := 16) (t := 22) (e := 5) (bytes := 1) (z := .int .u8 0) kz kz kz kz (rfl) (rfl) (by omega) fun ar lB lC jr js jt aN dA => ?_)
        clear aY aa
        refine go_rn [1] [] [(8, .p 1 0), (9, .p 2 0), (13, .v (.slice (some ⟨ar, 0, none⟩) 16 16))] aN dA fun lD dB => ?_
        clear dA
        refine wpOps_nil (then_normal ?_)
        refine go_seq_region [0, 1, 2, 3] kz ?_
        refine go_rn [0, 1, 2] [3] [(9, .p 2 0), (13, .v (.slice (some ⟨ar, 0, none⟩) 16 16)), (62, .v (.slice (some ⟨ar, 0, none⟩) 16 16)), (64, .v (.slice ai ab.length aj))] aN dB fun lE dC => ?_
        clear dB
        refine of_op (wpOp_copyR aN dC (k := 0) (d := 65) (t := 22) (u := 22) (e := 5) (bytes := 1) (A := (some ⟨ar, 0, none⟩)) (As := ai) (m := ab.length) (cs := aj) (m0 := 16) (c := 16) (xs := (List.replicate 16 (.int .u8 0))) (news := bc ab) kz kz rfl (aM.move aN.step nilM aN.imm).src fun lF lG ju dD dE => ?_)
        clear dC aN
        have gN : (⟨(some ⟨ar, 0, none⟩), 16, 5, 1, 16, splice (List.replicate 16 (.int .u8 0)) 0 ((bc ab).take (min ab.length 16))⟩ : Rw) = brow (some ⟨ar, 0, none⟩) 16 5 (uuidB ab) := uuid_row _ _ _
        obtain ⟨aG, jv⟩ := dD.rowEq 0 [brow (some ⟨ar, 0, none⟩) 16 5 (uuidB ab)] gN
        clear dD
        have dF := EnvOk.pick dE (ks := [9, 13, 62, 64, 65]) (env' := [(9, .p 2 0), (13, .v (.slice (some ⟨ar, 0, none⟩) 16 16)), (62, .v (.slice (some ⟨ar, 0, none⟩) 16 16)), (64, .v (.slice ai ab.length aj)), (65, .v (.int .i64 ((min ab.length 16 : Nat) : Int)))]) kz
        have dG := dF.cast (env' := [(9, .p 2 0), (13, .v (.slice (some ⟨ar, 0, none⟩) ((uuidB ab).length) 16)), (62, .v (.slice (some ⟨ar, 0, none⟩) ((uuidB ab).length) 16)), (64, .v (.slice ai ab.length aj)), (65, .v (.int .i64 ((min ab.length 16 : Nat) : Int)))]) (by rw [uuidB_length _])
        clear dE dF
        refine wpOps_nil (then_normal ?_)
        refine go_seq_region [0, 1, 2, 3, 4] kz ?_
        refine go_rn [0, 1, 2] [3, 4] [(67, .v (.slice al ah.length am)), (68, .v (.slice (some ⟨ar, 0, none⟩) ((uuidB ab).length) 16))] aG dG fun lH dH => ?_
        clear dG
        refine of_op (wpOp_call dH (f := 63) (vs := [.slice al ah.length am, .slice (some ⟨ar, 0, none⟩) ((uuidB ab).length) 16]) (d := 69) kz Tryz.call63 (sSame _ _ _ _ ah (uuidB ab) _ _ ((bX.move aG.step nilM aG.imm).move (Step.refl _ Nil) nilM allF) (octs_own (aG.own 0 _ rfl) (by first | omega | (rw [uuidB_length]; decide) | (simp only [be_length]; exact Nat.le_trans (widthI_le _) (by decide)) | (have := hroom; omega) | (have := hmade; omega) | (simp only [List.length_append, List.length_nil]; omega)) (F := fun _ _ => True) (fun _ _ _ => trivial))) ?_)
        rintro e_ lI ⟨rfl, dI⟩
        refine ⟨_, rfl, fun lJ dJ => ?_⟩
        have cu := aG.next_nil dI
        have jw := aG.frN dI
        clear dH aG
        refine go_rn [4] [] [(10, .v (.bool (decide (ah = uuidB ab))))] cu dJ fun lK gO => ?_
        clear dJ
        refine wpOps_nil (then_normal ?_)
        refine wp_ret ?_
        refine block_ret ?_
        refine then_ret ?_
        refine leave gO cu.cells (v := .bool (decide (ah = uuidB ab))) kz ?_
        refine ⟨congrArg (fun b_ => Ending.returned (Value.bool b_)) ?_, cu.step⟩
        first
         | exact to_t8 hq (by assumption) (by assumption)
         | exact to_t9 hq (by assumption) (by assumption)
         | exact to_u hq (by assumption) (by assumption)
         | exact to_m hq (by assumption) (by assumption) (by assumption) (by assumption) (by assumption) (by assumption)
       ·
        have jx : k1 ≠ 7 := by simpa using cr
        refine go_sp [(1, .v (.int .i64 v)), (2, .v (.bool flex)), (5, .p 0 0), (8, .p 1 0), (9, .p 2 0), (49, .v (.int .i64 k1)), (70, .v (.bool (k1 == 10)))] aa aY fun lL cw => ?_
        clear aY
        refine cond_true cw (b := k1 == 10) kz (az) ?_
        refine go_seq_region [0, 1, 2, 3, 4, 5, 6, 7] kz ?_
        refine go_rn [0, 1, 2, 3, 4, 5] [6, 7] [(73, .v (.slice A9 l8.length fY)), (74, .v (.int .i64 v)), (75, .v (.bool flex)), (76, .v (.agg #[.int .i64 ac, .slice ai ab.length aj, .bool ae, .slice fZ af.length f5, .slice f7 ag.length f8])), (77, .v (.agg #[.int .i64 aS, .slice al ah.length am, .bool ap, .slice gc f9.length gd, .slice ge ga.length gg]))] aa cw fun lM dK => ?_
        clear cw
        refine of_op (wpOp_call dK (f := 19) (vs := [.slice A9 l8.length fY, .int .i64 v, .bool flex, .agg #[.int .i64 ac, .slice ai ab.length aj, .bool ae, .slice fZ af.length f5, .slice f7 ag.length f8], .agg #[.int .i64 aS, .slice al ah.length am, .bool ap, .slice gc f9.length gd, .slice ge ga.length gg]]) (d := 78) kz Tryz.call19 ( hT _ _ l8 _ (Tree.mk ac ab ae af ag) _ (Tree.mk aS ah ap f9 ga) _ _ ⟨gb, (iT.move aa.step nilM aa.imm), (fun i_ x_ h_ => ((i7 i_ x_ h_).move aa.step nilM aa.imm))⟩ (ht.move aa.step nilM aa.imm) (hg.move aa.step nilM aa.imm) hpl (to_part hq (by assumption) (by assumption))) ?_)
        rintro e_ lN ⟨rfl, dL⟩
        refine ⟨_, rfl, fun lO dM => ?_⟩
        have cz := aa.next_nil dL
        have jy := aa.frN dL
        clear dK aa
        refine go_rn [7] [] [(10, .v (.bool true))] cz dM fun lP gP => ?_
        clear dM
        refine wpOps_nil (then_normal ?_)
        refine wp_ret ?_
        refine block_ret ?_
        refine then_ret ?_
        refine leave gP cz.cells (v := .bool true) kz ?_
        exact ⟨rfl, cz.step⟩
   ·
    have jz : k1 ≠ 10 := by simpa using az
    have dN := bD.cast (env' := [(1, .v (.int .i64 v)), (2, .v (.bool flex)), (5, .p 0 0), (8, .p 1 0), (9, .p 2 0), (11, .v (.bool (Fld.nul (Fld.mk k1 y2 y3 y4 y5 y6 y7 l8) v (Tree.mk ac ab ae af ag)))), (12, .v (.bool (decide (v ≥ y4)))), (38, .v (.bool false))]) (by rw [az])
    clear bD
    refine go_rn [9, 10, 11] [12, 13, 14, 15, 16] [(1, .v (.int .i64 v)), (2, .v (.bool flex)), (5, .p 0 0), (8, .p 1 0), (9, .p 2 0), (11, .v (.bool (Fld.nul (Fld.mk k1 y2 y3 y4 y5 y6 y7 l8) v (Tree.mk ac ab ae af ag)))), (41, .v (.bool (decide (v ≥ y4))))] aa dN fun lQ bG => ?_
    clear dN
    refine (Bool.eq_false_or_eq_true (decide (v ≥ y4))).elim (fun aZ => ?_) (fun aZ => ?_)
    ·
     have jA := of_decide_eq_true aZ
     have dO := bG.cast (env' := [(1, .v (.int .i64 v)), (2, .v (.bool flex)), (5, .p 0 0), (8, .p 1 0), (9, .p 2 0), (11, .v (.bool (Fld.nul (Fld.mk k1 y2 y3 y4 y5 y6 y7 l8) v (Tree.mk ac ab ae af ag)))), (41, .v (.bool true))]) (by rw [aZ])
     clear bG
     refine go_rn [12, 13, 14, 15, 16] [] [(1, .v (.int .i64 v)), (2, .v (.bool flex)), (5, .p 0 0), (8, .p 1 0), (9, .p 2 0), (11, .v (.bool (Fld.nul (Fld.mk k1 y2 y3 y4 y5 y6 y7 l8) v (Tree.mk ac ab ae af ag)))), (46, .v (.bool (!(ap == (Fld.nul (Fld.mk k1 y2 y3 y4 y5 y6 y7 l8) v (Tree.mk ac ab ae af ag))))))] aa dO fun lR ba => ?_
     clear dO
     refine wpOps_nil (then_normal ?_)
     refine cond_of ba (b := !(ap == (Fld.nul (Fld.mk k1 y2 y3 y4 y5 y6 y7 l8) v (Tree.mk ac ab ae af ag)))) kz (fun cA => ?_) (fun cA => ?_)
     ·
      have jB : !(ap = (Fld.nul (Fld.mk k1 y2 y3 y4 y5 y6 y7 l8) v (Tree.mk ac ab ae af ag))) := by simpa using cA
      refine go_sp [(10, .v (.bool false))] aa ba fun lS gQ => ?_
      clear ba
      refine wp_ret ?_
      refine then_ret ?_
      refine leave gQ aa.cells (v := .bool false) kz ?_
      first
       | exact (to_n8 hq (by assumption) (by assumption)).elim
       | exact (to_n10 hq (by assumption) (by assumption)).elim
       | exact (to_nm hq (by assumption) (by assumption) (by assumption)).elim
     ·
      have jC : !(ap ≠ (Fld.nul (Fld.mk k1 y2 y3 y4 y5 y6 y7 l8) v (Tree.mk ac ab ae af ag))) := by simpa using cA
      refine wp_skip ?_
      refine then_normal ?_
      refine wp_seq ?_
      refine go_sp [(1, .v (.int .i64 v)), (2, .v (.bool flex)), (5, .p 0 0), (8, .p 1 0), (9, .p 2 0), (47, .v (.bool (Fld.nul (Fld.mk k1 y2 y3 y4 y5 y6 y7 l8) v (Tree.mk ac ab ae af ag))))] aa ba fun lT bd => ?_
      clear ba
      refine cond_of bd (b := Fld.nul (Fld.mk k1 y2 y3 y4 y5 y6 y7 l8) v (Tree.mk ac ab ae af ag)) kz (fun gR => ?_) (fun gR => ?_)
      ·
       refine go_sp [(10, .v (.bool true))] aa bd fun lU gS => ?_
       clear bd
       refine wp_ret ?_
       refine then_ret ?_
       refine leave gS aa.cells (v := .bool true) kz ?_
       exact ⟨rfl, aa.step⟩
      ·
       refine wp_skip ?_
       refine then_normal ?_
       refine wp_seq ?_
       refine go_sp [(1, .v (.int .i64 v)), (2, .v (.bool flex)), (5, .p 0 0), (8, .p 1 0), (9, .p 2 0), (49, .v (.int .i64 k1))] aa bd fun lV dP => ?_
       clear bd
       refine wp_block ?_
       refine wp_seq ?_
       refine go_sp [(1, .v (.int .i64 v)), (2, .v (.bool flex)), (5, .p 0 0), (8, .p 1 0), (9, .p 2 0), (49, .v (.int .i64 k1)), (50, .v (.bool (k1 == 8)))] aa dP fun lW cB => ?_
       clear dP
       refine cond_false cB (b := k1 == 8) kz (ak) ?_
       refine go_region [0, 1] kz ?_
       refine go_rn [0, 1] [] [(1, .v (.int .i64 v)), (2, .v (.bool flex)), (5, .p 0 0), (8, .p 1 0), (9, .p 2 0), (49, .v (.int .i64 k1)), (50, .v (.bool (k1 == 9)))] aa cB fun lX bf => ?_
       clear cB
       refine wpOps_nil (then_normal ?_)
       refine cond_of bf (b := k1 == 9) kz (fun cC => ?_) (fun cC => ?_)
       ·
        have jD : k1 = 9 := by simpa using cC
        refine go_seq_drawK 6 kz aa fun lY jE bH gT => ?_
        clear aa
        refine go_rnD [0, 1, 2, 3] [(54, .v (.slice al ah.length am)), (56, .v (.slice ai ab.length aj))] 3 (panicFree_then (panicFree_block (panicFree_then panicFree_body))) (fun _ h => h.cells) gT bf fun lZ dQ => ?_
        clear bf
        have iW := whole_le ab
        refine anyC_op (i := 4) kz (wpOp_call dQ (f := 64) (vs := [.slice ai ab.length aj]) (d := 57) kz Tryz.call64 (sWhole _ _ ab (aM.move bH.step nilM bH.imm).le _) ?_)
        rintro e_ l0 ⟨rfl, dR⟩
        refine ⟨_, rfl, fun l3 dS => ?_⟩
        have aB := bH.next_nil dR
        have dT := bH.frN dR
        clear dQ
        have gU := TT.ofW dT aB
        refine ⟨fun _ => gU, ?_⟩
        refine anyC_op (i := 5) kz (wpOp_call dS (f := 63) (vs := [.slice al ah.length am, .slice ai ((whole ab).length) aj]) (d := 58) kz Tryz.call63 (sSame _ _ _ _ ah (whole ab) _ _ ((bX.move aB.step nilM aB.imm).move (Step.refl _ Nil) nilM allF) (((aM.take 32767).move aB.step nilM aB.imm).move (Step.refl _ Nil) nilM allF)) ?_)
        rintro e_ l5 ⟨rfl, dU⟩
        refine ⟨_, rfl, fun l6 dV => ?_⟩
        have bI := aB.next_nil dU
        have gV := aB.frN dU
        clear dS aB
        have gW := TT.ofW (dT.trans gV) bI
        refine ⟨fun _ => gW, ?_⟩
        refine anyC_op (i := 6) kz (wpOp_pure [10] bI.cells dV (env' := [(10, .v (.bool (decide (ah = (whole ab)))))]) kz fun l7 gX => ?_)
        clear dV
        refine ⟨fun h => absurd rfl h, ?_⟩
        refine anyC_done kz ?_ _
        refine then_normal ?_
        refine wp_ret ?_
        refine block_ret ?_
        refine then_ret ?_
        refine leave gX bI.cells (v := .bool (decide (ah = (whole ab)))) kz ?_
        refine ⟨congrArg (fun b_ => Ending.returned (Value.bool b_)) ?_, bI.step⟩
        first
         | exact to_t8 hq (by assumption) (by assumption)
         | exact to_t9 hq (by assumption) (by assumption)
         | exact to_u hq (by assumption) (by assumption)
         | exact to_m hq (by assumption) (by assumption) (by assumption) (by assumption) (by assumption) (by assumption)
       ·
        have jF : k1 ≠ 9 := by simpa using cC
        refine go_sp [(1, .v (.int .i64 v)), (2, .v (.bool flex)), (5, .p 0 0), (8, .p 1 0), (9, .p 2 0), (49, .v (.int .i64 k1)), (59, .v (.bool (k1 == 7)))] aa bf fun l9 bg => ?_
        clear bf
        refine cond_of bg (b := k1 == 7) kz (fun cD => ?_) (fun cD => ?_)
        ·
         have jG : k1 = 7 := by simpa using cD
         refine go_seq_region [0, 1] kz ?_
         refine of_op (wpOp_make1 aa bg (d := 61) (j := 16) (t := 22) (e := 5) (bytes := 1) (z := .int .u8 0) kz kz kz kz (rfl) (rfl) (by omega) fun au ma mc jH jI jJ aO dW => ?_)
         clear bg aa
         refine go_rn [1] [] [(8, .p 1 0), (9, .p 2 0), (13, .v (.slice (some ⟨au, 0, none⟩) 16 16))] aO dW fun md dX => ?_
         clear dW
         refine wpOps_nil (then_normal ?_)
         refine go_seq_region [0, 1, 2, 3] kz ?_
         refine go_rn [0, 1, 2] [3] [(9, .p 2 0), (13, .v (.slice (some ⟨au, 0, none⟩) 16 16)), (62, .v (.slice (some ⟨au, 0, none⟩) 16 16)), (64, .v (.slice ai ab.length aj))] aO dX fun me dY => ?_
         clear dX
         refine of_op (wpOp_copyR aO dY (k := 0) (d := 65) (t := 22) (u := 22) (e := 5) (bytes := 1) (A := (some ⟨au, 0, none⟩)) (As := ai) (m := ab.length) (cs := aj) (m0 := 16) (c := 16) (xs := (List.replicate 16 (.int .u8 0))) (news := bc ab) kz kz rfl (aM.move aO.step nilM aO.imm).src fun mf mg jK dZ d5 => ?_)
         clear dY aO
         have gY : (⟨(some ⟨au, 0, none⟩), 16, 5, 1, 16, splice (List.replicate 16 (.int .u8 0)) 0 ((bc ab).take (min ab.length 16))⟩ : Rw) = brow (some ⟨au, 0, none⟩) 16 5 (uuidB ab) := uuid_row _ _ _
         obtain ⟨aH, jL⟩ := dZ.rowEq 0 [brow (some ⟨au, 0, none⟩) 16 5 (uuidB ab)] gY
         clear dZ
         have d6 := EnvOk.pick d5 (ks := [9, 13, 62, 64, 65]) (env' := [(9, .p 2 0), (13, .v (.slice (some ⟨au, 0, none⟩) 16 16)), (62, .v (.slice (some ⟨au, 0, none⟩) 16 16)), (64, .v (.slice ai ab.length aj)), (65, .v (.int .i64 ((min ab.length 16 : Nat) : Int)))]) kz
         have d7 := d6.cast (env' := [(9, .p 2 0), (13, .v (.slice (some ⟨au, 0, none⟩) ((uuidB ab).length) 16)), (62, .v (.slice (some ⟨au, 0, none⟩) ((uuidB ab).length) 16)), (64, .v (.slice ai ab.length aj)), (65, .v (.int .i64 ((min ab.length 16 : Nat) : Int)))]) (by rw [uuidB_length _])
         clear d5 d6
         refine wpOps_nil (then_normal ?_)
         refine go_seq_region [0, 1, 2, 3, 4] kz ?_
         refine go_rn [0, 1, 2] [3, 4] [(67, .v (.slice al ah.length am)), (68, .v (.slice (some ⟨au, 0, none⟩) ((uuidB ab).length) 16))] aH d7 fun mh d8 => ?_
         clear d7
         refine of_op (wpOp_call d8 (f := 63) (vs := [.slice al ah.length am, .slice (some ⟨au, 0, none⟩) ((uuidB ab).length) 16]) (d := 69) kz Tryz.call63 (sSame _ _ _ _ ah (uuidB ab) _ _ ((bX.move aH.step nilM aH.imm).move (Step.refl _ Nil) nilM allF) (octs_own (aH.own 0 _ rfl) (by first | omega | (rw [uuidB_length]; decide) | (simp only [be_length]; exact Nat.le_trans (widthI_le _) (by decide)) | (have := hroom; omega) | (have := hmade; omega) | (simp only [List.length_append, List.length_nil]; omega)) (F := fun _ _ => True) (fun _ _ _ => trivial))) ?_)
         rintro e_ mi ⟨rfl, d9⟩
         refine ⟨_, rfl, fun mj ea => ?_⟩
         have cE := aH.next_nil d9
         have jM := aH.frN d9
         clear d8 aH
         refine go_rn [4] [] [(10, .v (.bool (decide (ah = uuidB ab))))] cE ea fun ml gZ => ?_
         clear ea
         refine wpOps_nil (then_normal ?_)
         refine wp_ret ?_
         refine block_ret ?_
         refine then_ret ?_
         refine leave gZ cE.cells (v := .bool (decide (ah = uuidB ab))) kz ?_
         refine ⟨congrArg (fun b_ => Ending.returned (Value.bool b_)) ?_, cE.step⟩
         first
          | exact to_t8 hq (by assumption) (by assumption)
          | exact to_t9 hq (by assumption) (by assumption)
          | exact to_u hq (by assumption) (by assumption)
          | exact to_m hq (by assumption) (by assumption) (by assumption) (by assumption) (by assumption) (by assumption)
        ·
         have jN : k1 ≠ 7 := by simpa using cD
         refine go_sp [(1, .v (.int .i64 v)), (2, .v (.bool flex)), (5, .p 0 0), (8, .p 1 0), (9, .p 2 0), (49, .v (.int .i64 k1)), (70, .v (.bool (k1 == 10)))] aa bg fun mn cG => ?_
         clear bg
         refine cond_false cG (b := k1 == 10) kz (az) ?_
         refine go_sp [(1, .v (.int .i64 v)), (2, .v (.bool flex)), (5, .p 0 0), (8, .p 1 0), (9, .p 2 0), (79, .v (.bool (k1 == 11)))] aa cG fun mo cH => ?_
         clear cG
         refine cond_false cH (b := k1 == 11) kz (by simpa using bY) ?_
         refine wp_skip ?_
         refine block_normal ?_
         refine then_normal ?_
         refine go_seq_drawK 8 kz aa fun mp jO eb g6 => ?_
         clear aa
         refine go_rnD [0, 1, 2, 3, 4, 5] [(117, .v (.int .i64 aS)), (119, .v (.int .i64 k1)), (121, .v (.int .i64 ac))] 3 (panicFree_then panicFree_body) (fun _ h => h.cells) g6 cH fun mq ec => ?_
         clear cH
         refine anyC_op (i := 6) kz (wpOp_call ec (f := 132) (vs := [.int .i64 k1, .int .i64 ac]) (d := 122) kz Tryz.call132 (sNumber k1 ac _) ?_)
         rintro e_ mr ⟨rfl, ee⟩
         refine ⟨_, rfl, fun mt ef => ?_⟩
         have bJ := eb.next_nil ee
         have g7 := eb.frN ee
         clear ec
         have eg := TT.ofW g7 bJ
         refine ⟨fun _ => eg, ?_⟩
         refine go_rnD [7] [(123, .v (.bool (aS == (numberI k1 ac))))] 1 (panicFree_then panicFree_body) (fun _ h => h.cells) eg ef fun mu eh => ?_
         clear ef
         refine anyC_op (i := 8) kz (wpOp_pure [10] bJ.cells eh (env' := [(10, .v (.bool (aS == (numberI k1 ac))))]) kz fun mw g8 => ?_)
         clear eh
         refine ⟨fun h => absurd rfl h, ?_⟩
         refine anyC_done kz ?_ _
         refine then_normal ?_
         refine wp_ret ?_
         refine leave g8 bJ.cells (v := .bool (aS == (numberI k1 ac))) kz ?_
         refine ⟨congrArg (fun b_ => Ending.returned (Value.bool b_)) ?_, bJ.step⟩
         first
          | exact to_t8 hq (by assumption) (by assumption)
          | exact to_t9 hq (by assumption) (by assumption)
          | exact to_u hq (by assumption) (by assumption)
          | exact to_m hq (by assumption) (by assumption) (by assumption) (by assumption) (by assumption) (by assumption)
    ·
     have jP := of_decide_eq_false aZ
     have ei := bG.cast (env' := [(1, .v (.int .i64 v)), (2, .v (.bool flex)), (5, .p 0 0), (8, .p 1 0), (9, .p 2 0), (11, .v (.bool (Fld.nul (Fld.mk k1 y2 y3 y4 y5 y6 y7 l8) v (Tree.mk ac ab ae af ag)))), (41, .v (.bool false))]) (by rw [aZ])
     clear bG
     refine go_rn [12, 13, 14, 15, 16] [] [(1, .v (.int .i64 v)), (2, .v (.bool flex)), (5, .p 0 0), (8, .p 1 0), (9, .p 2 0), (11, .v (.bool (Fld.nul (Fld.mk k1 y2 y3 y4 y5 y6 y7 l8) v (Tree.mk ac ab ae af ag)))), (46, .v (.bool false))] aa ei fun mx cI => ?_
     clear ei
     refine wpOps_nil (then_normal ?_)
     refine cond_false cI (b := false) kz rfl ?_
     refine wp_skip ?_
     refine then_normal ?_
     refine wp_seq ?_
     refine go_sp [(1, .v (.int .i64 v)), (2, .v (.bool flex)), (5, .p 0 0), (8, .p 1 0), (9, .p 2 0), (47, .v (.bool (Fld.nul (Fld.mk k1 y2 y3 y4 y5 y6 y7 l8) v (Tree.mk ac ab ae af ag))))] aa cI fun my bh => ?_
     clear cI
     refine cond_of bh (b := Fld.nul (Fld.mk k1 y2 y3 y4 y5 y6 y7 l8) v (Tree.mk ac ab ae af ag)) kz (fun g9 => ?_) (fun g9 => ?_)
     ·
      refine go_sp [(10, .v (.bool true))] aa bh fun mz hC => ?_
      clear bh
      refine wp_ret ?_
      refine then_ret ?_
      refine leave hC aa.cells (v := .bool true) kz ?_
      exact ⟨rfl, aa.step⟩
     ·
      refine wp_skip ?_
      refine then_normal ?_
      refine wp_seq ?_
      refine go_sp [(1, .v (.int .i64 v)), (2, .v (.bool flex)), (5, .p 0 0), (8, .p 1 0), (9, .p 2 0), (49, .v (.int .i64 k1))] aa bh fun mA ej => ?_
      clear bh
      refine wp_block ?_
      refine wp_seq ?_
      refine go_sp [(1, .v (.int .i64 v)), (2, .v (.bool flex)), (5, .p 0 0), (8, .p 1 0), (9, .p 2 0), (49, .v (.int .i64 k1)), (50, .v (.bool (k1 == 8)))] aa ej fun mB cJ => ?_
      clear ej
      refine cond_false cJ (b := k1 == 8) kz (ak) ?_
      refine go_region [0, 1] kz ?_
      refine go_rn [0, 1] [] [(1, .v (.int .i64 v)), (2, .v (.bool flex)), (5, .p 0 0), (8, .p 1 0), (9, .p 2 0), (49, .v (.int .i64 k1)), (50, .v (.bool (k1 == 9)))] aa cJ fun mC bi => ?_
      clear cJ
      refine wpOps_nil (then_normal ?_)
      refine cond_of bi (b := k1 == 9) kz (fun cK => ?_) (fun cK => ?_)
      ·
       have jQ : k1 = 9 := by simpa using cK
       refine go_seq_drawK 6 kz aa fun mD jR bK hJ => ?_
       clear aa
       refine go_rnD [0, 1, 2, 3] [(54, .v (.slice al ah.length am)), (56, .v (.slice ai ab.length aj))] 3 (panicFree_then (panicFree_block (panicFree_then panicFree_body))) (fun _ h => h.cells) hJ bi fun mF ek => ?_
       clear bi
       have iX := whole_le ab
       refine anyC_op (i := 4) kz (wpOp_call ek (f := 64) (vs := [.slice ai ab.length aj]) (d := 57) kz Tryz.call64 (sWhole _ _ ab (aM.move bK.step nilM bK.imm).le _) ?_)
       rintro e_ mG ⟨rfl, em⟩
       refine ⟨_, rfl, fun mH eo => ?_⟩
       have aC := bK.next_nil em
       have ep := bK.frN em
       clear ek
       have hK := TT.ofW ep aC
       refine ⟨fun _ => hK, ?_⟩
       refine anyC_op (i := 5) kz (wpOp_call eo (f := 63) (vs := [.slice al ah.length am, .slice ai ((whole ab).length) aj]) (d := 58) kz Tryz.call63 (sSame _ _ _ _ ah (whole ab) _ _ ((bX.move aC.step nilM aC.imm).move (Step.refl _ Nil) nilM allF) (((aM.take 32767).move aC.step nilM aC.imm).move (Step.refl _ Nil) nilM allF)) ?_)
       rintro e_ mI ⟨rfl, eu⟩
       refine ⟨_, rfl, fun mJ ev => ?_⟩
       have bL := aC.next_nil eu
       have hZ := aC.frN eu
       clear eo aC
       have ia := TT.ofW (ep.trans hZ) bL
       refine ⟨fun _ => ia, ?_⟩
       refine anyC_op (i := 6) kz (wpOp_pure [10] bL.cells ev (env' := [(10, .v (.bool (decide (ah = (whole ab)))))]) kz fun mK ib => ?_)
       clear ev
       refine ⟨fun h => absurd rfl h, ?_⟩
       refine anyC_done kz ?_ _
       refine then_normal ?_
       refine wp_ret ?_
       refine block_ret ?_
       refine then_ret ?_
       refine leave ib bL.cells (v := .bool (decide (ah = (whole ab)))) kz ?_
       refine ⟨congrArg (fun b_ => Ending.returned (Value.bool b_)) ?_, bL.step⟩
       first
        | exact to_t8 hq (by assumption) (by assumption)
        | exact to_t9 hq (by assumption) (by assumption)
        | exact to_u hq (by assumption) (by assumption)
        | exact to_m hq (by assumption) (by assumption) (by assumption) (by assumption) (by assumption) (by assumption)
      ·
       have jS : k1 ≠ 9 := by simpa using cK
       refine go_sp [(1, .v (.int .i64 v)), (2, .v (.bool flex)), (5, .p 0 0), (8, .p 1 0), (9, .p 2 0), (49, .v (.int .i64 k1)), (59, .v (.bool (k1 == 7)))] aa bi fun mL bj => ?_
       clear bi
       refine cond_of bj (b := k1 == 7) kz (fun cL => ?_) (fun cL => ?_)
       ·
        have jT : k1 = 7 := by simpa using cL
        refine go_seq_region [0, 1] kz ?_
        refine of_op (wpOp_make1 aa bj (d := 61) (j := 16) (t := 22) (e := 5) (bytes := 1) (z := .int .u8 0) kz kz kz kz (rfl) (rfl) (by omega) fun av mM mN jU jV jW aP ew => ?_)
        clear bj aa
        refine go_rn [1] [] [(8, .p 1 0), (9, .p 2 0), (13, .v (.slice (some ⟨av, 0, none⟩) 16 16))] aP ew fun mO ey => ?_
        clear ew
        refine wpOps_nil (then_normal ?_)
        refine go_seq_region [0, 1, 2, 3] kz ?_
        refine go_rn [0, 1, 2] [3] [(9, .p 2 0), (13, .v (.slice (some ⟨av, 0, none⟩) 16 16)), (62, .v (.slice (some ⟨av, 0, none⟩) 16 16)), (64, .v (.slice ai ab.length aj))] aP ey fun mQ ez => ?_
        clear ey
        refine of_op (wpOp_copyR aP ez (k := 0) (d := 65) (t := 22) (u := 22) (e := 5) (bytes := 1) (A := (some ⟨av, 0, none⟩)) (As := ai) (m := ab.length) (cs := aj) (m0 := 16) (c := 16) (xs := (List.replicate 16 (.int .u8 0))) (news := bc ab) kz kz rfl (aM.move aP.step nilM aP.imm).src fun mR mS jX eB eC => ?_)
        clear ez aP
        have ic : (⟨(some ⟨av, 0, none⟩), 16, 5, 1, 16, splice (List.replicate 16 (.int .u8 0)) 0 ((bc ab).take (min ab.length 16))⟩ : Rw) = brow (some ⟨av, 0, none⟩) 16 5 (uuidB ab) := uuid_row _ _ _
        obtain ⟨aI, jY⟩ := eB.rowEq 0 [brow (some ⟨av, 0, none⟩) 16 5 (uuidB ab)] ic
        clear eB
        have eD := EnvOk.pick eC (ks := [9, 13, 62, 64, 65]) (env' := [(9, .p 2 0), (13, .v (.slice (some ⟨av, 0, none⟩) 16 16)), (62, .v (.slice (some ⟨av, 0, none⟩) 16 16)), (64, .v (.slice ai ab.length aj)), (65, .v (.int .i64 ((min ab.length 16 : Nat) : Int)))]) kz
        have eE := eD.cast (env' := [(9, .p 2 0), (13, .v (.slice (some ⟨av, 0, none⟩) ((uuidB ab).length) 16)), (62, .v (.slice (some ⟨av, 0, none⟩) ((uuidB ab).length) 16)), (64, .v (.slice ai ab.length aj)), (65, .v (.int .i64 ((min ab.length 16 : Nat) : Int)))]) (by rw [uuidB_length _])
        clear eC eD
        refine wpOps_nil (then_normal ?_)
        refine go_seq_region [0, 1, 2, 3, 4] kz ?_
        refine go_rn [0, 1, 2] [3, 4] [(67, .v (.slice al ah.length am)), (68, .v (.slice (some ⟨av, 0, none⟩) ((uuidB ab).length) 16))] aI eE fun mT eF => ?_
        clear eE
        refine of_op (wpOp_call eF (f := 63) (vs := [.slice al ah.length am, .slice (some ⟨av, 0, none⟩) ((uuidB ab).length) 16]) (d := 69) kz Tryz.call63 (sSame _ _ _ _ ah (uuidB ab) _ _ ((bX.move aI.step nilM aI.imm).move (Step.refl _ Nil) nilM allF) (octs_own (aI.own 0 _ rfl) (by first | omega | (rw [uuidB_length]; decide) | (simp only [be_length]; exact Nat.le_trans (widthI_le _) (by decide)) | (have := hroom; omega) | (have := hmade; omega) | (simp only [List.length_append, List.length_nil]; omega)) (F := fun _ _ => True) (fun _ _ _ => trivial))) ?_)
        rintro e_ mU ⟨rfl, eG⟩
        refine ⟨_, rfl, fun mV eH => ?_⟩
        have cM := aI.next_nil eG
        have jZ := aI.frN eG
        clear eF aI
        refine go_rn [4] [] [(10, .v (.bool (decide (ah = uuidB ab))))] cM eH fun mW ig => ?_
        clear eH
        refine wpOps_nil (then_normal ?_)
        refine wp_ret ?_
        refine block_ret ?_
        refine then_ret ?_
        refine leave ig cM.cells (v := .bool (decide (ah = uuidB ab))) kz ?_
        refine ⟨congrArg (fun b_ => Ending.returned (Value.bool b_)) ?_, cM.step⟩
        first
         | exact to_t8 hq (by assumption) (by assumption)
         | exact to_t9 hq (by assumption) (by assumption)
         | exact to_u hq (by assumption) (by assumption)
         | exact to_m hq (by assumption) (by assumption) (by assumption) (by assumption) (by assumption) (by assumption)
       ·
        have j0 : k1 ≠ 7 := by simpa using cL
        refine go_sp [(1, .v (.int .i64 v)), (2, .v (.bool flex)), (5, .p 0 0), (8, .p 1 0), (9, .p 2 0), (49, .v (.int .i64 k1)), (70, .v (.bool (k1 == 10)))] aa bj fun mX cN => ?_
        clear bj
        refine cond_false cN (b := k1 == 10) kz (az) ?_
        refine go_sp [(1, .v (.int .i64 v)), (2, .v (.bool flex)), (5, .p 0 0), (8, .p 1 0), (9, .p 2 0), (79, .v (.bool (k1 == 11)))] aa cN fun mY cO => ?_
        clear cN
        refine cond_false cO (b := k1 == 11) kz (by simpa using bY) ?_
        refine wp_skip ?_
        refine block_normal ?_
        refine then_normal ?_
        refine go_seq_drawK 8 kz aa fun mZ j1 eI ii => ?_
        clear aa
        refine go_rnD [0, 1, 2, 3, 4, 5] [(117, .v (.int .i64 aS)), (119, .v (.int .i64 k1)), (121, .v (.int .i64 ac))] 3 (panicFree_then panicFree_body) (fun _ h => h.cells) ii cO fun m4 eJ => ?_
        clear cO
        refine anyC_op (i := 6) kz (wpOp_call eJ (f := 132) (vs := [.int .i64 k1, .int .i64 ac]) (d := 122) kz Tryz.call132 (sNumber k1 ac _) ?_)
        rintro e_ m5 ⟨rfl, eK⟩
        refine ⟨_, rfl, fun m6 eL => ?_⟩
        have bM := eI.next_nil eK
        have ij := eI.frN eK
        clear eJ
        have eM := TT.ofW ij bM
        refine ⟨fun _ => eM, ?_⟩
        refine go_rnD [7] [(123, .v (.bool (aS == (numberI k1 ac))))] 1 (panicFree_then panicFree_body) (fun _ h => h.cells) eM eL fun m7 eN => ?_
        clear eL
        refine anyC_op (i := 8) kz (wpOp_pure [10] bM.cells eN (env' := [(10, .v (.bool (aS == (numberI k1 ac))))]) kz fun m8 ik => ?_)
        clear eN
        refine ⟨fun h => absurd rfl h, ?_⟩
        refine anyC_done kz ?_ _
        refine then_normal ?_
        refine wp_ret ?_
        refine leave ik bM.cells (v := .bool (aS == (numberI k1 ac))) kz ?_
        refine ⟨congrArg (fun b_ => Ending.returned (Value.bool b_)) ?_, bM.step⟩
        first
         | exact to_t8 hq (by assumption) (by assumption)
         | exact to_t9 hq (by assumption) (by assumption)
         | exact to_u hq (by assumption) (by assumption)
         | exact to_m hq (by assumption) (by assumption) (by assumption) (by assumption) (by assumption) (by assumption)
 ·
  have j2 := of_decide_eq_false b8
  have eO := dc.cast (env' := [(1, .v (.int .i64 v)), (2, .v (.bool flex)), (5, .p 0 0), (8, .p 1 0), (9, .p 2 0), (11, .v (.bool (Fld.nul (Fld.mk k1 y2 y3 y4 y5 y6 y7 l8) v (Tree.mk ac ab ae af ag)))), (24, .v (.bool false))]) (by rw [b8])
  clear dc
  refine go_rn [4, 5, 6, 7, 8, 9] [] [(1, .v (.int .i64 v)), (2, .v (.bool flex)), (5, .p 0 0), (8, .p 1 0), (9, .p 2 0), (11, .v (.bool (Fld.nul (Fld.mk k1 y2 y3 y4 y5 y6 y7 l8) v (Tree.mk ac ab ae af ag)))), (12, .v (.bool false))] aa eO fun m9 eP => ?_
  clear eO
  refine wpOps_nil (then_normal ?_)
  refine wp_seq ?_
  refine go_seq_region [0, 1, 2, 3, 4, 5, 6, 7, 8, 9, 10, 11, 12, 13, 14, 15, 16] kz ?_
  refine go_rn [0, 1, 2, 3] [4, 5, 6, 7, 8, 9, 10, 11, 12, 13, 14, 15, 16] [(1, .v (.int .i64 v)), (2, .v (.bool flex)), (5, .p 0 0), (8, .p 1 0), (9, .p 2 0), (11, .v (.bool (Fld.nul (Fld.mk k1 y2 y3 y4 y5 y6 y7 l8) v (Tree.mk ac ab ae af ag)))), (12, .v (.bool false)), (33, .v (.bool (k1 == 8)))] aa eP fun nf bN => ?_
  clear eP
  refine (Bool.eq_false_or_eq_true (k1 == 8)).elim (fun ao => ?_) (fun ao => ?_)
  ·
   have j3 : k1 = 8 := by simpa using ao
   have eQ := bN.cast (env' := [(1, .v (.int .i64 v)), (2, .v (.bool flex)), (5, .p 0 0), (8, .p 1 0), (9, .p 2 0), (11, .v (.bool (Fld.nul (Fld.mk k1 y2 y3 y4 y5 y6 y7 l8) v (Tree.mk ac ab ae af ag)))), (12, .v (.bool false)), (33, .v (.bool true))]) (by rw [ao])
   clear bN
   refine go_rn [4, 5, 6, 7, 8, 9, 10, 11, 12, 13, 14, 15, 16] [] [(1, .v (.int .i64 v)), (2, .v (.bool flex)), (5, .p 0 0), (8, .p 1 0), (9, .p 2 0), (11, .v (.bool (Fld.nul (Fld.mk k1 y2 y3 y4 y5 y6 y7 l8) v (Tree.mk ac ab ae af ag)))), (46, .v (.bool (!(ap == (Fld.nul (Fld.mk k1 y2 y3 y4 y5 y6 y7 l8) v (Tree.mk ac ab ae af ag))))))] aa eQ fun ng bk => ?_
   clear eQ
   refine wpOps_nil (then_normal ?_)
   refine cond_of bk (b := !(ap == (Fld.nul (Fld.mk k1 y2 y3 y4 y5 y6 y7 l8) v (Tree.mk ac ab ae af ag)))) kz (fun cP => ?_) (fun cP => ?_)
   ·
    have j4 : !(ap = (Fld.nul (Fld.mk k1 y2 y3 y4 y5 y6 y7 l8) v (Tree.mk ac ab ae af ag))) := by simpa using cP
    refine go_sp [(10, .v (.bool false))] aa bk fun nh il => ?_
    clear bk
    refine wp_ret ?_
    refine then_ret ?_
    refine leave il aa.cells (v := .bool false) kz ?_
    first
     | exact (to_n8 hq (by assumption) (by assumption)).elim
     | exact (to_n10 hq (by assumption) (by assumption)).elim
     | exact (to_nm hq (by assumption) (by assumption) (by assumption)).elim
   ·
    have j5 : !(ap ≠ (Fld.nul (Fld.mk k1 y2 y3 y4 y5 y6 y7 l8) v (Tree.mk ac ab ae af ag))) := by simpa using cP
    refine wp_skip ?_
    refine then_normal ?_
    refine wp_seq ?_
    refine go_sp [(1, .v (.int .i64 v)), (2, .v (.bool flex)), (5, .p 0 0), (8, .p 1 0), (9, .p 2 0), (47, .v (.bool (Fld.nul (Fld.mk k1 y2 y3 y4 y5 y6 y7 l8) v (Tree.mk ac ab ae af ag))))] aa bk fun ni bn => ?_
    clear bk
    refine cond_of bn (b := Fld.nul (Fld.mk k1 y2 y3 y4 y5 y6 y7 l8) v (Tree.mk ac ab ae af ag)) kz (fun im => ?_) (fun im => ?_)
    ·
     refine go_sp [(10, .v (.bool true))] aa bn fun nj io => ?_
     clear bn
     refine wp_ret ?_
     refine then_ret ?_
     refine leave io aa.cells (v := .bool true) kz ?_
     exact ⟨rfl, aa.step⟩
    ·
     refine wp_skip ?_
     refine then_normal ?_
     refine wp_seq ?_
     refine go_sp [(1, .v (.int .i64 v)), (2, .v (.bool flex)), (5, .p 0 0), (8, .p 1 0), (9, .p 2 0), (49, .v (.int .i64 k1))] aa bn fun nk eR => ?_
     clear bn
     refine wp_block ?_
     refine wp_seq ?_
     refine go_sp [(1, .v (.int .i64 v)), (2, .v (.bool flex)), (5, .p 0 0), (8, .p 1 0), (9, .p 2 0), (49, .v (.int .i64 k1)), (50, .v (.bool (k1 == 8)))] aa eR fun nl bO => ?_
     clear eR
     refine cond_true bO (b := k1 == 8) kz (ao) ?_
     refine wp_skip ?_
     refine then_normal ?_
     refine cond_true bO (b := k1 == 8) kz (ao) ?_
     refine go_seq_drawK 6 kz aa fun nm j6 bP ip => ?_
     clear aa
     refine go_rnD [0, 1, 2, 3] [(54, .v (.slice al ah.length am)), (56, .v (.slice ai ab.length aj))] 3 (panicFree_then (panicFree_block (panicFree_then panicFree_body))) (fun _ h => h.cells) ip bO fun np eS => ?_
     clear bO
     have iY := whole_le ab
     refine anyC_op (i := 4) kz (wpOp_call eS (f := 64) (vs := [.slice ai ab.length aj]) (d := 57) kz Tryz.call64 (sWhole _ _ ab (aM.move bP.step nilM bP.imm).le _) ?_)
     rintro e_ nr ⟨rfl, eU⟩
     refine ⟨_, rfl, fun ns eV => ?_⟩
     have aD := bP.next_nil eU
     have eW := bP.frN eU
     clear eS
     have iq := TT.ofW eW aD
     refine ⟨fun _ => iq, ?_⟩
     refine anyC_op (i := 5) kz (wpOp_call eV (f := 63) (vs := [.slice al ah.length am, .slice ai ((whole ab).length) aj]) (d := 58) kz Tryz.call63 (sSame _ _ _ _ ah (whole ab) _ _ ((bX.move aD.step nilM aD.imm).move (Step.refl _ Nil) nilM allF) (((aM.take 32767).move aD.step nilM aD.imm).move (Step.refl _ Nil) nilM allF)) ?_)
     rintro e_ nt ⟨rfl, eX⟩
     refine ⟨_, rfl, fun nu eY => ?_⟩
     have bQ := aD.next_nil eX
     have ir := aD.frN eX
     clear eV aD
     have iu := TT.ofW (eW.trans ir) bQ
     refine ⟨fun _ => iu, ?_⟩
     refine anyC_op (i := 6) kz (wpOp_pure [10] bQ.cells eY (env' := [(10, .v (.bool (decide (ah = (whole ab)))))]) kz fun nv iv => ?_)
     clear eY
     refine ⟨fun h => absurd rfl h, ?_⟩
     refine anyC_done kz ?_ _
     refine then_normal ?_
     refine wp_ret ?_
     refine block_ret ?_
     refine then_ret ?_
     refine leave iv bQ.cells (v := .bool (decide (ah = (whole ab)))) kz ?_
     refine ⟨congrArg (fun b_ => Ending.returned (Value.bool b_)) ?_, bQ.step⟩
     first
      | exact to_t8 hq (by assumption) (by assumption)
      | exact to_t9 hq (by assumption) (by assumption)
      | exact to_u hq (by assumption) (by assumption)
      | exact to_m hq (by assumption) (by assumption) (by assumption) (by assumption) (by assumption) (by assumption)
  ·
   have j7 : k1 ≠ 8 := by simpa using ao
   have eZ := bN.cast (env' := [(1, .v (.int .i64 v)), (2, .v (.bool flex)), (5, .p 0 0), (8, .p 1 0), (9, .p 2 0), (11, .v (.bool (Fld.nul (Fld.mk k1 y2 y3 y4 y5 y6 y7 l8) v (Tree.mk ac ab ae af ag)))), (12, .v (.bool false)), (33, .v (.bool false))]) (by rw [ao])
   clear bN
   refine go_rn [4, 5, 6, 7, 8] [9, 10, 11, 12, 13, 14, 15, 16] [(1, .v (.int .i64 v)), (2, .v (.bool flex)), (5, .p 0 0), (8, .p 1 0), (9, .p 2 0), (11, .v (.bool (Fld.nul (Fld.mk k1 y2 y3 y4 y5 y6 y7 l8) v (Tree.mk ac ab ae af ag)))), (12, .v (.bool false)), (38, .v (.bool (k1 == 10)))] aa eZ fun nw bR => ?_
   clear eZ
   refine (Bool.eq_false_or_eq_true (k1 == 10)).elim (fun aJ => ?_) (fun aJ => ?_)
   ·
    have j8 : k1 = 10 := by simpa using aJ
    have e9 := bR.cast (env' := [(1, .v (.int .i64 v)), (2, .v (.bool flex)), (5, .p 0 0), (8, .p 1 0), (9, .p 2 0), (11, .v (.bool (Fld.nul (Fld.mk k1 y2 y3 y4 y5 y6 y7 l8) v (Tree.mk ac ab ae af ag)))), (12, .v (.bool false)), (38, .v (.bool true))]) (by rw [aJ])
    clear bR
    refine go_rn [9, 10, 11, 12, 13, 14, 15, 16] [] [(1, .v (.int .i64 v)), (2, .v (.bool flex)), (5, .p 0 0), (8, .p 1 0), (9, .p 2 0), (11, .v (.bool (Fld.nul (Fld.mk k1 y2 y3 y4 y5 y6 y7 l8) v (Tree.mk ac ab ae af ag)))), (46, .v (.bool (!(ap == (Fld.nul (Fld.mk k1 y2 y3 y4 y5 y6 y7 l8) v (Tree.mk ac ab ae af ag))))))] aa e9 fun nx bo => ?_
    clear e9
    refine wpOps_nil (then_normal ?_)
    refine cond_of bo (b := !(ap == (Fld.nul (Fld.mk k1 y2 y3 y4 y5 y6 y7 l8) v (Tree.mk ac ab ae af ag)))) kz (fun cQ => ?_) (fun cQ => ?_)
    ·
     have j9 : !(ap = (Fld.nul (Fld.mk k1 y2 y3 y4 y5 y6 y7 l8) v (Tree.mk ac ab ae af ag))) := by simpa using cQ
     refine go_sp [(10, .v (.bool false))] aa bo fun ny iw => ?_
     clear bo
     refine wp_ret ?_
     refine then_ret ?_
     refine leave iw aa.cells (v := .bool false) kz ?_
     first
      | exact (to_n8 hq (by assumption) (by assumption)).elim
      | exact (to_n10 hq (by assumption) (by assumption)).elim
      | exact (to_nm hq (by assumption) (by assumption) (by assumption)).elim
    ·
     have ka : !(ap ≠ (Fld.nul (Fld.mk k1 y2 y3 y4 y5 y6 y7 l8) v (Tree.mk ac ab ae af ag))) := by simpa using cQ
     refine wp_skip ?_
     refine then_normal ?_
     refine wp_seq ?_
     refine go_sp [(1, .v (.int .i64 v)), (2, .v (.bool flex)), (5, .p 0 0), (8, .p 1 0), (9, .p 2 0), (47, .v (.bool (Fld.nul (Fld.mk k1 y2 y3 y4 y5 y6 y7 l8) v (Tree.mk ac ab ae af ag))))] aa bo fun nz bp => ?_
     clear bo
     refine cond_of bp (b := Fld.nul (Fld.mk k1 y2 y3 y4 y5 y6 y7 l8) v (Tree.mk ac ab ae af ag)) kz (fun ix => ?_) (fun ix => ?_)
     ·
      refine go_sp [(10, .v (.bool true))] aa bp fun nA iy => ?_
      clear bp
      refine wp_ret ?_
      refine then_ret ?_
      refine leave iy aa.cells (v := .bool true) kz ?_
      exact ⟨rfl, aa.step⟩
     ·
      refine wp_skip ?_
      refine then_normal ?_
      refine wp_seq ?_
      refine go_sp [(1, .v (.int .i64 v)), (2, .v (.bool flex)), (5, .p 0 0), (8, .p 1 0), (9, .p 2 0), (49, .v (.int .i64 k1))] aa bp fun nB fa => ?_
      clear bp
      refine wp_block ?_
      refine wp_seq ?_
      refine go_sp [(1, .v (.int .i64 v)), (2, .v (.bool flex)), (5, .p 0 0), (8, .p 1 0), (9, .p 2 0), (49, .v (.int .i64 k1)), (50, .v (.bool (k1 == 8)))] aa fa fun nC cR => ?_
      clear fa
      refine cond_false cR (b := k1 == 8) kz (ao) ?_
      refine go_region [0, 1] kz ?_
      refine go_rn [0, 1] [] [(1, .v (.int .i64 v)), (2, .v (.bool flex)), (5, .p 0 0), (8, .p 1 0), (9, .p 2 0), (49, .v (.int .i64 k1)), (50, .v (.bool (k1 == 9)))] aa cR fun nD bq => ?_
      clear cR
      refine wpOps_nil (then_normal ?_)
      refine cond_of bq (b := k1 == 9) kz (fun cS => ?_) (fun cS => ?_)
      ·
       have kd : k1 = 9 := by simpa using cS
       refine go_seq_drawK 6 kz aa fun nE ke bS iz => ?_
       clear aa
       refine go_rnD [0, 1, 2, 3] [(54, .v (.slice al ah.length am)), (56, .v (.slice ai ab.length aj))] 3 (panicFree_then (panicFree_block (panicFree_then panicFree_body))) (fun _ h => h.cells) iz bq fun nF fb => ?_
       clear bq
       have iZ := whole_le ab
       refine anyC_op (i := 4) kz (wpOp_call fb (f := 64) (vs := [.slice ai ab.length aj]) (d := 57) kz Tryz.call64 (sWhole _ _ ab (aM.move bS.step nilM bS.imm).le _) ?_)
       rintro e_ nG ⟨rfl, fe⟩
       refine ⟨_, rfl, fun nH ff => ?_⟩
       have aE := bS.next_nil fe
       have fg := bS.frN fe
       clear fb
       have iA := TT.ofW fg aE
       refine ⟨fun _ => iA, ?_⟩
       refine anyC_op (i := 5) kz (wpOp_call ff (f := 63) (vs := [.slice al ah.length am, .slice ai ((whole ab).length) aj]) (d := 58) kz Tryz.call63 (sSame _ _ _ _ ah (whole ab) _ _ ((bX.move aE.step nilM aE.imm).move (Step.refl _ Nil) nilM allF) (((aM.take 32767).move aE.step nilM aE.imm).move (Step.refl _ Nil) nilM allF)) ?_)
       rintro e_ nI ⟨rfl, fh⟩
       refine ⟨_, rfl, fun nJ fi => ?_⟩
       have bT := aE.next_nil fh
       have iB := aE.frN fh
       clear ff aE
       have iC := TT.ofW (fg.trans iB) bT
       refine ⟨fun _ => iC, ?_⟩
       refine anyC_op (i := 6) kz (wpOp_pure [10] bT.cells fi (env' := [(10, .v (.bool (decide (ah = (whole ab)))))]) kz fun nK iD => ?_)
       clear fi
       refine ⟨fun h => absurd rfl h, ?_⟩
       refine anyC_done kz ?_ _
       refine then_normal ?_
       refine wp_ret ?_
       refine block_ret ?_
       refine then_ret ?_
       refine leave iD bT.cells (v := .bool (decide (ah = (whole ab)))) kz ?_
       refine ⟨congrArg (fun b_ => Ending.returned (Value.bool b_)) ?_, bT.step⟩
       first
        | exact to_t8 hq (by assumption) (by assumption)
        | exact to_t9 hq (by assumption) (by assumption)
        | exact to_u hq (by assumption) (by assumption)
        | exact to_m hq (by assumption) (by assumption) (by assumption) (by assumption) (by assumption) (by assumption)
      ·
       have kf : k1 ≠ 9 := by simpa using cS
       refine go_sp [(1, .v (.int .i64 v)), (2, .v (.bool flex)), (5, .p 0 0), (8, .p 1 0), (9, .p 2 0), (49, .v (.int .i64 k1)), (59, .v (.bool (k1 == 7)))] aa bq fun nL bt => ?_
       clear bq
       refine cond_of bt (b := k1 == 7) kz (fun cT => ?_) (fun cT => ?_)
       ·
        have kg : k1 = 7 := by simpa using cT
        refine go_seq_region [0, 1] kz ?_
        refine of_op (wpOp_make1 aa bt (d := 61) (j := 16) (t := 22) (e := 5) (bytes := 1) (z := .int .u8 0) kz kz kz kz (rfl) (rfl) (by omega) fun aw nM nN kh ki kj aQ fj => ?_)
        clear bt aa
        refine go_rn [1] [] [(8, .p 1 0), (9, .p 2 0), (13, .v (.slice (some ⟨aw, 0, none⟩) 16 16))] aQ fj fun nO fk => ?_
        clear fj
        refine wpOps_nil (then_normal ?_)
        refine go_seq_region [0, 1, 2, 3] kz ?_
        refine go_rn [0, 1, 2] [3] [(9, .p 2 0), (13, .v (.slice (some ⟨aw, 0, none⟩) 16 16)), (62, .v (.slice (some ⟨aw, 0, none⟩) 16 16)), (64, .v (.slice ai ab.length aj))] aQ fk fun nP fm => ?_
        clear fk
        refine of_op (wpOp_copyR aQ fm (k := 0) (d := 65) (t := 22) (u := 22) (e := 5) (bytes := 1) (A := (some ⟨aw, 0, none⟩)) (As := ai) (m := ab.length) (cs := aj) (m0 := 16) (c := 16) (xs := (List.replicate 16 (.int .u8 0))) (news := bc ab) kz kz rfl (aM.move aQ.step nilM aQ.imm).src fun nQ nR km fo fq => ?_)
        clear fm aQ
        have iE : (⟨(some ⟨aw, 0, none⟩), 16, 5, 1, 16, splice (List.replicate 16 (.int .u8 0)) 0 ((bc ab).take (min ab.length 16))⟩ : Rw) = brow (some ⟨aw, 0, none⟩) 16 5 (uuidB ab) := uuid_row _ _ _
        obtain ⟨aK, ko⟩ := fo.rowEq 0 [brow (some ⟨aw, 0, none⟩) 16 5 (uuidB ab)] iE
        clear fo
        have fr := EnvOk.pick fq (ks := [9, 13, 62, 64, 65]) (env' := [(9, .p 2 0), (13, .v (.slice (some ⟨aw, 0, none⟩) 16 16)), (62, .v (.slice (some ⟨aw, 0, none⟩) 16 16)), (64, .v (.slice ai ab.length aj)), (65, .v (.int .i64 ((min ab.length 16 : Nat) : Int)))]) kz
        have ft := fr.cast (env' := [(9, .p 2 0), (13, .v (.slice (some ⟨aw, 0, none⟩) ((uuidB ab).length) 16)), (62, .v (.slice (some ⟨aw, 0, none⟩) ((uuidB ab).length) 16)), (64, .v (.slice ai ab.length aj)), (65, .v (.int .i64 ((min ab.length 16 : Nat) : Int)))]) (by rw [uuidB_length _])
        clear fq fr
        refine wpOps_nil (then_normal ?_)
        refine go_seq_region [0, 1, 2, 3, 4] kz ?_
        refine go_rn [0, 1, 2] [3, 4] [(67, .v (.slice al ah.length am)), (68, .v (.slice (some ⟨aw, 0, none⟩) ((uuidB ab).length) 16))] aK ft fun nS fu => ?_
        clear ft
        refine of_op (wpOp_call fu (f := 63) (vs := [.slice al ah.length am, .slice (some ⟨aw, 0, none⟩) ((uuidB ab).length) 16]) (d := 69) kz Tryz.call63 (sSame _ _ _ _ ah (uuidB ab) _ _ ((bX.move aK.step nilM aK.imm).move (Step.refl _ Nil) nilM allF) (octs_own (aK.own 0 _ rfl) (by first | omega | (rw [uuidB_length]; decide) | (simp only [be_length]; exact Nat.le_trans (widthI_le _) (by decide)) | (have := hroom; omega) | (have := hmade; omega) | (simp only [List.length_append, List.length_nil]; omega)) (F := fun _ _ => True) (fun _ _ _ => trivial))) ?_)
        rintro e_ nT ⟨rfl, fv⟩
        refine ⟨_, rfl, fun nU fw => ?_⟩
        have cU := aK.next_nil fv
        have kp := aK.frN fv
        clear fu aK
        refine go_rn [4] [] [(10, .v (.bool (decide (ah = uuidB ab))))] cU fw fun nV iF => ?_
        clear fw
        refine wpOps_nil (then_normal ?_)
        refine wp_ret ?_
        refine block_ret ?_
        refine then_ret ?_
        refine leave iF cU.cells (v := .bool (decide (ah = uuidB ab))) kz ?_
        refine ⟨congrArg (fun b_ => Ending.returned (Value.bool b_)) ?_, cU.step⟩
        first
         | exact to_t8 hq (by assumption) (by assumption)
         | exact to_t9 hq (by assumption) (by assumption)
         | exact to_u hq (by assumption) (by assumption)
         | exact to_m hq (by assumption) (by assumption) (by assumption) (by assumption) (by assumption) (by assumption)
       ·
        have kq : k1 ≠ 7 := by simpa using cT
        refine go_sp [(1, .v (.int .i64 v)), (2, .v (.bool flex)), (5, .p 0 0), (8, .p 1 0), (9, .p 2 0), (49, .v (.int .i64 k1)), (70, .v (.bool (k1 == 10)))] aa bt fun nW cV => ?_
        clear bt
        refine cond_true cV (b := k1 == 10) kz (aJ) ?_
        refine go_seq_region [0, 1, 2, 3, 4, 5, 6, 7] kz ?_
        refine go_rn [0, 1, 2, 3, 4, 5] [6, 7] [(73, .v (.slice A9 l8.length fY)), (74, .v (.int .i64 v)), (75, .v (.bool flex)), (76, .v (.agg #[.int .i64 ac, .slice ai ab.length aj, .bool ae, .slice fZ af.length f5, .slice f7 ag.length f8])), (77, .v (.agg #[.int .i64 aS, .slice al ah.length am, .bool ap, .slice gc f9.length gd, .slice ge ga.length gg]))] aa cV fun nX fx => ?_
        clear cV
        refine of_op (wpOp_call fx (f := 19) (vs := [.slice A9 l8.length fY, .int .i64 v, .bool flex, .agg #[.int .i64 ac, .slice ai ab.length aj, .bool ae, .slice fZ af.length f5, .slice f7 ag.length f8], .agg #[.int .i64 aS, .slice al ah.length am, .bool ap, .slice gc f9.length gd, .slice ge ga.length gg]]) (d := 78) kz Tryz.call19 ( hT _ _ l8 _ (Tree.mk ac ab ae af ag) _ (Tree.mk aS ah ap f9 ga) _ _ ⟨gb, (iT.move aa.step nilM aa.imm), (fun i_ x_ h_ => ((i7 i_ x_ h_).move aa.step nilM aa.imm))⟩ (ht.move aa.step nilM aa.imm) (hg.move aa.step nilM aa.imm) hpl (to_part hq (by assumption) (by assumption))) ?_)
        rintro e_ nY ⟨rfl, fy⟩
        refine ⟨_, rfl, fun nZ fz => ?_⟩
        have cW := aa.next_nil fy
        have ku := aa.frN fy
        clear fx aa
        refine go_rn [7] [] [(10, .v (.bool true))] cW fz fun n4 iG => ?_
        clear fz
        refine wpOps_nil (then_normal ?_)
        refine wp_ret ?_
        refine block_ret ?_
        refine then_ret ?_
        refine leave iG cW.cells (v := .bool true) kz ?_
        exact ⟨rfl, cW.step⟩
   ·
    have kv : k1 ≠ 10 := by simpa using aJ
    have fA := bR.cast (env' := [(1, .v (.int .i64 v)), (2, .v (.bool flex)), (5, .p 0 0), (8, .p 1 0), (9, .p 2 0), (11, .v (.bool (Fld.nul (Fld.mk k1 y2 y3 y4 y5 y6 y7 l8) v (Tree.mk ac ab ae af ag)))), (12, .v (.bool false)), (38, .v (.bool false))]) (by rw [aJ])
    clear bR
    refine go_rn [9, 10, 11, 12, 13, 14, 15, 16] [] [(1, .v (.int .i64 v)), (2, .v (.bool flex)), (5, .p 0 0), (8, .p 1 0), (9, .p 2 0), (11, .v (.bool (Fld.nul (Fld.mk k1 y2 y3 y4 y5 y6 y7 l8) v (Tree.mk ac ab ae af ag)))), (46, .v (.bool false))] aa fA fun n5 cX => ?_
    clear fA
    refine wpOps_nil (then_normal ?_)
    refine cond_false cX (b := false) kz rfl ?_
    refine wp_skip ?_
    refine then_normal ?_
    refine wp_seq ?_
    refine go_sp [(1, .v (.int .i64 v)), (2, .v (.bool flex)), (5, .p 0 0), (8, .p 1 0), (9, .p 2 0), (47, .v (.bool (Fld.nul (Fld.mk k1 y2 y3 y4 y5 y6 y7 l8) v (Tree.mk ac ab ae af ag))))] aa cX fun n8 bu => ?_
    clear cX
    refine cond_of bu (b := Fld.nul (Fld.mk k1 y2 y3 y4 y5 y6 y7 l8) v (Tree.mk ac ab ae af ag)) kz (fun iH => ?_) (fun iH => ?_)
    ·
     refine go_sp [(10, .v (.bool true))] aa bu fun oa iI => ?_
     clear bu
     refine wp_ret ?_
     refine then_ret ?_
     refine leave iI aa.cells (v := .bool true) kz ?_
     exact ⟨rfl, aa.step⟩
    ·
     refine wp_skip ?_
     refine then_normal ?_
     refine wp_seq ?_
     refine go_sp [(1, .v (.int .i64 v)), (2, .v (.bool flex)), (5, .p 0 0), (8, .p 1 0), (9, .p 2 0), (49, .v (.int .i64 k1))] aa bu fun od fB => ?_
     clear bu
     refine wp_block ?_
     refine wp_seq ?_
     refine go_sp [(1, .v (.int .i64 v)), (2, .v (.bool flex)), (5, .p 0 0), (8, .p 1 0), (9, .p 2 0), (49, .v (.int .i64 k1)), (50, .v (.bool (k1 == 8)))] aa fB fun oe cY => ?_
     clear fB
     refine cond_false cY (b := k1 == 8) kz (ao) ?_
     refine go_region [0, 1] kz ?_
     refine go_rn [0, 1] [] [(1, .v (.int .i64 v)), (2, .v (.bool flex)), (5, .p 0 0), (8, .p 1 0), (9, .p 2 0), (49, .v (.int .i64 k1)), (50, .v (.bool (k1 == 9)))] aa cY fun og bw => ?_
     clear cY
     refine wpOps_nil (then_normal ?_)
     refine cond_of bw (b := k1 == 9) kz (fun cZ => ?_) (fun cZ => ?_)
     ·
      have kw : k1 = 9 := by simpa using cZ
      refine go_seq_drawK 6 kz aa fun oh kx bU iJ => ?_
      clear aa
      refine go_rnD [0, 1, 2, 3] [(54, .v (.slice al ah.length am)), (56, .v (.slice ai ab.length aj))] 3 (panicFree_then (panicFree_block (panicFree_then panicFree_body))) (fun _ h => h.cells) iJ bw fun ol fC => ?_
      clear bw
      have i6 := whole_le ab
      refine anyC_op (i := 4) kz (wpOp_call fC (f := 64) (vs := [.slice ai ab.length aj]) (d := 57) kz Tryz.call64 (sWhole _ _ ab (aM.move bU.step nilM bU.imm).le _) ?_)
      rintro e_ om ⟨rfl, fD⟩
      refine ⟨_, rfl, fun oq fE => ?_⟩
      have aF := bU.next_nil fD
      have fF := bU.frN fD
      clear fC
      have iK := TT.ofW fF aF
      refine ⟨fun _ => iK, ?_⟩
      refine anyC_op (i := 5) kz (wpOp_call fE (f := 63) (vs := [.slice al ah.length am, .slice ai ((whole ab).length) aj]) (d := 58) kz Tryz.call63 (sSame _ _ _ _ ah (whole ab) _ _ ((bX.move aF.step nilM aF.imm).move (Step.refl _ Nil) nilM allF) (((aM.take 32767).move aF.step nilM aF.imm).move (Step.refl _ Nil) nilM allF)) ?_)
      rintro e_ ot ⟨rfl, fG⟩
      refine ⟨_, rfl, fun ou fH => ?_⟩
      have bV := aF.next_nil fG
      have iL := aF.frN fG
      clear fE aF
      have iM := TT.ofW (fF.trans iL) bV
      refine ⟨fun _ => iM, ?_⟩
      refine anyC_op (i := 6) kz (wpOp_pure [10] bV.cells fH (env' := [(10, .v (.bool (decide (ah = (whole ab)))))]) kz fun ov iN => ?_)
      clear fH
      refine ⟨fun h => absurd rfl h, ?_⟩
      refine anyC_done kz ?_ _
      refine then_normal ?_
      refine wp_ret ?_
      refine block_ret ?_
      refine then_ret ?_
      refine leave iN bV.cells (v := .bool (decide (ah = (whole ab)))) kz ?_
      refine ⟨congrArg (fun b_ => Ending.returned (Value.bool b_)) ?_, bV.step⟩
      first
       | exact to_t8 hq (by assumption) (by assumption)
       | exact to_t9 hq (by assumption) (by assumption)
       | exact to_u hq (by assumption) (by assumption)
       | exact to_m hq (by assumption) (by assumption) (by assumption) (by assumption) (by assumption) (by assumption)
     ·
      have ky : k1 ≠ 9 := by simpa using cZ
      refine go_sp [(1, .v (.int .i64 v)), (2, .v (.bool flex)), (5, .p 0 0), (8, .p 1 0), (9, .p 2 0), (49, .v (.int .i64 k1)), (59, .v (.bool (k1 == 7)))] aa bw fun ow bx => ?_
      clear bw
      refine cond_of bx (b := k1 == 7) kz (fun c5 => ?_) (fun c5 => ?_)
      ·
       have kA : k1 = 7 := by simpa using c5
       refine go_seq_region [0, 1] kz ?_
       refine of_op (wpOp_make1 aa bx (d := 61) (j := 16) (t := 22) (e := 5) (bytes := 1) (z := .int .u8 0) kz kz kz kz (rfl) (rfl) (by omega) fun ax ox oy kB kC kD aR fI => ?_)
       clear bx aa
       refine go_rn [1] [] [(8, .p 1 0), (9, .p 2 0), (13, .v (.slice (some ⟨ax, 0, none⟩) 16 16))] aR fI fun oz fJ => ?_
       clear fI
       refine wpOps_nil (then_normal ?_)
       refine go_seq_region [0, 1, 2, 3] kz ?_
       refine go_rn [0, 1, 2] [3] [(9, .p 2 0), (13, .v (.slice (some ⟨ax, 0, none⟩) 16 16)), (62, .v (.slice (some ⟨ax, 0, none⟩) 16 16)), (64, .v (.slice ai ab.length aj))] aR fJ fun oA fK => ?_
       clear fJ
       refine of_op (wpOp_copyR aR fK (k := 0) (d := 65) (t := 22) (u := 22) (e := 5) (bytes := 1) (A := (some ⟨ax, 0, none⟩)) (As := ai) (m := ab.length) (cs := aj) (m0 := 16) (c := 16) (xs := (List.replicate 16 (.int .u8 0))) (news := bc ab) kz kz rfl (aM.move aR.step nilM aR.imm).src fun oB oC kE fL fM => ?_)
       clear fK aR
       have iO : (⟨(some ⟨ax, 0, none⟩), 16, 5, 1, 16, splice (List.replicate 16 (.int .u8 0)) 0 ((bc ab).take (min ab.length 16))⟩ : Rw) = brow (some ⟨ax, 0, none⟩) 16 5 (uuidB ab) := uuid_row _ _ _
       obtain ⟨aL, kF⟩ := fL.rowEq 0 [brow (some ⟨ax, 0, none⟩) 16 5 (uuidB ab)] iO
       clear fL
       have fN := EnvOk.pick fM (ks := [9, 13, 62, 64, 65]) (env' := [(9, .p 2 0), (13, .v (.slice (some ⟨ax, 0, none⟩) 16 16)), (62, .v (.slice (some ⟨ax, 0, none⟩) 16 16)), (64, .v (.slice ai ab.length aj)), (65, .v (.int .i64 ((min ab.length 16 : Nat) : Int)))]) kz
       have fO := fN.cast (env' := [(9, .p 2 0), (13, .v (.slice (some ⟨ax, 0, none⟩) ((uuidB ab).length) 16)), (62, .v (.slice (some ⟨ax, 0, none⟩) ((uuidB ab).length) 16)), (64, .v (.slice ai ab.length aj)), (65, .v (.int .i64 ((min ab.length 16 : Nat) : Int)))]) (by rw [uuidB_length _])
       clear fM fN
       refine wpOps_nil (then_normal ?_)
       refine go_seq_region [0, 1, 2, 3, 4] kz ?_
       refine go_rn [0, 1, 2] [3, 4] [(67, .v (.slice al ah.length am)), (68, .v (.slice (some ⟨ax, 0, none⟩) ((uuidB ab).length) 16))] aL fO fun oD fP => ?_
       clear fO
       refine of_op (wpOp_call fP (f := 63) (vs := [.slice al ah.length am, .slice (some ⟨ax, 0, none⟩) ((uuidB ab).length) 16]) (d := 69) kz Tryz.call63 (sSame _ _ _ _ ah (uuidB ab) _ _ ((bX.move aL.step nilM aL.imm).move (Step.refl _ Nil) nilM allF) (octs_own (aL.own 0 _ rfl) (by first | omega | (rw [uuidB_length]; decide) | (simp only [be_length]; exact Nat.le_trans (widthI_le _) (by decide)) | (have := hroom; omega) | (have := hmade; omega) | (simp only [List.length_append, List.length_nil]; omega)) (F := fun _ _ => True) (fun _ _ _ => trivial))) ?_)
       rintro e_ oE ⟨rfl, fQ⟩
       refine ⟨_, rfl, fun oF fR => ?_⟩
       have c6 := aL.next_nil fQ
       have kG := aL.frN fQ
       clear fP aL
       refine go_rn [4] [] [(10, .v (.bool (decide (ah = uuidB ab))))] c6 fR fun oG iP => ?_
       clear fR
       refine wpOps_nil (then_normal ?_)
       refine wp_ret ?_
       refine block_ret ?_
       refine then_ret ?_
       refine leave iP c6.cells (v := .bool (decide (ah = uuidB ab))) kz ?_
       refine ⟨congrArg (fun b_ => Ending.returned (Value.bool b_)) ?_, c6.step⟩
       first
        | exact to_t8 hq (by assumption) (by assumption)
        | exact to_t9 hq (by assumption) (by assumption)
        | exact to_u hq (by assumption) (by assumption)
        | exact to_m hq (by assumption) (by assumption) (by assumption) (by assumption) (by assumption) (by assumption)
      ·
       have kH : k1 ≠ 7 := by simpa using c5
       refine go_sp [(1, .v (.int .i64 v)), (2, .v (.bool flex)), (5, .p 0 0), (8, .p 1 0), (9, .p 2 0), (49, .v (.int .i64 k1)), (70, .v (.bool (k1 == 10)))] aa bx fun oH da => ?_
       clear bx
       refine cond_false da (b := k1 == 10) kz (aJ) ?_
       refine go_sp [(1, .v (.int .i64 v)), (2, .v (.bool flex)), (5, .p 0 0), (8, .p 1 0), (9, .p 2 0), (79, .v (.bool (k1 == 11)))] aa da fun oI db => ?_
       clear da
       refine cond_false db (b := k1 == 11) kz (by simpa using bY) ?_
       refine wp_skip ?_
       refine block_normal ?_
       refine then_normal ?_
       refine go_seq_drawK 8 kz aa fun oJ kI fS iQ => ?_
       clear aa
       refine go_rnD [0, 1, 2, 3, 4, 5] [(117, .v (.int .i64 aS)), (119, .v (.int .i64 k1)), (121, .v (.int .i64 ac))] 3 (panicFree_then panicFree_body) (fun _ h => h.cells) iQ db fun oK fT => ?_
       clear db
       refine anyC_op (i := 6) kz (wpOp_call fT (f := 132) (vs := [.int .i64 k1, .int .i64 ac]) (d := 122) kz Tryz.call132 (sNumber k1 ac _) ?_)
       rintro e_ oL ⟨rfl, fU⟩
       refine ⟨_, rfl, fun oM fV => ?_⟩
       have bW := fS.next_nil fU
       have iR := fS.frN fU
       clear fT
       have fW := TT.ofW iR bW
       refine ⟨fun _ => fW, ?_⟩
       refine go_rnD [7] [(123, .v (.bool (aS == (numberI k1 ac))))] 1 (panicFree_then panicFree_body) (fun _ h => h.cells) fW fV fun oN fX => ?_
       clear fV
       refine anyC_op (i := 8) kz (wpOp_pure [10] bW.cells fX (env' := [(10, .v (.bool (aS == (numberI k1 ac))))]) kz fun oO iS => ?_)
       clear fX
       refine ⟨fun h => absurd rfl h, ?_⟩
       refine anyC_done kz ?_ _
       refine then_normal ?_
       refine wp_ret ?_
       refine leave iS bW.cells (v := .bool (aS == (numberI k1 ac))) kz ?_
       refine ⟨congrArg (fun b_ => Ending.returned (Value.bool b_)) ?_, bW.step⟩
       first
        | exact to_t8 hq (by assumption) (by assumption)
        | exact to_t9 hq (by assumption) (by assumption)
        | exact to_u hq (by assumption) (by assumption)
        | exact to_m hq (by assumption) (by assumption) (by assumption) (by assumption) (by assumption) (by assumption)
theorem sTold11 {v : Int} {flex : Bool} {T : List Fld → Tree → Tree → Prop} (hT : ToOK v flex T) (cf : List Value) (f : Fld) (ct : List Value) (t : Tree) (cg : List Value) (g : Tree) (w : World) (F : Nat → Nat → Prop) (hf : FldR w F cf f) (hpl : f.plain) (ac : f.kind = 11) (ht : TreeR w F ct t) (hg : TreeR w F cg g) (hQ : ToF T v f t g) :
  Calls Tryz.prog 60 #[.agg cf.toArray, .int .i64 v, .bool flex, .agg ct.toArray, .agg cg.toArray] w (Gives w (.bool true)) := by
 obtain ⟨k1, y2, y3, y4, y5, y6, y7, l8, A9, ap, fr, rfl, rfl, g8, ig⟩ := hf.open_
 have jh := g8.small
 obtain ⟨aj, ak, al, aa, am, gb, gc, ae, af, gd, ge, ko, rfl, rfl, kp, ft, ii, ny⟩ := ht.open_
 have ji := kp.small
 have jj := ft.small
 obtain ⟨g9, hC, de, ao, hJ, hK, hZ, cw, fu, ia, ib, kq, rfl, rfl, ku, ic, ij, nz⟩ := hg.open_
 have jk := ku.small
 have jl := ic.small
 have ac : k1 = 11 := ac
 have hof : y7 ≠ 11 := hpl.1
 replace hpl : plains l8 := hpl.2
 have hq := hQ.1
 refine enter (n := 124) Tryz.func60 rfl Tryz.ntmps60 kz fun a hE => ?_
 have hW := WOk.start w Nil
 refine go_seq_region [0, 1, 2, 3] kz ?_
 refine of_op (wpOp_box hW hE (d := 5) (cs := [.int .i64 k1, .int .i64 y2, .int .i64 y3, .int .i64 y4, .int .i64 y5, .int .i64 y6, .int .i64 y7, .slice A9 l8.length ap]) kz fun ik nA nB kv kw kx gg gh => ?_)
 clear hE hW
 refine of_op (wpOp_box gg gh (d := 8) (cs := [.int .i64 aj, .slice gb ak.length gc, .bool al, .slice ae aa.length af, .slice gd am.length ge]) kz fun il nC nD ky kA kB gi gj => ?_)
 clear gh gg
 refine of_op (wpOp_box gi gj (d := 9) (cs := [.int .i64 g9, .slice hK hC.length hZ, .bool de, .slice cw ao.length fu, .slice ia hJ.length ib]) kz fun im nE nF kC kD kE aO gk => ?_)
 clear gj gi
 refine go_rn [3] [] [(1, .v (.int .i64 v)), (2, .v (.bool flex)), (5, .p 0 0), (8, .p 1 0), (9, .p 2 0)] aO gk fun nG gl => ?_
 clear gk
 refine wpOps_nil (then_normal ?_)
 refine go_seq_region [0, 1, 2, 3, 4] kz ?_
 refine go_rn [0, 1, 2] [3, 4] [(1, .v (.int .i64 v)), (2, .v (.bool flex)), (5, .p 0 0), (8, .p 1 0), (9, .p 2 0), (17, .v (.agg #[.int .i64 k1, .int .i64 y2, .int .i64 y3, .int .i64 y4, .int .i64 y5, .int .i64 y6, .int .i64 y7, .slice A9 l8.length ap])), (18, .v (.int .i64 v)), (19, .v (.agg #[.int .i64 aj, .slice gb ak.length gc, .bool al, .slice ae aa.length af, .slice gd am.length ge]))] aO gl fun nH gm => ?_
 clear gl
 refine of_op (wpOp_call gm (f := 130) (vs := [.agg #[.int .i64 k1, .int .i64 y2, .int .i64 y3, .int .i64 y4, .int .i64 y5, .int .i64 y6, .int .i64 y7, .slice A9 l8.length ap], .int .i64 v, .agg #[.int .i64 aj, .slice gb ak.length gc, .bool al, .slice ae aa.length af, .slice gd am.length ge]]) (d := 20) kz Tryz.call130 (sNull k1 y2 y3 y4 y5 y6 y7 l8 _ _ v aj ak al aa am _ _ _ _ _ _ _) ?_)
 rintro e_ nI ⟨rfl, gn⟩
 refine ⟨_, rfl, fun nJ gp => ?_⟩
 have ab := aO.next_nil gn
 have kF := aO.frN gn
 clear gm aO
 refine go_rn [4] [] [(1, .v (.int .i64 v)), (2, .v (.bool flex)), (5, .p 0 0), (8, .p 1 0), (9, .p 2 0), (11, .v (.bool (Fld.nul (Fld.mk k1 y2 y3 y4 y5 y6 y7 l8) v (Tree.mk aj ak al aa am))))] ab gp fun nK gq => ?_
 clear gp
 refine wpOps_nil (then_normal ?_)
 refine go_seq_region [0, 1, 2, 3, 4, 5, 6, 7, 8, 9] kz ?_
 refine go_rn [0, 1, 2, 3] [4, 5, 6, 7, 8, 9] [(1, .v (.int .i64 v)), (2, .v (.bool flex)), (5, .p 0 0), (8, .p 1 0), (9, .p 2 0), (11, .v (.bool (Fld.nul (Fld.mk k1 y2 y3 y4 y5 y6 y7 l8) v (Tree.mk aj ak al aa am)))), (24, .v (.bool (decide (y4 ≥ 0))))] ab gq fun nL cz => ?_
 clear gq
 refine (Bool.eq_false_or_eq_true (decide (y4 ≥ 0))).elim (fun aP => ?_) (fun aP => ?_)
 ·
  have kG := of_decide_eq_true aP
  have gt := cz.cast (env' := [(1, .v (.int .i64 v)), (2, .v (.bool flex)), (5, .p 0 0), (8, .p 1 0), (9, .p 2 0), (11, .v (.bool (Fld.nul (Fld.mk k1 y2 y3 y4 y5 y6 y7 l8) v (Tree.mk aj ak al aa am)))), (24, .v (.bool true))]) (by rw [aP])
  clear cz
  refine go_rn [4, 5, 6, 7, 8, 9] [] [(1, .v (.int .i64 v)), (2, .v (.bool flex)), (5, .p 0 0), (8, .p 1 0), (9, .p 2 0), (11, .v (.bool (Fld.nul (Fld.mk k1 y2 y3 y4 y5 y6 y7 l8) v (Tree.mk aj ak al aa am)))), (12, .v (.bool (decide (v ≥ y4))))] ab gt fun nM gv => ?_
  clear gt
  refine wpOps_nil (then_normal ?_)
  refine wp_seq ?_
  refine go_seq_region [0, 1, 2, 3, 4, 5, 6, 7, 8, 9, 10, 11, 12, 13, 14, 15, 16] kz ?_
  refine go_rn [0, 1, 2, 3] [4, 5, 6, 7, 8, 9, 10, 11, 12, 13, 14, 15, 16] [(1, .v (.int .i64 v)), (2, .v (.bool flex)), (5, .p 0 0), (8, .p 1 0), (9, .p 2 0), (11, .v (.bool (Fld.nul (Fld.mk k1 y2 y3 y4 y5 y6 y7 l8) v (Tree.mk aj ak al aa am)))), (12, .v (.bool (decide (v ≥ y4)))), (33, .v (.bool (k1 == 8)))] ab gv fun nN df => ?_
  clear gv
  have gw : (k1 == 8) = false := by simp [ac]
  have dg := df.cast (env' := [(1, .v (.int .i64 v)), (2, .v (.bool flex)), (5, .p 0 0), (8, .p 1 0), (9, .p 2 0), (11, .v (.bool (Fld.nul (Fld.mk k1 y2 y3 y4 y5 y6 y7 l8) v (Tree.mk aj ak al aa am)))), (12, .v (.bool (decide (v ≥ y4)))), (33, .v (.bool false))]) (by rw [gw])
  clear df
  refine go_rn [4, 5, 6, 7, 8] [9, 10, 11, 12, 13, 14, 15, 16] [(1, .v (.int .i64 v)), (2, .v (.bool flex)), (5, .p 0 0), (8, .p 1 0), (9, .p 2 0), (11, .v (.bool (Fld.nul (Fld.mk k1 y2 y3 y4 y5 y6 y7 l8) v (Tree.mk aj ak al aa am)))), (12, .v (.bool (decide (v ≥ y4)))), (38, .v (.bool (k1 == 10)))] ab dg fun kH dh => ?_
  clear dg
  have gx : (k1 == 10) = false := by simp [ac]
  have di := dh.cast (env' := [(1, .v (.int .i64 v)), (2, .v (.bool flex)), (5, .p 0 0), (8, .p 1 0), (9, .p 2 0), (11, .v (.bool (Fld.nul (Fld.mk k1 y2 y3 y4 y5 y6 y7 l8) v (Tree.mk aj ak al aa am)))), (12, .v (.bool (decide (v ≥ y4)))), (38, .v (.bool false))]) (by rw [gx])
  clear dh
  refine go_rn [9, 10, 11] [12, 13, 14, 15, 16] [(1, .v (.int .i64 v)), (2, .v (.bool flex)), (5, .p 0 0), (8, .p 1 0), (9, .p 2 0), (11, .v (.bool (Fld.nul (Fld.mk k1 y2 y3 y4 y5 y6 y7 l8) v (Tree.mk aj ak al aa am)))), (41, .v (.bool (decide (v ≥ y4))))] ab di fun kI aN => ?_
  clear di
  refine (Bool.eq_false_or_eq_true (decide (v ≥ y4))).elim (fun az => ?_) (fun az => ?_)
  ·
   have jm := of_decide_eq_true az
   have dj := aN.cast (env' := [(1, .v (.int .i64 v)), (2, .v (.bool flex)), (5, .p 0 0), (8, .p 1 0), (9, .p 2 0), (11, .v (.bool (Fld.nul (Fld.mk k1 y2 y3 y4 y5 y6 y7 l8) v (Tree.mk aj ak al aa am)))), (41, .v (.bool true))]) (by rw [az])
   clear aN
   refine go_rn [12, 13, 14, 15, 16] [] [(1, .v (.int .i64 v)), (2, .v (.bool flex)), (5, .p 0 0), (8, .p 1 0), (9, .p 2 0), (11, .v (.bool (Fld.nul (Fld.mk k1 y2 y3 y4 y5 y6 y7 l8) v (Tree.mk aj ak al aa am)))), (46, .v (.bool (!(de == (Fld.nul (Fld.mk k1 y2 y3 y4 y5 y6 y7 l8) v (Tree.mk aj ak al aa am))))))] ab dj fun kJ aA => ?_
   clear dj
   refine wpOps_nil (then_normal ?_)
   refine cond_of aA (b := !(de == (Fld.nul (Fld.mk k1 y2 y3 y4 y5 y6 y7 l8) v (Tree.mk aj ak al aa am)))) kz (fun aQ => ?_) (fun aQ => ?_)
   ·
    have jn : !(de = (Fld.nul (Fld.mk k1 y2 y3 y4 y5 y6 y7 l8) v (Tree.mk aj ak al aa am))) := by simpa using aQ
    refine go_sp [(10, .v (.bool false))] ab aA fun kK gy => ?_
    clear aA
    refine wp_ret ?_
    refine then_ret ?_
    refine leave gy ab.cells (v := .bool false) kz ?_
    first
     | exact (to_nm hq (by assumption) (by assumption) (by assumption)).elim
     | exact (to_len (hQ.2 ac (by assumption)).1 (by assumption)).elim
     | (exfalso; simp_all; done)
   ·
    have jo : !(de ≠ (Fld.nul (Fld.mk k1 y2 y3 y4 y5 y6 y7 l8) v (Tree.mk aj ak al aa am))) := by simpa using aQ
    refine wp_skip ?_
    refine then_normal ?_
    refine wp_seq ?_
    refine go_sp [(1, .v (.int .i64 v)), (2, .v (.bool flex)), (5, .p 0 0), (8, .p 1 0), (9, .p 2 0), (47, .v (.bool (Fld.nul (Fld.mk k1 y2 y3 y4 y5 y6 y7 l8) v (Tree.mk aj ak al aa am))))] ab aA fun kL aB => ?_
    clear aA
    refine cond_of aB (b := Fld.nul (Fld.mk k1 y2 y3 y4 y5 y6 y7 l8) v (Tree.mk aj ak al aa am)) kz (fun gz => ?_) (fun gz => ?_)
    ·
     refine go_sp [(10, .v (.bool true))] ab aB fun kM gA => ?_
     clear aB
     refine wp_ret ?_
     refine then_ret ?_
     refine leave gA ab.cells (v := .bool true) kz ?_
     exact ⟨rfl, ab.step⟩
    ·
     refine wp_skip ?_
     refine then_normal ?_
     refine wp_seq ?_
     refine go_sp [(1, .v (.int .i64 v)), (2, .v (.bool flex)), (5, .p 0 0), (8, .p 1 0), (9, .p 2 0), (49, .v (.int .i64 k1))] ab aB fun kN dl => ?_
     clear aB
     refine wp_block ?_
     refine wp_seq ?_
     refine go_sp [(1, .v (.int .i64 v)), (2, .v (.bool flex)), (5, .p 0 0), (8, .p 1 0), (9, .p 2 0), (49, .v (.int .i64 k1)), (50, .v (.bool (k1 == 8)))] ab dl fun kO aR => ?_
     clear dl
     refine cond_false aR (b := k1 == 8) kz (by simp [ac]) ?_
     refine go_region [0, 1] kz ?_
     refine go_rn [0, 1] [] [(1, .v (.int .i64 v)), (2, .v (.bool flex)), (5, .p 0 0), (8, .p 1 0), (9, .p 2 0), (49, .v (.int .i64 k1)), (50, .v (.bool (k1 == 9)))] ab aR fun kP aS => ?_
     clear aR
     refine wpOps_nil (then_normal ?_)
     refine cond_false aS (b := k1 == 9) kz (by simp [ac]) ?_
     refine go_sp [(1, .v (.int .i64 v)), (2, .v (.bool flex)), (5, .p 0 0), (8, .p 1 0), (9, .p 2 0), (49, .v (.int .i64 k1)), (59, .v (.bool (k1 == 7)))] ab aS fun kQ aT => ?_
     clear aS
     refine cond_false aT (b := k1 == 7) kz (by simp [ac]) ?_
     refine go_sp [(1, .v (.int .i64 v)), (2, .v (.bool flex)), (5, .p 0 0), (8, .p 1 0), (9, .p 2 0), (49, .v (.int .i64 k1)), (70, .v (.bool (k1 == 10)))] ab aT fun kR aU => ?_
     clear aT
     refine cond_false aU (b := k1 == 10) kz (by simp [ac]) ?_
     refine go_sp [(1, .v (.int .i64 v)), (2, .v (.bool flex)), (5, .p 0 0), (8, .p 1 0), (9, .p 2 0), (79, .v (.bool (k1 == 11)))] ab aU fun kS aV => ?_
     clear aU
     refine cond_true aV (b := k1 == 11) kz (by simpa using ac) ?_
     refine go_seq_region [0, 1, 2, 3] kz ?_
     refine go_rn [0, 1] [2, 3] [(1, .v (.int .i64 v)), (2, .v (.bool flex)), (5, .p 0 0), (9, .p 2 0), (82, .v (.slice ae aa.length af))] ab aV fun kT dp => ?_
     clear aV
     refine of_op (wpOp_call dp (f := 131) (vs := [.slice ae aa.length af]) (d := 83) kz Tryz.call131 (sThings _ _ aa (ft.move ab.step nilM ab.imm).le _) ?_)
     rintro e_ kU ⟨rfl, dq⟩
     refine ⟨_, rfl, fun kV dr => ?_⟩
     have ar := ab.next_nil dq
     have jp := ab.frN dq
     clear dp ab
     refine go_rn [3] [] [(1, .v (.int .i64 v)), (2, .v (.bool flex)), (5, .p 0 0), (9, .p 2 0), (14, .v (.slice ae ((things aa).length) af))] ar dr fun kW dt => ?_
     clear dr
     refine wpOps_nil (then_normal ?_)
     refine wp_seq ?_
     refine go_sp [(1, .v (.int .i64 v)), (2, .v (.bool flex)), (5, .p 0 0), (9, .p 2 0), (14, .v (.slice ae ((things aa).length) af)), (89, .v (.bool (((ao.length : Nat) : Int) != (((things aa).length : Nat) : Int))))] ar dt fun kX aC => ?_
     clear dt
     refine cond_of aC (b := ((ao.length : Nat) : Int) != (((things aa).length : Nat) : Int)) kz (fun aW => ?_) (fun aW => ?_)
     ·
      have jq : ((ao.length : Nat) : Int) ≠ (((things aa).length : Nat) : Int) := by simpa using aW
      refine go_sp [(10, .v (.bool false))] ar aC fun kY gB => ?_
      clear aC
      refine wp_ret ?_
      refine then_ret ?_
      refine block_ret ?_
      refine then_ret ?_
      refine leave gB ar.cells (v := .bool false) kz ?_
      first
       | exact (to_nm hq (by assumption) (by assumption) (by assumption)).elim
       | exact (to_len (hQ.2 ac (by assumption)).1 (by assumption)).elim
       | (exfalso; simp_all; done)
     ·
      have jr : ((ao.length : Nat) : Int) = (((things aa).length : Nat) : Int) := by simpa using aW
      refine wp_skip ?_
      refine then_normal ?_
      refine go_seq_region [0, 1, 2] kz ?_
      refine go_rn [0] [1, 2] [(1, .v (.int .i64 v)), (2, .v (.bool flex)), (5, .p 0 0), (9, .p 2 0), (14, .v (.slice ae ((things aa).length) af)), (90, .v (.agg #[.int .i64 k1, .int .i64 y2, .int .i64 y3, .int .i64 y4, .int .i64 y5, .int .i64 y6, .int .i64 y7, .slice A9 l8.length ap]))] ar aC fun kZ du => ?_
      clear aC
      refine of_op (wpOp_alloc ar du (d := 15) (cs := [.int .i64 0, .int .i64 0, .int .i64 0, .int .i64 0, .int .i64 0, .int .i64 0, .int .i64 0, .slice none 0 0]) kz fun io k5 k6 js jt ju dv dw => ?_)
      clear du ar
      refine of_op (wpOp_store dv dw (oi := 3) (cs := [.int .i64 k1, .int .i64 y2, .int .i64 y3, .int .i64 y4, .int .i64 y5, .int .i64 y6, .int .i64 y7, .slice A9 l8.length ap]) kz fun k7 jv aX dx => ?_)
      clear dw dv
      refine wpOps_nil (then_normal ?_)
      refine go_seq_region [0, 1, 2, 3, 4, 5, 6, 7] kz ?_
      refine go_rn [0, 1, 2] [3, 4, 5, 6, 7] [(1, .v (.int .i64 v)), (2, .v (.bool flex)), (9, .p 2 0), (14, .v (.slice ae ((things aa).length) af)), (15, .p 3 0), (92, .v (.int .i64 y7)), (93, .p 3 0)] aX dx fun k8 dy => ?_
      clear dx
      refine of_op (wpOp_store aX dy (oi := 3) (cs := [.int .i64 y7, .int .i64 y2, .int .i64 y3, .int .i64 y4, .int .i64 y5, .int .i64 y6, .int .i64 y7, .slice A9 l8.length ap]) kz fun k9 jw aY dz => ?_)
      clear dy aX
      refine go_rn [4] [5, 6, 7] [(1, .v (.int .i64 v)), (2, .v (.bool flex)), (9, .p 2 0), (14, .v (.slice ae ((things aa).length) af)), (15, .p 3 0), (94, .p 3 3)] aY dz fun la dA => ?_
      clear dz
      refine of_op (wpOp_store aY dA (oi := 3) (cs := [.int .i64 y7, .int .i64 y2, .int .i64 y3, .int .i64 (-1), .int .i64 y5, .int .i64 y6, .int .i64 y7, .slice A9 l8.length ap]) kz fun lb jx aZ dB => ?_)
      clear dA aY
      refine go_rn [6] [7] [(1, .v (.int .i64 v)), (2, .v (.bool flex)), (9, .p 2 0), (14, .v (.slice ae ((things aa).length) af)), (15, .p 3 0), (95, .p 3 4)] aZ dB fun lc dC => ?_
      clear dB
      refine of_op (wpOp_store aZ dC (oi := 3) (cs := [.int .i64 y7, .int .i64 y2, .int .i64 y3, .int .i64 (-1), .int .i64 (-1), .int .i64 y6, .int .i64 y7, .slice A9 l8.length ap]) kz fun ld jy ba dD => ?_)
      clear dC aZ
      refine wpOps_nil (then_normal ?_)
      refine wp_seq ?_
      refine go_sp [(1, .v (.int .i64 v)), (2, .v (.bool flex)), (9, .p 2 0), (14, .v (.slice ae ((things aa).length) af)), (15, .p 3 0), (97, .v (.int .i64 (((things aa).length : Nat) : Int))), (98, .v (.int .i64 0))] ba dD fun lf dE => ?_
      clear dD
      refine wp_block ?_
      have hl_ := (hQ.2 ac (by assumption)).2
      refine wp_loop_ghost (fun n_ a_ w_ => ∃ (k : Nat), n_ = (things aa).length - k ∧ k ≤ (things aa).length ∧ LInv ba 124 [⟨ik, 0, [.int .i64 k1, .int .i64 y2, .int .i64 y3, .int .i64 y4, .int .i64 y5, .int .i64 y6, .int .i64 y7, .slice A9 l8.length ap], true⟩, ⟨il, 0, [.int .i64 aj, .slice gb ak.length gc, .bool al, .slice ae aa.length af, .slice gd am.length ge], true⟩, ⟨im, 0, [.int .i64 g9, .slice hK hC.length hZ, .bool de, .slice cw ao.length fu, .slice ia hJ.length ib], true⟩, ⟨io, 0, [.int .i64 y7, .int .i64 y2, .int .i64 y3, .int .i64 (-1), .int .i64 (-1), .int .i64 y6, .int .i64 y7, .slice A9 l8.length ap], true⟩] [] [(1, .v (.int .i64 v)), (2, .v (.bool flex)), (9, .p 2 0), (14, .v (.slice ae ((things aa).length) af)), (15, .p 3 0), (97, .v (.int .i64 (((things aa).length : Nat) : Int))), (98, .v (.int .i64 ((k : Nat) : Int)))] a_ w_) ((things aa).length) ⟨0, by omega, by omega, dE.pk, ba, Fr.refl _ _ _⟩ ?_
      clear dE
      rintro lg lh li ⟨k, jz, jA, dF, au, gC⟩
      refine go_sp [(1, .v (.int .i64 v)), (2, .v (.bool flex)), (9, .p 2 0), (14, .v (.slice ae ((things aa).length) af)), (15, .p 3 0), (97, .v (.int .i64 (((things aa).length : Nat) : Int))), (98, .v (.int .i64 ((k : Nat) : Int))), (99, .v (.bool (decide (((k : Nat) : Int) < (((things aa).length : Nat) : Int)))))] au dF fun lj aD => ?_
      clear dF
      refine wp_seq ?_
      refine cond_of aD (b := decide (((k : Nat) : Int) < (((things aa).length : Nat) : Int))) kz (fun bd => ?_) (fun bd => ?_)
      ·
       have jB := of_decide_eq_true bd
       refine wp_skip ?_
       refine then_normal ?_
       refine wp_seq ?_
       refine wp_block ?_
       refine go_sp [(1, .v (.int .i64 v)), (2, .v (.bool flex)), (9, .p 2 0), (14, .v (.slice ae ((things aa).length) af)), (15, .p 3 0), (16, .v (.int .i64 ((k : Nat) : Int))), (97, .v (.int .i64 (((things aa).length : Nat) : Int))), (98, .v (.int .i64 ((k : Nat) : Int)))] au aD fun lm dG => ?_
       clear aD
       refine go_seq_drawK 14 kz au fun ln gD ag aE => ?_
       clear au
       refine go_rnD [0, 1, 2, 3, 4, 7, 8, 9] [(1, .v (.int .i64 v)), (2, .v (.bool flex)), (9, .p 2 0), (14, .v (.slice ae ((things aa).length) af)), (15, .p 3 0), (97, .v (.int .i64 (((things aa).length : Nat) : Int))), (98, .v (.int .i64 ((k : Nat) : Int))), (101, .v (.agg #[.int .i64 y7, .int .i64 y2, .int .i64 y3, .int .i64 (-1), .int .i64 (-1), .int .i64 y6, .int .i64 y7, .slice A9 l8.length ap])), (102, .v (.int .i64 v)), (103, .v (.bool flex)), (104, .v (.slice ae ((things aa).length) af)), (105, .v (.int .i64 ((k : Nat) : Int))), (109, .v (.slice cw ao.length fu)), (110, .v (.int .i64 ((k : Nat) : Int)))] 6 (panicFree_then (panicFree_block (panicFree_then (panicFree_then (panicFree_block (panicFree_then (panicFree_block (panicFree_then panicFree_body)))))))) (fun _ h => h.cells) aE dG fun lp dH => ?_
       clear dG
       obtain ⟨ip, iq, gE, jC, bf⟩ := Slots.get (things_slots ft) (i := k) (by first | omega | (have h_ : ao.length = (things aa).length := (hQ.2 ac (by assumption)).1; omega))
       obtain ⟨ir, dI⟩ : ∃ x, (things aa)[k]? = some x := ⟨_, List.getElem?_eq_getElem (by omega)⟩
       have bg := (things_each ii) k ir dI
       obtain ⟨cA, cB, cC, cD, cE, fv, fw, fx, fy, fz, fA, jD, rfl, bh, iu, iv, lq, lr⟩ := bg.open_
       rw [bh] at bg
       have iw := iu.small
       have ix := iv.small
       rw [bh] at bf
       refine takeC_index dH (i := 5) (t := 23) (A := ae) (m := ((things aa).length)) (q := ((k : Nat) : Int)) (d := 106) kz (e := 26) (size := 5) (bytes := 88) kz gE rfl (by first | omega | (have h_ : ao.length = (things aa).length := (hQ.2 ac (by assumption)).1; omega)) kz kz (panicFree_then (panicFree_block (panicFree_then (panicFree_then (panicFree_block (panicFree_then (panicFree_block (panicFree_then panicFree_body)))))))) aE fun ls dJ => ?_
       clear dH
       refine takeC_load dJ (i := 6) (t := 26) (b := ip) (o := iq + k * 5) (d := 107) kz (cs := [.int .i64 cA, .slice fv cB.length fw, .bool cC, .slice fx cD.length fy, .slice fz cE.length fA]) (v := .agg #[.int .i64 cA, .slice fv cB.length fw, .bool cC, .slice fx cD.length fy, .slice fz cE.length fA]) kz (fun w' h' => (AtF.move bf (TT.step0 ag h') nilM keepF).at_) kz kz (panicFree_then (panicFree_block (panicFree_then (panicFree_then (panicFree_block (panicFree_then (panicFree_block (panicFree_then panicFree_body)))))))) aE fun lu dK => ?_
       clear dJ
       obtain ⟨iy, iz, gF, jE, bi⟩ := Slots.get ic (i := k) (by first | omega | (have h_ : ao.length = (things aa).length := (hQ.2 ac (by assumption)).1; omega))
       obtain ⟨iA, dL⟩ : ∃ x, ao[k]? = some x := ⟨_, List.getElem?_eq_getElem (by omega)⟩
       have bj := ij k iA dL
       obtain ⟨cG, cH, cI, cJ, cK, fB, fC, fD, fE, fF, fG, jF, rfl, bk, iB, iC, lv, lw⟩ := bj.open_
       rw [bk] at bj
       have iD := iB.small
       have iE := iC.small
       rw [bk] at bi
       refine takeC_index dK (i := 10) (t := 23) (A := cw) (m := ao.length) (q := ((k : Nat) : Int)) (d := 111) kz (e := 26) (size := 5) (bytes := 88) kz gF rfl (by first | omega | (have h_ : ao.length = (things aa).length := (hQ.2 ac (by assumption)).1; omega)) kz kz (panicFree_then (panicFree_block (panicFree_then (panicFree_then (panicFree_block (panicFree_then (panicFree_block (panicFree_then panicFree_body)))))))) aE fun lx dM => ?_
       clear dK
       refine takeC_load dM (i := 11) (t := 26) (b := iy) (o := iz + k * 5) (d := 112) kz (cs := [.int .i64 cG, .slice fB cH.length fC, .bool cI, .slice fD cJ.length fE, .slice fF cK.length fG]) (v := .agg #[.int .i64 cG, .slice fB cH.length fC, .bool cI, .slice fD cJ.length fE, .slice fF cK.length fG]) kz (fun w' h' => (AtF.move bi (TT.step0 ag h') nilM keepF).at_) kz kz (panicFree_then (panicFree_block (panicFree_then (panicFree_then (panicFree_block (panicFree_then (panicFree_block (panicFree_then panicFree_body)))))))) aE fun ly dN => ?_
       clear dM
       refine anyC_op (i := 12) kz (wpOp_call dN (f := 60) (vs := [.agg #[.int .i64 y7, .int .i64 y2, .int .i64 y3, .int .i64 (-1), .int .i64 (-1), .int .i64 y6, .int .i64 y7, .slice A9 l8.length ap], .int .i64 v, .bool flex, .agg #[.int .i64 cA, .slice fv cB.length fw, .bool cC, .slice fx cD.length fy, .slice fz cE.length fA], .agg #[.int .i64 cG, .slice fB cH.length fC, .bool cI, .slice fD cJ.length fE, .slice fF cK.length fG]]) (d := 113) kz Tryz.call60 ( sTold0 hT _ _ _ (Tree.mk cA cB cC cD cE) _ (Tree.mk cG cH cI cJ cK) _ _ (FldR.mk (l := l8) fr (g8.move ag.step nilM ag.imm) (fun i_ x_ h_ => ((ig i_ x_ h_).move ag.step nilM ag.imm))) hpl hof (bg.move ag.step nilM ag.imm) (bj.move ag.step nilM ag.imm) (hl_ _ _ _ dI dL)) ?_)
       rintro e_ lz ⟨rfl, dO⟩
       refine ⟨_, rfl, fun lA dP => ?_⟩
       have bn := ag.next_nil dO
       have dQ := ag.frN dO
       clear dN
       have dR := TT.ofW dQ bn
       refine ⟨fun _ => dR, ?_⟩
       refine go_rnD [13] [(1, .v (.int .i64 v)), (2, .v (.bool flex)), (9, .p 2 0), (14, .v (.slice ae ((things aa).length) af)), (15, .p 3 0), (97, .v (.int .i64 (((things aa).length : Nat) : Int))), (98, .v (.int .i64 ((k : Nat) : Int))), (114, .v (.bool false))] 0 (panicFree_then (panicFree_block (panicFree_then (panicFree_then (panicFree_block (panicFree_then (panicFree_block (panicFree_then panicFree_body)))))))) (fun _ h => h.cells) dR dP fun lB bo => ?_
       clear dP
       refine anyC_done kz ?_ _
       refine then_normal ?_
       refine cond_false bo (b := false) kz rfl ?_
       refine wp_skip ?_
       refine block_normal ?_
       refine then_normal ?_
       refine go_region [0, 1] kz ?_
       refine go_rn [0, 1] [] [(1, .v (.int .i64 v)), (2, .v (.bool flex)), (9, .p 2 0), (14, .v (.slice ae ((things aa).length) af)), (15, .p 3 0), (97, .v (.int .i64 (((things aa).length : Nat) : Int))), (98, .v (.int .i64 (IntKind.i64.wrap (((k : Nat) : Int) + 1))))] bn bo fun lC dS => ?_
       clear bo
       refine wpOps_nil (then_normal ?_)
       have gG : IntKind.i64.wrap (((k : Nat) : Int) + 1) = ((k + 1 : Nat) : Int) := wrap_succ (by omega)
       rw [gG] at dS
       exact ⟨(things aa).length - (k + 1), by omega, k + 1, rfl, by omega, dS.pk, bn, ((gC.trans gD).trans dQ)⟩
      ·
       have jG := of_decide_eq_false bd
       refine wp_exit ?_
       refine then_exit ?_
       refine then_exit ?_
       refine block_exit ?_
       refine then_normal ?_
       refine go_sp [(10, .v (.bool true))] au aD fun lD gH => ?_
       clear aD
       refine wp_ret ?_
       refine block_ret ?_
       refine then_ret ?_
       refine leave gH au.cells (v := .bool true) kz ?_
       exact ⟨rfl, au.step⟩
  ·
   have jH := of_decide_eq_false az
   have dT := aN.cast (env' := [(1, .v (.int .i64 v)), (2, .v (.bool flex)), (5, .p 0 0), (8, .p 1 0), (9, .p 2 0), (11, .v (.bool (Fld.nul (Fld.mk k1 y2 y3 y4 y5 y6 y7 l8) v (Tree.mk aj ak al aa am)))), (41, .v (.bool false))]) (by rw [az])
   clear aN
   refine go_rn [12, 13, 14, 15, 16] [] [(1, .v (.int .i64 v)), (2, .v (.bool flex)), (5, .p 0 0), (8, .p 1 0), (9, .p 2 0), (11, .v (.bool (Fld.nul (Fld.mk k1 y2 y3 y4 y5 y6 y7 l8) v (Tree.mk aj ak al aa am)))), (46, .v (.bool false))] ab dT fun lE bp => ?_
   clear dT
   refine wpOps_nil (then_normal ?_)
   refine cond_false bp (b := false) kz rfl ?_
   refine wp_skip ?_
   refine then_normal ?_
   refine wp_seq ?_
   refine go_sp [(1, .v (.int .i64 v)), (2, .v (.bool flex)), (5, .p 0 0), (8, .p 1 0), (9, .p 2 0), (47, .v (.bool (Fld.nul (Fld.mk k1 y2 y3 y4 y5 y6 y7 l8) v (Tree.mk aj ak al aa am))))] ab bp fun lF aF => ?_
   clear bp
   refine cond_of aF (b := Fld.nul (Fld.mk k1 y2 y3 y4 y5 y6 y7 l8) v (Tree.mk aj ak al aa am)) kz (fun gI => ?_) (fun gI => ?_)
   ·
    refine go_sp [(10, .v (.bool true))] ab aF fun lG gJ => ?_
    clear aF
    refine wp_ret ?_
    refine then_ret ?_
    refine leave gJ ab.cells (v := .bool true) kz ?_
    exact ⟨rfl, ab.step⟩
   ·
    refine wp_skip ?_
    refine then_normal ?_
    refine wp_seq ?_
    refine go_sp [(1, .v (.int .i64 v)), (2, .v (.bool flex)), (5, .p 0 0), (8, .p 1 0), (9, .p 2 0), (49, .v (.int .i64 k1))] ab aF fun lH dU => ?_
    clear aF
    refine wp_block ?_
    refine wp_seq ?_
    refine go_sp [(1, .v (.int .i64 v)), (2, .v (.bool flex)), (5, .p 0 0), (8, .p 1 0), (9, .p 2 0), (49, .v (.int .i64 k1)), (50, .v (.bool (k1 == 8)))] ab dU fun lI bq => ?_
    clear dU
    refine cond_false bq (b := k1 == 8) kz (by simp [ac]) ?_
    refine go_region [0, 1] kz ?_
    refine go_rn [0, 1] [] [(1, .v (.int .i64 v)), (2, .v (.bool flex)), (5, .p 0 0), (8, .p 1 0), (9, .p 2 0), (49, .v (.int .i64 k1)), (50, .v (.bool (k1 == 9)))] ab bq fun lJ bt => ?_
    clear bq
    refine wpOps_nil (then_normal ?_)
    refine cond_false bt (b := k1 == 9) kz (by simp [ac]) ?_
    refine go_sp [(1, .v (.int .i64 v)), (2, .v (.bool flex)), (5, .p 0 0), (8, .p 1 0), (9, .p 2 0), (49, .v (.int .i64 k1)), (59, .v (.bool (k1 == 7)))] ab bt fun lK bu => ?_
    clear bt
    refine cond_false bu (b := k1 == 7) kz (by simp [ac]) ?_
    refine go_sp [(1, .v (.int .i64 v)), (2, .v (.bool flex)), (5, .p 0 0), (8, .p 1 0), (9, .p 2 0), (49, .v (.int .i64 k1)), (70, .v (.bool (k1 == 10)))] ab bu fun lL bw => ?_
    clear bu
    refine cond_false bw (b := k1 == 10) kz (by simp [ac]) ?_
    refine go_sp [(1, .v (.int .i64 v)), (2, .v (.bool flex)), (5, .p 0 0), (8, .p 1 0), (9, .p 2 0), (79, .v (.bool (k1 == 11)))] ab bw fun lM bx => ?_
    clear bw
    refine cond_true bx (b := k1 == 11) kz (by simpa using ac) ?_
    refine go_seq_region [0, 1, 2, 3] kz ?_
    refine go_rn [0, 1] [2, 3] [(1, .v (.int .i64 v)), (2, .v (.bool flex)), (5, .p 0 0), (9, .p 2 0), (82, .v (.slice ae aa.length af))] ab bx fun lN dV => ?_
    clear bx
    refine of_op (wpOp_call dV (f := 131) (vs := [.slice ae aa.length af]) (d := 83) kz Tryz.call131 (sThings _ _ aa (ft.move ab.step nilM ab.imm).le _) ?_)
    rintro e_ lO ⟨rfl, dW⟩
    refine ⟨_, rfl, fun lP dX => ?_⟩
    have av := ab.next_nil dW
    have jI := ab.frN dW
    clear dV ab
    refine go_rn [3] [] [(1, .v (.int .i64 v)), (2, .v (.bool flex)), (5, .p 0 0), (9, .p 2 0), (14, .v (.slice ae ((things aa).length) af))] av dX fun lQ dY => ?_
    clear dX
    refine wpOps_nil (then_normal ?_)
    refine wp_seq ?_
    refine go_sp [(1, .v (.int .i64 v)), (2, .v (.bool flex)), (5, .p 0 0), (9, .p 2 0), (14, .v (.slice ae ((things aa).length) af)), (89, .v (.bool (((ao.length : Nat) : Int) != (((things aa).length : Nat) : Int))))] av dY fun lR aG => ?_
    clear dY
    refine cond_of aG (b := ((ao.length : Nat) : Int) != (((things aa).length : Nat) : Int)) kz (fun bz => ?_) (fun bz => ?_)
    ·
     have jJ : ((ao.length : Nat) : Int) ≠ (((things aa).length : Nat) : Int) := by simpa using bz
     refine go_sp [(10, .v (.bool false))] av aG fun lS gK => ?_
     clear aG
     refine wp_ret ?_
     refine then_ret ?_
     refine block_ret ?_
     refine then_ret ?_
     refine leave gK av.cells (v := .bool false) kz ?_
     first
      | exact (to_nm hq (by assumption) (by assumption) (by assumption)).elim
      | exact (to_len (hQ.2 ac (by assumption)).1 (by assumption)).elim
      | (exfalso; simp_all; done)
    ·
     have jK : ((ao.length : Nat) : Int) = (((things aa).length : Nat) : Int) := by simpa using bz
     refine wp_skip ?_
     refine then_normal ?_
     refine go_seq_region [0, 1, 2] kz ?_
     refine go_rn [0] [1, 2] [(1, .v (.int .i64 v)), (2, .v (.bool flex)), (5, .p 0 0), (9, .p 2 0), (14, .v (.slice ae ((things aa).length) af)), (90, .v (.agg #[.int .i64 k1, .int .i64 y2, .int .i64 y3, .int .i64 y4, .int .i64 y5, .int .i64 y6, .int .i64 y7, .slice A9 l8.length ap]))] av aG fun lT dZ => ?_
     clear aG
     refine of_op (wpOp_alloc av dZ (d := 15) (cs := [.int .i64 0, .int .i64 0, .int .i64 0, .int .i64 0, .int .i64 0, .int .i64 0, .int .i64 0, .slice none 0 0]) kz fun iF lU lV jL jM jN d5 d6 => ?_)
     clear dZ av
     refine of_op (wpOp_store d5 d6 (oi := 3) (cs := [.int .i64 k1, .int .i64 y2, .int .i64 y3, .int .i64 y4, .int .i64 y5, .int .i64 y6, .int .i64 y7, .slice A9 l8.length ap]) kz fun lW jO bA d7 => ?_)
     clear d6 d5
     refine wpOps_nil (then_normal ?_)
     refine go_seq_region [0, 1, 2, 3, 4, 5, 6, 7] kz ?_
     refine go_rn [0, 1, 2] [3, 4, 5, 6, 7] [(1, .v (.int .i64 v)), (2, .v (.bool flex)), (9, .p 2 0), (14, .v (.slice ae ((things aa).length) af)), (15, .p 3 0), (92, .v (.int .i64 y7)), (93, .p 3 0)] bA d7 fun lX d8 => ?_
     clear d7
     refine of_op (wpOp_store bA d8 (oi := 3) (cs := [.int .i64 y7, .int .i64 y2, .int .i64 y3, .int .i64 y4, .int .i64 y5, .int .i64 y6, .int .i64 y7, .slice A9 l8.length ap]) kz fun lY jP bB d9 => ?_)
     clear d8 bA
     refine go_rn [4] [5, 6, 7] [(1, .v (.int .i64 v)), (2, .v (.bool flex)), (9, .p 2 0), (14, .v (.slice ae ((things aa).length) af)), (15, .p 3 0), (94, .p 3 3)] bB d9 fun lZ ea => ?_
     clear d9
     refine of_op (wpOp_store bB ea (oi := 3) (cs := [.int .i64 y7, .int .i64 y2, .int .i64 y3, .int .i64 (-1), .int .i64 y5, .int .i64 y6, .int .i64 y7, .slice A9 l8.length ap]) kz fun l0 jQ bC eb => ?_)
     clear ea bB
     refine go_rn [6] [7] [(1, .v (.int .i64 v)), (2, .v (.bool flex)), (9, .p 2 0), (14, .v (.slice ae ((things aa).length) af)), (15, .p 3 0), (95, .p 3 4)] bC eb fun l3 ec => ?_
     clear eb
     refine of_op (wpOp_store bC ec (oi := 3) (cs := [.int .i64 y7, .int .i64 y2, .int .i64 y3, .int .i64 (-1), .int .i64 (-1), .int .i64 y6, .int .i64 y7, .slice A9 l8.length ap]) kz fun l5 jR bD ee => ?_)
     clear ec bC
     refine wpOps_nil (then_normal ?_)
     refine wp_seq ?_
     refine go_sp [(1, .v (.int .i64 v)), (2, .v (.bool flex)), (9, .p 2 0), (14, .v (.slice ae ((things aa).length) af)), (15, .p 3 0), (97, .v (.int .i64 (((things aa).length : Nat) : Int))), (98, .v (.int .i64 0))] bD ee fun l6 ef => ?_
     clear ee
     refine wp_block ?_
     have hl_ := (hQ.2 ac (by assumption)).2
     refine wp_loop_ghost (fun n_ a_ w_ => ∃ (k : Nat), n_ = (things aa).length - k ∧ k ≤ (things aa).length ∧ LInv bD 124 [⟨ik, 0, [.int .i64 k1, .int .i64 y2, .int .i64 y3, .int .i64 y4, .int .i64 y5, .int .i64 y6, .int .i64 y7, .slice A9 l8.length ap], true⟩, ⟨il, 0, [.int .i64 aj, .slice gb ak.length gc, .bool al, .slice ae aa.length af, .slice gd am.length ge], true⟩, ⟨im, 0, [.int .i64 g9, .slice hK hC.length hZ, .bool de, .slice cw ao.length fu, .slice ia hJ.length ib], true⟩, ⟨iF, 0, [.int .i64 y7, .int .i64 y2, .int .i64 y3, .int .i64 (-1), .int .i64 (-1), .int .i64 y6, .int .i64 y7, .slice A9 l8.length ap], true⟩] [] [(1, .v (.int .i64 v)), (2, .v (.bool flex)), (9, .p 2 0), (14, .v (.slice ae ((things aa).length) af)), (15, .p 3 0), (97, .v (.int .i64 (((things aa).length : Nat) : Int))), (98, .v (.int .i64 ((k : Nat) : Int)))] a_ w_) ((things aa).length) ⟨0, by omega, by omega, ef.pk, bD, Fr.refl _ _ _⟩ ?_
     clear ef
     rintro l7 l9 ma ⟨k, jS, jT, eg, aw, gL⟩
     refine go_sp [(1, .v (.int .i64 v)), (2, .v (.bool flex)), (9, .p 2 0), (14, .v (.slice ae ((things aa).length) af)), (15, .p 3 0), (97, .v (.int .i64 (((things aa).length : Nat) : Int))), (98, .v (.int .i64 ((k : Nat) : Int))), (99, .v (.bool (decide (((k : Nat) : Int) < (((things aa).length : Nat) : Int)))))] aw eg fun mc aH => ?_
     clear eg
     refine wp_seq ?_
     refine cond_of aH (b := decide (((k : Nat) : Int) < (((things aa).length : Nat) : Int))) kz (fun bE => ?_) (fun bE => ?_)
     ·
      have jU := of_decide_eq_true bE
      refine wp_skip ?_
      refine then_normal ?_
      refine wp_seq ?_
      refine wp_block ?_
      refine go_sp [(1, .v (.int .i64 v)), (2, .v (.bool flex)), (9, .p 2 0), (14, .v (.slice ae ((things aa).length) af)), (15, .p 3 0), (16, .v (.int .i64 ((k : Nat) : Int))), (97, .v (.int .i64 (((things aa).length : Nat) : Int))), (98, .v (.int .i64 ((k : Nat) : Int)))] aw aH fun md eh => ?_
      clear aH
      refine go_seq_drawK 14 kz aw fun me gM ah aI => ?_
      clear aw
      refine go_rnD [0, 1, 2, 3, 4, 7, 8, 9] [(1, .v (.int .i64 v)), (2, .v (.bool flex)), (9, .p 2 0), (14, .v (.slice ae ((things aa).length) af)), (15, .p 3 0), (97, .v (.int .i64 (((things aa).length : Nat) : Int))), (98, .v (.int .i64 ((k : Nat) : Int))), (101, .v (.agg #[.int .i64 y7, .int .i64 y2, .int .i64 y3, .int .i64 (-1), .int .i64 (-1), .int .i64 y6, .int .i64 y7, .slice A9 l8.length ap])), (102, .v (.int .i64 v)), (103, .v (.bool flex)), (104, .v (.slice ae ((things aa).length) af)), (105, .v (.int .i64 ((k : Nat) : Int))), (109, .v (.slice cw ao.length fu)), (110, .v (.int .i64 ((k : Nat) : Int)))] 6 (panicFree_then (panicFree_block (panicFree_then (panicFree_then (panicFree_block (panicFree_then (panicFree_block (panicFree_then panicFree_body)))))))) (fun _ h => h.cells) aI eh fun mf ei => ?_
      clear eh
      obtain ⟨iG, iH, gN, jV, bF⟩ := Slots.get (things_slots ft) (i := k) (by first | omega | (have h_ : ao.length = (things aa).length := (hQ.2 ac (by assumption)).1; omega))
      obtain ⟨iI, ej⟩ : ∃ x, (things aa)[k]? = some x := ⟨_, List.getElem?_eq_getElem (by omega)⟩
      have bG := (things_each ii) k iI ej
      obtain ⟨cL, cM, cN, cO, cP, fH, fI, fJ, fK, fL, fM, jW, rfl, bH, iJ, iK, mg, mh⟩ := bG.open_
      rw [bH] at bG
      have iL := iJ.small
      have iM := iK.small
      rw [bH] at bF
      refine takeC_index ei (i := 5) (t := 23) (A := ae) (m := ((things aa).length)) (q := ((k : Nat) : Int)) (d := 106) kz (e := 26) (size := 5) (bytes := 88) kz gN rfl (by first | omega | (have h_ : ao.length = (things aa).length := (hQ.2 ac (by assumption)).1; omega)) kz kz (panicFree_then (panicFree_block (panicFree_then (panicFree_then (panicFree_block (panicFree_then (panicFree_block (panicFree_then panicFree_body)))))))) aI fun mi ek => ?_
      clear ei
      refine takeC_load ek (i := 6) (t := 26) (b := iG) (o := iH + k * 5) (d := 107) kz (cs := [.int .i64 cL, .slice fH cM.length fI, .bool cN, .slice fJ cO.length fK, .slice fL cP.length fM]) (v := .agg #[.int .i64 cL, .slice fH cM.length fI, .bool cN, .slice fJ cO.length fK, .slice fL cP.length fM]) kz (fun w' h' => (AtF.move bF (TT.step0 ah h') nilM keepF).at_) kz kz (panicFree_then (panicFree_block (panicFree_then (panicFree_then (panicFree_block (panicFree_then (panicFree_block (panicFree_then panicFree_body)))))))) aI fun mj em => ?_
      clear ek
      obtain ⟨iN, iO, gO, jX, bI⟩ := Slots.get ic (i := k) (by first | omega | (have h_ : ao.length = (things aa).length := (hQ.2 ac (by assumption)).1; omega))
      obtain ⟨iP, eo⟩ : ∃ x, ao[k]? = some x := ⟨_, List.getElem?_eq_getElem (by omega)⟩
      have bJ := ij k iP eo
      obtain ⟨cQ, cR, cS, cT, cU, fN, fO, fP, fQ, fR, fS, jY, rfl, bK, iQ, iR, ml, mn⟩ := bJ.open_
      rw [bK] at bJ
      have iS := iQ.small
      have iT := iR.small
      rw [bK] at bI
      refine takeC_index em (i := 10) (t := 23) (A := cw) (m := ao.length) (q := ((k : Nat) : Int)) (d := 111) kz (e := 26) (size := 5) (bytes := 88) kz gO rfl (by first | omega | (have h_ : ao.length = (things aa).length := (hQ.2 ac (by assumption)).1; omega)) kz kz (panicFree_then (panicFree_block (panicFree_then (panicFree_then (panicFree_block (panicFree_then (panicFree_block (panicFree_then panicFree_body)))))))) aI fun mo ep => ?_
      clear em
      refine takeC_load ep (i := 11) (t := 26) (b := iN) (o := iO + k * 5) (d := 112) kz (cs := [.int .i64 cQ, .slice fN cR.length fO, .bool cS, .slice fP cT.length fQ, .slice fR cU.length fS]) (v := .agg #[.int .i64 cQ, .slice fN cR.length fO, .bool cS, .slice fP cT.length fQ, .slice fR cU.length fS]) kz (fun w' h' => (AtF.move bI (TT.step0 ah h') nilM keepF).at_) kz kz (panicFree_then (panicFree_block (panicFree_then (panicFree_then (panicFree_block (panicFree_then (panicFree_block (panicFree_then panicFree_body)))))))) aI fun mp eu => ?_
      clear ep
      refine anyC_op (i := 12) kz (wpOp_call eu (f := 60) (vs := [.agg #[.int .i64 y7, .int .i64 y2, .int .i64 y3, .int .i64 (-1), .int .i64 (-1), .int .i64 y6, .int .i64 y7, .slice A9 l8.length ap], .int .i64 v, .bool flex, .agg #[.int .i64 cL, .slice fH cM.length fI, .bool cN, .slice fJ cO.length fK, .slice fL cP.length fM], .agg #[.int .i64 cQ, .slice fN cR.length fO, .bool cS, .slice fP cT.length fQ, .slice fR cU.length fS]]) (d := 113) kz Tryz.call60 ( sTold0 hT _ _ _ (Tree.mk cL cM cN cO cP) _ (Tree.mk cQ cR cS cT cU) _ _ (FldR.mk (l := l8) fr (g8.move ah.step nilM ah.imm) (fun i_ x_ h_ => ((ig i_ x_ h_).move ah.step nilM ah.imm))) hpl hof (bG.move ah.step nilM ah.imm) (bJ.move ah.step nilM ah.imm) (hl_ _ _ _ ej eo)) ?_)
      rintro e_ mq ⟨rfl, ev⟩
      refine ⟨_, rfl, fun mr ew => ?_⟩
      have bL := ah.next_nil ev
      have ey := ah.frN ev
      clear eu
      have ez := TT.ofW ey bL
      refine ⟨fun _ => ez, ?_⟩
      refine go_rnD [13] [(1, .v (.int .i64 v)), (2, .v (.bool flex)), (9, .p 2 0), (14, .v (.slice ae ((things aa).length) af)), (15, .p 3 0), (97, .v (.int .i64 (((things aa).length : Nat) : Int))), (98, .v (.int .i64 ((k : Nat) : Int))), (114, .v (.bool false))] 0 (panicFree_then (panicFree_block (panicFree_then (panicFree_then (panicFree_block (panicFree_then (panicFree_block (panicFree_then panicFree_body)))))))) (fun _ h => h.cells) ez ew fun mt bM => ?_
      clear ew
      refine anyC_done kz ?_ _
      refine then_normal ?_
      refine cond_false bM (b := false) kz rfl ?_
      refine wp_skip ?_
      refine block_normal ?_
      refine then_normal ?_
      refine go_region [0, 1] kz ?_
      refine go_rn [0, 1] [] [(1, .v (.int .i64 v)), (2, .v (.bool flex)), (9, .p 2 0), (14, .v (.slice ae ((things aa).length) af)), (15, .p 3 0), (97, .v (.int .i64 (((things aa).length : Nat) : Int))), (98, .v (.int .i64 (IntKind.i64.wrap (((k : Nat) : Int) + 1))))] bL bM fun mu eB => ?_
      clear bM
      refine wpOps_nil (then_normal ?_)
      have gP : IntKind.i64.wrap (((k : Nat) : Int) + 1) = ((k + 1 : Nat) : Int) := wrap_succ (by omega)
      rw [gP] at eB
      exact ⟨(things aa).length - (k + 1), by omega, k + 1, rfl, by omega, eB.pk, bL, ((gL.trans gM).trans ey)⟩
     ·
      have jZ := of_decide_eq_false bE
      refine wp_exit ?_
      refine then_exit ?_
      refine then_exit ?_
      refine block_exit ?_
      refine then_normal ?_
      refine go_sp [(10, .v (.bool true))] aw aH fun mw gQ => ?_
      clear aH
      refine wp_ret ?_
      refine block_ret ?_
      refine then_ret ?_
      refine leave gQ aw.cells (v := .bool true) kz ?_
      exact ⟨rfl, aw.step⟩
 ·
  have j0 := of_decide_eq_false aP
  have eC := cz.cast (env' := [(1, .v (.int .i64 v)), (2, .v (.bool flex)), (5, .p 0 0), (8, .p 1 0), (9, .p 2 0), (11, .v (.bool (Fld.nul (Fld.mk k1 y2 y3 y4 y5 y6 y7 l8) v (Tree.mk aj ak al aa am)))), (24, .v (.bool false))]) (by rw [aP])
  clear cz
  refine go_rn [4, 5, 6, 7, 8, 9] [] [(1, .v (.int .i64 v)), (2, .v (.bool flex)), (5, .p 0 0), (8, .p 1 0), (9, .p 2 0), (11, .v (.bool (Fld.nul (Fld.mk k1 y2 y3 y4 y5 y6 y7 l8) v (Tree.mk aj ak al aa am)))), (12, .v (.bool false))] ab eC fun mx eD => ?_
  clear eC
  refine wpOps_nil (then_normal ?_)
  refine wp_seq ?_
  refine go_seq_region [0, 1, 2, 3, 4, 5, 6, 7, 8, 9, 10, 11, 12, 13, 14, 15, 16] kz ?_
  refine go_rn [0, 1, 2, 3] [4, 5, 6, 7, 8, 9, 10, 11, 12, 13, 14, 15, 16] [(1, .v (.int .i64 v)), (2, .v (.bool flex)), (5, .p 0 0), (8, .p 1 0), (9, .p 2 0), (11, .v (.bool (Fld.nul (Fld.mk k1 y2 y3 y4 y5 y6 y7 l8) v (Tree.mk aj ak al aa am)))), (12, .v (.bool false)), (33, .v (.bool (k1 == 8)))] ab eD fun my eE => ?_
  clear eD
  have gR : (k1 == 8) = false := by simp [ac]
  have eF := eE.cast (env' := [(1, .v (.int .i64 v)), (2, .v (.bool flex)), (5, .p 0 0), (8, .p 1 0), (9, .p 2 0), (11, .v (.bool (Fld.nul (Fld.mk k1 y2 y3 y4 y5 y6 y7 l8) v (Tree.mk aj ak al aa am)))), (12, .v (.bool false)), (33, .v (.bool false))]) (by rw [gR])
  clear eE
  refine go_rn [4, 5, 6, 7, 8] [9, 10, 11, 12, 13, 14, 15, 16] [(1, .v (.int .i64 v)), (2, .v (.bool flex)), (5, .p 0 0), (8, .p 1 0), (9, .p 2 0), (11, .v (.bool (Fld.nul (Fld.mk k1 y2 y3 y4 y5 y6 y7 l8) v (Tree.mk aj ak al aa am)))), (12, .v (.bool false)), (38, .v (.bool (k1 == 10)))] ab eF fun mz eG => ?_
  clear eF
  have gS : (k1 == 10) = false := by simp [ac]
  have eH := eG.cast (env' := [(1, .v (.int .i64 v)), (2, .v (.bool flex)), (5, .p 0 0), (8, .p 1 0), (9, .p 2 0), (11, .v (.bool (Fld.nul (Fld.mk k1 y2 y3 y4 y5 y6 y7 l8) v (Tree.mk aj ak al aa am)))), (12, .v (.bool false)), (38, .v (.bool false))]) (by rw [gS])
  clear eG
  refine go_rn [9, 10, 11, 12, 13, 14, 15, 16] [] [(1, .v (.int .i64 v)), (2, .v (.bool flex)), (5, .p 0 0), (8, .p 1 0), (9, .p 2 0), (11, .v (.bool (Fld.nul (Fld.mk k1 y2 y3 y4 y5 y6 y7 l8) v (Tree.mk aj ak al aa am)))), (46, .v (.bool false))] ab eH fun mA bN => ?_
  clear eH
  refine wpOps_nil (then_normal ?_)
  refine cond_false bN (b := false) kz rfl ?_
  refine wp_skip ?_
  refine then_normal ?_
  refine wp_seq ?_
  refine go_sp [(1, .v (.int .i64 v)), (2, .v (.bool flex)), (5, .p 0 0), (8, .p 1 0), (9, .p 2 0), (47, .v (.bool (Fld.nul (Fld.mk k1 y2 y3 y4 y5 y6 y7 l8) v (Tree.mk aj ak al aa am))))] ab bN fun mB aJ => ?_
  clear bN
  refine cond_of aJ (b := Fld.nul (Fld.mk k1 y2 y3 y4 y5 y6 y7 l8) v (Tree.mk aj ak al aa am)) kz (fun gT => ?_) (fun gT => ?_)
  ·
   refine go_sp [(10, .v (.bool true))] ab aJ fun mC gU => ?_
   clear aJ
   refine wp_ret ?_
   refine then_ret ?_
   refine leave gU ab.cells (v := .bool true) kz ?_
   exact ⟨rfl, ab.step⟩
  ·
   refine wp_skip ?_
   refine then_normal ?_
   refine wp_seq ?_
   refine go_sp [(1, .v (.int .i64 v)), (2, .v (.bool flex)), (5, .p 0 0), (8, .p 1 0), (9, .p 2 0), (49, .v (.int .i64 k1))] ab aJ fun mD eI => ?_
   clear aJ
   refine wp_block ?_
   refine wp_seq ?_
   refine go_sp [(1, .v (.int .i64 v)), (2, .v (.bool flex)), (5, .p 0 0), (8, .p 1 0), (9, .p 2 0), (49, .v (.int .i64 k1)), (50, .v (.bool (k1 == 8)))] ab eI fun mF bO => ?_
   clear eI
   refine cond_false bO (b := k1 == 8) kz (by simp [ac]) ?_
   refine go_region [0, 1] kz ?_
   refine go_rn [0, 1] [] [(1, .v (.int .i64 v)), (2, .v (.bool flex)), (5, .p 0 0), (8, .p 1 0), (9, .p 2 0), (49, .v (.int .i64 k1)), (50, .v (.bool (k1 == 9)))] ab bO fun mG bP => ?_
   clear bO
   refine wpOps_nil (then_normal ?_)
   refine cond_false bP (b := k1 == 9) kz (by simp [ac]) ?_
   refine go_sp [(1, .v (.int .i64 v)), (2, .v (.bool flex)), (5, .p 0 0), (8, .p 1 0), (9, .p 2 0), (49, .v (.int .i64 k1)), (59, .v (.bool (k1 == 7)))] ab bP fun mH bQ => ?_
   clear bP
   refine cond_false bQ (b := k1 == 7) kz (by simp [ac]) ?_
   refine go_sp [(1, .v (.int .i64 v)), (2, .v (.bool flex)), (5, .p 0 0), (8, .p 1 0), (9, .p 2 0), (49, .v (.int .i64 k1)), (70, .v (.bool (k1 == 10)))] ab bQ fun mI bR => ?_
   clear bQ
   refine cond_false bR (b := k1 == 10) kz (by simp [ac]) ?_
   refine go_sp [(1, .v (.int .i64 v)), (2, .v (.bool flex)), (5, .p 0 0), (8, .p 1 0), (9, .p 2 0), (79, .v (.bool (k1 == 11)))] ab bR fun mJ bS => ?_
   clear bR
   refine cond_true bS (b := k1 == 11) kz (by simpa using ac) ?_
   refine go_seq_region [0, 1, 2, 3] kz ?_
   refine go_rn [0, 1] [2, 3] [(1, .v (.int .i64 v)), (2, .v (.bool flex)), (5, .p 0 0), (9, .p 2 0), (82, .v (.slice ae aa.length af))] ab bS fun mK eJ => ?_
   clear bS
   refine of_op (wpOp_call eJ (f := 131) (vs := [.slice ae aa.length af]) (d := 83) kz Tryz.call131 (sThings _ _ aa (ft.move ab.step nilM ab.imm).le _) ?_)
   rintro e_ mL ⟨rfl, eK⟩
   refine ⟨_, rfl, fun mM eL => ?_⟩
   have ax := ab.next_nil eK
   have j1 := ab.frN eK
   clear eJ ab
   refine go_rn [3] [] [(1, .v (.int .i64 v)), (2, .v (.bool flex)), (5, .p 0 0), (9, .p 2 0), (14, .v (.slice ae ((things aa).length) af))] ax eL fun mN eM => ?_
   clear eL
   refine wpOps_nil (then_normal ?_)
   refine wp_seq ?_
   refine go_sp [(1, .v (.int .i64 v)), (2, .v (.bool flex)), (5, .p 0 0), (9, .p 2 0), (14, .v (.slice ae ((things aa).length) af)), (89, .v (.bool (((ao.length : Nat) : Int) != (((things aa).length : Nat) : Int))))] ax eM fun mO aK => ?_
   clear eM
   refine cond_of aK (b := ((ao.length : Nat) : Int) != (((things aa).length : Nat) : Int)) kz (fun bT => ?_) (fun bT => ?_)
   ·
    have j2 : ((ao.length : Nat) : Int) ≠ (((things aa).length : Nat) : Int) := by simpa using bT
    refine go_sp [(10, .v (.bool false))] ax aK fun mQ gV => ?_
    clear aK
    refine wp_ret ?_
    refine then_ret ?_
    refine block_ret ?_
    refine then_ret ?_
    refine leave gV ax.cells (v := .bool false) kz ?_
    first
     | exact (to_nm hq (by assumption) (by assumption) (by assumption)).elim
     | exact (to_len (hQ.2 ac (by assumption)).1 (by assumption)).elim
     | (exfalso; simp_all; done)
   ·
    have j3 : ((ao.length : Nat) : Int) = (((things aa).length : Nat) : Int) := by simpa using bT
    refine wp_skip ?_
    refine then_normal ?_
    refine go_seq_region [0, 1, 2] kz ?_
    refine go_rn [0] [1, 2] [(1, .v (.int .i64 v)), (2, .v (.bool flex)), (5, .p 0 0), (9, .p 2 0), (14, .v (.slice ae ((things aa).length) af)), (90, .v (.agg #[.int .i64 k1, .int .i64 y2, .int .i64 y3, .int .i64 y4, .int .i64 y5, .int .i64 y6, .int .i64 y7, .slice A9 l8.length ap]))] ax aK fun mR eN => ?_
    clear aK
    refine of_op (wpOp_alloc ax eN (d := 15) (cs := [.int .i64 0, .int .i64 0, .int .i64 0, .int .i64 0, .int .i64 0, .int .i64 0, .int .i64 0, .slice none 0 0]) kz fun iU mS mT j4 j5 j6 eO eP => ?_)
    clear eN ax
    refine of_op (wpOp_store eO eP (oi := 3) (cs := [.int .i64 k1, .int .i64 y2, .int .i64 y3, .int .i64 y4, .int .i64 y5, .int .i64 y6, .int .i64 y7, .slice A9 l8.length ap]) kz fun mU j7 bU eQ => ?_)
    clear eP eO
    refine wpOps_nil (then_normal ?_)
    refine go_seq_region [0, 1, 2, 3, 4, 5, 6, 7] kz ?_
    refine go_rn [0, 1, 2] [3, 4, 5, 6, 7] [(1, .v (.int .i64 v)), (2, .v (.bool flex)), (9, .p 2 0), (14, .v (.slice ae ((things aa).length) af)), (15, .p 3 0), (92, .v (.int .i64 y7)), (93, .p 3 0)] bU eQ fun mV eR => ?_
    clear eQ
    refine of_op (wpOp_store bU eR (oi := 3) (cs := [.int .i64 y7, .int .i64 y2, .int .i64 y3, .int .i64 y4, .int .i64 y5, .int .i64 y6, .int .i64 y7, .slice A9 l8.length ap]) kz fun mW j8 bV eS => ?_)
    clear eR bU
    refine go_rn [4] [5, 6, 7] [(1, .v (.int .i64 v)), (2, .v (.bool flex)), (9, .p 2 0), (14, .v (.slice ae ((things aa).length) af)), (15, .p 3 0), (94, .p 3 3)] bV eS fun mX eU => ?_
    clear eS
    refine of_op (wpOp_store bV eU (oi := 3) (cs := [.int .i64 y7, .int .i64 y2, .int .i64 y3, .int .i64 (-1), .int .i64 y5, .int .i64 y6, .int .i64 y7, .slice A9 l8.length ap]) kz fun mY j9 bW eV => ?_)
    clear eU bV
    refine go_rn [6] [7] [(1, .v (.int .i64 v)), (2, .v (.bool flex)), (9, .p 2 0), (14, .v (.slice ae ((things aa).length) af)), (15, .p 3 0), (95, .p 3 4)] bW eV fun mZ eW => ?_
    clear eV
    refine of_op (wpOp_store bW eW (oi := 3) (cs := [.int .i64 y7, .int .i64 y2, .int .i64 y3, .int .i64 (-1), .int .i64 (-1), .int .i64 y6, .int .i64 y7, .slice A9 l8.length ap]) kz fun m4 ka bX eX => ?_)
    clear eW bW
    refine wpOps_nil (then_normal ?_)
    refine wp_seq ?_
    refine go_sp [(1, .v (.int .i64 v)), (2, .v (.bool flex)), (9, .p 2 0), (14, .v (.slice ae ((things aa).length) af)), (15, .p 3 0), (97, .v (.int .i64 (((things aa).length : Nat) : Int))), (98, .v (.int .i64 0))] bX eX fun m5 eY => ?_
    clear eX
    refine wp_block ?_
    have hl_ := (hQ.2 ac (by assumption)).2
    refine wp_loop_ghost (fun n_ a_ w_ => ∃ (k : Nat), n_ = (things aa).length - k ∧ k ≤ (things aa).length ∧ LInv bX 124 [⟨ik, 0, [.int .i64 k1, .int .i64 y2, .int .i64 y3, .int .i64 y4, .int .i64 y5, .int .i64 y6, .int .i64 y7, .slice A9 l8.length ap], true⟩, ⟨il, 0, [.int .i64 aj, .slice gb ak.length gc, .bool al, .slice ae aa.length af, .slice gd am.length ge], true⟩, ⟨im, 0, [.int .i64 g9, .slice hK hC.length hZ, .bool de, .slice cw ao.length fu, .slice ia hJ.length ib], true⟩, ⟨iU, 0, [.int .i64 y7, .int .i64 y2, .int .i64 y3, .int .i64 (-1), .int .i64 (-1), .int .i64 y6, .int .i64 y7, .slice A9 l8.length ap], true⟩] [] [(1, .v (.int .i64 v)), (2, .v (.bool flex)), (9, .p 2 0), (14, .v (.slice ae ((things aa).length) af)), (15, .p 3 0), (97, .v (.int .i64 (((things aa).length : Nat) : Int))), (98, .v (.int .i64 ((k : Nat) : Int)))] a_ w_) ((things aa).length) ⟨0, by omega, by omega, eY.pk, bX, Fr.refl _ _ _⟩ ?_
    clear eY
    rintro m6 m7 m8 ⟨k, kd, ke, eZ, ay, gW⟩
    refine go_sp [(1, .v (.int .i64 v)), (2, .v (.bool flex)), (9, .p 2 0), (14, .v (.slice ae ((things aa).length) af)), (15, .p 3 0), (97, .v (.int .i64 (((things aa).length : Nat) : Int))), (98, .v (.int .i64 ((k : Nat) : Int))), (99, .v (.bool (decide (((k : Nat) : Int) < (((things aa).length : Nat) : Int)))))] ay eZ fun m9 aL => ?_
    clear eZ
    refine wp_seq ?_
    refine cond_of aL (b := decide (((k : Nat) : Int) < (((things aa).length : Nat) : Int))) kz (fun bY => ?_) (fun bY => ?_)
    ·
     have kf := of_decide_eq_true bY
     refine wp_skip ?_
     refine then_normal ?_
     refine wp_seq ?_
     refine wp_block ?_
     refine go_sp [(1, .v (.int .i64 v)), (2, .v (.bool flex)), (9, .p 2 0), (14, .v (.slice ae ((things aa).length) af)), (15, .p 3 0), (16, .v (.int .i64 ((k : Nat) : Int))), (97, .v (.int .i64 (((things aa).length : Nat) : Int))), (98, .v (.int .i64 ((k : Nat) : Int)))] ay aL fun nf e9 => ?_
     clear aL
     refine go_seq_drawK 14 kz ay fun ng gX ai aM => ?_
     clear ay
     refine go_rnD [0, 1, 2, 3, 4, 7, 8, 9] [(1, .v (.int .i64 v)), (2, .v (.bool flex)), (9, .p 2 0), (14, .v (.slice ae ((things aa).length) af)), (15, .p 3 0), (97, .v (.int .i64 (((things aa).length : Nat) : Int))), (98, .v (.int .i64 ((k : Nat) : Int))), (101, .v (.agg #[.int .i64 y7, .int .i64 y2, .int .i64 y3, .int .i64 (-1), .int .i64 (-1), .int .i64 y6, .int .i64 y7, .slice A9 l8.length ap])), (102, .v (.int .i64 v)), (103, .v (.bool flex)), (104, .v (.slice ae ((things aa).length) af)), (105, .v (.int .i64 ((k : Nat) : Int))), (109, .v (.slice cw ao.length fu)), (110, .v (.int .i64 ((k : Nat) : Int)))] 6 (panicFree_then (panicFree_block (panicFree_then (panicFree_then (panicFree_block (panicFree_then (panicFree_block (panicFree_then panicFree_body)))))))) (fun _ h => h.cells) aM e9 fun nh fa => ?_
     clear e9
     obtain ⟨iV, iW, gY, kg, bZ⟩ := Slots.get (things_slots ft) (i := k) (by first | omega | (have h_ : ao.length = (things aa).length := (hQ.2 ac (by assumption)).1; omega))
     obtain ⟨iX, fb⟩ : ∃ x, (things aa)[k]? = some x := ⟨_, List.getElem?_eq_getElem (by omega)⟩
     have b8 := (things_each ii) k iX fb
     obtain ⟨cV, cW, cX, cY, cZ, fT, fU, fV, fW, fX, fY, kh, rfl, cd, iY, iZ, ni, nj⟩ := b8.open_
     rw [cd] at b8
     have i6 := iY.small
     have i7 := iZ.small
     rw [cd] at bZ
     refine takeC_index fa (i := 5) (t := 23) (A := ae) (m := ((things aa).length)) (q := ((k : Nat) : Int)) (d := 106) kz (e := 26) (size := 5) (bytes := 88) kz gY rfl (by first | omega | (have h_ : ao.length = (things aa).length := (hQ.2 ac (by assumption)).1; omega)) kz kz (panicFree_then (panicFree_block (panicFree_then (panicFree_then (panicFree_block (panicFree_then (panicFree_block (panicFree_then panicFree_body)))))))) aM fun nk fe => ?_
     clear fa
     refine takeC_load fe (i := 6) (t := 26) (b := iV) (o := iW + k * 5) (d := 107) kz (cs := [.int .i64 cV, .slice fT cW.length fU, .bool cX, .slice fV cY.length fW, .slice fX cZ.length fY]) (v := .agg #[.int .i64 cV, .slice fT cW.length fU, .bool cX, .slice fV cY.length fW, .slice fX cZ.length fY]) kz (fun w' h' => (AtF.move bZ (TT.step0 ai h') nilM keepF).at_) kz kz (panicFree_then (panicFree_block (panicFree_then (panicFree_then (panicFree_block (panicFree_then (panicFree_block (panicFree_then panicFree_body)))))))) aM fun nl ff => ?_
     clear fe
     obtain ⟨ja, jb, gZ, ki, ce⟩ := Slots.get ic (i := k) (by first | omega | (have h_ : ao.length = (things aa).length := (hQ.2 ac (by assumption)).1; omega))
     obtain ⟨jc, fg⟩ : ∃ x, ao[k]? = some x := ⟨_, List.getElem?_eq_getElem (by omega)⟩
     have cm := ij k jc fg
     obtain ⟨c5, c6, da, db, dc, fZ, f5, f7, f8, f9, ga, kj, rfl, cq, jd, je, nm, np⟩ := cm.open_
     rw [cq] at cm
     have jf := jd.small
     have jg := je.small
     rw [cq] at ce
     refine takeC_index ff (i := 10) (t := 23) (A := cw) (m := ao.length) (q := ((k : Nat) : Int)) (d := 111) kz (e := 26) (size := 5) (bytes := 88) kz gZ rfl (by first | omega | (have h_ : ao.length = (things aa).length := (hQ.2 ac (by assumption)).1; omega)) kz kz (panicFree_then (panicFree_block (panicFree_then (panicFree_then (panicFree_block (panicFree_then (panicFree_block (panicFree_then panicFree_body)))))))) aM fun nr fh => ?_
     clear ff
     refine takeC_load fh (i := 11) (t := 26) (b := ja) (o := jb + k * 5) (d := 112) kz (cs := [.int .i64 c5, .slice fZ c6.length f5, .bool da, .slice f7 db.length f8, .slice f9 dc.length ga]) (v := .agg #[.int .i64 c5, .slice fZ c6.length f5, .bool da, .slice f7 db.length f8, .slice f9 dc.length ga]) kz (fun w' h' => (AtF.move ce (TT.step0 ai h') nilM keepF).at_) kz kz (panicFree_then (panicFree_block (panicFree_then (panicFree_then (panicFree_block (panicFree_then (panicFree_block (panicFree_then panicFree_body)))))))) aM fun ns fi => ?_
     clear fh
     refine anyC_op (i := 12) kz (wpOp_call fi (f := 60) (vs := [.agg #[.int .i64 y7, .int .i64 y2, .int .i64 y3, .int .i64 (-1), .int .i64 (-1), .int .i64 y6, .int .i64 y7, .slice A9 l8.length ap], .int .i64 v, .bool flex, .agg #[.int .i64 cV, .slice fT cW.length fU, .bool cX, .slice fV cY.length fW, .slice fX cZ.length fY], .agg #[.int .i64 c5, .slice fZ c6.length f5, .bool da, .slice f7 db.length f8, .slice f9 dc.length ga]]) (d := 113) kz Tryz.call60 ( sTold0 hT _ _ _ (Tree.mk cV cW cX cY cZ) _ (Tree.mk c5 c6 da db dc) _ _ (FldR.mk (l := l8) fr (g8.move ai.step nilM ai.imm) (fun i_ x_ h_ => ((ig i_ x_ h_).move ai.step nilM ai.imm))) hpl hof (b8.move ai.step nilM ai.imm) (cm.move ai.step nilM ai.imm) (hl_ _ _ _ fb fg)) ?_)
     rintro e_ nt ⟨rfl, fj⟩
     refine ⟨_, rfl, fun nu fk => ?_⟩
     have cr := ai.next_nil fj
     have fm := ai.frN fj
     clear fi
     have fo := TT.ofW fm cr
     refine ⟨fun _ => fo, ?_⟩
     refine go_rnD [13] [(1, .v (.int .i64 v)), (2, .v (.bool flex)), (9, .p 2 0), (14, .v (.slice ae ((things aa).length) af)), (15, .p 3 0), (97, .v (.int .i64 (((things aa).length : Nat) : Int))), (98, .v (.int .i64 ((k : Nat) : Int))), (114, .v (.bool false))] 0 (panicFree_then (panicFree_block (panicFree_then (panicFree_then (panicFree_block (panicFree_then (panicFree_block (panicFree_then panicFree_body)))))))) (fun _ h => h.cells) fo fk fun nv cu => ?_
     clear fk
     refine anyC_done kz ?_ _
     refine then_normal ?_
     refine cond_false cu (b := false) kz rfl ?_
     refine wp_skip ?_
     refine block_normal ?_
     refine then_normal ?_
     refine go_region [0, 1] kz ?_
     refine go_rn [0, 1] [] [(1, .v (.int .i64 v)), (2, .v (.bool flex)), (9, .p 2 0), (14, .v (.slice ae ((things aa).length) af)), (15, .p 3 0), (97, .v (.int .i64 (((things aa).length : Nat) : Int))), (98, .v (.int .i64 (IntKind.i64.wrap (((k : Nat) : Int) + 1))))] cr cu fun nw fq => ?_
     clear cu
     refine wpOps_nil (then_normal ?_)
     have g6 : IntKind.i64.wrap (((k : Nat) : Int) + 1) = ((k + 1 : Nat) : Int) := wrap_succ (by omega)
     rw [g6] at fq
     exact ⟨(things aa).length - (k + 1), by omega, k + 1, rfl, by omega, fq.pk, cr, ((gW.trans gX).trans fm)⟩
    ·
     have km := of_decide_eq_false bY
     refine wp_exit ?_
     refine then_exit ?_
     refine then_exit ?_
     refine block_exit ?_
     refine then_normal ?_
     refine go_sp [(10, .v (.bool true))] ay aL fun nx g7 => ?_
     clear aL
     refine wp_ret ?_
     refine block_ret ?_
     refine then_ret ?_
     refine leave g7 ay.cells (v := .bool true) kz ?_
     exact ⟨rfl, ay.step⟩
theorem sTold1 {v : Int} {flex : Bool} {T : List Fld → Tree → Tree → Prop} (hT : ToOK v flex T) (cf : List Value) (f : Fld) (ct : List Value) (t : Tree) (cg : List Value) (g : Tree) (w : World) (F : Nat → Nat → Prop) (hf : FldR w F cf f) (hpl : f.plain) (ht : TreeR w F ct t) (hg : TreeR w F cg g) (hQ : ToF T v f t g) :
  Calls Tryz.prog 60 #[.agg cf.toArray, .int .i64 v, .bool flex, .agg ct.toArray, .agg cg.toArray] w (Gives w (.bool true)) := by
 by_cases h : f.kind = 11
 ·exact sTold11 hT cf f ct t cg g w F hf hpl h ht hg hQ
 ·exact sTold0 hT cf f ct t cg g w F hf (plain_sub hpl) h ht hg hQ.1
set_option maxHeartbeats 4000000 in
theorem sToldS {v : Int} {flex : Bool} {T : List Fld → Tree → Tree → Prop} {U : List Fld → Tree → Prop} (hT : ToOK v flex T) (hU : UsOK U) (A : Option Addr) (c : Nat) (l : List Fld) (ct : List Value) (t : Tree) (cg : List Value) (g : Tree) (w : World) (F : Nat → Nat → Prop) (hl : FldsR w F A c l) (ht : TreeR w F ct t) (hg : TreeR w F cg g) (hpl : plains l) (hP : ToP T U l v flex t g) :
  Calls Tryz.prog 19 #[.slice A l.length c, .int .i64 v, .bool flex, .agg ct.toArray, .agg cg.toArray] w (Gives w (.bool true)) := by
 obtain ⟨xfs, h1, h2⟩ := hl.ex
 have hsm := h1.small
 obtain ⟨n1, s2, b3, l4, u5, A6, c7, A8, c9, bT, bU, jL, rfl, rfl, jM, jN, mD, jO⟩ := ht.open_
 have iM := jM.small
 have iN := jN.small
 obtain ⟨dh, di, dj, aG, aB, dl, dp, bV, ce, bW, cm, jP, rfl, rfl, jQ, ia, iO, jR⟩ := hg.open_
 have iP := jQ.small
 have iQ := ia.small
 have hlen : aG.length = l.length := hP.1
 have hgu : aB = if flex = true then wholeU (unknownT l u5) else [] := hP.2.2
 obtain ⟨jS, iR, jT⟩ := jR.ex
 have iS := iR.small
 refine enter (n := 120) Tryz.func19 rfl Tryz.ntmps19 kz fun a hE => ?_
 have hW := WOk.start w Nil
 refine go_seq_region [0, 1, 2] kz ?_
 refine of_op (wpOp_box hW hE (d := 8) (cs := [.int .i64 n1, .slice A6 s2.length c7, .bool b3, .slice A8 l4.length c9, .slice bT u5.length bU]) kz fun dE mF mG jU jV jW fY fZ => ?_)
 clear hE hW
 refine of_op (wpOp_box fY fZ (d := 9) (cs := [.int .i64 dh, .slice dl di.length dp, .bool dj, .slice bV aG.length ce, .slice bW aB.length cm]) kz fun dF mH mI jX jY jZ bB f5 => ?_)
 clear fZ fY
 refine go_rn [2] [] [(0, .v (.slice A l.length c)), (1, .v (.int .i64 v)), (2, .v (.bool flex)), (8, .p 0 0), (9, .p 1 0)] bB f5 fun mJ f7 => ?_
 clear f5
 refine wpOps_nil (then_normal ?_)
 refine wp_seq ?_
 refine go_sp [(0, .v (.slice A l.length c)), (1, .v (.int .i64 v)), (2, .v (.bool flex)), (8, .p 0 0), (9, .p 1 0), (22, .v (.bool (((aG.length : Nat) : Int) != ((l.length : Nat) : Int))))] bB f7 fun mK cq => ?_
 clear f7
 refine cond_of cq (b := ((aG.length : Nat) : Int) != ((l.length : Nat) : Int)) kz (fun fL => ?_) (fun fL => ?_)
 ·
  have j0 : ((aG.length : Nat) : Int) ≠ ((l.length : Nat) : Int) := by simpa using fL
  refine go_sp [(10, .v (.bool false))] bB cq fun mL ib => ?_
  clear cq
  refine wp_ret ?_
  refine then_ret ?_
  refine leave ib bB.cells (v := .bool false) kz ?_
  first
   | (exfalso; omega)
   | exact (told_len hgu (by assumption) (by assumption)).elim
   | exact (told_len0 hgu (by assumption) (by assumption)).elim
   | exact (told_key hgu (by assumption) (by assumption) (by assumption) (by assumption)).elim
   | exact (told_val hgu (by assumption) (by assumption) (by assumption) (by assumption)).elim
   | (exfalso; simp_all; done)
 ·
  have j1 : ((aG.length : Nat) : Int) = ((l.length : Nat) : Int) := by simpa using fL
  refine wp_skip ?_
  refine then_normal ?_
  refine wp_seq ?_
  refine go_sp [(0, .v (.slice A l.length c)), (1, .v (.int .i64 v)), (2, .v (.bool flex)), (8, .p 0 0), (9, .p 1 0), (23, .v (.slice A l.length c)), (24, .v (.int .i64 ((l.length : Nat) : Int))), (25, .v (.int .i64 0))] bB cq fun mM f8 => ?_
  clear cq
  refine wp_block ?_
  refine wp_loop_ghost (fun n_ a_ w_ => ∃ (k : Nat), n_ = l.length - k ∧ k ≤ l.length ∧ LInv bB 120 [⟨dE, 0, [.int .i64 n1, .slice A6 s2.length c7, .bool b3, .slice A8 l4.length c9, .slice bT u5.length bU], true⟩, ⟨dF, 0, [.int .i64 dh, .slice dl di.length dp, .bool dj, .slice bV aG.length ce, .slice bW aB.length cm], true⟩] [] [(0, .v (.slice A l.length c)), (1, .v (.int .i64 v)), (2, .v (.bool flex)), (8, .p 0 0), (9, .p 1 0), (23, .v (.slice A l.length c)), (24, .v (.int .i64 ((l.length : Nat) : Int))), (25, .v (.int .i64 ((k : Nat) : Int)))] a_ w_) (l.length) ⟨0, by omega, by omega, f8.pk, bB, Fr.refl _ _ _⟩ ?_
  clear f8
  rintro mN mO mQ ⟨k, j2, j3, f9, ax, fM⟩
  refine go_sp [(0, .v (.slice A l.length c)), (1, .v (.int .i64 v)), (2, .v (.bool flex)), (8, .p 0 0), (9, .p 1 0), (23, .v (.slice A l.length c)), (24, .v (.int .i64 ((l.length : Nat) : Int))), (25, .v (.int .i64 ((k : Nat) : Int))), (26, .v (.bool (decide (((k : Nat) : Int) < ((l.length : Nat) : Int)))))] ax f9 fun mR cr => ?_
  clear f9
  refine wp_seq ?_
  refine cond_of cr (b := decide (((k : Nat) : Int) < ((l.length : Nat) : Int))) kz (fun fN => ?_) (fun fN => ?_)
  ·
   have j4 := of_decide_eq_true fN
   refine wp_skip ?_
   refine then_normal ?_
   refine wp_seq ?_
   refine wp_block ?_
   refine go_seq_region [0, 1, 2, 3, 4, 5] kz ?_
   refine go_rn [0] [1, 2, 3, 4, 5] [(0, .v (.slice A l.length c)), (1, .v (.int .i64 v)), (2, .v (.bool flex)), (8, .p 0 0), (9, .p 1 0), (23, .v (.slice A l.length c)), (24, .v (.int .i64 ((l.length : Nat) : Int))), (25, .v (.int .i64 ((k : Nat) : Int))), (27, .v (.int .i64 ((k : Nat) : Int)))] ax cr fun mS ga => ?_
   clear cr
   obtain ⟨j5, j6, ic, j7, dG⟩ := Slots.get h1 (i := k) (by first | omega | (have h_ := told_idx hgu (by assumption); omega))
   obtain ⟨j8, cu⟩ : ∃ x, l[k]? = some x := ⟨_, List.getElem?_eq_getElem (by omega)⟩
   have bC := h2 k j8 cu
   obtain ⟨aj, ak, al, am, ag, ao, aa, ab, ap, ar, iT, rfl, cw, ig, j9⟩ := bC.open_
   rw [cw] at bC
   have ii := ig.small
   rw [cw] at dG
   refine of_op (wpOp_index ga (t := 29) (A := A) (m := l.length) (q := ((k : Nat) : Int)) (d := 28) kz (e := 52) (size := 8) (bytes := 80) kz ic rfl (by first | omega | (have h_ := told_idx hgu (by assumption); omega)) fun ka dH => ?_)
   clear ga
   refine of_op (wpOp_load dH (t := 52) (b := j5) (o := j6 + k * 8) (d := 29) kz (cs := [.int .i64 aj, .int .i64 ak, .int .i64 al, .int .i64 am, .int .i64 ag, .int .i64 ao, .int .i64 aa, .slice ap ab.length ar]) (v := .agg #[.int .i64 aj, .int .i64 ak, .int .i64 al, .int .i64 am, .int .i64 ag, .int .i64 ao, .int .i64 aa, .slice ap ab.length ar]) kz (AtF.move dG ax.step nilM keepF).at_ fun kd dI => ?_)
   clear dH
   refine of_op (wpOp_alloc ax dI (d := 12) (cs := [.int .i64 0, .int .i64 0, .int .i64 0, .int .i64 0, .int .i64 0, .int .i64 0, .int .i64 0, .slice none 0 0]) kz fun ij ke kf iU iV cz cA dJ => ?_)
   clear dI ax
   refine go_rn [4] [5] [(0, .v (.slice A l.length c)), (1, .v (.int .i64 v)), (2, .v (.bool flex)), (8, .p 0 0), (9, .p 1 0), (11, .v (.int .i64 ((k : Nat) : Int))), (12, .p 2 0), (23, .v (.slice A l.length c)), (24, .v (.int .i64 ((l.length : Nat) : Int))), (25, .v (.int .i64 ((k : Nat) : Int))), (29, .v (.agg #[.int .i64 aj, .int .i64 ak, .int .i64 al, .int .i64 am, .int .i64 ag, .int .i64 ao, .int .i64 aa, .slice ap ab.length ar]))] cA dJ fun kg dK => ?_
   clear dJ
   refine of_op (wpOp_store cA dK (oi := 2) (cs := [.int .i64 aj, .int .i64 ak, .int .i64 al, .int .i64 am, .int .i64 ag, .int .i64 ao, .int .i64 aa, .slice ap ab.length ar]) kz fun kh cB aH dL => ?_)
   clear dK cA
   refine wpOps_nil (then_normal ?_)
   refine go_seq_region [0, 1, 2, 3, 4] kz ?_
   refine go_rn [0, 1] [2, 3, 4] [(0, .v (.slice A l.length c)), (1, .v (.int .i64 v)), (2, .v (.bool flex)), (8, .p 0 0), (9, .p 1 0), (11, .v (.int .i64 ((k : Nat) : Int))), (12, .p 2 0), (23, .v (.slice A l.length c)), (24, .v (.int .i64 ((l.length : Nat) : Int))), (25, .v (.int .i64 ((k : Nat) : Int))), (30, .v (.agg #[.int .i64 n1, .slice A6 s2.length c7, .bool b3, .slice A8 l4.length c9, .slice bT u5.length bU])), (31, .v (.int .i64 ((k : Nat) : Int)))] aH dL fun ki dM => ?_
   clear dL
   refine of_op (wpOp_call dM (f := 57) (vs := [.agg #[.int .i64 n1, .slice A6 s2.length c7, .bool b3, .slice A8 l4.length c9, .slice bT u5.length bU], .int .i64 ((k : Nat) : Int)]) (d := 32) kz Tryz.call57 (sAt _ _ k _ _ (ht.move aH.step nilM aH.imm)) ?_)
   rintro e_ kj ⟨iW, rfl, gb, aL⟩
   have aM := gb.move aL nilM (fun b o h_ hb_ => aH.laid (G := F) aL b o (.inl h_) (Nat.lt_of_lt_of_le hb_ aL.size))
   obtain ⟨aN, aO, aP, aQ, aR, aS, aT, aU, aV, aW, aX, iX, iY, cC, ik, il, km, ko⟩ := aM.open_
   rw [cC] at aM
   have im := ik.small
   have io := il.small
   rw [cC]
   refine ⟨_, rfl, fun kp dN => ?_⟩
   have dO := aH.next_nil aL
   have cD := aH.frN aL
   clear dM
   refine of_op (wpOp_alloc dO dN (d := 13) (cs := [.int .i64 0, .slice none 0 0, .bool false, .slice none 0 0, .slice none 0 0]) kz fun ip kq ku iZ i6 ay dP dQ => ?_)
   clear dN dO
   refine of_op (wpOp_store dP dQ (oi := 3) (cs := [.int .i64 aN, .slice aS aO.length aT, .bool aP, .slice aU aQ.length aV, .slice aW aR.length aX]) kz fun kv az ac dR => ?_)
   clear dQ dP
   refine wpOps_nil (then_normal ?_)
   refine wp_seq ?_
   refine wp_seq (wp_join (Mid := fun a_ w_ => LInv ac 120 [⟨dE, 0, [.int .i64 n1, .slice A6 s2.length c7, .bool b3, .slice A8 l4.length c9, .slice bT u5.length bU], true⟩, ⟨dF, 0, [.int .i64 dh, .slice dl di.length dp, .bool dj, .slice bV aG.length ce, .slice bW aB.length cm], true⟩, ⟨ij, 0, [.int .i64 aj, .int .i64 ak, .int .i64 al, .int .i64 am, .int .i64 ag, .int .i64 ao, .int .i64 aa, .slice ap ab.length ar], true⟩, ⟨ip, 0, [.int .i64 aN, .slice aS aO.length aT, .bool aP, .slice aU aQ.length aV, .slice aW aR.length aX], true⟩] [] [(0, .v (.slice A l.length c)), (1, .v (.int .i64 v)), (2, .v (.bool flex)), (8, .p 0 0), (9, .p 1 0), (11, .v (.int .i64 ((k : Nat) : Int))), (12, .p 2 0), (13, .p 3 0), (23, .v (.slice A l.length c)), (24, .v (.int .i64 ((l.length : Nat) : Int))), (25, .v (.int .i64 ((k : Nat) : Int))), (54, .v (.bool (Fld.pres (Fld.mk aj ak al am ag ao aa ab) v flex (Tree.at_ (Tree.mk n1 s2 b3 l4 u5) k))))] a_ w_) ?_ ?_)
   ·
    refine go_region [0, 1, 2, 3, 4, 5, 6, 7, 8, 9, 10, 11, 12, 13, 14, 15, 16, 17, 18, 19, 20, 21] kz ?_
    refine go_rn [0, 1, 2, 3] [4, 5, 6, 7, 8, 9, 10, 11, 12, 13, 14, 15, 16, 17, 18, 19, 20, 21] [(0, .v (.slice A l.length c)), (1, .v (.int .i64 v)), (2, .v (.bool flex)), (8, .p 0 0), (9, .p 1 0), (11, .v (.int .i64 ((k : Nat) : Int))), (12, .p 2 0), (13, .p 3 0), (23, .v (.slice A l.length c)), (24, .v (.int .i64 ((l.length : Nat) : Int))), (25, .v (.int .i64 ((k : Nat) : Int))), (36, .v (.bool (decide (ag < 0))))] ac dR fun kw bG => ?_
    clear dR
    refine (Bool.eq_false_or_eq_true (decide (ag < 0))).elim (fun aY => ?_) (fun aY => ?_)
    ·
     have i7 := of_decide_eq_true aY
     have dS := bG.cast (env' := [(0, .v (.slice A l.length c)), (1, .v (.int .i64 v)), (2, .v (.bool flex)), (8, .p 0 0), (9, .p 1 0), (11, .v (.int .i64 ((k : Nat) : Int))), (12, .p 2 0), (13, .p 3 0), (23, .v (.slice A l.length c)), (24, .v (.int .i64 ((l.length : Nat) : Int))), (25, .v (.int .i64 ((k : Nat) : Int))), (36, .v (.bool true))]) (by rw [aY])
     clear bG
     refine go_rn [4, 5] [6, 7, 8, 9, 10, 11, 12, 13, 14, 15, 16, 17, 18, 19, 20, 21] [(0, .v (.slice A l.length c)), (1, .v (.int .i64 v)), (2, .v (.bool flex)), (8, .p 0 0), (9, .p 1 0), (11, .v (.int .i64 ((k : Nat) : Int))), (12, .p 2 0), (13, .p 3 0), (23, .v (.slice A l.length c)), (24, .v (.int .i64 ((l.length : Nat) : Int))), (25, .v (.int .i64 ((k : Nat) : Int))), (36, .v (.bool true)), (37, .v (.agg #[.int .i64 aj, .int .i64 ak, .int .i64 al, .int .i64 am, .int .i64 ag, .int .i64 ao, .int .i64 aa, .slice ap ab.length ar])), (38, .v (.int .i64 v))] ac dS fun kx dT => ?_
     clear dS
     refine of_op (wpOp_call dT (f := 58) (vs := [.agg #[.int .i64 aj, .int .i64 ak, .int .i64 al, .int .i64 am, .int .i64 ag, .int .i64 ao, .int .i64 aa, .slice ap ab.length ar], .int .i64 v]) (d := 39) kz Tryz.call58 (sHas aj ak al am ag ao aa ab _ _ v _) ?_)
     rintro e_ ky ⟨rfl, dU⟩
     refine ⟨_, rfl, fun kA dV => ?_⟩
     have ae := ac.next_nil dU
     have aI := ac.frN dU
     clear dT
     refine go_rn [7, 8] [9, 10, 11, 12, 13, 14, 15, 16, 17, 18, 19, 20, 21] [(0, .v (.slice A l.length c)), (1, .v (.int .i64 v)), (2, .v (.bool flex)), (8, .p 0 0), (9, .p 1 0), (11, .v (.int .i64 ((k : Nat) : Int))), (12, .p 2 0), (13, .p 3 0), (23, .v (.slice A l.length c)), (24, .v (.int .i64 ((l.length : Nat) : Int))), (25, .v (.int .i64 ((k : Nat) : Int))), (41, .v (.bool (Fld.has (Fld.mk aj ak al am ag ao aa ab) v)))] ae dV fun kB bH => ?_
     clear dV
     refine (Bool.eq_false_or_eq_true (Fld.has (Fld.mk aj ak al am ag ao aa ab) v)).elim (fun cE => ?_) (fun cE => ?_)
     ·
      have dW := bH.cast (env' := [(0, .v (.slice A l.length c)), (1, .v (.int .i64 v)), (2, .v (.bool flex)), (8, .p 0 0), (9, .p 1 0), (11, .v (.int .i64 ((k : Nat) : Int))), (12, .p 2 0), (13, .p 3 0), (23, .v (.slice A l.length c)), (24, .v (.int .i64 ((l.length : Nat) : Int))), (25, .v (.int .i64 ((k : Nat) : Int))), (41, .v (.bool true))]) (by rw [cE])
      clear bH
      refine go_rn [9, 10, 11, 12, 13, 14, 15, 16, 17, 18, 19, 20, 21] [] [(0, .v (.slice A l.length c)), (1, .v (.int .i64 v)), (2, .v (.bool flex)), (8, .p 0 0), (9, .p 1 0), (11, .v (.int .i64 ((k : Nat) : Int))), (12, .p 2 0), (13, .p 3 0), (23, .v (.slice A l.length c)), (24, .v (.int .i64 ((l.length : Nat) : Int))), (25, .v (.int .i64 ((k : Nat) : Int))), (54, .v (.bool true))] ae dW fun kC gc => ?_
      clear dW
      refine wpOps_nil (then_normal ?_)
      have hp_ : Fld.pres (Fld.mk aj ak al am ag ao aa ab) v flex (Tree.at_ (Tree.mk n1 s2 b3 l4 u5) k) = true := by first | (first | exact pres_a (by assumption) (by assumption) | exact pres_b (by assumption) (by assumption) (by assumption)) | (exfalso; omega)
      exact ⟨(gc.pk (env' := [(0, .v (.slice A l.length c)), (1, .v (.int .i64 v)), (2, .v (.bool flex)), (8, .p 0 0), (9, .p 1 0), (11, .v (.int .i64 ((k : Nat) : Int))), (12, .p 2 0), (13, .p 3 0), (23, .v (.slice A l.length c)), (24, .v (.int .i64 ((l.length : Nat) : Int))), (25, .v (.int .i64 ((k : Nat) : Int))), (54, .v (.bool true))])).cast (by rw [hp_]), ae, aI⟩
     ·
      have dX := bH.cast (env' := [(0, .v (.slice A l.length c)), (1, .v (.int .i64 v)), (2, .v (.bool flex)), (8, .p 0 0), (9, .p 1 0), (11, .v (.int .i64 ((k : Nat) : Int))), (12, .p 2 0), (13, .p 3 0), (23, .v (.slice A l.length c)), (24, .v (.int .i64 ((l.length : Nat) : Int))), (25, .v (.int .i64 ((k : Nat) : Int))), (41, .v (.bool false))]) (by rw [cE])
      clear bH
      refine go_rn [9, 10, 11, 12] [13, 14, 15, 16, 17, 18, 19, 20, 21] [(0, .v (.slice A l.length c)), (1, .v (.int .i64 v)), (2, .v (.bool flex)), (8, .p 0 0), (9, .p 1 0), (11, .v (.int .i64 ((k : Nat) : Int))), (12, .p 2 0), (13, .p 3 0), (23, .v (.slice A l.length c)), (24, .v (.int .i64 ((l.length : Nat) : Int))), (25, .v (.int .i64 ((k : Nat) : Int))), (41, .v (.bool false)), (45, .v (.bool (decide (ag ≥ 0))))] ae dX fun kD bI => ?_
      clear dX
      refine (Bool.eq_false_or_eq_true (decide (ag ≥ 0))).elim (fun aZ => ?_) (fun aZ => ?_)
      ·
       have ja := of_decide_eq_true aZ
       have dY := bI.cast (env' := [(0, .v (.slice A l.length c)), (1, .v (.int .i64 v)), (2, .v (.bool flex)), (8, .p 0 0), (9, .p 1 0), (11, .v (.int .i64 ((k : Nat) : Int))), (12, .p 2 0), (13, .p 3 0), (23, .v (.slice A l.length c)), (24, .v (.int .i64 ((l.length : Nat) : Int))), (25, .v (.int .i64 ((k : Nat) : Int))), (41, .v (.bool false)), (45, .v (.bool true))]) (by rw [aZ])
       clear bI
       refine go_rn [13, 14, 15] [16, 17, 18, 19, 20, 21] [(0, .v (.slice A l.length c)), (1, .v (.int .i64 v)), (2, .v (.bool flex)), (8, .p 0 0), (9, .p 1 0), (11, .v (.int .i64 ((k : Nat) : Int))), (12, .p 2 0), (13, .p 3 0), (23, .v (.slice A l.length c)), (24, .v (.int .i64 ((l.length : Nat) : Int))), (25, .v (.int .i64 ((k : Nat) : Int))), (41, .v (.bool false)), (48, .v (.bool flex))] ae dY fun kE bJ => ?_
       clear dY
       refine (Bool.eq_false_or_eq_true (flex)).elim (fun ba => ?_) (fun ba => ?_)
       ·
        have dZ := bJ.cast (env' := [(0, .v (.slice A l.length c)), (1, .v (.int .i64 v)), (2, .v (.bool true)), (8, .p 0 0), (9, .p 1 0), (11, .v (.int .i64 ((k : Nat) : Int))), (12, .p 2 0), (13, .p 3 0), (23, .v (.slice A l.length c)), (24, .v (.int .i64 ((l.length : Nat) : Int))), (25, .v (.int .i64 ((k : Nat) : Int))), (41, .v (.bool false)), (48, .v (.bool true))]) (by rw [ba])
        clear bJ
        refine go_rn [16, 17] [18, 19, 20, 21] [(0, .v (.slice A l.length c)), (1, .v (.int .i64 v)), (2, .v (.bool true)), (8, .p 0 0), (9, .p 1 0), (11, .v (.int .i64 ((k : Nat) : Int))), (12, .p 2 0), (13, .p 3 0), (23, .v (.slice A l.length c)), (24, .v (.int .i64 ((l.length : Nat) : Int))), (25, .v (.int .i64 ((k : Nat) : Int))), (41, .v (.bool false)), (48, .v (.bool true)), (49, .v (.agg #[.int .i64 aj, .int .i64 ak, .int .i64 al, .int .i64 am, .int .i64 ag, .int .i64 ao, .int .i64 aa, .slice ap ab.length ar])), (50, .v (.agg #[.int .i64 aN, .slice aS aO.length aT, .bool aP, .slice aU aQ.length aV, .slice aW aR.length aX]))] ae dZ fun kF d5 => ?_
        clear dZ
        refine of_op (wpOp_call d5 (f := 59) (vs := [.agg #[.int .i64 aj, .int .i64 ak, .int .i64 al, .int .i64 am, .int .i64 ag, .int .i64 ao, .int .i64 aa, .slice ap ab.length ar], .agg #[.int .i64 aN, .slice aS aO.length aT, .bool aP, .slice aU aQ.length aV, .slice aW aR.length aX]]) (d := 51) kz Tryz.call59 (sUsual _ _ _ _ _ _ _ (bC.move ae.step nilM ae.imm) (Nat.le_refl _) (aM.move ((ay.trans az).trans aI).step immM ((ay.trans az).trans aI).to')) ?_)
        rintro e_ kG ⟨rfl, d6⟩
        refine ⟨_, rfl, fun kH d7 => ?_⟩
        have d8 := ae.next_nil d6
        have gd := ae.frN d6
        clear d5 ae
        refine go_rn [19, 20, 21] [] [(0, .v (.slice A l.length c)), (1, .v (.int .i64 v)), (2, .v (.bool true)), (8, .p 0 0), (9, .p 1 0), (11, .v (.int .i64 ((k : Nat) : Int))), (12, .p 2 0), (13, .p 3 0), (23, .v (.slice A l.length c)), (24, .v (.int .i64 ((l.length : Nat) : Int))), (25, .v (.int .i64 ((k : Nat) : Int))), (54, .v (.bool (!(Fld.usual (Fld.mk aj ak al am ag ao aa ab) (Tree.at_ (Tree.mk n1 s2 b3 l4 u5) k)))))] d8 d7 fun kI ge => ?_
        clear d7
        refine wpOps_nil (then_normal ?_)
        have hp_ : Fld.pres (Fld.mk aj ak al am ag ao aa ab) v flex (Tree.at_ (Tree.mk n1 s2 b3 l4 u5) k) = !(Fld.usual (Fld.mk aj ak al am ag ao aa ab) (Tree.at_ (Tree.mk n1 s2 b3 l4 u5) k)) := by first | (first | exact pres_f (by assumption) (by assumption) | exact pres_g (by assumption)) | (exfalso; omega)
        exact ⟨(ge.pk (env' := [(0, .v (.slice A l.length c)), (1, .v (.int .i64 v)), (2, .v (.bool true)), (8, .p 0 0), (9, .p 1 0), (11, .v (.int .i64 ((k : Nat) : Int))), (12, .p 2 0), (13, .p 3 0), (23, .v (.slice A l.length c)), (24, .v (.int .i64 ((l.length : Nat) : Int))), (25, .v (.int .i64 ((k : Nat) : Int))), (54, .v (.bool (!(Fld.usual (Fld.mk aj ak al am ag ao aa ab) (Tree.at_ (Tree.mk n1 s2 b3 l4 u5) k)))))])).cast (by rw [hp_, ba]), d8, (aI.trans gd)⟩
       ·
        have d9 := bJ.cast (env' := [(0, .v (.slice A l.length c)), (1, .v (.int .i64 v)), (2, .v (.bool false)), (8, .p 0 0), (9, .p 1 0), (11, .v (.int .i64 ((k : Nat) : Int))), (12, .p 2 0), (13, .p 3 0), (23, .v (.slice A l.length c)), (24, .v (.int .i64 ((l.length : Nat) : Int))), (25, .v (.int .i64 ((k : Nat) : Int))), (41, .v (.bool false)), (48, .v (.bool false))]) (by rw [ba])
        clear bJ
        refine go_rn [16, 17, 18, 19, 20, 21] [] [(0, .v (.slice A l.length c)), (1, .v (.int .i64 v)), (2, .v (.bool false)), (8, .p 0 0), (9, .p 1 0), (11, .v (.int .i64 ((k : Nat) : Int))), (12, .p 2 0), (13, .p 3 0), (23, .v (.slice A l.length c)), (24, .v (.int .i64 ((l.length : Nat) : Int))), (25, .v (.int .i64 ((k : Nat) : Int))), (54, .v (.bool false))] ae d9 fun kJ gg => ?_
        clear d9
        refine wpOps_nil (then_normal ?_)
        have hp_ : Fld.pres (Fld.mk aj ak al am ag ao aa ab) v flex (Tree.at_ (Tree.mk n1 s2 b3 l4 u5) k) = false := by first | (first | exact pres_c (by assumption) (by assumption) | exact pres_d (by assumption) (by assumption) | exact pres_e (by assumption) (by assumption)) | (exfalso; omega)
        exact ⟨(gg.pk (env' := [(0, .v (.slice A l.length c)), (1, .v (.int .i64 v)), (2, .v (.bool false)), (8, .p 0 0), (9, .p 1 0), (11, .v (.int .i64 ((k : Nat) : Int))), (12, .p 2 0), (13, .p 3 0), (23, .v (.slice A l.length c)), (24, .v (.int .i64 ((l.length : Nat) : Int))), (25, .v (.int .i64 ((k : Nat) : Int))), (54, .v (.bool false))])).cast (by rw [hp_, ba]), ae, aI⟩
      ·
       have jb := of_decide_eq_false aZ
       have ea := bI.cast (env' := [(0, .v (.slice A l.length c)), (1, .v (.int .i64 v)), (2, .v (.bool flex)), (8, .p 0 0), (9, .p 1 0), (11, .v (.int .i64 ((k : Nat) : Int))), (12, .p 2 0), (13, .p 3 0), (23, .v (.slice A l.length c)), (24, .v (.int .i64 ((l.length : Nat) : Int))), (25, .v (.int .i64 ((k : Nat) : Int))), (41, .v (.bool false)), (45, .v (.bool false))]) (by rw [aZ])
       clear bI
       refine go_rn [13, 14, 15, 16, 17, 18, 19, 20, 21] [] [(0, .v (.slice A l.length c)), (1, .v (.int .i64 v)), (2, .v (.bool flex)), (8, .p 0 0), (9, .p 1 0), (11, .v (.int .i64 ((k : Nat) : Int))), (12, .p 2 0), (13, .p 3 0), (23, .v (.slice A l.length c)), (24, .v (.int .i64 ((l.length : Nat) : Int))), (25, .v (.int .i64 ((k : Nat) : Int))), (54, .v (.bool false))] ae ea fun kK gh => ?_
       clear ea
       refine wpOps_nil (then_normal ?_)
       have hp_ : Fld.pres (Fld.mk aj ak al am ag ao aa ab) v flex (Tree.at_ (Tree.mk n1 s2 b3 l4 u5) k) = false := by first | (first | exact pres_c (by assumption) (by assumption) | exact pres_d (by assumption) (by assumption) | exact pres_e (by assumption) (by assumption)) | (exfalso; omega)
       exact ⟨(gh.pk (env' := [(0, .v (.slice A l.length c)), (1, .v (.int .i64 v)), (2, .v (.bool flex)), (8, .p 0 0), (9, .p 1 0), (11, .v (.int .i64 ((k : Nat) : Int))), (12, .p 2 0), (13, .p 3 0), (23, .v (.slice A l.length c)), (24, .v (.int .i64 ((l.length : Nat) : Int))), (25, .v (.int .i64 ((k : Nat) : Int))), (54, .v (.bool false))])).cast (by rw [hp_]), ae, aI⟩
    ·
     have jc := of_decide_eq_false aY
     have eb := bG.cast (env' := [(0, .v (.slice A l.length c)), (1, .v (.int .i64 v)), (2, .v (.bool flex)), (8, .p 0 0), (9, .p 1 0), (11, .v (.int .i64 ((k : Nat) : Int))), (12, .p 2 0), (13, .p 3 0), (23, .v (.slice A l.length c)), (24, .v (.int .i64 ((l.length : Nat) : Int))), (25, .v (.int .i64 ((k : Nat) : Int))), (36, .v (.bool false))]) (by rw [aY])
     clear bG
     refine go_rn [4, 5, 6, 7, 8, 9, 10, 11, 12] [13, 14, 15, 16, 17, 18, 19, 20, 21] [(0, .v (.slice A l.length c)), (1, .v (.int .i64 v)), (2, .v (.bool flex)), (8, .p 0 0), (9, .p 1 0), (11, .v (.int .i64 ((k : Nat) : Int))), (12, .p 2 0), (13, .p 3 0), (23, .v (.slice A l.length c)), (24, .v (.int .i64 ((l.length : Nat) : Int))), (25, .v (.int .i64 ((k : Nat) : Int))), (41, .v (.bool false)), (45, .v (.bool (decide (ag ≥ 0))))] ac eb fun kL bK => ?_
     clear eb
     refine (Bool.eq_false_or_eq_true (decide (ag ≥ 0))).elim (fun bd => ?_) (fun bd => ?_)
     ·
      have jd := of_decide_eq_true bd
      have ec := bK.cast (env' := [(0, .v (.slice A l.length c)), (1, .v (.int .i64 v)), (2, .v (.bool flex)), (8, .p 0 0), (9, .p 1 0), (11, .v (.int .i64 ((k : Nat) : Int))), (12, .p 2 0), (13, .p 3 0), (23, .v (.slice A l.length c)), (24, .v (.int .i64 ((l.length : Nat) : Int))), (25, .v (.int .i64 ((k : Nat) : Int))), (41, .v (.bool false)), (45, .v (.bool true))]) (by rw [bd])
      clear bK
      refine go_rn [13, 14, 15] [16, 17, 18, 19, 20, 21] [(0, .v (.slice A l.length c)), (1, .v (.int .i64 v)), (2, .v (.bool flex)), (8, .p 0 0), (9, .p 1 0), (11, .v (.int .i64 ((k : Nat) : Int))), (12, .p 2 0), (13, .p 3 0), (23, .v (.slice A l.length c)), (24, .v (.int .i64 ((l.length : Nat) : Int))), (25, .v (.int .i64 ((k : Nat) : Int))), (41, .v (.bool false)), (48, .v (.bool flex))] ac ec fun kM bL => ?_
      clear ec
      refine (Bool.eq_false_or_eq_true (flex)).elim (fun bf => ?_) (fun bf => ?_)
      ·
       have ee := bL.cast (env' := [(0, .v (.slice A l.length c)), (1, .v (.int .i64 v)), (2, .v (.bool true)), (8, .p 0 0), (9, .p 1 0), (11, .v (.int .i64 ((k : Nat) : Int))), (12, .p 2 0), (13, .p 3 0), (23, .v (.slice A l.length c)), (24, .v (.int .i64 ((l.length : Nat) : Int))), (25, .v (.int .i64 ((k : Nat) : Int))), (41, .v (.bool false)), (48, .v (.bool true))]) (by rw [bf])
       clear bL
       refine go_rn [16, 17] [18, 19, 20, 21] [(0, .v (.slice A l.length c)), (1, .v (.int .i64 v)), (2, .v (.bool true)), (8, .p 0 0), (9, .p 1 0), (11, .v (.int .i64 ((k : Nat) : Int))), (12, .p 2 0), (13, .p 3 0), (23, .v (.slice A l.length c)), (24, .v (.int .i64 ((l.length : Nat) : Int))), (25, .v (.int .i64 ((k : Nat) : Int))), (41, .v (.bool false)), (48, .v (.bool true)), (49, .v (.agg #[.int .i64 aj, .int .i64 ak, .int .i64 al, .int .i64 am, .int .i64 ag, .int .i64 ao, .int .i64 aa, .slice ap ab.length ar])), (50, .v (.agg #[.int .i64 aN, .slice aS aO.length aT, .bool aP, .slice aU aQ.length aV, .slice aW aR.length aX]))] ac ee fun kN ef => ?_
       clear ee
       refine of_op (wpOp_call ef (f := 59) (vs := [.agg #[.int .i64 aj, .int .i64 ak, .int .i64 al, .int .i64 am, .int .i64 ag, .int .i64 ao, .int .i64 aa, .slice ap ab.length ar], .agg #[.int .i64 aN, .slice aS aO.length aT, .bool aP, .slice aU aQ.length aV, .slice aW aR.length aX]]) (d := 51) kz Tryz.call59 (sUsual _ _ _ _ _ _ _ (bC.move ac.step nilM ac.imm) (Nat.le_refl _) (aM.move (ay.trans az).step immM (ay.trans az).to')) ?_)
       rintro e_ kO ⟨rfl, eg⟩
       refine ⟨_, rfl, fun kP eh => ?_⟩
       have ei := ac.next_nil eg
       have gi := ac.frN eg
       clear ef
       refine go_rn [19, 20, 21] [] [(0, .v (.slice A l.length c)), (1, .v (.int .i64 v)), (2, .v (.bool true)), (8, .p 0 0), (9, .p 1 0), (11, .v (.int .i64 ((k : Nat) : Int))), (12, .p 2 0), (13, .p 3 0), (23, .v (.slice A l.length c)), (24, .v (.int .i64 ((l.length : Nat) : Int))), (25, .v (.int .i64 ((k : Nat) : Int))), (54, .v (.bool (!(Fld.usual (Fld.mk aj ak al am ag ao aa ab) (Tree.at_ (Tree.mk n1 s2 b3 l4 u5) k)))))] ei eh fun kQ gj => ?_
       clear eh
       refine wpOps_nil (then_normal ?_)
       have hp_ : Fld.pres (Fld.mk aj ak al am ag ao aa ab) v flex (Tree.at_ (Tree.mk n1 s2 b3 l4 u5) k) = !(Fld.usual (Fld.mk aj ak al am ag ao aa ab) (Tree.at_ (Tree.mk n1 s2 b3 l4 u5) k)) := by first | (first | exact pres_f (by assumption) (by assumption) | exact pres_g (by assumption)) | (exfalso; omega)
       exact ⟨(gj.pk (env' := [(0, .v (.slice A l.length c)), (1, .v (.int .i64 v)), (2, .v (.bool true)), (8, .p 0 0), (9, .p 1 0), (11, .v (.int .i64 ((k : Nat) : Int))), (12, .p 2 0), (13, .p 3 0), (23, .v (.slice A l.length c)), (24, .v (.int .i64 ((l.length : Nat) : Int))), (25, .v (.int .i64 ((k : Nat) : Int))), (54, .v (.bool (!(Fld.usual (Fld.mk aj ak al am ag ao aa ab) (Tree.at_ (Tree.mk n1 s2 b3 l4 u5) k)))))])).cast (by rw [hp_, bf]), ei, gi⟩
      ·
       have ej := bL.cast (env' := [(0, .v (.slice A l.length c)), (1, .v (.int .i64 v)), (2, .v (.bool false)), (8, .p 0 0), (9, .p 1 0), (11, .v (.int .i64 ((k : Nat) : Int))), (12, .p 2 0), (13, .p 3 0), (23, .v (.slice A l.length c)), (24, .v (.int .i64 ((l.length : Nat) : Int))), (25, .v (.int .i64 ((k : Nat) : Int))), (41, .v (.bool false)), (48, .v (.bool false))]) (by rw [bf])
       clear bL
       refine go_rn [16, 17, 18, 19, 20, 21] [] [(0, .v (.slice A l.length c)), (1, .v (.int .i64 v)), (2, .v (.bool false)), (8, .p 0 0), (9, .p 1 0), (11, .v (.int .i64 ((k : Nat) : Int))), (12, .p 2 0), (13, .p 3 0), (23, .v (.slice A l.length c)), (24, .v (.int .i64 ((l.length : Nat) : Int))), (25, .v (.int .i64 ((k : Nat) : Int))), (54, .v (.bool false))] ac ej fun kR gk => ?_
       clear ej
       refine wpOps_nil (then_normal ?_)
       have hp_ : Fld.pres (Fld.mk aj ak al am ag ao aa ab) v flex (Tree.at_ (Tree.mk n1 s2 b3 l4 u5) k) = false := by first | (first | exact pres_c (by assumption) (by assumption) | exact pres_d (by assumption) (by assumption) | exact pres_e (by assumption) (by assumption)) | (exfalso; omega)
       exact ⟨(gk.pk (env' := [(0, .v (.slice A l.length c)), (1, .v (.int .i64 v)), (2, .v (.bool false)), (8, .p 0 0), (9, .p 1 0), (11, .v (.int .i64 ((k : Nat) : Int))), (12, .p 2 0), (13, .p 3 0), (23, .v (.slice A l.length c)), (24, .v (.int .i64 ((l.length : Nat) : Int))), (25, .v (.int .i64 ((k : Nat) : Int))), (54, .v (.bool false))])).cast (by rw [hp_, bf]), ac, Fr.refl _ _ _⟩
     ·
      have je := of_decide_eq_false bd
      have ek := bK.cast (env' := [(0, .v (.slice A l.length c)), (1, .v (.int .i64 v)), (2, .v (.bool flex)), (8, .p 0 0), (9, .p 1 0), (11, .v (.int .i64 ((k : Nat) : Int))), (12, .p 2 0), (13, .p 3 0), (23, .v (.slice A l.length c)), (24, .v (.int .i64 ((l.length : Nat) : Int))), (25, .v (.int .i64 ((k : Nat) : Int))), (41, .v (.bool false)), (45, .v (.bool false))]) (by rw [bd])
      clear bK
      refine go_rn [13, 14, 15, 16, 17, 18, 19, 20, 21] [] [(0, .v (.slice A l.length c)), (1, .v (.int .i64 v)), (2, .v (.bool flex)), (8, .p 0 0), (9, .p 1 0), (11, .v (.int .i64 ((k : Nat) : Int))), (12, .p 2 0), (13, .p 3 0), (23, .v (.slice A l.length c)), (24, .v (.int .i64 ((l.length : Nat) : Int))), (25, .v (.int .i64 ((k : Nat) : Int))), (54, .v (.bool false))] ac ek fun kS gl => ?_
      clear ek
      refine wpOps_nil (then_normal ?_)
      have hp_ : Fld.pres (Fld.mk aj ak al am ag ao aa ab) v flex (Tree.at_ (Tree.mk n1 s2 b3 l4 u5) k) = false := by first | (first | exact pres_c (by assumption) (by assumption) | exact pres_d (by assumption) (by assumption) | exact pres_e (by assumption) (by assumption)) | (exfalso; omega)
      exact ⟨(gl.pk (env' := [(0, .v (.slice A l.length c)), (1, .v (.int .i64 v)), (2, .v (.bool flex)), (8, .p 0 0), (9, .p 1 0), (11, .v (.int .i64 ((k : Nat) : Int))), (12, .p 2 0), (13, .p 3 0), (23, .v (.slice A l.length c)), (24, .v (.int .i64 ((l.length : Nat) : Int))), (25, .v (.int .i64 ((k : Nat) : Int))), (54, .v (.bool false))])).cast (by rw [hp_]), ac, Fr.refl _ _ _⟩
   rintro kT kU ⟨bg, bM, bh⟩
   refine cond_of bg (b := Fld.pres (Fld.mk aj ak al am ag ao aa ab) v flex (Tree.at_ (Tree.mk n1 s2 b3 l4 u5) k)) kz (fun gm => ?_) (fun gm => ?_)
   ·
    refine wp_seq ?_
    refine go_seq_drawK 11 kz bM fun kV cG aC cH => ?_
    clear bM
    refine go_rnD [0, 1, 2, 3, 4, 5, 6] [(0, .v (.slice A l.length c)), (1, .v (.int .i64 v)), (2, .v (.bool flex)), (8, .p 0 0), (9, .p 1 0), (23, .v (.slice A l.length c)), (24, .v (.int .i64 ((l.length : Nat) : Int))), (25, .v (.int .i64 ((k : Nat) : Int))), (55, .v (.agg #[.int .i64 aj, .int .i64 ak, .int .i64 al, .int .i64 am, .int .i64 ag, .int .i64 ao, .int .i64 aa, .slice ap ab.length ar])), (56, .v (.int .i64 v)), (57, .v (.bool flex)), (58, .v (.agg #[.int .i64 aN, .slice aS aO.length aT, .bool aP, .slice aU aQ.length aV, .slice aW aR.length aX])), (60, .v (.slice bV aG.length ce)), (61, .v (.int .i64 ((k : Nat) : Int)))] 4 (panicFree_then (panicFree_then (panicFree_then (panicFree_block (panicFree_then (panicFree_then (panicFree_block (panicFree_then panicFree_body)))))))) (fun _ h => h.cells) cH bg fun kW em => ?_
    clear bg
    obtain ⟨iq, ir, gn, jf, cI⟩ := Slots.get ia (i := k) (by first | omega | (have h_ := told_idx hgu (by assumption); omega))
    obtain ⟨iu, eo⟩ : ∃ x, aG[k]? = some x := ⟨_, List.getElem?_eq_getElem (by omega)⟩
    have cJ := iO k iu eo
    obtain ⟨dq, dr, dt, du, dv, fO, fP, fQ, fR, fS, fT, jg, rfl, cK, iv, iw, kX, kY⟩ := cJ.open_
    rw [cK] at cJ
    have ix := iv.small
    have iy := iw.small
    rw [cK] at cI
    refine takeC_index em (i := 7) (t := 23) (A := bV) (m := aG.length) (q := ((k : Nat) : Int)) (d := 62) kz (e := 26) (size := 5) (bytes := 88) kz gn rfl (by first | omega | (have h_ := told_idx hgu (by assumption); omega)) kz kz (panicFree_then (panicFree_then (panicFree_then (panicFree_block (panicFree_then (panicFree_then (panicFree_block (panicFree_then panicFree_body)))))))) cH fun kZ ep => ?_
    clear em
    refine takeC_load ep (i := 8) (t := 26) (b := iq) (o := ir + k * 5) (d := 63) kz (cs := [.int .i64 dq, .slice fO dr.length fP, .bool dt, .slice fQ du.length fR, .slice fS dv.length fT]) (v := .agg #[.int .i64 dq, .slice fO dr.length fP, .bool dt, .slice fQ du.length fR, .slice fS dv.length fT]) kz (fun w' h' => (AtF.move cI (TT.step0 aC h') nilM keepF).at_) kz kz (panicFree_then (panicFree_then (panicFree_then (panicFree_block (panicFree_then (panicFree_then (panicFree_block (panicFree_then panicFree_body)))))))) cH fun k5 eu => ?_
    clear ep
    refine anyC_op (i := 9) kz (wpOp_call eu (f := 60) (vs := [.agg #[.int .i64 aj, .int .i64 ak, .int .i64 al, .int .i64 am, .int .i64 ag, .int .i64 ao, .int .i64 aa, .slice ap ab.length ar], .int .i64 v, .bool flex, .agg #[.int .i64 aN, .slice aS aO.length aT, .bool aP, .slice aU aQ.length aV, .slice aW aR.length aX], .agg #[.int .i64 dq, .slice fO dr.length fP, .bool dt, .slice fQ du.length fR, .slice fS dv.length fT]]) (d := 64) kz Tryz.call60 ( sTold1 hT _ _ _ (Tree.at_ (Tree.mk n1 s2 b3 l4 u5) k) _ (Tree.mk dq dr dt du dv) _ _ (bC.move aC.step nilM aC.imm) (plains_mem hpl (List.mem_of_getElem? cu)) (aM.move (((ay.trans az).trans bh).trans cG).step immM (((ay.trans az).trans bh).trans cG).to') (cJ.move aC.step nilM aC.imm) ((hP.2.1 k _ _ cu eo).1 (by assumption))) ?_)
    rintro e_ k6 ⟨rfl, ev⟩
    refine ⟨_, rfl, fun k7 ew => ?_⟩
    have cL := aC.next_nil ev
    have ey := aC.frN ev
    clear eu
    have ez := TT.ofW ey cL
    refine ⟨fun _ => ez, ?_⟩
    refine go_rnD [10] [(0, .v (.slice A l.length c)), (1, .v (.int .i64 v)), (2, .v (.bool flex)), (8, .p 0 0), (9, .p 1 0), (23, .v (.slice A l.length c)), (24, .v (.int .i64 ((l.length : Nat) : Int))), (25, .v (.int .i64 ((k : Nat) : Int))), (65, .v (.bool false))] 0 (panicFree_then (panicFree_then (panicFree_then (panicFree_block (panicFree_then (panicFree_then (panicFree_block (panicFree_then panicFree_body)))))))) (fun _ h => h.cells) ez ew fun k8 cM => ?_
    clear ew
    refine anyC_done kz ?_ _
    refine then_normal ?_
    refine cond_false cM (b := false) kz rfl ?_
    refine wp_skip ?_
    refine then_normal ?_
    refine wp_exit ?_
    refine then_exit ?_
    refine block_exit ?_
    refine then_normal ?_
    refine go_region [0, 1] kz ?_
    refine go_rn [0, 1] [] [(0, .v (.slice A l.length c)), (1, .v (.int .i64 v)), (2, .v (.bool flex)), (8, .p 0 0), (9, .p 1 0), (23, .v (.slice A l.length c)), (24, .v (.int .i64 ((l.length : Nat) : Int))), (25, .v (.int .i64 (IntKind.i64.wrap (((k : Nat) : Int) + 1))))] cL cM fun k9 gp => ?_
    clear cM
    refine wpOps_nil (then_normal ?_)
    obtain ⟨eB, gq, gt⟩ := cL.cutB gp 2 [⟨dE, 0, [.int .i64 n1, .slice A6 s2.length c7, .bool b3, .slice A8 l4.length c9, .slice bT u5.length bU], true⟩, ⟨dF, 0, [.int .i64 dh, .slice dl di.length dp, .bool dj, .slice bV aG.length ce, .slice bW aB.length cm], true⟩] [(0, .v (.slice A l.length c)), (1, .v (.int .i64 v)), (2, .v (.bool flex)), (8, .p 0 0), (9, .p 1 0), (23, .v (.slice A l.length c)), (24, .v (.int .i64 ((l.length : Nat) : Int))), (25, .v (.int .i64 (IntKind.i64.wrap (((k : Nat) : Int) + 1))))]
    have gv : IntKind.i64.wrap (((k : Nat) : Int) + 1) = ((k + 1 : Nat) : Int) := wrap_succ (by omega)
    rw [gv] at eB
    exact ⟨l.length - (k + 1), by omega, k + 1, rfl, by omega, eB.pk, gq, (((((((((fM.trans cz).trans cB).trans cD).trans ay).trans az).trans bh).trans cG).trans ey).trans gt)⟩
   ·
    refine wp_skip ?_
    refine then_normal ?_
    refine go_seq_drawK 11 kz bM fun la eC cN cO => ?_
    clear bM
    refine go_rnD [0, 2, 3, 4] [(0, .v (.slice A l.length c)), (1, .v (.int .i64 v)), (2, .v (.bool flex)), (8, .p 0 0), (9, .p 1 0), (23, .v (.slice A l.length c)), (24, .v (.int .i64 ((l.length : Nat) : Int))), (25, .v (.int .i64 ((k : Nat) : Int))), (66, .v (.agg #[.int .i64 aj, .int .i64 ak, .int .i64 al, .int .i64 am, .int .i64 ag, .int .i64 ao, .int .i64 aa, .slice ap ab.length ar])), (69, .v (.slice bV aG.length ce)), (70, .v (.int .i64 ((k : Nat) : Int)))] 7 (panicFree_then (panicFree_block (panicFree_then (panicFree_then (panicFree_block (panicFree_then panicFree_body)))))) (fun _ h => h.cells) cO bg fun lb eD => ?_
    clear bg
    obtain ⟨iz, iA, gw, jh, cP⟩ := Slots.get ia (i := k) (by first | omega | (have h_ := told_idx hgu (by assumption); omega))
    obtain ⟨iB, cQ⟩ : ∃ x, aG[k]? = some x := ⟨_, List.getElem?_eq_getElem (by omega)⟩
    have bN := iO k iB cQ
    obtain ⟨bX, bY, bZ, b8, cd, dw, dx, dy, dz, dA, dB, ji, rfl, cR, iC, iD, lc, ld⟩ := bN.open_
    rw [cR] at bN
    have iE := iC.small
    have iF := iD.small
    rw [cR] at cP
    refine takeC_index eD (i := 5) (t := 23) (A := bV) (m := aG.length) (q := ((k : Nat) : Int)) (d := 71) kz (e := 26) (size := 5) (bytes := 88) kz gw rfl (by first | omega | (have h_ := told_idx hgu (by assumption); omega)) kz kz (panicFree_then (panicFree_block (panicFree_then (panicFree_then (panicFree_block (panicFree_then panicFree_body)))))) cO fun lf eE => ?_
    clear eD
    refine takeC_load eE (i := 6) (t := 26) (b := iz) (o := iA + k * 5) (d := 72) kz (cs := [.int .i64 bX, .slice dw bY.length dx, .bool bZ, .slice dy b8.length dz, .slice dA cd.length dB]) (v := .agg #[.int .i64 bX, .slice dw bY.length dx, .bool bZ, .slice dy b8.length dz, .slice dA cd.length dB]) kz (fun w' h' => (AtF.move cP (TT.step0 cN h') nilM keepF).at_) kz kz (panicFree_then (panicFree_block (panicFree_then (panicFree_then (panicFree_block (panicFree_then panicFree_body)))))) cO fun lg bO => ?_
    clear eE
    refine anyC_two (i := 1) (j := 7) kz ?_ ?_
    ·
     refine (wpOp_lit cN bO (e := 52) (size := 8) (len := 1) (cs := [.int .i64 aj, .int .i64 ak, .int .i64 al, .int .i64 am, .int .i64 ag, .int .i64 ao, .int .i64 aa, .slice ap ab.length ar]) (d := 67) kz kz fun gx lh li jj jk bP cS eF => ?_)
     clear bO
     have gy := TT.ofW bP cS
     refine ⟨fun _ => gy, ?_⟩
     refine anyC_op (i := 7) kz (wpOp_lit cS eF (e := 26) (size := 5) (len := 1) (cs := [.int .i64 bX, .slice dw bY.length dx, .bool bZ, .slice dy b8.length dz, .slice dA cd.length dB]) (d := 73) kz kz fun gz lj lm jl jm cT au eG => ?_)
     clear eF cS
     have eH := TT.ofW (bP.trans cT) au
     refine ⟨fun _ => eH, ?_⟩
     refine go_rnD [8] [(0, .v (.slice A l.length c)), (1, .v (.int .i64 v)), (2, .v (.bool flex)), (8, .p 0 0), (9, .p 1 0), (23, .v (.slice A l.length c)), (24, .v (.int .i64 ((l.length : Nat) : Int))), (25, .v (.int .i64 ((k : Nat) : Int))), (67, .v (.slice (some ⟨gx, 0, none⟩) 1 1)), (74, .v (.agg #[.int .i64 0, .slice none 0 0, .bool false, .slice (some ⟨gz, 0, none⟩) 1 1, .slice none 0 0]))] 2 (panicFree_then (panicFree_block (panicFree_then (panicFree_then (panicFree_block (panicFree_then panicFree_body)))))) (fun _ h => h.cells) eH eG fun ln eI => ?_
     clear eG
     refine anyC_op (i := 9) kz (wpOp_call eI (f := 61) (vs := [.slice (some ⟨gx, 0, none⟩) 1 1, .agg #[.int .i64 0, .slice none 0 0, .bool false, .slice (some ⟨gz, 0, none⟩) 1 1, .slice none 0 0]]) (d := 75) kz Tryz.call61 ( sUs hU _ _ [(Fld.mk aj ak al am ag ao aa ab)] _ (.mk 0 [] false [(Tree.mk bX bY bZ b8 cd)] []) _ _ (flds_one (au.own 0 _ rfl) ((bC.move au.step nilM au.imm)) (Nat.le_refl _)) (tree_one (au.own 1 _ rfl) ((bN.move au.step nilM au.imm)) (Nat.le_refl _)) (us_one ((hP.2.1 k _ _ cu cQ).2 (by assumption)))) ?_)
     rintro e_ lp ⟨rfl, eJ⟩
     refine ⟨_, rfl, fun lq eK => ?_⟩
     have cU := au.next_nil eJ
     have eL := au.frN eJ
     clear eI au
     have eM := TT.ofW ((bP.trans cT).trans eL) cU
     refine ⟨fun _ => eM, ?_⟩
     refine go_rnD [10] [(0, .v (.slice A l.length c)), (1, .v (.int .i64 v)), (2, .v (.bool flex)), (8, .p 0 0), (9, .p 1 0), (23, .v (.slice A l.length c)), (24, .v (.int .i64 ((l.length : Nat) : Int))), (25, .v (.int .i64 ((k : Nat) : Int))), (76, .v (.bool false))] 0 (panicFree_then (panicFree_block (panicFree_then (panicFree_then (panicFree_block (panicFree_then panicFree_body)))))) (fun _ h => h.cells) eM eK fun lr cV => ?_
     clear eK
     refine anyC_done kz ?_ _
     refine then_normal ?_
     refine cond_false cV (b := false) kz rfl ?_
     refine wp_skip ?_
     refine block_normal ?_
     refine then_normal ?_
     refine go_region [0, 1] kz ?_
     refine go_rn [0, 1] [] [(0, .v (.slice A l.length c)), (1, .v (.int .i64 v)), (2, .v (.bool flex)), (8, .p 0 0), (9, .p 1 0), (23, .v (.slice A l.length c)), (24, .v (.int .i64 ((l.length : Nat) : Int))), (25, .v (.int .i64 (IntKind.i64.wrap (((k : Nat) : Int) + 1))))] cU cV fun ls gA => ?_
     clear cV
     refine wpOps_nil (then_normal ?_)
     obtain ⟨eN, gB, gC⟩ := cU.cutB gA 2 [⟨dE, 0, [.int .i64 n1, .slice A6 s2.length c7, .bool b3, .slice A8 l4.length c9, .slice bT u5.length bU], true⟩, ⟨dF, 0, [.int .i64 dh, .slice dl di.length dp, .bool dj, .slice bV aG.length ce, .slice bW aB.length cm], true⟩] [(0, .v (.slice A l.length c)), (1, .v (.int .i64 v)), (2, .v (.bool flex)), (8, .p 0 0), (9, .p 1 0), (23, .v (.slice A l.length c)), (24, .v (.int .i64 ((l.length : Nat) : Int))), (25, .v (.int .i64 (IntKind.i64.wrap (((k : Nat) : Int) + 1))))]
     obtain ⟨gD, gE⟩ := gB.cutR 0 []
     have gF : IntKind.i64.wrap (((k : Nat) : Int) + 1) = ((k + 1 : Nat) : Int) := wrap_succ (by omega)
     rw [gF] at eN
     exact ⟨l.length - (k + 1), by omega, k + 1, rfl, by omega, eN.pk, gD, ((((((((((((fM.trans cz).trans cB).trans cD).trans ay).trans az).trans bh).trans eC).trans bP).trans cT).trans eL).trans gC).trans gE)⟩
    ·
     refine (wpOp_lit cN bO (e := 26) (size := 5) (len := 1) (cs := [.int .i64 bX, .slice dw bY.length dx, .bool bZ, .slice dy b8.length dz, .slice dA cd.length dB]) (d := 73) kz kz fun gG lu lv jn jo bQ cW eO => ?_)
     clear bO
     have eP := TT.ofW bQ cW
     refine ⟨fun _ => eP, ?_⟩
     refine go_rnD [8] [(0, .v (.slice A l.length c)), (1, .v (.int .i64 v)), (2, .v (.bool flex)), (8, .p 0 0), (9, .p 1 0), (23, .v (.slice A l.length c)), (24, .v (.int .i64 ((l.length : Nat) : Int))), (25, .v (.int .i64 ((k : Nat) : Int))), (66, .v (.agg #[.int .i64 aj, .int .i64 ak, .int .i64 al, .int .i64 am, .int .i64 ag, .int .i64 ao, .int .i64 aa, .slice ap ab.length ar])), (74, .v (.agg #[.int .i64 0, .slice none 0 0, .bool false, .slice (some ⟨gG, 0, none⟩) 1 1, .slice none 0 0]))] 3 (panicFree_then (panicFree_block (panicFree_then (panicFree_then (panicFree_block (panicFree_then panicFree_body)))))) (fun _ h => h.cells) eP eO fun lw eQ => ?_
     clear eO
     refine anyC_op (i := 1) kz (wpOp_lit cW eQ (e := 52) (size := 8) (len := 1) (cs := [.int .i64 aj, .int .i64 ak, .int .i64 al, .int .i64 am, .int .i64 ag, .int .i64 ao, .int .i64 aa, .slice ap ab.length ar]) (d := 67) kz kz fun iG lx ly jp jq cX av eR => ?_)
     clear eQ cW
     have gH := TT.ofW (bQ.trans cX) av
     refine ⟨fun _ => gH, ?_⟩
     refine anyC_op (i := 9) kz (wpOp_call eR (f := 61) (vs := [.slice (some ⟨iG, 0, none⟩) 1 1, .agg #[.int .i64 0, .slice none 0 0, .bool false, .slice (some ⟨gG, 0, none⟩) 1 1, .slice none 0 0]]) (d := 75) kz Tryz.call61 ( sUs hU _ _ [(Fld.mk aj ak al am ag ao aa ab)] _ (.mk 0 [] false [(Tree.mk bX bY bZ b8 cd)] []) _ _ (flds_one (av.own 1 _ rfl) ((bC.move av.step nilM av.imm)) (Nat.le_refl _)) (tree_one (av.own 0 _ rfl) ((bN.move av.step nilM av.imm)) (Nat.le_refl _)) (us_one ((hP.2.1 k _ _ cu cQ).2 (by assumption)))) ?_)
     rintro e_ lz ⟨rfl, eS⟩
     refine ⟨_, rfl, fun lA eU => ?_⟩
     have cY := av.next_nil eS
     have eV := av.frN eS
     clear eR av
     have eW := TT.ofW ((bQ.trans cX).trans eV) cY
     refine ⟨fun _ => eW, ?_⟩
     refine go_rnD [10] [(0, .v (.slice A l.length c)), (1, .v (.int .i64 v)), (2, .v (.bool flex)), (8, .p 0 0), (9, .p 1 0), (23, .v (.slice A l.length c)), (24, .v (.int .i64 ((l.length : Nat) : Int))), (25, .v (.int .i64 ((k : Nat) : Int))), (76, .v (.bool false))] 0 (panicFree_then (panicFree_block (panicFree_then (panicFree_then (panicFree_block (panicFree_then panicFree_body)))))) (fun _ h => h.cells) eW eU fun lB cZ => ?_
     clear eU
     refine anyC_done kz ?_ _
     refine then_normal ?_
     refine cond_false cZ (b := false) kz rfl ?_
     refine wp_skip ?_
     refine block_normal ?_
     refine then_normal ?_
     refine go_region [0, 1] kz ?_
     refine go_rn [0, 1] [] [(0, .v (.slice A l.length c)), (1, .v (.int .i64 v)), (2, .v (.bool flex)), (8, .p 0 0), (9, .p 1 0), (23, .v (.slice A l.length c)), (24, .v (.int .i64 ((l.length : Nat) : Int))), (25, .v (.int .i64 (IntKind.i64.wrap (((k : Nat) : Int) + 1))))] cY cZ fun lC gI => ?_
     clear cZ
     refine wpOps_nil (then_normal ?_)
     obtain ⟨eX, gJ, gK⟩ := cY.cutB gI 2 [⟨dE, 0, [.int .i64 n1, .slice A6 s2.length c7, .bool b3, .slice A8 l4.length c9, .slice bT u5.length bU], true⟩, ⟨dF, 0, [.int .i64 dh, .slice dl di.length dp, .bool dj, .slice bV aG.length ce, .slice bW aB.length cm], true⟩] [(0, .v (.slice A l.length c)), (1, .v (.int .i64 v)), (2, .v (.bool flex)), (8, .p 0 0), (9, .p 1 0), (23, .v (.slice A l.length c)), (24, .v (.int .i64 ((l.length : Nat) : Int))), (25, .v (.int .i64 (IntKind.i64.wrap (((k : Nat) : Int) + 1))))]
     obtain ⟨gL, gM⟩ := gJ.cutR 0 []
     have gN : IntKind.i64.wrap (((k : Nat) : Int) + 1) = ((k + 1 : Nat) : Int) := wrap_succ (by omega)
     rw [gN] at eX
     exact ⟨l.length - (k + 1), by omega, k + 1, rfl, by omega, eX.pk, gL, ((((((((((((fM.trans cz).trans cB).trans cD).trans ay).trans az).trans bh).trans eC).trans bQ).trans cX).trans eV).trans gK).trans gM)⟩
  ·
   have jr := of_decide_eq_false fN
   refine wp_exit ?_
   refine then_exit ?_
   refine then_exit ?_
   refine block_exit ?_
   refine then_normal ?_
   refine go_seq_region [0, 1, 2, 3, 4] kz ?_
   refine go_rn [0, 1, 2] [3, 4] [(2, .v (.bool flex)), (9, .p 1 0), (78, .v (.slice A l.length c)), (80, .v (.slice bT u5.length bU))] ax cr fun lD eY => ?_
   clear cr
   refine of_op (wpOp_call eY (f := 62) (vs := [.slice A l.length c, .slice bT u5.length bU]) (d := 81) kz Tryz.call62 (sUnknown _ _ l _ _ u5 _ _ ⟨xfs, (h1.move ax.step nilM ax.imm), (fun i_ x_ h_ => ((h2 i_ x_ h_).move ax.step nilM ax.imm))⟩ (jO.move ax.step nilM ax.imm)) ?_)
   rintro e_ lE ⟨ah, ai, rfl, gO, c5⟩
   have gP := gO.move (Step.refl _ Nil) nilM (ax.laid (G := F) c5)
   refine ⟨_, rfl, fun lF eZ => ?_⟩
   have af := ax.next_nil c5
   have js := ax.frN c5
   clear eY
   refine go_rn [4] [] [(2, .v (.bool flex)), (9, .p 1 0), (14, .v (.slice ah ((unknownT l u5).length) ai))] af eZ fun lG e9 => ?_
   clear eZ
   refine wpOps_nil (then_normal ?_)
   refine wp_seq ?_
   refine go_sp [(9, .p 1 0), (14, .v (.slice ah ((unknownT l u5).length) ai)), (83, .v (.bool (!flex)))] af e9 fun lH bi => ?_
   clear e9
   refine cond_of bi (b := !flex) kz (fun gQ => ?_) (fun gQ => ?_)
   ·
    refine go_region [0] kz ?_
    refine go_rn [0] [] [(9, .p 1 0), (14, .v (.slice none 0 0))] af bi fun lI fa => ?_
    clear bi
    refine wpOps_nil (then_normal ?_)
    refine wp_seq ?_
    refine go_sp [(9, .p 1 0), (14, .v (.slice none 0 0)), (89, .v (.bool (((aB.length : Nat) : Int) != 0)))] af fa fun lJ bj => ?_
    clear fa
    refine cond_of bj (b := ((aB.length : Nat) : Int) != 0) kz (fun c6 => ?_) (fun c6 => ?_)
    ·
     have jt : ((aB.length : Nat) : Int) ≠ 0 := by simpa using c6
     refine go_sp [(10, .v (.bool false))] af bj fun lK gR => ?_
     clear bj
     refine wp_ret ?_
     refine then_ret ?_
     refine leave gR af.cells (v := .bool false) kz ?_
     first
      | (exfalso; omega)
      | exact (told_len hgu (by assumption) (by assumption)).elim
      | exact (told_len0 hgu (by assumption) (by assumption)).elim
      | exact (told_key hgu (by assumption) (by assumption) (by assumption) (by assumption)).elim
      | exact (told_val hgu (by assumption) (by assumption) (by assumption) (by assumption)).elim
      | (exfalso; simp_all; done)
    ·
     have ju : ((aB.length : Nat) : Int) = 0 := by simpa using c6
     refine wp_skip ?_
     refine then_normal ?_
     refine wp_seq ?_
     refine go_sp [(9, .p 1 0), (90, .v (.slice none 0 0)), (91, .v (.int .i64 0)), (92, .v (.int .i64 0))] af bj fun lL fb => ?_
     clear bj
     refine wp_block ?_
     refine wp_loop_ghost (fun n_ a_ w_ => ∃ (k : Nat), n_ = 0 - k ∧ k ≤ 0 ∧ LInv af 120 [⟨dE, 0, [.int .i64 n1, .slice A6 s2.length c7, .bool b3, .slice A8 l4.length c9, .slice bT u5.length bU], true⟩, ⟨dF, 0, [.int .i64 dh, .slice dl di.length dp, .bool dj, .slice bV aG.length ce, .slice bW aB.length cm], true⟩] [] [(9, .p 1 0), (90, .v (.slice none 0 0)), (91, .v (.int .i64 0)), (92, .v (.int .i64 ((k : Nat) : Int)))] a_ w_) (0) ⟨0, by omega, by omega, fb.pk, af, Fr.refl _ _ _⟩ ?_
     clear fb
     rintro lM lN lO ⟨k, jv, jw, fe, bR, jx⟩
     refine go_sp [(9, .p 1 0), (90, .v (.slice none 0 0)), (91, .v (.int .i64 0)), (92, .v (.int .i64 ((k : Nat) : Int))), (93, .v (.bool (decide (((k : Nat) : Int) < 0))))] bR fe fun lP da => ?_
     clear fe
     refine wp_seq ?_
     refine cond_false da (b := decide (((k : Nat) : Int) < 0)) kz (decide_eq_false (by omega)) ?_
     refine wp_exit ?_
     refine then_exit ?_
     refine then_exit ?_
     refine block_exit ?_
     refine then_normal ?_
     refine go_sp [(10, .v (.bool true))] bR da fun lQ gS => ?_
     clear da
     refine wp_ret ?_
     refine leave gS bR.cells (v := .bool true) kz ?_
     exact ⟨rfl, bR.step⟩
   ·
    refine wp_skip ?_
    refine then_normal ?_
    refine wp_seq ?_
    refine go_sp [(9, .p 1 0), (14, .v (.slice ah ((unknownT l u5).length) ai)), (89, .v (.bool (((aB.length : Nat) : Int) != (((unknownT l u5).length : Nat) : Int))))] af bi fun lR bk => ?_
    clear bi
    refine cond_of bk (b := ((aB.length : Nat) : Int) != (((unknownT l u5).length : Nat) : Int)) kz (fun db => ?_) (fun db => ?_)
    ·
     have jy : ((aB.length : Nat) : Int) ≠ (((unknownT l u5).length : Nat) : Int) := by simpa using db
     refine go_sp [(10, .v (.bool false))] af bk fun lS gT => ?_
     clear bk
     refine wp_ret ?_
     refine then_ret ?_
     refine leave gT af.cells (v := .bool false) kz ?_
     first
      | (exfalso; omega)
      | exact (told_len hgu (by assumption) (by assumption)).elim
      | exact (told_len0 hgu (by assumption) (by assumption)).elim
      | exact (told_key hgu (by assumption) (by assumption) (by assumption) (by assumption)).elim
      | exact (told_val hgu (by assumption) (by assumption) (by assumption) (by assumption)).elim
      | (exfalso; simp_all; done)
    ·
     have jz : ((aB.length : Nat) : Int) = (((unknownT l u5).length : Nat) : Int) := by simpa using db
     refine wp_skip ?_
     refine then_normal ?_
     refine wp_seq ?_
     refine go_sp [(9, .p 1 0), (90, .v (.slice ah ((unknownT l u5).length) ai)), (91, .v (.int .i64 (((unknownT l u5).length : Nat) : Int))), (92, .v (.int .i64 0))] af bk fun lT ff => ?_
     clear bk
     refine wp_block ?_
     obtain ⟨jA, gU, iH⟩ := gP.ex
     have iI := gU.small
     refine wp_loop_ghost (fun n_ a_ w_ => ∃ (k : Nat), n_ = (unknownT l u5).length - k ∧ k ≤ (unknownT l u5).length ∧ LInv af 120 [⟨dE, 0, [.int .i64 n1, .slice A6 s2.length c7, .bool b3, .slice A8 l4.length c9, .slice bT u5.length bU], true⟩, ⟨dF, 0, [.int .i64 dh, .slice dl di.length dp, .bool dj, .slice bV aG.length ce, .slice bW aB.length cm], true⟩] [] [(9, .p 1 0), (90, .v (.slice ah ((unknownT l u5).length) ai)), (91, .v (.int .i64 (((unknownT l u5).length : Nat) : Int))), (92, .v (.int .i64 ((k : Nat) : Int)))] a_ w_) ((unknownT l u5).length) ⟨0, by omega, by omega, ff.pk, af, Fr.refl _ _ _⟩ ?_
     clear ff
     rintro lU lV lW ⟨k, jB, jC, fg, aD, aE⟩
     refine go_sp [(9, .p 1 0), (90, .v (.slice ah ((unknownT l u5).length) ai)), (91, .v (.int .i64 (((unknownT l u5).length : Nat) : Int))), (92, .v (.int .i64 ((k : Nat) : Int))), (93, .v (.bool (decide (((k : Nat) : Int) < (((unknownT l u5).length : Nat) : Int)))))] aD fg fun lX bn => ?_
     clear fg
     refine wp_seq ?_
     refine cond_of bn (b := decide (((k : Nat) : Int) < (((unknownT l u5).length : Nat) : Int))) kz (fun dc => ?_) (fun dc => ?_)
     ·
      have jD := of_decide_eq_true dc
      refine wp_skip ?_
      refine then_normal ?_
      refine wp_seq ?_
      refine wp_block ?_
      refine go_seq_region [0, 1, 2, 3, 4, 5] kz ?_
      refine go_rn [0] [1, 2, 3, 4, 5] [(9, .p 1 0), (90, .v (.slice ah ((unknownT l u5).length) ai)), (91, .v (.int .i64 (((unknownT l u5).length : Nat) : Int))), (92, .v (.int .i64 ((k : Nat) : Int))), (94, .v (.int .i64 ((k : Nat) : Int)))] aD bn fun lY fh => ?_
      clear bn
      obtain ⟨iJ, iK, gV, jE, de⟩ := Slots.get gU (i := k) (by first | omega | (have h_ := told_idx hgu (by assumption); omega))
      obtain ⟨⟨aF, aA⟩, gW⟩ : ∃ x, (unknownT l u5)[k]? = some x := ⟨_, List.getElem?_eq_getElem (by omega)⟩
      obtain ⟨⟨bo, bp, fU, fi⟩, lZ, l0⟩ := iH k aF aA gW
      rw [fU] at de
      refine of_op (wpOp_index fh (t := 24) (A := ah) (m := ((unknownT l u5).length)) (q := ((k : Nat) : Int)) (d := 95) kz (e := 66) (size := 2) (bytes := 32) kz gV rfl (by first | omega | (have h_ := told_idx hgu (by assumption); omega)) fun l3 fj => ?_)
      clear fh
      refine of_op (wpOp_load fj (t := 66) (b := iJ) (o := iK + k * 2) (d := 96) kz (cs := [.int .u32 aF, .slice bo aA.length bp]) (v := .agg #[.int .u32 aF, .slice bo aA.length bp]) kz (AtF.move de aE.step immM aE.to').at_ fun l5 fk => ?_)
      clear fj
      refine of_op (wpOp_alloc aD fk (d := 16) (cs := [.int .u32 0, .slice none 0 0]) kz fun l6 l7 l9 jF jG bq df fm => ?_)
      clear fk aD
      refine go_rn [4] [5] [(9, .p 1 0), (15, .v (.int .i64 ((k : Nat) : Int))), (16, .p 2 0), (90, .v (.slice ah ((unknownT l u5).length) ai)), (91, .v (.int .i64 (((unknownT l u5).length : Nat) : Int))), (92, .v (.int .i64 ((k : Nat) : Int))), (96, .v (.agg #[.int .u32 aF, .slice bo aA.length bp]))] df fm fun ma fo => ?_
      clear fm
      refine of_op (wpOp_store df fo (oi := 2) (cs := [.int .u32 aF, .slice bo aA.length bp]) kz fun mc bt fq fr => ?_)
      clear fo df
      refine wpOps_nil (then_normal ?_)
      refine go_seq_drawK 22 kz fq fun md bu aJ aw => ?_
      clear fq
      refine go_rnD [0, 1, 2, 6, 7] [(9, .p 1 0), (15, .v (.int .i64 ((k : Nat) : Int))), (16, .p 2 0), (90, .v (.slice ah ((unknownT l u5).length) ai)), (91, .v (.int .i64 (((unknownT l u5).length : Nat) : Int))), (92, .v (.int .i64 ((k : Nat) : Int))), (98, .v (.slice bW aB.length cm)), (99, .v (.int .i64 ((k : Nat) : Int))), (104, .v (.int .u32 aF))] 17 (panicFree_then (panicFree_block (panicFree_then (panicFree_then (panicFree_block (panicFree_then panicFree_body)))))) (fun _ h => h.cells) aw fr fun me ft => ?_
      clear fr
      obtain ⟨dC, dD, fu, jH, bD⟩ := Slots.get iR (i := k) (by first | omega | (have h_ := told_idx hgu (by assumption); omega))
      obtain ⟨⟨bE, bF⟩, gX⟩ : ∃ x, aB[k]? = some x := ⟨_, List.getElem?_eq_getElem (by omega)⟩
      obtain ⟨⟨fV, fW, fX, gY⟩, mf, mg⟩ := jT k bE bF gX
      rw [fX] at bD
      refine takeC_index ft (i := 3) (t := 24) (A := bW) (m := aB.length) (q := ((k : Nat) : Int)) (d := 100) kz (e := 66) (size := 2) (bytes := 32) kz fu rfl (by first | omega | (have h_ := told_idx hgu (by assumption); omega)) kz kz (panicFree_then (panicFree_block (panicFree_then (panicFree_then (panicFree_block (panicFree_then panicFree_body)))))) aw fun mh fv => ?_
      clear ft
      refine go_rnD [4] [(9, .p 1 0), (15, .v (.int .i64 ((k : Nat) : Int))), (16, .p 2 0), (90, .v (.slice ah ((unknownT l u5).length) ai)), (91, .v (.int .i64 (((unknownT l u5).length : Nat) : Int))), (92, .v (.int .i64 ((k : Nat) : Int))), (101, .v (.pointer (some ⟨dC, dD + k * 2, none⟩))), (104, .v (.int .u32 aF))] 15 (panicFree_then (panicFree_block (panicFree_then (panicFree_then (panicFree_block (panicFree_then panicFree_body)))))) (fun _ h => h.cells) aw fv fun mi fw => ?_
      clear fv
      refine takeC_load fw (i := 5) (t := 64) (b := dC) (o := dD + k * 2) (d := 102) kz (cs := [.int .u32 bE]) (v := .int .u32 bE) kz (fun w' h' => (At.drop (AtF.move bD (TT.step0 aJ h') nilM keepF).at_ 0 1)) kz kz (panicFree_then (panicFree_block (panicFree_then (panicFree_then (panicFree_block (panicFree_then panicFree_body)))))) aw fun mj fx => ?_
      clear fw
      refine go_rnD [8, 9] [(9, .p 1 0), (15, .v (.int .i64 ((k : Nat) : Int))), (16, .p 2 0), (90, .v (.slice ah ((unknownT l u5).length) ai)), (91, .v (.int .i64 (((unknownT l u5).length : Nat) : Int))), (92, .v (.int .i64 ((k : Nat) : Int))), (106, .v (.bool (bE != aF)))] 12 (panicFree_then (panicFree_block (panicFree_then (panicFree_then (panicFree_block (panicFree_then panicFree_body)))))) (fun _ h => h.cells) aw fx fun ml bS => ?_
      clear fx
      refine (Bool.eq_false_or_eq_true (bE != aF)).elim (fun bw => ?_) (fun bw => ?_)
      ·
       have jI : bE ≠ aF := by simpa using bw
       have fy := bS.cast (env' := [(9, .p 1 0), (15, .v (.int .i64 ((k : Nat) : Int))), (16, .p 2 0), (90, .v (.slice ah ((unknownT l u5).length) ai)), (91, .v (.int .i64 (((unknownT l u5).length : Nat) : Int))), (92, .v (.int .i64 ((k : Nat) : Int))), (106, .v (.bool true))]) (by rw [bw])
       clear bS
       refine go_rnD [10, 11, 12, 13, 14, 15, 16, 17, 18, 19, 20, 21] [(9, .p 1 0), (90, .v (.slice ah ((unknownT l u5).length) ai)), (91, .v (.int .i64 (((unknownT l u5).length : Nat) : Int))), (92, .v (.int .i64 ((k : Nat) : Int))), (118, .v (.bool true))] 0 (panicFree_then (panicFree_block (panicFree_then (panicFree_then (panicFree_block (panicFree_then panicFree_body)))))) (fun _ h => h.cells) aw fy fun mn dg => ?_
       clear fy
       refine anyC_done kz ?_ _
       refine then_normal ?_
       refine cond_true dg (b := true) kz rfl ?_
       refine go_sp [(10, .v (.bool false))] aJ dg fun mo gZ => ?_
       clear dg
       refine wp_ret ?_
       refine block_ret ?_
       refine then_ret ?_
       refine then_ret ?_
       refine block_ret ?_
       refine then_ret ?_
       refine leave gZ aJ.cells (v := .bool false) kz ?_
       first
        | (exfalso; omega)
        | exact (told_len hgu (by assumption) (by assumption)).elim
        | exact (told_len0 hgu (by assumption) (by assumption)).elim
        | exact (told_key hgu (by assumption) (by assumption) (by assumption) (by assumption)).elim
        | exact (told_val hgu (by assumption) (by assumption) (by assumption) (by assumption)).elim
        | (exfalso; simp_all; done)
      ·
       have jJ : bE = aF := by simpa using bw
       have fz := bS.cast (env' := [(9, .p 1 0), (15, .v (.int .i64 ((k : Nat) : Int))), (16, .p 2 0), (90, .v (.slice ah ((unknownT l u5).length) ai)), (91, .v (.int .i64 (((unknownT l u5).length : Nat) : Int))), (92, .v (.int .i64 ((k : Nat) : Int))), (106, .v (.bool false))]) (by rw [bw])
       clear bS
       refine go_rnD [10, 11, 12, 16, 17] [(9, .p 1 0), (90, .v (.slice ah ((unknownT l u5).length) ai)), (91, .v (.int .i64 (((unknownT l u5).length : Nat) : Int))), (92, .v (.int .i64 ((k : Nat) : Int))), (106, .v (.bool false)), (108, .v (.slice bW aB.length cm)), (109, .v (.int .i64 ((k : Nat) : Int))), (114, .v (.slice bo aA.length bp))] 7 (panicFree_then (panicFree_block (panicFree_then (panicFree_then (panicFree_block (panicFree_then panicFree_body)))))) (fun _ h => h.cells) aw fz fun mp fA => ?_
       clear fz
       refine takeC_index fA (i := 13) (t := 24) (A := bW) (m := aB.length) (q := ((k : Nat) : Int)) (d := 110) kz (e := 66) (size := 2) (bytes := 32) kz fu rfl (by first | omega | (have h_ := told_idx hgu (by assumption); omega)) kz kz (panicFree_then (panicFree_block (panicFree_then (panicFree_then (panicFree_block (panicFree_then panicFree_body)))))) aw fun mq fB => ?_
       clear fA
       refine go_rnD [14] [(9, .p 1 0), (90, .v (.slice ah ((unknownT l u5).length) ai)), (91, .v (.int .i64 (((unknownT l u5).length : Nat) : Int))), (92, .v (.int .i64 ((k : Nat) : Int))), (106, .v (.bool false)), (111, .v (.pointer (some ⟨dC, dD + k * 2 + 1, none⟩))), (114, .v (.slice bo aA.length bp))] 5 (panicFree_then (panicFree_block (panicFree_then (panicFree_then (panicFree_block (panicFree_then panicFree_body)))))) (fun _ h => h.cells) aw fB fun mr fC => ?_
       clear fB
       refine takeC_load fC (i := 15) (t := 22) (b := dC) (o := dD + k * 2 + 1) (d := 112) kz (cs := [.slice fV bF.length fW]) (v := .slice fV bF.length fW) kz (fun w' h' => (At.drop (AtF.move bD (TT.step0 aJ h') nilM keepF).at_ 1 1)) kz kz (panicFree_then (panicFree_block (panicFree_then (panicFree_then (panicFree_block (panicFree_then panicFree_body)))))) aw fun mt fD => ?_
       clear fC
       have iL := whole_le aA
       refine anyC_op (i := 18) kz (wpOp_call fD (f := 64) (vs := [.slice bo aA.length bp]) (d := 115) kz Tryz.call64 (sWhole _ _ aA (fi.move (((aE.trans bq).trans bt).trans bu).step immM (((aE.trans bq).trans bt).trans bu).to').le _) ?_)
       rintro e_ mu ⟨rfl, fE⟩
       refine ⟨_, rfl, fun mw fF => ?_⟩
       have aK := aJ.next_nil fE
       have bx := aJ.frN fE
       clear fD
       have g6 := TT.ofW bx aK
       refine ⟨fun _ => g6, ?_⟩
       refine anyC_op (i := 19) kz (wpOp_call fF (f := 63) (vs := [.slice fV bF.length fW, .slice bo ((whole aA).length) bp]) (d := 116) kz Tryz.call63 (sSame _ _ _ _ bF (whole aA) _ _ ((gY.move aK.step nilM aK.imm).move (Step.refl _ Nil) nilM allF) (((fi.take 32767).move ((((aE.trans bq).trans bt).trans bu).trans bx).step immM ((((aE.trans bq).trans bt).trans bu).trans bx).to').move (Step.refl _ Nil) nilM allF)) ?_)
       rintro e_ mx ⟨rfl, fG⟩
       refine ⟨_, rfl, fun my fH => ?_⟩
       have bz := aK.next_nil fG
       have fI := aK.frN fG
       clear fF aK
       have fJ := TT.ofW (bx.trans fI) bz
       refine ⟨fun _ => fJ, ?_⟩
       refine go_rnD [20, 21] [(9, .p 1 0), (90, .v (.slice ah ((unknownT l u5).length) ai)), (91, .v (.int .i64 (((unknownT l u5).length : Nat) : Int))), (92, .v (.int .i64 ((k : Nat) : Int))), (118, .v (.bool (!(decide (bF = (whole aA))))))] 0 (panicFree_then (panicFree_block (panicFree_then (panicFree_then (panicFree_block (panicFree_then panicFree_body)))))) (fun _ h => h.cells) fJ fH fun mz bA => ?_
       clear fH
       refine anyC_done kz ?_ _
       refine then_normal ?_
       refine cond_of bA (b := !(decide (bF = (whole aA)))) kz (fun g7 => ?_) (fun g7 => ?_)
       ·
        refine go_sp [(10, .v (.bool false))] bz bA fun mA g8 => ?_
        clear bA
        refine wp_ret ?_
        refine block_ret ?_
        refine then_ret ?_
        refine then_ret ?_
        refine block_ret ?_
        refine then_ret ?_
        refine leave g8 bz.cells (v := .bool false) kz ?_
        first
         | (exfalso; omega)
         | exact (told_len hgu (by assumption) (by assumption)).elim
         | exact (told_len0 hgu (by assumption) (by assumption)).elim
         | exact (told_key hgu (by assumption) (by assumption) (by assumption) (by assumption)).elim
         | exact (told_val hgu (by assumption) (by assumption) (by assumption) (by assumption)).elim
         | (exfalso; simp_all; done)
       ·
        refine wp_skip ?_
        refine block_normal ?_
        refine then_normal ?_
        refine go_region [0, 1] kz ?_
        refine go_rn [0, 1] [] [(9, .p 1 0), (90, .v (.slice ah ((unknownT l u5).length) ai)), (91, .v (.int .i64 (((unknownT l u5).length : Nat) : Int))), (92, .v (.int .i64 (IntKind.i64.wrap (((k : Nat) : Int) + 1))))] bz bA fun mB g9 => ?_
        clear bA
        refine wpOps_nil (then_normal ?_)
        obtain ⟨fK, hC, hJ⟩ := bz.cutB g9 2 [⟨dE, 0, [.int .i64 n1, .slice A6 s2.length c7, .bool b3, .slice A8 l4.length c9, .slice bT u5.length bU], true⟩, ⟨dF, 0, [.int .i64 dh, .slice dl di.length dp, .bool dj, .slice bV aG.length ce, .slice bW aB.length cm], true⟩] [(9, .p 1 0), (90, .v (.slice ah ((unknownT l u5).length) ai)), (91, .v (.int .i64 (((unknownT l u5).length : Nat) : Int))), (92, .v (.int .i64 (IntKind.i64.wrap (((k : Nat) : Int) + 1))))]
        have hK : IntKind.i64.wrap (((k : Nat) : Int) + 1) = ((k + 1 : Nat) : Int) := wrap_succ (by omega)
        rw [hK] at fK
        exact ⟨(unknownT l u5).length - (k + 1), by omega, k + 1, rfl, by omega, fK.pk, hC, ((((((aE.trans bq).trans bt).trans bu).trans bx).trans fI).trans hJ)⟩
     ·
      have jK := of_decide_eq_false dc
      refine wp_exit ?_
      refine then_exit ?_
      refine then_exit ?_
      refine block_exit ?_
      refine then_normal ?_
      refine go_sp [(10, .v (.bool true))] aD bn fun mC hZ => ?_
      clear bn
      refine wp_ret ?_
      refine leave hZ aD.cells (v := .bool true) kz ?_
      exact ⟨rfl, aD.step⟩
theorem sToldP (v : Int) (flex : Bool) : ∀ d, ToOK v flex (ToldP v flex d)
 | 0 => sToldS (fun _ _ _ _ _ _ _ _ _ _ _ _ _ h => h.elim) (fun _ _ _ _ _ _ _ _ _ h => h.elim)
 | d + 1 => sToldS (sToldP v flex d) (sUsualP d)
theorem xCreatePartitionsResponse (w : World) : Calls Tryz.prog 28 #[] w (Gives w (.int .i64 3)) := by
 refine enter (n := 4) Tryz.func28 rfl Tryz.ntmps28 kz fun a hE => ?_
 have hW := WOk.start w Nil
 refine go_sp [] hW hE fun a1 hE2 => ?_
 clear hE
 refine go_seq_region [0, 1, 2, 3] kz ?_
 refine of_op (wpOp_inline hE2 (f := 76) (vs := []) (d := 1) (n' := 3) kz Tryz.call76 Tryz.func76 rfl Tryz.ntmps76 kz fun a3 hE4 => ?_)
 refine go_sp [] hW hE4 fun a5 hE6 => ?_
 clear hE4
 refine go_seq_region [0] kz ?_
 refine of_op (wpOp_alloc hW hE6 (d := 1) (cs := [.int .i16 0, .int .i32 0, .slice none 0 0, .map none]) kz fun b7 a8 w9 ax ay az aa ai => ?_)
 clear hE6 hW
 refine wpOps_nil (then_normal ?_)
 refine go_seq_region [0] kz ?_
 refine of_op (wpOp_inline ai (f := 141) (vs := [.pointer (some ⟨b7, 0, none⟩)]) (d := 2) (n' := 2) kz Tryz.call141 Tryz.func141 rfl Tryz.ntmps141 kz fun aA aj => ?_)
 have ak := aj.recast 0 (.v (.pointer (some ⟨b7, 0, none⟩))) (.p 0 0) rfl rfl (Nat.le_of_ble_eq_true (n := 1) rfl)
 refine wp_skip ?_
 refine leave_end ak aa.cells (v := .tuple #[]) kz ?_
 refine ⟨_, rfl, fun aB al => ?_⟩
 have ab : EnvOk 3 [⟨b7, 0, [.int .i16 0, .int .i32 0, .slice none 0 0, .map none], true⟩] [(2, .v (.tuple #[])), (1, .p 0 0)] _ := al.places (⟨rfl, rfl, trivial⟩)
 refine wpOps_nil (then_normal ?_)
 refine go_sp [(0, .p 0 0)] aa ab fun aC am => ?_
 clear ab
 refine wp_ret ?_
 refine leave am aa.cells (v := .pointer (some ⟨b7, 0, none⟩)) kz ?_
 refine ⟨_, rfl, fun aD ao => ?_⟩
 have ac : EnvOk 4 [⟨b7, 0, [.int .i16 0, .int .i32 0, .slice none 0 0, .map none], true⟩] [(1, .v (.pointer (some ⟨b7, 0, none⟩)))] _ := ao.places (trivial)
 have ae := ac.recast 1 (.v (.pointer (some ⟨b7, 0, none⟩))) (.p 0 0) rfl rfl (Nat.le_of_ble_eq_true (n := 1) rfl)
 have ap := ae.pick (ks := [1]) (env' := [(1, .p 0 0)]) kz
 clear ac
 clear ae
 refine of_op (wpOp_inline ap (f := 77) (vs := [.pointer (some ⟨b7, 0, none⟩)]) (d := 2) (n' := 3) kz Tryz.call77 Tryz.func77 rfl Tryz.ntmps77 kz fun aE ar => ?_)
 have af := ar.recast 0 (.v (.pointer (some ⟨b7, 0, none⟩))) (.p 0 0) rfl rfl (Nat.le_of_ble_eq_true (n := 1) rfl)
 refine go_sp [] aa af fun aF ag => ?_
 clear af
 refine go_sp [(2, .v (.int .i16 3))] aa ag fun aG au => ?_
 clear ag
 refine wp_ret ?_
 refine leave au aa.cells (v := .int .i16 3) kz ?_
 refine ⟨_, rfl, fun aH av => ?_⟩
 have ah : EnvOk 4 [⟨b7, 0, [.int .i16 0, .int .i32 0, .slice none 0 0, .map none], true⟩] [(2, .v (.int .i16 3)), (1, .p 0 0)] _ := av.places (⟨rfl, rfl, trivial⟩)
 refine go_rn [2, 3] [] [(0, .v (.int .i64 3))] aa ah fun aI aw => ?_
 clear ah
 refine wpOps_nil (then_normal ?_)
 refine wp_ret ?_
 refine leave aw aa.cells (v := .int .i64 3) kz ?_
 exact ⟨rfl, aa.step⟩
theorem sCreatePartitionsResponse_depth : depths sCreatePartitionsResponseF ≤ 8 := by simp [sCreatePartitionsResponseF, Fld.depth.depths, Fld.depth]
theorem sCreatePartitionsResponse_plain : plains sCreatePartitionsResponseF := by simp [sCreatePartitionsResponseF, Fld.plain.plains, Fld.plain]
theorem fxCreatePartitionsResponse (A : Option Addr) (c : Nat) (v : Int) (w : World) : Calls Tryz.prog 20 #[.agg #[.slice A sCreatePartitionsResponseF.length c, .int .i64 sCreatePartitionsResponseX], .int .i64 v] w (Gives w (.bool (decide (v ≥ sCreatePartitionsResponseX)))) := by
 refine enter (n := 14) Tryz.func20 rfl Tryz.ntmps20 kz fun a hE => ?_
 have hW := WOk.start w Nil
 refine go_seq_region [0, 1] kz ?_
 refine of_op (wpOp_box hW hE (d := 2) (cs := [.slice A sCreatePartitionsResponseF.length c, .int .i64 sCreatePartitionsResponseX]) kz fun b1 a2 w3 hb4 hz5 hF6 hW7 hE8 => ?_)
 clear hE hW
 refine go_rn [1] [] [(1, .v (.int .i64 v)), (2, .p 0 0)] hW7 hE8 fun a9 aa => ?_
 clear hE8
 refine wpOps_nil (then_normal ?_)
 refine go_seq_region [0, 1, 2, 3, 4, 5, 6, 7, 8, 9] kz ?_
 refine go_rn [0, 1, 2, 3] [4, 5, 6, 7, 8, 9] [(1, .v (.int .i64 v)), (2, .p 0 0), (8, .v (.bool (decide (sCreatePartitionsResponseX ≥ 0))))] hW7 aa fun ag ab => ?_
 clear aa
 have ae : (decide (sCreatePartitionsResponseX ≥ 0)) = true := by decide
 have ac := ab.cast (env' := [(1, .v (.int .i64 v)), (2, .p 0 0), (8, .v (.bool true))]) (by rw [ae])
 clear ab
 refine go_rn [4, 5, 6, 7, 8, 9] [] [(4, .v (.bool (decide (v ≥ sCreatePartitionsResponseX))))] hW7 ac fun ah af => ?_
 clear ac
 refine wpOps_nil (then_normal ?_)
 refine wp_ret ?_
 refine leave af hW7.cells (v := .bool (decide (v ≥ sCreatePartitionsResponseX))) kz ?_
 exact ⟨rfl, hW7.step⟩
set_option maxHeartbeats 4000000 in
theorem lawCreatePartitionsResponse (x : Int) (hx : 0 ≤ x) (hx' : x < 256) (ct : List Value) (t : Tree) (w : World) (F : Nat → Nat → Prop) (ht : TreeR w F ct t) (hroom1 : (writeB 8 sCreatePartitionsResponseF sCreatePartitionsResponseX (Int.tmod x (3 + 1)) t).length + 16 ≤ 1099511627776) (hcan : canCreatePartitionsResponse (fitT (Int.tmod x (3 + 1)) 8 sCreatePartitionsResponseF t)) (hkey : Tree.ranged (fitT (Int.tmod x (3 + 1)) 8 sCreatePartitionsResponseF t)) (hpure : tCreatePartitionsResponse (IntKind.i16.wrap (Int.tmod x (3 + 1))) (fitT (Int.tmod x (3 + 1)) 8 sCreatePartitionsResponseF t) = writeB 8 sCreatePartitionsResponseF sCreatePartitionsResponseX (Int.tmod x (3 + 1)) t) (hto : ∀ D, rvCreatePartitionsResponse (IntKind.i16.wrap (Int.tmod x (3 + 1))) D (fitT (Int.tmod x (3 + 1)) 8 sCreatePartitionsResponseF t) → ToldP (Int.tmod x (3 + 1)) (decide ((Int.tmod x (3 + 1)) ≥ sCreatePartitionsResponseX)) 8 sCreatePartitionsResponseF t (trCreatePartitionsResponse D)) :
  Calls Tryz.prog 6 #[.int .u8 x, .agg ct.toArray] w (Gives w (.bool true)) := by
 obtain ⟨n1, s2, b3, l4, u5, A6, c7, A8, c9, aS, aT, dc, rfl, rfl, de, df, dR, dS⟩ := ht.open_
 have cP := de.small
 have cQ := df.small
 refine enter (n := 42) Tryz.func6 rfl Tryz.ntmps6 kz fun a hE => ?_
 have hW := WOk.start w Nil
 refine go_seq_region [0, 1] kz ?_
 refine of_op (wpOp_box hW hE (d := 3) (cs := [.int .i64 n1, .slice A6 s2.length c7, .bool b3, .slice A8 l4.length c9, .slice aS u5.length aT]) kz fun dg dT dU dh di dj ak bu => ?_)
 clear hE hW
 refine go_rn [1] [] [(0, .v (.int .u8 x)), (3, .p 0 0)] ak bu fun dV bw => ?_
 clear bu
 refine wpOps_nil (then_normal ?_)
 refine wp_seq ?_
 refine go_seq_region [0, 1, 2] kz ?_
 refine go_rn [0] [1, 2] [(0, .v (.int .u8 x)), (3, .p 0 0), (10, .v (.agg #[.int .i64 n1, .slice A6 s2.length c7, .bool b3, .slice A8 l4.length c9, .slice aS u5.length aT]))] ak bw fun dW bx => ?_
 clear bw
 refine of_op (wpOp_call bx (f := 13) (vs := [.agg #[.int .i64 n1, .slice A6 s2.length c7, .bool b3, .slice A8 l4.length c9, .slice aS u5.length aT]]) (d := 11) kz Tryz.call13 (lFits1 _ _ _ _ (ht.move ak.step nilM ak.imm)) ?_)
 rintro e_ dX ⟨cR, rfl, bz⟩
 refine ⟨_, rfl, fun dY bA => ?_⟩
 have al := ak.next_nil bz
 have dl := ak.frN bz
 clear bx ak
 refine go_rn [2] [] [(0, .v (.int .u8 x)), (3, .p 0 0), (12, .v (.bool (!cR)))] al bA fun dZ aw => ?_
 clear bA
 refine wpOps_nil (then_normal ?_)
 refine cond_of aw (b := !cR) kz (fun bZ => ?_) (fun bZ => ?_)
 ·
  refine go_sp [(4, .v (.bool true))] al aw fun d5 b8 => ?_
  clear aw
  refine wp_ret ?_
  refine then_ret ?_
  refine leave b8 al.cells (v := .bool true) kz ?_
  exact ⟨rfl, al.step⟩
 ·
  refine wp_skip ?_
  refine then_normal ?_
  refine go_seq_region [0, 1] kz ?_
  refine of_op (wpOp_call aw (f := 28) (vs := []) (d := 13) kz Tryz.call28 (xCreatePartitionsResponse _) ?_)
  rintro e_ dp ⟨rfl, bB⟩
  refine ⟨_, rfl, fun d6 bC => ?_⟩
  have ax := al.next_nil bB
  have dq := al.frN bB
  clear aw al
  refine go_rn [1] [] [(0, .v (.int .u8 x)), (3, .p 0 0), (5, .v (.int .i64 3))] ax bC fun d7 bD => ?_
  clear bC
  refine wpOps_nil (then_normal ?_)
  refine wp_seq ?_
  refine go_sp [(0, .v (.int .u8 x)), (3, .p 0 0), (5, .v (.int .i64 3)), (15, .v (.bool false))] ax bD fun d8 bq => ?_
  clear bD
  refine cond_false bq (b := false) kz rfl ?_
  refine wp_skip ?_
  refine then_normal ?_
  refine go_seq_region [0, 1, 2, 3, 4, 5, 6] kz ?_
  refine of_op (wpOp_call bq (f := 29) (vs := []) (d := 16) kz Tryz.call29 (sCreatePartitionsResponse _ (Imm F w dp [⟨dg, 0, [.int .i64 n1, .slice A6 s2.length c7, .bool b3, .slice A8 l4.length c9, .slice aS u5.length aT], true⟩] [])) ?_)
  rintro e_ d9 ⟨aU, aV, rfl, cd, bt⟩
  obtain ⟨bE, cS, cT⟩ := cd.move (Step.refl _ Nil) nilM (ax.laid (G := F) bt)
  refine ⟨_, rfl, fun ea bF => ?_⟩
  have aG := ax.next_nil bt
  have dr := ax.frN bt
  clear bq
  refine go_rn [1, 2] [3, 4, 5, 6] [(3, .p 0 0), (16, .v (.agg #[.slice aU sCreatePartitionsResponseF.length aV, .int .i64 sCreatePartitionsResponseX])), (17, .v (.int .u8 x)), (18, .v (.int .i64 3))] aG bF fun eb bG => ?_
  clear bF
  refine of_op (wpOp_call bG (f := 16) (vs := [.int .u8 x, .int .i64 3]) (d := 19) kz Tryz.call16 (lVersion x 3 hx hx' (by decide) (by decide) _) ?_)
  rintro e_ ec ⟨rfl, bH⟩
  refine ⟨_, rfl, fun ee bI => ?_⟩
  have bJ := aG.next_nil bH
  have ah := aG.frN bH
  clear bG aG
  refine of_op (wpOp_alloc bJ bI (d := 6) (cs := [.slice none 0 0, .int .i64 0]) kz fun ef eg eh dt du ai bK bL => ?_)
  clear bI bJ
  refine of_op (wpOp_store bK bL (oi := 1) (cs := [.slice aU sCreatePartitionsResponseF.length aV, .int .i64 sCreatePartitionsResponseX]) kz fun ei aj av bM => ?_)
  clear bL bK
  refine go_rn [6] [] [(3, .p 0 0), (6, .p 1 0), (7, .v (.int .i64 (Int.tmod x (3 + 1))))] av bM fun ej bN => ?_
  clear bM
  refine wpOps_nil (then_normal ?_)
  refine go_seq_region [0, 1, 2, 3, 4, 5, 6, 7, 8, 9, 10, 11] kz ?_
  refine go_rn [0, 1, 2, 3] [4, 5, 6, 7, 8, 9, 10, 11] [(3, .p 0 0), (6, .p 1 0), (7, .v (.int .i64 (Int.tmod x (3 + 1)))), (21, .v (.int .i64 (Int.tmod x (3 + 1)))), (22, .v (.agg #[.slice aU sCreatePartitionsResponseF.length aV, .int .i64 sCreatePartitionsResponseX])), (23, .v (.int .i64 (Int.tmod x (3 + 1)))), (24, .v (.agg #[.int .i64 n1, .slice A6 s2.length c7, .bool b3, .slice A8 l4.length c9, .slice aS u5.length aT]))] av bN fun ek bO => ?_
  clear bN
  refine of_op (wpOp_call bO (f := 18) (vs := [.agg #[.slice aU sCreatePartitionsResponseF.length aV, .int .i64 sCreatePartitionsResponseX], .int .i64 (Int.tmod x (3 + 1)), .agg #[.int .i64 n1, .slice A6 s2.length c7, .bool b3, .slice A8 l4.length c9, .slice aS u5.length aT]]) (d := 25) kz Tryz.call18 (sWrite _ _ sCreatePartitionsResponseF sCreatePartitionsResponseX (Int.tmod x (3 + 1)) _ (Tree.mk n1 s2 b3 l4 u5) _ _ ⟨bE, (cS.move ((ah.trans ai).trans aj).step immM ((ah.trans ai).trans aj).to'), (fun i_ x_ h_ => ((cT i_ x_ h_).move ((ah.trans ai).trans aj).step immM ((ah.trans ai).trans aj).to'))⟩ sCreatePartitionsResponse_depth (ht.move av.step nilM av.imm) (Nat.le_trans (Nat.le_add_right _ _) hroom1)) ?_)
  rintro e_ em ⟨cU, cV, rfl, ce, cm⟩
  refine ⟨_, rfl, fun eo bP => ?_⟩
  obtain ⟨am, ao⟩ := av.frFresh cm (brow cU cV 5 (writeB 8 sCreatePartitionsResponseF sCreatePartitionsResponseX (Int.tmod x (3 + 1)) (Tree.mk n1 s2 b3 l4 u5))) (Nat.le_refl _) ce
  clear bO av
  refine of_op (wpOp_call bP (f := 30) (vs := [.int .i64 (Int.tmod x (3 + 1)), .slice cU ((writeB 8 sCreatePartitionsResponseF sCreatePartitionsResponseX (Int.tmod x (3 + 1)) (Tree.mk n1 s2 b3 l4 u5)).length) cV]) (d := 26) kz Tryz.call30 (tegCreatePartitionsResponse (Int.tmod x (3 + 1)) _ (writeB 8 sCreatePartitionsResponseF sCreatePartitionsResponseX (Int.tmod x (3 + 1)) (Tree.mk n1 s2 b3 l4 u5)) hpure (octs_own (am.own 0 _ rfl) (by first | omega | (rw [uuidB_length]; decide) | (simp only [be_length]; exact Nat.le_trans (widthI_le _) (by decide)) | (have := hroom; omega) | (have := hmade; omega) | (simp only [List.length_append, List.length_nil]; omega)) (F := fun _ _ => True) (fun _ _ _ => trivial)) hcan hkey (by first | omega | (have := hroom1; omega))) ?_)
  rintro e_ dv ⟨bQ, cW, rfl, bR, bS, ay⟩
  have az := bR.move (Step.refl _ Nil) nilM (fun b_ o_ h_ hb_ => am.laid (G := F) ay b_ o_ (.inr (h_.resolve_left id)) hb_)
  obtain ⟨aH, aI, aJ, aK, aL, aM, aN, aO, aP, aQ, aR, cX, cY, aA, cq, cr, dw, dx⟩ := az.open_
  rw [aA] at az
  have cu := cq.small
  have cw := cr.small
  rw [aA]
  refine ⟨_, rfl, fun dy aW => ?_⟩
  have aB := am.next_nil ay
  have ap := am.frN ay
  clear bP
  refine go_rn [6, 7, 8] [9, 10, 11] [(3, .p 0 0), (6, .p 1 0), (7, .v (.int .i64 (Int.tmod x (3 + 1)))), (27, .v (.agg #[.int .i64 aH, .slice aM aI.length aN, .bool aJ, .slice aO aK.length aP, .slice aQ aL.length aR])), (28, .v (.bool true))] aB aW fun dz aX => ?_
  clear aW
  refine of_op (wpOp_alloc aB aX (d := 8) (cs := [.int .i64 0, .slice none 0 0, .bool false, .slice none 0 0, .slice none 0 0]) kz fun dA dB dC cZ c5 ab aY aZ => ?_)
  clear aX aB
  refine of_op (wpOp_store aY aZ (oi := 2) (cs := [.int .i64 aH, .slice aM aI.length aN, .bool aJ, .slice aO aK.length aP, .slice aQ aL.length aR]) kz fun dD ac aC ba => ?_)
  clear aZ aY
  refine go_rn [11] [] [(3, .p 0 0), (6, .p 1 0), (7, .v (.int .i64 (Int.tmod x (3 + 1)))), (8, .p 2 0), (9, .v (.bool true))] aC ba fun dE bd => ?_
  clear ba
  refine wpOps_nil (then_normal ?_)
  refine go_seq_drawK 13 kz aC fun dF ae bf bT => ?_
  clear aC
  refine go_rnD [0, 1, 2, 3, 4, 5, 6, 8, 9] [(30, .v (.bool true)), (32, .v (.slice aU sCreatePartitionsResponseF.length aV)), (33, .v (.int .i64 (Int.tmod x (3 + 1)))), (34, .v (.agg #[.slice aU sCreatePartitionsResponseF.length aV, .int .i64 sCreatePartitionsResponseX])), (35, .v (.int .i64 (Int.tmod x (3 + 1)))), (37, .v (.agg #[.int .i64 n1, .slice A6 s2.length c7, .bool b3, .slice A8 l4.length c9, .slice aS u5.length aT])), (38, .v (.agg #[.int .i64 aH, .slice aM aI.length aN, .bool aJ, .slice aO aK.length aP, .slice aQ aL.length aR]))] 5 (panicFree_then panicFree_body) (fun _ h => h.cells) bT bd fun dG bg => ?_
  clear bd
  refine anyC_op (i := 7) kz (wpOp_call bg (f := 20) (vs := [.agg #[.slice aU sCreatePartitionsResponseF.length aV, .int .i64 sCreatePartitionsResponseX], .int .i64 (Int.tmod x (3 + 1))]) (d := 36) kz Tryz.call20 (fxCreatePartitionsResponse _ _ _ _) ?_)
  rintro e_ dH ⟨rfl, bh⟩
  refine ⟨_, rfl, fun dI bi => ?_⟩
  have ar := bf.next_nil bh
  have aa := bf.frN bh
  clear bg
  have bU := TT.ofW aa ar
  refine ⟨fun _ => bU, ?_⟩
  refine anyC_op (i := 10) kz (wpOp_call bi (f := 21) (vs := [.agg #[.int .i64 aH, .slice aM aI.length aN, .bool aJ, .slice aO aK.length aP, .slice aQ aL.length aR]]) (d := 39) kz Tryz.call21 (lGot _ _ _ _ _ (az.move (((ab.trans ac).trans ae).trans aa).step immM (((ab.trans ac).trans ae).trans aa).to') (Nat.le_refl _)) ?_)
  rintro e_ dJ ⟨c6, rfl, bV, aD⟩
  have aE := bV.move (Step.refl _ Nil) nilM (ar.laid (G := F) aD)
  obtain ⟨cz, cA, cB, cC, cD, cE, cG, cH, cI, cJ, cK, da, db, aF, cL, cM, dK, dL⟩ := aE.open_
  rw [aF] at aE
  have cN := cL.small
  have cO := cM.small
  rw [aF]
  refine ⟨_, rfl, fun dM bj => ?_⟩
  have af := ar.next_nil aD
  have ag := ar.frN aD
  clear bi
  have bW := TT.ofW (aa.trans ag) af
  refine ⟨fun _ => bW, ?_⟩
  refine anyC_op (i := 11) kz (wpOp_call bj (f := 19) (vs := [.slice aU sCreatePartitionsResponseF.length aV, .int .i64 (Int.tmod x (3 + 1)), .bool (decide ((Int.tmod x (3 + 1)) ≥ sCreatePartitionsResponseX)), .agg #[.int .i64 n1, .slice A6 s2.length c7, .bool b3, .slice A8 l4.length c9, .slice aS u5.length aT], .agg #[.int .i64 cz, .slice cE cA.length cG, .bool cB, .slice cH cC.length cI, .slice cJ cD.length cK]]) (d := 40) kz Tryz.call19 (sToldP (Int.tmod x (3 + 1)) (decide ((Int.tmod x (3 + 1)) ≥ sCreatePartitionsResponseX)) 8 _ _ sCreatePartitionsResponseF _ (Tree.mk n1 s2 b3 l4 u5) _ (trCreatePartitionsResponse bQ) _ _ ⟨bE, (cS.move (((((((((ah.trans ai).trans aj).trans ao).trans ap).trans ab).trans ac).trans ae).trans aa).trans ag).step immM (((((((((ah.trans ai).trans aj).trans ao).trans ap).trans ab).trans ac).trans ae).trans aa).trans ag).to'), (fun i_ x_ h_ => ((cT i_ x_ h_).move (((((((((ah.trans ai).trans aj).trans ao).trans ap).trans ab).trans ac).trans ae).trans aa).trans ag).step immM (((((((((ah.trans ai).trans aj).trans ao).trans ap).trans ab).trans ac).trans ae).trans aa).trans ag).to'))⟩ (ht.move af.step nilM af.imm) aE sCreatePartitionsResponse_plain (hto bQ bS)) ?_)
  rintro e_ dN ⟨rfl, bk⟩
  refine ⟨_, rfl, fun dO bn => ?_⟩
  have au := af.next_nil bk
  have bX := af.frN bk
  clear bj af
  have bo := TT.ofW ((aa.trans ag).trans bX) au
  refine ⟨fun _ => bo, ?_⟩
  refine go_rnD [12] [(41, .v (.bool true))] 1 (panicFree_then panicFree_body) (fun _ h => h.cells) bo bn fun dP bp => ?_
  clear bn
  refine anyC_op (i := 13) kz (wpOp_pure [4] au.cells bp (env' := [(4, .v (.bool true))]) kz fun dQ bY => ?_)
  clear bp
  refine ⟨fun h => absurd rfl h, ?_⟩
  refine anyC_done kz ?_ _
  refine then_normal ?_
  refine wp_ret ?_
  refine leave bY au.cells (v := .bool true) kz ?_
  exact ⟨rfl, au.step⟩
theorem closeCreatePartitionsResponse (x : Int) (hx : 0 ≤ x ∧ x ≤ 255) (ct : List Value) (t : Tree) (w : World) (F : Nat → Nat → Prop) (ht : TreeR w F ct t) (hi : t.i64s) (hsz : t.size ≤ 8388608) : Calls Tryz.prog 6 #[.int .u8 x, .agg ct.toArray] w (Gives w (.bool true)) := by
 obtain ⟨g0, g1⟩ := ver_ok (m := 3 + 1) hx.1 hx.2 (by decide) (by decide)
 have hp : tCreatePartitionsResponse (IntKind.i16.wrap (Int.tmod x (3 + 1))) (fitT (Int.tmod x (3 + 1)) 8 sCreatePartitionsResponseF t) = writeB 8 sCreatePartitionsResponseF sCreatePartitionsResponseX (Int.tmod x (3 + 1)) t := by rw [i16_small g0 g1]; exact pureCreatePartitionsResponse (Int.tmod x (3 + 1)) g0 g1 t
 have h1 := writeB_le 8 sCreatePartitionsResponseF sCreatePartitionsResponseX (Int.tmod x (3 + 1)) t
 have h2 : costL sCreatePartitionsResponseF ≤ 131000 := by decide +kernel
 have h3 := Nat.mul_le_mul h2 hsz
 exact lawCreatePartitionsResponse x hx.1 (by omega) ct t w F ht (by omega) (canfitCreatePartitionsResponse (Int.tmod x (3 + 1)) t) (ranged_fit _ _ _ _ ht.ranged) hp (fun D h => by rw [i16_small g0 g1] at h; exact toldCreatePartitionsResponse (Int.tmod x (3 + 1)) g0 t _ (fun _ => rfl) rfl hi D h)
end Go.Proofs.YtgolpmkenmedoaaGreatDoor.ME