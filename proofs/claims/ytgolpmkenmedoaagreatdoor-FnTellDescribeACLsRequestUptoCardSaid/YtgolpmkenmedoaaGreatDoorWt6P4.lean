/- The texts of a claim, put together: the engine, the contracts, the law. Own work. -/
import Derived.Test.YtgolpmkenmedoaaGreatDoorWt6P3
namespace Go.Proofs.YtgolpmkenmedoaaGreatDoor.ME
open Go
open Go.RowKit
set_option linter.unusedVariables false
set_option linter.unusedSimpArgs false
set_option maxRecDepth 20000
theorem sNumber (k n : Int) (w : World) : Calls Tryz.prog 132 #[.int .i64 k, .int .i64 n] w (Gives w (.int .i64 (numberI k n))) := by
 refine enter (n := 31) Tryz.func132 rfl Tryz.ntmps132 kz fun a hE => ?_
 have hW := WOk.start w Nil
 refine go_sp [(0, .v (.int .i64 k)), (1, .v (.int .i64 n))] hW hE fun a1 hE2 => ?_
 clear hE
 refine wp_seq ?_
 refine go_sp [(1, .v (.int .i64 n)), (5, .v (.int .i64 k))] hW hE2 fun a3 hE4 => ?_
 clear hE2
 refine wp_block ?_
 refine go_sp [(1, .v (.int .i64 n)), (5, .v (.int .i64 k)), (6, .v (.bool (k == 0)))] hW hE4 fun a5 hE6 => ?_
 clear hE4
 refine cond_of hE6 (b := k == 0) kz (fun hc7 => ?_) (fun hc7 => ?_)
 ·
  have hf8 : k = 0 := by simpa using hc7
  refine go_sp [(4, .v (.int .i64 (IntKind.i64.wrap (BitVec.ofInt 64 n &&& BitVec.ofInt 64 1).toNat)))] hW hE6 fun a9 aj => ?_
  clear hE6
  refine wp_ret ?_
  refine block_ret ?_
  refine then_ret ?_
  refine leave aj hW.cells (v := .int .i64 (IntKind.i64.wrap (BitVec.ofInt 64 n &&& BitVec.ofInt 64 1).toNat)) kz ?_
  exact ⟨by (try simp only [and1]); simp_all [numberI, n64_8, n64_16, n64_32, n64_u16], hW.step⟩
 ·
  have ar : k ≠ 0 := by simpa using hc7
  refine go_sp [(1, .v (.int .i64 n)), (5, .v (.int .i64 k)), (10, .v (.bool (k == 1)))] hW hE6 fun aC aa => ?_
  clear hE6
  refine cond_of aa (b := k == 1) kz (fun af => ?_) (fun af => ?_)
  ·
   have au : k = 1 := by simpa using af
   refine go_sp [(4, .v (.int .i64 (IntKind.i64.wrap (IntKind.i8.wrap n))))] hW aa fun aD ak => ?_
   clear aa
   refine wp_ret ?_
   refine block_ret ?_
   refine then_ret ?_
   refine leave ak hW.cells (v := .int .i64 (IntKind.i64.wrap (IntKind.i8.wrap n))) kz ?_
   exact ⟨by (try simp only [and1]); simp_all [numberI, n64_8, n64_16, n64_32, n64_u16], hW.step⟩
  ·
   have av : k ≠ 1 := by simpa using af
   refine go_sp [(1, .v (.int .i64 n)), (5, .v (.int .i64 k)), (15, .v (.bool (k == 2)))] hW aa fun aE ab => ?_
   clear aa
   refine cond_of ab (b := k == 2) kz (fun ag => ?_) (fun ag => ?_)
   ·
    have aw : k = 2 := by simpa using ag
    refine go_sp [(4, .v (.int .i64 (IntKind.i64.wrap (IntKind.i16.wrap n))))] hW ab fun aF al => ?_
    clear ab
    refine wp_ret ?_
    refine block_ret ?_
    refine then_ret ?_
    refine leave al hW.cells (v := .int .i64 (IntKind.i64.wrap (IntKind.i16.wrap n))) kz ?_
    exact ⟨by (try simp only [and1]); simp_all [numberI, n64_8, n64_16, n64_32, n64_u16], hW.step⟩
   ·
    have ax : k ≠ 2 := by simpa using ag
    refine go_sp [(1, .v (.int .i64 n)), (5, .v (.int .i64 k)), (20, .v (.bool (k == 3)))] hW ab fun aG ac => ?_
    clear ab
    refine cond_of ac (b := k == 3) kz (fun ah => ?_) (fun ah => ?_)
    ·
     have ay : k = 3 := by simpa using ah
     refine go_sp [(4, .v (.int .i64 (IntKind.i64.wrap (IntKind.i32.wrap n))))] hW ac fun aH am => ?_
     clear ac
     refine wp_ret ?_
     refine block_ret ?_
     refine then_ret ?_
     refine leave am hW.cells (v := .int .i64 (IntKind.i64.wrap (IntKind.i32.wrap n))) kz ?_
     exact ⟨by (try simp only [and1]); simp_all [numberI, n64_8, n64_16, n64_32, n64_u16], hW.step⟩
    ·
     have az : k ≠ 3 := by simpa using ah
     refine go_sp [(1, .v (.int .i64 n)), (25, .v (.bool (k == 5)))] hW ac fun aI ae => ?_
     clear ac
     refine cond_of ae (b := k == 5) kz (fun ai => ?_) (fun ai => ?_)
     ·
      have aA : k = 5 := by simpa using ai
      refine go_sp [(4, .v (.int .i64 (IntKind.i64.wrap (IntKind.u16.wrap n))))] hW ae fun aJ ao => ?_
      clear ae
      refine wp_ret ?_
      refine block_ret ?_
      refine then_ret ?_
      refine leave ao hW.cells (v := .int .i64 (IntKind.i64.wrap (IntKind.u16.wrap n))) kz ?_
      exact ⟨by (try simp only [and1]); simp_all [numberI, n64_8, n64_16, n64_32, n64_u16], hW.step⟩
     ·
      have aB : k ≠ 5 := by simpa using ai
      refine wp_skip ?_
      refine block_normal ?_
      refine then_normal ?_
      refine go_sp [(4, .v (.int .i64 n))] hW ae fun aK ap => ?_
      clear ae
      refine wp_ret ?_
      refine leave ap hW.cells (v := .int .i64 n) kz ?_
      exact ⟨by (try simp only [and1]); simp_all [numberI, n64_8, n64_16, n64_32, n64_u16], hW.step⟩
def UsOK (U : List Fld → Tree → Prop) : Prop := ∀ (A : Option Addr) (c : Nat) (l : List Fld) (ct : List Value) (g : Tree) (w : World) (F : Nat → Nat → Prop), FldsR w F A c l → TreeR w F ct g → U l g →
  Calls Tryz.prog 61 #[.slice A l.length c, .agg ct.toArray] w (Gives w (.bool true))
theorem sUs {U : List Fld → Tree → Prop} (hu : UsOK U) (A : Option Addr) (c : Nat) (l : List Fld) (ct : List Value) (g : Tree) (w : World) (F : Nat → Nat → Prop) (hl : FldsR w F A c l) (ht : TreeR w F ct g) (hU : UsP U l g) :
  Calls Tryz.prog 61 #[.slice A l.length c, .agg ct.toArray] w (Gives w (.bool true)) := by
 obtain ⟨xfs, h1, h2⟩ := hl.ex
 have hsm := h1.small
 obtain ⟨n1, s2, b3, l4, u5, A6, c7, A8, c9, aZ, ba, fS, rfl, rfl, fT, fU, iF, iG⟩ := ht.open_
 have e9 := fT.small
 have fa := fU.small
 refine enter (n := 89) Tryz.func61 rfl Tryz.ntmps61 kz fun a hE => ?_
 have hW := WOk.start w Nil
 refine go_seq_region [0, 1] kz ?_
 refine of_op (wpOp_box hW hE (d := 3) (cs := [.int .i64 n1, .slice A6 s2.length c7, .bool b3, .slice A8 l4.length c9, .slice aZ u5.length ba]) kz fun bQ iH iI fV fW fX aM dp => ?_)
 clear hE hW
 refine go_rn [1] [] [(0, .v (.slice A l.length c)), (3, .p 0 0)] aM dp fun iJ dq => ?_
 clear dp
 refine wpOps_nil (then_normal ?_)
 refine wp_seq ?_
 refine go_sp [(0, .v (.slice A l.length c)), (3, .p 0 0), (11, .v (.bool (decide (((u5.length : Nat) : Int) > 0))))] aM dq fun iK bf => ?_
 clear dq
 refine cond_of bf (b := decide (((u5.length : Nat) : Int) > 0)) kz (fun di => ?_) (fun di => ?_)
 ·
  have fY := of_decide_eq_true di
  refine go_sp [(4, .v (.bool false))] aM bf fun iL eR => ?_
  clear bf
  refine wp_ret ?_
  refine then_ret ?_
  refine leave eR aM.cells (v := .bool false) kz ?_
  exact (us_u (g := (Tree.mk n1 s2 b3 l4 u5)) hU.1 rfl (by assumption)).elim
 ·
  have fZ := of_decide_eq_false di
  refine wp_skip ?_
  refine then_normal ?_
  refine wp_seq ?_
  refine go_sp [(3, .p 0 0), (12, .v (.slice A l.length c)), (13, .v (.int .i64 ((l.length : Nat) : Int))), (14, .v (.int .i64 0))] aM bf fun iM dr => ?_
  clear bf
  refine wp_block ?_
  refine wp_loop_ghost (fun n_ a_ w_ => ∃ (k : Nat), n_ = l.length - k ∧ k ≤ l.length ∧ LInv aM 89 [⟨bQ, 0, [.int .i64 n1, .slice A6 s2.length c7, .bool b3, .slice A8 l4.length c9, .slice aZ u5.length ba], true⟩] [] [(3, .p 0 0), (12, .v (.slice A l.length c)), (13, .v (.int .i64 ((l.length : Nat) : Int))), (14, .v (.int .i64 ((k : Nat) : Int)))] a_ w_) (l.length) ⟨0, by omega, by omega, dr.pk, aM, Fr.refl _ _ _⟩ ?_
  clear dr
  rintro iN iO iP ⟨k, f7, f8, dt, ap, ak⟩
  refine go_sp [(3, .p 0 0), (12, .v (.slice A l.length c)), (13, .v (.int .i64 ((l.length : Nat) : Int))), (14, .v (.int .i64 ((k : Nat) : Int))), (15, .v (.bool (decide (((k : Nat) : Int) < ((l.length : Nat) : Int)))))] ap dt fun iQ bg => ?_
  clear dt
  refine wp_seq ?_
  refine cond_of bg (b := decide (((k : Nat) : Int) < ((l.length : Nat) : Int))) kz (fun dj => ?_) (fun dj => ?_)
  ·
   have f9 := of_decide_eq_true dj
   refine wp_skip ?_
   refine then_normal ?_
   refine wp_seq ?_
   refine wp_block ?_
   refine go_seq_region [0, 1, 2, 3, 4, 5] kz ?_
   refine go_rn [0] [1, 2, 3, 4, 5] [(3, .p 0 0), (12, .v (.slice A l.length c)), (13, .v (.int .i64 ((l.length : Nat) : Int))), (14, .v (.int .i64 ((k : Nat) : Int))), (16, .v (.int .i64 ((k : Nat) : Int)))] ap bg fun iR du => ?_
   clear bg
   obtain ⟨ga, gb, eS, gc, bS⟩ := Slots.get h1 (i := k) (by omega)
   obtain ⟨gd, dv⟩ : ∃ x, l[k]? = some x := ⟨_, List.getElem?_eq_getElem (by omega)⟩
   have dw := h2 k gd dv
   obtain ⟨ae, eN, eO, aP, eP, bh, eQ, bR, bT, bU, dx, rfl, bV, eU, fb⟩ := dw.open_
   rw [bV] at dw
   have fe := eU.small
   rw [bV] at bS
   refine of_op (wpOp_index du (t := 29) (A := A) (m := l.length) (q := ((k : Nat) : Int)) (d := 17) kz (e := 52) (size := 8) (bytes := 80) kz eS rfl (by omega) fun iS dy => ?_)
   clear du
   refine of_op (wpOp_load dy (t := 52) (b := ga) (o := gb + k * 8) (d := 18) kz (cs := [.int .i64 ae, .int .i64 eN, .int .i64 eO, .int .i64 aP, .int .i64 eP, .int .i64 bh, .int .i64 eQ, .slice bT bR.length bU]) (v := .agg #[.int .i64 ae, .int .i64 eN, .int .i64 eO, .int .i64 aP, .int .i64 eP, .int .i64 bh, .int .i64 eQ, .slice bT bR.length bU]) kz (AtF.move bS ap.step nilM keepF).at_ fun iT dz => ?_)
   clear dy
   refine of_op (wpOp_alloc ap dz (d := 6) (cs := [.int .i64 0, .int .i64 0, .int .i64 0, .int .i64 0, .int .i64 0, .int .i64 0, .int .i64 0, .slice none 0 0]) kz fun iU iV iW ge gg al dl dA => ?_)
   clear dz ap
   refine go_rn [4] [5] [(3, .p 0 0), (5, .v (.int .i64 ((k : Nat) : Int))), (6, .p 1 0), (12, .v (.slice A l.length c)), (13, .v (.int .i64 ((l.length : Nat) : Int))), (14, .v (.int .i64 ((k : Nat) : Int))), (18, .v (.agg #[.int .i64 ae, .int .i64 eN, .int .i64 eO, .int .i64 aP, .int .i64 eP, .int .i64 bh, .int .i64 eQ, .slice bT bR.length bU]))] dl dA fun iX dB => ?_
   clear dA
   refine of_op (wpOp_store dl dB (oi := 1) (cs := [.int .i64 ae, .int .i64 eN, .int .i64 eO, .int .i64 aP, .int .i64 eP, .int .i64 bh, .int .i64 eQ, .slice bT bR.length bU]) kz fun iY am bd dC => ?_)
   clear dB dl
   refine wpOps_nil (then_normal ?_)
   refine go_seq_region [0, 1, 2, 3, 4] kz ?_
   refine go_rn [0, 1] [2, 3, 4] [(3, .p 0 0), (6, .p 1 0), (12, .v (.slice A l.length c)), (13, .v (.int .i64 ((l.length : Nat) : Int))), (14, .v (.int .i64 ((k : Nat) : Int))), (19, .v (.agg #[.int .i64 n1, .slice A6 s2.length c7, .bool b3, .slice A8 l4.length c9, .slice aZ u5.length ba])), (20, .v (.int .i64 ((k : Nat) : Int)))] bd dC fun iZ dD => ?_
   clear dC
   refine of_op (wpOp_call dD (f := 57) (vs := [.agg #[.int .i64 n1, .slice A6 s2.length c7, .bool b3, .slice A8 l4.length c9, .slice aZ u5.length ba], .int .i64 ((k : Nat) : Int)]) (d := 21) kz Tryz.call57 (sAt _ _ k _ _ (ht.move bd.step nilM bd.imm)) ?_)
   rintro e_ gh ⟨gi, rfl, eV, bi⟩
   have aQ := eV.move bi nilM (fun b o h_ hb_ => bd.laid (G := F) bi b o (.inl h_) (Nat.lt_of_lt_of_le hb_ bi.size))
   obtain ⟨ai, af, ah, ao, bj, aN, aO, bk, bn, bo, bp, ff, bq, bt, dE, eW, gj, gk⟩ := aQ.open_
   rw [bt] at aQ
   have eX := dE.small
   have eY := eW.small
   rw [bt]
   refine ⟨_, rfl, fun gl bW => ?_⟩
   have bX := bd.next_nil bi
   have ag := bd.frN bi
   clear dD
   have hq_ := hU.2 k _ dv
   rw [bq] at hq_
   refine of_op (wpOp_alloc bX bW (d := 7) (cs := [.int .i64 0, .slice none 0 0, .bool false, .slice none 0 0, .slice none 0 0]) kz fun gm gn gp fg fh ab bY bZ => ?_)
   clear bW bX
   refine of_op (wpOp_store bY bZ (oi := 2) (cs := [.int .i64 ai, .slice aN af.length aO, .bool ah, .slice bk ao.length bn, .slice bo bj.length bp]) kz fun gq ac aa b8 => ?_)
   clear bZ bY
   refine wpOps_nil (then_normal ?_)
   refine go_sp [(3, .p 0 0), (6, .p 1 0), (7, .p 2 0), (12, .v (.slice A l.length c)), (13, .v (.int .i64 ((l.length : Nat) : Int))), (14, .v (.int .i64 ((k : Nat) : Int))), (23, .v (.int .i64 ae))] aa b8 fun gt cd => ?_
   clear b8
   refine wp_block ?_
   refine go_sp [(3, .p 0 0), (6, .p 1 0), (7, .p 2 0), (12, .v (.slice A l.length c)), (13, .v (.int .i64 ((l.length : Nat) : Int))), (14, .v (.int .i64 ((k : Nat) : Int))), (23, .v (.int .i64 ae)), (32, .v (.bool (ae == 8)))] aa cd fun gv ar => ?_
   clear cd
   refine cond_of ar (b := ae == 8) kz (fun bu => ?_) (fun bu => ?_)
   ·
    have fi : ae = 8 := by simpa using bu
    refine go_seq_region [0, 1, 2, 3, 4, 5, 6, 7, 8, 9, 10, 11] kz ?_
    refine go_rn [0, 1, 2, 3, 4, 5, 6] [7, 8, 9, 10, 11] [(3, .p 0 0), (7, .p 2 0), (12, .v (.slice A l.length c)), (13, .v (.int .i64 ((l.length : Nat) : Int))), (14, .v (.int .i64 ((k : Nat) : Int))), (40, .v (.bool (!(ah == (decide (aP ≥ 0))))))] aa ar fun gw aR => ?_
    clear ar
    refine (Bool.eq_false_or_eq_true (!(ah == (decide (aP ≥ 0))))).elim (fun au => ?_) (fun au => ?_)
    ·
     have fj : !(ah = (decide (aP ≥ 0))) := by simpa using au
     have ce := aR.cast (env' := [(3, .p 0 0), (7, .p 2 0), (12, .v (.slice A l.length c)), (13, .v (.int .i64 ((l.length : Nat) : Int))), (14, .v (.int .i64 ((k : Nat) : Int))), (40, .v (.bool true))]) (by rw [au])
     clear aR
     refine go_rn [7, 8, 9, 10, 11] [] [(3, .p 0 0), (12, .v (.slice A l.length c)), (13, .v (.int .i64 ((l.length : Nat) : Int))), (14, .v (.int .i64 ((k : Nat) : Int))), (45, .v (.bool true))] aa ce fun gx bw => ?_
     clear ce
     refine wpOps_nil (then_normal ?_)
     refine cond_true bw (b := true) kz rfl ?_
     refine go_sp [(4, .v (.bool false))] aa bw fun gy dF => ?_
     clear bw
     refine wp_ret ?_
     refine block_ret ?_
     refine block_ret ?_
     refine then_ret ?_
     refine then_ret ?_
     refine block_ret ?_
     refine then_ret ?_
     refine leave dF aa.cells (v := .bool false) kz ?_
     first
      | exact (us_8a hq_ (by assumption) (by assumption)).elim
      | exact (us_8b hq_ (by assumption) (by assumption)).elim
      | exact (us_7 hq_ (by assumption) (by assumption)).elim
      | exact (us_9a hq_ (by assumption) (by assumption)).elim
      | exact (us_9b hq_ (by assumption) (by assumption)).elim
      | exact (us_11a hq_ (by assumption) (by assumption)).elim
      | exact (us_11b hq_ (by assumption) (by assumption)).elim
      | exact (us_10 hq_ (by assumption) (by assumption) (by assumption)).elim
      | exact (us_n hq_ (by assumption) (by assumption) (by assumption) (by assumption) (by assumption) (by assumption)).elim
    ·
     have fk : !(ah ≠ (decide (aP ≥ 0))) := by simpa using au
     have cm := aR.cast (env' := [(3, .p 0 0), (7, .p 2 0), (12, .v (.slice A l.length c)), (13, .v (.int .i64 ((l.length : Nat) : Int))), (14, .v (.int .i64 ((k : Nat) : Int))), (40, .v (.bool false))]) (by rw [au])
     clear aR
     refine go_rn [7, 8, 9, 10, 11] [] [(3, .p 0 0), (12, .v (.slice A l.length c)), (13, .v (.int .i64 ((l.length : Nat) : Int))), (14, .v (.int .i64 ((k : Nat) : Int))), (45, .v (.bool (decide (((af.length : Nat) : Int) > 0))))] aa cm fun gz av => ?_
     clear cm
     refine wpOps_nil (then_normal ?_)
     refine cond_of av (b := decide (((af.length : Nat) : Int) > 0)) kz (fun bx => ?_) (fun bx => ?_)
     ·
      have fl := of_decide_eq_true bx
      refine go_sp [(4, .v (.bool false))] aa av fun gA dG => ?_
      clear av
      refine wp_ret ?_
      refine block_ret ?_
      refine block_ret ?_
      refine then_ret ?_
      refine then_ret ?_
      refine block_ret ?_
      refine then_ret ?_
      refine leave dG aa.cells (v := .bool false) kz ?_
      first
       | exact (us_8a hq_ (by assumption) (by assumption)).elim
       | exact (us_8b hq_ (by assumption) (by assumption)).elim
       | exact (us_7 hq_ (by assumption) (by assumption)).elim
       | exact (us_9a hq_ (by assumption) (by assumption)).elim
       | exact (us_9b hq_ (by assumption) (by assumption)).elim
       | exact (us_11a hq_ (by assumption) (by assumption)).elim
       | exact (us_11b hq_ (by assumption) (by assumption)).elim
       | exact (us_10 hq_ (by assumption) (by assumption) (by assumption)).elim
       | exact (us_n hq_ (by assumption) (by assumption) (by assumption) (by assumption) (by assumption) (by assumption)).elim
     ·
      have fm := of_decide_eq_false bx
      refine wp_skip ?_
      refine block_normal ?_
      refine block_normal ?_
      refine then_normal ?_
      refine go_region [0, 1] kz ?_
      refine go_rn [0, 1] [] [(3, .p 0 0), (12, .v (.slice A l.length c)), (13, .v (.int .i64 ((l.length : Nat) : Int))), (14, .v (.int .i64 (IntKind.i64.wrap (((k : Nat) : Int) + 1))))] aa av fun gB dH => ?_
      clear av
      refine wpOps_nil (then_normal ?_)
      obtain ⟨cq, dI, dJ⟩ := aa.cutB dH 1 [⟨bQ, 0, [.int .i64 n1, .slice A6 s2.length c7, .bool b3, .slice A8 l4.length c9, .slice aZ u5.length ba], true⟩] [(3, .p 0 0), (12, .v (.slice A l.length c)), (13, .v (.int .i64 ((l.length : Nat) : Int))), (14, .v (.int .i64 (IntKind.i64.wrap (((k : Nat) : Int) + 1))))]
      have dK : IntKind.i64.wrap (((k : Nat) : Int) + 1) = ((k + 1 : Nat) : Int) := wrap_succ (by omega)
      rw [dK] at cq
      exact ⟨l.length - (k + 1), by omega, k + 1, rfl, by omega, cq.pk, dI, ((((((ak.trans al).trans am).trans ag).trans ab).trans ac).trans dJ)⟩
   ·
    have fo : ae ≠ 8 := by simpa using bu
    refine go_sp [(3, .p 0 0), (6, .p 1 0), (7, .p 2 0), (12, .v (.slice A l.length c)), (13, .v (.int .i64 ((l.length : Nat) : Int))), (14, .v (.int .i64 ((k : Nat) : Int))), (23, .v (.int .i64 ae)), (46, .v (.bool (ae == 7)))] aa ar fun gC aw => ?_
    clear ar
    refine cond_of aw (b := ae == 7) kz (fun bz => ?_) (fun bz => ?_)
    ·
     have fq : ae = 7 := by simpa using bz
     refine go_seq_drawK 5 kz aa fun gD bA dL dM => ?_
     clear aa
     refine go_rnD [0, 1] [(3, .p 0 0), (12, .v (.slice A l.length c)), (13, .v (.int .i64 ((l.length : Nat) : Int))), (14, .v (.int .i64 ((k : Nat) : Int))), (49, .v (.slice aN af.length aO))] 3 (panicFree_then (panicFree_block (panicFree_block (panicFree_then (panicFree_then (panicFree_block (panicFree_then panicFree_body))))))) (fun _ h => h.cells) dM aw fun gE cr => ?_
     clear aw
     refine anyC_op (i := 2) kz (wpOp_make1 dL cr (d := 50) (j := 16) (t := 22) (e := 5) (bytes := 1) (z := .int .u8 0) kz kz kz kz (rfl) (rfl) (by omega) fun eZ gF gG fr ft ax ay cu => ?_)
     clear cr
     have dN := TT.ofW ax ay
     refine ⟨fun _ => dN, ?_⟩
     refine anyC_op (i := 3) kz (wpOp_call cu (f := 63) (vs := [.slice aN af.length aO, .slice (some ⟨eZ, 0, none⟩) 16 16]) (d := 51) kz Tryz.call63 (sSame _ _ _ _ af (List.replicate 16 0 : Bs) _ _ ((dE.move (((ab.trans ac).trans bA).trans ax).step immM (((ab.trans ac).trans bA).trans ax).to').move (Step.refl _ Nil) nilM allF) (octs_zero (ay.own 0 _ rfl) (F := fun _ _ => True) (fun _ _ _ => trivial))) ?_)
     rintro e_ gH ⟨rfl, cw⟩
     refine ⟨_, rfl, fun gI cz => ?_⟩
     have az := ay.next_nil cw
     have cA := ay.frN cw
     clear cu ay
     have cB := TT.ofW (ax.trans cA) az
     refine ⟨fun _ => cB, ?_⟩
     refine go_rnD [4] [(3, .p 0 0), (12, .v (.slice A l.length c)), (13, .v (.int .i64 ((l.length : Nat) : Int))), (14, .v (.int .i64 ((k : Nat) : Int))), (52, .v (.bool (!(decide (af = (List.replicate 16 0 : Bs))))))] 0 (panicFree_then (panicFree_block (panicFree_block (panicFree_then (panicFree_then (panicFree_block (panicFree_then panicFree_body))))))) (fun _ h => h.cells) cB cz fun gJ aA => ?_
     clear cz
     refine anyC_done kz ?_ _
     refine then_normal ?_
     refine cond_of aA (b := !(decide (af = (List.replicate 16 0 : Bs)))) kz (fun dO => ?_) (fun dO => ?_)
     ·
      refine go_sp [(4, .v (.bool false))] az aA fun gK dP => ?_
      clear aA
      refine wp_ret ?_
      refine block_ret ?_
      refine block_ret ?_
      refine then_ret ?_
      refine then_ret ?_
      refine block_ret ?_
      refine then_ret ?_
      refine leave dP az.cells (v := .bool false) kz ?_
      first
       | exact (us_8a hq_ (by assumption) (by assumption)).elim
       | exact (us_8b hq_ (by assumption) (by assumption)).elim
       | exact (us_7 hq_ (by assumption) (by assumption)).elim
       | exact (us_9a hq_ (by assumption) (by assumption)).elim
       | exact (us_9b hq_ (by assumption) (by assumption)).elim
       | exact (us_11a hq_ (by assumption) (by assumption)).elim
       | exact (us_11b hq_ (by assumption) (by assumption)).elim
       | exact (us_10 hq_ (by assumption) (by assumption) (by assumption)).elim
       | exact (us_n hq_ (by assumption) (by assumption) (by assumption) (by assumption) (by assumption) (by assumption)).elim
     ·
      refine wp_skip ?_
      refine block_normal ?_
      refine block_normal ?_
      refine then_normal ?_
      refine go_region [0, 1] kz ?_
      refine go_rn [0, 1] [] [(3, .p 0 0), (12, .v (.slice A l.length c)), (13, .v (.int .i64 ((l.length : Nat) : Int))), (14, .v (.int .i64 (IntKind.i64.wrap (((k : Nat) : Int) + 1))))] az aA fun gL dQ => ?_
      clear aA
      refine wpOps_nil (then_normal ?_)
      obtain ⟨cC, dR, dS⟩ := az.cutB dQ 1 [⟨bQ, 0, [.int .i64 n1, .slice A6 s2.length c7, .bool b3, .slice A8 l4.length c9, .slice aZ u5.length ba], true⟩] [(3, .p 0 0), (12, .v (.slice A l.length c)), (13, .v (.int .i64 ((l.length : Nat) : Int))), (14, .v (.int .i64 (IntKind.i64.wrap (((k : Nat) : Int) + 1))))]
      obtain ⟨dT, dU⟩ := dR.cutR 0 []
      have dV : IntKind.i64.wrap (((k : Nat) : Int) + 1) = ((k + 1 : Nat) : Int) := wrap_succ (by omega)
      rw [dV] at cC
      exact ⟨l.length - (k + 1), by omega, k + 1, rfl, by omega, cC.pk, dT, ((((((((((ak.trans al).trans am).trans ag).trans ab).trans ac).trans bA).trans ax).trans cA).trans dS).trans dU)⟩
    ·
     have fu : ae ≠ 7 := by simpa using bz
     refine wp_seq ?_
     refine go_sp [(3, .p 0 0), (6, .p 1 0), (7, .p 2 0), (12, .v (.slice A l.length c)), (13, .v (.int .i64 ((l.length : Nat) : Int))), (14, .v (.int .i64 ((k : Nat) : Int))), (23, .v (.int .i64 ae)), (53, .v (.bool (ae == 9)))] aa aw fun gM aj => ?_
     clear aw
     refine cond_of aj (b := ae == 9) kz (fun aS => ?_) (fun aS => ?_)
     ·
      have fv : ae = 9 := by simpa using aS
      refine wp_skip ?_
      refine then_normal ?_
      refine cond_true aj (b := ae == 9) kz (aS) ?_
      refine go_seq_region [0, 1, 2, 3, 4, 5, 6, 7, 8, 9] kz ?_
      refine go_rn [0, 1, 2, 3, 4] [5, 6, 7, 8, 9] [(3, .p 0 0), (7, .p 2 0), (12, .v (.slice A l.length c)), (13, .v (.int .i64 ((l.length : Nat) : Int))), (14, .v (.int .i64 ((k : Nat) : Int))), (60, .v (.bool (decide (((af.length : Nat) : Int) > 0))))] aa aj fun gN aT => ?_
      clear aj
      refine (Bool.eq_false_or_eq_true (decide (((af.length : Nat) : Int) > 0))).elim (fun aB => ?_) (fun aB => ?_)
      ·
       have fw := of_decide_eq_true aB
       have cD := aT.cast (env' := [(3, .p 0 0), (7, .p 2 0), (12, .v (.slice A l.length c)), (13, .v (.int .i64 ((l.length : Nat) : Int))), (14, .v (.int .i64 ((k : Nat) : Int))), (60, .v (.bool true))]) (by rw [aB])
       clear aT
       refine go_rn [5, 6, 7, 8, 9] [] [(3, .p 0 0), (12, .v (.slice A l.length c)), (13, .v (.int .i64 ((l.length : Nat) : Int))), (14, .v (.int .i64 ((k : Nat) : Int))), (65, .v (.bool true))] aa cD fun gO bB => ?_
       clear cD
       refine wpOps_nil (then_normal ?_)
       refine cond_true bB (b := true) kz rfl ?_
       refine go_sp [(4, .v (.bool false))] aa bB fun gP dW => ?_
       clear bB
       refine wp_ret ?_
       refine block_ret ?_
       refine block_ret ?_
       refine then_ret ?_
       refine then_ret ?_
       refine block_ret ?_
       refine then_ret ?_
       refine leave dW aa.cells (v := .bool false) kz ?_
       first
        | exact (us_8a hq_ (by assumption) (by assumption)).elim
        | exact (us_8b hq_ (by assumption) (by assumption)).elim
        | exact (us_7 hq_ (by assumption) (by assumption)).elim
        | exact (us_9a hq_ (by assumption) (by assumption)).elim
        | exact (us_9b hq_ (by assumption) (by assumption)).elim
        | exact (us_11a hq_ (by assumption) (by assumption)).elim
        | exact (us_11b hq_ (by assumption) (by assumption)).elim
        | exact (us_10 hq_ (by assumption) (by assumption) (by assumption)).elim
        | exact (us_n hq_ (by assumption) (by assumption) (by assumption) (by assumption) (by assumption) (by assumption)).elim
      ·
       have fx := of_decide_eq_false aB
       have cE := aT.cast (env' := [(3, .p 0 0), (7, .p 2 0), (12, .v (.slice A l.length c)), (13, .v (.int .i64 ((l.length : Nat) : Int))), (14, .v (.int .i64 ((k : Nat) : Int))), (60, .v (.bool false))]) (by rw [aB])
       clear aT
       refine go_rn [5, 6, 7, 8, 9] [] [(3, .p 0 0), (12, .v (.slice A l.length c)), (13, .v (.int .i64 ((l.length : Nat) : Int))), (14, .v (.int .i64 ((k : Nat) : Int))), (65, .v (.bool (decide (((ao.length : Nat) : Int) > 0))))] aa cE fun gQ aC => ?_
       clear cE
       refine wpOps_nil (then_normal ?_)
       refine cond_of aC (b := decide (((ao.length : Nat) : Int) > 0)) kz (fun bC => ?_) (fun bC => ?_)
       ·
        have fy := of_decide_eq_true bC
        refine go_sp [(4, .v (.bool false))] aa aC fun gR dX => ?_
        clear aC
        refine wp_ret ?_
        refine block_ret ?_
        refine block_ret ?_
        refine then_ret ?_
        refine then_ret ?_
        refine block_ret ?_
        refine then_ret ?_
        refine leave dX aa.cells (v := .bool false) kz ?_
        first
         | exact (us_8a hq_ (by assumption) (by assumption)).elim
         | exact (us_8b hq_ (by assumption) (by assumption)).elim
         | exact (us_7 hq_ (by assumption) (by assumption)).elim
         | exact (us_9a hq_ (by assumption) (by assumption)).elim
         | exact (us_9b hq_ (by assumption) (by assumption)).elim
         | exact (us_11a hq_ (by assumption) (by assumption)).elim
         | exact (us_11b hq_ (by assumption) (by assumption)).elim
         | exact (us_10 hq_ (by assumption) (by assumption) (by assumption)).elim
         | exact (us_n hq_ (by assumption) (by assumption) (by assumption) (by assumption) (by assumption) (by assumption)).elim
       ·
        have fz := of_decide_eq_false bC
        refine wp_skip ?_
        refine block_normal ?_
        refine block_normal ?_
        refine then_normal ?_
        refine go_region [0, 1] kz ?_
        refine go_rn [0, 1] [] [(3, .p 0 0), (12, .v (.slice A l.length c)), (13, .v (.int .i64 ((l.length : Nat) : Int))), (14, .v (.int .i64 (IntKind.i64.wrap (((k : Nat) : Int) + 1))))] aa aC fun gS dY => ?_
        clear aC
        refine wpOps_nil (then_normal ?_)
        obtain ⟨cG, dZ, d5⟩ := aa.cutB dY 1 [⟨bQ, 0, [.int .i64 n1, .slice A6 s2.length c7, .bool b3, .slice A8 l4.length c9, .slice aZ u5.length ba], true⟩] [(3, .p 0 0), (12, .v (.slice A l.length c)), (13, .v (.int .i64 ((l.length : Nat) : Int))), (14, .v (.int .i64 (IntKind.i64.wrap (((k : Nat) : Int) + 1))))]
        have d6 : IntKind.i64.wrap (((k : Nat) : Int) + 1) = ((k + 1 : Nat) : Int) := wrap_succ (by omega)
        rw [d6] at cG
        exact ⟨l.length - (k + 1), by omega, k + 1, rfl, by omega, cG.pk, dZ, ((((((ak.trans al).trans am).trans ag).trans ab).trans ac).trans d5)⟩
     ·
      have fA : ae ≠ 9 := by simpa using aS
      refine go_region [0, 1] kz ?_
      refine go_rn [0, 1] [] [(3, .p 0 0), (6, .p 1 0), (7, .p 2 0), (12, .v (.slice A l.length c)), (13, .v (.int .i64 ((l.length : Nat) : Int))), (14, .v (.int .i64 ((k : Nat) : Int))), (23, .v (.int .i64 ae)), (53, .v (.bool (ae == 11)))] aa aj fun gT aD => ?_
      clear aj
      refine wpOps_nil (then_normal ?_)
      refine cond_of aD (b := ae == 11) kz (fun bD => ?_) (fun bD => ?_)
      ·
       have fB : ae = 11 := by simpa using bD
       refine go_seq_region [0, 1, 2, 3, 4, 5, 6, 7, 8, 9] kz ?_
       refine go_rn [0, 1, 2, 3, 4] [5, 6, 7, 8, 9] [(3, .p 0 0), (7, .p 2 0), (12, .v (.slice A l.length c)), (13, .v (.int .i64 ((l.length : Nat) : Int))), (14, .v (.int .i64 ((k : Nat) : Int))), (60, .v (.bool (decide (((af.length : Nat) : Int) > 0))))] aa aD fun gU aU => ?_
       clear aD
       refine (Bool.eq_false_or_eq_true (decide (((af.length : Nat) : Int) > 0))).elim (fun aE => ?_) (fun aE => ?_)
       ·
        have fC := of_decide_eq_true aE
        have cH := aU.cast (env' := [(3, .p 0 0), (7, .p 2 0), (12, .v (.slice A l.length c)), (13, .v (.int .i64 ((l.length : Nat) : Int))), (14, .v (.int .i64 ((k : Nat) : Int))), (60, .v (.bool true))]) (by rw [aE])
        clear aU
        refine go_rn [5, 6, 7, 8, 9] [] [(3, .p 0 0), (12, .v (.slice A l.length c)), (13, .v (.int .i64 ((l.length : Nat) : Int))), (14, .v (.int .i64 ((k : Nat) : Int))), (65, .v (.bool true))] aa cH fun gV bE => ?_
        clear cH
        refine wpOps_nil (then_normal ?_)
        refine cond_true bE (b := true) kz rfl ?_
        refine go_sp [(4, .v (.bool false))] aa bE fun gW d7 => ?_
        clear bE
        refine wp_ret ?_
        refine block_ret ?_
        refine block_ret ?_
        refine then_ret ?_
        refine then_ret ?_
        refine block_ret ?_
        refine then_ret ?_
        refine leave d7 aa.cells (v := .bool false) kz ?_
        first
         | exact (us_8a hq_ (by assumption) (by assumption)).elim
         | exact (us_8b hq_ (by assumption) (by assumption)).elim
         | exact (us_7 hq_ (by assumption) (by assumption)).elim
         | exact (us_9a hq_ (by assumption) (by assumption)).elim
         | exact (us_9b hq_ (by assumption) (by assumption)).elim
         | exact (us_11a hq_ (by assumption) (by assumption)).elim
         | exact (us_11b hq_ (by assumption) (by assumption)).elim
         | exact (us_10 hq_ (by assumption) (by assumption) (by assumption)).elim
         | exact (us_n hq_ (by assumption) (by assumption) (by assumption) (by assumption) (by assumption) (by assumption)).elim
       ·
        have fD := of_decide_eq_false aE
        have cI := aU.cast (env' := [(3, .p 0 0), (7, .p 2 0), (12, .v (.slice A l.length c)), (13, .v (.int .i64 ((l.length : Nat) : Int))), (14, .v (.int .i64 ((k : Nat) : Int))), (60, .v (.bool false))]) (by rw [aE])
        clear aU
        refine go_rn [5, 6, 7, 8, 9] [] [(3, .p 0 0), (12, .v (.slice A l.length c)), (13, .v (.int .i64 ((l.length : Nat) : Int))), (14, .v (.int .i64 ((k : Nat) : Int))), (65, .v (.bool (decide (((ao.length : Nat) : Int) > 0))))] aa cI fun gX aF => ?_
        clear cI
        refine wpOps_nil (then_normal ?_)
        refine cond_of aF (b := decide (((ao.length : Nat) : Int) > 0)) kz (fun bF => ?_) (fun bF => ?_)
        ·
         have fE := of_decide_eq_true bF
         refine go_sp [(4, .v (.bool false))] aa aF fun gY d8 => ?_
         clear aF
         refine wp_ret ?_
         refine block_ret ?_
         refine block_ret ?_
         refine then_ret ?_
         refine then_ret ?_
         refine block_ret ?_
         refine then_ret ?_
         refine leave d8 aa.cells (v := .bool false) kz ?_
         first
          | exact (us_8a hq_ (by assumption) (by assumption)).elim
          | exact (us_8b hq_ (by assumption) (by assumption)).elim
          | exact (us_7 hq_ (by assumption) (by assumption)).elim
          | exact (us_9a hq_ (by assumption) (by assumption)).elim
          | exact (us_9b hq_ (by assumption) (by assumption)).elim
          | exact (us_11a hq_ (by assumption) (by assumption)).elim
          | exact (us_11b hq_ (by assumption) (by assumption)).elim
          | exact (us_10 hq_ (by assumption) (by assumption) (by assumption)).elim
          | exact (us_n hq_ (by assumption) (by assumption) (by assumption) (by assumption) (by assumption) (by assumption)).elim
        ·
         have fF := of_decide_eq_false bF
         refine wp_skip ?_
         refine block_normal ?_
         refine block_normal ?_
         refine then_normal ?_
         refine go_region [0, 1] kz ?_
         refine go_rn [0, 1] [] [(3, .p 0 0), (12, .v (.slice A l.length c)), (13, .v (.int .i64 ((l.length : Nat) : Int))), (14, .v (.int .i64 (IntKind.i64.wrap (((k : Nat) : Int) + 1))))] aa aF fun gZ d9 => ?_
         clear aF
         refine wpOps_nil (then_normal ?_)
         obtain ⟨cJ, ea, eb⟩ := aa.cutB d9 1 [⟨bQ, 0, [.int .i64 n1, .slice A6 s2.length c7, .bool b3, .slice A8 l4.length c9, .slice aZ u5.length ba], true⟩] [(3, .p 0 0), (12, .v (.slice A l.length c)), (13, .v (.int .i64 ((l.length : Nat) : Int))), (14, .v (.int .i64 (IntKind.i64.wrap (((k : Nat) : Int) + 1))))]
         have ec : IntKind.i64.wrap (((k : Nat) : Int) + 1) = ((k + 1 : Nat) : Int) := wrap_succ (by omega)
         rw [ec] at cJ
         exact ⟨l.length - (k + 1), by omega, k + 1, rfl, by omega, cJ.pk, ea, ((((((ak.trans al).trans am).trans ag).trans ab).trans ac).trans eb)⟩
      ·
       have fG : ae ≠ 11 := by simpa using bD
       refine go_sp [(3, .p 0 0), (6, .p 1 0), (7, .p 2 0), (12, .v (.slice A l.length c)), (13, .v (.int .i64 ((l.length : Nat) : Int))), (14, .v (.int .i64 ((k : Nat) : Int))), (66, .v (.bool (ae == 10)))] aa aD fun g9 aG => ?_
       clear aD
       refine cond_of aG (b := ae == 10) kz (fun bG => ?_) (fun bG => ?_)
       ·
        have fH : ae = 10 := by simpa using bG
        refine go_seq_region [0, 1, 2, 3, 4, 5, 6, 7, 8, 9, 10, 11, 12, 13, 14, 15, 16, 17, 18, 19] kz ?_
        refine go_rn [0, 1, 2, 3] [4, 5, 6, 7, 8, 9, 10, 11, 12, 13, 14, 15, 16, 17, 18, 19] [(3, .p 0 0), (6, .p 1 0), (7, .p 2 0), (12, .v (.slice A l.length c)), (13, .v (.int .i64 ((l.length : Nat) : Int))), (14, .v (.int .i64 ((k : Nat) : Int))), (71, .v (.bool (decide (aP ≥ 0))))] aa aG fun hC aV => ?_
        clear aG
        refine (Bool.eq_false_or_eq_true (decide (aP ≥ 0))).elim (fun aH => ?_) (fun aH => ?_)
        ·
         have fI := of_decide_eq_true aH
         have cK := aV.cast (env' := [(3, .p 0 0), (6, .p 1 0), (7, .p 2 0), (12, .v (.slice A l.length c)), (13, .v (.int .i64 ((l.length : Nat) : Int))), (14, .v (.int .i64 ((k : Nat) : Int))), (71, .v (.bool true))]) (by rw [aH])
         clear aV
         refine go_rn [4, 5, 6, 7, 8] [9, 10, 11, 12, 13, 14, 15, 16, 17, 18, 19] [(3, .p 0 0), (6, .p 1 0), (7, .p 2 0), (12, .v (.slice A l.length c)), (13, .v (.int .i64 ((l.length : Nat) : Int))), (14, .v (.int .i64 ((k : Nat) : Int))), (76, .v (.bool (!ah)))] aa cK fun hJ aW => ?_
         clear cK
         refine (Bool.eq_false_or_eq_true (!ah)).elim (fun bH => ?_) (fun bH => ?_)
         ·
          have cL := aW.cast (env' := [(3, .p 0 0), (6, .p 1 0), (7, .p 2 0), (12, .v (.slice A l.length c)), (13, .v (.int .i64 ((l.length : Nat) : Int))), (14, .v (.int .i64 ((k : Nat) : Int))), (76, .v (.bool true))]) (by rw [bH])
          clear aW
          refine go_rn [9, 10, 11, 12, 13, 14, 15, 16, 17, 18, 19] [] [(3, .p 0 0), (12, .v (.slice A l.length c)), (13, .v (.int .i64 ((l.length : Nat) : Int))), (14, .v (.int .i64 ((k : Nat) : Int))), (87, .v (.bool true))] aa cL fun hK bI => ?_
          clear cL
          refine wpOps_nil (then_normal ?_)
          refine cond_true bI (b := true) kz rfl ?_
          refine go_sp [(4, .v (.bool false))] aa bI fun hZ ee => ?_
          clear bI
          refine wp_ret ?_
          refine block_ret ?_
          refine block_ret ?_
          refine then_ret ?_
          refine then_ret ?_
          refine block_ret ?_
          refine then_ret ?_
          refine leave ee aa.cells (v := .bool false) kz ?_
          first
           | exact (us_8a hq_ (by assumption) (by assumption)).elim
           | exact (us_8b hq_ (by assumption) (by assumption)).elim
           | exact (us_7 hq_ (by assumption) (by assumption)).elim
           | exact (us_9a hq_ (by assumption) (by assumption)).elim
           | exact (us_9b hq_ (by assumption) (by assumption)).elim
           | exact (us_11a hq_ (by assumption) (by assumption)).elim
           | exact (us_11b hq_ (by assumption) (by assumption)).elim
           | exact (us_10 hq_ (by assumption) (by assumption) (by assumption)).elim
           | exact (us_n hq_ (by assumption) (by assumption) (by assumption) (by assumption) (by assumption) (by assumption)).elim
         ·
          have cM := aW.cast (env' := [(3, .p 0 0), (6, .p 1 0), (7, .p 2 0), (12, .v (.slice A l.length c)), (13, .v (.int .i64 ((l.length : Nat) : Int))), (14, .v (.int .i64 ((k : Nat) : Int))), (76, .v (.bool false))]) (by rw [bH])
          clear aW
          refine go_rn [9, 10, 11, 12] [13, 14, 15, 16, 17, 18, 19] [(3, .p 0 0), (6, .p 1 0), (7, .p 2 0), (12, .v (.slice A l.length c)), (13, .v (.int .i64 ((l.length : Nat) : Int))), (14, .v (.int .i64 ((k : Nat) : Int))), (76, .v (.bool false)), (80, .v (.bool (decide (aP < 0))))] aa cM fun ia aX => ?_
          clear cM
          refine (Bool.eq_false_or_eq_true (decide (aP < 0))).elim (fun aI => ?_) (fun aI => ?_)
          ·
           have fJ := of_decide_eq_true aI
           have cN := aX.cast (env' := [(3, .p 0 0), (6, .p 1 0), (7, .p 2 0), (12, .v (.slice A l.length c)), (13, .v (.int .i64 ((l.length : Nat) : Int))), (14, .v (.int .i64 ((k : Nat) : Int))), (76, .v (.bool false)), (80, .v (.bool true))]) (by rw [aI])
           clear aX
           refine go_rn [13, 14, 15] [16, 17, 18, 19] [(3, .p 0 0), (12, .v (.slice A l.length c)), (13, .v (.int .i64 ((l.length : Nat) : Int))), (14, .v (.int .i64 ((k : Nat) : Int))), (76, .v (.bool false)), (80, .v (.bool true)), (82, .v (.slice bT bR.length bU)), (83, .v (.agg #[.int .i64 ai, .slice aN af.length aO, .bool ah, .slice bk ao.length bn, .slice bo bj.length bp]))] aa cN fun ib cO => ?_
           clear cN
           refine of_op (wpOp_call cO (f := 61) (vs := [.slice bT bR.length bU, .agg #[.int .i64 ai, .slice aN af.length aO, .bool ah, .slice bk ao.length bn, .slice bo bj.length bp]]) (d := 84) kz Tryz.call61 ( hu _ _ bR _ _ _ _ ⟨dx, (eU.move aa.step nilM aa.imm), (fun i_ x_ h_ => ((fb i_ x_ h_).move aa.step nilM aa.imm))⟩ (aQ.move (ab.trans ac).step immM (ab.trans ac).to') (by rw [bq]; exact us_sub hq_ (by assumption) (by assumption))) ?_)
           rintro e_ ic ⟨rfl, cP⟩
           refine ⟨_, rfl, fun ig cQ => ?_⟩
           have bJ := aa.next_nil cP
           have ef := aa.frN cP
           clear cO aa
           refine go_rn [17, 18, 19] [] [(3, .p 0 0), (12, .v (.slice A l.length c)), (13, .v (.int .i64 ((l.length : Nat) : Int))), (14, .v (.int .i64 ((k : Nat) : Int))), (87, .v (.bool false))] bJ cQ fun ii bK => ?_
           clear cQ
           refine wpOps_nil (then_normal ?_)
           refine cond_false bK (b := false) kz rfl ?_
           refine wp_skip ?_
           refine block_normal ?_
           refine block_normal ?_
           refine then_normal ?_
           refine go_region [0, 1] kz ?_
           refine go_rn [0, 1] [] [(3, .p 0 0), (12, .v (.slice A l.length c)), (13, .v (.int .i64 ((l.length : Nat) : Int))), (14, .v (.int .i64 (IntKind.i64.wrap (((k : Nat) : Int) + 1))))] bJ bK fun ij eg => ?_
           clear bK
           refine wpOps_nil (then_normal ?_)
           obtain ⟨cR, eh, ei⟩ := bJ.cutB eg 1 [⟨bQ, 0, [.int .i64 n1, .slice A6 s2.length c7, .bool b3, .slice A8 l4.length c9, .slice aZ u5.length ba], true⟩] [(3, .p 0 0), (12, .v (.slice A l.length c)), (13, .v (.int .i64 ((l.length : Nat) : Int))), (14, .v (.int .i64 (IntKind.i64.wrap (((k : Nat) : Int) + 1))))]
           have ej : IntKind.i64.wrap (((k : Nat) : Int) + 1) = ((k + 1 : Nat) : Int) := wrap_succ (by omega)
           rw [ej] at cR
           exact ⟨l.length - (k + 1), by omega, k + 1, rfl, by omega, cR.pk, eh, (((((((ak.trans al).trans am).trans ag).trans ab).trans ac).trans ef).trans ei)⟩
          ·
           have fK := of_decide_eq_false aI
           have cS := aX.cast (env' := [(3, .p 0 0), (6, .p 1 0), (7, .p 2 0), (12, .v (.slice A l.length c)), (13, .v (.int .i64 ((l.length : Nat) : Int))), (14, .v (.int .i64 ((k : Nat) : Int))), (76, .v (.bool false)), (80, .v (.bool false))]) (by rw [aI])
           clear aX
           refine go_rn [13, 14, 15, 16, 17, 18, 19] [] [(3, .p 0 0), (12, .v (.slice A l.length c)), (13, .v (.int .i64 ((l.length : Nat) : Int))), (14, .v (.int .i64 ((k : Nat) : Int))), (87, .v (.bool false))] aa cS fun ik bL => ?_
           clear cS
           refine wpOps_nil (then_normal ?_)
           refine cond_false bL (b := false) kz rfl ?_
           refine wp_skip ?_
           refine block_normal ?_
           refine block_normal ?_
           refine then_normal ?_
           refine go_region [0, 1] kz ?_
           refine go_rn [0, 1] [] [(3, .p 0 0), (12, .v (.slice A l.length c)), (13, .v (.int .i64 ((l.length : Nat) : Int))), (14, .v (.int .i64 (IntKind.i64.wrap (((k : Nat) : Int) + 1))))] aa bL fun il ek => ?_
           clear bL
           refine wpOps_nil (then_normal ?_)
           obtain ⟨cT, em, eo⟩ := aa.cutB ek 1 [⟨bQ, 0, [.int .i64 n1, .slice A6 s2.length c7, .bool b3, .slice A8 l4.length c9, .slice aZ u5.length ba], true⟩] [(3, .p 0 0), (12, .v (.slice A l.length c)), (13, .v (.int .i64 ((l.length : Nat) : Int))), (14, .v (.int .i64 (IntKind.i64.wrap (((k : Nat) : Int) + 1))))]
           have ep : IntKind.i64.wrap (((k : Nat) : Int) + 1) = ((k + 1 : Nat) : Int) := wrap_succ (by omega)
           rw [ep] at cT
           exact ⟨l.length - (k + 1), by omega, k + 1, rfl, by omega, cT.pk, em, ((((((ak.trans al).trans am).trans ag).trans ab).trans ac).trans eo)⟩
        ·
         have fL := of_decide_eq_false aH
         have cU := aV.cast (env' := [(3, .p 0 0), (6, .p 1 0), (7, .p 2 0), (12, .v (.slice A l.length c)), (13, .v (.int .i64 ((l.length : Nat) : Int))), (14, .v (.int .i64 ((k : Nat) : Int))), (71, .v (.bool false))]) (by rw [aH])
         clear aV
         refine go_rn [4, 5, 6, 7, 8, 9, 10, 11, 12] [13, 14, 15, 16, 17, 18, 19] [(3, .p 0 0), (6, .p 1 0), (7, .p 2 0), (12, .v (.slice A l.length c)), (13, .v (.int .i64 ((l.length : Nat) : Int))), (14, .v (.int .i64 ((k : Nat) : Int))), (76, .v (.bool false)), (80, .v (.bool (decide (aP < 0))))] aa cU fun im aY => ?_
         clear cU
         refine (Bool.eq_false_or_eq_true (decide (aP < 0))).elim (fun aJ => ?_) (fun aJ => ?_)
         ·
          have fM := of_decide_eq_true aJ
          have cV := aY.cast (env' := [(3, .p 0 0), (6, .p 1 0), (7, .p 2 0), (12, .v (.slice A l.length c)), (13, .v (.int .i64 ((l.length : Nat) : Int))), (14, .v (.int .i64 ((k : Nat) : Int))), (76, .v (.bool false)), (80, .v (.bool true))]) (by rw [aJ])
          clear aY
          refine go_rn [13, 14, 15] [16, 17, 18, 19] [(3, .p 0 0), (12, .v (.slice A l.length c)), (13, .v (.int .i64 ((l.length : Nat) : Int))), (14, .v (.int .i64 ((k : Nat) : Int))), (76, .v (.bool false)), (80, .v (.bool true)), (82, .v (.slice bT bR.length bU)), (83, .v (.agg #[.int .i64 ai, .slice aN af.length aO, .bool ah, .slice bk ao.length bn, .slice bo bj.length bp]))] aa cV fun io cW => ?_
          clear cV
          refine of_op (wpOp_call cW (f := 61) (vs := [.slice bT bR.length bU, .agg #[.int .i64 ai, .slice aN af.length aO, .bool ah, .slice bk ao.length bn, .slice bo bj.length bp]]) (d := 84) kz Tryz.call61 ( hu _ _ bR _ _ _ _ ⟨dx, (eU.move aa.step nilM aa.imm), (fun i_ x_ h_ => ((fb i_ x_ h_).move aa.step nilM aa.imm))⟩ (aQ.move (ab.trans ac).step immM (ab.trans ac).to') (by rw [bq]; exact us_sub hq_ (by assumption) (by assumption))) ?_)
          rintro e_ ip ⟨rfl, cX⟩
          refine ⟨_, rfl, fun iq cY => ?_⟩
          have bM := aa.next_nil cX
          have eu := aa.frN cX
          clear cW aa
          refine go_rn [17, 18, 19] [] [(3, .p 0 0), (12, .v (.slice A l.length c)), (13, .v (.int .i64 ((l.length : Nat) : Int))), (14, .v (.int .i64 ((k : Nat) : Int))), (87, .v (.bool false))] bM cY fun ir bN => ?_
          clear cY
          refine wpOps_nil (then_normal ?_)
          refine cond_false bN (b := false) kz rfl ?_
          refine wp_skip ?_
          refine block_normal ?_
          refine block_normal ?_
          refine then_normal ?_
          refine go_region [0, 1] kz ?_
          refine go_rn [0, 1] [] [(3, .p 0 0), (12, .v (.slice A l.length c)), (13, .v (.int .i64 ((l.length : Nat) : Int))), (14, .v (.int .i64 (IntKind.i64.wrap (((k : Nat) : Int) + 1))))] bM bN fun iu ev => ?_
          clear bN
          refine wpOps_nil (then_normal ?_)
          obtain ⟨cZ, ew, ey⟩ := bM.cutB ev 1 [⟨bQ, 0, [.int .i64 n1, .slice A6 s2.length c7, .bool b3, .slice A8 l4.length c9, .slice aZ u5.length ba], true⟩] [(3, .p 0 0), (12, .v (.slice A l.length c)), (13, .v (.int .i64 ((l.length : Nat) : Int))), (14, .v (.int .i64 (IntKind.i64.wrap (((k : Nat) : Int) + 1))))]
          have ez : IntKind.i64.wrap (((k : Nat) : Int) + 1) = ((k + 1 : Nat) : Int) := wrap_succ (by omega)
          rw [ez] at cZ
          exact ⟨l.length - (k + 1), by omega, k + 1, rfl, by omega, cZ.pk, ew, (((((((ak.trans al).trans am).trans ag).trans ab).trans ac).trans eu).trans ey)⟩
         ·
          have fN := of_decide_eq_false aJ
          have c5 := aY.cast (env' := [(3, .p 0 0), (6, .p 1 0), (7, .p 2 0), (12, .v (.slice A l.length c)), (13, .v (.int .i64 ((l.length : Nat) : Int))), (14, .v (.int .i64 ((k : Nat) : Int))), (76, .v (.bool false)), (80, .v (.bool false))]) (by rw [aJ])
          clear aY
          refine go_rn [13, 14, 15, 16, 17, 18, 19] [] [(3, .p 0 0), (12, .v (.slice A l.length c)), (13, .v (.int .i64 ((l.length : Nat) : Int))), (14, .v (.int .i64 ((k : Nat) : Int))), (87, .v (.bool false))] aa c5 fun iv bO => ?_
          clear c5
          refine wpOps_nil (then_normal ?_)
          refine cond_false bO (b := false) kz rfl ?_
          refine wp_skip ?_
          refine block_normal ?_
          refine block_normal ?_
          refine then_normal ?_
          refine go_region [0, 1] kz ?_
          refine go_rn [0, 1] [] [(3, .p 0 0), (12, .v (.slice A l.length c)), (13, .v (.int .i64 ((l.length : Nat) : Int))), (14, .v (.int .i64 (IntKind.i64.wrap (((k : Nat) : Int) + 1))))] aa bO fun iw eB => ?_
          clear bO
          refine wpOps_nil (then_normal ?_)
          obtain ⟨c6, eC, eD⟩ := aa.cutB eB 1 [⟨bQ, 0, [.int .i64 n1, .slice A6 s2.length c7, .bool b3, .slice A8 l4.length c9, .slice aZ u5.length ba], true⟩] [(3, .p 0 0), (12, .v (.slice A l.length c)), (13, .v (.int .i64 ((l.length : Nat) : Int))), (14, .v (.int .i64 (IntKind.i64.wrap (((k : Nat) : Int) + 1))))]
          have eE : IntKind.i64.wrap (((k : Nat) : Int) + 1) = ((k + 1 : Nat) : Int) := wrap_succ (by omega)
          rw [eE] at c6
          exact ⟨l.length - (k + 1), by omega, k + 1, rfl, by omega, c6.pk, eC, ((((((ak.trans al).trans am).trans ag).trans ab).trans ac).trans eD)⟩
       ·
        have fO : ae ≠ 10 := by simpa using bG
        refine go_seq_drawK 8 kz aa fun ix eF da eG => ?_
        clear aa
        refine go_rnD [0, 1, 2, 3, 4, 5] [(3, .p 0 0), (12, .v (.slice A l.length c)), (13, .v (.int .i64 ((l.length : Nat) : Int))), (14, .v (.int .i64 ((k : Nat) : Int))), (25, .v (.int .i64 ai)), (27, .v (.int .i64 ae)), (29, .v (.int .i64 bh))] 2 (panicFree_then (panicFree_block (panicFree_block (panicFree_then (panicFree_then (panicFree_block (panicFree_then panicFree_body))))))) (fun _ h => h.cells) eG aG fun iy db => ?_
        clear aG
        refine anyC_op (i := 6) kz (wpOp_call db (f := 132) (vs := [.int .i64 ae, .int .i64 bh]) (d := 30) kz Tryz.call132 (sNumber ae bh _) ?_)
        rintro e_ iz ⟨rfl, dc⟩
        refine ⟨_, rfl, fun iA de => ?_⟩
        have aK := da.next_nil dc
        have df := da.frN dc
        clear db
        have dg := TT.ofW df aK
        refine ⟨fun _ => dg, ?_⟩
        refine go_rnD [7] [(3, .p 0 0), (12, .v (.slice A l.length c)), (13, .v (.int .i64 ((l.length : Nat) : Int))), (14, .v (.int .i64 ((k : Nat) : Int))), (31, .v (.bool (ai != (numberI ae bh))))] 0 (panicFree_then (panicFree_block (panicFree_block (panicFree_then (panicFree_then (panicFree_block (panicFree_then panicFree_body))))))) (fun _ h => h.cells) dg de fun iB aL => ?_
        clear de
        refine anyC_done kz ?_ _
        refine then_normal ?_
        refine cond_of aL (b := ai != (numberI ae bh)) kz (fun bP => ?_) (fun bP => ?_)
        ·
         have fP : ai ≠ (numberI ae bh) := by simpa using bP
         refine go_sp [(4, .v (.bool false))] aK aL fun iC eH => ?_
         clear aL
         refine wp_ret ?_
         refine block_ret ?_
         refine block_ret ?_
         refine then_ret ?_
         refine then_ret ?_
         refine block_ret ?_
         refine then_ret ?_
         refine leave eH aK.cells (v := .bool false) kz ?_
         first
          | exact (us_8a hq_ (by assumption) (by assumption)).elim
          | exact (us_8b hq_ (by assumption) (by assumption)).elim
          | exact (us_7 hq_ (by assumption) (by assumption)).elim
          | exact (us_9a hq_ (by assumption) (by assumption)).elim
          | exact (us_9b hq_ (by assumption) (by assumption)).elim
          | exact (us_11a hq_ (by assumption) (by assumption)).elim
          | exact (us_11b hq_ (by assumption) (by assumption)).elim
          | exact (us_10 hq_ (by assumption) (by assumption) (by assumption)).elim
          | exact (us_n hq_ (by assumption) (by assumption) (by assumption) (by assumption) (by assumption) (by assumption)).elim
        ·
         have fQ : ai = (numberI ae bh) := by simpa using bP
         refine wp_skip ?_
         refine block_normal ?_
         refine block_normal ?_
         refine then_normal ?_
         refine go_region [0, 1] kz ?_
         refine go_rn [0, 1] [] [(3, .p 0 0), (12, .v (.slice A l.length c)), (13, .v (.int .i64 ((l.length : Nat) : Int))), (14, .v (.int .i64 (IntKind.i64.wrap (((k : Nat) : Int) + 1))))] aK aL fun iD eI => ?_
         clear aL
         refine wpOps_nil (then_normal ?_)
         obtain ⟨dh, eJ, eK⟩ := aK.cutB eI 1 [⟨bQ, 0, [.int .i64 n1, .slice A6 s2.length c7, .bool b3, .slice A8 l4.length c9, .slice aZ u5.length ba], true⟩] [(3, .p 0 0), (12, .v (.slice A l.length c)), (13, .v (.int .i64 ((l.length : Nat) : Int))), (14, .v (.int .i64 (IntKind.i64.wrap (((k : Nat) : Int) + 1))))]
         have eL : IntKind.i64.wrap (((k : Nat) : Int) + 1) = ((k + 1 : Nat) : Int) := wrap_succ (by omega)
         rw [eL] at dh
         exact ⟨l.length - (k + 1), by omega, k + 1, rfl, by omega, dh.pk, eJ, ((((((((ak.trans al).trans am).trans ag).trans ab).trans ac).trans eF).trans df).trans eK)⟩
  ·
   have fR := of_decide_eq_false dj
   refine wp_exit ?_
   refine then_exit ?_
   refine then_exit ?_
   refine block_exit ?_
   refine then_normal ?_
   refine go_sp [(4, .v (.bool true))] ap bg fun iE eM => ?_
   clear bg
   refine wp_ret ?_
   refine leave eM ap.cells (v := .bool true) kz ?_
   exact ⟨rfl, ap.step⟩
theorem sUsualP : ∀ d, UsOK (UsualP d)
 | 0 => sUs fun _ _ _ _ _ _ _ _ _ h => h.elim
 | d + 1 => sUs (sUsualP d)
def ToOK (v : Int) (flex : Bool) (T : List Fld → Tree → Tree → Prop) : Prop := ∀ (A : Option Addr) (c : Nat) (l : List Fld) (ct : List Value) (t : Tree) (cg : List Value) (g : Tree) (w : World) (F : Nat → Nat → Prop), FldsR w F A c l → TreeR w F ct t → TreeR w F cg g → plains l → T l t g →
  Calls Tryz.prog 19 #[.slice A l.length c, .int .i64 v, .bool flex, .agg ct.toArray, .agg cg.toArray] w (Gives w (.bool true))
theorem sTold0 {v : Int} {flex : Bool} {T : List Fld → Tree → Tree → Prop} (hT : ToOK v flex T) (cf : List Value) (f : Fld) (ct : List Value) (t : Tree) (cg : List Value) (g : Tree) (w : World) (F : Nat → Nat → Prop) (hf : FldR w F cf f) (hpl : plains f.sub) (bY : f.kind ≠ 11) (ht : TreeR w F ct t) (hg : TreeR w F cg g) (hq : ToF0 T v f t g) :
  Calls Tryz.prog 60 #[.agg cf.toArray, .int .i64 v, .bool flex, .agg ct.toArray, .agg cg.toArray] w (Gives w (.bool true)) := by
 obtain ⟨k1, y2, y3, y4, y5, y6, y7, l8, A9, fX, gb, rfl, rfl, iW, jc⟩ := hf.open_
 have jd := iW.small
 obtain ⟨ac, ab, ae, af, ag, ai, aj, fY, fZ, f7, f8, kM, rfl, rfl, aM, kN, oS, oT⟩ := ht.open_
 have je := aM.small
 have jf := kN.small
 obtain ⟨aS, ah, ap, f9, ga, al, am, gc, gd, ge, gg, kO, rfl, rfl, bX, kP, oU, oV⟩ := hg.open_
 have jg := bX.small
 have jh := kP.small
 replace hpl : plains l8 := hpl
 have bY : k1 ≠ 11 := bY
 refine enter (n := 124) Tryz.func60 rfl Tryz.ntmps60 kz fun a hE => ?_
 have hW := WOk.start w Nil
 refine go_seq_region [0, 1, 2, 3] kz ?_
 refine of_op (wpOp_box hW hE (d := 5) (cs := [.int .i64 k1, .int .i64 y2, .int .i64 y3, .int .i64 y4, .int .i64 y5, .int .i64 y6, .int .i64 y7, .slice A9 l8.length fX]) kz fun oW oX oY kQ kR kS gh gi => ?_)
 clear hE hW
 refine of_op (wpOp_box gh gi (d := 8) (cs := [.int .i64 ac, .slice ai ab.length aj, .bool ae, .slice fY af.length fZ, .slice f7 ag.length f8]) kz fun oZ o5 o6 kT kU kV gj gk => ?_)
 clear gi gh
 refine of_op (wpOp_box gj gk (d := 9) (cs := [.int .i64 aS, .slice al ah.length am, .bool ap, .slice gc f9.length gd, .slice ge ga.length gg]) kz fun o7 o9 pa kW kX kY bZ gl => ?_)
 clear gk gj
 refine go_rn [3] [] [(1, .v (.int .i64 v)), (2, .v (.bool flex)), (5, .p 0 0), (8, .p 1 0), (9, .p 2 0)] bZ gl fun pb gm => ?_
 clear gl
 refine wpOps_nil (then_normal ?_)
 refine go_seq_region [0, 1, 2, 3, 4] kz ?_
 refine go_rn [0, 1, 2] [3, 4] [(1, .v (.int .i64 v)), (2, .v (.bool flex)), (5, .p 0 0), (8, .p 1 0), (9, .p 2 0), (17, .v (.agg #[.int .i64 k1, .int .i64 y2, .int .i64 y3, .int .i64 y4, .int .i64 y5, .int .i64 y6, .int .i64 y7, .slice A9 l8.length fX])), (18, .v (.int .i64 v)), (19, .v (.agg #[.int .i64 ac, .slice ai ab.length aj, .bool ae, .slice fY af.length fZ, .slice f7 ag.length f8]))] bZ gm fun pc gn => ?_
 clear gm
 refine of_op (wpOp_call gn (f := 130) (vs := [.agg #[.int .i64 k1, .int .i64 y2, .int .i64 y3, .int .i64 y4, .int .i64 y5, .int .i64 y6, .int .i64 y7, .slice A9 l8.length fX], .int .i64 v, .agg #[.int .i64 ac, .slice ai ab.length aj, .bool ae, .slice fY af.length fZ, .slice f7 ag.length f8]]) (d := 20) kz Tryz.call130 (sNull k1 y2 y3 y4 y5 y6 y7 l8 _ _ v ac ab ae af ag _ _ _ _ _ _ _) ?_)
 rintro e_ pd ⟨rfl, gp⟩
 refine ⟨_, rfl, fun pe gq => ?_⟩
 have aa := bZ.next_nil gp
 have kZ := bZ.frN gp
 clear gn bZ
 refine go_rn [4] [] [(1, .v (.int .i64 v)), (2, .v (.bool flex)), (5, .p 0 0), (8, .p 1 0), (9, .p 2 0), (11, .v (.bool (Fld.nul (Fld.mk k1 y2 y3 y4 y5 y6 y7 l8) v (Tree.mk ac ab ae af ag))))] aa gq fun pf gt => ?_
 clear gq
 refine wpOps_nil (then_normal ?_)
 refine go_seq_region [0, 1, 2, 3, 4, 5, 6, 7, 8, 9] kz ?_
 refine go_rn [0, 1, 2, 3] [4, 5, 6, 7, 8, 9] [(1, .v (.int .i64 v)), (2, .v (.bool flex)), (5, .p 0 0), (8, .p 1 0), (9, .p 2 0), (11, .v (.bool (Fld.nul (Fld.mk k1 y2 y3 y4 y5 y6 y7 l8) v (Tree.mk ac ab ae af ag)))), (24, .v (.bool (decide (y4 ≥ 0))))] aa gt fun pg dc => ?_
 clear gt
 refine (Bool.eq_false_or_eq_true (decide (y4 ≥ 0))).elim (fun b8 => ?_) (fun b8 => ?_)
 ·
  have k5 := of_decide_eq_true b8
  have gv := dc.cast (env' := [(1, .v (.int .i64 v)), (2, .v (.bool flex)), (5, .p 0 0), (8, .p 1 0), (9, .p 2 0), (11, .v (.bool (Fld.nul (Fld.mk k1 y2 y3 y4 y5 y6 y7 l8) v (Tree.mk ac ab ae af ag)))), (24, .v (.bool true))]) (by rw [b8])
  clear dc
  refine go_rn [4, 5, 6, 7, 8, 9] [] [(1, .v (.int .i64 v)), (2, .v (.bool flex)), (5, .p 0 0), (8, .p 1 0), (9, .p 2 0), (11, .v (.bool (Fld.nul (Fld.mk k1 y2 y3 y4 y5 y6 y7 l8) v (Tree.mk ac ab ae af ag)))), (12, .v (.bool (decide (v ≥ y4))))] aa gv fun ph gw => ?_
  clear gv
  refine wpOps_nil (then_normal ?_)
  refine wp_seq ?_
  refine go_seq_region [0, 1, 2, 3, 4, 5, 6, 7, 8, 9, 10, 11, 12, 13, 14, 15, 16] kz ?_
  refine go_rn [0, 1, 2, 3] [4, 5, 6, 7, 8, 9, 10, 11, 12, 13, 14, 15, 16] [(1, .v (.int .i64 v)), (2, .v (.bool flex)), (5, .p 0 0), (8, .p 1 0), (9, .p 2 0), (11, .v (.bool (Fld.nul (Fld.mk k1 y2 y3 y4 y5 y6 y7 l8) v (Tree.mk ac ab ae af ag)))), (12, .v (.bool (decide (v ≥ y4)))), (33, .v (.bool (k1 == 8)))] aa gw fun pi bz => ?_
  clear gw
  refine (Bool.eq_false_or_eq_true (k1 == 8)).elim (fun ak => ?_) (fun ak => ?_)
  ·
   have ji : k1 = 8 := by simpa using ak
   have de := bz.cast (env' := [(1, .v (.int .i64 v)), (2, .v (.bool flex)), (5, .p 0 0), (8, .p 1 0), (9, .p 2 0), (11, .v (.bool (Fld.nul (Fld.mk k1 y2 y3 y4 y5 y6 y7 l8) v (Tree.mk ac ab ae af ag)))), (12, .v (.bool (decide (v ≥ y4)))), (33, .v (.bool true))]) (by rw [ak])
   clear bz
   refine go_rn [4, 5, 6, 7, 8, 9, 10, 11, 12, 13, 14, 15, 16] [] [(1, .v (.int .i64 v)), (2, .v (.bool flex)), (5, .p 0 0), (8, .p 1 0), (9, .p 2 0), (11, .v (.bool (Fld.nul (Fld.mk k1 y2 y3 y4 y5 y6 y7 l8) v (Tree.mk ac ab ae af ag)))), (46, .v (.bool (!(ap == (Fld.nul (Fld.mk k1 y2 y3 y4 y5 y6 y7 l8) v (Tree.mk ac ab ae af ag))))))] aa de fun k6 aT => ?_
   clear de
   refine wpOps_nil (then_normal ?_)
   refine cond_of aT (b := !(ap == (Fld.nul (Fld.mk k1 y2 y3 y4 y5 y6 y7 l8) v (Tree.mk ac ab ae af ag)))) kz (fun cd => ?_) (fun cd => ?_)
   ·
    have jj : !(ap = (Fld.nul (Fld.mk k1 y2 y3 y4 y5 y6 y7 l8) v (Tree.mk ac ab ae af ag))) := by simpa using cd
    refine go_sp [(10, .v (.bool false))] aa aT fun k7 gx => ?_
    clear aT
    refine wp_ret ?_
    refine then_ret ?_
    refine leave gx aa.cells (v := .bool false) kz ?_
    first
     | exact (to_n8 hq (by assumption) (by assumption)).elim
     | exact (to_n10 hq (by assumption) (by assumption)).elim
     | exact (to_nm hq (by assumption) (by assumption) (by assumption)).elim
   ·
    have jk : !(ap ≠ (Fld.nul (Fld.mk k1 y2 y3 y4 y5 y6 y7 l8) v (Tree.mk ac ab ae af ag))) := by simpa using cd
    refine wp_skip ?_
    refine then_normal ?_
    refine wp_seq ?_
    refine go_sp [(1, .v (.int .i64 v)), (2, .v (.bool flex)), (5, .p 0 0), (8, .p 1 0), (9, .p 2 0), (47, .v (.bool (Fld.nul (Fld.mk k1 y2 y3 y4 y5 y6 y7 l8) v (Tree.mk ac ab ae af ag))))] aa aT fun k8 aU => ?_
    clear aT
    refine cond_of aU (b := Fld.nul (Fld.mk k1 y2 y3 y4 y5 y6 y7 l8) v (Tree.mk ac ab ae af ag)) kz (fun gy => ?_) (fun gy => ?_)
    ·
     refine go_sp [(10, .v (.bool true))] aa aU fun k9 gz => ?_
     clear aU
     refine wp_ret ?_
     refine then_ret ?_
     refine leave gz aa.cells (v := .bool true) kz ?_
     exact ⟨rfl, aa.step⟩
    ·
     refine wp_skip ?_
     refine then_normal ?_
     refine wp_seq ?_
     refine go_sp [(1, .v (.int .i64 v)), (2, .v (.bool flex)), (5, .p 0 0), (8, .p 1 0), (9, .p 2 0), (49, .v (.int .i64 k1))] aa aU fun la df => ?_
     clear aU
     refine wp_block ?_
     refine wp_seq ?_
     refine go_sp [(1, .v (.int .i64 v)), (2, .v (.bool flex)), (5, .p 0 0), (8, .p 1 0), (9, .p 2 0), (49, .v (.int .i64 k1)), (50, .v (.bool (k1 == 8)))] aa df fun lb bA => ?_
     clear df
     refine cond_true bA (b := k1 == 8) kz (ak) ?_
     refine wp_skip ?_
     refine then_normal ?_
     refine cond_true bA (b := k1 == 8) kz (ak) ?_
     refine go_seq_drawK 6 kz aa fun lc jl bB gA => ?_
     clear aa
     refine go_rnD [0, 1, 2, 3] [(54, .v (.slice al ah.length am)), (56, .v (.slice ai ab.length aj))] 3 (panicFree_then (panicFree_block (panicFree_then panicFree_body))) (fun _ h => h.cells) gA bA fun ld dg => ?_
     clear bA
     have iX := whole_le ab
     refine anyC_op (i := 4) kz (wpOp_call dg (f := 64) (vs := [.slice ai ab.length aj]) (d := 57) kz Tryz.call64 (sWhole _ _ ab (aM.move bB.step nilM bB.imm).le _) ?_)
     rintro e_ lf ⟨rfl, dh⟩
     refine ⟨_, rfl, fun lg di => ?_⟩
     have ay := bB.next_nil dh
     have dj := bB.frN dh
     clear dg
     have gB := TT.ofW dj ay
     refine ⟨fun _ => gB, ?_⟩
     refine anyC_op (i := 5) kz (wpOp_call di (f := 63) (vs := [.slice al ah.length am, .slice ai ((whole ab).length) aj]) (d := 58) kz Tryz.call63 (sSame _ _ _ _ ah (whole ab) _ _ ((bX.move ay.step nilM ay.imm).move (Step.refl _ Nil) nilM allF) (((aM.take 32767).move ay.step nilM ay.imm).move (Step.refl _ Nil) nilM allF)) ?_)
     rintro e_ lh ⟨rfl, dl⟩
     refine ⟨_, rfl, fun li dp => ?_⟩
     have bC := ay.next_nil dl
     have gC := ay.frN dl
     clear di ay
     have gD := TT.ofW (dj.trans gC) bC
     refine ⟨fun _ => gD, ?_⟩
     refine anyC_op (i := 6) kz (wpOp_pure [10] bC.cells dp (env' := [(10, .v (.bool (decide (ah = (whole ab)))))]) kz fun lj gE => ?_)
     clear dp
     refine ⟨fun h => absurd rfl h, ?_⟩
     refine anyC_done kz ?_ _
     refine then_normal ?_
     refine wp_ret ?_
     refine block_ret ?_
     refine then_ret ?_
     refine leave gE bC.cells (v := .bool (decide (ah = (whole ab)))) kz ?_
     refine ⟨congrArg (fun b_ => Ending.returned (Value.bool b_)) ?_, bC.step⟩
     first
      | exact to_t8 hq (by assumption) (by assumption)
      | exact to_t9 hq (by assumption) (by assumption)
      | exact to_u hq (by assumption) (by assumption)
      | exact to_m hq (by assumption) (by assumption) (by assumption) (by assumption) (by assumption) (by assumption)
  ·
   have jm : k1 ≠ 8 := by simpa using ak
   have dq := bz.cast (env' := [(1, .v (.int .i64 v)), (2, .v (.bool flex)), (5, .p 0 0), (8, .p 1 0), (9, .p 2 0), (11, .v (.bool (Fld.nul (Fld.mk k1 y2 y3 y4 y5 y6 y7 l8) v (Tree.mk ac ab ae af ag)))), (12, .v (.bool (decide (v ≥ y4)))), (33, .v (.bool false))]) (by rw [ak])
   clear bz
   refine go_rn [4, 5, 6, 7, 8] [9, 10, 11, 12, 13, 14, 15, 16] [(1, .v (.int .i64 v)), (2, .v (.bool flex)), (5, .p 0 0), (8, .p 1 0), (9, .p 2 0), (11, .v (.bool (Fld.nul (Fld.mk k1 y2 y3 y4 y5 y6 y7 l8) v (Tree.mk ac ab ae af ag)))), (12, .v (.bool (decide (v ≥ y4)))), (38, .v (.bool (k1 == 10)))] aa dq fun lm bD => ?_
   clear dq
   refine (Bool.eq_false_or_eq_true (k1 == 10)).elim (fun az => ?_) (fun az => ?_)
   ·
    have jn : k1 = 10 := by simpa using az
    have dr := bD.cast (env' := [(1, .v (.int .i64 v)), (2, .v (.bool flex)), (5, .p 0 0), (8, .p 1 0), (9, .p 2 0), (11, .v (.bool (Fld.nul (Fld.mk k1 y2 y3 y4 y5 y6 y7 l8) v (Tree.mk ac ab ae af ag)))), (12, .v (.bool (decide (v ≥ y4)))), (38, .v (.bool true))]) (by rw [az])
    clear bD
    refine go_rn [9, 10, 11, 12, 13, 14, 15, 16] [] [(1, .v (.int .i64 v)), (2, .v (.bool flex)), (5, .p 0 0), (8, .p 1 0), (9, .p 2 0), (11, .v (.bool (Fld.nul (Fld.mk k1 y2 y3 y4 y5 y6 y7 l8) v (Tree.mk ac ab ae af ag)))), (46, .v (.bool (!(ap == (Fld.nul (Fld.mk k1 y2 y3 y4 y5 y6 y7 l8) v (Tree.mk ac ab ae af ag))))))] aa dr fun ln aV => ?_
    clear dr
    refine wpOps_nil (then_normal ?_)
    refine cond_of aV (b := !(ap == (Fld.nul (Fld.mk k1 y2 y3 y4 y5 y6 y7 l8) v (Tree.mk ac ab ae af ag)))) kz (fun ce => ?_) (fun ce => ?_)
    ·
     have jo : !(ap = (Fld.nul (Fld.mk k1 y2 y3 y4 y5 y6 y7 l8) v (Tree.mk ac ab ae af ag))) := by simpa using ce
     refine go_sp [(10, .v (.bool false))] aa aV fun lp gF => ?_
     clear aV
     refine wp_ret ?_
     refine then_ret ?_
     refine leave gF aa.cells (v := .bool false) kz ?_
     first
      | exact (to_n8 hq (by assumption) (by assumption)).elim
      | exact (to_n10 hq (by assumption) (by assumption)).elim
      | exact (to_nm hq (by assumption) (by assumption) (by assumption)).elim
    ·
     have jp : !(ap ≠ (Fld.nul (Fld.mk k1 y2 y3 y4 y5 y6 y7 l8) v (Tree.mk ac ab ae af ag))) := by simpa using ce
     refine wp_skip ?_
     refine then_normal ?_
     refine wp_seq ?_
     refine go_sp [(1, .v (.int .i64 v)), (2, .v (.bool flex)), (5, .p 0 0), (8, .p 1 0), (9, .p 2 0), (47, .v (.bool (Fld.nul (Fld.mk k1 y2 y3 y4 y5 y6 y7 l8) v (Tree.mk ac ab ae af ag))))] aa aV fun lq aW => ?_
     clear aV
     refine cond_of aW (b := Fld.nul (Fld.mk k1 y2 y3 y4 y5 y6 y7 l8) v (Tree.mk ac ab ae af ag)) kz (fun gG => ?_) (fun gG => ?_)
     ·
      refine go_sp [(10, .v (.bool true))] aa aW fun lr gH => ?_
      clear aW
      refine wp_ret ?_
      refine then_ret ?_
      refine leave gH aa.cells (v := .bool true) kz ?_
      exact ⟨rfl, aa.step⟩
     ·
      refine wp_skip ?_
      refine then_normal ?_
      refine wp_seq ?_
      refine go_sp [(1, .v (.int .i64 v)), (2, .v (.bool flex)), (5, .p 0 0), (8, .p 1 0), (9, .p 2 0), (49, .v (.int .i64 k1))] aa aW fun ls dt => ?_
      clear aW
      refine wp_block ?_
      refine wp_seq ?_
      refine go_sp [(1, .v (.int .i64 v)), (2, .v (.bool flex)), (5, .p 0 0), (8, .p 1 0), (9, .p 2 0), (49, .v (.int .i64 k1)), (50, .v (.bool (k1 == 8)))] aa dt fun lu cm => ?_
      clear dt
      refine cond_false cm (b := k1 == 8) kz (ak) ?_
      refine go_region [0, 1] kz ?_
      refine go_rn [0, 1] [] [(1, .v (.int .i64 v)), (2, .v (.bool flex)), (5, .p 0 0), (8, .p 1 0), (9, .p 2 0), (49, .v (.int .i64 k1)), (50, .v (.bool (k1 == 9)))] aa cm fun lv aX => ?_
      clear cm
      refine wpOps_nil (then_normal ?_)
      refine cond_of aX (b := k1 == 9) kz (fun cq => ?_) (fun cq => ?_)
      ·
       have jq : k1 = 9 := by simpa using cq
       refine go_seq_drawK 6 kz aa fun lw jr bE gI => ?_
       clear aa
       refine go_rnD [0, 1, 2, 3] [(54, .v (.slice al ah.length am)), (56, .v (.slice ai ab.length aj))] 3 (panicFree_then (panicFree_block (panicFree_then panicFree_body))) (fun _ h => h.cells) gI aX fun lx du => ?_
       clear aX
       have iY := whole_le ab
       refine anyC_op (i := 4) kz (wpOp_call du (f := 64) (vs := [.slice ai ab.length aj]) (d := 57) kz Tryz.call64 (sWhole _ _ ab (aM.move bE.step nilM bE.imm).le _) ?_)
       rintro e_ ly ⟨rfl, dv⟩
       refine ⟨_, rfl, fun lz dw => ?_⟩
       have aA := bE.next_nil dv
       have dx := bE.frN dv
       clear du
       have gJ := TT.ofW dx aA
       refine ⟨fun _ => gJ, ?_⟩
       refine anyC_op (i := 5) kz (wpOp_call dw (f := 63) (vs := [.slice al ah.length am, .slice ai ((whole ab).length) aj]) (d := 58) kz Tryz.call63 (sSame _ _ _ _ ah (whole ab) _ _ ((bX.move aA.step nilM aA.imm).move (Step.refl _ Nil) nilM allF) (((aM.take 32767).move aA.step nilM aA.imm).move (Step.refl _ Nil) nilM allF)) ?_)
       rintro e_ lA ⟨rfl, dy⟩
       refine ⟨_, rfl, fun lB dz => ?_⟩
       have bF := aA.next_nil dy
       have gK := aA.frN dy
       clear dw aA
       have gL := TT.ofW (dx.trans gK) bF
       refine ⟨fun _ => gL, ?_⟩
       refine anyC_op (i := 6) kz (wpOp_pure [10] bF.cells dz (env' := [(10, .v (.bool (decide (ah = (whole ab)))))]) kz fun lC gM => ?_)
       clear dz
       refine ⟨fun h => absurd rfl h, ?_⟩
       refine anyC_done kz ?_ _
       refine then_normal ?_
       refine wp_ret ?_
       refine block_ret ?_
       refine then_ret ?_
       refine leave gM bF.cells (v := .bool (decide (ah = (whole ab)))) kz ?_
       refine ⟨congrArg (fun b_ => Ending.returned (Value.bool b_)) ?_, bF.step⟩
       first
        | exact to_t8 hq (by assumption) (by assumption)
        | exact to_t9 hq (by assumption) (by assumption)
        | exact to_u hq (by assumption) (by assumption)
        | exact to_m hq (by assumption) (by assumption) (by assumption) (by assumption) (by assumption) (by assumption)
      ·
       have js : k1 ≠ 9 := by simpa using cq
       refine go_sp [(1, .v (.int .i64 v)), (2, .v (.bool flex)), (5, .p 0 0), (8, .p 1 0), (9, .p 2 0), (49, .v (.int .i64 k1)), (59, .v (.bool (k1 == 7)))] aa aX fun lD aY => ?_
       clear aX
       refine cond_of aY (b := k1 == 7) kz (fun cr => ?_) (fun cr => ?_)
       ·
        have jt : k1 = 7 := by simpa using cr
        refine go_seq_region [0, 1] kz ?_
        refine of_op (wpOp_make1 aa aY (d := 61) (j := 16) (t := 22) (e := 5) (bytes := 1) (z := .int .u8 0) kz kz kz kz (rfl) (rfl) (by omega) fun ar lE lF ju jv jw aN dA => ?_)
        clear aY aa
        refine go_rn [1] [] [(8, .p 1 0), (9, .p 2 0), (13, .v (.slice (some ⟨ar, 0, none⟩) 16 16))] aN dA fun lG dB => ?_
        clear dA
        refine wpOps_nil (then_normal ?_)
        refine go_seq_region [0, 1, 2, 3] kz ?_
        refine go_rn [0, 1, 2] [3] [(9, .p 2 0), (13, .v (.slice (some ⟨ar, 0, none⟩) 16 16)), (62, .v (.slice (some ⟨ar, 0, none⟩) 16 16)), (64, .v (.slice ai ab.length aj))] aN dB fun lH dC => ?_
        clear dB
        refine of_op (wpOp_copyR aN dC (k := 0) (d := 65) (t := 22) (u := 22) (e := 5) (bytes := 1) (A := (some ⟨ar, 0, none⟩)) (As := ai) (m := ab.length) (cs := aj) (m0 := 16) (c := 16) (xs := (List.replicate 16 (.int .u8 0))) (news := bc ab) kz kz rfl (aM.move aN.step nilM aN.imm).src fun lI lJ jx dD dE => ?_)
        clear dC aN
        have gN : (⟨(some ⟨ar, 0, none⟩), 16, 5, 1, 16, splice (List.replicate 16 (.int .u8 0)) 0 ((bc ab).take (min ab.length 16))⟩ : Rw) = brow (some ⟨ar, 0, none⟩) 16 5 (uuidB ab) := uuid_row _ _ _
        obtain ⟨aG, jy⟩ := dD.rowEq 0 [brow (some ⟨ar, 0, none⟩) 16 5 (uuidB ab)] gN
        clear dD
        have dF := EnvOk.pick dE (ks := [9, 13, 62, 64, 65]) (env' := [(9, .p 2 0), (13, .v (.slice (some ⟨ar, 0, none⟩) 16 16)), (62, .v (.slice (some ⟨ar, 0, none⟩) 16 16)), (64, .v (.slice ai ab.length aj)), (65, .v (.int .i64 ((min ab.length 16 : Nat) : Int)))]) kz
        have dG := dF.cast (env' := [(9, .p 2 0), (13, .v (.slice (some ⟨ar, 0, none⟩) ((uuidB ab).length) 16)), (62, .v (.slice (some ⟨ar, 0, none⟩) ((uuidB ab).length) 16)), (64, .v (.slice ai ab.length aj)), (65, .v (.int .i64 ((min ab.length 16 : Nat) : Int)))]) (by rw [uuidB_length _])
        clear dE dF
        refine wpOps_nil (then_normal ?_)
        refine go_seq_region [0, 1, 2, 3, 4] kz ?_
        refine go_rn [0, 1, 2] [3, 4] [(67, .v (.slice al ah.length am)), (68, .v (.slice (some ⟨ar, 0, none⟩) ((uuidB ab).length) 16))] aG dG fun lK dH => ?_
        clear dG
        refine of_op (wpOp_call dH (f := 63) (vs := [.slice al ah.length am, .slice (some ⟨ar, 0, none⟩) ((uuidB ab).length) 16]) (d := 69) kz Tryz.call63 (sSame _ _ _ _ ah (uuidB ab) _ _ ((bX.move aG.step nilM aG.imm).move (Step.refl _ Nil) nilM allF) (octs_own (aG.own 0 _ rfl) (by first | omega | (rw [uuidB_length]; decide) | (simp only [be_length]; exact Nat.le_trans (widthI_le _) (by decide)) | (have := hroom; omega) | (have := hmade; omega) | (simp only [List.length_append, List.length_nil]; omega)) (F := fun _ _ => True) (fun _ _ _ => trivial))) ?_)
        rintro e_ lL ⟨rfl, dI⟩
        refine ⟨_, rfl, fun lM dJ => ?_⟩
        have cu := aG.next_nil dI
        have jz := aG.frN dI
        clear dH aG
        refine go_rn [4] [] [(10, .v (.bool (decide (ah = uuidB ab))))] cu dJ fun lN gO => ?_
        clear dJ
        refine wpOps_nil (then_normal ?_)
        refine wp_ret ?_
        refine block_ret ?_
        refine then_ret ?_
        refine leave gO cu.cells (v := .bool (decide (ah = uuidB ab))) kz ?_
        refine ⟨congrArg (fun b_ => Ending.returned (Value.bool b_)) ?_, cu.step⟩
        first
         | exact to_t8 hq (by assumption) (by assumption)
         | exact to_t9 hq (by assumption) (by assumption)
         | exact to_u hq (by assumption) (by assumption)
         | exact to_m hq (by assumption) (by assumption) (by assumption) (by assumption) (by assumption) (by assumption)
       ·
        have jA : k1 ≠ 7 := by simpa using cr
        refine go_sp [(1, .v (.int .i64 v)), (2, .v (.bool flex)), (5, .p 0 0), (8, .p 1 0), (9, .p 2 0), (49, .v (.int .i64 k1)), (70, .v (.bool (k1 == 10)))] aa aY fun lO cw => ?_
        clear aY
        refine cond_true cw (b := k1 == 10) kz (az) ?_
        refine go_seq_region [0, 1, 2, 3, 4, 5, 6, 7] kz ?_
        refine go_rn [0, 1, 2, 3, 4, 5] [6, 7] [(73, .v (.slice A9 l8.length fX)), (74, .v (.int .i64 v)), (75, .v (.bool flex)), (76, .v (.agg #[.int .i64 ac, .slice ai ab.length aj, .bool ae, .slice fY af.length fZ, .slice f7 ag.length f8])), (77, .v (.agg #[.int .i64 aS, .slice al ah.length am, .bool ap, .slice gc f9.length gd, .slice ge ga.length gg]))] aa cw fun lP dK => ?_
        clear cw
        refine of_op (wpOp_call dK (f := 19) (vs := [.slice A9 l8.length fX, .int .i64 v, .bool flex, .agg #[.int .i64 ac, .slice ai ab.length aj, .bool ae, .slice fY af.length fZ, .slice f7 ag.length f8], .agg #[.int .i64 aS, .slice al ah.length am, .bool ap, .slice gc f9.length gd, .slice ge ga.length gg]]) (d := 78) kz Tryz.call19 ( hT _ _ l8 _ (Tree.mk ac ab ae af ag) _ (Tree.mk aS ah ap f9 ga) _ _ ⟨gb, (iW.move aa.step nilM aa.imm), (fun i_ x_ h_ => ((jc i_ x_ h_).move aa.step nilM aa.imm))⟩ (ht.move aa.step nilM aa.imm) (hg.move aa.step nilM aa.imm) hpl (to_part hq (by assumption) (by assumption))) ?_)
        rintro e_ lQ ⟨rfl, dL⟩
        refine ⟨_, rfl, fun lR dM => ?_⟩
        have cz := aa.next_nil dL
        have jB := aa.frN dL
        clear dK aa
        refine go_rn [7] [] [(10, .v (.bool true))] cz dM fun lS gP => ?_
        clear dM
        refine wpOps_nil (then_normal ?_)
        refine wp_ret ?_
        refine block_ret ?_
        refine then_ret ?_
        refine leave gP cz.cells (v := .bool true) kz ?_
        exact ⟨rfl, cz.step⟩
   ·
    have jC : k1 ≠ 10 := by simpa using az
    have dN := bD.cast (env' := [(1, .v (.int .i64 v)), (2, .v (.bool flex)), (5, .p 0 0), (8, .p 1 0), (9, .p 2 0), (11, .v (.bool (Fld.nul (Fld.mk k1 y2 y3 y4 y5 y6 y7 l8) v (Tree.mk ac ab ae af ag)))), (12, .v (.bool (decide (v ≥ y4)))), (38, .v (.bool false))]) (by rw [az])
    clear bD
    refine go_rn [9, 10, 11] [12, 13, 14, 15, 16] [(1, .v (.int .i64 v)), (2, .v (.bool flex)), (5, .p 0 0), (8, .p 1 0), (9, .p 2 0), (11, .v (.bool (Fld.nul (Fld.mk k1 y2 y3 y4 y5 y6 y7 l8) v (Tree.mk ac ab ae af ag)))), (41, .v (.bool (decide (v ≥ y4))))] aa dN fun lT bG => ?_
    clear dN
    refine (Bool.eq_false_or_eq_true (decide (v ≥ y4))).elim (fun aZ => ?_) (fun aZ => ?_)
    ·
     have jD := of_decide_eq_true aZ
     have dO := bG.cast (env' := [(1, .v (.int .i64 v)), (2, .v (.bool flex)), (5, .p 0 0), (8, .p 1 0), (9, .p 2 0), (11, .v (.bool (Fld.nul (Fld.mk k1 y2 y3 y4 y5 y6 y7 l8) v (Tree.mk ac ab ae af ag)))), (41, .v (.bool true))]) (by rw [aZ])
     clear bG
     refine go_rn [12, 13, 14, 15, 16] [] [(1, .v (.int .i64 v)), (2, .v (.bool flex)), (5, .p 0 0), (8, .p 1 0), (9, .p 2 0), (11, .v (.bool (Fld.nul (Fld.mk k1 y2 y3 y4 y5 y6 y7 l8) v (Tree.mk ac ab ae af ag)))), (46, .v (.bool (!(ap == (Fld.nul (Fld.mk k1 y2 y3 y4 y5 y6 y7 l8) v (Tree.mk ac ab ae af ag))))))] aa dO fun lU ba => ?_
     clear dO
     refine wpOps_nil (then_normal ?_)
     refine cond_of ba (b := !(ap == (Fld.nul (Fld.mk k1 y2 y3 y4 y5 y6 y7 l8) v (Tree.mk ac ab ae af ag)))) kz (fun cA => ?_) (fun cA => ?_)
     ·
      have jE : !(ap = (Fld.nul (Fld.mk k1 y2 y3 y4 y5 y6 y7 l8) v (Tree.mk ac ab ae af ag))) := by simpa using cA
      refine go_sp [(10, .v (.bool false))] aa ba fun lV gQ => ?_
      clear ba
      refine wp_ret ?_
      refine then_ret ?_
      refine leave gQ aa.cells (v := .bool false) kz ?_
      first
       | exact (to_n8 hq (by assumption) (by assumption)).elim
       | exact (to_n10 hq (by assumption) (by assumption)).elim
       | exact (to_nm hq (by assumption) (by assumption) (by assumption)).elim
     ·
      have jF : !(ap ≠ (Fld.nul (Fld.mk k1 y2 y3 y4 y5 y6 y7 l8) v (Tree.mk ac ab ae af ag))) := by simpa using cA
      refine wp_skip ?_
      refine then_normal ?_
      refine wp_seq ?_
      refine go_sp [(1, .v (.int .i64 v)), (2, .v (.bool flex)), (5, .p 0 0), (8, .p 1 0), (9, .p 2 0), (47, .v (.bool (Fld.nul (Fld.mk k1 y2 y3 y4 y5 y6 y7 l8) v (Tree.mk ac ab ae af ag))))] aa ba fun lW bd => ?_
      clear ba
      refine cond_of bd (b := Fld.nul (Fld.mk k1 y2 y3 y4 y5 y6 y7 l8) v (Tree.mk ac ab ae af ag)) kz (fun gR => ?_) (fun gR => ?_)
      ·
       refine go_sp [(10, .v (.bool true))] aa bd fun lX gS => ?_
       clear bd
       refine wp_ret ?_
       refine then_ret ?_
       refine leave gS aa.cells (v := .bool true) kz ?_
       exact ⟨rfl, aa.step⟩
      ·
       refine wp_skip ?_
       refine then_normal ?_
       refine wp_seq ?_
       refine go_sp [(1, .v (.int .i64 v)), (2, .v (.bool flex)), (5, .p 0 0), (8, .p 1 0), (9, .p 2 0), (49, .v (.int .i64 k1))] aa bd fun lY dP => ?_
       clear bd
       refine wp_block ?_
       refine wp_seq ?_
       refine go_sp [(1, .v (.int .i64 v)), (2, .v (.bool flex)), (5, .p 0 0), (8, .p 1 0), (9, .p 2 0), (49, .v (.int .i64 k1)), (50, .v (.bool (k1 == 8)))] aa dP fun lZ cB => ?_
       clear dP
       refine cond_false cB (b := k1 == 8) kz (ak) ?_
       refine go_region [0, 1] kz ?_
       refine go_rn [0, 1] [] [(1, .v (.int .i64 v)), (2, .v (.bool flex)), (5, .p 0 0), (8, .p 1 0), (9, .p 2 0), (49, .v (.int .i64 k1)), (50, .v (.bool (k1 == 9)))] aa cB fun l0 bf => ?_
       clear cB
       refine wpOps_nil (then_normal ?_)
       refine cond_of bf (b := k1 == 9) kz (fun cC => ?_) (fun cC => ?_)
       ·
        have jG : k1 = 9 := by simpa using cC
        refine go_seq_drawK 6 kz aa fun l3 jH bH gT => ?_
        clear aa
        refine go_rnD [0, 1, 2, 3] [(54, .v (.slice al ah.length am)), (56, .v (.slice ai ab.length aj))] 3 (panicFree_then (panicFree_block (panicFree_then panicFree_body))) (fun _ h => h.cells) gT bf fun l5 dQ => ?_
        clear bf
        have iZ := whole_le ab
        refine anyC_op (i := 4) kz (wpOp_call dQ (f := 64) (vs := [.slice ai ab.length aj]) (d := 57) kz Tryz.call64 (sWhole _ _ ab (aM.move bH.step nilM bH.imm).le _) ?_)
        rintro e_ l6 ⟨rfl, dR⟩
        refine ⟨_, rfl, fun l7 dS => ?_⟩
        have aB := bH.next_nil dR
        have dT := bH.frN dR
        clear dQ
        have gU := TT.ofW dT aB
        refine ⟨fun _ => gU, ?_⟩
        refine anyC_op (i := 5) kz (wpOp_call dS (f := 63) (vs := [.slice al ah.length am, .slice ai ((whole ab).length) aj]) (d := 58) kz Tryz.call63 (sSame _ _ _ _ ah (whole ab) _ _ ((bX.move aB.step nilM aB.imm).move (Step.refl _ Nil) nilM allF) (((aM.take 32767).move aB.step nilM aB.imm).move (Step.refl _ Nil) nilM allF)) ?_)
        rintro e_ l9 ⟨rfl, dU⟩
        refine ⟨_, rfl, fun ma dV => ?_⟩
        have bI := aB.next_nil dU
        have gV := aB.frN dU
        clear dS aB
        have gW := TT.ofW (dT.trans gV) bI
        refine ⟨fun _ => gW, ?_⟩
        refine anyC_op (i := 6) kz (wpOp_pure [10] bI.cells dV (env' := [(10, .v (.bool (decide (ah = (whole ab)))))]) kz fun mc gX => ?_)
        clear dV
        refine ⟨fun h => absurd rfl h, ?_⟩
        refine anyC_done kz ?_ _
        refine then_normal ?_
        refine wp_ret ?_
        refine block_ret ?_
        refine then_ret ?_
        refine leave gX bI.cells (v := .bool (decide (ah = (whole ab)))) kz ?_
        refine ⟨congrArg (fun b_ => Ending.returned (Value.bool b_)) ?_, bI.step⟩
        first
         | exact to_t8 hq (by assumption) (by assumption)
         | exact to_t9 hq (by assumption) (by assumption)
         | exact to_u hq (by assumption) (by assumption)
         | exact to_m hq (by assumption) (by assumption) (by assumption) (by assumption) (by assumption) (by assumption)
       ·
        have jI : k1 ≠ 9 := by simpa using cC
        refine go_sp [(1, .v (.int .i64 v)), (2, .v (.bool flex)), (5, .p 0 0), (8, .p 1 0), (9, .p 2 0), (49, .v (.int .i64 k1)), (59, .v (.bool (k1 == 7)))] aa bf fun md bg => ?_
        clear bf
        refine cond_of bg (b := k1 == 7) kz (fun cD => ?_) (fun cD => ?_)
        ·
         have jJ : k1 = 7 := by simpa using cD
         refine go_seq_region [0, 1] kz ?_
         refine of_op (wpOp_make1 aa bg (d := 61) (j := 16) (t := 22) (e := 5) (bytes := 1) (z := .int .u8 0) kz kz kz kz (rfl) (rfl) (by omega) fun au me mf jK jL jM aO dW => ?_)
         clear bg aa
         refine go_rn [1] [] [(8, .p 1 0), (9, .p 2 0), (13, .v (.slice (some ⟨au, 0, none⟩) 16 16))] aO dW fun mg dX => ?_
         clear dW
         refine wpOps_nil (then_normal ?_)
         refine go_seq_region [0, 1, 2, 3] kz ?_
         refine go_rn [0, 1, 2] [3] [(9, .p 2 0), (13, .v (.slice (some ⟨au, 0, none⟩) 16 16)), (62, .v (.slice (some ⟨au, 0, none⟩) 16 16)), (64, .v (.slice ai ab.length aj))] aO dX fun mh dY => ?_
         clear dX
         refine of_op (wpOp_copyR aO dY (k := 0) (d := 65) (t := 22) (u := 22) (e := 5) (bytes := 1) (A := (some ⟨au, 0, none⟩)) (As := ai) (m := ab.length) (cs := aj) (m0 := 16) (c := 16) (xs := (List.replicate 16 (.int .u8 0))) (news := bc ab) kz kz rfl (aM.move aO.step nilM aO.imm).src fun mi mj jN dZ d5 => ?_)
         clear dY aO
         have gY : (⟨(some ⟨au, 0, none⟩), 16, 5, 1, 16, splice (List.replicate 16 (.int .u8 0)) 0 ((bc ab).take (min ab.length 16))⟩ : Rw) = brow (some ⟨au, 0, none⟩) 16 5 (uuidB ab) := uuid_row _ _ _
         obtain ⟨aH, jO⟩ := dZ.rowEq 0 [brow (some ⟨au, 0, none⟩) 16 5 (uuidB ab)] gY
         clear dZ
         have d6 := EnvOk.pick d5 (ks := [9, 13, 62, 64, 65]) (env' := [(9, .p 2 0), (13, .v (.slice (some ⟨au, 0, none⟩) 16 16)), (62, .v (.slice (some ⟨au, 0, none⟩) 16 16)), (64, .v (.slice ai ab.length aj)), (65, .v (.int .i64 ((min ab.length 16 : Nat) : Int)))]) kz
         have d7 := d6.cast (env' := [(9, .p 2 0), (13, .v (.slice (some ⟨au, 0, none⟩) ((uuidB ab).length) 16)), (62, .v (.slice (some ⟨au, 0, none⟩) ((uuidB ab).length) 16)), (64, .v (.slice ai ab.length aj)), (65, .v (.int .i64 ((min ab.length 16 : Nat) : Int)))]) (by rw [uuidB_length _])
         clear d5 d6
         refine wpOps_nil (then_normal ?_)
         refine go_seq_region [0, 1, 2, 3, 4] kz ?_
         refine go_rn [0, 1, 2] [3, 4] [(67, .v (.slice al ah.length am)), (68, .v (.slice (some ⟨au, 0, none⟩) ((uuidB ab).length) 16))] aH d7 fun ml d8 => ?_
         clear d7
         refine of_op (wpOp_call d8 (f := 63) (vs := [.slice al ah.length am, .slice (some ⟨au, 0, none⟩) ((uuidB ab).length) 16]) (d := 69) kz Tryz.call63 (sSame _ _ _ _ ah (uuidB ab) _ _ ((bX.move aH.step nilM aH.imm).move (Step.refl _ Nil) nilM allF) (octs_own (aH.own 0 _ rfl) (by first | omega | (rw [uuidB_length]; decide) | (simp only [be_length]; exact Nat.le_trans (widthI_le _) (by decide)) | (have := hroom; omega) | (have := hmade; omega) | (simp only [List.length_append, List.length_nil]; omega)) (F := fun _ _ => True) (fun _ _ _ => trivial))) ?_)
         rintro e_ mn ⟨rfl, d9⟩
         refine ⟨_, rfl, fun mo ea => ?_⟩
         have cE := aH.next_nil d9
         have jP := aH.frN d9
         clear d8 aH
         refine go_rn [4] [] [(10, .v (.bool (decide (ah = uuidB ab))))] cE ea fun mp gZ => ?_
         clear ea
         refine wpOps_nil (then_normal ?_)
         refine wp_ret ?_
         refine block_ret ?_
         refine then_ret ?_
         refine leave gZ cE.cells (v := .bool (decide (ah = uuidB ab))) kz ?_
         refine ⟨congrArg (fun b_ => Ending.returned (Value.bool b_)) ?_, cE.step⟩
         first
          | exact to_t8 hq (by assumption) (by assumption)
          | exact to_t9 hq (by assumption) (by assumption)
          | exact to_u hq (by assumption) (by assumption)
          | exact to_m hq (by assumption) (by assumption) (by assumption) (by assumption) (by assumption) (by assumption)
        ·
         have jQ : k1 ≠ 7 := by simpa using cD
         refine go_sp [(1, .v (.int .i64 v)), (2, .v (.bool flex)), (5, .p 0 0), (8, .p 1 0), (9, .p 2 0), (49, .v (.int .i64 k1)), (70, .v (.bool (k1 == 10)))] aa bg fun mq cG => ?_
         clear bg
         refine cond_false cG (b := k1 == 10) kz (az) ?_
         refine go_sp [(1, .v (.int .i64 v)), (2, .v (.bool flex)), (5, .p 0 0), (8, .p 1 0), (9, .p 2 0), (79, .v (.bool (k1 == 11)))] aa cG fun mr cH => ?_
         clear cG
         refine cond_false cH (b := k1 == 11) kz (by simpa using bY) ?_
         refine wp_skip ?_
         refine block_normal ?_
         refine then_normal ?_
         refine go_seq_drawK 8 kz aa fun mt jR eb g9 => ?_
         clear aa
         refine go_rnD [0, 1, 2, 3, 4, 5] [(117, .v (.int .i64 aS)), (119, .v (.int .i64 k1)), (121, .v (.int .i64 ac))] 3 (panicFree_then panicFree_body) (fun _ h => h.cells) g9 cH fun mu ec => ?_
         clear cH
         refine anyC_op (i := 6) kz (wpOp_call ec (f := 132) (vs := [.int .i64 k1, .int .i64 ac]) (d := 122) kz Tryz.call132 (sNumber k1 ac _) ?_)
         rintro e_ mw ⟨rfl, ee⟩
         refine ⟨_, rfl, fun mx ef => ?_⟩
         have bJ := eb.next_nil ee
         have hC := eb.frN ee
         clear ec
         have eg := TT.ofW hC bJ
         refine ⟨fun _ => eg, ?_⟩
         refine go_rnD [7] [(123, .v (.bool (aS == (numberI k1 ac))))] 1 (panicFree_then panicFree_body) (fun _ h => h.cells) eg ef fun my eh => ?_
         clear ef
         refine anyC_op (i := 8) kz (wpOp_pure [10] bJ.cells eh (env' := [(10, .v (.bool (aS == (numberI k1 ac))))]) kz fun mz hJ => ?_)
         clear eh
         refine ⟨fun h => absurd rfl h, ?_⟩
         refine anyC_done kz ?_ _
         refine then_normal ?_
         refine wp_ret ?_
         refine leave hJ bJ.cells (v := .bool (aS == (numberI k1 ac))) kz ?_
         refine ⟨congrArg (fun b_ => Ending.returned (Value.bool b_)) ?_, bJ.step⟩
         first
          | exact to_t8 hq (by assumption) (by assumption)
          | exact to_t9 hq (by assumption) (by assumption)
          | exact to_u hq (by assumption) (by assumption)
          | exact to_m hq (by assumption) (by assumption) (by assumption) (by assumption) (by assumption) (by assumption)
    ·
     have jS := of_decide_eq_false aZ
     have ei := bG.cast (env' := [(1, .v (.int .i64 v)), (2, .v (.bool flex)), (5, .p 0 0), (8, .p 1 0), (9, .p 2 0), (11, .v (.bool (Fld.nul (Fld.mk k1 y2 y3 y4 y5 y6 y7 l8) v (Tree.mk ac ab ae af ag)))), (41, .v (.bool false))]) (by rw [aZ])
     clear bG
     refine go_rn [12, 13, 14, 15, 16] [] [(1, .v (.int .i64 v)), (2, .v (.bool flex)), (5, .p 0 0), (8, .p 1 0), (9, .p 2 0), (11, .v (.bool (Fld.nul (Fld.mk k1 y2 y3 y4 y5 y6 y7 l8) v (Tree.mk ac ab ae af ag)))), (46, .v (.bool false))] aa ei fun mA cI => ?_
     clear ei
     refine wpOps_nil (then_normal ?_)
     refine cond_false cI (b := false) kz rfl ?_
     refine wp_skip ?_
     refine then_normal ?_
     refine wp_seq ?_
     refine go_sp [(1, .v (.int .i64 v)), (2, .v (.bool flex)), (5, .p 0 0), (8, .p 1 0), (9, .p 2 0), (47, .v (.bool (Fld.nul (Fld.mk k1 y2 y3 y4 y5 y6 y7 l8) v (Tree.mk ac ab ae af ag))))] aa cI fun mB bh => ?_
     clear cI
     refine cond_of bh (b := Fld.nul (Fld.mk k1 y2 y3 y4 y5 y6 y7 l8) v (Tree.mk ac ab ae af ag)) kz (fun hK => ?_) (fun hK => ?_)
     ·
      refine go_sp [(10, .v (.bool true))] aa bh fun mC hZ => ?_
      clear bh
      refine wp_ret ?_
      refine then_ret ?_
      refine leave hZ aa.cells (v := .bool true) kz ?_
      exact ⟨rfl, aa.step⟩
     ·
      refine wp_skip ?_
      refine then_normal ?_
      refine wp_seq ?_
      refine go_sp [(1, .v (.int .i64 v)), (2, .v (.bool flex)), (5, .p 0 0), (8, .p 1 0), (9, .p 2 0), (49, .v (.int .i64 k1))] aa bh fun mD ej => ?_
      clear bh
      refine wp_block ?_
      refine wp_seq ?_
      refine go_sp [(1, .v (.int .i64 v)), (2, .v (.bool flex)), (5, .p 0 0), (8, .p 1 0), (9, .p 2 0), (49, .v (.int .i64 k1)), (50, .v (.bool (k1 == 8)))] aa ej fun mF cJ => ?_
      clear ej
      refine cond_false cJ (b := k1 == 8) kz (ak) ?_
      refine go_region [0, 1] kz ?_
      refine go_rn [0, 1] [] [(1, .v (.int .i64 v)), (2, .v (.bool flex)), (5, .p 0 0), (8, .p 1 0), (9, .p 2 0), (49, .v (.int .i64 k1)), (50, .v (.bool (k1 == 9)))] aa cJ fun mG bi => ?_
      clear cJ
      refine wpOps_nil (then_normal ?_)
      refine cond_of bi (b := k1 == 9) kz (fun cK => ?_) (fun cK => ?_)
      ·
       have jT : k1 = 9 := by simpa using cK
       refine go_seq_drawK 6 kz aa fun mH jU bK ia => ?_
       clear aa
       refine go_rnD [0, 1, 2, 3] [(54, .v (.slice al ah.length am)), (56, .v (.slice ai ab.length aj))] 3 (panicFree_then (panicFree_block (panicFree_then panicFree_body))) (fun _ h => h.cells) ia bi fun mI ek => ?_
       clear bi
       have i6 := whole_le ab
       refine anyC_op (i := 4) kz (wpOp_call ek (f := 64) (vs := [.slice ai ab.length aj]) (d := 57) kz Tryz.call64 (sWhole _ _ ab (aM.move bK.step nilM bK.imm).le _) ?_)
       rintro e_ mJ ⟨rfl, em⟩
       refine ⟨_, rfl, fun mK eo => ?_⟩
       have aC := bK.next_nil em
       have ep := bK.frN em
       clear ek
       have ib := TT.ofW ep aC
       refine ⟨fun _ => ib, ?_⟩
       refine anyC_op (i := 5) kz (wpOp_call eo (f := 63) (vs := [.slice al ah.length am, .slice ai ((whole ab).length) aj]) (d := 58) kz Tryz.call63 (sSame _ _ _ _ ah (whole ab) _ _ ((bX.move aC.step nilM aC.imm).move (Step.refl _ Nil) nilM allF) (((aM.take 32767).move aC.step nilM aC.imm).move (Step.refl _ Nil) nilM allF)) ?_)
       rintro e_ mL ⟨rfl, eu⟩
       refine ⟨_, rfl, fun mM ev => ?_⟩
       have bL := aC.next_nil eu
       have ic := aC.frN eu
       clear eo aC
       have ig := TT.ofW (ep.trans ic) bL
       refine ⟨fun _ => ig, ?_⟩
       refine anyC_op (i := 6) kz (wpOp_pure [10] bL.cells ev (env' := [(10, .v (.bool (decide (ah = (whole ab)))))]) kz fun mN ii => ?_)
       clear ev
       refine ⟨fun h => absurd rfl h, ?_⟩
       refine anyC_done kz ?_ _
       refine then_normal ?_
       refine wp_ret ?_
       refine block_ret ?_
       refine then_ret ?_
       refine leave ii bL.cells (v := .bool (decide (ah = (whole ab)))) kz ?_
       refine ⟨congrArg (fun b_ => Ending.returned (Value.bool b_)) ?_, bL.step⟩
       first
        | exact to_t8 hq (by assumption) (by assumption)
        | exact to_t9 hq (by assumption) (by assumption)
        | exact to_u hq (by assumption) (by assumption)
        | exact to_m hq (by assumption) (by assumption) (by assumption) (by assumption) (by assumption) (by assumption)
      ·
       have jV : k1 ≠ 9 := by simpa using cK
       refine go_sp [(1, .v (.int .i64 v)), (2, .v (.bool flex)), (5, .p 0 0), (8, .p 1 0), (9, .p 2 0), (49, .v (.int .i64 k1)), (59, .v (.bool (k1 == 7)))] aa bi fun mO bj => ?_
       clear bi
       refine cond_of bj (b := k1 == 7) kz (fun cL => ?_) (fun cL => ?_)
       ·
        have jW : k1 = 7 := by simpa using cL
        refine go_seq_region [0, 1] kz ?_
        refine of_op (wpOp_make1 aa bj (d := 61) (j := 16) (t := 22) (e := 5) (bytes := 1) (z := .int .u8 0) kz kz kz kz (rfl) (rfl) (by omega) fun av mQ mR jX jY jZ aP ew => ?_)
        clear bj aa
        refine go_rn [1] [] [(8, .p 1 0), (9, .p 2 0), (13, .v (.slice (some ⟨av, 0, none⟩) 16 16))] aP ew fun mS ey => ?_
        clear ew
        refine wpOps_nil (then_normal ?_)
        refine go_seq_region [0, 1, 2, 3] kz ?_
        refine go_rn [0, 1, 2] [3] [(9, .p 2 0), (13, .v (.slice (some ⟨av, 0, none⟩) 16 16)), (62, .v (.slice (some ⟨av, 0, none⟩) 16 16)), (64, .v (.slice ai ab.length aj))] aP ey fun mT ez => ?_
        clear ey
        refine of_op (wpOp_copyR aP ez (k := 0) (d := 65) (t := 22) (u := 22) (e := 5) (bytes := 1) (A := (some ⟨av, 0, none⟩)) (As := ai) (m := ab.length) (cs := aj) (m0 := 16) (c := 16) (xs := (List.replicate 16 (.int .u8 0))) (news := bc ab) kz kz rfl (aM.move aP.step nilM aP.imm).src fun mU mV j0 eB eC => ?_)
        clear ez aP
        have ij : (⟨(some ⟨av, 0, none⟩), 16, 5, 1, 16, splice (List.replicate 16 (.int .u8 0)) 0 ((bc ab).take (min ab.length 16))⟩ : Rw) = brow (some ⟨av, 0, none⟩) 16 5 (uuidB ab) := uuid_row _ _ _
        obtain ⟨aI, j1⟩ := eB.rowEq 0 [brow (some ⟨av, 0, none⟩) 16 5 (uuidB ab)] ij
        clear eB
        have eD := EnvOk.pick eC (ks := [9, 13, 62, 64, 65]) (env' := [(9, .p 2 0), (13, .v (.slice (some ⟨av, 0, none⟩) 16 16)), (62, .v (.slice (some ⟨av, 0, none⟩) 16 16)), (64, .v (.slice ai ab.length aj)), (65, .v (.int .i64 ((min ab.length 16 : Nat) : Int)))]) kz
        have eE := eD.cast (env' := [(9, .p 2 0), (13, .v (.slice (some ⟨av, 0, none⟩) ((uuidB ab).length) 16)), (62, .v (.slice (some ⟨av, 0, none⟩) ((uuidB ab).length) 16)), (64, .v (.slice ai ab.length aj)), (65, .v (.int .i64 ((min ab.length 16 : Nat) : Int)))]) (by rw [uuidB_length _])
        clear eC eD
        refine wpOps_nil (then_normal ?_)
        refine go_seq_region [0, 1, 2, 3, 4] kz ?_
        refine go_rn [0, 1, 2] [3, 4] [(67, .v (.slice al ah.length am)), (68, .v (.slice (some ⟨av, 0, none⟩) ((uuidB ab).length) 16))] aI eE fun mW eF => ?_
        clear eE
        refine of_op (wpOp_call eF (f := 63) (vs := [.slice al ah.length am, .slice (some ⟨av, 0, none⟩) ((uuidB ab).length) 16]) (d := 69) kz Tryz.call63 (sSame _ _ _ _ ah (uuidB ab) _ _ ((bX.move aI.step nilM aI.imm).move (Step.refl _ Nil) nilM allF) (octs_own (aI.own 0 _ rfl) (by first | omega | (rw [uuidB_length]; decide) | (simp only [be_length]; exact Nat.le_trans (widthI_le _) (by decide)) | (have := hroom; omega) | (have := hmade; omega) | (simp only [List.length_append, List.length_nil]; omega)) (F := fun _ _ => True) (fun _ _ _ => trivial))) ?_)
        rintro e_ mX ⟨rfl, eG⟩
        refine ⟨_, rfl, fun mY eH => ?_⟩
        have cM := aI.next_nil eG
        have j2 := aI.frN eG
        clear eF aI
        refine go_rn [4] [] [(10, .v (.bool (decide (ah = uuidB ab))))] cM eH fun mZ ik => ?_
        clear eH
        refine wpOps_nil (then_normal ?_)
        refine wp_ret ?_
        refine block_ret ?_
        refine then_ret ?_
        refine leave ik cM.cells (v := .bool (decide (ah = uuidB ab))) kz ?_
        refine ⟨congrArg (fun b_ => Ending.returned (Value.bool b_)) ?_, cM.step⟩
        first
         | exact to_t8 hq (by assumption) (by assumption)
         | exact to_t9 hq (by assumption) (by assumption)
         | exact to_u hq (by assumption) (by assumption)
         | exact to_m hq (by assumption) (by assumption) (by assumption) (by assumption) (by assumption) (by assumption)
       ·
        have j3 : k1 ≠ 7 := by simpa using cL
        refine go_sp [(1, .v (.int .i64 v)), (2, .v (.bool flex)), (5, .p 0 0), (8, .p 1 0), (9, .p 2 0), (49, .v (.int .i64 k1)), (70, .v (.bool (k1 == 10)))] aa bj fun m4 cN => ?_
        clear bj
        refine cond_false cN (b := k1 == 10) kz (az) ?_
        refine go_sp [(1, .v (.int .i64 v)), (2, .v (.bool flex)), (5, .p 0 0), (8, .p 1 0), (9, .p 2 0), (79, .v (.bool (k1 == 11)))] aa cN fun m5 cO => ?_
        clear cN
        refine cond_false cO (b := k1 == 11) kz (by simpa using bY) ?_
        refine wp_skip ?_
        refine block_normal ?_
        refine then_normal ?_
        refine go_seq_drawK 8 kz aa fun m6 j4 eI il => ?_
        clear aa
        refine go_rnD [0, 1, 2, 3, 4, 5] [(117, .v (.int .i64 aS)), (119, .v (.int .i64 k1)), (121, .v (.int .i64 ac))] 3 (panicFree_then panicFree_body) (fun _ h => h.cells) il cO fun m7 eJ => ?_
        clear cO
        refine anyC_op (i := 6) kz (wpOp_call eJ (f := 132) (vs := [.int .i64 k1, .int .i64 ac]) (d := 122) kz Tryz.call132 (sNumber k1 ac _) ?_)
        rintro e_ m8 ⟨rfl, eK⟩
        refine ⟨_, rfl, fun m9 eL => ?_⟩
        have bM := eI.next_nil eK
        have im := eI.frN eK
        clear eJ
        have eM := TT.ofW im bM
        refine ⟨fun _ => eM, ?_⟩
        refine go_rnD [7] [(123, .v (.bool (aS == (numberI k1 ac))))] 1 (panicFree_then panicFree_body) (fun _ h => h.cells) eM eL fun nf eN => ?_
        clear eL
        refine anyC_op (i := 8) kz (wpOp_pure [10] bM.cells eN (env' := [(10, .v (.bool (aS == (numberI k1 ac))))]) kz fun ng io => ?_)
        clear eN
        refine ⟨fun h => absurd rfl h, ?_⟩
        refine anyC_done kz ?_ _
        refine then_normal ?_
        refine wp_ret ?_
        refine leave io bM.cells (v := .bool (aS == (numberI k1 ac))) kz ?_
        refine ⟨congrArg (fun b_ => Ending.returned (Value.bool b_)) ?_, bM.step⟩
        first
         | exact to_t8 hq (by assumption) (by assumption)
         | exact to_t9 hq (by assumption) (by assumption)
         | exact to_u hq (by assumption) (by assumption)
         | exact to_m hq (by assumption) (by assumption) (by assumption) (by assumption) (by assumption) (by assumption)
 ·
  have j5 := of_decide_eq_false b8
  have eO := dc.cast (env' := [(1, .v (.int .i64 v)), (2, .v (.bool flex)), (5, .p 0 0), (8, .p 1 0), (9, .p 2 0), (11, .v (.bool (Fld.nul (Fld.mk k1 y2 y3 y4 y5 y6 y7 l8) v (Tree.mk ac ab ae af ag)))), (24, .v (.bool false))]) (by rw [b8])
  clear dc
  refine go_rn [4, 5, 6, 7, 8, 9] [] [(1, .v (.int .i64 v)), (2, .v (.bool flex)), (5, .p 0 0), (8, .p 1 0), (9, .p 2 0), (11, .v (.bool (Fld.nul (Fld.mk k1 y2 y3 y4 y5 y6 y7 l8) v (Tree.mk ac ab ae af ag)))), (12, .v (.bool false))] aa eO fun nh eP => ?_
  clear eO
  refine wpOps_nil (then_normal ?_)
  refine wp_seq ?_
  refine go_seq_region [0, 1, 2, 3, 4, 5, 6, 7, 8, 9, 10, 11, 12, 13, 14, 15, 16] kz ?_
  refine go_rn [0, 1, 2, 3] [4, 5, 6, 7, 8, 9, 10, 11, 12, 13, 14, 15, 16] [(1, .v (.int .i64 v)), (2, .v (.bool flex)), (5, .p 0 0), (8, .p 1 0), (9, .p 2 0), (11, .v (.bool (Fld.nul (Fld.mk k1 y2 y3 y4 y5 y6 y7 l8) v (Tree.mk ac ab ae af ag)))), (12, .v (.bool false)), (33, .v (.bool (k1 == 8)))] aa eP fun ni bN => ?_
  clear eP
  refine (Bool.eq_false_or_eq_true (k1 == 8)).elim (fun ao => ?_) (fun ao => ?_)
  ·
   have j6 : k1 = 8 := by simpa using ao
   have eQ := bN.cast (env' := [(1, .v (.int .i64 v)), (2, .v (.bool flex)), (5, .p 0 0), (8, .p 1 0), (9, .p 2 0), (11, .v (.bool (Fld.nul (Fld.mk k1 y2 y3 y4 y5 y6 y7 l8) v (Tree.mk ac ab ae af ag)))), (12, .v (.bool false)), (33, .v (.bool true))]) (by rw [ao])
   clear bN
   refine go_rn [4, 5, 6, 7, 8, 9, 10, 11, 12, 13, 14, 15, 16] [] [(1, .v (.int .i64 v)), (2, .v (.bool flex)), (5, .p 0 0), (8, .p 1 0), (9, .p 2 0), (11, .v (.bool (Fld.nul (Fld.mk k1 y2 y3 y4 y5 y6 y7 l8) v (Tree.mk ac ab ae af ag)))), (46, .v (.bool (!(ap == (Fld.nul (Fld.mk k1 y2 y3 y4 y5 y6 y7 l8) v (Tree.mk ac ab ae af ag))))))] aa eQ fun nj bk => ?_
   clear eQ
   refine wpOps_nil (then_normal ?_)
   refine cond_of bk (b := !(ap == (Fld.nul (Fld.mk k1 y2 y3 y4 y5 y6 y7 l8) v (Tree.mk ac ab ae af ag)))) kz (fun cP => ?_) (fun cP => ?_)
   ·
    have j7 : !(ap = (Fld.nul (Fld.mk k1 y2 y3 y4 y5 y6 y7 l8) v (Tree.mk ac ab ae af ag))) := by simpa using cP
    refine go_sp [(10, .v (.bool false))] aa bk fun nk ip => ?_
    clear bk
    refine wp_ret ?_
    refine then_ret ?_
    refine leave ip aa.cells (v := .bool false) kz ?_
    first
     | exact (to_n8 hq (by assumption) (by assumption)).elim
     | exact (to_n10 hq (by assumption) (by assumption)).elim
     | exact (to_nm hq (by assumption) (by assumption) (by assumption)).elim
   ·
    have j8 : !(ap ≠ (Fld.nul (Fld.mk k1 y2 y3 y4 y5 y6 y7 l8) v (Tree.mk ac ab ae af ag))) := by simpa using cP
    refine wp_skip ?_
    refine then_normal ?_
    refine wp_seq ?_
    refine go_sp [(1, .v (.int .i64 v)), (2, .v (.bool flex)), (5, .p 0 0), (8, .p 1 0), (9, .p 2 0), (47, .v (.bool (Fld.nul (Fld.mk k1 y2 y3 y4 y5 y6 y7 l8) v (Tree.mk ac ab ae af ag))))] aa bk fun nl bn => ?_
    clear bk
    refine cond_of bn (b := Fld.nul (Fld.mk k1 y2 y3 y4 y5 y6 y7 l8) v (Tree.mk ac ab ae af ag)) kz (fun iq => ?_) (fun iq => ?_)
    ·
     refine go_sp [(10, .v (.bool true))] aa bn fun nm ir => ?_
     clear bn
     refine wp_ret ?_
     refine then_ret ?_
     refine leave ir aa.cells (v := .bool true) kz ?_
     exact ⟨rfl, aa.step⟩
    ·
     refine wp_skip ?_
     refine then_normal ?_
     refine wp_seq ?_
     refine go_sp [(1, .v (.int .i64 v)), (2, .v (.bool flex)), (5, .p 0 0), (8, .p 1 0), (9, .p 2 0), (49, .v (.int .i64 k1))] aa bn fun np eR => ?_
     clear bn
     refine wp_block ?_
     refine wp_seq ?_
     refine go_sp [(1, .v (.int .i64 v)), (2, .v (.bool flex)), (5, .p 0 0), (8, .p 1 0), (9, .p 2 0), (49, .v (.int .i64 k1)), (50, .v (.bool (k1 == 8)))] aa eR fun nr bO => ?_
     clear eR
     refine cond_true bO (b := k1 == 8) kz (ao) ?_
     refine wp_skip ?_
     refine then_normal ?_
     refine cond_true bO (b := k1 == 8) kz (ao) ?_
     refine go_seq_drawK 6 kz aa fun ns j9 bP iu => ?_
     clear aa
     refine go_rnD [0, 1, 2, 3] [(54, .v (.slice al ah.length am)), (56, .v (.slice ai ab.length aj))] 3 (panicFree_then (panicFree_block (panicFree_then panicFree_body))) (fun _ h => h.cells) iu bO fun nt eS => ?_
     clear bO
     have i7 := whole_le ab
     refine anyC_op (i := 4) kz (wpOp_call eS (f := 64) (vs := [.slice ai ab.length aj]) (d := 57) kz Tryz.call64 (sWhole _ _ ab (aM.move bP.step nilM bP.imm).le _) ?_)
     rintro e_ nu ⟨rfl, eU⟩
     refine ⟨_, rfl, fun nv eV => ?_⟩
     have aD := bP.next_nil eU
     have eW := bP.frN eU
     clear eS
     have iv := TT.ofW eW aD
     refine ⟨fun _ => iv, ?_⟩
     refine anyC_op (i := 5) kz (wpOp_call eV (f := 63) (vs := [.slice al ah.length am, .slice ai ((whole ab).length) aj]) (d := 58) kz Tryz.call63 (sSame _ _ _ _ ah (whole ab) _ _ ((bX.move aD.step nilM aD.imm).move (Step.refl _ Nil) nilM allF) (((aM.take 32767).move aD.step nilM aD.imm).move (Step.refl _ Nil) nilM allF)) ?_)
     rintro e_ nw ⟨rfl, eX⟩
     refine ⟨_, rfl, fun nx eY => ?_⟩
     have bQ := aD.next_nil eX
     have iw := aD.frN eX
     clear eV aD
     have ix := TT.ofW (eW.trans iw) bQ
     refine ⟨fun _ => ix, ?_⟩
     refine anyC_op (i := 6) kz (wpOp_pure [10] bQ.cells eY (env' := [(10, .v (.bool (decide (ah = (whole ab)))))]) kz fun ny iy => ?_)
     clear eY
     refine ⟨fun h => absurd rfl h, ?_⟩
     refine anyC_done kz ?_ _
     refine then_normal ?_
     refine wp_ret ?_
     refine block_ret ?_
     refine then_ret ?_
     refine leave iy bQ.cells (v := .bool (decide (ah = (whole ab)))) kz ?_
     refine ⟨congrArg (fun b_ => Ending.returned (Value.bool b_)) ?_, bQ.step⟩
     first
      | exact to_t8 hq (by assumption) (by assumption)
      | exact to_t9 hq (by assumption) (by assumption)
      | exact to_u hq (by assumption) (by assumption)
      | exact to_m hq (by assumption) (by assumption) (by assumption) (by assumption) (by assumption) (by assumption)
  ·
   have ka : k1 ≠ 8 := by simpa using ao
   have eZ := bN.cast (env' := [(1, .v (.int .i64 v)), (2, .v (.bool flex)), (5, .p 0 0), (8, .p 1 0), (9, .p 2 0), (11, .v (.bool (Fld.nul (Fld.mk k1 y2 y3 y4 y5 y6 y7 l8) v (Tree.mk ac ab ae af ag)))), (12, .v (.bool false)), (33, .v (.bool false))]) (by rw [ao])
   clear bN
   refine go_rn [4, 5, 6, 7, 8] [9, 10, 11, 12, 13, 14, 15, 16] [(1, .v (.int .i64 v)), (2, .v (.bool flex)), (5, .p 0 0), (8, .p 1 0), (9, .p 2 0), (11, .v (.bool (Fld.nul (Fld.mk k1 y2 y3 y4 y5 y6 y7 l8) v (Tree.mk ac ab ae af ag)))), (12, .v (.bool false)), (38, .v (.bool (k1 == 10)))] aa eZ fun nz bR => ?_
   clear eZ
   refine (Bool.eq_false_or_eq_true (k1 == 10)).elim (fun aJ => ?_) (fun aJ => ?_)
   ·
    have kd : k1 = 10 := by simpa using aJ
    have e9 := bR.cast (env' := [(1, .v (.int .i64 v)), (2, .v (.bool flex)), (5, .p 0 0), (8, .p 1 0), (9, .p 2 0), (11, .v (.bool (Fld.nul (Fld.mk k1 y2 y3 y4 y5 y6 y7 l8) v (Tree.mk ac ab ae af ag)))), (12, .v (.bool false)), (38, .v (.bool true))]) (by rw [aJ])
    clear bR
    refine go_rn [9, 10, 11, 12, 13, 14, 15, 16] [] [(1, .v (.int .i64 v)), (2, .v (.bool flex)), (5, .p 0 0), (8, .p 1 0), (9, .p 2 0), (11, .v (.bool (Fld.nul (Fld.mk k1 y2 y3 y4 y5 y6 y7 l8) v (Tree.mk ac ab ae af ag)))), (46, .v (.bool (!(ap == (Fld.nul (Fld.mk k1 y2 y3 y4 y5 y6 y7 l8) v (Tree.mk ac ab ae af ag))))))] aa e9 fun nA bo => ?_
    clear e9
    refine wpOps_nil (then_normal ?_)
    refine cond_of bo (b := !(ap == (Fld.nul (Fld.mk k1 y2 y3 y4 y5 y6 y7 l8) v (Tree.mk ac ab ae af ag)))) kz (fun cQ => ?_) (fun cQ => ?_)
    ·
     have ke : !(ap = (Fld.nul (Fld.mk k1 y2 y3 y4 y5 y6 y7 l8) v (Tree.mk ac ab ae af ag))) := by simpa using cQ
     refine go_sp [(10, .v (.bool false))] aa bo fun nB iz => ?_
     clear bo
     refine wp_ret ?_
     refine then_ret ?_
     refine leave iz aa.cells (v := .bool false) kz ?_
     first
      | exact (to_n8 hq (by assumption) (by assumption)).elim
      | exact (to_n10 hq (by assumption) (by assumption)).elim
      | exact (to_nm hq (by assumption) (by assumption) (by assumption)).elim
    ·
     have kf : !(ap ≠ (Fld.nul (Fld.mk k1 y2 y3 y4 y5 y6 y7 l8) v (Tree.mk ac ab ae af ag))) := by simpa using cQ
     refine wp_skip ?_
     refine then_normal ?_
     refine wp_seq ?_
     refine go_sp [(1, .v (.int .i64 v)), (2, .v (.bool flex)), (5, .p 0 0), (8, .p 1 0), (9, .p 2 0), (47, .v (.bool (Fld.nul (Fld.mk k1 y2 y3 y4 y5 y6 y7 l8) v (Tree.mk ac ab ae af ag))))] aa bo fun nC bp => ?_
     clear bo
     refine cond_of bp (b := Fld.nul (Fld.mk k1 y2 y3 y4 y5 y6 y7 l8) v (Tree.mk ac ab ae af ag)) kz (fun iA => ?_) (fun iA => ?_)
     ·
      refine go_sp [(10, .v (.bool true))] aa bp fun nD iB => ?_
      clear bp
      refine wp_ret ?_
      refine then_ret ?_
      refine leave iB aa.cells (v := .bool true) kz ?_
      exact ⟨rfl, aa.step⟩
     ·
      refine wp_skip ?_
      refine then_normal ?_
      refine wp_seq ?_
      refine go_sp [(1, .v (.int .i64 v)), (2, .v (.bool flex)), (5, .p 0 0), (8, .p 1 0), (9, .p 2 0), (49, .v (.int .i64 k1))] aa bp fun nE fa => ?_
      clear bp
      refine wp_block ?_
      refine wp_seq ?_
      refine go_sp [(1, .v (.int .i64 v)), (2, .v (.bool flex)), (5, .p 0 0), (8, .p 1 0), (9, .p 2 0), (49, .v (.int .i64 k1)), (50, .v (.bool (k1 == 8)))] aa fa fun nF cR => ?_
      clear fa
      refine cond_false cR (b := k1 == 8) kz (ao) ?_
      refine go_region [0, 1] kz ?_
      refine go_rn [0, 1] [] [(1, .v (.int .i64 v)), (2, .v (.bool flex)), (5, .p 0 0), (8, .p 1 0), (9, .p 2 0), (49, .v (.int .i64 k1)), (50, .v (.bool (k1 == 9)))] aa cR fun nG bq => ?_
      clear cR
      refine wpOps_nil (then_normal ?_)
      refine cond_of bq (b := k1 == 9) kz (fun cS => ?_) (fun cS => ?_)
      ·
       have kg : k1 = 9 := by simpa using cS
       refine go_seq_drawK 6 kz aa fun nH kh bS iC => ?_
       clear aa
       refine go_rnD [0, 1, 2, 3] [(54, .v (.slice al ah.length am)), (56, .v (.slice ai ab.length aj))] 3 (panicFree_then (panicFree_block (panicFree_then panicFree_body))) (fun _ h => h.cells) iC bq fun nI fb => ?_
       clear bq
       have ja := whole_le ab
       refine anyC_op (i := 4) kz (wpOp_call fb (f := 64) (vs := [.slice ai ab.length aj]) (d := 57) kz Tryz.call64 (sWhole _ _ ab (aM.move bS.step nilM bS.imm).le _) ?_)
       rintro e_ nJ ⟨rfl, fe⟩
       refine ⟨_, rfl, fun nK ff => ?_⟩
       have aE := bS.next_nil fe
       have fg := bS.frN fe
       clear fb
       have iD := TT.ofW fg aE
       refine ⟨fun _ => iD, ?_⟩
       refine anyC_op (i := 5) kz (wpOp_call ff (f := 63) (vs := [.slice al ah.length am, .slice ai ((whole ab).length) aj]) (d := 58) kz Tryz.call63 (sSame _ _ _ _ ah (whole ab) _ _ ((bX.move aE.step nilM aE.imm).move (Step.refl _ Nil) nilM allF) (((aM.take 32767).move aE.step nilM aE.imm).move (Step.refl _ Nil) nilM allF)) ?_)
       rintro e_ nL ⟨rfl, fh⟩
       refine ⟨_, rfl, fun nM fi => ?_⟩
       have bT := aE.next_nil fh
       have iE := aE.frN fh
       clear ff aE
       have iF := TT.ofW (fg.trans iE) bT
       refine ⟨fun _ => iF, ?_⟩
       refine anyC_op (i := 6) kz (wpOp_pure [10] bT.cells fi (env' := [(10, .v (.bool (decide (ah = (whole ab)))))]) kz fun nN iG => ?_)
       clear fi
       refine ⟨fun h => absurd rfl h, ?_⟩
       refine anyC_done kz ?_ _
       refine then_normal ?_
       refine wp_ret ?_
       refine block_ret ?_
       refine then_ret ?_
       refine leave iG bT.cells (v := .bool (decide (ah = (whole ab)))) kz ?_
       refine ⟨congrArg (fun b_ => Ending.returned (Value.bool b_)) ?_, bT.step⟩
       first
        | exact to_t8 hq (by assumption) (by assumption)
        | exact to_t9 hq (by assumption) (by assumption)
        | exact to_u hq (by assumption) (by assumption)
        | exact to_m hq (by assumption) (by assumption) (by assumption) (by assumption) (by assumption) (by assumption)
      ·
       have ki : k1 ≠ 9 := by simpa using cS
       refine go_sp [(1, .v (.int .i64 v)), (2, .v (.bool flex)), (5, .p 0 0), (8, .p 1 0), (9, .p 2 0), (49, .v (.int .i64 k1)), (59, .v (.bool (k1 == 7)))] aa bq fun nO bt => ?_
       clear bq
       refine cond_of bt (b := k1 == 7) kz (fun cT => ?_) (fun cT => ?_)
       ·
        have kj : k1 = 7 := by simpa using cT
        refine go_seq_region [0, 1] kz ?_
        refine of_op (wpOp_make1 aa bt (d := 61) (j := 16) (t := 22) (e := 5) (bytes := 1) (z := .int .u8 0) kz kz kz kz (rfl) (rfl) (by omega) fun aw nP nQ km ko kp aQ fj => ?_)
        clear bt aa
        refine go_rn [1] [] [(8, .p 1 0), (9, .p 2 0), (13, .v (.slice (some ⟨aw, 0, none⟩) 16 16))] aQ fj fun nR fk => ?_
        clear fj
        refine wpOps_nil (then_normal ?_)
        refine go_seq_region [0, 1, 2, 3] kz ?_
        refine go_rn [0, 1, 2] [3] [(9, .p 2 0), (13, .v (.slice (some ⟨aw, 0, none⟩) 16 16)), (62, .v (.slice (some ⟨aw, 0, none⟩) 16 16)), (64, .v (.slice ai ab.length aj))] aQ fk fun nS fl => ?_
        clear fk
        refine of_op (wpOp_copyR aQ fl (k := 0) (d := 65) (t := 22) (u := 22) (e := 5) (bytes := 1) (A := (some ⟨aw, 0, none⟩)) (As := ai) (m := ab.length) (cs := aj) (m0 := 16) (c := 16) (xs := (List.replicate 16 (.int .u8 0))) (news := bc ab) kz kz rfl (aM.move aQ.step nilM aQ.imm).src fun nT nU kq fm fo => ?_)
        clear fl aQ
        have iH : (⟨(some ⟨aw, 0, none⟩), 16, 5, 1, 16, splice (List.replicate 16 (.int .u8 0)) 0 ((bc ab).take (min ab.length 16))⟩ : Rw) = brow (some ⟨aw, 0, none⟩) 16 5 (uuidB ab) := uuid_row _ _ _
        obtain ⟨aK, ku⟩ := fm.rowEq 0 [brow (some ⟨aw, 0, none⟩) 16 5 (uuidB ab)] iH
        clear fm
        have fq := EnvOk.pick fo (ks := [9, 13, 62, 64, 65]) (env' := [(9, .p 2 0), (13, .v (.slice (some ⟨aw, 0, none⟩) 16 16)), (62, .v (.slice (some ⟨aw, 0, none⟩) 16 16)), (64, .v (.slice ai ab.length aj)), (65, .v (.int .i64 ((min ab.length 16 : Nat) : Int)))]) kz
        have fr := fq.cast (env' := [(9, .p 2 0), (13, .v (.slice (some ⟨aw, 0, none⟩) ((uuidB ab).length) 16)), (62, .v (.slice (some ⟨aw, 0, none⟩) ((uuidB ab).length) 16)), (64, .v (.slice ai ab.length aj)), (65, .v (.int .i64 ((min ab.length 16 : Nat) : Int)))]) (by rw [uuidB_length _])
        clear fo fq
        refine wpOps_nil (then_normal ?_)
        refine go_seq_region [0, 1, 2, 3, 4] kz ?_
        refine go_rn [0, 1, 2] [3, 4] [(67, .v (.slice al ah.length am)), (68, .v (.slice (some ⟨aw, 0, none⟩) ((uuidB ab).length) 16))] aK fr fun nV ft => ?_
        clear fr
        refine of_op (wpOp_call ft (f := 63) (vs := [.slice al ah.length am, .slice (some ⟨aw, 0, none⟩) ((uuidB ab).length) 16]) (d := 69) kz Tryz.call63 (sSame _ _ _ _ ah (uuidB ab) _ _ ((bX.move aK.step nilM aK.imm).move (Step.refl _ Nil) nilM allF) (octs_own (aK.own 0 _ rfl) (by first | omega | (rw [uuidB_length]; decide) | (simp only [be_length]; exact Nat.le_trans (widthI_le _) (by decide)) | (have := hroom; omega) | (have := hmade; omega) | (simp only [List.length_append, List.length_nil]; omega)) (F := fun _ _ => True) (fun _ _ _ => trivial))) ?_)
        rintro e_ nW ⟨rfl, fu⟩
        refine ⟨_, rfl, fun nX fv => ?_⟩
        have cU := aK.next_nil fu
        have kv := aK.frN fu
        clear ft aK
        refine go_rn [4] [] [(10, .v (.bool (decide (ah = uuidB ab))))] cU fv fun nY iI => ?_
        clear fv
        refine wpOps_nil (then_normal ?_)
        refine wp_ret ?_
        refine block_ret ?_
        refine then_ret ?_
        refine leave iI cU.cells (v := .bool (decide (ah = uuidB ab))) kz ?_
        refine ⟨congrArg (fun b_ => Ending.returned (Value.bool b_)) ?_, cU.step⟩
        first
         | exact to_t8 hq (by assumption) (by assumption)
         | exact to_t9 hq (by assumption) (by assumption)
         | exact to_u hq (by assumption) (by assumption)
         | exact to_m hq (by assumption) (by assumption) (by assumption) (by assumption) (by assumption) (by assumption)
       ·
        have kw : k1 ≠ 7 := by simpa using cT
        refine go_sp [(1, .v (.int .i64 v)), (2, .v (.bool flex)), (5, .p 0 0), (8, .p 1 0), (9, .p 2 0), (49, .v (.int .i64 k1)), (70, .v (.bool (k1 == 10)))] aa bt fun nZ cV => ?_
        clear bt
        refine cond_true cV (b := k1 == 10) kz (aJ) ?_
        refine go_seq_region [0, 1, 2, 3, 4, 5, 6, 7] kz ?_
        refine go_rn [0, 1, 2, 3, 4, 5] [6, 7] [(73, .v (.slice A9 l8.length fX)), (74, .v (.int .i64 v)), (75, .v (.bool flex)), (76, .v (.agg #[.int .i64 ac, .slice ai ab.length aj, .bool ae, .slice fY af.length fZ, .slice f7 ag.length f8])), (77, .v (.agg #[.int .i64 aS, .slice al ah.length am, .bool ap, .slice gc f9.length gd, .slice ge ga.length gg]))] aa cV fun n4 fw => ?_
        clear cV
        refine of_op (wpOp_call fw (f := 19) (vs := [.slice A9 l8.length fX, .int .i64 v, .bool flex, .agg #[.int .i64 ac, .slice ai ab.length aj, .bool ae, .slice fY af.length fZ, .slice f7 ag.length f8], .agg #[.int .i64 aS, .slice al ah.length am, .bool ap, .slice gc f9.length gd, .slice ge ga.length gg]]) (d := 78) kz Tryz.call19 ( hT _ _ l8 _ (Tree.mk ac ab ae af ag) _ (Tree.mk aS ah ap f9 ga) _ _ ⟨gb, (iW.move aa.step nilM aa.imm), (fun i_ x_ h_ => ((jc i_ x_ h_).move aa.step nilM aa.imm))⟩ (ht.move aa.step nilM aa.imm) (hg.move aa.step nilM aa.imm) hpl (to_part hq (by assumption) (by assumption))) ?_)
        rintro e_ n5 ⟨rfl, fx⟩
        refine ⟨_, rfl, fun n8 fy => ?_⟩
        have cW := aa.next_nil fx
        have kx := aa.frN fx
        clear fw aa
        refine go_rn [7] [] [(10, .v (.bool true))] cW fy fun oa iJ => ?_
        clear fy
        refine wpOps_nil (then_normal ?_)
        refine wp_ret ?_
        refine block_ret ?_
        refine then_ret ?_
        refine leave iJ cW.cells (v := .bool true) kz ?_
        exact ⟨rfl, cW.step⟩
   ·
    have ky : k1 ≠ 10 := by simpa using aJ
    have fz := bR.cast (env' := [(1, .v (.int .i64 v)), (2, .v (.bool flex)), (5, .p 0 0), (8, .p 1 0), (9, .p 2 0), (11, .v (.bool (Fld.nul (Fld.mk k1 y2 y3 y4 y5 y6 y7 l8) v (Tree.mk ac ab ae af ag)))), (12, .v (.bool false)), (38, .v (.bool false))]) (by rw [aJ])
    clear bR
    refine go_rn [9, 10, 11, 12, 13, 14, 15, 16] [] [(1, .v (.int .i64 v)), (2, .v (.bool flex)), (5, .p 0 0), (8, .p 1 0), (9, .p 2 0), (11, .v (.bool (Fld.nul (Fld.mk k1 y2 y3 y4 y5 y6 y7 l8) v (Tree.mk ac ab ae af ag)))), (46, .v (.bool false))] aa fz fun od cX => ?_
    clear fz
    refine wpOps_nil (then_normal ?_)
    refine cond_false cX (b := false) kz rfl ?_
    refine wp_skip ?_
    refine then_normal ?_
    refine wp_seq ?_
    refine go_sp [(1, .v (.int .i64 v)), (2, .v (.bool flex)), (5, .p 0 0), (8, .p 1 0), (9, .p 2 0), (47, .v (.bool (Fld.nul (Fld.mk k1 y2 y3 y4 y5 y6 y7 l8) v (Tree.mk ac ab ae af ag))))] aa cX fun oe bu => ?_
    clear cX
    refine cond_of bu (b := Fld.nul (Fld.mk k1 y2 y3 y4 y5 y6 y7 l8) v (Tree.mk ac ab ae af ag)) kz (fun iK => ?_) (fun iK => ?_)
    ·
     refine go_sp [(10, .v (.bool true))] aa bu fun og iL => ?_
     clear bu
     refine wp_ret ?_
     refine then_ret ?_
     refine leave iL aa.cells (v := .bool true) kz ?_
     exact ⟨rfl, aa.step⟩
    ·
     refine wp_skip ?_
     refine then_normal ?_
     refine wp_seq ?_
     refine go_sp [(1, .v (.int .i64 v)), (2, .v (.bool flex)), (5, .p 0 0), (8, .p 1 0), (9, .p 2 0), (49, .v (.int .i64 k1))] aa bu fun oh fA => ?_
     clear bu
     refine wp_block ?_
     refine wp_seq ?_
     refine go_sp [(1, .v (.int .i64 v)), (2, .v (.bool flex)), (5, .p 0 0), (8, .p 1 0), (9, .p 2 0), (49, .v (.int .i64 k1)), (50, .v (.bool (k1 == 8)))] aa fA fun ol cY => ?_
     clear fA
     refine cond_false cY (b := k1 == 8) kz (ao) ?_
     refine go_region [0, 1] kz ?_
     refine go_rn [0, 1] [] [(1, .v (.int .i64 v)), (2, .v (.bool flex)), (5, .p 0 0), (8, .p 1 0), (9, .p 2 0), (49, .v (.int .i64 k1)), (50, .v (.bool (k1 == 9)))] aa cY fun om bw => ?_
     clear cY
     refine wpOps_nil (then_normal ?_)
     refine cond_of bw (b := k1 == 9) kz (fun cZ => ?_) (fun cZ => ?_)
     ·
      have kA : k1 = 9 := by simpa using cZ
      refine go_seq_drawK 6 kz aa fun oq kB bU iM => ?_
      clear aa
      refine go_rnD [0, 1, 2, 3] [(54, .v (.slice al ah.length am)), (56, .v (.slice ai ab.length aj))] 3 (panicFree_then (panicFree_block (panicFree_then panicFree_body))) (fun _ h => h.cells) iM bw fun ot fB => ?_
      clear bw
      have jb := whole_le ab
      refine anyC_op (i := 4) kz (wpOp_call fB (f := 64) (vs := [.slice ai ab.length aj]) (d := 57) kz Tryz.call64 (sWhole _ _ ab (aM.move bU.step nilM bU.imm).le _) ?_)
      rintro e_ ou ⟨rfl, fC⟩
      refine ⟨_, rfl, fun ov fD => ?_⟩
      have aF := bU.next_nil fC
      have fE := bU.frN fC
      clear fB
      have iN := TT.ofW fE aF
      refine ⟨fun _ => iN, ?_⟩
      refine anyC_op (i := 5) kz (wpOp_call fD (f := 63) (vs := [.slice al ah.length am, .slice ai ((whole ab).length) aj]) (d := 58) kz Tryz.call63 (sSame _ _ _ _ ah (whole ab) _ _ ((bX.move aF.step nilM aF.imm).move (Step.refl _ Nil) nilM allF) (((aM.take 32767).move aF.step nilM aF.imm).move (Step.refl _ Nil) nilM allF)) ?_)
      rintro e_ ow ⟨rfl, fF⟩
      refine ⟨_, rfl, fun ox fG => ?_⟩
      have bV := aF.next_nil fF
      have iO := aF.frN fF
      clear fD aF
      have iP := TT.ofW (fE.trans iO) bV
      refine ⟨fun _ => iP, ?_⟩
      refine anyC_op (i := 6) kz (wpOp_pure [10] bV.cells fG (env' := [(10, .v (.bool (decide (ah = (whole ab)))))]) kz fun oy iQ => ?_)
      clear fG
      refine ⟨fun h => absurd rfl h, ?_⟩
      refine anyC_done kz ?_ _
      refine then_normal ?_
      refine wp_ret ?_
      refine block_ret ?_
      refine then_ret ?_
      refine leave iQ bV.cells (v := .bool (decide (ah = (whole ab)))) kz ?_
      refine ⟨congrArg (fun b_ => Ending.returned (Value.bool b_)) ?_, bV.step⟩
      first
       | exact to_t8 hq (by assumption) (by assumption)
       | exact to_t9 hq (by assumption) (by assumption)
       | exact to_u hq (by assumption) (by assumption)
       | exact to_m hq (by assumption) (by assumption) (by assumption) (by assumption) (by assumption) (by assumption)
     ·
      have kC : k1 ≠ 9 := by simpa using cZ
      refine go_sp [(1, .v (.int .i64 v)), (2, .v (.bool flex)), (5, .p 0 0), (8, .p 1 0), (9, .p 2 0), (49, .v (.int .i64 k1)), (59, .v (.bool (k1 == 7)))] aa bw fun oz bx => ?_
      clear bw
      refine cond_of bx (b := k1 == 7) kz (fun c5 => ?_) (fun c5 => ?_)
      ·
       have kD : k1 = 7 := by simpa using c5
       refine go_seq_region [0, 1] kz ?_
       refine of_op (wpOp_make1 aa bx (d := 61) (j := 16) (t := 22) (e := 5) (bytes := 1) (z := .int .u8 0) kz kz kz kz (rfl) (rfl) (by omega) fun ax oA oB kE kF kG aR fH => ?_)
       clear bx aa
       refine go_rn [1] [] [(8, .p 1 0), (9, .p 2 0), (13, .v (.slice (some ⟨ax, 0, none⟩) 16 16))] aR fH fun oC fI => ?_
       clear fH
       refine wpOps_nil (then_normal ?_)
       refine go_seq_region [0, 1, 2, 3] kz ?_
       refine go_rn [0, 1, 2] [3] [(9, .p 2 0), (13, .v (.slice (some ⟨ax, 0, none⟩) 16 16)), (62, .v (.slice (some ⟨ax, 0, none⟩) 16 16)), (64, .v (.slice ai ab.length aj))] aR fI fun oD fJ => ?_
       clear fI
       refine of_op (wpOp_copyR aR fJ (k := 0) (d := 65) (t := 22) (u := 22) (e := 5) (bytes := 1) (A := (some ⟨ax, 0, none⟩)) (As := ai) (m := ab.length) (cs := aj) (m0 := 16) (c := 16) (xs := (List.replicate 16 (.int .u8 0))) (news := bc ab) kz kz rfl (aM.move aR.step nilM aR.imm).src fun oE oF kH fK fL => ?_)
       clear fJ aR
       have iR : (⟨(some ⟨ax, 0, none⟩), 16, 5, 1, 16, splice (List.replicate 16 (.int .u8 0)) 0 ((bc ab).take (min ab.length 16))⟩ : Rw) = brow (some ⟨ax, 0, none⟩) 16 5 (uuidB ab) := uuid_row _ _ _
       obtain ⟨aL, kI⟩ := fK.rowEq 0 [brow (some ⟨ax, 0, none⟩) 16 5 (uuidB ab)] iR
       clear fK
       have fM := EnvOk.pick fL (ks := [9, 13, 62, 64, 65]) (env' := [(9, .p 2 0), (13, .v (.slice (some ⟨ax, 0, none⟩) 16 16)), (62, .v (.slice (some ⟨ax, 0, none⟩) 16 16)), (64, .v (.slice ai ab.length aj)), (65, .v (.int .i64 ((min ab.length 16 : Nat) : Int)))]) kz
       have fN := fM.cast (env' := [(9, .p 2 0), (13, .v (.slice (some ⟨ax, 0, none⟩) ((uuidB ab).length) 16)), (62, .v (.slice (some ⟨ax, 0, none⟩) ((uuidB ab).length) 16)), (64, .v (.slice ai ab.length aj)), (65, .v (.int .i64 ((min ab.length 16 : Nat) : Int)))]) (by rw [uuidB_length _])
       clear fL fM
       refine wpOps_nil (then_normal ?_)
       refine go_seq_region [0, 1, 2, 3, 4] kz ?_
       refine go_rn [0, 1, 2] [3, 4] [(67, .v (.slice al ah.length am)), (68, .v (.slice (some ⟨ax, 0, none⟩) ((uuidB ab).length) 16))] aL fN fun oG fO => ?_
       clear fN
       refine of_op (wpOp_call fO (f := 63) (vs := [.slice al ah.length am, .slice (some ⟨ax, 0, none⟩) ((uuidB ab).length) 16]) (d := 69) kz Tryz.call63 (sSame _ _ _ _ ah (uuidB ab) _ _ ((bX.move aL.step nilM aL.imm).move (Step.refl _ Nil) nilM allF) (octs_own (aL.own 0 _ rfl) (by first | omega | (rw [uuidB_length]; decide) | (simp only [be_length]; exact Nat.le_trans (widthI_le _) (by decide)) | (have := hroom; omega) | (have := hmade; omega) | (simp only [List.length_append, List.length_nil]; omega)) (F := fun _ _ => True) (fun _ _ _ => trivial))) ?_)
       rintro e_ oH ⟨rfl, fP⟩
       refine ⟨_, rfl, fun oI fQ => ?_⟩
       have c6 := aL.next_nil fP
       have kJ := aL.frN fP
       clear fO aL
       refine go_rn [4] [] [(10, .v (.bool (decide (ah = uuidB ab))))] c6 fQ fun oJ iS => ?_
       clear fQ
       refine wpOps_nil (then_normal ?_)
       refine wp_ret ?_
       refine block_ret ?_
       refine then_ret ?_
       refine leave iS c6.cells (v := .bool (decide (ah = uuidB ab))) kz ?_
       refine ⟨congrArg (fun b_ => Ending.returned (Value.bool b_)) ?_, c6.step⟩
       first
        | exact to_t8 hq (by assumption) (by assumption)
        | exact to_t9 hq (by assumption) (by assumption)
        | exact to_u hq (by assumption) (by assumption)
        | exact to_m hq (by assumption) (by assumption) (by assumption) (by assumption) (by assumption) (by assumption)
      ·
       have kK : k1 ≠ 7 := by simpa using c5
       refine go_sp [(1, .v (.int .i64 v)), (2, .v (.bool flex)), (5, .p 0 0), (8, .p 1 0), (9, .p 2 0), (49, .v (.int .i64 k1)), (70, .v (.bool (k1 == 10)))] aa bx fun oK da => ?_
       clear bx
       refine cond_false da (b := k1 == 10) kz (aJ) ?_
       refine go_sp [(1, .v (.int .i64 v)), (2, .v (.bool flex)), (5, .p 0 0), (8, .p 1 0), (9, .p 2 0), (79, .v (.bool (k1 == 11)))] aa da fun oL db => ?_
       clear da
       refine cond_false db (b := k1 == 11) kz (by simpa using bY) ?_
       refine wp_skip ?_
       refine block_normal ?_
       refine then_normal ?_
       refine go_seq_drawK 8 kz aa fun oM kL fR iT => ?_
       clear aa
       refine go_rnD [0, 1, 2, 3, 4, 5] [(117, .v (.int .i64 aS)), (119, .v (.int .i64 k1)), (121, .v (.int .i64 ac))] 3 (panicFree_then panicFree_body) (fun _ h => h.cells) iT db fun oN fS => ?_
       clear db
       refine anyC_op (i := 6) kz (wpOp_call fS (f := 132) (vs := [.int .i64 k1, .int .i64 ac]) (d := 122) kz Tryz.call132 (sNumber k1 ac _) ?_)
       rintro e_ oO ⟨rfl, fT⟩
       refine ⟨_, rfl, fun oP fU => ?_⟩
       have bW := fR.next_nil fT
       have iU := fR.frN fT
       clear fS
       have fV := TT.ofW iU bW
       refine ⟨fun _ => fV, ?_⟩
       refine go_rnD [7] [(123, .v (.bool (aS == (numberI k1 ac))))] 1 (panicFree_then panicFree_body) (fun _ h => h.cells) fV fU fun oQ fW => ?_
       clear fU
       refine anyC_op (i := 8) kz (wpOp_pure [10] bW.cells fW (env' := [(10, .v (.bool (aS == (numberI k1 ac))))]) kz fun oR iV => ?_)
       clear fW
       refine ⟨fun h => absurd rfl h, ?_⟩
       refine anyC_done kz ?_ _
       refine then_normal ?_
       refine wp_ret ?_
       refine leave iV bW.cells (v := .bool (aS == (numberI k1 ac))) kz ?_
       refine ⟨congrArg (fun b_ => Ending.returned (Value.bool b_)) ?_, bW.step⟩
       first
        | exact to_t8 hq (by assumption) (by assumption)
        | exact to_t9 hq (by assumption) (by assumption)
        | exact to_u hq (by assumption) (by assumption)
        | exact to_m hq (by assumption) (by assumption) (by assumption) (by assumption) (by assumption) (by assumption)
theorem sTold11 {v : Int} {flex : Bool} {T : List Fld → Tree → Tree → Prop} (hT : ToOK v flex T) (cf : List Value) (f : Fld) (ct : List Value) (t : Tree) (cg : List Value) (g : Tree) (w : World) (F : Nat → Nat → Prop) (hf : FldR w F cf f) (hpl : f.plain) (ac : f.kind = 11) (ht : TreeR w F ct t) (hg : TreeR w F cg g) (hQ : ToF T v f t g) :
  Calls Tryz.prog 60 #[.agg cf.toArray, .int .i64 v, .bool flex, .agg ct.toArray, .agg cg.toArray] w (Gives w (.bool true)) := by
 obtain ⟨k1, y2, y3, y4, y5, y6, y7, l8, A9, ap, fq, rfl, rfl, hJ, ik⟩ := hf.open_
 have jk := hJ.small
 obtain ⟨aj, ak, al, aa, am, gb, gc, ae, af, gd, ge, ku, rfl, rfl, kv, fr, il, nB⟩ := ht.open_
 have jl := kv.small
 have jm := fr.small
 obtain ⟨hK, hZ, de, ao, ia, ib, ic, cw, ft, ig, ii, kw, rfl, rfl, kx, ij, im, nC⟩ := hg.open_
 have jn := kx.small
 have jo := ij.small
 have ac : k1 = 11 := ac
 have hof : y7 ≠ 11 := hpl.1
 replace hpl : plains l8 := hpl.2
 have hq := hQ.1
 refine enter (n := 124) Tryz.func60 rfl Tryz.ntmps60 kz fun a hE => ?_
 have hW := WOk.start w Nil
 refine go_seq_region [0, 1, 2, 3] kz ?_
 refine of_op (wpOp_box hW hE (d := 5) (cs := [.int .i64 k1, .int .i64 y2, .int .i64 y3, .int .i64 y4, .int .i64 y5, .int .i64 y6, .int .i64 y7, .slice A9 l8.length ap]) kz fun io nD nE ky kA kB gg gh => ?_)
 clear hE hW
 refine of_op (wpOp_box gg gh (d := 8) (cs := [.int .i64 aj, .slice gb ak.length gc, .bool al, .slice ae aa.length af, .slice gd am.length ge]) kz fun ip nF nG kC kD kE gi gj => ?_)
 clear gh gg
 refine of_op (wpOp_box gi gj (d := 9) (cs := [.int .i64 hK, .slice ib hZ.length ic, .bool de, .slice cw ao.length ft, .slice ig ia.length ii]) kz fun iq nH nI kF kG kH aO gk => ?_)
 clear gj gi
 refine go_rn [3] [] [(1, .v (.int .i64 v)), (2, .v (.bool flex)), (5, .p 0 0), (8, .p 1 0), (9, .p 2 0)] aO gk fun nJ gl => ?_
 clear gk
 refine wpOps_nil (then_normal ?_)
 refine go_seq_region [0, 1, 2, 3, 4] kz ?_
 refine go_rn [0, 1, 2] [3, 4] [(1, .v (.int .i64 v)), (2, .v (.bool flex)), (5, .p 0 0), (8, .p 1 0), (9, .p 2 0), (17, .v (.agg #[.int .i64 k1, .int .i64 y2, .int .i64 y3, .int .i64 y4, .int .i64 y5, .int .i64 y6, .int .i64 y7, .slice A9 l8.length ap])), (18, .v (.int .i64 v)), (19, .v (.agg #[.int .i64 aj, .slice gb ak.length gc, .bool al, .slice ae aa.length af, .slice gd am.length ge]))] aO gl fun nK gm => ?_
 clear gl
 refine of_op (wpOp_call gm (f := 130) (vs := [.agg #[.int .i64 k1, .int .i64 y2, .int .i64 y3, .int .i64 y4, .int .i64 y5, .int .i64 y6, .int .i64 y7, .slice A9 l8.length ap], .int .i64 v, .agg #[.int .i64 aj, .slice gb ak.length gc, .bool al, .slice ae aa.length af, .slice gd am.length ge]]) (d := 20) kz Tryz.call130 (sNull k1 y2 y3 y4 y5 y6 y7 l8 _ _ v aj ak al aa am _ _ _ _ _ _ _) ?_)
 rintro e_ nL ⟨rfl, gn⟩
 refine ⟨_, rfl, fun nM gp => ?_⟩
 have ab := aO.next_nil gn
 have kI := aO.frN gn
 clear gm aO
 refine go_rn [4] [] [(1, .v (.int .i64 v)), (2, .v (.bool flex)), (5, .p 0 0), (8, .p 1 0), (9, .p 2 0), (11, .v (.bool (Fld.nul (Fld.mk k1 y2 y3 y4 y5 y6 y7 l8) v (Tree.mk aj ak al aa am))))] ab gp fun nN gq => ?_
 clear gp
 refine wpOps_nil (then_normal ?_)
 refine go_seq_region [0, 1, 2, 3, 4, 5, 6, 7, 8, 9] kz ?_
 refine go_rn [0, 1, 2, 3] [4, 5, 6, 7, 8, 9] [(1, .v (.int .i64 v)), (2, .v (.bool flex)), (5, .p 0 0), (8, .p 1 0), (9, .p 2 0), (11, .v (.bool (Fld.nul (Fld.mk k1 y2 y3 y4 y5 y6 y7 l8) v (Tree.mk aj ak al aa am)))), (24, .v (.bool (decide (y4 ≥ 0))))] ab gq fun nO cz => ?_
 clear gq
 refine (Bool.eq_false_or_eq_true (decide (y4 ≥ 0))).elim (fun aP => ?_) (fun aP => ?_)
 ·
  have kJ := of_decide_eq_true aP
  have gt := cz.cast (env' := [(1, .v (.int .i64 v)), (2, .v (.bool flex)), (5, .p 0 0), (8, .p 1 0), (9, .p 2 0), (11, .v (.bool (Fld.nul (Fld.mk k1 y2 y3 y4 y5 y6 y7 l8) v (Tree.mk aj ak al aa am)))), (24, .v (.bool true))]) (by rw [aP])
  clear cz
  refine go_rn [4, 5, 6, 7, 8, 9] [] [(1, .v (.int .i64 v)), (2, .v (.bool flex)), (5, .p 0 0), (8, .p 1 0), (9, .p 2 0), (11, .v (.bool (Fld.nul (Fld.mk k1 y2 y3 y4 y5 y6 y7 l8) v (Tree.mk aj ak al aa am)))), (12, .v (.bool (decide (v ≥ y4))))] ab gt fun nP gv => ?_
  clear gt
  refine wpOps_nil (then_normal ?_)
  refine wp_seq ?_
  refine go_seq_region [0, 1, 2, 3, 4, 5, 6, 7, 8, 9, 10, 11, 12, 13, 14, 15, 16] kz ?_
  refine go_rn [0, 1, 2, 3] [4, 5, 6, 7, 8, 9, 10, 11, 12, 13, 14, 15, 16] [(1, .v (.int .i64 v)), (2, .v (.bool flex)), (5, .p 0 0), (8, .p 1 0), (9, .p 2 0), (11, .v (.bool (Fld.nul (Fld.mk k1 y2 y3 y4 y5 y6 y7 l8) v (Tree.mk aj ak al aa am)))), (12, .v (.bool (decide (v ≥ y4)))), (33, .v (.bool (k1 == 8)))] ab gv fun nQ df => ?_
  clear gv
  have gw : (k1 == 8) = false := by simp [ac]
  have dg := df.cast (env' := [(1, .v (.int .i64 v)), (2, .v (.bool flex)), (5, .p 0 0), (8, .p 1 0), (9, .p 2 0), (11, .v (.bool (Fld.nul (Fld.mk k1 y2 y3 y4 y5 y6 y7 l8) v (Tree.mk aj ak al aa am)))), (12, .v (.bool (decide (v ≥ y4)))), (33, .v (.bool false))]) (by rw [gw])
  clear df
  refine go_rn [4, 5, 6, 7, 8] [9, 10, 11, 12, 13, 14, 15, 16] [(1, .v (.int .i64 v)), (2, .v (.bool flex)), (5, .p 0 0), (8, .p 1 0), (9, .p 2 0), (11, .v (.bool (Fld.nul (Fld.mk k1 y2 y3 y4 y5 y6 y7 l8) v (Tree.mk aj ak al aa am)))), (12, .v (.bool (decide (v ≥ y4)))), (38, .v (.bool (k1 == 10)))] ab dg fun kK dh => ?_
  clear dg
  have gx : (k1 == 10) = false := by simp [ac]
  have di := dh.cast (env' := [(1, .v (.int .i64 v)), (2, .v (.bool flex)), (5, .p 0 0), (8, .p 1 0), (9, .p 2 0), (11, .v (.bool (Fld.nul (Fld.mk k1 y2 y3 y4 y5 y6 y7 l8) v (Tree.mk aj ak al aa am)))), (12, .v (.bool (decide (v ≥ y4)))), (38, .v (.bool false))]) (by rw [gx])
  clear dh
  refine go_rn [9, 10, 11] [12, 13, 14, 15, 16] [(1, .v (.int .i64 v)), (2, .v (.bool flex)), (5, .p 0 0), (8, .p 1 0), (9, .p 2 0), (11, .v (.bool (Fld.nul (Fld.mk k1 y2 y3 y4 y5 y6 y7 l8) v (Tree.mk aj ak al aa am)))), (41, .v (.bool (decide (v ≥ y4))))] ab di fun kL aN => ?_
  clear di
  refine (Bool.eq_false_or_eq_true (decide (v ≥ y4))).elim (fun az => ?_) (fun az => ?_)
  ·
   have jp := of_decide_eq_true az
   have dj := aN.cast (env' := [(1, .v (.int .i64 v)), (2, .v (.bool flex)), (5, .p 0 0), (8, .p 1 0), (9, .p 2 0), (11, .v (.bool (Fld.nul (Fld.mk k1 y2 y3 y4 y5 y6 y7 l8) v (Tree.mk aj ak al aa am)))), (41, .v (.bool true))]) (by rw [az])
   clear aN
   refine go_rn [12, 13, 14, 15, 16] [] [(1, .v (.int .i64 v)), (2, .v (.bool flex)), (5, .p 0 0), (8, .p 1 0), (9, .p 2 0), (11, .v (.bool (Fld.nul (Fld.mk k1 y2 y3 y4 y5 y6 y7 l8) v (Tree.mk aj ak al aa am)))), (46, .v (.bool (!(de == (Fld.nul (Fld.mk k1 y2 y3 y4 y5 y6 y7 l8) v (Tree.mk aj ak al aa am))))))] ab dj fun kM aA => ?_
   clear dj
   refine wpOps_nil (then_normal ?_)
   refine cond_of aA (b := !(de == (Fld.nul (Fld.mk k1 y2 y3 y4 y5 y6 y7 l8) v (Tree.mk aj ak al aa am)))) kz (fun aQ => ?_) (fun aQ => ?_)
   ·
    have jq : !(de = (Fld.nul (Fld.mk k1 y2 y3 y4 y5 y6 y7 l8) v (Tree.mk aj ak al aa am))) := by simpa using aQ
    refine go_sp [(10, .v (.bool false))] ab aA fun kN gy => ?_
    clear aA
    refine wp_ret ?_
    refine then_ret ?_
    refine leave gy ab.cells (v := .bool false) kz ?_
    first
     | exact (to_nm hq (by assumption) (by assumption) (by assumption)).elim
     | exact (to_len (hQ.2 ac (by assumption)).1 (by assumption)).elim
     | (exfalso; simp_all; done)
   ·
    have jr : !(de ≠ (Fld.nul (Fld.mk k1 y2 y3 y4 y5 y6 y7 l8) v (Tree.mk aj ak al aa am))) := by simpa using aQ
    refine wp_skip ?_
    refine then_normal ?_
    refine wp_seq ?_
    refine go_sp [(1, .v (.int .i64 v)), (2, .v (.bool flex)), (5, .p 0 0), (8, .p 1 0), (9, .p 2 0), (47, .v (.bool (Fld.nul (Fld.mk k1 y2 y3 y4 y5 y6 y7 l8) v (Tree.mk aj ak al aa am))))] ab aA fun kO aB => ?_
    clear aA
    refine cond_of aB (b := Fld.nul (Fld.mk k1 y2 y3 y4 y5 y6 y7 l8) v (Tree.mk aj ak al aa am)) kz (fun gz => ?_) (fun gz => ?_)
    ·
     refine go_sp [(10, .v (.bool true))] ab aB fun kP gA => ?_
     clear aB
     refine wp_ret ?_
     refine then_ret ?_
     refine leave gA ab.cells (v := .bool true) kz ?_
     exact ⟨rfl, ab.step⟩
    ·
     refine wp_skip ?_
     refine then_normal ?_
     refine wp_seq ?_
     refine go_sp [(1, .v (.int .i64 v)), (2, .v (.bool flex)), (5, .p 0 0), (8, .p 1 0), (9, .p 2 0), (49, .v (.int .i64 k1))] ab aB fun kQ dl => ?_
     clear aB
     refine wp_block ?_
     refine wp_seq ?_
     refine go_sp [(1, .v (.int .i64 v)), (2, .v (.bool flex)), (5, .p 0 0), (8, .p 1 0), (9, .p 2 0), (49, .v (.int .i64 k1)), (50, .v (.bool (k1 == 8)))] ab dl fun kR aR => ?_
     clear dl
     refine cond_false aR (b := k1 == 8) kz (by simp [ac]) ?_
     refine go_region [0, 1] kz ?_
     refine go_rn [0, 1] [] [(1, .v (.int .i64 v)), (2, .v (.bool flex)), (5, .p 0 0), (8, .p 1 0), (9, .p 2 0), (49, .v (.int .i64 k1)), (50, .v (.bool (k1 == 9)))] ab aR fun kS aS => ?_
     clear aR
     refine wpOps_nil (then_normal ?_)
     refine cond_false aS (b := k1 == 9) kz (by simp [ac]) ?_
     refine go_sp [(1, .v (.int .i64 v)), (2, .v (.bool flex)), (5, .p 0 0), (8, .p 1 0), (9, .p 2 0), (49, .v (.int .i64 k1)), (59, .v (.bool (k1 == 7)))] ab aS fun kT aT => ?_
     clear aS
     refine cond_false aT (b := k1 == 7) kz (by simp [ac]) ?_
     refine go_sp [(1, .v (.int .i64 v)), (2, .v (.bool flex)), (5, .p 0 0), (8, .p 1 0), (9, .p 2 0), (49, .v (.int .i64 k1)), (70, .v (.bool (k1 == 10)))] ab aT fun kU aU => ?_
     clear aT
     refine cond_false aU (b := k1 == 10) kz (by simp [ac]) ?_
     refine go_sp [(1, .v (.int .i64 v)), (2, .v (.bool flex)), (5, .p 0 0), (8, .p 1 0), (9, .p 2 0), (79, .v (.bool (k1 == 11)))] ab aU fun kV aV => ?_
     clear aU
     refine cond_true aV (b := k1 == 11) kz (by simpa using ac) ?_
     refine go_seq_region [0, 1, 2, 3] kz ?_
     refine go_rn [0, 1] [2, 3] [(1, .v (.int .i64 v)), (2, .v (.bool flex)), (5, .p 0 0), (9, .p 2 0), (82, .v (.slice ae aa.length af))] ab aV fun kW dp => ?_
     clear aV
     refine of_op (wpOp_call dp (f := 131) (vs := [.slice ae aa.length af]) (d := 83) kz Tryz.call131 (sThings _ _ aa (fr.move ab.step nilM ab.imm).le _) ?_)
     rintro e_ kX ⟨rfl, dq⟩
     refine ⟨_, rfl, fun kY dr => ?_⟩
     have ar := ab.next_nil dq
     have js := ab.frN dq
     clear dp ab
     refine go_rn [3] [] [(1, .v (.int .i64 v)), (2, .v (.bool flex)), (5, .p 0 0), (9, .p 2 0), (14, .v (.slice ae ((things aa).length) af))] ar dr fun kZ dt => ?_
     clear dr
     refine wpOps_nil (then_normal ?_)
     refine wp_seq ?_
     refine go_sp [(1, .v (.int .i64 v)), (2, .v (.bool flex)), (5, .p 0 0), (9, .p 2 0), (14, .v (.slice ae ((things aa).length) af)), (89, .v (.bool (((ao.length : Nat) : Int) != (((things aa).length : Nat) : Int))))] ar dt fun k5 aC => ?_
     clear dt
     refine cond_of aC (b := ((ao.length : Nat) : Int) != (((things aa).length : Nat) : Int)) kz (fun aW => ?_) (fun aW => ?_)
     ·
      have jt : ((ao.length : Nat) : Int) ≠ (((things aa).length : Nat) : Int) := by simpa using aW
      refine go_sp [(10, .v (.bool false))] ar aC fun k6 gB => ?_
      clear aC
      refine wp_ret ?_
      refine then_ret ?_
      refine block_ret ?_
      refine then_ret ?_
      refine leave gB ar.cells (v := .bool false) kz ?_
      first
       | exact (to_nm hq (by assumption) (by assumption) (by assumption)).elim
       | exact (to_len (hQ.2 ac (by assumption)).1 (by assumption)).elim
       | (exfalso; simp_all; done)
     ·
      have ju : ((ao.length : Nat) : Int) = (((things aa).length : Nat) : Int) := by simpa using aW
      refine wp_skip ?_
      refine then_normal ?_
      refine go_seq_region [0, 1, 2] kz ?_
      refine go_rn [0] [1, 2] [(1, .v (.int .i64 v)), (2, .v (.bool flex)), (5, .p 0 0), (9, .p 2 0), (14, .v (.slice ae ((things aa).length) af)), (90, .v (.agg #[.int .i64 k1, .int .i64 y2, .int .i64 y3, .int .i64 y4, .int .i64 y5, .int .i64 y6, .int .i64 y7, .slice A9 l8.length ap]))] ar aC fun k7 du => ?_
      clear aC
      refine of_op (wpOp_alloc ar du (d := 15) (cs := [.int .i64 0, .int .i64 0, .int .i64 0, .int .i64 0, .int .i64 0, .int .i64 0, .int .i64 0, .slice none 0 0]) kz fun ir k8 k9 jv jw jx dv dw => ?_)
      clear du ar
      refine of_op (wpOp_store dv dw (oi := 3) (cs := [.int .i64 k1, .int .i64 y2, .int .i64 y3, .int .i64 y4, .int .i64 y5, .int .i64 y6, .int .i64 y7, .slice A9 l8.length ap]) kz fun la jy aX dx => ?_)
      clear dw dv
      refine wpOps_nil (then_normal ?_)
      refine go_seq_region [0, 1, 2, 3, 4, 5, 6, 7] kz ?_
      refine go_rn [0, 1, 2] [3, 4, 5, 6, 7] [(1, .v (.int .i64 v)), (2, .v (.bool flex)), (9, .p 2 0), (14, .v (.slice ae ((things aa).length) af)), (15, .p 3 0), (92, .v (.int .i64 y7)), (93, .p 3 0)] aX dx fun lb dy => ?_
      clear dx
      refine of_op (wpOp_store aX dy (oi := 3) (cs := [.int .i64 y7, .int .i64 y2, .int .i64 y3, .int .i64 y4, .int .i64 y5, .int .i64 y6, .int .i64 y7, .slice A9 l8.length ap]) kz fun lc jz aY dz => ?_)
      clear dy aX
      refine go_rn [4] [5, 6, 7] [(1, .v (.int .i64 v)), (2, .v (.bool flex)), (9, .p 2 0), (14, .v (.slice ae ((things aa).length) af)), (15, .p 3 0), (94, .p 3 3)] aY dz fun ld dA => ?_
      clear dz
      refine of_op (wpOp_store aY dA (oi := 3) (cs := [.int .i64 y7, .int .i64 y2, .int .i64 y3, .int .i64 (-1), .int .i64 y5, .int .i64 y6, .int .i64 y7, .slice A9 l8.length ap]) kz fun lf jA aZ dB => ?_)
      clear dA aY
      refine go_rn [6] [7] [(1, .v (.int .i64 v)), (2, .v (.bool flex)), (9, .p 2 0), (14, .v (.slice ae ((things aa).length) af)), (15, .p 3 0), (95, .p 3 4)] aZ dB fun lg dC => ?_
      clear dB
      refine of_op (wpOp_store aZ dC (oi := 3) (cs := [.int .i64 y7, .int .i64 y2, .int .i64 y3, .int .i64 (-1), .int .i64 (-1), .int .i64 y6, .int .i64 y7, .slice A9 l8.length ap]) kz fun lh jB ba dD => ?_)
      clear dC aZ
      refine wpOps_nil (then_normal ?_)
      refine wp_seq ?_
      refine go_sp [(1, .v (.int .i64 v)), (2, .v (.bool flex)), (9, .p 2 0), (14, .v (.slice ae ((things aa).length) af)), (15, .p 3 0), (97, .v (.int .i64 (((things aa).length : Nat) : Int))), (98, .v (.int .i64 0))] ba dD fun li dE => ?_
      clear dD
      refine wp_block ?_
      have hl_ := (hQ.2 ac (by assumption)).2
      refine wp_loop_ghost (fun n_ a_ w_ => ∃ (k : Nat), n_ = (things aa).length - k ∧ k ≤ (things aa).length ∧ LInv ba 124 [⟨io, 0, [.int .i64 k1, .int .i64 y2, .int .i64 y3, .int .i64 y4, .int .i64 y5, .int .i64 y6, .int .i64 y7, .slice A9 l8.length ap], true⟩, ⟨ip, 0, [.int .i64 aj, .slice gb ak.length gc, .bool al, .slice ae aa.length af, .slice gd am.length ge], true⟩, ⟨iq, 0, [.int .i64 hK, .slice ib hZ.length ic, .bool de, .slice cw ao.length ft, .slice ig ia.length ii], true⟩, ⟨ir, 0, [.int .i64 y7, .int .i64 y2, .int .i64 y3, .int .i64 (-1), .int .i64 (-1), .int .i64 y6, .int .i64 y7, .slice A9 l8.length ap], true⟩] [] [(1, .v (.int .i64 v)), (2, .v (.bool flex)), (9, .p 2 0), (14, .v (.slice ae ((things aa).length) af)), (15, .p 3 0), (97, .v (.int .i64 (((things aa).length : Nat) : Int))), (98, .v (.int .i64 ((k : Nat) : Int)))] a_ w_) ((things aa).length) ⟨0, by omega, by omega, dE.pk, ba, Fr.refl _ _ _⟩ ?_
      clear dE
      rintro lj lm ln ⟨k, jC, jD, dF, au, gC⟩
      refine go_sp [(1, .v (.int .i64 v)), (2, .v (.bool flex)), (9, .p 2 0), (14, .v (.slice ae ((things aa).length) af)), (15, .p 3 0), (97, .v (.int .i64 (((things aa).length : Nat) : Int))), (98, .v (.int .i64 ((k : Nat) : Int))), (99, .v (.bool (decide (((k : Nat) : Int) < (((things aa).length : Nat) : Int)))))] au dF fun lp aD => ?_
      clear dF
      refine wp_seq ?_
      refine cond_of aD (b := decide (((k : Nat) : Int) < (((things aa).length : Nat) : Int))) kz (fun bd => ?_) (fun bd => ?_)
      ·
       have jE := of_decide_eq_true bd
       refine wp_skip ?_
       refine then_normal ?_
       refine wp_seq ?_
       refine wp_block ?_
       refine go_sp [(1, .v (.int .i64 v)), (2, .v (.bool flex)), (9, .p 2 0), (14, .v (.slice ae ((things aa).length) af)), (15, .p 3 0), (16, .v (.int .i64 ((k : Nat) : Int))), (97, .v (.int .i64 (((things aa).length : Nat) : Int))), (98, .v (.int .i64 ((k : Nat) : Int)))] au aD fun lq dG => ?_
       clear aD
       refine go_seq_drawK 14 kz au fun lr gD ag aE => ?_
       clear au
       refine go_rnD [0, 1, 2, 3, 4, 7, 8, 9] [(1, .v (.int .i64 v)), (2, .v (.bool flex)), (9, .p 2 0), (14, .v (.slice ae ((things aa).length) af)), (15, .p 3 0), (97, .v (.int .i64 (((things aa).length : Nat) : Int))), (98, .v (.int .i64 ((k : Nat) : Int))), (101, .v (.agg #[.int .i64 y7, .int .i64 y2, .int .i64 y3, .int .i64 (-1), .int .i64 (-1), .int .i64 y6, .int .i64 y7, .slice A9 l8.length ap])), (102, .v (.int .i64 v)), (103, .v (.bool flex)), (104, .v (.slice ae ((things aa).length) af)), (105, .v (.int .i64 ((k : Nat) : Int))), (109, .v (.slice cw ao.length ft)), (110, .v (.int .i64 ((k : Nat) : Int)))] 6 (panicFree_then (panicFree_block (panicFree_then (panicFree_then (panicFree_block (panicFree_then (panicFree_block (panicFree_then panicFree_body)))))))) (fun _ h => h.cells) aE dG fun ls dH => ?_
       clear dG
       obtain ⟨iu, iv, gE, jF, bf⟩ := Slots.get (things_slots fr) (i := k) (by first | omega | (have h_ : ao.length = (things aa).length := (hQ.2 ac (by assumption)).1; omega))
       obtain ⟨iw, dI⟩ : ∃ x, (things aa)[k]? = some x := ⟨_, List.getElem?_eq_getElem (by omega)⟩
       have bg := (things_each il) k iw dI
       obtain ⟨cA, cB, cC, cD, cE, fu, fv, fw, fx, fy, fz, jG, rfl, bh, ix, iy, lu, lv⟩ := bg.open_
       rw [bh] at bg
       have iz := ix.small
       have iA := iy.small
       rw [bh] at bf
       refine takeC_index dH (i := 5) (t := 23) (A := ae) (m := ((things aa).length)) (q := ((k : Nat) : Int)) (d := 106) kz (e := 26) (size := 5) (bytes := 88) kz gE rfl (by first | omega | (have h_ : ao.length = (things aa).length := (hQ.2 ac (by assumption)).1; omega)) kz kz (panicFree_then (panicFree_block (panicFree_then (panicFree_then (panicFree_block (panicFree_then (panicFree_block (panicFree_then panicFree_body)))))))) aE fun lw dJ => ?_
       clear dH
       refine takeC_load dJ (i := 6) (t := 26) (b := iu) (o := iv + k * 5) (d := 107) kz (cs := [.int .i64 cA, .slice fu cB.length fv, .bool cC, .slice fw cD.length fx, .slice fy cE.length fz]) (v := .agg #[.int .i64 cA, .slice fu cB.length fv, .bool cC, .slice fw cD.length fx, .slice fy cE.length fz]) kz (fun w' h' => (AtF.move bf (TT.step0 ag h') nilM keepF).at_) kz kz (panicFree_then (panicFree_block (panicFree_then (panicFree_then (panicFree_block (panicFree_then (panicFree_block (panicFree_then panicFree_body)))))))) aE fun lx dK => ?_
       clear dJ
       obtain ⟨iB, iC, gF, jH, bi⟩ := Slots.get ij (i := k) (by first | omega | (have h_ : ao.length = (things aa).length := (hQ.2 ac (by assumption)).1; omega))
       obtain ⟨iD, dL⟩ : ∃ x, ao[k]? = some x := ⟨_, List.getElem?_eq_getElem (by omega)⟩
       have bj := im k iD dL
       obtain ⟨cG, cH, cI, cJ, cK, fA, fB, fC, fD, fE, fF, jI, rfl, bk, iE, iF, ly, lz⟩ := bj.open_
       rw [bk] at bj
       have iG := iE.small
       have iH := iF.small
       rw [bk] at bi
       refine takeC_index dK (i := 10) (t := 23) (A := cw) (m := ao.length) (q := ((k : Nat) : Int)) (d := 111) kz (e := 26) (size := 5) (bytes := 88) kz gF rfl (by first | omega | (have h_ : ao.length = (things aa).length := (hQ.2 ac (by assumption)).1; omega)) kz kz (panicFree_then (panicFree_block (panicFree_then (panicFree_then (panicFree_block (panicFree_then (panicFree_block (panicFree_then panicFree_body)))))))) aE fun lA dM => ?_
       clear dK
       refine takeC_load dM (i := 11) (t := 26) (b := iB) (o := iC + k * 5) (d := 112) kz (cs := [.int .i64 cG, .slice fA cH.length fB, .bool cI, .slice fC cJ.length fD, .slice fE cK.length fF]) (v := .agg #[.int .i64 cG, .slice fA cH.length fB, .bool cI, .slice fC cJ.length fD, .slice fE cK.length fF]) kz (fun w' h' => (AtF.move bi (TT.step0 ag h') nilM keepF).at_) kz kz (panicFree_then (panicFree_block (panicFree_then (panicFree_then (panicFree_block (panicFree_then (panicFree_block (panicFree_then panicFree_body)))))))) aE fun lB dN => ?_
       clear dM
       refine anyC_op (i := 12) kz (wpOp_call dN (f := 60) (vs := [.agg #[.int .i64 y7, .int .i64 y2, .int .i64 y3, .int .i64 (-1), .int .i64 (-1), .int .i64 y6, .int .i64 y7, .slice A9 l8.length ap], .int .i64 v, .bool flex, .agg #[.int .i64 cA, .slice fu cB.length fv, .bool cC, .slice fw cD.length fx, .slice fy cE.length fz], .agg #[.int .i64 cG, .slice fA cH.length fB, .bool cI, .slice fC cJ.length fD, .slice fE cK.length fF]]) (d := 113) kz Tryz.call60 ( sTold0 hT _ _ _ (Tree.mk cA cB cC cD cE) _ (Tree.mk cG cH cI cJ cK) _ _ (FldR.mk (l := l8) fq (hJ.move ag.step nilM ag.imm) (fun i_ x_ h_ => ((ik i_ x_ h_).move ag.step nilM ag.imm))) hpl hof (bg.move ag.step nilM ag.imm) (bj.move ag.step nilM ag.imm) (hl_ _ _ _ dI dL)) ?_)
       rintro e_ lC ⟨rfl, dO⟩
       refine ⟨_, rfl, fun lD dP => ?_⟩
       have bn := ag.next_nil dO
       have dQ := ag.frN dO
       clear dN
       have dR := TT.ofW dQ bn
       refine ⟨fun _ => dR, ?_⟩
       refine go_rnD [13] [(1, .v (.int .i64 v)), (2, .v (.bool flex)), (9, .p 2 0), (14, .v (.slice ae ((things aa).length) af)), (15, .p 3 0), (97, .v (.int .i64 (((things aa).length : Nat) : Int))), (98, .v (.int .i64 ((k : Nat) : Int))), (114, .v (.bool false))] 0 (panicFree_then (panicFree_block (panicFree_then (panicFree_then (panicFree_block (panicFree_then (panicFree_block (panicFree_then panicFree_body)))))))) (fun _ h => h.cells) dR dP fun lE bo => ?_
       clear dP
       refine anyC_done kz ?_ _
       refine then_normal ?_
       refine cond_false bo (b := false) kz rfl ?_
       refine wp_skip ?_
       refine block_normal ?_
       refine then_normal ?_
       refine go_region [0, 1] kz ?_
       refine go_rn [0, 1] [] [(1, .v (.int .i64 v)), (2, .v (.bool flex)), (9, .p 2 0), (14, .v (.slice ae ((things aa).length) af)), (15, .p 3 0), (97, .v (.int .i64 (((things aa).length : Nat) : Int))), (98, .v (.int .i64 (IntKind.i64.wrap (((k : Nat) : Int) + 1))))] bn bo fun lF dS => ?_
       clear bo
       refine wpOps_nil (then_normal ?_)
       have gG : IntKind.i64.wrap (((k : Nat) : Int) + 1) = ((k + 1 : Nat) : Int) := wrap_succ (by omega)
       rw [gG] at dS
       exact ⟨(things aa).length - (k + 1), by omega, k + 1, rfl, by omega, dS.pk, bn, ((gC.trans gD).trans dQ)⟩
      ·
       have jJ := of_decide_eq_false bd
       refine wp_exit ?_
       refine then_exit ?_
       refine then_exit ?_
       refine block_exit ?_
       refine then_normal ?_
       refine go_sp [(10, .v (.bool true))] au aD fun lG gH => ?_
       clear aD
       refine wp_ret ?_
       refine block_ret ?_
       refine then_ret ?_
       refine leave gH au.cells (v := .bool true) kz ?_
       exact ⟨rfl, au.step⟩
  ·
   have jK := of_decide_eq_false az
   have dT := aN.cast (env' := [(1, .v (.int .i64 v)), (2, .v (.bool flex)), (5, .p 0 0), (8, .p 1 0), (9, .p 2 0), (11, .v (.bool (Fld.nul (Fld.mk k1 y2 y3 y4 y5 y6 y7 l8) v (Tree.mk aj ak al aa am)))), (41, .v (.bool false))]) (by rw [az])
   clear aN
   refine go_rn [12, 13, 14, 15, 16] [] [(1, .v (.int .i64 v)), (2, .v (.bool flex)), (5, .p 0 0), (8, .p 1 0), (9, .p 2 0), (11, .v (.bool (Fld.nul (Fld.mk k1 y2 y3 y4 y5 y6 y7 l8) v (Tree.mk aj ak al aa am)))), (46, .v (.bool false))] ab dT fun lH bp => ?_
   clear dT
   refine wpOps_nil (then_normal ?_)
   refine cond_false bp (b := false) kz rfl ?_
   refine wp_skip ?_
   refine then_normal ?_
   refine wp_seq ?_
   refine go_sp [(1, .v (.int .i64 v)), (2, .v (.bool flex)), (5, .p 0 0), (8, .p 1 0), (9, .p 2 0), (47, .v (.bool (Fld.nul (Fld.mk k1 y2 y3 y4 y5 y6 y7 l8) v (Tree.mk aj ak al aa am))))] ab bp fun lI aF => ?_
   clear bp
   refine cond_of aF (b := Fld.nul (Fld.mk k1 y2 y3 y4 y5 y6 y7 l8) v (Tree.mk aj ak al aa am)) kz (fun gI => ?_) (fun gI => ?_)
   ·
    refine go_sp [(10, .v (.bool true))] ab aF fun lJ gJ => ?_
    clear aF
    refine wp_ret ?_
    refine then_ret ?_
    refine leave gJ ab.cells (v := .bool true) kz ?_
    exact ⟨rfl, ab.step⟩
   ·
    refine wp_skip ?_
    refine then_normal ?_
    refine wp_seq ?_
    refine go_sp [(1, .v (.int .i64 v)), (2, .v (.bool flex)), (5, .p 0 0), (8, .p 1 0), (9, .p 2 0), (49, .v (.int .i64 k1))] ab aF fun lK dU => ?_
    clear aF
    refine wp_block ?_
    refine wp_seq ?_
    refine go_sp [(1, .v (.int .i64 v)), (2, .v (.bool flex)), (5, .p 0 0), (8, .p 1 0), (9, .p 2 0), (49, .v (.int .i64 k1)), (50, .v (.bool (k1 == 8)))] ab dU fun lL bq => ?_
    clear dU
    refine cond_false bq (b := k1 == 8) kz (by simp [ac]) ?_
    refine go_region [0, 1] kz ?_
    refine go_rn [0, 1] [] [(1, .v (.int .i64 v)), (2, .v (.bool flex)), (5, .p 0 0), (8, .p 1 0), (9, .p 2 0), (49, .v (.int .i64 k1)), (50, .v (.bool (k1 == 9)))] ab bq fun lM bt => ?_
    clear bq
    refine wpOps_nil (then_normal ?_)
    refine cond_false bt (b := k1 == 9) kz (by simp [ac]) ?_
    refine go_sp [(1, .v (.int .i64 v)), (2, .v (.bool flex)), (5, .p 0 0), (8, .p 1 0), (9, .p 2 0), (49, .v (.int .i64 k1)), (59, .v (.bool (k1 == 7)))] ab bt fun lN bu => ?_
    clear bt
    refine cond_false bu (b := k1 == 7) kz (by simp [ac]) ?_
    refine go_sp [(1, .v (.int .i64 v)), (2, .v (.bool flex)), (5, .p 0 0), (8, .p 1 0), (9, .p 2 0), (49, .v (.int .i64 k1)), (70, .v (.bool (k1 == 10)))] ab bu fun lO bw => ?_
    clear bu
    refine cond_false bw (b := k1 == 10) kz (by simp [ac]) ?_
    refine go_sp [(1, .v (.int .i64 v)), (2, .v (.bool flex)), (5, .p 0 0), (8, .p 1 0), (9, .p 2 0), (79, .v (.bool (k1 == 11)))] ab bw fun lP bx => ?_
    clear bw
    refine cond_true bx (b := k1 == 11) kz (by simpa using ac) ?_
    refine go_seq_region [0, 1, 2, 3] kz ?_
    refine go_rn [0, 1] [2, 3] [(1, .v (.int .i64 v)), (2, .v (.bool flex)), (5, .p 0 0), (9, .p 2 0), (82, .v (.slice ae aa.length af))] ab bx fun lQ dV => ?_
    clear bx
    refine of_op (wpOp_call dV (f := 131) (vs := [.slice ae aa.length af]) (d := 83) kz Tryz.call131 (sThings _ _ aa (fr.move ab.step nilM ab.imm).le _) ?_)
    rintro e_ lR ⟨rfl, dW⟩
    refine ⟨_, rfl, fun lS dX => ?_⟩
    have av := ab.next_nil dW
    have jL := ab.frN dW
    clear dV ab
    refine go_rn [3] [] [(1, .v (.int .i64 v)), (2, .v (.bool flex)), (5, .p 0 0), (9, .p 2 0), (14, .v (.slice ae ((things aa).length) af))] av dX fun lT dY => ?_
    clear dX
    refine wpOps_nil (then_normal ?_)
    refine wp_seq ?_
    refine go_sp [(1, .v (.int .i64 v)), (2, .v (.bool flex)), (5, .p 0 0), (9, .p 2 0), (14, .v (.slice ae ((things aa).length) af)), (89, .v (.bool (((ao.length : Nat) : Int) != (((things aa).length : Nat) : Int))))] av dY fun lU aG => ?_
    clear dY
    refine cond_of aG (b := ((ao.length : Nat) : Int) != (((things aa).length : Nat) : Int)) kz (fun bz => ?_) (fun bz => ?_)
    ·
     have jM : ((ao.length : Nat) : Int) ≠ (((things aa).length : Nat) : Int) := by simpa using bz
     refine go_sp [(10, .v (.bool false))] av aG fun lV gK => ?_
     clear aG
     refine wp_ret ?_
     refine then_ret ?_
     refine block_ret ?_
     refine then_ret ?_
     refine leave gK av.cells (v := .bool false) kz ?_
     first
      | exact (to_nm hq (by assumption) (by assumption) (by assumption)).elim
      | exact (to_len (hQ.2 ac (by assumption)).1 (by assumption)).elim
      | (exfalso; simp_all; done)
    ·
     have jN : ((ao.length : Nat) : Int) = (((things aa).length : Nat) : Int) := by simpa using bz
     refine wp_skip ?_
     refine then_normal ?_
     refine go_seq_region [0, 1, 2] kz ?_
     refine go_rn [0] [1, 2] [(1, .v (.int .i64 v)), (2, .v (.bool flex)), (5, .p 0 0), (9, .p 2 0), (14, .v (.slice ae ((things aa).length) af)), (90, .v (.agg #[.int .i64 k1, .int .i64 y2, .int .i64 y3, .int .i64 y4, .int .i64 y5, .int .i64 y6, .int .i64 y7, .slice A9 l8.length ap]))] av aG fun lW dZ => ?_
     clear aG
     refine of_op (wpOp_alloc av dZ (d := 15) (cs := [.int .i64 0, .int .i64 0, .int .i64 0, .int .i64 0, .int .i64 0, .int .i64 0, .int .i64 0, .slice none 0 0]) kz fun iI lX lY jO jP jQ d5 d6 => ?_)
     clear dZ av
     refine of_op (wpOp_store d5 d6 (oi := 3) (cs := [.int .i64 k1, .int .i64 y2, .int .i64 y3, .int .i64 y4, .int .i64 y5, .int .i64 y6, .int .i64 y7, .slice A9 l8.length ap]) kz fun lZ jR bA d7 => ?_)
     clear d6 d5
     refine wpOps_nil (then_normal ?_)
     refine go_seq_region [0, 1, 2, 3, 4, 5, 6, 7] kz ?_
     refine go_rn [0, 1, 2] [3, 4, 5, 6, 7] [(1, .v (.int .i64 v)), (2, .v (.bool flex)), (9, .p 2 0), (14, .v (.slice ae ((things aa).length) af)), (15, .p 3 0), (92, .v (.int .i64 y7)), (93, .p 3 0)] bA d7 fun l0 d8 => ?_
     clear d7
     refine of_op (wpOp_store bA d8 (oi := 3) (cs := [.int .i64 y7, .int .i64 y2, .int .i64 y3, .int .i64 y4, .int .i64 y5, .int .i64 y6, .int .i64 y7, .slice A9 l8.length ap]) kz fun l3 jS bB d9 => ?_)
     clear d8 bA
     refine go_rn [4] [5, 6, 7] [(1, .v (.int .i64 v)), (2, .v (.bool flex)), (9, .p 2 0), (14, .v (.slice ae ((things aa).length) af)), (15, .p 3 0), (94, .p 3 3)] bB d9 fun l5 ea => ?_
     clear d9
     refine of_op (wpOp_store bB ea (oi := 3) (cs := [.int .i64 y7, .int .i64 y2, .int .i64 y3, .int .i64 (-1), .int .i64 y5, .int .i64 y6, .int .i64 y7, .slice A9 l8.length ap]) kz fun l6 jT bC eb => ?_)
     clear ea bB
     refine go_rn [6] [7] [(1, .v (.int .i64 v)), (2, .v (.bool flex)), (9, .p 2 0), (14, .v (.slice ae ((things aa).length) af)), (15, .p 3 0), (95, .p 3 4)] bC eb fun l7 ec => ?_
     clear eb
     refine of_op (wpOp_store bC ec (oi := 3) (cs := [.int .i64 y7, .int .i64 y2, .int .i64 y3, .int .i64 (-1), .int .i64 (-1), .int .i64 y6, .int .i64 y7, .slice A9 l8.length ap]) kz fun l9 jU bD ee => ?_)
     clear ec bC
     refine wpOps_nil (then_normal ?_)
     refine wp_seq ?_
     refine go_sp [(1, .v (.int .i64 v)), (2, .v (.bool flex)), (9, .p 2 0), (14, .v (.slice ae ((things aa).length) af)), (15, .p 3 0), (97, .v (.int .i64 (((things aa).length : Nat) : Int))), (98, .v (.int .i64 0))] bD ee fun ma ef => ?_
     clear ee
     refine wp_block ?_
     have hl_ := (hQ.2 ac (by assumption)).2
     refine wp_loop_ghost (fun n_ a_ w_ => ∃ (k : Nat), n_ = (things aa).length - k ∧ k ≤ (things aa).length ∧ LInv bD 124 [⟨io, 0, [.int .i64 k1, .int .i64 y2, .int .i64 y3, .int .i64 y4, .int .i64 y5, .int .i64 y6, .int .i64 y7, .slice A9 l8.length ap], true⟩, ⟨ip, 0, [.int .i64 aj, .slice gb ak.length gc, .bool al, .slice ae aa.length af, .slice gd am.length ge], true⟩, ⟨iq, 0, [.int .i64 hK, .slice ib hZ.length ic, .bool de, .slice cw ao.length ft, .slice ig ia.length ii], true⟩, ⟨iI, 0, [.int .i64 y7, .int .i64 y2, .int .i64 y3, .int .i64 (-1), .int .i64 (-1), .int .i64 y6, .int .i64 y7, .slice A9 l8.length ap], true⟩] [] [(1, .v (.int .i64 v)), (2, .v (.bool flex)), (9, .p 2 0), (14, .v (.slice ae ((things aa).length) af)), (15, .p 3 0), (97, .v (.int .i64 (((things aa).length : Nat) : Int))), (98, .v (.int .i64 ((k : Nat) : Int)))] a_ w_) ((things aa).length) ⟨0, by omega, by omega, ef.pk, bD, Fr.refl _ _ _⟩ ?_
     clear ef
     rintro mc md me ⟨k, jV, jW, eg, aw, gL⟩
     refine go_sp [(1, .v (.int .i64 v)), (2, .v (.bool flex)), (9, .p 2 0), (14, .v (.slice ae ((things aa).length) af)), (15, .p 3 0), (97, .v (.int .i64 (((things aa).length : Nat) : Int))), (98, .v (.int .i64 ((k : Nat) : Int))), (99, .v (.bool (decide (((k : Nat) : Int) < (((things aa).length : Nat) : Int)))))] aw eg fun mf aH => ?_
     clear eg
     refine wp_seq ?_
     refine cond_of aH (b := decide (((k : Nat) : Int) < (((things aa).length : Nat) : Int))) kz (fun bE => ?_) (fun bE => ?_)
     ·
      have jX := of_decide_eq_true bE
      refine wp_skip ?_
      refine then_normal ?_
      refine wp_seq ?_
      refine wp_block ?_
      refine go_sp [(1, .v (.int .i64 v)), (2, .v (.bool flex)), (9, .p 2 0), (14, .v (.slice ae ((things aa).length) af)), (15, .p 3 0), (16, .v (.int .i64 ((k : Nat) : Int))), (97, .v (.int .i64 (((things aa).length : Nat) : Int))), (98, .v (.int .i64 ((k : Nat) : Int)))] aw aH fun mg eh => ?_
      clear aH
      refine go_seq_drawK 14 kz aw fun mh gM ah aI => ?_
      clear aw
      refine go_rnD [0, 1, 2, 3, 4, 7, 8, 9] [(1, .v (.int .i64 v)), (2, .v (.bool flex)), (9, .p 2 0), (14, .v (.slice ae ((things aa).length) af)), (15, .p 3 0), (97, .v (.int .i64 (((things aa).length : Nat) : Int))), (98, .v (.int .i64 ((k : Nat) : Int))), (101, .v (.agg #[.int .i64 y7, .int .i64 y2, .int .i64 y3, .int .i64 (-1), .int .i64 (-1), .int .i64 y6, .int .i64 y7, .slice A9 l8.length ap])), (102, .v (.int .i64 v)), (103, .v (.bool flex)), (104, .v (.slice ae ((things aa).length) af)), (105, .v (.int .i64 ((k : Nat) : Int))), (109, .v (.slice cw ao.length ft)), (110, .v (.int .i64 ((k : Nat) : Int)))] 6 (panicFree_then (panicFree_block (panicFree_then (panicFree_then (panicFree_block (panicFree_then (panicFree_block (panicFree_then panicFree_body)))))))) (fun _ h => h.cells) aI eh fun mi ei => ?_
      clear eh
      obtain ⟨iJ, iK, gN, jY, bF⟩ := Slots.get (things_slots fr) (i := k) (by first | omega | (have h_ : ao.length = (things aa).length := (hQ.2 ac (by assumption)).1; omega))
      obtain ⟨iL, ej⟩ : ∃ x, (things aa)[k]? = some x := ⟨_, List.getElem?_eq_getElem (by omega)⟩
      have bG := (things_each il) k iL ej
      obtain ⟨cL, cM, cN, cO, cP, fG, fH, fI, fJ, fK, fL, jZ, rfl, bH, iM, iN, mj, ml⟩ := bG.open_
      rw [bH] at bG
      have iO := iM.small
      have iP := iN.small
      rw [bH] at bF
      refine takeC_index ei (i := 5) (t := 23) (A := ae) (m := ((things aa).length)) (q := ((k : Nat) : Int)) (d := 106) kz (e := 26) (size := 5) (bytes := 88) kz gN rfl (by first | omega | (have h_ : ao.length = (things aa).length := (hQ.2 ac (by assumption)).1; omega)) kz kz (panicFree_then (panicFree_block (panicFree_then (panicFree_then (panicFree_block (panicFree_then (panicFree_block (panicFree_then panicFree_body)))))))) aI fun mn ek => ?_
      clear ei
      refine takeC_load ek (i := 6) (t := 26) (b := iJ) (o := iK + k * 5) (d := 107) kz (cs := [.int .i64 cL, .slice fG cM.length fH, .bool cN, .slice fI cO.length fJ, .slice fK cP.length fL]) (v := .agg #[.int .i64 cL, .slice fG cM.length fH, .bool cN, .slice fI cO.length fJ, .slice fK cP.length fL]) kz (fun w' h' => (AtF.move bF (TT.step0 ah h') nilM keepF).at_) kz kz (panicFree_then (panicFree_block (panicFree_then (panicFree_then (panicFree_block (panicFree_then (panicFree_block (panicFree_then panicFree_body)))))))) aI fun mo em => ?_
      clear ek
      obtain ⟨iQ, iR, gO, j0, bI⟩ := Slots.get ij (i := k) (by first | omega | (have h_ : ao.length = (things aa).length := (hQ.2 ac (by assumption)).1; omega))
      obtain ⟨iS, eo⟩ : ∃ x, ao[k]? = some x := ⟨_, List.getElem?_eq_getElem (by omega)⟩
      have bJ := im k iS eo
      obtain ⟨cQ, cR, cS, cT, cU, fM, fN, fO, fP, fQ, fR, j1, rfl, bK, iT, iU, mp, mq⟩ := bJ.open_
      rw [bK] at bJ
      have iV := iT.small
      have iW := iU.small
      rw [bK] at bI
      refine takeC_index em (i := 10) (t := 23) (A := cw) (m := ao.length) (q := ((k : Nat) : Int)) (d := 111) kz (e := 26) (size := 5) (bytes := 88) kz gO rfl (by first | omega | (have h_ : ao.length = (things aa).length := (hQ.2 ac (by assumption)).1; omega)) kz kz (panicFree_then (panicFree_block (panicFree_then (panicFree_then (panicFree_block (panicFree_then (panicFree_block (panicFree_then panicFree_body)))))))) aI fun mr ep => ?_
      clear em
      refine takeC_load ep (i := 11) (t := 26) (b := iQ) (o := iR + k * 5) (d := 112) kz (cs := [.int .i64 cQ, .slice fM cR.length fN, .bool cS, .slice fO cT.length fP, .slice fQ cU.length fR]) (v := .agg #[.int .i64 cQ, .slice fM cR.length fN, .bool cS, .slice fO cT.length fP, .slice fQ cU.length fR]) kz (fun w' h' => (AtF.move bI (TT.step0 ah h') nilM keepF).at_) kz kz (panicFree_then (panicFree_block (panicFree_then (panicFree_then (panicFree_block (panicFree_then (panicFree_block (panicFree_then panicFree_body)))))))) aI fun mt eu => ?_
      clear ep
      refine anyC_op (i := 12) kz (wpOp_call eu (f := 60) (vs := [.agg #[.int .i64 y7, .int .i64 y2, .int .i64 y3, .int .i64 (-1), .int .i64 (-1), .int .i64 y6, .int .i64 y7, .slice A9 l8.length ap], .int .i64 v, .bool flex, .agg #[.int .i64 cL, .slice fG cM.length fH, .bool cN, .slice fI cO.length fJ, .slice fK cP.length fL], .agg #[.int .i64 cQ, .slice fM cR.length fN, .bool cS, .slice fO cT.length fP, .slice fQ cU.length fR]]) (d := 113) kz Tryz.call60 ( sTold0 hT _ _ _ (Tree.mk cL cM cN cO cP) _ (Tree.mk cQ cR cS cT cU) _ _ (FldR.mk (l := l8) fq (hJ.move ah.step nilM ah.imm) (fun i_ x_ h_ => ((ik i_ x_ h_).move ah.step nilM ah.imm))) hpl hof (bG.move ah.step nilM ah.imm) (bJ.move ah.step nilM ah.imm) (hl_ _ _ _ ej eo)) ?_)
      rintro e_ mu ⟨rfl, ev⟩
      refine ⟨_, rfl, fun mw ew => ?_⟩
      have bL := ah.next_nil ev
      have ey := ah.frN ev
      clear eu
      have ez := TT.ofW ey bL
      refine ⟨fun _ => ez, ?_⟩
      refine go_rnD [13] [(1, .v (.int .i64 v)), (2, .v (.bool flex)), (9, .p 2 0), (14, .v (.slice ae ((things aa).length) af)), (15, .p 3 0), (97, .v (.int .i64 (((things aa).length : Nat) : Int))), (98, .v (.int .i64 ((k : Nat) : Int))), (114, .v (.bool false))] 0 (panicFree_then (panicFree_block (panicFree_then (panicFree_then (panicFree_block (panicFree_then (panicFree_block (panicFree_then panicFree_body)))))))) (fun _ h => h.cells) ez ew fun mx bM => ?_
      clear ew
      refine anyC_done kz ?_ _
      refine then_normal ?_
      refine cond_false bM (b := false) kz rfl ?_
      refine wp_skip ?_
      refine block_normal ?_
      refine then_normal ?_
      refine go_region [0, 1] kz ?_
      refine go_rn [0, 1] [] [(1, .v (.int .i64 v)), (2, .v (.bool flex)), (9, .p 2 0), (14, .v (.slice ae ((things aa).length) af)), (15, .p 3 0), (97, .v (.int .i64 (((things aa).length : Nat) : Int))), (98, .v (.int .i64 (IntKind.i64.wrap (((k : Nat) : Int) + 1))))] bL bM fun my eB => ?_
      clear bM
      refine wpOps_nil (then_normal ?_)
      have gP : IntKind.i64.wrap (((k : Nat) : Int) + 1) = ((k + 1 : Nat) : Int) := wrap_succ (by omega)
      rw [gP] at eB
      exact ⟨(things aa).length - (k + 1), by omega, k + 1, rfl, by omega, eB.pk, bL, ((gL.trans gM).trans ey)⟩
     ·
      have j2 := of_decide_eq_false bE
      refine wp_exit ?_
      refine then_exit ?_
      refine then_exit ?_
      refine block_exit ?_
      refine then_normal ?_
      refine go_sp [(10, .v (.bool true))] aw aH fun mz gQ => ?_
      clear aH
      refine wp_ret ?_
      refine block_ret ?_
      refine then_ret ?_
      refine leave gQ aw.cells (v := .bool true) kz ?_
      exact ⟨rfl, aw.step⟩
 ·
  have j3 := of_decide_eq_false aP
  have eC := cz.cast (env' := [(1, .v (.int .i64 v)), (2, .v (.bool flex)), (5, .p 0 0), (8, .p 1 0), (9, .p 2 0), (11, .v (.bool (Fld.nul (Fld.mk k1 y2 y3 y4 y5 y6 y7 l8) v (Tree.mk aj ak al aa am)))), (24, .v (.bool false))]) (by rw [aP])
  clear cz
  refine go_rn [4, 5, 6, 7, 8, 9] [] [(1, .v (.int .i64 v)), (2, .v (.bool flex)), (5, .p 0 0), (8, .p 1 0), (9, .p 2 0), (11, .v (.bool (Fld.nul (Fld.mk k1 y2 y3 y4 y5 y6 y7 l8) v (Tree.mk aj ak al aa am)))), (12, .v (.bool false))] ab eC fun mA eD => ?_
  clear eC
  refine wpOps_nil (then_normal ?_)
  refine wp_seq ?_
  refine go_seq_region [0, 1, 2, 3, 4, 5, 6, 7, 8, 9, 10, 11, 12, 13, 14, 15, 16] kz ?_
  refine go_rn [0, 1, 2, 3] [4, 5, 6, 7, 8, 9, 10, 11, 12, 13, 14, 15, 16] [(1, .v (.int .i64 v)), (2, .v (.bool flex)), (5, .p 0 0), (8, .p 1 0), (9, .p 2 0), (11, .v (.bool (Fld.nul (Fld.mk k1 y2 y3 y4 y5 y6 y7 l8) v (Tree.mk aj ak al aa am)))), (12, .v (.bool false)), (33, .v (.bool (k1 == 8)))] ab eD fun mB eE => ?_
  clear eD
  have gR : (k1 == 8) = false := by simp [ac]
  have eF := eE.cast (env' := [(1, .v (.int .i64 v)), (2, .v (.bool flex)), (5, .p 0 0), (8, .p 1 0), (9, .p 2 0), (11, .v (.bool (Fld.nul (Fld.mk k1 y2 y3 y4 y5 y6 y7 l8) v (Tree.mk aj ak al aa am)))), (12, .v (.bool false)), (33, .v (.bool false))]) (by rw [gR])
  clear eE
  refine go_rn [4, 5, 6, 7, 8] [9, 10, 11, 12, 13, 14, 15, 16] [(1, .v (.int .i64 v)), (2, .v (.bool flex)), (5, .p 0 0), (8, .p 1 0), (9, .p 2 0), (11, .v (.bool (Fld.nul (Fld.mk k1 y2 y3 y4 y5 y6 y7 l8) v (Tree.mk aj ak al aa am)))), (12, .v (.bool false)), (38, .v (.bool (k1 == 10)))] ab eF fun mC eG => ?_
  clear eF
  have gS : (k1 == 10) = false := by simp [ac]
  have eH := eG.cast (env' := [(1, .v (.int .i64 v)), (2, .v (.bool flex)), (5, .p 0 0), (8, .p 1 0), (9, .p 2 0), (11, .v (.bool (Fld.nul (Fld.mk k1 y2 y3 y4 y5 y6 y7 l8) v (Tree.mk aj ak al aa am)))), (12, .v (.bool false)), (38, .v (.bool false))]) (by rw [gS])
  clear eG
  refine go_rn [9, 10, 11, 12, 13, 14, 15, 16] [] [(1, .v (.int .i64 v)), (2, .v (.bool flex)), (5, .p 0 0), (8, .p 1 0), (9, .p 2 0), (11, .v (.bool (Fld.nul (Fld.mk k1 y2 y3 y4 y5 y6 y7 l8) v (Tree.mk aj ak al aa am)))), (46, .v (.bool false))] ab eH fun mD bN => ?_
  clear eH
  refine wpOps_nil (then_normal ?_)
  refine cond_false bN (b := false) kz rfl ?_
  refine wp_skip ?_
  refine then_normal ?_
  refine wp_seq ?_
  refine go_sp [(1, .v (.int .i64 v)), (2, .v (.bool flex)), (5, .p 0 0), (8, .p 1 0), (9, .p 2 0), (47, .v (.bool (Fld.nul (Fld.mk k1 y2 y3 y4 y5 y6 y7 l8) v (Tree.mk aj ak al aa am))))] ab bN fun mF aJ => ?_
  clear bN
  refine cond_of aJ (b := Fld.nul (Fld.mk k1 y2 y3 y4 y5 y6 y7 l8) v (Tree.mk aj ak al aa am)) kz (fun gT => ?_) (fun gT => ?_)
  ·
   refine go_sp [(10, .v (.bool true))] ab aJ fun mG gU => ?_
   clear aJ
   refine wp_ret ?_
   refine then_ret ?_
   refine leave gU ab.cells (v := .bool true) kz ?_
   exact ⟨rfl, ab.step⟩
  ·
   refine wp_skip ?_
   refine then_normal ?_
   refine wp_seq ?_
   refine go_sp [(1, .v (.int .i64 v)), (2, .v (.bool flex)), (5, .p 0 0), (8, .p 1 0), (9, .p 2 0), (49, .v (.int .i64 k1))] ab aJ fun mH eI => ?_
   clear aJ
   refine wp_block ?_
   refine wp_seq ?_
   refine go_sp [(1, .v (.int .i64 v)), (2, .v (.bool flex)), (5, .p 0 0), (8, .p 1 0), (9, .p 2 0), (49, .v (.int .i64 k1)), (50, .v (.bool (k1 == 8)))] ab eI fun mI bO => ?_
   clear eI
   refine cond_false bO (b := k1 == 8) kz (by simp [ac]) ?_
   refine go_region [0, 1] kz ?_
   refine go_rn [0, 1] [] [(1, .v (.int .i64 v)), (2, .v (.bool flex)), (5, .p 0 0), (8, .p 1 0), (9, .p 2 0), (49, .v (.int .i64 k1)), (50, .v (.bool (k1 == 9)))] ab bO fun mJ bP => ?_
   clear bO
   refine wpOps_nil (then_normal ?_)
   refine cond_false bP (b := k1 == 9) kz (by simp [ac]) ?_
   refine go_sp [(1, .v (.int .i64 v)), (2, .v (.bool flex)), (5, .p 0 0), (8, .p 1 0), (9, .p 2 0), (49, .v (.int .i64 k1)), (59, .v (.bool (k1 == 7)))] ab bP fun mK bQ => ?_
   clear bP
   refine cond_false bQ (b := k1 == 7) kz (by simp [ac]) ?_
   refine go_sp [(1, .v (.int .i64 v)), (2, .v (.bool flex)), (5, .p 0 0), (8, .p 1 0), (9, .p 2 0), (49, .v (.int .i64 k1)), (70, .v (.bool (k1 == 10)))] ab bQ fun mL bR => ?_
   clear bQ
   refine cond_false bR (b := k1 == 10) kz (by simp [ac]) ?_
   refine go_sp [(1, .v (.int .i64 v)), (2, .v (.bool flex)), (5, .p 0 0), (8, .p 1 0), (9, .p 2 0), (79, .v (.bool (k1 == 11)))] ab bR fun mM bS => ?_
   clear bR
   refine cond_true bS (b := k1 == 11) kz (by simpa using ac) ?_
   refine go_seq_region [0, 1, 2, 3] kz ?_
   refine go_rn [0, 1] [2, 3] [(1, .v (.int .i64 v)), (2, .v (.bool flex)), (5, .p 0 0), (9, .p 2 0), (82, .v (.slice ae aa.length af))] ab bS fun mN eJ => ?_
   clear bS
   refine of_op (wpOp_call eJ (f := 131) (vs := [.slice ae aa.length af]) (d := 83) kz Tryz.call131 (sThings _ _ aa (fr.move ab.step nilM ab.imm).le _) ?_)
   rintro e_ mO ⟨rfl, eK⟩
   refine ⟨_, rfl, fun mQ eL => ?_⟩
   have ax := ab.next_nil eK
   have j4 := ab.frN eK
   clear eJ ab
   refine go_rn [3] [] [(1, .v (.int .i64 v)), (2, .v (.bool flex)), (5, .p 0 0), (9, .p 2 0), (14, .v (.slice ae ((things aa).length) af))] ax eL fun mR eM => ?_
   clear eL
   refine wpOps_nil (then_normal ?_)
   refine wp_seq ?_
   refine go_sp [(1, .v (.int .i64 v)), (2, .v (.bool flex)), (5, .p 0 0), (9, .p 2 0), (14, .v (.slice ae ((things aa).length) af)), (89, .v (.bool (((ao.length : Nat) : Int) != (((things aa).length : Nat) : Int))))] ax eM fun mS aK => ?_
   clear eM
   refine cond_of aK (b := ((ao.length : Nat) : Int) != (((things aa).length : Nat) : Int)) kz (fun bT => ?_) (fun bT => ?_)
   ·
    have j5 : ((ao.length : Nat) : Int) ≠ (((things aa).length : Nat) : Int) := by simpa using bT
    refine go_sp [(10, .v (.bool false))] ax aK fun mT gV => ?_
    clear aK
    refine wp_ret ?_
    refine then_ret ?_
    refine block_ret ?_
    refine then_ret ?_
    refine leave gV ax.cells (v := .bool false) kz ?_
    first
     | exact (to_nm hq (by assumption) (by assumption) (by assumption)).elim
     | exact (to_len (hQ.2 ac (by assumption)).1 (by assumption)).elim
     | (exfalso; simp_all; done)
   ·
    have j6 : ((ao.length : Nat) : Int) = (((things aa).length : Nat) : Int) := by simpa using bT
    refine wp_skip ?_
    refine then_normal ?_
    refine go_seq_region [0, 1, 2] kz ?_
    refine go_rn [0] [1, 2] [(1, .v (.int .i64 v)), (2, .v (.bool flex)), (5, .p 0 0), (9, .p 2 0), (14, .v (.slice ae ((things aa).length) af)), (90, .v (.agg #[.int .i64 k1, .int .i64 y2, .int .i64 y3, .int .i64 y4, .int .i64 y5, .int .i64 y6, .int .i64 y7, .slice A9 l8.length ap]))] ax aK fun mU eN => ?_
    clear aK
    refine of_op (wpOp_alloc ax eN (d := 15) (cs := [.int .i64 0, .int .i64 0, .int .i64 0, .int .i64 0, .int .i64 0, .int .i64 0, .int .i64 0, .slice none 0 0]) kz fun iX mV mW j7 j8 j9 eO eP => ?_)
    clear eN ax
    refine of_op (wpOp_store eO eP (oi := 3) (cs := [.int .i64 k1, .int .i64 y2, .int .i64 y3, .int .i64 y4, .int .i64 y5, .int .i64 y6, .int .i64 y7, .slice A9 l8.length ap]) kz fun mX ka bU eQ => ?_)
    clear eP eO
    refine wpOps_nil (then_normal ?_)
    refine go_seq_region [0, 1, 2, 3, 4, 5, 6, 7] kz ?_
    refine go_rn [0, 1, 2] [3, 4, 5, 6, 7] [(1, .v (.int .i64 v)), (2, .v (.bool flex)), (9, .p 2 0), (14, .v (.slice ae ((things aa).length) af)), (15, .p 3 0), (92, .v (.int .i64 y7)), (93, .p 3 0)] bU eQ fun mY eR => ?_
    clear eQ
    refine of_op (wpOp_store bU eR (oi := 3) (cs := [.int .i64 y7, .int .i64 y2, .int .i64 y3, .int .i64 y4, .int .i64 y5, .int .i64 y6, .int .i64 y7, .slice A9 l8.length ap]) kz fun mZ kd bV eS => ?_)
    clear eR bU
    refine go_rn [4] [5, 6, 7] [(1, .v (.int .i64 v)), (2, .v (.bool flex)), (9, .p 2 0), (14, .v (.slice ae ((things aa).length) af)), (15, .p 3 0), (94, .p 3 3)] bV eS fun m4 eU => ?_
    clear eS
    refine of_op (wpOp_store bV eU (oi := 3) (cs := [.int .i64 y7, .int .i64 y2, .int .i64 y3, .int .i64 (-1), .int .i64 y5, .int .i64 y6, .int .i64 y7, .slice A9 l8.length ap]) kz fun m5 ke bW eV => ?_)
    clear eU bV
    refine go_rn [6] [7] [(1, .v (.int .i64 v)), (2, .v (.bool flex)), (9, .p 2 0), (14, .v (.slice ae ((things aa).length) af)), (15, .p 3 0), (95, .p 3 4)] bW eV fun m6 eW => ?_
    clear eV
    refine of_op (wpOp_store bW eW (oi := 3) (cs := [.int .i64 y7, .int .i64 y2, .int .i64 y3, .int .i64 (-1), .int .i64 (-1), .int .i64 y6, .int .i64 y7, .slice A9 l8.length ap]) kz fun m7 kf bX eX => ?_)
    clear eW bW
    refine wpOps_nil (then_normal ?_)
    refine wp_seq ?_
    refine go_sp [(1, .v (.int .i64 v)), (2, .v (.bool flex)), (9, .p 2 0), (14, .v (.slice ae ((things aa).length) af)), (15, .p 3 0), (97, .v (.int .i64 (((things aa).length : Nat) : Int))), (98, .v (.int .i64 0))] bX eX fun m8 eY => ?_
    clear eX
    refine wp_block ?_
    have hl_ := (hQ.2 ac (by assumption)).2
    refine wp_loop_ghost (fun n_ a_ w_ => ∃ (k : Nat), n_ = (things aa).length - k ∧ k ≤ (things aa).length ∧ LInv bX 124 [⟨io, 0, [.int .i64 k1, .int .i64 y2, .int .i64 y3, .int .i64 y4, .int .i64 y5, .int .i64 y6, .int .i64 y7, .slice A9 l8.length ap], true⟩, ⟨ip, 0, [.int .i64 aj, .slice gb ak.length gc, .bool al, .slice ae aa.length af, .slice gd am.length ge], true⟩, ⟨iq, 0, [.int .i64 hK, .slice ib hZ.length ic, .bool de, .slice cw ao.length ft, .slice ig ia.length ii], true⟩, ⟨iX, 0, [.int .i64 y7, .int .i64 y2, .int .i64 y3, .int .i64 (-1), .int .i64 (-1), .int .i64 y6, .int .i64 y7, .slice A9 l8.length ap], true⟩] [] [(1, .v (.int .i64 v)), (2, .v (.bool flex)), (9, .p 2 0), (14, .v (.slice ae ((things aa).length) af)), (15, .p 3 0), (97, .v (.int .i64 (((things aa).length : Nat) : Int))), (98, .v (.int .i64 ((k : Nat) : Int)))] a_ w_) ((things aa).length) ⟨0, by omega, by omega, eY.pk, bX, Fr.refl _ _ _⟩ ?_
    clear eY
    rintro m9 nf ng ⟨k, kg, kh, eZ, ay, gW⟩
    refine go_sp [(1, .v (.int .i64 v)), (2, .v (.bool flex)), (9, .p 2 0), (14, .v (.slice ae ((things aa).length) af)), (15, .p 3 0), (97, .v (.int .i64 (((things aa).length : Nat) : Int))), (98, .v (.int .i64 ((k : Nat) : Int))), (99, .v (.bool (decide (((k : Nat) : Int) < (((things aa).length : Nat) : Int)))))] ay eZ fun nh aL => ?_
    clear eZ
    refine wp_seq ?_
    refine cond_of aL (b := decide (((k : Nat) : Int) < (((things aa).length : Nat) : Int))) kz (fun bY => ?_) (fun bY => ?_)
    ·
     have ki := of_decide_eq_true bY
     refine wp_skip ?_
     refine then_normal ?_
     refine wp_seq ?_
     refine wp_block ?_
     refine go_sp [(1, .v (.int .i64 v)), (2, .v (.bool flex)), (9, .p 2 0), (14, .v (.slice ae ((things aa).length) af)), (15, .p 3 0), (16, .v (.int .i64 ((k : Nat) : Int))), (97, .v (.int .i64 (((things aa).length : Nat) : Int))), (98, .v (.int .i64 ((k : Nat) : Int)))] ay aL fun ni e9 => ?_
     clear aL
     refine go_seq_drawK 14 kz ay fun nj gX ai aM => ?_
     clear ay
     refine go_rnD [0, 1, 2, 3, 4, 7, 8, 9] [(1, .v (.int .i64 v)), (2, .v (.bool flex)), (9, .p 2 0), (14, .v (.slice ae ((things aa).length) af)), (15, .p 3 0), (97, .v (.int .i64 (((things aa).length : Nat) : Int))), (98, .v (.int .i64 ((k : Nat) : Int))), (101, .v (.agg #[.int .i64 y7, .int .i64 y2, .int .i64 y3, .int .i64 (-1), .int .i64 (-1), .int .i64 y6, .int .i64 y7, .slice A9 l8.length ap])), (102, .v (.int .i64 v)), (103, .v (.bool flex)), (104, .v (.slice ae ((things aa).length) af)), (105, .v (.int .i64 ((k : Nat) : Int))), (109, .v (.slice cw ao.length ft)), (110, .v (.int .i64 ((k : Nat) : Int)))] 6 (panicFree_then (panicFree_block (panicFree_then (panicFree_then (panicFree_block (panicFree_then (panicFree_block (panicFree_then panicFree_body)))))))) (fun _ h => h.cells) aM e9 fun nk fa => ?_
     clear e9
     obtain ⟨iY, iZ, gY, kj, bZ⟩ := Slots.get (things_slots fr) (i := k) (by first | omega | (have h_ : ao.length = (things aa).length := (hQ.2 ac (by assumption)).1; omega))
     obtain ⟨i6, fb⟩ : ∃ x, (things aa)[k]? = some x := ⟨_, List.getElem?_eq_getElem (by omega)⟩
     have b8 := (things_each il) k i6 fb
     obtain ⟨cV, cW, cX, cY, cZ, fS, fT, fU, fV, fW, fX, km, rfl, cd, i7, ja, nl, nm⟩ := b8.open_
     rw [cd] at b8
     have jb := i7.small
     have jc := ja.small
     rw [cd] at bZ
     refine takeC_index fa (i := 5) (t := 23) (A := ae) (m := ((things aa).length)) (q := ((k : Nat) : Int)) (d := 106) kz (e := 26) (size := 5) (bytes := 88) kz gY rfl (by first | omega | (have h_ : ao.length = (things aa).length := (hQ.2 ac (by assumption)).1; omega)) kz kz (panicFree_then (panicFree_block (panicFree_then (panicFree_then (panicFree_block (panicFree_then (panicFree_block (panicFree_then panicFree_body)))))))) aM fun np fe => ?_
     clear fa
     refine takeC_load fe (i := 6) (t := 26) (b := iY) (o := iZ + k * 5) (d := 107) kz (cs := [.int .i64 cV, .slice fS cW.length fT, .bool cX, .slice fU cY.length fV, .slice fW cZ.length fX]) (v := .agg #[.int .i64 cV, .slice fS cW.length fT, .bool cX, .slice fU cY.length fV, .slice fW cZ.length fX]) kz (fun w' h' => (AtF.move bZ (TT.step0 ai h') nilM keepF).at_) kz kz (panicFree_then (panicFree_block (panicFree_then (panicFree_then (panicFree_block (panicFree_then (panicFree_block (panicFree_then panicFree_body)))))))) aM fun nr ff => ?_
     clear fe
     obtain ⟨jd, je, gZ, ko, ce⟩ := Slots.get ij (i := k) (by first | omega | (have h_ : ao.length = (things aa).length := (hQ.2 ac (by assumption)).1; omega))
     obtain ⟨jf, fg⟩ : ∃ x, ao[k]? = some x := ⟨_, List.getElem?_eq_getElem (by omega)⟩
     have cm := im k jf fg
     obtain ⟨c5, c6, da, db, dc, fY, fZ, f7, f8, f9, ga, kp, rfl, cq, jg, jh, ns, nt⟩ := cm.open_
     rw [cq] at cm
     have ji := jg.small
     have jj := jh.small
     rw [cq] at ce
     refine takeC_index ff (i := 10) (t := 23) (A := cw) (m := ao.length) (q := ((k : Nat) : Int)) (d := 111) kz (e := 26) (size := 5) (bytes := 88) kz gZ rfl (by first | omega | (have h_ : ao.length = (things aa).length := (hQ.2 ac (by assumption)).1; omega)) kz kz (panicFree_then (panicFree_block (panicFree_then (panicFree_then (panicFree_block (panicFree_then (panicFree_block (panicFree_then panicFree_body)))))))) aM fun nu fh => ?_
     clear ff
     refine takeC_load fh (i := 11) (t := 26) (b := jd) (o := je + k * 5) (d := 112) kz (cs := [.int .i64 c5, .slice fY c6.length fZ, .bool da, .slice f7 db.length f8, .slice f9 dc.length ga]) (v := .agg #[.int .i64 c5, .slice fY c6.length fZ, .bool da, .slice f7 db.length f8, .slice f9 dc.length ga]) kz (fun w' h' => (AtF.move ce (TT.step0 ai h') nilM keepF).at_) kz kz (panicFree_then (panicFree_block (panicFree_then (panicFree_then (panicFree_block (panicFree_then (panicFree_block (panicFree_then panicFree_body)))))))) aM fun nv fi => ?_
     clear fh
     refine anyC_op (i := 12) kz (wpOp_call fi (f := 60) (vs := [.agg #[.int .i64 y7, .int .i64 y2, .int .i64 y3, .int .i64 (-1), .int .i64 (-1), .int .i64 y6, .int .i64 y7, .slice A9 l8.length ap], .int .i64 v, .bool flex, .agg #[.int .i64 cV, .slice fS cW.length fT, .bool cX, .slice fU cY.length fV, .slice fW cZ.length fX], .agg #[.int .i64 c5, .slice fY c6.length fZ, .bool da, .slice f7 db.length f8, .slice f9 dc.length ga]]) (d := 113) kz Tryz.call60 ( sTold0 hT _ _ _ (Tree.mk cV cW cX cY cZ) _ (Tree.mk c5 c6 da db dc) _ _ (FldR.mk (l := l8) fq (hJ.move ai.step nilM ai.imm) (fun i_ x_ h_ => ((ik i_ x_ h_).move ai.step nilM ai.imm))) hpl hof (b8.move ai.step nilM ai.imm) (cm.move ai.step nilM ai.imm) (hl_ _ _ _ fb fg)) ?_)
     rintro e_ nw ⟨rfl, fj⟩
     refine ⟨_, rfl, fun nx fk => ?_⟩
     have cr := ai.next_nil fj
     have fl := ai.frN fj
     clear fi
     have fm := TT.ofW fl cr
     refine ⟨fun _ => fm, ?_⟩
     refine go_rnD [13] [(1, .v (.int .i64 v)), (2, .v (.bool flex)), (9, .p 2 0), (14, .v (.slice ae ((things aa).length) af)), (15, .p 3 0), (97, .v (.int .i64 (((things aa).length : Nat) : Int))), (98, .v (.int .i64 ((k : Nat) : Int))), (114, .v (.bool false))] 0 (panicFree_then (panicFree_block (panicFree_then (panicFree_then (panicFree_block (panicFree_then (panicFree_block (panicFree_then panicFree_body)))))))) (fun _ h => h.cells) fm fk fun ny cu => ?_
     clear fk
     refine anyC_done kz ?_ _
     refine then_normal ?_
     refine cond_false cu (b := false) kz rfl ?_
     refine wp_skip ?_
     refine block_normal ?_
     refine then_normal ?_
     refine go_region [0, 1] kz ?_
     refine go_rn [0, 1] [] [(1, .v (.int .i64 v)), (2, .v (.bool flex)), (9, .p 2 0), (14, .v (.slice ae ((things aa).length) af)), (15, .p 3 0), (97, .v (.int .i64 (((things aa).length : Nat) : Int))), (98, .v (.int .i64 (IntKind.i64.wrap (((k : Nat) : Int) + 1))))] cr cu fun nz fo => ?_
     clear cu
     refine wpOps_nil (then_normal ?_)
     have g9 : IntKind.i64.wrap (((k : Nat) : Int) + 1) = ((k + 1 : Nat) : Int) := wrap_succ (by omega)
     rw [g9] at fo
     exact ⟨(things aa).length - (k + 1), by omega, k + 1, rfl, by omega, fo.pk, cr, ((gW.trans gX).trans fl)⟩
    ·
     have kq := of_decide_eq_false bY
     refine wp_exit ?_
     refine then_exit ?_
     refine then_exit ?_
     refine block_exit ?_
     refine then_normal ?_
     refine go_sp [(10, .v (.bool true))] ay aL fun nA hC => ?_
     clear aL
     refine wp_ret ?_
     refine block_ret ?_
     refine then_ret ?_
     refine leave hC ay.cells (v := .bool true) kz ?_
     exact ⟨rfl, ay.step⟩
theorem sTold1 {v : Int} {flex : Bool} {T : List Fld → Tree → Tree → Prop} (hT : ToOK v flex T) (cf : List Value) (f : Fld) (ct : List Value) (t : Tree) (cg : List Value) (g : Tree) (w : World) (F : Nat → Nat → Prop) (hf : FldR w F cf f) (hpl : f.plain) (ht : TreeR w F ct t) (hg : TreeR w F cg g) (hQ : ToF T v f t g) :
  Calls Tryz.prog 60 #[.agg cf.toArray, .int .i64 v, .bool flex, .agg ct.toArray, .agg cg.toArray] w (Gives w (.bool true)) := by
 by_cases h : f.kind = 11
 ·exact sTold11 hT cf f ct t cg g w F hf hpl h ht hg hQ
 ·exact sTold0 hT cf f ct t cg g w F hf (plain_sub hpl) h ht hg hQ.1
set_option maxHeartbeats 4000000 in
theorem sToldS {v : Int} {flex : Bool} {T : List Fld → Tree → Tree → Prop} {U : List Fld → Tree → Prop} (hT : ToOK v flex T) (hU : UsOK U) (A : Option Addr) (c : Nat) (l : List Fld) (ct : List Value) (t : Tree) (cg : List Value) (g : Tree) (w : World) (F : Nat → Nat → Prop) (hl : FldsR w F A c l) (ht : TreeR w F ct t) (hg : TreeR w F cg g) (hpl : plains l) (hP : ToP T U l v flex t g) :
  Calls Tryz.prog 19 #[.slice A l.length c, .int .i64 v, .bool flex, .agg ct.toArray, .agg cg.toArray] w (Gives w (.bool true)) := by
 obtain ⟨xfs, h1, h2⟩ := hl.ex
 have hsm := h1.small
 obtain ⟨n1, s2, b3, l4, u5, A6, c7, A8, c9, bT, bU, jO, rfl, rfl, jP, jQ, mH, jR⟩ := ht.open_
 have iP := jP.small
 have iQ := jQ.small
 obtain ⟨dh, di, dj, aG, aB, dl, dp, bV, ce, bW, cm, jS, rfl, rfl, jT, ig, iR, jU⟩ := hg.open_
 have iS := jT.small
 have iT := ig.small
 have hlen : aG.length = l.length := hP.1
 have hgu : aB = if flex = true then wholeU (unknownT l u5) else [] := hP.2.2
 obtain ⟨jV, iU, jW⟩ := jU.ex
 have iV := iU.small
 refine enter (n := 120) Tryz.func19 rfl Tryz.ntmps19 kz fun a hE => ?_
 have hW := WOk.start w Nil
 refine go_seq_region [0, 1, 2] kz ?_
 refine of_op (wpOp_box hW hE (d := 8) (cs := [.int .i64 n1, .slice A6 s2.length c7, .bool b3, .slice A8 l4.length c9, .slice bT u5.length bU]) kz fun dE mI mJ jX jY jZ fX fY => ?_)
 clear hE hW
 refine of_op (wpOp_box fX fY (d := 9) (cs := [.int .i64 dh, .slice dl di.length dp, .bool dj, .slice bV aG.length ce, .slice bW aB.length cm]) kz fun dF mK mL j0 j1 j2 bB fZ => ?_)
 clear fY fX
 refine go_rn [2] [] [(0, .v (.slice A l.length c)), (1, .v (.int .i64 v)), (2, .v (.bool flex)), (8, .p 0 0), (9, .p 1 0)] bB fZ fun mM f7 => ?_
 clear fZ
 refine wpOps_nil (then_normal ?_)
 refine wp_seq ?_
 refine go_sp [(0, .v (.slice A l.length c)), (1, .v (.int .i64 v)), (2, .v (.bool flex)), (8, .p 0 0), (9, .p 1 0), (22, .v (.bool (((aG.length : Nat) : Int) != ((l.length : Nat) : Int))))] bB f7 fun mN cq => ?_
 clear f7
 refine cond_of cq (b := ((aG.length : Nat) : Int) != ((l.length : Nat) : Int)) kz (fun fK => ?_) (fun fK => ?_)
 ·
  have j3 : ((aG.length : Nat) : Int) ≠ ((l.length : Nat) : Int) := by simpa using fK
  refine go_sp [(10, .v (.bool false))] bB cq fun mO ii => ?_
  clear cq
  refine wp_ret ?_
  refine then_ret ?_
  refine leave ii bB.cells (v := .bool false) kz ?_
  first
   | (exfalso; omega)
   | exact (told_len hgu (by assumption) (by assumption)).elim
   | exact (told_len0 hgu (by assumption) (by assumption)).elim
   | exact (told_key hgu (by assumption) (by assumption) (by assumption) (by assumption)).elim
   | exact (told_val hgu (by assumption) (by assumption) (by assumption) (by assumption)).elim
   | (exfalso; simp_all; done)
 ·
  have j4 : ((aG.length : Nat) : Int) = ((l.length : Nat) : Int) := by simpa using fK
  refine wp_skip ?_
  refine then_normal ?_
  refine wp_seq ?_
  refine go_sp [(0, .v (.slice A l.length c)), (1, .v (.int .i64 v)), (2, .v (.bool flex)), (8, .p 0 0), (9, .p 1 0), (23, .v (.slice A l.length c)), (24, .v (.int .i64 ((l.length : Nat) : Int))), (25, .v (.int .i64 0))] bB cq fun mQ f8 => ?_
  clear cq
  refine wp_block ?_
  refine wp_loop_ghost (fun n_ a_ w_ => ∃ (k : Nat), n_ = l.length - k ∧ k ≤ l.length ∧ LInv bB 120 [⟨dE, 0, [.int .i64 n1, .slice A6 s2.length c7, .bool b3, .slice A8 l4.length c9, .slice bT u5.length bU], true⟩, ⟨dF, 0, [.int .i64 dh, .slice dl di.length dp, .bool dj, .slice bV aG.length ce, .slice bW aB.length cm], true⟩] [] [(0, .v (.slice A l.length c)), (1, .v (.int .i64 v)), (2, .v (.bool flex)), (8, .p 0 0), (9, .p 1 0), (23, .v (.slice A l.length c)), (24, .v (.int .i64 ((l.length : Nat) : Int))), (25, .v (.int .i64 ((k : Nat) : Int)))] a_ w_) (l.length) ⟨0, by omega, by omega, f8.pk, bB, Fr.refl _ _ _⟩ ?_
  clear f8
  rintro mR mS mT ⟨k, j5, j6, f9, ax, fL⟩
  refine go_sp [(0, .v (.slice A l.length c)), (1, .v (.int .i64 v)), (2, .v (.bool flex)), (8, .p 0 0), (9, .p 1 0), (23, .v (.slice A l.length c)), (24, .v (.int .i64 ((l.length : Nat) : Int))), (25, .v (.int .i64 ((k : Nat) : Int))), (26, .v (.bool (decide (((k : Nat) : Int) < ((l.length : Nat) : Int)))))] ax f9 fun mU cr => ?_
  clear f9
  refine wp_seq ?_
  refine cond_of cr (b := decide (((k : Nat) : Int) < ((l.length : Nat) : Int))) kz (fun fM => ?_) (fun fM => ?_)
  ·
   have j7 := of_decide_eq_true fM
   refine wp_skip ?_
   refine then_normal ?_
   refine wp_seq ?_
   refine wp_block ?_
   refine go_seq_region [0, 1, 2, 3, 4, 5] kz ?_
   refine go_rn [0] [1, 2, 3, 4, 5] [(0, .v (.slice A l.length c)), (1, .v (.int .i64 v)), (2, .v (.bool flex)), (8, .p 0 0), (9, .p 1 0), (23, .v (.slice A l.length c)), (24, .v (.int .i64 ((l.length : Nat) : Int))), (25, .v (.int .i64 ((k : Nat) : Int))), (27, .v (.int .i64 ((k : Nat) : Int)))] ax cr fun mV ga => ?_
   clear cr
   obtain ⟨j8, j9, ij, ka, dG⟩ := Slots.get h1 (i := k) (by first | omega | (have h_ := told_idx hgu (by assumption); omega))
   obtain ⟨kd, cu⟩ : ∃ x, l[k]? = some x := ⟨_, List.getElem?_eq_getElem (by omega)⟩
   have bC := h2 k kd cu
   obtain ⟨aj, ak, al, am, ag, ao, aa, ab, ap, ar, iW, rfl, cw, ik, ke⟩ := bC.open_
   rw [cw] at bC
   have il := ik.small
   rw [cw] at dG
   refine of_op (wpOp_index ga (t := 29) (A := A) (m := l.length) (q := ((k : Nat) : Int)) (d := 28) kz (e := 52) (size := 8) (bytes := 80) kz ij rfl (by first | omega | (have h_ := told_idx hgu (by assumption); omega)) fun kf dH => ?_)
   clear ga
   refine of_op (wpOp_load dH (t := 52) (b := j8) (o := j9 + k * 8) (d := 29) kz (cs := [.int .i64 aj, .int .i64 ak, .int .i64 al, .int .i64 am, .int .i64 ag, .int .i64 ao, .int .i64 aa, .slice ap ab.length ar]) (v := .agg #[.int .i64 aj, .int .i64 ak, .int .i64 al, .int .i64 am, .int .i64 ag, .int .i64 ao, .int .i64 aa, .slice ap ab.length ar]) kz (AtF.move dG ax.step nilM keepF).at_ fun kg dI => ?_)
   clear dH
   refine of_op (wpOp_alloc ax dI (d := 12) (cs := [.int .i64 0, .int .i64 0, .int .i64 0, .int .i64 0, .int .i64 0, .int .i64 0, .int .i64 0, .slice none 0 0]) kz fun im kh ki iX iY cz cA dJ => ?_)
   clear dI ax
   refine go_rn [4] [5] [(0, .v (.slice A l.length c)), (1, .v (.int .i64 v)), (2, .v (.bool flex)), (8, .p 0 0), (9, .p 1 0), (11, .v (.int .i64 ((k : Nat) : Int))), (12, .p 2 0), (23, .v (.slice A l.length c)), (24, .v (.int .i64 ((l.length : Nat) : Int))), (25, .v (.int .i64 ((k : Nat) : Int))), (29, .v (.agg #[.int .i64 aj, .int .i64 ak, .int .i64 al, .int .i64 am, .int .i64 ag, .int .i64 ao, .int .i64 aa, .slice ap ab.length ar]))] cA dJ fun kj dK => ?_
   clear dJ
   refine of_op (wpOp_store cA dK (oi := 2) (cs := [.int .i64 aj, .int .i64 ak, .int .i64 al, .int .i64 am, .int .i64 ag, .int .i64 ao, .int .i64 aa, .slice ap ab.length ar]) kz fun km cB aH dL => ?_)
   clear dK cA
   refine wpOps_nil (then_normal ?_)
   refine go_seq_region [0, 1, 2, 3, 4] kz ?_
   refine go_rn [0, 1] [2, 3, 4] [(0, .v (.slice A l.length c)), (1, .v (.int .i64 v)), (2, .v (.bool flex)), (8, .p 0 0), (9, .p 1 0), (11, .v (.int .i64 ((k : Nat) : Int))), (12, .p 2 0), (23, .v (.slice A l.length c)), (24, .v (.int .i64 ((l.length : Nat) : Int))), (25, .v (.int .i64 ((k : Nat) : Int))), (30, .v (.agg #[.int .i64 n1, .slice A6 s2.length c7, .bool b3, .slice A8 l4.length c9, .slice bT u5.length bU])), (31, .v (.int .i64 ((k : Nat) : Int)))] aH dL fun ko dM => ?_
   clear dL
   refine of_op (wpOp_call dM (f := 57) (vs := [.agg #[.int .i64 n1, .slice A6 s2.length c7, .bool b3, .slice A8 l4.length c9, .slice bT u5.length bU], .int .i64 ((k : Nat) : Int)]) (d := 32) kz Tryz.call57 (sAt _ _ k _ _ (ht.move aH.step nilM aH.imm)) ?_)
   rintro e_ kp ⟨iZ, rfl, gb, aL⟩
   have aM := gb.move aL nilM (fun b o h_ hb_ => aH.laid (G := F) aL b o (.inl h_) (Nat.lt_of_lt_of_le hb_ aL.size))
   obtain ⟨aN, aO, aP, aQ, aR, aS, aT, aU, aV, aW, aX, i6, i7, cC, io, ip, kq, ku⟩ := aM.open_
   rw [cC] at aM
   have iq := io.small
   have ir := ip.small
   rw [cC]
   refine ⟨_, rfl, fun kv dN => ?_⟩
   have dO := aH.next_nil aL
   have cD := aH.frN aL
   clear dM
   refine of_op (wpOp_alloc dO dN (d := 13) (cs := [.int .i64 0, .slice none 0 0, .bool false, .slice none 0 0, .slice none 0 0]) kz fun iu kw kx ja jb ay dP dQ => ?_)
   clear dN dO
   refine of_op (wpOp_store dP dQ (oi := 3) (cs := [.int .i64 aN, .slice aS aO.length aT, .bool aP, .slice aU aQ.length aV, .slice aW aR.length aX]) kz fun ky az ac dR => ?_)
   clear dQ dP
   refine wpOps_nil (then_normal ?_)
   refine wp_seq ?_
   refine wp_seq (wp_join (Mid := fun a_ w_ => LInv ac 120 [⟨dE, 0, [.int .i64 n1, .slice A6 s2.length c7, .bool b3, .slice A8 l4.length c9, .slice bT u5.length bU], true⟩, ⟨dF, 0, [.int .i64 dh, .slice dl di.length dp, .bool dj, .slice bV aG.length ce, .slice bW aB.length cm], true⟩, ⟨im, 0, [.int .i64 aj, .int .i64 ak, .int .i64 al, .int .i64 am, .int .i64 ag, .int .i64 ao, .int .i64 aa, .slice ap ab.length ar], true⟩, ⟨iu, 0, [.int .i64 aN, .slice aS aO.length aT, .bool aP, .slice aU aQ.length aV, .slice aW aR.length aX], true⟩] [] [(0, .v (.slice A l.length c)), (1, .v (.int .i64 v)), (2, .v (.bool flex)), (8, .p 0 0), (9, .p 1 0), (11, .v (.int .i64 ((k : Nat) : Int))), (12, .p 2 0), (13, .p 3 0), (23, .v (.slice A l.length c)), (24, .v (.int .i64 ((l.length : Nat) : Int))), (25, .v (.int .i64 ((k : Nat) : Int))), (54, .v (.bool (Fld.pres (Fld.mk aj ak al am ag ao aa ab) v flex (Tree.at_ (Tree.mk n1 s2 b3 l4 u5) k))))] a_ w_) ?_ ?_)
   ·
    refine go_region [0, 1, 2, 3, 4, 5, 6, 7, 8, 9, 10, 11, 12, 13, 14, 15, 16, 17, 18, 19, 20, 21] kz ?_
    refine go_rn [0, 1, 2, 3] [4, 5, 6, 7, 8, 9, 10, 11, 12, 13, 14, 15, 16, 17, 18, 19, 20, 21] [(0, .v (.slice A l.length c)), (1, .v (.int .i64 v)), (2, .v (.bool flex)), (8, .p 0 0), (9, .p 1 0), (11, .v (.int .i64 ((k : Nat) : Int))), (12, .p 2 0), (13, .p 3 0), (23, .v (.slice A l.length c)), (24, .v (.int .i64 ((l.length : Nat) : Int))), (25, .v (.int .i64 ((k : Nat) : Int))), (36, .v (.bool (decide (ag < 0))))] ac dR fun kA bG => ?_
    clear dR
    refine (Bool.eq_false_or_eq_true (decide (ag < 0))).elim (fun aY => ?_) (fun aY => ?_)
    ·
     have jc := of_decide_eq_true aY
     have dS := bG.cast (env' := [(0, .v (.slice A l.length c)), (1, .v (.int .i64 v)), (2, .v (.bool flex)), (8, .p 0 0), (9, .p 1 0), (11, .v (.int .i64 ((k : Nat) : Int))), (12, .p 2 0), (13, .p 3 0), (23, .v (.slice A l.length c)), (24, .v (.int .i64 ((l.length : Nat) : Int))), (25, .v (.int .i64 ((k : Nat) : Int))), (36, .v (.bool true))]) (by rw [aY])
     clear bG
     refine go_rn [4, 5] [6, 7, 8, 9, 10, 11, 12, 13, 14, 15, 16, 17, 18, 19, 20, 21] [(0, .v (.slice A l.length c)), (1, .v (.int .i64 v)), (2, .v (.bool flex)), (8, .p 0 0), (9, .p 1 0), (11, .v (.int .i64 ((k : Nat) : Int))), (12, .p 2 0), (13, .p 3 0), (23, .v (.slice A l.length c)), (24, .v (.int .i64 ((l.length : Nat) : Int))), (25, .v (.int .i64 ((k : Nat) : Int))), (36, .v (.bool true)), (37, .v (.agg #[.int .i64 aj, .int .i64 ak, .int .i64 al, .int .i64 am, .int .i64 ag, .int .i64 ao, .int .i64 aa, .slice ap ab.length ar])), (38, .v (.int .i64 v))] ac dS fun kB dT => ?_
     clear dS
     refine of_op (wpOp_call dT (f := 58) (vs := [.agg #[.int .i64 aj, .int .i64 ak, .int .i64 al, .int .i64 am, .int .i64 ag, .int .i64 ao, .int .i64 aa, .slice ap ab.length ar], .int .i64 v]) (d := 39) kz Tryz.call58 (sHas aj ak al am ag ao aa ab _ _ v _) ?_)
     rintro e_ kC ⟨rfl, dU⟩
     refine ⟨_, rfl, fun kD dV => ?_⟩
     have ae := ac.next_nil dU
     have aI := ac.frN dU
     clear dT
     refine go_rn [7, 8] [9, 10, 11, 12, 13, 14, 15, 16, 17, 18, 19, 20, 21] [(0, .v (.slice A l.length c)), (1, .v (.int .i64 v)), (2, .v (.bool flex)), (8, .p 0 0), (9, .p 1 0), (11, .v (.int .i64 ((k : Nat) : Int))), (12, .p 2 0), (13, .p 3 0), (23, .v (.slice A l.length c)), (24, .v (.int .i64 ((l.length : Nat) : Int))), (25, .v (.int .i64 ((k : Nat) : Int))), (41, .v (.bool (Fld.has (Fld.mk aj ak al am ag ao aa ab) v)))] ae dV fun kE bH => ?_
     clear dV
     refine (Bool.eq_false_or_eq_true (Fld.has (Fld.mk aj ak al am ag ao aa ab) v)).elim (fun cE => ?_) (fun cE => ?_)
     ·
      have dW := bH.cast (env' := [(0, .v (.slice A l.length c)), (1, .v (.int .i64 v)), (2, .v (.bool flex)), (8, .p 0 0), (9, .p 1 0), (11, .v (.int .i64 ((k : Nat) : Int))), (12, .p 2 0), (13, .p 3 0), (23, .v (.slice A l.length c)), (24, .v (.int .i64 ((l.length : Nat) : Int))), (25, .v (.int .i64 ((k : Nat) : Int))), (41, .v (.bool true))]) (by rw [cE])
      clear bH
      refine go_rn [9, 10, 11, 12, 13, 14, 15, 16, 17, 18, 19, 20, 21] [] [(0, .v (.slice A l.length c)), (1, .v (.int .i64 v)), (2, .v (.bool flex)), (8, .p 0 0), (9, .p 1 0), (11, .v (.int .i64 ((k : Nat) : Int))), (12, .p 2 0), (13, .p 3 0), (23, .v (.slice A l.length c)), (24, .v (.int .i64 ((l.length : Nat) : Int))), (25, .v (.int .i64 ((k : Nat) : Int))), (54, .v (.bool true))] ae dW fun kF gc => ?_
      clear dW
      refine wpOps_nil (then_normal ?_)
      have hp_ : Fld.pres (Fld.mk aj ak al am ag ao aa ab) v flex (Tree.at_ (Tree.mk n1 s2 b3 l4 u5) k) = true := by first | (first | exact pres_a (by assumption) (by assumption) | exact pres_b (by assumption) (by assumption) (by assumption)) | (exfalso; omega)
      exact ⟨(gc.pk (env' := [(0, .v (.slice A l.length c)), (1, .v (.int .i64 v)), (2, .v (.bool flex)), (8, .p 0 0), (9, .p 1 0), (11, .v (.int .i64 ((k : Nat) : Int))), (12, .p 2 0), (13, .p 3 0), (23, .v (.slice A l.length c)), (24, .v (.int .i64 ((l.length : Nat) : Int))), (25, .v (.int .i64 ((k : Nat) : Int))), (54, .v (.bool true))])).cast (by rw [hp_]), ae, aI⟩
     ·
      have dX := bH.cast (env' := [(0, .v (.slice A l.length c)), (1, .v (.int .i64 v)), (2, .v (.bool flex)), (8, .p 0 0), (9, .p 1 0), (11, .v (.int .i64 ((k : Nat) : Int))), (12, .p 2 0), (13, .p 3 0), (23, .v (.slice A l.length c)), (24, .v (.int .i64 ((l.length : Nat) : Int))), (25, .v (.int .i64 ((k : Nat) : Int))), (41, .v (.bool false))]) (by rw [cE])
      clear bH
      refine go_rn [9, 10, 11, 12] [13, 14, 15, 16, 17, 18, 19, 20, 21] [(0, .v (.slice A l.length c)), (1, .v (.int .i64 v)), (2, .v (.bool flex)), (8, .p 0 0), (9, .p 1 0), (11, .v (.int .i64 ((k : Nat) : Int))), (12, .p 2 0), (13, .p 3 0), (23, .v (.slice A l.length c)), (24, .v (.int .i64 ((l.length : Nat) : Int))), (25, .v (.int .i64 ((k : Nat) : Int))), (41, .v (.bool false)), (45, .v (.bool (decide (ag ≥ 0))))] ae dX fun kG bI => ?_
      clear dX
      refine (Bool.eq_false_or_eq_true (decide (ag ≥ 0))).elim (fun aZ => ?_) (fun aZ => ?_)
      ·
       have jd := of_decide_eq_true aZ
       have dY := bI.cast (env' := [(0, .v (.slice A l.length c)), (1, .v (.int .i64 v)), (2, .v (.bool flex)), (8, .p 0 0), (9, .p 1 0), (11, .v (.int .i64 ((k : Nat) : Int))), (12, .p 2 0), (13, .p 3 0), (23, .v (.slice A l.length c)), (24, .v (.int .i64 ((l.length : Nat) : Int))), (25, .v (.int .i64 ((k : Nat) : Int))), (41, .v (.bool false)), (45, .v (.bool true))]) (by rw [aZ])
       clear bI
       refine go_rn [13, 14, 15] [16, 17, 18, 19, 20, 21] [(0, .v (.slice A l.length c)), (1, .v (.int .i64 v)), (2, .v (.bool flex)), (8, .p 0 0), (9, .p 1 0), (11, .v (.int .i64 ((k : Nat) : Int))), (12, .p 2 0), (13, .p 3 0), (23, .v (.slice A l.length c)), (24, .v (.int .i64 ((l.length : Nat) : Int))), (25, .v (.int .i64 ((k : Nat) : Int))), (41, .v (.bool false)), (48, .v (.bool flex))] ae dY fun kH bJ => ?_
       clear dY
       refine (Bool.eq_false_or_eq_true (flex)).elim (fun ba => ?_) (fun ba => ?_)
       ·
        have dZ := bJ.cast (env' := [(0, .v (.slice A l.length c)), (1, .v (.int .i64 v)), (2, .v (.bool true)), (8, .p 0 0), (9, .p 1 0), (11, .v (.int .i64 ((k : Nat) : Int))), (12, .p 2 0), (13, .p 3 0), (23, .v (.slice A l.length c)), (24, .v (.int .i64 ((l.length : Nat) : Int))), (25, .v (.int .i64 ((k : Nat) : Int))), (41, .v (.bool false)), (48, .v (.bool true))]) (by rw [ba])
        clear bJ
        refine go_rn [16, 17] [18, 19, 20, 21] [(0, .v (.slice A l.length c)), (1, .v (.int .i64 v)), (2, .v (.bool true)), (8, .p 0 0), (9, .p 1 0), (11, .v (.int .i64 ((k : Nat) : Int))), (12, .p 2 0), (13, .p 3 0), (23, .v (.slice A l.length c)), (24, .v (.int .i64 ((l.length : Nat) : Int))), (25, .v (.int .i64 ((k : Nat) : Int))), (41, .v (.bool false)), (48, .v (.bool true)), (49, .v (.agg #[.int .i64 aj, .int .i64 ak, .int .i64 al, .int .i64 am, .int .i64 ag, .int .i64 ao, .int .i64 aa, .slice ap ab.length ar])), (50, .v (.agg #[.int .i64 aN, .slice aS aO.length aT, .bool aP, .slice aU aQ.length aV, .slice aW aR.length aX]))] ae dZ fun kI d5 => ?_
        clear dZ
        refine of_op (wpOp_call d5 (f := 59) (vs := [.agg #[.int .i64 aj, .int .i64 ak, .int .i64 al, .int .i64 am, .int .i64 ag, .int .i64 ao, .int .i64 aa, .slice ap ab.length ar], .agg #[.int .i64 aN, .slice aS aO.length aT, .bool aP, .slice aU aQ.length aV, .slice aW aR.length aX]]) (d := 51) kz Tryz.call59 (sUsual _ _ _ _ _ _ _ (bC.move ae.step nilM ae.imm) (Nat.le_refl _) (aM.move ((ay.trans az).trans aI).step immM ((ay.trans az).trans aI).to')) ?_)
        rintro e_ kJ ⟨rfl, d6⟩
        refine ⟨_, rfl, fun kK d7 => ?_⟩
        have d8 := ae.next_nil d6
        have gd := ae.frN d6
        clear d5 ae
        refine go_rn [19, 20, 21] [] [(0, .v (.slice A l.length c)), (1, .v (.int .i64 v)), (2, .v (.bool true)), (8, .p 0 0), (9, .p 1 0), (11, .v (.int .i64 ((k : Nat) : Int))), (12, .p 2 0), (13, .p 3 0), (23, .v (.slice A l.length c)), (24, .v (.int .i64 ((l.length : Nat) : Int))), (25, .v (.int .i64 ((k : Nat) : Int))), (54, .v (.bool (!(Fld.usual (Fld.mk aj ak al am ag ao aa ab) (Tree.at_ (Tree.mk n1 s2 b3 l4 u5) k)))))] d8 d7 fun kL ge => ?_
        clear d7
        refine wpOps_nil (then_normal ?_)
        have hp_ : Fld.pres (Fld.mk aj ak al am ag ao aa ab) v flex (Tree.at_ (Tree.mk n1 s2 b3 l4 u5) k) = !(Fld.usual (Fld.mk aj ak al am ag ao aa ab) (Tree.at_ (Tree.mk n1 s2 b3 l4 u5) k)) := by first | (first | exact pres_f (by assumption) (by assumption) | exact pres_g (by assumption)) | (exfalso; omega)
        exact ⟨(ge.pk (env' := [(0, .v (.slice A l.length c)), (1, .v (.int .i64 v)), (2, .v (.bool true)), (8, .p 0 0), (9, .p 1 0), (11, .v (.int .i64 ((k : Nat) : Int))), (12, .p 2 0), (13, .p 3 0), (23, .v (.slice A l.length c)), (24, .v (.int .i64 ((l.length : Nat) : Int))), (25, .v (.int .i64 ((k : Nat) : Int))), (54, .v (.bool (!(Fld.usual (Fld.mk aj ak al am ag ao aa ab) (Tree.at_ (Tree.mk n1 s2 b3 l4 u5) k)))))])).cast (by rw [hp_, ba]), d8, (aI.trans gd)⟩
       ·
        have d9 := bJ.cast (env' := [(0, .v (.slice A l.length c)), (1, .v (.int .i64 v)), (2, .v (.bool false)), (8, .p 0 0), (9, .p 1 0), (11, .v (.int .i64 ((k : Nat) : Int))), (12, .p 2 0), (13, .p 3 0), (23, .v (.slice A l.length c)), (24, .v (.int .i64 ((l.length : Nat) : Int))), (25, .v (.int .i64 ((k : Nat) : Int))), (41, .v (.bool false)), (48, .v (.bool false))]) (by rw [ba])
        clear bJ
        refine go_rn [16, 17, 18, 19, 20, 21] [] [(0, .v (.slice A l.length c)), (1, .v (.int .i64 v)), (2, .v (.bool false)), (8, .p 0 0), (9, .p 1 0), (11, .v (.int .i64 ((k : Nat) : Int))), (12, .p 2 0), (13, .p 3 0), (23, .v (.slice A l.length c)), (24, .v (.int .i64 ((l.length : Nat) : Int))), (25, .v (.int .i64 ((k : Nat) : Int))), (54, .v (.bool false))] ae d9 fun kM gg => ?_
        clear d9
        refine wpOps_nil (then_normal ?_)
        have hp_ : Fld.pres (Fld.mk aj ak al am ag ao aa ab) v flex (Tree.at_ (Tree.mk n1 s2 b3 l4 u5) k) = false := by first | (first | exact pres_c (by assumption) (by assumption) | exact pres_d (by assumption) (by assumption) | exact pres_e (by assumption) (by assumption)) | (exfalso; omega)
        exact ⟨(gg.pk (env' := [(0, .v (.slice A l.length c)), (1, .v (.int .i64 v)), (2, .v (.bool false)), (8, .p 0 0), (9, .p 1 0), (11, .v (.int .i64 ((k : Nat) : Int))), (12, .p 2 0), (13, .p 3 0), (23, .v (.slice A l.length c)), (24, .v (.int .i64 ((l.length : Nat) : Int))), (25, .v (.int .i64 ((k : Nat) : Int))), (54, .v (.bool false))])).cast (by rw [hp_, ba]), ae, aI⟩
      ·
       have je := of_decide_eq_false aZ
       have ea := bI.cast (env' := [(0, .v (.slice A l.length c)), (1, .v (.int .i64 v)), (2, .v (.bool flex)), (8, .p 0 0), (9, .p 1 0), (11, .v (.int .i64 ((k : Nat) : Int))), (12, .p 2 0), (13, .p 3 0), (23, .v (.slice A l.length c)), (24, .v (.int .i64 ((l.length : Nat) : Int))), (25, .v (.int .i64 ((k : Nat) : Int))), (41, .v (.bool false)), (45, .v (.bool false))]) (by rw [aZ])
       clear bI
       refine go_rn [13, 14, 15, 16, 17, 18, 19, 20, 21] [] [(0, .v (.slice A l.length c)), (1, .v (.int .i64 v)), (2, .v (.bool flex)), (8, .p 0 0), (9, .p 1 0), (11, .v (.int .i64 ((k : Nat) : Int))), (12, .p 2 0), (13, .p 3 0), (23, .v (.slice A l.length c)), (24, .v (.int .i64 ((l.length : Nat) : Int))), (25, .v (.int .i64 ((k : Nat) : Int))), (54, .v (.bool false))] ae ea fun kN gh => ?_
       clear ea
       refine wpOps_nil (then_normal ?_)
       have hp_ : Fld.pres (Fld.mk aj ak al am ag ao aa ab) v flex (Tree.at_ (Tree.mk n1 s2 b3 l4 u5) k) = false := by first | (first | exact pres_c (by assumption) (by assumption) | exact pres_d (by assumption) (by assumption) | exact pres_e (by assumption) (by assumption)) | (exfalso; omega)
       exact ⟨(gh.pk (env' := [(0, .v (.slice A l.length c)), (1, .v (.int .i64 v)), (2, .v (.bool flex)), (8, .p 0 0), (9, .p 1 0), (11, .v (.int .i64 ((k : Nat) : Int))), (12, .p 2 0), (13, .p 3 0), (23, .v (.slice A l.length c)), (24, .v (.int .i64 ((l.length : Nat) : Int))), (25, .v (.int .i64 ((k : Nat) : Int))), (54, .v (.bool false))])).cast (by rw [hp_]), ae, aI⟩
    ·
     have jf := of_decide_eq_false aY
     have eb := bG.cast (env' := [(0, .v (.slice A l.length c)), (1, .v (.int .i64 v)), (2, .v (.bool flex)), (8, .p 0 0), (9, .p 1 0), (11, .v (.int .i64 ((k : Nat) : Int))), (12, .p 2 0), (13, .p 3 0), (23, .v (.slice A l.length c)), (24, .v (.int .i64 ((l.length : Nat) : Int))), (25, .v (.int .i64 ((k : Nat) : Int))), (36, .v (.bool false))]) (by rw [aY])
     clear bG
     refine go_rn [4, 5, 6, 7, 8, 9, 10, 11, 12] [13, 14, 15, 16, 17, 18, 19, 20, 21] [(0, .v (.slice A l.length c)), (1, .v (.int .i64 v)), (2, .v (.bool flex)), (8, .p 0 0), (9, .p 1 0), (11, .v (.int .i64 ((k : Nat) : Int))), (12, .p 2 0), (13, .p 3 0), (23, .v (.slice A l.length c)), (24, .v (.int .i64 ((l.length : Nat) : Int))), (25, .v (.int .i64 ((k : Nat) : Int))), (41, .v (.bool false)), (45, .v (.bool (decide (ag ≥ 0))))] ac eb fun kO bK => ?_
     clear eb
     refine (Bool.eq_false_or_eq_true (decide (ag ≥ 0))).elim (fun bd => ?_) (fun bd => ?_)
     ·
      have jg := of_decide_eq_true bd
      have ec := bK.cast (env' := [(0, .v (.slice A l.length c)), (1, .v (.int .i64 v)), (2, .v (.bool flex)), (8, .p 0 0), (9, .p 1 0), (11, .v (.int .i64 ((k : Nat) : Int))), (12, .p 2 0), (13, .p 3 0), (23, .v (.slice A l.length c)), (24, .v (.int .i64 ((l.length : Nat) : Int))), (25, .v (.int .i64 ((k : Nat) : Int))), (41, .v (.bool false)), (45, .v (.bool true))]) (by rw [bd])
      clear bK
      refine go_rn [13, 14, 15] [16, 17, 18, 19, 20, 21] [(0, .v (.slice A l.length c)), (1, .v (.int .i64 v)), (2, .v (.bool flex)), (8, .p 0 0), (9, .p 1 0), (11, .v (.int .i64 ((k : Nat) : Int))), (12, .p 2 0), (13, .p 3 0), (23, .v (.slice A l.length c)), (24, .v (.int .i64 ((l.length : Nat) : Int))), (25, .v (.int .i64 ((k : Nat) : Int))), (41, .v (.bool false)), (48, .v (.bool flex))] ac ec fun kP bL => ?_
      clear ec
      refine (Bool.eq_false_or_eq_true (flex)).elim (fun bf => ?_) (fun bf => ?_)
      ·
       have ee := bL.cast (env' := [(0, .v (.slice A l.length c)), (1, .v (.int .i64 v)), (2, .v (.bool true)), (8, .p 0 0), (9, .p 1 0), (11, .v (.int .i64 ((k : Nat) : Int))), (12, .p 2 0), (13, .p 3 0), (23, .v (.slice A l.length c)), (24, .v (.int .i64 ((l.length : Nat) : Int))), (25, .v (.int .i64 ((k : Nat) : Int))), (41, .v (.bool false)), (48, .v (.bool true))]) (by rw [bf])
       clear bL
       refine go_rn [16, 17] [18, 19, 20, 21] [(0, .v (.slice A l.length c)), (1, .v (.int .i64 v)), (2, .v (.bool true)), (8, .p 0 0), (9, .p 1 0), (11, .v (.int .i64 ((k : Nat) : Int))), (12, .p 2 0), (13, .p 3 0), (23, .v (.slice A l.length c)), (24, .v (.int .i64 ((l.length : Nat) : Int))), (25, .v (.int .i64 ((k : Nat) : Int))), (41, .v (.bool false)), (48, .v (.bool true)), (49, .v (.agg #[.int .i64 aj, .int .i64 ak, .int .i64 al, .int .i64 am, .int .i64 ag, .int .i64 ao, .int .i64 aa, .slice ap ab.length ar])), (50, .v (.agg #[.int .i64 aN, .slice aS aO.length aT, .bool aP, .slice aU aQ.length aV, .slice aW aR.length aX]))] ac ee fun kQ ef => ?_
       clear ee
       refine of_op (wpOp_call ef (f := 59) (vs := [.agg #[.int .i64 aj, .int .i64 ak, .int .i64 al, .int .i64 am, .int .i64 ag, .int .i64 ao, .int .i64 aa, .slice ap ab.length ar], .agg #[.int .i64 aN, .slice aS aO.length aT, .bool aP, .slice aU aQ.length aV, .slice aW aR.length aX]]) (d := 51) kz Tryz.call59 (sUsual _ _ _ _ _ _ _ (bC.move ac.step nilM ac.imm) (Nat.le_refl _) (aM.move (ay.trans az).step immM (ay.trans az).to')) ?_)
       rintro e_ kR ⟨rfl, eg⟩
       refine ⟨_, rfl, fun kS eh => ?_⟩
       have ei := ac.next_nil eg
       have gi := ac.frN eg
       clear ef
       refine go_rn [19, 20, 21] [] [(0, .v (.slice A l.length c)), (1, .v (.int .i64 v)), (2, .v (.bool true)), (8, .p 0 0), (9, .p 1 0), (11, .v (.int .i64 ((k : Nat) : Int))), (12, .p 2 0), (13, .p 3 0), (23, .v (.slice A l.length c)), (24, .v (.int .i64 ((l.length : Nat) : Int))), (25, .v (.int .i64 ((k : Nat) : Int))), (54, .v (.bool (!(Fld.usual (Fld.mk aj ak al am ag ao aa ab) (Tree.at_ (Tree.mk n1 s2 b3 l4 u5) k)))))] ei eh fun kT gj => ?_
       clear eh
       refine wpOps_nil (then_normal ?_)
       have hp_ : Fld.pres (Fld.mk aj ak al am ag ao aa ab) v flex (Tree.at_ (Tree.mk n1 s2 b3 l4 u5) k) = !(Fld.usual (Fld.mk aj ak al am ag ao aa ab) (Tree.at_ (Tree.mk n1 s2 b3 l4 u5) k)) := by first | (first | exact pres_f (by assumption) (by assumption) | exact pres_g (by assumption)) | (exfalso; omega)
       exact ⟨(gj.pk (env' := [(0, .v (.slice A l.length c)), (1, .v (.int .i64 v)), (2, .v (.bool true)), (8, .p 0 0), (9, .p 1 0), (11, .v (.int .i64 ((k : Nat) : Int))), (12, .p 2 0), (13, .p 3 0), (23, .v (.slice A l.length c)), (24, .v (.int .i64 ((l.length : Nat) : Int))), (25, .v (.int .i64 ((k : Nat) : Int))), (54, .v (.bool (!(Fld.usual (Fld.mk aj ak al am ag ao aa ab) (Tree.at_ (Tree.mk n1 s2 b3 l4 u5) k)))))])).cast (by rw [hp_, bf]), ei, gi⟩
      ·
       have ej := bL.cast (env' := [(0, .v (.slice A l.length c)), (1, .v (.int .i64 v)), (2, .v (.bool false)), (8, .p 0 0), (9, .p 1 0), (11, .v (.int .i64 ((k : Nat) : Int))), (12, .p 2 0), (13, .p 3 0), (23, .v (.slice A l.length c)), (24, .v (.int .i64 ((l.length : Nat) : Int))), (25, .v (.int .i64 ((k : Nat) : Int))), (41, .v (.bool false)), (48, .v (.bool false))]) (by rw [bf])
       clear bL
       refine go_rn [16, 17, 18, 19, 20, 21] [] [(0, .v (.slice A l.length c)), (1, .v (.int .i64 v)), (2, .v (.bool false)), (8, .p 0 0), (9, .p 1 0), (11, .v (.int .i64 ((k : Nat) : Int))), (12, .p 2 0), (13, .p 3 0), (23, .v (.slice A l.length c)), (24, .v (.int .i64 ((l.length : Nat) : Int))), (25, .v (.int .i64 ((k : Nat) : Int))), (54, .v (.bool false))] ac ej fun kU gk => ?_
       clear ej
       refine wpOps_nil (then_normal ?_)
       have hp_ : Fld.pres (Fld.mk aj ak al am ag ao aa ab) v flex (Tree.at_ (Tree.mk n1 s2 b3 l4 u5) k) = false := by first | (first | exact pres_c (by assumption) (by assumption) | exact pres_d (by assumption) (by assumption) | exact pres_e (by assumption) (by assumption)) | (exfalso; omega)
       exact ⟨(gk.pk (env' := [(0, .v (.slice A l.length c)), (1, .v (.int .i64 v)), (2, .v (.bool false)), (8, .p 0 0), (9, .p 1 0), (11, .v (.int .i64 ((k : Nat) : Int))), (12, .p 2 0), (13, .p 3 0), (23, .v (.slice A l.length c)), (24, .v (.int .i64 ((l.length : Nat) : Int))), (25, .v (.int .i64 ((k : Nat) : Int))), (54, .v (.bool false))])).cast (by rw [hp_, bf]), ac, Fr.refl _ _ _⟩
     ·
      have jh := of_decide_eq_false bd
      have ek := bK.cast (env' := [(0, .v (.slice A l.length c)), (1, .v (.int .i64 v)), (2, .v (.bool flex)), (8, .p 0 0), (9, .p 1 0), (11, .v (.int .i64 ((k : Nat) : Int))), (12, .p 2 0), (13, .p 3 0), (23, .v (.slice A l.length c)), (24, .v (.int .i64 ((l.length : Nat) : Int))), (25, .v (.int .i64 ((k : Nat) : Int))), (41, .v (.bool false)), (45, .v (.bool false))]) (by rw [bd])
      clear bK
      refine go_rn [13, 14, 15, 16, 17, 18, 19, 20, 21] [] [(0, .v (.slice A l.length c)), (1, .v (.int .i64 v)), (2, .v (.bool flex)), (8, .p 0 0), (9, .p 1 0), (11, .v (.int .i64 ((k : Nat) : Int))), (12, .p 2 0), (13, .p 3 0), (23, .v (.slice A l.length c)), (24, .v (.int .i64 ((l.length : Nat) : Int))), (25, .v (.int .i64 ((k : Nat) : Int))), (54, .v (.bool false))] ac ek fun kV gl => ?_
      clear ek
      refine wpOps_nil (then_normal ?_)
      have hp_ : Fld.pres (Fld.mk aj ak al am ag ao aa ab) v flex (Tree.at_ (Tree.mk n1 s2 b3 l4 u5) k) = false := by first | (first | exact pres_c (by assumption) (by assumption) | exact pres_d (by assumption) (by assumption) | exact pres_e (by assumption) (by assumption)) | (exfalso; omega)
      exact ⟨(gl.pk (env' := [(0, .v (.slice A l.length c)), (1, .v (.int .i64 v)), (2, .v (.bool flex)), (8, .p 0 0), (9, .p 1 0), (11, .v (.int .i64 ((k : Nat) : Int))), (12, .p 2 0), (13, .p 3 0), (23, .v (.slice A l.length c)), (24, .v (.int .i64 ((l.length : Nat) : Int))), (25, .v (.int .i64 ((k : Nat) : Int))), (54, .v (.bool false))])).cast (by rw [hp_]), ac, Fr.refl _ _ _⟩
   rintro kW kX ⟨bg, bM, bh⟩
   refine cond_of bg (b := Fld.pres (Fld.mk aj ak al am ag ao aa ab) v flex (Tree.at_ (Tree.mk n1 s2 b3 l4 u5) k)) kz (fun gm => ?_) (fun gm => ?_)
   ·
    refine wp_seq ?_
    refine go_seq_drawK 11 kz bM fun kY cG aC cH => ?_
    clear bM
    refine go_rnD [0, 1, 2, 3, 4, 5, 6] [(0, .v (.slice A l.length c)), (1, .v (.int .i64 v)), (2, .v (.bool flex)), (8, .p 0 0), (9, .p 1 0), (23, .v (.slice A l.length c)), (24, .v (.int .i64 ((l.length : Nat) : Int))), (25, .v (.int .i64 ((k : Nat) : Int))), (55, .v (.agg #[.int .i64 aj, .int .i64 ak, .int .i64 al, .int .i64 am, .int .i64 ag, .int .i64 ao, .int .i64 aa, .slice ap ab.length ar])), (56, .v (.int .i64 v)), (57, .v (.bool flex)), (58, .v (.agg #[.int .i64 aN, .slice aS aO.length aT, .bool aP, .slice aU aQ.length aV, .slice aW aR.length aX])), (60, .v (.slice bV aG.length ce)), (61, .v (.int .i64 ((k : Nat) : Int)))] 4 (panicFree_then (panicFree_then (panicFree_then (panicFree_block (panicFree_then (panicFree_then (panicFree_block (panicFree_then panicFree_body)))))))) (fun _ h => h.cells) cH bg fun kZ em => ?_
    clear bg
    obtain ⟨iv, iw, gn, ji, cI⟩ := Slots.get ig (i := k) (by first | omega | (have h_ := told_idx hgu (by assumption); omega))
    obtain ⟨ix, eo⟩ : ∃ x, aG[k]? = some x := ⟨_, List.getElem?_eq_getElem (by omega)⟩
    have cJ := iR k ix eo
    obtain ⟨dq, dr, dt, du, dv, fN, fO, fP, fQ, fR, fS, jj, rfl, cK, iy, iz, k5, k6⟩ := cJ.open_
    rw [cK] at cJ
    have iA := iy.small
    have iB := iz.small
    rw [cK] at cI
    refine takeC_index em (i := 7) (t := 23) (A := bV) (m := aG.length) (q := ((k : Nat) : Int)) (d := 62) kz (e := 26) (size := 5) (bytes := 88) kz gn rfl (by first | omega | (have h_ := told_idx hgu (by assumption); omega)) kz kz (panicFree_then (panicFree_then (panicFree_then (panicFree_block (panicFree_then (panicFree_then (panicFree_block (panicFree_then panicFree_body)))))))) cH fun k7 ep => ?_
    clear em
    refine takeC_load ep (i := 8) (t := 26) (b := iv) (o := iw + k * 5) (d := 63) kz (cs := [.int .i64 dq, .slice fN dr.length fO, .bool dt, .slice fP du.length fQ, .slice fR dv.length fS]) (v := .agg #[.int .i64 dq, .slice fN dr.length fO, .bool dt, .slice fP du.length fQ, .slice fR dv.length fS]) kz (fun w' h' => (AtF.move cI (TT.step0 aC h') nilM keepF).at_) kz kz (panicFree_then (panicFree_then (panicFree_then (panicFree_block (panicFree_then (panicFree_then (panicFree_block (panicFree_then panicFree_body)))))))) cH fun k8 eu => ?_
    clear ep
    refine anyC_op (i := 9) kz (wpOp_call eu (f := 60) (vs := [.agg #[.int .i64 aj, .int .i64 ak, .int .i64 al, .int .i64 am, .int .i64 ag, .int .i64 ao, .int .i64 aa, .slice ap ab.length ar], .int .i64 v, .bool flex, .agg #[.int .i64 aN, .slice aS aO.length aT, .bool aP, .slice aU aQ.length aV, .slice aW aR.length aX], .agg #[.int .i64 dq, .slice fN dr.length fO, .bool dt, .slice fP du.length fQ, .slice fR dv.length fS]]) (d := 64) kz Tryz.call60 ( sTold1 hT _ _ _ (Tree.at_ (Tree.mk n1 s2 b3 l4 u5) k) _ (Tree.mk dq dr dt du dv) _ _ (bC.move aC.step nilM aC.imm) (plains_mem hpl (List.mem_of_getElem? cu)) (aM.move (((ay.trans az).trans bh).trans cG).step immM (((ay.trans az).trans bh).trans cG).to') (cJ.move aC.step nilM aC.imm) ((hP.2.1 k _ _ cu eo).1 (by assumption))) ?_)
    rintro e_ k9 ⟨rfl, ev⟩
    refine ⟨_, rfl, fun la ew => ?_⟩
    have cL := aC.next_nil ev
    have ey := aC.frN ev
    clear eu
    have ez := TT.ofW ey cL
    refine ⟨fun _ => ez, ?_⟩
    refine go_rnD [10] [(0, .v (.slice A l.length c)), (1, .v (.int .i64 v)), (2, .v (.bool flex)), (8, .p 0 0), (9, .p 1 0), (23, .v (.slice A l.length c)), (24, .v (.int .i64 ((l.length : Nat) : Int))), (25, .v (.int .i64 ((k : Nat) : Int))), (65, .v (.bool false))] 0 (panicFree_then (panicFree_then (panicFree_then (panicFree_block (panicFree_then (panicFree_then (panicFree_block (panicFree_then panicFree_body)))))))) (fun _ h => h.cells) ez ew fun lb cM => ?_
    clear ew
    refine anyC_done kz ?_ _
    refine then_normal ?_
    refine cond_false cM (b := false) kz rfl ?_
    refine wp_skip ?_
    refine then_normal ?_
    refine wp_exit ?_
    refine then_exit ?_
    refine block_exit ?_
    refine then_normal ?_
    refine go_region [0, 1] kz ?_
    refine go_rn [0, 1] [] [(0, .v (.slice A l.length c)), (1, .v (.int .i64 v)), (2, .v (.bool flex)), (8, .p 0 0), (9, .p 1 0), (23, .v (.slice A l.length c)), (24, .v (.int .i64 ((l.length : Nat) : Int))), (25, .v (.int .i64 (IntKind.i64.wrap (((k : Nat) : Int) + 1))))] cL cM fun lc gp => ?_
    clear cM
    refine wpOps_nil (then_normal ?_)
    obtain ⟨eB, gq, gt⟩ := cL.cutB gp 2 [⟨dE, 0, [.int .i64 n1, .slice A6 s2.length c7, .bool b3, .slice A8 l4.length c9, .slice bT u5.length bU], true⟩, ⟨dF, 0, [.int .i64 dh, .slice dl di.length dp, .bool dj, .slice bV aG.length ce, .slice bW aB.length cm], true⟩] [(0, .v (.slice A l.length c)), (1, .v (.int .i64 v)), (2, .v (.bool flex)), (8, .p 0 0), (9, .p 1 0), (23, .v (.slice A l.length c)), (24, .v (.int .i64 ((l.length : Nat) : Int))), (25, .v (.int .i64 (IntKind.i64.wrap (((k : Nat) : Int) + 1))))]
    have gv : IntKind.i64.wrap (((k : Nat) : Int) + 1) = ((k + 1 : Nat) : Int) := wrap_succ (by omega)
    rw [gv] at eB
    exact ⟨l.length - (k + 1), by omega, k + 1, rfl, by omega, eB.pk, gq, (((((((((fL.trans cz).trans cB).trans cD).trans ay).trans az).trans bh).trans cG).trans ey).trans gt)⟩
   ·
    refine wp_skip ?_
    refine then_normal ?_
    refine go_seq_drawK 11 kz bM fun ld eC cN cO => ?_
    clear bM
    refine go_rnD [0, 2, 3, 4] [(0, .v (.slice A l.length c)), (1, .v (.int .i64 v)), (2, .v (.bool flex)), (8, .p 0 0), (9, .p 1 0), (23, .v (.slice A l.length c)), (24, .v (.int .i64 ((l.length : Nat) : Int))), (25, .v (.int .i64 ((k : Nat) : Int))), (66, .v (.agg #[.int .i64 aj, .int .i64 ak, .int .i64 al, .int .i64 am, .int .i64 ag, .int .i64 ao, .int .i64 aa, .slice ap ab.length ar])), (69, .v (.slice bV aG.length ce)), (70, .v (.int .i64 ((k : Nat) : Int)))] 7 (panicFree_then (panicFree_block (panicFree_then (panicFree_then (panicFree_block (panicFree_then panicFree_body)))))) (fun _ h => h.cells) cO bg fun lf eD => ?_
    clear bg
    obtain ⟨iC, iD, gw, jk, cP⟩ := Slots.get ig (i := k) (by first | omega | (have h_ := told_idx hgu (by assumption); omega))
    obtain ⟨iE, cQ⟩ : ∃ x, aG[k]? = some x := ⟨_, List.getElem?_eq_getElem (by omega)⟩
    have bN := iR k iE cQ
    obtain ⟨bX, bY, bZ, b8, cd, dw, dx, dy, dz, dA, dB, jl, rfl, cR, iF, iG, lg, lh⟩ := bN.open_
    rw [cR] at bN
    have iH := iF.small
    have iI := iG.small
    rw [cR] at cP
    refine takeC_index eD (i := 5) (t := 23) (A := bV) (m := aG.length) (q := ((k : Nat) : Int)) (d := 71) kz (e := 26) (size := 5) (bytes := 88) kz gw rfl (by first | omega | (have h_ := told_idx hgu (by assumption); omega)) kz kz (panicFree_then (panicFree_block (panicFree_then (panicFree_then (panicFree_block (panicFree_then panicFree_body)))))) cO fun li eE => ?_
    clear eD
    refine takeC_load eE (i := 6) (t := 26) (b := iC) (o := iD + k * 5) (d := 72) kz (cs := [.int .i64 bX, .slice dw bY.length dx, .bool bZ, .slice dy b8.length dz, .slice dA cd.length dB]) (v := .agg #[.int .i64 bX, .slice dw bY.length dx, .bool bZ, .slice dy b8.length dz, .slice dA cd.length dB]) kz (fun w' h' => (AtF.move cP (TT.step0 cN h') nilM keepF).at_) kz kz (panicFree_then (panicFree_block (panicFree_then (panicFree_then (panicFree_block (panicFree_then panicFree_body)))))) cO fun lj bO => ?_
    clear eE
    refine anyC_two (i := 1) (j := 7) kz ?_ ?_
    ·
     refine (wpOp_lit cN bO (e := 52) (size := 8) (len := 1) (cs := [.int .i64 aj, .int .i64 ak, .int .i64 al, .int .i64 am, .int .i64 ag, .int .i64 ao, .int .i64 aa, .slice ap ab.length ar]) (d := 67) kz kz fun gx lm ln jm jn bP cS eF => ?_)
     clear bO
     have gy := TT.ofW bP cS
     refine ⟨fun _ => gy, ?_⟩
     refine anyC_op (i := 7) kz (wpOp_lit cS eF (e := 26) (size := 5) (len := 1) (cs := [.int .i64 bX, .slice dw bY.length dx, .bool bZ, .slice dy b8.length dz, .slice dA cd.length dB]) (d := 73) kz kz fun gz lp lq jo jp cT au eG => ?_)
     clear eF cS
     have eH := TT.ofW (bP.trans cT) au
     refine ⟨fun _ => eH, ?_⟩
     refine go_rnD [8] [(0, .v (.slice A l.length c)), (1, .v (.int .i64 v)), (2, .v (.bool flex)), (8, .p 0 0), (9, .p 1 0), (23, .v (.slice A l.length c)), (24, .v (.int .i64 ((l.length : Nat) : Int))), (25, .v (.int .i64 ((k : Nat) : Int))), (67, .v (.slice (some ⟨gx, 0, none⟩) 1 1)), (74, .v (.agg #[.int .i64 0, .slice none 0 0, .bool false, .slice (some ⟨gz, 0, none⟩) 1 1, .slice none 0 0]))] 2 (panicFree_then (panicFree_block (panicFree_then (panicFree_then (panicFree_block (panicFree_then panicFree_body)))))) (fun _ h => h.cells) eH eG fun lr eI => ?_
     clear eG
     refine anyC_op (i := 9) kz (wpOp_call eI (f := 61) (vs := [.slice (some ⟨gx, 0, none⟩) 1 1, .agg #[.int .i64 0, .slice none 0 0, .bool false, .slice (some ⟨gz, 0, none⟩) 1 1, .slice none 0 0]]) (d := 75) kz Tryz.call61 ( sUs hU _ _ [(Fld.mk aj ak al am ag ao aa ab)] _ (.mk 0 [] false [(Tree.mk bX bY bZ b8 cd)] []) _ _ (flds_one (au.own 0 _ rfl) ((bC.move au.step nilM au.imm)) (Nat.le_refl _)) (tree_one (au.own 1 _ rfl) ((bN.move au.step nilM au.imm)) (Nat.le_refl _)) (us_one ((hP.2.1 k _ _ cu cQ).2 (by assumption)))) ?_)
     rintro e_ ls ⟨rfl, eJ⟩
     refine ⟨_, rfl, fun lu eK => ?_⟩
     have cU := au.next_nil eJ
     have eL := au.frN eJ
     clear eI au
     have eM := TT.ofW ((bP.trans cT).trans eL) cU
     refine ⟨fun _ => eM, ?_⟩
     refine go_rnD [10] [(0, .v (.slice A l.length c)), (1, .v (.int .i64 v)), (2, .v (.bool flex)), (8, .p 0 0), (9, .p 1 0), (23, .v (.slice A l.length c)), (24, .v (.int .i64 ((l.length : Nat) : Int))), (25, .v (.int .i64 ((k : Nat) : Int))), (76, .v (.bool false))] 0 (panicFree_then (panicFree_block (panicFree_then (panicFree_then (panicFree_block (panicFree_then panicFree_body)))))) (fun _ h => h.cells) eM eK fun lv cV => ?_
     clear eK
     refine anyC_done kz ?_ _
     refine then_normal ?_
     refine cond_false cV (b := false) kz rfl ?_
     refine wp_skip ?_
     refine block_normal ?_
     refine then_normal ?_
     refine go_region [0, 1] kz ?_
     refine go_rn [0, 1] [] [(0, .v (.slice A l.length c)), (1, .v (.int .i64 v)), (2, .v (.bool flex)), (8, .p 0 0), (9, .p 1 0), (23, .v (.slice A l.length c)), (24, .v (.int .i64 ((l.length : Nat) : Int))), (25, .v (.int .i64 (IntKind.i64.wrap (((k : Nat) : Int) + 1))))] cU cV fun lw gA => ?_
     clear cV
     refine wpOps_nil (then_normal ?_)
     obtain ⟨eN, gB, gC⟩ := cU.cutB gA 2 [⟨dE, 0, [.int .i64 n1, .slice A6 s2.length c7, .bool b3, .slice A8 l4.length c9, .slice bT u5.length bU], true⟩, ⟨dF, 0, [.int .i64 dh, .slice dl di.length dp, .bool dj, .slice bV aG.length ce, .slice bW aB.length cm], true⟩] [(0, .v (.slice A l.length c)), (1, .v (.int .i64 v)), (2, .v (.bool flex)), (8, .p 0 0), (9, .p 1 0), (23, .v (.slice A l.length c)), (24, .v (.int .i64 ((l.length : Nat) : Int))), (25, .v (.int .i64 (IntKind.i64.wrap (((k : Nat) : Int) + 1))))]
     obtain ⟨gD, gE⟩ := gB.cutR 0 []
     have gF : IntKind.i64.wrap (((k : Nat) : Int) + 1) = ((k + 1 : Nat) : Int) := wrap_succ (by omega)
     rw [gF] at eN
     exact ⟨l.length - (k + 1), by omega, k + 1, rfl, by omega, eN.pk, gD, ((((((((((((fL.trans cz).trans cB).trans cD).trans ay).trans az).trans bh).trans eC).trans bP).trans cT).trans eL).trans gC).trans gE)⟩
    ·
     refine (wpOp_lit cN bO (e := 26) (size := 5) (len := 1) (cs := [.int .i64 bX, .slice dw bY.length dx, .bool bZ, .slice dy b8.length dz, .slice dA cd.length dB]) (d := 73) kz kz fun gG lx ly jq jr bQ cW eO => ?_)
     clear bO
     have eP := TT.ofW bQ cW
     refine ⟨fun _ => eP, ?_⟩
     refine go_rnD [8] [(0, .v (.slice A l.length c)), (1, .v (.int .i64 v)), (2, .v (.bool flex)), (8, .p 0 0), (9, .p 1 0), (23, .v (.slice A l.length c)), (24, .v (.int .i64 ((l.length : Nat) : Int))), (25, .v (.int .i64 ((k : Nat) : Int))), (66, .v (.agg #[.int .i64 aj, .int .i64 ak, .int .i64 al, .int .i64 am, .int .i64 ag, .int .i64 ao, .int .i64 aa, .slice ap ab.length ar])), (74, .v (.agg #[.int .i64 0, .slice none 0 0, .bool false, .slice (some ⟨gG, 0, none⟩) 1 1, .slice none 0 0]))] 3 (panicFree_then (panicFree_block (panicFree_then (panicFree_then (panicFree_block (panicFree_then panicFree_body)))))) (fun _ h => h.cells) eP eO fun lz eQ => ?_
     clear eO
     refine anyC_op (i := 1) kz (wpOp_lit cW eQ (e := 52) (size := 8) (len := 1) (cs := [.int .i64 aj, .int .i64 ak, .int .i64 al, .int .i64 am, .int .i64 ag, .int .i64 ao, .int .i64 aa, .slice ap ab.length ar]) (d := 67) kz kz fun iJ lA lB js jt cX av eR => ?_)
     clear eQ cW
     have gH := TT.ofW (bQ.trans cX) av
     refine ⟨fun _ => gH, ?_⟩
     refine anyC_op (i := 9) kz (wpOp_call eR (f := 61) (vs := [.slice (some ⟨iJ, 0, none⟩) 1 1, .agg #[.int .i64 0, .slice none 0 0, .bool false, .slice (some ⟨gG, 0, none⟩) 1 1, .slice none 0 0]]) (d := 75) kz Tryz.call61 ( sUs hU _ _ [(Fld.mk aj ak al am ag ao aa ab)] _ (.mk 0 [] false [(Tree.mk bX bY bZ b8 cd)] []) _ _ (flds_one (av.own 1 _ rfl) ((bC.move av.step nilM av.imm)) (Nat.le_refl _)) (tree_one (av.own 0 _ rfl) ((bN.move av.step nilM av.imm)) (Nat.le_refl _)) (us_one ((hP.2.1 k _ _ cu cQ).2 (by assumption)))) ?_)
     rintro e_ lC ⟨rfl, eS⟩
     refine ⟨_, rfl, fun lD eU => ?_⟩
     have cY := av.next_nil eS
     have eV := av.frN eS
     clear eR av
     have eW := TT.ofW ((bQ.trans cX).trans eV) cY
     refine ⟨fun _ => eW, ?_⟩
     refine go_rnD [10] [(0, .v (.slice A l.length c)), (1, .v (.int .i64 v)), (2, .v (.bool flex)), (8, .p 0 0), (9, .p 1 0), (23, .v (.slice A l.length c)), (24, .v (.int .i64 ((l.length : Nat) : Int))), (25, .v (.int .i64 ((k : Nat) : Int))), (76, .v (.bool false))] 0 (panicFree_then (panicFree_block (panicFree_then (panicFree_then (panicFree_block (panicFree_then panicFree_body)))))) (fun _ h => h.cells) eW eU fun lE cZ => ?_
     clear eU
     refine anyC_done kz ?_ _
     refine then_normal ?_
     refine cond_false cZ (b := false) kz rfl ?_
     refine wp_skip ?_
     refine block_normal ?_
     refine then_normal ?_
     refine go_region [0, 1] kz ?_
     refine go_rn [0, 1] [] [(0, .v (.slice A l.length c)), (1, .v (.int .i64 v)), (2, .v (.bool flex)), (8, .p 0 0), (9, .p 1 0), (23, .v (.slice A l.length c)), (24, .v (.int .i64 ((l.length : Nat) : Int))), (25, .v (.int .i64 (IntKind.i64.wrap (((k : Nat) : Int) + 1))))] cY cZ fun lF gI => ?_
     clear cZ
     refine wpOps_nil (then_normal ?_)
     obtain ⟨eX, gJ, gK⟩ := cY.cutB gI 2 [⟨dE, 0, [.int .i64 n1, .slice A6 s2.length c7, .bool b3, .slice A8 l4.length c9, .slice bT u5.length bU], true⟩, ⟨dF, 0, [.int .i64 dh, .slice dl di.length dp, .bool dj, .slice bV aG.length ce, .slice bW aB.length cm], true⟩] [(0, .v (.slice A l.length c)), (1, .v (.int .i64 v)), (2, .v (.bool flex)), (8, .p 0 0), (9, .p 1 0), (23, .v (.slice A l.length c)), (24, .v (.int .i64 ((l.length : Nat) : Int))), (25, .v (.int .i64 (IntKind.i64.wrap (((k : Nat) : Int) + 1))))]
     obtain ⟨gL, gM⟩ := gJ.cutR 0 []
     have gN : IntKind.i64.wrap (((k : Nat) : Int) + 1) = ((k + 1 : Nat) : Int) := wrap_succ (by omega)
     rw [gN] at eX
     exact ⟨l.length - (k + 1), by omega, k + 1, rfl, by omega, eX.pk, gL, ((((((((((((fL.trans cz).trans cB).trans cD).trans ay).trans az).trans bh).trans eC).trans bQ).trans cX).trans eV).trans gK).trans gM)⟩
  ·
   have ju := of_decide_eq_false fM
   refine wp_exit ?_
   refine then_exit ?_
   refine then_exit ?_
   refine block_exit ?_
   refine then_normal ?_
   refine go_seq_region [0, 1, 2, 3, 4] kz ?_
   refine go_rn [0, 1, 2] [3, 4] [(2, .v (.bool flex)), (9, .p 1 0), (78, .v (.slice A l.length c)), (80, .v (.slice bT u5.length bU))] ax cr fun lG eY => ?_
   clear cr
   refine of_op (wpOp_call eY (f := 62) (vs := [.slice A l.length c, .slice bT u5.length bU]) (d := 81) kz Tryz.call62 (sUnknown _ _ l _ _ u5 _ _ ⟨xfs, (h1.move ax.step nilM ax.imm), (fun i_ x_ h_ => ((h2 i_ x_ h_).move ax.step nilM ax.imm))⟩ (jR.move ax.step nilM ax.imm)) ?_)
   rintro e_ lH ⟨ah, ai, rfl, gO, c5⟩
   have gP := gO.move (Step.refl _ Nil) nilM (ax.laid (G := F) c5)
   refine ⟨_, rfl, fun lI eZ => ?_⟩
   have af := ax.next_nil c5
   have jv := ax.frN c5
   clear eY
   refine go_rn [4] [] [(2, .v (.bool flex)), (9, .p 1 0), (14, .v (.slice ah ((unknownT l u5).length) ai))] af eZ fun lJ e9 => ?_
   clear eZ
   refine wpOps_nil (then_normal ?_)
   refine wp_seq ?_
   refine go_sp [(9, .p 1 0), (14, .v (.slice ah ((unknownT l u5).length) ai)), (83, .v (.bool (!flex)))] af e9 fun lK bi => ?_
   clear e9
   refine cond_of bi (b := !flex) kz (fun gQ => ?_) (fun gQ => ?_)
   ·
    refine go_region [0] kz ?_
    refine go_rn [0] [] [(9, .p 1 0), (14, .v (.slice none 0 0))] af bi fun lL fa => ?_
    clear bi
    refine wpOps_nil (then_normal ?_)
    refine wp_seq ?_
    refine go_sp [(9, .p 1 0), (14, .v (.slice none 0 0)), (89, .v (.bool (((aB.length : Nat) : Int) != 0)))] af fa fun lM bj => ?_
    clear fa
    refine cond_of bj (b := ((aB.length : Nat) : Int) != 0) kz (fun c6 => ?_) (fun c6 => ?_)
    ·
     have jw : ((aB.length : Nat) : Int) ≠ 0 := by simpa using c6
     refine go_sp [(10, .v (.bool false))] af bj fun lN gR => ?_
     clear bj
     refine wp_ret ?_
     refine then_ret ?_
     refine leave gR af.cells (v := .bool false) kz ?_
     first
      | (exfalso; omega)
      | exact (told_len hgu (by assumption) (by assumption)).elim
      | exact (told_len0 hgu (by assumption) (by assumption)).elim
      | exact (told_key hgu (by assumption) (by assumption) (by assumption) (by assumption)).elim
      | exact (told_val hgu (by assumption) (by assumption) (by assumption) (by assumption)).elim
      | (exfalso; simp_all; done)
    ·
     have jx : ((aB.length : Nat) : Int) = 0 := by simpa using c6
     refine wp_skip ?_
     refine then_normal ?_
     refine wp_seq ?_
     refine go_sp [(9, .p 1 0), (90, .v (.slice none 0 0)), (91, .v (.int .i64 0)), (92, .v (.int .i64 0))] af bj fun lO fb => ?_
     clear bj
     refine wp_block ?_
     refine wp_loop_ghost (fun n_ a_ w_ => ∃ (k : Nat), n_ = 0 - k ∧ k ≤ 0 ∧ LInv af 120 [⟨dE, 0, [.int .i64 n1, .slice A6 s2.length c7, .bool b3, .slice A8 l4.length c9, .slice bT u5.length bU], true⟩, ⟨dF, 0, [.int .i64 dh, .slice dl di.length dp, .bool dj, .slice bV aG.length ce, .slice bW aB.length cm], true⟩] [] [(9, .p 1 0), (90, .v (.slice none 0 0)), (91, .v (.int .i64 0)), (92, .v (.int .i64 ((k : Nat) : Int)))] a_ w_) (0) ⟨0, by omega, by omega, fb.pk, af, Fr.refl _ _ _⟩ ?_
     clear fb
     rintro lP lQ lR ⟨k, jy, jz, fe, bR, jA⟩
     refine go_sp [(9, .p 1 0), (90, .v (.slice none 0 0)), (91, .v (.int .i64 0)), (92, .v (.int .i64 ((k : Nat) : Int))), (93, .v (.bool (decide (((k : Nat) : Int) < 0))))] bR fe fun lS da => ?_
     clear fe
     refine wp_seq ?_
     refine cond_false da (b := decide (((k : Nat) : Int) < 0)) kz (decide_eq_false (by omega)) ?_
     refine wp_exit ?_
     refine then_exit ?_
     refine then_exit ?_
     refine block_exit ?_
     refine then_normal ?_
     refine go_sp [(10, .v (.bool true))] bR da fun lT gS => ?_
     clear da
     refine wp_ret ?_
     refine leave gS bR.cells (v := .bool true) kz ?_
     exact ⟨rfl, bR.step⟩
   ·
    refine wp_skip ?_
    refine then_normal ?_
    refine wp_seq ?_
    refine go_sp [(9, .p 1 0), (14, .v (.slice ah ((unknownT l u5).length) ai)), (89, .v (.bool (((aB.length : Nat) : Int) != (((unknownT l u5).length : Nat) : Int))))] af bi fun lU bk => ?_
    clear bi
    refine cond_of bk (b := ((aB.length : Nat) : Int) != (((unknownT l u5).length : Nat) : Int)) kz (fun db => ?_) (fun db => ?_)
    ·
     have jB : ((aB.length : Nat) : Int) ≠ (((unknownT l u5).length : Nat) : Int) := by simpa using db
     refine go_sp [(10, .v (.bool false))] af bk fun lV gT => ?_
     clear bk
     refine wp_ret ?_
     refine then_ret ?_
     refine leave gT af.cells (v := .bool false) kz ?_
     first
      | (exfalso; omega)
      | exact (told_len hgu (by assumption) (by assumption)).elim
      | exact (told_len0 hgu (by assumption) (by assumption)).elim
      | exact (told_key hgu (by assumption) (by assumption) (by assumption) (by assumption)).elim
      | exact (told_val hgu (by assumption) (by assumption) (by assumption) (by assumption)).elim
      | (exfalso; simp_all; done)
    ·
     have jC : ((aB.length : Nat) : Int) = (((unknownT l u5).length : Nat) : Int) := by simpa using db
     refine wp_skip ?_
     refine then_normal ?_
     refine wp_seq ?_
     refine go_sp [(9, .p 1 0), (90, .v (.slice ah ((unknownT l u5).length) ai)), (91, .v (.int .i64 (((unknownT l u5).length : Nat) : Int))), (92, .v (.int .i64 0))] af bk fun lW ff => ?_
     clear bk
     refine wp_block ?_
     obtain ⟨jD, gU, iK⟩ := gP.ex
     have iL := gU.small
     refine wp_loop_ghost (fun n_ a_ w_ => ∃ (k : Nat), n_ = (unknownT l u5).length - k ∧ k ≤ (unknownT l u5).length ∧ LInv af 120 [⟨dE, 0, [.int .i64 n1, .slice A6 s2.length c7, .bool b3, .slice A8 l4.length c9, .slice bT u5.length bU], true⟩, ⟨dF, 0, [.int .i64 dh, .slice dl di.length dp, .bool dj, .slice bV aG.length ce, .slice bW aB.length cm], true⟩] [] [(9, .p 1 0), (90, .v (.slice ah ((unknownT l u5).length) ai)), (91, .v (.int .i64 (((unknownT l u5).length : Nat) : Int))), (92, .v (.int .i64 ((k : Nat) : Int)))] a_ w_) ((unknownT l u5).length) ⟨0, by omega, by omega, ff.pk, af, Fr.refl _ _ _⟩ ?_
     clear ff
     rintro lX lY lZ ⟨k, jE, jF, fg, aD, aE⟩
     refine go_sp [(9, .p 1 0), (90, .v (.slice ah ((unknownT l u5).length) ai)), (91, .v (.int .i64 (((unknownT l u5).length : Nat) : Int))), (92, .v (.int .i64 ((k : Nat) : Int))), (93, .v (.bool (decide (((k : Nat) : Int) < (((unknownT l u5).length : Nat) : Int)))))] aD fg fun l0 bn => ?_
     clear fg
     refine wp_seq ?_
     refine cond_of bn (b := decide (((k : Nat) : Int) < (((unknownT l u5).length : Nat) : Int))) kz (fun dc => ?_) (fun dc => ?_)
     ·
      have jG := of_decide_eq_true dc
      refine wp_skip ?_
      refine then_normal ?_
      refine wp_seq ?_
      refine wp_block ?_
      refine go_seq_region [0, 1, 2, 3, 4, 5] kz ?_
      refine go_rn [0] [1, 2, 3, 4, 5] [(9, .p 1 0), (90, .v (.slice ah ((unknownT l u5).length) ai)), (91, .v (.int .i64 (((unknownT l u5).length : Nat) : Int))), (92, .v (.int .i64 ((k : Nat) : Int))), (94, .v (.int .i64 ((k : Nat) : Int)))] aD bn fun l3 fh => ?_
      clear bn
      obtain ⟨iM, iN, gV, jH, de⟩ := Slots.get gU (i := k) (by first | omega | (have h_ := told_idx hgu (by assumption); omega))
      obtain ⟨⟨aF, aA⟩, gW⟩ : ∃ x, (unknownT l u5)[k]? = some x := ⟨_, List.getElem?_eq_getElem (by omega)⟩
      obtain ⟨⟨bo, bp, fT, fi⟩, l5, l6⟩ := iK k aF aA gW
      rw [fT] at de
      refine of_op (wpOp_index fh (t := 24) (A := ah) (m := ((unknownT l u5).length)) (q := ((k : Nat) : Int)) (d := 95) kz (e := 66) (size := 2) (bytes := 32) kz gV rfl (by first | omega | (have h_ := told_idx hgu (by assumption); omega)) fun l7 fj => ?_)
      clear fh
      refine of_op (wpOp_load fj (t := 66) (b := iM) (o := iN + k * 2) (d := 96) kz (cs := [.int .u32 aF, .slice bo aA.length bp]) (v := .agg #[.int .u32 aF, .slice bo aA.length bp]) kz (AtF.move de aE.step immM aE.to').at_ fun l9 fk => ?_)
      clear fj
      refine of_op (wpOp_alloc aD fk (d := 16) (cs := [.int .u32 0, .slice none 0 0]) kz fun ma mc md jI jJ bq df fl => ?_)
      clear fk aD
      refine go_rn [4] [5] [(9, .p 1 0), (15, .v (.int .i64 ((k : Nat) : Int))), (16, .p 2 0), (90, .v (.slice ah ((unknownT l u5).length) ai)), (91, .v (.int .i64 (((unknownT l u5).length : Nat) : Int))), (92, .v (.int .i64 ((k : Nat) : Int))), (96, .v (.agg #[.int .u32 aF, .slice bo aA.length bp]))] df fl fun me fm => ?_
      clear fl
      refine of_op (wpOp_store df fm (oi := 2) (cs := [.int .u32 aF, .slice bo aA.length bp]) kz fun mf bt fo fq => ?_)
      clear fm df
      refine wpOps_nil (then_normal ?_)
      refine go_seq_drawK 22 kz fo fun mg bu aJ aw => ?_
      clear fo
      refine go_rnD [0, 1, 2, 6, 7] [(9, .p 1 0), (15, .v (.int .i64 ((k : Nat) : Int))), (16, .p 2 0), (90, .v (.slice ah ((unknownT l u5).length) ai)), (91, .v (.int .i64 (((unknownT l u5).length : Nat) : Int))), (92, .v (.int .i64 ((k : Nat) : Int))), (98, .v (.slice bW aB.length cm)), (99, .v (.int .i64 ((k : Nat) : Int))), (104, .v (.int .u32 aF))] 17 (panicFree_then (panicFree_block (panicFree_then (panicFree_then (panicFree_block (panicFree_then panicFree_body)))))) (fun _ h => h.cells) aw fq fun mh fr => ?_
      clear fq
      obtain ⟨dC, dD, ft, jK, bD⟩ := Slots.get iU (i := k) (by first | omega | (have h_ := told_idx hgu (by assumption); omega))
      obtain ⟨⟨bE, bF⟩, gX⟩ : ∃ x, aB[k]? = some x := ⟨_, List.getElem?_eq_getElem (by omega)⟩
      obtain ⟨⟨fU, fV, fW, gY⟩, mi, mj⟩ := jW k bE bF gX
      rw [fW] at bD
      refine takeC_index fr (i := 3) (t := 24) (A := bW) (m := aB.length) (q := ((k : Nat) : Int)) (d := 100) kz (e := 66) (size := 2) (bytes := 32) kz ft rfl (by first | omega | (have h_ := told_idx hgu (by assumption); omega)) kz kz (panicFree_then (panicFree_block (panicFree_then (panicFree_then (panicFree_block (panicFree_then panicFree_body)))))) aw fun ml fu => ?_
      clear fr
      refine go_rnD [4] [(9, .p 1 0), (15, .v (.int .i64 ((k : Nat) : Int))), (16, .p 2 0), (90, .v (.slice ah ((unknownT l u5).length) ai)), (91, .v (.int .i64 (((unknownT l u5).length : Nat) : Int))), (92, .v (.int .i64 ((k : Nat) : Int))), (101, .v (.pointer (some ⟨dC, dD + k * 2, none⟩))), (104, .v (.int .u32 aF))] 15 (panicFree_then (panicFree_block (panicFree_then (panicFree_then (panicFree_block (panicFree_then panicFree_body)))))) (fun _ h => h.cells) aw fu fun mn fv => ?_
      clear fu
      refine takeC_load fv (i := 5) (t := 64) (b := dC) (o := dD + k * 2) (d := 102) kz (cs := [.int .u32 bE]) (v := .int .u32 bE) kz (fun w' h' => (At.drop (AtF.move bD (TT.step0 aJ h') nilM keepF).at_ 0 1)) kz kz (panicFree_then (panicFree_block (panicFree_then (panicFree_then (panicFree_block (panicFree_then panicFree_body)))))) aw fun mo fw => ?_
      clear fv
      refine go_rnD [8, 9] [(9, .p 1 0), (15, .v (.int .i64 ((k : Nat) : Int))), (16, .p 2 0), (90, .v (.slice ah ((unknownT l u5).length) ai)), (91, .v (.int .i64 (((unknownT l u5).length : Nat) : Int))), (92, .v (.int .i64 ((k : Nat) : Int))), (106, .v (.bool (bE != aF)))] 12 (panicFree_then (panicFree_block (panicFree_then (panicFree_then (panicFree_block (panicFree_then panicFree_body)))))) (fun _ h => h.cells) aw fw fun mp bS => ?_
      clear fw
      refine (Bool.eq_false_or_eq_true (bE != aF)).elim (fun bw => ?_) (fun bw => ?_)
      ·
       have jL : bE ≠ aF := by simpa using bw
       have fx := bS.cast (env' := [(9, .p 1 0), (15, .v (.int .i64 ((k : Nat) : Int))), (16, .p 2 0), (90, .v (.slice ah ((unknownT l u5).length) ai)), (91, .v (.int .i64 (((unknownT l u5).length : Nat) : Int))), (92, .v (.int .i64 ((k : Nat) : Int))), (106, .v (.bool true))]) (by rw [bw])
       clear bS
       refine go_rnD [10, 11, 12, 13, 14, 15, 16, 17, 18, 19, 20, 21] [(9, .p 1 0), (90, .v (.slice ah ((unknownT l u5).length) ai)), (91, .v (.int .i64 (((unknownT l u5).length : Nat) : Int))), (92, .v (.int .i64 ((k : Nat) : Int))), (118, .v (.bool true))] 0 (panicFree_then (panicFree_block (panicFree_then (panicFree_then (panicFree_block (panicFree_then panicFree_body)))))) (fun _ h => h.cells) aw fx fun mq dg => ?_
       clear fx
       refine anyC_done kz ?_ _
       refine then_normal ?_
       refine cond_true dg (b := true) kz rfl ?_
       refine go_sp [(10, .v (.bool false))] aJ dg fun mr gZ => ?_
       clear dg
       refine wp_ret ?_
       refine block_ret ?_
       refine then_ret ?_
       refine then_ret ?_
       refine block_ret ?_
       refine then_ret ?_
       refine leave gZ aJ.cells (v := .bool false) kz ?_
       first
        | (exfalso; omega)
        | exact (told_len hgu (by assumption) (by assumption)).elim
        | exact (told_len0 hgu (by assumption) (by assumption)).elim
        | exact (told_key hgu (by assumption) (by assumption) (by assumption) (by assumption)).elim
        | exact (told_val hgu (by assumption) (by assumption) (by assumption) (by assumption)).elim
        | (exfalso; simp_all; done)
      ·
       have jM : bE = aF := by simpa using bw
       have fy := bS.cast (env' := [(9, .p 1 0), (15, .v (.int .i64 ((k : Nat) : Int))), (16, .p 2 0), (90, .v (.slice ah ((unknownT l u5).length) ai)), (91, .v (.int .i64 (((unknownT l u5).length : Nat) : Int))), (92, .v (.int .i64 ((k : Nat) : Int))), (106, .v (.bool false))]) (by rw [bw])
       clear bS
       refine go_rnD [10, 11, 12, 16, 17] [(9, .p 1 0), (90, .v (.slice ah ((unknownT l u5).length) ai)), (91, .v (.int .i64 (((unknownT l u5).length : Nat) : Int))), (92, .v (.int .i64 ((k : Nat) : Int))), (106, .v (.bool false)), (108, .v (.slice bW aB.length cm)), (109, .v (.int .i64 ((k : Nat) : Int))), (114, .v (.slice bo aA.length bp))] 7 (panicFree_then (panicFree_block (panicFree_then (panicFree_then (panicFree_block (panicFree_then panicFree_body)))))) (fun _ h => h.cells) aw fy fun mt fz => ?_
       clear fy
       refine takeC_index fz (i := 13) (t := 24) (A := bW) (m := aB.length) (q := ((k : Nat) : Int)) (d := 110) kz (e := 66) (size := 2) (bytes := 32) kz ft rfl (by first | omega | (have h_ := told_idx hgu (by assumption); omega)) kz kz (panicFree_then (panicFree_block (panicFree_then (panicFree_then (panicFree_block (panicFree_then panicFree_body)))))) aw fun mu fA => ?_
       clear fz
       refine go_rnD [14] [(9, .p 1 0), (90, .v (.slice ah ((unknownT l u5).length) ai)), (91, .v (.int .i64 (((unknownT l u5).length : Nat) : Int))), (92, .v (.int .i64 ((k : Nat) : Int))), (106, .v (.bool false)), (111, .v (.pointer (some ⟨dC, dD + k * 2 + 1, none⟩))), (114, .v (.slice bo aA.length bp))] 5 (panicFree_then (panicFree_block (panicFree_then (panicFree_then (panicFree_block (panicFree_then panicFree_body)))))) (fun _ h => h.cells) aw fA fun mw fB => ?_
       clear fA
       refine takeC_load fB (i := 15) (t := 22) (b := dC) (o := dD + k * 2 + 1) (d := 112) kz (cs := [.slice fU bF.length fV]) (v := .slice fU bF.length fV) kz (fun w' h' => (At.drop (AtF.move bD (TT.step0 aJ h') nilM keepF).at_ 1 1)) kz kz (panicFree_then (panicFree_block (panicFree_then (panicFree_then (panicFree_block (panicFree_then panicFree_body)))))) aw fun mx fC => ?_
       clear fB
       have iO := whole_le aA
       refine anyC_op (i := 18) kz (wpOp_call fC (f := 64) (vs := [.slice bo aA.length bp]) (d := 115) kz Tryz.call64 (sWhole _ _ aA (fi.move (((aE.trans bq).trans bt).trans bu).step immM (((aE.trans bq).trans bt).trans bu).to').le _) ?_)
       rintro e_ my ⟨rfl, fD⟩
       refine ⟨_, rfl, fun mz fE => ?_⟩
       have aK := aJ.next_nil fD
       have bx := aJ.frN fD
       clear fC
       have g9 := TT.ofW bx aK
       refine ⟨fun _ => g9, ?_⟩
       refine anyC_op (i := 19) kz (wpOp_call fE (f := 63) (vs := [.slice fU bF.length fV, .slice bo ((whole aA).length) bp]) (d := 116) kz Tryz.call63 (sSame _ _ _ _ bF (whole aA) _ _ ((gY.move aK.step nilM aK.imm).move (Step.refl _ Nil) nilM allF) (((fi.take 32767).move ((((aE.trans bq).trans bt).trans bu).trans bx).step immM ((((aE.trans bq).trans bt).trans bu).trans bx).to').move (Step.refl _ Nil) nilM allF)) ?_)
       rintro e_ mA ⟨rfl, fF⟩
       refine ⟨_, rfl, fun mB fG => ?_⟩
       have bz := aK.next_nil fF
       have fH := aK.frN fF
       clear fE aK
       have fI := TT.ofW (bx.trans fH) bz
       refine ⟨fun _ => fI, ?_⟩
       refine go_rnD [20, 21] [(9, .p 1 0), (90, .v (.slice ah ((unknownT l u5).length) ai)), (91, .v (.int .i64 (((unknownT l u5).length : Nat) : Int))), (92, .v (.int .i64 ((k : Nat) : Int))), (118, .v (.bool (!(decide (bF = (whole aA))))))] 0 (panicFree_then (panicFree_block (panicFree_then (panicFree_then (panicFree_block (panicFree_then panicFree_body)))))) (fun _ h => h.cells) fI fG fun mC bA => ?_
       clear fG
       refine anyC_done kz ?_ _
       refine then_normal ?_
       refine cond_of bA (b := !(decide (bF = (whole aA)))) kz (fun hC => ?_) (fun hC => ?_)
       ·
        refine go_sp [(10, .v (.bool false))] bz bA fun mD hJ => ?_
        clear bA
        refine wp_ret ?_
        refine block_ret ?_
        refine then_ret ?_
        refine then_ret ?_
        refine block_ret ?_
        refine then_ret ?_
        refine leave hJ bz.cells (v := .bool false) kz ?_
        first
         | (exfalso; omega)
         | exact (told_len hgu (by assumption) (by assumption)).elim
         | exact (told_len0 hgu (by assumption) (by assumption)).elim
         | exact (told_key hgu (by assumption) (by assumption) (by assumption) (by assumption)).elim
         | exact (told_val hgu (by assumption) (by assumption) (by assumption) (by assumption)).elim
         | (exfalso; simp_all; done)
       ·
        refine wp_skip ?_
        refine block_normal ?_
        refine then_normal ?_
        refine go_region [0, 1] kz ?_
        refine go_rn [0, 1] [] [(9, .p 1 0), (90, .v (.slice ah ((unknownT l u5).length) ai)), (91, .v (.int .i64 (((unknownT l u5).length : Nat) : Int))), (92, .v (.int .i64 (IntKind.i64.wrap (((k : Nat) : Int) + 1))))] bz bA fun mF hK => ?_
        clear bA
        refine wpOps_nil (then_normal ?_)
        obtain ⟨fJ, hZ, ia⟩ := bz.cutB hK 2 [⟨dE, 0, [.int .i64 n1, .slice A6 s2.length c7, .bool b3, .slice A8 l4.length c9, .slice bT u5.length bU], true⟩, ⟨dF, 0, [.int .i64 dh, .slice dl di.length dp, .bool dj, .slice bV aG.length ce, .slice bW aB.length cm], true⟩] [(9, .p 1 0), (90, .v (.slice ah ((unknownT l u5).length) ai)), (91, .v (.int .i64 (((unknownT l u5).length : Nat) : Int))), (92, .v (.int .i64 (IntKind.i64.wrap (((k : Nat) : Int) + 1))))]
        have ib : IntKind.i64.wrap (((k : Nat) : Int) + 1) = ((k + 1 : Nat) : Int) := wrap_succ (by omega)
        rw [ib] at fJ
        exact ⟨(unknownT l u5).length - (k + 1), by omega, k + 1, rfl, by omega, fJ.pk, hZ, ((((((aE.trans bq).trans bt).trans bu).trans bx).trans fH).trans ia)⟩
     ·
      have jN := of_decide_eq_false dc
      refine wp_exit ?_
      refine then_exit ?_
      refine then_exit ?_
      refine block_exit ?_
      refine then_normal ?_
      refine go_sp [(10, .v (.bool true))] aD bn fun mG ic => ?_
      clear bn
      refine wp_ret ?_
      refine leave ic aD.cells (v := .bool true) kz ?_
      exact ⟨rfl, aD.step⟩
theorem sToldP (v : Int) (flex : Bool) : ∀ d, ToOK v flex (ToldP v flex d)
 | 0 => sToldS (fun _ _ _ _ _ _ _ _ _ _ _ _ _ h => h.elim) (fun _ _ _ _ _ _ _ _ _ h => h.elim)
 | d + 1 => sToldS (sToldP v flex d) (sUsualP d)
theorem xDescribeACLsRequest (w : World) : Calls Tryz.prog 25 #[] w (Gives w (.int .i64 3)) := by
 refine enter (n := 4) Tryz.func25 rfl Tryz.ntmps25 kz fun a hE => ?_
 have hW := WOk.start w Nil
 refine go_sp [] hW hE fun a1 hE2 => ?_
 clear hE
 refine go_seq_region [0, 1, 2, 3] kz ?_
 refine of_op (wpOp_inline hE2 (f := 71) (vs := []) (d := 1) (n' := 3) kz Tryz.call71 Tryz.func71 rfl Tryz.ntmps71 kz fun a3 hE4 => ?_)
 refine go_sp [] hW hE4 fun a5 hE6 => ?_
 clear hE4
 refine go_seq_region [0] kz ?_
 refine of_op (wpOp_alloc hW hE6 (d := 1) (cs := [.int .i16 0, .int .i8 0, .pointer none, .int .i8 0, .pointer none, .pointer none, .int .i8 0, .int .i8 0, .map none]) kz fun b7 a8 w9 aA aB aC ab al => ?_)
 clear hE6 hW
 refine wpOps_nil (then_normal ?_)
 refine go_seq_region [0] kz ?_
 refine of_op (wpOp_inline al (f := 137) (vs := [.pointer (some ⟨b7, 0, none⟩)]) (d := 2) (n' := 5) kz Tryz.call137 Tryz.func137 rfl Tryz.ntmps137 kz fun aE am => ?_)
 have ac := am.recast 0 (.v (.pointer (some ⟨b7, 0, none⟩))) (.p 0 0) rfl rfl (Nat.le_of_ble_eq_true (n := 1) rfl)
 refine go_region [0, 1, 2, 3] kz ?_
 refine go_rn [0, 1, 2] [3] [(4, .p 0 3)] ab ac fun aF ae => ?_
 clear ac
 refine of_op (wpOp_store ab ae (oi := 0) (cs := [.int .i16 0, .int .i8 0, .pointer none, .int .i8 3, .pointer none, .pointer none, .int .i8 0, .int .i8 0, .map none]) kz fun aG aD aa ao => ?_)
 clear ae ab
 refine wpOps_nil ?_
 refine leave_end ao aa.cells (v := .tuple #[]) kz ?_
 refine ⟨_, rfl, fun aH ap => ?_⟩
 have af : EnvOk 3 [⟨b7, 0, [.int .i16 0, .int .i8 0, .pointer none, .int .i8 3, .pointer none, .pointer none, .int .i8 0, .int .i8 0, .map none], true⟩] [(2, .v (.tuple #[])), (1, .p 0 0)] _ := ap.places (⟨rfl, rfl, trivial⟩)
 refine wpOps_nil (then_normal ?_)
 refine go_sp [(0, .p 0 0)] aa af fun aI ar => ?_
 clear af
 refine wp_ret ?_
 refine leave ar aa.cells (v := .pointer (some ⟨b7, 0, none⟩)) kz ?_
 refine ⟨_, rfl, fun aJ au => ?_⟩
 have ag : EnvOk 4 [⟨b7, 0, [.int .i16 0, .int .i8 0, .pointer none, .int .i8 3, .pointer none, .pointer none, .int .i8 0, .int .i8 0, .map none], true⟩] [(1, .v (.pointer (some ⟨b7, 0, none⟩)))] _ := au.places (trivial)
 have ah := ag.recast 1 (.v (.pointer (some ⟨b7, 0, none⟩))) (.p 0 0) rfl rfl (Nat.le_of_ble_eq_true (n := 1) rfl)
 have av := ah.pick (ks := [1]) (env' := [(1, .p 0 0)]) kz
 clear ag
 clear ah
 refine of_op (wpOp_inline av (f := 72) (vs := [.pointer (some ⟨b7, 0, none⟩)]) (d := 2) (n' := 3) kz Tryz.call72 Tryz.func72 rfl Tryz.ntmps72 kz fun aK aw => ?_)
 have ai := aw.recast 0 (.v (.pointer (some ⟨b7, 0, none⟩))) (.p 0 0) rfl rfl (Nat.le_of_ble_eq_true (n := 1) rfl)
 refine go_sp [] aa ai fun aL aj => ?_
 clear ai
 refine go_sp [(2, .v (.int .i16 3))] aa aj fun aM ax => ?_
 clear aj
 refine wp_ret ?_
 refine leave ax aa.cells (v := .int .i16 3) kz ?_
 refine ⟨_, rfl, fun aN ay => ?_⟩
 have ak : EnvOk 4 [⟨b7, 0, [.int .i16 0, .int .i8 0, .pointer none, .int .i8 3, .pointer none, .pointer none, .int .i8 0, .int .i8 0, .map none], true⟩] [(2, .v (.int .i16 3)), (1, .p 0 0)] _ := ay.places (⟨rfl, rfl, trivial⟩)
 refine go_rn [2, 3] [] [(0, .v (.int .i64 3))] aa ak fun aO az => ?_
 clear ak
 refine wpOps_nil (then_normal ?_)
 refine wp_ret ?_
 refine leave az aa.cells (v := .int .i64 3) kz ?_
 exact ⟨rfl, aa.step⟩
theorem sDescribeACLsRequest_depth : depths sDescribeACLsRequestF ≤ 8 := by simp [sDescribeACLsRequestF, Fld.depth.depths, Fld.depth]
theorem sDescribeACLsRequest_plain : plains sDescribeACLsRequestF := by simp [sDescribeACLsRequestF, Fld.plain.plains, Fld.plain]
theorem fxDescribeACLsRequest (A : Option Addr) (c : Nat) (v : Int) (w : World) : Calls Tryz.prog 20 #[.agg #[.slice A sDescribeACLsRequestF.length c, .int .i64 sDescribeACLsRequestX], .int .i64 v] w (Gives w (.bool (decide (v ≥ sDescribeACLsRequestX)))) := by
 refine enter (n := 14) Tryz.func20 rfl Tryz.ntmps20 kz fun a hE => ?_
 have hW := WOk.start w Nil
 refine go_seq_region [0, 1] kz ?_
 refine of_op (wpOp_box hW hE (d := 2) (cs := [.slice A sDescribeACLsRequestF.length c, .int .i64 sDescribeACLsRequestX]) kz fun b1 a2 w3 hb4 hz5 hF6 hW7 hE8 => ?_)
 clear hE hW
 refine go_rn [1] [] [(1, .v (.int .i64 v)), (2, .p 0 0)] hW7 hE8 fun a9 aa => ?_
 clear hE8
 refine wpOps_nil (then_normal ?_)
 refine go_seq_region [0, 1, 2, 3, 4, 5, 6, 7, 8, 9] kz ?_
 refine go_rn [0, 1, 2, 3] [4, 5, 6, 7, 8, 9] [(1, .v (.int .i64 v)), (2, .p 0 0), (8, .v (.bool (decide (sDescribeACLsRequestX ≥ 0))))] hW7 aa fun ag ab => ?_
 clear aa
 have ae : (decide (sDescribeACLsRequestX ≥ 0)) = true := by decide
 have ac := ab.cast (env' := [(1, .v (.int .i64 v)), (2, .p 0 0), (8, .v (.bool true))]) (by rw [ae])
 clear ab
 refine go_rn [4, 5, 6, 7, 8, 9] [] [(4, .v (.bool (decide (v ≥ sDescribeACLsRequestX))))] hW7 ac fun ah af => ?_
 clear ac
 refine wpOps_nil (then_normal ?_)
 refine wp_ret ?_
 refine leave af hW7.cells (v := .bool (decide (v ≥ sDescribeACLsRequestX))) kz ?_
 exact ⟨rfl, hW7.step⟩
set_option maxHeartbeats 4000000 in
theorem lawDescribeACLsRequest (x : Int) (hx : 0 ≤ x) (hx' : x < 256) (ct : List Value) (t : Tree) (w : World) (F : Nat → Nat → Prop) (ht : TreeR w F ct t) (hroom1 : (writeB 8 sDescribeACLsRequestF sDescribeACLsRequestX (Int.tmod x (3 + 1)) t).length + 16 ≤ 1099511627776) (hcan : canDescribeACLsRequest (fitT (Int.tmod x (3 + 1)) 8 sDescribeACLsRequestF t)) (hkey : Tree.ranged (fitT (Int.tmod x (3 + 1)) 8 sDescribeACLsRequestF t)) (hpure : tDescribeACLsRequest (IntKind.i16.wrap (Int.tmod x (3 + 1))) (fitT (Int.tmod x (3 + 1)) 8 sDescribeACLsRequestF t) = writeB 8 sDescribeACLsRequestF sDescribeACLsRequestX (Int.tmod x (3 + 1)) t) (hto : ∀ D, rvDescribeACLsRequest (IntKind.i16.wrap (Int.tmod x (3 + 1))) D (fitT (Int.tmod x (3 + 1)) 8 sDescribeACLsRequestF t) → ToldP (Int.tmod x (3 + 1)) (decide ((Int.tmod x (3 + 1)) ≥ sDescribeACLsRequestX)) 8 sDescribeACLsRequestF t (trDescribeACLsRequest D)) :
  Calls Tryz.prog 5 #[.int .u8 x, .agg ct.toArray] w (Gives w (.bool true)) := by
 obtain ⟨n1, s2, b3, l4, u5, A6, c7, A8, c9, aS, aT, dc, rfl, rfl, de, df, dR, dS⟩ := ht.open_
 have cP := de.small
 have cQ := df.small
 refine enter (n := 42) Tryz.func5 rfl Tryz.ntmps5 kz fun a hE => ?_
 have hW := WOk.start w Nil
 refine go_seq_region [0, 1] kz ?_
 refine of_op (wpOp_box hW hE (d := 3) (cs := [.int .i64 n1, .slice A6 s2.length c7, .bool b3, .slice A8 l4.length c9, .slice aS u5.length aT]) kz fun dg dT dU dh di dj ak bu => ?_)
 clear hE hW
 refine go_rn [1] [] [(0, .v (.int .u8 x)), (3, .p 0 0)] ak bu fun dV bw => ?_
 clear bu
 refine wpOps_nil (then_normal ?_)
 refine wp_seq ?_
 refine go_seq_region [0, 1, 2] kz ?_
 refine go_rn [0] [1, 2] [(0, .v (.int .u8 x)), (3, .p 0 0), (10, .v (.agg #[.int .i64 n1, .slice A6 s2.length c7, .bool b3, .slice A8 l4.length c9, .slice aS u5.length aT]))] ak bw fun dW bx => ?_
 clear bw
 refine of_op (wpOp_call bx (f := 13) (vs := [.agg #[.int .i64 n1, .slice A6 s2.length c7, .bool b3, .slice A8 l4.length c9, .slice aS u5.length aT]]) (d := 11) kz Tryz.call13 (lFits1 _ _ _ _ (ht.move ak.step nilM ak.imm)) ?_)
 rintro e_ dX ⟨cR, rfl, bz⟩
 refine ⟨_, rfl, fun dY bA => ?_⟩
 have al := ak.next_nil bz
 have dl := ak.frN bz
 clear bx ak
 refine go_rn [2] [] [(0, .v (.int .u8 x)), (3, .p 0 0), (12, .v (.bool (!cR)))] al bA fun dZ aw => ?_
 clear bA
 refine wpOps_nil (then_normal ?_)
 refine cond_of aw (b := !cR) kz (fun bZ => ?_) (fun bZ => ?_)
 ·
  refine go_sp [(4, .v (.bool true))] al aw fun d5 b8 => ?_
  clear aw
  refine wp_ret ?_
  refine then_ret ?_
  refine leave b8 al.cells (v := .bool true) kz ?_
  exact ⟨rfl, al.step⟩
 ·
  refine wp_skip ?_
  refine then_normal ?_
  refine go_seq_region [0, 1] kz ?_
  refine of_op (wpOp_call aw (f := 25) (vs := []) (d := 13) kz Tryz.call25 (xDescribeACLsRequest _) ?_)
  rintro e_ dp ⟨rfl, bB⟩
  refine ⟨_, rfl, fun d6 bC => ?_⟩
  have ax := al.next_nil bB
  have dq := al.frN bB
  clear aw al
  refine go_rn [1] [] [(0, .v (.int .u8 x)), (3, .p 0 0), (5, .v (.int .i64 3))] ax bC fun d7 bD => ?_
  clear bC
  refine wpOps_nil (then_normal ?_)
  refine wp_seq ?_
  refine go_sp [(0, .v (.int .u8 x)), (3, .p 0 0), (5, .v (.int .i64 3)), (15, .v (.bool false))] ax bD fun d8 bq => ?_
  clear bD
  refine cond_false bq (b := false) kz rfl ?_
  refine wp_skip ?_
  refine then_normal ?_
  refine go_seq_region [0, 1, 2, 3, 4, 5, 6] kz ?_
  refine of_op (wpOp_call bq (f := 26) (vs := []) (d := 16) kz Tryz.call26 (sDescribeACLsRequest _ (Imm F w dp [⟨dg, 0, [.int .i64 n1, .slice A6 s2.length c7, .bool b3, .slice A8 l4.length c9, .slice aS u5.length aT], true⟩] [])) ?_)
  rintro e_ d9 ⟨aU, aV, rfl, cd, bt⟩
  obtain ⟨bE, cS, cT⟩ := cd.move (Step.refl _ Nil) nilM (ax.laid (G := F) bt)
  refine ⟨_, rfl, fun ea bF => ?_⟩
  have aG := ax.next_nil bt
  have dr := ax.frN bt
  clear bq
  refine go_rn [1, 2] [3, 4, 5, 6] [(3, .p 0 0), (16, .v (.agg #[.slice aU sDescribeACLsRequestF.length aV, .int .i64 sDescribeACLsRequestX])), (17, .v (.int .u8 x)), (18, .v (.int .i64 3))] aG bF fun eb bG => ?_
  clear bF
  refine of_op (wpOp_call bG (f := 16) (vs := [.int .u8 x, .int .i64 3]) (d := 19) kz Tryz.call16 (lVersion x 3 hx hx' (by decide) (by decide) _) ?_)
  rintro e_ ec ⟨rfl, bH⟩
  refine ⟨_, rfl, fun ee bI => ?_⟩
  have bJ := aG.next_nil bH
  have ah := aG.frN bH
  clear bG aG
  refine of_op (wpOp_alloc bJ bI (d := 6) (cs := [.slice none 0 0, .int .i64 0]) kz fun ef eg eh dt du ai bK bL => ?_)
  clear bI bJ
  refine of_op (wpOp_store bK bL (oi := 1) (cs := [.slice aU sDescribeACLsRequestF.length aV, .int .i64 sDescribeACLsRequestX]) kz fun ei aj av bM => ?_)
  clear bL bK
  refine go_rn [6] [] [(3, .p 0 0), (6, .p 1 0), (7, .v (.int .i64 (Int.tmod x (3 + 1))))] av bM fun ej bN => ?_
  clear bM
  refine wpOps_nil (then_normal ?_)
  refine go_seq_region [0, 1, 2, 3, 4, 5, 6, 7, 8, 9, 10, 11] kz ?_
  refine go_rn [0, 1, 2, 3] [4, 5, 6, 7, 8, 9, 10, 11] [(3, .p 0 0), (6, .p 1 0), (7, .v (.int .i64 (Int.tmod x (3 + 1)))), (21, .v (.int .i64 (Int.tmod x (3 + 1)))), (22, .v (.agg #[.slice aU sDescribeACLsRequestF.length aV, .int .i64 sDescribeACLsRequestX])), (23, .v (.int .i64 (Int.tmod x (3 + 1)))), (24, .v (.agg #[.int .i64 n1, .slice A6 s2.length c7, .bool b3, .slice A8 l4.length c9, .slice aS u5.length aT]))] av bN fun ek bO => ?_
  clear bN
  refine of_op (wpOp_call bO (f := 18) (vs := [.agg #[.slice aU sDescribeACLsRequestF.length aV, .int .i64 sDescribeACLsRequestX], .int .i64 (Int.tmod x (3 + 1)), .agg #[.int .i64 n1, .slice A6 s2.length c7, .bool b3, .slice A8 l4.length c9, .slice aS u5.length aT]]) (d := 25) kz Tryz.call18 (sWrite _ _ sDescribeACLsRequestF sDescribeACLsRequestX (Int.tmod x (3 + 1)) _ (Tree.mk n1 s2 b3 l4 u5) _ _ ⟨bE, (cS.move ((ah.trans ai).trans aj).step immM ((ah.trans ai).trans aj).to'), (fun i_ x_ h_ => ((cT i_ x_ h_).move ((ah.trans ai).trans aj).step immM ((ah.trans ai).trans aj).to'))⟩ sDescribeACLsRequest_depth (ht.move av.step nilM av.imm) (Nat.le_trans (Nat.le_add_right _ _) hroom1)) ?_)
  rintro e_ em ⟨cU, cV, rfl, ce, cm⟩
  refine ⟨_, rfl, fun eo bP => ?_⟩
  obtain ⟨am, ao⟩ := av.frFresh cm (brow cU cV 5 (writeB 8 sDescribeACLsRequestF sDescribeACLsRequestX (Int.tmod x (3 + 1)) (Tree.mk n1 s2 b3 l4 u5))) (Nat.le_refl _) ce
  clear bO av
  refine of_op (wpOp_call bP (f := 27) (vs := [.int .i64 (Int.tmod x (3 + 1)), .slice cU ((writeB 8 sDescribeACLsRequestF sDescribeACLsRequestX (Int.tmod x (3 + 1)) (Tree.mk n1 s2 b3 l4 u5)).length) cV]) (d := 26) kz Tryz.call27 (tegDescribeACLsRequest (Int.tmod x (3 + 1)) _ (writeB 8 sDescribeACLsRequestF sDescribeACLsRequestX (Int.tmod x (3 + 1)) (Tree.mk n1 s2 b3 l4 u5)) hpure (octs_own (am.own 0 _ rfl) (by first | omega | (rw [uuidB_length]; decide) | (simp only [be_length]; exact Nat.le_trans (widthI_le _) (by decide)) | (have := hroom; omega) | (have := hmade; omega) | (simp only [List.length_append, List.length_nil]; omega)) (F := fun _ _ => True) (fun _ _ _ => trivial)) hcan hkey (by first | omega | (have := hroom1; omega))) ?_)
  rintro e_ dv ⟨bQ, cW, rfl, bR, bS, ay⟩
  have az := bR.move (Step.refl _ Nil) nilM (fun b_ o_ h_ hb_ => am.laid (G := F) ay b_ o_ (.inr (h_.resolve_left id)) hb_)
  obtain ⟨aH, aI, aJ, aK, aL, aM, aN, aO, aP, aQ, aR, cX, cY, aA, cq, cr, dw, dx⟩ := az.open_
  rw [aA] at az
  have cu := cq.small
  have cw := cr.small
  rw [aA]
  refine ⟨_, rfl, fun dy aW => ?_⟩
  have aB := am.next_nil ay
  have ap := am.frN ay
  clear bP
  refine go_rn [6, 7, 8] [9, 10, 11] [(3, .p 0 0), (6, .p 1 0), (7, .v (.int .i64 (Int.tmod x (3 + 1)))), (27, .v (.agg #[.int .i64 aH, .slice aM aI.length aN, .bool aJ, .slice aO aK.length aP, .slice aQ aL.length aR])), (28, .v (.bool true))] aB aW fun dz aX => ?_
  clear aW
  refine of_op (wpOp_alloc aB aX (d := 8) (cs := [.int .i64 0, .slice none 0 0, .bool false, .slice none 0 0, .slice none 0 0]) kz fun dA dB dC cZ c5 ab aY aZ => ?_)
  clear aX aB
  refine of_op (wpOp_store aY aZ (oi := 2) (cs := [.int .i64 aH, .slice aM aI.length aN, .bool aJ, .slice aO aK.length aP, .slice aQ aL.length aR]) kz fun dD ac aC ba => ?_)
  clear aZ aY
  refine go_rn [11] [] [(3, .p 0 0), (6, .p 1 0), (7, .v (.int .i64 (Int.tmod x (3 + 1)))), (8, .p 2 0), (9, .v (.bool true))] aC ba fun dE bd => ?_
  clear ba
  refine wpOps_nil (then_normal ?_)
  refine go_seq_drawK 13 kz aC fun dF ae bf bT => ?_
  clear aC
  refine go_rnD [0, 1, 2, 3, 4, 5, 6, 8, 9] [(30, .v (.bool true)), (32, .v (.slice aU sDescribeACLsRequestF.length aV)), (33, .v (.int .i64 (Int.tmod x (3 + 1)))), (34, .v (.agg #[.slice aU sDescribeACLsRequestF.length aV, .int .i64 sDescribeACLsRequestX])), (35, .v (.int .i64 (Int.tmod x (3 + 1)))), (37, .v (.agg #[.int .i64 n1, .slice A6 s2.length c7, .bool b3, .slice A8 l4.length c9, .slice aS u5.length aT])), (38, .v (.agg #[.int .i64 aH, .slice aM aI.length aN, .bool aJ, .slice aO aK.length aP, .slice aQ aL.length aR]))] 5 (panicFree_then panicFree_body) (fun _ h => h.cells) bT bd fun dG bg => ?_
  clear bd
  refine anyC_op (i := 7) kz (wpOp_call bg (f := 20) (vs := [.agg #[.slice aU sDescribeACLsRequestF.length aV, .int .i64 sDescribeACLsRequestX], .int .i64 (Int.tmod x (3 + 1))]) (d := 36) kz Tryz.call20 (fxDescribeACLsRequest _ _ _ _) ?_)
  rintro e_ dH ⟨rfl, bh⟩
  refine ⟨_, rfl, fun dI bi => ?_⟩
  have ar := bf.next_nil bh
  have aa := bf.frN bh
  clear bg
  have bU := TT.ofW aa ar
  refine ⟨fun _ => bU, ?_⟩
  refine anyC_op (i := 10) kz (wpOp_call bi (f := 21) (vs := [.agg #[.int .i64 aH, .slice aM aI.length aN, .bool aJ, .slice aO aK.length aP, .slice aQ aL.length aR]]) (d := 39) kz Tryz.call21 (lGot _ _ _ _ _ (az.move (((ab.trans ac).trans ae).trans aa).step immM (((ab.trans ac).trans ae).trans aa).to') (Nat.le_refl _)) ?_)
  rintro e_ dJ ⟨c6, rfl, bV, aD⟩
  have aE := bV.move (Step.refl _ Nil) nilM (ar.laid (G := F) aD)
  obtain ⟨cz, cA, cB, cC, cD, cE, cG, cH, cI, cJ, cK, da, db, aF, cL, cM, dK, dL⟩ := aE.open_
  rw [aF] at aE
  have cN := cL.small
  have cO := cM.small
  rw [aF]
  refine ⟨_, rfl, fun dM bj => ?_⟩
  have af := ar.next_nil aD
  have ag := ar.frN aD
  clear bi
  have bW := TT.ofW (aa.trans ag) af
  refine ⟨fun _ => bW, ?_⟩
  refine anyC_op (i := 11) kz (wpOp_call bj (f := 19) (vs := [.slice aU sDescribeACLsRequestF.length aV, .int .i64 (Int.tmod x (3 + 1)), .bool (decide ((Int.tmod x (3 + 1)) ≥ sDescribeACLsRequestX)), .agg #[.int .i64 n1, .slice A6 s2.length c7, .bool b3, .slice A8 l4.length c9, .slice aS u5.length aT], .agg #[.int .i64 cz, .slice cE cA.length cG, .bool cB, .slice cH cC.length cI, .slice cJ cD.length cK]]) (d := 40) kz Tryz.call19 (sToldP (Int.tmod x (3 + 1)) (decide ((Int.tmod x (3 + 1)) ≥ sDescribeACLsRequestX)) 8 _ _ sDescribeACLsRequestF _ (Tree.mk n1 s2 b3 l4 u5) _ (trDescribeACLsRequest bQ) _ _ ⟨bE, (cS.move (((((((((ah.trans ai).trans aj).trans ao).trans ap).trans ab).trans ac).trans ae).trans aa).trans ag).step immM (((((((((ah.trans ai).trans aj).trans ao).trans ap).trans ab).trans ac).trans ae).trans aa).trans ag).to'), (fun i_ x_ h_ => ((cT i_ x_ h_).move (((((((((ah.trans ai).trans aj).trans ao).trans ap).trans ab).trans ac).trans ae).trans aa).trans ag).step immM (((((((((ah.trans ai).trans aj).trans ao).trans ap).trans ab).trans ac).trans ae).trans aa).trans ag).to'))⟩ (ht.move af.step nilM af.imm) aE sDescribeACLsRequest_plain (hto bQ bS)) ?_)
  rintro e_ dN ⟨rfl, bk⟩
  refine ⟨_, rfl, fun dO bn => ?_⟩
  have au := af.next_nil bk
  have bX := af.frN bk
  clear bj af
  have bo := TT.ofW ((aa.trans ag).trans bX) au
  refine ⟨fun _ => bo, ?_⟩
  refine go_rnD [12] [(41, .v (.bool true))] 1 (panicFree_then panicFree_body) (fun _ h => h.cells) bo bn fun dP bp => ?_
  clear bn
  refine anyC_op (i := 13) kz (wpOp_pure [4] au.cells bp (env' := [(4, .v (.bool true))]) kz fun dQ bY => ?_)
  clear bp
  refine ⟨fun h => absurd rfl h, ?_⟩
  refine anyC_done kz ?_ _
  refine then_normal ?_
  refine wp_ret ?_
  refine leave bY au.cells (v := .bool true) kz ?_
  exact ⟨rfl, au.step⟩
theorem closeDescribeACLsRequest (x : Int) (hx : 0 ≤ x ∧ x ≤ 255) (ct : List Value) (t : Tree) (w : World) (F : Nat → Nat → Prop) (ht : TreeR w F ct t) (hi : t.i64s) (hsz : t.size ≤ 8388608) : Calls Tryz.prog 5 #[.int .u8 x, .agg ct.toArray] w (Gives w (.bool true)) := by
 obtain ⟨g0, g1⟩ := ver_ok (m := 3 + 1) hx.1 hx.2 (by decide) (by decide)
 have hp : tDescribeACLsRequest (IntKind.i16.wrap (Int.tmod x (3 + 1))) (fitT (Int.tmod x (3 + 1)) 8 sDescribeACLsRequestF t) = writeB 8 sDescribeACLsRequestF sDescribeACLsRequestX (Int.tmod x (3 + 1)) t := by rw [i16_small g0 g1]; exact pureDescribeACLsRequest (Int.tmod x (3 + 1)) g0 g1 t
 have h1 := writeB_le 8 sDescribeACLsRequestF sDescribeACLsRequestX (Int.tmod x (3 + 1)) t
 have h2 : costL sDescribeACLsRequestF ≤ 131000 := by decide +kernel
 have h3 := Nat.mul_le_mul h2 hsz
 exact lawDescribeACLsRequest x hx.1 (by omega) ct t w F ht (by omega) (canfitDescribeACLsRequest (Int.tmod x (3 + 1)) t) (ranged_fit _ _ _ _ ht.ranged) hp (fun D h => by rw [i16_small g0 g1] at h; exact toldDescribeACLsRequest (Int.tmod x (3 + 1)) g0 t _ (fun _ => rfl) rfl hi D h)
end Go.Proofs.YtgolpmkenmedoaaGreatDoor.ME