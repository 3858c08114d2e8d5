/- The texts of a claim, put together: the engine, the contracts, the law. Own work. -/
import Derived.Test.YtnhgfbgdoelfoaaDoorWt2P3
namespace Go.Proofs.YtnhgfbgdoelfoaaDoor.ME
open Go
set_option linter.unusedVariables false
set_option linter.unusedSimpArgs false
theorem i64wN {x : Int} (h : -9223372036854775808 ≤ x ∧ x ≤ 9223372036854775807) : IntKind.i64.wrap x = x := by rw [n64w]; omega
theorem i64_N {t : Tree} (h : t.i64s) : IntKind.i64.wrap t.N = t.N := by
 cases t
 exact i64wN h.1
theorem i64_at {t : Tree} (h : t.i64s) (i : Nat) : (t.at_ i).i64s := by
 cases t with
 | mk n s b l u =>
  have h1 : ∀ x ∈ l, x.i64s := i64ss_mem h.2
  show (l.getD i .zero).i64s
  rw [List.getD_eq_getElem?_getD]
  cases hx : l[i]? with
  | none => exact ⟨by decide, trivial⟩
  | some x => exact h1 x (List.mem_of_getElem? hx)
theorem pres_has {k x1 x2 x3 x5 x6 v : Int} {s : List Fld} {flex : Bool} {x : Tree} : Fld.pres (.mk k x1 x2 x3 (-1) x5 x6 s) v flex x = (decide (x1 ≤ v) && (decide (x2 < 0) || decide (v ≤ x2))) := by simp [Fld.pres, Fld.tag, Fld.has]
section
variable {T : List Fld → Tree → Tree → Prop} {U : List Fld → Tree → Prop} {v k x1 x2 x3 x4 x5 x6 n : Int} {sub : List Fld} {x T' : Tree} {A : Option Addr} {s : ByteArray} {o : Bs} {b : Bool}
theorem to0_num (hn : n = numberI k x.N) (hk : k < 7 := by decide) : ToF0 T v (.mk k x1 x2 (-1) x4 x5 x6 sub) x (.mk n [] false [] []) := by
 cases x
 exact ⟨fun h => by omega, fun _ h => by omega, fun _ h => by omega, fun _ h => by omega, fun _ _ _ _ _ _ => hn⟩
theorem to_num (hn : n = numberI k x.N) (hk : k < 7 := by decide) : ToF T v (.mk k x1 x2 (-1) x4 x5 x6 sub) x (.mk n [] false [] []) := ⟨to0_num hn hk, fun h => absurd (show k = 11 from h) (by omega)⟩
theorem to_bool (hb : b = decide (T'.N % 2 = 1)) (h1 : T'.N = x.N) : ToF T v (.mk 0 x1 x2 (-1) x4 x5 x6 sub) x (boolT b) := by
 refine to_num ?_
 subst hb
 rw [h1]
 show (if decide (x.N % 2 = 1) = true then (1 : Int) else 0) = numberI 0 x.N
 simp only [numberI, if_true, decide_eq_true_eq]
 split <;> omega
theorem to0_text (hs : o = whole x.S) : ToF0 T v (.mk 8 x1 x2 (-1) x4 x5 x6 sub) x (.mk 0 o false [] []) := by
 cases x with
 | mk a1 a2 a3 a4 a5 =>
  exact ⟨fun _ => nul_no.symm, fun _ _ => hs, fun _ h => by omega, fun _ h => by omega, fun _ _ h => absurd rfl h⟩
theorem to_text (h : s = bs T'.S) (h1 : T'.S = whole x.S) : ToF T v (.mk 8 x1 x2 (-1) x4 x5 x6 sub) x (.mk 0 (sb s) false [] []) :=
 ⟨to0_text (by rw [h, sb_bs, h1]), fun h => absurd (show (8 : Int) = 11 from h) (by decide)⟩
end
end Go.Proofs.YtnhgfbgdoelfoaaDoor.ME
namespace Go.Proofs.YtnhgfbgdoelfoaaDoor.ME
open Go
open Go.RowKit
set_option linter.unusedVariables false
set_option linter.unusedSimpArgs false
set_option maxRecDepth 20000
theorem toldEndTxnRequest (v : Int) (h0 : 0 ≤ v) (t Y : Tree) (hY : ∀ i, Y.at_ i = (fitT v 8 sEndTxnRequestF t).at_ i) (hU : Y.U = (fitT v 8 sEndTxnRequestF t).U) (hi : t.i64s) (D : DV) (h : rvEndTxnRequest v D Y) : ToldP v (decide (v ≥ sEndTxnRequestX)) 8 sEndTxnRequestF t (trEndTxnRequest D) := by
 unfold rvEndTxnRequest at h
 obtain ⟨r0, r1, r2, r3, rU, _⟩ := h
 refine ⟨rfl, fun i f y hf hy => ?_, ?_⟩
 ·match i, hf, hy with
  | 0, hf, hy =>
   obtain rfl := Option.some.inj hf
   obtain rfl := Option.some.inj hy
   have e := hY 0
   refine ⟨fun hp => ?_, fun hp => ?_⟩
   ·have hc : True := trivial
    have r := r0
    rw [e] at r
    exact to_text r (fit_t (v := v) (d := 7) (t := t) (show sEndTxnRequestF[0]? = _ from rfl) (by decide))
   ·rw [pres_has] at hp; simp at hp; omega
  | 1, hf, hy =>
   obtain rfl := Option.some.inj hf
   obtain rfl := Option.some.inj hy
   have e := hY 1
   refine ⟨fun hp => ?_, fun hp => ?_⟩
   ·have hc : True := trivial
    have r := r1
    rw [e] at r
    rw [(fit_N (v := v) (d := 7) (t := t) (show sEndTxnRequestF[1]? = _ from rfl) (by decide))] at r
    exact to_num (by rw [r, i64_N (i64_at hi 1)]; rfl)
   ·rw [pres_has] at hp; simp at hp; omega
  | 2, hf, hy =>
   obtain rfl := Option.some.inj hf
   obtain rfl := Option.some.inj hy
   have e := hY 2
   refine ⟨fun hp => ?_, fun hp => ?_⟩
   ·have hc : True := trivial
    have r := r2
    rw [e] at r
    rw [(fit_N (v := v) (d := 7) (t := t) (show sEndTxnRequestF[2]? = _ from rfl) (by decide))] at r
    exact to_num (by rw [r, n64_16]; rfl)
   ·rw [pres_has] at hp; simp at hp; omega
  | 3, hf, hy =>
   obtain rfl := Option.some.inj hf
   obtain rfl := Option.some.inj hy
   have e := hY 3
   refine ⟨fun hp => ?_, fun hp => ?_⟩
   ·have hc : True := trivial
    have r := r3
    rw [e] at r
    exact to_bool r (fit_N (v := v) (d := 7) (t := t) (show sEndTxnRequestF[3]? = _ from rfl) (by decide))
   ·rw [pres_has] at hp; simp at hp; omega
  | n_ + 4, hf, hy => exact absurd (List.getElem?_eq_some_iff.1 hf).1 (by show ¬ n_ + 4 < 4; omega)
 ·show D.u = if (decide (v ≥ sEndTxnRequestX)) = true then wholeU (unknownT sEndTxnRequestF t.U) else []
  by_cases hc : (decide (v ≥ 3)) = true
  ·rw [if_pos (show (decide (v ≥ sEndTxnRequestX)) = true from hc), rU.1 hc, hU, fit_U]
  ·rw [if_neg (show ¬ (decide (v ≥ sEndTxnRequestX)) = true from hc), rU.2 (by simpa using hc)]
set_option maxHeartbeats 4000000 in
theorem tzEndTxnRequest (v : Int) (T : Tree) {A2 : Option Addr} {c2 : Nat} {w : World} {F : Nat → Nat → Prop} (hs_ : Octs w F A2 c2 (tEndTxnRequest (IntKind.i16.wrap v) T)) (hc : canEndTxnRequest T) (hkey : T.ranged) (hroom : (tEndTxnRequest (IntKind.i16.wrap v) T).length + 16 ≤ 1099511627776) :
  Calls Tryd.prog 29 #[.int .i64 v, .slice A2 (tEndTxnRequest (IntKind.i16.wrap v) T).length c2] w (fun e w' => ∃ D cs, e = .returned (.tuple #[.agg cs.toArray, .bool true]) ∧ TreeR w' (Fp NoF w) cs (trEndTxnRequest D) ∧ rvEndTxnRequest (IntKind.i16.wrap v) D T ∧ Step w w' Nil) := by
 refine enter (n := 20) Tryd.func29 rfl Tryd.ntmps29 kz fun a hE => ?_
 have hW := WOk.start w Nil
 have hsm2 := Slots.small hs_
 refine go_seq_region [0, 1] kz ?_
 refine of_op (wpOp_alloc hW hE (d := 4) (cs := [.int .i64 0, .slice none 0 0, .bool false, .slice none 0 0, .slice none 0 0]) kz fun b1 a2 w3 hb4 hz5 hF6 hW7 hE8 => ?_)
 clear hE hW
 refine go_rn [1] [] [(0, .v (.int .i64 v)), (1, .v (.slice A2 ((tEndTxnRequest (IntKind.i16.wrap v) T).length) c2)), (4, .p 0 0)] hW7 hE8 fun a9 bu => ?_
 clear hE8
 refine wpOps_nil (then_normal ?_)
 refine go_seq_region [0, 1] kz ?_
 refine of_op (wpOp_inline bu (f := 58) (vs := []) (d := 7) (n' := 3) kz Tryd.call58 Tryd.func58 rfl Tryd.ntmps58 kz fun cI aN => ?_)
 refine go_sp [] hW7 aN fun cJ aO => ?_
 clear aN
 refine go_seq_region [0] kz ?_
 refine of_op (wpOp_alloc hW7 aO (d := 1) (cs := [.int .i16 0, .string ByteArray.empty, .int .i64 0, .int .i16 0, .bool false, .map none]) kz fun aa cK cL ce cm cq ac bw => ?_)
 clear aO hW7
 refine wpOps_nil (then_normal ?_)
 refine go_seq_region [0] kz ?_
 refine of_op (wpOp_inline bw (f := 88) (vs := [.pointer (some ⟨aa, 0, none⟩)]) (d := 2) (n' := 2) kz Tryd.call88 Tryd.func88 rfl Tryd.ntmps88 kz fun cM bx => ?_)
 have bz := bx.recast 0 (.v (.pointer (some ⟨aa, 0, none⟩))) (.p 1 0) rfl rfl (Nat.le_of_ble_eq_true (n := 2) rfl)
 refine wp_skip ?_
 refine leave_end bz ac.cells (v := .tuple #[]) kz ?_
 refine ⟨_, rfl, fun cN bA => ?_⟩
 have aP : EnvOk 3 [⟨b1, 0, [.int .i64 0, .slice none 0 0, .bool false, .slice none 0 0, .slice none 0 0], true⟩, ⟨aa, 0, [.int .i16 0, .string ByteArray.empty, .int .i64 0, .int .i16 0, .bool false, .map none], true⟩] [(2, .v (.tuple #[])), (1, .p 1 0)] _ := bA.places (⟨rfl, rfl, ⟨rfl, rfl, trivial⟩⟩)
 refine wpOps_nil (then_normal ?_)
 refine go_sp [(0, .p 1 0)] ac aP fun cO bB => ?_
 clear aP
 refine wp_ret ?_
 refine leave bB ac.cells (v := .pointer (some ⟨aa, 0, none⟩)) kz ?_
 refine ⟨_, rfl, fun cP bC => ?_⟩
 have aQ : EnvOk 20 [⟨b1, 0, [.int .i64 0, .slice none 0 0, .bool false, .slice none 0 0, .slice none 0 0], true⟩, ⟨aa, 0, [.int .i16 0, .string ByteArray.empty, .int .i64 0, .int .i16 0, .bool false, .map none], true⟩] [(7, .v (.pointer (some ⟨aa, 0, none⟩))), (0, .v (.int .i64 v)), (1, .v (.slice A2 ((tEndTxnRequest (IntKind.i16.wrap v) T).length) c2)), (4, .p 0 0)] _ := bC.places (⟨rfl, rfl, trivial⟩)
 have aR := aQ.recast 7 (.v (.pointer (some ⟨aa, 0, none⟩))) (.p 1 0) rfl rfl (Nat.le_of_ble_eq_true (n := 2) rfl)
 have aS := aR.pick (ks := [0, 1, 4, 7]) (env' := [(0, .v (.int .i64 v)), (1, .v (.slice A2 ((tEndTxnRequest (IntKind.i16.wrap v) T).length) c2)), (4, .p 0 0), (7, .p 1 0)]) kz
 clear aQ
 clear aR
 refine go_rn [1] [] [(0, .v (.int .i64 v)), (1, .v (.slice A2 ((tEndTxnRequest (IntKind.i16.wrap v) T).length) c2)), (4, .p 0 0), (6, .p 1 0)] ac aS fun cQ aT => ?_
 clear aS
 refine wpOps_nil (then_normal ?_)
 refine go_seq_region [0, 1, 2, 3] kz ?_
 refine go_rn [0, 1, 2] [3] [(1, .v (.slice A2 ((tEndTxnRequest (IntKind.i16.wrap v) T).length) c2)), (4, .p 0 0), (6, .p 1 0), (8, .p 1 0), (10, .v (.int .i16 (IntKind.i16.wrap v)))] ac aT fun cR bD => ?_
 clear aT
 refine of_op (wpOp_inline bD (f := 60) (vs := [.pointer (some ⟨aa, 0, none⟩), .int .i16 (IntKind.i16.wrap v)]) (d := 11) (n' := 8) kz Tryd.call60 Tryd.func60 rfl Tryd.ntmps60 kz fun cS bE => ?_)
 have aU := bE.recast 0 (.v (.pointer (some ⟨aa, 0, none⟩))) (.p 1 0) rfl rfl (Nat.le_of_ble_eq_true (n := 2) rfl)
 refine go_region [0, 1, 2, 3, 4] kz ?_
 refine go_rn [0, 1, 2, 3] [4] [(5, .v (.int .i16 (IntKind.i16.wrap v))), (7, .p 1 0)] ac aU fun cT aV => ?_
 clear aU
 refine of_op (wpOp_store ac aV (oi := 1) (cs := [.int .i16 (IntKind.i16.wrap v), .string ByteArray.empty, .int .i64 0, .int .i16 0, .bool false, .map none]) kz fun cU cr ai bF => ?_)
 clear aV ac
 refine wpOps_nil ?_
 refine leave_end bF ai.cells (v := .tuple #[]) kz ?_
 refine ⟨_, rfl, fun cV bG => ?_⟩
 have aW : EnvOk 20 [⟨b1, 0, [.int .i64 0, .slice none 0 0, .bool false, .slice none 0 0, .slice none 0 0], true⟩, ⟨aa, 0, [.int .i16 (IntKind.i16.wrap v), .string ByteArray.empty, .int .i64 0, .int .i16 0, .bool false, .map none], true⟩] [(11, .v (.tuple #[])), (1, .v (.slice A2 ((tEndTxnRequest (IntKind.i16.wrap v) T).length) c2)), (4, .p 0 0), (6, .p 1 0), (8, .p 1 0), (10, .v (.int .i16 (IntKind.i16.wrap v)))] _ := bG.places (⟨rfl, rfl, ⟨rfl, rfl, trivial⟩⟩)
 refine wpOps_nil (then_normal ?_)
 refine wp_seq ?_
 refine go_seq_region [0, 1, 2, 3, 4] kz ?_
 refine go_rn [0, 1] [2, 3, 4] [(4, .p 0 0), (6, .p 1 0), (12, .p 1 0), (13, .v (.slice A2 ((tEndTxnRequest (IntKind.i16.wrap v) T).length) c2))] ai aW fun cW aX => ?_
 clear aW
 have ae := ai.addNil 5 1
 have cu := ai.frNil 5 1
 clear ai
 refine of_op (wpOp_append ae aX (k := 0) (d := 14) (t := 22) (e := 5) (size := 1) (bytes := 1) (A := none) (As := A2) (m0 := 0) (c := 0) (m := ((tEndTxnRequest (IntKind.i16.wrap v) T).length)) (cs := c2) (xs := []) (news := bc (tEndTxnRequest (IntKind.i16.wrap v) T)) kz kz rfl (hs_.move ae.step nilM ae.imm).src (hs_.move ae.step nilM ae.imm).cap (by first | omega | (simp only [List.length_nil]; omega) | (simp; omega)) fun ag ah cX cY cw aY aZ => ?_)
 clear aX ae
 have bH : (⟨ag, ah, 5, 1, 0 + (tEndTxnRequest (IntKind.i16.wrap v) T).length, [] ++ bc (tEndTxnRequest (IntKind.i16.wrap v) T)⟩ : Rw) = brow ag ah 5 (tEndTxnRequest (IntKind.i16.wrap v) T) := by rw [List.nil_append, Nat.zero_add]
 obtain ⟨ap, cz⟩ := aY.rowEq 0 [brow ag ah 5 (tEndTxnRequest (IntKind.i16.wrap v) T)] bH
 clear aY
 have ba := EnvOk.pick aZ (ks := [4, 6, 12, 13, 14]) (env' := [(4, .p 0 0), (6, .p 1 0), (12, .p 1 0), (13, .v (.slice A2 ((tEndTxnRequest (IntKind.i16.wrap v) T).length) c2)), (14, .v (.slice ag (0 + (tEndTxnRequest (IntKind.i16.wrap v) T).length) ah))]) kz
 have bI := ba.cast (env' := [(4, .p 0 0), (6, .p 1 0), (12, .p 1 0), (13, .v (.slice A2 ((tEndTxnRequest (IntKind.i16.wrap v) T).length) c2)), (14, .v (.slice ag ((tEndTxnRequest (IntKind.i16.wrap v) T).length) ah))]) (by simp only [List.length_append, List.length_cons, List.length_nil, Nat.zero_add])
 clear aZ
 clear ba
 refine of_op (wpOp_inline bI (f := 61) (vs := [.pointer (some ⟨aa, 0, none⟩), .slice ag ((tEndTxnRequest (IntKind.i16.wrap v) T).length) ah]) (d := 15) (n' := 8) kz Tryd.call61 Tryd.func61 rfl Tryd.ntmps61 kz fun cZ bJ => ?_)
 have bd := bJ.recast 0 (.v (.pointer (some ⟨aa, 0, none⟩))) (.p 1 0) rfl rfl (Nat.le_of_ble_eq_true (n := 2) rfl)
 refine go_sp [(0, .p 1 0), (1, .v (.slice ag ((tEndTxnRequest (IntKind.i16.wrap v) T).length) ah))] ap bd fun c5 bf => ?_
 clear bd
 refine go_seq_region [0, 1, 2, 3] kz ?_
 refine go_rn [0, 1] [2, 3] [(5, .p 1 0), (6, .v (.slice ag ((tEndTxnRequest (IntKind.i16.wrap v) T).length) ah))] ap bf fun da bg => ?_
 clear bf
 have bK := ap.giveUp (G := NoF) 0 [] (show _ = some (brow ag ah 5 (tEndTxnRequest (IntKind.i16.wrap v) T)) from rfl) (by omega)
 obtain ⟨bh, cA⟩ := ap.cutR 0 []
 refine of_op (wpOp_call bg (f := 89) (vs := [.pointer (some ⟨aa, 0, none⟩), .slice ag ((tEndTxnRequest (IntKind.i16.wrap v) T).length) ah, .bool false]) (d := 7) kz Tryd.call89 (rdEndTxnRequest (IntKind.i16.wrap v) T (Str.of bh 1 rfl) bK (imm_n 1 rfl) hc hkey) ?_)
 rintro e_ db ⟨ab, rfl, bL, bM, bN, bi⟩
 obtain ⟨af, cB, bO⟩ := bh.wrote 1 [⟨b1, 0, [.int .i64 0, .slice none 0 0, .bool false, .slice none 0 0, .slice none 0 0], true⟩, ⟨aa, 0, [.int .i16 (IntKind.i16.wrap v), .string ((ab.f 0).s), .int .i64 ((ab.f 1).n), .int .i16 ((ab.f 2).n), .bool ((ab.f 3).b), .map ab.m], true⟩] rfl bi bL
 have bP := mvEndTxnRequest _ (Step.refl _ Nil) nilM bO bM
 refine ⟨_, rfl, fun dc bQ => ?_⟩
 have bj := (EnvOk.places (tb' := [⟨b1, 0, [.int .i64 0, .slice none 0 0, .bool false, .slice none 0 0, .slice none 0 0], true⟩, ⟨aa, 0, [.int .i16 (IntKind.i16.wrap v), .string ((ab.f 0).s), .int .i64 ((ab.f 1).n), .int .i16 ((ab.f 2).n), .bool ((ab.f 3).b), .map ab.m], true⟩]) bQ (show Pl [⟨b1, 0, [.int .i64 0, .slice none 0 0, .bool false, .slice none 0 0, .slice none 0 0], true⟩, ⟨aa, 0, [.int .i16 (IntKind.i16.wrap v), .string ByteArray.empty, .int .i64 0, .int .i16 0, .bool false, .map none], true⟩] [⟨b1, 0, [.int .i64 0, .slice none 0 0, .bool false, .slice none 0 0, .slice none 0 0], true⟩, ⟨aa, 0, [.int .i16 (IntKind.i16.wrap v), .string ((ab.f 0).s), .int .i64 ((ab.f 1).n), .int .i16 ((ab.f 2).n), .bool ((ab.f 3).b), .map ab.m], true⟩] from ⟨rfl, rfl, ⟨rfl, rfl, trivial⟩⟩)).pk (env' := [(7, .v (.nilIface)), (5, .p 1 0), (6, .v (.slice ag ((tEndTxnRequest (IntKind.i16.wrap v) T).length) ah))])
 clear bg
 refine go_rn [3] [] [(4, .v (.nilIface))] af bj fun de bR => ?_
 clear bj
 refine wpOps_nil (then_normal ?_)
 refine wp_ret ?_
 refine leave bR af.cells (v := .nilIface) kz ?_
 refine ⟨_, rfl, fun df bS => ?_⟩
 have bk : EnvOk 20 [⟨b1, 0, [.int .i64 0, .slice none 0 0, .bool false, .slice none 0 0, .slice none 0 0], true⟩, ⟨aa, 0, [.int .i16 (IntKind.i16.wrap v), .string ((ab.f 0).s), .int .i64 ((ab.f 1).n), .int .i16 ((ab.f 2).n), .bool ((ab.f 3).b), .map ab.m], true⟩] [(15, .v (.nilIface)), (4, .p 0 0), (6, .p 1 0), (12, .p 1 0), (13, .v (.slice A2 ((tEndTxnRequest (IntKind.i16.wrap v) T).length) c2)), (14, .v (.slice ag ((tEndTxnRequest (IntKind.i16.wrap v) T).length) ah))] _ := bS.places (⟨rfl, rfl, ⟨rfl, rfl, trivial⟩⟩)
 refine go_rn [4] [] [(4, .p 0 0), (6, .p 1 0), (16, .v (.bool false))] af bk fun dg aA => ?_
 clear bk
 refine wpOps_nil (then_normal ?_)
 refine cond_false aA (b := false) kz rfl ?_
 refine wp_skip ?_
 refine then_normal ?_
 refine go_seq_region [0, 1, 2, 3] kz ?_
 refine go_rn [0] [1, 2, 3] [(4, .p 0 0), (18, .p 1 0)] af aA fun dh bn => ?_
 clear aA
 have ar := bn.recast 18 (.p 1 0) (.v (.pointer (some ⟨aa, 0, none⟩))) rfl rfl trivial
 have bo := ar.pk (env' := [(4, .p 0 0), (18, .v (.pointer (some ⟨aa, 0, none⟩)))])
 clear bn ar
 have aB := WOk.strOut (G := NoF) [⟨b1, 0, [.int .i64 0, .slice none 0 0, .bool false, .slice none 0 0, .slice none 0 0], true⟩] af
 obtain ⟨au, aj, av⟩ := af.cutB bo 1 [⟨b1, 0, [.int .i64 0, .slice none 0 0, .bool false, .slice none 0 0, .slice none 0 0], true⟩] [(4, .p 0 0), (18, .v (.pointer (some ⟨aa, 0, none⟩)))]
 have bp := mvEndTxnRequest _ av.step immM av.to' bP
 refine of_op (wpOp_call au (f := 62) (vs := [.pointer (some ⟨aa, 0, none⟩)]) (d := 19) kz Tryd.call62 (tlEndTxnRequest (IntKind.i16.wrap v) ab aa 0 _ _ aB bp) ?_)
 rintro e_ cC ⟨bY, rfl, bq, ak⟩
 have al := bq.move (Step.refl _ Nil) nilM (aj.laid (G := NoF) ak)
 obtain ⟨aC, aD, aE, aF, aG, aH, aI, aJ, aK, aL, aM, bZ, b8, am, bT, bU, cD, cE⟩ := al.open_
 rw [am] at al
 have bV := bT.small
 have bW := bU.small
 rw [am]
 refine ⟨_, rfl, fun cG aw => ?_⟩
 have ax := aj.next_nil ak
 have cd := aj.frN ak
 clear au
 refine of_op (wpOp_store ax aw (oi := 0) (cs := [.int .i64 aC, .slice aH aD.length aI, .bool aE, .slice aJ aF.length aK, .slice aL aG.length aM]) kz fun bX ay ao az => ?_)
 clear aw ax
 refine go_rn [3] [] [(4, .p 0 0), (5, .v (.bool true))] ao az fun cH bt => ?_
 clear az
 refine wpOps_nil (then_normal ?_)
 refine wp_ret ?_
 refine leave bt ao.cells (v := .tuple #[.agg #[.int .i64 aC, .slice aH aD.length aI, .bool aE, .slice aJ aF.length aK, .slice aL aG.length aM], .bool true]) kz ?_
 exact ⟨ab, _, rfl, (show TreeR _ (Imm NoF w bX [⟨b1, 0, [.int .i64 aC, .slice aH aD.length aI, .bool aE, .slice aJ aF.length aK, .slice aL aG.length aM], true⟩] []) _ (trEndTxnRequest ab) from (al.move ay.step immM ay.to')).move (Step.refl _ Nil) nilM immOut, bN, ao.step⟩
theorem tegEndTxnRequest (v : Int) (T : Tree) (B : Bs) {A2 : Option Addr} {c2 : Nat} {w : World} {F : Nat → Nat → Prop} (hB : tEndTxnRequest (IntKind.i16.wrap v) T = B) (hs_ : Octs w F A2 c2 B) (hc : canEndTxnRequest T) (hkey : T.ranged) (hroom : B.length + 16 ≤ 1099511627776) :
  Calls Tryd.prog 29 #[.int .i64 v, .slice A2 B.length c2] w (fun e w' => ∃ D cs, e = .returned (.tuple #[.agg cs.toArray, .bool true]) ∧ TreeR w' (Fp NoF w) cs (trEndTxnRequest D) ∧ rvEndTxnRequest (IntKind.i16.wrap v) D T ∧ Step w w' Nil) := by
 subst hB
 exact tzEndTxnRequest v T hs_ hc hkey hroom
theorem sNumber (k n : Int) (w : World) : Calls Tryd.prog 78 #[.int .i64 k, .int .i64 n] w (Gives w (.int .i64 (numberI k n))) := by
 refine enter (n := 31) Tryd.func78 rfl Tryd.ntmps78 kz fun a hE => ?_
 have hW := WOk.start w Nil
 refine go_sp [(0, .v (.int .i64 k)), (1, .v (.int .i64 n))] hW hE fun a1 hE2 => ?_
 clear hE
 refine wp_seq ?_
 refine go_sp [(1, .v (.int .i64 n)), (5, .v (.int .i64 k))] hW hE2 fun a3 hE4 => ?_
 clear hE2
 refine wp_block ?_
 refine go_sp [(1, .v (.int .i64 n)), (5, .v (.int .i64 k)), (6, .v (.bool (k == 0)))] hW hE4 fun a5 hE6 => ?_
 clear hE4
 refine cond_of hE6 (b := k == 0) kz (fun hc7 => ?_) (fun hc7 => ?_)
 ·
  have hf8 : k = 0 := by simpa using hc7
  refine go_sp [(4, .v (.int .i64 (IntKind.i64.wrap (BitVec.ofInt 64 n &&& BitVec.ofInt 64 1).toNat)))] hW hE6 fun a9 aj => ?_
  clear hE6
  refine wp_ret ?_
  refine block_ret ?_
  refine then_ret ?_
  refine leave aj hW.cells (v := .int .i64 (IntKind.i64.wrap (BitVec.ofInt 64 n &&& BitVec.ofInt 64 1).toNat)) kz ?_
  exact ⟨by (try simp only [and1]); simp_all [numberI, n64_8, n64_16, n64_32, n64_u16], hW.step⟩
 ·
  have ar : k ≠ 0 := by simpa using hc7
  refine go_sp [(1, .v (.int .i64 n)), (5, .v (.int .i64 k)), (10, .v (.bool (k == 1)))] hW hE6 fun aC aa => ?_
  clear hE6
  refine cond_of aa (b := k == 1) kz (fun af => ?_) (fun af => ?_)
  ·
   have au : k = 1 := by simpa using af
   refine go_sp [(4, .v (.int .i64 (IntKind.i64.wrap (IntKind.i8.wrap n))))] hW aa fun aD ak => ?_
   clear aa
   refine wp_ret ?_
   refine block_ret ?_
   refine then_ret ?_
   refine leave ak hW.cells (v := .int .i64 (IntKind.i64.wrap (IntKind.i8.wrap n))) kz ?_
   exact ⟨by (try simp only [and1]); simp_all [numberI, n64_8, n64_16, n64_32, n64_u16], hW.step⟩
  ·
   have av : k ≠ 1 := by simpa using af
   refine go_sp [(1, .v (.int .i64 n)), (5, .v (.int .i64 k)), (15, .v (.bool (k == 2)))] hW aa fun aE ab => ?_
   clear aa
   refine cond_of ab (b := k == 2) kz (fun ag => ?_) (fun ag => ?_)
   ·
    have aw : k = 2 := by simpa using ag
    refine go_sp [(4, .v (.int .i64 (IntKind.i64.wrap (IntKind.i16.wrap n))))] hW ab fun aF al => ?_
    clear ab
    refine wp_ret ?_
    refine block_ret ?_
    refine then_ret ?_
    refine leave al hW.cells (v := .int .i64 (IntKind.i64.wrap (IntKind.i16.wrap n))) kz ?_
    exact ⟨by (try simp only [and1]); simp_all [numberI, n64_8, n64_16, n64_32, n64_u16], hW.step⟩
   ·
    have ax : k ≠ 2 := by simpa using ag
    refine go_sp [(1, .v (.int .i64 n)), (5, .v (.int .i64 k)), (20, .v (.bool (k == 3)))] hW ab fun aG ac => ?_
    clear ab
    refine cond_of ac (b := k == 3) kz (fun ah => ?_) (fun ah => ?_)
    ·
     have ay : k = 3 := by simpa using ah
     refine go_sp [(4, .v (.int .i64 (IntKind.i64.wrap (IntKind.i32.wrap n))))] hW ac fun aH am => ?_
     clear ac
     refine wp_ret ?_
     refine block_ret ?_
     refine then_ret ?_
     refine leave am hW.cells (v := .int .i64 (IntKind.i64.wrap (IntKind.i32.wrap n))) kz ?_
     exact ⟨by (try simp only [and1]); simp_all [numberI, n64_8, n64_16, n64_32, n64_u16], hW.step⟩
    ·
     have az : k ≠ 3 := by simpa using ah
     refine go_sp [(1, .v (.int .i64 n)), (25, .v (.bool (k == 5)))] hW ac fun aI ae => ?_
     clear ac
     refine cond_of ae (b := k == 5) kz (fun ai => ?_) (fun ai => ?_)
     ·
      have aA : k = 5 := by simpa using ai
      refine go_sp [(4, .v (.int .i64 (IntKind.i64.wrap (IntKind.u16.wrap n))))] hW ae fun aJ ao => ?_
      clear ae
      refine wp_ret ?_
      refine block_ret ?_
      refine then_ret ?_
      refine leave ao hW.cells (v := .int .i64 (IntKind.i64.wrap (IntKind.u16.wrap n))) kz ?_
      exact ⟨by (try simp only [and1]); simp_all [numberI, n64_8, n64_16, n64_32, n64_u16], hW.step⟩
     ·
      have aB : k ≠ 5 := by simpa using ai
      refine wp_skip ?_
      refine block_normal ?_
      refine then_normal ?_
      refine go_sp [(4, .v (.int .i64 n))] hW ae fun aK ap => ?_
      clear ae
      refine wp_ret ?_
      refine leave ap hW.cells (v := .int .i64 n) kz ?_
      exact ⟨by (try simp only [and1]); simp_all [numberI, n64_8, n64_16, n64_32, n64_u16], hW.step⟩
def UsOK (U : List Fld → Tree → Prop) : Prop := ∀ (A : Option Addr) (c : Nat) (l : List Fld) (ct : List Value) (g : Tree) (w : World) (F : Nat → Nat → Prop), FldsR w F A c l → TreeR w F ct g → U l g →
  Calls Tryd.prog 46 #[.slice A l.length c, .agg ct.toArray] w (Gives w (.bool true))
theorem sUs {U : List Fld → Tree → Prop} (hu : UsOK U) (A : Option Addr) (c : Nat) (l : List Fld) (ct : List Value) (g : Tree) (w : World) (F : Nat → Nat → Prop) (hl : FldsR w F A c l) (ht : TreeR w F ct g) (hU : UsP U l g) :
  Calls Tryd.prog 46 #[.slice A l.length c, .agg ct.toArray] w (Gives w (.bool true)) := by
 obtain ⟨xfs, h1, h2⟩ := hl.ex
 have hsm := h1.small
 obtain ⟨n1, s2, b3, l4, u5, A6, c7, A8, c9, aZ, ba, fT, rfl, rfl, fU, fV, iD, iE⟩ := ht.open_
 have fa := fU.small
 have fb := fV.small
 refine enter (n := 89) Tryd.func46 rfl Tryd.ntmps46 kz fun a hE => ?_
 have hW := WOk.start w Nil
 refine go_seq_region [0, 1] kz ?_
 refine of_op (wpOp_box hW hE (d := 3) (cs := [.int .i64 n1, .slice A6 s2.length c7, .bool b3, .slice A8 l4.length c9, .slice aZ u5.length ba]) kz fun bQ iF iG fW fX fY aM dq => ?_)
 clear hE hW
 refine go_rn [1] [] [(0, .v (.slice A l.length c)), (3, .p 0 0)] aM dq fun iH dr => ?_
 clear dq
 refine wpOps_nil (then_normal ?_)
 refine wp_seq ?_
 refine go_sp [(0, .v (.slice A l.length c)), (3, .p 0 0), (11, .v (.bool (decide (((u5.length : Nat) : Int) > 0))))] aM dr fun iI bf => ?_
 clear dr
 refine cond_of bf (b := decide (((u5.length : Nat) : Int) > 0)) kz (fun dj => ?_) (fun dj => ?_)
 ·
  have fZ := of_decide_eq_true dj
  refine go_sp [(4, .v (.bool false))] aM bf fun iJ eS => ?_
  clear bf
  refine wp_ret ?_
  refine then_ret ?_
  refine leave eS aM.cells (v := .bool false) kz ?_
  exact (us_u (g := (Tree.mk n1 s2 b3 l4 u5)) hU.1 rfl (by assumption)).elim
 ·
  have f5 := of_decide_eq_false dj
  refine wp_skip ?_
  refine then_normal ?_
  refine wp_seq ?_
  refine go_sp [(3, .p 0 0), (12, .v (.slice A l.length c)), (13, .v (.int .i64 ((l.length : Nat) : Int))), (14, .v (.int .i64 0))] aM bf fun iK dt => ?_
  clear bf
  refine wp_block ?_
  refine wp_loop_ghost (fun n_ a_ w_ => ∃ (k : Nat), n_ = l.length - k ∧ k ≤ l.length ∧ LInv aM 89 [⟨bQ, 0, [.int .i64 n1, .slice A6 s2.length c7, .bool b3, .slice A8 l4.length c9, .slice aZ u5.length ba], true⟩] [] [(3, .p 0 0), (12, .v (.slice A l.length c)), (13, .v (.int .i64 ((l.length : Nat) : Int))), (14, .v (.int .i64 ((k : Nat) : Int)))] a_ w_) (l.length) ⟨0, by omega, by omega, dt.pk, aM, Fr.refl _ _ _⟩ ?_
  clear dt
  rintro iL iM iN ⟨k, f8, f9, du, ap, ak⟩
  refine go_sp [(3, .p 0 0), (12, .v (.slice A l.length c)), (13, .v (.int .i64 ((l.length : Nat) : Int))), (14, .v (.int .i64 ((k : Nat) : Int))), (15, .v (.bool (decide (((k : Nat) : Int) < ((l.length : Nat) : Int)))))] ap du fun iO bg => ?_
  clear du
  refine wp_seq ?_
  refine cond_of bg (b := decide (((k : Nat) : Int) < ((l.length : Nat) : Int))) kz (fun dl => ?_) (fun dl => ?_)
  ·
   have ga := of_decide_eq_true dl
   refine wp_skip ?_
   refine then_normal ?_
   refine wp_seq ?_
   refine wp_block ?_
   refine go_seq_region [0, 1, 2, 3, 4, 5] kz ?_
   refine go_rn [0] [1, 2, 3, 4, 5] [(3, .p 0 0), (12, .v (.slice A l.length c)), (13, .v (.int .i64 ((l.length : Nat) : Int))), (14, .v (.int .i64 ((k : Nat) : Int))), (16, .v (.int .i64 ((k : Nat) : Int)))] ap bg fun iP dv => ?_
   clear bg
   obtain ⟨gb, gc, eU, gd, bS⟩ := Slots.get h1 (i := k) (by omega)
   obtain ⟨ge, dw⟩ : ∃ x, l[k]? = some x := ⟨_, List.getElem?_eq_getElem (by omega)⟩
   have dx := h2 k ge dw
   obtain ⟨ae, eO, eP, aP, eQ, bh, eR, bR, bT, bU, dy, rfl, bV, eV, fe⟩ := dx.open_
   rw [bV] at dx
   have ff := eV.small
   rw [bV] at bS
   refine of_op (wpOp_index dv (t := 29) (A := A) (m := l.length) (q := ((k : Nat) : Int)) (d := 17) kz (e := 56) (size := 8) (bytes := 80) kz eU rfl (by omega) fun iQ dz => ?_)
   clear dv
   refine of_op (wpOp_load dz (t := 56) (b := gb) (o := gc + k * 8) (d := 18) kz (cs := [.int .i64 ae, .int .i64 eO, .int .i64 eP, .int .i64 aP, .int .i64 eQ, .int .i64 bh, .int .i64 eR, .slice bT bR.length bU]) (v := .agg #[.int .i64 ae, .int .i64 eO, .int .i64 eP, .int .i64 aP, .int .i64 eQ, .int .i64 bh, .int .i64 eR, .slice bT bR.length bU]) kz (AtF.move bS ap.step nilM keepF).at_ fun iR dA => ?_)
   clear dz
   refine of_op (wpOp_alloc ap dA (d := 6) (cs := [.int .i64 0, .int .i64 0, .int .i64 0, .int .i64 0, .int .i64 0, .int .i64 0, .int .i64 0, .slice none 0 0]) kz fun iS iT iU gg gh al dp dB => ?_)
   clear dA ap
   refine go_rn [4] [5] [(3, .p 0 0), (5, .v (.int .i64 ((k : Nat) : Int))), (6, .p 1 0), (12, .v (.slice A l.length c)), (13, .v (.int .i64 ((l.length : Nat) : Int))), (14, .v (.int .i64 ((k : Nat) : Int))), (18, .v (.agg #[.int .i64 ae, .int .i64 eO, .int .i64 eP, .int .i64 aP, .int .i64 eQ, .int .i64 bh, .int .i64 eR, .slice bT bR.length bU]))] dp dB fun iV dC => ?_
   clear dB
   refine of_op (wpOp_store dp dC (oi := 1) (cs := [.int .i64 ae, .int .i64 eO, .int .i64 eP, .int .i64 aP, .int .i64 eQ, .int .i64 bh, .int .i64 eR, .slice bT bR.length bU]) kz fun iW am bd dD => ?_)
   clear dC dp
   refine wpOps_nil (then_normal ?_)
   refine go_seq_region [0, 1, 2, 3, 4] kz ?_
   refine go_rn [0, 1] [2, 3, 4] [(3, .p 0 0), (6, .p 1 0), (12, .v (.slice A l.length c)), (13, .v (.int .i64 ((l.length : Nat) : Int))), (14, .v (.int .i64 ((k : Nat) : Int))), (19, .v (.agg #[.int .i64 n1, .slice A6 s2.length c7, .bool b3, .slice A8 l4.length c9, .slice aZ u5.length ba])), (20, .v (.int .i64 ((k : Nat) : Int)))] bd dD fun iX dE => ?_
   clear dD
   refine of_op (wpOp_call dE (f := 42) (vs := [.agg #[.int .i64 n1, .slice A6 s2.length c7, .bool b3, .slice A8 l4.length c9, .slice aZ u5.length ba], .int .i64 ((k : Nat) : Int)]) (d := 21) kz Tryd.call42 (sAt _ _ k _ _ (ht.move bd.step nilM bd.imm)) ?_)
   rintro e_ gi ⟨gj, rfl, eW, bi⟩
   have aQ := eW.move bi nilM (fun b o h_ hb_ => bd.laid (G := F) bi b o (.inl h_) (Nat.lt_of_lt_of_le hb_ bi.size))
   obtain ⟨ai, af, ah, ao, bj, aN, aO, bk, bn, bo, bp, fg, bq, bt, dF, eX, gk, gl⟩ := aQ.open_
   rw [bt] at aQ
   have eY := dF.small
   have eZ := eX.small
   rw [bt]
   refine ⟨_, rfl, fun gm bW => ?_⟩
   have bX := bd.next_nil bi
   have ag := bd.frN bi
   clear dE
   have hq_ := hU.2 k _ dw
   rw [bq] at hq_
   refine of_op (wpOp_alloc bX bW (d := 7) (cs := [.int .i64 0, .slice none 0 0, .bool false, .slice none 0 0, .slice none 0 0]) kz fun gn gp gq fh fi ab bY bZ => ?_)
   clear bW bX
   refine of_op (wpOp_store bY bZ (oi := 2) (cs := [.int .i64 ai, .slice aN af.length aO, .bool ah, .slice bk ao.length bn, .slice bo bj.length bp]) kz fun gt ac aa b8 => ?_)
   clear bZ bY
   refine wpOps_nil (then_normal ?_)
   refine go_sp [(3, .p 0 0), (6, .p 1 0), (7, .p 2 0), (12, .v (.slice A l.length c)), (13, .v (.int .i64 ((l.length : Nat) : Int))), (14, .v (.int .i64 ((k : Nat) : Int))), (23, .v (.int .i64 ae))] aa b8 fun gv cd => ?_
   clear b8
   refine wp_block ?_
   refine go_sp [(3, .p 0 0), (6, .p 1 0), (7, .p 2 0), (12, .v (.slice A l.length c)), (13, .v (.int .i64 ((l.length : Nat) : Int))), (14, .v (.int .i64 ((k : Nat) : Int))), (23, .v (.int .i64 ae)), (32, .v (.bool (ae == 8)))] aa cd fun gw ar => ?_
   clear cd
   refine cond_of ar (b := ae == 8) kz (fun bu => ?_) (fun bu => ?_)
   ·
    have fj : ae = 8 := by simpa using bu
    refine go_seq_region [0, 1, 2, 3, 4, 5, 6, 7, 8, 9, 10, 11] kz ?_
    refine go_rn [0, 1, 2, 3, 4, 5, 6] [7, 8, 9, 10, 11] [(3, .p 0 0), (7, .p 2 0), (12, .v (.slice A l.length c)), (13, .v (.int .i64 ((l.length : Nat) : Int))), (14, .v (.int .i64 ((k : Nat) : Int))), (40, .v (.bool (!(ah == (decide (aP ≥ 0))))))] aa ar fun gx aR => ?_
    clear ar
    refine (Bool.eq_false_or_eq_true (!(ah == (decide (aP ≥ 0))))).elim (fun au => ?_) (fun au => ?_)
    ·
     have fk : !(ah = (decide (aP ≥ 0))) := by simpa using au
     have ce := aR.cast (env' := [(3, .p 0 0), (7, .p 2 0), (12, .v (.slice A l.length c)), (13, .v (.int .i64 ((l.length : Nat) : Int))), (14, .v (.int .i64 ((k : Nat) : Int))), (40, .v (.bool true))]) (by rw [au])
     clear aR
     refine go_rn [7, 8, 9, 10, 11] [] [(3, .p 0 0), (12, .v (.slice A l.length c)), (13, .v (.int .i64 ((l.length : Nat) : Int))), (14, .v (.int .i64 ((k : Nat) : Int))), (45, .v (.bool true))] aa ce fun gy bw => ?_
     clear ce
     refine wpOps_nil (then_normal ?_)
     refine cond_true bw (b := true) kz rfl ?_
     refine go_sp [(4, .v (.bool false))] aa bw fun gz dG => ?_
     clear bw
     refine wp_ret ?_
     refine block_ret ?_
     refine block_ret ?_
     refine then_ret ?_
     refine then_ret ?_
     refine block_ret ?_
     refine then_ret ?_
     refine leave dG aa.cells (v := .bool false) kz ?_
     first
      | exact (us_8a hq_ (by assumption) (by assumption)).elim
      | exact (us_8b hq_ (by assumption) (by assumption)).elim
      | exact (us_7 hq_ (by assumption) (by assumption)).elim
      | exact (us_9a hq_ (by assumption) (by assumption)).elim
      | exact (us_9b hq_ (by assumption) (by assumption)).elim
      | exact (us_11a hq_ (by assumption) (by assumption)).elim
      | exact (us_11b hq_ (by assumption) (by assumption)).elim
      | exact (us_10 hq_ (by assumption) (by assumption) (by assumption)).elim
      | exact (us_n hq_ (by assumption) (by assumption) (by assumption) (by assumption) (by assumption) (by assumption)).elim
    ·
     have fl : !(ah ≠ (decide (aP ≥ 0))) := by simpa using au
     have cm := aR.cast (env' := [(3, .p 0 0), (7, .p 2 0), (12, .v (.slice A l.length c)), (13, .v (.int .i64 ((l.length : Nat) : Int))), (14, .v (.int .i64 ((k : Nat) : Int))), (40, .v (.bool false))]) (by rw [au])
     clear aR
     refine go_rn [7, 8, 9, 10, 11] [] [(3, .p 0 0), (12, .v (.slice A l.length c)), (13, .v (.int .i64 ((l.length : Nat) : Int))), (14, .v (.int .i64 ((k : Nat) : Int))), (45, .v (.bool (decide (((af.length : Nat) : Int) > 0))))] aa cm fun gA av => ?_
     clear cm
     refine wpOps_nil (then_normal ?_)
     refine cond_of av (b := decide (((af.length : Nat) : Int) > 0)) kz (fun bx => ?_) (fun bx => ?_)
     ·
      have fm := of_decide_eq_true bx
      refine go_sp [(4, .v (.bool false))] aa av fun gB dH => ?_
      clear av
      refine wp_ret ?_
      refine block_ret ?_
      refine block_ret ?_
      refine then_ret ?_
      refine then_ret ?_
      refine block_ret ?_
      refine then_ret ?_
      refine leave dH aa.cells (v := .bool false) kz ?_
      first
       | exact (us_8a hq_ (by assumption) (by assumption)).elim
       | exact (us_8b hq_ (by assumption) (by assumption)).elim
       | exact (us_7 hq_ (by assumption) (by assumption)).elim
       | exact (us_9a hq_ (by assumption) (by assumption)).elim
       | exact (us_9b hq_ (by assumption) (by assumption)).elim
       | exact (us_11a hq_ (by assumption) (by assumption)).elim
       | exact (us_11b hq_ (by assumption) (by assumption)).elim
       | exact (us_10 hq_ (by assumption) (by assumption) (by assumption)).elim
       | exact (us_n hq_ (by assumption) (by assumption) (by assumption) (by assumption) (by assumption) (by assumption)).elim
     ·
      have fo := of_decide_eq_false bx
      refine wp_skip ?_
      refine block_normal ?_
      refine block_normal ?_
      refine then_normal ?_
      refine go_region [0, 1] kz ?_
      refine go_rn [0, 1] [] [(3, .p 0 0), (12, .v (.slice A l.length c)), (13, .v (.int .i64 ((l.length : Nat) : Int))), (14, .v (.int .i64 (IntKind.i64.wrap (((k : Nat) : Int) + 1))))] aa av fun gC dI => ?_
      clear av
      refine wpOps_nil (then_normal ?_)
      obtain ⟨cq, dJ, dK⟩ := aa.cutB dI 1 [⟨bQ, 0, [.int .i64 n1, .slice A6 s2.length c7, .bool b3, .slice A8 l4.length c9, .slice aZ u5.length ba], true⟩] [(3, .p 0 0), (12, .v (.slice A l.length c)), (13, .v (.int .i64 ((l.length : Nat) : Int))), (14, .v (.int .i64 (IntKind.i64.wrap (((k : Nat) : Int) + 1))))]
      have dL : IntKind.i64.wrap (((k : Nat) : Int) + 1) = ((k + 1 : Nat) : Int) := wrap_succ (by omega)
      rw [dL] at cq
      exact ⟨l.length - (k + 1), by omega, k + 1, rfl, by omega, cq.pk, dJ, ((((((ak.trans al).trans am).trans ag).trans ab).trans ac).trans dK)⟩
   ·
    have fq : ae ≠ 8 := by simpa using bu
    refine go_sp [(3, .p 0 0), (6, .p 1 0), (7, .p 2 0), (12, .v (.slice A l.length c)), (13, .v (.int .i64 ((l.length : Nat) : Int))), (14, .v (.int .i64 ((k : Nat) : Int))), (23, .v (.int .i64 ae)), (46, .v (.bool (ae == 7)))] aa ar fun gD aw => ?_
    clear ar
    refine cond_of aw (b := ae == 7) kz (fun bz => ?_) (fun bz => ?_)
    ·
     have fr : ae = 7 := by simpa using bz
     refine go_seq_drawK 5 kz aa fun gE bA dM dN => ?_
     clear aa
     refine go_rnD [0, 1] [(3, .p 0 0), (12, .v (.slice A l.length c)), (13, .v (.int .i64 ((l.length : Nat) : Int))), (14, .v (.int .i64 ((k : Nat) : Int))), (49, .v (.slice aN af.length aO))] 3 (panicFree_then (panicFree_block (panicFree_block (panicFree_then (panicFree_then (panicFree_block (panicFree_then panicFree_body))))))) (fun _ h => h.cells) dN aw fun gF cr => ?_
     clear aw
     refine anyC_op (i := 2) kz (wpOp_make1 dM cr (d := 50) (j := 16) (t := 22) (e := 5) (bytes := 1) (z := .int .u8 0) kz kz kz kz (rfl) (rfl) (by omega) fun e9 gG gH ft fu ax ay cu => ?_)
     clear cr
     have dO := TT.ofW ax ay
     refine ⟨fun _ => dO, ?_⟩
     refine anyC_op (i := 3) kz (wpOp_call cu (f := 14) (vs := [.slice aN af.length aO, .slice (some ⟨e9, 0, none⟩) 16 16]) (d := 51) kz Tryd.call14 (sSame _ _ _ _ af (List.replicate 16 0 : Bs) _ _ ((dF.move (((ab.trans ac).trans bA).trans ax).step immM (((ab.trans ac).trans bA).trans ax).to').move (Step.refl _ Nil) nilM allF) (octs_zero (ay.own 0 _ rfl) (F := fun _ _ => True) (fun _ _ _ => trivial))) ?_)
     rintro e_ gI ⟨rfl, cw⟩
     refine ⟨_, rfl, fun gJ cz => ?_⟩
     have az := ay.next_nil cw
     have cA := ay.frN cw
     clear cu ay
     have cB := TT.ofW (ax.trans cA) az
     refine ⟨fun _ => cB, ?_⟩
     refine go_rnD [4] [(3, .p 0 0), (12, .v (.slice A l.length c)), (13, .v (.int .i64 ((l.length : Nat) : Int))), (14, .v (.int .i64 ((k : Nat) : Int))), (52, .v (.bool (!(decide (af = (List.replicate 16 0 : Bs))))))] 0 (panicFree_then (panicFree_block (panicFree_block (panicFree_then (panicFree_then (panicFree_block (panicFree_then panicFree_body))))))) (fun _ h => h.cells) cB cz fun gK aA => ?_
     clear cz
     refine anyC_done kz ?_ _
     refine then_normal ?_
     refine cond_of aA (b := !(decide (af = (List.replicate 16 0 : Bs)))) kz (fun dP => ?_) (fun dP => ?_)
     ·
      refine go_sp [(4, .v (.bool false))] az aA fun gL dQ => ?_
      clear aA
      refine wp_ret ?_
      refine block_ret ?_
      refine block_ret ?_
      refine then_ret ?_
      refine then_ret ?_
      refine block_ret ?_
      refine then_ret ?_
      refine leave dQ az.cells (v := .bool false) kz ?_
      first
       | exact (us_8a hq_ (by assumption) (by assumption)).elim
       | exact (us_8b hq_ (by assumption) (by assumption)).elim
       | exact (us_7 hq_ (by assumption) (by assumption)).elim
       | exact (us_9a hq_ (by assumption) (by assumption)).elim
       | exact (us_9b hq_ (by assumption) (by assumption)).elim
       | exact (us_11a hq_ (by assumption) (by assumption)).elim
       | exact (us_11b hq_ (by assumption) (by assumption)).elim
       | exact (us_10 hq_ (by assumption) (by assumption) (by assumption)).elim
       | exact (us_n hq_ (by assumption) (by assumption) (by assumption) (by assumption) (by assumption) (by assumption)).elim
     ·
      refine wp_skip ?_
      refine block_normal ?_
      refine block_normal ?_
      refine then_normal ?_
      refine go_region [0, 1] kz ?_
      refine go_rn [0, 1] [] [(3, .p 0 0), (12, .v (.slice A l.length c)), (13, .v (.int .i64 ((l.length : Nat) : Int))), (14, .v (.int .i64 (IntKind.i64.wrap (((k : Nat) : Int) + 1))))] az aA fun gM dR => ?_
      clear aA
      refine wpOps_nil (then_normal ?_)
      obtain ⟨cC, dS, dT⟩ := az.cutB dR 1 [⟨bQ, 0, [.int .i64 n1, .slice A6 s2.length c7, .bool b3, .slice A8 l4.length c9, .slice aZ u5.length ba], true⟩] [(3, .p 0 0), (12, .v (.slice A l.length c)), (13, .v (.int .i64 ((l.length : Nat) : Int))), (14, .v (.int .i64 (IntKind.i64.wrap (((k : Nat) : Int) + 1))))]
      obtain ⟨dU, dV⟩ := dS.cutR 0 []
      have dW : IntKind.i64.wrap (((k : Nat) : Int) + 1) = ((k + 1 : Nat) : Int) := wrap_succ (by omega)
      rw [dW] at cC
      exact ⟨l.length - (k + 1), by omega, k + 1, rfl, by omega, cC.pk, dU, ((((((((((ak.trans al).trans am).trans ag).trans ab).trans ac).trans bA).trans ax).trans cA).trans dT).trans dV)⟩
    ·
     have fv : ae ≠ 7 := by simpa using bz
     refine wp_seq ?_
     refine go_sp [(3, .p 0 0), (6, .p 1 0), (7, .p 2 0), (12, .v (.slice A l.length c)), (13, .v (.int .i64 ((l.length : Nat) : Int))), (14, .v (.int .i64 ((k : Nat) : Int))), (23, .v (.int .i64 ae)), (53, .v (.bool (ae == 9)))] aa aw fun gN aj => ?_
     clear aw
     refine cond_of aj (b := ae == 9) kz (fun aS => ?_) (fun aS => ?_)
     ·
      have fw : ae = 9 := by simpa using aS
      refine wp_skip ?_
      refine then_normal ?_
      refine cond_true aj (b := ae == 9) kz (aS) ?_
      refine go_seq_region [0, 1, 2, 3, 4, 5, 6, 7, 8, 9] kz ?_
      refine go_rn [0, 1, 2, 3, 4] [5, 6, 7, 8, 9] [(3, .p 0 0), (7, .p 2 0), (12, .v (.slice A l.length c)), (13, .v (.int .i64 ((l.length : Nat) : Int))), (14, .v (.int .i64 ((k : Nat) : Int))), (60, .v (.bool (decide (((af.length : Nat) : Int) > 0))))] aa aj fun gO aT => ?_
      clear aj
      refine (Bool.eq_false_or_eq_true (decide (((af.length : Nat) : Int) > 0))).elim (fun aB => ?_) (fun aB => ?_)
      ·
       have fx := of_decide_eq_true aB
       have cD := aT.cast (env' := [(3, .p 0 0), (7, .p 2 0), (12, .v (.slice A l.length c)), (13, .v (.int .i64 ((l.length : Nat) : Int))), (14, .v (.int .i64 ((k : Nat) : Int))), (60, .v (.bool true))]) (by rw [aB])
       clear aT
       refine go_rn [5, 6, 7, 8, 9] [] [(3, .p 0 0), (12, .v (.slice A l.length c)), (13, .v (.int .i64 ((l.length : Nat) : Int))), (14, .v (.int .i64 ((k : Nat) : Int))), (65, .v (.bool true))] aa cD fun gP bB => ?_
       clear cD
       refine wpOps_nil (then_normal ?_)
       refine cond_true bB (b := true) kz rfl ?_
       refine go_sp [(4, .v (.bool false))] aa bB fun gQ dX => ?_
       clear bB
       refine wp_ret ?_
       refine block_ret ?_
       refine block_ret ?_
       refine then_ret ?_
       refine then_ret ?_
       refine block_ret ?_
       refine then_ret ?_
       refine leave dX aa.cells (v := .bool false) kz ?_
       first
        | exact (us_8a hq_ (by assumption) (by assumption)).elim
        | exact (us_8b hq_ (by assumption) (by assumption)).elim
        | exact (us_7 hq_ (by assumption) (by assumption)).elim
        | exact (us_9a hq_ (by assumption) (by assumption)).elim
        | exact (us_9b hq_ (by assumption) (by assumption)).elim
        | exact (us_11a hq_ (by assumption) (by assumption)).elim
        | exact (us_11b hq_ (by assumption) (by assumption)).elim
        | exact (us_10 hq_ (by assumption) (by assumption) (by assumption)).elim
        | exact (us_n hq_ (by assumption) (by assumption) (by assumption) (by assumption) (by assumption) (by assumption)).elim
      ·
       have fy := of_decide_eq_false aB
       have cE := aT.cast (env' := [(3, .p 0 0), (7, .p 2 0), (12, .v (.slice A l.length c)), (13, .v (.int .i64 ((l.length : Nat) : Int))), (14, .v (.int .i64 ((k : Nat) : Int))), (60, .v (.bool false))]) (by rw [aB])
       clear aT
       refine go_rn [5, 6, 7, 8, 9] [] [(3, .p 0 0), (12, .v (.slice A l.length c)), (13, .v (.int .i64 ((l.length : Nat) : Int))), (14, .v (.int .i64 ((k : Nat) : Int))), (65, .v (.bool (decide (((ao.length : Nat) : Int) > 0))))] aa cE fun gR aC => ?_
       clear cE
       refine wpOps_nil (then_normal ?_)
       refine cond_of aC (b := decide (((ao.length : Nat) : Int) > 0)) kz (fun bC => ?_) (fun bC => ?_)
       ·
        have fz := of_decide_eq_true bC
        refine go_sp [(4, .v (.bool false))] aa aC fun gS dY => ?_
        clear aC
        refine wp_ret ?_
        refine block_ret ?_
        refine block_ret ?_
        refine then_ret ?_
        refine then_ret ?_
        refine block_ret ?_
        refine then_ret ?_
        refine leave dY aa.cells (v := .bool false) kz ?_
        first
         | exact (us_8a hq_ (by assumption) (by assumption)).elim
         | exact (us_8b hq_ (by assumption) (by assumption)).elim
         | exact (us_7 hq_ (by assumption) (by assumption)).elim
         | exact (us_9a hq_ (by assumption) (by assumption)).elim
         | exact (us_9b hq_ (by assumption) (by assumption)).elim
         | exact (us_11a hq_ (by assumption) (by assumption)).elim
         | exact (us_11b hq_ (by assumption) (by assumption)).elim
         | exact (us_10 hq_ (by assumption) (by assumption) (by assumption)).elim
         | exact (us_n hq_ (by assumption) (by assumption) (by assumption) (by assumption) (by assumption) (by assumption)).elim
       ·
        have fA := of_decide_eq_false bC
        refine wp_skip ?_
        refine block_normal ?_
        refine block_normal ?_
        refine then_normal ?_
        refine go_region [0, 1] kz ?_
        refine go_rn [0, 1] [] [(3, .p 0 0), (12, .v (.slice A l.length c)), (13, .v (.int .i64 ((l.length : Nat) : Int))), (14, .v (.int .i64 (IntKind.i64.wrap (((k : Nat) : Int) + 1))))] aa aC fun gT dZ => ?_
        clear aC
        refine wpOps_nil (then_normal ?_)
        obtain ⟨cG, d5, d6⟩ := aa.cutB dZ 1 [⟨bQ, 0, [.int .i64 n1, .slice A6 s2.length c7, .bool b3, .slice A8 l4.length c9, .slice aZ u5.length ba], true⟩] [(3, .p 0 0), (12, .v (.slice A l.length c)), (13, .v (.int .i64 ((l.length : Nat) : Int))), (14, .v (.int .i64 (IntKind.i64.wrap (((k : Nat) : Int) + 1))))]
        have d7 : IntKind.i64.wrap (((k : Nat) : Int) + 1) = ((k + 1 : Nat) : Int) := wrap_succ (by omega)
        rw [d7] at cG
        exact ⟨l.length - (k + 1), by omega, k + 1, rfl, by omega, cG.pk, d5, ((((((ak.trans al).trans am).trans ag).trans ab).trans ac).trans d6)⟩
     ·
      have fB : ae ≠ 9 := by simpa using aS
      refine go_region [0, 1] kz ?_
      refine go_rn [0, 1] [] [(3, .p 0 0), (6, .p 1 0), (7, .p 2 0), (12, .v (.slice A l.length c)), (13, .v (.int .i64 ((l.length : Nat) : Int))), (14, .v (.int .i64 ((k : Nat) : Int))), (23, .v (.int .i64 ae)), (53, .v (.bool (ae == 11)))] aa aj fun gU aD => ?_
      clear aj
      refine wpOps_nil (then_normal ?_)
      refine cond_of aD (b := ae == 11) kz (fun bD => ?_) (fun bD => ?_)
      ·
       have fC : ae = 11 := by simpa using bD
       refine go_seq_region [0, 1, 2, 3, 4, 5, 6, 7, 8, 9] kz ?_
       refine go_rn [0, 1, 2, 3, 4] [5, 6, 7, 8, 9] [(3, .p 0 0), (7, .p 2 0), (12, .v (.slice A l.length c)), (13, .v (.int .i64 ((l.length : Nat) : Int))), (14, .v (.int .i64 ((k : Nat) : Int))), (60, .v (.bool (decide (((af.length : Nat) : Int) > 0))))] aa aD fun gV aU => ?_
       clear aD
       refine (Bool.eq_false_or_eq_true (decide (((af.length : Nat) : Int) > 0))).elim (fun aE => ?_) (fun aE => ?_)
       ·
        have fD := of_decide_eq_true aE
        have cH := aU.cast (env' := [(3, .p 0 0), (7, .p 2 0), (12, .v (.slice A l.length c)), (13, .v (.int .i64 ((l.length : Nat) : Int))), (14, .v (.int .i64 ((k : Nat) : Int))), (60, .v (.bool true))]) (by rw [aE])
        clear aU
        refine go_rn [5, 6, 7, 8, 9] [] [(3, .p 0 0), (12, .v (.slice A l.length c)), (13, .v (.int .i64 ((l.length : Nat) : Int))), (14, .v (.int .i64 ((k : Nat) : Int))), (65, .v (.bool true))] aa cH fun gW bE => ?_
        clear cH
        refine wpOps_nil (then_normal ?_)
        refine cond_true bE (b := true) kz rfl ?_
        refine go_sp [(4, .v (.bool false))] aa bE fun gX d8 => ?_
        clear bE
        refine wp_ret ?_
        refine block_ret ?_
        refine block_ret ?_
        refine then_ret ?_
        refine then_ret ?_
        refine block_ret ?_
        refine then_ret ?_
        refine leave d8 aa.cells (v := .bool false) kz ?_
        first
         | exact (us_8a hq_ (by assumption) (by assumption)).elim
         | exact (us_8b hq_ (by assumption) (by assumption)).elim
         | exact (us_7 hq_ (by assumption) (by assumption)).elim
         | exact (us_9a hq_ (by assumption) (by assumption)).elim
         | exact (us_9b hq_ (by assumption) (by assumption)).elim
         | exact (us_11a hq_ (by assumption) (by assumption)).elim
         | exact (us_11b hq_ (by assumption) (by assumption)).elim
         | exact (us_10 hq_ (by assumption) (by assumption) (by assumption)).elim
         | exact (us_n hq_ (by assumption) (by assumption) (by assumption) (by assumption) (by assumption) (by assumption)).elim
       ·
        have fE := of_decide_eq_false aE
        have cI := aU.cast (env' := [(3, .p 0 0), (7, .p 2 0), (12, .v (.slice A l.length c)), (13, .v (.int .i64 ((l.length : Nat) : Int))), (14, .v (.int .i64 ((k : Nat) : Int))), (60, .v (.bool false))]) (by rw [aE])
        clear aU
        refine go_rn [5, 6, 7, 8, 9] [] [(3, .p 0 0), (12, .v (.slice A l.length c)), (13, .v (.int .i64 ((l.length : Nat) : Int))), (14, .v (.int .i64 ((k : Nat) : Int))), (65, .v (.bool (decide (((ao.length : Nat) : Int) > 0))))] aa cI fun gY aF => ?_
        clear cI
        refine wpOps_nil (then_normal ?_)
        refine cond_of aF (b := decide (((ao.length : Nat) : Int) > 0)) kz (fun bF => ?_) (fun bF => ?_)
        ·
         have fF := of_decide_eq_true bF
         refine go_sp [(4, .v (.bool false))] aa aF fun gZ d9 => ?_
         clear aF
         refine wp_ret ?_
         refine block_ret ?_
         refine block_ret ?_
         refine then_ret ?_
         refine then_ret ?_
         refine block_ret ?_
         refine then_ret ?_
         refine leave d9 aa.cells (v := .bool false) kz ?_
         first
          | exact (us_8a hq_ (by assumption) (by assumption)).elim
          | exact (us_8b hq_ (by assumption) (by assumption)).elim
          | exact (us_7 hq_ (by assumption) (by assumption)).elim
          | exact (us_9a hq_ (by assumption) (by assumption)).elim
          | exact (us_9b hq_ (by assumption) (by assumption)).elim
          | exact (us_11a hq_ (by assumption) (by assumption)).elim
          | exact (us_11b hq_ (by assumption) (by assumption)).elim
          | exact (us_10 hq_ (by assumption) (by assumption) (by assumption)).elim
          | exact (us_n hq_ (by assumption) (by assumption) (by assumption) (by assumption) (by assumption) (by assumption)).elim
        ·
         have fG := of_decide_eq_false bF
         refine wp_skip ?_
         refine block_normal ?_
         refine block_normal ?_
         refine then_normal ?_
         refine go_region [0, 1] kz ?_
         refine go_rn [0, 1] [] [(3, .p 0 0), (12, .v (.slice A l.length c)), (13, .v (.int .i64 ((l.length : Nat) : Int))), (14, .v (.int .i64 (IntKind.i64.wrap (((k : Nat) : Int) + 1))))] aa aF fun g6 ea => ?_
         clear aF
         refine wpOps_nil (then_normal ?_)
         obtain ⟨cJ, eb, ec⟩ := aa.cutB ea 1 [⟨bQ, 0, [.int .i64 n1, .slice A6 s2.length c7, .bool b3, .slice A8 l4.length c9, .slice aZ u5.length ba], true⟩] [(3, .p 0 0), (12, .v (.slice A l.length c)), (13, .v (.int .i64 ((l.length : Nat) : Int))), (14, .v (.int .i64 (IntKind.i64.wrap (((k : Nat) : Int) + 1))))]
         have ee : IntKind.i64.wrap (((k : Nat) : Int) + 1) = ((k + 1 : Nat) : Int) := wrap_succ (by omega)
         rw [ee] at cJ
         exact ⟨l.length - (k + 1), by omega, k + 1, rfl, by omega, cJ.pk, eb, ((((((ak.trans al).trans am).trans ag).trans ab).trans ac).trans ec)⟩
      ·
       have fH : ae ≠ 11 := by simpa using bD
       refine go_sp [(3, .p 0 0), (6, .p 1 0), (7, .p 2 0), (12, .v (.slice A l.length c)), (13, .v (.int .i64 ((l.length : Nat) : Int))), (14, .v (.int .i64 ((k : Nat) : Int))), (66, .v (.bool (ae == 10)))] aa aD fun g7 aG => ?_
       clear aD
       refine cond_of aG (b := ae == 10) kz (fun bG => ?_) (fun bG => ?_)
       ·
        have fI : ae = 10 := by simpa using bG
        refine go_seq_region [0, 1, 2, 3, 4, 5, 6, 7, 8, 9, 10, 11, 12, 13, 14, 15, 16, 17, 18, 19] kz ?_
        refine go_rn [0, 1, 2, 3] [4, 5, 6, 7, 8, 9, 10, 11, 12, 13, 14, 15, 16, 17, 18, 19] [(3, .p 0 0), (6, .p 1 0), (7, .p 2 0), (12, .v (.slice A l.length c)), (13, .v (.int .i64 ((l.length : Nat) : Int))), (14, .v (.int .i64 ((k : Nat) : Int))), (71, .v (.bool (decide (aP ≥ 0))))] aa aG fun g8 aV => ?_
        clear aG
        refine (Bool.eq_false_or_eq_true (decide (aP ≥ 0))).elim (fun aH => ?_) (fun aH => ?_)
        ·
         have fJ := of_decide_eq_true aH
         have cK := aV.cast (env' := [(3, .p 0 0), (6, .p 1 0), (7, .p 2 0), (12, .v (.slice A l.length c)), (13, .v (.int .i64 ((l.length : Nat) : Int))), (14, .v (.int .i64 ((k : Nat) : Int))), (71, .v (.bool true))]) (by rw [aH])
         clear aV
         refine go_rn [4, 5, 6, 7, 8] [9, 10, 11, 12, 13, 14, 15, 16, 17, 18, 19] [(3, .p 0 0), (6, .p 1 0), (7, .p 2 0), (12, .v (.slice A l.length c)), (13, .v (.int .i64 ((l.length : Nat) : Int))), (14, .v (.int .i64 ((k : Nat) : Int))), (76, .v (.bool (!ah)))] aa cK fun g9 aW => ?_
         clear cK
         refine (Bool.eq_false_or_eq_true (!ah)).elim (fun bH => ?_) (fun bH => ?_)
         ·
          have cL := aW.cast (env' := [(3, .p 0 0), (6, .p 1 0), (7, .p 2 0), (12, .v (.slice A l.length c)), (13, .v (.int .i64 ((l.length : Nat) : Int))), (14, .v (.int .i64 ((k : Nat) : Int))), (76, .v (.bool true))]) (by rw [bH])
          clear aW
          refine go_rn [9, 10, 11, 12, 13, 14, 15, 16, 17, 18, 19] [] [(3, .p 0 0), (12, .v (.slice A l.length c)), (13, .v (.int .i64 ((l.length : Nat) : Int))), (14, .v (.int .i64 ((k : Nat) : Int))), (87, .v (.bool true))] aa cL fun hC bI => ?_
          clear cL
          refine wpOps_nil (then_normal ?_)
          refine cond_true bI (b := true) kz rfl ?_
          refine go_sp [(4, .v (.bool false))] aa bI fun hJ ef => ?_
          clear bI
          refine wp_ret ?_
          refine block_ret ?_
          refine block_ret ?_
          refine then_ret ?_
          refine then_ret ?_
          refine block_ret ?_
          refine then_ret ?_
          refine leave ef aa.cells (v := .bool false) kz ?_
          first
           | exact (us_8a hq_ (by assumption) (by assumption)).elim
           | exact (us_8b hq_ (by assumption) (by assumption)).elim
           | exact (us_7 hq_ (by assumption) (by assumption)).elim
           | exact (us_9a hq_ (by assumption) (by assumption)).elim
           | exact (us_9b hq_ (by assumption) (by assumption)).elim
           | exact (us_11a hq_ (by assumption) (by assumption)).elim
           | exact (us_11b hq_ (by assumption) (by assumption)).elim
           | exact (us_10 hq_ (by assumption) (by assumption) (by assumption)).elim
           | exact (us_n hq_ (by assumption) (by assumption) (by assumption) (by assumption) (by assumption) (by assumption)).elim
         ·
          have cM := aW.cast (env' := [(3, .p 0 0), (6, .p 1 0), (7, .p 2 0), (12, .v (.slice A l.length c)), (13, .v (.int .i64 ((l.length : Nat) : Int))), (14, .v (.int .i64 ((k : Nat) : Int))), (76, .v (.bool false))]) (by rw [bH])
          clear aW
          refine go_rn [9, 10, 11, 12] [13, 14, 15, 16, 17, 18, 19] [(3, .p 0 0), (6, .p 1 0), (7, .p 2 0), (12, .v (.slice A l.length c)), (13, .v (.int .i64 ((l.length : Nat) : Int))), (14, .v (.int .i64 ((k : Nat) : Int))), (76, .v (.bool false)), (80, .v (.bool (decide (aP < 0))))] aa cM fun hK aX => ?_
          clear cM
          refine (Bool.eq_false_or_eq_true (decide (aP < 0))).elim (fun aI => ?_) (fun aI => ?_)
          ·
           have fK := of_decide_eq_true aI
           have cN := aX.cast (env' := [(3, .p 0 0), (6, .p 1 0), (7, .p 2 0), (12, .v (.slice A l.length c)), (13, .v (.int .i64 ((l.length : Nat) : Int))), (14, .v (.int .i64 ((k : Nat) : Int))), (76, .v (.bool false)), (80, .v (.bool true))]) (by rw [aI])
           clear aX
           refine go_rn [13, 14, 15] [16, 17, 18, 19] [(3, .p 0 0), (12, .v (.slice A l.length c)), (13, .v (.int .i64 ((l.length : Nat) : Int))), (14, .v (.int .i64 ((k : Nat) : Int))), (76, .v (.bool false)), (80, .v (.bool true)), (82, .v (.slice bT bR.length bU)), (83, .v (.agg #[.int .i64 ai, .slice aN af.length aO, .bool ah, .slice bk ao.length bn, .slice bo bj.length bp]))] aa cN fun hZ cO => ?_
           clear cN
           refine of_op (wpOp_call cO (f := 46) (vs := [.slice bT bR.length bU, .agg #[.int .i64 ai, .slice aN af.length aO, .bool ah, .slice bk ao.length bn, .slice bo bj.length bp]]) (d := 84) kz Tryd.call46 ( hu _ _ bR _ _ _ _ ⟨dy, (eV.move aa.step nilM aa.imm), (fun i_ x_ h_ => ((fe i_ x_ h_).move aa.step nilM aa.imm))⟩ (aQ.move (ab.trans ac).step immM (ab.trans ac).to') (by rw [bq]; exact us_sub hq_ (by assumption) (by assumption))) ?_)
           rintro e_ ia ⟨rfl, cP⟩
           refine ⟨_, rfl, fun ib cQ => ?_⟩
           have bJ := aa.next_nil cP
           have eg := aa.frN cP
           clear cO aa
           refine go_rn [17, 18, 19] [] [(3, .p 0 0), (12, .v (.slice A l.length c)), (13, .v (.int .i64 ((l.length : Nat) : Int))), (14, .v (.int .i64 ((k : Nat) : Int))), (87, .v (.bool false))] bJ cQ fun ic bK => ?_
           clear cQ
           refine wpOps_nil (then_normal ?_)
           refine cond_false bK (b := false) kz rfl ?_
           refine wp_skip ?_
           refine block_normal ?_
           refine block_normal ?_
           refine then_normal ?_
           refine go_region [0, 1] kz ?_
           refine go_rn [0, 1] [] [(3, .p 0 0), (12, .v (.slice A l.length c)), (13, .v (.int .i64 ((l.length : Nat) : Int))), (14, .v (.int .i64 (IntKind.i64.wrap (((k : Nat) : Int) + 1))))] bJ bK fun ig eh => ?_
           clear bK
           refine wpOps_nil (then_normal ?_)
           obtain ⟨cR, ei, ej⟩ := bJ.cutB eh 1 [⟨bQ, 0, [.int .i64 n1, .slice A6 s2.length c7, .bool b3, .slice A8 l4.length c9, .slice aZ u5.length ba], true⟩] [(3, .p 0 0), (12, .v (.slice A l.length c)), (13, .v (.int .i64 ((l.length : Nat) : Int))), (14, .v (.int .i64 (IntKind.i64.wrap (((k : Nat) : Int) + 1))))]
           have ek : IntKind.i64.wrap (((k : Nat) : Int) + 1) = ((k + 1 : Nat) : Int) := wrap_succ (by omega)
           rw [ek] at cR
           exact ⟨l.length - (k + 1), by omega, k + 1, rfl, by omega, cR.pk, ei, (((((((ak.trans al).trans am).trans ag).trans ab).trans ac).trans eg).trans ej)⟩
          ·
           have fL := of_decide_eq_false aI
           have cS := aX.cast (env' := [(3, .p 0 0), (6, .p 1 0), (7, .p 2 0), (12, .v (.slice A l.length c)), (13, .v (.int .i64 ((l.length : Nat) : Int))), (14, .v (.int .i64 ((k : Nat) : Int))), (76, .v (.bool false)), (80, .v (.bool false))]) (by rw [aI])
           clear aX
           refine go_rn [13, 14, 15, 16, 17, 18, 19] [] [(3, .p 0 0), (12, .v (.slice A l.length c)), (13, .v (.int .i64 ((l.length : Nat) : Int))), (14, .v (.int .i64 ((k : Nat) : Int))), (87, .v (.bool false))] aa cS fun ii bL => ?_
           clear cS
           refine wpOps_nil (then_normal ?_)
           refine cond_false bL (b := false) kz rfl ?_
           refine wp_skip ?_
           refine block_normal ?_
           refine block_normal ?_
           refine then_normal ?_
           refine go_region [0, 1] kz ?_
           refine go_rn [0, 1] [] [(3, .p 0 0), (12, .v (.slice A l.length c)), (13, .v (.int .i64 ((l.length : Nat) : Int))), (14, .v (.int .i64 (IntKind.i64.wrap (((k : Nat) : Int) + 1))))] aa bL fun ij em => ?_
           clear bL
           refine wpOps_nil (then_normal ?_)
           obtain ⟨cT, eo, ep⟩ := aa.cutB em 1 [⟨bQ, 0, [.int .i64 n1, .slice A6 s2.length c7, .bool b3, .slice A8 l4.length c9, .slice aZ u5.length ba], true⟩] [(3, .p 0 0), (12, .v (.slice A l.length c)), (13, .v (.int .i64 ((l.length : Nat) : Int))), (14, .v (.int .i64 (IntKind.i64.wrap (((k : Nat) : Int) + 1))))]
           have eu : IntKind.i64.wrap (((k : Nat) : Int) + 1) = ((k + 1 : Nat) : Int) := wrap_succ (by omega)
           rw [eu] at cT
           exact ⟨l.length - (k + 1), by omega, k + 1, rfl, by omega, cT.pk, eo, ((((((ak.trans al).trans am).trans ag).trans ab).trans ac).trans ep)⟩
        ·
         have fM := of_decide_eq_false aH
         have cU := aV.cast (env' := [(3, .p 0 0), (6, .p 1 0), (7, .p 2 0), (12, .v (.slice A l.length c)), (13, .v (.int .i64 ((l.length : Nat) : Int))), (14, .v (.int .i64 ((k : Nat) : Int))), (71, .v (.bool false))]) (by rw [aH])
         clear aV
         refine go_rn [4, 5, 6, 7, 8, 9, 10, 11, 12] [13, 14, 15, 16, 17, 18, 19] [(3, .p 0 0), (6, .p 1 0), (7, .p 2 0), (12, .v (.slice A l.length c)), (13, .v (.int .i64 ((l.length : Nat) : Int))), (14, .v (.int .i64 ((k : Nat) : Int))), (76, .v (.bool false)), (80, .v (.bool (decide (aP < 0))))] aa cU fun ik aY => ?_
         clear cU
         refine (Bool.eq_false_or_eq_true (decide (aP < 0))).elim (fun aJ => ?_) (fun aJ => ?_)
         ·
          have fN := of_decide_eq_true aJ
          have cV := aY.cast (env' := [(3, .p 0 0), (6, .p 1 0), (7, .p 2 0), (12, .v (.slice A l.length c)), (13, .v (.int .i64 ((l.length : Nat) : Int))), (14, .v (.int .i64 ((k : Nat) : Int))), (76, .v (.bool false)), (80, .v (.bool true))]) (by rw [aJ])
          clear aY
          refine go_rn [13, 14, 15] [16, 17, 18, 19] [(3, .p 0 0), (12, .v (.slice A l.length c)), (13, .v (.int .i64 ((l.length : Nat) : Int))), (14, .v (.int .i64 ((k : Nat) : Int))), (76, .v (.bool false)), (80, .v (.bool true)), (82, .v (.slice bT bR.length bU)), (83, .v (.agg #[.int .i64 ai, .slice aN af.length aO, .bool ah, .slice bk ao.length bn, .slice bo bj.length bp]))] aa cV fun il cW => ?_
          clear cV
          refine of_op (wpOp_call cW (f := 46) (vs := [.slice bT bR.length bU, .agg #[.int .i64 ai, .slice aN af.length aO, .bool ah, .slice bk ao.length bn, .slice bo bj.length bp]]) (d := 84) kz Tryd.call46 ( hu _ _ bR _ _ _ _ ⟨dy, (eV.move aa.step nilM aa.imm), (fun i_ x_ h_ => ((fe i_ x_ h_).move aa.step nilM aa.imm))⟩ (aQ.move (ab.trans ac).step immM (ab.trans ac).to') (by rw [bq]; exact us_sub hq_ (by assumption) (by assumption))) ?_)
          rintro e_ im ⟨rfl, cX⟩
          refine ⟨_, rfl, fun io cY => ?_⟩
          have bM := aa.next_nil cX
          have ev := aa.frN cX
          clear cW aa
          refine go_rn [17, 18, 19] [] [(3, .p 0 0), (12, .v (.slice A l.length c)), (13, .v (.int .i64 ((l.length : Nat) : Int))), (14, .v (.int .i64 ((k : Nat) : Int))), (87, .v (.bool false))] bM cY fun ip bN => ?_
          clear cY
          refine wpOps_nil (then_normal ?_)
          refine cond_false bN (b := false) kz rfl ?_
          refine wp_skip ?_
          refine block_normal ?_
          refine block_normal ?_
          refine then_normal ?_
          refine go_region [0, 1] kz ?_
          refine go_rn [0, 1] [] [(3, .p 0 0), (12, .v (.slice A l.length c)), (13, .v (.int .i64 ((l.length : Nat) : Int))), (14, .v (.int .i64 (IntKind.i64.wrap (((k : Nat) : Int) + 1))))] bM bN fun iq ew => ?_
          clear bN
          refine wpOps_nil (then_normal ?_)
          obtain ⟨cZ, ey, ez⟩ := bM.cutB ew 1 [⟨bQ, 0, [.int .i64 n1, .slice A6 s2.length c7, .bool b3, .slice A8 l4.length c9, .slice aZ u5.length ba], true⟩] [(3, .p 0 0), (12, .v (.slice A l.length c)), (13, .v (.int .i64 ((l.length : Nat) : Int))), (14, .v (.int .i64 (IntKind.i64.wrap (((k : Nat) : Int) + 1))))]
          have eB : IntKind.i64.wrap (((k : Nat) : Int) + 1) = ((k + 1 : Nat) : Int) := wrap_succ (by omega)
          rw [eB] at cZ
          exact ⟨l.length - (k + 1), by omega, k + 1, rfl, by omega, cZ.pk, ey, (((((((ak.trans al).trans am).trans ag).trans ab).trans ac).trans ev).trans ez)⟩
         ·
          have fO := of_decide_eq_false aJ
          have c5 := aY.cast (env' := [(3, .p 0 0), (6, .p 1 0), (7, .p 2 0), (12, .v (.slice A l.length c)), (13, .v (.int .i64 ((l.length : Nat) : Int))), (14, .v (.int .i64 ((k : Nat) : Int))), (76, .v (.bool false)), (80, .v (.bool false))]) (by rw [aJ])
          clear aY
          refine go_rn [13, 14, 15, 16, 17, 18, 19] [] [(3, .p 0 0), (12, .v (.slice A l.length c)), (13, .v (.int .i64 ((l.length : Nat) : Int))), (14, .v (.int .i64 ((k : Nat) : Int))), (87, .v (.bool false))] aa c5 fun ir bO => ?_
          clear c5
          refine wpOps_nil (then_normal ?_)
          refine cond_false bO (b := false) kz rfl ?_
          refine wp_skip ?_
          refine block_normal ?_
          refine block_normal ?_
          refine then_normal ?_
          refine go_region [0, 1] kz ?_
          refine go_rn [0, 1] [] [(3, .p 0 0), (12, .v (.slice A l.length c)), (13, .v (.int .i64 ((l.length : Nat) : Int))), (14, .v (.int .i64 (IntKind.i64.wrap (((k : Nat) : Int) + 1))))] aa bO fun iu eC => ?_
          clear bO
          refine wpOps_nil (then_normal ?_)
          obtain ⟨da, eD, eE⟩ := aa.cutB eC 1 [⟨bQ, 0, [.int .i64 n1, .slice A6 s2.length c7, .bool b3, .slice A8 l4.length c9, .slice aZ u5.length ba], true⟩] [(3, .p 0 0), (12, .v (.slice A l.length c)), (13, .v (.int .i64 ((l.length : Nat) : Int))), (14, .v (.int .i64 (IntKind.i64.wrap (((k : Nat) : Int) + 1))))]
          have eF : IntKind.i64.wrap (((k : Nat) : Int) + 1) = ((k + 1 : Nat) : Int) := wrap_succ (by omega)
          rw [eF] at da
          exact ⟨l.length - (k + 1), by omega, k + 1, rfl, by omega, da.pk, eD, ((((((ak.trans al).trans am).trans ag).trans ab).trans ac).trans eE)⟩
       ·
        have fP : ae ≠ 10 := by simpa using bG
        refine go_seq_drawK 8 kz aa fun iv eG db eH => ?_
        clear aa
        refine go_rnD [0, 1, 2, 3, 4, 5] [(3, .p 0 0), (12, .v (.slice A l.length c)), (13, .v (.int .i64 ((l.length : Nat) : Int))), (14, .v (.int .i64 ((k : Nat) : Int))), (25, .v (.int .i64 ai)), (27, .v (.int .i64 ae)), (29, .v (.int .i64 bh))] 2 (panicFree_then (panicFree_block (panicFree_block (panicFree_then (panicFree_then (panicFree_block (panicFree_then panicFree_body))))))) (fun _ h => h.cells) eH aG fun iw dc => ?_
        clear aG
        refine anyC_op (i := 6) kz (wpOp_call dc (f := 78) (vs := [.int .i64 ae, .int .i64 bh]) (d := 30) kz Tryd.call78 (sNumber ae bh _) ?_)
        rintro e_ ix ⟨rfl, de⟩
        refine ⟨_, rfl, fun iy df => ?_⟩
        have aK := db.next_nil de
        have dg := db.frN de
        clear dc
        have dh := TT.ofW dg aK
        refine ⟨fun _ => dh, ?_⟩
        refine go_rnD [7] [(3, .p 0 0), (12, .v (.slice A l.length c)), (13, .v (.int .i64 ((l.length : Nat) : Int))), (14, .v (.int .i64 ((k : Nat) : Int))), (31, .v (.bool (ai != (numberI ae bh))))] 0 (panicFree_then (panicFree_block (panicFree_block (panicFree_then (panicFree_then (panicFree_block (panicFree_then panicFree_body))))))) (fun _ h => h.cells) dh df fun iz aL => ?_
        clear df
        refine anyC_done kz ?_ _
        refine then_normal ?_
        refine cond_of aL (b := ai != (numberI ae bh)) kz (fun bP => ?_) (fun bP => ?_)
        ·
         have fQ : ai ≠ (numberI ae bh) := by simpa using bP
         refine go_sp [(4, .v (.bool false))] aK aL fun iA eI => ?_
         clear aL
         refine wp_ret ?_
         refine block_ret ?_
         refine block_ret ?_
         refine then_ret ?_
         refine then_ret ?_
         refine block_ret ?_
         refine then_ret ?_
         refine leave eI aK.cells (v := .bool false) kz ?_
         first
          | exact (us_8a hq_ (by assumption) (by assumption)).elim
          | exact (us_8b hq_ (by assumption) (by assumption)).elim
          | exact (us_7 hq_ (by assumption) (by assumption)).elim
          | exact (us_9a hq_ (by assumption) (by assumption)).elim
          | exact (us_9b hq_ (by assumption) (by assumption)).elim
          | exact (us_11a hq_ (by assumption) (by assumption)).elim
          | exact (us_11b hq_ (by assumption) (by assumption)).elim
          | exact (us_10 hq_ (by assumption) (by assumption) (by assumption)).elim
          | exact (us_n hq_ (by assumption) (by assumption) (by assumption) (by assumption) (by assumption) (by assumption)).elim
        ·
         have fR : ai = (numberI ae bh) := by simpa using bP
         refine wp_skip ?_
         refine block_normal ?_
         refine block_normal ?_
         refine then_normal ?_
         refine go_region [0, 1] kz ?_
         refine go_rn [0, 1] [] [(3, .p 0 0), (12, .v (.slice A l.length c)), (13, .v (.int .i64 ((l.length : Nat) : Int))), (14, .v (.int .i64 (IntKind.i64.wrap (((k : Nat) : Int) + 1))))] aK aL fun iB eJ => ?_
         clear aL
         refine wpOps_nil (then_normal ?_)
         obtain ⟨di, eK, eL⟩ := aK.cutB eJ 1 [⟨bQ, 0, [.int .i64 n1, .slice A6 s2.length c7, .bool b3, .slice A8 l4.length c9, .slice aZ u5.length ba], true⟩] [(3, .p 0 0), (12, .v (.slice A l.length c)), (13, .v (.int .i64 ((l.length : Nat) : Int))), (14, .v (.int .i64 (IntKind.i64.wrap (((k : Nat) : Int) + 1))))]
         have eM : IntKind.i64.wrap (((k : Nat) : Int) + 1) = ((k + 1 : Nat) : Int) := wrap_succ (by omega)
         rw [eM] at di
         exact ⟨l.length - (k + 1), by omega, k + 1, rfl, by omega, di.pk, eK, ((((((((ak.trans al).trans am).trans ag).trans ab).trans ac).trans eG).trans dg).trans eL)⟩
  ·
   have fS := of_decide_eq_false dl
   refine wp_exit ?_
   refine then_exit ?_
   refine then_exit ?_
   refine block_exit ?_
   refine then_normal ?_
   refine go_sp [(4, .v (.bool true))] ap bg fun iC eN => ?_
   clear bg
   refine wp_ret ?_
   refine leave eN ap.cells (v := .bool true) kz ?_
   exact ⟨rfl, ap.step⟩
theorem sUsualP : ∀ d, UsOK (UsualP d)
 | 0 => sUs fun _ _ _ _ _ _ _ _ _ h => h.elim
 | d + 1 => sUs (sUsualP d)
def ToOK (v : Int) (flex : Bool) (T : List Fld → Tree → Tree → Prop) : Prop := ∀ (A : Option Addr) (c : Nat) (l : List Fld) (ct : List Value) (t : Tree) (cg : List Value) (g : Tree) (w : World) (F : Nat → Nat → Prop), FldsR w F A c l → TreeR w F ct t → TreeR w F cg g → plains l → T l t g →
  Calls Tryd.prog 18 #[.slice A l.length c, .int .i64 v, .bool flex, .agg ct.toArray, .agg cg.toArray] w (Gives w (.bool true))
theorem sTold0 {v : Int} {flex : Bool} {T : List Fld → Tree → Tree → Prop} (hT : ToOK v flex T) (cf : List Value) (f : Fld) (ct : List Value) (t : Tree) (cg : List Value) (g : Tree) (w : World) (F : Nat → Nat → Prop) (hf : FldR w F cf f) (hpl : plains f.sub) (bY : f.kind ≠ 11) (ht : TreeR w F ct t) (hg : TreeR w F cg g) (hq : ToF0 T v f t g) :
  Calls Tryd.prog 45 #[.agg cf.toArray, .int .i64 v, .bool flex, .agg ct.toArray, .agg cg.toArray] w (Gives w (.bool true)) := by
 obtain ⟨k1, y2, y3, y4, y5, y6, y7, l8, A9, fY, gc, rfl, rfl, iU, ja⟩ := hf.open_
 have jb := iU.small
 obtain ⟨ac, ab, ae, af, ag, ai, aj, fZ, f5, f8, f9, kK, rfl, rfl, aM, kL, oP, oQ⟩ := ht.open_
 have jc := aM.small
 have jd := kL.small
 obtain ⟨aS, ah, ap, ga, gb, al, am, gd, ge, gg, gh, kM, rfl, rfl, bX, kN, oR, oS⟩ := hg.open_
 have je := bX.small
 have jf := kN.small
 replace hpl : plains l8 := hpl
 have bY : k1 ≠ 11 := bY
 refine enter (n := 124) Tryd.func45 rfl Tryd.ntmps45 kz fun a hE => ?_
 have hW := WOk.start w Nil
 refine go_seq_region [0, 1, 2, 3] kz ?_
 refine of_op (wpOp_box hW hE (d := 5) (cs := [.int .i64 k1, .int .i64 y2, .int .i64 y3, .int .i64 y4, .int .i64 y5, .int .i64 y6, .int .i64 y7, .slice A9 l8.length fY]) kz fun oT oU oV kO kP kQ gi gj => ?_)
 clear hE hW
 refine of_op (wpOp_box gi gj (d := 8) (cs := [.int .i64 ac, .slice ai ab.length aj, .bool ae, .slice fZ af.length f5, .slice f8 ag.length f9]) kz fun oW oX oY kR kS kT gk gl => ?_)
 clear gj gi
 refine of_op (wpOp_box gk gl (d := 9) (cs := [.int .i64 aS, .slice al ah.length am, .bool ap, .slice gd ga.length ge, .slice gg gb.length gh]) kz fun oZ o5 o6 kU kV kW bZ gm => ?_)
 clear gl gk
 refine go_rn [3] [] [(1, .v (.int .i64 v)), (2, .v (.bool flex)), (5, .p 0 0), (8, .p 1 0), (9, .p 2 0)] bZ gm fun o7 gn => ?_
 clear gm
 refine wpOps_nil (then_normal ?_)
 refine go_seq_region [0, 1, 2, 3, 4] kz ?_
 refine go_rn [0, 1, 2] [3, 4] [(1, .v (.int .i64 v)), (2, .v (.bool flex)), (5, .p 0 0), (8, .p 1 0), (9, .p 2 0), (17, .v (.agg #[.int .i64 k1, .int .i64 y2, .int .i64 y3, .int .i64 y4, .int .i64 y5, .int .i64 y6, .int .i64 y7, .slice A9 l8.length fY])), (18, .v (.int .i64 v)), (19, .v (.agg #[.int .i64 ac, .slice ai ab.length aj, .bool ae, .slice fZ af.length f5, .slice f8 ag.length f9]))] bZ gn fun o9 gp => ?_
 clear gn
 refine of_op (wpOp_call gp (f := 76) (vs := [.agg #[.int .i64 k1, .int .i64 y2, .int .i64 y3, .int .i64 y4, .int .i64 y5, .int .i64 y6, .int .i64 y7, .slice A9 l8.length fY], .int .i64 v, .agg #[.int .i64 ac, .slice ai ab.length aj, .bool ae, .slice fZ af.length f5, .slice f8 ag.length f9]]) (d := 20) kz Tryd.call76 (sNull k1 y2 y3 y4 y5 y6 y7 l8 _ _ v ac ab ae af ag _ _ _ _ _ _ _) ?_)
 rintro e_ pa ⟨rfl, gq⟩
 refine ⟨_, rfl, fun pb gt => ?_⟩
 have aa := bZ.next_nil gq
 have kX := bZ.frN gq
 clear gp bZ
 refine go_rn [4] [] [(1, .v (.int .i64 v)), (2, .v (.bool flex)), (5, .p 0 0), (8, .p 1 0), (9, .p 2 0), (11, .v (.bool (Fld.nul (Fld.mk k1 y2 y3 y4 y5 y6 y7 l8) v (Tree.mk ac ab ae af ag))))] aa gt fun pc gv => ?_
 clear gt
 refine wpOps_nil (then_normal ?_)
 refine go_seq_region [0, 1, 2, 3, 4, 5, 6, 7, 8, 9] kz ?_
 refine go_rn [0, 1, 2, 3] [4, 5, 6, 7, 8, 9] [(1, .v (.int .i64 v)), (2, .v (.bool flex)), (5, .p 0 0), (8, .p 1 0), (9, .p 2 0), (11, .v (.bool (Fld.nul (Fld.mk k1 y2 y3 y4 y5 y6 y7 l8) v (Tree.mk ac ab ae af ag)))), (24, .v (.bool (decide (y4 ≥ 0))))] aa gv fun pd de => ?_
 clear gv
 refine (Bool.eq_false_or_eq_true (decide (y4 ≥ 0))).elim (fun b8 => ?_) (fun b8 => ?_)
 ·
  have kY := of_decide_eq_true b8
  have gw := de.cast (env' := [(1, .v (.int .i64 v)), (2, .v (.bool flex)), (5, .p 0 0), (8, .p 1 0), (9, .p 2 0), (11, .v (.bool (Fld.nul (Fld.mk k1 y2 y3 y4 y5 y6 y7 l8) v (Tree.mk ac ab ae af ag)))), (24, .v (.bool true))]) (by rw [b8])
  clear de
  refine go_rn [4, 5, 6, 7, 8, 9] [] [(1, .v (.int .i64 v)), (2, .v (.bool flex)), (5, .p 0 0), (8, .p 1 0), (9, .p 2 0), (11, .v (.bool (Fld.nul (Fld.mk k1 y2 y3 y4 y5 y6 y7 l8) v (Tree.mk ac ab ae af ag)))), (12, .v (.bool (decide (v ≥ y4))))] aa gw fun pe gx => ?_
  clear gw
  refine wpOps_nil (then_normal ?_)
  refine wp_seq ?_
  refine go_seq_region [0, 1, 2, 3, 4, 5, 6, 7, 8, 9, 10, 11, 12, 13, 14, 15, 16] kz ?_
  refine go_rn [0, 1, 2, 3] [4, 5, 6, 7, 8, 9, 10, 11, 12, 13, 14, 15, 16] [(1, .v (.int .i64 v)), (2, .v (.bool flex)), (5, .p 0 0), (8, .p 1 0), (9, .p 2 0), (11, .v (.bool (Fld.nul (Fld.mk k1 y2 y3 y4 y5 y6 y7 l8) v (Tree.mk ac ab ae af ag)))), (12, .v (.bool (decide (v ≥ y4)))), (33, .v (.bool (k1 == 8)))] aa gx fun pf bz => ?_
  clear gx
  refine (Bool.eq_false_or_eq_true (k1 == 8)).elim (fun ak => ?_) (fun ak => ?_)
  ·
   have jg : k1 = 8 := by simpa using ak
   have df := bz.cast (env' := [(1, .v (.int .i64 v)), (2, .v (.bool flex)), (5, .p 0 0), (8, .p 1 0), (9, .p 2 0), (11, .v (.bool (Fld.nul (Fld.mk k1 y2 y3 y4 y5 y6 y7 l8) v (Tree.mk ac ab ae af ag)))), (12, .v (.bool (decide (v ≥ y4)))), (33, .v (.bool true))]) (by rw [ak])
   clear bz
   refine go_rn [4, 5, 6, 7, 8, 9, 10, 11, 12, 13, 14, 15, 16] [] [(1, .v (.int .i64 v)), (2, .v (.bool flex)), (5, .p 0 0), (8, .p 1 0), (9, .p 2 0), (11, .v (.bool (Fld.nul (Fld.mk k1 y2 y3 y4 y5 y6 y7 l8) v (Tree.mk ac ab ae af ag)))), (46, .v (.bool (!(ap == (Fld.nul (Fld.mk k1 y2 y3 y4 y5 y6 y7 l8) v (Tree.mk ac ab ae af ag))))))] aa df fun kZ aT => ?_
   clear df
   refine wpOps_nil (then_normal ?_)
   refine cond_of aT (b := !(ap == (Fld.nul (Fld.mk k1 y2 y3 y4 y5 y6 y7 l8) v (Tree.mk ac ab ae af ag)))) kz (fun cd => ?_) (fun cd => ?_)
   ·
    have jh : !(ap = (Fld.nul (Fld.mk k1 y2 y3 y4 y5 y6 y7 l8) v (Tree.mk ac ab ae af ag))) := by simpa using cd
    refine go_sp [(10, .v (.bool false))] aa aT fun k5 gy => ?_
    clear aT
    refine wp_ret ?_
    refine then_ret ?_
    refine leave gy aa.cells (v := .bool false) kz ?_
    first
     | exact (to_n8 hq (by assumption) (by assumption)).elim
     | exact (to_n10 hq (by assumption) (by assumption)).elim
     | exact (to_nm hq (by assumption) (by assumption) (by assumption)).elim
   ·
    have ji : !(ap ≠ (Fld.nul (Fld.mk k1 y2 y3 y4 y5 y6 y7 l8) v (Tree.mk ac ab ae af ag))) := by simpa using cd
    refine wp_skip ?_
    refine then_normal ?_
    refine wp_seq ?_
    refine go_sp [(1, .v (.int .i64 v)), (2, .v (.bool flex)), (5, .p 0 0), (8, .p 1 0), (9, .p 2 0), (47, .v (.bool (Fld.nul (Fld.mk k1 y2 y3 y4 y5 y6 y7 l8) v (Tree.mk ac ab ae af ag))))] aa aT fun k6 aU => ?_
    clear aT
    refine cond_of aU (b := Fld.nul (Fld.mk k1 y2 y3 y4 y5 y6 y7 l8) v (Tree.mk ac ab ae af ag)) kz (fun gz => ?_) (fun gz => ?_)
    ·
     refine go_sp [(10, .v (.bool true))] aa aU fun k7 gA => ?_
     clear aU
     refine wp_ret ?_
     refine then_ret ?_
     refine leave gA aa.cells (v := .bool true) kz ?_
     exact ⟨rfl, aa.step⟩
    ·
     refine wp_skip ?_
     refine then_normal ?_
     refine wp_seq ?_
     refine go_sp [(1, .v (.int .i64 v)), (2, .v (.bool flex)), (5, .p 0 0), (8, .p 1 0), (9, .p 2 0), (49, .v (.int .i64 k1))] aa aU fun k8 dg => ?_
     clear aU
     refine wp_block ?_
     refine wp_seq ?_
     refine go_sp [(1, .v (.int .i64 v)), (2, .v (.bool flex)), (5, .p 0 0), (8, .p 1 0), (9, .p 2 0), (49, .v (.int .i64 k1)), (50, .v (.bool (k1 == 8)))] aa dg fun k9 bA => ?_
     clear dg
     refine cond_true bA (b := k1 == 8) kz (ak) ?_
     refine wp_skip ?_
     refine then_normal ?_
     refine cond_true bA (b := k1 == 8) kz (ak) ?_
     refine go_seq_drawK 6 kz aa fun la jj bB gB => ?_
     clear aa
     refine go_rnD [0, 1, 2, 3] [(54, .v (.slice al ah.length am)), (56, .v (.slice ai ab.length aj))] 3 (panicFree_then (panicFree_block (panicFree_then panicFree_body))) (fun _ h => h.cells) gB bA fun lb dh => ?_
     clear bA
     have iV := whole_le ab
     refine anyC_op (i := 4) kz (wpOp_call dh (f := 48) (vs := [.slice ai ab.length aj]) (d := 57) kz Tryd.call48 (sWhole _ _ ab (aM.move bB.step nilM bB.imm).le _) ?_)
     rintro e_ lc ⟨rfl, di⟩
     refine ⟨_, rfl, fun ld dj => ?_⟩
     have ay := bB.next_nil di
     have dl := bB.frN di
     clear dh
     have gC := TT.ofW dl ay
     refine ⟨fun _ => gC, ?_⟩
     refine anyC_op (i := 5) kz (wpOp_call dj (f := 14) (vs := [.slice al ah.length am, .slice ai ((whole ab).length) aj]) (d := 58) kz Tryd.call14 (sSame _ _ _ _ ah (whole ab) _ _ ((bX.move ay.step nilM ay.imm).move (Step.refl _ Nil) nilM allF) (((aM.take 32767).move ay.step nilM ay.imm).move (Step.refl _ Nil) nilM allF)) ?_)
     rintro e_ lf ⟨rfl, dp⟩
     refine ⟨_, rfl, fun lg dq => ?_⟩
     have bC := ay.next_nil dp
     have gD := ay.frN dp
     clear dj ay
     have gE := TT.ofW (dl.trans gD) bC
     refine ⟨fun _ => gE, ?_⟩
     refine anyC_op (i := 6) kz (wpOp_pure [10] bC.cells dq (env' := [(10, .v (.bool (decide (ah = (whole ab)))))]) kz fun lh gF => ?_)
     clear dq
     refine ⟨fun h => absurd rfl h, ?_⟩
     refine anyC_done kz ?_ _
     refine then_normal ?_
     refine wp_ret ?_
     refine block_ret ?_
     refine then_ret ?_
     refine leave gF bC.cells (v := .bool (decide (ah = (whole ab)))) kz ?_
     refine ⟨congrArg (fun b_ => Ending.returned (Value.bool b_)) ?_, bC.step⟩
     first
      | exact to_t8 hq (by assumption) (by assumption)
      | exact to_t9 hq (by assumption) (by assumption)
      | exact to_u hq (by assumption) (by assumption)
      | exact to_m hq (by assumption) (by assumption) (by assumption) (by assumption) (by assumption) (by assumption)
  ·
   have jk : k1 ≠ 8 := by simpa using ak
   have dr := bz.cast (env' := [(1, .v (.int .i64 v)), (2, .v (.bool flex)), (5, .p 0 0), (8, .p 1 0), (9, .p 2 0), (11, .v (.bool (Fld.nul (Fld.mk k1 y2 y3 y4 y5 y6 y7 l8) v (Tree.mk ac ab ae af ag)))), (12, .v (.bool (decide (v ≥ y4)))), (33, .v (.bool false))]) (by rw [ak])
   clear bz
   refine go_rn [4, 5, 6, 7, 8] [9, 10, 11, 12, 13, 14, 15, 16] [(1, .v (.int .i64 v)), (2, .v (.bool flex)), (5, .p 0 0), (8, .p 1 0), (9, .p 2 0), (11, .v (.bool (Fld.nul (Fld.mk k1 y2 y3 y4 y5 y6 y7 l8) v (Tree.mk ac ab ae af ag)))), (12, .v (.bool (decide (v ≥ y4)))), (38, .v (.bool (k1 == 10)))] aa dr fun li bD => ?_
   clear dr
   refine (Bool.eq_false_or_eq_true (k1 == 10)).elim (fun az => ?_) (fun az => ?_)
   ·
    have jl : k1 = 10 := by simpa using az
    have dt := bD.cast (env' := [(1, .v (.int .i64 v)), (2, .v (.bool flex)), (5, .p 0 0), (8, .p 1 0), (9, .p 2 0), (11, .v (.bool (Fld.nul (Fld.mk k1 y2 y3 y4 y5 y6 y7 l8) v (Tree.mk ac ab ae af ag)))), (12, .v (.bool (decide (v ≥ y4)))), (38, .v (.bool true))]) (by rw [az])
    clear bD
    refine go_rn [9, 10, 11, 12, 13, 14, 15, 16] [] [(1, .v (.int .i64 v)), (2, .v (.bool flex)), (5, .p 0 0), (8, .p 1 0), (9, .p 2 0), (11, .v (.bool (Fld.nul (Fld.mk k1 y2 y3 y4 y5 y6 y7 l8) v (Tree.mk ac ab ae af ag)))), (46, .v (.bool (!(ap == (Fld.nul (Fld.mk k1 y2 y3 y4 y5 y6 y7 l8) v (Tree.mk ac ab ae af ag))))))] aa dt fun lj aV => ?_
    clear dt
    refine wpOps_nil (then_normal ?_)
    refine cond_of aV (b := !(ap == (Fld.nul (Fld.mk k1 y2 y3 y4 y5 y6 y7 l8) v (Tree.mk ac ab ae af ag)))) kz (fun ce => ?_) (fun ce => ?_)
    ·
     have jm : !(ap = (Fld.nul (Fld.mk k1 y2 y3 y4 y5 y6 y7 l8) v (Tree.mk ac ab ae af ag))) := by simpa using ce
     refine go_sp [(10, .v (.bool false))] aa aV fun lm gG => ?_
     clear aV
     refine wp_ret ?_
     refine then_ret ?_
     refine leave gG aa.cells (v := .bool false) kz ?_
     first
      | exact (to_n8 hq (by assumption) (by assumption)).elim
      | exact (to_n10 hq (by assumption) (by assumption)).elim
      | exact (to_nm hq (by assumption) (by assumption) (by assumption)).elim
    ·
     have jn : !(ap ≠ (Fld.nul (Fld.mk k1 y2 y3 y4 y5 y6 y7 l8) v (Tree.mk ac ab ae af ag))) := by simpa using ce
     refine wp_skip ?_
     refine then_normal ?_
     refine wp_seq ?_
     refine go_sp [(1, .v (.int .i64 v)), (2, .v (.bool flex)), (5, .p 0 0), (8, .p 1 0), (9, .p 2 0), (47, .v (.bool (Fld.nul (Fld.mk k1 y2 y3 y4 y5 y6 y7 l8) v (Tree.mk ac ab ae af ag))))] aa aV fun ln aW => ?_
     clear aV
     refine cond_of aW (b := Fld.nul (Fld.mk k1 y2 y3 y4 y5 y6 y7 l8) v (Tree.mk ac ab ae af ag)) kz (fun gH => ?_) (fun gH => ?_)
     ·
      refine go_sp [(10, .v (.bool true))] aa aW fun lp gI => ?_
      clear aW
      refine wp_ret ?_
      refine then_ret ?_
      refine leave gI aa.cells (v := .bool true) kz ?_
      exact ⟨rfl, aa.step⟩
     ·
      refine wp_skip ?_
      refine then_normal ?_
      refine wp_seq ?_
      refine go_sp [(1, .v (.int .i64 v)), (2, .v (.bool flex)), (5, .p 0 0), (8, .p 1 0), (9, .p 2 0), (49, .v (.int .i64 k1))] aa aW fun lq du => ?_
      clear aW
      refine wp_block ?_
      refine wp_seq ?_
      refine go_sp [(1, .v (.int .i64 v)), (2, .v (.bool flex)), (5, .p 0 0), (8, .p 1 0), (9, .p 2 0), (49, .v (.int .i64 k1)), (50, .v (.bool (k1 == 8)))] aa du fun lr cm => ?_
      clear du
      refine cond_false cm (b := k1 == 8) kz (ak) ?_
      refine go_region [0, 1] kz ?_
      refine go_rn [0, 1] [] [(1, .v (.int .i64 v)), (2, .v (.bool flex)), (5, .p 0 0), (8, .p 1 0), (9, .p 2 0), (49, .v (.int .i64 k1)), (50, .v (.bool (k1 == 9)))] aa cm fun ls aX => ?_
      clear cm
      refine wpOps_nil (then_normal ?_)
      refine cond_of aX (b := k1 == 9) kz (fun cq => ?_) (fun cq => ?_)
      ·
       have jo : k1 = 9 := by simpa using cq
       refine go_seq_drawK 6 kz aa fun lu jp bE gJ => ?_
       clear aa
       refine go_rnD [0, 1, 2, 3] [(54, .v (.slice al ah.length am)), (56, .v (.slice ai ab.length aj))] 3 (panicFree_then (panicFree_block (panicFree_then panicFree_body))) (fun _ h => h.cells) gJ aX fun lv dv => ?_
       clear aX
       have iW := whole_le ab
       refine anyC_op (i := 4) kz (wpOp_call dv (f := 48) (vs := [.slice ai ab.length aj]) (d := 57) kz Tryd.call48 (sWhole _ _ ab (aM.move bE.step nilM bE.imm).le _) ?_)
       rintro e_ lw ⟨rfl, dw⟩
       refine ⟨_, rfl, fun lx dx => ?_⟩
       have aA := bE.next_nil dw
       have dy := bE.frN dw
       clear dv
       have gK := TT.ofW dy aA
       refine ⟨fun _ => gK, ?_⟩
       refine anyC_op (i := 5) kz (wpOp_call dx (f := 14) (vs := [.slice al ah.length am, .slice ai ((whole ab).length) aj]) (d := 58) kz Tryd.call14 (sSame _ _ _ _ ah (whole ab) _ _ ((bX.move aA.step nilM aA.imm).move (Step.refl _ Nil) nilM allF) (((aM.take 32767).move aA.step nilM aA.imm).move (Step.refl _ Nil) nilM allF)) ?_)
       rintro e_ ly ⟨rfl, dz⟩
       refine ⟨_, rfl, fun lz dA => ?_⟩
       have bF := aA.next_nil dz
       have gL := aA.frN dz
       clear dx aA
       have gM := TT.ofW (dy.trans gL) bF
       refine ⟨fun _ => gM, ?_⟩
       refine anyC_op (i := 6) kz (wpOp_pure [10] bF.cells dA (env' := [(10, .v (.bool (decide (ah = (whole ab)))))]) kz fun lA gN => ?_)
       clear dA
       refine ⟨fun h => absurd rfl h, ?_⟩
       refine anyC_done kz ?_ _
       refine then_normal ?_
       refine wp_ret ?_
       refine block_ret ?_
       refine then_ret ?_
       refine leave gN bF.cells (v := .bool (decide (ah = (whole ab)))) kz ?_
       refine ⟨congrArg (fun b_ => Ending.returned (Value.bool b_)) ?_, bF.step⟩
       first
        | exact to_t8 hq (by assumption) (by assumption)
        | exact to_t9 hq (by assumption) (by assumption)
        | exact to_u hq (by assumption) (by assumption)
        | exact to_m hq (by assumption) (by assumption) (by assumption) (by assumption) (by assumption) (by assumption)
      ·
       have jq : k1 ≠ 9 := by simpa using cq
       refine go_sp [(1, .v (.int .i64 v)), (2, .v (.bool flex)), (5, .p 0 0), (8, .p 1 0), (9, .p 2 0), (49, .v (.int .i64 k1)), (59, .v (.bool (k1 == 7)))] aa aX fun lB aY => ?_
       clear aX
       refine cond_of aY (b := k1 == 7) kz (fun cr => ?_) (fun cr => ?_)
       ·
        have jr : k1 = 7 := by simpa using cr
        refine go_seq_region [0, 1] kz ?_
        refine of_op (wpOp_make1 aa aY (d := 61) (j := 16) (t := 22) (e := 5) (bytes := 1) (z := .int .u8 0) kz kz kz kz (rfl) (rfl) (by omega) fun ar lC lD js jt ju aN dB => ?_)
        clear aY aa
        refine go_rn [1] [] [(8, .p 1 0), (9, .p 2 0), (13, .v (.slice (some ⟨ar, 0, none⟩) 16 16))] aN dB fun lE dC => ?_
        clear dB
        refine wpOps_nil (then_normal ?_)
        refine go_seq_region [0, 1, 2, 3] kz ?_
        refine go_rn [0, 1, 2] [3] [(9, .p 2 0), (13, .v (.slice (some ⟨ar, 0, none⟩) 16 16)), (62, .v (.slice (some ⟨ar, 0, none⟩) 16 16)), (64, .v (.slice ai ab.length aj))] aN dC fun lF dD => ?_
        clear dC
        refine of_op (wpOp_copyR aN dD (k := 0) (d := 65) (t := 22) (u := 22) (e := 5) (bytes := 1) (A := (some ⟨ar, 0, none⟩)) (As := ai) (m := ab.length) (cs := aj) (m0 := 16) (c := 16) (xs := (List.replicate 16 (.int .u8 0))) (news := bc ab) kz kz rfl (aM.move aN.step nilM aN.imm).src fun lG lH jv dE dF => ?_)
        clear dD aN
        have gO : (⟨(some ⟨ar, 0, none⟩), 16, 5, 1, 16, splice (List.replicate 16 (.int .u8 0)) 0 ((bc ab).take (min ab.length 16))⟩ : Rw) = brow (some ⟨ar, 0, none⟩) 16 5 (uuidB ab) := uuid_row _ _ _
        obtain ⟨aG, jw⟩ := dE.rowEq 0 [brow (some ⟨ar, 0, none⟩) 16 5 (uuidB ab)] gO
        clear dE
        have dG := EnvOk.pick dF (ks := [9, 13, 62, 64, 65]) (env' := [(9, .p 2 0), (13, .v (.slice (some ⟨ar, 0, none⟩) 16 16)), (62, .v (.slice (some ⟨ar, 0, none⟩) 16 16)), (64, .v (.slice ai ab.length aj)), (65, .v (.int .i64 ((min ab.length 16 : Nat) : Int)))]) kz
        have dH := dG.cast (env' := [(9, .p 2 0), (13, .v (.slice (some ⟨ar, 0, none⟩) ((uuidB ab).length) 16)), (62, .v (.slice (some ⟨ar, 0, none⟩) ((uuidB ab).length) 16)), (64, .v (.slice ai ab.length aj)), (65, .v (.int .i64 ((min ab.length 16 : Nat) : Int)))]) (by rw [uuidB_length _])
        clear dF dG
        refine wpOps_nil (then_normal ?_)
        refine go_seq_region [0, 1, 2, 3, 4] kz ?_
        refine go_rn [0, 1, 2] [3, 4] [(67, .v (.slice al ah.length am)), (68, .v (.slice (some ⟨ar, 0, none⟩) ((uuidB ab).length) 16))] aG dH fun lI dI => ?_
        clear dH
        refine of_op (wpOp_call dI (f := 14) (vs := [.slice al ah.length am, .slice (some ⟨ar, 0, none⟩) ((uuidB ab).length) 16]) (d := 69) kz Tryd.call14 (sSame _ _ _ _ ah (uuidB ab) _ _ ((bX.move aG.step nilM aG.imm).move (Step.refl _ Nil) nilM allF) (octs_own (aG.own 0 _ rfl) (by first | omega | (rw [uuidB_length]; decide) | (simp only [be_length]; exact Nat.le_trans (widthI_le _) (by decide)) | (have := hroom; omega) | (have := hmade; omega) | (simp only [List.length_append, List.length_nil]; omega)) (F := fun _ _ => True) (fun _ _ _ => trivial))) ?_)
        rintro e_ lJ ⟨rfl, dJ⟩
        refine ⟨_, rfl, fun lK dK => ?_⟩
        have cu := aG.next_nil dJ
        have jx := aG.frN dJ
        clear dI aG
        refine go_rn [4] [] [(10, .v (.bool (decide (ah = uuidB ab))))] cu dK fun lL gP => ?_
        clear dK
        refine wpOps_nil (then_normal ?_)
        refine wp_ret ?_
        refine block_ret ?_
        refine then_ret ?_
        refine leave gP cu.cells (v := .bool (decide (ah = uuidB ab))) kz ?_
        refine ⟨congrArg (fun b_ => Ending.returned (Value.bool b_)) ?_, cu.step⟩
        first
         | exact to_t8 hq (by assumption) (by assumption)
         | exact to_t9 hq (by assumption) (by assumption)
         | exact to_u hq (by assumption) (by assumption)
         | exact to_m hq (by assumption) (by assumption) (by assumption) (by assumption) (by assumption) (by assumption)
       ·
        have jy : k1 ≠ 7 := by simpa using cr
        refine go_sp [(1, .v (.int .i64 v)), (2, .v (.bool flex)), (5, .p 0 0), (8, .p 1 0), (9, .p 2 0), (49, .v (.int .i64 k1)), (70, .v (.bool (k1 == 10)))] aa aY fun lM cw => ?_
        clear aY
        refine cond_true cw (b := k1 == 10) kz (az) ?_
        refine go_seq_region [0, 1, 2, 3, 4, 5, 6, 7] kz ?_
        refine go_rn [0, 1, 2, 3, 4, 5] [6, 7] [(73, .v (.slice A9 l8.length fY)), (74, .v (.int .i64 v)), (75, .v (.bool flex)), (76, .v (.agg #[.int .i64 ac, .slice ai ab.length aj, .bool ae, .slice fZ af.length f5, .slice f8 ag.length f9])), (77, .v (.agg #[.int .i64 aS, .slice al ah.length am, .bool ap, .slice gd ga.length ge, .slice gg gb.length gh]))] aa cw fun lN dL => ?_
        clear cw
        refine of_op (wpOp_call dL (f := 18) (vs := [.slice A9 l8.length fY, .int .i64 v, .bool flex, .agg #[.int .i64 ac, .slice ai ab.length aj, .bool ae, .slice fZ af.length f5, .slice f8 ag.length f9], .agg #[.int .i64 aS, .slice al ah.length am, .bool ap, .slice gd ga.length ge, .slice gg gb.length gh]]) (d := 78) kz Tryd.call18 ( hT _ _ l8 _ (Tree.mk ac ab ae af ag) _ (Tree.mk aS ah ap ga gb) _ _ ⟨gc, (iU.move aa.step nilM aa.imm), (fun i_ x_ h_ => ((ja i_ x_ h_).move aa.step nilM aa.imm))⟩ (ht.move aa.step nilM aa.imm) (hg.move aa.step nilM aa.imm) hpl (to_part hq (by assumption) (by assumption))) ?_)
        rintro e_ lO ⟨rfl, dM⟩
        refine ⟨_, rfl, fun lP dN => ?_⟩
        have cz := aa.next_nil dM
        have jz := aa.frN dM
        clear dL aa
        refine go_rn [7] [] [(10, .v (.bool true))] cz dN fun lQ gQ => ?_
        clear dN
        refine wpOps_nil (then_normal ?_)
        refine wp_ret ?_
        refine block_ret ?_
        refine then_ret ?_
        refine leave gQ cz.cells (v := .bool true) kz ?_
        exact ⟨rfl, cz.step⟩
   ·
    have jA : k1 ≠ 10 := by simpa using az
    have dO := bD.cast (env' := [(1, .v (.int .i64 v)), (2, .v (.bool flex)), (5, .p 0 0), (8, .p 1 0), (9, .p 2 0), (11, .v (.bool (Fld.nul (Fld.mk k1 y2 y3 y4 y5 y6 y7 l8) v (Tree.mk ac ab ae af ag)))), (12, .v (.bool (decide (v ≥ y4)))), (38, .v (.bool false))]) (by rw [az])
    clear bD
    refine go_rn [9, 10, 11] [12, 13, 14, 15, 16] [(1, .v (.int .i64 v)), (2, .v (.bool flex)), (5, .p 0 0), (8, .p 1 0), (9, .p 2 0), (11, .v (.bool (Fld.nul (Fld.mk k1 y2 y3 y4 y5 y6 y7 l8) v (Tree.mk ac ab ae af ag)))), (41, .v (.bool (decide (v ≥ y4))))] aa dO fun lR bG => ?_
    clear dO
    refine (Bool.eq_false_or_eq_true (decide (v ≥ y4))).elim (fun aZ => ?_) (fun aZ => ?_)
    ·
     have jB := of_decide_eq_true aZ
     have dP := bG.cast (env' := [(1, .v (.int .i64 v)), (2, .v (.bool flex)), (5, .p 0 0), (8, .p 1 0), (9, .p 2 0), (11, .v (.bool (Fld.nul (Fld.mk k1 y2 y3 y4 y5 y6 y7 l8) v (Tree.mk ac ab ae af ag)))), (41, .v (.bool true))]) (by rw [aZ])
     clear bG
     refine go_rn [12, 13, 14, 15, 16] [] [(1, .v (.int .i64 v)), (2, .v (.bool flex)), (5, .p 0 0), (8, .p 1 0), (9, .p 2 0), (11, .v (.bool (Fld.nul (Fld.mk k1 y2 y3 y4 y5 y6 y7 l8) v (Tree.mk ac ab ae af ag)))), (46, .v (.bool (!(ap == (Fld.nul (Fld.mk k1 y2 y3 y4 y5 y6 y7 l8) v (Tree.mk ac ab ae af ag))))))] aa dP fun lS ba => ?_
     clear dP
     refine wpOps_nil (then_normal ?_)
     refine cond_of ba (b := !(ap == (Fld.nul (Fld.mk k1 y2 y3 y4 y5 y6 y7 l8) v (Tree.mk ac ab ae af ag)))) kz (fun cA => ?_) (fun cA => ?_)
     ·
      have jC : !(ap = (Fld.nul (Fld.mk k1 y2 y3 y4 y5 y6 y7 l8) v (Tree.mk ac ab ae af ag))) := by simpa using cA
      refine go_sp [(10, .v (.bool false))] aa ba fun lT gR => ?_
      clear ba
      refine wp_ret ?_
      refine then_ret ?_
      refine leave gR aa.cells (v := .bool false) kz ?_
      first
       | exact (to_n8 hq (by assumption) (by assumption)).elim
       | exact (to_n10 hq (by assumption) (by assumption)).elim
       | exact (to_nm hq (by assumption) (by assumption) (by assumption)).elim
     ·
      have jD : !(ap ≠ (Fld.nul (Fld.mk k1 y2 y3 y4 y5 y6 y7 l8) v (Tree.mk ac ab ae af ag))) := by simpa using cA
      refine wp_skip ?_
      refine then_normal ?_
      refine wp_seq ?_
      refine go_sp [(1, .v (.int .i64 v)), (2, .v (.bool flex)), (5, .p 0 0), (8, .p 1 0), (9, .p 2 0), (47, .v (.bool (Fld.nul (Fld.mk k1 y2 y3 y4 y5 y6 y7 l8) v (Tree.mk ac ab ae af ag))))] aa ba fun lU bd => ?_
      clear ba
      refine cond_of bd (b := Fld.nul (Fld.mk k1 y2 y3 y4 y5 y6 y7 l8) v (Tree.mk ac ab ae af ag)) kz (fun gS => ?_) (fun gS => ?_)
      ·
       refine go_sp [(10, .v (.bool true))] aa bd fun lV gT => ?_
       clear bd
       refine wp_ret ?_
       refine then_ret ?_
       refine leave gT aa.cells (v := .bool true) kz ?_
       exact ⟨rfl, aa.step⟩
      ·
       refine wp_skip ?_
       refine then_normal ?_
       refine wp_seq ?_
       refine go_sp [(1, .v (.int .i64 v)), (2, .v (.bool flex)), (5, .p 0 0), (8, .p 1 0), (9, .p 2 0), (49, .v (.int .i64 k1))] aa bd fun lW dQ => ?_
       clear bd
       refine wp_block ?_
       refine wp_seq ?_
       refine go_sp [(1, .v (.int .i64 v)), (2, .v (.bool flex)), (5, .p 0 0), (8, .p 1 0), (9, .p 2 0), (49, .v (.int .i64 k1)), (50, .v (.bool (k1 == 8)))] aa dQ fun lX cB => ?_
       clear dQ
       refine cond_false cB (b := k1 == 8) kz (ak) ?_
       refine go_region [0, 1] kz ?_
       refine go_rn [0, 1] [] [(1, .v (.int .i64 v)), (2, .v (.bool flex)), (5, .p 0 0), (8, .p 1 0), (9, .p 2 0), (49, .v (.int .i64 k1)), (50, .v (.bool (k1 == 9)))] aa cB fun lY bf => ?_
       clear cB
       refine wpOps_nil (then_normal ?_)
       refine cond_of bf (b := k1 == 9) kz (fun cC => ?_) (fun cC => ?_)
       ·
        have jE : k1 = 9 := by simpa using cC
        refine go_seq_drawK 6 kz aa fun lZ jF bH gU => ?_
        clear aa
        refine go_rnD [0, 1, 2, 3] [(54, .v (.slice al ah.length am)), (56, .v (.slice ai ab.length aj))] 3 (panicFree_then (panicFree_block (panicFree_then panicFree_body))) (fun _ h => h.cells) gU bf fun l0 dR => ?_
        clear bf
        have iX := whole_le ab
        refine anyC_op (i := 4) kz (wpOp_call dR (f := 48) (vs := [.slice ai ab.length aj]) (d := 57) kz Tryd.call48 (sWhole _ _ ab (aM.move bH.step nilM bH.imm).le _) ?_)
        rintro e_ l3 ⟨rfl, dS⟩
        refine ⟨_, rfl, fun l5 dT => ?_⟩
        have aB := bH.next_nil dS
        have dU := bH.frN dS
        clear dR
        have gV := TT.ofW dU aB
        refine ⟨fun _ => gV, ?_⟩
        refine anyC_op (i := 5) kz (wpOp_call dT (f := 14) (vs := [.slice al ah.length am, .slice ai ((whole ab).length) aj]) (d := 58) kz Tryd.call14 (sSame _ _ _ _ ah (whole ab) _ _ ((bX.move aB.step nilM aB.imm).move (Step.refl _ Nil) nilM allF) (((aM.take 32767).move aB.step nilM aB.imm).move (Step.refl _ Nil) nilM allF)) ?_)
        rintro e_ l6 ⟨rfl, dV⟩
        refine ⟨_, rfl, fun l7 dW => ?_⟩
        have bI := aB.next_nil dV
        have gW := aB.frN dV
        clear dT aB
        have gX := TT.ofW (dU.trans gW) bI
        refine ⟨fun _ => gX, ?_⟩
        refine anyC_op (i := 6) kz (wpOp_pure [10] bI.cells dW (env' := [(10, .v (.bool (decide (ah = (whole ab)))))]) kz fun l9 gY => ?_)
        clear dW
        refine ⟨fun h => absurd rfl h, ?_⟩
        refine anyC_done kz ?_ _
        refine then_normal ?_
        refine wp_ret ?_
        refine block_ret ?_
        refine then_ret ?_
        refine leave gY bI.cells (v := .bool (decide (ah = (whole ab)))) kz ?_
        refine ⟨congrArg (fun b_ => Ending.returned (Value.bool b_)) ?_, bI.step⟩
        first
         | exact to_t8 hq (by assumption) (by assumption)
         | exact to_t9 hq (by assumption) (by assumption)
         | exact to_u hq (by assumption) (by assumption)
         | exact to_m hq (by assumption) (by assumption) (by assumption) (by assumption) (by assumption) (by assumption)
       ·
        have jG : k1 ≠ 9 := by simpa using cC
        refine go_sp [(1, .v (.int .i64 v)), (2, .v (.bool flex)), (5, .p 0 0), (8, .p 1 0), (9, .p 2 0), (49, .v (.int .i64 k1)), (59, .v (.bool (k1 == 7)))] aa bf fun ma bg => ?_
        clear bf
        refine cond_of bg (b := k1 == 7) kz (fun cD => ?_) (fun cD => ?_)
        ·
         have jH : k1 = 7 := by simpa using cD
         refine go_seq_region [0, 1] kz ?_
         refine of_op (wpOp_make1 aa bg (d := 61) (j := 16) (t := 22) (e := 5) (bytes := 1) (z := .int .u8 0) kz kz kz kz (rfl) (rfl) (by omega) fun au mc md jI jJ jK aO dX => ?_)
         clear bg aa
         refine go_rn [1] [] [(8, .p 1 0), (9, .p 2 0), (13, .v (.slice (some ⟨au, 0, none⟩) 16 16))] aO dX fun me dY => ?_
         clear dX
         refine wpOps_nil (then_normal ?_)
         refine go_seq_region [0, 1, 2, 3] kz ?_
         refine go_rn [0, 1, 2] [3] [(9, .p 2 0), (13, .v (.slice (some ⟨au, 0, none⟩) 16 16)), (62, .v (.slice (some ⟨au, 0, none⟩) 16 16)), (64, .v (.slice ai ab.length aj))] aO dY fun mf dZ => ?_
         clear dY
         refine of_op (wpOp_copyR aO dZ (k := 0) (d := 65) (t := 22) (u := 22) (e := 5) (bytes := 1) (A := (some ⟨au, 0, none⟩)) (As := ai) (m := ab.length) (cs := aj) (m0 := 16) (c := 16) (xs := (List.replicate 16 (.int .u8 0))) (news := bc ab) kz kz rfl (aM.move aO.step nilM aO.imm).src fun mg mh jL d5 d6 => ?_)
         clear dZ aO
         have gZ : (⟨(some ⟨au, 0, none⟩), 16, 5, 1, 16, splice (List.replicate 16 (.int .u8 0)) 0 ((bc ab).take (min ab.length 16))⟩ : Rw) = brow (some ⟨au, 0, none⟩) 16 5 (uuidB ab) := uuid_row _ _ _
         obtain ⟨aH, jM⟩ := d5.rowEq 0 [brow (some ⟨au, 0, none⟩) 16 5 (uuidB ab)] gZ
         clear d5
         have d7 := EnvOk.pick d6 (ks := [9, 13, 62, 64, 65]) (env' := [(9, .p 2 0), (13, .v (.slice (some ⟨au, 0, none⟩) 16 16)), (62, .v (.slice (some ⟨au, 0, none⟩) 16 16)), (64, .v (.slice ai ab.length aj)), (65, .v (.int .i64 ((min ab.length 16 : Nat) : Int)))]) kz
         have d8 := d7.cast (env' := [(9, .p 2 0), (13, .v (.slice (some ⟨au, 0, none⟩) ((uuidB ab).length) 16)), (62, .v (.slice (some ⟨au, 0, none⟩) ((uuidB ab).length) 16)), (64, .v (.slice ai ab.length aj)), (65, .v (.int .i64 ((min ab.length 16 : Nat) : Int)))]) (by rw [uuidB_length _])
         clear d6 d7
         refine wpOps_nil (then_normal ?_)
         refine go_seq_region [0, 1, 2, 3, 4] kz ?_
         refine go_rn [0, 1, 2] [3, 4] [(67, .v (.slice al ah.length am)), (68, .v (.slice (some ⟨au, 0, none⟩) ((uuidB ab).length) 16))] aH d8 fun mi d9 => ?_
         clear d8
         refine of_op (wpOp_call d9 (f := 14) (vs := [.slice al ah.length am, .slice (some ⟨au, 0, none⟩) ((uuidB ab).length) 16]) (d := 69) kz Tryd.call14 (sSame _ _ _ _ ah (uuidB ab) _ _ ((bX.move aH.step nilM aH.imm).move (Step.refl _ Nil) nilM allF) (octs_own (aH.own 0 _ rfl) (by first | omega | (rw [uuidB_length]; decide) | (simp only [be_length]; exact Nat.le_trans (widthI_le _) (by decide)) | (have := hroom; omega) | (have := hmade; omega) | (simp only [List.length_append, List.length_nil]; omega)) (F := fun _ _ => True) (fun _ _ _ => trivial))) ?_)
         rintro e_ mj ⟨rfl, ea⟩
         refine ⟨_, rfl, fun ml eb => ?_⟩
         have cE := aH.next_nil ea
         have jN := aH.frN ea
         clear d9 aH
         refine go_rn [4] [] [(10, .v (.bool (decide (ah = uuidB ab))))] cE eb fun mn g6 => ?_
         clear eb
         refine wpOps_nil (then_normal ?_)
         refine wp_ret ?_
         refine block_ret ?_
         refine then_ret ?_
         refine leave g6 cE.cells (v := .bool (decide (ah = uuidB ab))) kz ?_
         refine ⟨congrArg (fun b_ => Ending.returned (Value.bool b_)) ?_, cE.step⟩
         first
          | exact to_t8 hq (by assumption) (by assumption)
          | exact to_t9 hq (by assumption) (by assumption)
          | exact to_u hq (by assumption) (by assumption)
          | exact to_m hq (by assumption) (by assumption) (by assumption) (by assumption) (by assumption) (by assumption)
        ·
         have jO : k1 ≠ 7 := by simpa using cD
         refine go_sp [(1, .v (.int .i64 v)), (2, .v (.bool flex)), (5, .p 0 0), (8, .p 1 0), (9, .p 2 0), (49, .v (.int .i64 k1)), (70, .v (.bool (k1 == 10)))] aa bg fun mo cG => ?_
         clear bg
         refine cond_false cG (b := k1 == 10) kz (az) ?_
         refine go_sp [(1, .v (.int .i64 v)), (2, .v (.bool flex)), (5, .p 0 0), (8, .p 1 0), (9, .p 2 0), (79, .v (.bool (k1 == 11)))] aa cG fun mp cH => ?_
         clear cG
         refine cond_false cH (b := k1 == 11) kz (by simpa using bY) ?_
         refine wp_skip ?_
         refine block_normal ?_
         refine then_normal ?_
         refine go_seq_drawK 8 kz aa fun mq jP ec g7 => ?_
         clear aa
         refine go_rnD [0, 1, 2, 3, 4, 5] [(117, .v (.int .i64 aS)), (119, .v (.int .i64 k1)), (121, .v (.int .i64 ac))] 3 (panicFree_then panicFree_body) (fun _ h => h.cells) g7 cH fun mr ee => ?_
         clear cH
         refine anyC_op (i := 6) kz (wpOp_call ee (f := 78) (vs := [.int .i64 k1, .int .i64 ac]) (d := 122) kz Tryd.call78 (sNumber k1 ac _) ?_)
         rintro e_ mt ⟨rfl, ef⟩
         refine ⟨_, rfl, fun mu eg => ?_⟩
         have bJ := ec.next_nil ef
         have g8 := ec.frN ef
         clear ee
         have eh := TT.ofW g8 bJ
         refine ⟨fun _ => eh, ?_⟩
         refine go_rnD [7] [(123, .v (.bool (aS == (numberI k1 ac))))] 1 (panicFree_then panicFree_body) (fun _ h => h.cells) eh eg fun mw ei => ?_
         clear eg
         refine anyC_op (i := 8) kz (wpOp_pure [10] bJ.cells ei (env' := [(10, .v (.bool (aS == (numberI k1 ac))))]) kz fun mx g9 => ?_)
         clear ei
         refine ⟨fun h => absurd rfl h, ?_⟩
         refine anyC_done kz ?_ _
         refine then_normal ?_
         refine wp_ret ?_
         refine leave g9 bJ.cells (v := .bool (aS == (numberI k1 ac))) kz ?_
         refine ⟨congrArg (fun b_ => Ending.returned (Value.bool b_)) ?_, bJ.step⟩
         first
          | exact to_t8 hq (by assumption) (by assumption)
          | exact to_t9 hq (by assumption) (by assumption)
          | exact to_u hq (by assumption) (by assumption)
          | exact to_m hq (by assumption) (by assumption) (by assumption) (by assumption) (by assumption) (by assumption)
    ·
     have jQ := of_decide_eq_false aZ
     have ej := bG.cast (env' := [(1, .v (.int .i64 v)), (2, .v (.bool flex)), (5, .p 0 0), (8, .p 1 0), (9, .p 2 0), (11, .v (.bool (Fld.nul (Fld.mk k1 y2 y3 y4 y5 y6 y7 l8) v (Tree.mk ac ab ae af ag)))), (41, .v (.bool false))]) (by rw [aZ])
     clear bG
     refine go_rn [12, 13, 14, 15, 16] [] [(1, .v (.int .i64 v)), (2, .v (.bool flex)), (5, .p 0 0), (8, .p 1 0), (9, .p 2 0), (11, .v (.bool (Fld.nul (Fld.mk k1 y2 y3 y4 y5 y6 y7 l8) v (Tree.mk ac ab ae af ag)))), (46, .v (.bool false))] aa ej fun my cI => ?_
     clear ej
     refine wpOps_nil (then_normal ?_)
     refine cond_false cI (b := false) kz rfl ?_
     refine wp_skip ?_
     refine then_normal ?_
     refine wp_seq ?_
     refine go_sp [(1, .v (.int .i64 v)), (2, .v (.bool flex)), (5, .p 0 0), (8, .p 1 0), (9, .p 2 0), (47, .v (.bool (Fld.nul (Fld.mk k1 y2 y3 y4 y5 y6 y7 l8) v (Tree.mk ac ab ae af ag))))] aa cI fun mz bh => ?_
     clear cI
     refine cond_of bh (b := Fld.nul (Fld.mk k1 y2 y3 y4 y5 y6 y7 l8) v (Tree.mk ac ab ae af ag)) kz (fun hC => ?_) (fun hC => ?_)
     ·
      refine go_sp [(10, .v (.bool true))] aa bh fun mA hJ => ?_
      clear bh
      refine wp_ret ?_
      refine then_ret ?_
      refine leave hJ aa.cells (v := .bool true) kz ?_
      exact ⟨rfl, aa.step⟩
     ·
      refine wp_skip ?_
      refine then_normal ?_
      refine wp_seq ?_
      refine go_sp [(1, .v (.int .i64 v)), (2, .v (.bool flex)), (5, .p 0 0), (8, .p 1 0), (9, .p 2 0), (49, .v (.int .i64 k1))] aa bh fun mB ek => ?_
      clear bh
      refine wp_block ?_
      refine wp_seq ?_
      refine go_sp [(1, .v (.int .i64 v)), (2, .v (.bool flex)), (5, .p 0 0), (8, .p 1 0), (9, .p 2 0), (49, .v (.int .i64 k1)), (50, .v (.bool (k1 == 8)))] aa ek fun mC cJ => ?_
      clear ek
      refine cond_false cJ (b := k1 == 8) kz (ak) ?_
      refine go_region [0, 1] kz ?_
      refine go_rn [0, 1] [] [(1, .v (.int .i64 v)), (2, .v (.bool flex)), (5, .p 0 0), (8, .p 1 0), (9, .p 2 0), (49, .v (.int .i64 k1)), (50, .v (.bool (k1 == 9)))] aa cJ fun mD bi => ?_
      clear cJ
      refine wpOps_nil (then_normal ?_)
      refine cond_of bi (b := k1 == 9) kz (fun cK => ?_) (fun cK => ?_)
      ·
       have jR : k1 = 9 := by simpa using cK
       refine go_seq_drawK 6 kz aa fun mF jS bK hK => ?_
       clear aa
       refine go_rnD [0, 1, 2, 3] [(54, .v (.slice al ah.length am)), (56, .v (.slice ai ab.length aj))] 3 (panicFree_then (panicFree_block (panicFree_then panicFree_body))) (fun _ h => h.cells) hK bi fun mG em => ?_
       clear bi
       have iY := whole_le ab
       refine anyC_op (i := 4) kz (wpOp_call em (f := 48) (vs := [.slice ai ab.length aj]) (d := 57) kz Tryd.call48 (sWhole _ _ ab (aM.move bK.step nilM bK.imm).le _) ?_)
       rintro e_ mH ⟨rfl, eo⟩
       refine ⟨_, rfl, fun mI ep => ?_⟩
       have aC := bK.next_nil eo
       have eu := bK.frN eo
       clear em
       have hZ := TT.ofW eu aC
       refine ⟨fun _ => hZ, ?_⟩
       refine anyC_op (i := 5) kz (wpOp_call ep (f := 14) (vs := [.slice al ah.length am, .slice ai ((whole ab).length) aj]) (d := 58) kz Tryd.call14 (sSame _ _ _ _ ah (whole ab) _ _ ((bX.move aC.step nilM aC.imm).move (Step.refl _ Nil) nilM allF) (((aM.take 32767).move aC.step nilM aC.imm).move (Step.refl _ Nil) nilM allF)) ?_)
       rintro e_ mJ ⟨rfl, ev⟩
       refine ⟨_, rfl, fun mK ew => ?_⟩
       have bL := aC.next_nil ev
       have ia := aC.frN ev
       clear ep aC
       have ib := TT.ofW (eu.trans ia) bL
       refine ⟨fun _ => ib, ?_⟩
       refine anyC_op (i := 6) kz (wpOp_pure [10] bL.cells ew (env' := [(10, .v (.bool (decide (ah = (whole ab)))))]) kz fun mL ic => ?_)
       clear ew
       refine ⟨fun h => absurd rfl h, ?_⟩
       refine anyC_done kz ?_ _
       refine then_normal ?_
       refine wp_ret ?_
       refine block_ret ?_
       refine then_ret ?_
       refine leave ic bL.cells (v := .bool (decide (ah = (whole ab)))) kz ?_
       refine ⟨congrArg (fun b_ => Ending.returned (Value.bool b_)) ?_, bL.step⟩
       first
        | exact to_t8 hq (by assumption) (by assumption)
        | exact to_t9 hq (by assumption) (by assumption)
        | exact to_u hq (by assumption) (by assumption)
        | exact to_m hq (by assumption) (by assumption) (by assumption) (by assumption) (by assumption) (by assumption)
      ·
       have jT : k1 ≠ 9 := by simpa using cK
       refine go_sp [(1, .v (.int .i64 v)), (2, .v (.bool flex)), (5, .p 0 0), (8, .p 1 0), (9, .p 2 0), (49, .v (.int .i64 k1)), (59, .v (.bool (k1 == 7)))] aa bi fun mM bj => ?_
       clear bi
       refine cond_of bj (b := k1 == 7) kz (fun cL => ?_) (fun cL => ?_)
       ·
        have jU : k1 = 7 := by simpa using cL
        refine go_seq_region [0, 1] kz ?_
        refine of_op (wpOp_make1 aa bj (d := 61) (j := 16) (t := 22) (e := 5) (bytes := 1) (z := .int .u8 0) kz kz kz kz (rfl) (rfl) (by omega) fun av mN mO jV jW jX aP ey => ?_)
        clear bj aa
        refine go_rn [1] [] [(8, .p 1 0), (9, .p 2 0), (13, .v (.slice (some ⟨av, 0, none⟩) 16 16))] aP ey fun mQ ez => ?_
        clear ey
        refine wpOps_nil (then_normal ?_)
        refine go_seq_region [0, 1, 2, 3] kz ?_
        refine go_rn [0, 1, 2] [3] [(9, .p 2 0), (13, .v (.slice (some ⟨av, 0, none⟩) 16 16)), (62, .v (.slice (some ⟨av, 0, none⟩) 16 16)), (64, .v (.slice ai ab.length aj))] aP ez fun mR eB => ?_
        clear ez
        refine of_op (wpOp_copyR aP eB (k := 0) (d := 65) (t := 22) (u := 22) (e := 5) (bytes := 1) (A := (some ⟨av, 0, none⟩)) (As := ai) (m := ab.length) (cs := aj) (m0 := 16) (c := 16) (xs := (List.replicate 16 (.int .u8 0))) (news := bc ab) kz kz rfl (aM.move aP.step nilM aP.imm).src fun mS mT jY eC eD => ?_)
        clear eB aP
        have ig : (⟨(some ⟨av, 0, none⟩), 16, 5, 1, 16, splice (List.replicate 16 (.int .u8 0)) 0 ((bc ab).take (min ab.length 16))⟩ : Rw) = brow (some ⟨av, 0, none⟩) 16 5 (uuidB ab) := uuid_row _ _ _
        obtain ⟨aI, jZ⟩ := eC.rowEq 0 [brow (some ⟨av, 0, none⟩) 16 5 (uuidB ab)] ig
        clear eC
        have eE := EnvOk.pick eD (ks := [9, 13, 62, 64, 65]) (env' := [(9, .p 2 0), (13, .v (.slice (some ⟨av, 0, none⟩) 16 16)), (62, .v (.slice (some ⟨av, 0, none⟩) 16 16)), (64, .v (.slice ai ab.length aj)), (65, .v (.int .i64 ((min ab.length 16 : Nat) : Int)))]) kz
        have eF := eE.cast (env' := [(9, .p 2 0), (13, .v (.slice (some ⟨av, 0, none⟩) ((uuidB ab).length) 16)), (62, .v (.slice (some ⟨av, 0, none⟩) ((uuidB ab).length) 16)), (64, .v (.slice ai ab.length aj)), (65, .v (.int .i64 ((min ab.length 16 : Nat) : Int)))]) (by rw [uuidB_length _])
        clear eD eE
        refine wpOps_nil (then_normal ?_)
        refine go_seq_region [0, 1, 2, 3, 4] kz ?_
        refine go_rn [0, 1, 2] [3, 4] [(67, .v (.slice al ah.length am)), (68, .v (.slice (some ⟨av, 0, none⟩) ((uuidB ab).length) 16))] aI eF fun mU eG => ?_
        clear eF
        refine of_op (wpOp_call eG (f := 14) (vs := [.slice al ah.length am, .slice (some ⟨av, 0, none⟩) ((uuidB ab).length) 16]) (d := 69) kz Tryd.call14 (sSame _ _ _ _ ah (uuidB ab) _ _ ((bX.move aI.step nilM aI.imm).move (Step.refl _ Nil) nilM allF) (octs_own (aI.own 0 _ rfl) (by first | omega | (rw [uuidB_length]; decide) | (simp only [be_length]; exact Nat.le_trans (widthI_le _) (by decide)) | (have := hroom; omega) | (have := hmade; omega) | (simp only [List.length_append, List.length_nil]; omega)) (F := fun _ _ => True) (fun _ _ _ => trivial))) ?_)
        rintro e_ mV ⟨rfl, eH⟩
        refine ⟨_, rfl, fun mW eI => ?_⟩
        have cM := aI.next_nil eH
        have j0 := aI.frN eH
        clear eG aI
        refine go_rn [4] [] [(10, .v (.bool (decide (ah = uuidB ab))))] cM eI fun mX ii => ?_
        clear eI
        refine wpOps_nil (then_normal ?_)
        refine wp_ret ?_
        refine block_ret ?_
        refine then_ret ?_
        refine leave ii cM.cells (v := .bool (decide (ah = uuidB ab))) kz ?_
        refine ⟨congrArg (fun b_ => Ending.returned (Value.bool b_)) ?_, cM.step⟩
        first
         | exact to_t8 hq (by assumption) (by assumption)
         | exact to_t9 hq (by assumption) (by assumption)
         | exact to_u hq (by assumption) (by assumption)
         | exact to_m hq (by assumption) (by assumption) (by assumption) (by assumption) (by assumption) (by assumption)
       ·
        have j1 : k1 ≠ 7 := by simpa using cL
        refine go_sp [(1, .v (.int .i64 v)), (2, .v (.bool flex)), (5, .p 0 0), (8, .p 1 0), (9, .p 2 0), (49, .v (.int .i64 k1)), (70, .v (.bool (k1 == 10)))] aa bj fun mY cN => ?_
        clear bj
        refine cond_false cN (b := k1 == 10) kz (az) ?_
        refine go_sp [(1, .v (.int .i64 v)), (2, .v (.bool flex)), (5, .p 0 0), (8, .p 1 0), (9, .p 2 0), (79, .v (.bool (k1 == 11)))] aa cN fun mZ cO => ?_
        clear cN
        refine cond_false cO (b := k1 == 11) kz (by simpa using bY) ?_
        refine wp_skip ?_
        refine block_normal ?_
        refine then_normal ?_
        refine go_seq_drawK 8 kz aa fun m4 j2 eJ ij => ?_
        clear aa
        refine go_rnD [0, 1, 2, 3, 4, 5] [(117, .v (.int .i64 aS)), (119, .v (.int .i64 k1)), (121, .v (.int .i64 ac))] 3 (panicFree_then panicFree_body) (fun _ h => h.cells) ij cO fun m5 eK => ?_
        clear cO
        refine anyC_op (i := 6) kz (wpOp_call eK (f := 78) (vs := [.int .i64 k1, .int .i64 ac]) (d := 122) kz Tryd.call78 (sNumber k1 ac _) ?_)
        rintro e_ m6 ⟨rfl, eL⟩
        refine ⟨_, rfl, fun m7 eM => ?_⟩
        have bM := eJ.next_nil eL
        have ik := eJ.frN eL
        clear eK
        have eN := TT.ofW ik bM
        refine ⟨fun _ => eN, ?_⟩
        refine go_rnD [7] [(123, .v (.bool (aS == (numberI k1 ac))))] 1 (panicFree_then panicFree_body) (fun _ h => h.cells) eN eM fun m8 eO => ?_
        clear eM
        refine anyC_op (i := 8) kz (wpOp_pure [10] bM.cells eO (env' := [(10, .v (.bool (aS == (numberI k1 ac))))]) kz fun m9 il => ?_)
        clear eO
        refine ⟨fun h => absurd rfl h, ?_⟩
        refine anyC_done kz ?_ _
        refine then_normal ?_
        refine wp_ret ?_
        refine leave il bM.cells (v := .bool (aS == (numberI k1 ac))) kz ?_
        refine ⟨congrArg (fun b_ => Ending.returned (Value.bool b_)) ?_, bM.step⟩
        first
         | exact to_t8 hq (by assumption) (by assumption)
         | exact to_t9 hq (by assumption) (by assumption)
         | exact to_u hq (by assumption) (by assumption)
         | exact to_m hq (by assumption) (by assumption) (by assumption) (by assumption) (by assumption) (by assumption)
 ·
  have j3 := of_decide_eq_false b8
  have eP := de.cast (env' := [(1, .v (.int .i64 v)), (2, .v (.bool flex)), (5, .p 0 0), (8, .p 1 0), (9, .p 2 0), (11, .v (.bool (Fld.nul (Fld.mk k1 y2 y3 y4 y5 y6 y7 l8) v (Tree.mk ac ab ae af ag)))), (24, .v (.bool false))]) (by rw [b8])
  clear de
  refine go_rn [4, 5, 6, 7, 8, 9] [] [(1, .v (.int .i64 v)), (2, .v (.bool flex)), (5, .p 0 0), (8, .p 1 0), (9, .p 2 0), (11, .v (.bool (Fld.nul (Fld.mk k1 y2 y3 y4 y5 y6 y7 l8) v (Tree.mk ac ab ae af ag)))), (12, .v (.bool false))] aa eP fun nf eQ => ?_
  clear eP
  refine wpOps_nil (then_normal ?_)
  refine wp_seq ?_
  refine go_seq_region [0, 1, 2, 3, 4, 5, 6, 7, 8, 9, 10, 11, 12, 13, 14, 15, 16] kz ?_
  refine go_rn [0, 1, 2, 3] [4, 5, 6, 7, 8, 9, 10, 11, 12, 13, 14, 15, 16] [(1, .v (.int .i64 v)), (2, .v (.bool flex)), (5, .p 0 0), (8, .p 1 0), (9, .p 2 0), (11, .v (.bool (Fld.nul (Fld.mk k1 y2 y3 y4 y5 y6 y7 l8) v (Tree.mk ac ab ae af ag)))), (12, .v (.bool false)), (33, .v (.bool (k1 == 8)))] aa eQ fun ng bN => ?_
  clear eQ
  refine (Bool.eq_false_or_eq_true (k1 == 8)).elim (fun ao => ?_) (fun ao => ?_)
  ·
   have j4 : k1 = 8 := by simpa using ao
   have eR := bN.cast (env' := [(1, .v (.int .i64 v)), (2, .v (.bool flex)), (5, .p 0 0), (8, .p 1 0), (9, .p 2 0), (11, .v (.bool (Fld.nul (Fld.mk k1 y2 y3 y4 y5 y6 y7 l8) v (Tree.mk ac ab ae af ag)))), (12, .v (.bool false)), (33, .v (.bool true))]) (by rw [ao])
   clear bN
   refine go_rn [4, 5, 6, 7, 8, 9, 10, 11, 12, 13, 14, 15, 16] [] [(1, .v (.int .i64 v)), (2, .v (.bool flex)), (5, .p 0 0), (8, .p 1 0), (9, .p 2 0), (11, .v (.bool (Fld.nul (Fld.mk k1 y2 y3 y4 y5 y6 y7 l8) v (Tree.mk ac ab ae af ag)))), (46, .v (.bool (!(ap == (Fld.nul (Fld.mk k1 y2 y3 y4 y5 y6 y7 l8) v (Tree.mk ac ab ae af ag))))))] aa eR fun nh bk => ?_
   clear eR
   refine wpOps_nil (then_normal ?_)
   refine cond_of bk (b := !(ap == (Fld.nul (Fld.mk k1 y2 y3 y4 y5 y6 y7 l8) v (Tree.mk ac ab ae af ag)))) kz (fun cP => ?_) (fun cP => ?_)
   ·
    have j5 : !(ap = (Fld.nul (Fld.mk k1 y2 y3 y4 y5 y6 y7 l8) v (Tree.mk ac ab ae af ag))) := by simpa using cP
    refine go_sp [(10, .v (.bool false))] aa bk fun ni im => ?_
    clear bk
    refine wp_ret ?_
    refine then_ret ?_
    refine leave im aa.cells (v := .bool false) kz ?_
    first
     | exact (to_n8 hq (by assumption) (by assumption)).elim
     | exact (to_n10 hq (by assumption) (by assumption)).elim
     | exact (to_nm hq (by assumption) (by assumption) (by assumption)).elim
   ·
    have j6 : !(ap ≠ (Fld.nul (Fld.mk k1 y2 y3 y4 y5 y6 y7 l8) v (Tree.mk ac ab ae af ag))) := by simpa using cP
    refine wp_skip ?_
    refine then_normal ?_
    refine wp_seq ?_
    refine go_sp [(1, .v (.int .i64 v)), (2, .v (.bool flex)), (5, .p 0 0), (8, .p 1 0), (9, .p 2 0), (47, .v (.bool (Fld.nul (Fld.mk k1 y2 y3 y4 y5 y6 y7 l8) v (Tree.mk ac ab ae af ag))))] aa bk fun nj bn => ?_
    clear bk
    refine cond_of bn (b := Fld.nul (Fld.mk k1 y2 y3 y4 y5 y6 y7 l8) v (Tree.mk ac ab ae af ag)) kz (fun io => ?_) (fun io => ?_)
    ·
     refine go_sp [(10, .v (.bool true))] aa bn fun nk ip => ?_
     clear bn
     refine wp_ret ?_
     refine then_ret ?_
     refine leave ip aa.cells (v := .bool true) kz ?_
     exact ⟨rfl, aa.step⟩
    ·
     refine wp_skip ?_
     refine then_normal ?_
     refine wp_seq ?_
     refine go_sp [(1, .v (.int .i64 v)), (2, .v (.bool flex)), (5, .p 0 0), (8, .p 1 0), (9, .p 2 0), (49, .v (.int .i64 k1))] aa bn fun nl eS => ?_
     clear bn
     refine wp_block ?_
     refine wp_seq ?_
     refine go_sp [(1, .v (.int .i64 v)), (2, .v (.bool flex)), (5, .p 0 0), (8, .p 1 0), (9, .p 2 0), (49, .v (.int .i64 k1)), (50, .v (.bool (k1 == 8)))] aa eS fun nm bO => ?_
     clear eS
     refine cond_true bO (b := k1 == 8) kz (ao) ?_
     refine wp_skip ?_
     refine then_normal ?_
     refine cond_true bO (b := k1 == 8) kz (ao) ?_
     refine go_seq_drawK 6 kz aa fun np j7 bP iq => ?_
     clear aa
     refine go_rnD [0, 1, 2, 3] [(54, .v (.slice al ah.length am)), (56, .v (.slice ai ab.length aj))] 3 (panicFree_then (panicFree_block (panicFree_then panicFree_body))) (fun _ h => h.cells) iq bO fun nr eU => ?_
     clear bO
     have iZ := whole_le ab
     refine anyC_op (i := 4) kz (wpOp_call eU (f := 48) (vs := [.slice ai ab.length aj]) (d := 57) kz Tryd.call48 (sWhole _ _ ab (aM.move bP.step nilM bP.imm).le _) ?_)
     rintro e_ ns ⟨rfl, eV⟩
     refine ⟨_, rfl, fun nt eW => ?_⟩
     have aD := bP.next_nil eV
     have eX := bP.frN eV
     clear eU
     have ir := TT.ofW eX aD
     refine ⟨fun _ => ir, ?_⟩
     refine anyC_op (i := 5) kz (wpOp_call eW (f := 14) (vs := [.slice al ah.length am, .slice ai ((whole ab).length) aj]) (d := 58) kz Tryd.call14 (sSame _ _ _ _ ah (whole ab) _ _ ((bX.move aD.step nilM aD.imm).move (Step.refl _ Nil) nilM allF) (((aM.take 32767).move aD.step nilM aD.imm).move (Step.refl _ Nil) nilM allF)) ?_)
     rintro e_ nu ⟨rfl, eY⟩
     refine ⟨_, rfl, fun nv eZ => ?_⟩
     have bQ := aD.next_nil eY
     have iu := aD.frN eY
     clear eW aD
     have iv := TT.ofW (eX.trans iu) bQ
     refine ⟨fun _ => iv, ?_⟩
     refine anyC_op (i := 6) kz (wpOp_pure [10] bQ.cells eZ (env' := [(10, .v (.bool (decide (ah = (whole ab)))))]) kz fun nw iw => ?_)
     clear eZ
     refine ⟨fun h => absurd rfl h, ?_⟩
     refine anyC_done kz ?_ _
     refine then_normal ?_
     refine wp_ret ?_
     refine block_ret ?_
     refine then_ret ?_
     refine leave iw bQ.cells (v := .bool (decide (ah = (whole ab)))) kz ?_
     refine ⟨congrArg (fun b_ => Ending.returned (Value.bool b_)) ?_, bQ.step⟩
     first
      | exact to_t8 hq (by assumption) (by assumption)
      | exact to_t9 hq (by assumption) (by assumption)
      | exact to_u hq (by assumption) (by assumption)
      | exact to_m hq (by assumption) (by assumption) (by assumption) (by assumption) (by assumption) (by assumption)
  ·
   have j8 : k1 ≠ 8 := by simpa using ao
   have e9 := bN.cast (env' := [(1, .v (.int .i64 v)), (2, .v (.bool flex)), (5, .p 0 0), (8, .p 1 0), (9, .p 2 0), (11, .v (.bool (Fld.nul (Fld.mk k1 y2 y3 y4 y5 y6 y7 l8) v (Tree.mk ac ab ae af ag)))), (12, .v (.bool false)), (33, .v (.bool false))]) (by rw [ao])
   clear bN
   refine go_rn [4, 5, 6, 7, 8] [9, 10, 11, 12, 13, 14, 15, 16] [(1, .v (.int .i64 v)), (2, .v (.bool flex)), (5, .p 0 0), (8, .p 1 0), (9, .p 2 0), (11, .v (.bool (Fld.nul (Fld.mk k1 y2 y3 y4 y5 y6 y7 l8) v (Tree.mk ac ab ae af ag)))), (12, .v (.bool false)), (38, .v (.bool (k1 == 10)))] aa e9 fun nx bR => ?_
   clear e9
   refine (Bool.eq_false_or_eq_true (k1 == 10)).elim (fun aJ => ?_) (fun aJ => ?_)
   ·
    have j9 : k1 = 10 := by simpa using aJ
    have fa := bR.cast (env' := [(1, .v (.int .i64 v)), (2, .v (.bool flex)), (5, .p 0 0), (8, .p 1 0), (9, .p 2 0), (11, .v (.bool (Fld.nul (Fld.mk k1 y2 y3 y4 y5 y6 y7 l8) v (Tree.mk ac ab ae af ag)))), (12, .v (.bool false)), (38, .v (.bool true))]) (by rw [aJ])
    clear bR
    refine go_rn [9, 10, 11, 12, 13, 14, 15, 16] [] [(1, .v (.int .i64 v)), (2, .v (.bool flex)), (5, .p 0 0), (8, .p 1 0), (9, .p 2 0), (11, .v (.bool (Fld.nul (Fld.mk k1 y2 y3 y4 y5 y6 y7 l8) v (Tree.mk ac ab ae af ag)))), (46, .v (.bool (!(ap == (Fld.nul (Fld.mk k1 y2 y3 y4 y5 y6 y7 l8) v (Tree.mk ac ab ae af ag))))))] aa fa fun ny bo => ?_
    clear fa
    refine wpOps_nil (then_normal ?_)
    refine cond_of bo (b := !(ap == (Fld.nul (Fld.mk k1 y2 y3 y4 y5 y6 y7 l8) v (Tree.mk ac ab ae af ag)))) kz (fun cQ => ?_) (fun cQ => ?_)
    ·
     have ka : !(ap = (Fld.nul (Fld.mk k1 y2 y3 y4 y5 y6 y7 l8) v (Tree.mk ac ab ae af ag))) := by simpa using cQ
     refine go_sp [(10, .v (.bool false))] aa bo fun nz ix => ?_
     clear bo
     refine wp_ret ?_
     refine then_ret ?_
     refine leave ix aa.cells (v := .bool false) kz ?_
     first
      | exact (to_n8 hq (by assumption) (by assumption)).elim
      | exact (to_n10 hq (by assumption) (by assumption)).elim
      | exact (to_nm hq (by assumption) (by assumption) (by assumption)).elim
    ·
     have kd : !(ap ≠ (Fld.nul (Fld.mk k1 y2 y3 y4 y5 y6 y7 l8) v (Tree.mk ac ab ae af ag))) := by simpa using cQ
     refine wp_skip ?_
     refine then_normal ?_
     refine wp_seq ?_
     refine go_sp [(1, .v (.int .i64 v)), (2, .v (.bool flex)), (5, .p 0 0), (8, .p 1 0), (9, .p 2 0), (47, .v (.bool (Fld.nul (Fld.mk k1 y2 y3 y4 y5 y6 y7 l8) v (Tree.mk ac ab ae af ag))))] aa bo fun nA bp => ?_
     clear bo
     refine cond_of bp (b := Fld.nul (Fld.mk k1 y2 y3 y4 y5 y6 y7 l8) v (Tree.mk ac ab ae af ag)) kz (fun iy => ?_) (fun iy => ?_)
     ·
      refine go_sp [(10, .v (.bool true))] aa bp fun nB iz => ?_
      clear bp
      refine wp_ret ?_
      refine then_ret ?_
      refine leave iz aa.cells (v := .bool true) kz ?_
      exact ⟨rfl, aa.step⟩
     ·
      refine wp_skip ?_
      refine then_normal ?_
      refine wp_seq ?_
      refine go_sp [(1, .v (.int .i64 v)), (2, .v (.bool flex)), (5, .p 0 0), (8, .p 1 0), (9, .p 2 0), (49, .v (.int .i64 k1))] aa bp fun nC fb => ?_
      clear bp
      refine wp_block ?_
      refine wp_seq ?_
      refine go_sp [(1, .v (.int .i64 v)), (2, .v (.bool flex)), (5, .p 0 0), (8, .p 1 0), (9, .p 2 0), (49, .v (.int .i64 k1)), (50, .v (.bool (k1 == 8)))] aa fb fun nD cR => ?_
      clear fb
      refine cond_false cR (b := k1 == 8) kz (ao) ?_
      refine go_region [0, 1] kz ?_
      refine go_rn [0, 1] [] [(1, .v (.int .i64 v)), (2, .v (.bool flex)), (5, .p 0 0), (8, .p 1 0), (9, .p 2 0), (49, .v (.int .i64 k1)), (50, .v (.bool (k1 == 9)))] aa cR fun nE bq => ?_
      clear cR
      refine wpOps_nil (then_normal ?_)
      refine cond_of bq (b := k1 == 9) kz (fun cS => ?_) (fun cS => ?_)
      ·
       have ke : k1 = 9 := by simpa using cS
       refine go_seq_drawK 6 kz aa fun nF kf bS iA => ?_
       clear aa
       refine go_rnD [0, 1, 2, 3] [(54, .v (.slice al ah.length am)), (56, .v (.slice ai ab.length aj))] 3 (panicFree_then (panicFree_block (panicFree_then panicFree_body))) (fun _ h => h.cells) iA bq fun nG fe => ?_
       clear bq
       have i6 := whole_le ab
       refine anyC_op (i := 4) kz (wpOp_call fe (f := 48) (vs := [.slice ai ab.length aj]) (d := 57) kz Tryd.call48 (sWhole _ _ ab (aM.move bS.step nilM bS.imm).le _) ?_)
       rintro e_ nH ⟨rfl, ff⟩
       refine ⟨_, rfl, fun nI fg => ?_⟩
       have aE := bS.next_nil ff
       have fh := bS.frN ff
       clear fe
       have iB := TT.ofW fh aE
       refine ⟨fun _ => iB, ?_⟩
       refine anyC_op (i := 5) kz (wpOp_call fg (f := 14) (vs := [.slice al ah.length am, .slice ai ((whole ab).length) aj]) (d := 58) kz Tryd.call14 (sSame _ _ _ _ ah (whole ab) _ _ ((bX.move aE.step nilM aE.imm).move (Step.refl _ Nil) nilM allF) (((aM.take 32767).move aE.step nilM aE.imm).move (Step.refl _ Nil) nilM allF)) ?_)
       rintro e_ nJ ⟨rfl, fi⟩
       refine ⟨_, rfl, fun nK fj => ?_⟩
       have bT := aE.next_nil fi
       have iC := aE.frN fi
       clear fg aE
       have iD := TT.ofW (fh.trans iC) bT
       refine ⟨fun _ => iD, ?_⟩
       refine anyC_op (i := 6) kz (wpOp_pure [10] bT.cells fj (env' := [(10, .v (.bool (decide (ah = (whole ab)))))]) kz fun nL iE => ?_)
       clear fj
       refine ⟨fun h => absurd rfl h, ?_⟩
       refine anyC_done kz ?_ _
       refine then_normal ?_
       refine wp_ret ?_
       refine block_ret ?_
       refine then_ret ?_
       refine leave iE bT.cells (v := .bool (decide (ah = (whole ab)))) kz ?_
       refine ⟨congrArg (fun b_ => Ending.returned (Value.bool b_)) ?_, bT.step⟩
       first
        | exact to_t8 hq (by assumption) (by assumption)
        | exact to_t9 hq (by assumption) (by assumption)
        | exact to_u hq (by assumption) (by assumption)
        | exact to_m hq (by assumption) (by assumption) (by assumption) (by assumption) (by assumption) (by assumption)
      ·
       have kg : k1 ≠ 9 := by simpa using cS
       refine go_sp [(1, .v (.int .i64 v)), (2, .v (.bool flex)), (5, .p 0 0), (8, .p 1 0), (9, .p 2 0), (49, .v (.int .i64 k1)), (59, .v (.bool (k1 == 7)))] aa bq fun nM bt => ?_
       clear bq
       refine cond_of bt (b := k1 == 7) kz (fun cT => ?_) (fun cT => ?_)
       ·
        have kh : k1 = 7 := by simpa using cT
        refine go_seq_region [0, 1] kz ?_
        refine of_op (wpOp_make1 aa bt (d := 61) (j := 16) (t := 22) (e := 5) (bytes := 1) (z := .int .u8 0) kz kz kz kz (rfl) (rfl) (by omega) fun aw nN nO ki kj km aQ fk => ?_)
        clear bt aa
        refine go_rn [1] [] [(8, .p 1 0), (9, .p 2 0), (13, .v (.slice (some ⟨aw, 0, none⟩) 16 16))] aQ fk fun nP fl => ?_
        clear fk
        refine wpOps_nil (then_normal ?_)
        refine go_seq_region [0, 1, 2, 3] kz ?_
        refine go_rn [0, 1, 2] [3] [(9, .p 2 0), (13, .v (.slice (some ⟨aw, 0, none⟩) 16 16)), (62, .v (.slice (some ⟨aw, 0, none⟩) 16 16)), (64, .v (.slice ai ab.length aj))] aQ fl fun nQ fm => ?_
        clear fl
        refine of_op (wpOp_copyR aQ fm (k := 0) (d := 65) (t := 22) (u := 22) (e := 5) (bytes := 1) (A := (some ⟨aw, 0, none⟩)) (As := ai) (m := ab.length) (cs := aj) (m0 := 16) (c := 16) (xs := (List.replicate 16 (.int .u8 0))) (news := bc ab) kz kz rfl (aM.move aQ.step nilM aQ.imm).src fun nR nS ko fo fq => ?_)
        clear fm aQ
        have iF : (⟨(some ⟨aw, 0, none⟩), 16, 5, 1, 16, splice (List.replicate 16 (.int .u8 0)) 0 ((bc ab).take (min ab.length 16))⟩ : Rw) = brow (some ⟨aw, 0, none⟩) 16 5 (uuidB ab) := uuid_row _ _ _
        obtain ⟨aK, kp⟩ := fo.rowEq 0 [brow (some ⟨aw, 0, none⟩) 16 5 (uuidB ab)] iF
        clear fo
        have fr := EnvOk.pick fq (ks := [9, 13, 62, 64, 65]) (env' := [(9, .p 2 0), (13, .v (.slice (some ⟨aw, 0, none⟩) 16 16)), (62, .v (.slice (some ⟨aw, 0, none⟩) 16 16)), (64, .v (.slice ai ab.length aj)), (65, .v (.int .i64 ((min ab.length 16 : Nat) : Int)))]) kz
        have ft := fr.cast (env' := [(9, .p 2 0), (13, .v (.slice (some ⟨aw, 0, none⟩) ((uuidB ab).length) 16)), (62, .v (.slice (some ⟨aw, 0, none⟩) ((uuidB ab).length) 16)), (64, .v (.slice ai ab.length aj)), (65, .v (.int .i64 ((min ab.length 16 : Nat) : Int)))]) (by rw [uuidB_length _])
        clear fq fr
        refine wpOps_nil (then_normal ?_)
        refine go_seq_region [0, 1, 2, 3, 4] kz ?_
        refine go_rn [0, 1, 2] [3, 4] [(67, .v (.slice al ah.length am)), (68, .v (.slice (some ⟨aw, 0, none⟩) ((uuidB ab).length) 16))] aK ft fun nT fu => ?_
        clear ft
        refine of_op (wpOp_call fu (f := 14) (vs := [.slice al ah.length am, .slice (some ⟨aw, 0, none⟩) ((uuidB ab).length) 16]) (d := 69) kz Tryd.call14 (sSame _ _ _ _ ah (uuidB ab) _ _ ((bX.move aK.step nilM aK.imm).move (Step.refl _ Nil) nilM allF) (octs_own (aK.own 0 _ rfl) (by first | omega | (rw [uuidB_length]; decide) | (simp only [be_length]; exact Nat.le_trans (widthI_le _) (by decide)) | (have := hroom; omega) | (have := hmade; omega) | (simp only [List.length_append, List.length_nil]; omega)) (F := fun _ _ => True) (fun _ _ _ => trivial))) ?_)
        rintro e_ nU ⟨rfl, fv⟩
        refine ⟨_, rfl, fun nV fw => ?_⟩
        have cU := aK.next_nil fv
        have kq := aK.frN fv
        clear fu aK
        refine go_rn [4] [] [(10, .v (.bool (decide (ah = uuidB ab))))] cU fw fun nW iG => ?_
        clear fw
        refine wpOps_nil (then_normal ?_)
        refine wp_ret ?_
        refine block_ret ?_
        refine then_ret ?_
        refine leave iG cU.cells (v := .bool (decide (ah = uuidB ab))) kz ?_
        refine ⟨congrArg (fun b_ => Ending.returned (Value.bool b_)) ?_, cU.step⟩
        first
         | exact to_t8 hq (by assumption) (by assumption)
         | exact to_t9 hq (by assumption) (by assumption)
         | exact to_u hq (by assumption) (by assumption)
         | exact to_m hq (by assumption) (by assumption) (by assumption) (by assumption) (by assumption) (by assumption)
       ·
        have ku : k1 ≠ 7 := by simpa using cT
        refine go_sp [(1, .v (.int .i64 v)), (2, .v (.bool flex)), (5, .p 0 0), (8, .p 1 0), (9, .p 2 0), (49, .v (.int .i64 k1)), (70, .v (.bool (k1 == 10)))] aa bt fun nX cV => ?_
        clear bt
        refine cond_true cV (b := k1 == 10) kz (aJ) ?_
        refine go_seq_region [0, 1, 2, 3, 4, 5, 6, 7] kz ?_
        refine go_rn [0, 1, 2, 3, 4, 5] [6, 7] [(73, .v (.slice A9 l8.length fY)), (74, .v (.int .i64 v)), (75, .v (.bool flex)), (76, .v (.agg #[.int .i64 ac, .slice ai ab.length aj, .bool ae, .slice fZ af.length f5, .slice f8 ag.length f9])), (77, .v (.agg #[.int .i64 aS, .slice al ah.length am, .bool ap, .slice gd ga.length ge, .slice gg gb.length gh]))] aa cV fun nY fx => ?_
        clear cV
        refine of_op (wpOp_call fx (f := 18) (vs := [.slice A9 l8.length fY, .int .i64 v, .bool flex, .agg #[.int .i64 ac, .slice ai ab.length aj, .bool ae, .slice fZ af.length f5, .slice f8 ag.length f9], .agg #[.int .i64 aS, .slice al ah.length am, .bool ap, .slice gd ga.length ge, .slice gg gb.length gh]]) (d := 78) kz Tryd.call18 ( hT _ _ l8 _ (Tree.mk ac ab ae af ag) _ (Tree.mk aS ah ap ga gb) _ _ ⟨gc, (iU.move aa.step nilM aa.imm), (fun i_ x_ h_ => ((ja i_ x_ h_).move aa.step nilM aa.imm))⟩ (ht.move aa.step nilM aa.imm) (hg.move aa.step nilM aa.imm) hpl (to_part hq (by assumption) (by assumption))) ?_)
        rintro e_ nZ ⟨rfl, fy⟩
        refine ⟨_, rfl, fun n0 fz => ?_⟩
        have cW := aa.next_nil fy
        have kv := aa.frN fy
        clear fx aa
        refine go_rn [7] [] [(10, .v (.bool true))] cW fz fun n4 iH => ?_
        clear fz
        refine wpOps_nil (then_normal ?_)
        refine wp_ret ?_
        refine block_ret ?_
        refine then_ret ?_
        refine leave iH cW.cells (v := .bool true) kz ?_
        exact ⟨rfl, cW.step⟩
   ·
    have kw : k1 ≠ 10 := by simpa using aJ
    have fA := bR.cast (env' := [(1, .v (.int .i64 v)), (2, .v (.bool flex)), (5, .p 0 0), (8, .p 1 0), (9, .p 2 0), (11, .v (.bool (Fld.nul (Fld.mk k1 y2 y3 y4 y5 y6 y7 l8) v (Tree.mk ac ab ae af ag)))), (12, .v (.bool false)), (38, .v (.bool false))]) (by rw [aJ])
    clear bR
    refine go_rn [9, 10, 11, 12, 13, 14, 15, 16] [] [(1, .v (.int .i64 v)), (2, .v (.bool flex)), (5, .p 0 0), (8, .p 1 0), (9, .p 2 0), (11, .v (.bool (Fld.nul (Fld.mk k1 y2 y3 y4 y5 y6 y7 l8) v (Tree.mk ac ab ae af ag)))), (46, .v (.bool false))] aa fA fun n5 cX => ?_
    clear fA
    refine wpOps_nil (then_normal ?_)
    refine cond_false cX (b := false) kz rfl ?_
    refine wp_skip ?_
    refine then_normal ?_
    refine wp_seq ?_
    refine go_sp [(1, .v (.int .i64 v)), (2, .v (.bool flex)), (5, .p 0 0), (8, .p 1 0), (9, .p 2 0), (47, .v (.bool (Fld.nul (Fld.mk k1 y2 y3 y4 y5 y6 y7 l8) v (Tree.mk ac ab ae af ag))))] aa cX fun n8 bu => ?_
    clear cX
    refine cond_of bu (b := Fld.nul (Fld.mk k1 y2 y3 y4 y5 y6 y7 l8) v (Tree.mk ac ab ae af ag)) kz (fun iI => ?_) (fun iI => ?_)
    ·
     refine go_sp [(10, .v (.bool true))] aa bu fun oa iJ => ?_
     clear bu
     refine wp_ret ?_
     refine then_ret ?_
     refine leave iJ aa.cells (v := .bool true) kz ?_
     exact ⟨rfl, aa.step⟩
    ·
     refine wp_skip ?_
     refine then_normal ?_
     refine wp_seq ?_
     refine go_sp [(1, .v (.int .i64 v)), (2, .v (.bool flex)), (5, .p 0 0), (8, .p 1 0), (9, .p 2 0), (49, .v (.int .i64 k1))] aa bu fun od fB => ?_
     clear bu
     refine wp_block ?_
     refine wp_seq ?_
     refine go_sp [(1, .v (.int .i64 v)), (2, .v (.bool flex)), (5, .p 0 0), (8, .p 1 0), (9, .p 2 0), (49, .v (.int .i64 k1)), (50, .v (.bool (k1 == 8)))] aa fB fun oe cY => ?_
     clear fB
     refine cond_false cY (b := k1 == 8) kz (ao) ?_
     refine go_region [0, 1] kz ?_
     refine go_rn [0, 1] [] [(1, .v (.int .i64 v)), (2, .v (.bool flex)), (5, .p 0 0), (8, .p 1 0), (9, .p 2 0), (49, .v (.int .i64 k1)), (50, .v (.bool (k1 == 9)))] aa cY fun og bw => ?_
     clear cY
     refine wpOps_nil (then_normal ?_)
     refine cond_of bw (b := k1 == 9) kz (fun cZ => ?_) (fun cZ => ?_)
     ·
      have kx : k1 = 9 := by simpa using cZ
      refine go_seq_drawK 6 kz aa fun oh ky bU iK => ?_
      clear aa
      refine go_rnD [0, 1, 2, 3] [(54, .v (.slice al ah.length am)), (56, .v (.slice ai ab.length aj))] 3 (panicFree_then (panicFree_block (panicFree_then panicFree_body))) (fun _ h => h.cells) iK bw fun ol fC => ?_
      clear bw
      have i7 := whole_le ab
      refine anyC_op (i := 4) kz (wpOp_call fC (f := 48) (vs := [.slice ai ab.length aj]) (d := 57) kz Tryd.call48 (sWhole _ _ ab (aM.move bU.step nilM bU.imm).le _) ?_)
      rintro e_ om ⟨rfl, fD⟩
      refine ⟨_, rfl, fun oq fE => ?_⟩
      have aF := bU.next_nil fD
      have fF := bU.frN fD
      clear fC
      have iL := TT.ofW fF aF
      refine ⟨fun _ => iL, ?_⟩
      refine anyC_op (i := 5) kz (wpOp_call fE (f := 14) (vs := [.slice al ah.length am, .slice ai ((whole ab).length) aj]) (d := 58) kz Tryd.call14 (sSame _ _ _ _ ah (whole ab) _ _ ((bX.move aF.step nilM aF.imm).move (Step.refl _ Nil) nilM allF) (((aM.take 32767).move aF.step nilM aF.imm).move (Step.refl _ Nil) nilM allF)) ?_)
      rintro e_ ot ⟨rfl, fG⟩
      refine ⟨_, rfl, fun ou fH => ?_⟩
      have bV := aF.next_nil fG
      have iM := aF.frN fG
      clear fE aF
      have iN := TT.ofW (fF.trans iM) bV
      refine ⟨fun _ => iN, ?_⟩
      refine anyC_op (i := 6) kz (wpOp_pure [10] bV.cells fH (env' := [(10, .v (.bool (decide (ah = (whole ab)))))]) kz fun ov iO => ?_)
      clear fH
      refine ⟨fun h => absurd rfl h, ?_⟩
      refine anyC_done kz ?_ _
      refine then_normal ?_
      refine wp_ret ?_
      refine block_ret ?_
      refine then_ret ?_
      refine leave iO bV.cells (v := .bool (decide (ah = (whole ab)))) kz ?_
      refine ⟨congrArg (fun b_ => Ending.returned (Value.bool b_)) ?_, bV.step⟩
      first
       | exact to_t8 hq (by assumption) (by assumption)
       | exact to_t9 hq (by assumption) (by assumption)
       | exact to_u hq (by assumption) (by assumption)
       | exact to_m hq (by assumption) (by assumption) (by assumption) (by assumption) (by assumption) (by assumption)
     ·
      have kA : k1 ≠ 9 := by simpa using cZ
      refine go_sp [(1, .v (.int .i64 v)), (2, .v (.bool flex)), (5, .p 0 0), (8, .p 1 0), (9, .p 2 0), (49, .v (.int .i64 k1)), (59, .v (.bool (k1 == 7)))] aa bw fun ow bx => ?_
      clear bw
      refine cond_of bx (b := k1 == 7) kz (fun c5 => ?_) (fun c5 => ?_)
      ·
       have kB : k1 = 7 := by simpa using c5
       refine go_seq_region [0, 1] kz ?_
       refine of_op (wpOp_make1 aa bx (d := 61) (j := 16) (t := 22) (e := 5) (bytes := 1) (z := .int .u8 0) kz kz kz kz (rfl) (rfl) (by omega) fun ax ox oy kC kD kE aR fI => ?_)
       clear bx aa
       refine go_rn [1] [] [(8, .p 1 0), (9, .p 2 0), (13, .v (.slice (some ⟨ax, 0, none⟩) 16 16))] aR fI fun oz fJ => ?_
       clear fI
       refine wpOps_nil (then_normal ?_)
       refine go_seq_region [0, 1, 2, 3] kz ?_
       refine go_rn [0, 1, 2] [3] [(9, .p 2 0), (13, .v (.slice (some ⟨ax, 0, none⟩) 16 16)), (62, .v (.slice (some ⟨ax, 0, none⟩) 16 16)), (64, .v (.slice ai ab.length aj))] aR fJ fun oA fK => ?_
       clear fJ
       refine of_op (wpOp_copyR aR fK (k := 0) (d := 65) (t := 22) (u := 22) (e := 5) (bytes := 1) (A := (some ⟨ax, 0, none⟩)) (As := ai) (m := ab.length) (cs := aj) (m0 := 16) (c := 16) (xs := (List.replicate 16 (.int .u8 0))) (news := bc ab) kz kz rfl (aM.move aR.step nilM aR.imm).src fun oB oC kF fL fM => ?_)
       clear fK aR
       have iP : (⟨(some ⟨ax, 0, none⟩), 16, 5, 1, 16, splice (List.replicate 16 (.int .u8 0)) 0 ((bc ab).take (min ab.length 16))⟩ : Rw) = brow (some ⟨ax, 0, none⟩) 16 5 (uuidB ab) := uuid_row _ _ _
       obtain ⟨aL, kG⟩ := fL.rowEq 0 [brow (some ⟨ax, 0, none⟩) 16 5 (uuidB ab)] iP
       clear fL
       have fN := EnvOk.pick fM (ks := [9, 13, 62, 64, 65]) (env' := [(9, .p 2 0), (13, .v (.slice (some ⟨ax, 0, none⟩) 16 16)), (62, .v (.slice (some ⟨ax, 0, none⟩) 16 16)), (64, .v (.slice ai ab.length aj)), (65, .v (.int .i64 ((min ab.length 16 : Nat) : Int)))]) kz
       have fO := fN.cast (env' := [(9, .p 2 0), (13, .v (.slice (some ⟨ax, 0, none⟩) ((uuidB ab).length) 16)), (62, .v (.slice (some ⟨ax, 0, none⟩) ((uuidB ab).length) 16)), (64, .v (.slice ai ab.length aj)), (65, .v (.int .i64 ((min ab.length 16 : Nat) : Int)))]) (by rw [uuidB_length _])
       clear fM fN
       refine wpOps_nil (then_normal ?_)
       refine go_seq_region [0, 1, 2, 3, 4] kz ?_
       refine go_rn [0, 1, 2] [3, 4] [(67, .v (.slice al ah.length am)), (68, .v (.slice (some ⟨ax, 0, none⟩) ((uuidB ab).length) 16))] aL fO fun oD fP => ?_
       clear fO
       refine of_op (wpOp_call fP (f := 14) (vs := [.slice al ah.length am, .slice (some ⟨ax, 0, none⟩) ((uuidB ab).length) 16]) (d := 69) kz Tryd.call14 (sSame _ _ _ _ ah (uuidB ab) _ _ ((bX.move aL.step nilM aL.imm).move (Step.refl _ Nil) nilM allF) (octs_own (aL.own 0 _ rfl) (by first | omega | (rw [uuidB_length]; decide) | (simp only [be_length]; exact Nat.le_trans (widthI_le _) (by decide)) | (have := hroom; omega) | (have := hmade; omega) | (simp only [List.length_append, List.length_nil]; omega)) (F := fun _ _ => True) (fun _ _ _ => trivial))) ?_)
       rintro e_ oE ⟨rfl, fQ⟩
       refine ⟨_, rfl, fun oF fR => ?_⟩
       have da := aL.next_nil fQ
       have kH := aL.frN fQ
       clear fP aL
       refine go_rn [4] [] [(10, .v (.bool (decide (ah = uuidB ab))))] da fR fun oG iQ => ?_
       clear fR
       refine wpOps_nil (then_normal ?_)
       refine wp_ret ?_
       refine block_ret ?_
       refine then_ret ?_
       refine leave iQ da.cells (v := .bool (decide (ah = uuidB ab))) kz ?_
       refine ⟨congrArg (fun b_ => Ending.returned (Value.bool b_)) ?_, da.step⟩
       first
        | exact to_t8 hq (by assumption) (by assumption)
        | exact to_t9 hq (by assumption) (by assumption)
        | exact to_u hq (by assumption) (by assumption)
        | exact to_m hq (by assumption) (by assumption) (by assumption) (by assumption) (by assumption) (by assumption)
      ·
       have kI : k1 ≠ 7 := by simpa using c5
       refine go_sp [(1, .v (.int .i64 v)), (2, .v (.bool flex)), (5, .p 0 0), (8, .p 1 0), (9, .p 2 0), (49, .v (.int .i64 k1)), (70, .v (.bool (k1 == 10)))] aa bx fun oH db => ?_
       clear bx
       refine cond_false db (b := k1 == 10) kz (aJ) ?_
       refine go_sp [(1, .v (.int .i64 v)), (2, .v (.bool flex)), (5, .p 0 0), (8, .p 1 0), (9, .p 2 0), (79, .v (.bool (k1 == 11)))] aa db fun oI dc => ?_
       clear db
       refine cond_false dc (b := k1 == 11) kz (by simpa using bY) ?_
       refine wp_skip ?_
       refine block_normal ?_
       refine then_normal ?_
       refine go_seq_drawK 8 kz aa fun oJ kJ fS iR => ?_
       clear aa
       refine go_rnD [0, 1, 2, 3, 4, 5] [(117, .v (.int .i64 aS)), (119, .v (.int .i64 k1)), (121, .v (.int .i64 ac))] 3 (panicFree_then panicFree_body) (fun _ h => h.cells) iR dc fun oK fT => ?_
       clear dc
       refine anyC_op (i := 6) kz (wpOp_call fT (f := 78) (vs := [.int .i64 k1, .int .i64 ac]) (d := 122) kz Tryd.call78 (sNumber k1 ac _) ?_)
       rintro e_ oL ⟨rfl, fU⟩
       refine ⟨_, rfl, fun oM fV => ?_⟩
       have bW := fS.next_nil fU
       have iS := fS.frN fU
       clear fT
       have fW := TT.ofW iS bW
       refine ⟨fun _ => fW, ?_⟩
       refine go_rnD [7] [(123, .v (.bool (aS == (numberI k1 ac))))] 1 (panicFree_then panicFree_body) (fun _ h => h.cells) fW fV fun oN fX => ?_
       clear fV
       refine anyC_op (i := 8) kz (wpOp_pure [10] bW.cells fX (env' := [(10, .v (.bool (aS == (numberI k1 ac))))]) kz fun oO iT => ?_)
       clear fX
       refine ⟨fun h => absurd rfl h, ?_⟩
       refine anyC_done kz ?_ _
       refine then_normal ?_
       refine wp_ret ?_
       refine leave iT bW.cells (v := .bool (aS == (numberI k1 ac))) kz ?_
       refine ⟨congrArg (fun b_ => Ending.returned (Value.bool b_)) ?_, bW.step⟩
       first
        | exact to_t8 hq (by assumption) (by assumption)
        | exact to_t9 hq (by assumption) (by assumption)
        | exact to_u hq (by assumption) (by assumption)
        | exact to_m hq (by assumption) (by assumption) (by assumption) (by assumption) (by assumption) (by assumption)
theorem sTold11 {v : Int} {flex : Bool} {T : List Fld → Tree → Tree → Prop} (hT : ToOK v flex T) (cf : List Value) (f : Fld) (ct : List Value) (t : Tree) (cg : List Value) (g : Tree) (w : World) (F : Nat → Nat → Prop) (hf : FldR w F cf f) (hpl : f.plain) (ac : f.kind = 11) (ht : TreeR w F ct t) (hg : TreeR w F cg g) (hQ : ToF T v f t g) :
  Calls Tryd.prog 45 #[.agg cf.toArray, .int .i64 v, .bool flex, .agg ct.toArray, .agg cg.toArray] w (Gives w (.bool true)) := by
 obtain ⟨k1, y2, y3, y4, y5, y6, y7, l8, A9, ap, fr, rfl, rfl, g9, ii⟩ := hf.open_
 have ji := g9.small
 obtain ⟨aj, ak, al, aa, am, gc, gd, ae, af, ge, gg, kp, rfl, rfl, kq, ft, ij, nz⟩ := ht.open_
 have jj := kq.small
 have jk := ft.small
 obtain ⟨hC, hJ, df, ao, hK, hZ, ia, cw, fu, ib, ic, ku, rfl, rfl, kv, ig, ik, nA⟩ := hg.open_
 have jl := kv.small
 have jm := ig.small
 have ac : k1 = 11 := ac
 have hof : y7 ≠ 11 := hpl.1
 replace hpl : plains l8 := hpl.2
 have hq := hQ.1
 refine enter (n := 124) Tryd.func45 rfl Tryd.ntmps45 kz fun a hE => ?_
 have hW := WOk.start w Nil
 refine go_seq_region [0, 1, 2, 3] kz ?_
 refine of_op (wpOp_box hW hE (d := 5) (cs := [.int .i64 k1, .int .i64 y2, .int .i64 y3, .int .i64 y4, .int .i64 y5, .int .i64 y6, .int .i64 y7, .slice A9 l8.length ap]) kz fun il nB nC kw kx ky gh gi => ?_)
 clear hE hW
 refine of_op (wpOp_box gh gi (d := 8) (cs := [.int .i64 aj, .slice gc ak.length gd, .bool al, .slice ae aa.length af, .slice ge am.length gg]) kz fun im nD nE kA kB kC gj gk => ?_)
 clear gi gh
 refine of_op (wpOp_box gj gk (d := 9) (cs := [.int .i64 hC, .slice hZ hJ.length ia, .bool df, .slice cw ao.length fu, .slice ib hK.length ic]) kz fun io nF nG kD kE kF aO gl => ?_)
 clear gk gj
 refine go_rn [3] [] [(1, .v (.int .i64 v)), (2, .v (.bool flex)), (5, .p 0 0), (8, .p 1 0), (9, .p 2 0)] aO gl fun nH gm => ?_
 clear gl
 refine wpOps_nil (then_normal ?_)
 refine go_seq_region [0, 1, 2, 3, 4] kz ?_
 refine go_rn [0, 1, 2] [3, 4] [(1, .v (.int .i64 v)), (2, .v (.bool flex)), (5, .p 0 0), (8, .p 1 0), (9, .p 2 0), (17, .v (.agg #[.int .i64 k1, .int .i64 y2, .int .i64 y3, .int .i64 y4, .int .i64 y5, .int .i64 y6, .int .i64 y7, .slice A9 l8.length ap])), (18, .v (.int .i64 v)), (19, .v (.agg #[.int .i64 aj, .slice gc ak.length gd, .bool al, .slice ae aa.length af, .slice ge am.length gg]))] aO gm fun nI gn => ?_
 clear gm
 refine of_op (wpOp_call gn (f := 76) (vs := [.agg #[.int .i64 k1, .int .i64 y2, .int .i64 y3, .int .i64 y4, .int .i64 y5, .int .i64 y6, .int .i64 y7, .slice A9 l8.length ap], .int .i64 v, .agg #[.int .i64 aj, .slice gc ak.length gd, .bool al, .slice ae aa.length af, .slice ge am.length gg]]) (d := 20) kz Tryd.call76 (sNull k1 y2 y3 y4 y5 y6 y7 l8 _ _ v aj ak al aa am _ _ _ _ _ _ _) ?_)
 rintro e_ nJ ⟨rfl, gp⟩
 refine ⟨_, rfl, fun nK gq => ?_⟩
 have ab := aO.next_nil gp
 have kG := aO.frN gp
 clear gn aO
 refine go_rn [4] [] [(1, .v (.int .i64 v)), (2, .v (.bool flex)), (5, .p 0 0), (8, .p 1 0), (9, .p 2 0), (11, .v (.bool (Fld.nul (Fld.mk k1 y2 y3 y4 y5 y6 y7 l8) v (Tree.mk aj ak al aa am))))] ab gq fun nL gt => ?_
 clear gq
 refine wpOps_nil (then_normal ?_)
 refine go_seq_region [0, 1, 2, 3, 4, 5, 6, 7, 8, 9] kz ?_
 refine go_rn [0, 1, 2, 3] [4, 5, 6, 7, 8, 9] [(1, .v (.int .i64 v)), (2, .v (.bool flex)), (5, .p 0 0), (8, .p 1 0), (9, .p 2 0), (11, .v (.bool (Fld.nul (Fld.mk k1 y2 y3 y4 y5 y6 y7 l8) v (Tree.mk aj ak al aa am)))), (24, .v (.bool (decide (y4 ≥ 0))))] ab gt fun nM cz => ?_
 clear gt
 refine (Bool.eq_false_or_eq_true (decide (y4 ≥ 0))).elim (fun aP => ?_) (fun aP => ?_)
 ·
  have kH := of_decide_eq_true aP
  have gv := cz.cast (env' := [(1, .v (.int .i64 v)), (2, .v (.bool flex)), (5, .p 0 0), (8, .p 1 0), (9, .p 2 0), (11, .v (.bool (Fld.nul (Fld.mk k1 y2 y3 y4 y5 y6 y7 l8) v (Tree.mk aj ak al aa am)))), (24, .v (.bool true))]) (by rw [aP])
  clear cz
  refine go_rn [4, 5, 6, 7, 8, 9] [] [(1, .v (.int .i64 v)), (2, .v (.bool flex)), (5, .p 0 0), (8, .p 1 0), (9, .p 2 0), (11, .v (.bool (Fld.nul (Fld.mk k1 y2 y3 y4 y5 y6 y7 l8) v (Tree.mk aj ak al aa am)))), (12, .v (.bool (decide (v ≥ y4))))] ab gv fun nN gw => ?_
  clear gv
  refine wpOps_nil (then_normal ?_)
  refine wp_seq ?_
  refine go_seq_region [0, 1, 2, 3, 4, 5, 6, 7, 8, 9, 10, 11, 12, 13, 14, 15, 16] kz ?_
  refine go_rn [0, 1, 2, 3] [4, 5, 6, 7, 8, 9, 10, 11, 12, 13, 14, 15, 16] [(1, .v (.int .i64 v)), (2, .v (.bool flex)), (5, .p 0 0), (8, .p 1 0), (9, .p 2 0), (11, .v (.bool (Fld.nul (Fld.mk k1 y2 y3 y4 y5 y6 y7 l8) v (Tree.mk aj ak al aa am)))), (12, .v (.bool (decide (v ≥ y4)))), (33, .v (.bool (k1 == 8)))] ab gw fun nO dg => ?_
  clear gw
  have gx : (k1 == 8) = false := by simp [ac]
  have dh := dg.cast (env' := [(1, .v (.int .i64 v)), (2, .v (.bool flex)), (5, .p 0 0), (8, .p 1 0), (9, .p 2 0), (11, .v (.bool (Fld.nul (Fld.mk k1 y2 y3 y4 y5 y6 y7 l8) v (Tree.mk aj ak al aa am)))), (12, .v (.bool (decide (v ≥ y4)))), (33, .v (.bool false))]) (by rw [gx])
  clear dg
  refine go_rn [4, 5, 6, 7, 8] [9, 10, 11, 12, 13, 14, 15, 16] [(1, .v (.int .i64 v)), (2, .v (.bool flex)), (5, .p 0 0), (8, .p 1 0), (9, .p 2 0), (11, .v (.bool (Fld.nul (Fld.mk k1 y2 y3 y4 y5 y6 y7 l8) v (Tree.mk aj ak al aa am)))), (12, .v (.bool (decide (v ≥ y4)))), (38, .v (.bool (k1 == 10)))] ab dh fun kI di => ?_
  clear dh
  have gy : (k1 == 10) = false := by simp [ac]
  have dj := di.cast (env' := [(1, .v (.int .i64 v)), (2, .v (.bool flex)), (5, .p 0 0), (8, .p 1 0), (9, .p 2 0), (11, .v (.bool (Fld.nul (Fld.mk k1 y2 y3 y4 y5 y6 y7 l8) v (Tree.mk aj ak al aa am)))), (12, .v (.bool (decide (v ≥ y4)))), (38, .v (.bool false))]) (by rw [gy])
  clear di
  refine go_rn [9, 10, 11] [12, 13, 14, 15, 16] [(1, .v (.int .i64 v)), (2, .v (.bool flex)), (5, .p 0 0), (8, .p 1 0), (9, .p 2 0), (11, .v (.bool (Fld.nul (Fld.mk k1 y2 y3 y4 y5 y6 y7 l8) v (Tree.mk aj ak al aa am)))), (41, .v (.bool (decide (v ≥ y4))))] ab dj fun kJ aN => ?_
  clear dj
  refine (Bool.eq_false_or_eq_true (decide (v ≥ y4))).elim (fun az => ?_) (fun az => ?_)
  ·
   have jn := of_decide_eq_true az
   have dl := aN.cast (env' := [(1, .v (.int .i64 v)), (2, .v (.bool flex)), (5, .p 0 0), (8, .p 1 0), (9, .p 2 0), (11, .v (.bool (Fld.nul (Fld.mk k1 y2 y3 y4 y5 y6 y7 l8) v (Tree.mk aj ak al aa am)))), (41, .v (.bool true))]) (by rw [az])
   clear aN
   refine go_rn [12, 13, 14, 15, 16] [] [(1, .v (.int .i64 v)), (2, .v (.bool flex)), (5, .p 0 0), (8, .p 1 0), (9, .p 2 0), (11, .v (.bool (Fld.nul (Fld.mk k1 y2 y3 y4 y5 y6 y7 l8) v (Tree.mk aj ak al aa am)))), (46, .v (.bool (!(df == (Fld.nul (Fld.mk k1 y2 y3 y4 y5 y6 y7 l8) v (Tree.mk aj ak al aa am))))))] ab dl fun kK aA => ?_
   clear dl
   refine wpOps_nil (then_normal ?_)
   refine cond_of aA (b := !(df == (Fld.nul (Fld.mk k1 y2 y3 y4 y5 y6 y7 l8) v (Tree.mk aj ak al aa am)))) kz (fun aQ => ?_) (fun aQ => ?_)
   ·
    have jo : !(df = (Fld.nul (Fld.mk k1 y2 y3 y4 y5 y6 y7 l8) v (Tree.mk aj ak al aa am))) := by simpa using aQ
    refine go_sp [(10, .v (.bool false))] ab aA fun kL gz => ?_
    clear aA
    refine wp_ret ?_
    refine then_ret ?_
    refine leave gz ab.cells (v := .bool false) kz ?_
    first
     | exact (to_nm hq (by assumption) (by assumption) (by assumption)).elim
     | exact (to_len (hQ.2 ac (by assumption)).1 (by assumption)).elim
     | (exfalso; simp_all; done)
   ·
    have jp : !(df ≠ (Fld.nul (Fld.mk k1 y2 y3 y4 y5 y6 y7 l8) v (Tree.mk aj ak al aa am))) := by simpa using aQ
    refine wp_skip ?_
    refine then_normal ?_
    refine wp_seq ?_
    refine go_sp [(1, .v (.int .i64 v)), (2, .v (.bool flex)), (5, .p 0 0), (8, .p 1 0), (9, .p 2 0), (47, .v (.bool (Fld.nul (Fld.mk k1 y2 y3 y4 y5 y6 y7 l8) v (Tree.mk aj ak al aa am))))] ab aA fun kM aB => ?_
    clear aA
    refine cond_of aB (b := Fld.nul (Fld.mk k1 y2 y3 y4 y5 y6 y7 l8) v (Tree.mk aj ak al aa am)) kz (fun gA => ?_) (fun gA => ?_)
    ·
     refine go_sp [(10, .v (.bool true))] ab aB fun kN gB => ?_
     clear aB
     refine wp_ret ?_
     refine then_ret ?_
     refine leave gB ab.cells (v := .bool true) kz ?_
     exact ⟨rfl, ab.step⟩
    ·
     refine wp_skip ?_
     refine then_normal ?_
     refine wp_seq ?_
     refine go_sp [(1, .v (.int .i64 v)), (2, .v (.bool flex)), (5, .p 0 0), (8, .p 1 0), (9, .p 2 0), (49, .v (.int .i64 k1))] ab aB fun kO dp => ?_
     clear aB
     refine wp_block ?_
     refine wp_seq ?_
     refine go_sp [(1, .v (.int .i64 v)), (2, .v (.bool flex)), (5, .p 0 0), (8, .p 1 0), (9, .p 2 0), (49, .v (.int .i64 k1)), (50, .v (.bool (k1 == 8)))] ab dp fun kP aR => ?_
     clear dp
     refine cond_false aR (b := k1 == 8) kz (by simp [ac]) ?_
     refine go_region [0, 1] kz ?_
     refine go_rn [0, 1] [] [(1, .v (.int .i64 v)), (2, .v (.bool flex)), (5, .p 0 0), (8, .p 1 0), (9, .p 2 0), (49, .v (.int .i64 k1)), (50, .v (.bool (k1 == 9)))] ab aR fun kQ aS => ?_
     clear aR
     refine wpOps_nil (then_normal ?_)
     refine cond_false aS (b := k1 == 9) kz (by simp [ac]) ?_
     refine go_sp [(1, .v (.int .i64 v)), (2, .v (.bool flex)), (5, .p 0 0), (8, .p 1 0), (9, .p 2 0), (49, .v (.int .i64 k1)), (59, .v (.bool (k1 == 7)))] ab aS fun kR aT => ?_
     clear aS
     refine cond_false aT (b := k1 == 7) kz (by simp [ac]) ?_
     refine go_sp [(1, .v (.int .i64 v)), (2, .v (.bool flex)), (5, .p 0 0), (8, .p 1 0), (9, .p 2 0), (49, .v (.int .i64 k1)), (70, .v (.bool (k1 == 10)))] ab aT fun kS aU => ?_
     clear aT
     refine cond_false aU (b := k1 == 10) kz (by simp [ac]) ?_
     refine go_sp [(1, .v (.int .i64 v)), (2, .v (.bool flex)), (5, .p 0 0), (8, .p 1 0), (9, .p 2 0), (79, .v (.bool (k1 == 11)))] ab aU fun kT aV => ?_
     clear aU
     refine cond_true aV (b := k1 == 11) kz (by simpa using ac) ?_
     refine go_seq_region [0, 1, 2, 3] kz ?_
     refine go_rn [0, 1] [2, 3] [(1, .v (.int .i64 v)), (2, .v (.bool flex)), (5, .p 0 0), (9, .p 2 0), (82, .v (.slice ae aa.length af))] ab aV fun kU dq => ?_
     clear aV
     refine of_op (wpOp_call dq (f := 77) (vs := [.slice ae aa.length af]) (d := 83) kz Tryd.call77 (sThings _ _ aa (ft.move ab.step nilM ab.imm).le _) ?_)
     rintro e_ kV ⟨rfl, dr⟩
     refine ⟨_, rfl, fun kW dt => ?_⟩
     have ar := ab.next_nil dr
     have jq := ab.frN dr
     clear dq ab
     refine go_rn [3] [] [(1, .v (.int .i64 v)), (2, .v (.bool flex)), (5, .p 0 0), (9, .p 2 0), (14, .v (.slice ae ((things aa).length) af))] ar dt fun kX du => ?_
     clear dt
     refine wpOps_nil (then_normal ?_)
     refine wp_seq ?_
     refine go_sp [(1, .v (.int .i64 v)), (2, .v (.bool flex)), (5, .p 0 0), (9, .p 2 0), (14, .v (.slice ae ((things aa).length) af)), (89, .v (.bool (((ao.length : Nat) : Int) != (((things aa).length : Nat) : Int))))] ar du fun kY aC => ?_
     clear du
     refine cond_of aC (b := ((ao.length : Nat) : Int) != (((things aa).length : Nat) : Int)) kz (fun aW => ?_) (fun aW => ?_)
     ·
      have jr : ((ao.length : Nat) : Int) ≠ (((things aa).length : Nat) : Int) := by simpa using aW
      refine go_sp [(10, .v (.bool false))] ar aC fun kZ gC => ?_
      clear aC
      refine wp_ret ?_
      refine then_ret ?_
      refine block_ret ?_
      refine then_ret ?_
      refine leave gC ar.cells (v := .bool false) kz ?_
      first
       | exact (to_nm hq (by assumption) (by assumption) (by assumption)).elim
       | exact (to_len (hQ.2 ac (by assumption)).1 (by assumption)).elim
       | (exfalso; simp_all; done)
     ·
      have js : ((ao.length : Nat) : Int) = (((things aa).length : Nat) : Int) := by simpa using aW
      refine wp_skip ?_
      refine then_normal ?_
      refine go_seq_region [0, 1, 2] kz ?_
      refine go_rn [0] [1, 2] [(1, .v (.int .i64 v)), (2, .v (.bool flex)), (5, .p 0 0), (9, .p 2 0), (14, .v (.slice ae ((things aa).length) af)), (90, .v (.agg #[.int .i64 k1, .int .i64 y2, .int .i64 y3, .int .i64 y4, .int .i64 y5, .int .i64 y6, .int .i64 y7, .slice A9 l8.length ap]))] ar aC fun k5 dv => ?_
      clear aC
      refine of_op (wpOp_alloc ar dv (d := 15) (cs := [.int .i64 0, .int .i64 0, .int .i64 0, .int .i64 0, .int .i64 0, .int .i64 0, .int .i64 0, .slice none 0 0]) kz fun ip k6 k7 jt ju jv dw dx => ?_)
      clear dv ar
      refine of_op (wpOp_store dw dx (oi := 3) (cs := [.int .i64 k1, .int .i64 y2, .int .i64 y3, .int .i64 y4, .int .i64 y5, .int .i64 y6, .int .i64 y7, .slice A9 l8.length ap]) kz fun k8 jw aX dy => ?_)
      clear dx dw
      refine wpOps_nil (then_normal ?_)
      refine go_seq_region [0, 1, 2, 3, 4, 5, 6, 7] kz ?_
      refine go_rn [0, 1, 2] [3, 4, 5, 6, 7] [(1, .v (.int .i64 v)), (2, .v (.bool flex)), (9, .p 2 0), (14, .v (.slice ae ((things aa).length) af)), (15, .p 3 0), (92, .v (.int .i64 y7)), (93, .p 3 0)] aX dy fun k9 dz => ?_
      clear dy
      refine of_op (wpOp_store aX dz (oi := 3) (cs := [.int .i64 y7, .int .i64 y2, .int .i64 y3, .int .i64 y4, .int .i64 y5, .int .i64 y6, .int .i64 y7, .slice A9 l8.length ap]) kz fun la jx aY dA => ?_)
      clear dz aX
      refine go_rn [4] [5, 6, 7] [(1, .v (.int .i64 v)), (2, .v (.bool flex)), (9, .p 2 0), (14, .v (.slice ae ((things aa).length) af)), (15, .p 3 0), (94, .p 3 3)] aY dA fun lb dB => ?_
      clear dA
      refine of_op (wpOp_store aY dB (oi := 3) (cs := [.int .i64 y7, .int .i64 y2, .int .i64 y3, .int .i64 (-1), .int .i64 y5, .int .i64 y6, .int .i64 y7, .slice A9 l8.length ap]) kz fun lc jy aZ dC => ?_)
      clear dB aY
      refine go_rn [6] [7] [(1, .v (.int .i64 v)), (2, .v (.bool flex)), (9, .p 2 0), (14, .v (.slice ae ((things aa).length) af)), (15, .p 3 0), (95, .p 3 4)] aZ dC fun ld dD => ?_
      clear dC
      refine of_op (wpOp_store aZ dD (oi := 3) (cs := [.int .i64 y7, .int .i64 y2, .int .i64 y3, .int .i64 (-1), .int .i64 (-1), .int .i64 y6, .int .i64 y7, .slice A9 l8.length ap]) kz fun lf jz ba dE => ?_)
      clear dD aZ
      refine wpOps_nil (then_normal ?_)
      refine wp_seq ?_
      refine go_sp [(1, .v (.int .i64 v)), (2, .v (.bool flex)), (9, .p 2 0), (14, .v (.slice ae ((things aa).length) af)), (15, .p 3 0), (97, .v (.int .i64 (((things aa).length : Nat) : Int))), (98, .v (.int .i64 0))] ba dE fun lg dF => ?_
      clear dE
      refine wp_block ?_
      have hl_ := (hQ.2 ac (by assumption)).2
      refine wp_loop_ghost (fun n_ a_ w_ => ∃ (k : Nat), n_ = (things aa).length - k ∧ k ≤ (things aa).length ∧ LInv ba 124 [⟨il, 0, [.int .i64 k1, .int .i64 y2, .int .i64 y3, .int .i64 y4, .int .i64 y5, .int .i64 y6, .int .i64 y7, .slice A9 l8.length ap], true⟩, ⟨im, 0, [.int .i64 aj, .slice gc ak.length gd, .bool al, .slice ae aa.length af, .slice ge am.length gg], true⟩, ⟨io, 0, [.int .i64 hC, .slice hZ hJ.length ia, .bool df, .slice cw ao.length fu, .slice ib hK.length ic], true⟩, ⟨ip, 0, [.int .i64 y7, .int .i64 y2, .int .i64 y3, .int .i64 (-1), .int .i64 (-1), .int .i64 y6, .int .i64 y7, .slice A9 l8.length ap], true⟩] [] [(1, .v (.int .i64 v)), (2, .v (.bool flex)), (9, .p 2 0), (14, .v (.slice ae ((things aa).length) af)), (15, .p 3 0), (97, .v (.int .i64 (((things aa).length : Nat) : Int))), (98, .v (.int .i64 ((k : Nat) : Int)))] a_ w_) ((things aa).length) ⟨0, by omega, by omega, dF.pk, ba, Fr.refl _ _ _⟩ ?_
      clear dF
      rintro lh li lj ⟨k, jA, jB, dG, au, gD⟩
      refine go_sp [(1, .v (.int .i64 v)), (2, .v (.bool flex)), (9, .p 2 0), (14, .v (.slice ae ((things aa).length) af)), (15, .p 3 0), (97, .v (.int .i64 (((things aa).length : Nat) : Int))), (98, .v (.int .i64 ((k : Nat) : Int))), (99, .v (.bool (decide (((k : Nat) : Int) < (((things aa).length : Nat) : Int)))))] au dG fun lm aD => ?_
      clear dG
      refine wp_seq ?_
      refine cond_of aD (b := decide (((k : Nat) : Int) < (((things aa).length : Nat) : Int))) kz (fun bd => ?_) (fun bd => ?_)
      ·
       have jC := of_decide_eq_true bd
       refine wp_skip ?_
       refine then_normal ?_
       refine wp_seq ?_
       refine wp_block ?_
       refine go_sp [(1, .v (.int .i64 v)), (2, .v (.bool flex)), (9, .p 2 0), (14, .v (.slice ae ((things aa).length) af)), (15, .p 3 0), (16, .v (.int .i64 ((k : Nat) : Int))), (97, .v (.int .i64 (((things aa).length : Nat) : Int))), (98, .v (.int .i64 ((k : Nat) : Int)))] au aD fun ln dH => ?_
       clear aD
       refine go_seq_drawK 14 kz au fun lp gE ag aE => ?_
       clear au
       refine go_rnD [0, 1, 2, 3, 4, 7, 8, 9] [(1, .v (.int .i64 v)), (2, .v (.bool flex)), (9, .p 2 0), (14, .v (.slice ae ((things aa).length) af)), (15, .p 3 0), (97, .v (.int .i64 (((things aa).length : Nat) : Int))), (98, .v (.int .i64 ((k : Nat) : Int))), (101, .v (.agg #[.int .i64 y7, .int .i64 y2, .int .i64 y3, .int .i64 (-1), .int .i64 (-1), .int .i64 y6, .int .i64 y7, .slice A9 l8.length ap])), (102, .v (.int .i64 v)), (103, .v (.bool flex)), (104, .v (.slice ae ((things aa).length) af)), (105, .v (.int .i64 ((k : Nat) : Int))), (109, .v (.slice cw ao.length fu)), (110, .v (.int .i64 ((k : Nat) : Int)))] 6 (panicFree_then (panicFree_block (panicFree_then (panicFree_then (panicFree_block (panicFree_then (panicFree_block (panicFree_then panicFree_body)))))))) (fun _ h => h.cells) aE dH fun lq dI => ?_
       clear dH
       obtain ⟨iq, ir, gF, jD, bf⟩ := Slots.get (things_slots ft) (i := k) (by first | omega | (have h_ : ao.length = (things aa).length := (hQ.2 ac (by assumption)).1; omega))
       obtain ⟨iu, dJ⟩ : ∃ x, (things aa)[k]? = some x := ⟨_, List.getElem?_eq_getElem (by omega)⟩
       have bg := (things_each ij) k iu dJ
       obtain ⟨cA, cB, cC, cD, cE, fv, fw, fx, fy, fz, fA, jE, rfl, bh, iv, iw, lr, ls⟩ := bg.open_
       rw [bh] at bg
       have ix := iv.small
       have iy := iw.small
       rw [bh] at bf
       refine takeC_index dI (i := 5) (t := 23) (A := ae) (m := ((things aa).length)) (q := ((k : Nat) : Int)) (d := 106) kz (e := 26) (size := 5) (bytes := 88) kz gF rfl (by first | omega | (have h_ : ao.length = (things aa).length := (hQ.2 ac (by assumption)).1; omega)) kz kz (panicFree_then (panicFree_block (panicFree_then (panicFree_then (panicFree_block (panicFree_then (panicFree_block (panicFree_then panicFree_body)))))))) aE fun lu dK => ?_
       clear dI
       refine takeC_load dK (i := 6) (t := 26) (b := iq) (o := ir + k * 5) (d := 107) kz (cs := [.int .i64 cA, .slice fv cB.length fw, .bool cC, .slice fx cD.length fy, .slice fz cE.length fA]) (v := .agg #[.int .i64 cA, .slice fv cB.length fw, .bool cC, .slice fx cD.length fy, .slice fz cE.length fA]) kz (fun w' h' => (AtF.move bf (TT.step0 ag h') nilM keepF).at_) kz kz (panicFree_then (panicFree_block (panicFree_then (panicFree_then (panicFree_block (panicFree_then (panicFree_block (panicFree_then panicFree_body)))))))) aE fun lv dL => ?_
       clear dK
       obtain ⟨iz, iA, gG, jF, bi⟩ := Slots.get ig (i := k) (by first | omega | (have h_ : ao.length = (things aa).length := (hQ.2 ac (by assumption)).1; omega))
       obtain ⟨iB, dM⟩ : ∃ x, ao[k]? = some x := ⟨_, List.getElem?_eq_getElem (by omega)⟩
       have bj := ik k iB dM
       obtain ⟨cG, cH, cI, cJ, cK, fB, fC, fD, fE, fF, fG, jG, rfl, bk, iC, iD, lw, lx⟩ := bj.open_
       rw [bk] at bj
       have iE := iC.small
       have iF := iD.small
       rw [bk] at bi
       refine takeC_index dL (i := 10) (t := 23) (A := cw) (m := ao.length) (q := ((k : Nat) : Int)) (d := 111) kz (e := 26) (size := 5) (bytes := 88) kz gG rfl (by first | omega | (have h_ : ao.length = (things aa).length := (hQ.2 ac (by assumption)).1; omega)) kz kz (panicFree_then (panicFree_block (panicFree_then (panicFree_then (panicFree_block (panicFree_then (panicFree_block (panicFree_then panicFree_body)))))))) aE fun ly dN => ?_
       clear dL
       refine takeC_load dN (i := 11) (t := 26) (b := iz) (o := iA + k * 5) (d := 112) kz (cs := [.int .i64 cG, .slice fB cH.length fC, .bool cI, .slice fD cJ.length fE, .slice fF cK.length fG]) (v := .agg #[.int .i64 cG, .slice fB cH.length fC, .bool cI, .slice fD cJ.length fE, .slice fF cK.length fG]) kz (fun w' h' => (AtF.move bi (TT.step0 ag h') nilM keepF).at_) kz kz (panicFree_then (panicFree_block (panicFree_then (panicFree_then (panicFree_block (panicFree_then (panicFree_block (panicFree_then panicFree_body)))))))) aE fun lz dO => ?_
       clear dN
       refine anyC_op (i := 12) kz (wpOp_call dO (f := 45) (vs := [.agg #[.int .i64 y7, .int .i64 y2, .int .i64 y3, .int .i64 (-1), .int .i64 (-1), .int .i64 y6, .int .i64 y7, .slice A9 l8.length ap], .int .i64 v, .bool flex, .agg #[.int .i64 cA, .slice fv cB.length fw, .bool cC, .slice fx cD.length fy, .slice fz cE.length fA], .agg #[.int .i64 cG, .slice fB cH.length fC, .bool cI, .slice fD cJ.length fE, .slice fF cK.length fG]]) (d := 113) kz Tryd.call45 ( sTold0 hT _ _ _ (Tree.mk cA cB cC cD cE) _ (Tree.mk cG cH cI cJ cK) _ _ (FldR.mk (l := l8) fr (g9.move ag.step nilM ag.imm) (fun i_ x_ h_ => ((ii i_ x_ h_).move ag.step nilM ag.imm))) hpl hof (bg.move ag.step nilM ag.imm) (bj.move ag.step nilM ag.imm) (hl_ _ _ _ dJ dM)) ?_)
       rintro e_ lA ⟨rfl, dP⟩
       refine ⟨_, rfl, fun lB dQ => ?_⟩
       have bn := ag.next_nil dP
       have dR := ag.frN dP
       clear dO
       have dS := TT.ofW dR bn
       refine ⟨fun _ => dS, ?_⟩
       refine go_rnD [13] [(1, .v (.int .i64 v)), (2, .v (.bool flex)), (9, .p 2 0), (14, .v (.slice ae ((things aa).length) af)), (15, .p 3 0), (97, .v (.int .i64 (((things aa).length : Nat) : Int))), (98, .v (.int .i64 ((k : Nat) : Int))), (114, .v (.bool false))] 0 (panicFree_then (panicFree_block (panicFree_then (panicFree_then (panicFree_block (panicFree_then (panicFree_block (panicFree_then panicFree_body)))))))) (fun _ h => h.cells) dS dQ fun lC bo => ?_
       clear dQ
       refine anyC_done kz ?_ _
       refine then_normal ?_
       refine cond_false bo (b := false) kz rfl ?_
       refine wp_skip ?_
       refine block_normal ?_
       refine then_normal ?_
       refine go_region [0, 1] kz ?_
       refine go_rn [0, 1] [] [(1, .v (.int .i64 v)), (2, .v (.bool flex)), (9, .p 2 0), (14, .v (.slice ae ((things aa).length) af)), (15, .p 3 0), (97, .v (.int .i64 (((things aa).length : Nat) : Int))), (98, .v (.int .i64 (IntKind.i64.wrap (((k : Nat) : Int) + 1))))] bn bo fun lD dT => ?_
       clear bo
       refine wpOps_nil (then_normal ?_)
       have gH : IntKind.i64.wrap (((k : Nat) : Int) + 1) = ((k + 1 : Nat) : Int) := wrap_succ (by omega)
       rw [gH] at dT
       exact ⟨(things aa).length - (k + 1), by omega, k + 1, rfl, by omega, dT.pk, bn, ((gD.trans gE).trans dR)⟩
      ·
       have jH := of_decide_eq_false bd
       refine wp_exit ?_
       refine then_exit ?_
       refine then_exit ?_
       refine block_exit ?_
       refine then_normal ?_
       refine go_sp [(10, .v (.bool true))] au aD fun lE gI => ?_
       clear aD
       refine wp_ret ?_
       refine block_ret ?_
       refine then_ret ?_
       refine leave gI au.cells (v := .bool true) kz ?_
       exact ⟨rfl, au.step⟩
  ·
   have jI := of_decide_eq_false az
   have dU := aN.cast (env' := [(1, .v (.int .i64 v)), (2, .v (.bool flex)), (5, .p 0 0), (8, .p 1 0), (9, .p 2 0), (11, .v (.bool (Fld.nul (Fld.mk k1 y2 y3 y4 y5 y6 y7 l8) v (Tree.mk aj ak al aa am)))), (41, .v (.bool false))]) (by rw [az])
   clear aN
   refine go_rn [12, 13, 14, 15, 16] [] [(1, .v (.int .i64 v)), (2, .v (.bool flex)), (5, .p 0 0), (8, .p 1 0), (9, .p 2 0), (11, .v (.bool (Fld.nul (Fld.mk k1 y2 y3 y4 y5 y6 y7 l8) v (Tree.mk aj ak al aa am)))), (46, .v (.bool false))] ab dU fun lF bp => ?_
   clear dU
   refine wpOps_nil (then_normal ?_)
   refine cond_false bp (b := false) kz rfl ?_
   refine wp_skip ?_
   refine then_normal ?_
   refine wp_seq ?_
   refine go_sp [(1, .v (.int .i64 v)), (2, .v (.bool flex)), (5, .p 0 0), (8, .p 1 0), (9, .p 2 0), (47, .v (.bool (Fld.nul (Fld.mk k1 y2 y3 y4 y5 y6 y7 l8) v (Tree.mk aj ak al aa am))))] ab bp fun lG aF => ?_
   clear bp
   refine cond_of aF (b := Fld.nul (Fld.mk k1 y2 y3 y4 y5 y6 y7 l8) v (Tree.mk aj ak al aa am)) kz (fun gJ => ?_) (fun gJ => ?_)
   ·
    refine go_sp [(10, .v (.bool true))] ab aF fun lH gK => ?_
    clear aF
    refine wp_ret ?_
    refine then_ret ?_
    refine leave gK ab.cells (v := .bool true) kz ?_
    exact ⟨rfl, ab.step⟩
   ·
    refine wp_skip ?_
    refine then_normal ?_
    refine wp_seq ?_
    refine go_sp [(1, .v (.int .i64 v)), (2, .v (.bool flex)), (5, .p 0 0), (8, .p 1 0), (9, .p 2 0), (49, .v (.int .i64 k1))] ab aF fun lI dV => ?_
    clear aF
    refine wp_block ?_
    refine wp_seq ?_
    refine go_sp [(1, .v (.int .i64 v)), (2, .v (.bool flex)), (5, .p 0 0), (8, .p 1 0), (9, .p 2 0), (49, .v (.int .i64 k1)), (50, .v (.bool (k1 == 8)))] ab dV fun lJ bq => ?_
    clear dV
    refine cond_false bq (b := k1 == 8) kz (by simp [ac]) ?_
    refine go_region [0, 1] kz ?_
    refine go_rn [0, 1] [] [(1, .v (.int .i64 v)), (2, .v (.bool flex)), (5, .p 0 0), (8, .p 1 0), (9, .p 2 0), (49, .v (.int .i64 k1)), (50, .v (.bool (k1 == 9)))] ab bq fun lK bt => ?_
    clear bq
    refine wpOps_nil (then_normal ?_)
    refine cond_false bt (b := k1 == 9) kz (by simp [ac]) ?_
    refine go_sp [(1, .v (.int .i64 v)), (2, .v (.bool flex)), (5, .p 0 0), (8, .p 1 0), (9, .p 2 0), (49, .v (.int .i64 k1)), (59, .v (.bool (k1 == 7)))] ab bt fun lL bu => ?_
    clear bt
    refine cond_false bu (b := k1 == 7) kz (by simp [ac]) ?_
    refine go_sp [(1, .v (.int .i64 v)), (2, .v (.bool flex)), (5, .p 0 0), (8, .p 1 0), (9, .p 2 0), (49, .v (.int .i64 k1)), (70, .v (.bool (k1 == 10)))] ab bu fun lM bw => ?_
    clear bu
    refine cond_false bw (b := k1 == 10) kz (by simp [ac]) ?_
    refine go_sp [(1, .v (.int .i64 v)), (2, .v (.bool flex)), (5, .p 0 0), (8, .p 1 0), (9, .p 2 0), (79, .v (.bool (k1 == 11)))] ab bw fun lN bx => ?_
    clear bw
    refine cond_true bx (b := k1 == 11) kz (by simpa using ac) ?_
    refine go_seq_region [0, 1, 2, 3] kz ?_
    refine go_rn [0, 1] [2, 3] [(1, .v (.int .i64 v)), (2, .v (.bool flex)), (5, .p 0 0), (9, .p 2 0), (82, .v (.slice ae aa.length af))] ab bx fun lO dW => ?_
    clear bx
    refine of_op (wpOp_call dW (f := 77) (vs := [.slice ae aa.length af]) (d := 83) kz Tryd.call77 (sThings _ _ aa (ft.move ab.step nilM ab.imm).le _) ?_)
    rintro e_ lP ⟨rfl, dX⟩
    refine ⟨_, rfl, fun lQ dY => ?_⟩
    have av := ab.next_nil dX
    have jJ := ab.frN dX
    clear dW ab
    refine go_rn [3] [] [(1, .v (.int .i64 v)), (2, .v (.bool flex)), (5, .p 0 0), (9, .p 2 0), (14, .v (.slice ae ((things aa).length) af))] av dY fun lR dZ => ?_
    clear dY
    refine wpOps_nil (then_normal ?_)
    refine wp_seq ?_
    refine go_sp [(1, .v (.int .i64 v)), (2, .v (.bool flex)), (5, .p 0 0), (9, .p 2 0), (14, .v (.slice ae ((things aa).length) af)), (89, .v (.bool (((ao.length : Nat) : Int) != (((things aa).length : Nat) : Int))))] av dZ fun lS aG => ?_
    clear dZ
    refine cond_of aG (b := ((ao.length : Nat) : Int) != (((things aa).length : Nat) : Int)) kz (fun bz => ?_) (fun bz => ?_)
    ·
     have jK : ((ao.length : Nat) : Int) ≠ (((things aa).length : Nat) : Int) := by simpa using bz
     refine go_sp [(10, .v (.bool false))] av aG fun lT gL => ?_
     clear aG
     refine wp_ret ?_
     refine then_ret ?_
     refine block_ret ?_
     refine then_ret ?_
     refine leave gL av.cells (v := .bool false) kz ?_
     first
      | exact (to_nm hq (by assumption) (by assumption) (by assumption)).elim
      | exact (to_len (hQ.2 ac (by assumption)).1 (by assumption)).elim
      | (exfalso; simp_all; done)
    ·
     have jL : ((ao.length : Nat) : Int) = (((things aa).length : Nat) : Int) := by simpa using bz
     refine wp_skip ?_
     refine then_normal ?_
     refine go_seq_region [0, 1, 2] kz ?_
     refine go_rn [0] [1, 2] [(1, .v (.int .i64 v)), (2, .v (.bool flex)), (5, .p 0 0), (9, .p 2 0), (14, .v (.slice ae ((things aa).length) af)), (90, .v (.agg #[.int .i64 k1, .int .i64 y2, .int .i64 y3, .int .i64 y4, .int .i64 y5, .int .i64 y6, .int .i64 y7, .slice A9 l8.length ap]))] av aG fun lU d5 => ?_
     clear aG
     refine of_op (wpOp_alloc av d5 (d := 15) (cs := [.int .i64 0, .int .i64 0, .int .i64 0, .int .i64 0, .int .i64 0, .int .i64 0, .int .i64 0, .slice none 0 0]) kz fun iG lV lW jM jN jO d6 d7 => ?_)
     clear d5 av
     refine of_op (wpOp_store d6 d7 (oi := 3) (cs := [.int .i64 k1, .int .i64 y2, .int .i64 y3, .int .i64 y4, .int .i64 y5, .int .i64 y6, .int .i64 y7, .slice A9 l8.length ap]) kz fun lX jP bA d8 => ?_)
     clear d7 d6
     refine wpOps_nil (then_normal ?_)
     refine go_seq_region [0, 1, 2, 3, 4, 5, 6, 7] kz ?_
     refine go_rn [0, 1, 2] [3, 4, 5, 6, 7] [(1, .v (.int .i64 v)), (2, .v (.bool flex)), (9, .p 2 0), (14, .v (.slice ae ((things aa).length) af)), (15, .p 3 0), (92, .v (.int .i64 y7)), (93, .p 3 0)] bA d8 fun lY d9 => ?_
     clear d8
     refine of_op (wpOp_store bA d9 (oi := 3) (cs := [.int .i64 y7, .int .i64 y2, .int .i64 y3, .int .i64 y4, .int .i64 y5, .int .i64 y6, .int .i64 y7, .slice A9 l8.length ap]) kz fun lZ jQ bB ea => ?_)
     clear d9 bA
     refine go_rn [4] [5, 6, 7] [(1, .v (.int .i64 v)), (2, .v (.bool flex)), (9, .p 2 0), (14, .v (.slice ae ((things aa).length) af)), (15, .p 3 0), (94, .p 3 3)] bB ea fun l0 eb => ?_
     clear ea
     refine of_op (wpOp_store bB eb (oi := 3) (cs := [.int .i64 y7, .int .i64 y2, .int .i64 y3, .int .i64 (-1), .int .i64 y5, .int .i64 y6, .int .i64 y7, .slice A9 l8.length ap]) kz fun l3 jR bC ec => ?_)
     clear eb bB
     refine go_rn [6] [7] [(1, .v (.int .i64 v)), (2, .v (.bool flex)), (9, .p 2 0), (14, .v (.slice ae ((things aa).length) af)), (15, .p 3 0), (95, .p 3 4)] bC ec fun l5 ee => ?_
     clear ec
     refine of_op (wpOp_store bC ee (oi := 3) (cs := [.int .i64 y7, .int .i64 y2, .int .i64 y3, .int .i64 (-1), .int .i64 (-1), .int .i64 y6, .int .i64 y7, .slice A9 l8.length ap]) kz fun l6 jS bD ef => ?_)
     clear ee bC
     refine wpOps_nil (then_normal ?_)
     refine wp_seq ?_
     refine go_sp [(1, .v (.int .i64 v)), (2, .v (.bool flex)), (9, .p 2 0), (14, .v (.slice ae ((things aa).length) af)), (15, .p 3 0), (97, .v (.int .i64 (((things aa).length : Nat) : Int))), (98, .v (.int .i64 0))] bD ef fun l7 eg => ?_
     clear ef
     refine wp_block ?_
     have hl_ := (hQ.2 ac (by assumption)).2
     refine wp_loop_ghost (fun n_ a_ w_ => ∃ (k : Nat), n_ = (things aa).length - k ∧ k ≤ (things aa).length ∧ LInv bD 124 [⟨il, 0, [.int .i64 k1, .int .i64 y2, .int .i64 y3, .int .i64 y4, .int .i64 y5, .int .i64 y6, .int .i64 y7, .slice A9 l8.length ap], true⟩, ⟨im, 0, [.int .i64 aj, .slice gc ak.length gd, .bool al, .slice ae aa.length af, .slice ge am.length gg], true⟩, ⟨io, 0, [.int .i64 hC, .slice hZ hJ.length ia, .bool df, .slice cw ao.length fu, .slice ib hK.length ic], true⟩, ⟨iG, 0, [.int .i64 y7, .int .i64 y2, .int .i64 y3, .int .i64 (-1), .int .i64 (-1), .int .i64 y6, .int .i64 y7, .slice A9 l8.length ap], true⟩] [] [(1, .v (.int .i64 v)), (2, .v (.bool flex)), (9, .p 2 0), (14, .v (.slice ae ((things aa).length) af)), (15, .p 3 0), (97, .v (.int .i64 (((things aa).length : Nat) : Int))), (98, .v (.int .i64 ((k : Nat) : Int)))] a_ w_) ((things aa).length) ⟨0, by omega, by omega, eg.pk, bD, Fr.refl _ _ _⟩ ?_
     clear eg
     rintro l9 ma mc ⟨k, jT, jU, eh, aw, gM⟩
     refine go_sp [(1, .v (.int .i64 v)), (2, .v (.bool flex)), (9, .p 2 0), (14, .v (.slice ae ((things aa).length) af)), (15, .p 3 0), (97, .v (.int .i64 (((things aa).length : Nat) : Int))), (98, .v (.int .i64 ((k : Nat) : Int))), (99, .v (.bool (decide (((k : Nat) : Int) < (((things aa).length : Nat) : Int)))))] aw eh fun md aH => ?_
     clear eh
     refine wp_seq ?_
     refine cond_of aH (b := decide (((k : Nat) : Int) < (((things aa).length : Nat) : Int))) kz (fun bE => ?_) (fun bE => ?_)
     ·
      have jV := of_decide_eq_true bE
      refine wp_skip ?_
      refine then_normal ?_
      refine wp_seq ?_
      refine wp_block ?_
      refine go_sp [(1, .v (.int .i64 v)), (2, .v (.bool flex)), (9, .p 2 0), (14, .v (.slice ae ((things aa).length) af)), (15, .p 3 0), (16, .v (.int .i64 ((k : Nat) : Int))), (97, .v (.int .i64 (((things aa).length : Nat) : Int))), (98, .v (.int .i64 ((k : Nat) : Int)))] aw aH fun me ei => ?_
      clear aH
      refine go_seq_drawK 14 kz aw fun mf gN ah aI => ?_
      clear aw
      refine go_rnD [0, 1, 2, 3, 4, 7, 8, 9] [(1, .v (.int .i64 v)), (2, .v (.bool flex)), (9, .p 2 0), (14, .v (.slice ae ((things aa).length) af)), (15, .p 3 0), (97, .v (.int .i64 (((things aa).length : Nat) : Int))), (98, .v (.int .i64 ((k : Nat) : Int))), (101, .v (.agg #[.int .i64 y7, .int .i64 y2, .int .i64 y3, .int .i64 (-1), .int .i64 (-1), .int .i64 y6, .int .i64 y7, .slice A9 l8.length ap])), (102, .v (.int .i64 v)), (103, .v (.bool flex)), (104, .v (.slice ae ((things aa).length) af)), (105, .v (.int .i64 ((k : Nat) : Int))), (109, .v (.slice cw ao.length fu)), (110, .v (.int .i64 ((k : Nat) : Int)))] 6 (panicFree_then (panicFree_block (panicFree_then (panicFree_then (panicFree_block (panicFree_then (panicFree_block (panicFree_then panicFree_body)))))))) (fun _ h => h.cells) aI ei fun mg ej => ?_
      clear ei
      obtain ⟨iH, iI, gO, jW, bF⟩ := Slots.get (things_slots ft) (i := k) (by first | omega | (have h_ : ao.length = (things aa).length := (hQ.2 ac (by assumption)).1; omega))
      obtain ⟨iJ, ek⟩ : ∃ x, (things aa)[k]? = some x := ⟨_, List.getElem?_eq_getElem (by omega)⟩
      have bG := (things_each ij) k iJ ek
      obtain ⟨cL, cM, cN, cO, cP, fH, fI, fJ, fK, fL, fM, jX, rfl, bH, iK, iL, mh, mi⟩ := bG.open_
      rw [bH] at bG
      have iM := iK.small
      have iN := iL.small
      rw [bH] at bF
      refine takeC_index ej (i := 5) (t := 23) (A := ae) (m := ((things aa).length)) (q := ((k : Nat) : Int)) (d := 106) kz (e := 26) (size := 5) (bytes := 88) kz gO rfl (by first | omega | (have h_ : ao.length = (things aa).length := (hQ.2 ac (by assumption)).1; omega)) kz kz (panicFree_then (panicFree_block (panicFree_then (panicFree_then (panicFree_block (panicFree_then (panicFree_block (panicFree_then panicFree_body)))))))) aI fun mj em => ?_
      clear ej
      refine takeC_load em (i := 6) (t := 26) (b := iH) (o := iI + k * 5) (d := 107) kz (cs := [.int .i64 cL, .slice fH cM.length fI, .bool cN, .slice fJ cO.length fK, .slice fL cP.length fM]) (v := .agg #[.int .i64 cL, .slice fH cM.length fI, .bool cN, .slice fJ cO.length fK, .slice fL cP.length fM]) kz (fun w' h' => (AtF.move bF (TT.step0 ah h') nilM keepF).at_) kz kz (panicFree_then (panicFree_block (panicFree_then (panicFree_then (panicFree_block (panicFree_then (panicFree_block (panicFree_then panicFree_body)))))))) aI fun ml eo => ?_
      clear em
      obtain ⟨iO, iP, gP, jY, bI⟩ := Slots.get ig (i := k) (by first | omega | (have h_ : ao.length = (things aa).length := (hQ.2 ac (by assumption)).1; omega))
      obtain ⟨iQ, ep⟩ : ∃ x, ao[k]? = some x := ⟨_, List.getElem?_eq_getElem (by omega)⟩
      have bJ := ik k iQ ep
      obtain ⟨cQ, cR, cS, cT, cU, fN, fO, fP, fQ, fR, fS, jZ, rfl, bK, iR, iS, mn, mo⟩ := bJ.open_
      rw [bK] at bJ
      have iT := iR.small
      have iU := iS.small
      rw [bK] at bI
      refine takeC_index eo (i := 10) (t := 23) (A := cw) (m := ao.length) (q := ((k : Nat) : Int)) (d := 111) kz (e := 26) (size := 5) (bytes := 88) kz gP rfl (by first | omega | (have h_ : ao.length = (things aa).length := (hQ.2 ac (by assumption)).1; omega)) kz kz (panicFree_then (panicFree_block (panicFree_then (panicFree_then (panicFree_block (panicFree_then (panicFree_block (panicFree_then panicFree_body)))))))) aI fun mp eu => ?_
      clear eo
      refine takeC_load eu (i := 11) (t := 26) (b := iO) (o := iP + k * 5) (d := 112) kz (cs := [.int .i64 cQ, .slice fN cR.length fO, .bool cS, .slice fP cT.length fQ, .slice fR cU.length fS]) (v := .agg #[.int .i64 cQ, .slice fN cR.length fO, .bool cS, .slice fP cT.length fQ, .slice fR cU.length fS]) kz (fun w' h' => (AtF.move bI (TT.step0 ah h') nilM keepF).at_) kz kz (panicFree_then (panicFree_block (panicFree_then (panicFree_then (panicFree_block (panicFree_then (panicFree_block (panicFree_then panicFree_body)))))))) aI fun mq ev => ?_
      clear eu
      refine anyC_op (i := 12) kz (wpOp_call ev (f := 45) (vs := [.agg #[.int .i64 y7, .int .i64 y2, .int .i64 y3, .int .i64 (-1), .int .i64 (-1), .int .i64 y6, .int .i64 y7, .slice A9 l8.length ap], .int .i64 v, .bool flex, .agg #[.int .i64 cL, .slice fH cM.length fI, .bool cN, .slice fJ cO.length fK, .slice fL cP.length fM], .agg #[.int .i64 cQ, .slice fN cR.length fO, .bool cS, .slice fP cT.length fQ, .slice fR cU.length fS]]) (d := 113) kz Tryd.call45 ( sTold0 hT _ _ _ (Tree.mk cL cM cN cO cP) _ (Tree.mk cQ cR cS cT cU) _ _ (FldR.mk (l := l8) fr (g9.move ah.step nilM ah.imm) (fun i_ x_ h_ => ((ii i_ x_ h_).move ah.step nilM ah.imm))) hpl hof (bG.move ah.step nilM ah.imm) (bJ.move ah.step nilM ah.imm) (hl_ _ _ _ ek ep)) ?_)
      rintro e_ mr ⟨rfl, ew⟩
      refine ⟨_, rfl, fun mt ey => ?_⟩
      have bL := ah.next_nil ew
      have ez := ah.frN ew
      clear ev
      have eB := TT.ofW ez bL
      refine ⟨fun _ => eB, ?_⟩
      refine go_rnD [13] [(1, .v (.int .i64 v)), (2, .v (.bool flex)), (9, .p 2 0), (14, .v (.slice ae ((things aa).length) af)), (15, .p 3 0), (97, .v (.int .i64 (((things aa).length : Nat) : Int))), (98, .v (.int .i64 ((k : Nat) : Int))), (114, .v (.bool false))] 0 (panicFree_then (panicFree_block (panicFree_then (panicFree_then (panicFree_block (panicFree_then (panicFree_block (panicFree_then panicFree_body)))))))) (fun _ h => h.cells) eB ey fun mu bM => ?_
      clear ey
      refine anyC_done kz ?_ _
      refine then_normal ?_
      refine cond_false bM (b := false) kz rfl ?_
      refine wp_skip ?_
      refine block_normal ?_
      refine then_normal ?_
      refine go_region [0, 1] kz ?_
      refine go_rn [0, 1] [] [(1, .v (.int .i64 v)), (2, .v (.bool flex)), (9, .p 2 0), (14, .v (.slice ae ((things aa).length) af)), (15, .p 3 0), (97, .v (.int .i64 (((things aa).length : Nat) : Int))), (98, .v (.int .i64 (IntKind.i64.wrap (((k : Nat) : Int) + 1))))] bL bM fun mw eC => ?_
      clear bM
      refine wpOps_nil (then_normal ?_)
      have gQ : IntKind.i64.wrap (((k : Nat) : Int) + 1) = ((k + 1 : Nat) : Int) := wrap_succ (by omega)
      rw [gQ] at eC
      exact ⟨(things aa).length - (k + 1), by omega, k + 1, rfl, by omega, eC.pk, bL, ((gM.trans gN).trans ez)⟩
     ·
      have j0 := of_decide_eq_false bE
      refine wp_exit ?_
      refine then_exit ?_
      refine then_exit ?_
      refine block_exit ?_
      refine then_normal ?_
      refine go_sp [(10, .v (.bool true))] aw aH fun mx gR => ?_
      clear aH
      refine wp_ret ?_
      refine block_ret ?_
      refine then_ret ?_
      refine leave gR aw.cells (v := .bool true) kz ?_
      exact ⟨rfl, aw.step⟩
 ·
  have j1 := of_decide_eq_false aP
  have eD := cz.cast (env' := [(1, .v (.int .i64 v)), (2, .v (.bool flex)), (5, .p 0 0), (8, .p 1 0), (9, .p 2 0), (11, .v (.bool (Fld.nul (Fld.mk k1 y2 y3 y4 y5 y6 y7 l8) v (Tree.mk aj ak al aa am)))), (24, .v (.bool false))]) (by rw [aP])
  clear cz
  refine go_rn [4, 5, 6, 7, 8, 9] [] [(1, .v (.int .i64 v)), (2, .v (.bool flex)), (5, .p 0 0), (8, .p 1 0), (9, .p 2 0), (11, .v (.bool (Fld.nul (Fld.mk k1 y2 y3 y4 y5 y6 y7 l8) v (Tree.mk aj ak al aa am)))), (12, .v (.bool false))] ab eD fun my eE => ?_
  clear eD
  refine wpOps_nil (then_normal ?_)
  refine wp_seq ?_
  refine go_seq_region [0, 1, 2, 3, 4, 5, 6, 7, 8, 9, 10, 11, 12, 13, 14, 15, 16] kz ?_
  refine go_rn [0, 1, 2, 3] [4, 5, 6, 7, 8, 9, 10, 11, 12, 13, 14, 15, 16] [(1, .v (.int .i64 v)), (2, .v (.bool flex)), (5, .p 0 0), (8, .p 1 0), (9, .p 2 0), (11, .v (.bool (Fld.nul (Fld.mk k1 y2 y3 y4 y5 y6 y7 l8) v (Tree.mk aj ak al aa am)))), (12, .v (.bool false)), (33, .v (.bool (k1 == 8)))] ab eE fun mz eF => ?_
  clear eE
  have gS : (k1 == 8) = false := by simp [ac]
  have eG := eF.cast (env' := [(1, .v (.int .i64 v)), (2, .v (.bool flex)), (5, .p 0 0), (8, .p 1 0), (9, .p 2 0), (11, .v (.bool (Fld.nul (Fld.mk k1 y2 y3 y4 y5 y6 y7 l8) v (Tree.mk aj ak al aa am)))), (12, .v (.bool false)), (33, .v (.bool false))]) (by rw [gS])
  clear eF
  refine go_rn [4, 5, 6, 7, 8] [9, 10, 11, 12, 13, 14, 15, 16] [(1, .v (.int .i64 v)), (2, .v (.bool flex)), (5, .p 0 0), (8, .p 1 0), (9, .p 2 0), (11, .v (.bool (Fld.nul (Fld.mk k1 y2 y3 y4 y5 y6 y7 l8) v (Tree.mk aj ak al aa am)))), (12, .v (.bool false)), (38, .v (.bool (k1 == 10)))] ab eG fun mA eH => ?_
  clear eG
  have gT : (k1 == 10) = false := by simp [ac]
  have eI := eH.cast (env' := [(1, .v (.int .i64 v)), (2, .v (.bool flex)), (5, .p 0 0), (8, .p 1 0), (9, .p 2 0), (11, .v (.bool (Fld.nul (Fld.mk k1 y2 y3 y4 y5 y6 y7 l8) v (Tree.mk aj ak al aa am)))), (12, .v (.bool false)), (38, .v (.bool false))]) (by rw [gT])
  clear eH
  refine go_rn [9, 10, 11, 12, 13, 14, 15, 16] [] [(1, .v (.int .i64 v)), (2, .v (.bool flex)), (5, .p 0 0), (8, .p 1 0), (9, .p 2 0), (11, .v (.bool (Fld.nul (Fld.mk k1 y2 y3 y4 y5 y6 y7 l8) v (Tree.mk aj ak al aa am)))), (46, .v (.bool false))] ab eI fun mB bN => ?_
  clear eI
  refine wpOps_nil (then_normal ?_)
  refine cond_false bN (b := false) kz rfl ?_
  refine wp_skip ?_
  refine then_normal ?_
  refine wp_seq ?_
  refine go_sp [(1, .v (.int .i64 v)), (2, .v (.bool flex)), (5, .p 0 0), (8, .p 1 0), (9, .p 2 0), (47, .v (.bool (Fld.nul (Fld.mk k1 y2 y3 y4 y5 y6 y7 l8) v (Tree.mk aj ak al aa am))))] ab bN fun mC aJ => ?_
  clear bN
  refine cond_of aJ (b := Fld.nul (Fld.mk k1 y2 y3 y4 y5 y6 y7 l8) v (Tree.mk aj ak al aa am)) kz (fun gU => ?_) (fun gU => ?_)
  ·
   refine go_sp [(10, .v (.bool true))] ab aJ fun mD gV => ?_
   clear aJ
   refine wp_ret ?_
   refine then_ret ?_
   refine leave gV ab.cells (v := .bool true) kz ?_
   exact ⟨rfl, ab.step⟩
  ·
   refine wp_skip ?_
   refine then_normal ?_
   refine wp_seq ?_
   refine go_sp [(1, .v (.int .i64 v)), (2, .v (.bool flex)), (5, .p 0 0), (8, .p 1 0), (9, .p 2 0), (49, .v (.int .i64 k1))] ab aJ fun mF eJ => ?_
   clear aJ
   refine wp_block ?_
   refine wp_seq ?_
   refine go_sp [(1, .v (.int .i64 v)), (2, .v (.bool flex)), (5, .p 0 0), (8, .p 1 0), (9, .p 2 0), (49, .v (.int .i64 k1)), (50, .v (.bool (k1 == 8)))] ab eJ fun mG bO => ?_
   clear eJ
   refine cond_false bO (b := k1 == 8) kz (by simp [ac]) ?_
   refine go_region [0, 1] kz ?_
   refine go_rn [0, 1] [] [(1, .v (.int .i64 v)), (2, .v (.bool flex)), (5, .p 0 0), (8, .p 1 0), (9, .p 2 0), (49, .v (.int .i64 k1)), (50, .v (.bool (k1 == 9)))] ab bO fun mH bP => ?_
   clear bO
   refine wpOps_nil (then_normal ?_)
   refine cond_false bP (b := k1 == 9) kz (by simp [ac]) ?_
   refine go_sp [(1, .v (.int .i64 v)), (2, .v (.bool flex)), (5, .p 0 0), (8, .p 1 0), (9, .p 2 0), (49, .v (.int .i64 k1)), (59, .v (.bool (k1 == 7)))] ab bP fun mI bQ => ?_
   clear bP
   refine cond_false bQ (b := k1 == 7) kz (by simp [ac]) ?_
   refine go_sp [(1, .v (.int .i64 v)), (2, .v (.bool flex)), (5, .p 0 0), (8, .p 1 0), (9, .p 2 0), (49, .v (.int .i64 k1)), (70, .v (.bool (k1 == 10)))] ab bQ fun mJ bR => ?_
   clear bQ
   refine cond_false bR (b := k1 == 10) kz (by simp [ac]) ?_
   refine go_sp [(1, .v (.int .i64 v)), (2, .v (.bool flex)), (5, .p 0 0), (8, .p 1 0), (9, .p 2 0), (79, .v (.bool (k1 == 11)))] ab bR fun mK bS => ?_
   clear bR
   refine cond_true bS (b := k1 == 11) kz (by simpa using ac) ?_
   refine go_seq_region [0, 1, 2, 3] kz ?_
   refine go_rn [0, 1] [2, 3] [(1, .v (.int .i64 v)), (2, .v (.bool flex)), (5, .p 0 0), (9, .p 2 0), (82, .v (.slice ae aa.length af))] ab bS fun mL eK => ?_
   clear bS
   refine of_op (wpOp_call eK (f := 77) (vs := [.slice ae aa.length af]) (d := 83) kz Tryd.call77 (sThings _ _ aa (ft.move ab.step nilM ab.imm).le _) ?_)
   rintro e_ mM ⟨rfl, eL⟩
   refine ⟨_, rfl, fun mN eM => ?_⟩
   have ax := ab.next_nil eL
   have j2 := ab.frN eL
   clear eK ab
   refine go_rn [3] [] [(1, .v (.int .i64 v)), (2, .v (.bool flex)), (5, .p 0 0), (9, .p 2 0), (14, .v (.slice ae ((things aa).length) af))] ax eM fun mO eN => ?_
   clear eM
   refine wpOps_nil (then_normal ?_)
   refine wp_seq ?_
   refine go_sp [(1, .v (.int .i64 v)), (2, .v (.bool flex)), (5, .p 0 0), (9, .p 2 0), (14, .v (.slice ae ((things aa).length) af)), (89, .v (.bool (((ao.length : Nat) : Int) != (((things aa).length : Nat) : Int))))] ax eN fun mQ aK => ?_
   clear eN
   refine cond_of aK (b := ((ao.length : Nat) : Int) != (((things aa).length : Nat) : Int)) kz (fun bT => ?_) (fun bT => ?_)
   ·
    have j3 : ((ao.length : Nat) : Int) ≠ (((things aa).length : Nat) : Int) := by simpa using bT
    refine go_sp [(10, .v (.bool false))] ax aK fun mR gW => ?_
    clear aK
    refine wp_ret ?_
    refine then_ret ?_
    refine block_ret ?_
    refine then_ret ?_
    refine leave gW ax.cells (v := .bool false) kz ?_
    first
     | exact (to_nm hq (by assumption) (by assumption) (by assumption)).elim
     | exact (to_len (hQ.2 ac (by assumption)).1 (by assumption)).elim
     | (exfalso; simp_all; done)
   ·
    have j4 : ((ao.length : Nat) : Int) = (((things aa).length : Nat) : Int) := by simpa using bT
    refine wp_skip ?_
    refine then_normal ?_
    refine go_seq_region [0, 1, 2] kz ?_
    refine go_rn [0] [1, 2] [(1, .v (.int .i64 v)), (2, .v (.bool flex)), (5, .p 0 0), (9, .p 2 0), (14, .v (.slice ae ((things aa).length) af)), (90, .v (.agg #[.int .i64 k1, .int .i64 y2, .int .i64 y3, .int .i64 y4, .int .i64 y5, .int .i64 y6, .int .i64 y7, .slice A9 l8.length ap]))] ax aK fun mS eO => ?_
    clear aK
    refine of_op (wpOp_alloc ax eO (d := 15) (cs := [.int .i64 0, .int .i64 0, .int .i64 0, .int .i64 0, .int .i64 0, .int .i64 0, .int .i64 0, .slice none 0 0]) kz fun iV mT mU j5 j6 j7 eP eQ => ?_)
    clear eO ax
    refine of_op (wpOp_store eP eQ (oi := 3) (cs := [.int .i64 k1, .int .i64 y2, .int .i64 y3, .int .i64 y4, .int .i64 y5, .int .i64 y6, .int .i64 y7, .slice A9 l8.length ap]) kz fun mV j8 bU eR => ?_)
    clear eQ eP
    refine wpOps_nil (then_normal ?_)
    refine go_seq_region [0, 1, 2, 3, 4, 5, 6, 7] kz ?_
    refine go_rn [0, 1, 2] [3, 4, 5, 6, 7] [(1, .v (.int .i64 v)), (2, .v (.bool flex)), (9, .p 2 0), (14, .v (.slice ae ((things aa).length) af)), (15, .p 3 0), (92, .v (.int .i64 y7)), (93, .p 3 0)] bU eR fun mW eS => ?_
    clear eR
    refine of_op (wpOp_store bU eS (oi := 3) (cs := [.int .i64 y7, .int .i64 y2, .int .i64 y3, .int .i64 y4, .int .i64 y5, .int .i64 y6, .int .i64 y7, .slice A9 l8.length ap]) kz fun mX j9 bV eU => ?_)
    clear eS bU
    refine go_rn [4] [5, 6, 7] [(1, .v (.int .i64 v)), (2, .v (.bool flex)), (9, .p 2 0), (14, .v (.slice ae ((things aa).length) af)), (15, .p 3 0), (94, .p 3 3)] bV eU fun mY eV => ?_
    clear eU
    refine of_op (wpOp_store bV eV (oi := 3) (cs := [.int .i64 y7, .int .i64 y2, .int .i64 y3, .int .i64 (-1), .int .i64 y5, .int .i64 y6, .int .i64 y7, .slice A9 l8.length ap]) kz fun mZ ka bW eW => ?_)
    clear eV bV
    refine go_rn [6] [7] [(1, .v (.int .i64 v)), (2, .v (.bool flex)), (9, .p 2 0), (14, .v (.slice ae ((things aa).length) af)), (15, .p 3 0), (95, .p 3 4)] bW eW fun m4 eX => ?_
    clear eW
    refine of_op (wpOp_store bW eX (oi := 3) (cs := [.int .i64 y7, .int .i64 y2, .int .i64 y3, .int .i64 (-1), .int .i64 (-1), .int .i64 y6, .int .i64 y7, .slice A9 l8.length ap]) kz fun m5 kd bX eY => ?_)
    clear eX bW
    refine wpOps_nil (then_normal ?_)
    refine wp_seq ?_
    refine go_sp [(1, .v (.int .i64 v)), (2, .v (.bool flex)), (9, .p 2 0), (14, .v (.slice ae ((things aa).length) af)), (15, .p 3 0), (97, .v (.int .i64 (((things aa).length : Nat) : Int))), (98, .v (.int .i64 0))] bX eY fun m6 eZ => ?_
    clear eY
    refine wp_block ?_
    have hl_ := (hQ.2 ac (by assumption)).2
    refine wp_loop_ghost (fun n_ a_ w_ => ∃ (k : Nat), n_ = (things aa).length - k ∧ k ≤ (things aa).length ∧ LInv bX 124 [⟨il, 0, [.int .i64 k1, .int .i64 y2, .int .i64 y3, .int .i64 y4, .int .i64 y5, .int .i64 y6, .int .i64 y7, .slice A9 l8.length ap], true⟩, ⟨im, 0, [.int .i64 aj, .slice gc ak.length gd, .bool al, .slice ae aa.length af, .slice ge am.length gg], true⟩, ⟨io, 0, [.int .i64 hC, .slice hZ hJ.length ia, .bool df, .slice cw ao.length fu, .slice ib hK.length ic], true⟩, ⟨iV, 0, [.int .i64 y7, .int .i64 y2, .int .i64 y3, .int .i64 (-1), .int .i64 (-1), .int .i64 y6, .int .i64 y7, .slice A9 l8.length ap], true⟩] [] [(1, .v (.int .i64 v)), (2, .v (.bool flex)), (9, .p 2 0), (14, .v (.slice ae ((things aa).length) af)), (15, .p 3 0), (97, .v (.int .i64 (((things aa).length : Nat) : Int))), (98, .v (.int .i64 ((k : Nat) : Int)))] a_ w_) ((things aa).length) ⟨0, by omega, by omega, eZ.pk, bX, Fr.refl _ _ _⟩ ?_
    clear eZ
    rintro m7 m8 m9 ⟨k, ke, kf, e9, ay, gX⟩
    refine go_sp [(1, .v (.int .i64 v)), (2, .v (.bool flex)), (9, .p 2 0), (14, .v (.slice ae ((things aa).length) af)), (15, .p 3 0), (97, .v (.int .i64 (((things aa).length : Nat) : Int))), (98, .v (.int .i64 ((k : Nat) : Int))), (99, .v (.bool (decide (((k : Nat) : Int) < (((things aa).length : Nat) : Int)))))] ay e9 fun nf aL => ?_
    clear e9
    refine wp_seq ?_
    refine cond_of aL (b := decide (((k : Nat) : Int) < (((things aa).length : Nat) : Int))) kz (fun bY => ?_) (fun bY => ?_)
    ·
     have kg := of_decide_eq_true bY
     refine wp_skip ?_
     refine then_normal ?_
     refine wp_seq ?_
     refine wp_block ?_
     refine go_sp [(1, .v (.int .i64 v)), (2, .v (.bool flex)), (9, .p 2 0), (14, .v (.slice ae ((things aa).length) af)), (15, .p 3 0), (16, .v (.int .i64 ((k : Nat) : Int))), (97, .v (.int .i64 (((things aa).length : Nat) : Int))), (98, .v (.int .i64 ((k : Nat) : Int)))] ay aL fun ng fa => ?_
     clear aL
     refine go_seq_drawK 14 kz ay fun nh gY ai aM => ?_
     clear ay
     refine go_rnD [0, 1, 2, 3, 4, 7, 8, 9] [(1, .v (.int .i64 v)), (2, .v (.bool flex)), (9, .p 2 0), (14, .v (.slice ae ((things aa).length) af)), (15, .p 3 0), (97, .v (.int .i64 (((things aa).length : Nat) : Int))), (98, .v (.int .i64 ((k : Nat) : Int))), (101, .v (.agg #[.int .i64 y7, .int .i64 y2, .int .i64 y3, .int .i64 (-1), .int .i64 (-1), .int .i64 y6, .int .i64 y7, .slice A9 l8.length ap])), (102, .v (.int .i64 v)), (103, .v (.bool flex)), (104, .v (.slice ae ((things aa).length) af)), (105, .v (.int .i64 ((k : Nat) : Int))), (109, .v (.slice cw ao.length fu)), (110, .v (.int .i64 ((k : Nat) : Int)))] 6 (panicFree_then (panicFree_block (panicFree_then (panicFree_then (panicFree_block (panicFree_then (panicFree_block (panicFree_then panicFree_body)))))))) (fun _ h => h.cells) aM fa fun ni fb => ?_
     clear fa
     obtain ⟨iW, iX, gZ, kh, bZ⟩ := Slots.get (things_slots ft) (i := k) (by first | omega | (have h_ : ao.length = (things aa).length := (hQ.2 ac (by assumption)).1; omega))
     obtain ⟨iY, fe⟩ : ∃ x, (things aa)[k]? = some x := ⟨_, List.getElem?_eq_getElem (by omega)⟩
     have b8 := (things_each ij) k iY fe
     obtain ⟨cV, cW, cX, cY, cZ, fT, fU, fV, fW, fX, fY, ki, rfl, cd, iZ, i6, nj, nk⟩ := b8.open_
     rw [cd] at b8
     have i7 := iZ.small
     have ja := i6.small
     rw [cd] at bZ
     refine takeC_index fb (i := 5) (t := 23) (A := ae) (m := ((things aa).length)) (q := ((k : Nat) : Int)) (d := 106) kz (e := 26) (size := 5) (bytes := 88) kz gZ rfl (by first | omega | (have h_ : ao.length = (things aa).length := (hQ.2 ac (by assumption)).1; omega)) kz kz (panicFree_then (panicFree_block (panicFree_then (panicFree_then (panicFree_block (panicFree_then (panicFree_block (panicFree_then panicFree_body)))))))) aM fun nl ff => ?_
     clear fb
     refine takeC_load ff (i := 6) (t := 26) (b := iW) (o := iX + k * 5) (d := 107) kz (cs := [.int .i64 cV, .slice fT cW.length fU, .bool cX, .slice fV cY.length fW, .slice fX cZ.length fY]) (v := .agg #[.int .i64 cV, .slice fT cW.length fU, .bool cX, .slice fV cY.length fW, .slice fX cZ.length fY]) kz (fun w' h' => (AtF.move bZ (TT.step0 ai h') nilM keepF).at_) kz kz (panicFree_then (panicFree_block (panicFree_then (panicFree_then (panicFree_block (panicFree_then (panicFree_block (panicFree_then panicFree_body)))))))) aM fun nm fg => ?_
     clear ff
     obtain ⟨jb, jc, g6, kj, ce⟩ := Slots.get ig (i := k) (by first | omega | (have h_ : ao.length = (things aa).length := (hQ.2 ac (by assumption)).1; omega))
     obtain ⟨jd, fh⟩ : ∃ x, ao[k]? = some x := ⟨_, List.getElem?_eq_getElem (by omega)⟩
     have cm := ik k jd fh
     obtain ⟨c5, da, db, dc, de, fZ, f5, f8, f9, ga, gb, km, rfl, cq, je, jf, np, nr⟩ := cm.open_
     rw [cq] at cm
     have jg := je.small
     have jh := jf.small
     rw [cq] at ce
     refine takeC_index fg (i := 10) (t := 23) (A := cw) (m := ao.length) (q := ((k : Nat) : Int)) (d := 111) kz (e := 26) (size := 5) (bytes := 88) kz g6 rfl (by first | omega | (have h_ : ao.length = (things aa).length := (hQ.2 ac (by assumption)).1; omega)) kz kz (panicFree_then (panicFree_block (panicFree_then (panicFree_then (panicFree_block (panicFree_then (panicFree_block (panicFree_then panicFree_body)))))))) aM fun ns fi => ?_
     clear fg
     refine takeC_load fi (i := 11) (t := 26) (b := jb) (o := jc + k * 5) (d := 112) kz (cs := [.int .i64 c5, .slice fZ da.length f5, .bool db, .slice f8 dc.length f9, .slice ga de.length gb]) (v := .agg #[.int .i64 c5, .slice fZ da.length f5, .bool db, .slice f8 dc.length f9, .slice ga de.length gb]) kz (fun w' h' => (AtF.move ce (TT.step0 ai h') nilM keepF).at_) kz kz (panicFree_then (panicFree_block (panicFree_then (panicFree_then (panicFree_block (panicFree_then (panicFree_block (panicFree_then panicFree_body)))))))) aM fun nt fj => ?_
     clear fi
     refine anyC_op (i := 12) kz (wpOp_call fj (f := 45) (vs := [.agg #[.int .i64 y7, .int .i64 y2, .int .i64 y3, .int .i64 (-1), .int .i64 (-1), .int .i64 y6, .int .i64 y7, .slice A9 l8.length ap], .int .i64 v, .bool flex, .agg #[.int .i64 cV, .slice fT cW.length fU, .bool cX, .slice fV cY.length fW, .slice fX cZ.length fY], .agg #[.int .i64 c5, .slice fZ da.length f5, .bool db, .slice f8 dc.length f9, .slice ga de.length gb]]) (d := 113) kz Tryd.call45 ( sTold0 hT _ _ _ (Tree.mk cV cW cX cY cZ) _ (Tree.mk c5 da db dc de) _ _ (FldR.mk (l := l8) fr (g9.move ai.step nilM ai.imm) (fun i_ x_ h_ => ((ii i_ x_ h_).move ai.step nilM ai.imm))) hpl hof (b8.move ai.step nilM ai.imm) (cm.move ai.step nilM ai.imm) (hl_ _ _ _ fe fh)) ?_)
     rintro e_ nu ⟨rfl, fk⟩
     refine ⟨_, rfl, fun nv fl => ?_⟩
     have cr := ai.next_nil fk
     have fm := ai.frN fk
     clear fj
     have fo := TT.ofW fm cr
     refine ⟨fun _ => fo, ?_⟩
     refine go_rnD [13] [(1, .v (.int .i64 v)), (2, .v (.bool flex)), (9, .p 2 0), (14, .v (.slice ae ((things aa).length) af)), (15, .p 3 0), (97, .v (.int .i64 (((things aa).length : Nat) : Int))), (98, .v (.int .i64 ((k : Nat) : Int))), (114, .v (.bool false))] 0 (panicFree_then (panicFree_block (panicFree_then (panicFree_then (panicFree_block (panicFree_then (panicFree_block (panicFree_then panicFree_body)))))))) (fun _ h => h.cells) fo fl fun nw cu => ?_
     clear fl
     refine anyC_done kz ?_ _
     refine then_normal ?_
     refine cond_false cu (b := false) kz rfl ?_
     refine wp_skip ?_
     refine block_normal ?_
     refine then_normal ?_
     refine go_region [0, 1] kz ?_
     refine go_rn [0, 1] [] [(1, .v (.int .i64 v)), (2, .v (.bool flex)), (9, .p 2 0), (14, .v (.slice ae ((things aa).length) af)), (15, .p 3 0), (97, .v (.int .i64 (((things aa).length : Nat) : Int))), (98, .v (.int .i64 (IntKind.i64.wrap (((k : Nat) : Int) + 1))))] cr cu fun nx fq => ?_
     clear cu
     refine wpOps_nil (then_normal ?_)
     have g7 : IntKind.i64.wrap (((k : Nat) : Int) + 1) = ((k + 1 : Nat) : Int) := wrap_succ (by omega)
     rw [g7] at fq
     exact ⟨(things aa).length - (k + 1), by omega, k + 1, rfl, by omega, fq.pk, cr, ((gX.trans gY).trans fm)⟩
    ·
     have ko := of_decide_eq_false bY
     refine wp_exit ?_
     refine then_exit ?_
     refine then_exit ?_
     refine block_exit ?_
     refine then_normal ?_
     refine go_sp [(10, .v (.bool true))] ay aL fun ny g8 => ?_
     clear aL
     refine wp_ret ?_
     refine block_ret ?_
     refine then_ret ?_
     refine leave g8 ay.cells (v := .bool true) kz ?_
     exact ⟨rfl, ay.step⟩
theorem sTold1 {v : Int} {flex : Bool} {T : List Fld → Tree → Tree → Prop} (hT : ToOK v flex T) (cf : List Value) (f : Fld) (ct : List Value) (t : Tree) (cg : List Value) (g : Tree) (w : World) (F : Nat → Nat → Prop) (hf : FldR w F cf f) (hpl : f.plain) (ht : TreeR w F ct t) (hg : TreeR w F cg g) (hQ : ToF T v f t g) :
  Calls Tryd.prog 45 #[.agg cf.toArray, .int .i64 v, .bool flex, .agg ct.toArray, .agg cg.toArray] w (Gives w (.bool true)) := by
 by_cases h : f.kind = 11
 ·exact sTold11 hT cf f ct t cg g w F hf hpl h ht hg hQ
 ·exact sTold0 hT cf f ct t cg g w F hf (plain_sub hpl) h ht hg hQ.1
set_option maxHeartbeats 4000000 in
theorem sToldS {v : Int} {flex : Bool} {T : List Fld → Tree → Tree → Prop} {U : List Fld → Tree → Prop} (hT : ToOK v flex T) (hU : UsOK U) (A : Option Addr) (c : Nat) (l : List Fld) (ct : List Value) (t : Tree) (cg : List Value) (g : Tree) (w : World) (F : Nat → Nat → Prop) (hl : FldsR w F A c l) (ht : TreeR w F ct t) (hg : TreeR w F cg g) (hpl : plains l) (hP : ToP T U l v flex t g) :
  Calls Tryd.prog 18 #[.slice A l.length c, .int .i64 v, .bool flex, .agg ct.toArray, .agg cg.toArray] w (Gives w (.bool true)) := by
 obtain ⟨xfs, h1, h2⟩ := hl.ex
 have hsm := h1.small
 obtain ⟨n1, s2, b3, l4, u5, A6, c7, A8, c9, bT, bU, jM, rfl, rfl, jN, jO, mF, jP⟩ := ht.open_
 have iN := jN.small
 have iO := jO.small
 obtain ⟨di, dj, dl, aG, aB, dp, dq, bV, ce, bW, cm, jQ, rfl, rfl, jR, ib, iP, jS⟩ := hg.open_
 have iQ := jR.small
 have iR := ib.small
 have hlen : aG.length = l.length := hP.1
 have hgu : aB = if flex = true then wholeU (unknownT l u5) else [] := hP.2.2
 obtain ⟨jT, iS, jU⟩ := jS.ex
 have iT := iS.small
 refine enter (n := 120) Tryd.func18 rfl Tryd.ntmps18 kz fun a hE => ?_
 have hW := WOk.start w Nil
 refine go_seq_region [0, 1, 2] kz ?_
 refine of_op (wpOp_box hW hE (d := 8) (cs := [.int .i64 n1, .slice A6 s2.length c7, .bool b3, .slice A8 l4.length c9, .slice bT u5.length bU]) kz fun dF mG mH jV jW jX fY fZ => ?_)
 clear hE hW
 refine of_op (wpOp_box fY fZ (d := 9) (cs := [.int .i64 di, .slice dp dj.length dq, .bool dl, .slice bV aG.length ce, .slice bW aB.length cm]) kz fun dG mI mJ jY jZ j0 bB f5 => ?_)
 clear fZ fY
 refine go_rn [2] [] [(0, .v (.slice A l.length c)), (1, .v (.int .i64 v)), (2, .v (.bool flex)), (8, .p 0 0), (9, .p 1 0)] bB f5 fun mK f8 => ?_
 clear f5
 refine wpOps_nil (then_normal ?_)
 refine wp_seq ?_
 refine go_sp [(0, .v (.slice A l.length c)), (1, .v (.int .i64 v)), (2, .v (.bool flex)), (8, .p 0 0), (9, .p 1 0), (22, .v (.bool (((aG.length : Nat) : Int) != ((l.length : Nat) : Int))))] bB f8 fun mL cq => ?_
 clear f8
 refine cond_of cq (b := ((aG.length : Nat) : Int) != ((l.length : Nat) : Int)) kz (fun fL => ?_) (fun fL => ?_)
 ·
  have j1 : ((aG.length : Nat) : Int) ≠ ((l.length : Nat) : Int) := by simpa using fL
  refine go_sp [(10, .v (.bool false))] bB cq fun mM ic => ?_
  clear cq
  refine wp_ret ?_
  refine then_ret ?_
  refine leave ic bB.cells (v := .bool false) kz ?_
  first
   | (exfalso; omega)
   | exact (told_len hgu (by assumption) (by assumption)).elim
   | exact (told_len0 hgu (by assumption) (by assumption)).elim
   | exact (told_key hgu (by assumption) (by assumption) (by assumption) (by assumption)).elim
   | exact (told_val hgu (by assumption) (by assumption) (by assumption) (by assumption)).elim
   | (exfalso; simp_all; done)
 ·
  have j2 : ((aG.length : Nat) : Int) = ((l.length : Nat) : Int) := by simpa using fL
  refine wp_skip ?_
  refine then_normal ?_
  refine wp_seq ?_
  refine go_sp [(0, .v (.slice A l.length c)), (1, .v (.int .i64 v)), (2, .v (.bool flex)), (8, .p 0 0), (9, .p 1 0), (23, .v (.slice A l.length c)), (24, .v (.int .i64 ((l.length : Nat) : Int))), (25, .v (.int .i64 0))] bB cq fun mN f9 => ?_
  clear cq
  refine wp_block ?_
  refine wp_loop_ghost (fun n_ a_ w_ => ∃ (k : Nat), n_ = l.length - k ∧ k ≤ l.length ∧ LInv bB 120 [⟨dF, 0, [.int .i64 n1, .slice A6 s2.length c7, .bool b3, .slice A8 l4.length c9, .slice bT u5.length bU], true⟩, ⟨dG, 0, [.int .i64 di, .slice dp dj.length dq, .bool dl, .slice bV aG.length ce, .slice bW aB.length cm], true⟩] [] [(0, .v (.slice A l.length c)), (1, .v (.int .i64 v)), (2, .v (.bool flex)), (8, .p 0 0), (9, .p 1 0), (23, .v (.slice A l.length c)), (24, .v (.int .i64 ((l.length : Nat) : Int))), (25, .v (.int .i64 ((k : Nat) : Int)))] a_ w_) (l.length) ⟨0, by omega, by omega, f9.pk, bB, Fr.refl _ _ _⟩ ?_
  clear f9
  rintro mO mQ mR ⟨k, j3, j4, ga, ax, fM⟩
  refine go_sp [(0, .v (.slice A l.length c)), (1, .v (.int .i64 v)), (2, .v (.bool flex)), (8, .p 0 0), (9, .p 1 0), (23, .v (.slice A l.length c)), (24, .v (.int .i64 ((l.length : Nat) : Int))), (25, .v (.int .i64 ((k : Nat) : Int))), (26, .v (.bool (decide (((k : Nat) : Int) < ((l.length : Nat) : Int)))))] ax ga fun mS cr => ?_
  clear ga
  refine wp_seq ?_
  refine cond_of cr (b := decide (((k : Nat) : Int) < ((l.length : Nat) : Int))) kz (fun fN => ?_) (fun fN => ?_)
  ·
   have j5 := of_decide_eq_true fN
   refine wp_skip ?_
   refine then_normal ?_
   refine wp_seq ?_
   refine wp_block ?_
   refine go_seq_region [0, 1, 2, 3, 4, 5] kz ?_
   refine go_rn [0] [1, 2, 3, 4, 5] [(0, .v (.slice A l.length c)), (1, .v (.int .i64 v)), (2, .v (.bool flex)), (8, .p 0 0), (9, .p 1 0), (23, .v (.slice A l.length c)), (24, .v (.int .i64 ((l.length : Nat) : Int))), (25, .v (.int .i64 ((k : Nat) : Int))), (27, .v (.int .i64 ((k : Nat) : Int)))] ax cr fun mT gb => ?_
   clear cr
   obtain ⟨j6, j7, ig, j8, dH⟩ := Slots.get h1 (i := k) (by first | omega | (have h_ := told_idx hgu (by assumption); omega))
   obtain ⟨j9, cu⟩ : ∃ x, l[k]? = some x := ⟨_, List.getElem?_eq_getElem (by omega)⟩
   have bC := h2 k j9 cu
   obtain ⟨aj, ak, al, am, ag, ao, aa, ab, ap, ar, iU, rfl, cw, ii, ka⟩ := bC.open_
   rw [cw] at bC
   have ij := ii.small
   rw [cw] at dH
   refine of_op (wpOp_index gb (t := 29) (A := A) (m := l.length) (q := ((k : Nat) : Int)) (d := 28) kz (e := 56) (size := 8) (bytes := 80) kz ig rfl (by first | omega | (have h_ := told_idx hgu (by assumption); omega)) fun kd dI => ?_)
   clear gb
   refine of_op (wpOp_load dI (t := 56) (b := j6) (o := j7 + k * 8) (d := 29) kz (cs := [.int .i64 aj, .int .i64 ak, .int .i64 al, .int .i64 am, .int .i64 ag, .int .i64 ao, .int .i64 aa, .slice ap ab.length ar]) (v := .agg #[.int .i64 aj, .int .i64 ak, .int .i64 al, .int .i64 am, .int .i64 ag, .int .i64 ao, .int .i64 aa, .slice ap ab.length ar]) kz (AtF.move dH ax.step nilM keepF).at_ fun ke dJ => ?_)
   clear dI
   refine of_op (wpOp_alloc ax dJ (d := 12) (cs := [.int .i64 0, .int .i64 0, .int .i64 0, .int .i64 0, .int .i64 0, .int .i64 0, .int .i64 0, .slice none 0 0]) kz fun ik kf kg iV iW cz cA dK => ?_)
   clear dJ ax
   refine go_rn [4] [5] [(0, .v (.slice A l.length c)), (1, .v (.int .i64 v)), (2, .v (.bool flex)), (8, .p 0 0), (9, .p 1 0), (11, .v (.int .i64 ((k : Nat) : Int))), (12, .p 2 0), (23, .v (.slice A l.length c)), (24, .v (.int .i64 ((l.length : Nat) : Int))), (25, .v (.int .i64 ((k : Nat) : Int))), (29, .v (.agg #[.int .i64 aj, .int .i64 ak, .int .i64 al, .int .i64 am, .int .i64 ag, .int .i64 ao, .int .i64 aa, .slice ap ab.length ar]))] cA dK fun kh dL => ?_
   clear dK
   refine of_op (wpOp_store cA dL (oi := 2) (cs := [.int .i64 aj, .int .i64 ak, .int .i64 al, .int .i64 am, .int .i64 ag, .int .i64 ao, .int .i64 aa, .slice ap ab.length ar]) kz fun ki cB aH dM => ?_)
   clear dL cA
   refine wpOps_nil (then_normal ?_)
   refine go_seq_region [0, 1, 2, 3, 4] kz ?_
   refine go_rn [0, 1] [2, 3, 4] [(0, .v (.slice A l.length c)), (1, .v (.int .i64 v)), (2, .v (.bool flex)), (8, .p 0 0), (9, .p 1 0), (11, .v (.int .i64 ((k : Nat) : Int))), (12, .p 2 0), (23, .v (.slice A l.length c)), (24, .v (.int .i64 ((l.length : Nat) : Int))), (25, .v (.int .i64 ((k : Nat) : Int))), (30, .v (.agg #[.int .i64 n1, .slice A6 s2.length c7, .bool b3, .slice A8 l4.length c9, .slice bT u5.length bU])), (31, .v (.int .i64 ((k : Nat) : Int)))] aH dM fun kj dN => ?_
   clear dM
   refine of_op (wpOp_call dN (f := 42) (vs := [.agg #[.int .i64 n1, .slice A6 s2.length c7, .bool b3, .slice A8 l4.length c9, .slice bT u5.length bU], .int .i64 ((k : Nat) : Int)]) (d := 32) kz Tryd.call42 (sAt _ _ k _ _ (ht.move aH.step nilM aH.imm)) ?_)
   rintro e_ km ⟨iX, rfl, gc, aL⟩
   have aM := gc.move aL nilM (fun b o h_ hb_ => aH.laid (G := F) aL b o (.inl h_) (Nat.lt_of_lt_of_le hb_ aL.size))
   obtain ⟨aN, aO, aP, aQ, aR, aS, aT, aU, aV, aW, aX, iY, iZ, cC, il, im, ko, kp⟩ := aM.open_
   rw [cC] at aM
   have io := il.small
   have ip := im.small
   rw [cC]
   refine ⟨_, rfl, fun kq dO => ?_⟩
   have dP := aH.next_nil aL
   have cD := aH.frN aL
   clear dN
   refine of_op (wpOp_alloc dP dO (d := 13) (cs := [.int .i64 0, .slice none 0 0, .bool false, .slice none 0 0, .slice none 0 0]) kz fun iq ku kv i6 i7 ay dQ dR => ?_)
   clear dO dP
   refine of_op (wpOp_store dQ dR (oi := 3) (cs := [.int .i64 aN, .slice aS aO.length aT, .bool aP, .slice aU aQ.length aV, .slice aW aR.length aX]) kz fun kw az ac dS => ?_)
   clear dR dQ
   refine wpOps_nil (then_normal ?_)
   refine wp_seq ?_
   refine wp_seq (wp_join (Mid := fun a_ w_ => LInv ac 120 [⟨dF, 0, [.int .i64 n1, .slice A6 s2.length c7, .bool b3, .slice A8 l4.length c9, .slice bT u5.length bU], true⟩, ⟨dG, 0, [.int .i64 di, .slice dp dj.length dq, .bool dl, .slice bV aG.length ce, .slice bW aB.length cm], true⟩, ⟨ik, 0, [.int .i64 aj, .int .i64 ak, .int .i64 al, .int .i64 am, .int .i64 ag, .int .i64 ao, .int .i64 aa, .slice ap ab.length ar], true⟩, ⟨iq, 0, [.int .i64 aN, .slice aS aO.length aT, .bool aP, .slice aU aQ.length aV, .slice aW aR.length aX], true⟩] [] [(0, .v (.slice A l.length c)), (1, .v (.int .i64 v)), (2, .v (.bool flex)), (8, .p 0 0), (9, .p 1 0), (11, .v (.int .i64 ((k : Nat) : Int))), (12, .p 2 0), (13, .p 3 0), (23, .v (.slice A l.length c)), (24, .v (.int .i64 ((l.length : Nat) : Int))), (25, .v (.int .i64 ((k : Nat) : Int))), (54, .v (.bool (Fld.pres (Fld.mk aj ak al am ag ao aa ab) v flex (Tree.at_ (Tree.mk n1 s2 b3 l4 u5) k))))] a_ w_) ?_ ?_)
   ·
    refine go_region [0, 1, 2, 3, 4, 5, 6, 7, 8, 9, 10, 11, 12, 13, 14, 15, 16, 17, 18, 19, 20, 21] kz ?_
    refine go_rn [0, 1, 2, 3] [4, 5, 6, 7, 8, 9, 10, 11, 12, 13, 14, 15, 16, 17, 18, 19, 20, 21] [(0, .v (.slice A l.length c)), (1, .v (.int .i64 v)), (2, .v (.bool flex)), (8, .p 0 0), (9, .p 1 0), (11, .v (.int .i64 ((k : Nat) : Int))), (12, .p 2 0), (13, .p 3 0), (23, .v (.slice A l.length c)), (24, .v (.int .i64 ((l.length : Nat) : Int))), (25, .v (.int .i64 ((k : Nat) : Int))), (36, .v (.bool (decide (ag < 0))))] ac dS fun kx bG => ?_
    clear dS
    refine (Bool.eq_false_or_eq_true (decide (ag < 0))).elim (fun aY => ?_) (fun aY => ?_)
    ·
     have ja := of_decide_eq_true aY
     have dT := bG.cast (env' := [(0, .v (.slice A l.length c)), (1, .v (.int .i64 v)), (2, .v (.bool flex)), (8, .p 0 0), (9, .p 1 0), (11, .v (.int .i64 ((k : Nat) : Int))), (12, .p 2 0), (13, .p 3 0), (23, .v (.slice A l.length c)), (24, .v (.int .i64 ((l.length : Nat) : Int))), (25, .v (.int .i64 ((k : Nat) : Int))), (36, .v (.bool true))]) (by rw [aY])
     clear bG
     refine go_rn [4, 5] [6, 7, 8, 9, 10, 11, 12, 13, 14, 15, 16, 17, 18, 19, 20, 21] [(0, .v (.slice A l.length c)), (1, .v (.int .i64 v)), (2, .v (.bool flex)), (8, .p 0 0), (9, .p 1 0), (11, .v (.int .i64 ((k : Nat) : Int))), (12, .p 2 0), (13, .p 3 0), (23, .v (.slice A l.length c)), (24, .v (.int .i64 ((l.length : Nat) : Int))), (25, .v (.int .i64 ((k : Nat) : Int))), (36, .v (.bool true)), (37, .v (.agg #[.int .i64 aj, .int .i64 ak, .int .i64 al, .int .i64 am, .int .i64 ag, .int .i64 ao, .int .i64 aa, .slice ap ab.length ar])), (38, .v (.int .i64 v))] ac dT fun ky dU => ?_
     clear dT
     refine of_op (wpOp_call dU (f := 43) (vs := [.agg #[.int .i64 aj, .int .i64 ak, .int .i64 al, .int .i64 am, .int .i64 ag, .int .i64 ao, .int .i64 aa, .slice ap ab.length ar], .int .i64 v]) (d := 39) kz Tryd.call43 (sHas aj ak al am ag ao aa ab _ _ v _) ?_)
     rintro e_ kA ⟨rfl, dV⟩
     refine ⟨_, rfl, fun kB dW => ?_⟩
     have ae := ac.next_nil dV
     have aI := ac.frN dV
     clear dU
     refine go_rn [7, 8] [9, 10, 11, 12, 13, 14, 15, 16, 17, 18, 19, 20, 21] [(0, .v (.slice A l.length c)), (1, .v (.int .i64 v)), (2, .v (.bool flex)), (8, .p 0 0), (9, .p 1 0), (11, .v (.int .i64 ((k : Nat) : Int))), (12, .p 2 0), (13, .p 3 0), (23, .v (.slice A l.length c)), (24, .v (.int .i64 ((l.length : Nat) : Int))), (25, .v (.int .i64 ((k : Nat) : Int))), (41, .v (.bool (Fld.has (Fld.mk aj ak al am ag ao aa ab) v)))] ae dW fun kC bH => ?_
     clear dW
     refine (Bool.eq_false_or_eq_true (Fld.has (Fld.mk aj ak al am ag ao aa ab) v)).elim (fun cE => ?_) (fun cE => ?_)
     ·
      have dX := bH.cast (env' := [(0, .v (.slice A l.length c)), (1, .v (.int .i64 v)), (2, .v (.bool flex)), (8, .p 0 0), (9, .p 1 0), (11, .v (.int .i64 ((k : Nat) : Int))), (12, .p 2 0), (13, .p 3 0), (23, .v (.slice A l.length c)), (24, .v (.int .i64 ((l.length : Nat) : Int))), (25, .v (.int .i64 ((k : Nat) : Int))), (41, .v (.bool true))]) (by rw [cE])
      clear bH
      refine go_rn [9, 10, 11, 12, 13, 14, 15, 16, 17, 18, 19, 20, 21] [] [(0, .v (.slice A l.length c)), (1, .v (.int .i64 v)), (2, .v (.bool flex)), (8, .p 0 0), (9, .p 1 0), (11, .v (.int .i64 ((k : Nat) : Int))), (12, .p 2 0), (13, .p 3 0), (23, .v (.slice A l.length c)), (24, .v (.int .i64 ((l.length : Nat) : Int))), (25, .v (.int .i64 ((k : Nat) : Int))), (54, .v (.bool true))] ae dX fun kD gd => ?_
      clear dX
      refine wpOps_nil (then_normal ?_)
      have hp_ : Fld.pres (Fld.mk aj ak al am ag ao aa ab) v flex (Tree.at_ (Tree.mk n1 s2 b3 l4 u5) k) = true := by first | (first | exact pres_a (by assumption) (by assumption) | exact pres_b (by assumption) (by assumption) (by assumption)) | (exfalso; omega)
      exact ⟨(gd.pk (env' := [(0, .v (.slice A l.length c)), (1, .v (.int .i64 v)), (2, .v (.bool flex)), (8, .p 0 0), (9, .p 1 0), (11, .v (.int .i64 ((k : Nat) : Int))), (12, .p 2 0), (13, .p 3 0), (23, .v (.slice A l.length c)), (24, .v (.int .i64 ((l.length : Nat) : Int))), (25, .v (.int .i64 ((k : Nat) : Int))), (54, .v (.bool true))])).cast (by rw [hp_]), ae, aI⟩
     ·
      have dY := bH.cast (env' := [(0, .v (.slice A l.length c)), (1, .v (.int .i64 v)), (2, .v (.bool flex)), (8, .p 0 0), (9, .p 1 0), (11, .v (.int .i64 ((k : Nat) : Int))), (12, .p 2 0), (13, .p 3 0), (23, .v (.slice A l.length c)), (24, .v (.int .i64 ((l.length : Nat) : Int))), (25, .v (.int .i64 ((k : Nat) : Int))), (41, .v (.bool false))]) (by rw [cE])
      clear bH
      refine go_rn [9, 10, 11, 12] [13, 14, 15, 16, 17, 18, 19, 20, 21] [(0, .v (.slice A l.length c)), (1, .v (.int .i64 v)), (2, .v (.bool flex)), (8, .p 0 0), (9, .p 1 0), (11, .v (.int .i64 ((k : Nat) : Int))), (12, .p 2 0), (13, .p 3 0), (23, .v (.slice A l.length c)), (24, .v (.int .i64 ((l.length : Nat) : Int))), (25, .v (.int .i64 ((k : Nat) : Int))), (41, .v (.bool false)), (45, .v (.bool (decide (ag ≥ 0))))] ae dY fun kE bI => ?_
      clear dY
      refine (Bool.eq_false_or_eq_true (decide (ag ≥ 0))).elim (fun aZ => ?_) (fun aZ => ?_)
      ·
       have jb := of_decide_eq_true aZ
       have dZ := bI.cast (env' := [(0, .v (.slice A l.length c)), (1, .v (.int .i64 v)), (2, .v (.bool flex)), (8, .p 0 0), (9, .p 1 0), (11, .v (.int .i64 ((k : Nat) : Int))), (12, .p 2 0), (13, .p 3 0), (23, .v (.slice A l.length c)), (24, .v (.int .i64 ((l.length : Nat) : Int))), (25, .v (.int .i64 ((k : Nat) : Int))), (41, .v (.bool false)), (45, .v (.bool true))]) (by rw [aZ])
       clear bI
       refine go_rn [13, 14, 15] [16, 17, 18, 19, 20, 21] [(0, .v (.slice A l.length c)), (1, .v (.int .i64 v)), (2, .v (.bool flex)), (8, .p 0 0), (9, .p 1 0), (11, .v (.int .i64 ((k : Nat) : Int))), (12, .p 2 0), (13, .p 3 0), (23, .v (.slice A l.length c)), (24, .v (.int .i64 ((l.length : Nat) : Int))), (25, .v (.int .i64 ((k : Nat) : Int))), (41, .v (.bool false)), (48, .v (.bool flex))] ae dZ fun kF bJ => ?_
       clear dZ
       refine (Bool.eq_false_or_eq_true (flex)).elim (fun ba => ?_) (fun ba => ?_)
       ·
        have d5 := bJ.cast (env' := [(0, .v (.slice A l.length c)), (1, .v (.int .i64 v)), (2, .v (.bool true)), (8, .p 0 0), (9, .p 1 0), (11, .v (.int .i64 ((k : Nat) : Int))), (12, .p 2 0), (13, .p 3 0), (23, .v (.slice A l.length c)), (24, .v (.int .i64 ((l.length : Nat) : Int))), (25, .v (.int .i64 ((k : Nat) : Int))), (41, .v (.bool false)), (48, .v (.bool true))]) (by rw [ba])
        clear bJ
        refine go_rn [16, 17] [18, 19, 20, 21] [(0, .v (.slice A l.length c)), (1, .v (.int .i64 v)), (2, .v (.bool true)), (8, .p 0 0), (9, .p 1 0), (11, .v (.int .i64 ((k : Nat) : Int))), (12, .p 2 0), (13, .p 3 0), (23, .v (.slice A l.length c)), (24, .v (.int .i64 ((l.length : Nat) : Int))), (25, .v (.int .i64 ((k : Nat) : Int))), (41, .v (.bool false)), (48, .v (.bool true)), (49, .v (.agg #[.int .i64 aj, .int .i64 ak, .int .i64 al, .int .i64 am, .int .i64 ag, .int .i64 ao, .int .i64 aa, .slice ap ab.length ar])), (50, .v (.agg #[.int .i64 aN, .slice aS aO.length aT, .bool aP, .slice aU aQ.length aV, .slice aW aR.length aX]))] ae d5 fun kG d6 => ?_
        clear d5
        refine of_op (wpOp_call d6 (f := 44) (vs := [.agg #[.int .i64 aj, .int .i64 ak, .int .i64 al, .int .i64 am, .int .i64 ag, .int .i64 ao, .int .i64 aa, .slice ap ab.length ar], .agg #[.int .i64 aN, .slice aS aO.length aT, .bool aP, .slice aU aQ.length aV, .slice aW aR.length aX]]) (d := 51) kz Tryd.call44 (sUsual _ _ _ _ _ _ _ (bC.move ae.step nilM ae.imm) (Nat.le_refl _) (aM.move ((ay.trans az).trans aI).step immM ((ay.trans az).trans aI).to')) ?_)
        rintro e_ kH ⟨rfl, d7⟩
        refine ⟨_, rfl, fun kI d8 => ?_⟩
        have d9 := ae.next_nil d7
        have ge := ae.frN d7
        clear d6 ae
        refine go_rn [19, 20, 21] [] [(0, .v (.slice A l.length c)), (1, .v (.int .i64 v)), (2, .v (.bool true)), (8, .p 0 0), (9, .p 1 0), (11, .v (.int .i64 ((k : Nat) : Int))), (12, .p 2 0), (13, .p 3 0), (23, .v (.slice A l.length c)), (24, .v (.int .i64 ((l.length : Nat) : Int))), (25, .v (.int .i64 ((k : Nat) : Int))), (54, .v (.bool (!(Fld.usual (Fld.mk aj ak al am ag ao aa ab) (Tree.at_ (Tree.mk n1 s2 b3 l4 u5) k)))))] d9 d8 fun kJ gg => ?_
        clear d8
        refine wpOps_nil (then_normal ?_)
        have hp_ : Fld.pres (Fld.mk aj ak al am ag ao aa ab) v flex (Tree.at_ (Tree.mk n1 s2 b3 l4 u5) k) = !(Fld.usual (Fld.mk aj ak al am ag ao aa ab) (Tree.at_ (Tree.mk n1 s2 b3 l4 u5) k)) := by first | (first | exact pres_f (by assumption) (by assumption) | exact pres_g (by assumption)) | (exfalso; omega)
        exact ⟨(gg.pk (env' := [(0, .v (.slice A l.length c)), (1, .v (.int .i64 v)), (2, .v (.bool true)), (8, .p 0 0), (9, .p 1 0), (11, .v (.int .i64 ((k : Nat) : Int))), (12, .p 2 0), (13, .p 3 0), (23, .v (.slice A l.length c)), (24, .v (.int .i64 ((l.length : Nat) : Int))), (25, .v (.int .i64 ((k : Nat) : Int))), (54, .v (.bool (!(Fld.usual (Fld.mk aj ak al am ag ao aa ab) (Tree.at_ (Tree.mk n1 s2 b3 l4 u5) k)))))])).cast (by rw [hp_, ba]), d9, (aI.trans ge)⟩
       ·
        have ea := bJ.cast (env' := [(0, .v (.slice A l.length c)), (1, .v (.int .i64 v)), (2, .v (.bool false)), (8, .p 0 0), (9, .p 1 0), (11, .v (.int .i64 ((k : Nat) : Int))), (12, .p 2 0), (13, .p 3 0), (23, .v (.slice A l.length c)), (24, .v (.int .i64 ((l.length : Nat) : Int))), (25, .v (.int .i64 ((k : Nat) : Int))), (41, .v (.bool false)), (48, .v (.bool false))]) (by rw [ba])
        clear bJ
        refine go_rn [16, 17, 18, 19, 20, 21] [] [(0, .v (.slice A l.length c)), (1, .v (.int .i64 v)), (2, .v (.bool false)), (8, .p 0 0), (9, .p 1 0), (11, .v (.int .i64 ((k : Nat) : Int))), (12, .p 2 0), (13, .p 3 0), (23, .v (.slice A l.length c)), (24, .v (.int .i64 ((l.length : Nat) : Int))), (25, .v (.int .i64 ((k : Nat) : Int))), (54, .v (.bool false))] ae ea fun kK gh => ?_
        clear ea
        refine wpOps_nil (then_normal ?_)
        have hp_ : Fld.pres (Fld.mk aj ak al am ag ao aa ab) v flex (Tree.at_ (Tree.mk n1 s2 b3 l4 u5) k) = false := by first | (first | exact pres_c (by assumption) (by assumption) | exact pres_d (by assumption) (by assumption) | exact pres_e (by assumption) (by assumption)) | (exfalso; omega)
        exact ⟨(gh.pk (env' := [(0, .v (.slice A l.length c)), (1, .v (.int .i64 v)), (2, .v (.bool false)), (8, .p 0 0), (9, .p 1 0), (11, .v (.int .i64 ((k : Nat) : Int))), (12, .p 2 0), (13, .p 3 0), (23, .v (.slice A l.length c)), (24, .v (.int .i64 ((l.length : Nat) : Int))), (25, .v (.int .i64 ((k : Nat) : Int))), (54, .v (.bool false))])).cast (by rw [hp_, ba]), ae, aI⟩
      ·
       have jc := of_decide_eq_false aZ
       have eb := bI.cast (env' := [(0, .v (.slice A l.length c)), (1, .v (.int .i64 v)), (2, .v (.bool flex)), (8, .p 0 0), (9, .p 1 0), (11, .v (.int .i64 ((k : Nat) : Int))), (12, .p 2 0), (13, .p 3 0), (23, .v (.slice A l.length c)), (24, .v (.int .i64 ((l.length : Nat) : Int))), (25, .v (.int .i64 ((k : Nat) : Int))), (41, .v (.bool false)), (45, .v (.bool false))]) (by rw [aZ])
       clear bI
       refine go_rn [13, 14, 15, 16, 17, 18, 19, 20, 21] [] [(0, .v (.slice A l.length c)), (1, .v (.int .i64 v)), (2, .v (.bool flex)), (8, .p 0 0), (9, .p 1 0), (11, .v (.int .i64 ((k : Nat) : Int))), (12, .p 2 0), (13, .p 3 0), (23, .v (.slice A l.length c)), (24, .v (.int .i64 ((l.length : Nat) : Int))), (25, .v (.int .i64 ((k : Nat) : Int))), (54, .v (.bool false))] ae eb fun kL gi => ?_
       clear eb
       refine wpOps_nil (then_normal ?_)
       have hp_ : Fld.pres (Fld.mk aj ak al am ag ao aa ab) v flex (Tree.at_ (Tree.mk n1 s2 b3 l4 u5) k) = false := by first | (first | exact pres_c (by assumption) (by assumption) | exact pres_d (by assumption) (by assumption) | exact pres_e (by assumption) (by assumption)) | (exfalso; omega)
       exact ⟨(gi.pk (env' := [(0, .v (.slice A l.length c)), (1, .v (.int .i64 v)), (2, .v (.bool flex)), (8, .p 0 0), (9, .p 1 0), (11, .v (.int .i64 ((k : Nat) : Int))), (12, .p 2 0), (13, .p 3 0), (23, .v (.slice A l.length c)), (24, .v (.int .i64 ((l.length : Nat) : Int))), (25, .v (.int .i64 ((k : Nat) : Int))), (54, .v (.bool false))])).cast (by rw [hp_]), ae, aI⟩
    ·
     have jd := of_decide_eq_false aY
     have ec := bG.cast (env' := [(0, .v (.slice A l.length c)), (1, .v (.int .i64 v)), (2, .v (.bool flex)), (8, .p 0 0), (9, .p 1 0), (11, .v (.int .i64 ((k : Nat) : Int))), (12, .p 2 0), (13, .p 3 0), (23, .v (.slice A l.length c)), (24, .v (.int .i64 ((l.length : Nat) : Int))), (25, .v (.int .i64 ((k : Nat) : Int))), (36, .v (.bool false))]) (by rw [aY])
     clear bG
     refine go_rn [4, 5, 6, 7, 8, 9, 10, 11, 12] [13, 14, 15, 16, 17, 18, 19, 20, 21] [(0, .v (.slice A l.length c)), (1, .v (.int .i64 v)), (2, .v (.bool flex)), (8, .p 0 0), (9, .p 1 0), (11, .v (.int .i64 ((k : Nat) : Int))), (12, .p 2 0), (13, .p 3 0), (23, .v (.slice A l.length c)), (24, .v (.int .i64 ((l.length : Nat) : Int))), (25, .v (.int .i64 ((k : Nat) : Int))), (41, .v (.bool false)), (45, .v (.bool (decide (ag ≥ 0))))] ac ec fun kM bK => ?_
     clear ec
     refine (Bool.eq_false_or_eq_true (decide (ag ≥ 0))).elim (fun bd => ?_) (fun bd => ?_)
     ·
      have je := of_decide_eq_true bd
      have ee := bK.cast (env' := [(0, .v (.slice A l.length c)), (1, .v (.int .i64 v)), (2, .v (.bool flex)), (8, .p 0 0), (9, .p 1 0), (11, .v (.int .i64 ((k : Nat) : Int))), (12, .p 2 0), (13, .p 3 0), (23, .v (.slice A l.length c)), (24, .v (.int .i64 ((l.length : Nat) : Int))), (25, .v (.int .i64 ((k : Nat) : Int))), (41, .v (.bool false)), (45, .v (.bool true))]) (by rw [bd])
      clear bK
      refine go_rn [13, 14, 15] [16, 17, 18, 19, 20, 21] [(0, .v (.slice A l.length c)), (1, .v (.int .i64 v)), (2, .v (.bool flex)), (8, .p 0 0), (9, .p 1 0), (11, .v (.int .i64 ((k : Nat) : Int))), (12, .p 2 0), (13, .p 3 0), (23, .v (.slice A l.length c)), (24, .v (.int .i64 ((l.length : Nat) : Int))), (25, .v (.int .i64 ((k : Nat) : Int))), (41, .v (.bool false)), (48, .v (.bool flex))] ac ee fun kN bL => ?_
      clear ee
      refine (Bool.eq_false_or_eq_true (flex)).elim (fun bf => ?_) (fun bf => ?_)
      ·
       have ef := bL.cast (env' := [(0, .v (.slice A l.length c)), (1, .v (.int .i64 v)), (2, .v (.bool true)), (8, .p 0 0), (9, .p 1 0), (11, .v (.int .i64 ((k : Nat) : Int))), (12, .p 2 0), (13, .p 3 0), (23, .v (.slice A l.length c)), (24, .v (.int .i64 ((l.length : Nat) : Int))), (25, .v (.int .i64 ((k : Nat) : Int))), (41, .v (.bool false)), (48, .v (.bool true))]) (by rw [bf])
       clear bL
       refine go_rn [16, 17] [18, 19, 20, 21] [(0, .v (.slice A l.length c)), (1, .v (.int .i64 v)), (2, .v (.bool true)), (8, .p 0 0), (9, .p 1 0), (11, .v (.int .i64 ((k : Nat) : Int))), (12, .p 2 0), (13, .p 3 0), (23, .v (.slice A l.length c)), (24, .v (.int .i64 ((l.length : Nat) : Int))), (25, .v (.int .i64 ((k : Nat) : Int))), (41, .v (.bool false)), (48, .v (.bool true)), (49, .v (.agg #[.int .i64 aj, .int .i64 ak, .int .i64 al, .int .i64 am, .int .i64 ag, .int .i64 ao, .int .i64 aa, .slice ap ab.length ar])), (50, .v (.agg #[.int .i64 aN, .slice aS aO.length aT, .bool aP, .slice aU aQ.length aV, .slice aW aR.length aX]))] ac ef fun kO eg => ?_
       clear ef
       refine of_op (wpOp_call eg (f := 44) (vs := [.agg #[.int .i64 aj, .int .i64 ak, .int .i64 al, .int .i64 am, .int .i64 ag, .int .i64 ao, .int .i64 aa, .slice ap ab.length ar], .agg #[.int .i64 aN, .slice aS aO.length aT, .bool aP, .slice aU aQ.length aV, .slice aW aR.length aX]]) (d := 51) kz Tryd.call44 (sUsual _ _ _ _ _ _ _ (bC.move ac.step nilM ac.imm) (Nat.le_refl _) (aM.move (ay.trans az).step immM (ay.trans az).to')) ?_)
       rintro e_ kP ⟨rfl, eh⟩
       refine ⟨_, rfl, fun kQ ei => ?_⟩
       have ej := ac.next_nil eh
       have gj := ac.frN eh
       clear eg
       refine go_rn [19, 20, 21] [] [(0, .v (.slice A l.length c)), (1, .v (.int .i64 v)), (2, .v (.bool true)), (8, .p 0 0), (9, .p 1 0), (11, .v (.int .i64 ((k : Nat) : Int))), (12, .p 2 0), (13, .p 3 0), (23, .v (.slice A l.length c)), (24, .v (.int .i64 ((l.length : Nat) : Int))), (25, .v (.int .i64 ((k : Nat) : Int))), (54, .v (.bool (!(Fld.usual (Fld.mk aj ak al am ag ao aa ab) (Tree.at_ (Tree.mk n1 s2 b3 l4 u5) k)))))] ej ei fun kR gk => ?_
       clear ei
       refine wpOps_nil (then_normal ?_)
       have hp_ : Fld.pres (Fld.mk aj ak al am ag ao aa ab) v flex (Tree.at_ (Tree.mk n1 s2 b3 l4 u5) k) = !(Fld.usual (Fld.mk aj ak al am ag ao aa ab) (Tree.at_ (Tree.mk n1 s2 b3 l4 u5) k)) := by first | (first | exact pres_f (by assumption) (by assumption) | exact pres_g (by assumption)) | (exfalso; omega)
       exact ⟨(gk.pk (env' := [(0, .v (.slice A l.length c)), (1, .v (.int .i64 v)), (2, .v (.bool true)), (8, .p 0 0), (9, .p 1 0), (11, .v (.int .i64 ((k : Nat) : Int))), (12, .p 2 0), (13, .p 3 0), (23, .v (.slice A l.length c)), (24, .v (.int .i64 ((l.length : Nat) : Int))), (25, .v (.int .i64 ((k : Nat) : Int))), (54, .v (.bool (!(Fld.usual (Fld.mk aj ak al am ag ao aa ab) (Tree.at_ (Tree.mk n1 s2 b3 l4 u5) k)))))])).cast (by rw [hp_, bf]), ej, gj⟩
      ·
       have ek := bL.cast (env' := [(0, .v (.slice A l.length c)), (1, .v (.int .i64 v)), (2, .v (.bool false)), (8, .p 0 0), (9, .p 1 0), (11, .v (.int .i64 ((k : Nat) : Int))), (12, .p 2 0), (13, .p 3 0), (23, .v (.slice A l.length c)), (24, .v (.int .i64 ((l.length : Nat) : Int))), (25, .v (.int .i64 ((k : Nat) : Int))), (41, .v (.bool false)), (48, .v (.bool false))]) (by rw [bf])
       clear bL
       refine go_rn [16, 17, 18, 19, 20, 21] [] [(0, .v (.slice A l.length c)), (1, .v (.int .i64 v)), (2, .v (.bool false)), (8, .p 0 0), (9, .p 1 0), (11, .v (.int .i64 ((k : Nat) : Int))), (12, .p 2 0), (13, .p 3 0), (23, .v (.slice A l.length c)), (24, .v (.int .i64 ((l.length : Nat) : Int))), (25, .v (.int .i64 ((k : Nat) : Int))), (54, .v (.bool false))] ac ek fun kS gl => ?_
       clear ek
       refine wpOps_nil (then_normal ?_)
       have hp_ : Fld.pres (Fld.mk aj ak al am ag ao aa ab) v flex (Tree.at_ (Tree.mk n1 s2 b3 l4 u5) k) = false := by first | (first | exact pres_c (by assumption) (by assumption) | exact pres_d (by assumption) (by assumption) | exact pres_e (by assumption) (by assumption)) | (exfalso; omega)
       exact ⟨(gl.pk (env' := [(0, .v (.slice A l.length c)), (1, .v (.int .i64 v)), (2, .v (.bool false)), (8, .p 0 0), (9, .p 1 0), (11, .v (.int .i64 ((k : Nat) : Int))), (12, .p 2 0), (13, .p 3 0), (23, .v (.slice A l.length c)), (24, .v (.int .i64 ((l.length : Nat) : Int))), (25, .v (.int .i64 ((k : Nat) : Int))), (54, .v (.bool false))])).cast (by rw [hp_, bf]), ac, Fr.refl _ _ _⟩
     ·
      have jf := of_decide_eq_false bd
      have em := bK.cast (env' := [(0, .v (.slice A l.length c)), (1, .v (.int .i64 v)), (2, .v (.bool flex)), (8, .p 0 0), (9, .p 1 0), (11, .v (.int .i64 ((k : Nat) : Int))), (12, .p 2 0), (13, .p 3 0), (23, .v (.slice A l.length c)), (24, .v (.int .i64 ((l.length : Nat) : Int))), (25, .v (.int .i64 ((k : Nat) : Int))), (41, .v (.bool false)), (45, .v (.bool false))]) (by rw [bd])
      clear bK
      refine go_rn [13, 14, 15, 16, 17, 18, 19, 20, 21] [] [(0, .v (.slice A l.length c)), (1, .v (.int .i64 v)), (2, .v (.bool flex)), (8, .p 0 0), (9, .p 1 0), (11, .v (.int .i64 ((k : Nat) : Int))), (12, .p 2 0), (13, .p 3 0), (23, .v (.slice A l.length c)), (24, .v (.int .i64 ((l.length : Nat) : Int))), (25, .v (.int .i64 ((k : Nat) : Int))), (54, .v (.bool false))] ac em fun kT gm => ?_
      clear em
      refine wpOps_nil (then_normal ?_)
      have hp_ : Fld.pres (Fld.mk aj ak al am ag ao aa ab) v flex (Tree.at_ (Tree.mk n1 s2 b3 l4 u5) k) = false := by first | (first | exact pres_c (by assumption) (by assumption) | exact pres_d (by assumption) (by assumption) | exact pres_e (by assumption) (by assumption)) | (exfalso; omega)
      exact ⟨(gm.pk (env' := [(0, .v (.slice A l.length c)), (1, .v (.int .i64 v)), (2, .v (.bool flex)), (8, .p 0 0), (9, .p 1 0), (11, .v (.int .i64 ((k : Nat) : Int))), (12, .p 2 0), (13, .p 3 0), (23, .v (.slice A l.length c)), (24, .v (.int .i64 ((l.length : Nat) : Int))), (25, .v (.int .i64 ((k : Nat) : Int))), (54, .v (.bool false))])).cast (by rw [hp_]), ac, Fr.refl _ _ _⟩
   rintro kU kV ⟨bg, bM, bh⟩
   refine cond_of bg (b := Fld.pres (Fld.mk aj ak al am ag ao aa ab) v flex (Tree.at_ (Tree.mk n1 s2 b3 l4 u5) k)) kz (fun gn => ?_) (fun gn => ?_)
   ·
    refine wp_seq ?_
    refine go_seq_drawK 11 kz bM fun kW cG aC cH => ?_
    clear bM
    refine go_rnD [0, 1, 2, 3, 4, 5, 6] [(0, .v (.slice A l.length c)), (1, .v (.int .i64 v)), (2, .v (.bool flex)), (8, .p 0 0), (9, .p 1 0), (23, .v (.slice A l.length c)), (24, .v (.int .i64 ((l.length : Nat) : Int))), (25, .v (.int .i64 ((k : Nat) : Int))), (55, .v (.agg #[.int .i64 aj, .int .i64 ak, .int .i64 al, .int .i64 am, .int .i64 ag, .int .i64 ao, .int .i64 aa, .slice ap ab.length ar])), (56, .v (.int .i64 v)), (57, .v (.bool flex)), (58, .v (.agg #[.int .i64 aN, .slice aS aO.length aT, .bool aP, .slice aU aQ.length aV, .slice aW aR.length aX])), (60, .v (.slice bV aG.length ce)), (61, .v (.int .i64 ((k : Nat) : Int)))] 4 (panicFree_then (panicFree_then (panicFree_then (panicFree_block (panicFree_then (panicFree_then (panicFree_block (panicFree_then panicFree_body)))))))) (fun _ h => h.cells) cH bg fun kX eo => ?_
    clear bg
    obtain ⟨ir, iu, gp, jg, cI⟩ := Slots.get ib (i := k) (by first | omega | (have h_ := told_idx hgu (by assumption); omega))
    obtain ⟨iv, ep⟩ : ∃ x, aG[k]? = some x := ⟨_, List.getElem?_eq_getElem (by omega)⟩
    have cJ := iP k iv ep
    obtain ⟨dr, dt, du, dv, dw, fO, fP, fQ, fR, fS, fT, jh, rfl, cK, iw, ix, kY, kZ⟩ := cJ.open_
    rw [cK] at cJ
    have iy := iw.small
    have iz := ix.small
    rw [cK] at cI
    refine takeC_index eo (i := 7) (t := 23) (A := bV) (m := aG.length) (q := ((k : Nat) : Int)) (d := 62) kz (e := 26) (size := 5) (bytes := 88) kz gp rfl (by first | omega | (have h_ := told_idx hgu (by assumption); omega)) kz kz (panicFree_then (panicFree_then (panicFree_then (panicFree_block (panicFree_then (panicFree_then (panicFree_block (panicFree_then panicFree_body)))))))) cH fun k5 eu => ?_
    clear eo
    refine takeC_load eu (i := 8) (t := 26) (b := ir) (o := iu + k * 5) (d := 63) kz (cs := [.int .i64 dr, .slice fO dt.length fP, .bool du, .slice fQ dv.length fR, .slice fS dw.length fT]) (v := .agg #[.int .i64 dr, .slice fO dt.length fP, .bool du, .slice fQ dv.length fR, .slice fS dw.length fT]) kz (fun w' h' => (AtF.move cI (TT.step0 aC h') nilM keepF).at_) kz kz (panicFree_then (panicFree_then (panicFree_then (panicFree_block (panicFree_then (panicFree_then (panicFree_block (panicFree_then panicFree_body)))))))) cH fun k6 ev => ?_
    clear eu
    refine anyC_op (i := 9) kz (wpOp_call ev (f := 45) (vs := [.agg #[.int .i64 aj, .int .i64 ak, .int .i64 al, .int .i64 am, .int .i64 ag, .int .i64 ao, .int .i64 aa, .slice ap ab.length ar], .int .i64 v, .bool flex, .agg #[.int .i64 aN, .slice aS aO.length aT, .bool aP, .slice aU aQ.length aV, .slice aW aR.length aX], .agg #[.int .i64 dr, .slice fO dt.length fP, .bool du, .slice fQ dv.length fR, .slice fS dw.length fT]]) (d := 64) kz Tryd.call45 ( sTold1 hT _ _ _ (Tree.at_ (Tree.mk n1 s2 b3 l4 u5) k) _ (Tree.mk dr dt du dv dw) _ _ (bC.move aC.step nilM aC.imm) (plains_mem hpl (List.mem_of_getElem? cu)) (aM.move (((ay.trans az).trans bh).trans cG).step immM (((ay.trans az).trans bh).trans cG).to') (cJ.move aC.step nilM aC.imm) ((hP.2.1 k _ _ cu ep).1 (by assumption))) ?_)
    rintro e_ k7 ⟨rfl, ew⟩
    refine ⟨_, rfl, fun k8 ey => ?_⟩
    have cL := aC.next_nil ew
    have ez := aC.frN ew
    clear ev
    have eB := TT.ofW ez cL
    refine ⟨fun _ => eB, ?_⟩
    refine go_rnD [10] [(0, .v (.slice A l.length c)), (1, .v (.int .i64 v)), (2, .v (.bool flex)), (8, .p 0 0), (9, .p 1 0), (23, .v (.slice A l.length c)), (24, .v (.int .i64 ((l.length : Nat) : Int))), (25, .v (.int .i64 ((k : Nat) : Int))), (65, .v (.bool false))] 0 (panicFree_then (panicFree_then (panicFree_then (panicFree_block (panicFree_then (panicFree_then (panicFree_block (panicFree_then panicFree_body)))))))) (fun _ h => h.cells) eB ey fun k9 cM => ?_
    clear ey
    refine anyC_done kz ?_ _
    refine then_normal ?_
    refine cond_false cM (b := false) kz rfl ?_
    refine wp_skip ?_
    refine then_normal ?_
    refine wp_exit ?_
    refine then_exit ?_
    refine block_exit ?_
    refine then_normal ?_
    refine go_region [0, 1] kz ?_
    refine go_rn [0, 1] [] [(0, .v (.slice A l.length c)), (1, .v (.int .i64 v)), (2, .v (.bool flex)), (8, .p 0 0), (9, .p 1 0), (23, .v (.slice A l.length c)), (24, .v (.int .i64 ((l.length : Nat) : Int))), (25, .v (.int .i64 (IntKind.i64.wrap (((k : Nat) : Int) + 1))))] cL cM fun la gq => ?_
    clear cM
    refine wpOps_nil (then_normal ?_)
    obtain ⟨eC, gt, gv⟩ := cL.cutB gq 2 [⟨dF, 0, [.int .i64 n1, .slice A6 s2.length c7, .bool b3, .slice A8 l4.length c9, .slice bT u5.length bU], true⟩, ⟨dG, 0, [.int .i64 di, .slice dp dj.length dq, .bool dl, .slice bV aG.length ce, .slice bW aB.length cm], true⟩] [(0, .v (.slice A l.length c)), (1, .v (.int .i64 v)), (2, .v (.bool flex)), (8, .p 0 0), (9, .p 1 0), (23, .v (.slice A l.length c)), (24, .v (.int .i64 ((l.length : Nat) : Int))), (25, .v (.int .i64 (IntKind.i64.wrap (((k : Nat) : Int) + 1))))]
    have gw : IntKind.i64.wrap (((k : Nat) : Int) + 1) = ((k + 1 : Nat) : Int) := wrap_succ (by omega)
    rw [gw] at eC
    exact ⟨l.length - (k + 1), by omega, k + 1, rfl, by omega, eC.pk, gt, (((((((((fM.trans cz).trans cB).trans cD).trans ay).trans az).trans bh).trans cG).trans ez).trans gv)⟩
   ·
    refine wp_skip ?_
    refine then_normal ?_
    refine go_seq_drawK 11 kz bM fun lb eD cN cO => ?_
    clear bM
    refine go_rnD [0, 2, 3, 4] [(0, .v (.slice A l.length c)), (1, .v (.int .i64 v)), (2, .v (.bool flex)), (8, .p 0 0), (9, .p 1 0), (23, .v (.slice A l.length c)), (24, .v (.int .i64 ((l.length : Nat) : Int))), (25, .v (.int .i64 ((k : Nat) : Int))), (66, .v (.agg #[.int .i64 aj, .int .i64 ak, .int .i64 al, .int .i64 am, .int .i64 ag, .int .i64 ao, .int .i64 aa, .slice ap ab.length ar])), (69, .v (.slice bV aG.length ce)), (70, .v (.int .i64 ((k : Nat) : Int)))] 7 (panicFree_then (panicFree_block (panicFree_then (panicFree_then (panicFree_block (panicFree_then panicFree_body)))))) (fun _ h => h.cells) cO bg fun lc eE => ?_
    clear bg
    obtain ⟨iA, iB, gx, ji, cP⟩ := Slots.get ib (i := k) (by first | omega | (have h_ := told_idx hgu (by assumption); omega))
    obtain ⟨iC, cQ⟩ : ∃ x, aG[k]? = some x := ⟨_, List.getElem?_eq_getElem (by omega)⟩
    have bN := iP k iC cQ
    obtain ⟨bX, bY, bZ, b8, cd, dx, dy, dz, dA, dB, dC, jj, rfl, cR, iD, iE, ld, lf⟩ := bN.open_
    rw [cR] at bN
    have iF := iD.small
    have iG := iE.small
    rw [cR] at cP
    refine takeC_index eE (i := 5) (t := 23) (A := bV) (m := aG.length) (q := ((k : Nat) : Int)) (d := 71) kz (e := 26) (size := 5) (bytes := 88) kz gx rfl (by first | omega | (have h_ := told_idx hgu (by assumption); omega)) kz kz (panicFree_then (panicFree_block (panicFree_then (panicFree_then (panicFree_block (panicFree_then panicFree_body)))))) cO fun lg eF => ?_
    clear eE
    refine takeC_load eF (i := 6) (t := 26) (b := iA) (o := iB + k * 5) (d := 72) kz (cs := [.int .i64 bX, .slice dx bY.length dy, .bool bZ, .slice dz b8.length dA, .slice dB cd.length dC]) (v := .agg #[.int .i64 bX, .slice dx bY.length dy, .bool bZ, .slice dz b8.length dA, .slice dB cd.length dC]) kz (fun w' h' => (AtF.move cP (TT.step0 cN h') nilM keepF).at_) kz kz (panicFree_then (panicFree_block (panicFree_then (panicFree_then (panicFree_block (panicFree_then panicFree_body)))))) cO fun lh bO => ?_
    clear eF
    refine anyC_two (i := 1) (j := 7) kz ?_ ?_
    ·
     refine (wpOp_lit cN bO (e := 56) (size := 8) (len := 1) (cs := [.int .i64 aj, .int .i64 ak, .int .i64 al, .int .i64 am, .int .i64 ag, .int .i64 ao, .int .i64 aa, .slice ap ab.length ar]) (d := 67) kz kz fun gy li lj jk jl bP cS eG => ?_)
     clear bO
     have gz := TT.ofW bP cS
     refine ⟨fun _ => gz, ?_⟩
     refine anyC_op (i := 7) kz (wpOp_lit cS eG (e := 26) (size := 5) (len := 1) (cs := [.int .i64 bX, .slice dx bY.length dy, .bool bZ, .slice dz b8.length dA, .slice dB cd.length dC]) (d := 73) kz kz fun gA lm ln jm jn cT au eH => ?_)
     clear eG cS
     have eI := TT.ofW (bP.trans cT) au
     refine ⟨fun _ => eI, ?_⟩
     refine go_rnD [8] [(0, .v (.slice A l.length c)), (1, .v (.int .i64 v)), (2, .v (.bool flex)), (8, .p 0 0), (9, .p 1 0), (23, .v (.slice A l.length c)), (24, .v (.int .i64 ((l.length : Nat) : Int))), (25, .v (.int .i64 ((k : Nat) : Int))), (67, .v (.slice (some ⟨gy, 0, none⟩) 1 1)), (74, .v (.agg #[.int .i64 0, .slice none 0 0, .bool false, .slice (some ⟨gA, 0, none⟩) 1 1, .slice none 0 0]))] 2 (panicFree_then (panicFree_block (panicFree_then (panicFree_then (panicFree_block (panicFree_then panicFree_body)))))) (fun _ h => h.cells) eI eH fun lp eJ => ?_
     clear eH
     refine anyC_op (i := 9) kz (wpOp_call eJ (f := 46) (vs := [.slice (some ⟨gy, 0, none⟩) 1 1, .agg #[.int .i64 0, .slice none 0 0, .bool false, .slice (some ⟨gA, 0, none⟩) 1 1, .slice none 0 0]]) (d := 75) kz Tryd.call46 ( sUs hU _ _ [(Fld.mk aj ak al am ag ao aa ab)] _ (.mk 0 [] false [(Tree.mk bX bY bZ b8 cd)] []) _ _ (flds_one (au.own 0 _ rfl) ((bC.move au.step nilM au.imm)) (Nat.le_refl _)) (tree_one (au.own 1 _ rfl) ((bN.move au.step nilM au.imm)) (Nat.le_refl _)) (us_one ((hP.2.1 k _ _ cu cQ).2 (by assumption)))) ?_)
     rintro e_ lq ⟨rfl, eK⟩
     refine ⟨_, rfl, fun lr eL => ?_⟩
     have cU := au.next_nil eK
     have eM := au.frN eK
     clear eJ au
     have eN := TT.ofW ((bP.trans cT).trans eM) cU
     refine ⟨fun _ => eN, ?_⟩
     refine go_rnD [10] [(0, .v (.slice A l.length c)), (1, .v (.int .i64 v)), (2, .v (.bool flex)), (8, .p 0 0), (9, .p 1 0), (23, .v (.slice A l.length c)), (24, .v (.int .i64 ((l.length : Nat) : Int))), (25, .v (.int .i64 ((k : Nat) : Int))), (76, .v (.bool false))] 0 (panicFree_then (panicFree_block (panicFree_then (panicFree_then (panicFree_block (panicFree_then panicFree_body)))))) (fun _ h => h.cells) eN eL fun ls cV => ?_
     clear eL
     refine anyC_done kz ?_ _
     refine then_normal ?_
     refine cond_false cV (b := false) kz rfl ?_
     refine wp_skip ?_
     refine block_normal ?_
     refine then_normal ?_
     refine go_region [0, 1] kz ?_
     refine go_rn [0, 1] [] [(0, .v (.slice A l.length c)), (1, .v (.int .i64 v)), (2, .v (.bool flex)), (8, .p 0 0), (9, .p 1 0), (23, .v (.slice A l.length c)), (24, .v (.int .i64 ((l.length : Nat) : Int))), (25, .v (.int .i64 (IntKind.i64.wrap (((k : Nat) : Int) + 1))))] cU cV fun lu gB => ?_
     clear cV
     refine wpOps_nil (then_normal ?_)
     obtain ⟨eO, gC, gD⟩ := cU.cutB gB 2 [⟨dF, 0, [.int .i64 n1, .slice A6 s2.length c7, .bool b3, .slice A8 l4.length c9, .slice bT u5.length bU], true⟩, ⟨dG, 0, [.int .i64 di, .slice dp dj.length dq, .bool dl, .slice bV aG.length ce, .slice bW aB.length cm], true⟩] [(0, .v (.slice A l.length c)), (1, .v (.int .i64 v)), (2, .v (.bool flex)), (8, .p 0 0), (9, .p 1 0), (23, .v (.slice A l.length c)), (24, .v (.int .i64 ((l.length : Nat) : Int))), (25, .v (.int .i64 (IntKind.i64.wrap (((k : Nat) : Int) + 1))))]
     obtain ⟨gE, gF⟩ := gC.cutR 0 []
     have gG : IntKind.i64.wrap (((k : Nat) : Int) + 1) = ((k + 1 : Nat) : Int) := wrap_succ (by omega)
     rw [gG] at eO
     exact ⟨l.length - (k + 1), by omega, k + 1, rfl, by omega, eO.pk, gE, ((((((((((((fM.trans cz).trans cB).trans cD).trans ay).trans az).trans bh).trans eD).trans bP).trans cT).trans eM).trans gD).trans gF)⟩
    ·
     refine (wpOp_lit cN bO (e := 26) (size := 5) (len := 1) (cs := [.int .i64 bX, .slice dx bY.length dy, .bool bZ, .slice dz b8.length dA, .slice dB cd.length dC]) (d := 73) kz kz fun gH lv lw jo jp bQ cW eP => ?_)
     clear bO
     have eQ := TT.ofW bQ cW
     refine ⟨fun _ => eQ, ?_⟩
     refine go_rnD [8] [(0, .v (.slice A l.length c)), (1, .v (.int .i64 v)), (2, .v (.bool flex)), (8, .p 0 0), (9, .p 1 0), (23, .v (.slice A l.length c)), (24, .v (.int .i64 ((l.length : Nat) : Int))), (25, .v (.int .i64 ((k : Nat) : Int))), (66, .v (.agg #[.int .i64 aj, .int .i64 ak, .int .i64 al, .int .i64 am, .int .i64 ag, .int .i64 ao, .int .i64 aa, .slice ap ab.length ar])), (74, .v (.agg #[.int .i64 0, .slice none 0 0, .bool false, .slice (some ⟨gH, 0, none⟩) 1 1, .slice none 0 0]))] 3 (panicFree_then (panicFree_block (panicFree_then (panicFree_then (panicFree_block (panicFree_then panicFree_body)))))) (fun _ h => h.cells) eQ eP fun lx eR => ?_
     clear eP
     refine anyC_op (i := 1) kz (wpOp_lit cW eR (e := 56) (size := 8) (len := 1) (cs := [.int .i64 aj, .int .i64 ak, .int .i64 al, .int .i64 am, .int .i64 ag, .int .i64 ao, .int .i64 aa, .slice ap ab.length ar]) (d := 67) kz kz fun iH ly lz jq jr cX av eS => ?_)
     clear eR cW
     have gI := TT.ofW (bQ.trans cX) av
     refine ⟨fun _ => gI, ?_⟩
     refine anyC_op (i := 9) kz (wpOp_call eS (f := 46) (vs := [.slice (some ⟨iH, 0, none⟩) 1 1, .agg #[.int .i64 0, .slice none 0 0, .bool false, .slice (some ⟨gH, 0, none⟩) 1 1, .slice none 0 0]]) (d := 75) kz Tryd.call46 ( sUs hU _ _ [(Fld.mk aj ak al am ag ao aa ab)] _ (.mk 0 [] false [(Tree.mk bX bY bZ b8 cd)] []) _ _ (flds_one (av.own 1 _ rfl) ((bC.move av.step nilM av.imm)) (Nat.le_refl _)) (tree_one (av.own 0 _ rfl) ((bN.move av.step nilM av.imm)) (Nat.le_refl _)) (us_one ((hP.2.1 k _ _ cu cQ).2 (by assumption)))) ?_)
     rintro e_ lA ⟨rfl, eU⟩
     refine ⟨_, rfl, fun lB eV => ?_⟩
     have cY := av.next_nil eU
     have eW := av.frN eU
     clear eS av
     have eX := TT.ofW ((bQ.trans cX).trans eW) cY
     refine ⟨fun _ => eX, ?_⟩
     refine go_rnD [10] [(0, .v (.slice A l.length c)), (1, .v (.int .i64 v)), (2, .v (.bool flex)), (8, .p 0 0), (9, .p 1 0), (23, .v (.slice A l.length c)), (24, .v (.int .i64 ((l.length : Nat) : Int))), (25, .v (.int .i64 ((k : Nat) : Int))), (76, .v (.bool false))] 0 (panicFree_then (panicFree_block (panicFree_then (panicFree_then (panicFree_block (panicFree_then panicFree_body)))))) (fun _ h => h.cells) eX eV fun lC cZ => ?_
     clear eV
     refine anyC_done kz ?_ _
     refine then_normal ?_
     refine cond_false cZ (b := false) kz rfl ?_
     refine wp_skip ?_
     refine block_normal ?_
     refine then_normal ?_
     refine go_region [0, 1] kz ?_
     refine go_rn [0, 1] [] [(0, .v (.slice A l.length c)), (1, .v (.int .i64 v)), (2, .v (.bool flex)), (8, .p 0 0), (9, .p 1 0), (23, .v (.slice A l.length c)), (24, .v (.int .i64 ((l.length : Nat) : Int))), (25, .v (.int .i64 (IntKind.i64.wrap (((k : Nat) : Int) + 1))))] cY cZ fun lD gJ => ?_
     clear cZ
     refine wpOps_nil (then_normal ?_)
     obtain ⟨eY, gK, gL⟩ := cY.cutB gJ 2 [⟨dF, 0, [.int .i64 n1, .slice A6 s2.length c7, .bool b3, .slice A8 l4.length c9, .slice bT u5.length bU], true⟩, ⟨dG, 0, [.int .i64 di, .slice dp dj.length dq, .bool dl, .slice bV aG.length ce, .slice bW aB.length cm], true⟩] [(0, .v (.slice A l.length c)), (1, .v (.int .i64 v)), (2, .v (.bool flex)), (8, .p 0 0), (9, .p 1 0), (23, .v (.slice A l.length c)), (24, .v (.int .i64 ((l.length : Nat) : Int))), (25, .v (.int .i64 (IntKind.i64.wrap (((k : Nat) : Int) + 1))))]
     obtain ⟨gM, gN⟩ := gK.cutR 0 []
     have gO : IntKind.i64.wrap (((k : Nat) : Int) + 1) = ((k + 1 : Nat) : Int) := wrap_succ (by omega)
     rw [gO] at eY
     exact ⟨l.length - (k + 1), by omega, k + 1, rfl, by omega, eY.pk, gM, ((((((((((((fM.trans cz).trans cB).trans cD).trans ay).trans az).trans bh).trans eD).trans bQ).trans cX).trans eW).trans gL).trans gN)⟩
  ·
   have js := of_decide_eq_false fN
   refine wp_exit ?_
   refine then_exit ?_
   refine then_exit ?_
   refine block_exit ?_
   refine then_normal ?_
   refine go_seq_region [0, 1, 2, 3, 4] kz ?_
   refine go_rn [0, 1, 2] [3, 4] [(2, .v (.bool flex)), (9, .p 1 0), (78, .v (.slice A l.length c)), (80, .v (.slice bT u5.length bU))] ax cr fun lE eZ => ?_
   clear cr
   refine of_op (wpOp_call eZ (f := 47) (vs := [.slice A l.length c, .slice bT u5.length bU]) (d := 81) kz Tryd.call47 (sUnknown _ _ l _ _ u5 _ _ ⟨xfs, (h1.move ax.step nilM ax.imm), (fun i_ x_ h_ => ((h2 i_ x_ h_).move ax.step nilM ax.imm))⟩ (jP.move ax.step nilM ax.imm)) ?_)
   rintro e_ lF ⟨ah, ai, rfl, gP, c5⟩
   have gQ := gP.move (Step.refl _ Nil) nilM (ax.laid (G := F) c5)
   refine ⟨_, rfl, fun lG e9 => ?_⟩
   have af := ax.next_nil c5
   have jt := ax.frN c5
   clear eZ
   refine go_rn [4] [] [(2, .v (.bool flex)), (9, .p 1 0), (14, .v (.slice ah ((unknownT l u5).length) ai))] af e9 fun lH fa => ?_
   clear e9
   refine wpOps_nil (then_normal ?_)
   refine wp_seq ?_
   refine go_sp [(9, .p 1 0), (14, .v (.slice ah ((unknownT l u5).length) ai)), (83, .v (.bool (!flex)))] af fa fun lI bi => ?_
   clear fa
   refine cond_of bi (b := !flex) kz (fun gR => ?_) (fun gR => ?_)
   ·
    refine go_region [0] kz ?_
    refine go_rn [0] [] [(9, .p 1 0), (14, .v (.slice none 0 0))] af bi fun lJ fb => ?_
    clear bi
    refine wpOps_nil (then_normal ?_)
    refine wp_seq ?_
    refine go_sp [(9, .p 1 0), (14, .v (.slice none 0 0)), (89, .v (.bool (((aB.length : Nat) : Int) != 0)))] af fb fun lK bj => ?_
    clear fb
    refine cond_of bj (b := ((aB.length : Nat) : Int) != 0) kz (fun da => ?_) (fun da => ?_)
    ·
     have ju : ((aB.length : Nat) : Int) ≠ 0 := by simpa using da
     refine go_sp [(10, .v (.bool false))] af bj fun lL gS => ?_
     clear bj
     refine wp_ret ?_
     refine then_ret ?_
     refine leave gS af.cells (v := .bool false) kz ?_
     first
      | (exfalso; omega)
      | exact (told_len hgu (by assumption) (by assumption)).elim
      | exact (told_len0 hgu (by assumption) (by assumption)).elim
      | exact (told_key hgu (by assumption) (by assumption) (by assumption) (by assumption)).elim
      | exact (told_val hgu (by assumption) (by assumption) (by assumption) (by assumption)).elim
      | (exfalso; simp_all; done)
    ·
     have jv : ((aB.length : Nat) : Int) = 0 := by simpa using da
     refine wp_skip ?_
     refine then_normal ?_
     refine wp_seq ?_
     refine go_sp [(9, .p 1 0), (90, .v (.slice none 0 0)), (91, .v (.int .i64 0)), (92, .v (.int .i64 0))] af bj fun lM fe => ?_
     clear bj
     refine wp_block ?_
     refine wp_loop_ghost (fun n_ a_ w_ => ∃ (k : Nat), n_ = 0 - k ∧ k ≤ 0 ∧ LInv af 120 [⟨dF, 0, [.int .i64 n1, .slice A6 s2.length c7, .bool b3, .slice A8 l4.length c9, .slice bT u5.length bU], true⟩, ⟨dG, 0, [.int .i64 di, .slice dp dj.length dq, .bool dl, .slice bV aG.length ce, .slice bW aB.length cm], true⟩] [] [(9, .p 1 0), (90, .v (.slice none 0 0)), (91, .v (.int .i64 0)), (92, .v (.int .i64 ((k : Nat) : Int)))] a_ w_) (0) ⟨0, by omega, by omega, fe.pk, af, Fr.refl _ _ _⟩ ?_
     clear fe
     rintro lN lO lP ⟨k, jw, jx, ff, bR, jy⟩
     refine go_sp [(9, .p 1 0), (90, .v (.slice none 0 0)), (91, .v (.int .i64 0)), (92, .v (.int .i64 ((k : Nat) : Int))), (93, .v (.bool (decide (((k : Nat) : Int) < 0))))] bR ff fun lQ db => ?_
     clear ff
     refine wp_seq ?_
     refine cond_false db (b := decide (((k : Nat) : Int) < 0)) kz (decide_eq_false (by omega)) ?_
     refine wp_exit ?_
     refine then_exit ?_
     refine then_exit ?_
     refine block_exit ?_
     refine then_normal ?_
     refine go_sp [(10, .v (.bool true))] bR db fun lR gT => ?_
     clear db
     refine wp_ret ?_
     refine leave gT bR.cells (v := .bool true) kz ?_
     exact ⟨rfl, bR.step⟩
   ·
    refine wp_skip ?_
    refine then_normal ?_
    refine wp_seq ?_
    refine go_sp [(9, .p 1 0), (14, .v (.slice ah ((unknownT l u5).length) ai)), (89, .v (.bool (((aB.length : Nat) : Int) != (((unknownT l u5).length : Nat) : Int))))] af bi fun lS bk => ?_
    clear bi
    refine cond_of bk (b := ((aB.length : Nat) : Int) != (((unknownT l u5).length : Nat) : Int)) kz (fun dc => ?_) (fun dc => ?_)
    ·
     have jz : ((aB.length : Nat) : Int) ≠ (((unknownT l u5).length : Nat) : Int) := by simpa using dc
     refine go_sp [(10, .v (.bool false))] af bk fun lT gU => ?_
     clear bk
     refine wp_ret ?_
     refine then_ret ?_
     refine leave gU af.cells (v := .bool false) kz ?_
     first
      | (exfalso; omega)
      | exact (told_len hgu (by assumption) (by assumption)).elim
      | exact (told_len0 hgu (by assumption) (by assumption)).elim
      | exact (told_key hgu (by assumption) (by assumption) (by assumption) (by assumption)).elim
      | exact (told_val hgu (by assumption) (by assumption) (by assumption) (by assumption)).elim
      | (exfalso; simp_all; done)
    ·
     have jA : ((aB.length : Nat) : Int) = (((unknownT l u5).length : Nat) : Int) := by simpa using dc
     refine wp_skip ?_
     refine then_normal ?_
     refine wp_seq ?_
     refine go_sp [(9, .p 1 0), (90, .v (.slice ah ((unknownT l u5).length) ai)), (91, .v (.int .i64 (((unknownT l u5).length : Nat) : Int))), (92, .v (.int .i64 0))] af bk fun lU fg => ?_
     clear bk
     refine wp_block ?_
     obtain ⟨jB, gV, iI⟩ := gQ.ex
     have iJ := gV.small
     refine wp_loop_ghost (fun n_ a_ w_ => ∃ (k : Nat), n_ = (unknownT l u5).length - k ∧ k ≤ (unknownT l u5).length ∧ LInv af 120 [⟨dF, 0, [.int .i64 n1, .slice A6 s2.length c7, .bool b3, .slice A8 l4.length c9, .slice bT u5.length bU], true⟩, ⟨dG, 0, [.int .i64 di, .slice dp dj.length dq, .bool dl, .slice bV aG.length ce, .slice bW aB.length cm], true⟩] [] [(9, .p 1 0), (90, .v (.slice ah ((unknownT l u5).length) ai)), (91, .v (.int .i64 (((unknownT l u5).length : Nat) : Int))), (92, .v (.int .i64 ((k : Nat) : Int)))] a_ w_) ((unknownT l u5).length) ⟨0, by omega, by omega, fg.pk, af, Fr.refl _ _ _⟩ ?_
     clear fg
     rintro lV lW lX ⟨k, jC, jD, fh, aD, aE⟩
     refine go_sp [(9, .p 1 0), (90, .v (.slice ah ((unknownT l u5).length) ai)), (91, .v (.int .i64 (((unknownT l u5).length : Nat) : Int))), (92, .v (.int .i64 ((k : Nat) : Int))), (93, .v (.bool (decide (((k : Nat) : Int) < (((unknownT l u5).length : Nat) : Int)))))] aD fh fun lY bn => ?_
     clear fh
     refine wp_seq ?_
     refine cond_of bn (b := decide (((k : Nat) : Int) < (((unknownT l u5).length : Nat) : Int))) kz (fun de => ?_) (fun de => ?_)
     ·
      have jE := of_decide_eq_true de
      refine wp_skip ?_
      refine then_normal ?_
      refine wp_seq ?_
      refine wp_block ?_
      refine go_seq_region [0, 1, 2, 3, 4, 5] kz ?_
      refine go_rn [0] [1, 2, 3, 4, 5] [(9, .p 1 0), (90, .v (.slice ah ((unknownT l u5).length) ai)), (91, .v (.int .i64 (((unknownT l u5).length : Nat) : Int))), (92, .v (.int .i64 ((k : Nat) : Int))), (94, .v (.int .i64 ((k : Nat) : Int)))] aD bn fun lZ fi => ?_
      clear bn
      obtain ⟨iK, iL, gW, jF, df⟩ := Slots.get gV (i := k) (by first | omega | (have h_ := told_idx hgu (by assumption); omega))
      obtain ⟨⟨aF, aA⟩, gX⟩ : ∃ x, (unknownT l u5)[k]? = some x := ⟨_, List.getElem?_eq_getElem (by omega)⟩
      obtain ⟨⟨bo, bp, fU, fj⟩, l0, l3⟩ := iI k aF aA gX
      rw [fU] at df
      refine of_op (wpOp_index fi (t := 24) (A := ah) (m := ((unknownT l u5).length)) (q := ((k : Nat) : Int)) (d := 95) kz (e := 73) (size := 2) (bytes := 32) kz gW rfl (by first | omega | (have h_ := told_idx hgu (by assumption); omega)) fun l5 fk => ?_)
      clear fi
      refine of_op (wpOp_load fk (t := 73) (b := iK) (o := iL + k * 2) (d := 96) kz (cs := [.int .u32 aF, .slice bo aA.length bp]) (v := .agg #[.int .u32 aF, .slice bo aA.length bp]) kz (AtF.move df aE.step immM aE.to').at_ fun l6 fl => ?_)
      clear fk
      refine of_op (wpOp_alloc aD fl (d := 16) (cs := [.int .u32 0, .slice none 0 0]) kz fun l7 l9 ma jG jH bq dg fm => ?_)
      clear fl aD
      refine go_rn [4] [5] [(9, .p 1 0), (15, .v (.int .i64 ((k : Nat) : Int))), (16, .p 2 0), (90, .v (.slice ah ((unknownT l u5).length) ai)), (91, .v (.int .i64 (((unknownT l u5).length : Nat) : Int))), (92, .v (.int .i64 ((k : Nat) : Int))), (96, .v (.agg #[.int .u32 aF, .slice bo aA.length bp]))] dg fm fun mc fo => ?_
      clear fm
      refine of_op (wpOp_store dg fo (oi := 2) (cs := [.int .u32 aF, .slice bo aA.length bp]) kz fun md bt fq fr => ?_)
      clear fo dg
      refine wpOps_nil (then_normal ?_)
      refine go_seq_drawK 22 kz fq fun me bu aJ aw => ?_
      clear fq
      refine go_rnD [0, 1, 2, 6, 7] [(9, .p 1 0), (15, .v (.int .i64 ((k : Nat) : Int))), (16, .p 2 0), (90, .v (.slice ah ((unknownT l u5).length) ai)), (91, .v (.int .i64 (((unknownT l u5).length : Nat) : Int))), (92, .v (.int .i64 ((k : Nat) : Int))), (98, .v (.slice bW aB.length cm)), (99, .v (.int .i64 ((k : Nat) : Int))), (104, .v (.int .u32 aF))] 17 (panicFree_then (panicFree_block (panicFree_then (panicFree_then (panicFree_block (panicFree_then panicFree_body)))))) (fun _ h => h.cells) aw fr fun mf ft => ?_
      clear fr
      obtain ⟨dD, dE, fu, jI, bD⟩ := Slots.get iS (i := k) (by first | omega | (have h_ := told_idx hgu (by assumption); omega))
      obtain ⟨⟨bE, bF⟩, gY⟩ : ∃ x, aB[k]? = some x := ⟨_, List.getElem?_eq_getElem (by omega)⟩
      obtain ⟨⟨fV, fW, fX, gZ⟩, mg, mh⟩ := jU k bE bF gY
      rw [fX] at bD
      refine takeC_index ft (i := 3) (t := 24) (A := bW) (m := aB.length) (q := ((k : Nat) : Int)) (d := 100) kz (e := 73) (size := 2) (bytes := 32) kz fu rfl (by first | omega | (have h_ := told_idx hgu (by assumption); omega)) kz kz (panicFree_then (panicFree_block (panicFree_then (panicFree_then (panicFree_block (panicFree_then panicFree_body)))))) aw fun mi fv => ?_
      clear ft
      refine go_rnD [4] [(9, .p 1 0), (15, .v (.int .i64 ((k : Nat) : Int))), (16, .p 2 0), (90, .v (.slice ah ((unknownT l u5).length) ai)), (91, .v (.int .i64 (((unknownT l u5).length : Nat) : Int))), (92, .v (.int .i64 ((k : Nat) : Int))), (101, .v (.pointer (some ⟨dD, dE + k * 2, none⟩))), (104, .v (.int .u32 aF))] 15 (panicFree_then (panicFree_block (panicFree_then (panicFree_then (panicFree_block (panicFree_then panicFree_body)))))) (fun _ h => h.cells) aw fv fun mj fw => ?_
      clear fv
      refine takeC_load fw (i := 5) (t := 71) (b := dD) (o := dE + k * 2) (d := 102) kz (cs := [.int .u32 bE]) (v := .int .u32 bE) kz (fun w' h' => (At.drop (AtF.move bD (TT.step0 aJ h') nilM keepF).at_ 0 1)) kz kz (panicFree_then (panicFree_block (panicFree_then (panicFree_then (panicFree_block (panicFree_then panicFree_body)))))) aw fun ml fx => ?_
      clear fw
      refine go_rnD [8, 9] [(9, .p 1 0), (15, .v (.int .i64 ((k : Nat) : Int))), (16, .p 2 0), (90, .v (.slice ah ((unknownT l u5).length) ai)), (91, .v (.int .i64 (((unknownT l u5).length : Nat) : Int))), (92, .v (.int .i64 ((k : Nat) : Int))), (106, .v (.bool (bE != aF)))] 12 (panicFree_then (panicFree_block (panicFree_then (panicFree_then (panicFree_block (panicFree_then panicFree_body)))))) (fun _ h => h.cells) aw fx fun mn bS => ?_
      clear fx
      refine (Bool.eq_false_or_eq_true (bE != aF)).elim (fun bw => ?_) (fun bw => ?_)
      ·
       have jJ : bE ≠ aF := by simpa using bw
       have fy := bS.cast (env' := [(9, .p 1 0), (15, .v (.int .i64 ((k : Nat) : Int))), (16, .p 2 0), (90, .v (.slice ah ((unknownT l u5).length) ai)), (91, .v (.int .i64 (((unknownT l u5).length : Nat) : Int))), (92, .v (.int .i64 ((k : Nat) : Int))), (106, .v (.bool true))]) (by rw [bw])
       clear bS
       refine go_rnD [10, 11, 12, 13, 14, 15, 16, 17, 18, 19, 20, 21] [(9, .p 1 0), (90, .v (.slice ah ((unknownT l u5).length) ai)), (91, .v (.int .i64 (((unknownT l u5).length : Nat) : Int))), (92, .v (.int .i64 ((k : Nat) : Int))), (118, .v (.bool true))] 0 (panicFree_then (panicFree_block (panicFree_then (panicFree_then (panicFree_block (panicFree_then panicFree_body)))))) (fun _ h => h.cells) aw fy fun mo dh => ?_
       clear fy
       refine anyC_done kz ?_ _
       refine then_normal ?_
       refine cond_true dh (b := true) kz rfl ?_
       refine go_sp [(10, .v (.bool false))] aJ dh fun mp g6 => ?_
       clear dh
       refine wp_ret ?_
       refine block_ret ?_
       refine then_ret ?_
       refine then_ret ?_
       refine block_ret ?_
       refine then_ret ?_
       refine leave g6 aJ.cells (v := .bool false) kz ?_
       first
        | (exfalso; omega)
        | exact (told_len hgu (by assumption) (by assumption)).elim
        | exact (told_len0 hgu (by assumption) (by assumption)).elim
        | exact (told_key hgu (by assumption) (by assumption) (by assumption) (by assumption)).elim
        | exact (told_val hgu (by assumption) (by assumption) (by assumption) (by assumption)).elim
        | (exfalso; simp_all; done)
      ·
       have jK : bE = aF := by simpa using bw
       have fz := bS.cast (env' := [(9, .p 1 0), (15, .v (.int .i64 ((k : Nat) : Int))), (16, .p 2 0), (90, .v (.slice ah ((unknownT l u5).length) ai)), (91, .v (.int .i64 (((unknownT l u5).length : Nat) : Int))), (92, .v (.int .i64 ((k : Nat) : Int))), (106, .v (.bool false))]) (by rw [bw])
       clear bS
       refine go_rnD [10, 11, 12, 16, 17] [(9, .p 1 0), (90, .v (.slice ah ((unknownT l u5).length) ai)), (91, .v (.int .i64 (((unknownT l u5).length : Nat) : Int))), (92, .v (.int .i64 ((k : Nat) : Int))), (106, .v (.bool false)), (108, .v (.slice bW aB.length cm)), (109, .v (.int .i64 ((k : Nat) : Int))), (114, .v (.slice bo aA.length bp))] 7 (panicFree_then (panicFree_block (panicFree_then (panicFree_then (panicFree_block (panicFree_then panicFree_body)))))) (fun _ h => h.cells) aw fz fun mq fA => ?_
       clear fz
       refine takeC_index fA (i := 13) (t := 24) (A := bW) (m := aB.length) (q := ((k : Nat) : Int)) (d := 110) kz (e := 73) (size := 2) (bytes := 32) kz fu rfl (by first | omega | (have h_ := told_idx hgu (by assumption); omega)) kz kz (panicFree_then (panicFree_block (panicFree_then (panicFree_then (panicFree_block (panicFree_then panicFree_body)))))) aw fun mr fB => ?_
       clear fA
       refine go_rnD [14] [(9, .p 1 0), (90, .v (.slice ah ((unknownT l u5).length) ai)), (91, .v (.int .i64 (((unknownT l u5).length : Nat) : Int))), (92, .v (.int .i64 ((k : Nat) : Int))), (106, .v (.bool false)), (111, .v (.pointer (some ⟨dD, dE + k * 2 + 1, none⟩))), (114, .v (.slice bo aA.length bp))] 5 (panicFree_then (panicFree_block (panicFree_then (panicFree_then (panicFree_block (panicFree_then panicFree_body)))))) (fun _ h => h.cells) aw fB fun mt fC => ?_
       clear fB
       refine takeC_load fC (i := 15) (t := 22) (b := dD) (o := dE + k * 2 + 1) (d := 112) kz (cs := [.slice fV bF.length fW]) (v := .slice fV bF.length fW) kz (fun w' h' => (At.drop (AtF.move bD (TT.step0 aJ h') nilM keepF).at_ 1 1)) kz kz (panicFree_then (panicFree_block (panicFree_then (panicFree_then (panicFree_block (panicFree_then panicFree_body)))))) aw fun mu fD => ?_
       clear fC
       have iM := whole_le aA
       refine anyC_op (i := 18) kz (wpOp_call fD (f := 48) (vs := [.slice bo aA.length bp]) (d := 115) kz Tryd.call48 (sWhole _ _ aA (fj.move (((aE.trans bq).trans bt).trans bu).step immM (((aE.trans bq).trans bt).trans bu).to').le _) ?_)
       rintro e_ mw ⟨rfl, fE⟩
       refine ⟨_, rfl, fun mx fF => ?_⟩
       have aK := aJ.next_nil fE
       have bx := aJ.frN fE
       clear fD
       have g7 := TT.ofW bx aK
       refine ⟨fun _ => g7, ?_⟩
       refine anyC_op (i := 19) kz (wpOp_call fF (f := 14) (vs := [.slice fV bF.length fW, .slice bo ((whole aA).length) bp]) (d := 116) kz Tryd.call14 (sSame _ _ _ _ bF (whole aA) _ _ ((gZ.move aK.step nilM aK.imm).move (Step.refl _ Nil) nilM allF) (((fj.take 32767).move ((((aE.trans bq).trans bt).trans bu).trans bx).step immM ((((aE.trans bq).trans bt).trans bu).trans bx).to').move (Step.refl _ Nil) nilM allF)) ?_)
       rintro e_ my ⟨rfl, fG⟩
       refine ⟨_, rfl, fun mz fH => ?_⟩
       have bz := aK.next_nil fG
       have fI := aK.frN fG
       clear fF aK
       have fJ := TT.ofW (bx.trans fI) bz
       refine ⟨fun _ => fJ, ?_⟩
       refine go_rnD [20, 21] [(9, .p 1 0), (90, .v (.slice ah ((unknownT l u5).length) ai)), (91, .v (.int .i64 (((unknownT l u5).length : Nat) : Int))), (92, .v (.int .i64 ((k : Nat) : Int))), (118, .v (.bool (!(decide (bF = (whole aA))))))] 0 (panicFree_then (panicFree_block (panicFree_then (panicFree_then (panicFree_block (panicFree_then panicFree_body)))))) (fun _ h => h.cells) fJ fH fun mA bA => ?_
       clear fH
       refine anyC_done kz ?_ _
       refine then_normal ?_
       refine cond_of bA (b := !(decide (bF = (whole aA)))) kz (fun g8 => ?_) (fun g8 => ?_)
       ·
        refine go_sp [(10, .v (.bool false))] bz bA fun mB g9 => ?_
        clear bA
        refine wp_ret ?_
        refine block_ret ?_
        refine then_ret ?_
        refine then_ret ?_
        refine block_ret ?_
        refine then_ret ?_
        refine leave g9 bz.cells (v := .bool false) kz ?_
        first
         | (exfalso; omega)
         | exact (told_len hgu (by assumption) (by assumption)).elim
         | exact (told_len0 hgu (by assumption) (by assumption)).elim
         | exact (told_key hgu (by assumption) (by assumption) (by assumption) (by assumption)).elim
         | exact (told_val hgu (by assumption) (by assumption) (by assumption) (by assumption)).elim
         | (exfalso; simp_all; done)
       ·
        refine wp_skip ?_
        refine block_normal ?_
        refine then_normal ?_
        refine go_region [0, 1] kz ?_
        refine go_rn [0, 1] [] [(9, .p 1 0), (90, .v (.slice ah ((unknownT l u5).length) ai)), (91, .v (.int .i64 (((unknownT l u5).length : Nat) : Int))), (92, .v (.int .i64 (IntKind.i64.wrap (((k : Nat) : Int) + 1))))] bz bA fun mC hC => ?_
        clear bA
        refine wpOps_nil (then_normal ?_)
        obtain ⟨fK, hJ, hK⟩ := bz.cutB hC 2 [⟨dF, 0, [.int .i64 n1, .slice A6 s2.length c7, .bool b3, .slice A8 l4.length c9, .slice bT u5.length bU], true⟩, ⟨dG, 0, [.int .i64 di, .slice dp dj.length dq, .bool dl, .slice bV aG.length ce, .slice bW aB.length cm], true⟩] [(9, .p 1 0), (90, .v (.slice ah ((unknownT l u5).length) ai)), (91, .v (.int .i64 (((unknownT l u5).length : Nat) : Int))), (92, .v (.int .i64 (IntKind.i64.wrap (((k : Nat) : Int) + 1))))]
        have hZ : IntKind.i64.wrap (((k : Nat) : Int) + 1) = ((k + 1 : Nat) : Int) := wrap_succ (by omega)
        rw [hZ] at fK
        exact ⟨(unknownT l u5).length - (k + 1), by omega, k + 1, rfl, by omega, fK.pk, hJ, ((((((aE.trans bq).trans bt).trans bu).trans bx).trans fI).trans hK)⟩
     ·
      have jL := of_decide_eq_false de
      refine wp_exit ?_
      refine then_exit ?_
      refine then_exit ?_
      refine block_exit ?_
      refine then_normal ?_
      refine go_sp [(10, .v (.bool true))] aD bn fun mD ia => ?_
      clear bn
      refine wp_ret ?_
      refine leave ia aD.cells (v := .bool true) kz ?_
      exact ⟨rfl, aD.step⟩
theorem sToldP (v : Int) (flex : Bool) : ∀ d, ToOK v flex (ToldP v flex d)
 | 0 => sToldS (fun _ _ _ _ _ _ _ _ _ _ _ _ _ h => h.elim) (fun _ _ _ _ _ _ _ _ _ h => h.elim)
 | d + 1 => sToldS (sToldP v flex d) (sUsualP d)
theorem xEndTxnRequest (w : World) : Calls Tryd.prog 27 #[] w (Gives w (.int .i64 5)) := by
 refine enter (n := 4) Tryd.func27 rfl Tryd.ntmps27 kz fun a hE => ?_
 have hW := WOk.start w Nil
 refine go_sp [] hW hE fun a1 hE2 => ?_
 clear hE
 refine go_seq_region [0, 1, 2, 3] kz ?_
 refine of_op (wpOp_inline hE2 (f := 58) (vs := []) (d := 1) (n' := 3) kz Tryd.call58 Tryd.func58 rfl Tryd.ntmps58 kz fun a3 hE4 => ?_)
 refine go_sp [] hW hE4 fun a5 hE6 => ?_
 clear hE4
 refine go_seq_region [0] kz ?_
 refine of_op (wpOp_alloc hW hE6 (d := 1) (cs := [.int .i16 0, .string ByteArray.empty, .int .i64 0, .int .i16 0, .bool false, .map none]) kz fun b7 a8 w9 ax ay az aa ai => ?_)
 clear hE6 hW
 refine wpOps_nil (then_normal ?_)
 refine go_seq_region [0] kz ?_
 refine of_op (wpOp_inline ai (f := 88) (vs := [.pointer (some ⟨b7, 0, none⟩)]) (d := 2) (n' := 2) kz Tryd.call88 Tryd.func88 rfl Tryd.ntmps88 kz fun aA aj => ?_)
 have ak := aj.recast 0 (.v (.pointer (some ⟨b7, 0, none⟩))) (.p 0 0) rfl rfl (Nat.le_of_ble_eq_true (n := 1) rfl)
 refine wp_skip ?_
 refine leave_end ak aa.cells (v := .tuple #[]) kz ?_
 refine ⟨_, rfl, fun aB al => ?_⟩
 have ab : EnvOk 3 [⟨b7, 0, [.int .i16 0, .string ByteArray.empty, .int .i64 0, .int .i16 0, .bool false, .map none], true⟩] [(2, .v (.tuple #[])), (1, .p 0 0)] _ := al.places (⟨rfl, rfl, trivial⟩)
 refine wpOps_nil (then_normal ?_)
 refine go_sp [(0, .p 0 0)] aa ab fun aC am => ?_
 clear ab
 refine wp_ret ?_
 refine leave am aa.cells (v := .pointer (some ⟨b7, 0, none⟩)) kz ?_
 refine ⟨_, rfl, fun aD ao => ?_⟩
 have ac : EnvOk 4 [⟨b7, 0, [.int .i16 0, .string ByteArray.empty, .int .i64 0, .int .i16 0, .bool false, .map none], true⟩] [(1, .v (.pointer (some ⟨b7, 0, none⟩)))] _ := ao.places (trivial)
 have ae := ac.recast 1 (.v (.pointer (some ⟨b7, 0, none⟩))) (.p 0 0) rfl rfl (Nat.le_of_ble_eq_true (n := 1) rfl)
 have ap := ae.pick (ks := [1]) (env' := [(1, .p 0 0)]) kz
 clear ac
 clear ae
 refine of_op (wpOp_inline ap (f := 59) (vs := [.pointer (some ⟨b7, 0, none⟩)]) (d := 2) (n' := 3) kz Tryd.call59 Tryd.func59 rfl Tryd.ntmps59 kz fun aE ar => ?_)
 have af := ar.recast 0 (.v (.pointer (some ⟨b7, 0, none⟩))) (.p 0 0) rfl rfl (Nat.le_of_ble_eq_true (n := 1) rfl)
 refine go_sp [] aa af fun aF ag => ?_
 clear af
 refine go_sp [(2, .v (.int .i16 5))] aa ag fun aG au => ?_
 clear ag
 refine wp_ret ?_
 refine leave au aa.cells (v := .int .i16 5) kz ?_
 refine ⟨_, rfl, fun aH av => ?_⟩
 have ah : EnvOk 4 [⟨b7, 0, [.int .i16 0, .string ByteArray.empty, .int .i64 0, .int .i16 0, .bool false, .map none], true⟩] [(2, .v (.int .i16 5)), (1, .p 0 0)] _ := av.places (⟨rfl, rfl, trivial⟩)
 refine go_rn [2, 3] [] [(0, .v (.int .i64 5))] aa ah fun aI aw => ?_
 clear ah
 refine wpOps_nil (then_normal ?_)
 refine wp_ret ?_
 refine leave aw aa.cells (v := .int .i64 5) kz ?_
 exact ⟨rfl, aa.step⟩
theorem sEndTxnRequest_depth : depths sEndTxnRequestF ≤ 8 := by simp [sEndTxnRequestF, Fld.depth.depths, Fld.depth]
theorem sEndTxnRequest_plain : plains sEndTxnRequestF := by simp [sEndTxnRequestF, Fld.plain.plains, Fld.plain]
theorem fxEndTxnRequest (A : Option Addr) (c : Nat) (v : Int) (w : World) : Calls Tryd.prog 19 #[.agg #[.slice A sEndTxnRequestF.length c, .int .i64 sEndTxnRequestX], .int .i64 v] w (Gives w (.bool (decide (v ≥ sEndTxnRequestX)))) := by
 refine enter (n := 14) Tryd.func19 rfl Tryd.ntmps19 kz fun a hE => ?_
 have hW := WOk.start w Nil
 refine go_seq_region [0, 1] kz ?_
 refine of_op (wpOp_box hW hE (d := 2) (cs := [.slice A sEndTxnRequestF.length c, .int .i64 sEndTxnRequestX]) kz fun b1 a2 w3 hb4 hz5 hF6 hW7 hE8 => ?_)
 clear hE hW
 refine go_rn [1] [] [(1, .v (.int .i64 v)), (2, .p 0 0)] hW7 hE8 fun a9 aa => ?_
 clear hE8
 refine wpOps_nil (then_normal ?_)
 refine go_seq_region [0, 1, 2, 3, 4, 5, 6, 7, 8, 9] kz ?_
 refine go_rn [0, 1, 2, 3] [4, 5, 6, 7, 8, 9] [(1, .v (.int .i64 v)), (2, .p 0 0), (8, .v (.bool (decide (sEndTxnRequestX ≥ 0))))] hW7 aa fun ag ab => ?_
 clear aa
 have ae : (decide (sEndTxnRequestX ≥ 0)) = true := by decide
 have ac := ab.cast (env' := [(1, .v (.int .i64 v)), (2, .p 0 0), (8, .v (.bool true))]) (by rw [ae])
 clear ab
 refine go_rn [4, 5, 6, 7, 8, 9] [] [(4, .v (.bool (decide (v ≥ sEndTxnRequestX))))] hW7 ac fun ah af => ?_
 clear ac
 refine wpOps_nil (then_normal ?_)
 refine wp_ret ?_
 refine leave af hW7.cells (v := .bool (decide (v ≥ sEndTxnRequestX))) kz ?_
 exact ⟨rfl, hW7.step⟩
set_option maxHeartbeats 4000000 in
theorem lawEndTxnRequest (x : Int) (hx : 0 ≤ x) (hx' : x < 256) (ct : List Value) (t : Tree) (w : World) (F : Nat → Nat → Prop) (ht : TreeR w F ct t) (hroom1 : (writeB 8 sEndTxnRequestF sEndTxnRequestX (Int.tmod x (5 + 1)) t).length + 16 ≤ 1099511627776) (hcan : canEndTxnRequest (fitT (Int.tmod x (5 + 1)) 8 sEndTxnRequestF t)) (hkey : Tree.ranged (fitT (Int.tmod x (5 + 1)) 8 sEndTxnRequestF t)) (hpure : tEndTxnRequest (IntKind.i16.wrap (Int.tmod x (5 + 1))) (fitT (Int.tmod x (5 + 1)) 8 sEndTxnRequestF t) = writeB 8 sEndTxnRequestF sEndTxnRequestX (Int.tmod x (5 + 1)) t) (hto : ∀ D, rvEndTxnRequest (IntKind.i16.wrap (Int.tmod x (5 + 1))) D (fitT (Int.tmod x (5 + 1)) 8 sEndTxnRequestF t) → ToldP (Int.tmod x (5 + 1)) (decide ((Int.tmod x (5 + 1)) ≥ sEndTxnRequestX)) 8 sEndTxnRequestF t (trEndTxnRequest D)) :
  Calls Tryd.prog 7 #[.int .u8 x, .agg ct.toArray] w (Gives w (.bool true)) := by
 obtain ⟨n1, s2, b3, l4, u5, A6, c7, A8, c9, aS, aT, de, rfl, rfl, df, dg, dS, dT⟩ := ht.open_
 have cP := df.small
 have cQ := dg.small
 refine enter (n := 42) Tryd.func7 rfl Tryd.ntmps7 kz fun a hE => ?_
 have hW := WOk.start w Nil
 refine go_seq_region [0, 1] kz ?_
 refine of_op (wpOp_box hW hE (d := 3) (cs := [.int .i64 n1, .slice A6 s2.length c7, .bool b3, .slice A8 l4.length c9, .slice aS u5.length aT]) kz fun dh dU dV di dj dl ak bu => ?_)
 clear hE hW
 refine go_rn [1] [] [(0, .v (.int .u8 x)), (3, .p 0 0)] ak bu fun dW bw => ?_
 clear bu
 refine wpOps_nil (then_normal ?_)
 refine wp_seq ?_
 refine go_seq_region [0, 1, 2] kz ?_
 refine go_rn [0] [1, 2] [(0, .v (.int .u8 x)), (3, .p 0 0), (10, .v (.agg #[.int .i64 n1, .slice A6 s2.length c7, .bool b3, .slice A8 l4.length c9, .slice aS u5.length aT]))] ak bw fun dX bx => ?_
 clear bw
 refine of_op (wpOp_call bx (f := 8) (vs := [.agg #[.int .i64 n1, .slice A6 s2.length c7, .bool b3, .slice A8 l4.length c9, .slice aS u5.length aT]]) (d := 11) kz Tryd.call8 (lFits1 _ _ _ _ (ht.move ak.step nilM ak.imm)) ?_)
 rintro e_ dY ⟨cR, rfl, bz⟩
 refine ⟨_, rfl, fun dZ bA => ?_⟩
 have al := ak.next_nil bz
 have dp := ak.frN bz
 clear bx ak
 refine go_rn [2] [] [(0, .v (.int .u8 x)), (3, .p 0 0), (12, .v (.bool (!cR)))] al bA fun d5 aw => ?_
 clear bA
 refine wpOps_nil (then_normal ?_)
 refine cond_of aw (b := !cR) kz (fun bZ => ?_) (fun bZ => ?_)
 ·
  refine go_sp [(4, .v (.bool true))] al aw fun d6 b8 => ?_
  clear aw
  refine wp_ret ?_
  refine then_ret ?_
  refine leave b8 al.cells (v := .bool true) kz ?_
  exact ⟨rfl, al.step⟩
 ·
  refine wp_skip ?_
  refine then_normal ?_
  refine go_seq_region [0, 1] kz ?_
  refine of_op (wpOp_call aw (f := 27) (vs := []) (d := 13) kz Tryd.call27 (xEndTxnRequest _) ?_)
  rintro e_ dq ⟨rfl, bB⟩
  refine ⟨_, rfl, fun d7 bC => ?_⟩
  have ax := al.next_nil bB
  have dr := al.frN bB
  clear aw al
  refine go_rn [1] [] [(0, .v (.int .u8 x)), (3, .p 0 0), (5, .v (.int .i64 5))] ax bC fun d8 bD => ?_
  clear bC
  refine wpOps_nil (then_normal ?_)
  refine wp_seq ?_
  refine go_sp [(0, .v (.int .u8 x)), (3, .p 0 0), (5, .v (.int .i64 5)), (15, .v (.bool false))] ax bD fun d9 bq => ?_
  clear bD
  refine cond_false bq (b := false) kz rfl ?_
  refine wp_skip ?_
  refine then_normal ?_
  refine go_seq_region [0, 1, 2, 3, 4, 5, 6] kz ?_
  refine of_op (wpOp_call bq (f := 28) (vs := []) (d := 16) kz Tryd.call28 (sEndTxnRequest _ (Imm F w dq [⟨dh, 0, [.int .i64 n1, .slice A6 s2.length c7, .bool b3, .slice A8 l4.length c9, .slice aS u5.length aT], true⟩] [])) ?_)
  rintro e_ ea ⟨aU, aV, rfl, cd, bt⟩
  obtain ⟨bE, cS, cT⟩ := cd.move (Step.refl _ Nil) nilM (ax.laid (G := F) bt)
  refine ⟨_, rfl, fun eb bF => ?_⟩
  have aG := ax.next_nil bt
  have dt := ax.frN bt
  clear bq
  refine go_rn [1, 2] [3, 4, 5, 6] [(3, .p 0 0), (16, .v (.agg #[.slice aU sEndTxnRequestF.length aV, .int .i64 sEndTxnRequestX])), (17, .v (.int .u8 x)), (18, .v (.int .i64 5))] aG bF fun ec bG => ?_
  clear bF
  refine of_op (wpOp_call bG (f := 11) (vs := [.int .u8 x, .int .i64 5]) (d := 19) kz Tryd.call11 (lVersion x 5 hx hx' (by decide) (by decide) _) ?_)
  rintro e_ ee ⟨rfl, bH⟩
  refine ⟨_, rfl, fun ef bI => ?_⟩
  have bJ := aG.next_nil bH
  have ah := aG.frN bH
  clear bG aG
  refine of_op (wpOp_alloc bJ bI (d := 6) (cs := [.slice none 0 0, .int .i64 0]) kz fun eg eh ei du dv ai bK bL => ?_)
  clear bI bJ
  refine of_op (wpOp_store bK bL (oi := 1) (cs := [.slice aU sEndTxnRequestF.length aV, .int .i64 sEndTxnRequestX]) kz fun ej aj av bM => ?_)
  clear bL bK
  refine go_rn [6] [] [(3, .p 0 0), (6, .p 1 0), (7, .v (.int .i64 (Int.tmod x (5 + 1))))] av bM fun ek bN => ?_
  clear bM
  refine wpOps_nil (then_normal ?_)
  refine go_seq_region [0, 1, 2, 3, 4, 5, 6, 7, 8, 9, 10, 11] kz ?_
  refine go_rn [0, 1, 2, 3] [4, 5, 6, 7, 8, 9, 10, 11] [(3, .p 0 0), (6, .p 1 0), (7, .v (.int .i64 (Int.tmod x (5 + 1)))), (21, .v (.int .i64 (Int.tmod x (5 + 1)))), (22, .v (.agg #[.slice aU sEndTxnRequestF.length aV, .int .i64 sEndTxnRequestX])), (23, .v (.int .i64 (Int.tmod x (5 + 1)))), (24, .v (.agg #[.int .i64 n1, .slice A6 s2.length c7, .bool b3, .slice A8 l4.length c9, .slice aS u5.length aT]))] av bN fun em bO => ?_
  clear bN
  refine of_op (wpOp_call bO (f := 12) (vs := [.agg #[.slice aU sEndTxnRequestF.length aV, .int .i64 sEndTxnRequestX], .int .i64 (Int.tmod x (5 + 1)), .agg #[.int .i64 n1, .slice A6 s2.length c7, .bool b3, .slice A8 l4.length c9, .slice aS u5.length aT]]) (d := 25) kz Tryd.call12 (sWrite _ _ sEndTxnRequestF sEndTxnRequestX (Int.tmod x (5 + 1)) _ (Tree.mk n1 s2 b3 l4 u5) _ _ ⟨bE, (cS.move ((ah.trans ai).trans aj).step immM ((ah.trans ai).trans aj).to'), (fun i_ x_ h_ => ((cT i_ x_ h_).move ((ah.trans ai).trans aj).step immM ((ah.trans ai).trans aj).to'))⟩ sEndTxnRequest_depth (ht.move av.step nilM av.imm) (Nat.le_trans (Nat.le_add_right _ _) hroom1)) ?_)
  rintro e_ eo ⟨cU, cV, rfl, ce, cm⟩
  refine ⟨_, rfl, fun ep bP => ?_⟩
  obtain ⟨am, ao⟩ := av.frFresh cm (brow cU cV 5 (writeB 8 sEndTxnRequestF sEndTxnRequestX (Int.tmod x (5 + 1)) (Tree.mk n1 s2 b3 l4 u5))) (Nat.le_refl _) ce
  clear bO av
  refine of_op (wpOp_call bP (f := 29) (vs := [.int .i64 (Int.tmod x (5 + 1)), .slice cU ((writeB 8 sEndTxnRequestF sEndTxnRequestX (Int.tmod x (5 + 1)) (Tree.mk n1 s2 b3 l4 u5)).length) cV]) (d := 26) kz Tryd.call29 (tegEndTxnRequest (Int.tmod x (5 + 1)) _ (writeB 8 sEndTxnRequestF sEndTxnRequestX (Int.tmod x (5 + 1)) (Tree.mk n1 s2 b3 l4 u5)) hpure (octs_own (am.own 0 _ rfl) (by first | omega | (rw [uuidB_length]; decide) | (simp only [be_length]; exact Nat.le_trans (widthI_le _) (by decide)) | (have := hroom; omega) | (have := hmade; omega) | (simp only [List.length_append, List.length_nil]; omega)) (F := fun _ _ => True) (fun _ _ _ => trivial)) hcan hkey (by first | omega | (have := hroom1; omega))) ?_)
  rintro e_ dw ⟨bQ, cW, rfl, bR, bS, ay⟩
  have az := bR.move (Step.refl _ Nil) nilM (fun b_ o_ h_ hb_ => am.laid (G := F) ay b_ o_ (.inr (h_.resolve_left id)) hb_)
  obtain ⟨aH, aI, aJ, aK, aL, aM, aN, aO, aP, aQ, aR, cX, cY, aA, cq, cr, dx, dy⟩ := az.open_
  rw [aA] at az
  have cu := cq.small
  have cw := cr.small
  rw [aA]
  refine ⟨_, rfl, fun dz aW => ?_⟩
  have aB := am.next_nil ay
  have ap := am.frN ay
  clear bP
  refine go_rn [6, 7, 8] [9, 10, 11] [(3, .p 0 0), (6, .p 1 0), (7, .v (.int .i64 (Int.tmod x (5 + 1)))), (27, .v (.agg #[.int .i64 aH, .slice aM aI.length aN, .bool aJ, .slice aO aK.length aP, .slice aQ aL.length aR])), (28, .v (.bool true))] aB aW fun dA aX => ?_
  clear aW
  refine of_op (wpOp_alloc aB aX (d := 8) (cs := [.int .i64 0, .slice none 0 0, .bool false, .slice none 0 0, .slice none 0 0]) kz fun dB dC dD cZ c5 ab aY aZ => ?_)
  clear aX aB
  refine of_op (wpOp_store aY aZ (oi := 2) (cs := [.int .i64 aH, .slice aM aI.length aN, .bool aJ, .slice aO aK.length aP, .slice aQ aL.length aR]) kz fun dE ac aC ba => ?_)
  clear aZ aY
  refine go_rn [11] [] [(3, .p 0 0), (6, .p 1 0), (7, .v (.int .i64 (Int.tmod x (5 + 1)))), (8, .p 2 0), (9, .v (.bool true))] aC ba fun dF bd => ?_
  clear ba
  refine wpOps_nil (then_normal ?_)
  refine go_seq_drawK 13 kz aC fun dG ae bf bT => ?_
  clear aC
  refine go_rnD [0, 1, 2, 3, 4, 5, 6, 8, 9] [(30, .v (.bool true)), (32, .v (.slice aU sEndTxnRequestF.length aV)), (33, .v (.int .i64 (Int.tmod x (5 + 1)))), (34, .v (.agg #[.slice aU sEndTxnRequestF.length aV, .int .i64 sEndTxnRequestX])), (35, .v (.int .i64 (Int.tmod x (5 + 1)))), (37, .v (.agg #[.int .i64 n1, .slice A6 s2.length c7, .bool b3, .slice A8 l4.length c9, .slice aS u5.length aT])), (38, .v (.agg #[.int .i64 aH, .slice aM aI.length aN, .bool aJ, .slice aO aK.length aP, .slice aQ aL.length aR]))] 5 (panicFree_then panicFree_body) (fun _ h => h.cells) bT bd fun dH bg => ?_
  clear bd
  refine anyC_op (i := 7) kz (wpOp_call bg (f := 19) (vs := [.agg #[.slice aU sEndTxnRequestF.length aV, .int .i64 sEndTxnRequestX], .int .i64 (Int.tmod x (5 + 1))]) (d := 36) kz Tryd.call19 (fxEndTxnRequest _ _ _ _) ?_)
  rintro e_ dI ⟨rfl, bh⟩
  refine ⟨_, rfl, fun dJ bi => ?_⟩
  have ar := bf.next_nil bh
  have aa := bf.frN bh
  clear bg
  have bU := TT.ofW aa ar
  refine ⟨fun _ => bU, ?_⟩
  refine anyC_op (i := 10) kz (wpOp_call bi (f := 20) (vs := [.agg #[.int .i64 aH, .slice aM aI.length aN, .bool aJ, .slice aO aK.length aP, .slice aQ aL.length aR]]) (d := 39) kz Tryd.call20 (lGot _ _ _ _ _ (az.move (((ab.trans ac).trans ae).trans aa).step immM (((ab.trans ac).trans ae).trans aa).to') (Nat.le_refl _)) ?_)
  rintro e_ dK ⟨da, rfl, bV, aD⟩
  have aE := bV.move (Step.refl _ Nil) nilM (ar.laid (G := F) aD)
  obtain ⟨cz, cA, cB, cC, cD, cE, cG, cH, cI, cJ, cK, db, dc, aF, cL, cM, dL, dM⟩ := aE.open_
  rw [aF] at aE
  have cN := cL.small
  have cO := cM.small
  rw [aF]
  refine ⟨_, rfl, fun dN bj => ?_⟩
  have af := ar.next_nil aD
  have ag := ar.frN aD
  clear bi
  have bW := TT.ofW (aa.trans ag) af
  refine ⟨fun _ => bW, ?_⟩
  refine anyC_op (i := 11) kz (wpOp_call bj (f := 18) (vs := [.slice aU sEndTxnRequestF.length aV, .int .i64 (Int.tmod x (5 + 1)), .bool (decide ((Int.tmod x (5 + 1)) ≥ sEndTxnRequestX)), .agg #[.int .i64 n1, .slice A6 s2.length c7, .bool b3, .slice A8 l4.length c9, .slice aS u5.length aT], .agg #[.int .i64 cz, .slice cE cA.length cG, .bool cB, .slice cH cC.length cI, .slice cJ cD.length cK]]) (d := 40) kz Tryd.call18 (sToldP (Int.tmod x (5 + 1)) (decide ((Int.tmod x (5 + 1)) ≥ sEndTxnRequestX)) 8 _ _ sEndTxnRequestF _ (Tree.mk n1 s2 b3 l4 u5) _ (trEndTxnRequest bQ) _ _ ⟨bE, (cS.move (((((((((ah.trans ai).trans aj).trans ao).trans ap).trans ab).trans ac).trans ae).trans aa).trans ag).step immM (((((((((ah.trans ai).trans aj).trans ao).trans ap).trans ab).trans ac).trans ae).trans aa).trans ag).to'), (fun i_ x_ h_ => ((cT i_ x_ h_).move (((((((((ah.trans ai).trans aj).trans ao).trans ap).trans ab).trans ac).trans ae).trans aa).trans ag).step immM (((((((((ah.trans ai).trans aj).trans ao).trans ap).trans ab).trans ac).trans ae).trans aa).trans ag).to'))⟩ (ht.move af.step nilM af.imm) aE sEndTxnRequest_plain (hto bQ bS)) ?_)
  rintro e_ dO ⟨rfl, bk⟩
  refine ⟨_, rfl, fun dP bn => ?_⟩
  have au := af.next_nil bk
  have bX := af.frN bk
  clear bj af
  have bo := TT.ofW ((aa.trans ag).trans bX) au
  refine ⟨fun _ => bo, ?_⟩
  refine go_rnD [12] [(41, .v (.bool true))] 1 (panicFree_then panicFree_body) (fun _ h => h.cells) bo bn fun dQ bp => ?_
  clear bn
  refine anyC_op (i := 13) kz (wpOp_pure [4] au.cells bp (env' := [(4, .v (.bool true))]) kz fun dR bY => ?_)
  clear bp
  refine ⟨fun h => absurd rfl h, ?_⟩
  refine anyC_done kz ?_ _
  refine then_normal ?_
  refine wp_ret ?_
  refine leave bY au.cells (v := .bool true) kz ?_
  exact ⟨rfl, au.step⟩
theorem closeEndTxnRequest (x : Int) (hx : 0 ≤ x ∧ x ≤ 255) (ct : List Value) (t : Tree) (w : World) (F : Nat → Nat → Prop) (ht : TreeR w F ct t) (hi : t.i64s) (hsz : t.size ≤ 8388608) : Calls Tryd.prog 7 #[.int .u8 x, .agg ct.toArray] w (Gives w (.bool true)) := by
 obtain ⟨g0, g1⟩ := ver_ok (m := 5 + 1) hx.1 hx.2 (by decide) (by decide)
 have hp : tEndTxnRequest (IntKind.i16.wrap (Int.tmod x (5 + 1))) (fitT (Int.tmod x (5 + 1)) 8 sEndTxnRequestF t) = writeB 8 sEndTxnRequestF sEndTxnRequestX (Int.tmod x (5 + 1)) t := by rw [i16_small g0 g1]; exact pureEndTxnRequest (Int.tmod x (5 + 1)) g0 g1 t
 have h1 := writeB_le 8 sEndTxnRequestF sEndTxnRequestX (Int.tmod x (5 + 1)) t
 have h2 : costL sEndTxnRequestF ≤ 131000 := by decide +kernel
 have h3 := Nat.mul_le_mul h2 hsz
 exact lawEndTxnRequest x hx.1 (by omega) ct t w F ht (by omega) (canfitEndTxnRequest (Int.tmod x (5 + 1)) t) (ranged_fit _ _ _ _ ht.ranged) hp (fun D h => by rw [i16_small g0 g1] at h; exact toldEndTxnRequest (Int.tmod x (5 + 1)) g0 t _ (fun _ => rfl) rfl hi D h)
end Go.Proofs.YtnhgfbgdoelfoaaDoor.ME