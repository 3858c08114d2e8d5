/- The texts of a claim, put together: the engine, the contracts, the law. Own work. -/
import Derived.Test.YtgolpmkenmedoaaGreatDoorWt2P4
namespace Go.Proofs.YtgolpmkenmedoaaGreatDoor.ME
open Go
open Go.RowKit
set_option linter.unusedVariables false
set_option linter.unusedSimpArgs false
set_option maxRecDepth 20000
theorem qfX (k n : Int) (w : World) : Calls Tryz.prog 132 #[.int .i64 k, .int .i64 n] w (qbW w (.int .i64 (qbi k n))) := by
 refine enter (n := 31) Tryz.func132 rfl Tryz.ntmps132 kz fun a hE => ?_
 have hW := WOk.start w Nil
 refine qam [(0, .v (.int .i64 k)), (1, .v (.int .i64 n))] hW hE fun a1 hE2 => ?_
 refine wp_seq ?_
 refine qam [(1, .v (.int .i64 n)), (5, .v (.int .i64 k))] hW hE2 fun a3 hE4 => ?_
 refine wp_block ?_
 refine qam [(1, .v (.int .i64 n)), (5, .v (.int .i64 k)), (6, .v (.bool (k == 0)))] hW hE4 fun a5 hE6 => ?_
 refine qat hE6 (b := k == 0) kz (fun hc7 => ?_) (fun hc7 => ?_)
 ·
  have hf8 : k = 0 := by simpa using hc7
  refine qam [(4, .v (.int .i64 (IntKind.i64.wrap (BitVec.ofInt 64 n &&& BitVec.ofInt 64 1).toNat)))] hW hE6 fun a9 aj => ?_
  refine wp_ret ?_
  refine qau ?_
  refine qal ?_
  refine qaD aj hW.cells (v := .int .i64 (IntKind.i64.wrap (BitVec.ofInt 64 n &&& BitVec.ofInt 64 1).toNat)) kz ?_
  exact ⟨by (try simp only [and1]); simp_all [qbi, qe9, qfq, qfr, qeu], hW.step⟩
 ·
  have ar : k ≠ 0 := by simpa using hc7
  refine qam [(1, .v (.int .i64 n)), (5, .v (.int .i64 k)), (10, .v (.bool (k == 1)))] hW hE6 fun aC aa => ?_
  refine qat aa (b := k == 1) kz (fun ab => ?_) (fun ab => ?_)
  ·
   have au : k = 1 := by simpa using ab
   refine qam [(4, .v (.int .i64 (IntKind.i64.wrap (IntKind.i8.wrap n))))] hW aa fun aD ak => ?_
   refine wp_ret ?_
   refine qau ?_
   refine qal ?_
   refine qaD ak hW.cells (v := .int .i64 (IntKind.i64.wrap (IntKind.i8.wrap n))) kz ?_
   exact ⟨by (try simp only [and1]); simp_all [qbi, qe9, qfq, qfr, qeu], hW.step⟩
  ·
   have av : k ≠ 1 := by simpa using ab
   refine qam [(1, .v (.int .i64 n)), (5, .v (.int .i64 k)), (15, .v (.bool (k == 2)))] hW aa fun aE ac => ?_
   refine qat ac (b := k == 2) kz (fun ae => ?_) (fun ae => ?_)
   ·
    have aw : k = 2 := by simpa using ae
    refine qam [(4, .v (.int .i64 (IntKind.i64.wrap (IntKind.i16.wrap n))))] hW ac fun aF al => ?_
    refine wp_ret ?_
    refine qau ?_
    refine qal ?_
    refine qaD al hW.cells (v := .int .i64 (IntKind.i64.wrap (IntKind.i16.wrap n))) kz ?_
    exact ⟨by (try simp only [and1]); simp_all [qbi, qe9, qfq, qfr, qeu], hW.step⟩
   ·
    have ax : k ≠ 2 := by simpa using ae
    refine qam [(1, .v (.int .i64 n)), (5, .v (.int .i64 k)), (20, .v (.bool (k == 3)))] hW ac fun aG af => ?_
    refine qat af (b := k == 3) kz (fun ag => ?_) (fun ag => ?_)
    ·
     have ay : k = 3 := by simpa using ag
     refine qam [(4, .v (.int .i64 (IntKind.i64.wrap (IntKind.i32.wrap n))))] hW af fun aH am => ?_
     refine wp_ret ?_
     refine qau ?_
     refine qal ?_
     refine qaD am hW.cells (v := .int .i64 (IntKind.i64.wrap (IntKind.i32.wrap n))) kz ?_
     exact ⟨by (try simp only [and1]); simp_all [qbi, qe9, qfq, qfr, qeu], hW.step⟩
    ·
     have az : k ≠ 3 := by simpa using ag
     refine qam [(1, .v (.int .i64 n)), (25, .v (.bool (k == 5)))] hW af fun aI ah => ?_
     refine qat ah (b := k == 5) kz (fun ai => ?_) (fun ai => ?_)
     ·
      have aA : k = 5 := by simpa using ai
      refine qam [(4, .v (.int .i64 (IntKind.i64.wrap (IntKind.u16.wrap n))))] hW ah fun aJ ao => ?_
      refine wp_ret ?_
      refine qau ?_
      refine qal ?_
      refine qaD ao hW.cells (v := .int .i64 (IntKind.i64.wrap (IntKind.u16.wrap n))) kz ?_
      exact ⟨by (try simp only [and1]); simp_all [qbi, qe9, qfq, qfr, qeu], hW.step⟩
     ·
      have aB : k ≠ 5 := by simpa using ai
      refine wp_skip ?_
      refine qap ?_
      refine qab ?_
      refine qam [(4, .v (.int .i64 n))] hW ah fun aK ap => ?_
      refine wp_ret ?_
      refine qaD ap hW.cells (v := .int .i64 n) kz ?_
      exact ⟨by (try simp only [and1]); simp_all [qbi, qe9, qfq, qfr, qeu], hW.step⟩
def UsOK (U : List Fld → Tree → Prop) : Prop := ∀ (A : Option Addr) (c : Nat) (l : List Fld) (ct : List Value) (g : Tree) (w : World) (F : Nat → Nat → Prop), FldsR w F A c l → TreeR w F ct g → U l g →
  Calls Tryz.prog 61 #[.slice A l.length c, .agg ct.toArray] w (qbW w (.bool true))
theorem sUs {U : List Fld → Tree → Prop} (hu : UsOK U) (A : Option Addr) (c : Nat) (l : List Fld) (ct : List Value) (g : Tree) (w : World) (F : Nat → Nat → Prop) (hl : FldsR w F A c l) (ht : TreeR w F ct g) (hU : UsP U l g) :
  Calls Tryz.prog 61 #[.slice A l.length c, .agg ct.toArray] w (qbW w (.bool true)) := by
 obtain ⟨xfs, h1, h2⟩ := hl.ex
 have hsm := h1.small
 obtain ⟨n1, s2, b3, l4, u5, A6, c7, A8, c9, aJ, aK, fT, rfl, rfl, fU, fV, iF, iG⟩ := ht.open_
 have e9 := fU.small
 have fa := fV.small
 refine enter (n := 89) Tryz.func61 rfl Tryz.ntmps61 kz fun a hE => ?_
 have hW := WOk.start w Nil
 refine qad [0, 1] kz ?_
 refine qaj (qa7 hW hE (d := 3) (cs := [.int .i64 n1, .slice A6 s2.length c7, .bool b3, .slice A8 l4.length c9, .slice aJ u5.length aK]) kz fun bz iH iI fW fX fY aA eG => ?_)
 refine qah [1] [] [(0, .v (.slice A l.length c)), (3, .p 0 0)] aA eG fun iJ eH => ?_
 refine qae (qab ?_)
 refine wp_seq ?_
 refine qam [(0, .v (.slice A l.length c)), (3, .p 0 0), (11, .v (.bool (decide (((u5.length : Nat) : Int) > 0))))] aA eH fun iK cD => ?_
 refine qat cD (b := decide (((u5.length : Nat) : Int) > 0)) kz (fun cE => ?_) (fun cE => ?_)
 ·
  have fZ := of_decide_eq_true cE
  refine qam [(4, .v (.bool false))] aA cD fun iL eI => ?_
  refine wp_ret ?_
  refine qal ?_
  refine qaD eI aA.cells (v := .bool false) kz ?_
  exact (us_u (g := (Tree.mk n1 s2 b3 l4 u5)) hU.1 rfl ‹_›).elim
 ·
  have f5 := of_decide_eq_false cE
  refine wp_skip ?_
  refine qab ?_
  refine wp_seq ?_
  refine qam [(3, .p 0 0), (12, .v (.slice A l.length c)), (13, .v (.int .i64 ((l.length : Nat) : Int))), (14, .v (.int .i64 0))] aA cD fun iM eJ => ?_
  refine wp_block ?_
  refine wp_loop_ghost (fun n_ a_ w_ => ∃ (k : Nat), n_ = l.length - k ∧ k ≤ l.length ∧ LInv aA 89 [⟨bz, 0, [.int .i64 n1, .slice A6 s2.length c7, .bool b3, .slice A8 l4.length c9, .slice aJ u5.length aK], true⟩] [] [(3, .p 0 0), (12, .v (.slice A l.length c)), (13, .v (.int .i64 ((l.length : Nat) : Int))), (14, .v (.int .i64 ((k : Nat) : Int)))] a_ w_) (l.length) ⟨0, by omega, by omega, eJ.pk, aA, Fr.refl _ _ _⟩ ?_
  rintro iN iO iP ⟨k, f7, f8, eK, aB, aj⟩
  refine qam [(3, .p 0 0), (12, .v (.slice A l.length c)), (13, .v (.int .i64 ((l.length : Nat) : Int))), (14, .v (.int .i64 ((k : Nat) : Int))), (15, .v (.bool (decide (((k : Nat) : Int) < ((l.length : Nat) : Int)))))] aB eK fun iQ cG => ?_
  refine wp_seq ?_
  refine qat cG (b := decide (((k : Nat) : Int) < ((l.length : Nat) : Int))) kz (fun cH => ?_) (fun cH => ?_)
  ·
   have f9 := of_decide_eq_true cH
   refine wp_skip ?_
   refine qab ?_
   refine wp_seq ?_
   refine wp_block ?_
   refine qad [0, 1, 2, 3, 4, 5] kz ?_
   refine qah [0] [1, 2, 3, 4, 5] [(3, .p 0 0), (12, .v (.slice A l.length c)), (13, .v (.int .i64 ((l.length : Nat) : Int))), (14, .v (.int .i64 ((k : Nat) : Int))), (16, .v (.int .i64 ((k : Nat) : Int)))] aB cG fun iR eL => ?_
   obtain ⟨ga, gb, eM, gc, bB⟩ := Slots.get h1 (i := k) (by omega)
   obtain ⟨gd, cI⟩ : ∃ x, l[k]? = some x := ⟨_, List.getElem?_eq_getElem (by omega)⟩
   have cJ := h2 k gd cI
   obtain ⟨ae, eC, eD, aE, eE, aM, eF, bA, bC, bD, cK, rfl, bE, eN, fb⟩ := cJ.open_
   rw [bE] at cJ
   have fe := eN.small
   rw [bE] at bB
   refine qaj (qaA eL (t := 29) (A := A) (m := l.length) (q := ((k : Nat) : Int)) (d := 17) kz (e := 52) (size := 8) (bytes := 80) kz eM rfl (by omega) fun iS eO => ?_)
   refine qaj (qaH eO (t := 52) (b := ga) (o := gb + k * 8) (d := 18) kz (cs := [.int .i64 ae, .int .i64 eC, .int .i64 eD, .int .i64 aE, .int .i64 eE, .int .i64 aM, .int .i64 eF, .slice bC bA.length bD]) (v := .agg #[.int .i64 ae, .int .i64 eC, .int .i64 eD, .int .i64 aE, .int .i64 eE, .int .i64 aM, .int .i64 eF, .slice bC bA.length bD]) kz (AtF.move bB aB.step nilM qaX).at_ fun iT eP => ?_)
   refine qaj (qaK aB eP (d := 6) (cs := [.int .i64 0, .int .i64 0, .int .i64 0, .int .i64 0, .int .i64 0, .int .i64 0, .int .i64 0, .slice none 0 0]) kz fun iU iV iW ge gg ak cL eQ => ?_)
   refine qah [4] [5] [(3, .p 0 0), (5, .v (.int .i64 ((k : Nat) : Int))), (6, .p 1 0), (12, .v (.slice A l.length c)), (13, .v (.int .i64 ((l.length : Nat) : Int))), (14, .v (.int .i64 ((k : Nat) : Int))), (18, .v (.agg #[.int .i64 ae, .int .i64 eC, .int .i64 eD, .int .i64 aE, .int .i64 eE, .int .i64 aM, .int .i64 eF, .slice bC bA.length bD]))] cL eQ fun iX eR => ?_
   refine qaj (qav cL eR (oi := 1) (cs := [.int .i64 ae, .int .i64 eC, .int .i64 eD, .int .i64 aE, .int .i64 eE, .int .i64 aM, .int .i64 eF, .slice bC bA.length bD]) kz fun iY al aL eS => ?_)
   refine qae (qab ?_)
   refine qad [0, 1, 2, 3, 4] kz ?_
   refine qah [0, 1] [2, 3, 4] [(3, .p 0 0), (6, .p 1 0), (12, .v (.slice A l.length c)), (13, .v (.int .i64 ((l.length : Nat) : Int))), (14, .v (.int .i64 ((k : Nat) : Int))), (19, .v (.agg #[.int .i64 n1, .slice A6 s2.length c7, .bool b3, .slice A8 l4.length c9, .slice aJ u5.length aK])), (20, .v (.int .i64 ((k : Nat) : Int)))] aL eS fun iZ eU => ?_
   refine qaj (qai eU (f := 57) (vs := [.agg #[.int .i64 n1, .slice A6 s2.length c7, .bool b3, .slice A8 l4.length c9, .slice aJ u5.length aK], .int .i64 ((k : Nat) : Int)]) (d := 21) kz Tryz.call57 (sAt _ _ k _ _ (ht.move aL.step nilM aL.imm)) ?_)
   rintro e_ gh ⟨gi, rfl, eV, aN⟩
   have aF := eV.move aN nilM (fun b o h_ hb_ => aL.laid (G := F) aN b o (.inl h_) (Nat.lt_of_lt_of_le hb_ aN.size))
   obtain ⟨ai, af, ah, am, aO, aC, aD, aP, aQ, aR, aS, ff, aT, aU, cM, eW, gj, gk⟩ := aF.open_
   rw [aU] at aF
   have eX := cM.small
   have eY := eW.small
   rw [aU]
   refine ⟨_, rfl, fun gl cN => ?_⟩
   have cO := aL.next_nil aN
   have ag := aL.frN aN
   have hq_ := hU.2 k _ cI
   rw [aT] at hq_
   refine qaj (qaK cO cN (d := 7) (cs := [.int .i64 0, .slice none 0 0, .bool false, .slice none 0 0, .slice none 0 0]) kz fun gm gn gp fg fh ab cP cQ => ?_)
   refine qaj (qav cP cQ (oi := 2) (cs := [.int .i64 ai, .slice aC af.length aD, .bool ah, .slice aP am.length aQ, .slice aR aO.length aS]) kz fun gq ac aa cR => ?_)
   refine qae (qab ?_)
   refine qam [(3, .p 0 0), (6, .p 1 0), (7, .p 2 0), (12, .v (.slice A l.length c)), (13, .v (.int .i64 ((l.length : Nat) : Int))), (14, .v (.int .i64 ((k : Nat) : Int))), (23, .v (.int .i64 ae))] aa cR fun gt cS => ?_
   refine wp_block ?_
   refine qam [(3, .p 0 0), (6, .p 1 0), (7, .p 2 0), (12, .v (.slice A l.length c)), (13, .v (.int .i64 ((l.length : Nat) : Int))), (14, .v (.int .i64 ((k : Nat) : Int))), (23, .v (.int .i64 ae)), (32, .v (.bool (ae == 8)))] aa cS fun gv aV => ?_
   refine qat aV (b := ae == 8) kz (fun aW => ?_) (fun aW => ?_)
   ·
    have fi : ae = 8 := by simpa using aW
    refine qad [0, 1, 2, 3, 4, 5, 6, 7, 8, 9, 10, 11] kz ?_
    refine qah [0, 1, 2, 3, 4, 5, 6] [7, 8, 9, 10, 11] [(3, .p 0 0), (7, .p 2 0), (12, .v (.slice A l.length c)), (13, .v (.int .i64 ((l.length : Nat) : Int))), (14, .v (.int .i64 ((k : Nat) : Int))), (40, .v (.bool (!(ah == (decide (aE ≥ 0))))))] aa aV fun gw bF => ?_
    refine (Bool.eq_false_or_eq_true (!(ah == (decide (aE ≥ 0))))).elim (fun ao => ?_) (fun ao => ?_)
    ·
     have fj : !(ah = (decide (aE ≥ 0))) := by simpa using ao
     have cT := bF.cast (env' := [(3, .p 0 0), (7, .p 2 0), (12, .v (.slice A l.length c)), (13, .v (.int .i64 ((l.length : Nat) : Int))), (14, .v (.int .i64 ((k : Nat) : Int))), (40, .v (.bool true))]) (by rw [ao])
     refine qah [7, 8, 9, 10, 11] [] [(3, .p 0 0), (12, .v (.slice A l.length c)), (13, .v (.int .i64 ((l.length : Nat) : Int))), (14, .v (.int .i64 ((k : Nat) : Int))), (45, .v (.bool true))] aa cT fun gx bG => ?_
     refine qae (qab ?_)
     refine qaV bG (b := true) kz rfl ?_
     refine qam [(4, .v (.bool false))] aa bG fun gy cU => ?_
     refine wp_ret ?_
     refine qau ?_
     refine qau ?_
     refine qal ?_
     refine qal ?_
     refine qau ?_
     refine qal ?_
     refine qaD cU aa.cells (v := .bool false) kz ?_
     first
      | exact (qfP hq_ ‹_› ‹_›).elim
      | exact (qfQ hq_ ‹_› ‹_›).elim
      | exact (us_7 hq_ ‹_› ‹_›).elim
      | exact (qfR hq_ ‹_› ‹_›).elim
      | exact (qfS hq_ ‹_› ‹_›).elim
      | exact (qeb hq_ ‹_› ‹_›).elim
      | exact (qec hq_ ‹_› ‹_›).elim
      | exact (qfT hq_ ‹_› ‹_› ‹_›).elim
      | exact (us_n hq_ ‹_› ‹_› ‹_› ‹_› ‹_› ‹_›).elim
    ·
     have fk : !(ah ≠ (decide (aE ≥ 0))) := by simpa using ao
     have cV := bF.cast (env' := [(3, .p 0 0), (7, .p 2 0), (12, .v (.slice A l.length c)), (13, .v (.int .i64 ((l.length : Nat) : Int))), (14, .v (.int .i64 ((k : Nat) : Int))), (40, .v (.bool false))]) (by rw [ao])
     refine qah [7, 8, 9, 10, 11] [] [(3, .p 0 0), (12, .v (.slice A l.length c)), (13, .v (.int .i64 ((l.length : Nat) : Int))), (14, .v (.int .i64 ((k : Nat) : Int))), (45, .v (.bool (decide (((af.length : Nat) : Int) > 0))))] aa cV fun gz aX => ?_
     refine qae (qab ?_)
     refine qat aX (b := decide (((af.length : Nat) : Int) > 0)) kz (fun aY => ?_) (fun aY => ?_)
     ·
      have fm := of_decide_eq_true aY
      refine qam [(4, .v (.bool false))] aa aX fun gA cW => ?_
      refine wp_ret ?_
      refine qau ?_
      refine qau ?_
      refine qal ?_
      refine qal ?_
      refine qau ?_
      refine qal ?_
      refine qaD cW aa.cells (v := .bool false) kz ?_
      first
       | exact (qfP hq_ ‹_› ‹_›).elim
       | exact (qfQ hq_ ‹_› ‹_›).elim
       | exact (us_7 hq_ ‹_› ‹_›).elim
       | exact (qfR hq_ ‹_› ‹_›).elim
       | exact (qfS hq_ ‹_› ‹_›).elim
       | exact (qeb hq_ ‹_› ‹_›).elim
       | exact (qec hq_ ‹_› ‹_›).elim
       | exact (qfT hq_ ‹_› ‹_› ‹_›).elim
       | exact (us_n hq_ ‹_› ‹_› ‹_› ‹_› ‹_› ‹_›).elim
     ·
      have fo := of_decide_eq_false aY
      refine wp_skip ?_
      refine qap ?_
      refine qap ?_
      refine qab ?_
      refine qar [0, 1] kz ?_
      refine qah [0, 1] [] [(3, .p 0 0), (12, .v (.slice A l.length c)), (13, .v (.int .i64 ((l.length : Nat) : Int))), (14, .v (.int .i64 (IntKind.i64.wrap (((k : Nat) : Int) + 1))))] aa aX fun gB cX => ?_
      refine qae (qab ?_)
      obtain ⟨bH, cY, cZ⟩ := aa.cutB cX 1 [⟨bz, 0, [.int .i64 n1, .slice A6 s2.length c7, .bool b3, .slice A8 l4.length c9, .slice aJ u5.length aK], true⟩] [(3, .p 0 0), (12, .v (.slice A l.length c)), (13, .v (.int .i64 ((l.length : Nat) : Int))), (14, .v (.int .i64 (IntKind.i64.wrap (((k : Nat) : Int) + 1))))]
      have c5 : IntKind.i64.wrap (((k : Nat) : Int) + 1) = ((k + 1 : Nat) : Int) := qaJ (by omega)
      rw [c5] at bH
      exact ⟨l.length - (k + 1), by omega, k + 1, rfl, by omega, bH.pk, cY, ((((((aj.trans ak).trans al).trans ag).trans ab).trans ac).trans cZ)⟩
   ·
    have fq : ae ≠ 8 := by simpa using aW
    refine qam [(3, .p 0 0), (6, .p 1 0), (7, .p 2 0), (12, .v (.slice A l.length c)), (13, .v (.int .i64 ((l.length : Nat) : Int))), (14, .v (.int .i64 ((k : Nat) : Int))), (23, .v (.int .i64 ae)), (46, .v (.bool (ae == 7)))] aa aV fun gC aZ => ?_
    refine qat aZ (b := ae == 7) kz (fun ba => ?_) (fun ba => ?_)
    ·
     have fr : ae = 7 := by simpa using ba
     refine qaE 5 kz aa fun gD bd c6 da => ?_
     refine qaF [0, 1] [(3, .p 0 0), (12, .v (.slice A l.length c)), (13, .v (.int .i64 ((l.length : Nat) : Int))), (14, .v (.int .i64 ((k : Nat) : Int))), (49, .v (.slice aC af.length aD))] 3 (qaa (qac (qac (qaa (qaa (qac (qaa qaf))))))) (fun _ h => h.cells) da aZ fun gE db => ?_
     refine qay (i := 2) kz (qca c6 db (d := 50) (j := 16) (t := 22) (e := 5) (bytes := 1) (z := .int .u8 0) kz kz kz kz (rfl) (rfl) (by omega) fun eZ gF gG ft fu ap aG dc => ?_)
     have de := TT.ofW ap aG
     refine ⟨fun _ => de, ?_⟩
     refine qay (i := 3) kz (qai dc (f := 63) (vs := [.slice aC af.length aD, .slice (some ⟨eZ, 0, none⟩) 16 16]) (d := 51) kz Tryz.call63 (qdK _ _ _ _ af (List.replicate 16 0 : Bs) _ _ ((cM.move (((ab.trans ac).trans bd).trans ap).step immM (((ab.trans ac).trans bd).trans ap).to').move (Step.refl _ Nil) nilM allF) (octs_zero (aG.own 0 _ rfl) (F := fun _ _ => True) (fun _ _ _ => trivial))) ?_)
     rintro e_ gH ⟨rfl, bI⟩
     refine ⟨_, rfl, fun gI df => ?_⟩
     have ar := aG.next_nil bI
     have bJ := aG.frN bI
     have bK := TT.ofW (ap.trans bJ) ar
     refine ⟨fun _ => bK, ?_⟩
     refine qaF [4] [(3, .p 0 0), (12, .v (.slice A l.length c)), (13, .v (.int .i64 ((l.length : Nat) : Int))), (14, .v (.int .i64 ((k : Nat) : Int))), (52, .v (.bool (!(decide (af = (List.replicate 16 0 : Bs))))))] 0 (qaa (qac (qac (qaa (qaa (qac (qaa qaf))))))) (fun _ h => h.cells) bK df fun gJ bf => ?_
     refine qaC kz ?_ _
     refine qab ?_
     refine qat bf (b := !(decide (af = (List.replicate 16 0 : Bs)))) kz (fun dg => ?_) (fun dg => ?_)
     ·
      refine qam [(4, .v (.bool false))] ar bf fun gK dh => ?_
      refine wp_ret ?_
      refine qau ?_
      refine qau ?_
      refine qal ?_
      refine qal ?_
      refine qau ?_
      refine qal ?_
      refine qaD dh ar.cells (v := .bool false) kz ?_
      first
       | exact (qfP hq_ ‹_› ‹_›).elim
       | exact (qfQ hq_ ‹_› ‹_›).elim
       | exact (us_7 hq_ ‹_› ‹_›).elim
       | exact (qfR hq_ ‹_› ‹_›).elim
       | exact (qfS hq_ ‹_› ‹_›).elim
       | exact (qeb hq_ ‹_› ‹_›).elim
       | exact (qec hq_ ‹_› ‹_›).elim
       | exact (qfT hq_ ‹_› ‹_› ‹_›).elim
       | exact (us_n hq_ ‹_› ‹_› ‹_› ‹_› ‹_› ‹_›).elim
     ·
      refine wp_skip ?_
      refine qap ?_
      refine qap ?_
      refine qab ?_
      refine qar [0, 1] kz ?_
      refine qah [0, 1] [] [(3, .p 0 0), (12, .v (.slice A l.length c)), (13, .v (.int .i64 ((l.length : Nat) : Int))), (14, .v (.int .i64 (IntKind.i64.wrap (((k : Nat) : Int) + 1))))] ar bf fun gL di => ?_
      refine qae (qab ?_)
      obtain ⟨bL, dj, dl⟩ := ar.cutB di 1 [⟨bz, 0, [.int .i64 n1, .slice A6 s2.length c7, .bool b3, .slice A8 l4.length c9, .slice aJ u5.length aK], true⟩] [(3, .p 0 0), (12, .v (.slice A l.length c)), (13, .v (.int .i64 ((l.length : Nat) : Int))), (14, .v (.int .i64 (IntKind.i64.wrap (((k : Nat) : Int) + 1))))]
      obtain ⟨dp, dq⟩ := dj.cutR 0 []
      have dr : IntKind.i64.wrap (((k : Nat) : Int) + 1) = ((k + 1 : Nat) : Int) := qaJ (by omega)
      rw [dr] at bL
      exact ⟨l.length - (k + 1), by omega, k + 1, rfl, by omega, bL.pk, dp, ((((((((((aj.trans ak).trans al).trans ag).trans ab).trans ac).trans bd).trans ap).trans bJ).trans dl).trans dq)⟩
    ·
     have fv : ae ≠ 7 := by simpa using ba
     refine wp_seq ?_
     refine qam [(3, .p 0 0), (6, .p 1 0), (7, .p 2 0), (12, .v (.slice A l.length c)), (13, .v (.int .i64 ((l.length : Nat) : Int))), (14, .v (.int .i64 ((k : Nat) : Int))), (23, .v (.int .i64 ae)), (53, .v (.bool (ae == 9)))] aa aZ fun gM aH => ?_
     refine qat aH (b := ae == 9) kz (fun aI => ?_) (fun aI => ?_)
     ·
      have fw : ae = 9 := by simpa using aI
      refine wp_skip ?_
      refine qab ?_
      refine qaV aH (b := ae == 9) kz (aI) ?_
      refine qad [0, 1, 2, 3, 4, 5, 6, 7, 8, 9] kz ?_
      refine qah [0, 1, 2, 3, 4] [5, 6, 7, 8, 9] [(3, .p 0 0), (7, .p 2 0), (12, .v (.slice A l.length c)), (13, .v (.int .i64 ((l.length : Nat) : Int))), (14, .v (.int .i64 ((k : Nat) : Int))), (60, .v (.bool (decide (((af.length : Nat) : Int) > 0))))] aa aH fun gN bM => ?_
      refine (Bool.eq_false_or_eq_true (decide (((af.length : Nat) : Int) > 0))).elim (fun au => ?_) (fun au => ?_)
      ·
       have fx := of_decide_eq_true au
       have dt := bM.cast (env' := [(3, .p 0 0), (7, .p 2 0), (12, .v (.slice A l.length c)), (13, .v (.int .i64 ((l.length : Nat) : Int))), (14, .v (.int .i64 ((k : Nat) : Int))), (60, .v (.bool true))]) (by rw [au])
       refine qah [5, 6, 7, 8, 9] [] [(3, .p 0 0), (12, .v (.slice A l.length c)), (13, .v (.int .i64 ((l.length : Nat) : Int))), (14, .v (.int .i64 ((k : Nat) : Int))), (65, .v (.bool true))] aa dt fun gO bN => ?_
       refine qae (qab ?_)
       refine qaV bN (b := true) kz rfl ?_
       refine qam [(4, .v (.bool false))] aa bN fun gP du => ?_
       refine wp_ret ?_
       refine qau ?_
       refine qau ?_
       refine qal ?_
       refine qal ?_
       refine qau ?_
       refine qal ?_
       refine qaD du aa.cells (v := .bool false) kz ?_
       first
        | exact (qfP hq_ ‹_› ‹_›).elim
        | exact (qfQ hq_ ‹_› ‹_›).elim
        | exact (us_7 hq_ ‹_› ‹_›).elim
        | exact (qfR hq_ ‹_› ‹_›).elim
        | exact (qfS hq_ ‹_› ‹_›).elim
        | exact (qeb hq_ ‹_› ‹_›).elim
        | exact (qec hq_ ‹_› ‹_›).elim
        | exact (qfT hq_ ‹_› ‹_› ‹_›).elim
        | exact (us_n hq_ ‹_› ‹_› ‹_› ‹_› ‹_› ‹_›).elim
      ·
       have fy := of_decide_eq_false au
       have dv := bM.cast (env' := [(3, .p 0 0), (7, .p 2 0), (12, .v (.slice A l.length c)), (13, .v (.int .i64 ((l.length : Nat) : Int))), (14, .v (.int .i64 ((k : Nat) : Int))), (60, .v (.bool false))]) (by rw [au])
       refine qah [5, 6, 7, 8, 9] [] [(3, .p 0 0), (12, .v (.slice A l.length c)), (13, .v (.int .i64 ((l.length : Nat) : Int))), (14, .v (.int .i64 ((k : Nat) : Int))), (65, .v (.bool (decide (((am.length : Nat) : Int) > 0))))] aa dv fun gQ bg => ?_
       refine qae (qab ?_)
       refine qat bg (b := decide (((am.length : Nat) : Int) > 0)) kz (fun bh => ?_) (fun bh => ?_)
       ·
        have fz := of_decide_eq_true bh
        refine qam [(4, .v (.bool false))] aa bg fun gR dw => ?_
        refine wp_ret ?_
        refine qau ?_
        refine qau ?_
        refine qal ?_
        refine qal ?_
        refine qau ?_
        refine qal ?_
        refine qaD dw aa.cells (v := .bool false) kz ?_
        first
         | exact (qfP hq_ ‹_› ‹_›).elim
         | exact (qfQ hq_ ‹_› ‹_›).elim
         | exact (us_7 hq_ ‹_› ‹_›).elim
         | exact (qfR hq_ ‹_› ‹_›).elim
         | exact (qfS hq_ ‹_› ‹_›).elim
         | exact (qeb hq_ ‹_› ‹_›).elim
         | exact (qec hq_ ‹_› ‹_›).elim
         | exact (qfT hq_ ‹_› ‹_› ‹_›).elim
         | exact (us_n hq_ ‹_› ‹_› ‹_› ‹_› ‹_› ‹_›).elim
       ·
        have fA := of_decide_eq_false bh
        refine wp_skip ?_
        refine qap ?_
        refine qap ?_
        refine qab ?_
        refine qar [0, 1] kz ?_
        refine qah [0, 1] [] [(3, .p 0 0), (12, .v (.slice A l.length c)), (13, .v (.int .i64 ((l.length : Nat) : Int))), (14, .v (.int .i64 (IntKind.i64.wrap (((k : Nat) : Int) + 1))))] aa bg fun gS dx => ?_
        refine qae (qab ?_)
        obtain ⟨bO, dy, dz⟩ := aa.cutB dx 1 [⟨bz, 0, [.int .i64 n1, .slice A6 s2.length c7, .bool b3, .slice A8 l4.length c9, .slice aJ u5.length aK], true⟩] [(3, .p 0 0), (12, .v (.slice A l.length c)), (13, .v (.int .i64 ((l.length : Nat) : Int))), (14, .v (.int .i64 (IntKind.i64.wrap (((k : Nat) : Int) + 1))))]
        have dA : IntKind.i64.wrap (((k : Nat) : Int) + 1) = ((k + 1 : Nat) : Int) := qaJ (by omega)
        rw [dA] at bO
        exact ⟨l.length - (k + 1), by omega, k + 1, rfl, by omega, bO.pk, dy, ((((((aj.trans ak).trans al).trans ag).trans ab).trans ac).trans dz)⟩
     ·
      have fB : ae ≠ 9 := by simpa using aI
      refine qar [0, 1] kz ?_
      refine qah [0, 1] [] [(3, .p 0 0), (6, .p 1 0), (7, .p 2 0), (12, .v (.slice A l.length c)), (13, .v (.int .i64 ((l.length : Nat) : Int))), (14, .v (.int .i64 ((k : Nat) : Int))), (23, .v (.int .i64 ae)), (53, .v (.bool (ae == 11)))] aa aH fun gT bi => ?_
      refine qae (qab ?_)
      refine qat bi (b := ae == 11) kz (fun bj => ?_) (fun bj => ?_)
      ·
       have fC : ae = 11 := by simpa using bj
       refine qad [0, 1, 2, 3, 4, 5, 6, 7, 8, 9] kz ?_
       refine qah [0, 1, 2, 3, 4] [5, 6, 7, 8, 9] [(3, .p 0 0), (7, .p 2 0), (12, .v (.slice A l.length c)), (13, .v (.int .i64 ((l.length : Nat) : Int))), (14, .v (.int .i64 ((k : Nat) : Int))), (60, .v (.bool (decide (((af.length : Nat) : Int) > 0))))] aa bi fun gU bP => ?_
       refine (Bool.eq_false_or_eq_true (decide (((af.length : Nat) : Int) > 0))).elim (fun av => ?_) (fun av => ?_)
       ·
        have fD := of_decide_eq_true av
        have dB := bP.cast (env' := [(3, .p 0 0), (7, .p 2 0), (12, .v (.slice A l.length c)), (13, .v (.int .i64 ((l.length : Nat) : Int))), (14, .v (.int .i64 ((k : Nat) : Int))), (60, .v (.bool true))]) (by rw [av])
        refine qah [5, 6, 7, 8, 9] [] [(3, .p 0 0), (12, .v (.slice A l.length c)), (13, .v (.int .i64 ((l.length : Nat) : Int))), (14, .v (.int .i64 ((k : Nat) : Int))), (65, .v (.bool true))] aa dB fun gV bQ => ?_
        refine qae (qab ?_)
        refine qaV bQ (b := true) kz rfl ?_
        refine qam [(4, .v (.bool false))] aa bQ fun gW dC => ?_
        refine wp_ret ?_
        refine qau ?_
        refine qau ?_
        refine qal ?_
        refine qal ?_
        refine qau ?_
        refine qal ?_
        refine qaD dC aa.cells (v := .bool false) kz ?_
        first
         | exact (qfP hq_ ‹_› ‹_›).elim
         | exact (qfQ hq_ ‹_› ‹_›).elim
         | exact (us_7 hq_ ‹_› ‹_›).elim
         | exact (qfR hq_ ‹_› ‹_›).elim
         | exact (qfS hq_ ‹_› ‹_›).elim
         | exact (qeb hq_ ‹_› ‹_›).elim
         | exact (qec hq_ ‹_› ‹_›).elim
         | exact (qfT hq_ ‹_› ‹_› ‹_›).elim
         | exact (us_n hq_ ‹_› ‹_› ‹_› ‹_› ‹_› ‹_›).elim
       ·
        have fE := of_decide_eq_false av
        have dD := bP.cast (env' := [(3, .p 0 0), (7, .p 2 0), (12, .v (.slice A l.length c)), (13, .v (.int .i64 ((l.length : Nat) : Int))), (14, .v (.int .i64 ((k : Nat) : Int))), (60, .v (.bool false))]) (by rw [av])
        refine qah [5, 6, 7, 8, 9] [] [(3, .p 0 0), (12, .v (.slice A l.length c)), (13, .v (.int .i64 ((l.length : Nat) : Int))), (14, .v (.int .i64 ((k : Nat) : Int))), (65, .v (.bool (decide (((am.length : Nat) : Int) > 0))))] aa dD fun gX bk => ?_
        refine qae (qab ?_)
        refine qat bk (b := decide (((am.length : Nat) : Int) > 0)) kz (fun bn => ?_) (fun bn => ?_)
        ·
         have fF := of_decide_eq_true bn
         refine qam [(4, .v (.bool false))] aa bk fun gY dE => ?_
         refine wp_ret ?_
         refine qau ?_
         refine qau ?_
         refine qal ?_
         refine qal ?_
         refine qau ?_
         refine qal ?_
         refine qaD dE aa.cells (v := .bool false) kz ?_
         first
          | exact (qfP hq_ ‹_› ‹_›).elim
          | exact (qfQ hq_ ‹_› ‹_›).elim
          | exact (us_7 hq_ ‹_› ‹_›).elim
          | exact (qfR hq_ ‹_› ‹_›).elim
          | exact (qfS hq_ ‹_› ‹_›).elim
          | exact (qeb hq_ ‹_› ‹_›).elim
          | exact (qec hq_ ‹_› ‹_›).elim
          | exact (qfT hq_ ‹_› ‹_› ‹_›).elim
          | exact (us_n hq_ ‹_› ‹_› ‹_› ‹_› ‹_› ‹_›).elim
        ·
         have fG := of_decide_eq_false bn
         refine wp_skip ?_
         refine qap ?_
         refine qap ?_
         refine qab ?_
         refine qar [0, 1] kz ?_
         refine qah [0, 1] [] [(3, .p 0 0), (12, .v (.slice A l.length c)), (13, .v (.int .i64 ((l.length : Nat) : Int))), (14, .v (.int .i64 (IntKind.i64.wrap (((k : Nat) : Int) + 1))))] aa bk fun gZ dF => ?_
         refine qae (qab ?_)
         obtain ⟨bR, dG, dH⟩ := aa.cutB dF 1 [⟨bz, 0, [.int .i64 n1, .slice A6 s2.length c7, .bool b3, .slice A8 l4.length c9, .slice aJ u5.length aK], true⟩] [(3, .p 0 0), (12, .v (.slice A l.length c)), (13, .v (.int .i64 ((l.length : Nat) : Int))), (14, .v (.int .i64 (IntKind.i64.wrap (((k : Nat) : Int) + 1))))]
         have dI : IntKind.i64.wrap (((k : Nat) : Int) + 1) = ((k + 1 : Nat) : Int) := qaJ (by omega)
         rw [dI] at bR
         exact ⟨l.length - (k + 1), by omega, k + 1, rfl, by omega, bR.pk, dG, ((((((aj.trans ak).trans al).trans ag).trans ab).trans ac).trans dH)⟩
      ·
       have fH : ae ≠ 11 := by simpa using bj
       refine qam [(3, .p 0 0), (6, .p 1 0), (7, .p 2 0), (12, .v (.slice A l.length c)), (13, .v (.int .i64 ((l.length : Nat) : Int))), (14, .v (.int .i64 ((k : Nat) : Int))), (66, .v (.bool (ae == 10)))] aa bi fun g9 bo => ?_
       refine qat bo (b := ae == 10) kz (fun bp => ?_) (fun bp => ?_)
       ·
        have fI : ae = 10 := by simpa using bp
        refine qad [0, 1, 2, 3, 4, 5, 6, 7, 8, 9, 10, 11, 12, 13, 14, 15, 16, 17, 18, 19] kz ?_
        refine qah [0, 1, 2, 3] [4, 5, 6, 7, 8, 9, 10, 11, 12, 13, 14, 15, 16, 17, 18, 19] [(3, .p 0 0), (6, .p 1 0), (7, .p 2 0), (12, .v (.slice A l.length c)), (13, .v (.int .i64 ((l.length : Nat) : Int))), (14, .v (.int .i64 ((k : Nat) : Int))), (71, .v (.bool (decide (aE ≥ 0))))] aa bo fun hC bS => ?_
        refine (Bool.eq_false_or_eq_true (decide (aE ≥ 0))).elim (fun aw => ?_) (fun aw => ?_)
        ·
         have fJ := of_decide_eq_true aw
         have dJ := bS.cast (env' := [(3, .p 0 0), (6, .p 1 0), (7, .p 2 0), (12, .v (.slice A l.length c)), (13, .v (.int .i64 ((l.length : Nat) : Int))), (14, .v (.int .i64 ((k : Nat) : Int))), (71, .v (.bool true))]) (by rw [aw])
         refine qah [4, 5, 6, 7, 8] [9, 10, 11, 12, 13, 14, 15, 16, 17, 18, 19] [(3, .p 0 0), (6, .p 1 0), (7, .p 2 0), (12, .v (.slice A l.length c)), (13, .v (.int .i64 ((l.length : Nat) : Int))), (14, .v (.int .i64 ((k : Nat) : Int))), (76, .v (.bool (!ah)))] aa dJ fun hJ bT => ?_
         refine (Bool.eq_false_or_eq_true (!ah)).elim (fun bq => ?_) (fun bq => ?_)
         ·
          have dK := bT.cast (env' := [(3, .p 0 0), (6, .p 1 0), (7, .p 2 0), (12, .v (.slice A l.length c)), (13, .v (.int .i64 ((l.length : Nat) : Int))), (14, .v (.int .i64 ((k : Nat) : Int))), (76, .v (.bool true))]) (by rw [bq])
          refine qah [9, 10, 11, 12, 13, 14, 15, 16, 17, 18, 19] [] [(3, .p 0 0), (12, .v (.slice A l.length c)), (13, .v (.int .i64 ((l.length : Nat) : Int))), (14, .v (.int .i64 ((k : Nat) : Int))), (87, .v (.bool true))] aa dK fun hK bU => ?_
          refine qae (qab ?_)
          refine qaV bU (b := true) kz rfl ?_
          refine qam [(4, .v (.bool false))] aa bU fun hZ dL => ?_
          refine wp_ret ?_
          refine qau ?_
          refine qau ?_
          refine qal ?_
          refine qal ?_
          refine qau ?_
          refine qal ?_
          refine qaD dL aa.cells (v := .bool false) kz ?_
          first
           | exact (qfP hq_ ‹_› ‹_›).elim
           | exact (qfQ hq_ ‹_› ‹_›).elim
           | exact (us_7 hq_ ‹_› ‹_›).elim
           | exact (qfR hq_ ‹_› ‹_›).elim
           | exact (qfS hq_ ‹_› ‹_›).elim
           | exact (qeb hq_ ‹_› ‹_›).elim
           | exact (qec hq_ ‹_› ‹_›).elim
           | exact (qfT hq_ ‹_› ‹_› ‹_›).elim
           | exact (us_n hq_ ‹_› ‹_› ‹_› ‹_› ‹_› ‹_›).elim
         ·
          have dM := bT.cast (env' := [(3, .p 0 0), (6, .p 1 0), (7, .p 2 0), (12, .v (.slice A l.length c)), (13, .v (.int .i64 ((l.length : Nat) : Int))), (14, .v (.int .i64 ((k : Nat) : Int))), (76, .v (.bool false))]) (by rw [bq])
          refine qah [9, 10, 11, 12] [13, 14, 15, 16, 17, 18, 19] [(3, .p 0 0), (6, .p 1 0), (7, .p 2 0), (12, .v (.slice A l.length c)), (13, .v (.int .i64 ((l.length : Nat) : Int))), (14, .v (.int .i64 ((k : Nat) : Int))), (76, .v (.bool false)), (80, .v (.bool (decide (aE < 0))))] aa dM fun ia bV => ?_
          refine (Bool.eq_false_or_eq_true (decide (aE < 0))).elim (fun ax => ?_) (fun ax => ?_)
          ·
           have fK := of_decide_eq_true ax
           have dN := bV.cast (env' := [(3, .p 0 0), (6, .p 1 0), (7, .p 2 0), (12, .v (.slice A l.length c)), (13, .v (.int .i64 ((l.length : Nat) : Int))), (14, .v (.int .i64 ((k : Nat) : Int))), (76, .v (.bool false)), (80, .v (.bool true))]) (by rw [ax])
           refine qah [13, 14, 15] [16, 17, 18, 19] [(3, .p 0 0), (12, .v (.slice A l.length c)), (13, .v (.int .i64 ((l.length : Nat) : Int))), (14, .v (.int .i64 ((k : Nat) : Int))), (76, .v (.bool false)), (80, .v (.bool true)), (82, .v (.slice bC bA.length bD)), (83, .v (.agg #[.int .i64 ai, .slice aC af.length aD, .bool ah, .slice aP am.length aQ, .slice aR aO.length aS]))] aa dN fun ib dO => ?_
           refine qaj (qai dO (f := 61) (vs := [.slice bC bA.length bD, .agg #[.int .i64 ai, .slice aC af.length aD, .bool ah, .slice aP am.length aQ, .slice aR aO.length aS]]) (d := 84) kz Tryz.call61 ( hu _ _ bA _ _ _ _ ⟨cK, (eN.move aa.step nilM aa.imm), (fun i_ x_ h_ => ((fb i_ x_ h_).move aa.step nilM aa.imm))⟩ (aF.move (ab.trans ac).step immM (ab.trans ac).to') (by rw [aT]; exact us_sub hq_ ‹_› ‹_›)) ?_)
           rintro e_ ic ⟨rfl, bW⟩
           refine ⟨_, rfl, fun ig dP => ?_⟩
           have bt := aa.next_nil bW
           have dQ := aa.frN bW
           refine qah [17, 18, 19] [] [(3, .p 0 0), (12, .v (.slice A l.length c)), (13, .v (.int .i64 ((l.length : Nat) : Int))), (14, .v (.int .i64 ((k : Nat) : Int))), (87, .v (.bool false))] bt dP fun ii bX => ?_
           refine qae (qab ?_)
           refine qan bX (b := false) kz rfl ?_
           refine wp_skip ?_
           refine qap ?_
           refine qap ?_
           refine qab ?_
           refine qar [0, 1] kz ?_
           refine qah [0, 1] [] [(3, .p 0 0), (12, .v (.slice A l.length c)), (13, .v (.int .i64 ((l.length : Nat) : Int))), (14, .v (.int .i64 (IntKind.i64.wrap (((k : Nat) : Int) + 1))))] bt bX fun ij dR => ?_
           refine qae (qab ?_)
           obtain ⟨bY, dS, dT⟩ := bt.cutB dR 1 [⟨bz, 0, [.int .i64 n1, .slice A6 s2.length c7, .bool b3, .slice A8 l4.length c9, .slice aJ u5.length aK], true⟩] [(3, .p 0 0), (12, .v (.slice A l.length c)), (13, .v (.int .i64 ((l.length : Nat) : Int))), (14, .v (.int .i64 (IntKind.i64.wrap (((k : Nat) : Int) + 1))))]
           have dU : IntKind.i64.wrap (((k : Nat) : Int) + 1) = ((k + 1 : Nat) : Int) := qaJ (by omega)
           rw [dU] at bY
           exact ⟨l.length - (k + 1), by omega, k + 1, rfl, by omega, bY.pk, dS, (((((((aj.trans ak).trans al).trans ag).trans ab).trans ac).trans dQ).trans dT)⟩
          ·
           have fL := of_decide_eq_false ax
           have dV := bV.cast (env' := [(3, .p 0 0), (6, .p 1 0), (7, .p 2 0), (12, .v (.slice A l.length c)), (13, .v (.int .i64 ((l.length : Nat) : Int))), (14, .v (.int .i64 ((k : Nat) : Int))), (76, .v (.bool false)), (80, .v (.bool false))]) (by rw [ax])
           refine qah [13, 14, 15, 16, 17, 18, 19] [] [(3, .p 0 0), (12, .v (.slice A l.length c)), (13, .v (.int .i64 ((l.length : Nat) : Int))), (14, .v (.int .i64 ((k : Nat) : Int))), (87, .v (.bool false))] aa dV fun ik bZ => ?_
           refine qae (qab ?_)
           refine qan bZ (b := false) kz rfl ?_
           refine wp_skip ?_
           refine qap ?_
           refine qap ?_
           refine qab ?_
           refine qar [0, 1] kz ?_
           refine qah [0, 1] [] [(3, .p 0 0), (12, .v (.slice A l.length c)), (13, .v (.int .i64 ((l.length : Nat) : Int))), (14, .v (.int .i64 (IntKind.i64.wrap (((k : Nat) : Int) + 1))))] aa bZ fun il dW => ?_
           refine qae (qab ?_)
           obtain ⟨b8, dX, dY⟩ := aa.cutB dW 1 [⟨bz, 0, [.int .i64 n1, .slice A6 s2.length c7, .bool b3, .slice A8 l4.length c9, .slice aJ u5.length aK], true⟩] [(3, .p 0 0), (12, .v (.slice A l.length c)), (13, .v (.int .i64 ((l.length : Nat) : Int))), (14, .v (.int .i64 (IntKind.i64.wrap (((k : Nat) : Int) + 1))))]
           have dZ : IntKind.i64.wrap (((k : Nat) : Int) + 1) = ((k + 1 : Nat) : Int) := qaJ (by omega)
           rw [dZ] at b8
           exact ⟨l.length - (k + 1), by omega, k + 1, rfl, by omega, b8.pk, dX, ((((((aj.trans ak).trans al).trans ag).trans ab).trans ac).trans dY)⟩
        ·
         have fM := of_decide_eq_false aw
         have d5 := bS.cast (env' := [(3, .p 0 0), (6, .p 1 0), (7, .p 2 0), (12, .v (.slice A l.length c)), (13, .v (.int .i64 ((l.length : Nat) : Int))), (14, .v (.int .i64 ((k : Nat) : Int))), (71, .v (.bool false))]) (by rw [aw])
         refine qah [4, 5, 6, 7, 8, 9, 10, 11, 12] [13, 14, 15, 16, 17, 18, 19] [(3, .p 0 0), (6, .p 1 0), (7, .p 2 0), (12, .v (.slice A l.length c)), (13, .v (.int .i64 ((l.length : Nat) : Int))), (14, .v (.int .i64 ((k : Nat) : Int))), (76, .v (.bool false)), (80, .v (.bool (decide (aE < 0))))] aa d5 fun im cd => ?_
         refine (Bool.eq_false_or_eq_true (decide (aE < 0))).elim (fun ay => ?_) (fun ay => ?_)
         ·
          have fN := of_decide_eq_true ay
          have d6 := cd.cast (env' := [(3, .p 0 0), (6, .p 1 0), (7, .p 2 0), (12, .v (.slice A l.length c)), (13, .v (.int .i64 ((l.length : Nat) : Int))), (14, .v (.int .i64 ((k : Nat) : Int))), (76, .v (.bool false)), (80, .v (.bool true))]) (by rw [ay])
          refine qah [13, 14, 15] [16, 17, 18, 19] [(3, .p 0 0), (12, .v (.slice A l.length c)), (13, .v (.int .i64 ((l.length : Nat) : Int))), (14, .v (.int .i64 ((k : Nat) : Int))), (76, .v (.bool false)), (80, .v (.bool true)), (82, .v (.slice bC bA.length bD)), (83, .v (.agg #[.int .i64 ai, .slice aC af.length aD, .bool ah, .slice aP am.length aQ, .slice aR aO.length aS]))] aa d6 fun io d7 => ?_
          refine qaj (qai d7 (f := 61) (vs := [.slice bC bA.length bD, .agg #[.int .i64 ai, .slice aC af.length aD, .bool ah, .slice aP am.length aQ, .slice aR aO.length aS]]) (d := 84) kz Tryz.call61 ( hu _ _ bA _ _ _ _ ⟨cK, (eN.move aa.step nilM aa.imm), (fun i_ x_ h_ => ((fb i_ x_ h_).move aa.step nilM aa.imm))⟩ (aF.move (ab.trans ac).step immM (ab.trans ac).to') (by rw [aT]; exact us_sub hq_ ‹_› ‹_›)) ?_)
          rintro e_ ip ⟨rfl, ce⟩
          refine ⟨_, rfl, fun iq d8 => ?_⟩
          have bu := aa.next_nil ce
          have d9 := aa.frN ce
          refine qah [17, 18, 19] [] [(3, .p 0 0), (12, .v (.slice A l.length c)), (13, .v (.int .i64 ((l.length : Nat) : Int))), (14, .v (.int .i64 ((k : Nat) : Int))), (87, .v (.bool false))] bu d8 fun ir cm => ?_
          refine qae (qab ?_)
          refine qan cm (b := false) kz rfl ?_
          refine wp_skip ?_
          refine qap ?_
          refine qap ?_
          refine qab ?_
          refine qar [0, 1] kz ?_
          refine qah [0, 1] [] [(3, .p 0 0), (12, .v (.slice A l.length c)), (13, .v (.int .i64 ((l.length : Nat) : Int))), (14, .v (.int .i64 (IntKind.i64.wrap (((k : Nat) : Int) + 1))))] bu cm fun iu ea => ?_
          refine qae (qab ?_)
          obtain ⟨cq, eb, ec⟩ := bu.cutB ea 1 [⟨bz, 0, [.int .i64 n1, .slice A6 s2.length c7, .bool b3, .slice A8 l4.length c9, .slice aJ u5.length aK], true⟩] [(3, .p 0 0), (12, .v (.slice A l.length c)), (13, .v (.int .i64 ((l.length : Nat) : Int))), (14, .v (.int .i64 (IntKind.i64.wrap (((k : Nat) : Int) + 1))))]
          have ee : IntKind.i64.wrap (((k : Nat) : Int) + 1) = ((k + 1 : Nat) : Int) := qaJ (by omega)
          rw [ee] at cq
          exact ⟨l.length - (k + 1), by omega, k + 1, rfl, by omega, cq.pk, eb, (((((((aj.trans ak).trans al).trans ag).trans ab).trans ac).trans d9).trans ec)⟩
         ·
          have fO := of_decide_eq_false ay
          have ef := cd.cast (env' := [(3, .p 0 0), (6, .p 1 0), (7, .p 2 0), (12, .v (.slice A l.length c)), (13, .v (.int .i64 ((l.length : Nat) : Int))), (14, .v (.int .i64 ((k : Nat) : Int))), (76, .v (.bool false)), (80, .v (.bool false))]) (by rw [ay])
          refine qah [13, 14, 15, 16, 17, 18, 19] [] [(3, .p 0 0), (12, .v (.slice A l.length c)), (13, .v (.int .i64 ((l.length : Nat) : Int))), (14, .v (.int .i64 ((k : Nat) : Int))), (87, .v (.bool false))] aa ef fun iv cr => ?_
          refine qae (qab ?_)
          refine qan cr (b := false) kz rfl ?_
          refine wp_skip ?_
          refine qap ?_
          refine qap ?_
          refine qab ?_
          refine qar [0, 1] kz ?_
          refine qah [0, 1] [] [(3, .p 0 0), (12, .v (.slice A l.length c)), (13, .v (.int .i64 ((l.length : Nat) : Int))), (14, .v (.int .i64 (IntKind.i64.wrap (((k : Nat) : Int) + 1))))] aa cr fun iw eg => ?_
          refine qae (qab ?_)
          obtain ⟨cu, eh, ei⟩ := aa.cutB eg 1 [⟨bz, 0, [.int .i64 n1, .slice A6 s2.length c7, .bool b3, .slice A8 l4.length c9, .slice aJ u5.length aK], true⟩] [(3, .p 0 0), (12, .v (.slice A l.length c)), (13, .v (.int .i64 ((l.length : Nat) : Int))), (14, .v (.int .i64 (IntKind.i64.wrap (((k : Nat) : Int) + 1))))]
          have ej : IntKind.i64.wrap (((k : Nat) : Int) + 1) = ((k + 1 : Nat) : Int) := qaJ (by omega)
          rw [ej] at cu
          exact ⟨l.length - (k + 1), by omega, k + 1, rfl, by omega, cu.pk, eh, ((((((aj.trans ak).trans al).trans ag).trans ab).trans ac).trans ei)⟩
       ·
        have fP : ae ≠ 10 := by simpa using bp
        refine qaE 8 kz aa fun ix ek cw em => ?_
        refine qaF [0, 1, 2, 3, 4, 5] [(3, .p 0 0), (12, .v (.slice A l.length c)), (13, .v (.int .i64 ((l.length : Nat) : Int))), (14, .v (.int .i64 ((k : Nat) : Int))), (25, .v (.int .i64 ai)), (27, .v (.int .i64 ae)), (29, .v (.int .i64 aM))] 2 (qaa (qac (qac (qaa (qaa (qac (qaa qaf))))))) (fun _ h => h.cells) em bo fun iy eo => ?_
        refine qay (i := 6) kz (qai eo (f := 132) (vs := [.int .i64 ae, .int .i64 aM]) (d := 30) kz Tryz.call132 (qfX ae aM _) ?_)
        rintro e_ iz ⟨rfl, cz⟩
        refine ⟨_, rfl, fun iA ep => ?_⟩
        have az := cw.next_nil cz
        have cA := cw.frN cz
        have cB := TT.ofW cA az
        refine ⟨fun _ => cB, ?_⟩
        refine qaF [7] [(3, .p 0 0), (12, .v (.slice A l.length c)), (13, .v (.int .i64 ((l.length : Nat) : Int))), (14, .v (.int .i64 ((k : Nat) : Int))), (31, .v (.bool (ai != (qbi ae aM))))] 0 (qaa (qac (qac (qaa (qaa (qac (qaa qaf))))))) (fun _ h => h.cells) cB ep fun iB bw => ?_
        refine qaC kz ?_ _
        refine qab ?_
        refine qat bw (b := ai != (qbi ae aM)) kz (fun bx => ?_) (fun bx => ?_)
        ·
         have fQ : ai ≠ (qbi ae aM) := by simpa using bx
         refine qam [(4, .v (.bool false))] az bw fun iC eu => ?_
         refine wp_ret ?_
         refine qau ?_
         refine qau ?_
         refine qal ?_
         refine qal ?_
         refine qau ?_
         refine qal ?_
         refine qaD eu az.cells (v := .bool false) kz ?_
         first
          | exact (qfP hq_ ‹_› ‹_›).elim
          | exact (qfQ hq_ ‹_› ‹_›).elim
          | exact (us_7 hq_ ‹_› ‹_›).elim
          | exact (qfR hq_ ‹_› ‹_›).elim
          | exact (qfS hq_ ‹_› ‹_›).elim
          | exact (qeb hq_ ‹_› ‹_›).elim
          | exact (qec hq_ ‹_› ‹_›).elim
          | exact (qfT hq_ ‹_› ‹_› ‹_›).elim
          | exact (us_n hq_ ‹_› ‹_› ‹_› ‹_› ‹_› ‹_›).elim
        ·
         have fR : ai = (qbi ae aM) := by simpa using bx
         refine wp_skip ?_
         refine qap ?_
         refine qap ?_
         refine qab ?_
         refine qar [0, 1] kz ?_
         refine qah [0, 1] [] [(3, .p 0 0), (12, .v (.slice A l.length c)), (13, .v (.int .i64 ((l.length : Nat) : Int))), (14, .v (.int .i64 (IntKind.i64.wrap (((k : Nat) : Int) + 1))))] az bw fun iD ev => ?_
         refine qae (qab ?_)
         obtain ⟨cC, ew, ey⟩ := az.cutB ev 1 [⟨bz, 0, [.int .i64 n1, .slice A6 s2.length c7, .bool b3, .slice A8 l4.length c9, .slice aJ u5.length aK], true⟩] [(3, .p 0 0), (12, .v (.slice A l.length c)), (13, .v (.int .i64 ((l.length : Nat) : Int))), (14, .v (.int .i64 (IntKind.i64.wrap (((k : Nat) : Int) + 1))))]
         have ez : IntKind.i64.wrap (((k : Nat) : Int) + 1) = ((k + 1 : Nat) : Int) := qaJ (by omega)
         rw [ez] at cC
         exact ⟨l.length - (k + 1), by omega, k + 1, rfl, by omega, cC.pk, ew, ((((((((aj.trans ak).trans al).trans ag).trans ab).trans ac).trans ek).trans cA).trans ey)⟩
  ·
   have fS := of_decide_eq_false cH
   refine wp_exit ?_
   refine qaz ?_
   refine qaz ?_
   refine qaI ?_
   refine qab ?_
   refine qam [(4, .v (.bool true))] aB cG fun iE eB => ?_
   refine wp_ret ?_
   refine qaD eB aB.cells (v := .bool true) kz ?_
   exact ⟨rfl, aB.step⟩
theorem sUsualP : ∀ d, UsOK (UsualP d)
 | 0 => sUs fun _ _ _ _ _ _ _ _ _ h => h.elim
 | d + 1 => sUs (sUsualP d)
def ToOK (v : Int) (flex : Bool) (T : List Fld → Tree → Tree → Prop) : Prop := ∀ (A : Option Addr) (c : Nat) (l : List Fld) (ct : List Value) (t : Tree) (cg : List Value) (g : Tree) (w : World) (F : Nat → Nat → Prop), FldsR w F A c l → TreeR w F ct t → TreeR w F cg g → plains l → T l t g →
  Calls Tryz.prog 19 #[.slice A l.length c, .int .i64 v, .bool flex, .agg ct.toArray, .agg cg.toArray] w (qbW w (.bool true))
theorem sTold0 {v : Int} {flex : Bool} {T : List Fld → Tree → Tree → Prop} (hT : ToOK v flex T) (cf : List Value) (f : Fld) (ct : List Value) (t : Tree) (cg : List Value) (g : Tree) (w : World) (F : Nat → Nat → Prop) (hf : FldR w F cf f) (hpl : plains f.sub) (bt : f.kind ≠ 11) (ht : TreeR w F ct t) (hg : TreeR w F cg g) (hq : ToF0 T v f t g) :
  Calls Tryz.prog 60 #[.agg cf.toArray, .int .i64 v, .bool flex, .agg ct.toArray, .agg cg.toArray] w (qbW w (.bool true)) := by
 obtain ⟨k1, y2, y3, y4, y5, y6, y7, l8, A9, dT, d5, rfl, rfl, iL, jc⟩ := hf.open_
 have jd := iL.small
 obtain ⟨ac, ab, ae, af, ag, ai, aj, dU, dV, dW, dX, kM, rfl, rfl, aH, kN, oS, oT⟩ := ht.open_
 have je := aH.small
 have jf := kN.small
 obtain ⟨aN, ah, ap, dY, dZ, al, am, d6, d7, d8, d9, kO, rfl, rfl, bq, kP, oU, oV⟩ := hg.open_
 have jg := bq.small
 have jh := kP.small
 replace hpl : plains l8 := hpl
 have bt : k1 ≠ 11 := bt
 refine enter (n := 124) Tryz.func60 rfl Tryz.ntmps60 kz fun a hE => ?_
 have hW := WOk.start w Nil
 refine qad [0, 1, 2, 3] kz ?_
 refine qaj (qa7 hW hE (d := 5) (cs := [.int .i64 k1, .int .i64 y2, .int .i64 y3, .int .i64 y4, .int .i64 y5, .int .i64 y6, .int .i64 y7, .slice A9 l8.length dT]) kz fun oW oX oY kQ kR kS iM iN => ?_)
 refine qaj (qa7 iM iN (d := 8) (cs := [.int .i64 ac, .slice ai ab.length aj, .bool ae, .slice dU af.length dV, .slice dW ag.length dX]) kz fun oZ o5 o6 kT kU kV iO iP => ?_)
 refine qaj (qa7 iO iP (d := 9) (cs := [.int .i64 aN, .slice al ah.length am, .bool ap, .slice d6 dY.length d7, .slice d8 dZ.length d9]) kz fun o7 o9 pa kW kX kY cJ iQ => ?_)
 refine qah [3] [] [(1, .v (.int .i64 v)), (2, .v (.bool flex)), (5, .p 0 0), (8, .p 1 0), (9, .p 2 0)] cJ iQ fun pb iR => ?_
 refine qae (qab ?_)
 refine qad [0, 1, 2, 3, 4] kz ?_
 refine qah [0, 1, 2] [3, 4] [(1, .v (.int .i64 v)), (2, .v (.bool flex)), (5, .p 0 0), (8, .p 1 0), (9, .p 2 0), (17, .v (.agg #[.int .i64 k1, .int .i64 y2, .int .i64 y3, .int .i64 y4, .int .i64 y5, .int .i64 y6, .int .i64 y7, .slice A9 l8.length dT])), (18, .v (.int .i64 v)), (19, .v (.agg #[.int .i64 ac, .slice ai ab.length aj, .bool ae, .slice dU af.length dV, .slice dW ag.length dX]))] cJ iR fun pc iS => ?_
 refine qaj (qai iS (f := 130) (vs := [.agg #[.int .i64 k1, .int .i64 y2, .int .i64 y3, .int .i64 y4, .int .i64 y5, .int .i64 y6, .int .i64 y7, .slice A9 l8.length dT], .int .i64 v, .agg #[.int .i64 ac, .slice ai ab.length aj, .bool ae, .slice dU af.length dV, .slice dW ag.length dX]]) (d := 20) kz Tryz.call130 (sNull k1 y2 y3 y4 y5 y6 y7 l8 _ _ v ac ab ae af ag _ _ _ _ _ _ _) ?_)
 rintro e_ pd ⟨rfl, ea⟩
 refine ⟨_, rfl, fun pe iT => ?_⟩
 have aa := cJ.next_nil ea
 have kZ := cJ.frN ea
 refine qah [4] [] [(1, .v (.int .i64 v)), (2, .v (.bool flex)), (5, .p 0 0), (8, .p 1 0), (9, .p 2 0), (11, .v (.bool (Fld.nul (Fld.mk k1 y2 y3 y4 y5 y6 y7 l8) v (Tree.mk ac ab ae af ag))))] aa iT fun pf iU => ?_
 refine qae (qab ?_)
 refine qad [0, 1, 2, 3, 4, 5, 6, 7, 8, 9] kz ?_
 refine qah [0, 1, 2, 3] [4, 5, 6, 7, 8, 9] [(1, .v (.int .i64 v)), (2, .v (.bool flex)), (5, .p 0 0), (8, .p 1 0), (9, .p 2 0), (11, .v (.bool (Fld.nul (Fld.mk k1 y2 y3 y4 y5 y6 y7 l8) v (Tree.mk ac ab ae af ag)))), (24, .v (.bool (decide (y4 ≥ 0))))] aa iU fun pg eb => ?_
 refine (Bool.eq_false_or_eq_true (decide (y4 ≥ 0))).elim (fun bu => ?_) (fun bu => ?_)
 ·
  have k5 := of_decide_eq_true bu
  have iV := eb.cast (env' := [(1, .v (.int .i64 v)), (2, .v (.bool flex)), (5, .p 0 0), (8, .p 1 0), (9, .p 2 0), (11, .v (.bool (Fld.nul (Fld.mk k1 y2 y3 y4 y5 y6 y7 l8) v (Tree.mk ac ab ae af ag)))), (24, .v (.bool true))]) (by rw [bu])
  refine qah [4, 5, 6, 7, 8, 9] [] [(1, .v (.int .i64 v)), (2, .v (.bool flex)), (5, .p 0 0), (8, .p 1 0), (9, .p 2 0), (11, .v (.bool (Fld.nul (Fld.mk k1 y2 y3 y4 y5 y6 y7 l8) v (Tree.mk ac ab ae af ag)))), (12, .v (.bool (decide (v ≥ y4))))] aa iV fun ph iW => ?_
  refine qae (qab ?_)
  refine wp_seq ?_
  refine qad [0, 1, 2, 3, 4, 5, 6, 7, 8, 9, 10, 11, 12, 13, 14, 15, 16] kz ?_
  refine qah [0, 1, 2, 3] [4, 5, 6, 7, 8, 9, 10, 11, 12, 13, 14, 15, 16] [(1, .v (.int .i64 v)), (2, .v (.bool flex)), (5, .p 0 0), (8, .p 1 0), (9, .p 2 0), (11, .v (.bool (Fld.nul (Fld.mk k1 y2 y3 y4 y5 y6 y7 l8) v (Tree.mk ac ab ae af ag)))), (12, .v (.bool (decide (v ≥ y4)))), (33, .v (.bool (k1 == 8)))] aa iW fun pi cK => ?_
  refine (Bool.eq_false_or_eq_true (k1 == 8)).elim (fun ak => ?_) (fun ak => ?_)
  ·
   have ji : k1 = 8 := by simpa using ak
   have ec := cK.cast (env' := [(1, .v (.int .i64 v)), (2, .v (.bool flex)), (5, .p 0 0), (8, .p 1 0), (9, .p 2 0), (11, .v (.bool (Fld.nul (Fld.mk k1 y2 y3 y4 y5 y6 y7 l8) v (Tree.mk ac ab ae af ag)))), (12, .v (.bool (decide (v ≥ y4)))), (33, .v (.bool true))]) (by rw [ak])
   refine qah [4, 5, 6, 7, 8, 9, 10, 11, 12, 13, 14, 15, 16] [] [(1, .v (.int .i64 v)), (2, .v (.bool flex)), (5, .p 0 0), (8, .p 1 0), (9, .p 2 0), (11, .v (.bool (Fld.nul (Fld.mk k1 y2 y3 y4 y5 y6 y7 l8) v (Tree.mk ac ab ae af ag)))), (46, .v (.bool (!(ap == (Fld.nul (Fld.mk k1 y2 y3 y4 y5 y6 y7 l8) v (Tree.mk ac ab ae af ag))))))] aa ec fun k6 bw => ?_
   refine qae (qab ?_)
   refine qat bw (b := !(ap == (Fld.nul (Fld.mk k1 y2 y3 y4 y5 y6 y7 l8) v (Tree.mk ac ab ae af ag)))) kz (fun bx => ?_) (fun bx => ?_)
   ·
    have jj : !(ap = (Fld.nul (Fld.mk k1 y2 y3 y4 y5 y6 y7 l8) v (Tree.mk ac ab ae af ag))) := by simpa using bx
    refine qam [(10, .v (.bool false))] aa bw fun k7 ee => ?_
    refine wp_ret ?_
    refine qal ?_
    refine qaD ee aa.cells (v := .bool false) kz ?_
    first
     | exact (to_n8 hq ‹_› ‹_›).elim
     | exact (qgw hq ‹_› ‹_›).elim
     | exact (qfU hq ‹_› ‹_› ‹_›).elim
   ·
    have jk : !(ap ≠ (Fld.nul (Fld.mk k1 y2 y3 y4 y5 y6 y7 l8) v (Tree.mk ac ab ae af ag))) := by simpa using bx
    refine wp_skip ?_
    refine qab ?_
    refine wp_seq ?_
    refine qam [(1, .v (.int .i64 v)), (2, .v (.bool flex)), (5, .p 0 0), (8, .p 1 0), (9, .p 2 0), (47, .v (.bool (Fld.nul (Fld.mk k1 y2 y3 y4 y5 y6 y7 l8) v (Tree.mk ac ab ae af ag))))] aa bw fun k8 bz => ?_
    refine qat bz (b := Fld.nul (Fld.mk k1 y2 y3 y4 y5 y6 y7 l8) v (Tree.mk ac ab ae af ag)) kz (fun ef => ?_) (fun ef => ?_)
    ·
     refine qam [(10, .v (.bool true))] aa bz fun k9 eg => ?_
     refine wp_ret ?_
     refine qal ?_
     refine qaD eg aa.cells (v := .bool true) kz ?_
     exact ⟨rfl, aa.step⟩
    ·
     refine wp_skip ?_
     refine qab ?_
     refine wp_seq ?_
     refine qam [(1, .v (.int .i64 v)), (2, .v (.bool flex)), (5, .p 0 0), (8, .p 1 0), (9, .p 2 0), (49, .v (.int .i64 k1))] aa bz fun la eh => ?_
     refine wp_block ?_
     refine wp_seq ?_
     refine qam [(1, .v (.int .i64 v)), (2, .v (.bool flex)), (5, .p 0 0), (8, .p 1 0), (9, .p 2 0), (49, .v (.int .i64 k1)), (50, .v (.bool (k1 == 8)))] aa eh fun lb bA => ?_
     refine qaV bA (b := k1 == 8) kz (ak) ?_
     refine wp_skip ?_
     refine qab ?_
     refine qaV bA (b := k1 == 8) kz (ak) ?_
     refine qaE 6 kz aa fun lc jl aU ei => ?_
     refine qaF [0, 1, 2, 3] [(54, .v (.slice al ah.length am)), (56, .v (.slice ai ab.length aj))] 3 (qaa (qac (qaa qaf))) (fun _ h => h.cells) ei bA fun ld ej => ?_
     have iX := qa6 ab
     refine qay (i := 4) kz (qai ej (f := 64) (vs := [.slice ai ab.length aj]) (d := 57) kz Tryz.call64 (qc7 _ _ ab (aH.move aU.step nilM aU.imm).le _) ?_)
     rintro e_ lf ⟨rfl, cL⟩
     refine ⟨_, rfl, fun lg ek => ?_⟩
     have az := aU.next_nil cL
     have cM := aU.frN cL
     have em := TT.ofW cM az
     refine ⟨fun _ => em, ?_⟩
     refine qay (i := 5) kz (qai ek (f := 63) (vs := [.slice al ah.length am, .slice ai ((qaB ab).length) aj]) (d := 58) kz Tryz.call63 (qdK _ _ _ _ ah (qaB ab) _ _ ((bq.move az.step nilM az.imm).move (Step.refl _ Nil) nilM allF) (((aH.take 32767).move az.step nilM az.imm).move (Step.refl _ Nil) nilM allF)) ?_)
     rintro e_ lh ⟨rfl, cN⟩
     refine ⟨_, rfl, fun li eo => ?_⟩
     have aV := az.next_nil cN
     have ep := az.frN cN
     have eu := TT.ofW (cM.trans ep) aV
     refine ⟨fun _ => eu, ?_⟩
     refine qay (i := 6) kz (qa9 [10] aV.cells eo (env' := [(10, .v (.bool (decide (ah = (qaB ab)))))]) kz fun lj ev => ?_)
     refine ⟨fun h => absurd rfl h, ?_⟩
     refine qaC kz ?_ _
     refine qab ?_
     refine wp_ret ?_
     refine qau ?_
     refine qal ?_
     refine qaD ev aV.cells (v := .bool (decide (ah = (qaB ab)))) kz ?_
     refine ⟨congrArg (fun b_ => Ending.returned (Value.bool b_)) ?_, aV.step⟩
     first
      | exact qdP hq ‹_› ‹_›
      | exact qdQ hq ‹_› ‹_›
      | exact to_u hq ‹_› ‹_›
      | exact to_m hq ‹_› ‹_› ‹_› ‹_› ‹_› ‹_›
  ·
   have jm : k1 ≠ 8 := by simpa using ak
   have ew := cK.cast (env' := [(1, .v (.int .i64 v)), (2, .v (.bool flex)), (5, .p 0 0), (8, .p 1 0), (9, .p 2 0), (11, .v (.bool (Fld.nul (Fld.mk k1 y2 y3 y4 y5 y6 y7 l8) v (Tree.mk ac ab ae af ag)))), (12, .v (.bool (decide (v ≥ y4)))), (33, .v (.bool false))]) (by rw [ak])
   refine qah [4, 5, 6, 7, 8] [9, 10, 11, 12, 13, 14, 15, 16] [(1, .v (.int .i64 v)), (2, .v (.bool flex)), (5, .p 0 0), (8, .p 1 0), (9, .p 2 0), (11, .v (.bool (Fld.nul (Fld.mk k1 y2 y3 y4 y5 y6 y7 l8) v (Tree.mk ac ab ae af ag)))), (12, .v (.bool (decide (v ≥ y4)))), (38, .v (.bool (k1 == 10)))] aa ew fun lm cO => ?_
   refine (Bool.eq_false_or_eq_true (k1 == 10)).elim (fun ay => ?_) (fun ay => ?_)
   ·
    have jn : k1 = 10 := by simpa using ay
    have ey := cO.cast (env' := [(1, .v (.int .i64 v)), (2, .v (.bool flex)), (5, .p 0 0), (8, .p 1 0), (9, .p 2 0), (11, .v (.bool (Fld.nul (Fld.mk k1 y2 y3 y4 y5 y6 y7 l8) v (Tree.mk ac ab ae af ag)))), (12, .v (.bool (decide (v ≥ y4)))), (38, .v (.bool true))]) (by rw [ay])
    refine qah [9, 10, 11, 12, 13, 14, 15, 16] [] [(1, .v (.int .i64 v)), (2, .v (.bool flex)), (5, .p 0 0), (8, .p 1 0), (9, .p 2 0), (11, .v (.bool (Fld.nul (Fld.mk k1 y2 y3 y4 y5 y6 y7 l8) v (Tree.mk ac ab ae af ag)))), (46, .v (.bool (!(ap == (Fld.nul (Fld.mk k1 y2 y3 y4 y5 y6 y7 l8) v (Tree.mk ac ab ae af ag))))))] aa ey fun ln bB => ?_
    refine qae (qab ?_)
    refine qat bB (b := !(ap == (Fld.nul (Fld.mk k1 y2 y3 y4 y5 y6 y7 l8) v (Tree.mk ac ab ae af ag)))) kz (fun bC => ?_) (fun bC => ?_)
    ·
     have jo : !(ap = (Fld.nul (Fld.mk k1 y2 y3 y4 y5 y6 y7 l8) v (Tree.mk ac ab ae af ag))) := by simpa using bC
     refine qam [(10, .v (.bool false))] aa bB fun lp ez => ?_
     refine wp_ret ?_
     refine qal ?_
     refine qaD ez aa.cells (v := .bool false) kz ?_
     first
      | exact (to_n8 hq ‹_› ‹_›).elim
      | exact (qgw hq ‹_› ‹_›).elim
      | exact (qfU hq ‹_› ‹_› ‹_›).elim
    ·
     have jp : !(ap ≠ (Fld.nul (Fld.mk k1 y2 y3 y4 y5 y6 y7 l8) v (Tree.mk ac ab ae af ag))) := by simpa using bC
     refine wp_skip ?_
     refine qab ?_
     refine wp_seq ?_
     refine qam [(1, .v (.int .i64 v)), (2, .v (.bool flex)), (5, .p 0 0), (8, .p 1 0), (9, .p 2 0), (47, .v (.bool (Fld.nul (Fld.mk k1 y2 y3 y4 y5 y6 y7 l8) v (Tree.mk ac ab ae af ag))))] aa bB fun lq bD => ?_
     refine qat bD (b := Fld.nul (Fld.mk k1 y2 y3 y4 y5 y6 y7 l8) v (Tree.mk ac ab ae af ag)) kz (fun eB => ?_) (fun eB => ?_)
     ·
      refine qam [(10, .v (.bool true))] aa bD fun lr eC => ?_
      refine wp_ret ?_
      refine qal ?_
      refine qaD eC aa.cells (v := .bool true) kz ?_
      exact ⟨rfl, aa.step⟩
     ·
      refine wp_skip ?_
      refine qab ?_
      refine wp_seq ?_
      refine qam [(1, .v (.int .i64 v)), (2, .v (.bool flex)), (5, .p 0 0), (8, .p 1 0), (9, .p 2 0), (49, .v (.int .i64 k1))] aa bD fun ls eD => ?_
      refine wp_block ?_
      refine wp_seq ?_
      refine qam [(1, .v (.int .i64 v)), (2, .v (.bool flex)), (5, .p 0 0), (8, .p 1 0), (9, .p 2 0), (49, .v (.int .i64 k1)), (50, .v (.bool (k1 == 8)))] aa eD fun lu cP => ?_
      refine qan cP (b := k1 == 8) kz (ak) ?_
      refine qar [0, 1] kz ?_
      refine qah [0, 1] [] [(1, .v (.int .i64 v)), (2, .v (.bool flex)), (5, .p 0 0), (8, .p 1 0), (9, .p 2 0), (49, .v (.int .i64 k1)), (50, .v (.bool (k1 == 9)))] aa cP fun lv bE => ?_
      refine qae (qab ?_)
      refine qat bE (b := k1 == 9) kz (fun bF => ?_) (fun bF => ?_)
      ·
       have jq : k1 = 9 := by simpa using bF
       refine qaE 6 kz aa fun lw jr aW eE => ?_
       refine qaF [0, 1, 2, 3] [(54, .v (.slice al ah.length am)), (56, .v (.slice ai ab.length aj))] 3 (qaa (qac (qaa qaf))) (fun _ h => h.cells) eE bE fun lx eF => ?_
       have iY := qa6 ab
       refine qay (i := 4) kz (qai eF (f := 64) (vs := [.slice ai ab.length aj]) (d := 57) kz Tryz.call64 (qc7 _ _ ab (aH.move aW.step nilM aW.imm).le _) ?_)
       rintro e_ ly ⟨rfl, cQ⟩
       refine ⟨_, rfl, fun lz eG => ?_⟩
       have aA := aW.next_nil cQ
       have cR := aW.frN cQ
       have eH := TT.ofW cR aA
       refine ⟨fun _ => eH, ?_⟩
       refine qay (i := 5) kz (qai eG (f := 63) (vs := [.slice al ah.length am, .slice ai ((qaB ab).length) aj]) (d := 58) kz Tryz.call63 (qdK _ _ _ _ ah (qaB ab) _ _ ((bq.move aA.step nilM aA.imm).move (Step.refl _ Nil) nilM allF) (((aH.take 32767).move aA.step nilM aA.imm).move (Step.refl _ Nil) nilM allF)) ?_)
       rintro e_ lA ⟨rfl, cS⟩
       refine ⟨_, rfl, fun lB eI => ?_⟩
       have aX := aA.next_nil cS
       have eJ := aA.frN cS
       have eK := TT.ofW (cR.trans eJ) aX
       refine ⟨fun _ => eK, ?_⟩
       refine qay (i := 6) kz (qa9 [10] aX.cells eI (env' := [(10, .v (.bool (decide (ah = (qaB ab)))))]) kz fun lC eL => ?_)
       refine ⟨fun h => absurd rfl h, ?_⟩
       refine qaC kz ?_ _
       refine qab ?_
       refine wp_ret ?_
       refine qau ?_
       refine qal ?_
       refine qaD eL aX.cells (v := .bool (decide (ah = (qaB ab)))) kz ?_
       refine ⟨congrArg (fun b_ => Ending.returned (Value.bool b_)) ?_, aX.step⟩
       first
        | exact qdP hq ‹_› ‹_›
        | exact qdQ hq ‹_› ‹_›
        | exact to_u hq ‹_› ‹_›
        | exact to_m hq ‹_› ‹_› ‹_› ‹_› ‹_› ‹_›
      ·
       have js : k1 ≠ 9 := by simpa using bF
       refine qam [(1, .v (.int .i64 v)), (2, .v (.bool flex)), (5, .p 0 0), (8, .p 1 0), (9, .p 2 0), (49, .v (.int .i64 k1)), (59, .v (.bool (k1 == 7)))] aa bE fun lD bG => ?_
       refine qat bG (b := k1 == 7) kz (fun bH => ?_) (fun bH => ?_)
       ·
        have jt : k1 = 7 := by simpa using bH
        refine qad [0, 1] kz ?_
        refine qaj (qca aa bG (d := 61) (j := 16) (t := 22) (e := 5) (bytes := 1) (z := .int .u8 0) kz kz kz kz (rfl) (rfl) (by omega) fun ar lE lF ju jv jw aO eM => ?_)
        refine qah [1] [] [(8, .p 1 0), (9, .p 2 0), (13, .v (.slice (some ⟨ar, 0, none⟩) 16 16))] aO eM fun lG eN => ?_
        refine qae (qab ?_)
        refine qad [0, 1, 2, 3] kz ?_
        refine qah [0, 1, 2] [3] [(9, .p 2 0), (13, .v (.slice (some ⟨ar, 0, none⟩) 16 16)), (62, .v (.slice (some ⟨ar, 0, none⟩) 16 16)), (64, .v (.slice ai ab.length aj))] aO eN fun lH eO => ?_
        refine qaj (qch aO eO (k := 0) (d := 65) (t := 22) (u := 22) (e := 5) (bytes := 1) (A := (some ⟨ar, 0, none⟩)) (As := ai) (m := ab.length) (cs := aj) (m0 := 16) (c := 16) (xs := (List.replicate 16 (.int .u8 0))) (news := bc ab) kz kz rfl (aH.move aO.step nilM aO.imm).src fun lI lJ jx eP eQ => ?_)
        have eR : (⟨(some ⟨ar, 0, none⟩), 16, 5, 1, 16, qba (List.replicate 16 (.int .u8 0)) 0 ((bc ab).take (min ab.length 16))⟩ : Rw) = brow (some ⟨ar, 0, none⟩) 16 5 (qbd ab) := qdf _ _ _
        obtain ⟨aI, jy⟩ := eP.rowEq 0 [brow (some ⟨ar, 0, none⟩) 16 5 (qbd ab)] eR
        have eS := EnvOk.pick eQ (ks := [9, 13, 62, 64, 65]) (env' := [(9, .p 2 0), (13, .v (.slice (some ⟨ar, 0, none⟩) 16 16)), (62, .v (.slice (some ⟨ar, 0, none⟩) 16 16)), (64, .v (.slice ai ab.length aj)), (65, .v (.int .i64 ((min ab.length 16 : Nat) : Int)))]) kz
        have eU := eS.cast (env' := [(9, .p 2 0), (13, .v (.slice (some ⟨ar, 0, none⟩) ((qbd ab).length) 16)), (62, .v (.slice (some ⟨ar, 0, none⟩) ((qbd ab).length) 16)), (64, .v (.slice ai ab.length aj)), (65, .v (.int .i64 ((min ab.length 16 : Nat) : Int)))]) (by rw [qa4 _])
        refine qae (qab ?_)
        refine qad [0, 1, 2, 3, 4] kz ?_
        refine qah [0, 1, 2] [3, 4] [(67, .v (.slice al ah.length am)), (68, .v (.slice (some ⟨ar, 0, none⟩) ((qbd ab).length) 16))] aI eU fun lK eV => ?_
        refine qaj (qai eV (f := 63) (vs := [.slice al ah.length am, .slice (some ⟨ar, 0, none⟩) ((qbd ab).length) 16]) (d := 69) kz Tryz.call63 (qdK _ _ _ _ ah (qbd ab) _ _ ((bq.move aI.step nilM aI.imm).move (Step.refl _ Nil) nilM allF) (qbY (aI.own 0 _ rfl) (by first | omega | (rw [qa4]; decide) | (simp only [be_length]; exact Nat.le_trans (qbl _) (by decide)) | (have := hroom; omega) | (have := hmade; omega) | (simp only [List.length_append, List.length_nil]; omega)) (F := fun _ _ => True) (fun _ _ _ => trivial))) ?_)
        rintro e_ lL ⟨rfl, cT⟩
        refine ⟨_, rfl, fun lM eW => ?_⟩
        have bI := aI.next_nil cT
        have jz := aI.frN cT
        refine qah [4] [] [(10, .v (.bool (decide (ah = qbd ab))))] bI eW fun lN eX => ?_
        refine qae (qab ?_)
        refine wp_ret ?_
        refine qau ?_
        refine qal ?_
        refine qaD eX bI.cells (v := .bool (decide (ah = qbd ab))) kz ?_
        refine ⟨congrArg (fun b_ => Ending.returned (Value.bool b_)) ?_, bI.step⟩
        first
         | exact qdP hq ‹_› ‹_›
         | exact qdQ hq ‹_› ‹_›
         | exact to_u hq ‹_› ‹_›
         | exact to_m hq ‹_› ‹_› ‹_› ‹_› ‹_› ‹_›
       ·
        have jA : k1 ≠ 7 := by simpa using bH
        refine qam [(1, .v (.int .i64 v)), (2, .v (.bool flex)), (5, .p 0 0), (8, .p 1 0), (9, .p 2 0), (49, .v (.int .i64 k1)), (70, .v (.bool (k1 == 10)))] aa bG fun lO cU => ?_
        refine qaV cU (b := k1 == 10) kz (ay) ?_
        refine qad [0, 1, 2, 3, 4, 5, 6, 7] kz ?_
        refine qah [0, 1, 2, 3, 4, 5] [6, 7] [(73, .v (.slice A9 l8.length dT)), (74, .v (.int .i64 v)), (75, .v (.bool flex)), (76, .v (.agg #[.int .i64 ac, .slice ai ab.length aj, .bool ae, .slice dU af.length dV, .slice dW ag.length dX])), (77, .v (.agg #[.int .i64 aN, .slice al ah.length am, .bool ap, .slice d6 dY.length d7, .slice d8 dZ.length d9]))] aa cU fun lP eY => ?_
        refine qaj (qai eY (f := 19) (vs := [.slice A9 l8.length dT, .int .i64 v, .bool flex, .agg #[.int .i64 ac, .slice ai ab.length aj, .bool ae, .slice dU af.length dV, .slice dW ag.length dX], .agg #[.int .i64 aN, .slice al ah.length am, .bool ap, .slice d6 dY.length d7, .slice d8 dZ.length d9]]) (d := 78) kz Tryz.call19 ( hT _ _ l8 _ (Tree.mk ac ab ae af ag) _ (Tree.mk aN ah ap dY dZ) _ _ ⟨d5, (iL.move aa.step nilM aa.imm), (fun i_ x_ h_ => ((jc i_ x_ h_).move aa.step nilM aa.imm))⟩ (ht.move aa.step nilM aa.imm) (hg.move aa.step nilM aa.imm) hpl (to_part hq ‹_› ‹_›)) ?_)
        rintro e_ lQ ⟨rfl, cV⟩
        refine ⟨_, rfl, fun lR eZ => ?_⟩
        have bJ := aa.next_nil cV
        have jB := aa.frN cV
        refine qah [7] [] [(10, .v (.bool true))] bJ eZ fun lS e9 => ?_
        refine qae (qab ?_)
        refine wp_ret ?_
        refine qau ?_
        refine qal ?_
        refine qaD e9 bJ.cells (v := .bool true) kz ?_
        exact ⟨rfl, bJ.step⟩
   ·
    have jC : k1 ≠ 10 := by simpa using ay
    have fa := cO.cast (env' := [(1, .v (.int .i64 v)), (2, .v (.bool flex)), (5, .p 0 0), (8, .p 1 0), (9, .p 2 0), (11, .v (.bool (Fld.nul (Fld.mk k1 y2 y3 y4 y5 y6 y7 l8) v (Tree.mk ac ab ae af ag)))), (12, .v (.bool (decide (v ≥ y4)))), (38, .v (.bool false))]) (by rw [ay])
    refine qah [9, 10, 11] [12, 13, 14, 15, 16] [(1, .v (.int .i64 v)), (2, .v (.bool flex)), (5, .p 0 0), (8, .p 1 0), (9, .p 2 0), (11, .v (.bool (Fld.nul (Fld.mk k1 y2 y3 y4 y5 y6 y7 l8) v (Tree.mk ac ab ae af ag)))), (41, .v (.bool (decide (v ≥ y4))))] aa fa fun lT cW => ?_
    refine (Bool.eq_false_or_eq_true (decide (v ≥ y4))).elim (fun aP => ?_) (fun aP => ?_)
    ·
     have jD := of_decide_eq_true aP
     have fb := cW.cast (env' := [(1, .v (.int .i64 v)), (2, .v (.bool flex)), (5, .p 0 0), (8, .p 1 0), (9, .p 2 0), (11, .v (.bool (Fld.nul (Fld.mk k1 y2 y3 y4 y5 y6 y7 l8) v (Tree.mk ac ab ae af ag)))), (41, .v (.bool true))]) (by rw [aP])
     refine qah [12, 13, 14, 15, 16] [] [(1, .v (.int .i64 v)), (2, .v (.bool flex)), (5, .p 0 0), (8, .p 1 0), (9, .p 2 0), (11, .v (.bool (Fld.nul (Fld.mk k1 y2 y3 y4 y5 y6 y7 l8) v (Tree.mk ac ab ae af ag)))), (46, .v (.bool (!(ap == (Fld.nul (Fld.mk k1 y2 y3 y4 y5 y6 y7 l8) v (Tree.mk ac ab ae af ag))))))] aa fb fun lU bK => ?_
     refine qae (qab ?_)
     refine qat bK (b := !(ap == (Fld.nul (Fld.mk k1 y2 y3 y4 y5 y6 y7 l8) v (Tree.mk ac ab ae af ag)))) kz (fun bL => ?_) (fun bL => ?_)
     ·
      have jE : !(ap = (Fld.nul (Fld.mk k1 y2 y3 y4 y5 y6 y7 l8) v (Tree.mk ac ab ae af ag))) := by simpa using bL
      refine qam [(10, .v (.bool false))] aa bK fun lV fe => ?_
      refine wp_ret ?_
      refine qal ?_
      refine qaD fe aa.cells (v := .bool false) kz ?_
      first
       | exact (to_n8 hq ‹_› ‹_›).elim
       | exact (qgw hq ‹_› ‹_›).elim
       | exact (qfU hq ‹_› ‹_› ‹_›).elim
     ·
      have jF : !(ap ≠ (Fld.nul (Fld.mk k1 y2 y3 y4 y5 y6 y7 l8) v (Tree.mk ac ab ae af ag))) := by simpa using bL
      refine wp_skip ?_
      refine qab ?_
      refine wp_seq ?_
      refine qam [(1, .v (.int .i64 v)), (2, .v (.bool flex)), (5, .p 0 0), (8, .p 1 0), (9, .p 2 0), (47, .v (.bool (Fld.nul (Fld.mk k1 y2 y3 y4 y5 y6 y7 l8) v (Tree.mk ac ab ae af ag))))] aa bK fun lW bM => ?_
      refine qat bM (b := Fld.nul (Fld.mk k1 y2 y3 y4 y5 y6 y7 l8) v (Tree.mk ac ab ae af ag)) kz (fun ff => ?_) (fun ff => ?_)
      ·
       refine qam [(10, .v (.bool true))] aa bM fun lX fg => ?_
       refine wp_ret ?_
       refine qal ?_
       refine qaD fg aa.cells (v := .bool true) kz ?_
       exact ⟨rfl, aa.step⟩
      ·
       refine wp_skip ?_
       refine qab ?_
       refine wp_seq ?_
       refine qam [(1, .v (.int .i64 v)), (2, .v (.bool flex)), (5, .p 0 0), (8, .p 1 0), (9, .p 2 0), (49, .v (.int .i64 k1))] aa bM fun lY fh => ?_
       refine wp_block ?_
       refine wp_seq ?_
       refine qam [(1, .v (.int .i64 v)), (2, .v (.bool flex)), (5, .p 0 0), (8, .p 1 0), (9, .p 2 0), (49, .v (.int .i64 k1)), (50, .v (.bool (k1 == 8)))] aa fh fun lZ cX => ?_
       refine qan cX (b := k1 == 8) kz (ak) ?_
       refine qar [0, 1] kz ?_
       refine qah [0, 1] [] [(1, .v (.int .i64 v)), (2, .v (.bool flex)), (5, .p 0 0), (8, .p 1 0), (9, .p 2 0), (49, .v (.int .i64 k1)), (50, .v (.bool (k1 == 9)))] aa cX fun l0 bN => ?_
       refine qae (qab ?_)
       refine qat bN (b := k1 == 9) kz (fun bO => ?_) (fun bO => ?_)
       ·
        have jG : k1 = 9 := by simpa using bO
        refine qaE 6 kz aa fun l3 jH aY fi => ?_
        refine qaF [0, 1, 2, 3] [(54, .v (.slice al ah.length am)), (56, .v (.slice ai ab.length aj))] 3 (qaa (qac (qaa qaf))) (fun _ h => h.cells) fi bN fun l5 fj => ?_
        have iZ := qa6 ab
        refine qay (i := 4) kz (qai fj (f := 64) (vs := [.slice ai ab.length aj]) (d := 57) kz Tryz.call64 (qc7 _ _ ab (aH.move aY.step nilM aY.imm).le _) ?_)
        rintro e_ l6 ⟨rfl, cY⟩
        refine ⟨_, rfl, fun l7 fk => ?_⟩
        have aB := aY.next_nil cY
        have cZ := aY.frN cY
        have fm := TT.ofW cZ aB
        refine ⟨fun _ => fm, ?_⟩
        refine qay (i := 5) kz (qai fk (f := 63) (vs := [.slice al ah.length am, .slice ai ((qaB ab).length) aj]) (d := 58) kz Tryz.call63 (qdK _ _ _ _ ah (qaB ab) _ _ ((bq.move aB.step nilM aB.imm).move (Step.refl _ Nil) nilM allF) (((aH.take 32767).move aB.step nilM aB.imm).move (Step.refl _ Nil) nilM allF)) ?_)
        rintro e_ l9 ⟨rfl, c5⟩
        refine ⟨_, rfl, fun ma fo => ?_⟩
        have aZ := aB.next_nil c5
        have fq := aB.frN c5
        have fr := TT.ofW (cZ.trans fq) aZ
        refine ⟨fun _ => fr, ?_⟩
        refine qay (i := 6) kz (qa9 [10] aZ.cells fo (env' := [(10, .v (.bool (decide (ah = (qaB ab)))))]) kz fun mc ft => ?_)
        refine ⟨fun h => absurd rfl h, ?_⟩
        refine qaC kz ?_ _
        refine qab ?_
        refine wp_ret ?_
        refine qau ?_
        refine qal ?_
        refine qaD ft aZ.cells (v := .bool (decide (ah = (qaB ab)))) kz ?_
        refine ⟨congrArg (fun b_ => Ending.returned (Value.bool b_)) ?_, aZ.step⟩
        first
         | exact qdP hq ‹_› ‹_›
         | exact qdQ hq ‹_› ‹_›
         | exact to_u hq ‹_› ‹_›
         | exact to_m hq ‹_› ‹_› ‹_› ‹_› ‹_› ‹_›
       ·
        have jI : k1 ≠ 9 := by simpa using bO
        refine qam [(1, .v (.int .i64 v)), (2, .v (.bool flex)), (5, .p 0 0), (8, .p 1 0), (9, .p 2 0), (49, .v (.int .i64 k1)), (59, .v (.bool (k1 == 7)))] aa bN fun md bP => ?_
        refine qat bP (b := k1 == 7) kz (fun bQ => ?_) (fun bQ => ?_)
        ·
         have jJ : k1 = 7 := by simpa using bQ
         refine qad [0, 1] kz ?_
         refine qaj (qca aa bP (d := 61) (j := 16) (t := 22) (e := 5) (bytes := 1) (z := .int .u8 0) kz kz kz kz (rfl) (rfl) (by omega) fun au me mf jK jL jM aQ fu => ?_)
         refine qah [1] [] [(8, .p 1 0), (9, .p 2 0), (13, .v (.slice (some ⟨au, 0, none⟩) 16 16))] aQ fu fun mg fv => ?_
         refine qae (qab ?_)
         refine qad [0, 1, 2, 3] kz ?_
         refine qah [0, 1, 2] [3] [(9, .p 2 0), (13, .v (.slice (some ⟨au, 0, none⟩) 16 16)), (62, .v (.slice (some ⟨au, 0, none⟩) 16 16)), (64, .v (.slice ai ab.length aj))] aQ fv fun mh fw => ?_
         refine qaj (qch aQ fw (k := 0) (d := 65) (t := 22) (u := 22) (e := 5) (bytes := 1) (A := (some ⟨au, 0, none⟩)) (As := ai) (m := ab.length) (cs := aj) (m0 := 16) (c := 16) (xs := (List.replicate 16 (.int .u8 0))) (news := bc ab) kz kz rfl (aH.move aQ.step nilM aQ.imm).src fun mi mj jN fx fy => ?_)
         have fz : (⟨(some ⟨au, 0, none⟩), 16, 5, 1, 16, qba (List.replicate 16 (.int .u8 0)) 0 ((bc ab).take (min ab.length 16))⟩ : Rw) = brow (some ⟨au, 0, none⟩) 16 5 (qbd ab) := qdf _ _ _
         obtain ⟨aJ, jO⟩ := fx.rowEq 0 [brow (some ⟨au, 0, none⟩) 16 5 (qbd ab)] fz
         have fA := EnvOk.pick fy (ks := [9, 13, 62, 64, 65]) (env' := [(9, .p 2 0), (13, .v (.slice (some ⟨au, 0, none⟩) 16 16)), (62, .v (.slice (some ⟨au, 0, none⟩) 16 16)), (64, .v (.slice ai ab.length aj)), (65, .v (.int .i64 ((min ab.length 16 : Nat) : Int)))]) kz
         have fB := fA.cast (env' := [(9, .p 2 0), (13, .v (.slice (some ⟨au, 0, none⟩) ((qbd ab).length) 16)), (62, .v (.slice (some ⟨au, 0, none⟩) ((qbd ab).length) 16)), (64, .v (.slice ai ab.length aj)), (65, .v (.int .i64 ((min ab.length 16 : Nat) : Int)))]) (by rw [qa4 _])
         refine qae (qab ?_)
         refine qad [0, 1, 2, 3, 4] kz ?_
         refine qah [0, 1, 2] [3, 4] [(67, .v (.slice al ah.length am)), (68, .v (.slice (some ⟨au, 0, none⟩) ((qbd ab).length) 16))] aJ fB fun ml fC => ?_
         refine qaj (qai fC (f := 63) (vs := [.slice al ah.length am, .slice (some ⟨au, 0, none⟩) ((qbd ab).length) 16]) (d := 69) kz Tryz.call63 (qdK _ _ _ _ ah (qbd ab) _ _ ((bq.move aJ.step nilM aJ.imm).move (Step.refl _ Nil) nilM allF) (qbY (aJ.own 0 _ rfl) (by first | omega | (rw [qa4]; decide) | (simp only [be_length]; exact Nat.le_trans (qbl _) (by decide)) | (have := hroom; omega) | (have := hmade; omega) | (simp only [List.length_append, List.length_nil]; omega)) (F := fun _ _ => True) (fun _ _ _ => trivial))) ?_)
         rintro e_ mn ⟨rfl, c6⟩
         refine ⟨_, rfl, fun mo fD => ?_⟩
         have bR := aJ.next_nil c6
         have jP := aJ.frN c6
         refine qah [4] [] [(10, .v (.bool (decide (ah = qbd ab))))] bR fD fun mp fE => ?_
         refine qae (qab ?_)
         refine wp_ret ?_
         refine qau ?_
         refine qal ?_
         refine qaD fE bR.cells (v := .bool (decide (ah = qbd ab))) kz ?_
         refine ⟨congrArg (fun b_ => Ending.returned (Value.bool b_)) ?_, bR.step⟩
         first
          | exact qdP hq ‹_› ‹_›
          | exact qdQ hq ‹_› ‹_›
          | exact to_u hq ‹_› ‹_›
          | exact to_m hq ‹_› ‹_› ‹_› ‹_› ‹_› ‹_›
        ·
         have jQ : k1 ≠ 7 := by simpa using bQ
         refine qam [(1, .v (.int .i64 v)), (2, .v (.bool flex)), (5, .p 0 0), (8, .p 1 0), (9, .p 2 0), (49, .v (.int .i64 k1)), (70, .v (.bool (k1 == 10)))] aa bP fun mq da => ?_
         refine qan da (b := k1 == 10) kz (ay) ?_
         refine qam [(1, .v (.int .i64 v)), (2, .v (.bool flex)), (5, .p 0 0), (8, .p 1 0), (9, .p 2 0), (79, .v (.bool (k1 == 11)))] aa da fun mr db => ?_
         refine qan db (b := k1 == 11) kz (by simpa using bt) ?_
         refine wp_skip ?_
         refine qap ?_
         refine qab ?_
         refine qaE 8 kz aa fun mt jR dc fF => ?_
         refine qaF [0, 1, 2, 3, 4, 5] [(117, .v (.int .i64 aN)), (119, .v (.int .i64 k1)), (121, .v (.int .i64 ac))] 3 (qaa qaf) (fun _ h => h.cells) fF db fun mu fG => ?_
         refine qay (i := 6) kz (qai fG (f := 132) (vs := [.int .i64 k1, .int .i64 ac]) (d := 122) kz Tryz.call132 (qfX k1 ac _) ?_)
         rintro e_ mw ⟨rfl, de⟩
         refine ⟨_, rfl, fun mx fH => ?_⟩
         have ba := dc.next_nil de
         have fI := dc.frN de
         have df := TT.ofW fI ba
         refine ⟨fun _ => df, ?_⟩
         refine qaF [7] [(123, .v (.bool (aN == (qbi k1 ac))))] 1 (qaa qaf) (fun _ h => h.cells) df fH fun my fJ => ?_
         refine qay (i := 8) kz (qa9 [10] ba.cells fJ (env' := [(10, .v (.bool (aN == (qbi k1 ac))))]) kz fun mz fK => ?_)
         refine ⟨fun h => absurd rfl h, ?_⟩
         refine qaC kz ?_ _
         refine qab ?_
         refine wp_ret ?_
         refine qaD fK ba.cells (v := .bool (aN == (qbi k1 ac))) kz ?_
         refine ⟨congrArg (fun b_ => Ending.returned (Value.bool b_)) ?_, ba.step⟩
         first
          | exact qdP hq ‹_› ‹_›
          | exact qdQ hq ‹_› ‹_›
          | exact to_u hq ‹_› ‹_›
          | exact to_m hq ‹_› ‹_› ‹_› ‹_› ‹_› ‹_›
    ·
     have jS := of_decide_eq_false aP
     have fL := cW.cast (env' := [(1, .v (.int .i64 v)), (2, .v (.bool flex)), (5, .p 0 0), (8, .p 1 0), (9, .p 2 0), (11, .v (.bool (Fld.nul (Fld.mk k1 y2 y3 y4 y5 y6 y7 l8) v (Tree.mk ac ab ae af ag)))), (41, .v (.bool false))]) (by rw [aP])
     refine qah [12, 13, 14, 15, 16] [] [(1, .v (.int .i64 v)), (2, .v (.bool flex)), (5, .p 0 0), (8, .p 1 0), (9, .p 2 0), (11, .v (.bool (Fld.nul (Fld.mk k1 y2 y3 y4 y5 y6 y7 l8) v (Tree.mk ac ab ae af ag)))), (46, .v (.bool false))] aa fL fun mA dg => ?_
     refine qae (qab ?_)
     refine qan dg (b := false) kz rfl ?_
     refine wp_skip ?_
     refine qab ?_
     refine wp_seq ?_
     refine qam [(1, .v (.int .i64 v)), (2, .v (.bool flex)), (5, .p 0 0), (8, .p 1 0), (9, .p 2 0), (47, .v (.bool (Fld.nul (Fld.mk k1 y2 y3 y4 y5 y6 y7 l8) v (Tree.mk ac ab ae af ag))))] aa dg fun mB bS => ?_
     refine qat bS (b := Fld.nul (Fld.mk k1 y2 y3 y4 y5 y6 y7 l8) v (Tree.mk ac ab ae af ag)) kz (fun fM => ?_) (fun fM => ?_)
     ·
      refine qam [(10, .v (.bool true))] aa bS fun mC fN => ?_
      refine wp_ret ?_
      refine qal ?_
      refine qaD fN aa.cells (v := .bool true) kz ?_
      exact ⟨rfl, aa.step⟩
     ·
      refine wp_skip ?_
      refine qab ?_
      refine wp_seq ?_
      refine qam [(1, .v (.int .i64 v)), (2, .v (.bool flex)), (5, .p 0 0), (8, .p 1 0), (9, .p 2 0), (49, .v (.int .i64 k1))] aa bS fun mD fO => ?_
      refine wp_block ?_
      refine wp_seq ?_
      refine qam [(1, .v (.int .i64 v)), (2, .v (.bool flex)), (5, .p 0 0), (8, .p 1 0), (9, .p 2 0), (49, .v (.int .i64 k1)), (50, .v (.bool (k1 == 8)))] aa fO fun mF dh => ?_
      refine qan dh (b := k1 == 8) kz (ak) ?_
      refine qar [0, 1] kz ?_
      refine qah [0, 1] [] [(1, .v (.int .i64 v)), (2, .v (.bool flex)), (5, .p 0 0), (8, .p 1 0), (9, .p 2 0), (49, .v (.int .i64 k1)), (50, .v (.bool (k1 == 9)))] aa dh fun mG bT => ?_
      refine qae (qab ?_)
      refine qat bT (b := k1 == 9) kz (fun bU => ?_) (fun bU => ?_)
      ·
       have jT : k1 = 9 := by simpa using bU
       refine qaE 6 kz aa fun mH jU bd fP => ?_
       refine qaF [0, 1, 2, 3] [(54, .v (.slice al ah.length am)), (56, .v (.slice ai ab.length aj))] 3 (qaa (qac (qaa qaf))) (fun _ h => h.cells) fP bT fun mI fQ => ?_
       have i6 := qa6 ab
       refine qay (i := 4) kz (qai fQ (f := 64) (vs := [.slice ai ab.length aj]) (d := 57) kz Tryz.call64 (qc7 _ _ ab (aH.move bd.step nilM bd.imm).le _) ?_)
       rintro e_ mJ ⟨rfl, di⟩
       refine ⟨_, rfl, fun mK fR => ?_⟩
       have aC := bd.next_nil di
       have dj := bd.frN di
       have fS := TT.ofW dj aC
       refine ⟨fun _ => fS, ?_⟩
       refine qay (i := 5) kz (qai fR (f := 63) (vs := [.slice al ah.length am, .slice ai ((qaB ab).length) aj]) (d := 58) kz Tryz.call63 (qdK _ _ _ _ ah (qaB ab) _ _ ((bq.move aC.step nilM aC.imm).move (Step.refl _ Nil) nilM allF) (((aH.take 32767).move aC.step nilM aC.imm).move (Step.refl _ Nil) nilM allF)) ?_)
       rintro e_ mL ⟨rfl, dl⟩
       refine ⟨_, rfl, fun mM fT => ?_⟩
       have bf := aC.next_nil dl
       have fU := aC.frN dl
       have fV := TT.ofW (dj.trans fU) bf
       refine ⟨fun _ => fV, ?_⟩
       refine qay (i := 6) kz (qa9 [10] bf.cells fT (env' := [(10, .v (.bool (decide (ah = (qaB ab)))))]) kz fun mN fW => ?_)
       refine ⟨fun h => absurd rfl h, ?_⟩
       refine qaC kz ?_ _
       refine qab ?_
       refine wp_ret ?_
       refine qau ?_
       refine qal ?_
       refine qaD fW bf.cells (v := .bool (decide (ah = (qaB ab)))) kz ?_
       refine ⟨congrArg (fun b_ => Ending.returned (Value.bool b_)) ?_, bf.step⟩
       first
        | exact qdP hq ‹_› ‹_›
        | exact qdQ hq ‹_› ‹_›
        | exact to_u hq ‹_› ‹_›
        | exact to_m hq ‹_› ‹_› ‹_› ‹_› ‹_› ‹_›
      ·
       have jV : k1 ≠ 9 := by simpa using bU
       refine qam [(1, .v (.int .i64 v)), (2, .v (.bool flex)), (5, .p 0 0), (8, .p 1 0), (9, .p 2 0), (49, .v (.int .i64 k1)), (59, .v (.bool (k1 == 7)))] aa bT fun mO bV => ?_
       refine qat bV (b := k1 == 7) kz (fun bW => ?_) (fun bW => ?_)
       ·
        have jW : k1 = 7 := by simpa using bW
        refine qad [0, 1] kz ?_
        refine qaj (qca aa bV (d := 61) (j := 16) (t := 22) (e := 5) (bytes := 1) (z := .int .u8 0) kz kz kz kz (rfl) (rfl) (by omega) fun av mQ mR jX jY jZ aR fX => ?_)
        refine qah [1] [] [(8, .p 1 0), (9, .p 2 0), (13, .v (.slice (some ⟨av, 0, none⟩) 16 16))] aR fX fun mS fY => ?_
        refine qae (qab ?_)
        refine qad [0, 1, 2, 3] kz ?_
        refine qah [0, 1, 2] [3] [(9, .p 2 0), (13, .v (.slice (some ⟨av, 0, none⟩) 16 16)), (62, .v (.slice (some ⟨av, 0, none⟩) 16 16)), (64, .v (.slice ai ab.length aj))] aR fY fun mT fZ => ?_
        refine qaj (qch aR fZ (k := 0) (d := 65) (t := 22) (u := 22) (e := 5) (bytes := 1) (A := (some ⟨av, 0, none⟩)) (As := ai) (m := ab.length) (cs := aj) (m0 := 16) (c := 16) (xs := (List.replicate 16 (.int .u8 0))) (news := bc ab) kz kz rfl (aH.move aR.step nilM aR.imm).src fun mU mV j0 f5 f7 => ?_)
        have f8 : (⟨(some ⟨av, 0, none⟩), 16, 5, 1, 16, qba (List.replicate 16 (.int .u8 0)) 0 ((bc ab).take (min ab.length 16))⟩ : Rw) = brow (some ⟨av, 0, none⟩) 16 5 (qbd ab) := qdf _ _ _
        obtain ⟨aK, j1⟩ := f5.rowEq 0 [brow (some ⟨av, 0, none⟩) 16 5 (qbd ab)] f8
        have f9 := EnvOk.pick f7 (ks := [9, 13, 62, 64, 65]) (env' := [(9, .p 2 0), (13, .v (.slice (some ⟨av, 0, none⟩) 16 16)), (62, .v (.slice (some ⟨av, 0, none⟩) 16 16)), (64, .v (.slice ai ab.length aj)), (65, .v (.int .i64 ((min ab.length 16 : Nat) : Int)))]) kz
        have ga := f9.cast (env' := [(9, .p 2 0), (13, .v (.slice (some ⟨av, 0, none⟩) ((qbd ab).length) 16)), (62, .v (.slice (some ⟨av, 0, none⟩) ((qbd ab).length) 16)), (64, .v (.slice ai ab.length aj)), (65, .v (.int .i64 ((min ab.length 16 : Nat) : Int)))]) (by rw [qa4 _])
        refine qae (qab ?_)
        refine qad [0, 1, 2, 3, 4] kz ?_
        refine qah [0, 1, 2] [3, 4] [(67, .v (.slice al ah.length am)), (68, .v (.slice (some ⟨av, 0, none⟩) ((qbd ab).length) 16))] aK ga fun mW gb => ?_
        refine qaj (qai gb (f := 63) (vs := [.slice al ah.length am, .slice (some ⟨av, 0, none⟩) ((qbd ab).length) 16]) (d := 69) kz Tryz.call63 (qdK _ _ _ _ ah (qbd ab) _ _ ((bq.move aK.step nilM aK.imm).move (Step.refl _ Nil) nilM allF) (qbY (aK.own 0 _ rfl) (by first | omega | (rw [qa4]; decide) | (simp only [be_length]; exact Nat.le_trans (qbl _) (by decide)) | (have := hroom; omega) | (have := hmade; omega) | (simp only [List.length_append, List.length_nil]; omega)) (F := fun _ _ => True) (fun _ _ _ => trivial))) ?_)
        rintro e_ mX ⟨rfl, dp⟩
        refine ⟨_, rfl, fun mY gc => ?_⟩
        have bX := aK.next_nil dp
        have j2 := aK.frN dp
        refine qah [4] [] [(10, .v (.bool (decide (ah = qbd ab))))] bX gc fun mZ gd => ?_
        refine qae (qab ?_)
        refine wp_ret ?_
        refine qau ?_
        refine qal ?_
        refine qaD gd bX.cells (v := .bool (decide (ah = qbd ab))) kz ?_
        refine ⟨congrArg (fun b_ => Ending.returned (Value.bool b_)) ?_, bX.step⟩
        first
         | exact qdP hq ‹_› ‹_›
         | exact qdQ hq ‹_› ‹_›
         | exact to_u hq ‹_› ‹_›
         | exact to_m hq ‹_› ‹_› ‹_› ‹_› ‹_› ‹_›
       ·
        have j3 : k1 ≠ 7 := by simpa using bW
        refine qam [(1, .v (.int .i64 v)), (2, .v (.bool flex)), (5, .p 0 0), (8, .p 1 0), (9, .p 2 0), (49, .v (.int .i64 k1)), (70, .v (.bool (k1 == 10)))] aa bV fun m4 dq => ?_
        refine qan dq (b := k1 == 10) kz (ay) ?_
        refine qam [(1, .v (.int .i64 v)), (2, .v (.bool flex)), (5, .p 0 0), (8, .p 1 0), (9, .p 2 0), (79, .v (.bool (k1 == 11)))] aa dq fun m5 dr => ?_
        refine qan dr (b := k1 == 11) kz (by simpa using bt) ?_
        refine wp_skip ?_
        refine qap ?_
        refine qab ?_
        refine qaE 8 kz aa fun m6 j4 dt ge => ?_
        refine qaF [0, 1, 2, 3, 4, 5] [(117, .v (.int .i64 aN)), (119, .v (.int .i64 k1)), (121, .v (.int .i64 ac))] 3 (qaa qaf) (fun _ h => h.cells) ge dr fun m7 gg => ?_
        refine qay (i := 6) kz (qai gg (f := 132) (vs := [.int .i64 k1, .int .i64 ac]) (d := 122) kz Tryz.call132 (qfX k1 ac _) ?_)
        rintro e_ m8 ⟨rfl, du⟩
        refine ⟨_, rfl, fun m9 gh => ?_⟩
        have bg := dt.next_nil du
        have gi := dt.frN du
        have dv := TT.ofW gi bg
        refine ⟨fun _ => dv, ?_⟩
        refine qaF [7] [(123, .v (.bool (aN == (qbi k1 ac))))] 1 (qaa qaf) (fun _ h => h.cells) dv gh fun nf gj => ?_
        refine qay (i := 8) kz (qa9 [10] bg.cells gj (env' := [(10, .v (.bool (aN == (qbi k1 ac))))]) kz fun ng gk => ?_)
        refine ⟨fun h => absurd rfl h, ?_⟩
        refine qaC kz ?_ _
        refine qab ?_
        refine wp_ret ?_
        refine qaD gk bg.cells (v := .bool (aN == (qbi k1 ac))) kz ?_
        refine ⟨congrArg (fun b_ => Ending.returned (Value.bool b_)) ?_, bg.step⟩
        first
         | exact qdP hq ‹_› ‹_›
         | exact qdQ hq ‹_› ‹_›
         | exact to_u hq ‹_› ‹_›
         | exact to_m hq ‹_› ‹_› ‹_› ‹_› ‹_› ‹_›
 ·
  have j5 := of_decide_eq_false bu
  have gl := eb.cast (env' := [(1, .v (.int .i64 v)), (2, .v (.bool flex)), (5, .p 0 0), (8, .p 1 0), (9, .p 2 0), (11, .v (.bool (Fld.nul (Fld.mk k1 y2 y3 y4 y5 y6 y7 l8) v (Tree.mk ac ab ae af ag)))), (24, .v (.bool false))]) (by rw [bu])
  refine qah [4, 5, 6, 7, 8, 9] [] [(1, .v (.int .i64 v)), (2, .v (.bool flex)), (5, .p 0 0), (8, .p 1 0), (9, .p 2 0), (11, .v (.bool (Fld.nul (Fld.mk k1 y2 y3 y4 y5 y6 y7 l8) v (Tree.mk ac ab ae af ag)))), (12, .v (.bool false))] aa gl fun nh gm => ?_
  refine qae (qab ?_)
  refine wp_seq ?_
  refine qad [0, 1, 2, 3, 4, 5, 6, 7, 8, 9, 10, 11, 12, 13, 14, 15, 16] kz ?_
  refine qah [0, 1, 2, 3] [4, 5, 6, 7, 8, 9, 10, 11, 12, 13, 14, 15, 16] [(1, .v (.int .i64 v)), (2, .v (.bool flex)), (5, .p 0 0), (8, .p 1 0), (9, .p 2 0), (11, .v (.bool (Fld.nul (Fld.mk k1 y2 y3 y4 y5 y6 y7 l8) v (Tree.mk ac ab ae af ag)))), (12, .v (.bool false)), (33, .v (.bool (k1 == 8)))] aa gm fun ni dw => ?_
  refine (Bool.eq_false_or_eq_true (k1 == 8)).elim (fun ao => ?_) (fun ao => ?_)
  ·
   have j6 : k1 = 8 := by simpa using ao
   have gn := dw.cast (env' := [(1, .v (.int .i64 v)), (2, .v (.bool flex)), (5, .p 0 0), (8, .p 1 0), (9, .p 2 0), (11, .v (.bool (Fld.nul (Fld.mk k1 y2 y3 y4 y5 y6 y7 l8) v (Tree.mk ac ab ae af ag)))), (12, .v (.bool false)), (33, .v (.bool true))]) (by rw [ao])
   refine qah [4, 5, 6, 7, 8, 9, 10, 11, 12, 13, 14, 15, 16] [] [(1, .v (.int .i64 v)), (2, .v (.bool flex)), (5, .p 0 0), (8, .p 1 0), (9, .p 2 0), (11, .v (.bool (Fld.nul (Fld.mk k1 y2 y3 y4 y5 y6 y7 l8) v (Tree.mk ac ab ae af ag)))), (46, .v (.bool (!(ap == (Fld.nul (Fld.mk k1 y2 y3 y4 y5 y6 y7 l8) v (Tree.mk ac ab ae af ag))))))] aa gn fun nj bY => ?_
   refine qae (qab ?_)
   refine qat bY (b := !(ap == (Fld.nul (Fld.mk k1 y2 y3 y4 y5 y6 y7 l8) v (Tree.mk ac ab ae af ag)))) kz (fun bZ => ?_) (fun bZ => ?_)
   ·
    have j7 : !(ap = (Fld.nul (Fld.mk k1 y2 y3 y4 y5 y6 y7 l8) v (Tree.mk ac ab ae af ag))) := by simpa using bZ
    refine qam [(10, .v (.bool false))] aa bY fun nk gp => ?_
    refine wp_ret ?_
    refine qal ?_
    refine qaD gp aa.cells (v := .bool false) kz ?_
    first
     | exact (to_n8 hq ‹_› ‹_›).elim
     | exact (qgw hq ‹_› ‹_›).elim
     | exact (qfU hq ‹_› ‹_› ‹_›).elim
   ·
    have j8 : !(ap ≠ (Fld.nul (Fld.mk k1 y2 y3 y4 y5 y6 y7 l8) v (Tree.mk ac ab ae af ag))) := by simpa using bZ
    refine wp_skip ?_
    refine qab ?_
    refine wp_seq ?_
    refine qam [(1, .v (.int .i64 v)), (2, .v (.bool flex)), (5, .p 0 0), (8, .p 1 0), (9, .p 2 0), (47, .v (.bool (Fld.nul (Fld.mk k1 y2 y3 y4 y5 y6 y7 l8) v (Tree.mk ac ab ae af ag))))] aa bY fun nl b8 => ?_
    refine qat b8 (b := Fld.nul (Fld.mk k1 y2 y3 y4 y5 y6 y7 l8) v (Tree.mk ac ab ae af ag)) kz (fun gq => ?_) (fun gq => ?_)
    ·
     refine qam [(10, .v (.bool true))] aa b8 fun nm gt => ?_
     refine wp_ret ?_
     refine qal ?_
     refine qaD gt aa.cells (v := .bool true) kz ?_
     exact ⟨rfl, aa.step⟩
    ·
     refine wp_skip ?_
     refine qab ?_
     refine wp_seq ?_
     refine qam [(1, .v (.int .i64 v)), (2, .v (.bool flex)), (5, .p 0 0), (8, .p 1 0), (9, .p 2 0), (49, .v (.int .i64 k1))] aa b8 fun np gv => ?_
     refine wp_block ?_
     refine wp_seq ?_
     refine qam [(1, .v (.int .i64 v)), (2, .v (.bool flex)), (5, .p 0 0), (8, .p 1 0), (9, .p 2 0), (49, .v (.int .i64 k1)), (50, .v (.bool (k1 == 8)))] aa gv fun nr cd => ?_
     refine qaV cd (b := k1 == 8) kz (ao) ?_
     refine wp_skip ?_
     refine qab ?_
     refine qaV cd (b := k1 == 8) kz (ao) ?_
     refine qaE 6 kz aa fun ns j9 bh gw => ?_
     refine qaF [0, 1, 2, 3] [(54, .v (.slice al ah.length am)), (56, .v (.slice ai ab.length aj))] 3 (qaa (qac (qaa qaf))) (fun _ h => h.cells) gw cd fun nt gx => ?_
     have i7 := qa6 ab
     refine qay (i := 4) kz (qai gx (f := 64) (vs := [.slice ai ab.length aj]) (d := 57) kz Tryz.call64 (qc7 _ _ ab (aH.move bh.step nilM bh.imm).le _) ?_)
     rintro e_ nu ⟨rfl, dx⟩
     refine ⟨_, rfl, fun nv gy => ?_⟩
     have aD := bh.next_nil dx
     have dy := bh.frN dx
     have gz := TT.ofW dy aD
     refine ⟨fun _ => gz, ?_⟩
     refine qay (i := 5) kz (qai gy (f := 63) (vs := [.slice al ah.length am, .slice ai ((qaB ab).length) aj]) (d := 58) kz Tryz.call63 (qdK _ _ _ _ ah (qaB ab) _ _ ((bq.move aD.step nilM aD.imm).move (Step.refl _ Nil) nilM allF) (((aH.take 32767).move aD.step nilM aD.imm).move (Step.refl _ Nil) nilM allF)) ?_)
     rintro e_ nw ⟨rfl, dz⟩
     refine ⟨_, rfl, fun nx gA => ?_⟩
     have bi := aD.next_nil dz
     have gB := aD.frN dz
     have gC := TT.ofW (dy.trans gB) bi
     refine ⟨fun _ => gC, ?_⟩
     refine qay (i := 6) kz (qa9 [10] bi.cells gA (env' := [(10, .v (.bool (decide (ah = (qaB ab)))))]) kz fun ny gD => ?_)
     refine ⟨fun h => absurd rfl h, ?_⟩
     refine qaC kz ?_ _
     refine qab ?_
     refine wp_ret ?_
     refine qau ?_
     refine qal ?_
     refine qaD gD bi.cells (v := .bool (decide (ah = (qaB ab)))) kz ?_
     refine ⟨congrArg (fun b_ => Ending.returned (Value.bool b_)) ?_, bi.step⟩
     first
      | exact qdP hq ‹_› ‹_›
      | exact qdQ hq ‹_› ‹_›
      | exact to_u hq ‹_› ‹_›
      | exact to_m hq ‹_› ‹_› ‹_› ‹_› ‹_› ‹_›
  ·
   have ka : k1 ≠ 8 := by simpa using ao
   have gE := dw.cast (env' := [(1, .v (.int .i64 v)), (2, .v (.bool flex)), (5, .p 0 0), (8, .p 1 0), (9, .p 2 0), (11, .v (.bool (Fld.nul (Fld.mk k1 y2 y3 y4 y5 y6 y7 l8) v (Tree.mk ac ab ae af ag)))), (12, .v (.bool false)), (33, .v (.bool false))]) (by rw [ao])
   refine qah [4, 5, 6, 7, 8] [9, 10, 11, 12, 13, 14, 15, 16] [(1, .v (.int .i64 v)), (2, .v (.bool flex)), (5, .p 0 0), (8, .p 1 0), (9, .p 2 0), (11, .v (.bool (Fld.nul (Fld.mk k1 y2 y3 y4 y5 y6 y7 l8) v (Tree.mk ac ab ae af ag)))), (12, .v (.bool false)), (38, .v (.bool (k1 == 10)))] aa gE fun nz dA => ?_
   refine (Bool.eq_false_or_eq_true (k1 == 10)).elim (fun aE => ?_) (fun aE => ?_)
   ·
    have kd : k1 = 10 := by simpa using aE
    have gF := dA.cast (env' := [(1, .v (.int .i64 v)), (2, .v (.bool flex)), (5, .p 0 0), (8, .p 1 0), (9, .p 2 0), (11, .v (.bool (Fld.nul (Fld.mk k1 y2 y3 y4 y5 y6 y7 l8) v (Tree.mk ac ab ae af ag)))), (12, .v (.bool false)), (38, .v (.bool true))]) (by rw [aE])
    refine qah [9, 10, 11, 12, 13, 14, 15, 16] [] [(1, .v (.int .i64 v)), (2, .v (.bool flex)), (5, .p 0 0), (8, .p 1 0), (9, .p 2 0), (11, .v (.bool (Fld.nul (Fld.mk k1 y2 y3 y4 y5 y6 y7 l8) v (Tree.mk ac ab ae af ag)))), (46, .v (.bool (!(ap == (Fld.nul (Fld.mk k1 y2 y3 y4 y5 y6 y7 l8) v (Tree.mk ac ab ae af ag))))))] aa gF fun nA ce => ?_
    refine qae (qab ?_)
    refine qat ce (b := !(ap == (Fld.nul (Fld.mk k1 y2 y3 y4 y5 y6 y7 l8) v (Tree.mk ac ab ae af ag)))) kz (fun cm => ?_) (fun cm => ?_)
    ·
     have ke : !(ap = (Fld.nul (Fld.mk k1 y2 y3 y4 y5 y6 y7 l8) v (Tree.mk ac ab ae af ag))) := by simpa using cm
     refine qam [(10, .v (.bool false))] aa ce fun nB gG => ?_
     refine wp_ret ?_
     refine qal ?_
     refine qaD gG aa.cells (v := .bool false) kz ?_
     first
      | exact (to_n8 hq ‹_› ‹_›).elim
      | exact (qgw hq ‹_› ‹_›).elim
      | exact (qfU hq ‹_› ‹_› ‹_›).elim
    ·
     have kf : !(ap ≠ (Fld.nul (Fld.mk k1 y2 y3 y4 y5 y6 y7 l8) v (Tree.mk ac ab ae af ag))) := by simpa using cm
     refine wp_skip ?_
     refine qab ?_
     refine wp_seq ?_
     refine qam [(1, .v (.int .i64 v)), (2, .v (.bool flex)), (5, .p 0 0), (8, .p 1 0), (9, .p 2 0), (47, .v (.bool (Fld.nul (Fld.mk k1 y2 y3 y4 y5 y6 y7 l8) v (Tree.mk ac ab ae af ag))))] aa ce fun nC cq => ?_
     refine qat cq (b := Fld.nul (Fld.mk k1 y2 y3 y4 y5 y6 y7 l8) v (Tree.mk ac ab ae af ag)) kz (fun gH => ?_) (fun gH => ?_)
     ·
      refine qam [(10, .v (.bool true))] aa cq fun nD gI => ?_
      refine wp_ret ?_
      refine qal ?_
      refine qaD gI aa.cells (v := .bool true) kz ?_
      exact ⟨rfl, aa.step⟩
     ·
      refine wp_skip ?_
      refine qab ?_
      refine wp_seq ?_
      refine qam [(1, .v (.int .i64 v)), (2, .v (.bool flex)), (5, .p 0 0), (8, .p 1 0), (9, .p 2 0), (49, .v (.int .i64 k1))] aa cq fun nE gJ => ?_
      refine wp_block ?_
      refine wp_seq ?_
      refine qam [(1, .v (.int .i64 v)), (2, .v (.bool flex)), (5, .p 0 0), (8, .p 1 0), (9, .p 2 0), (49, .v (.int .i64 k1)), (50, .v (.bool (k1 == 8)))] aa gJ fun nF dB => ?_
      refine qan dB (b := k1 == 8) kz (ao) ?_
      refine qar [0, 1] kz ?_
      refine qah [0, 1] [] [(1, .v (.int .i64 v)), (2, .v (.bool flex)), (5, .p 0 0), (8, .p 1 0), (9, .p 2 0), (49, .v (.int .i64 k1)), (50, .v (.bool (k1 == 9)))] aa dB fun nG cr => ?_
      refine qae (qab ?_)
      refine qat cr (b := k1 == 9) kz (fun cu => ?_) (fun cu => ?_)
      ·
       have kg : k1 = 9 := by simpa using cu
       refine qaE 6 kz aa fun nH kh bj gK => ?_
       refine qaF [0, 1, 2, 3] [(54, .v (.slice al ah.length am)), (56, .v (.slice ai ab.length aj))] 3 (qaa (qac (qaa qaf))) (fun _ h => h.cells) gK cr fun nI gL => ?_
       have ja := qa6 ab
       refine qay (i := 4) kz (qai gL (f := 64) (vs := [.slice ai ab.length aj]) (d := 57) kz Tryz.call64 (qc7 _ _ ab (aH.move bj.step nilM bj.imm).le _) ?_)
       rintro e_ nJ ⟨rfl, dC⟩
       refine ⟨_, rfl, fun nK gM => ?_⟩
       have aF := bj.next_nil dC
       have dD := bj.frN dC
       have gN := TT.ofW dD aF
       refine ⟨fun _ => gN, ?_⟩
       refine qay (i := 5) kz (qai gM (f := 63) (vs := [.slice al ah.length am, .slice ai ((qaB ab).length) aj]) (d := 58) kz Tryz.call63 (qdK _ _ _ _ ah (qaB ab) _ _ ((bq.move aF.step nilM aF.imm).move (Step.refl _ Nil) nilM allF) (((aH.take 32767).move aF.step nilM aF.imm).move (Step.refl _ Nil) nilM allF)) ?_)
       rintro e_ nL ⟨rfl, dE⟩
       refine ⟨_, rfl, fun nM gO => ?_⟩
       have bk := aF.next_nil dE
       have gP := aF.frN dE
       have gQ := TT.ofW (dD.trans gP) bk
       refine ⟨fun _ => gQ, ?_⟩
       refine qay (i := 6) kz (qa9 [10] bk.cells gO (env' := [(10, .v (.bool (decide (ah = (qaB ab)))))]) kz fun nN gR => ?_)
       refine ⟨fun h => absurd rfl h, ?_⟩
       refine qaC kz ?_ _
       refine qab ?_
       refine wp_ret ?_
       refine qau ?_
       refine qal ?_
       refine qaD gR bk.cells (v := .bool (decide (ah = (qaB ab)))) kz ?_
       refine ⟨congrArg (fun b_ => Ending.returned (Value.bool b_)) ?_, bk.step⟩
       first
        | exact qdP hq ‹_› ‹_›
        | exact qdQ hq ‹_› ‹_›
        | exact to_u hq ‹_› ‹_›
        | exact to_m hq ‹_› ‹_› ‹_› ‹_› ‹_› ‹_›
      ·
       have ki : k1 ≠ 9 := by simpa using cu
       refine qam [(1, .v (.int .i64 v)), (2, .v (.bool flex)), (5, .p 0 0), (8, .p 1 0), (9, .p 2 0), (49, .v (.int .i64 k1)), (59, .v (.bool (k1 == 7)))] aa cr fun nO cw => ?_
       refine qat cw (b := k1 == 7) kz (fun cz => ?_) (fun cz => ?_)
       ·
        have kj : k1 = 7 := by simpa using cz
        refine qad [0, 1] kz ?_
        refine qaj (qca aa cw (d := 61) (j := 16) (t := 22) (e := 5) (bytes := 1) (z := .int .u8 0) kz kz kz kz (rfl) (rfl) (by omega) fun aw nP nQ km ko kp aS gS => ?_)
        refine qah [1] [] [(8, .p 1 0), (9, .p 2 0), (13, .v (.slice (some ⟨aw, 0, none⟩) 16 16))] aS gS fun nR gT => ?_
        refine qae (qab ?_)
        refine qad [0, 1, 2, 3] kz ?_
        refine qah [0, 1, 2] [3] [(9, .p 2 0), (13, .v (.slice (some ⟨aw, 0, none⟩) 16 16)), (62, .v (.slice (some ⟨aw, 0, none⟩) 16 16)), (64, .v (.slice ai ab.length aj))] aS gT fun nS gU => ?_
        refine qaj (qch aS gU (k := 0) (d := 65) (t := 22) (u := 22) (e := 5) (bytes := 1) (A := (some ⟨aw, 0, none⟩)) (As := ai) (m := ab.length) (cs := aj) (m0 := 16) (c := 16) (xs := (List.replicate 16 (.int .u8 0))) (news := bc ab) kz kz rfl (aH.move aS.step nilM aS.imm).src fun nT nU kq gV gW => ?_)
        have gX : (⟨(some ⟨aw, 0, none⟩), 16, 5, 1, 16, qba (List.replicate 16 (.int .u8 0)) 0 ((bc ab).take (min ab.length 16))⟩ : Rw) = brow (some ⟨aw, 0, none⟩) 16 5 (qbd ab) := qdf _ _ _
        obtain ⟨aL, ku⟩ := gV.rowEq 0 [brow (some ⟨aw, 0, none⟩) 16 5 (qbd ab)] gX
        have gY := EnvOk.pick gW (ks := [9, 13, 62, 64, 65]) (env' := [(9, .p 2 0), (13, .v (.slice (some ⟨aw, 0, none⟩) 16 16)), (62, .v (.slice (some ⟨aw, 0, none⟩) 16 16)), (64, .v (.slice ai ab.length aj)), (65, .v (.int .i64 ((min ab.length 16 : Nat) : Int)))]) kz
        have gZ := gY.cast (env' := [(9, .p 2 0), (13, .v (.slice (some ⟨aw, 0, none⟩) ((qbd ab).length) 16)), (62, .v (.slice (some ⟨aw, 0, none⟩) ((qbd ab).length) 16)), (64, .v (.slice ai ab.length aj)), (65, .v (.int .i64 ((min ab.length 16 : Nat) : Int)))]) (by rw [qa4 _])
        refine qae (qab ?_)
        refine qad [0, 1, 2, 3, 4] kz ?_
        refine qah [0, 1, 2] [3, 4] [(67, .v (.slice al ah.length am)), (68, .v (.slice (some ⟨aw, 0, none⟩) ((qbd ab).length) 16))] aL gZ fun nV g9 => ?_
        refine qaj (qai g9 (f := 63) (vs := [.slice al ah.length am, .slice (some ⟨aw, 0, none⟩) ((qbd ab).length) 16]) (d := 69) kz Tryz.call63 (qdK _ _ _ _ ah (qbd ab) _ _ ((bq.move aL.step nilM aL.imm).move (Step.refl _ Nil) nilM allF) (qbY (aL.own 0 _ rfl) (by first | omega | (rw [qa4]; decide) | (simp only [be_length]; exact Nat.le_trans (qbl _) (by decide)) | (have := hroom; omega) | (have := hmade; omega) | (simp only [List.length_append, List.length_nil]; omega)) (F := fun _ _ => True) (fun _ _ _ => trivial))) ?_)
        rintro e_ nW ⟨rfl, dF⟩
        refine ⟨_, rfl, fun nX hC => ?_⟩
        have cA := aL.next_nil dF
        have kv := aL.frN dF
        refine qah [4] [] [(10, .v (.bool (decide (ah = qbd ab))))] cA hC fun nY hJ => ?_
        refine qae (qab ?_)
        refine wp_ret ?_
        refine qau ?_
        refine qal ?_
        refine qaD hJ cA.cells (v := .bool (decide (ah = qbd ab))) kz ?_
        refine ⟨congrArg (fun b_ => Ending.returned (Value.bool b_)) ?_, cA.step⟩
        first
         | exact qdP hq ‹_› ‹_›
         | exact qdQ hq ‹_› ‹_›
         | exact to_u hq ‹_› ‹_›
         | exact to_m hq ‹_› ‹_› ‹_› ‹_› ‹_› ‹_›
       ·
        have kw : k1 ≠ 7 := by simpa using cz
        refine qam [(1, .v (.int .i64 v)), (2, .v (.bool flex)), (5, .p 0 0), (8, .p 1 0), (9, .p 2 0), (49, .v (.int .i64 k1)), (70, .v (.bool (k1 == 10)))] aa cw fun nZ dG => ?_
        refine qaV dG (b := k1 == 10) kz (aE) ?_
        refine qad [0, 1, 2, 3, 4, 5, 6, 7] kz ?_
        refine qah [0, 1, 2, 3, 4, 5] [6, 7] [(73, .v (.slice A9 l8.length dT)), (74, .v (.int .i64 v)), (75, .v (.bool flex)), (76, .v (.agg #[.int .i64 ac, .slice ai ab.length aj, .bool ae, .slice dU af.length dV, .slice dW ag.length dX])), (77, .v (.agg #[.int .i64 aN, .slice al ah.length am, .bool ap, .slice d6 dY.length d7, .slice d8 dZ.length d9]))] aa dG fun n4 hK => ?_
        refine qaj (qai hK (f := 19) (vs := [.slice A9 l8.length dT, .int .i64 v, .bool flex, .agg #[.int .i64 ac, .slice ai ab.length aj, .bool ae, .slice dU af.length dV, .slice dW ag.length dX], .agg #[.int .i64 aN, .slice al ah.length am, .bool ap, .slice d6 dY.length d7, .slice d8 dZ.length d9]]) (d := 78) kz Tryz.call19 ( hT _ _ l8 _ (Tree.mk ac ab ae af ag) _ (Tree.mk aN ah ap dY dZ) _ _ ⟨d5, (iL.move aa.step nilM aa.imm), (fun i_ x_ h_ => ((jc i_ x_ h_).move aa.step nilM aa.imm))⟩ (ht.move aa.step nilM aa.imm) (hg.move aa.step nilM aa.imm) hpl (to_part hq ‹_› ‹_›)) ?_)
        rintro e_ n5 ⟨rfl, dH⟩
        refine ⟨_, rfl, fun n8 hZ => ?_⟩
        have cB := aa.next_nil dH
        have kx := aa.frN dH
        refine qah [7] [] [(10, .v (.bool true))] cB hZ fun oa ia => ?_
        refine qae (qab ?_)
        refine wp_ret ?_
        refine qau ?_
        refine qal ?_
        refine qaD ia cB.cells (v := .bool true) kz ?_
        exact ⟨rfl, cB.step⟩
   ·
    have ky : k1 ≠ 10 := by simpa using aE
    have ib := dA.cast (env' := [(1, .v (.int .i64 v)), (2, .v (.bool flex)), (5, .p 0 0), (8, .p 1 0), (9, .p 2 0), (11, .v (.bool (Fld.nul (Fld.mk k1 y2 y3 y4 y5 y6 y7 l8) v (Tree.mk ac ab ae af ag)))), (12, .v (.bool false)), (38, .v (.bool false))]) (by rw [aE])
    refine qah [9, 10, 11, 12, 13, 14, 15, 16] [] [(1, .v (.int .i64 v)), (2, .v (.bool flex)), (5, .p 0 0), (8, .p 1 0), (9, .p 2 0), (11, .v (.bool (Fld.nul (Fld.mk k1 y2 y3 y4 y5 y6 y7 l8) v (Tree.mk ac ab ae af ag)))), (46, .v (.bool false))] aa ib fun od dI => ?_
    refine qae (qab ?_)
    refine qan dI (b := false) kz rfl ?_
    refine wp_skip ?_
    refine qab ?_
    refine wp_seq ?_
    refine qam [(1, .v (.int .i64 v)), (2, .v (.bool flex)), (5, .p 0 0), (8, .p 1 0), (9, .p 2 0), (47, .v (.bool (Fld.nul (Fld.mk k1 y2 y3 y4 y5 y6 y7 l8) v (Tree.mk ac ab ae af ag))))] aa dI fun oe cC => ?_
    refine qat cC (b := Fld.nul (Fld.mk k1 y2 y3 y4 y5 y6 y7 l8) v (Tree.mk ac ab ae af ag)) kz (fun ic => ?_) (fun ic => ?_)
    ·
     refine qam [(10, .v (.bool true))] aa cC fun og ig => ?_
     refine wp_ret ?_
     refine qal ?_
     refine qaD ig aa.cells (v := .bool true) kz ?_
     exact ⟨rfl, aa.step⟩
    ·
     refine wp_skip ?_
     refine qab ?_
     refine wp_seq ?_
     refine qam [(1, .v (.int .i64 v)), (2, .v (.bool flex)), (5, .p 0 0), (8, .p 1 0), (9, .p 2 0), (49, .v (.int .i64 k1))] aa cC fun oh ii => ?_
     refine wp_block ?_
     refine wp_seq ?_
     refine qam [(1, .v (.int .i64 v)), (2, .v (.bool flex)), (5, .p 0 0), (8, .p 1 0), (9, .p 2 0), (49, .v (.int .i64 k1)), (50, .v (.bool (k1 == 8)))] aa ii fun ol dJ => ?_
     refine qan dJ (b := k1 == 8) kz (ao) ?_
     refine qar [0, 1] kz ?_
     refine qah [0, 1] [] [(1, .v (.int .i64 v)), (2, .v (.bool flex)), (5, .p 0 0), (8, .p 1 0), (9, .p 2 0), (49, .v (.int .i64 k1)), (50, .v (.bool (k1 == 9)))] aa dJ fun om cD => ?_
     refine qae (qab ?_)
     refine qat cD (b := k1 == 9) kz (fun cE => ?_) (fun cE => ?_)
     ·
      have kA : k1 = 9 := by simpa using cE
      refine qaE 6 kz aa fun oq kB bn ij => ?_
      refine qaF [0, 1, 2, 3] [(54, .v (.slice al ah.length am)), (56, .v (.slice ai ab.length aj))] 3 (qaa (qac (qaa qaf))) (fun _ h => h.cells) ij cD fun ot ik => ?_
      have jb := qa6 ab
      refine qay (i := 4) kz (qai ik (f := 64) (vs := [.slice ai ab.length aj]) (d := 57) kz Tryz.call64 (qc7 _ _ ab (aH.move bn.step nilM bn.imm).le _) ?_)
      rintro e_ ou ⟨rfl, dK⟩
      refine ⟨_, rfl, fun ov il => ?_⟩
      have aG := bn.next_nil dK
      have dL := bn.frN dK
      have im := TT.ofW dL aG
      refine ⟨fun _ => im, ?_⟩
      refine qay (i := 5) kz (qai il (f := 63) (vs := [.slice al ah.length am, .slice ai ((qaB ab).length) aj]) (d := 58) kz Tryz.call63 (qdK _ _ _ _ ah (qaB ab) _ _ ((bq.move aG.step nilM aG.imm).move (Step.refl _ Nil) nilM allF) (((aH.take 32767).move aG.step nilM aG.imm).move (Step.refl _ Nil) nilM allF)) ?_)
      rintro e_ ow ⟨rfl, dM⟩
      refine ⟨_, rfl, fun ox io => ?_⟩
      have bo := aG.next_nil dM
      have ip := aG.frN dM
      have iq := TT.ofW (dL.trans ip) bo
      refine ⟨fun _ => iq, ?_⟩
      refine qay (i := 6) kz (qa9 [10] bo.cells io (env' := [(10, .v (.bool (decide (ah = (qaB ab)))))]) kz fun oy ir => ?_)
      refine ⟨fun h => absurd rfl h, ?_⟩
      refine qaC kz ?_ _
      refine qab ?_
      refine wp_ret ?_
      refine qau ?_
      refine qal ?_
      refine qaD ir bo.cells (v := .bool (decide (ah = (qaB ab)))) kz ?_
      refine ⟨congrArg (fun b_ => Ending.returned (Value.bool b_)) ?_, bo.step⟩
      first
       | exact qdP hq ‹_› ‹_›
       | exact qdQ hq ‹_› ‹_›
       | exact to_u hq ‹_› ‹_›
       | exact to_m hq ‹_› ‹_› ‹_› ‹_› ‹_› ‹_›
     ·
      have kC : k1 ≠ 9 := by simpa using cE
      refine qam [(1, .v (.int .i64 v)), (2, .v (.bool flex)), (5, .p 0 0), (8, .p 1 0), (9, .p 2 0), (49, .v (.int .i64 k1)), (59, .v (.bool (k1 == 7)))] aa cD fun oz cG => ?_
      refine qat cG (b := k1 == 7) kz (fun cH => ?_) (fun cH => ?_)
      ·
       have kD : k1 = 7 := by simpa using cH
       refine qad [0, 1] kz ?_
       refine qaj (qca aa cG (d := 61) (j := 16) (t := 22) (e := 5) (bytes := 1) (z := .int .u8 0) kz kz kz kz (rfl) (rfl) (by omega) fun ax oA oB kE kF kG aT iu => ?_)
       refine qah [1] [] [(8, .p 1 0), (9, .p 2 0), (13, .v (.slice (some ⟨ax, 0, none⟩) 16 16))] aT iu fun oC iv => ?_
       refine qae (qab ?_)
       refine qad [0, 1, 2, 3] kz ?_
       refine qah [0, 1, 2] [3] [(9, .p 2 0), (13, .v (.slice (some ⟨ax, 0, none⟩) 16 16)), (62, .v (.slice (some ⟨ax, 0, none⟩) 16 16)), (64, .v (.slice ai ab.length aj))] aT iv fun oD iw => ?_
       refine qaj (qch aT iw (k := 0) (d := 65) (t := 22) (u := 22) (e := 5) (bytes := 1) (A := (some ⟨ax, 0, none⟩)) (As := ai) (m := ab.length) (cs := aj) (m0 := 16) (c := 16) (xs := (List.replicate 16 (.int .u8 0))) (news := bc ab) kz kz rfl (aH.move aT.step nilM aT.imm).src fun oE oF kH ix iy => ?_)
       have iz : (⟨(some ⟨ax, 0, none⟩), 16, 5, 1, 16, qba (List.replicate 16 (.int .u8 0)) 0 ((bc ab).take (min ab.length 16))⟩ : Rw) = brow (some ⟨ax, 0, none⟩) 16 5 (qbd ab) := qdf _ _ _
       obtain ⟨aM, kI⟩ := ix.rowEq 0 [brow (some ⟨ax, 0, none⟩) 16 5 (qbd ab)] iz
       have iA := EnvOk.pick iy (ks := [9, 13, 62, 64, 65]) (env' := [(9, .p 2 0), (13, .v (.slice (some ⟨ax, 0, none⟩) 16 16)), (62, .v (.slice (some ⟨ax, 0, none⟩) 16 16)), (64, .v (.slice ai ab.length aj)), (65, .v (.int .i64 ((min ab.length 16 : Nat) : Int)))]) kz
       have iB := iA.cast (env' := [(9, .p 2 0), (13, .v (.slice (some ⟨ax, 0, none⟩) ((qbd ab).length) 16)), (62, .v (.slice (some ⟨ax, 0, none⟩) ((qbd ab).length) 16)), (64, .v (.slice ai ab.length aj)), (65, .v (.int .i64 ((min ab.length 16 : Nat) : Int)))]) (by rw [qa4 _])
       refine qae (qab ?_)
       refine qad [0, 1, 2, 3, 4] kz ?_
       refine qah [0, 1, 2] [3, 4] [(67, .v (.slice al ah.length am)), (68, .v (.slice (some ⟨ax, 0, none⟩) ((qbd ab).length) 16))] aM iB fun oG iC => ?_
       refine qaj (qai iC (f := 63) (vs := [.slice al ah.length am, .slice (some ⟨ax, 0, none⟩) ((qbd ab).length) 16]) (d := 69) kz Tryz.call63 (qdK _ _ _ _ ah (qbd ab) _ _ ((bq.move aM.step nilM aM.imm).move (Step.refl _ Nil) nilM allF) (qbY (aM.own 0 _ rfl) (by first | omega | (rw [qa4]; decide) | (simp only [be_length]; exact Nat.le_trans (qbl _) (by decide)) | (have := hroom; omega) | (have := hmade; omega) | (simp only [List.length_append, List.length_nil]; omega)) (F := fun _ _ => True) (fun _ _ _ => trivial))) ?_)
       rintro e_ oH ⟨rfl, dN⟩
       refine ⟨_, rfl, fun oI iD => ?_⟩
       have cI := aM.next_nil dN
       have kJ := aM.frN dN
       refine qah [4] [] [(10, .v (.bool (decide (ah = qbd ab))))] cI iD fun oJ iE => ?_
       refine qae (qab ?_)
       refine wp_ret ?_
       refine qau ?_
       refine qal ?_
       refine qaD iE cI.cells (v := .bool (decide (ah = qbd ab))) kz ?_
       refine ⟨congrArg (fun b_ => Ending.returned (Value.bool b_)) ?_, cI.step⟩
       first
        | exact qdP hq ‹_› ‹_›
        | exact qdQ hq ‹_› ‹_›
        | exact to_u hq ‹_› ‹_›
        | exact to_m hq ‹_› ‹_› ‹_› ‹_› ‹_› ‹_›
      ·
       have kK : k1 ≠ 7 := by simpa using cH
       refine qam [(1, .v (.int .i64 v)), (2, .v (.bool flex)), (5, .p 0 0), (8, .p 1 0), (9, .p 2 0), (49, .v (.int .i64 k1)), (70, .v (.bool (k1 == 10)))] aa cG fun oK dO => ?_
       refine qan dO (b := k1 == 10) kz (aE) ?_
       refine qam [(1, .v (.int .i64 v)), (2, .v (.bool flex)), (5, .p 0 0), (8, .p 1 0), (9, .p 2 0), (79, .v (.bool (k1 == 11)))] aa dO fun oL dP => ?_
       refine qan dP (b := k1 == 11) kz (by simpa using bt) ?_
       refine wp_skip ?_
       refine qap ?_
       refine qab ?_
       refine qaE 8 kz aa fun oM kL dQ iF => ?_
       refine qaF [0, 1, 2, 3, 4, 5] [(117, .v (.int .i64 aN)), (119, .v (.int .i64 k1)), (121, .v (.int .i64 ac))] 3 (qaa qaf) (fun _ h => h.cells) iF dP fun oN iG => ?_
       refine qay (i := 6) kz (qai iG (f := 132) (vs := [.int .i64 k1, .int .i64 ac]) (d := 122) kz Tryz.call132 (qfX k1 ac _) ?_)
       rintro e_ oO ⟨rfl, dR⟩
       refine ⟨_, rfl, fun oP iH => ?_⟩
       have bp := dQ.next_nil dR
       have iI := dQ.frN dR
       have dS := TT.ofW iI bp
       refine ⟨fun _ => dS, ?_⟩
       refine qaF [7] [(123, .v (.bool (aN == (qbi k1 ac))))] 1 (qaa qaf) (fun _ h => h.cells) dS iH fun oQ iJ => ?_
       refine qay (i := 8) kz (qa9 [10] bp.cells iJ (env' := [(10, .v (.bool (aN == (qbi k1 ac))))]) kz fun oR iK => ?_)
       refine ⟨fun h => absurd rfl h, ?_⟩
       refine qaC kz ?_ _
       refine qab ?_
       refine wp_ret ?_
       refine qaD iK bp.cells (v := .bool (aN == (qbi k1 ac))) kz ?_
       refine ⟨congrArg (fun b_ => Ending.returned (Value.bool b_)) ?_, bp.step⟩
       first
        | exact qdP hq ‹_› ‹_›
        | exact qdQ hq ‹_› ‹_›
        | exact to_u hq ‹_› ‹_›
        | exact to_m hq ‹_› ‹_› ‹_› ‹_› ‹_› ‹_›
theorem sTold11 {v : Int} {flex : Bool} {T : List Fld → Tree → Tree → Prop} (hT : ToOK v flex T) (cf : List Value) (f : Fld) (ct : List Value) (t : Tree) (cg : List Value) (g : Tree) (w : World) (F : Nat → Nat → Prop) (hf : FldR w F cf f) (hpl : f.plain) (ac : f.kind = 11) (ht : TreeR w F ct t) (hg : TreeR w F cg g) (hQ : ToF T v f t g) :
  Calls Tryz.prog 60 #[.agg cf.toArray, .int .i64 v, .bool flex, .agg ct.toArray, .agg cg.toArray] w (qbW w (.bool true)) := by
 obtain ⟨k1, y2, y3, y4, y5, y6, y7, l8, A9, ap, dE, rfl, rfl, gR, g9⟩ := hf.open_
 have jk := gR.small
 obtain ⟨aj, ak, al, aa, am, ep, eu, ae, af, ev, ew, ku, rfl, rfl, kv, dF, hC, nB⟩ := ht.open_
 have jl := kv.small
 have jm := dF.small
 obtain ⟨gS, gT, cz, ao, gU, gV, gW, bC, dG, gX, gY, kw, rfl, rfl, kx, gZ, hJ, nC⟩ := hg.open_
 have jn := kx.small
 have jo := gZ.small
 have ac : k1 = 11 := ac
 have hof : y7 ≠ 11 := hpl.1
 replace hpl : plains l8 := hpl.2
 have hq := hQ.1
 refine enter (n := 124) Tryz.func60 rfl Tryz.ntmps60 kz fun a hE => ?_
 have hW := WOk.start w Nil
 refine qad [0, 1, 2, 3] kz ?_
 refine qaj (qa7 hW hE (d := 5) (cs := [.int .i64 k1, .int .i64 y2, .int .i64 y3, .int .i64 y4, .int .i64 y5, .int .i64 y6, .int .i64 y7, .slice A9 l8.length ap]) kz fun hK nD nE ky kA kB hZ ia => ?_)
 refine qaj (qa7 hZ ia (d := 8) (cs := [.int .i64 aj, .slice ep ak.length eu, .bool al, .slice ae aa.length af, .slice ev am.length ew]) kz fun ib nF nG kC kD kE ic ig => ?_)
 refine qaj (qa7 ic ig (d := 9) (cs := [.int .i64 gS, .slice gV gT.length gW, .bool cz, .slice bC ao.length dG, .slice gX gU.length gY]) kz fun ii nH nI kF kG kH bD ij => ?_)
 refine qah [3] [] [(1, .v (.int .i64 v)), (2, .v (.bool flex)), (5, .p 0 0), (8, .p 1 0), (9, .p 2 0)] bD ij fun nJ ik => ?_
 refine qae (qab ?_)
 refine qad [0, 1, 2, 3, 4] kz ?_
 refine qah [0, 1, 2] [3, 4] [(1, .v (.int .i64 v)), (2, .v (.bool flex)), (5, .p 0 0), (8, .p 1 0), (9, .p 2 0), (17, .v (.agg #[.int .i64 k1, .int .i64 y2, .int .i64 y3, .int .i64 y4, .int .i64 y5, .int .i64 y6, .int .i64 y7, .slice A9 l8.length ap])), (18, .v (.int .i64 v)), (19, .v (.agg #[.int .i64 aj, .slice ep ak.length eu, .bool al, .slice ae aa.length af, .slice ev am.length ew]))] bD ik fun nK il => ?_
 refine qaj (qai il (f := 130) (vs := [.agg #[.int .i64 k1, .int .i64 y2, .int .i64 y3, .int .i64 y4, .int .i64 y5, .int .i64 y6, .int .i64 y7, .slice A9 l8.length ap], .int .i64 v, .agg #[.int .i64 aj, .slice ep ak.length eu, .bool al, .slice ae aa.length af, .slice ev am.length ew]]) (d := 20) kz Tryz.call130 (sNull k1 y2 y3 y4 y5 y6 y7 l8 _ _ v aj ak al aa am _ _ _ _ _ _ _) ?_)
 rintro e_ nL ⟨rfl, ey⟩
 refine ⟨_, rfl, fun nM im => ?_⟩
 have ab := bD.next_nil ey
 have kI := bD.frN ey
 refine qah [4] [] [(1, .v (.int .i64 v)), (2, .v (.bool flex)), (5, .p 0 0), (8, .p 1 0), (9, .p 2 0), (11, .v (.bool (Fld.nul (Fld.mk k1 y2 y3 y4 y5 y6 y7 l8) v (Tree.mk aj ak al aa am))))] ab im fun nN io => ?_
 refine qae (qab ?_)
 refine qad [0, 1, 2, 3, 4, 5, 6, 7, 8, 9] kz ?_
 refine qah [0, 1, 2, 3] [4, 5, 6, 7, 8, 9] [(1, .v (.int .i64 v)), (2, .v (.bool flex)), (5, .p 0 0), (8, .p 1 0), (9, .p 2 0), (11, .v (.bool (Fld.nul (Fld.mk k1 y2 y3 y4 y5 y6 y7 l8) v (Tree.mk aj ak al aa am)))), (24, .v (.bool (decide (y4 ≥ 0))))] ab io fun nO ez => ?_
 refine (Bool.eq_false_or_eq_true (decide (y4 ≥ 0))).elim (fun aD => ?_) (fun aD => ?_)
 ·
  have kJ := of_decide_eq_true aD
  have ip := ez.cast (env' := [(1, .v (.int .i64 v)), (2, .v (.bool flex)), (5, .p 0 0), (8, .p 1 0), (9, .p 2 0), (11, .v (.bool (Fld.nul (Fld.mk k1 y2 y3 y4 y5 y6 y7 l8) v (Tree.mk aj ak al aa am)))), (24, .v (.bool true))]) (by rw [aD])
  refine qah [4, 5, 6, 7, 8, 9] [] [(1, .v (.int .i64 v)), (2, .v (.bool flex)), (5, .p 0 0), (8, .p 1 0), (9, .p 2 0), (11, .v (.bool (Fld.nul (Fld.mk k1 y2 y3 y4 y5 y6 y7 l8) v (Tree.mk aj ak al aa am)))), (12, .v (.bool (decide (v ≥ y4))))] ab ip fun nP iq => ?_
  refine qae (qab ?_)
  refine wp_seq ?_
  refine qad [0, 1, 2, 3, 4, 5, 6, 7, 8, 9, 10, 11, 12, 13, 14, 15, 16] kz ?_
  refine qah [0, 1, 2, 3] [4, 5, 6, 7, 8, 9, 10, 11, 12, 13, 14, 15, 16] [(1, .v (.int .i64 v)), (2, .v (.bool flex)), (5, .p 0 0), (8, .p 1 0), (9, .p 2 0), (11, .v (.bool (Fld.nul (Fld.mk k1 y2 y3 y4 y5 y6 y7 l8) v (Tree.mk aj ak al aa am)))), (12, .v (.bool (decide (v ≥ y4)))), (33, .v (.bool (k1 == 8)))] ab iq fun nQ eB => ?_
  have eC : (k1 == 8) = false := by simp [ac]
  have eD := eB.cast (env' := [(1, .v (.int .i64 v)), (2, .v (.bool flex)), (5, .p 0 0), (8, .p 1 0), (9, .p 2 0), (11, .v (.bool (Fld.nul (Fld.mk k1 y2 y3 y4 y5 y6 y7 l8) v (Tree.mk aj ak al aa am)))), (12, .v (.bool (decide (v ≥ y4)))), (33, .v (.bool false))]) (by rw [eC])
  refine qah [4, 5, 6, 7, 8] [9, 10, 11, 12, 13, 14, 15, 16] [(1, .v (.int .i64 v)), (2, .v (.bool flex)), (5, .p 0 0), (8, .p 1 0), (9, .p 2 0), (11, .v (.bool (Fld.nul (Fld.mk k1 y2 y3 y4 y5 y6 y7 l8) v (Tree.mk aj ak al aa am)))), (12, .v (.bool (decide (v ≥ y4)))), (38, .v (.bool (k1 == 10)))] ab eD fun kK eE => ?_
  have eF : (k1 == 10) = false := by simp [ac]
  have eG := eE.cast (env' := [(1, .v (.int .i64 v)), (2, .v (.bool flex)), (5, .p 0 0), (8, .p 1 0), (9, .p 2 0), (11, .v (.bool (Fld.nul (Fld.mk k1 y2 y3 y4 y5 y6 y7 l8) v (Tree.mk aj ak al aa am)))), (12, .v (.bool (decide (v ≥ y4)))), (38, .v (.bool false))]) (by rw [eF])
  refine qah [9, 10, 11] [12, 13, 14, 15, 16] [(1, .v (.int .i64 v)), (2, .v (.bool flex)), (5, .p 0 0), (8, .p 1 0), (9, .p 2 0), (11, .v (.bool (Fld.nul (Fld.mk k1 y2 y3 y4 y5 y6 y7 l8) v (Tree.mk aj ak al aa am)))), (41, .v (.bool (decide (v ≥ y4))))] ab eG fun kL cA => ?_
  refine (Bool.eq_false_or_eq_true (decide (v ≥ y4))).elim (fun az => ?_) (fun az => ?_)
  ·
   have jp := of_decide_eq_true az
   have eH := cA.cast (env' := [(1, .v (.int .i64 v)), (2, .v (.bool flex)), (5, .p 0 0), (8, .p 1 0), (9, .p 2 0), (11, .v (.bool (Fld.nul (Fld.mk k1 y2 y3 y4 y5 y6 y7 l8) v (Tree.mk aj ak al aa am)))), (41, .v (.bool true))]) (by rw [az])
   refine qah [12, 13, 14, 15, 16] [] [(1, .v (.int .i64 v)), (2, .v (.bool flex)), (5, .p 0 0), (8, .p 1 0), (9, .p 2 0), (11, .v (.bool (Fld.nul (Fld.mk k1 y2 y3 y4 y5 y6 y7 l8) v (Tree.mk aj ak al aa am)))), (46, .v (.bool (!(cz == (Fld.nul (Fld.mk k1 y2 y3 y4 y5 y6 y7 l8) v (Tree.mk aj ak al aa am))))))] ab eH fun kM aE => ?_
   refine qae (qab ?_)
   refine qat aE (b := !(cz == (Fld.nul (Fld.mk k1 y2 y3 y4 y5 y6 y7 l8) v (Tree.mk aj ak al aa am)))) kz (fun aF => ?_) (fun aF => ?_)
   ·
    have jq : !(cz = (Fld.nul (Fld.mk k1 y2 y3 y4 y5 y6 y7 l8) v (Tree.mk aj ak al aa am))) := by simpa using aF
    refine qam [(10, .v (.bool false))] ab aE fun kN eI => ?_
    refine wp_ret ?_
    refine qal ?_
    refine qaD eI ab.cells (v := .bool false) kz ?_
    first
     | exact (qfU hq ‹_› ‹_› ‹_›).elim
     | exact (to_len (hQ.2 ac ‹_›).1 ‹_›).elim
     | (exfalso; simp_all; done)
   ·
    have jr : !(cz ≠ (Fld.nul (Fld.mk k1 y2 y3 y4 y5 y6 y7 l8) v (Tree.mk aj ak al aa am))) := by simpa using aF
    refine wp_skip ?_
    refine qab ?_
    refine wp_seq ?_
    refine qam [(1, .v (.int .i64 v)), (2, .v (.bool flex)), (5, .p 0 0), (8, .p 1 0), (9, .p 2 0), (47, .v (.bool (Fld.nul (Fld.mk k1 y2 y3 y4 y5 y6 y7 l8) v (Tree.mk aj ak al aa am))))] ab aE fun kO aG => ?_
    refine qat aG (b := Fld.nul (Fld.mk k1 y2 y3 y4 y5 y6 y7 l8) v (Tree.mk aj ak al aa am)) kz (fun eJ => ?_) (fun eJ => ?_)
    ·
     refine qam [(10, .v (.bool true))] ab aG fun kP eK => ?_
     refine wp_ret ?_
     refine qal ?_
     refine qaD eK ab.cells (v := .bool true) kz ?_
     exact ⟨rfl, ab.step⟩
    ·
     refine wp_skip ?_
     refine qab ?_
     refine wp_seq ?_
     refine qam [(1, .v (.int .i64 v)), (2, .v (.bool flex)), (5, .p 0 0), (8, .p 1 0), (9, .p 2 0), (49, .v (.int .i64 k1))] ab aG fun kQ eL => ?_
     refine wp_block ?_
     refine wp_seq ?_
     refine qam [(1, .v (.int .i64 v)), (2, .v (.bool flex)), (5, .p 0 0), (8, .p 1 0), (9, .p 2 0), (49, .v (.int .i64 k1)), (50, .v (.bool (k1 == 8)))] ab eL fun kR cB => ?_
     refine qan cB (b := k1 == 8) kz (by simp [ac]) ?_
     refine qar [0, 1] kz ?_
     refine qah [0, 1] [] [(1, .v (.int .i64 v)), (2, .v (.bool flex)), (5, .p 0 0), (8, .p 1 0), (9, .p 2 0), (49, .v (.int .i64 k1)), (50, .v (.bool (k1 == 9)))] ab cB fun kS cC => ?_
     refine qae (qab ?_)
     refine qan cC (b := k1 == 9) kz (by simp [ac]) ?_
     refine qam [(1, .v (.int .i64 v)), (2, .v (.bool flex)), (5, .p 0 0), (8, .p 1 0), (9, .p 2 0), (49, .v (.int .i64 k1)), (59, .v (.bool (k1 == 7)))] ab cC fun kT cD => ?_
     refine qan cD (b := k1 == 7) kz (by simp [ac]) ?_
     refine qam [(1, .v (.int .i64 v)), (2, .v (.bool flex)), (5, .p 0 0), (8, .p 1 0), (9, .p 2 0), (49, .v (.int .i64 k1)), (70, .v (.bool (k1 == 10)))] ab cD fun kU cE => ?_
     refine qan cE (b := k1 == 10) kz (by simp [ac]) ?_
     refine qam [(1, .v (.int .i64 v)), (2, .v (.bool flex)), (5, .p 0 0), (8, .p 1 0), (9, .p 2 0), (79, .v (.bool (k1 == 11)))] ab cE fun kV cG => ?_
     refine qaV cG (b := k1 == 11) kz (by simpa using ac) ?_
     refine qad [0, 1, 2, 3] kz ?_
     refine qah [0, 1] [2, 3] [(1, .v (.int .i64 v)), (2, .v (.bool flex)), (5, .p 0 0), (9, .p 2 0), (82, .v (.slice ae aa.length af))] ab cG fun kW eM => ?_
     refine qaj (qai eM (f := 131) (vs := [.slice ae aa.length af]) (d := 83) kz Tryz.call131 (qfJ _ _ aa (dF.move ab.step nilM ab.imm).le _) ?_)
     rintro e_ kX ⟨rfl, cH⟩
     refine ⟨_, rfl, fun kY eN => ?_⟩
     have ar := ab.next_nil cH
     have js := ab.frN cH
     refine qah [3] [] [(1, .v (.int .i64 v)), (2, .v (.bool flex)), (5, .p 0 0), (9, .p 2 0), (14, .v (.slice ae ((qak aa).length) af))] ar eN fun kZ eO => ?_
     refine qae (qab ?_)
     refine wp_seq ?_
     refine qam [(1, .v (.int .i64 v)), (2, .v (.bool flex)), (5, .p 0 0), (9, .p 2 0), (14, .v (.slice ae ((qak aa).length) af)), (89, .v (.bool (((ao.length : Nat) : Int) != (((qak aa).length : Nat) : Int))))] ar eO fun k5 aH => ?_
     refine qat aH (b := ((ao.length : Nat) : Int) != (((qak aa).length : Nat) : Int)) kz (fun aI => ?_) (fun aI => ?_)
     ·
      have jt : ((ao.length : Nat) : Int) ≠ (((qak aa).length : Nat) : Int) := by simpa using aI
      refine qam [(10, .v (.bool false))] ar aH fun k6 eP => ?_
      refine wp_ret ?_
      refine qal ?_
      refine qau ?_
      refine qal ?_
      refine qaD eP ar.cells (v := .bool false) kz ?_
      first
       | exact (qfU hq ‹_› ‹_› ‹_›).elim
       | exact (to_len (hQ.2 ac ‹_›).1 ‹_›).elim
       | (exfalso; simp_all; done)
     ·
      have ju : ((ao.length : Nat) : Int) = (((qak aa).length : Nat) : Int) := by simpa using aI
      refine wp_skip ?_
      refine qab ?_
      refine qad [0, 1, 2] kz ?_
      refine qah [0] [1, 2] [(1, .v (.int .i64 v)), (2, .v (.bool flex)), (5, .p 0 0), (9, .p 2 0), (14, .v (.slice ae ((qak aa).length) af)), (90, .v (.agg #[.int .i64 k1, .int .i64 y2, .int .i64 y3, .int .i64 y4, .int .i64 y5, .int .i64 y6, .int .i64 y7, .slice A9 l8.length ap]))] ar aH fun k7 eQ => ?_
      refine qaj (qaK ar eQ (d := 15) (cs := [.int .i64 0, .int .i64 0, .int .i64 0, .int .i64 0, .int .i64 0, .int .i64 0, .int .i64 0, .slice none 0 0]) kz fun ir k8 k9 jv jw jx eR eS => ?_)
      refine qaj (qav eR eS (oi := 3) (cs := [.int .i64 k1, .int .i64 y2, .int .i64 y3, .int .i64 y4, .int .i64 y5, .int .i64 y6, .int .i64 y7, .slice A9 l8.length ap]) kz fun la jy cI eU => ?_)
      refine qae (qab ?_)
      refine qad [0, 1, 2, 3, 4, 5, 6, 7] kz ?_
      refine qah [0, 1, 2] [3, 4, 5, 6, 7] [(1, .v (.int .i64 v)), (2, .v (.bool flex)), (9, .p 2 0), (14, .v (.slice ae ((qak aa).length) af)), (15, .p 3 0), (92, .v (.int .i64 y7)), (93, .p 3 0)] cI eU fun lb eV => ?_
      refine qaj (qav cI eV (oi := 3) (cs := [.int .i64 y7, .int .i64 y2, .int .i64 y3, .int .i64 y4, .int .i64 y5, .int .i64 y6, .int .i64 y7, .slice A9 l8.length ap]) kz fun lc jz cJ eW => ?_)
      refine qah [4] [5, 6, 7] [(1, .v (.int .i64 v)), (2, .v (.bool flex)), (9, .p 2 0), (14, .v (.slice ae ((qak aa).length) af)), (15, .p 3 0), (94, .p 3 3)] cJ eW fun ld eX => ?_
      refine qaj (qav cJ eX (oi := 3) (cs := [.int .i64 y7, .int .i64 y2, .int .i64 y3, .int .i64 (-1), .int .i64 y5, .int .i64 y6, .int .i64 y7, .slice A9 l8.length ap]) kz fun lf jA cK eY => ?_)
      refine qah [6] [7] [(1, .v (.int .i64 v)), (2, .v (.bool flex)), (9, .p 2 0), (14, .v (.slice ae ((qak aa).length) af)), (15, .p 3 0), (95, .p 3 4)] cK eY fun lg eZ => ?_
      refine qaj (qav cK eZ (oi := 3) (cs := [.int .i64 y7, .int .i64 y2, .int .i64 y3, .int .i64 (-1), .int .i64 (-1), .int .i64 y6, .int .i64 y7, .slice A9 l8.length ap]) kz fun lh jB aJ e9 => ?_)
      refine qae (qab ?_)
      refine wp_seq ?_
      refine qam [(1, .v (.int .i64 v)), (2, .v (.bool flex)), (9, .p 2 0), (14, .v (.slice ae ((qak aa).length) af)), (15, .p 3 0), (97, .v (.int .i64 (((qak aa).length : Nat) : Int))), (98, .v (.int .i64 0))] aJ e9 fun li fa => ?_
      refine wp_block ?_
      have hl_ := (hQ.2 ac ‹_›).2
      refine wp_loop_ghost (fun n_ a_ w_ => ∃ (k : Nat), n_ = (qak aa).length - k ∧ k ≤ (qak aa).length ∧ LInv aJ 124 [⟨hK, 0, [.int .i64 k1, .int .i64 y2, .int .i64 y3, .int .i64 y4, .int .i64 y5, .int .i64 y6, .int .i64 y7, .slice A9 l8.length ap], true⟩, ⟨ib, 0, [.int .i64 aj, .slice ep ak.length eu, .bool al, .slice ae aa.length af, .slice ev am.length ew], true⟩, ⟨ii, 0, [.int .i64 gS, .slice gV gT.length gW, .bool cz, .slice bC ao.length dG, .slice gX gU.length gY], true⟩, ⟨ir, 0, [.int .i64 y7, .int .i64 y2, .int .i64 y3, .int .i64 (-1), .int .i64 (-1), .int .i64 y6, .int .i64 y7, .slice A9 l8.length ap], true⟩] [] [(1, .v (.int .i64 v)), (2, .v (.bool flex)), (9, .p 2 0), (14, .v (.slice ae ((qak aa).length) af)), (15, .p 3 0), (97, .v (.int .i64 (((qak aa).length : Nat) : Int))), (98, .v (.int .i64 ((k : Nat) : Int)))] a_ w_) ((qak aa).length) ⟨0, by omega, by omega, fa.pk, aJ, Fr.refl _ _ _⟩ ?_
      rintro lj lm ln ⟨k, jC, jD, fb, au, fe⟩
      refine qam [(1, .v (.int .i64 v)), (2, .v (.bool flex)), (9, .p 2 0), (14, .v (.slice ae ((qak aa).length) af)), (15, .p 3 0), (97, .v (.int .i64 (((qak aa).length : Nat) : Int))), (98, .v (.int .i64 ((k : Nat) : Int))), (99, .v (.bool (decide (((k : Nat) : Int) < (((qak aa).length : Nat) : Int)))))] au fb fun lp aK => ?_
      refine wp_seq ?_
      refine qat aK (b := decide (((k : Nat) : Int) < (((qak aa).length : Nat) : Int))) kz (fun aL => ?_) (fun aL => ?_)
      ·
       have jE := of_decide_eq_true aL
       refine wp_skip ?_
       refine qab ?_
       refine wp_seq ?_
       refine wp_block ?_
       refine qam [(1, .v (.int .i64 v)), (2, .v (.bool flex)), (9, .p 2 0), (14, .v (.slice ae ((qak aa).length) af)), (15, .p 3 0), (16, .v (.int .i64 ((k : Nat) : Int))), (97, .v (.int .i64 (((qak aa).length : Nat) : Int))), (98, .v (.int .i64 ((k : Nat) : Int)))] au aK fun lq ff => ?_
       refine qaE 14 kz au fun lr fg ag aA => ?_
       refine qaF [0, 1, 2, 3, 4, 7, 8, 9] [(1, .v (.int .i64 v)), (2, .v (.bool flex)), (9, .p 2 0), (14, .v (.slice ae ((qak aa).length) af)), (15, .p 3 0), (97, .v (.int .i64 (((qak aa).length : Nat) : Int))), (98, .v (.int .i64 ((k : Nat) : Int))), (101, .v (.agg #[.int .i64 y7, .int .i64 y2, .int .i64 y3, .int .i64 (-1), .int .i64 (-1), .int .i64 y6, .int .i64 y7, .slice A9 l8.length ap])), (102, .v (.int .i64 v)), (103, .v (.bool flex)), (104, .v (.slice ae ((qak aa).length) af)), (105, .v (.int .i64 ((k : Nat) : Int))), (109, .v (.slice bC ao.length dG)), (110, .v (.int .i64 ((k : Nat) : Int)))] 6 (qaa (qac (qaa (qaa (qac (qaa (qac (qaa qaf)))))))) (fun _ h => h.cells) aA ff fun ls fh => ?_
       obtain ⟨iu, iv, fi, jF, aM⟩ := Slots.get (qcu dF) (i := k) (by first | omega | (have h_ : ao.length = (qak aa).length := (hQ.2 ac ‹_›).1; omega))
       obtain ⟨iw, cL⟩ : ∃ x, (qak aa)[k]? = some x := ⟨_, List.getElem?_eq_getElem (by omega)⟩
       have aN := (qcQ hC) k iw cL
       obtain ⟨bE, bF, bG, bH, bI, dH, dI, dJ, dK, dL, dM, jG, rfl, aO, ix, iy, lu, lv⟩ := aN.open_
       rw [aO] at aN
       have iz := ix.small
       have iA := iy.small
       rw [aO] at aM
       refine qaL fh (i := 5) (t := 23) (A := ae) (m := ((qak aa).length)) (q := ((k : Nat) : Int)) (d := 106) kz (e := 26) (size := 5) (bytes := 88) kz fi rfl (by first | omega | (have h_ : ao.length = (qak aa).length := (hQ.2 ac ‹_›).1; omega)) kz kz (qaa (qac (qaa (qaa (qac (qaa (qac (qaa qaf)))))))) aA fun lw fj => ?_
       refine qaW fj (i := 6) (t := 26) (b := iu) (o := iv + k * 5) (d := 107) kz (cs := [.int .i64 bE, .slice dH bF.length dI, .bool bG, .slice dJ bH.length dK, .slice dL bI.length dM]) (v := .agg #[.int .i64 bE, .slice dH bF.length dI, .bool bG, .slice dJ bH.length dK, .slice dL bI.length dM]) kz (fun w' h' => (AtF.move aM (TT.step0 ag h') nilM qaX).at_) kz kz (qaa (qac (qaa (qaa (qac (qaa (qac (qaa qaf)))))))) aA fun lx fk => ?_
       obtain ⟨iB, iC, fm, jH, aP⟩ := Slots.get gZ (i := k) (by first | omega | (have h_ : ao.length = (qak aa).length := (hQ.2 ac ‹_›).1; omega))
       obtain ⟨iD, cM⟩ : ∃ x, ao[k]? = some x := ⟨_, List.getElem?_eq_getElem (by omega)⟩
       have aQ := hJ k iD cM
       obtain ⟨bJ, bK, bL, bM, bN, dN, dO, dP, dQ, dR, dS, jI, rfl, aR, iE, iF, ly, lz⟩ := aQ.open_
       rw [aR] at aQ
       have iG := iE.small
       have iH := iF.small
       rw [aR] at aP
       refine qaL fk (i := 10) (t := 23) (A := bC) (m := ao.length) (q := ((k : Nat) : Int)) (d := 111) kz (e := 26) (size := 5) (bytes := 88) kz fm rfl (by first | omega | (have h_ : ao.length = (qak aa).length := (hQ.2 ac ‹_›).1; omega)) kz kz (qaa (qac (qaa (qaa (qac (qaa (qac (qaa qaf)))))))) aA fun lA fo => ?_
       refine qaW fo (i := 11) (t := 26) (b := iB) (o := iC + k * 5) (d := 112) kz (cs := [.int .i64 bJ, .slice dN bK.length dO, .bool bL, .slice dP bM.length dQ, .slice dR bN.length dS]) (v := .agg #[.int .i64 bJ, .slice dN bK.length dO, .bool bL, .slice dP bM.length dQ, .slice dR bN.length dS]) kz (fun w' h' => (AtF.move aP (TT.step0 ag h') nilM qaX).at_) kz kz (qaa (qac (qaa (qaa (qac (qaa (qac (qaa qaf)))))))) aA fun lB fq => ?_
       refine qay (i := 12) kz (qai fq (f := 60) (vs := [.agg #[.int .i64 y7, .int .i64 y2, .int .i64 y3, .int .i64 (-1), .int .i64 (-1), .int .i64 y6, .int .i64 y7, .slice A9 l8.length ap], .int .i64 v, .bool flex, .agg #[.int .i64 bE, .slice dH bF.length dI, .bool bG, .slice dJ bH.length dK, .slice dL bI.length dM], .agg #[.int .i64 bJ, .slice dN bK.length dO, .bool bL, .slice dP bM.length dQ, .slice dR bN.length dS]]) (d := 113) kz Tryz.call60 ( sTold0 hT _ _ _ (Tree.mk bE bF bG bH bI) _ (Tree.mk bJ bK bL bM bN) _ _ (FldR.mk (l := l8) dE (gR.move ag.step nilM ag.imm) (fun i_ x_ h_ => ((g9 i_ x_ h_).move ag.step nilM ag.imm))) hpl hof (aN.move ag.step nilM ag.imm) (aQ.move ag.step nilM ag.imm) (hl_ _ _ _ cL cM)) ?_)
       rintro e_ lC ⟨rfl, cN⟩
       refine ⟨_, rfl, fun lD fr => ?_⟩
       have aS := ag.next_nil cN
       have cO := ag.frN cN
       have cP := TT.ofW cO aS
       refine ⟨fun _ => cP, ?_⟩
       refine qaF [13] [(1, .v (.int .i64 v)), (2, .v (.bool flex)), (9, .p 2 0), (14, .v (.slice ae ((qak aa).length) af)), (15, .p 3 0), (97, .v (.int .i64 (((qak aa).length : Nat) : Int))), (98, .v (.int .i64 ((k : Nat) : Int))), (114, .v (.bool false))] 0 (qaa (qac (qaa (qaa (qac (qaa (qac (qaa qaf)))))))) (fun _ h => h.cells) cP fr fun lE cQ => ?_
       refine qaC kz ?_ _
       refine qab ?_
       refine qan cQ (b := false) kz rfl ?_
       refine wp_skip ?_
       refine qap ?_
       refine qab ?_
       refine qar [0, 1] kz ?_
       refine qah [0, 1] [] [(1, .v (.int .i64 v)), (2, .v (.bool flex)), (9, .p 2 0), (14, .v (.slice ae ((qak aa).length) af)), (15, .p 3 0), (97, .v (.int .i64 (((qak aa).length : Nat) : Int))), (98, .v (.int .i64 (IntKind.i64.wrap (((k : Nat) : Int) + 1))))] aS cQ fun lF cR => ?_
       refine qae (qab ?_)
       have ft : IntKind.i64.wrap (((k : Nat) : Int) + 1) = ((k + 1 : Nat) : Int) := qaJ (by omega)
       rw [ft] at cR
       exact ⟨(qak aa).length - (k + 1), by omega, k + 1, rfl, by omega, cR.pk, aS, ((fe.trans fg).trans cO)⟩
      ·
       have jJ := of_decide_eq_false aL
       refine wp_exit ?_
       refine qaz ?_
       refine qaz ?_
       refine qaI ?_
       refine qab ?_
       refine qam [(10, .v (.bool true))] au aK fun lG fu => ?_
       refine wp_ret ?_
       refine qau ?_
       refine qal ?_
       refine qaD fu au.cells (v := .bool true) kz ?_
       exact ⟨rfl, au.step⟩
  ·
   have jK := of_decide_eq_false az
   have fv := cA.cast (env' := [(1, .v (.int .i64 v)), (2, .v (.bool flex)), (5, .p 0 0), (8, .p 1 0), (9, .p 2 0), (11, .v (.bool (Fld.nul (Fld.mk k1 y2 y3 y4 y5 y6 y7 l8) v (Tree.mk aj ak al aa am)))), (41, .v (.bool false))]) (by rw [az])
   refine qah [12, 13, 14, 15, 16] [] [(1, .v (.int .i64 v)), (2, .v (.bool flex)), (5, .p 0 0), (8, .p 1 0), (9, .p 2 0), (11, .v (.bool (Fld.nul (Fld.mk k1 y2 y3 y4 y5 y6 y7 l8) v (Tree.mk aj ak al aa am)))), (46, .v (.bool false))] ab fv fun lH cS => ?_
   refine qae (qab ?_)
   refine qan cS (b := false) kz rfl ?_
   refine wp_skip ?_
   refine qab ?_
   refine wp_seq ?_
   refine qam [(1, .v (.int .i64 v)), (2, .v (.bool flex)), (5, .p 0 0), (8, .p 1 0), (9, .p 2 0), (47, .v (.bool (Fld.nul (Fld.mk k1 y2 y3 y4 y5 y6 y7 l8) v (Tree.mk aj ak al aa am))))] ab cS fun lI aT => ?_
   refine qat aT (b := Fld.nul (Fld.mk k1 y2 y3 y4 y5 y6 y7 l8) v (Tree.mk aj ak al aa am)) kz (fun fw => ?_) (fun fw => ?_)
   ·
    refine qam [(10, .v (.bool true))] ab aT fun lJ fx => ?_
    refine wp_ret ?_
    refine qal ?_
    refine qaD fx ab.cells (v := .bool true) kz ?_
    exact ⟨rfl, ab.step⟩
   ·
    refine wp_skip ?_
    refine qab ?_
    refine wp_seq ?_
    refine qam [(1, .v (.int .i64 v)), (2, .v (.bool flex)), (5, .p 0 0), (8, .p 1 0), (9, .p 2 0), (49, .v (.int .i64 k1))] ab aT fun lK fy => ?_
    refine wp_block ?_
    refine wp_seq ?_
    refine qam [(1, .v (.int .i64 v)), (2, .v (.bool flex)), (5, .p 0 0), (8, .p 1 0), (9, .p 2 0), (49, .v (.int .i64 k1)), (50, .v (.bool (k1 == 8)))] ab fy fun lL cT => ?_
    refine qan cT (b := k1 == 8) kz (by simp [ac]) ?_
    refine qar [0, 1] kz ?_
    refine qah [0, 1] [] [(1, .v (.int .i64 v)), (2, .v (.bool flex)), (5, .p 0 0), (8, .p 1 0), (9, .p 2 0), (49, .v (.int .i64 k1)), (50, .v (.bool (k1 == 9)))] ab cT fun lM cU => ?_
    refine qae (qab ?_)
    refine qan cU (b := k1 == 9) kz (by simp [ac]) ?_
    refine qam [(1, .v (.int .i64 v)), (2, .v (.bool flex)), (5, .p 0 0), (8, .p 1 0), (9, .p 2 0), (49, .v (.int .i64 k1)), (59, .v (.bool (k1 == 7)))] ab cU fun lN cV => ?_
    refine qan cV (b := k1 == 7) kz (by simp [ac]) ?_
    refine qam [(1, .v (.int .i64 v)), (2, .v (.bool flex)), (5, .p 0 0), (8, .p 1 0), (9, .p 2 0), (49, .v (.int .i64 k1)), (70, .v (.bool (k1 == 10)))] ab cV fun lO cW => ?_
    refine qan cW (b := k1 == 10) kz (by simp [ac]) ?_
    refine qam [(1, .v (.int .i64 v)), (2, .v (.bool flex)), (5, .p 0 0), (8, .p 1 0), (9, .p 2 0), (79, .v (.bool (k1 == 11)))] ab cW fun lP cX => ?_
    refine qaV cX (b := k1 == 11) kz (by simpa using ac) ?_
    refine qad [0, 1, 2, 3] kz ?_
    refine qah [0, 1] [2, 3] [(1, .v (.int .i64 v)), (2, .v (.bool flex)), (5, .p 0 0), (9, .p 2 0), (82, .v (.slice ae aa.length af))] ab cX fun lQ fz => ?_
    refine qaj (qai fz (f := 131) (vs := [.slice ae aa.length af]) (d := 83) kz Tryz.call131 (qfJ _ _ aa (dF.move ab.step nilM ab.imm).le _) ?_)
    rintro e_ lR ⟨rfl, cY⟩
    refine ⟨_, rfl, fun lS fA => ?_⟩
    have av := ab.next_nil cY
    have jL := ab.frN cY
    refine qah [3] [] [(1, .v (.int .i64 v)), (2, .v (.bool flex)), (5, .p 0 0), (9, .p 2 0), (14, .v (.slice ae ((qak aa).length) af))] av fA fun lT fB => ?_
    refine qae (qab ?_)
    refine wp_seq ?_
    refine qam [(1, .v (.int .i64 v)), (2, .v (.bool flex)), (5, .p 0 0), (9, .p 2 0), (14, .v (.slice ae ((qak aa).length) af)), (89, .v (.bool (((ao.length : Nat) : Int) != (((qak aa).length : Nat) : Int))))] av fB fun lU aU => ?_
    refine qat aU (b := ((ao.length : Nat) : Int) != (((qak aa).length : Nat) : Int)) kz (fun aV => ?_) (fun aV => ?_)
    ·
     have jM : ((ao.length : Nat) : Int) ≠ (((qak aa).length : Nat) : Int) := by simpa using aV
     refine qam [(10, .v (.bool false))] av aU fun lV fC => ?_
     refine wp_ret ?_
     refine qal ?_
     refine qau ?_
     refine qal ?_
     refine qaD fC av.cells (v := .bool false) kz ?_
     first
      | exact (qfU hq ‹_› ‹_› ‹_›).elim
      | exact (to_len (hQ.2 ac ‹_›).1 ‹_›).elim
      | (exfalso; simp_all; done)
    ·
     have jN : ((ao.length : Nat) : Int) = (((qak aa).length : Nat) : Int) := by simpa using aV
     refine wp_skip ?_
     refine qab ?_
     refine qad [0, 1, 2] kz ?_
     refine qah [0] [1, 2] [(1, .v (.int .i64 v)), (2, .v (.bool flex)), (5, .p 0 0), (9, .p 2 0), (14, .v (.slice ae ((qak aa).length) af)), (90, .v (.agg #[.int .i64 k1, .int .i64 y2, .int .i64 y3, .int .i64 y4, .int .i64 y5, .int .i64 y6, .int .i64 y7, .slice A9 l8.length ap]))] av aU fun lW fD => ?_
     refine qaj (qaK av fD (d := 15) (cs := [.int .i64 0, .int .i64 0, .int .i64 0, .int .i64 0, .int .i64 0, .int .i64 0, .int .i64 0, .slice none 0 0]) kz fun iI lX lY jO jP jQ fE fF => ?_)
     refine qaj (qav fE fF (oi := 3) (cs := [.int .i64 k1, .int .i64 y2, .int .i64 y3, .int .i64 y4, .int .i64 y5, .int .i64 y6, .int .i64 y7, .slice A9 l8.length ap]) kz fun lZ jR cZ fG => ?_)
     refine qae (qab ?_)
     refine qad [0, 1, 2, 3, 4, 5, 6, 7] kz ?_
     refine qah [0, 1, 2] [3, 4, 5, 6, 7] [(1, .v (.int .i64 v)), (2, .v (.bool flex)), (9, .p 2 0), (14, .v (.slice ae ((qak aa).length) af)), (15, .p 3 0), (92, .v (.int .i64 y7)), (93, .p 3 0)] cZ fG fun l0 fH => ?_
     refine qaj (qav cZ fH (oi := 3) (cs := [.int .i64 y7, .int .i64 y2, .int .i64 y3, .int .i64 y4, .int .i64 y5, .int .i64 y6, .int .i64 y7, .slice A9 l8.length ap]) kz fun l3 jS c5 fI => ?_)
     refine qah [4] [5, 6, 7] [(1, .v (.int .i64 v)), (2, .v (.bool flex)), (9, .p 2 0), (14, .v (.slice ae ((qak aa).length) af)), (15, .p 3 0), (94, .p 3 3)] c5 fI fun l5 fJ => ?_
     refine qaj (qav c5 fJ (oi := 3) (cs := [.int .i64 y7, .int .i64 y2, .int .i64 y3, .int .i64 (-1), .int .i64 y5, .int .i64 y6, .int .i64 y7, .slice A9 l8.length ap]) kz fun l6 jT c6 fK => ?_)
     refine qah [6] [7] [(1, .v (.int .i64 v)), (2, .v (.bool flex)), (9, .p 2 0), (14, .v (.slice ae ((qak aa).length) af)), (15, .p 3 0), (95, .p 3 4)] c6 fK fun l7 fL => ?_
     refine qaj (qav c6 fL (oi := 3) (cs := [.int .i64 y7, .int .i64 y2, .int .i64 y3, .int .i64 (-1), .int .i64 (-1), .int .i64 y6, .int .i64 y7, .slice A9 l8.length ap]) kz fun l9 jU aW fM => ?_)
     refine qae (qab ?_)
     refine wp_seq ?_
     refine qam [(1, .v (.int .i64 v)), (2, .v (.bool flex)), (9, .p 2 0), (14, .v (.slice ae ((qak aa).length) af)), (15, .p 3 0), (97, .v (.int .i64 (((qak aa).length : Nat) : Int))), (98, .v (.int .i64 0))] aW fM fun ma fN => ?_
     refine wp_block ?_
     have hl_ := (hQ.2 ac ‹_›).2
     refine wp_loop_ghost (fun n_ a_ w_ => ∃ (k : Nat), n_ = (qak aa).length - k ∧ k ≤ (qak aa).length ∧ LInv aW 124 [⟨hK, 0, [.int .i64 k1, .int .i64 y2, .int .i64 y3, .int .i64 y4, .int .i64 y5, .int .i64 y6, .int .i64 y7, .slice A9 l8.length ap], true⟩, ⟨ib, 0, [.int .i64 aj, .slice ep ak.length eu, .bool al, .slice ae aa.length af, .slice ev am.length ew], true⟩, ⟨ii, 0, [.int .i64 gS, .slice gV gT.length gW, .bool cz, .slice bC ao.length dG, .slice gX gU.length gY], true⟩, ⟨iI, 0, [.int .i64 y7, .int .i64 y2, .int .i64 y3, .int .i64 (-1), .int .i64 (-1), .int .i64 y6, .int .i64 y7, .slice A9 l8.length ap], true⟩] [] [(1, .v (.int .i64 v)), (2, .v (.bool flex)), (9, .p 2 0), (14, .v (.slice ae ((qak aa).length) af)), (15, .p 3 0), (97, .v (.int .i64 (((qak aa).length : Nat) : Int))), (98, .v (.int .i64 ((k : Nat) : Int)))] a_ w_) ((qak aa).length) ⟨0, by omega, by omega, fN.pk, aW, Fr.refl _ _ _⟩ ?_
     rintro mc md me ⟨k, jV, jW, fO, aw, fP⟩
     refine qam [(1, .v (.int .i64 v)), (2, .v (.bool flex)), (9, .p 2 0), (14, .v (.slice ae ((qak aa).length) af)), (15, .p 3 0), (97, .v (.int .i64 (((qak aa).length : Nat) : Int))), (98, .v (.int .i64 ((k : Nat) : Int))), (99, .v (.bool (decide (((k : Nat) : Int) < (((qak aa).length : Nat) : Int)))))] aw fO fun mf aX => ?_
     refine wp_seq ?_
     refine qat aX (b := decide (((k : Nat) : Int) < (((qak aa).length : Nat) : Int))) kz (fun aY => ?_) (fun aY => ?_)
     ·
      have jX := of_decide_eq_true aY
      refine wp_skip ?_
      refine qab ?_
      refine wp_seq ?_
      refine wp_block ?_
      refine qam [(1, .v (.int .i64 v)), (2, .v (.bool flex)), (9, .p 2 0), (14, .v (.slice ae ((qak aa).length) af)), (15, .p 3 0), (16, .v (.int .i64 ((k : Nat) : Int))), (97, .v (.int .i64 (((qak aa).length : Nat) : Int))), (98, .v (.int .i64 ((k : Nat) : Int)))] aw aX fun mg fQ => ?_
      refine qaE 14 kz aw fun mh fR ah aB => ?_
      refine qaF [0, 1, 2, 3, 4, 7, 8, 9] [(1, .v (.int .i64 v)), (2, .v (.bool flex)), (9, .p 2 0), (14, .v (.slice ae ((qak aa).length) af)), (15, .p 3 0), (97, .v (.int .i64 (((qak aa).length : Nat) : Int))), (98, .v (.int .i64 ((k : Nat) : Int))), (101, .v (.agg #[.int .i64 y7, .int .i64 y2, .int .i64 y3, .int .i64 (-1), .int .i64 (-1), .int .i64 y6, .int .i64 y7, .slice A9 l8.length ap])), (102, .v (.int .i64 v)), (103, .v (.bool flex)), (104, .v (.slice ae ((qak aa).length) af)), (105, .v (.int .i64 ((k : Nat) : Int))), (109, .v (.slice bC ao.length dG)), (110, .v (.int .i64 ((k : Nat) : Int)))] 6 (qaa (qac (qaa (qaa (qac (qaa (qac (qaa qaf)))))))) (fun _ h => h.cells) aB fQ fun mi fS => ?_
      obtain ⟨iJ, iK, fT, jY, aZ⟩ := Slots.get (qcu dF) (i := k) (by first | omega | (have h_ : ao.length = (qak aa).length := (hQ.2 ac ‹_›).1; omega))
      obtain ⟨iL, da⟩ : ∃ x, (qak aa)[k]? = some x := ⟨_, List.getElem?_eq_getElem (by omega)⟩
      have ba := (qcQ hC) k iL da
      obtain ⟨bO, bP, bQ, bR, bS, dT, dU, dV, dW, dX, dY, jZ, rfl, bd, iM, iN, mj, ml⟩ := ba.open_
      rw [bd] at ba
      have iO := iM.small
      have iP := iN.small
      rw [bd] at aZ
      refine qaL fS (i := 5) (t := 23) (A := ae) (m := ((qak aa).length)) (q := ((k : Nat) : Int)) (d := 106) kz (e := 26) (size := 5) (bytes := 88) kz fT rfl (by first | omega | (have h_ : ao.length = (qak aa).length := (hQ.2 ac ‹_›).1; omega)) kz kz (qaa (qac (qaa (qaa (qac (qaa (qac (qaa qaf)))))))) aB fun mn fU => ?_
      refine qaW fU (i := 6) (t := 26) (b := iJ) (o := iK + k * 5) (d := 107) kz (cs := [.int .i64 bO, .slice dT bP.length dU, .bool bQ, .slice dV bR.length dW, .slice dX bS.length dY]) (v := .agg #[.int .i64 bO, .slice dT bP.length dU, .bool bQ, .slice dV bR.length dW, .slice dX bS.length dY]) kz (fun w' h' => (AtF.move aZ (TT.step0 ah h') nilM qaX).at_) kz kz (qaa (qac (qaa (qaa (qac (qaa (qac (qaa qaf)))))))) aB fun mo fV => ?_
      obtain ⟨iQ, iR, fW, j0, bf⟩ := Slots.get gZ (i := k) (by first | omega | (have h_ : ao.length = (qak aa).length := (hQ.2 ac ‹_›).1; omega))
      obtain ⟨iS, db⟩ : ∃ x, ao[k]? = some x := ⟨_, List.getElem?_eq_getElem (by omega)⟩
      have bg := hJ k iS db
      obtain ⟨bT, bU, bV, bW, bX, dZ, d5, d6, d7, d8, d9, j1, rfl, bh, iT, iU, mp, mq⟩ := bg.open_
      rw [bh] at bg
      have iV := iT.small
      have iW := iU.small
      rw [bh] at bf
      refine qaL fV (i := 10) (t := 23) (A := bC) (m := ao.length) (q := ((k : Nat) : Int)) (d := 111) kz (e := 26) (size := 5) (bytes := 88) kz fW rfl (by first | omega | (have h_ : ao.length = (qak aa).length := (hQ.2 ac ‹_›).1; omega)) kz kz (qaa (qac (qaa (qaa (qac (qaa (qac (qaa qaf)))))))) aB fun mr fX => ?_
      refine qaW fX (i := 11) (t := 26) (b := iQ) (o := iR + k * 5) (d := 112) kz (cs := [.int .i64 bT, .slice dZ bU.length d5, .bool bV, .slice d6 bW.length d7, .slice d8 bX.length d9]) (v := .agg #[.int .i64 bT, .slice dZ bU.length d5, .bool bV, .slice d6 bW.length d7, .slice d8 bX.length d9]) kz (fun w' h' => (AtF.move bf (TT.step0 ah h') nilM qaX).at_) kz kz (qaa (qac (qaa (qaa (qac (qaa (qac (qaa qaf)))))))) aB fun mt fY => ?_
      refine qay (i := 12) kz (qai fY (f := 60) (vs := [.agg #[.int .i64 y7, .int .i64 y2, .int .i64 y3, .int .i64 (-1), .int .i64 (-1), .int .i64 y6, .int .i64 y7, .slice A9 l8.length ap], .int .i64 v, .bool flex, .agg #[.int .i64 bO, .slice dT bP.length dU, .bool bQ, .slice dV bR.length dW, .slice dX bS.length dY], .agg #[.int .i64 bT, .slice dZ bU.length d5, .bool bV, .slice d6 bW.length d7, .slice d8 bX.length d9]]) (d := 113) kz Tryz.call60 ( sTold0 hT _ _ _ (Tree.mk bO bP bQ bR bS) _ (Tree.mk bT bU bV bW bX) _ _ (FldR.mk (l := l8) dE (gR.move ah.step nilM ah.imm) (fun i_ x_ h_ => ((g9 i_ x_ h_).move ah.step nilM ah.imm))) hpl hof (ba.move ah.step nilM ah.imm) (bg.move ah.step nilM ah.imm) (hl_ _ _ _ da db)) ?_)
      rintro e_ mu ⟨rfl, dc⟩
      refine ⟨_, rfl, fun mw fZ => ?_⟩
      have bi := ah.next_nil dc
      have de := ah.frN dc
      have df := TT.ofW de bi
      refine ⟨fun _ => df, ?_⟩
      refine qaF [13] [(1, .v (.int .i64 v)), (2, .v (.bool flex)), (9, .p 2 0), (14, .v (.slice ae ((qak aa).length) af)), (15, .p 3 0), (97, .v (.int .i64 (((qak aa).length : Nat) : Int))), (98, .v (.int .i64 ((k : Nat) : Int))), (114, .v (.bool false))] 0 (qaa (qac (qaa (qaa (qac (qaa (qac (qaa qaf)))))))) (fun _ h => h.cells) df fZ fun mx dg => ?_
      refine qaC kz ?_ _
      refine qab ?_
      refine qan dg (b := false) kz rfl ?_
      refine wp_skip ?_
      refine qap ?_
      refine qab ?_
      refine qar [0, 1] kz ?_
      refine qah [0, 1] [] [(1, .v (.int .i64 v)), (2, .v (.bool flex)), (9, .p 2 0), (14, .v (.slice ae ((qak aa).length) af)), (15, .p 3 0), (97, .v (.int .i64 (((qak aa).length : Nat) : Int))), (98, .v (.int .i64 (IntKind.i64.wrap (((k : Nat) : Int) + 1))))] bi dg fun my dh => ?_
      refine qae (qab ?_)
      have f5 : IntKind.i64.wrap (((k : Nat) : Int) + 1) = ((k + 1 : Nat) : Int) := qaJ (by omega)
      rw [f5] at dh
      exact ⟨(qak aa).length - (k + 1), by omega, k + 1, rfl, by omega, dh.pk, bi, ((fP.trans fR).trans de)⟩
     ·
      have j2 := of_decide_eq_false aY
      refine wp_exit ?_
      refine qaz ?_
      refine qaz ?_
      refine qaI ?_
      refine qab ?_
      refine qam [(10, .v (.bool true))] aw aX fun mz f7 => ?_
      refine wp_ret ?_
      refine qau ?_
      refine qal ?_
      refine qaD f7 aw.cells (v := .bool true) kz ?_
      exact ⟨rfl, aw.step⟩
 ·
  have j3 := of_decide_eq_false aD
  have f8 := ez.cast (env' := [(1, .v (.int .i64 v)), (2, .v (.bool flex)), (5, .p 0 0), (8, .p 1 0), (9, .p 2 0), (11, .v (.bool (Fld.nul (Fld.mk k1 y2 y3 y4 y5 y6 y7 l8) v (Tree.mk aj ak al aa am)))), (24, .v (.bool false))]) (by rw [aD])
  refine qah [4, 5, 6, 7, 8, 9] [] [(1, .v (.int .i64 v)), (2, .v (.bool flex)), (5, .p 0 0), (8, .p 1 0), (9, .p 2 0), (11, .v (.bool (Fld.nul (Fld.mk k1 y2 y3 y4 y5 y6 y7 l8) v (Tree.mk aj ak al aa am)))), (12, .v (.bool false))] ab f8 fun mA f9 => ?_
  refine qae (qab ?_)
  refine wp_seq ?_
  refine qad [0, 1, 2, 3, 4, 5, 6, 7, 8, 9, 10, 11, 12, 13, 14, 15, 16] kz ?_
  refine qah [0, 1, 2, 3] [4, 5, 6, 7, 8, 9, 10, 11, 12, 13, 14, 15, 16] [(1, .v (.int .i64 v)), (2, .v (.bool flex)), (5, .p 0 0), (8, .p 1 0), (9, .p 2 0), (11, .v (.bool (Fld.nul (Fld.mk k1 y2 y3 y4 y5 y6 y7 l8) v (Tree.mk aj ak al aa am)))), (12, .v (.bool false)), (33, .v (.bool (k1 == 8)))] ab f9 fun mB ga => ?_
  have gb : (k1 == 8) = false := by simp [ac]
  have gc := ga.cast (env' := [(1, .v (.int .i64 v)), (2, .v (.bool flex)), (5, .p 0 0), (8, .p 1 0), (9, .p 2 0), (11, .v (.bool (Fld.nul (Fld.mk k1 y2 y3 y4 y5 y6 y7 l8) v (Tree.mk aj ak al aa am)))), (12, .v (.bool false)), (33, .v (.bool false))]) (by rw [gb])
  refine qah [4, 5, 6, 7, 8] [9, 10, 11, 12, 13, 14, 15, 16] [(1, .v (.int .i64 v)), (2, .v (.bool flex)), (5, .p 0 0), (8, .p 1 0), (9, .p 2 0), (11, .v (.bool (Fld.nul (Fld.mk k1 y2 y3 y4 y5 y6 y7 l8) v (Tree.mk aj ak al aa am)))), (12, .v (.bool false)), (38, .v (.bool (k1 == 10)))] ab gc fun mC gd => ?_
  have ge : (k1 == 10) = false := by simp [ac]
  have gg := gd.cast (env' := [(1, .v (.int .i64 v)), (2, .v (.bool flex)), (5, .p 0 0), (8, .p 1 0), (9, .p 2 0), (11, .v (.bool (Fld.nul (Fld.mk k1 y2 y3 y4 y5 y6 y7 l8) v (Tree.mk aj ak al aa am)))), (12, .v (.bool false)), (38, .v (.bool false))]) (by rw [ge])
  refine qah [9, 10, 11, 12, 13, 14, 15, 16] [] [(1, .v (.int .i64 v)), (2, .v (.bool flex)), (5, .p 0 0), (8, .p 1 0), (9, .p 2 0), (11, .v (.bool (Fld.nul (Fld.mk k1 y2 y3 y4 y5 y6 y7 l8) v (Tree.mk aj ak al aa am)))), (46, .v (.bool false))] ab gg fun mD di => ?_
  refine qae (qab ?_)
  refine qan di (b := false) kz rfl ?_
  refine wp_skip ?_
  refine qab ?_
  refine wp_seq ?_
  refine qam [(1, .v (.int .i64 v)), (2, .v (.bool flex)), (5, .p 0 0), (8, .p 1 0), (9, .p 2 0), (47, .v (.bool (Fld.nul (Fld.mk k1 y2 y3 y4 y5 y6 y7 l8) v (Tree.mk aj ak al aa am))))] ab di fun mF bj => ?_
  refine qat bj (b := Fld.nul (Fld.mk k1 y2 y3 y4 y5 y6 y7 l8) v (Tree.mk aj ak al aa am)) kz (fun gh => ?_) (fun gh => ?_)
  ·
   refine qam [(10, .v (.bool true))] ab bj fun mG gi => ?_
   refine wp_ret ?_
   refine qal ?_
   refine qaD gi ab.cells (v := .bool true) kz ?_
   exact ⟨rfl, ab.step⟩
  ·
   refine wp_skip ?_
   refine qab ?_
   refine wp_seq ?_
   refine qam [(1, .v (.int .i64 v)), (2, .v (.bool flex)), (5, .p 0 0), (8, .p 1 0), (9, .p 2 0), (49, .v (.int .i64 k1))] ab bj fun mH gj => ?_
   refine wp_block ?_
   refine wp_seq ?_
   refine qam [(1, .v (.int .i64 v)), (2, .v (.bool flex)), (5, .p 0 0), (8, .p 1 0), (9, .p 2 0), (49, .v (.int .i64 k1)), (50, .v (.bool (k1 == 8)))] ab gj fun mI dj => ?_
   refine qan dj (b := k1 == 8) kz (by simp [ac]) ?_
   refine qar [0, 1] kz ?_
   refine qah [0, 1] [] [(1, .v (.int .i64 v)), (2, .v (.bool flex)), (5, .p 0 0), (8, .p 1 0), (9, .p 2 0), (49, .v (.int .i64 k1)), (50, .v (.bool (k1 == 9)))] ab dj fun mJ dl => ?_
   refine qae (qab ?_)
   refine qan dl (b := k1 == 9) kz (by simp [ac]) ?_
   refine qam [(1, .v (.int .i64 v)), (2, .v (.bool flex)), (5, .p 0 0), (8, .p 1 0), (9, .p 2 0), (49, .v (.int .i64 k1)), (59, .v (.bool (k1 == 7)))] ab dl fun mK dp => ?_
   refine qan dp (b := k1 == 7) kz (by simp [ac]) ?_
   refine qam [(1, .v (.int .i64 v)), (2, .v (.bool flex)), (5, .p 0 0), (8, .p 1 0), (9, .p 2 0), (49, .v (.int .i64 k1)), (70, .v (.bool (k1 == 10)))] ab dp fun mL dq => ?_
   refine qan dq (b := k1 == 10) kz (by simp [ac]) ?_
   refine qam [(1, .v (.int .i64 v)), (2, .v (.bool flex)), (5, .p 0 0), (8, .p 1 0), (9, .p 2 0), (79, .v (.bool (k1 == 11)))] ab dq fun mM dr => ?_
   refine qaV dr (b := k1 == 11) kz (by simpa using ac) ?_
   refine qad [0, 1, 2, 3] kz ?_
   refine qah [0, 1] [2, 3] [(1, .v (.int .i64 v)), (2, .v (.bool flex)), (5, .p 0 0), (9, .p 2 0), (82, .v (.slice ae aa.length af))] ab dr fun mN gk => ?_
   refine qaj (qai gk (f := 131) (vs := [.slice ae aa.length af]) (d := 83) kz Tryz.call131 (qfJ _ _ aa (dF.move ab.step nilM ab.imm).le _) ?_)
   rintro e_ mO ⟨rfl, dt⟩
   refine ⟨_, rfl, fun mQ gl => ?_⟩
   have ax := ab.next_nil dt
   have j4 := ab.frN dt
   refine qah [3] [] [(1, .v (.int .i64 v)), (2, .v (.bool flex)), (5, .p 0 0), (9, .p 2 0), (14, .v (.slice ae ((qak aa).length) af))] ax gl fun mR gm => ?_
   refine qae (qab ?_)
   refine wp_seq ?_
   refine qam [(1, .v (.int .i64 v)), (2, .v (.bool flex)), (5, .p 0 0), (9, .p 2 0), (14, .v (.slice ae ((qak aa).length) af)), (89, .v (.bool (((ao.length : Nat) : Int) != (((qak aa).length : Nat) : Int))))] ax gm fun mS bk => ?_
   refine qat bk (b := ((ao.length : Nat) : Int) != (((qak aa).length : Nat) : Int)) kz (fun bn => ?_) (fun bn => ?_)
   ·
    have j5 : ((ao.length : Nat) : Int) ≠ (((qak aa).length : Nat) : Int) := by simpa using bn
    refine qam [(10, .v (.bool false))] ax bk fun mT gn => ?_
    refine wp_ret ?_
    refine qal ?_
    refine qau ?_
    refine qal ?_
    refine qaD gn ax.cells (v := .bool false) kz ?_
    first
     | exact (qfU hq ‹_› ‹_› ‹_›).elim
     | exact (to_len (hQ.2 ac ‹_›).1 ‹_›).elim
     | (exfalso; simp_all; done)
   ·
    have j6 : ((ao.length : Nat) : Int) = (((qak aa).length : Nat) : Int) := by simpa using bn
    refine wp_skip ?_
    refine qab ?_
    refine qad [0, 1, 2] kz ?_
    refine qah [0] [1, 2] [(1, .v (.int .i64 v)), (2, .v (.bool flex)), (5, .p 0 0), (9, .p 2 0), (14, .v (.slice ae ((qak aa).length) af)), (90, .v (.agg #[.int .i64 k1, .int .i64 y2, .int .i64 y3, .int .i64 y4, .int .i64 y5, .int .i64 y6, .int .i64 y7, .slice A9 l8.length ap]))] ax bk fun mU gp => ?_
    refine qaj (qaK ax gp (d := 15) (cs := [.int .i64 0, .int .i64 0, .int .i64 0, .int .i64 0, .int .i64 0, .int .i64 0, .int .i64 0, .slice none 0 0]) kz fun iX mV mW j7 j8 j9 gq gt => ?_)
    refine qaj (qav gq gt (oi := 3) (cs := [.int .i64 k1, .int .i64 y2, .int .i64 y3, .int .i64 y4, .int .i64 y5, .int .i64 y6, .int .i64 y7, .slice A9 l8.length ap]) kz fun mX ka du gv => ?_)
    refine qae (qab ?_)
    refine qad [0, 1, 2, 3, 4, 5, 6, 7] kz ?_
    refine qah [0, 1, 2] [3, 4, 5, 6, 7] [(1, .v (.int .i64 v)), (2, .v (.bool flex)), (9, .p 2 0), (14, .v (.slice ae ((qak aa).length) af)), (15, .p 3 0), (92, .v (.int .i64 y7)), (93, .p 3 0)] du gv fun mY gw => ?_
    refine qaj (qav du gw (oi := 3) (cs := [.int .i64 y7, .int .i64 y2, .int .i64 y3, .int .i64 y4, .int .i64 y5, .int .i64 y6, .int .i64 y7, .slice A9 l8.length ap]) kz fun mZ kd dv gx => ?_)
    refine qah [4] [5, 6, 7] [(1, .v (.int .i64 v)), (2, .v (.bool flex)), (9, .p 2 0), (14, .v (.slice ae ((qak aa).length) af)), (15, .p 3 0), (94, .p 3 3)] dv gx fun m4 gy => ?_
    refine qaj (qav dv gy (oi := 3) (cs := [.int .i64 y7, .int .i64 y2, .int .i64 y3, .int .i64 (-1), .int .i64 y5, .int .i64 y6, .int .i64 y7, .slice A9 l8.length ap]) kz fun m5 ke dw gz => ?_)
    refine qah [6] [7] [(1, .v (.int .i64 v)), (2, .v (.bool flex)), (9, .p 2 0), (14, .v (.slice ae ((qak aa).length) af)), (15, .p 3 0), (95, .p 3 4)] dw gz fun m6 gA => ?_
    refine qaj (qav dw gA (oi := 3) (cs := [.int .i64 y7, .int .i64 y2, .int .i64 y3, .int .i64 (-1), .int .i64 (-1), .int .i64 y6, .int .i64 y7, .slice A9 l8.length ap]) kz fun m7 kf bo gB => ?_)
    refine qae (qab ?_)
    refine wp_seq ?_
    refine qam [(1, .v (.int .i64 v)), (2, .v (.bool flex)), (9, .p 2 0), (14, .v (.slice ae ((qak aa).length) af)), (15, .p 3 0), (97, .v (.int .i64 (((qak aa).length : Nat) : Int))), (98, .v (.int .i64 0))] bo gB fun m8 gC => ?_
    refine wp_block ?_
    have hl_ := (hQ.2 ac ‹_›).2
    refine wp_loop_ghost (fun n_ a_ w_ => ∃ (k : Nat), n_ = (qak aa).length - k ∧ k ≤ (qak aa).length ∧ LInv bo 124 [⟨hK, 0, [.int .i64 k1, .int .i64 y2, .int .i64 y3, .int .i64 y4, .int .i64 y5, .int .i64 y6, .int .i64 y7, .slice A9 l8.length ap], true⟩, ⟨ib, 0, [.int .i64 aj, .slice ep ak.length eu, .bool al, .slice ae aa.length af, .slice ev am.length ew], true⟩, ⟨ii, 0, [.int .i64 gS, .slice gV gT.length gW, .bool cz, .slice bC ao.length dG, .slice gX gU.length gY], true⟩, ⟨iX, 0, [.int .i64 y7, .int .i64 y2, .int .i64 y3, .int .i64 (-1), .int .i64 (-1), .int .i64 y6, .int .i64 y7, .slice A9 l8.length ap], true⟩] [] [(1, .v (.int .i64 v)), (2, .v (.bool flex)), (9, .p 2 0), (14, .v (.slice ae ((qak aa).length) af)), (15, .p 3 0), (97, .v (.int .i64 (((qak aa).length : Nat) : Int))), (98, .v (.int .i64 ((k : Nat) : Int)))] a_ w_) ((qak aa).length) ⟨0, by omega, by omega, gC.pk, bo, Fr.refl _ _ _⟩ ?_
    rintro m9 nf ng ⟨k, kg, kh, gD, ay, gE⟩
    refine qam [(1, .v (.int .i64 v)), (2, .v (.bool flex)), (9, .p 2 0), (14, .v (.slice ae ((qak aa).length) af)), (15, .p 3 0), (97, .v (.int .i64 (((qak aa).length : Nat) : Int))), (98, .v (.int .i64 ((k : Nat) : Int))), (99, .v (.bool (decide (((k : Nat) : Int) < (((qak aa).length : Nat) : Int)))))] ay gD fun nh bp => ?_
    refine wp_seq ?_
    refine qat bp (b := decide (((k : Nat) : Int) < (((qak aa).length : Nat) : Int))) kz (fun bq => ?_) (fun bq => ?_)
    ·
     have ki := of_decide_eq_true bq
     refine wp_skip ?_
     refine qab ?_
     refine wp_seq ?_
     refine wp_block ?_
     refine qam [(1, .v (.int .i64 v)), (2, .v (.bool flex)), (9, .p 2 0), (14, .v (.slice ae ((qak aa).length) af)), (15, .p 3 0), (16, .v (.int .i64 ((k : Nat) : Int))), (97, .v (.int .i64 (((qak aa).length : Nat) : Int))), (98, .v (.int .i64 ((k : Nat) : Int)))] ay bp fun ni gF => ?_
     refine qaE 14 kz ay fun nj gG ai aC => ?_
     refine qaF [0, 1, 2, 3, 4, 7, 8, 9] [(1, .v (.int .i64 v)), (2, .v (.bool flex)), (9, .p 2 0), (14, .v (.slice ae ((qak aa).length) af)), (15, .p 3 0), (97, .v (.int .i64 (((qak aa).length : Nat) : Int))), (98, .v (.int .i64 ((k : Nat) : Int))), (101, .v (.agg #[.int .i64 y7, .int .i64 y2, .int .i64 y3, .int .i64 (-1), .int .i64 (-1), .int .i64 y6, .int .i64 y7, .slice A9 l8.length ap])), (102, .v (.int .i64 v)), (103, .v (.bool flex)), (104, .v (.slice ae ((qak aa).length) af)), (105, .v (.int .i64 ((k : Nat) : Int))), (109, .v (.slice bC ao.length dG)), (110, .v (.int .i64 ((k : Nat) : Int)))] 6 (qaa (qac (qaa (qaa (qac (qaa (qac (qaa qaf)))))))) (fun _ h => h.cells) aC gF fun nk gH => ?_
     obtain ⟨iY, iZ, gI, kj, bt⟩ := Slots.get (qcu dF) (i := k) (by first | omega | (have h_ : ao.length = (qak aa).length := (hQ.2 ac ‹_›).1; omega))
     obtain ⟨i6, dx⟩ : ∃ x, (qak aa)[k]? = some x := ⟨_, List.getElem?_eq_getElem (by omega)⟩
     have bu := (qcQ hC) k i6 dx
     obtain ⟨bY, bZ, b8, cd, ce, ea, eb, ec, ee, ef, eg, km, rfl, bw, i7, ja, nl, nm⟩ := bu.open_
     rw [bw] at bu
     have jb := i7.small
     have jc := ja.small
     rw [bw] at bt
     refine qaL gH (i := 5) (t := 23) (A := ae) (m := ((qak aa).length)) (q := ((k : Nat) : Int)) (d := 106) kz (e := 26) (size := 5) (bytes := 88) kz gI rfl (by first | omega | (have h_ : ao.length = (qak aa).length := (hQ.2 ac ‹_›).1; omega)) kz kz (qaa (qac (qaa (qaa (qac (qaa (qac (qaa qaf)))))))) aC fun np gJ => ?_
     refine qaW gJ (i := 6) (t := 26) (b := iY) (o := iZ + k * 5) (d := 107) kz (cs := [.int .i64 bY, .slice ea bZ.length eb, .bool b8, .slice ec cd.length ee, .slice ef ce.length eg]) (v := .agg #[.int .i64 bY, .slice ea bZ.length eb, .bool b8, .slice ec cd.length ee, .slice ef ce.length eg]) kz (fun w' h' => (AtF.move bt (TT.step0 ai h') nilM qaX).at_) kz kz (qaa (qac (qaa (qaa (qac (qaa (qac (qaa qaf)))))))) aC fun nr gK => ?_
     obtain ⟨jd, je, gL, ko, bx⟩ := Slots.get gZ (i := k) (by first | omega | (have h_ : ao.length = (qak aa).length := (hQ.2 ac ‹_›).1; omega))
     obtain ⟨jf, dy⟩ : ∃ x, ao[k]? = some x := ⟨_, List.getElem?_eq_getElem (by omega)⟩
     have bz := hJ k jf dy
     obtain ⟨cm, cq, cr, cu, cw, eh, ei, ej, ek, em, eo, kp, rfl, bA, jg, jh, ns, nt⟩ := bz.open_
     rw [bA] at bz
     have ji := jg.small
     have jj := jh.small
     rw [bA] at bx
     refine qaL gK (i := 10) (t := 23) (A := bC) (m := ao.length) (q := ((k : Nat) : Int)) (d := 111) kz (e := 26) (size := 5) (bytes := 88) kz gL rfl (by first | omega | (have h_ : ao.length = (qak aa).length := (hQ.2 ac ‹_›).1; omega)) kz kz (qaa (qac (qaa (qaa (qac (qaa (qac (qaa qaf)))))))) aC fun nu gM => ?_
     refine qaW gM (i := 11) (t := 26) (b := jd) (o := je + k * 5) (d := 112) kz (cs := [.int .i64 cm, .slice eh cq.length ei, .bool cr, .slice ej cu.length ek, .slice em cw.length eo]) (v := .agg #[.int .i64 cm, .slice eh cq.length ei, .bool cr, .slice ej cu.length ek, .slice em cw.length eo]) kz (fun w' h' => (AtF.move bx (TT.step0 ai h') nilM qaX).at_) kz kz (qaa (qac (qaa (qaa (qac (qaa (qac (qaa qaf)))))))) aC fun nv gN => ?_
     refine qay (i := 12) kz (qai gN (f := 60) (vs := [.agg #[.int .i64 y7, .int .i64 y2, .int .i64 y3, .int .i64 (-1), .int .i64 (-1), .int .i64 y6, .int .i64 y7, .slice A9 l8.length ap], .int .i64 v, .bool flex, .agg #[.int .i64 bY, .slice ea bZ.length eb, .bool b8, .slice ec cd.length ee, .slice ef ce.length eg], .agg #[.int .i64 cm, .slice eh cq.length ei, .bool cr, .slice ej cu.length ek, .slice em cw.length eo]]) (d := 113) kz Tryz.call60 ( sTold0 hT _ _ _ (Tree.mk bY bZ b8 cd ce) _ (Tree.mk cm cq cr cu cw) _ _ (FldR.mk (l := l8) dE (gR.move ai.step nilM ai.imm) (fun i_ x_ h_ => ((g9 i_ x_ h_).move ai.step nilM ai.imm))) hpl hof (bu.move ai.step nilM ai.imm) (bz.move ai.step nilM ai.imm) (hl_ _ _ _ dx dy)) ?_)
     rintro e_ nw ⟨rfl, dz⟩
     refine ⟨_, rfl, fun nx gO => ?_⟩
     have bB := ai.next_nil dz
     have dA := ai.frN dz
     have dB := TT.ofW dA bB
     refine ⟨fun _ => dB, ?_⟩
     refine qaF [13] [(1, .v (.int .i64 v)), (2, .v (.bool flex)), (9, .p 2 0), (14, .v (.slice ae ((qak aa).length) af)), (15, .p 3 0), (97, .v (.int .i64 (((qak aa).length : Nat) : Int))), (98, .v (.int .i64 ((k : Nat) : Int))), (114, .v (.bool false))] 0 (qaa (qac (qaa (qaa (qac (qaa (qac (qaa qaf)))))))) (fun _ h => h.cells) dB gO fun ny dC => ?_
     refine qaC kz ?_ _
     refine qab ?_
     refine qan dC (b := false) kz rfl ?_
     refine wp_skip ?_
     refine qap ?_
     refine qab ?_
     refine qar [0, 1] kz ?_
     refine qah [0, 1] [] [(1, .v (.int .i64 v)), (2, .v (.bool flex)), (9, .p 2 0), (14, .v (.slice ae ((qak aa).length) af)), (15, .p 3 0), (97, .v (.int .i64 (((qak aa).length : Nat) : Int))), (98, .v (.int .i64 (IntKind.i64.wrap (((k : Nat) : Int) + 1))))] bB dC fun nz dD => ?_
     refine qae (qab ?_)
     have gP : IntKind.i64.wrap (((k : Nat) : Int) + 1) = ((k + 1 : Nat) : Int) := qaJ (by omega)
     rw [gP] at dD
     exact ⟨(qak aa).length - (k + 1), by omega, k + 1, rfl, by omega, dD.pk, bB, ((gE.trans gG).trans dA)⟩
    ·
     have kq := of_decide_eq_false bq
     refine wp_exit ?_
     refine qaz ?_
     refine qaz ?_
     refine qaI ?_
     refine qab ?_
     refine qam [(10, .v (.bool true))] ay bp fun nA gQ => ?_
     refine wp_ret ?_
     refine qau ?_
     refine qal ?_
     refine qaD gQ ay.cells (v := .bool true) kz ?_
     exact ⟨rfl, ay.step⟩
theorem sTold1 {v : Int} {flex : Bool} {T : List Fld → Tree → Tree → Prop} (hT : ToOK v flex T) (cf : List Value) (f : Fld) (ct : List Value) (t : Tree) (cg : List Value) (g : Tree) (w : World) (F : Nat → Nat → Prop) (hf : FldR w F cf f) (hpl : f.plain) (ht : TreeR w F ct t) (hg : TreeR w F cg g) (hQ : ToF T v f t g) :
  Calls Tryz.prog 60 #[.agg cf.toArray, .int .i64 v, .bool flex, .agg ct.toArray, .agg cg.toArray] w (qbW w (.bool true)) := by
 by_cases h : f.kind = 11
 ·exact sTold11 hT cf f ct t cg g w F hf hpl h ht hg hQ
 ·exact sTold0 hT cf f ct t cg g w F hf (plain_sub hpl) h ht hg hQ.1
set_option maxHeartbeats 4000000 in
theorem sToldS {v : Int} {flex : Bool} {T : List Fld → Tree → Tree → Prop} {U : List Fld → Tree → Prop} (hT : ToOK v flex T) (hU : UsOK U) (A : Option Addr) (c : Nat) (l : List Fld) (ct : List Value) (t : Tree) (cg : List Value) (g : Tree) (w : World) (F : Nat → Nat → Prop) (hl : FldsR w F A c l) (ht : TreeR w F ct t) (hg : TreeR w F cg g) (hpl : plains l) (hP : ToP T U l v flex t g) :
  Calls Tryz.prog 19 #[.slice A l.length c, .int .i64 v, .bool flex, .agg ct.toArray, .agg cg.toArray] w (qbW w (.bool true)) := by
 obtain ⟨xfs, h1, h2⟩ := hl.ex
 have hsm := h1.small
 obtain ⟨n1, s2, b3, l4, u5, A6, c7, A8, c9, bE, bF, jO, rfl, rfl, jP, jQ, mH, jR⟩ := ht.open_
 have iP := jP.small
 have iQ := jQ.small
 obtain ⟨cO, cP, cQ, aF, aB, cR, cS, bG, bN, bH, bO, jS, rfl, rfl, jT, hC, iR, jU⟩ := hg.open_
 have iS := jT.small
 have iT := hC.small
 have hlen : aF.length = l.length := hP.1
 have hgu : aB = if flex = true then qb7 (qag l u5) else [] := hP.2.2
 obtain ⟨jV, iU, jW⟩ := jU.ex
 have iV := iU.small
 refine enter (n := 120) Tryz.func19 rfl Tryz.ntmps19 kz fun a hE => ?_
 have hW := WOk.start w Nil
 refine qad [0, 1, 2] kz ?_
 refine qaj (qa7 hW hE (d := 8) (cs := [.int .i64 n1, .slice A6 s2.length c7, .bool b3, .slice A8 l4.length c9, .slice bE u5.length bF]) kz fun df mI mJ jX jY jZ hJ hK => ?_)
 refine qaj (qa7 hJ hK (d := 9) (cs := [.int .i64 cO, .slice cR cP.length cS, .bool cQ, .slice bG aF.length bN, .slice bH aB.length bO]) kz fun dg mK mL j0 j1 j2 bt hZ => ?_)
 refine qah [2] [] [(0, .v (.slice A l.length c)), (1, .v (.int .i64 v)), (2, .v (.bool flex)), (8, .p 0 0), (9, .p 1 0)] bt hZ fun mM ia => ?_
 refine qae (qab ?_)
 refine wp_seq ?_
 refine qam [(0, .v (.slice A l.length c)), (1, .v (.int .i64 v)), (2, .v (.bool flex)), (8, .p 0 0), (9, .p 1 0), (22, .v (.bool (((aF.length : Nat) : Int) != ((l.length : Nat) : Int))))] bt ia fun mN ec => ?_
 refine qat ec (b := ((aF.length : Nat) : Int) != ((l.length : Nat) : Int)) kz (fun ee => ?_) (fun ee => ?_)
 ·
  have j3 : ((aF.length : Nat) : Int) ≠ ((l.length : Nat) : Int) := by simpa using ee
  refine qam [(10, .v (.bool false))] bt ec fun mO ib => ?_
  refine wp_ret ?_
  refine qal ?_
  refine qaD ib bt.cells (v := .bool false) kz ?_
  first
   | (exfalso; omega)
   | exact (qed hgu ‹_› ‹_›).elim
   | exact (qda hgu ‹_› ‹_›).elim
   | exact (qee hgu ‹_› ‹_› ‹_› ‹_›).elim
   | exact (qef hgu ‹_› ‹_› ‹_› ‹_›).elim
   | (exfalso; simp_all; done)
 ·
  have j4 : ((aF.length : Nat) : Int) = ((l.length : Nat) : Int) := by simpa using ee
  refine wp_skip ?_
  refine qab ?_
  refine wp_seq ?_
  refine qam [(0, .v (.slice A l.length c)), (1, .v (.int .i64 v)), (2, .v (.bool flex)), (8, .p 0 0), (9, .p 1 0), (23, .v (.slice A l.length c)), (24, .v (.int .i64 ((l.length : Nat) : Int))), (25, .v (.int .i64 0))] bt ec fun mQ ic => ?_
  refine wp_block ?_
  refine wp_loop_ghost (fun n_ a_ w_ => ∃ (k : Nat), n_ = l.length - k ∧ k ≤ l.length ∧ LInv bt 120 [⟨df, 0, [.int .i64 n1, .slice A6 s2.length c7, .bool b3, .slice A8 l4.length c9, .slice bE u5.length bF], true⟩, ⟨dg, 0, [.int .i64 cO, .slice cR cP.length cS, .bool cQ, .slice bG aF.length bN, .slice bH aB.length bO], true⟩] [] [(0, .v (.slice A l.length c)), (1, .v (.int .i64 v)), (2, .v (.bool flex)), (8, .p 0 0), (9, .p 1 0), (23, .v (.slice A l.length c)), (24, .v (.int .i64 ((l.length : Nat) : Int))), (25, .v (.int .i64 ((k : Nat) : Int)))] a_ w_) (l.length) ⟨0, by omega, by omega, ic.pk, bt, Fr.refl _ _ _⟩ ?_
  rintro mR mS mT ⟨k, j5, j6, ig, av, ef⟩
  refine qam [(0, .v (.slice A l.length c)), (1, .v (.int .i64 v)), (2, .v (.bool flex)), (8, .p 0 0), (9, .p 1 0), (23, .v (.slice A l.length c)), (24, .v (.int .i64 ((l.length : Nat) : Int))), (25, .v (.int .i64 ((k : Nat) : Int))), (26, .v (.bool (decide (((k : Nat) : Int) < ((l.length : Nat) : Int)))))] av ig fun mU eg => ?_
  refine wp_seq ?_
  refine qat eg (b := decide (((k : Nat) : Int) < ((l.length : Nat) : Int))) kz (fun eh => ?_) (fun eh => ?_)
  ·
   have j7 := of_decide_eq_true eh
   refine wp_skip ?_
   refine qab ?_
   refine wp_seq ?_
   refine wp_block ?_
   refine qad [0, 1, 2, 3, 4, 5] kz ?_
   refine qah [0] [1, 2, 3, 4, 5] [(0, .v (.slice A l.length c)), (1, .v (.int .i64 v)), (2, .v (.bool flex)), (8, .p 0 0), (9, .p 1 0), (23, .v (.slice A l.length c)), (24, .v (.int .i64 ((l.length : Nat) : Int))), (25, .v (.int .i64 ((k : Nat) : Int))), (27, .v (.int .i64 ((k : Nat) : Int)))] av eg fun mV ii => ?_
   obtain ⟨j8, j9, ij, ka, dh⟩ := Slots.get h1 (i := k) (by first | omega | (have h_ := qb6 hgu ‹_›; omega))
   obtain ⟨kd, bP⟩ : ∃ x, l[k]? = some x := ⟨_, List.getElem?_eq_getElem (by omega)⟩
   have bu := h2 k kd bP
   obtain ⟨aj, ak, al, am, ag, ao, aa, ab, ap, ar, iW, rfl, bQ, ik, ke⟩ := bu.open_
   rw [bQ] at bu
   have il := ik.small
   rw [bQ] at dh
   refine qaj (qaA ii (t := 29) (A := A) (m := l.length) (q := ((k : Nat) : Int)) (d := 28) kz (e := 52) (size := 8) (bytes := 80) kz ij rfl (by first | omega | (have h_ := qb6 hgu ‹_›; omega)) fun kf ez => ?_)
   refine qaj (qaH ez (t := 52) (b := j8) (o := j9 + k * 8) (d := 29) kz (cs := [.int .i64 aj, .int .i64 ak, .int .i64 al, .int .i64 am, .int .i64 ag, .int .i64 ao, .int .i64 aa, .slice ap ab.length ar]) (v := .agg #[.int .i64 aj, .int .i64 ak, .int .i64 al, .int .i64 am, .int .i64 ag, .int .i64 ao, .int .i64 aa, .slice ap ab.length ar]) kz (AtF.move dh av.step nilM qaX).at_ fun kg eB => ?_)
   refine qaj (qaK av eB (d := 12) (cs := [.int .i64 0, .int .i64 0, .int .i64 0, .int .i64 0, .int .i64 0, .int .i64 0, .int .i64 0, .slice none 0 0]) kz fun im kh ki iX iY bR di eC => ?_)
   refine qah [4] [5] [(0, .v (.slice A l.length c)), (1, .v (.int .i64 v)), (2, .v (.bool flex)), (8, .p 0 0), (9, .p 1 0), (11, .v (.int .i64 ((k : Nat) : Int))), (12, .p 2 0), (23, .v (.slice A l.length c)), (24, .v (.int .i64 ((l.length : Nat) : Int))), (25, .v (.int .i64 ((k : Nat) : Int))), (29, .v (.agg #[.int .i64 aj, .int .i64 ak, .int .i64 al, .int .i64 am, .int .i64 ag, .int .i64 ao, .int .i64 aa, .slice ap ab.length ar]))] di eC fun kj eD => ?_
   refine qaj (qav di eD (oi := 2) (cs := [.int .i64 aj, .int .i64 ak, .int .i64 al, .int .i64 am, .int .i64 ag, .int .i64 ao, .int .i64 aa, .slice ap ab.length ar]) kz fun km bS aG eE => ?_)
   refine qae (qab ?_)
   refine qad [0, 1, 2, 3, 4] kz ?_
   refine qah [0, 1] [2, 3, 4] [(0, .v (.slice A l.length c)), (1, .v (.int .i64 v)), (2, .v (.bool flex)), (8, .p 0 0), (9, .p 1 0), (11, .v (.int .i64 ((k : Nat) : Int))), (12, .p 2 0), (23, .v (.slice A l.length c)), (24, .v (.int .i64 ((l.length : Nat) : Int))), (25, .v (.int .i64 ((k : Nat) : Int))), (30, .v (.agg #[.int .i64 n1, .slice A6 s2.length c7, .bool b3, .slice A8 l4.length c9, .slice bE u5.length bF])), (31, .v (.int .i64 ((k : Nat) : Int)))] aG eE fun ko eF => ?_
   refine qaj (qai eF (f := 57) (vs := [.agg #[.int .i64 n1, .slice A6 s2.length c7, .bool b3, .slice A8 l4.length c9, .slice bE u5.length bF], .int .i64 ((k : Nat) : Int)]) (d := 32) kz Tryz.call57 (sAt _ _ k _ _ (ht.move aG.step nilM aG.imm)) ?_)
   rintro e_ kp ⟨iZ, rfl, eG, aK⟩
   have aL := eG.move aK nilM (fun b o h_ hb_ => aG.laid (G := F) aK b o (.inl h_) (Nat.lt_of_lt_of_le hb_ aK.size))
   obtain ⟨aM, aN, aO, aP, aQ, aR, aS, aT, aU, aV, aW, i6, i7, bT, io, ip, kq, ku⟩ := aL.open_
   rw [bT] at aL
   have iq := io.small
   have ir := ip.small
   rw [bT]
   refine ⟨_, rfl, fun kv eH => ?_⟩
   have eI := aG.next_nil aK
   have bU := aG.frN aK
   refine qaj (qaK eI eH (d := 13) (cs := [.int .i64 0, .slice none 0 0, .bool false, .slice none 0 0, .slice none 0 0]) kz fun iu kw kx ja jb aw eJ eK => ?_)
   refine qaj (qav eJ eK (oi := 3) (cs := [.int .i64 aM, .slice aR aN.length aS, .bool aO, .slice aT aP.length aU, .slice aV aQ.length aW]) kz fun ky ax ac eL => ?_)
   refine qae (qab ?_)
   refine wp_seq ?_
   refine wp_seq (wp_join (Mid := fun a_ w_ => LInv ac 120 [⟨df, 0, [.int .i64 n1, .slice A6 s2.length c7, .bool b3, .slice A8 l4.length c9, .slice bE u5.length bF], true⟩, ⟨dg, 0, [.int .i64 cO, .slice cR cP.length cS, .bool cQ, .slice bG aF.length bN, .slice bH aB.length bO], true⟩, ⟨im, 0, [.int .i64 aj, .int .i64 ak, .int .i64 al, .int .i64 am, .int .i64 ag, .int .i64 ao, .int .i64 aa, .slice ap ab.length ar], true⟩, ⟨iu, 0, [.int .i64 aM, .slice aR aN.length aS, .bool aO, .slice aT aP.length aU, .slice aV aQ.length aW], true⟩] [] [(0, .v (.slice A l.length c)), (1, .v (.int .i64 v)), (2, .v (.bool flex)), (8, .p 0 0), (9, .p 1 0), (11, .v (.int .i64 ((k : Nat) : Int))), (12, .p 2 0), (13, .p 3 0), (23, .v (.slice A l.length c)), (24, .v (.int .i64 ((l.length : Nat) : Int))), (25, .v (.int .i64 ((k : Nat) : Int))), (54, .v (.bool (Fld.pres (Fld.mk aj ak al am ag ao aa ab) v flex (Tree.at_ (Tree.mk n1 s2 b3 l4 u5) k))))] a_ w_) ?_ ?_)
   ·
    refine qar [0, 1, 2, 3, 4, 5, 6, 7, 8, 9, 10, 11, 12, 13, 14, 15, 16, 17, 18, 19, 20, 21] kz ?_
    refine qah [0, 1, 2, 3] [4, 5, 6, 7, 8, 9, 10, 11, 12, 13, 14, 15, 16, 17, 18, 19, 20, 21] [(0, .v (.slice A l.length c)), (1, .v (.int .i64 v)), (2, .v (.bool flex)), (8, .p 0 0), (9, .p 1 0), (11, .v (.int .i64 ((k : Nat) : Int))), (12, .p 2 0), (13, .p 3 0), (23, .v (.slice A l.length c)), (24, .v (.int .i64 ((l.length : Nat) : Int))), (25, .v (.int .i64 ((k : Nat) : Int))), (36, .v (.bool (decide (ag < 0))))] ac eL fun kA dj => ?_
    refine (Bool.eq_false_or_eq_true (decide (ag < 0))).elim (fun aX => ?_) (fun aX => ?_)
    ·
     have jc := of_decide_eq_true aX
     have eM := dj.cast (env' := [(0, .v (.slice A l.length c)), (1, .v (.int .i64 v)), (2, .v (.bool flex)), (8, .p 0 0), (9, .p 1 0), (11, .v (.int .i64 ((k : Nat) : Int))), (12, .p 2 0), (13, .p 3 0), (23, .v (.slice A l.length c)), (24, .v (.int .i64 ((l.length : Nat) : Int))), (25, .v (.int .i64 ((k : Nat) : Int))), (36, .v (.bool true))]) (by rw [aX])
     refine qah [4, 5] [6, 7, 8, 9, 10, 11, 12, 13, 14, 15, 16, 17, 18, 19, 20, 21] [(0, .v (.slice A l.length c)), (1, .v (.int .i64 v)), (2, .v (.bool flex)), (8, .p 0 0), (9, .p 1 0), (11, .v (.int .i64 ((k : Nat) : Int))), (12, .p 2 0), (13, .p 3 0), (23, .v (.slice A l.length c)), (24, .v (.int .i64 ((l.length : Nat) : Int))), (25, .v (.int .i64 ((k : Nat) : Int))), (36, .v (.bool true)), (37, .v (.agg #[.int .i64 aj, .int .i64 ak, .int .i64 al, .int .i64 am, .int .i64 ag, .int .i64 ao, .int .i64 aa, .slice ap ab.length ar])), (38, .v (.int .i64 v))] ac eM fun kB eN => ?_
     refine qaj (qai eN (f := 58) (vs := [.agg #[.int .i64 aj, .int .i64 ak, .int .i64 al, .int .i64 am, .int .i64 ag, .int .i64 ao, .int .i64 aa, .slice ap ab.length ar], .int .i64 v]) (d := 39) kz Tryz.call58 (sHas aj ak al am ag ao aa ab _ _ v _) ?_)
     rintro e_ kC ⟨rfl, dl⟩
     refine ⟨_, rfl, fun kD eO => ?_⟩
     have af := ac.next_nil dl
     have aH := ac.frN dl
     refine qah [7, 8] [9, 10, 11, 12, 13, 14, 15, 16, 17, 18, 19, 20, 21] [(0, .v (.slice A l.length c)), (1, .v (.int .i64 v)), (2, .v (.bool flex)), (8, .p 0 0), (9, .p 1 0), (11, .v (.int .i64 ((k : Nat) : Int))), (12, .p 2 0), (13, .p 3 0), (23, .v (.slice A l.length c)), (24, .v (.int .i64 ((l.length : Nat) : Int))), (25, .v (.int .i64 ((k : Nat) : Int))), (41, .v (.bool (Fld.has (Fld.mk aj ak al am ag ao aa ab) v)))] af eO fun kE dp => ?_
     refine (Bool.eq_false_or_eq_true (Fld.has (Fld.mk aj ak al am ag ao aa ab) v)).elim (fun bV => ?_) (fun bV => ?_)
     ·
      have eP := dp.cast (env' := [(0, .v (.slice A l.length c)), (1, .v (.int .i64 v)), (2, .v (.bool flex)), (8, .p 0 0), (9, .p 1 0), (11, .v (.int .i64 ((k : Nat) : Int))), (12, .p 2 0), (13, .p 3 0), (23, .v (.slice A l.length c)), (24, .v (.int .i64 ((l.length : Nat) : Int))), (25, .v (.int .i64 ((k : Nat) : Int))), (41, .v (.bool true))]) (by rw [bV])
      refine qah [9, 10, 11, 12, 13, 14, 15, 16, 17, 18, 19, 20, 21] [] [(0, .v (.slice A l.length c)), (1, .v (.int .i64 v)), (2, .v (.bool flex)), (8, .p 0 0), (9, .p 1 0), (11, .v (.int .i64 ((k : Nat) : Int))), (12, .p 2 0), (13, .p 3 0), (23, .v (.slice A l.length c)), (24, .v (.int .i64 ((l.length : Nat) : Int))), (25, .v (.int .i64 ((k : Nat) : Int))), (54, .v (.bool true))] af eP fun kF eQ => ?_
      refine qae (qab ?_)
      have hp_ : Fld.pres (Fld.mk aj ak al am ag ao aa ab) v flex (Tree.at_ (Tree.mk n1 s2 b3 l4 u5) k) = true := by first | (first | exact pres_a ‹_› ‹_› | exact pres_b ‹_› ‹_› ‹_›) | (exfalso; omega)
      exact ⟨(eQ.pk (env' := [(0, .v (.slice A l.length c)), (1, .v (.int .i64 v)), (2, .v (.bool flex)), (8, .p 0 0), (9, .p 1 0), (11, .v (.int .i64 ((k : Nat) : Int))), (12, .p 2 0), (13, .p 3 0), (23, .v (.slice A l.length c)), (24, .v (.int .i64 ((l.length : Nat) : Int))), (25, .v (.int .i64 ((k : Nat) : Int))), (54, .v (.bool true))])).cast (by rw [hp_]), af, aH⟩
     ·
      have eR := dp.cast (env' := [(0, .v (.slice A l.length c)), (1, .v (.int .i64 v)), (2, .v (.bool flex)), (8, .p 0 0), (9, .p 1 0), (11, .v (.int .i64 ((k : Nat) : Int))), (12, .p 2 0), (13, .p 3 0), (23, .v (.slice A l.length c)), (24, .v (.int .i64 ((l.length : Nat) : Int))), (25, .v (.int .i64 ((k : Nat) : Int))), (41, .v (.bool false))]) (by rw [bV])
      refine qah [9, 10, 11, 12] [13, 14, 15, 16, 17, 18, 19, 20, 21] [(0, .v (.slice A l.length c)), (1, .v (.int .i64 v)), (2, .v (.bool flex)), (8, .p 0 0), (9, .p 1 0), (11, .v (.int .i64 ((k : Nat) : Int))), (12, .p 2 0), (13, .p 3 0), (23, .v (.slice A l.length c)), (24, .v (.int .i64 ((l.length : Nat) : Int))), (25, .v (.int .i64 ((k : Nat) : Int))), (41, .v (.bool false)), (45, .v (.bool (decide (ag ≥ 0))))] af eR fun kG dq => ?_
      refine (Bool.eq_false_or_eq_true (decide (ag ≥ 0))).elim (fun aY => ?_) (fun aY => ?_)
      ·
       have jd := of_decide_eq_true aY
       have eS := dq.cast (env' := [(0, .v (.slice A l.length c)), (1, .v (.int .i64 v)), (2, .v (.bool flex)), (8, .p 0 0), (9, .p 1 0), (11, .v (.int .i64 ((k : Nat) : Int))), (12, .p 2 0), (13, .p 3 0), (23, .v (.slice A l.length c)), (24, .v (.int .i64 ((l.length : Nat) : Int))), (25, .v (.int .i64 ((k : Nat) : Int))), (41, .v (.bool false)), (45, .v (.bool true))]) (by rw [aY])
       refine qah [13, 14, 15] [16, 17, 18, 19, 20, 21] [(0, .v (.slice A l.length c)), (1, .v (.int .i64 v)), (2, .v (.bool flex)), (8, .p 0 0), (9, .p 1 0), (11, .v (.int .i64 ((k : Nat) : Int))), (12, .p 2 0), (13, .p 3 0), (23, .v (.slice A l.length c)), (24, .v (.int .i64 ((l.length : Nat) : Int))), (25, .v (.int .i64 ((k : Nat) : Int))), (41, .v (.bool false)), (48, .v (.bool flex))] af eS fun kH dr => ?_
       refine (Bool.eq_false_or_eq_true (flex)).elim (fun aZ => ?_) (fun aZ => ?_)
       ·
        have eU := dr.cast (env' := [(0, .v (.slice A l.length c)), (1, .v (.int .i64 v)), (2, .v (.bool true)), (8, .p 0 0), (9, .p 1 0), (11, .v (.int .i64 ((k : Nat) : Int))), (12, .p 2 0), (13, .p 3 0), (23, .v (.slice A l.length c)), (24, .v (.int .i64 ((l.length : Nat) : Int))), (25, .v (.int .i64 ((k : Nat) : Int))), (41, .v (.bool false)), (48, .v (.bool true))]) (by rw [aZ])
        refine qah [16, 17] [18, 19, 20, 21] [(0, .v (.slice A l.length c)), (1, .v (.int .i64 v)), (2, .v (.bool true)), (8, .p 0 0), (9, .p 1 0), (11, .v (.int .i64 ((k : Nat) : Int))), (12, .p 2 0), (13, .p 3 0), (23, .v (.slice A l.length c)), (24, .v (.int .i64 ((l.length : Nat) : Int))), (25, .v (.int .i64 ((k : Nat) : Int))), (41, .v (.bool false)), (48, .v (.bool true)), (49, .v (.agg #[.int .i64 aj, .int .i64 ak, .int .i64 al, .int .i64 am, .int .i64 ag, .int .i64 ao, .int .i64 aa, .slice ap ab.length ar])), (50, .v (.agg #[.int .i64 aM, .slice aR aN.length aS, .bool aO, .slice aT aP.length aU, .slice aV aQ.length aW]))] af eU fun kI eV => ?_
        refine qaj (qai eV (f := 59) (vs := [.agg #[.int .i64 aj, .int .i64 ak, .int .i64 al, .int .i64 am, .int .i64 ag, .int .i64 ao, .int .i64 aa, .slice ap ab.length ar], .agg #[.int .i64 aM, .slice aR aN.length aS, .bool aO, .slice aT aP.length aU, .slice aV aQ.length aW]]) (d := 51) kz Tryz.call59 (sUsual _ _ _ _ _ _ _ (bu.move af.step nilM af.imm) (Nat.le_refl _) (aL.move ((aw.trans ax).trans aH).step immM ((aw.trans ax).trans aH).to')) ?_)
        rintro e_ kJ ⟨rfl, dt⟩
        refine ⟨_, rfl, fun kK eW => ?_⟩
        have du := af.next_nil dt
        have eX := af.frN dt
        refine qah [19, 20, 21] [] [(0, .v (.slice A l.length c)), (1, .v (.int .i64 v)), (2, .v (.bool true)), (8, .p 0 0), (9, .p 1 0), (11, .v (.int .i64 ((k : Nat) : Int))), (12, .p 2 0), (13, .p 3 0), (23, .v (.slice A l.length c)), (24, .v (.int .i64 ((l.length : Nat) : Int))), (25, .v (.int .i64 ((k : Nat) : Int))), (54, .v (.bool (!(Fld.usual (Fld.mk aj ak al am ag ao aa ab) (Tree.at_ (Tree.mk n1 s2 b3 l4 u5) k)))))] du eW fun kL eY => ?_
        refine qae (qab ?_)
        have hp_ : Fld.pres (Fld.mk aj ak al am ag ao aa ab) v flex (Tree.at_ (Tree.mk n1 s2 b3 l4 u5) k) = !(Fld.usual (Fld.mk aj ak al am ag ao aa ab) (Tree.at_ (Tree.mk n1 s2 b3 l4 u5) k)) := by first | (first | exact pres_f ‹_› ‹_› | exact pres_g ‹_›) | (exfalso; omega)
        exact ⟨(eY.pk (env' := [(0, .v (.slice A l.length c)), (1, .v (.int .i64 v)), (2, .v (.bool true)), (8, .p 0 0), (9, .p 1 0), (11, .v (.int .i64 ((k : Nat) : Int))), (12, .p 2 0), (13, .p 3 0), (23, .v (.slice A l.length c)), (24, .v (.int .i64 ((l.length : Nat) : Int))), (25, .v (.int .i64 ((k : Nat) : Int))), (54, .v (.bool (!(Fld.usual (Fld.mk aj ak al am ag ao aa ab) (Tree.at_ (Tree.mk n1 s2 b3 l4 u5) k)))))])).cast (by rw [hp_, aZ]), du, (aH.trans eX)⟩
       ·
        have eZ := dr.cast (env' := [(0, .v (.slice A l.length c)), (1, .v (.int .i64 v)), (2, .v (.bool false)), (8, .p 0 0), (9, .p 1 0), (11, .v (.int .i64 ((k : Nat) : Int))), (12, .p 2 0), (13, .p 3 0), (23, .v (.slice A l.length c)), (24, .v (.int .i64 ((l.length : Nat) : Int))), (25, .v (.int .i64 ((k : Nat) : Int))), (41, .v (.bool false)), (48, .v (.bool false))]) (by rw [aZ])
        refine qah [16, 17, 18, 19, 20, 21] [] [(0, .v (.slice A l.length c)), (1, .v (.int .i64 v)), (2, .v (.bool false)), (8, .p 0 0), (9, .p 1 0), (11, .v (.int .i64 ((k : Nat) : Int))), (12, .p 2 0), (13, .p 3 0), (23, .v (.slice A l.length c)), (24, .v (.int .i64 ((l.length : Nat) : Int))), (25, .v (.int .i64 ((k : Nat) : Int))), (54, .v (.bool false))] af eZ fun kM e9 => ?_
        refine qae (qab ?_)
        have hp_ : Fld.pres (Fld.mk aj ak al am ag ao aa ab) v flex (Tree.at_ (Tree.mk n1 s2 b3 l4 u5) k) = false := by first | (first | exact pres_c ‹_› ‹_› | exact pres_d ‹_› ‹_› | exact pres_e ‹_› ‹_›) | (exfalso; omega)
        exact ⟨(e9.pk (env' := [(0, .v (.slice A l.length c)), (1, .v (.int .i64 v)), (2, .v (.bool false)), (8, .p 0 0), (9, .p 1 0), (11, .v (.int .i64 ((k : Nat) : Int))), (12, .p 2 0), (13, .p 3 0), (23, .v (.slice A l.length c)), (24, .v (.int .i64 ((l.length : Nat) : Int))), (25, .v (.int .i64 ((k : Nat) : Int))), (54, .v (.bool false))])).cast (by rw [hp_, aZ]), af, aH⟩
      ·
       have je := of_decide_eq_false aY
       have fa := dq.cast (env' := [(0, .v (.slice A l.length c)), (1, .v (.int .i64 v)), (2, .v (.bool flex)), (8, .p 0 0), (9, .p 1 0), (11, .v (.int .i64 ((k : Nat) : Int))), (12, .p 2 0), (13, .p 3 0), (23, .v (.slice A l.length c)), (24, .v (.int .i64 ((l.length : Nat) : Int))), (25, .v (.int .i64 ((k : Nat) : Int))), (41, .v (.bool false)), (45, .v (.bool false))]) (by rw [aY])
       refine qah [13, 14, 15, 16, 17, 18, 19, 20, 21] [] [(0, .v (.slice A l.length c)), (1, .v (.int .i64 v)), (2, .v (.bool flex)), (8, .p 0 0), (9, .p 1 0), (11, .v (.int .i64 ((k : Nat) : Int))), (12, .p 2 0), (13, .p 3 0), (23, .v (.slice A l.length c)), (24, .v (.int .i64 ((l.length : Nat) : Int))), (25, .v (.int .i64 ((k : Nat) : Int))), (54, .v (.bool false))] af fa fun kN fb => ?_
       refine qae (qab ?_)
       have hp_ : Fld.pres (Fld.mk aj ak al am ag ao aa ab) v flex (Tree.at_ (Tree.mk n1 s2 b3 l4 u5) k) = false := by first | (first | exact pres_c ‹_› ‹_› | exact pres_d ‹_› ‹_› | exact pres_e ‹_› ‹_›) | (exfalso; omega)
       exact ⟨(fb.pk (env' := [(0, .v (.slice A l.length c)), (1, .v (.int .i64 v)), (2, .v (.bool flex)), (8, .p 0 0), (9, .p 1 0), (11, .v (.int .i64 ((k : Nat) : Int))), (12, .p 2 0), (13, .p 3 0), (23, .v (.slice A l.length c)), (24, .v (.int .i64 ((l.length : Nat) : Int))), (25, .v (.int .i64 ((k : Nat) : Int))), (54, .v (.bool false))])).cast (by rw [hp_]), af, aH⟩
    ·
     have jf := of_decide_eq_false aX
     have fe := dj.cast (env' := [(0, .v (.slice A l.length c)), (1, .v (.int .i64 v)), (2, .v (.bool flex)), (8, .p 0 0), (9, .p 1 0), (11, .v (.int .i64 ((k : Nat) : Int))), (12, .p 2 0), (13, .p 3 0), (23, .v (.slice A l.length c)), (24, .v (.int .i64 ((l.length : Nat) : Int))), (25, .v (.int .i64 ((k : Nat) : Int))), (36, .v (.bool false))]) (by rw [aX])
     refine qah [4, 5, 6, 7, 8, 9, 10, 11, 12] [13, 14, 15, 16, 17, 18, 19, 20, 21] [(0, .v (.slice A l.length c)), (1, .v (.int .i64 v)), (2, .v (.bool flex)), (8, .p 0 0), (9, .p 1 0), (11, .v (.int .i64 ((k : Nat) : Int))), (12, .p 2 0), (13, .p 3 0), (23, .v (.slice A l.length c)), (24, .v (.int .i64 ((l.length : Nat) : Int))), (25, .v (.int .i64 ((k : Nat) : Int))), (41, .v (.bool false)), (45, .v (.bool (decide (ag ≥ 0))))] ac fe fun kO dv => ?_
     refine (Bool.eq_false_or_eq_true (decide (ag ≥ 0))).elim (fun ba => ?_) (fun ba => ?_)
     ·
      have jg := of_decide_eq_true ba
      have ff := dv.cast (env' := [(0, .v (.slice A l.length c)), (1, .v (.int .i64 v)), (2, .v (.bool flex)), (8, .p 0 0), (9, .p 1 0), (11, .v (.int .i64 ((k : Nat) : Int))), (12, .p 2 0), (13, .p 3 0), (23, .v (.slice A l.length c)), (24, .v (.int .i64 ((l.length : Nat) : Int))), (25, .v (.int .i64 ((k : Nat) : Int))), (41, .v (.bool false)), (45, .v (.bool true))]) (by rw [ba])
      refine qah [13, 14, 15] [16, 17, 18, 19, 20, 21] [(0, .v (.slice A l.length c)), (1, .v (.int .i64 v)), (2, .v (.bool flex)), (8, .p 0 0), (9, .p 1 0), (11, .v (.int .i64 ((k : Nat) : Int))), (12, .p 2 0), (13, .p 3 0), (23, .v (.slice A l.length c)), (24, .v (.int .i64 ((l.length : Nat) : Int))), (25, .v (.int .i64 ((k : Nat) : Int))), (41, .v (.bool false)), (48, .v (.bool flex))] ac ff fun kP dw => ?_
      refine (Bool.eq_false_or_eq_true (flex)).elim (fun bd => ?_) (fun bd => ?_)
      ·
       have fg := dw.cast (env' := [(0, .v (.slice A l.length c)), (1, .v (.int .i64 v)), (2, .v (.bool true)), (8, .p 0 0), (9, .p 1 0), (11, .v (.int .i64 ((k : Nat) : Int))), (12, .p 2 0), (13, .p 3 0), (23, .v (.slice A l.length c)), (24, .v (.int .i64 ((l.length : Nat) : Int))), (25, .v (.int .i64 ((k : Nat) : Int))), (41, .v (.bool false)), (48, .v (.bool true))]) (by rw [bd])
       refine qah [16, 17] [18, 19, 20, 21] [(0, .v (.slice A l.length c)), (1, .v (.int .i64 v)), (2, .v (.bool true)), (8, .p 0 0), (9, .p 1 0), (11, .v (.int .i64 ((k : Nat) : Int))), (12, .p 2 0), (13, .p 3 0), (23, .v (.slice A l.length c)), (24, .v (.int .i64 ((l.length : Nat) : Int))), (25, .v (.int .i64 ((k : Nat) : Int))), (41, .v (.bool false)), (48, .v (.bool true)), (49, .v (.agg #[.int .i64 aj, .int .i64 ak, .int .i64 al, .int .i64 am, .int .i64 ag, .int .i64 ao, .int .i64 aa, .slice ap ab.length ar])), (50, .v (.agg #[.int .i64 aM, .slice aR aN.length aS, .bool aO, .slice aT aP.length aU, .slice aV aQ.length aW]))] ac fg fun kQ fh => ?_
       refine qaj (qai fh (f := 59) (vs := [.agg #[.int .i64 aj, .int .i64 ak, .int .i64 al, .int .i64 am, .int .i64 ag, .int .i64 ao, .int .i64 aa, .slice ap ab.length ar], .agg #[.int .i64 aM, .slice aR aN.length aS, .bool aO, .slice aT aP.length aU, .slice aV aQ.length aW]]) (d := 51) kz Tryz.call59 (sUsual _ _ _ _ _ _ _ (bu.move ac.step nilM ac.imm) (Nat.le_refl _) (aL.move (aw.trans ax).step immM (aw.trans ax).to')) ?_)
       rintro e_ kR ⟨rfl, dx⟩
       refine ⟨_, rfl, fun kS fi => ?_⟩
       have dy := ac.next_nil dx
       have fj := ac.frN dx
       refine qah [19, 20, 21] [] [(0, .v (.slice A l.length c)), (1, .v (.int .i64 v)), (2, .v (.bool true)), (8, .p 0 0), (9, .p 1 0), (11, .v (.int .i64 ((k : Nat) : Int))), (12, .p 2 0), (13, .p 3 0), (23, .v (.slice A l.length c)), (24, .v (.int .i64 ((l.length : Nat) : Int))), (25, .v (.int .i64 ((k : Nat) : Int))), (54, .v (.bool (!(Fld.usual (Fld.mk aj ak al am ag ao aa ab) (Tree.at_ (Tree.mk n1 s2 b3 l4 u5) k)))))] dy fi fun kT fk => ?_
       refine qae (qab ?_)
       have hp_ : Fld.pres (Fld.mk aj ak al am ag ao aa ab) v flex (Tree.at_ (Tree.mk n1 s2 b3 l4 u5) k) = !(Fld.usual (Fld.mk aj ak al am ag ao aa ab) (Tree.at_ (Tree.mk n1 s2 b3 l4 u5) k)) := by first | (first | exact pres_f ‹_› ‹_› | exact pres_g ‹_›) | (exfalso; omega)
       exact ⟨(fk.pk (env' := [(0, .v (.slice A l.length c)), (1, .v (.int .i64 v)), (2, .v (.bool true)), (8, .p 0 0), (9, .p 1 0), (11, .v (.int .i64 ((k : Nat) : Int))), (12, .p 2 0), (13, .p 3 0), (23, .v (.slice A l.length c)), (24, .v (.int .i64 ((l.length : Nat) : Int))), (25, .v (.int .i64 ((k : Nat) : Int))), (54, .v (.bool (!(Fld.usual (Fld.mk aj ak al am ag ao aa ab) (Tree.at_ (Tree.mk n1 s2 b3 l4 u5) k)))))])).cast (by rw [hp_, bd]), dy, fj⟩
      ·
       have fm := dw.cast (env' := [(0, .v (.slice A l.length c)), (1, .v (.int .i64 v)), (2, .v (.bool false)), (8, .p 0 0), (9, .p 1 0), (11, .v (.int .i64 ((k : Nat) : Int))), (12, .p 2 0), (13, .p 3 0), (23, .v (.slice A l.length c)), (24, .v (.int .i64 ((l.length : Nat) : Int))), (25, .v (.int .i64 ((k : Nat) : Int))), (41, .v (.bool false)), (48, .v (.bool false))]) (by rw [bd])
       refine qah [16, 17, 18, 19, 20, 21] [] [(0, .v (.slice A l.length c)), (1, .v (.int .i64 v)), (2, .v (.bool false)), (8, .p 0 0), (9, .p 1 0), (11, .v (.int .i64 ((k : Nat) : Int))), (12, .p 2 0), (13, .p 3 0), (23, .v (.slice A l.length c)), (24, .v (.int .i64 ((l.length : Nat) : Int))), (25, .v (.int .i64 ((k : Nat) : Int))), (54, .v (.bool false))] ac fm fun kU fo => ?_
       refine qae (qab ?_)
       have hp_ : Fld.pres (Fld.mk aj ak al am ag ao aa ab) v flex (Tree.at_ (Tree.mk n1 s2 b3 l4 u5) k) = false := by first | (first | exact pres_c ‹_› ‹_› | exact pres_d ‹_› ‹_› | exact pres_e ‹_› ‹_›) | (exfalso; omega)
       exact ⟨(fo.pk (env' := [(0, .v (.slice A l.length c)), (1, .v (.int .i64 v)), (2, .v (.bool false)), (8, .p 0 0), (9, .p 1 0), (11, .v (.int .i64 ((k : Nat) : Int))), (12, .p 2 0), (13, .p 3 0), (23, .v (.slice A l.length c)), (24, .v (.int .i64 ((l.length : Nat) : Int))), (25, .v (.int .i64 ((k : Nat) : Int))), (54, .v (.bool false))])).cast (by rw [hp_, bd]), ac, Fr.refl _ _ _⟩
     ·
      have jh := of_decide_eq_false ba
      have fq := dv.cast (env' := [(0, .v (.slice A l.length c)), (1, .v (.int .i64 v)), (2, .v (.bool flex)), (8, .p 0 0), (9, .p 1 0), (11, .v (.int .i64 ((k : Nat) : Int))), (12, .p 2 0), (13, .p 3 0), (23, .v (.slice A l.length c)), (24, .v (.int .i64 ((l.length : Nat) : Int))), (25, .v (.int .i64 ((k : Nat) : Int))), (41, .v (.bool false)), (45, .v (.bool false))]) (by rw [ba])
      refine qah [13, 14, 15, 16, 17, 18, 19, 20, 21] [] [(0, .v (.slice A l.length c)), (1, .v (.int .i64 v)), (2, .v (.bool flex)), (8, .p 0 0), (9, .p 1 0), (11, .v (.int .i64 ((k : Nat) : Int))), (12, .p 2 0), (13, .p 3 0), (23, .v (.slice A l.length c)), (24, .v (.int .i64 ((l.length : Nat) : Int))), (25, .v (.int .i64 ((k : Nat) : Int))), (54, .v (.bool false))] ac fq fun kV fr => ?_
      refine qae (qab ?_)
      have hp_ : Fld.pres (Fld.mk aj ak al am ag ao aa ab) v flex (Tree.at_ (Tree.mk n1 s2 b3 l4 u5) k) = false := by first | (first | exact pres_c ‹_› ‹_› | exact pres_d ‹_› ‹_› | exact pres_e ‹_› ‹_›) | (exfalso; omega)
      exact ⟨(fr.pk (env' := [(0, .v (.slice A l.length c)), (1, .v (.int .i64 v)), (2, .v (.bool flex)), (8, .p 0 0), (9, .p 1 0), (11, .v (.int .i64 ((k : Nat) : Int))), (12, .p 2 0), (13, .p 3 0), (23, .v (.slice A l.length c)), (24, .v (.int .i64 ((l.length : Nat) : Int))), (25, .v (.int .i64 ((k : Nat) : Int))), (54, .v (.bool false))])).cast (by rw [hp_]), ac, Fr.refl _ _ _⟩
   rintro kW kX ⟨bW, dz, bf⟩
   refine qat bW (b := Fld.pres (Fld.mk aj ak al am ag ao aa ab) v flex (Tree.at_ (Tree.mk n1 s2 b3 l4 u5) k)) kz (fun ft => ?_) (fun ft => ?_)
   ·
    refine wp_seq ?_
    refine qaE 11 kz dz fun kY bX aC bY => ?_
    refine qaF [0, 1, 2, 3, 4, 5, 6] [(0, .v (.slice A l.length c)), (1, .v (.int .i64 v)), (2, .v (.bool flex)), (8, .p 0 0), (9, .p 1 0), (23, .v (.slice A l.length c)), (24, .v (.int .i64 ((l.length : Nat) : Int))), (25, .v (.int .i64 ((k : Nat) : Int))), (55, .v (.agg #[.int .i64 aj, .int .i64 ak, .int .i64 al, .int .i64 am, .int .i64 ag, .int .i64 ao, .int .i64 aa, .slice ap ab.length ar])), (56, .v (.int .i64 v)), (57, .v (.bool flex)), (58, .v (.agg #[.int .i64 aM, .slice aR aN.length aS, .bool aO, .slice aT aP.length aU, .slice aV aQ.length aW])), (60, .v (.slice bG aF.length bN)), (61, .v (.int .i64 ((k : Nat) : Int)))] 4 (qaa (qaa (qaa (qac (qaa (qaa (qac (qaa qaf)))))))) (fun _ h => h.cells) bY bW fun kZ fu => ?_
    obtain ⟨iv, iw, fv, ji, bZ⟩ := Slots.get hC (i := k) (by first | omega | (have h_ := qb6 hgu ‹_›; omega))
    obtain ⟨ix, dA⟩ : ∃ x, aF[k]? = some x := ⟨_, List.getElem?_eq_getElem (by omega)⟩
    have b8 := iR k ix dA
    obtain ⟨cT, cU, cV, cW, cX, ei, ej, ek, em, eo, ep, jj, rfl, cd, iy, iz, k5, k6⟩ := b8.open_
    rw [cd] at b8
    have iA := iy.small
    have iB := iz.small
    rw [cd] at bZ
    refine qaL fu (i := 7) (t := 23) (A := bG) (m := aF.length) (q := ((k : Nat) : Int)) (d := 62) kz (e := 26) (size := 5) (bytes := 88) kz fv rfl (by first | omega | (have h_ := qb6 hgu ‹_›; omega)) kz kz (qaa (qaa (qaa (qac (qaa (qaa (qac (qaa qaf)))))))) bY fun k7 fw => ?_
    refine qaW fw (i := 8) (t := 26) (b := iv) (o := iw + k * 5) (d := 63) kz (cs := [.int .i64 cT, .slice ei cU.length ej, .bool cV, .slice ek cW.length em, .slice eo cX.length ep]) (v := .agg #[.int .i64 cT, .slice ei cU.length ej, .bool cV, .slice ek cW.length em, .slice eo cX.length ep]) kz (fun w' h' => (AtF.move bZ (TT.step0 aC h') nilM qaX).at_) kz kz (qaa (qaa (qaa (qac (qaa (qaa (qac (qaa qaf)))))))) bY fun k8 fx => ?_
    refine qay (i := 9) kz (qai fx (f := 60) (vs := [.agg #[.int .i64 aj, .int .i64 ak, .int .i64 al, .int .i64 am, .int .i64 ag, .int .i64 ao, .int .i64 aa, .slice ap ab.length ar], .int .i64 v, .bool flex, .agg #[.int .i64 aM, .slice aR aN.length aS, .bool aO, .slice aT aP.length aU, .slice aV aQ.length aW], .agg #[.int .i64 cT, .slice ei cU.length ej, .bool cV, .slice ek cW.length em, .slice eo cX.length ep]]) (d := 64) kz Tryz.call60 ( sTold1 hT _ _ _ (Tree.at_ (Tree.mk n1 s2 b3 l4 u5) k) _ (Tree.mk cT cU cV cW cX) _ _ (bu.move aC.step nilM aC.imm) (qfj hpl (List.mem_of_getElem? bP)) (aL.move (((aw.trans ax).trans bf).trans bX).step immM (((aw.trans ax).trans bf).trans bX).to') (b8.move aC.step nilM aC.imm) ((hP.2.1 k _ _ bP dA).1 ‹_›)) ?_)
    rintro e_ k9 ⟨rfl, dB⟩
    refine ⟨_, rfl, fun la fy => ?_⟩
    have ce := aC.next_nil dB
    have dC := aC.frN dB
    have dD := TT.ofW dC ce
    refine ⟨fun _ => dD, ?_⟩
    refine qaF [10] [(0, .v (.slice A l.length c)), (1, .v (.int .i64 v)), (2, .v (.bool flex)), (8, .p 0 0), (9, .p 1 0), (23, .v (.slice A l.length c)), (24, .v (.int .i64 ((l.length : Nat) : Int))), (25, .v (.int .i64 ((k : Nat) : Int))), (65, .v (.bool false))] 0 (qaa (qaa (qaa (qac (qaa (qaa (qac (qaa qaf)))))))) (fun _ h => h.cells) dD fy fun lb dE => ?_
    refine qaC kz ?_ _
    refine qab ?_
    refine qan dE (b := false) kz rfl ?_
    refine wp_skip ?_
    refine qab ?_
    refine wp_exit ?_
    refine qaz ?_
    refine qaI ?_
    refine qab ?_
    refine qar [0, 1] kz ?_
    refine qah [0, 1] [] [(0, .v (.slice A l.length c)), (1, .v (.int .i64 v)), (2, .v (.bool flex)), (8, .p 0 0), (9, .p 1 0), (23, .v (.slice A l.length c)), (24, .v (.int .i64 ((l.length : Nat) : Int))), (25, .v (.int .i64 (IntKind.i64.wrap (((k : Nat) : Int) + 1))))] ce dE fun lc fz => ?_
    refine qae (qab ?_)
    obtain ⟨dF, fA, fB⟩ := ce.cutB fz 2 [⟨df, 0, [.int .i64 n1, .slice A6 s2.length c7, .bool b3, .slice A8 l4.length c9, .slice bE u5.length bF], true⟩, ⟨dg, 0, [.int .i64 cO, .slice cR cP.length cS, .bool cQ, .slice bG aF.length bN, .slice bH aB.length bO], true⟩] [(0, .v (.slice A l.length c)), (1, .v (.int .i64 v)), (2, .v (.bool flex)), (8, .p 0 0), (9, .p 1 0), (23, .v (.slice A l.length c)), (24, .v (.int .i64 ((l.length : Nat) : Int))), (25, .v (.int .i64 (IntKind.i64.wrap (((k : Nat) : Int) + 1))))]
    have fC : IntKind.i64.wrap (((k : Nat) : Int) + 1) = ((k + 1 : Nat) : Int) := qaJ (by omega)
    rw [fC] at dF
    exact ⟨l.length - (k + 1), by omega, k + 1, rfl, by omega, dF.pk, fA, (((((((((ef.trans bR).trans bS).trans bU).trans aw).trans ax).trans bf).trans bX).trans dC).trans fB)⟩
   ·
    refine wp_skip ?_
    refine qab ?_
    refine qaE 11 kz dz fun ld dG cm cq => ?_
    refine qaF [0, 2, 3, 4] [(0, .v (.slice A l.length c)), (1, .v (.int .i64 v)), (2, .v (.bool flex)), (8, .p 0 0), (9, .p 1 0), (23, .v (.slice A l.length c)), (24, .v (.int .i64 ((l.length : Nat) : Int))), (25, .v (.int .i64 ((k : Nat) : Int))), (66, .v (.agg #[.int .i64 aj, .int .i64 ak, .int .i64 al, .int .i64 am, .int .i64 ag, .int .i64 ao, .int .i64 aa, .slice ap ab.length ar])), (69, .v (.slice bG aF.length bN)), (70, .v (.int .i64 ((k : Nat) : Int)))] 7 (qaa (qac (qaa (qaa (qac (qaa qaf)))))) (fun _ h => h.cells) cq bW fun lf fD => ?_
    obtain ⟨iC, iD, fE, jk, cr⟩ := Slots.get hC (i := k) (by first | omega | (have h_ := qb6 hgu ‹_›; omega))
    obtain ⟨iE, cu⟩ : ∃ x, aF[k]? = some x := ⟨_, List.getElem?_eq_getElem (by omega)⟩
    have bA := iR k iE cu
    obtain ⟨bI, bJ, bK, bL, bM, cY, cZ, c5, c6, da, db, jl, rfl, cw, iF, iG, lg, lh⟩ := bA.open_
    rw [cw] at bA
    have iH := iF.small
    have iI := iG.small
    rw [cw] at cr
    refine qaL fD (i := 5) (t := 23) (A := bG) (m := aF.length) (q := ((k : Nat) : Int)) (d := 71) kz (e := 26) (size := 5) (bytes := 88) kz fE rfl (by first | omega | (have h_ := qb6 hgu ‹_›; omega)) kz kz (qaa (qac (qaa (qaa (qac (qaa qaf)))))) cq fun li fF => ?_
    refine qaW fF (i := 6) (t := 26) (b := iC) (o := iD + k * 5) (d := 72) kz (cs := [.int .i64 bI, .slice cY bJ.length cZ, .bool bK, .slice c5 bL.length c6, .slice da bM.length db]) (v := .agg #[.int .i64 bI, .slice cY bJ.length cZ, .bool bK, .slice c5 bL.length c6, .slice da bM.length db]) kz (fun w' h' => (AtF.move cr (TT.step0 cm h') nilM qaX).at_) kz kz (qaa (qac (qaa (qaa (qac (qaa qaf)))))) cq fun lj dH => ?_
    refine qfV (i := 1) (j := 7) kz ?_ ?_
    ·
     refine (qbE cm dH (e := 52) (size := 8) (len := 1) (cs := [.int .i64 aj, .int .i64 ak, .int .i64 al, .int .i64 am, .int .i64 ag, .int .i64 ao, .int .i64 aa, .slice ap ab.length ar]) (d := 67) kz kz fun fG lm ln jm jn bB dI fH => ?_)
     have fI := TT.ofW bB dI
     refine ⟨fun _ => fI, ?_⟩
     refine qay (i := 7) kz (qbE dI fH (e := 26) (size := 5) (len := 1) (cs := [.int .i64 bI, .slice cY bJ.length cZ, .bool bK, .slice c5 bL.length c6, .slice da bM.length db]) (d := 73) kz kz fun fJ lp lq jo jp cz ay fK => ?_)
     have dJ := TT.ofW (bB.trans cz) ay
     refine ⟨fun _ => dJ, ?_⟩
     refine qaF [8] [(0, .v (.slice A l.length c)), (1, .v (.int .i64 v)), (2, .v (.bool flex)), (8, .p 0 0), (9, .p 1 0), (23, .v (.slice A l.length c)), (24, .v (.int .i64 ((l.length : Nat) : Int))), (25, .v (.int .i64 ((k : Nat) : Int))), (67, .v (.slice (some ⟨fG, 0, none⟩) 1 1)), (74, .v (.agg #[.int .i64 0, .slice none 0 0, .bool false, .slice (some ⟨fJ, 0, none⟩) 1 1, .slice none 0 0]))] 2 (qaa (qac (qaa (qaa (qac (qaa qaf)))))) (fun _ h => h.cells) dJ fK fun lr fL => ?_
     refine qay (i := 9) kz (qai fL (f := 61) (vs := [.slice (some ⟨fG, 0, none⟩) 1 1, .agg #[.int .i64 0, .slice none 0 0, .bool false, .slice (some ⟨fJ, 0, none⟩) 1 1, .slice none 0 0]]) (d := 75) kz Tryz.call61 ( sUs hU _ _ [(Fld.mk aj ak al am ag ao aa ab)] _ (.mk 0 [] false [(Tree.mk bI bJ bK bL bM)] []) _ _ (flds_one (ay.own 0 _ rfl) ((bu.move ay.step nilM ay.imm)) (Nat.le_refl _)) (tree_one (ay.own 1 _ rfl) ((bA.move ay.step nilM ay.imm)) (Nat.le_refl _)) (us_one ((hP.2.1 k _ _ bP cu).2 ‹_›))) ?_)
     rintro e_ ls ⟨rfl, dK⟩
     refine ⟨_, rfl, fun lu fM => ?_⟩
     have cA := ay.next_nil dK
     have dL := ay.frN dK
     have dM := TT.ofW ((bB.trans cz).trans dL) cA
     refine ⟨fun _ => dM, ?_⟩
     refine qaF [10] [(0, .v (.slice A l.length c)), (1, .v (.int .i64 v)), (2, .v (.bool flex)), (8, .p 0 0), (9, .p 1 0), (23, .v (.slice A l.length c)), (24, .v (.int .i64 ((l.length : Nat) : Int))), (25, .v (.int .i64 ((k : Nat) : Int))), (76, .v (.bool false))] 0 (qaa (qac (qaa (qaa (qac (qaa qaf)))))) (fun _ h => h.cells) dM fM fun lv dN => ?_
     refine qaC kz ?_ _
     refine qab ?_
     refine qan dN (b := false) kz rfl ?_
     refine wp_skip ?_
     refine qap ?_
     refine qab ?_
     refine qar [0, 1] kz ?_
     refine qah [0, 1] [] [(0, .v (.slice A l.length c)), (1, .v (.int .i64 v)), (2, .v (.bool flex)), (8, .p 0 0), (9, .p 1 0), (23, .v (.slice A l.length c)), (24, .v (.int .i64 ((l.length : Nat) : Int))), (25, .v (.int .i64 (IntKind.i64.wrap (((k : Nat) : Int) + 1))))] cA dN fun lw fN => ?_
     refine qae (qab ?_)
     obtain ⟨dO, fO, fP⟩ := cA.cutB fN 2 [⟨df, 0, [.int .i64 n1, .slice A6 s2.length c7, .bool b3, .slice A8 l4.length c9, .slice bE u5.length bF], true⟩, ⟨dg, 0, [.int .i64 cO, .slice cR cP.length cS, .bool cQ, .slice bG aF.length bN, .slice bH aB.length bO], true⟩] [(0, .v (.slice A l.length c)), (1, .v (.int .i64 v)), (2, .v (.bool flex)), (8, .p 0 0), (9, .p 1 0), (23, .v (.slice A l.length c)), (24, .v (.int .i64 ((l.length : Nat) : Int))), (25, .v (.int .i64 (IntKind.i64.wrap (((k : Nat) : Int) + 1))))]
     obtain ⟨fQ, fR⟩ := fO.cutR 0 []
     have fS : IntKind.i64.wrap (((k : Nat) : Int) + 1) = ((k + 1 : Nat) : Int) := qaJ (by omega)
     rw [fS] at dO
     exact ⟨l.length - (k + 1), by omega, k + 1, rfl, by omega, dO.pk, fQ, ((((((((((((ef.trans bR).trans bS).trans bU).trans aw).trans ax).trans bf).trans dG).trans bB).trans cz).trans dL).trans fP).trans fR)⟩
    ·
     refine (qbE cm dH (e := 26) (size := 5) (len := 1) (cs := [.int .i64 bI, .slice cY bJ.length cZ, .bool bK, .slice c5 bL.length c6, .slice da bM.length db]) (d := 73) kz kz fun fT lx ly jq jr bC dP fU => ?_)
     have dQ := TT.ofW bC dP
     refine ⟨fun _ => dQ, ?_⟩
     refine qaF [8] [(0, .v (.slice A l.length c)), (1, .v (.int .i64 v)), (2, .v (.bool flex)), (8, .p 0 0), (9, .p 1 0), (23, .v (.slice A l.length c)), (24, .v (.int .i64 ((l.length : Nat) : Int))), (25, .v (.int .i64 ((k : Nat) : Int))), (66, .v (.agg #[.int .i64 aj, .int .i64 ak, .int .i64 al, .int .i64 am, .int .i64 ag, .int .i64 ao, .int .i64 aa, .slice ap ab.length ar])), (74, .v (.agg #[.int .i64 0, .slice none 0 0, .bool false, .slice (some ⟨fT, 0, none⟩) 1 1, .slice none 0 0]))] 3 (qaa (qac (qaa (qaa (qac (qaa qaf)))))) (fun _ h => h.cells) dQ fU fun lz fV => ?_
     refine qay (i := 1) kz (qbE dP fV (e := 52) (size := 8) (len := 1) (cs := [.int .i64 aj, .int .i64 ak, .int .i64 al, .int .i64 am, .int .i64 ag, .int .i64 ao, .int .i64 aa, .slice ap ab.length ar]) (d := 67) kz kz fun iJ lA lB js jt cB az fW => ?_)
     have fX := TT.ofW (bC.trans cB) az
     refine ⟨fun _ => fX, ?_⟩
     refine qay (i := 9) kz (qai fW (f := 61) (vs := [.slice (some ⟨iJ, 0, none⟩) 1 1, .agg #[.int .i64 0, .slice none 0 0, .bool false, .slice (some ⟨fT, 0, none⟩) 1 1, .slice none 0 0]]) (d := 75) kz Tryz.call61 ( sUs hU _ _ [(Fld.mk aj ak al am ag ao aa ab)] _ (.mk 0 [] false [(Tree.mk bI bJ bK bL bM)] []) _ _ (flds_one (az.own 1 _ rfl) ((bu.move az.step nilM az.imm)) (Nat.le_refl _)) (tree_one (az.own 0 _ rfl) ((bA.move az.step nilM az.imm)) (Nat.le_refl _)) (us_one ((hP.2.1 k _ _ bP cu).2 ‹_›))) ?_)
     rintro e_ lC ⟨rfl, dR⟩
     refine ⟨_, rfl, fun lD fY => ?_⟩
     have cC := az.next_nil dR
     have dS := az.frN dR
     have dT := TT.ofW ((bC.trans cB).trans dS) cC
     refine ⟨fun _ => dT, ?_⟩
     refine qaF [10] [(0, .v (.slice A l.length c)), (1, .v (.int .i64 v)), (2, .v (.bool flex)), (8, .p 0 0), (9, .p 1 0), (23, .v (.slice A l.length c)), (24, .v (.int .i64 ((l.length : Nat) : Int))), (25, .v (.int .i64 ((k : Nat) : Int))), (76, .v (.bool false))] 0 (qaa (qac (qaa (qaa (qac (qaa qaf)))))) (fun _ h => h.cells) dT fY fun lE dU => ?_
     refine qaC kz ?_ _
     refine qab ?_
     refine qan dU (b := false) kz rfl ?_
     refine wp_skip ?_
     refine qap ?_
     refine qab ?_
     refine qar [0, 1] kz ?_
     refine qah [0, 1] [] [(0, .v (.slice A l.length c)), (1, .v (.int .i64 v)), (2, .v (.bool flex)), (8, .p 0 0), (9, .p 1 0), (23, .v (.slice A l.length c)), (24, .v (.int .i64 ((l.length : Nat) : Int))), (25, .v (.int .i64 (IntKind.i64.wrap (((k : Nat) : Int) + 1))))] cC dU fun lF fZ => ?_
     refine qae (qab ?_)
     obtain ⟨dV, f5, f7⟩ := cC.cutB fZ 2 [⟨df, 0, [.int .i64 n1, .slice A6 s2.length c7, .bool b3, .slice A8 l4.length c9, .slice bE u5.length bF], true⟩, ⟨dg, 0, [.int .i64 cO, .slice cR cP.length cS, .bool cQ, .slice bG aF.length bN, .slice bH aB.length bO], true⟩] [(0, .v (.slice A l.length c)), (1, .v (.int .i64 v)), (2, .v (.bool flex)), (8, .p 0 0), (9, .p 1 0), (23, .v (.slice A l.length c)), (24, .v (.int .i64 ((l.length : Nat) : Int))), (25, .v (.int .i64 (IntKind.i64.wrap (((k : Nat) : Int) + 1))))]
     obtain ⟨f8, f9⟩ := f5.cutR 0 []
     have ga : IntKind.i64.wrap (((k : Nat) : Int) + 1) = ((k + 1 : Nat) : Int) := qaJ (by omega)
     rw [ga] at dV
     exact ⟨l.length - (k + 1), by omega, k + 1, rfl, by omega, dV.pk, f8, ((((((((((((ef.trans bR).trans bS).trans bU).trans aw).trans ax).trans bf).trans dG).trans bC).trans cB).trans dS).trans f7).trans f9)⟩
  ·
   have ju := of_decide_eq_false eh
   refine wp_exit ?_
   refine qaz ?_
   refine qaz ?_
   refine qaI ?_
   refine qab ?_
   refine qad [0, 1, 2, 3, 4] kz ?_
   refine qah [0, 1, 2] [3, 4] [(2, .v (.bool flex)), (9, .p 1 0), (78, .v (.slice A l.length c)), (80, .v (.slice bE u5.length bF))] av eg fun lG gb => ?_
   refine qaj (qai gb (f := 62) (vs := [.slice A l.length c, .slice bE u5.length bF]) (d := 81) kz Tryz.call62 (qfK _ _ l _ _ u5 _ _ ⟨xfs, (h1.move av.step nilM av.imm), (fun i_ x_ h_ => ((h2 i_ x_ h_).move av.step nilM av.imm))⟩ (jR.move av.step nilM av.imm)) ?_)
   rintro e_ lH ⟨ah, ai, rfl, gc, cD⟩
   have gd := gc.move (Step.refl _ Nil) nilM (av.laid (G := F) cD)
   refine ⟨_, rfl, fun lI ge => ?_⟩
   have ae := av.next_nil cD
   have jv := av.frN cD
   refine qah [4] [] [(2, .v (.bool flex)), (9, .p 1 0), (14, .v (.slice ah ((qag l u5).length) ai))] ae ge fun lJ gg => ?_
   refine qae (qab ?_)
   refine wp_seq ?_
   refine qam [(9, .p 1 0), (14, .v (.slice ah ((qag l u5).length) ai)), (83, .v (.bool (!flex)))] ae gg fun lK cE => ?_
   refine qat cE (b := !flex) kz (fun gh => ?_) (fun gh => ?_)
   ·
    refine qar [0] kz ?_
    refine qah [0] [] [(9, .p 1 0), (14, .v (.slice none 0 0))] ae cE fun lL gi => ?_
    refine qae (qab ?_)
    refine wp_seq ?_
    refine qam [(9, .p 1 0), (14, .v (.slice none 0 0)), (89, .v (.bool (((aB.length : Nat) : Int) != 0)))] ae gi fun lM cG => ?_
    refine qat cG (b := ((aB.length : Nat) : Int) != 0) kz (fun cH => ?_) (fun cH => ?_)
    ·
     have jw : ((aB.length : Nat) : Int) ≠ 0 := by simpa using cH
     refine qam [(10, .v (.bool false))] ae cG fun lN gj => ?_
     refine wp_ret ?_
     refine qal ?_
     refine qaD gj ae.cells (v := .bool false) kz ?_
     first
      | (exfalso; omega)
      | exact (qed hgu ‹_› ‹_›).elim
      | exact (qda hgu ‹_› ‹_›).elim
      | exact (qee hgu ‹_› ‹_› ‹_› ‹_›).elim
      | exact (qef hgu ‹_› ‹_› ‹_› ‹_›).elim
      | (exfalso; simp_all; done)
    ·
     have jx : ((aB.length : Nat) : Int) = 0 := by simpa using cH
     refine wp_skip ?_
     refine qab ?_
     refine wp_seq ?_
     refine qam [(9, .p 1 0), (90, .v (.slice none 0 0)), (91, .v (.int .i64 0)), (92, .v (.int .i64 0))] ae cG fun lO gk => ?_
     refine wp_block ?_
     refine wp_loop_ghost (fun n_ a_ w_ => ∃ (k : Nat), n_ = 0 - k ∧ k ≤ 0 ∧ LInv ae 120 [⟨df, 0, [.int .i64 n1, .slice A6 s2.length c7, .bool b3, .slice A8 l4.length c9, .slice bE u5.length bF], true⟩, ⟨dg, 0, [.int .i64 cO, .slice cR cP.length cS, .bool cQ, .slice bG aF.length bN, .slice bH aB.length bO], true⟩] [] [(9, .p 1 0), (90, .v (.slice none 0 0)), (91, .v (.int .i64 0)), (92, .v (.int .i64 ((k : Nat) : Int)))] a_ w_) (0) ⟨0, by omega, by omega, gk.pk, ae, Fr.refl _ _ _⟩ ?_
     rintro lP lQ lR ⟨k, jy, jz, gl, bD, jA⟩
     refine qam [(9, .p 1 0), (90, .v (.slice none 0 0)), (91, .v (.int .i64 0)), (92, .v (.int .i64 ((k : Nat) : Int))), (93, .v (.bool (decide (((k : Nat) : Int) < 0))))] bD gl fun lS dW => ?_
     refine wp_seq ?_
     refine qan dW (b := decide (((k : Nat) : Int) < 0)) kz (decide_eq_false (by omega)) ?_
     refine wp_exit ?_
     refine qaz ?_
     refine qaz ?_
     refine qaI ?_
     refine qab ?_
     refine qam [(10, .v (.bool true))] bD dW fun lT gm => ?_
     refine wp_ret ?_
     refine qaD gm bD.cells (v := .bool true) kz ?_
     exact ⟨rfl, bD.step⟩
   ·
    refine wp_skip ?_
    refine qab ?_
    refine wp_seq ?_
    refine qam [(9, .p 1 0), (14, .v (.slice ah ((qag l u5).length) ai)), (89, .v (.bool (((aB.length : Nat) : Int) != (((qag l u5).length : Nat) : Int))))] ae cE fun lU cI => ?_
    refine qat cI (b := ((aB.length : Nat) : Int) != (((qag l u5).length : Nat) : Int)) kz (fun cJ => ?_) (fun cJ => ?_)
    ·
     have jB : ((aB.length : Nat) : Int) ≠ (((qag l u5).length : Nat) : Int) := by simpa using cJ
     refine qam [(10, .v (.bool false))] ae cI fun lV gn => ?_
     refine wp_ret ?_
     refine qal ?_
     refine qaD gn ae.cells (v := .bool false) kz ?_
     first
      | (exfalso; omega)
      | exact (qed hgu ‹_› ‹_›).elim
      | exact (qda hgu ‹_› ‹_›).elim
      | exact (qee hgu ‹_› ‹_› ‹_› ‹_›).elim
      | exact (qef hgu ‹_› ‹_› ‹_› ‹_›).elim
      | (exfalso; simp_all; done)
    ·
     have jC : ((aB.length : Nat) : Int) = (((qag l u5).length : Nat) : Int) := by simpa using cJ
     refine wp_skip ?_
     refine qab ?_
     refine wp_seq ?_
     refine qam [(9, .p 1 0), (90, .v (.slice ah ((qag l u5).length) ai)), (91, .v (.int .i64 (((qag l u5).length : Nat) : Int))), (92, .v (.int .i64 0))] ae cI fun lW gp => ?_
     refine wp_block ?_
     obtain ⟨jD, gq, iK⟩ := gd.ex
     have iL := gq.small
     refine wp_loop_ghost (fun n_ a_ w_ => ∃ (k : Nat), n_ = (qag l u5).length - k ∧ k ≤ (qag l u5).length ∧ LInv ae 120 [⟨df, 0, [.int .i64 n1, .slice A6 s2.length c7, .bool b3, .slice A8 l4.length c9, .slice bE u5.length bF], true⟩, ⟨dg, 0, [.int .i64 cO, .slice cR cP.length cS, .bool cQ, .slice bG aF.length bN, .slice bH aB.length bO], true⟩] [] [(9, .p 1 0), (90, .v (.slice ah ((qag l u5).length) ai)), (91, .v (.int .i64 (((qag l u5).length : Nat) : Int))), (92, .v (.int .i64 ((k : Nat) : Int)))] a_ w_) ((qag l u5).length) ⟨0, by omega, by omega, gp.pk, ae, Fr.refl _ _ _⟩ ?_
     rintro lX lY lZ ⟨k, jE, jF, gt, aI, aD⟩
     refine qam [(9, .p 1 0), (90, .v (.slice ah ((qag l u5).length) ai)), (91, .v (.int .i64 (((qag l u5).length : Nat) : Int))), (92, .v (.int .i64 ((k : Nat) : Int))), (93, .v (.bool (decide (((k : Nat) : Int) < (((qag l u5).length : Nat) : Int)))))] aI gt fun l0 cK => ?_
     refine wp_seq ?_
     refine qat cK (b := decide (((k : Nat) : Int) < (((qag l u5).length : Nat) : Int))) kz (fun cL => ?_) (fun cL => ?_)
     ·
      have jG := of_decide_eq_true cL
      refine wp_skip ?_
      refine qab ?_
      refine wp_seq ?_
      refine wp_block ?_
      refine qad [0, 1, 2, 3, 4, 5] kz ?_
      refine qah [0] [1, 2, 3, 4, 5] [(9, .p 1 0), (90, .v (.slice ah ((qag l u5).length) ai)), (91, .v (.int .i64 (((qag l u5).length : Nat) : Int))), (92, .v (.int .i64 ((k : Nat) : Int))), (94, .v (.int .i64 ((k : Nat) : Int)))] aI cK fun l3 gv => ?_
      obtain ⟨iM, iN, gw, jH, cM⟩ := Slots.get gq (i := k) (by first | omega | (have h_ := qb6 hgu ‹_›; omega))
      obtain ⟨⟨aE, aA⟩, gx⟩ : ∃ x, (qag l u5)[k]? = some x := ⟨_, List.getElem?_eq_getElem (by omega)⟩
      obtain ⟨⟨bg, bh, eu, dX⟩, l5, l6⟩ := iK k aE aA gx
      rw [eu] at cM
      refine qaj (qaA gv (t := 24) (A := ah) (m := ((qag l u5).length)) (q := ((k : Nat) : Int)) (d := 95) kz (e := 66) (size := 2) (bytes := 32) kz gw rfl (by first | omega | (have h_ := qb6 hgu ‹_›; omega)) fun l7 gy => ?_)
      refine qaj (qaH gy (t := 66) (b := iM) (o := iN + k * 2) (d := 96) kz (cs := [.int .u32 aE, .slice bg aA.length bh]) (v := .agg #[.int .u32 aE, .slice bg aA.length bh]) kz (AtF.move cM aD.step immM aD.to').at_ fun l9 gz => ?_)
      refine qaj (qaK aI gz (d := 16) (cs := [.int .u32 0, .slice none 0 0]) kz fun ma mc md jI jJ bi dY gA => ?_)
      refine qah [4] [5] [(9, .p 1 0), (15, .v (.int .i64 ((k : Nat) : Int))), (16, .p 2 0), (90, .v (.slice ah ((qag l u5).length) ai)), (91, .v (.int .i64 (((qag l u5).length : Nat) : Int))), (92, .v (.int .i64 ((k : Nat) : Int))), (96, .v (.agg #[.int .u32 aE, .slice bg aA.length bh]))] dY gA fun me gB => ?_
      refine qaj (qav dY gB (oi := 2) (cs := [.int .u32 aE, .slice bg aA.length bh]) kz fun mf bj gC gD => ?_)
      refine qae (qab ?_)
      refine qaE 22 kz gC fun mg bk aJ au => ?_
      refine qaF [0, 1, 2, 6, 7] [(9, .p 1 0), (15, .v (.int .i64 ((k : Nat) : Int))), (16, .p 2 0), (90, .v (.slice ah ((qag l u5).length) ai)), (91, .v (.int .i64 (((qag l u5).length : Nat) : Int))), (92, .v (.int .i64 ((k : Nat) : Int))), (98, .v (.slice bH aB.length bO)), (99, .v (.int .i64 ((k : Nat) : Int))), (104, .v (.int .u32 aE))] 17 (qaa (qac (qaa (qaa (qac (qaa qaf)))))) (fun _ h => h.cells) au gD fun mh gE => ?_
      obtain ⟨dc, de, dZ, jK, bw⟩ := Slots.get iU (i := k) (by first | omega | (have h_ := qb6 hgu ‹_›; omega))
      obtain ⟨⟨bx, bz⟩, gF⟩ : ∃ x, aB[k]? = some x := ⟨_, List.getElem?_eq_getElem (by omega)⟩
      obtain ⟨⟨ev, ew, ey, gG⟩, mi, mj⟩ := jW k bx bz gF
      rw [ey] at bw
      refine qaL gE (i := 3) (t := 24) (A := bH) (m := aB.length) (q := ((k : Nat) : Int)) (d := 100) kz (e := 66) (size := 2) (bytes := 32) kz dZ rfl (by first | omega | (have h_ := qb6 hgu ‹_›; omega)) kz kz (qaa (qac (qaa (qaa (qac (qaa qaf)))))) au fun ml gH => ?_
      refine qaF [4] [(9, .p 1 0), (15, .v (.int .i64 ((k : Nat) : Int))), (16, .p 2 0), (90, .v (.slice ah ((qag l u5).length) ai)), (91, .v (.int .i64 (((qag l u5).length : Nat) : Int))), (92, .v (.int .i64 ((k : Nat) : Int))), (101, .v (.pointer (some ⟨dc, de + k * 2, none⟩))), (104, .v (.int .u32 aE))] 15 (qaa (qac (qaa (qaa (qac (qaa qaf)))))) (fun _ h => h.cells) au gH fun mn gI => ?_
      refine qaW gI (i := 5) (t := 64) (b := dc) (o := de + k * 2) (d := 102) kz (cs := [.int .u32 bx]) (v := .int .u32 bx) kz (fun w' h' => (At.drop (AtF.move bw (TT.step0 aJ h') nilM qaX).at_ 0 1)) kz kz (qaa (qac (qaa (qaa (qac (qaa qaf)))))) au fun mo gJ => ?_
      refine qaF [8, 9] [(9, .p 1 0), (15, .v (.int .i64 ((k : Nat) : Int))), (16, .p 2 0), (90, .v (.slice ah ((qag l u5).length) ai)), (91, .v (.int .i64 (((qag l u5).length : Nat) : Int))), (92, .v (.int .i64 ((k : Nat) : Int))), (106, .v (.bool (bx != aE)))] 12 (qaa (qac (qaa (qaa (qac (qaa qaf)))))) (fun _ h => h.cells) au gJ fun mp d5 => ?_
      refine (Bool.eq_false_or_eq_true (bx != aE)).elim (fun bn => ?_) (fun bn => ?_)
      ·
       have jL : bx ≠ aE := by simpa using bn
       have gK := d5.cast (env' := [(9, .p 1 0), (15, .v (.int .i64 ((k : Nat) : Int))), (16, .p 2 0), (90, .v (.slice ah ((qag l u5).length) ai)), (91, .v (.int .i64 (((qag l u5).length : Nat) : Int))), (92, .v (.int .i64 ((k : Nat) : Int))), (106, .v (.bool true))]) (by rw [bn])
       refine qaF [10, 11, 12, 13, 14, 15, 16, 17, 18, 19, 20, 21] [(9, .p 1 0), (90, .v (.slice ah ((qag l u5).length) ai)), (91, .v (.int .i64 (((qag l u5).length : Nat) : Int))), (92, .v (.int .i64 ((k : Nat) : Int))), (118, .v (.bool true))] 0 (qaa (qac (qaa (qaa (qac (qaa qaf)))))) (fun _ h => h.cells) au gK fun mq d6 => ?_
       refine qaC kz ?_ _
       refine qab ?_
       refine qaV d6 (b := true) kz rfl ?_
       refine qam [(10, .v (.bool false))] aJ d6 fun mr gL => ?_
       refine wp_ret ?_
       refine qau ?_
       refine qal ?_
       refine qal ?_
       refine qau ?_
       refine qal ?_
       refine qaD gL aJ.cells (v := .bool false) kz ?_
       first
        | (exfalso; omega)
        | exact (qed hgu ‹_› ‹_›).elim
        | exact (qda hgu ‹_› ‹_›).elim
        | exact (qee hgu ‹_› ‹_› ‹_› ‹_›).elim
        | exact (qef hgu ‹_› ‹_› ‹_› ‹_›).elim
        | (exfalso; simp_all; done)
      ·
       have jM : bx = aE := by simpa using bn
       have gM := d5.cast (env' := [(9, .p 1 0), (15, .v (.int .i64 ((k : Nat) : Int))), (16, .p 2 0), (90, .v (.slice ah ((qag l u5).length) ai)), (91, .v (.int .i64 (((qag l u5).length : Nat) : Int))), (92, .v (.int .i64 ((k : Nat) : Int))), (106, .v (.bool false))]) (by rw [bn])
       refine qaF [10, 11, 12, 16, 17] [(9, .p 1 0), (90, .v (.slice ah ((qag l u5).length) ai)), (91, .v (.int .i64 (((qag l u5).length : Nat) : Int))), (92, .v (.int .i64 ((k : Nat) : Int))), (106, .v (.bool false)), (108, .v (.slice bH aB.length bO)), (109, .v (.int .i64 ((k : Nat) : Int))), (114, .v (.slice bg aA.length bh))] 7 (qaa (qac (qaa (qaa (qac (qaa qaf)))))) (fun _ h => h.cells) au gM fun mt gN => ?_
       refine qaL gN (i := 13) (t := 24) (A := bH) (m := aB.length) (q := ((k : Nat) : Int)) (d := 110) kz (e := 66) (size := 2) (bytes := 32) kz dZ rfl (by first | omega | (have h_ := qb6 hgu ‹_›; omega)) kz kz (qaa (qac (qaa (qaa (qac (qaa qaf)))))) au fun mu gO => ?_
       refine qaF [14] [(9, .p 1 0), (90, .v (.slice ah ((qag l u5).length) ai)), (91, .v (.int .i64 (((qag l u5).length : Nat) : Int))), (92, .v (.int .i64 ((k : Nat) : Int))), (106, .v (.bool false)), (111, .v (.pointer (some ⟨dc, de + k * 2 + 1, none⟩))), (114, .v (.slice bg aA.length bh))] 5 (qaa (qac (qaa (qaa (qac (qaa qaf)))))) (fun _ h => h.cells) au gO fun mw gP => ?_
       refine qaW gP (i := 15) (t := 22) (b := dc) (o := de + k * 2 + 1) (d := 112) kz (cs := [.slice ev bz.length ew]) (v := .slice ev bz.length ew) kz (fun w' h' => (At.drop (AtF.move bw (TT.step0 aJ h') nilM qaX).at_ 1 1)) kz kz (qaa (qac (qaa (qaa (qac (qaa qaf)))))) au fun mx gQ => ?_
       have iO := qa6 aA
       refine qay (i := 18) kz (qai gQ (f := 64) (vs := [.slice bg aA.length bh]) (d := 115) kz Tryz.call64 (qc7 _ _ aA (dX.move (((aD.trans bi).trans bj).trans bk).step immM (((aD.trans bi).trans bj).trans bk).to').le _) ?_)
       rintro e_ my ⟨rfl, d7⟩
       refine ⟨_, rfl, fun mz gR => ?_⟩
       have bo := aJ.next_nil d7
       have bp := aJ.frN d7
       have gS := TT.ofW bp bo
       refine ⟨fun _ => gS, ?_⟩
       refine qay (i := 19) kz (qai gR (f := 63) (vs := [.slice ev bz.length ew, .slice bg ((qaB aA).length) bh]) (d := 116) kz Tryz.call63 (qdK _ _ _ _ bz (qaB aA) _ _ ((gG.move bo.step nilM bo.imm).move (Step.refl _ Nil) nilM allF) (((dX.take 32767).move ((((aD.trans bi).trans bj).trans bk).trans bp).step immM ((((aD.trans bi).trans bj).trans bk).trans bp).to').move (Step.refl _ Nil) nilM allF)) ?_)
       rintro e_ mA ⟨rfl, d8⟩
       refine ⟨_, rfl, fun mB gT => ?_⟩
       have bq := bo.next_nil d8
       have d9 := bo.frN d8
       have ea := TT.ofW (bp.trans d9) bq
       refine ⟨fun _ => ea, ?_⟩
       refine qaF [20, 21] [(9, .p 1 0), (90, .v (.slice ah ((qag l u5).length) ai)), (91, .v (.int .i64 (((qag l u5).length : Nat) : Int))), (92, .v (.int .i64 ((k : Nat) : Int))), (118, .v (.bool (!(decide (bz = (qaB aA))))))] 0 (qaa (qac (qaa (qaa (qac (qaa qaf)))))) (fun _ h => h.cells) ea gT fun mC cN => ?_
       refine qaC kz ?_ _
       refine qab ?_
       refine qat cN (b := !(decide (bz = (qaB aA)))) kz (fun gU => ?_) (fun gU => ?_)
       ·
        refine qam [(10, .v (.bool false))] bq cN fun mD gV => ?_
        refine wp_ret ?_
        refine qau ?_
        refine qal ?_
        refine qal ?_
        refine qau ?_
        refine qal ?_
        refine qaD gV bq.cells (v := .bool false) kz ?_
        first
         | (exfalso; omega)
         | exact (qed hgu ‹_› ‹_›).elim
         | exact (qda hgu ‹_› ‹_›).elim
         | exact (qee hgu ‹_› ‹_› ‹_› ‹_›).elim
         | exact (qef hgu ‹_› ‹_› ‹_› ‹_›).elim
         | (exfalso; simp_all; done)
       ·
        refine wp_skip ?_
        refine qap ?_
        refine qab ?_
        refine qar [0, 1] kz ?_
        refine qah [0, 1] [] [(9, .p 1 0), (90, .v (.slice ah ((qag l u5).length) ai)), (91, .v (.int .i64 (((qag l u5).length : Nat) : Int))), (92, .v (.int .i64 (IntKind.i64.wrap (((k : Nat) : Int) + 1))))] bq cN fun mF gW => ?_
        refine qae (qab ?_)
        obtain ⟨eb, gX, gY⟩ := bq.cutB gW 2 [⟨df, 0, [.int .i64 n1, .slice A6 s2.length c7, .bool b3, .slice A8 l4.length c9, .slice bE u5.length bF], true⟩, ⟨dg, 0, [.int .i64 cO, .slice cR cP.length cS, .bool cQ, .slice bG aF.length bN, .slice bH aB.length bO], true⟩] [(9, .p 1 0), (90, .v (.slice ah ((qag l u5).length) ai)), (91, .v (.int .i64 (((qag l u5).length : Nat) : Int))), (92, .v (.int .i64 (IntKind.i64.wrap (((k : Nat) : Int) + 1))))]
        have gZ : IntKind.i64.wrap (((k : Nat) : Int) + 1) = ((k + 1 : Nat) : Int) := qaJ (by omega)
        rw [gZ] at eb
        exact ⟨(qag l u5).length - (k + 1), by omega, k + 1, rfl, by omega, eb.pk, gX, ((((((aD.trans bi).trans bj).trans bk).trans bp).trans d9).trans gY)⟩
     ·
      have jN := of_decide_eq_false cL
      refine wp_exit ?_
      refine qaz ?_
      refine qaz ?_
      refine qaI ?_
      refine qab ?_
      refine qam [(10, .v (.bool true))] aI cK fun mG g9 => ?_
      refine wp_ret ?_
      refine qaD g9 aI.cells (v := .bool true) kz ?_
      exact ⟨rfl, aI.step⟩
theorem sToldP (v : Int) (flex : Bool) : ∀ d, ToOK v flex (ToldP v flex d)
 | 0 => sToldS (fun _ _ _ _ _ _ _ _ _ _ _ _ _ h => h.elim) (fun _ _ _ _ _ _ _ _ _ h => h.elim)
 | d + 1 => sToldS (sToldP v flex d) (sUsualP d)
theorem qeg (w : World) : Calls Tryz.prog 43 #[] w (qbW w (.int .i64 3)) := by
 refine enter (n := 4) Tryz.func43 rfl Tryz.ntmps43 kz fun a hE => ?_
 have hW := WOk.start w Nil
 refine qam [] hW hE fun a1 hE2 => ?_
 refine qad [0, 1, 2, 3] kz ?_
 refine qaj (qbs hE2 (f := 106) (vs := []) (d := 1) (n' := 3) kz Tryz.call106 Tryz.func106 rfl Tryz.ntmps106 kz fun a3 hE4 => ?_)
 refine qam [] hW hE4 fun a5 hE6 => ?_
 refine qad [0] kz ?_
 refine qaj (qaK hW hE6 (d := 1) (cs := [.int .i16 0, .slice none 0 0, .map none]) kz fun b7 a8 w9 ax ay az aa ab => ?_)
 refine qae (qab ?_)
 refine qad [0] kz ?_
 refine qaj (qbs ab (f := 164) (vs := [.pointer (some ⟨b7, 0, none⟩)]) (d := 2) (n' := 2) kz Tryz.call164 Tryz.func164 rfl Tryz.ntmps164 kz fun aA ac => ?_)
 have ae := ac.recast 0 (.v (.pointer (some ⟨b7, 0, none⟩))) (.p 0 0) rfl rfl (Nat.le_of_ble_eq_true (n := 1) rfl)
 refine wp_skip ?_
 refine qbS ae aa.cells (v := .tuple #[]) kz ?_
 refine ⟨_, rfl, fun aB af => ?_⟩
 have ag : EnvOk 3 [⟨b7, 0, [.int .i16 0, .slice none 0 0, .map none], true⟩] [(2, .v (.tuple #[])), (1, .p 0 0)] _ := af.places (⟨rfl, rfl, trivial⟩)
 refine qae (qab ?_)
 refine qam [(0, .p 0 0)] aa ag fun aC ah => ?_
 refine wp_ret ?_
 refine qaD ah aa.cells (v := .pointer (some ⟨b7, 0, none⟩)) kz ?_
 refine ⟨_, rfl, fun aD ai => ?_⟩
 have aj : EnvOk 4 [⟨b7, 0, [.int .i16 0, .slice none 0 0, .map none], true⟩] [(1, .v (.pointer (some ⟨b7, 0, none⟩)))] _ := ai.places (trivial)
 have ak := aj.recast 1 (.v (.pointer (some ⟨b7, 0, none⟩))) (.p 0 0) rfl rfl (Nat.le_of_ble_eq_true (n := 1) rfl)
 have al := ak.pick (ks := [1]) (env' := [(1, .p 0 0)]) kz
 refine qaj (qbs al (f := 107) (vs := [.pointer (some ⟨b7, 0, none⟩)]) (d := 2) (n' := 3) kz Tryz.call107 Tryz.func107 rfl Tryz.ntmps107 kz fun aE am => ?_)
 have ao := am.recast 0 (.v (.pointer (some ⟨b7, 0, none⟩))) (.p 0 0) rfl rfl (Nat.le_of_ble_eq_true (n := 1) rfl)
 refine qam [] aa ao fun aF ap => ?_
 refine qam [(2, .v (.int .i16 3))] aa ap fun aG ar => ?_
 refine wp_ret ?_
 refine qaD ar aa.cells (v := .int .i16 3) kz ?_
 refine ⟨_, rfl, fun aH au => ?_⟩
 have av : EnvOk 4 [⟨b7, 0, [.int .i16 0, .slice none 0 0, .map none], true⟩] [(2, .v (.int .i16 3)), (1, .p 0 0)] _ := au.places (⟨rfl, rfl, trivial⟩)
 refine qah [2, 3] [] [(0, .v (.int .i64 3))] aa av fun aI aw => ?_
 refine qae (qab ?_)
 refine wp_ret ?_
 refine qaD aw aa.cells (v := .int .i64 3) kz ?_
 exact ⟨rfl, aa.step⟩
theorem qcK : depths sDeleteACLsRequestF ≤ 8 := by simp [sDeleteACLsRequestF, Fld.depth.depths, Fld.depth]
theorem qcL : plains sDeleteACLsRequestF := by simp [sDeleteACLsRequestF, Fld.plain.plains, Fld.plain]
theorem qdT (A : Option Addr) (c : Nat) (v : Int) (w : World) : Calls Tryz.prog 20 #[.agg #[.slice A sDeleteACLsRequestF.length c, .int .i64 qas], .int .i64 v] w (qbW w (.bool (decide (v ≥ qas)))) := by
 refine enter (n := 14) Tryz.func20 rfl Tryz.ntmps20 kz fun a hE => ?_
 have hW := WOk.start w Nil
 refine qad [0, 1] kz ?_
 refine qaj (qa7 hW hE (d := 2) (cs := [.slice A sDeleteACLsRequestF.length c, .int .i64 qas]) kz fun b1 a2 w3 hb4 hz5 hF6 hW7 hE8 => ?_)
 refine qah [1] [] [(1, .v (.int .i64 v)), (2, .p 0 0)] hW7 hE8 fun a9 aa => ?_
 refine qae (qab ?_)
 refine qad [0, 1, 2, 3, 4, 5, 6, 7, 8, 9] kz ?_
 refine qah [0, 1, 2, 3] [4, 5, 6, 7, 8, 9] [(1, .v (.int .i64 v)), (2, .p 0 0), (8, .v (.bool (decide (qas ≥ 0))))] hW7 aa fun ag ab => ?_
 have ac : (decide (qas ≥ 0)) = true := by decide
 have ae := ab.cast (env' := [(1, .v (.int .i64 v)), (2, .p 0 0), (8, .v (.bool true))]) (by rw [ac])
 refine qah [4, 5, 6, 7, 8, 9] [] [(4, .v (.bool (decide (v ≥ qas))))] hW7 ae fun ah af => ?_
 refine qae (qab ?_)
 refine wp_ret ?_
 refine qaD af hW7.cells (v := .bool (decide (v ≥ qas))) kz ?_
 exact ⟨rfl, hW7.step⟩
set_option maxHeartbeats 4000000 in
theorem qdw (x : Int) (hx : 0 ≤ x) (hx' : x < 256) (ct : List Value) (t : Tree) (w : World) (F : Nat → Nat → Prop) (ht : TreeR w F ct t) (hroom1 : (qcl 8 sDeleteACLsRequestF qas (Int.tmod x (3 + 1)) t).length + 16 ≤ 1099511627776) (hcan : qa8 (fitT (Int.tmod x (3 + 1)) 8 sDeleteACLsRequestF t)) (hkey : Tree.ranged (fitT (Int.tmod x (3 + 1)) 8 sDeleteACLsRequestF t)) (hpure : qao (IntKind.i16.wrap (Int.tmod x (3 + 1))) (fitT (Int.tmod x (3 + 1)) 8 sDeleteACLsRequestF t) = qcl 8 sDeleteACLsRequestF qas (Int.tmod x (3 + 1)) t) (hto : ∀ D, qbb (IntKind.i16.wrap (Int.tmod x (3 + 1))) D (fitT (Int.tmod x (3 + 1)) 8 sDeleteACLsRequestF t) → ToldP (Int.tmod x (3 + 1)) (decide ((Int.tmod x (3 + 1)) ≥ qas)) 8 sDeleteACLsRequestF t (qbc D)) :
  Calls Tryz.prog 11 #[.int .u8 x, .agg ct.toArray] w (qbW w (.bool true)) := by
 obtain ⟨n1, s2, b3, l4, u5, A6, c7, A8, c9, aO, aP, dc, rfl, rfl, de, df, dR, dS⟩ := ht.open_
 have cP := de.small
 have cQ := df.small
 refine enter (n := 42) Tryz.func11 rfl Tryz.ntmps11 kz fun a hE => ?_
 have hW := WOk.start w Nil
 refine qad [0, 1] kz ?_
 refine qaj (qa7 hW hE (d := 3) (cs := [.int .i64 n1, .slice A6 s2.length c7, .bool b3, .slice A8 l4.length c9, .slice aO u5.length aP]) kz fun dg dT dU dh di dj ar bJ => ?_)
 refine qah [1] [] [(0, .v (.int .u8 x)), (3, .p 0 0)] ar bJ fun dV bK => ?_
 refine qae (qab ?_)
 refine wp_seq ?_
 refine qad [0, 1, 2] kz ?_
 refine qah [0] [1, 2] [(0, .v (.int .u8 x)), (3, .p 0 0), (10, .v (.agg #[.int .i64 n1, .slice A6 s2.length c7, .bool b3, .slice A8 l4.length c9, .slice aO u5.length aP]))] ar bK fun dW bL => ?_
 refine qaj (qai bL (f := 13) (vs := [.agg #[.int .i64 n1, .slice A6 s2.length c7, .bool b3, .slice A8 l4.length c9, .slice aO u5.length aP]]) (d := 11) kz Tryz.call13 (lFits1 _ _ _ _ (ht.move ar.step nilM ar.imm)) ?_)
 rintro e_ dX ⟨cR, rfl, bd⟩
 refine ⟨_, rfl, fun dY bM => ?_⟩
 have au := ar.next_nil bd
 have dl := ar.frN bd
 refine qah [2] [] [(0, .v (.int .u8 x)), (3, .p 0 0), (12, .v (.bool (!cR)))] au bM fun dZ aY => ?_
 refine qae (qab ?_)
 refine qat aY (b := !cR) kz (fun bN => ?_) (fun bN => ?_)
 ·
  refine qam [(4, .v (.bool true))] au aY fun d5 bO => ?_
  refine wp_ret ?_
  refine qal ?_
  refine qaD bO au.cells (v := .bool true) kz ?_
  exact ⟨rfl, au.step⟩
 ·
  refine wp_skip ?_
  refine qab ?_
  refine qad [0, 1] kz ?_
  refine qaj (qai aY (f := 43) (vs := []) (d := 13) kz Tryz.call43 (qeg _) ?_)
  rintro e_ dp ⟨rfl, bf⟩
  refine ⟨_, rfl, fun d6 bP => ?_⟩
  have av := au.next_nil bf
  have dq := au.frN bf
  refine qah [1] [] [(0, .v (.int .u8 x)), (3, .p 0 0), (5, .v (.int .i64 3))] av bP fun d7 bQ => ?_
  refine qae (qab ?_)
  refine wp_seq ?_
  refine qam [(0, .v (.int .u8 x)), (3, .p 0 0), (5, .v (.int .i64 3)), (15, .v (.bool false))] av bQ fun d8 bg => ?_
  refine qan bg (b := false) kz rfl ?_
  refine wp_skip ?_
  refine qab ?_
  refine qad [0, 1, 2, 3, 4, 5, 6] kz ?_
  refine qaj (qai bg (f := 44) (vs := []) (d := 16) kz Tryz.call44 (qd8 _ (Imm F w dp [⟨dg, 0, [.int .i64 n1, .slice A6 s2.length c7, .bool b3, .slice A8 l4.length c9, .slice aO u5.length aP], true⟩] [])) ?_)
  rintro e_ d9 ⟨aQ, aR, rfl, bR, aZ⟩
  obtain ⟨bh, cS, cT⟩ := bR.move (Step.refl _ Nil) nilM (av.laid (G := F) aZ)
  refine ⟨_, rfl, fun ea bS => ?_⟩
  have ba := av.next_nil aZ
  have dr := av.frN aZ
  refine qah [1, 2] [3, 4, 5, 6] [(3, .p 0 0), (16, .v (.agg #[.slice aQ sDeleteACLsRequestF.length aR, .int .i64 qas])), (17, .v (.int .u8 x)), (18, .v (.int .i64 3))] ba bS fun eb bT => ?_
  refine qaj (qai bT (f := 16) (vs := [.int .u8 x, .int .i64 3]) (d := 19) kz Tryz.call16 (lVersion x 3 hx hx' (by decide) (by decide) _) ?_)
  rintro e_ ec ⟨rfl, bi⟩
  refine ⟨_, rfl, fun ee bU => ?_⟩
  have bV := ba.next_nil bi
  have ag := ba.frN bi
  refine qaj (qaK bV bU (d := 6) (cs := [.slice none 0 0, .int .i64 0]) kz fun ef eg eh dt du ah bW bX => ?_)
  refine qaj (qav bW bX (oi := 1) (cs := [.slice aQ sDeleteACLsRequestF.length aR, .int .i64 qas]) kz fun ei ai aw bY => ?_)
  refine qah [6] [] [(3, .p 0 0), (6, .p 1 0), (7, .v (.int .i64 (Int.tmod x (3 + 1))))] aw bY fun ej bZ => ?_
  refine qae (qab ?_)
  refine qad [0, 1, 2, 3, 4, 5, 6, 7, 8, 9, 10, 11] kz ?_
  refine qah [0, 1, 2, 3] [4, 5, 6, 7, 8, 9, 10, 11] [(3, .p 0 0), (6, .p 1 0), (7, .v (.int .i64 (Int.tmod x (3 + 1)))), (21, .v (.int .i64 (Int.tmod x (3 + 1)))), (22, .v (.agg #[.slice aQ sDeleteACLsRequestF.length aR, .int .i64 qas])), (23, .v (.int .i64 (Int.tmod x (3 + 1)))), (24, .v (.agg #[.int .i64 n1, .slice A6 s2.length c7, .bool b3, .slice A8 l4.length c9, .slice aO u5.length aP]))] aw bZ fun ek b8 => ?_
  refine qaj (qai b8 (f := 18) (vs := [.agg #[.slice aQ sDeleteACLsRequestF.length aR, .int .i64 qas], .int .i64 (Int.tmod x (3 + 1)), .agg #[.int .i64 n1, .slice A6 s2.length c7, .bool b3, .slice A8 l4.length c9, .slice aO u5.length aP]]) (d := 25) kz Tryz.call18 (sWrite _ _ sDeleteACLsRequestF qas (Int.tmod x (3 + 1)) _ (Tree.mk n1 s2 b3 l4 u5) _ _ ⟨bh, (cS.move ((ag.trans ah).trans ai).step immM ((ag.trans ah).trans ai).to'), (fun i_ x_ h_ => ((cT i_ x_ h_).move ((ag.trans ah).trans ai).step immM ((ag.trans ah).trans ai).to'))⟩ qcK (ht.move aw.step nilM aw.imm) (Nat.le_trans (Nat.le_add_right _ _) hroom1)) ?_)
  rintro e_ em ⟨cU, cV, rfl, cd, ce⟩
  refine ⟨_, rfl, fun eo cm => ?_⟩
  obtain ⟨ak, al⟩ := aw.frFresh ce (brow cU cV 5 (qcl 8 sDeleteACLsRequestF qas (Int.tmod x (3 + 1)) (Tree.mk n1 s2 b3 l4 u5))) (Nat.le_refl _) cd
  refine qaj (qai cm (f := 45) (vs := [.int .i64 (Int.tmod x (3 + 1)), .slice cU ((qcl 8 sDeleteACLsRequestF qas (Int.tmod x (3 + 1)) (Tree.mk n1 s2 b3 l4 u5)).length) cV]) (d := 26) kz Tryz.call45 (qdv (Int.tmod x (3 + 1)) _ (qcl 8 sDeleteACLsRequestF qas (Int.tmod x (3 + 1)) (Tree.mk n1 s2 b3 l4 u5)) hpure (qbY (ak.own 0 _ rfl) (by first | omega | (rw [qa4]; decide) | (simp only [be_length]; exact Nat.le_trans (qbl _) (by decide)) | (have := hroom; omega) | (have := hmade; omega) | (simp only [List.length_append, List.length_nil]; omega)) (F := fun _ _ => True) (fun _ _ _ => trivial)) hcan hkey (by first | omega | (have := hroom1; omega))) ?_)
  rintro e_ dv ⟨bj, cW, rfl, bk, bn, ax⟩
  have ay := bk.move (Step.refl _ Nil) nilM (fun b_ o_ h_ hb_ => ak.laid (G := F) ax b_ o_ (.inr (h_.resolve_left id)) hb_)
  obtain ⟨aD, aE, aF, aG, aH, aI, aJ, aK, aL, aM, aN, cX, cY, az, cq, cr, dw, dx⟩ := ay.open_
  rw [az] at ay
  have cu := cq.small
  have cw := cr.small
  rw [az]
  refine ⟨_, rfl, fun dy bo => ?_⟩
  have aS := ak.next_nil ax
  have am := ak.frN ax
  refine qah [6, 7, 8] [9, 10, 11] [(3, .p 0 0), (6, .p 1 0), (7, .v (.int .i64 (Int.tmod x (3 + 1)))), (27, .v (.agg #[.int .i64 aD, .slice aI aE.length aJ, .bool aF, .slice aK aG.length aL, .slice aM aH.length aN])), (28, .v (.bool true))] aS bo fun dz bp => ?_
  refine qaj (qaK aS bp (d := 8) (cs := [.int .i64 0, .slice none 0 0, .bool false, .slice none 0 0, .slice none 0 0]) kz fun dA dB dC cZ c5 ab bq bt => ?_)
  refine qaj (qav bq bt (oi := 2) (cs := [.int .i64 aD, .slice aI aE.length aJ, .bool aF, .slice aK aG.length aL, .slice aM aH.length aN]) kz fun dD ac aT bu => ?_)
  refine qah [11] [] [(3, .p 0 0), (6, .p 1 0), (7, .v (.int .i64 (Int.tmod x (3 + 1)))), (8, .p 2 0), (9, .v (.bool true))] aT bu fun dE bw => ?_
  refine qae (qab ?_)
  refine qaE 13 kz aT fun dF ae aU bx => ?_
  refine qaF [0, 1, 2, 3, 4, 5, 6, 8, 9] [(30, .v (.bool true)), (32, .v (.slice aQ sDeleteACLsRequestF.length aR)), (33, .v (.int .i64 (Int.tmod x (3 + 1)))), (34, .v (.agg #[.slice aQ sDeleteACLsRequestF.length aR, .int .i64 qas])), (35, .v (.int .i64 (Int.tmod x (3 + 1)))), (37, .v (.agg #[.int .i64 n1, .slice A6 s2.length c7, .bool b3, .slice A8 l4.length c9, .slice aO u5.length aP])), (38, .v (.agg #[.int .i64 aD, .slice aI aE.length aJ, .bool aF, .slice aK aG.length aL, .slice aM aH.length aN]))] 5 (qaa qaf) (fun _ h => h.cells) bx bw fun dG bz => ?_
  refine qay (i := 7) kz (qai bz (f := 20) (vs := [.agg #[.slice aQ sDeleteACLsRequestF.length aR, .int .i64 qas], .int .i64 (Int.tmod x (3 + 1))]) (d := 36) kz Tryz.call20 (qdT _ _ _ _) ?_)
  rintro e_ dH ⟨rfl, aV⟩
  refine ⟨_, rfl, fun dI bA => ?_⟩
  have ao := aU.next_nil aV
  have aa := aU.frN aV
  have bB := TT.ofW aa ao
  refine ⟨fun _ => bB, ?_⟩
  refine qay (i := 10) kz (qai bA (f := 21) (vs := [.agg #[.int .i64 aD, .slice aI aE.length aJ, .bool aF, .slice aK aG.length aL, .slice aM aH.length aN]]) (d := 39) kz Tryz.call21 (lGot _ _ _ _ _ (ay.move (((ab.trans ac).trans ae).trans aa).step immM (((ab.trans ac).trans ae).trans aa).to') (Nat.le_refl _)) ?_)
  rintro e_ dJ ⟨c6, rfl, bC, aA⟩
  have aB := bC.move (Step.refl _ Nil) nilM (ao.laid (G := F) aA)
  obtain ⟨cz, cA, cB, cC, cD, cE, cG, cH, cI, cJ, cK, da, db, aC, cL, cM, dK, dL⟩ := aB.open_
  rw [aC] at aB
  have cN := cL.small
  have cO := cM.small
  rw [aC]
  refine ⟨_, rfl, fun dM bD => ?_⟩
  have aj := ao.next_nil aA
  have af := ao.frN aA
  have bE := TT.ofW (aa.trans af) aj
  refine ⟨fun _ => bE, ?_⟩
  refine qay (i := 11) kz (qai bD (f := 19) (vs := [.slice aQ sDeleteACLsRequestF.length aR, .int .i64 (Int.tmod x (3 + 1)), .bool (decide ((Int.tmod x (3 + 1)) ≥ qas)), .agg #[.int .i64 n1, .slice A6 s2.length c7, .bool b3, .slice A8 l4.length c9, .slice aO u5.length aP], .agg #[.int .i64 cz, .slice cE cA.length cG, .bool cB, .slice cH cC.length cI, .slice cJ cD.length cK]]) (d := 40) kz Tryz.call19 (sToldP (Int.tmod x (3 + 1)) (decide ((Int.tmod x (3 + 1)) ≥ qas)) 8 _ _ sDeleteACLsRequestF _ (Tree.mk n1 s2 b3 l4 u5) _ (qbc bj) _ _ ⟨bh, (cS.move (((((((((ag.trans ah).trans ai).trans al).trans am).trans ab).trans ac).trans ae).trans aa).trans af).step immM (((((((((ag.trans ah).trans ai).trans al).trans am).trans ab).trans ac).trans ae).trans aa).trans af).to'), (fun i_ x_ h_ => ((cT i_ x_ h_).move (((((((((ag.trans ah).trans ai).trans al).trans am).trans ab).trans ac).trans ae).trans aa).trans af).step immM (((((((((ag.trans ah).trans ai).trans al).trans am).trans ab).trans ac).trans ae).trans aa).trans af).to'))⟩ (ht.move aj.step nilM aj.imm) aB qcL (hto bj bn)) ?_)
  rintro e_ dN ⟨rfl, aW⟩
  refine ⟨_, rfl, fun dO bF => ?_⟩
  have ap := aj.next_nil aW
  have bG := aj.frN aW
  have aX := TT.ofW ((aa.trans af).trans bG) ap
  refine ⟨fun _ => aX, ?_⟩
  refine qaF [12] [(41, .v (.bool true))] 1 (qaa qaf) (fun _ h => h.cells) aX bF fun dP bH => ?_
  refine qay (i := 13) kz (qa9 [4] ap.cells bH (env' := [(4, .v (.bool true))]) kz fun dQ bI => ?_)
  refine ⟨fun h => absurd rfl h, ?_⟩
  refine qaC kz ?_ _
  refine qab ?_
  refine wp_ret ?_
  refine qaD bI ap.cells (v := .bool true) kz ?_
  exact ⟨rfl, ap.step⟩
theorem qcZ (x : Int) (hx : 0 ≤ x ∧ x ≤ 255) (ct : List Value) (t : Tree) (w : World) (F : Nat → Nat → Prop) (ht : TreeR w F ct t) (hi : t.i64s) (hsz : t.size ≤ 8388608) : Calls Tryz.prog 11 #[.int .u8 x, .agg ct.toArray] w (qbW w (.bool true)) := by
 obtain ⟨g0, g1⟩ := ver_ok (m := 3 + 1) hx.1 hx.2 (by decide) (by decide)
 have hp : qao (IntKind.i16.wrap (Int.tmod x (3 + 1))) (fitT (Int.tmod x (3 + 1)) 8 sDeleteACLsRequestF t) = qcl 8 sDeleteACLsRequestF qas (Int.tmod x (3 + 1)) t := by rw [qgl g0 g1]; exact qc8 (Int.tmod x (3 + 1)) g0 g1 t
 have h1 := writeB_le 8 sDeleteACLsRequestF qas (Int.tmod x (3 + 1)) t
 have h2 : costL sDeleteACLsRequestF ≤ 131000 := by decide +kernel
 have h3 := Nat.mul_le_mul h2 hsz
 exact qdw x hx.1 (by omega) ct t w F ht (by omega) (qcR (Int.tmod x (3 + 1)) t) (ranged_fit _ _ _ _ ht.ranged) hp (fun D h => by rw [qgl g0 g1] at h; exact qdb (Int.tmod x (3 + 1)) g0 t _ (fun _ => rfl) rfl hi D h)
end Go.Proofs.YtgolpmkenmedoaaGreatDoor.ME