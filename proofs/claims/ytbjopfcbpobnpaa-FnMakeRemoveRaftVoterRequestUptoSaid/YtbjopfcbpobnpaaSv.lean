/- Contracts: printed by tools/sp.py. Own work. -/
import Derived.Test.YtbjopfcbpobnpaaSu
import Derived.Test.YtbjopfcbpobnpaaPy
namespace Go.Proofs.Ytbjopfcbpobnpaa.ME
open Go
set_option linter.unusedVariables false
set_option linter.unusedSimpArgs false
set_option maxRecDepth 20000

/-- whether a field at most d deep is as usual -/
def UsualOK (d : Nat) : Prop := ∀ (cf : List Value) (f : Fld) (ct : List Value) (t : Tree) (w : World) (F : Nat → Nat → Prop), FldR w F cf f → f.depth ≤ d → TreeR w F ct t →
    Calls Try.prog 108 #[.agg cf.toArray, .agg ct.toArray] w (Gives w (.bool (f.usual t)))

theorem sUsual_step {d : Nat} (hu : UsualOK d) (cf : List Value) (f : Fld) (ct : List Value) (t : Tree) (w : World) (F : Nat → Nat → Prop) (hf : FldR w F cf f) (hd : f.depth ≤ d + 1) (ht : TreeR w F ct t) :
    Calls Try.prog 108 #[.agg cf.toArray, .agg ct.toArray] w (Gives w (.bool (f.usual t))) := by
  obtain ⟨k1619, y1620, y1621, y1622, y1623, y1624, y1625, l1626, A1627, c1628, xs1629, rfl, rfl, h1631, h1632⟩ := hf.open_
  have hsm1633 := h1631.small
  obtain ⟨n1634, s1635, b1636, l1637, u1638, A1639, c1640, A1641, c1642, A1643, c1644, xs1645, rfl, rfl, h1647, h1648, h1649, h1650⟩ := ht.open_
  have hsm1652 := h1647.small
  have hsm1653 := h1648.small
  refine enter (n := 91) Try.func108 rfl Try.ntmps108 (by kernel_rfl) fun a hE => ?_
  have hW := WOk.start w Nil
  refine go_seq_region [0, 1, 2] (by kernel_rfl) ?_
  refine of_op (wpOp_box hW hE (d := 2) (cs := [.int .i64 k1619, .int .i64 y1620, .int .i64 y1621, .int .i64 y1622, .int .i64 y1623, .int .i64 y1624, .int .i64 y1625, .slice A1627 l1626.length c1628]) (by kernel_rfl) fun b1654 a1655 w1656 hb1657 hz1658 hF1659 hW1660 hE1661 => ?_)
  clear hE hW
  refine of_op (wpOp_box hW1660 hE1661 (d := 3) (cs := [.int .i64 n1634, .slice A1639 s1635.length c1640, .bool b1636, .slice A1641 l1637.length c1642, .slice A1643 u1638.length c1644]) (by kernel_rfl) fun b1662 a1663 w1664 hb1665 hz1666 hF1667 hW1668 hE1669 => ?_)
  clear hE1661 hW1660
  refine go_runs [2] [] [2, 3] hW1668 hE1669 (env' := [(2, .p 0 0), (3, .p 1 0)]) (by kernel_rfl) rfl fun a1670 hE1671 => ?_
  clear hE1669
  refine wpOps_nil ?_
  refine then_normal ?_
  refine wp_seq ?_
  refine go_seq_region [0, 1] (by kernel_rfl) ?_
  refine go_runs [0, 1] [] [2, 3, 10] hW1668 hE1671 (env' := [(2, .p 0 0), (3, .p 1 0), (10, .v (.int .i64 k1619))]) (by kernel_rfl) rfl fun a1672 hE1673 => ?_
  clear hE1671
  refine wpOps_nil ?_
  refine then_normal ?_
  refine wp_block ?_
  refine go_seq_region [0, 1] (by kernel_rfl) ?_
  refine go_runs [0, 1] [] [2, 3, 10, 11] hW1668 hE1673 (env' := [(2, .p 0 0), (3, .p 1 0), (10, .v (.int .i64 k1619)), (11, .v (.bool (k1619 == 0)))]) (by kernel_rfl) rfl fun a1674 hE1675 => ?_
  clear hE1673
  refine wpOps_nil ?_
  refine then_normal ?_
  refine cond_of hE1675 (b := k1619 == 0) (by kernel_rfl) (fun hc1676 => ?_) (fun hc1676 => ?_)
  ·
    have hf1677 : k1619 = 0 := by simpa using hc1676
    refine go_seq_region [0, 1, 2, 3, 4, 5, 6] (by kernel_rfl) ?_
    refine go_runs [0, 1, 2, 3, 4, 5, 6] [] [4] hW1668 hE1675 (env' := [(4, .v (.bool ((IntKind.i64.wrap (BitVec.ofInt 64 n1634 &&& BitVec.ofInt 64 1).toNat) == y1624)))]) (by kernel_rfl) rfl fun a1678 hE1679 => ?_
    clear hE1675
    refine wpOps_nil ?_
    refine then_normal ?_
    refine wp_ret ?_
    refine block_ret ?_
    refine then_ret ?_
    refine leave hE1679 hW1668.cells (v := .bool ((IntKind.i64.wrap (BitVec.ofInt 64 n1634 &&& BitVec.ofInt 64 1).toNat) == y1624)) (by kernel_rfl) ?_
    refine ⟨congrArg (fun b_ => Ending.returned (Value.bool b_)) ?_, hW1668.step⟩
    first
      | (rw [usual_0 (by assumption)]; simp only [and1]; done)
      | (rw [usual_7 (by assumption) (by assumption)]; exact zero16_true hz (by omega); done)
      | (rw [usual_7 (by assumption) (by assumption)]; exact zero16_false (k := k) (by omega) (by omega) (by assumption); done)
      | (rw [usual_89n (by assumption) (by assumption) (by omega) (by assumption)]; done)
      | (rw [usual_89 (by assumption) (by assumption) (by omega) (by assumption)]; done)
      | (rw [usual_11 (by assumption) (by assumption) (by assumption) (by assumption) (by assumption)]; done)
      | (rw [usual_10 (by assumption) (by assumption) (by assumption) (by assumption) (by assumption) (by assumption), huu, usuals_end (by omega), Bool.true_and]; done)
      | (rw [usual_else (by assumption) (by assumption) (by assumption) (by assumption) (by assumption) (by assumption)]; done)
  ·
    have hf1680 : k1619 ≠ 0 := by simpa using hc1676
    refine go_seq_region [0, 1] (by kernel_rfl) ?_
    refine go_runs [0, 1] [] [2, 3, 10, 19] hW1668 hE1675 (env' := [(2, .p 0 0), (3, .p 1 0), (10, .v (.int .i64 k1619)), (19, .v (.bool (k1619 == 7)))]) (by kernel_rfl) rfl fun a1681 hE1682 => ?_
    clear hE1675
    refine wpOps_nil ?_
    refine then_normal ?_
    refine cond_of hE1682 (b := k1619 == 7) (by kernel_rfl) (fun hc1683 => ?_) (fun hc1683 => ?_)
    ·
      have hf1684 : k1619 = 7 := by simpa using hc1683
      refine wp_seq ?_
      refine go_seq_region [0, 1, 2, 3] (by kernel_rfl) ?_
      refine go_runs [0, 1, 2, 3] [] [22, 23, 24] hW1668 hE1682 (env' := [(22, .v (.slice A1639 s1635.length c1640)), (23, .v (.int .i64 ((s1635.length : Nat) : Int))), (24, .v (.int .i64 0))]) (by kernel_rfl) rfl fun a1685 hE1686 => ?_
      clear hE1682
      refine wpOps_nil ?_
      refine then_normal ?_
      refine wp_block ?_
      have hE1695 := EnvOk.pick hE1686 (ks := [22, 23, 24]) (env' := [(22, .v (.slice A1639 s1635.length c1640)), (23, .v (.int .i64 ((s1635.length : Nat) : Int))), (24, .v (.int .i64 0))]) (by kernel_rfl)
      refine wp_loop_ghost (fun n_ a_ w_ => ∃ (k : Nat), n_ = s1635.length - k ∧ k ≤ s1635.length ∧ (∀ q, q < k → q < 16 → (((s1635.getD q 0).toNat : Nat) : Int) = 0) ∧ EnvOk 91 [⟨b1654, 0, [.int .i64 k1619, .int .i64 y1620, .int .i64 y1621, .int .i64 y1622, .int .i64 y1623, .int .i64 y1624, .int .i64 y1625, .slice A1627 l1626.length c1628], true⟩, ⟨b1662, 0, [.int .i64 n1634, .slice A1639 s1635.length c1640, .bool b1636, .slice A1641 l1637.length c1642, .slice A1643 u1638.length c1644], true⟩] [(22, .v (.slice A1639 s1635.length c1640)), (23, .v (.int .i64 ((s1635.length : Nat) : Int))), (24, .v (.int .i64 ((k : Nat) : Int)))] a_ ∧ WOk w Nil w_ [⟨b1654, 0, [.int .i64 k1619, .int .i64 y1620, .int .i64 y1621, .int .i64 y1622, .int .i64 y1623, .int .i64 y1624, .int .i64 y1625, .slice A1627 l1626.length c1628], true⟩, ⟨b1662, 0, [.int .i64 n1634, .slice A1639 s1635.length c1640, .bool b1636, .slice A1641 l1637.length c1642, .slice A1643 u1638.length c1644], true⟩] [] ∧ Fr w1664 [⟨b1654, 0, [.int .i64 k1619, .int .i64 y1620, .int .i64 y1621, .int .i64 y1622, .int .i64 y1623, .int .i64 y1624, .int .i64 y1625, .slice A1627 l1626.length c1628], true⟩, ⟨b1662, 0, [.int .i64 n1634, .slice A1639 s1635.length c1640, .bool b1636, .slice A1641 l1637.length c1642, .slice A1643 u1638.length c1644], true⟩] [] w_ [⟨b1654, 0, [.int .i64 k1619, .int .i64 y1620, .int .i64 y1621, .int .i64 y1622, .int .i64 y1623, .int .i64 y1624, .int .i64 y1625, .slice A1627 l1626.length c1628], true⟩, ⟨b1662, 0, [.int .i64 n1634, .slice A1639 s1635.length c1640, .bool b1636, .slice A1641 l1637.length c1642, .slice A1643 u1638.length c1644], true⟩] []) (s1635.length) ⟨0, by omega, by omega, fun q h_ => absurd h_ (Nat.not_lt_zero q), hE1695, hW1668, Fr.refl _ _ _⟩ ?_
      clear hE1695 hE1686 hW1668
      rintro n1687 a1688 w1689 ⟨k, hn1692, hk1693, hz, hE1690, hW1691, hF1694⟩
      refine go_seq_region [0] (by kernel_rfl) ?_
      refine go_runs [0] [] [22, 23, 24, 25] hW1691 hE1690 (env' := [(22, .v (.slice A1639 s1635.length c1640)), (23, .v (.int .i64 ((s1635.length : Nat) : Int))), (24, .v (.int .i64 ((k : Nat) : Int))), (25, .v (.bool (decide (((k : Nat) : Int) < ((s1635.length : Nat) : Int)))))]) (by kernel_rfl) rfl fun a1696 hE1697 => ?_
      clear hE1690
      refine wpOps_nil ?_
      refine then_normal ?_
      refine wp_seq ?_
      refine cond_of hE1697 (b := decide (((k : Nat) : Int) < ((s1635.length : Nat) : Int))) (by kernel_rfl) (fun hc1698 => ?_) (fun hc1698 => ?_)
      ·
        have hf1699 := of_decide_eq_true hc1698
        refine wp_skip ?_
        refine then_normal ?_
        refine wp_seq ?_
        refine wp_block ?_
        refine go_seq_region [0, 1, 2, 3, 4] (by kernel_rfl) ?_
        refine go_runs [0] [1, 2, 3, 4] [22, 23, 24, 26] hW1691 hE1697 (env' := [(22, .v (.slice A1639 s1635.length c1640)), (23, .v (.int .i64 ((s1635.length : Nat) : Int))), (24, .v (.int .i64 ((k : Nat) : Int))), (26, .v (.int .i64 ((k : Nat) : Int)))]) (by kernel_rfl) rfl fun a1700 hE1701 => ?_
        clear hE1697
        obtain ⟨b1702, o1703, hA1704, hl1705, hat1706⟩ := Slots.get h1647 (i := k) (by omega)
        refine of_op (wpOp_index hE1701 (t := 22) (A := A1639) (m := s1635.length) (q := ((k : Nat) : Int)) (d := 27) (by kernel_rfl) (e := 5) (size := 1) (bytes := 1) (by kernel_rfl) hA1704 rfl (by omega) fun a1707 hE1708 => ?_)
        clear hE1701
        refine of_op (wpOp_load hE1708 (t := 5) (b := b1702) (o := o1703 + k * 1) (d := 28) (by kernel_rfl) (cs := [.int .u8 ((s1635.getD k 0).toNat : Int)]) (v := .int .u8 ((s1635.getD k 0).toNat : Int)) (by kernel_rfl) (AtF.move hat1706 hW1691.step nilM keepF).at_ fun a1709 hE1710 => ?_)
        clear hE1708
        refine go_runs [3, 4] [] [5, 6, 22, 23, 24] hW1691 hE1710 (env' := [(5, .v (.int .i64 ((k : Nat) : Int))), (6, .v (.int .u8 ((s1635.getD k 0).toNat : Int))), (22, .v (.slice A1639 s1635.length c1640)), (23, .v (.int .i64 ((s1635.length : Nat) : Int))), (24, .v (.int .i64 ((k : Nat) : Int)))]) (by kernel_rfl) rfl fun a1711 hE1712 => ?_
        clear hE1710
        refine wpOps_nil ?_
        refine then_normal ?_
        refine go_seq_region [0, 1, 2, 3, 4, 5] (by kernel_rfl) ?_
        refine go_runs [0, 1, 2] [3, 4, 5] [6, 22, 23, 24, 31] hW1691 hE1712 (env' := [(6, .v (.int .u8 ((s1635.getD k 0).toNat : Int))), (22, .v (.slice A1639 s1635.length c1640)), (23, .v (.int .i64 ((s1635.length : Nat) : Int))), (24, .v (.int .i64 ((k : Nat) : Int))), (31, .v (.bool (decide (((k : Nat) : Int) < 16))))]) (by kernel_rfl) rfl fun a1713 hE1714 => ?_
        clear hE1712
        refine (Bool.eq_false_or_eq_true (decide (((k : Nat) : Int) < 16))).elim (fun hc1715 => ?_) (fun hc1715 => ?_)
        ·
          have hf1716 := of_decide_eq_true hc1715
          have hE1717 := hE1714.cast (env' := [(6, .v (.int .u8 ((s1635.getD k 0).toNat : Int))), (22, .v (.slice A1639 s1635.length c1640)), (23, .v (.int .i64 ((s1635.length : Nat) : Int))), (24, .v (.int .i64 ((k : Nat) : Int))), (31, .v (.bool true))]) (by rw [hc1715])
          clear hE1714
          refine go_runs [3, 4, 5] [] [22, 23, 24, 34] hW1691 hE1717 (env' := [(22, .v (.slice A1639 s1635.length c1640)), (23, .v (.int .i64 ((s1635.length : Nat) : Int))), (24, .v (.int .i64 ((k : Nat) : Int))), (34, .v (.bool (((s1635.getD k 0).toNat : Int) != 0)))]) (by kernel_rfl) rfl fun a1718 hE1719 => ?_
          clear hE1717
          refine wpOps_nil ?_
          refine then_normal ?_
          refine cond_of hE1719 (b := ((s1635.getD k 0).toNat : Int) != 0) (by kernel_rfl) (fun hc1720 => ?_) (fun hc1720 => ?_)
          ·
            have hf1721 : ((s1635.getD k 0).toNat : Int) ≠ 0 := by simpa using hc1720
            refine go_seq_region [0] (by kernel_rfl) ?_
            refine go_runs [0] [] [4] hW1691 hE1719 (env' := [(4, .v (.bool false))]) (by kernel_rfl) rfl fun a1722 hE1723 => ?_
            clear hE1719
            refine wpOps_nil ?_
            refine then_normal ?_
            refine wp_ret ?_
            refine block_ret ?_
            refine then_ret ?_
            refine then_ret ?_
            refine block_ret ?_
            refine then_ret ?_
            refine block_ret ?_
            refine then_ret ?_
            refine leave hE1723 hW1691.cells (v := .bool false) (by kernel_rfl) ?_
            refine ⟨congrArg (fun b_ => Ending.returned (Value.bool b_)) ?_, hW1691.step⟩
            first
              | (rw [usual_0 (by assumption)]; simp only [and1]; done)
              | (rw [usual_7 (by assumption) (by assumption)]; exact zero16_true hz (by omega); done)
              | (rw [usual_7 (by assumption) (by assumption)]; exact zero16_false (k := k) (by omega) (by omega) (by assumption); done)
              | (rw [usual_89n (by assumption) (by assumption) (by omega) (by assumption)]; done)
              | (rw [usual_89 (by assumption) (by assumption) (by omega) (by assumption)]; done)
              | (rw [usual_11 (by assumption) (by assumption) (by assumption) (by assumption) (by assumption)]; done)
              | (rw [usual_10 (by assumption) (by assumption) (by assumption) (by assumption) (by assumption) (by assumption), huu, usuals_end (by omega), Bool.true_and]; done)
              | (rw [usual_else (by assumption) (by assumption) (by assumption) (by assumption) (by assumption) (by assumption)]; done)
          ·
            have hf1724 : ((s1635.getD k 0).toNat : Int) = 0 := by simpa using hc1720
            refine wp_skip ?_
            refine block_normal ?_
            refine then_normal ?_
            refine go_region [0, 1] (by kernel_rfl) ?_
            refine go_runs [0, 1] [] [22, 23, 24] hW1691 hE1719 (env' := [(22, .v (.slice A1639 s1635.length c1640)), (23, .v (.int .i64 ((s1635.length : Nat) : Int))), (24, .v (.int .i64 (IntKind.i64.wrap (((k : Nat) : Int) + 1))))]) (by kernel_rfl) rfl fun a1725 hE1726 => ?_
            clear hE1719
            refine wpOps_nil ?_
            refine then_normal ?_
            have hE1727 := EnvOk.pick hE1726 (ks := [22, 23, 24]) (env' := [(22, .v (.slice A1639 s1635.length c1640)), (23, .v (.int .i64 ((s1635.length : Nat) : Int))), (24, .v (.int .i64 (IntKind.i64.wrap (((k : Nat) : Int) + 1))))]) (by kernel_rfl)
            have he1728 : IntKind.i64.wrap (((k : Nat) : Int) + 1) = ((k + 1 : Nat) : Int) := wrap_succ (by omega)
            rw [he1728] at hE1727
            exact ⟨s1635.length - (k + 1), by omega, k + 1, rfl, by omega, fun q hq h16 => by rcases Nat.lt_succ_iff_lt_or_eq.1 hq with h_ | h_; exact hz q h_ h16; rw [h_] at h16 ⊢; first | assumption | omega, hE1727, hW1691, hF1694⟩
        ·
          have hf1729 := of_decide_eq_false hc1715
          have hE1730 := hE1714.cast (env' := [(6, .v (.int .u8 ((s1635.getD k 0).toNat : Int))), (22, .v (.slice A1639 s1635.length c1640)), (23, .v (.int .i64 ((s1635.length : Nat) : Int))), (24, .v (.int .i64 ((k : Nat) : Int))), (31, .v (.bool false))]) (by rw [hc1715])
          clear hE1714
          refine go_runs [3, 4, 5] [] [22, 23, 24, 34] hW1691 hE1730 (env' := [(22, .v (.slice A1639 s1635.length c1640)), (23, .v (.int .i64 ((s1635.length : Nat) : Int))), (24, .v (.int .i64 ((k : Nat) : Int))), (34, .v (.bool false))]) (by kernel_rfl) rfl fun a1731 hE1732 => ?_
          clear hE1730
          refine wpOps_nil ?_
          refine then_normal ?_
          refine cond_false hE1732 (b := false) (by kernel_rfl) rfl ?_
          refine wp_skip ?_
          refine block_normal ?_
          refine then_normal ?_
          refine go_region [0, 1] (by kernel_rfl) ?_
          refine go_runs [0, 1] [] [22, 23, 24] hW1691 hE1732 (env' := [(22, .v (.slice A1639 s1635.length c1640)), (23, .v (.int .i64 ((s1635.length : Nat) : Int))), (24, .v (.int .i64 (IntKind.i64.wrap (((k : Nat) : Int) + 1))))]) (by kernel_rfl) rfl fun a1733 hE1734 => ?_
          clear hE1732
          refine wpOps_nil ?_
          refine then_normal ?_
          have hE1735 := EnvOk.pick hE1734 (ks := [22, 23, 24]) (env' := [(22, .v (.slice A1639 s1635.length c1640)), (23, .v (.int .i64 ((s1635.length : Nat) : Int))), (24, .v (.int .i64 (IntKind.i64.wrap (((k : Nat) : Int) + 1))))]) (by kernel_rfl)
          have he1736 : IntKind.i64.wrap (((k : Nat) : Int) + 1) = ((k + 1 : Nat) : Int) := wrap_succ (by omega)
          rw [he1736] at hE1735
          exact ⟨s1635.length - (k + 1), by omega, k + 1, rfl, by omega, fun q hq h16 => by rcases Nat.lt_succ_iff_lt_or_eq.1 hq with h_ | h_; exact hz q h_ h16; rw [h_] at h16 ⊢; first | assumption | omega, hE1735, hW1691, hF1694⟩
      ·
        have hf1737 := of_decide_eq_false hc1698
        refine wp_exit ?_
        refine then_exit ?_
        refine then_exit ?_
        refine block_exit ?_
        refine then_normal ?_
        refine go_seq_region [0] (by kernel_rfl) ?_
        refine go_runs [0] [] [4] hW1691 hE1697 (env' := [(4, .v (.bool true))]) (by kernel_rfl) rfl fun a1738 hE1739 => ?_
        clear hE1697
        refine wpOps_nil ?_
        refine then_normal ?_
        refine wp_ret ?_
        refine block_ret ?_
        refine then_ret ?_
        refine leave hE1739 hW1691.cells (v := .bool true) (by kernel_rfl) ?_
        refine ⟨congrArg (fun b_ => Ending.returned (Value.bool b_)) ?_, hW1691.step⟩
        first
          | (rw [usual_0 (by assumption)]; simp only [and1]; done)
          | (rw [usual_7 (by assumption) (by assumption)]; exact zero16_true hz (by omega); done)
          | (rw [usual_7 (by assumption) (by assumption)]; exact zero16_false (k := k) (by omega) (by omega) (by assumption); done)
          | (rw [usual_89n (by assumption) (by assumption) (by omega) (by assumption)]; done)
          | (rw [usual_89 (by assumption) (by assumption) (by omega) (by assumption)]; done)
          | (rw [usual_11 (by assumption) (by assumption) (by assumption) (by assumption) (by assumption)]; done)
          | (rw [usual_10 (by assumption) (by assumption) (by assumption) (by assumption) (by assumption) (by assumption), huu, usuals_end (by omega), Bool.true_and]; done)
          | (rw [usual_else (by assumption) (by assumption) (by assumption) (by assumption) (by assumption) (by assumption)]; done)
    ·
      have hf1740 : k1619 ≠ 7 := by simpa using hc1683
      refine wp_seq ?_
      refine go_seq_region [0, 1] (by kernel_rfl) ?_
      refine go_runs [0, 1] [] [2, 3, 10, 36] hW1668 hE1682 (env' := [(2, .p 0 0), (3, .p 1 0), (10, .v (.int .i64 k1619)), (36, .v (.bool (k1619 == 8)))]) (by kernel_rfl) rfl fun a1741 hE1742 => ?_
      clear hE1682
      refine wpOps_nil ?_
      refine then_normal ?_
      refine cond_of hE1742 (b := k1619 == 8) (by kernel_rfl) (fun hc1743 => ?_) (fun hc1743 => ?_)
      ·
        have hf1744 : k1619 = 8 := by simpa using hc1743
        refine wp_skip ?_
        refine then_normal ?_
        refine cond_true hE1742 (b := k1619 == 8) (by kernel_rfl) (hc1743) ?_
        refine wp_seq ?_
        refine go_seq_region [0, 1, 2] (by kernel_rfl) ?_
        refine go_runs [0, 1, 2] [] [3, 41] hW1668 hE1742 (env' := [(3, .p 1 0), (41, .v (.bool (decide (y1622 ≥ 0))))]) (by kernel_rfl) rfl fun a1745 hE1746 => ?_
        clear hE1742
        refine wpOps_nil ?_
        refine then_normal ?_
        refine cond_of hE1746 (b := decide (y1622 ≥ 0)) (by kernel_rfl) (fun hc1747 => ?_) (fun hc1747 => ?_)
        ·
          have hf1748 := of_decide_eq_true hc1747
          refine go_seq_region [0, 1, 2] (by kernel_rfl) ?_
          refine go_runs [0, 1, 2] [] [4] hW1668 hE1746 (env' := [(4, .v (.bool b1636))]) (by kernel_rfl) rfl fun a1749 hE1750 => ?_
          clear hE1746
          refine wpOps_nil ?_
          refine then_normal ?_
          refine wp_ret ?_
          refine then_ret ?_
          refine block_ret ?_
          refine then_ret ?_
          refine leave hE1750 hW1668.cells (v := .bool b1636) (by kernel_rfl) ?_
          refine ⟨congrArg (fun b_ => Ending.returned (Value.bool b_)) ?_, hW1668.step⟩
          first
            | (rw [usual_0 (by assumption)]; simp only [and1]; done)
            | (rw [usual_7 (by assumption) (by assumption)]; exact zero16_true hz (by omega); done)
            | (rw [usual_7 (by assumption) (by assumption)]; exact zero16_false (k := k) (by omega) (by omega) (by assumption); done)
            | (rw [usual_89n (by assumption) (by assumption) (by omega) (by assumption)]; done)
            | (rw [usual_89 (by assumption) (by assumption) (by omega) (by assumption)]; done)
            | (rw [usual_11 (by assumption) (by assumption) (by assumption) (by assumption) (by assumption)]; done)
            | (rw [usual_10 (by assumption) (by assumption) (by assumption) (by assumption) (by assumption) (by assumption), huu, usuals_end (by omega), Bool.true_and]; done)
            | (rw [usual_else (by assumption) (by assumption) (by assumption) (by assumption) (by assumption) (by assumption)]; done)
        ·
          have hf1751 := of_decide_eq_false hc1747
          refine wp_skip ?_
          refine then_normal ?_
          refine go_seq_region [0, 1, 2, 3, 4] (by kernel_rfl) ?_
          refine go_runs [0, 1, 2, 3, 4] [] [4] hW1668 hE1746 (env' := [(4, .v (.bool (((s1635.length : Nat) : Int) == 0)))]) (by kernel_rfl) rfl fun a1752 hE1753 => ?_
          clear hE1746
          refine wpOps_nil ?_
          refine then_normal ?_
          refine wp_ret ?_
          refine block_ret ?_
          refine then_ret ?_
          refine leave hE1753 hW1668.cells (v := .bool (((s1635.length : Nat) : Int) == 0)) (by kernel_rfl) ?_
          refine ⟨congrArg (fun b_ => Ending.returned (Value.bool b_)) ?_, hW1668.step⟩
          first
            | (rw [usual_0 (by assumption)]; simp only [and1]; done)
            | (rw [usual_7 (by assumption) (by assumption)]; exact zero16_true hz (by omega); done)
            | (rw [usual_7 (by assumption) (by assumption)]; exact zero16_false (k := k) (by omega) (by omega) (by assumption); done)
            | (rw [usual_89n (by assumption) (by assumption) (by omega) (by assumption)]; done)
            | (rw [usual_89 (by assumption) (by assumption) (by omega) (by assumption)]; done)
            | (rw [usual_11 (by assumption) (by assumption) (by assumption) (by assumption) (by assumption)]; done)
            | (rw [usual_10 (by assumption) (by assumption) (by assumption) (by assumption) (by assumption) (by assumption), huu, usuals_end (by omega), Bool.true_and]; done)
            | (rw [usual_else (by assumption) (by assumption) (by assumption) (by assumption) (by assumption) (by assumption)]; done)
      ·
        have hf1754 : k1619 ≠ 8 := by simpa using hc1743
        refine go_region [0, 1] (by kernel_rfl) ?_
        refine go_runs [0, 1] [] [2, 3, 10, 36] hW1668 hE1742 (env' := [(2, .p 0 0), (3, .p 1 0), (10, .v (.int .i64 k1619)), (36, .v (.bool (k1619 == 9)))]) (by kernel_rfl) rfl fun a1755 hE1756 => ?_
        clear hE1742
        refine wpOps_nil ?_
        refine then_normal ?_
        refine cond_of hE1756 (b := k1619 == 9) (by kernel_rfl) (fun hc1757 => ?_) (fun hc1757 => ?_)
        ·
          have hf1758 : k1619 = 9 := by simpa using hc1757
          refine wp_seq ?_
          refine go_seq_region [0, 1, 2] (by kernel_rfl) ?_
          refine go_runs [0, 1, 2] [] [3, 41] hW1668 hE1756 (env' := [(3, .p 1 0), (41, .v (.bool (decide (y1622 ≥ 0))))]) (by kernel_rfl) rfl fun a1759 hE1760 => ?_
          clear hE1756
          refine wpOps_nil ?_
          refine then_normal ?_
          refine cond_of hE1760 (b := decide (y1622 ≥ 0)) (by kernel_rfl) (fun hc1761 => ?_) (fun hc1761 => ?_)
          ·
            have hf1762 := of_decide_eq_true hc1761
            refine go_seq_region [0, 1, 2] (by kernel_rfl) ?_
            refine go_runs [0, 1, 2] [] [4] hW1668 hE1760 (env' := [(4, .v (.bool b1636))]) (by kernel_rfl) rfl fun a1763 hE1764 => ?_
            clear hE1760
            refine wpOps_nil ?_
            refine then_normal ?_
            refine wp_ret ?_
            refine then_ret ?_
            refine block_ret ?_
            refine then_ret ?_
            refine leave hE1764 hW1668.cells (v := .bool b1636) (by kernel_rfl) ?_
            refine ⟨congrArg (fun b_ => Ending.returned (Value.bool b_)) ?_, hW1668.step⟩
            first
              | (rw [usual_0 (by assumption)]; simp only [and1]; done)
              | (rw [usual_7 (by assumption) (by assumption)]; exact zero16_true hz (by omega); done)
              | (rw [usual_7 (by assumption) (by assumption)]; exact zero16_false (k := k) (by omega) (by omega) (by assumption); done)
              | (rw [usual_89n (by assumption) (by assumption) (by omega) (by assumption)]; done)
              | (rw [usual_89 (by assumption) (by assumption) (by omega) (by assumption)]; done)
              | (rw [usual_11 (by assumption) (by assumption) (by assumption) (by assumption) (by assumption)]; done)
              | (rw [usual_10 (by assumption) (by assumption) (by assumption) (by assumption) (by assumption) (by assumption), huu, usuals_end (by omega), Bool.true_and]; done)
              | (rw [usual_else (by assumption) (by assumption) (by assumption) (by assumption) (by assumption) (by assumption)]; done)
          ·
            have hf1765 := of_decide_eq_false hc1761
            refine wp_skip ?_
            refine then_normal ?_
            refine go_seq_region [0, 1, 2, 3, 4] (by kernel_rfl) ?_
            refine go_runs [0, 1, 2, 3, 4] [] [4] hW1668 hE1760 (env' := [(4, .v (.bool (((s1635.length : Nat) : Int) == 0)))]) (by kernel_rfl) rfl fun a1766 hE1767 => ?_
            clear hE1760
            refine wpOps_nil ?_
            refine then_normal ?_
            refine wp_ret ?_
            refine block_ret ?_
            refine then_ret ?_
            refine leave hE1767 hW1668.cells (v := .bool (((s1635.length : Nat) : Int) == 0)) (by kernel_rfl) ?_
            refine ⟨congrArg (fun b_ => Ending.returned (Value.bool b_)) ?_, hW1668.step⟩
            first
              | (rw [usual_0 (by assumption)]; simp only [and1]; done)
              | (rw [usual_7 (by assumption) (by assumption)]; exact zero16_true hz (by omega); done)
              | (rw [usual_7 (by assumption) (by assumption)]; exact zero16_false (k := k) (by omega) (by omega) (by assumption); done)
              | (rw [usual_89n (by assumption) (by assumption) (by omega) (by assumption)]; done)
              | (rw [usual_89 (by assumption) (by assumption) (by omega) (by assumption)]; done)
              | (rw [usual_11 (by assumption) (by assumption) (by assumption) (by assumption) (by assumption)]; done)
              | (rw [usual_10 (by assumption) (by assumption) (by assumption) (by assumption) (by assumption) (by assumption), huu, usuals_end (by omega), Bool.true_and]; done)
              | (rw [usual_else (by assumption) (by assumption) (by assumption) (by assumption) (by assumption) (by assumption)]; done)
        ·
          have hf1768 : k1619 ≠ 9 := by simpa using hc1757
          refine go_seq_region [0, 1] (by kernel_rfl) ?_
          refine go_runs [0, 1] [] [2, 3, 10, 48] hW1668 hE1756 (env' := [(2, .p 0 0), (3, .p 1 0), (10, .v (.int .i64 k1619)), (48, .v (.bool (k1619 == 11)))]) (by kernel_rfl) rfl fun a1769 hE1770 => ?_
          clear hE1756
          refine wpOps_nil ?_
          refine then_normal ?_
          refine cond_of hE1770 (b := k1619 == 11) (by kernel_rfl) (fun hc1771 => ?_) (fun hc1771 => ?_)
          ·
            have hf1772 : k1619 = 11 := by simpa using hc1771
            refine go_seq_region [0, 1, 2, 3, 4] (by kernel_rfl) ?_
            refine go_runs [0, 1, 2, 3, 4] [] [4] hW1668 hE1770 (env' := [(4, .v (.bool (((l1637.length : Nat) : Int) == 0)))]) (by kernel_rfl) rfl fun a1773 hE1774 => ?_
            clear hE1770
            refine wpOps_nil ?_
            refine then_normal ?_
            refine wp_ret ?_
            refine block_ret ?_
            refine then_ret ?_
            refine leave hE1774 hW1668.cells (v := .bool (((l1637.length : Nat) : Int) == 0)) (by kernel_rfl) ?_
            refine ⟨congrArg (fun b_ => Ending.returned (Value.bool b_)) ?_, hW1668.step⟩
            first
              | (rw [usual_0 (by assumption)]; simp only [and1]; done)
              | (rw [usual_7 (by assumption) (by assumption)]; exact zero16_true hz (by omega); done)
              | (rw [usual_7 (by assumption) (by assumption)]; exact zero16_false (k := k) (by omega) (by omega) (by assumption); done)
              | (rw [usual_89n (by assumption) (by assumption) (by omega) (by assumption)]; done)
              | (rw [usual_89 (by assumption) (by assumption) (by omega) (by assumption)]; done)
              | (rw [usual_11 (by assumption) (by assumption) (by assumption) (by assumption) (by assumption)]; done)
              | (rw [usual_10 (by assumption) (by assumption) (by assumption) (by assumption) (by assumption) (by assumption), huu, usuals_end (by omega), Bool.true_and]; done)
              | (rw [usual_else (by assumption) (by assumption) (by assumption) (by assumption) (by assumption) (by assumption)]; done)
          ·
            have hf1775 : k1619 ≠ 11 := by simpa using hc1771
            refine go_seq_region [0, 1] (by kernel_rfl) ?_
            refine go_runs [0, 1] [] [2, 3, 54] hW1668 hE1770 (env' := [(2, .p 0 0), (3, .p 1 0), (54, .v (.bool (k1619 == 10)))]) (by kernel_rfl) rfl fun a1776 hE1777 => ?_
            clear hE1770
            refine wpOps_nil ?_
            refine then_normal ?_
            refine cond_of hE1777 (b := k1619 == 10) (by kernel_rfl) (fun hc1778 => ?_) (fun hc1778 => ?_)
            ·
              have hf1779 : k1619 = 10 := by simpa using hc1778
              refine wp_seq ?_
              refine go_seq_region [0, 1, 2, 3] (by kernel_rfl) ?_
              refine go_runs [0, 1, 2, 3] [] [2, 3, 57, 58, 59] hW1668 hE1777 (env' := [(2, .p 0 0), (3, .p 1 0), (57, .v (.slice A1627 l1626.length c1628)), (58, .v (.int .i64 ((l1626.length : Nat) : Int))), (59, .v (.int .i64 0))]) (by kernel_rfl) rfl fun a1780 hE1781 => ?_
              clear hE1777
              refine wpOps_nil ?_
              refine then_normal ?_
              refine wp_block ?_
              have hE1790 := EnvOk.pick hE1781 (ks := [2, 3, 57, 58, 59]) (env' := [(2, .p 0 0), (3, .p 1 0), (57, .v (.slice A1627 l1626.length c1628)), (58, .v (.int .i64 ((l1626.length : Nat) : Int))), (59, .v (.int .i64 0))]) (by kernel_rfl)
              refine wp_loop_ghost (fun n_ a_ w_ => ∃ (k : Nat), n_ = l1626.length - k ∧ k ≤ l1626.length ∧ (usuals l1626 (Tree.mk n1634 s1635 b1636 l1637 u1638) 0 = usuals (l1626.drop k) (Tree.mk n1634 s1635 b1636 l1637 u1638) k) ∧ EnvOk 91 [⟨b1654, 0, [.int .i64 k1619, .int .i64 y1620, .int .i64 y1621, .int .i64 y1622, .int .i64 y1623, .int .i64 y1624, .int .i64 y1625, .slice A1627 l1626.length c1628], true⟩, ⟨b1662, 0, [.int .i64 n1634, .slice A1639 s1635.length c1640, .bool b1636, .slice A1641 l1637.length c1642, .slice A1643 u1638.length c1644], true⟩] [(2, .p 0 0), (3, .p 1 0), (57, .v (.slice A1627 l1626.length c1628)), (58, .v (.int .i64 ((l1626.length : Nat) : Int))), (59, .v (.int .i64 ((k : Nat) : Int)))] a_ ∧ WOk w Nil w_ [⟨b1654, 0, [.int .i64 k1619, .int .i64 y1620, .int .i64 y1621, .int .i64 y1622, .int .i64 y1623, .int .i64 y1624, .int .i64 y1625, .slice A1627 l1626.length c1628], true⟩, ⟨b1662, 0, [.int .i64 n1634, .slice A1639 s1635.length c1640, .bool b1636, .slice A1641 l1637.length c1642, .slice A1643 u1638.length c1644], true⟩] [] ∧ Fr w1664 [⟨b1654, 0, [.int .i64 k1619, .int .i64 y1620, .int .i64 y1621, .int .i64 y1622, .int .i64 y1623, .int .i64 y1624, .int .i64 y1625, .slice A1627 l1626.length c1628], true⟩, ⟨b1662, 0, [.int .i64 n1634, .slice A1639 s1635.length c1640, .bool b1636, .slice A1641 l1637.length c1642, .slice A1643 u1638.length c1644], true⟩] [] w_ [⟨b1654, 0, [.int .i64 k1619, .int .i64 y1620, .int .i64 y1621, .int .i64 y1622, .int .i64 y1623, .int .i64 y1624, .int .i64 y1625, .slice A1627 l1626.length c1628], true⟩, ⟨b1662, 0, [.int .i64 n1634, .slice A1639 s1635.length c1640, .bool b1636, .slice A1641 l1637.length c1642, .slice A1643 u1638.length c1644], true⟩] []) (l1626.length) ⟨0, by omega, by omega, rfl, hE1790, hW1668, Fr.refl _ _ _⟩ ?_
              clear hE1790 hE1781 hW1668
              rintro n1782 a1783 w1784 ⟨k, hn1787, hk1788, huu, hE1785, hW1786, hF1789⟩
              refine go_seq_region [0] (by kernel_rfl) ?_
              refine go_runs [0] [] [2, 3, 57, 58, 59, 60] hW1786 hE1785 (env' := [(2, .p 0 0), (3, .p 1 0), (57, .v (.slice A1627 l1626.length c1628)), (58, .v (.int .i64 ((l1626.length : Nat) : Int))), (59, .v (.int .i64 ((k : Nat) : Int))), (60, .v (.bool (decide (((k : Nat) : Int) < ((l1626.length : Nat) : Int)))))]) (by kernel_rfl) rfl fun a1791 hE1792 => ?_
              clear hE1785
              refine wpOps_nil ?_
              refine then_normal ?_
              refine wp_seq ?_
              refine cond_of hE1792 (b := decide (((k : Nat) : Int) < ((l1626.length : Nat) : Int))) (by kernel_rfl) (fun hc1793 => ?_) (fun hc1793 => ?_)
              ·
                have hf1794 := of_decide_eq_true hc1793
                refine wp_skip ?_
                refine then_normal ?_
                refine wp_seq ?_
                refine wp_block ?_
                refine go_seq_region [0, 1, 2, 3, 4, 5] (by kernel_rfl) ?_
                refine go_runs [0] [1, 2, 3, 4, 5] [2, 3, 57, 58, 59, 61] hW1786 hE1792 (env' := [(2, .p 0 0), (3, .p 1 0), (57, .v (.slice A1627 l1626.length c1628)), (58, .v (.int .i64 ((l1626.length : Nat) : Int))), (59, .v (.int .i64 ((k : Nat) : Int))), (61, .v (.int .i64 ((k : Nat) : Int)))]) (by kernel_rfl) rfl fun a1795 hE1796 => ?_
                clear hE1792
                obtain ⟨b1797, o1798, hA1799, hl1800, hat1801⟩ := Slots.get h1631 (i := k) (by omega)
                obtain ⟨x1802, he1803⟩ : ∃ x, l1626[k]? = some x := ⟨_, List.getElem?_eq_getElem (by omega)⟩
                have hr1804 := h1632 k x1802 he1803
                obtain ⟨k1805, y1806, y1807, y1808, y1809, y1810, y1811, l1812, A1813, c1814, xs1815, rfl, hcs1816, h1817, h1818⟩ := hr1804.open_
                rw [hcs1816] at hr1804
                have hsm1819 := h1817.small
                rw [hcs1816] at hat1801
                refine of_op (wpOp_index hE1796 (t := 29) (A := A1627) (m := l1626.length) (q := ((k : Nat) : Int)) (d := 62) (by kernel_rfl) (e := 50) (size := 8) (bytes := 80) (by kernel_rfl) hA1799 rfl (by omega) fun a1820 hE1821 => ?_)
                clear hE1796
                refine of_op (wpOp_load hE1821 (t := 50) (b := b1797) (o := o1798 + k * 8) (d := 63) (by kernel_rfl) (cs := [.int .i64 k1805, .int .i64 y1806, .int .i64 y1807, .int .i64 y1808, .int .i64 y1809, .int .i64 y1810, .int .i64 y1811, .slice A1813 l1812.length c1814]) (v := .agg #[.int .i64 k1805, .int .i64 y1806, .int .i64 y1807, .int .i64 y1808, .int .i64 y1809, .int .i64 y1810, .int .i64 y1811, .slice A1813 l1812.length c1814]) (by kernel_rfl) (AtF.move hat1801 hW1786.step nilM keepF).at_ fun a1822 hE1823 => ?_)
                clear hE1821
                refine of_op (wpOp_alloc hW1786 hE1823 (d := 8) (cs := [.int .i64 0, .int .i64 0, .int .i64 0, .int .i64 0, .int .i64 0, .int .i64 0, .int .i64 0, .slice none 0 0]) (by kernel_rfl) fun b1824 a1825 w1826 hb1827 hz1828 hF1829 hW1830 hE1831 => ?_)
                clear hE1823 hW1786
                refine go_runs [4] [5] [2, 3, 7, 8, 57, 58, 59, 63] hW1830 hE1831 (env' := [(2, .p 0 0), (3, .p 1 0), (7, .v (.int .i64 ((k : Nat) : Int))), (8, .p 2 0), (57, .v (.slice A1627 l1626.length c1628)), (58, .v (.int .i64 ((l1626.length : Nat) : Int))), (59, .v (.int .i64 ((k : Nat) : Int))), (63, .v (.agg #[.int .i64 k1805, .int .i64 y1806, .int .i64 y1807, .int .i64 y1808, .int .i64 y1809, .int .i64 y1810, .int .i64 y1811, .slice A1813 l1812.length c1814]))]) (by kernel_rfl) rfl fun a1832 hE1833 => ?_
                clear hE1831
                refine of_op (wpOp_store hW1830 hE1833 (oi := 2) (cs := [.int .i64 k1805, .int .i64 y1806, .int .i64 y1807, .int .i64 y1808, .int .i64 y1809, .int .i64 y1810, .int .i64 y1811, .slice A1813 l1812.length c1814]) (by kernel_rfl) fun w1834 hF1835 hW1836 hE1837 => ?_)
                clear hE1833 hW1830
                refine wpOps_nil ?_
                refine then_normal ?_
                refine go_seq_drawK 6 (by kernel_rfl) hW1836 fun w1838 hF1839 hW1840 hT1841 => ?_
                clear hW1836
                refine go_runsD [0, 1, 2] [2, 3, 57, 58, 59, 64, 65, 66] 3 (by kernel_rfl) (panicFree_then (panicFree_block (panicFree_then (panicFree_then (panicFree_block (panicFree_then (panicFree_block (panicFree_then panicFree_body)))))))) (fun _ h => h.cells) hT1841 hE1837 (by kernel_rfl) (env' := [(2, .p 0 0), (3, .p 1 0), (57, .v (.slice A1627 l1626.length c1628)), (58, .v (.int .i64 ((l1626.length : Nat) : Int))), (59, .v (.int .i64 ((k : Nat) : Int))), (64, .v (.agg #[.int .i64 k1805, .int .i64 y1806, .int .i64 y1807, .int .i64 y1808, .int .i64 y1809, .int .i64 y1810, .int .i64 y1811, .slice A1813 l1812.length c1814])), (65, .v (.agg #[.int .i64 n1634, .slice A1639 s1635.length c1640, .bool b1636, .slice A1641 l1637.length c1642, .slice A1643 u1638.length c1644])), (66, .v (.int .i64 ((k : Nat) : Int)))]) (by kernel_rfl) rfl fun a1842 hE1843 => ?_
                clear hE1837
                refine anyC_op (i := 3) (by kernel_rfl) (wpOp_call hE1843 (f := 48) (vs := [.agg #[.int .i64 n1634, .slice A1639 s1635.length c1640, .bool b1636, .slice A1641 l1637.length c1642, .slice A1643 u1638.length c1644], .int .i64 ((k : Nat) : Int)]) (d := 67) (by kernel_rfl) Try.call48 (sAt _ _ k _ _ (ht.move hW1840.step nilM hW1840.imm)) ?_)
                rintro e_ w1847 ⟨cs1846, rfl, hr1845, hs1844⟩
                have hr1848 := hr1845.move hs1844 nilM (fun b o h_ hb_ => hW1840.laid (G := F) hs1844 b o (.inl h_) (Nat.lt_of_lt_of_le hb_ hs1844.size))
                obtain ⟨n1849, s1850, b1851, l1852, u1853, A1854, c1855, A1856, c1857, A1858, c1859, xs1860, ht1866, hcs1861, h1862, h1863, h1864, h1865⟩ := hr1848.open_
                rw [hcs1861] at hr1848
                have hsm1867 := h1862.small
                have hsm1868 := h1863.small
                rw [hcs1861]
                refine ⟨_, rfl, fun a1869 hE1870 => ?_⟩
                have hW1871 := hW1840.next_nil hs1844
                have hF1872 := Fr.nil [⟨b1654, 0, [.int .i64 k1619, .int .i64 y1620, .int .i64 y1621, .int .i64 y1622, .int .i64 y1623, .int .i64 y1624, .int .i64 y1625, .slice A1627 l1626.length c1628], true⟩, ⟨b1662, 0, [.int .i64 n1634, .slice A1639 s1635.length c1640, .bool b1636, .slice A1641 l1637.length c1642, .slice A1643 u1638.length c1644], true⟩, ⟨b1824, 0, [.int .i64 k1805, .int .i64 y1806, .int .i64 y1807, .int .i64 y1808, .int .i64 y1809, .int .i64 y1810, .int .i64 y1811, .slice A1813 l1812.length c1814], true⟩] [] hs1844
                clear hE1843
                have hT1873 : TT w1838 [⟨b1654, 0, [.int .i64 k1619, .int .i64 y1620, .int .i64 y1621, .int .i64 y1622, .int .i64 y1623, .int .i64 y1624, .int .i64 y1625, .slice A1627 l1626.length c1628], true⟩, ⟨b1662, 0, [.int .i64 n1634, .slice A1639 s1635.length c1640, .bool b1636, .slice A1641 l1637.length c1642, .slice A1643 u1638.length c1644], true⟩, ⟨b1824, 0, [.int .i64 k1805, .int .i64 y1806, .int .i64 y1807, .int .i64 y1808, .int .i64 y1809, .int .i64 y1810, .int .i64 y1811, .slice A1813 l1812.length c1814], true⟩] [] w1847 := ⟨hW1871.cells, hF1872.step⟩
                refine ⟨fun _ => hT1873, ?_⟩
                refine anyC_op (i := 4) (by kernel_rfl) (wpOp_call hE1870 (f := 108) (vs := [.agg #[.int .i64 k1805, .int .i64 y1806, .int .i64 y1807, .int .i64 y1808, .int .i64 y1809, .int .i64 y1810, .int .i64 y1811, .slice A1813 l1812.length c1814], .agg #[.int .i64 n1849, .slice A1854 s1850.length c1855, .bool b1851, .slice A1856 l1852.length c1857, .slice A1858 u1853.length c1859]]) (d := 68) (by kernel_rfl) Try.call108 ( hu _ _ _ _ _ _ (hr1804.move hW1871.step nilM hW1871.imm) (by have h_ := depths_get he1803; rw [depth_mk] at hd; omega) hr1848) ?_)
                rintro e_ w1875 ⟨rfl, hs1874⟩
                refine ⟨_, rfl, fun a1876 hE1877 => ?_⟩
                have hW1878 := hW1871.next_nil hs1874
                have hF1879 := Fr.nil [⟨b1654, 0, [.int .i64 k1619, .int .i64 y1620, .int .i64 y1621, .int .i64 y1622, .int .i64 y1623, .int .i64 y1624, .int .i64 y1625, .slice A1627 l1626.length c1628], true⟩, ⟨b1662, 0, [.int .i64 n1634, .slice A1639 s1635.length c1640, .bool b1636, .slice A1641 l1637.length c1642, .slice A1643 u1638.length c1644], true⟩, ⟨b1824, 0, [.int .i64 k1805, .int .i64 y1806, .int .i64 y1807, .int .i64 y1808, .int .i64 y1809, .int .i64 y1810, .int .i64 y1811, .slice A1813 l1812.length c1814], true⟩] [] hs1874
                clear hE1870 hW1871
                have hT1880 : TT w1838 [⟨b1654, 0, [.int .i64 k1619, .int .i64 y1620, .int .i64 y1621, .int .i64 y1622, .int .i64 y1623, .int .i64 y1624, .int .i64 y1625, .slice A1627 l1626.length c1628], true⟩, ⟨b1662, 0, [.int .i64 n1634, .slice A1639 s1635.length c1640, .bool b1636, .slice A1641 l1637.length c1642, .slice A1643 u1638.length c1644], true⟩, ⟨b1824, 0, [.int .i64 k1805, .int .i64 y1806, .int .i64 y1807, .int .i64 y1808, .int .i64 y1809, .int .i64 y1810, .int .i64 y1811, .slice A1813 l1812.length c1814], true⟩] [] w1875 := ⟨hW1878.cells, (Fr.trans hF1872 hF1879).step⟩
                refine ⟨fun _ => hT1880, ?_⟩
                refine go_runsD [5] [2, 3, 57, 58, 59, 69] 0 (by kernel_rfl) (panicFree_then (panicFree_block (panicFree_then (panicFree_then (panicFree_block (panicFree_then (panicFree_block (panicFree_then panicFree_body)))))))) (fun _ h => h.cells) hT1880 hE1877 (by kernel_rfl) (env' := [(2, .p 0 0), (3, .p 1 0), (57, .v (.slice A1627 l1626.length c1628)), (58, .v (.int .i64 ((l1626.length : Nat) : Int))), (59, .v (.int .i64 ((k : Nat) : Int))), (69, .v (.bool (!(Fld.usual (Fld.mk k1805 y1806 y1807 y1808 y1809 y1810 y1811 l1812) (Tree.at_ (Tree.mk n1634 s1635 b1636 l1637 u1638) k)))))]) (by kernel_rfl) rfl fun a1881 hE1882 => ?_
                clear hE1877
                refine anyC_done (by kernel_rfl) ?_ _
                refine then_normal ?_
                refine cond_of hE1882 (b := !(Fld.usual (Fld.mk k1805 y1806 y1807 y1808 y1809 y1810 y1811 l1812) (Tree.at_ (Tree.mk n1634 s1635 b1636 l1637 u1638) k))) (by kernel_rfl) (fun hc1883 => ?_) (fun hc1883 => ?_)
                ·
                  refine go_seq_region [0] (by kernel_rfl) ?_
                  refine go_runs [0] [] [4] hW1878 hE1882 (env' := [(4, .v (.bool false))]) (by kernel_rfl) rfl fun a1885 hE1886 => ?_
                  clear hE1882
                  refine wpOps_nil ?_
                  refine then_normal ?_
                  refine wp_ret ?_
                  refine block_ret ?_
                  refine then_ret ?_
                  refine then_ret ?_
                  refine block_ret ?_
                  refine then_ret ?_
                  refine block_ret ?_
                  refine then_ret ?_
                  refine leave hE1886 hW1878.cells (v := .bool false) (by kernel_rfl) ?_
                  refine ⟨congrArg (fun b_ => Ending.returned (Value.bool b_)) ?_, hW1878.step⟩
                  first
                    | (rw [usual_0 (by assumption)]; simp only [and1]; done)
                    | (rw [usual_7 (by assumption) (by assumption)]; exact zero16_true hz (by omega); done)
                    | (rw [usual_7 (by assumption) (by assumption)]; exact zero16_false (k := k) (by omega) (by omega) (by assumption); done)
                    | (rw [usual_89n (by assumption) (by assumption) (by omega) (by assumption)]; done)
                    | (rw [usual_89 (by assumption) (by assumption) (by omega) (by assumption)]; done)
                    | (rw [usual_11 (by assumption) (by assumption) (by assumption) (by assumption) (by assumption)]; done)
                    | (rw [usual_10 (by assumption) (by assumption) (by assumption) (by assumption) (by assumption) (by assumption), huu, usuals_end (by omega), Bool.true_and]; done)
                    | (rw [usual_else (by assumption) (by assumption) (by assumption) (by assumption) (by assumption) (by assumption)]; done)
                    | (rw [usual_10 (by assumption) (by assumption) (by assumption) (by assumption) (by assumption) (by assumption), huu, usuals_stop he1803 (by simpa using hc1883), Bool.false_and]; done)
                ·
                  refine wp_skip ?_
                  refine block_normal ?_
                  refine then_normal ?_
                  refine go_region [0, 1] (by kernel_rfl) ?_
                  refine go_runs [0, 1] [] [2, 3, 57, 58, 59] hW1878 hE1882 (env' := [(2, .p 0 0), (3, .p 1 0), (57, .v (.slice A1627 l1626.length c1628)), (58, .v (.int .i64 ((l1626.length : Nat) : Int))), (59, .v (.int .i64 (IntKind.i64.wrap (((k : Nat) : Int) + 1))))]) (by kernel_rfl) rfl fun a1888 hE1889 => ?_
                  clear hE1882
                  refine wpOps_nil ?_
                  refine then_normal ?_
                  have hE1890 := EnvOk.pick hE1889 (ks := [2, 3, 57, 58, 59]) (env' := [(2, .p 0 0), (3, .p 1 0), (57, .v (.slice A1627 l1626.length c1628)), (58, .v (.int .i64 ((l1626.length : Nat) : Int))), (59, .v (.int .i64 (IntKind.i64.wrap (((k : Nat) : Int) + 1))))]) (by kernel_rfl)
                  have hE1891 : EnvOk 91 [⟨b1654, 0, [.int .i64 k1619, .int .i64 y1620, .int .i64 y1621, .int .i64 y1622, .int .i64 y1623, .int .i64 y1624, .int .i64 y1625, .slice A1627 l1626.length c1628], true⟩, ⟨b1662, 0, [.int .i64 n1634, .slice A1639 s1635.length c1640, .bool b1636, .slice A1641 l1637.length c1642, .slice A1643 u1638.length c1644], true⟩] _ _ := hE1890.cutTb 2 (by kernel_rfl)
                  have hW1892 : WOk _ _ _ [⟨b1654, 0, [.int .i64 k1619, .int .i64 y1620, .int .i64 y1621, .int .i64 y1622, .int .i64 y1623, .int .i64 y1624, .int .i64 y1625, .slice A1627 l1626.length c1628], true⟩, ⟨b1662, 0, [.int .i64 n1634, .slice A1639 s1635.length c1640, .bool b1636, .slice A1641 l1637.length c1642, .slice A1643 u1638.length c1644], true⟩] _ := hW1878.cutTb 2
                  have hF1893 : Fr _ _ _ _ [⟨b1654, 0, [.int .i64 k1619, .int .i64 y1620, .int .i64 y1621, .int .i64 y1622, .int .i64 y1623, .int .i64 y1624, .int .i64 y1625, .slice A1627 l1626.length c1628], true⟩, ⟨b1662, 0, [.int .i64 n1634, .slice A1639 s1635.length c1640, .bool b1636, .slice A1641 l1637.length c1642, .slice A1643 u1638.length c1644], true⟩] _ := Fr.cutTb w1875 [⟨b1654, 0, [.int .i64 k1619, .int .i64 y1620, .int .i64 y1621, .int .i64 y1622, .int .i64 y1623, .int .i64 y1624, .int .i64 y1625, .slice A1627 l1626.length c1628], true⟩, ⟨b1662, 0, [.int .i64 n1634, .slice A1639 s1635.length c1640, .bool b1636, .slice A1641 l1637.length c1642, .slice A1643 u1638.length c1644], true⟩, ⟨b1824, 0, [.int .i64 k1805, .int .i64 y1806, .int .i64 y1807, .int .i64 y1808, .int .i64 y1809, .int .i64 y1810, .int .i64 y1811, .slice A1813 l1812.length c1814], true⟩] [] 2
                  have hE1894 := EnvOk.pick hE1891 (ks := [2, 3, 57, 58, 59]) (env' := [(2, .p 0 0), (3, .p 1 0), (57, .v (.slice A1627 l1626.length c1628)), (58, .v (.int .i64 ((l1626.length : Nat) : Int))), (59, .v (.int .i64 (IntKind.i64.wrap (((k : Nat) : Int) + 1))))]) (by kernel_rfl)
                  have he1895 : IntKind.i64.wrap (((k : Nat) : Int) + 1) = ((k + 1 : Nat) : Int) := wrap_succ (by omega)
                  rw [he1895] at hE1894
                  exact ⟨l1626.length - (k + 1), by omega, k + 1, rfl, by omega, by rw [huu]; exact usuals_step he1803 (by simpa using hc1883), hE1894, hW1892, (Fr.trans (Fr.trans (Fr.trans (Fr.trans (Fr.trans (Fr.trans hF1789 hF1829) hF1835) hF1839) hF1872) hF1879) hF1893)⟩
              ·
                have hf1896 := of_decide_eq_false hc1793
                refine wp_exit ?_
                refine then_exit ?_
                refine then_exit ?_
                refine block_exit ?_
                refine then_normal ?_
                refine go_seq_region [0, 1, 2, 3, 4, 5, 6, 7] (by kernel_rfl) ?_
                refine go_runs [0, 1, 2, 3] [4, 5, 6, 7] [72, 74] hW1786 hE1792 (env' := [(72, .v (.slice A1627 l1626.length c1628)), (74, .v (.slice A1643 u1638.length c1644))]) (by kernel_rfl) rfl fun a1897 hE1898 => ?_
                clear hE1792
                refine of_op (wpOp_call hE1898 (f := 49) (vs := [.slice A1627 l1626.length c1628, .slice A1643 u1638.length c1644]) (d := 75) (by kernel_rfl) Try.call49 (sUnknown _ _ l1626 _ _ u1638 _ _ ⟨xs1629, (h1631.move hW1786.step nilM hW1786.imm), (fun i_ x_ h_ => ((h1632 i_ x_ h_).move hW1786.step nilM hW1786.imm))⟩ (h1650.move hW1786.step nilM hW1786.imm)) ?_)
                rintro e_ w1903 ⟨A1901, c1902, rfl, hr1900, hs1899⟩
                have hr1904 := hr1900.move (Step.refl _ Nil) nilM (hW1786.laid (G := F) hs1899)
                refine ⟨_, rfl, fun a1905 hE1906 => ?_⟩
                have hW1907 := hW1786.next_nil hs1899
                have hF1908 := Fr.nil [⟨b1654, 0, [.int .i64 k1619, .int .i64 y1620, .int .i64 y1621, .int .i64 y1622, .int .i64 y1623, .int .i64 y1624, .int .i64 y1625, .slice A1627 l1626.length c1628], true⟩, ⟨b1662, 0, [.int .i64 n1634, .slice A1639 s1635.length c1640, .bool b1636, .slice A1641 l1637.length c1642, .slice A1643 u1638.length c1644], true⟩] [] hs1899
                clear hE1898
                refine go_runs [5, 6, 7] [] [4] hW1907 hE1906 (env' := [(4, .v (.bool ((((unknownT l1626 u1638).length : Nat) : Int) == 0)))]) (by kernel_rfl) rfl fun a1909 hE1910 => ?_
                clear hE1906
                refine wpOps_nil ?_
                refine then_normal ?_
                refine wp_ret ?_
                refine block_ret ?_
                refine then_ret ?_
                refine leave hE1910 hW1907.cells (v := .bool ((((unknownT l1626 u1638).length : Nat) : Int) == 0)) (by kernel_rfl) ?_
                refine ⟨congrArg (fun b_ => Ending.returned (Value.bool b_)) ?_, hW1907.step⟩
                first
                  | (rw [usual_0 (by assumption)]; simp only [and1]; done)
                  | (rw [usual_7 (by assumption) (by assumption)]; exact zero16_true hz (by omega); done)
                  | (rw [usual_7 (by assumption) (by assumption)]; exact zero16_false (k := k) (by omega) (by omega) (by assumption); done)
                  | (rw [usual_89n (by assumption) (by assumption) (by omega) (by assumption)]; done)
                  | (rw [usual_89 (by assumption) (by assumption) (by omega) (by assumption)]; done)
                  | (rw [usual_11 (by assumption) (by assumption) (by assumption) (by assumption) (by assumption)]; done)
                  | (rw [usual_10 (by assumption) (by assumption) (by assumption) (by assumption) (by assumption) (by assumption), huu, usuals_end (by omega), Bool.true_and]; done)
                  | (rw [usual_else (by assumption) (by assumption) (by assumption) (by assumption) (by assumption) (by assumption)]; done)
            ·
              have hf1911 : k1619 ≠ 10 := by simpa using hc1778
              refine wp_skip ?_
              refine block_normal ?_
              refine then_normal ?_
              refine go_seq_drawK 13 (by kernel_rfl) hW1668 fun w1912 hF1913 hW1914 hT1915 => ?_
              clear hW1668
              refine go_runsD [0, 1, 2, 3, 6, 7, 8, 9] [79, 81, 85, 87] 6 (by kernel_rfl) (panicFree_then panicFree_body) (fun _ h => h.cells) hT1915 hE1777 (by kernel_rfl) (env' := [(79, .v (.int .i64 n1634)), (81, .v (.int .i64 k1619)), (85, .v (.int .i64 y1624)), (87, .v (.int .i64 k1619))]) (by kernel_rfl) rfl fun a1916 hE1917 => ?_
              clear hE1777
              refine anyC_op (i := 4) (by kernel_rfl) (wpOp_call hE1917 (f := 147) (vs := [.int .i64 k1619]) (d := 82) (by kernel_rfl) Try.call147 (sWidth k1619 _) ?_)
              rintro e_ w1919 ⟨rfl, hs1918⟩
              refine ⟨_, rfl, fun a1920 hE1921 => ?_⟩
              have hW1922 := hW1914.next_nil hs1918
              have hF1923 := Fr.nil [⟨b1654, 0, [.int .i64 k1619, .int .i64 y1620, .int .i64 y1621, .int .i64 y1622, .int .i64 y1623, .int .i64 y1624, .int .i64 y1625, .slice A1627 l1626.length c1628], true⟩, ⟨b1662, 0, [.int .i64 n1634, .slice A1639 s1635.length c1640, .bool b1636, .slice A1641 l1637.length c1642, .slice A1643 u1638.length c1644], true⟩] [] hs1918
              clear hE1917
              have hT1924 : TT w1912 [⟨b1654, 0, [.int .i64 k1619, .int .i64 y1620, .int .i64 y1621, .int .i64 y1622, .int .i64 y1623, .int .i64 y1624, .int .i64 y1625, .slice A1627 l1626.length c1628], true⟩, ⟨b1662, 0, [.int .i64 n1634, .slice A1639 s1635.length c1640, .bool b1636, .slice A1641 l1637.length c1642, .slice A1643 u1638.length c1644], true⟩] [] w1919 := ⟨hW1922.cells, hF1923.step⟩
              refine ⟨fun _ => hT1924, ?_⟩
              refine anyC_op (i := 5) (by kernel_rfl) (wpOp_call hE1921 (f := 146) (vs := [.int .i64 n1634, .int .i64 ((widthI k1619 : Nat) : Int)]) (d := 83) (by kernel_rfl) Try.call146 (sFixed n1634 (widthI k1619) (by first | decide | exact widthI_le _ | omega) _) ?_)
              rintro e_ w1929 ⟨A1927, c1928, rfl, ho1926, hs1925⟩
              refine ⟨_, rfl, fun a1930 hE1931 => ?_⟩
              have hW1932 := hW1922.fresh hs1925 (brow A1927 c1928 5 (be (widthI k1619) n1634)) (Nat.le_refl _) ho1926
              have hF1933 := Fr.fresh [⟨b1654, 0, [.int .i64 k1619, .int .i64 y1620, .int .i64 y1621, .int .i64 y1622, .int .i64 y1623, .int .i64 y1624, .int .i64 y1625, .slice A1627 l1626.length c1628], true⟩, ⟨b1662, 0, [.int .i64 n1634, .slice A1639 s1635.length c1640, .bool b1636, .slice A1641 l1637.length c1642, .slice A1643 u1638.length c1644], true⟩] [] hs1925 (brow A1927 c1928 5 (be (widthI k1619) n1634)) (Nat.le_refl _) ho1926
              clear hE1921 hW1922
              have hT1934 : TT w1912 [⟨b1654, 0, [.int .i64 k1619, .int .i64 y1620, .int .i64 y1621, .int .i64 y1622, .int .i64 y1623, .int .i64 y1624, .int .i64 y1625, .slice A1627 l1626.length c1628], true⟩, ⟨b1662, 0, [.int .i64 n1634, .slice A1639 s1635.length c1640, .bool b1636, .slice A1641 l1637.length c1642, .slice A1643 u1638.length c1644], true⟩] [] w1929 := ⟨hW1932.cells, (Fr.trans hF1923 hF1933).step⟩
              refine ⟨fun _ => hT1934, ?_⟩
              refine anyC_op (i := 10) (by kernel_rfl) (wpOp_call hE1931 (f := 147) (vs := [.int .i64 k1619]) (d := 88) (by kernel_rfl) Try.call147 (sWidth k1619 _) ?_)
              rintro e_ w1936 ⟨rfl, hs1935⟩
              refine ⟨_, rfl, fun a1937 hE1938 => ?_⟩
              have hW1939 := hW1932.next_nil hs1935
              have hF1940 := Fr.nil [⟨b1654, 0, [.int .i64 k1619, .int .i64 y1620, .int .i64 y1621, .int .i64 y1622, .int .i64 y1623, .int .i64 y1624, .int .i64 y1625, .slice A1627 l1626.length c1628], true⟩, ⟨b1662, 0, [.int .i64 n1634, .slice A1639 s1635.length c1640, .bool b1636, .slice A1641 l1637.length c1642, .slice A1643 u1638.length c1644], true⟩] [brow A1927 c1928 5 (be (widthI k1619) n1634)] hs1935
              clear hE1931 hW1932
              have hT1941 : TT w1912 [⟨b1654, 0, [.int .i64 k1619, .int .i64 y1620, .int .i64 y1621, .int .i64 y1622, .int .i64 y1623, .int .i64 y1624, .int .i64 y1625, .slice A1627 l1626.length c1628], true⟩, ⟨b1662, 0, [.int .i64 n1634, .slice A1639 s1635.length c1640, .bool b1636, .slice A1641 l1637.length c1642, .slice A1643 u1638.length c1644], true⟩] [] w1936 := ⟨hW1939.cells, (Fr.trans (Fr.trans hF1923 hF1933) hF1940).step⟩
              refine ⟨fun _ => hT1941, ?_⟩
              refine anyC_op (i := 11) (by kernel_rfl) (wpOp_call hE1938 (f := 146) (vs := [.int .i64 y1624, .int .i64 ((widthI k1619 : Nat) : Int)]) (d := 89) (by kernel_rfl) Try.call146 (sFixed y1624 (widthI k1619) (by first | decide | exact widthI_le _ | omega) _) ?_)
              rintro e_ w1946 ⟨A1944, c1945, rfl, ho1943, hs1942⟩
              refine ⟨_, rfl, fun a1947 hE1948 => ?_⟩
              have hW1949 := hW1939.fresh hs1942 (brow A1944 c1945 5 (be (widthI k1619) y1624)) (Nat.le_refl _) ho1943
              have hF1950 := Fr.fresh [⟨b1654, 0, [.int .i64 k1619, .int .i64 y1620, .int .i64 y1621, .int .i64 y1622, .int .i64 y1623, .int .i64 y1624, .int .i64 y1625, .slice A1627 l1626.length c1628], true⟩, ⟨b1662, 0, [.int .i64 n1634, .slice A1639 s1635.length c1640, .bool b1636, .slice A1641 l1637.length c1642, .slice A1643 u1638.length c1644], true⟩] [brow A1927 c1928 5 (be (widthI k1619) n1634)] hs1942 (brow A1944 c1945 5 (be (widthI k1619) y1624)) (Nat.le_refl _) ho1943
              clear hE1938 hW1939
              have hT1951 : TT w1912 [⟨b1654, 0, [.int .i64 k1619, .int .i64 y1620, .int .i64 y1621, .int .i64 y1622, .int .i64 y1623, .int .i64 y1624, .int .i64 y1625, .slice A1627 l1626.length c1628], true⟩, ⟨b1662, 0, [.int .i64 n1634, .slice A1639 s1635.length c1640, .bool b1636, .slice A1641 l1637.length c1642, .slice A1643 u1638.length c1644], true⟩] [] w1946 := ⟨hW1949.cells, (Fr.trans (Fr.trans (Fr.trans hF1923 hF1933) hF1940) hF1950).step⟩
              refine ⟨fun _ => hT1951, ?_⟩
              refine anyC_op (i := 12) (by kernel_rfl) (wpOp_call hE1948 (f := 15) (vs := [.slice A1927 ((be (widthI k1619) n1634).length) c1928, .slice A1944 ((be (widthI k1619) y1624).length) c1945]) (d := 90) (by kernel_rfl) Try.call15 (sSame _ _ _ _ (be (widthI k1619) n1634) (be (widthI k1619) y1624) _ _ (octs_own (hW1949.own 0 _ rfl) (by first | omega | (simp only [be_length]; exact Nat.le_trans (widthI_le _) (by decide)) | (have := hroom; omega) | (have := hmade; omega)) (F := fun _ _ => True) (fun _ _ _ => trivial)) (octs_own (hW1949.own 1 _ rfl) (by first | omega | (simp only [be_length]; exact Nat.le_trans (widthI_le _) (by decide)) | (have := hroom; omega) | (have := hmade; omega)) (F := fun _ _ => True) (fun _ _ _ => trivial))) ?_)
              rintro e_ w1953 ⟨rfl, hs1952⟩
              refine ⟨_, rfl, fun a1954 hE1955 => ?_⟩
              have hW1956 := hW1949.next_nil hs1952
              have hF1957 := Fr.nil [⟨b1654, 0, [.int .i64 k1619, .int .i64 y1620, .int .i64 y1621, .int .i64 y1622, .int .i64 y1623, .int .i64 y1624, .int .i64 y1625, .slice A1627 l1626.length c1628], true⟩, ⟨b1662, 0, [.int .i64 n1634, .slice A1639 s1635.length c1640, .bool b1636, .slice A1641 l1637.length c1642, .slice A1643 u1638.length c1644], true⟩] [brow A1927 c1928 5 (be (widthI k1619) n1634), brow A1944 c1945 5 (be (widthI k1619) y1624)] hs1952
              clear hE1948 hW1949
              have hT1958 : TT w1912 [⟨b1654, 0, [.int .i64 k1619, .int .i64 y1620, .int .i64 y1621, .int .i64 y1622, .int .i64 y1623, .int .i64 y1624, .int .i64 y1625, .slice A1627 l1626.length c1628], true⟩, ⟨b1662, 0, [.int .i64 n1634, .slice A1639 s1635.length c1640, .bool b1636, .slice A1641 l1637.length c1642, .slice A1643 u1638.length c1644], true⟩] [] w1953 := ⟨hW1956.cells, (Fr.trans (Fr.trans (Fr.trans (Fr.trans hF1923 hF1933) hF1940) hF1950) hF1957).step⟩
              refine ⟨fun _ => hT1958, ?_⟩
              refine anyC_op (i := 13) (by kernel_rfl) (wpOp_pure [4] hW1956.cells hE1955 (env' := [(4, .v (.bool (decide (be (widthI k1619) n1634 = be (widthI k1619) y1624))))]) (by kernel_rfl) fun a1959 hE1960 => ?_)
              clear hE1955
              refine ⟨fun h => absurd rfl h, ?_⟩
              refine anyC_done (by kernel_rfl) ?_ _
              refine then_normal ?_
              refine wp_ret ?_
              refine leave hE1960 hW1956.cells (v := .bool (decide (be (widthI k1619) n1634 = be (widthI k1619) y1624))) (by kernel_rfl) ?_
              refine ⟨congrArg (fun b_ => Ending.returned (Value.bool b_)) ?_, hW1956.step⟩
              first
                | (rw [usual_0 (by assumption)]; simp only [and1]; done)
                | (rw [usual_7 (by assumption) (by assumption)]; exact zero16_true hz (by omega); done)
                | (rw [usual_7 (by assumption) (by assumption)]; exact zero16_false (k := k) (by omega) (by omega) (by assumption); done)
                | (rw [usual_89n (by assumption) (by assumption) (by omega) (by assumption)]; done)
                | (rw [usual_89 (by assumption) (by assumption) (by omega) (by assumption)]; done)
                | (rw [usual_11 (by assumption) (by assumption) (by assumption) (by assumption) (by assumption)]; done)
                | (rw [usual_10 (by assumption) (by assumption) (by assumption) (by assumption) (by assumption) (by assumption), huu, usuals_end (by omega), Bool.true_and]; done)
                | (rw [usual_else (by assumption) (by assumption) (by assumption) (by assumption) (by assumption) (by assumption)]; done)

theorem sUsual : ∀ d, UsualOK d
  | 0 => fun cf f ct t w F hf hd ht => by
    obtain ⟨k, x1, x2, x3, x4, x5, x6, l, A, c, xs, rfl, _⟩ := hf.open_
    rw [depth_mk] at hd; omega
  | d + 1 => sUsual_step (sUsual d)

end Go.Proofs.Ytbjopfcbpobnpaa.ME
