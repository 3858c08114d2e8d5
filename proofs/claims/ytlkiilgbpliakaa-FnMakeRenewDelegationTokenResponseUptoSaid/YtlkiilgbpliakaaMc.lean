/- Printed by tools/mk.py. Own work. -/
import Derived.Test.YtlkiilgbpliakaaMb
import Derived.Test.YtlkiilgbpliakaaLa
import Derived.Test.YtlkiilgbpliakaaLb
namespace Go.Proofs.Ytlkiilgbpliakaa.ME
open Go
open Go.RowKit
set_option linter.unusedVariables false
set_option linter.unusedSimpArgs false
set_option maxRecDepth 20000

theorem xHeartbeatResponse (w : World) : Calls Try.prog 23 #[] w (Gives w (.int .i64 4)) := by
  refine enter (n := 4) Try.func23 rfl Try.ntmps23 (by kernel_rfl) fun a hE => ?_
  have hW := WOk.start w Nil
  refine go_seq_region [0] (by kernel_rfl) ?_
  refine go_runs [0] [] [] hW hE (env' := []) (by kernel_rfl) rfl fun a5550 hE5551 => ?_
  clear hE
  refine wpOps_nil ?_
  refine then_normal ?_
  refine go_seq_region [0, 1, 2, 3] (by kernel_rfl) ?_
  refine of_op (wpOp_inline hE5551 (f := 48) (vs := []) (d := 1) (n' := 3) (by kernel_rfl) Try.call48 Try.func48 rfl Try.ntmps48 (by kernel_rfl) fun a5552 hE5553 => ?_)
  refine go_seq_region [0] (by kernel_rfl) ?_
  refine go_runs [0] [] [] hW hE5553 (env' := []) (by kernel_rfl) rfl fun a5554 hE5555 => ?_
  clear hE5553
  refine wpOps_nil ?_
  refine then_normal ?_
  refine go_seq_region [0] (by kernel_rfl) ?_
  refine of_op (wpOp_alloc hW hE5555 (d := 1) (cs := [.int .i16 0, .int .i32 0, .int .i16 0, .map none]) (by kernel_rfl) fun b5556 a5557 w5558 hb5559 hz5560 hF5561 hW5562 hE5563 => ?_)
  clear hE5555 hW
  refine wpOps_nil ?_
  refine then_normal ?_
  refine go_seq_region [0] (by kernel_rfl) ?_
  refine of_op (wpOp_inline hE5563 (f := 77) (vs := [.pointer (some ⟨b5556, 0, none⟩)]) (d := 2) (n' := 2) (by kernel_rfl) Try.call77 Try.func77 rfl Try.ntmps77 (by kernel_rfl) fun a5564 hE5565 => ?_)
  have hE5566 := hE5565.recast 0 (.v (.pointer (some ⟨b5556, 0, none⟩))) (.p 0 0) rfl rfl (Nat.le_of_ble_eq_true (n := 1) rfl)
  refine wp_skip ?_
  refine leave_end hE5566 hW5562.cells (v := .tuple #[]) (by kernel_rfl) ?_
  refine ⟨_, rfl, fun a5567 hE5568 => ?_⟩
  have hE5569 : EnvOk 3 [⟨b5556, 0, [.int .i16 0, .int .i32 0, .int .i16 0, .map none], true⟩] [(2, .v (.tuple #[])), (1, .p 0 0)] _ := hE5568.places (⟨rfl, rfl, trivial⟩)
  refine wpOps_nil ?_
  refine then_normal ?_
  refine go_seq_region [0] (by kernel_rfl) ?_
  refine go_runs [0] [] [0] hW5562 hE5569 (env' := [(0, .p 0 0)]) (by kernel_rfl) rfl fun a5570 hE5571 => ?_
  clear hE5569
  refine wpOps_nil ?_
  refine then_normal ?_
  refine wp_ret ?_
  refine leave hE5571 hW5562.cells (v := .pointer (some ⟨b5556, 0, none⟩)) (by kernel_rfl) ?_
  refine ⟨_, rfl, fun a5572 hE5573 => ?_⟩
  have hE5574 : EnvOk 4 [⟨b5556, 0, [.int .i16 0, .int .i32 0, .int .i16 0, .map none], true⟩] [(1, .v (.pointer (some ⟨b5556, 0, none⟩)))] _ := hE5573.places (trivial)
  refine of_op (wpOp_inline hE5574 (f := 49) (vs := [.pointer (some ⟨b5556, 0, none⟩)]) (d := 2) (n' := 3) (by kernel_rfl) Try.call49 Try.func49 rfl Try.ntmps49 (by kernel_rfl) fun a5575 hE5576 => ?_)
  refine go_seq_region [0] (by kernel_rfl) ?_
  refine go_runs [0] [] [] hW5562 hE5576 (env' := []) (by kernel_rfl) rfl fun a5577 hE5578 => ?_
  clear hE5576
  refine wpOps_nil ?_
  refine then_normal ?_
  refine go_seq_region [0] (by kernel_rfl) ?_
  refine go_runs [0] [] [2] hW5562 hE5578 (env' := [(2, .v (.int .i16 4))]) (by kernel_rfl) rfl fun a5579 hE5580 => ?_
  clear hE5578
  refine wpOps_nil ?_
  refine then_normal ?_
  refine wp_ret ?_
  refine leave hE5580 hW5562.cells (v := .int .i16 4) (by kernel_rfl) ?_
  refine ⟨_, rfl, fun a5581 hE5582 => ?_⟩
  have hE5583 : EnvOk 4 [⟨b5556, 0, [.int .i16 0, .int .i32 0, .int .i16 0, .map none], true⟩] [(2, .v (.int .i16 4)), (1, .v (.pointer (some ⟨b5556, 0, none⟩)))] _ := hE5582.places (⟨rfl, rfl, trivial⟩)
  refine go_runs [2, 3] [] [0] hW5562 hE5583 (env' := [(0, .v (.int .i64 4))]) (by kernel_rfl) rfl fun a5584 hE5585 => ?_
  clear hE5583
  refine wpOps_nil ?_
  refine then_normal ?_
  refine wp_ret ?_
  refine leave hE5585 hW5562.cells (v := .int .i64 4) (by kernel_rfl) ?_
  exact ⟨rfl, hW5562.step⟩

theorem sHeartbeatResponse_depth : depths sHeartbeatResponseF ≤ 8 := by simp [sHeartbeatResponseF, Fld.depth.depths, Fld.depth]
theorem sHeartbeatResponse_plain : plains sHeartbeatResponseF := by simp [sHeartbeatResponseF, Fld.plain.plains, Fld.plain]

theorem lawHeartbeatResponse (x : Int) (hx : 0 ≤ x) (hx' : x < 256) (ct : List Value) (t : Tree) (w : World) (F : Nat → Nat → Prop) (ht : TreeR w F ct t) (hroom : (writeB 8 sHeartbeatResponseF sHeartbeatResponseX (Int.tmod x (4 + 1)) t).length ≤ 1099511627776) (hsort : Sorted (fitT (Int.tmod x (4 + 1)) 8 sHeartbeatResponseF t).U) (hul : (fitT (Int.tmod x (4 + 1)) 8 sHeartbeatResponseF t).U.length ≤ 1000000) (hxl : ∀ y ∈ (fitT (Int.tmod x (4 + 1)) 8 sHeartbeatResponseF t).U, y.2.length < 4294967296) (hmade : (makeHeartbeatResponse (Int.tmod x (4 + 1)) (fitT (Int.tmod x (4 + 1)) 8 sHeartbeatResponseF t)).length + 16 ≤ 1099511627776) (hpure : makeHeartbeatResponse (Int.tmod x (4 + 1)) (fitT (Int.tmod x (4 + 1)) 8 sHeartbeatResponseF t) = writeB 8 sHeartbeatResponseF sHeartbeatResponseX (Int.tmod x (4 + 1)) t) :
    Calls Try.prog 6 #[.int .u8 x, .agg ct.toArray] w (Gives w (.bool true)) := by
  obtain ⟨n5586, s5587, b5588, l5589, u5590, A5591, c5592, A5593, c5594, A5595, c5596, xs5597, rfl, rfl, h5599, h5600, h5601, h5602⟩ := ht.open_
  have hsm5604 := h5599.small
  have hsm5605 := h5600.small
  refine enter (n := 31) Try.func6 rfl Try.ntmps6 (by kernel_rfl) fun a hE => ?_
  have hW := WOk.start w Nil
  refine go_seq_region [0, 1] (by kernel_rfl) ?_
  refine of_op (wpOp_box hW hE (d := 3) (cs := [.int .i64 n5586, .slice A5591 s5587.length c5592, .bool b5588, .slice A5593 l5589.length c5594, .slice A5595 u5590.length c5596]) (by kernel_rfl) fun b5606 a5607 w5608 hb5609 hz5610 hF5611 hW5612 hE5613 => ?_)
  clear hE hW
  refine go_runs [1] [] [0, 3] hW5612 hE5613 (env' := [(0, .v (.int .u8 x)), (3, .p 0 0)]) (by kernel_rfl) rfl fun a5614 hE5615 => ?_
  clear hE5613
  refine wpOps_nil ?_
  refine then_normal ?_
  refine wp_seq ?_
  refine go_seq_region [0, 1, 2] (by kernel_rfl) ?_
  refine go_runs [0] [1, 2] [0, 3, 8] hW5612 hE5615 (env' := [(0, .v (.int .u8 x)), (3, .p 0 0), (8, .v (.agg #[.int .i64 n5586, .slice A5591 s5587.length c5592, .bool b5588, .slice A5593 l5589.length c5594, .slice A5595 u5590.length c5596]))]) (by kernel_rfl) rfl fun a5616 hE5617 => ?_
  clear hE5615
  refine of_op (wpOp_call hE5617 (f := 8) (vs := [.agg #[.int .i64 n5586, .slice A5591 s5587.length c5592, .bool b5588, .slice A5593 l5589.length c5594, .slice A5595 u5590.length c5596]]) (d := 9) (by kernel_rfl) Try.call8 (lFits1 _ _ _ _ (ht.move hW5612.step nilM hW5612.imm)) ?_)
  rintro e_ w5620 ⟨b5619, rfl, hs5618⟩
  refine ⟨_, rfl, fun a5621 hE5622 => ?_⟩
  have hW5623 := hW5612.next_nil hs5618
  have hF5624 := Fr.nil [⟨b5606, 0, [.int .i64 n5586, .slice A5591 s5587.length c5592, .bool b5588, .slice A5593 l5589.length c5594, .slice A5595 u5590.length c5596], true⟩] [] hs5618
  clear hE5617 hW5612
  refine go_runs [2] [] [0, 3, 10] hW5623 hE5622 (env' := [(0, .v (.int .u8 x)), (3, .p 0 0), (10, .v (.bool (!b5619)))]) (by kernel_rfl) rfl fun a5625 hE5626 => ?_
  clear hE5622
  refine wpOps_nil ?_
  refine then_normal ?_
  refine cond_of hE5626 (b := !b5619) (by kernel_rfl) (fun hc5627 => ?_) (fun hc5627 => ?_)
  ·
    refine go_seq_region [0] (by kernel_rfl) ?_
    refine go_runs [0] [] [4] hW5623 hE5626 (env' := [(4, .v (.bool true))]) (by kernel_rfl) rfl fun a5629 hE5630 => ?_
    clear hE5626
    refine wpOps_nil ?_
    refine then_normal ?_
    refine wp_ret ?_
    refine then_ret ?_
    refine leave hE5630 hW5623.cells (v := .bool true) (by kernel_rfl) ?_
    exact ⟨rfl, hW5623.step⟩
  ·
    refine wp_skip ?_
    refine then_normal ?_
    refine go_seq_region [0, 1] (by kernel_rfl) ?_
    refine of_op (wpOp_call hE5626 (f := 23) (vs := []) (d := 11) (by kernel_rfl) Try.call23 (xHeartbeatResponse _) ?_)
    rintro e_ w5633 ⟨rfl, hs5632⟩
    refine ⟨_, rfl, fun a5634 hE5635 => ?_⟩
    have hW5636 := hW5623.next_nil hs5632
    have hF5637 := Fr.nil [⟨b5606, 0, [.int .i64 n5586, .slice A5591 s5587.length c5592, .bool b5588, .slice A5593 l5589.length c5594, .slice A5595 u5590.length c5596], true⟩] [] hs5632
    clear hE5626 hW5623
    refine go_runs [1] [] [0, 3, 5] hW5636 hE5635 (env' := [(0, .v (.int .u8 x)), (3, .p 0 0), (5, .v (.int .i64 4))]) (by kernel_rfl) rfl fun a5638 hE5639 => ?_
    clear hE5635
    refine wpOps_nil ?_
    refine then_normal ?_
    refine wp_seq ?_
    refine go_seq_region [0, 1] (by kernel_rfl) ?_
    refine go_runs [0, 1] [] [0, 3, 5, 13] hW5636 hE5639 (env' := [(0, .v (.int .u8 x)), (3, .p 0 0), (5, .v (.int .i64 4)), (13, .v (.bool false))]) (by kernel_rfl) rfl fun a5640 hE5641 => ?_
    clear hE5639
    refine wpOps_nil ?_
    refine then_normal ?_
    refine cond_false hE5641 (b := false) (by kernel_rfl) rfl ?_
    refine wp_skip ?_
    refine then_normal ?_
    refine go_seq_region [0, 1, 2, 3, 4, 5, 6] (by kernel_rfl) ?_
    refine of_op (wpOp_call hE5641 (f := 24) (vs := []) (d := 14) (by kernel_rfl) Try.call24 (sHeartbeatResponse _ (Imm F w w5633 [⟨b5606, 0, [.int .i64 n5586, .slice A5591 s5587.length c5592, .bool b5588, .slice A5593 l5589.length c5594, .slice A5595 u5590.length c5596], true⟩] [])) ?_)
    rintro e_ w5646 ⟨A5644, c5645, rfl, hr5643, hs5642⟩
    obtain ⟨xs5647, h5648, h5649⟩ := hr5643.move (Step.refl _ Nil) nilM (hW5636.laid (G := F) hs5642)
    refine ⟨_, rfl, fun a5650 hE5651 => ?_⟩
    have hW5652 := hW5636.next_nil hs5642
    have hF5653 := Fr.nil [⟨b5606, 0, [.int .i64 n5586, .slice A5591 s5587.length c5592, .bool b5588, .slice A5593 l5589.length c5594, .slice A5595 u5590.length c5596], true⟩] [] hs5642
    clear hE5641
    refine go_runs [1, 2] [3, 4, 5, 6] [3, 14, 15, 16] hW5652 hE5651 (env' := [(3, .p 0 0), (14, .v (.agg #[.slice A5644 sHeartbeatResponseF.length c5645, .int .i64 sHeartbeatResponseX])), (15, .v (.int .u8 x)), (16, .v (.int .i64 4))]) (by kernel_rfl) rfl fun a5654 hE5655 => ?_
    clear hE5651
    refine of_op (wpOp_call hE5655 (f := 17) (vs := [.int .u8 x, .int .i64 4]) (d := 17) (by kernel_rfl) Try.call17 (lVersion x 4 hx hx' (by decide) (by decide) _) ?_)
    rintro e_ w5657 ⟨rfl, hs5656⟩
    refine ⟨_, rfl, fun a5658 hE5659 => ?_⟩
    have hW5660 := hW5652.next_nil hs5656
    have hF5661 := Fr.nil [⟨b5606, 0, [.int .i64 n5586, .slice A5591 s5587.length c5592, .bool b5588, .slice A5593 l5589.length c5594, .slice A5595 u5590.length c5596], true⟩] [] hs5656
    clear hE5655 hW5652
    refine of_op (wpOp_alloc hW5660 hE5659 (d := 6) (cs := [.slice none 0 0, .int .i64 0]) (by kernel_rfl) fun b5662 a5663 w5664 hb5665 hz5666 hF5667 hW5668 hE5669 => ?_)
    clear hE5659 hW5660
    refine of_op (wpOp_store hW5668 hE5669 (oi := 1) (cs := [.slice A5644 sHeartbeatResponseF.length c5645, .int .i64 sHeartbeatResponseX]) (by kernel_rfl) fun w5670 hF5671 hW5672 hE5673 => ?_)
    clear hE5669 hW5668
    refine go_runs [6] [] [3, 6, 7] hW5672 hE5673 (env' := [(3, .p 0 0), (6, .p 1 0), (7, .v (.int .i64 (Int.tmod x (4 + 1))))]) (by kernel_rfl) rfl fun a5674 hE5675 => ?_
    clear hE5673
    refine wpOps_nil ?_
    refine then_normal ?_
    refine go_seq_drawK 13 (by kernel_rfl) hW5672 fun w5676 hF5677 hW5678 hT5679 => ?_
    clear hW5672
    refine go_runsD [0, 1, 2, 3, 4, 8, 9, 10] [18, 20, 21, 22, 26, 27, 28] 6 (by kernel_rfl) (panicFree_then panicFree_body) (fun _ h => h.cells) hT5679 hE5675 (by kernel_rfl) (env' := [(18, .v (.int .i64 (Int.tmod x (4 + 1)))), (20, .v (.slice A5644 sHeartbeatResponseF.length c5645)), (21, .v (.int .i64 (Int.tmod x (4 + 1)))), (22, .v (.agg #[.int .i64 n5586, .slice A5591 s5587.length c5592, .bool b5588, .slice A5593 l5589.length c5594, .slice A5595 u5590.length c5596])), (26, .v (.agg #[.slice A5644 sHeartbeatResponseF.length c5645, .int .i64 sHeartbeatResponseX])), (27, .v (.int .i64 (Int.tmod x (4 + 1)))), (28, .v (.agg #[.int .i64 n5586, .slice A5591 s5587.length c5592, .bool b5588, .slice A5593 l5589.length c5594, .slice A5595 u5590.length c5596]))]) (by kernel_rfl) rfl fun a5680 hE5681 => ?_
    clear hE5675
    refine anyC_op (i := 5) (by kernel_rfl) (wpOp_call hE5681 (f := 13) (vs := [.slice A5644 sHeartbeatResponseF.length c5645, .int .i64 (Int.tmod x (4 + 1)), .agg #[.int .i64 n5586, .slice A5591 s5587.length c5592, .bool b5588, .slice A5593 l5589.length c5594, .slice A5595 u5590.length c5596]]) (d := 23) (by kernel_rfl) Try.call13 (sFitOK _ _ _ sHeartbeatResponseF (Int.tmod x (4 + 1)) _ (Tree.mk n5586 s5587 b5588 l5589 u5590) _ _ ⟨xs5647, (h5648.move (Fr.trans (Fr.trans (Fr.trans hF5661 hF5667) hF5671) hF5677).step immM (Fr.trans (Fr.trans (Fr.trans hF5661 hF5667) hF5671) hF5677).to'), (fun i_ x_ h_ => ((h5649 i_ x_ h_).move (Fr.trans (Fr.trans (Fr.trans hF5661 hF5667) hF5671) hF5677).step immM (Fr.trans (Fr.trans (Fr.trans hF5661 hF5667) hF5671) hF5677).to'))⟩ sHeartbeatResponse_plain sHeartbeatResponse_depth (ht.move hW5678.step nilM hW5678.imm)) ?_)
    rintro e_ w5685 ⟨cs5684, rfl, hr5683, hs5682⟩
    have hr5686 := hr5683.move (Step.refl _ Nil) nilM (hW5678.laid (G := F) hs5682)
    obtain ⟨n5687, s5688, b5689, l5690, u5691, A5692, c5693, A5694, c5695, A5696, c5697, xs5698, ht5704, hcs5699, h5700, h5701, h5702, h5703⟩ := hr5686.open_
    rw [hcs5699] at hr5686
    have hsm5705 := h5700.small
    have hsm5706 := h5701.small
    rw [hcs5699]
    refine ⟨_, rfl, fun a5707 hE5708 => ?_⟩
    have hW5709 := hW5678.next_nil hs5682
    have hF5710 := Fr.nil [⟨b5606, 0, [.int .i64 n5586, .slice A5591 s5587.length c5592, .bool b5588, .slice A5593 l5589.length c5594, .slice A5595 u5590.length c5596], true⟩, ⟨b5662, 0, [.slice A5644 sHeartbeatResponseF.length c5645, .int .i64 sHeartbeatResponseX], true⟩] [] hs5682
    clear hE5681
    have hT5711 : TT w5676 [⟨b5606, 0, [.int .i64 n5586, .slice A5591 s5587.length c5592, .bool b5588, .slice A5593 l5589.length c5594, .slice A5595 u5590.length c5596], true⟩, ⟨b5662, 0, [.slice A5644 sHeartbeatResponseF.length c5645, .int .i64 sHeartbeatResponseX], true⟩] [] w5685 := ⟨hW5709.cells, hF5710.step⟩
    refine ⟨fun _ => hT5711, ?_⟩
    refine anyC_op (i := 6) (by kernel_rfl) (wpOp_call hE5708 (f := 12) (vs := [.agg #[.int .i64 n5687, .slice A5692 s5688.length c5693, .bool b5689, .slice A5694 l5690.length c5695, .slice A5696 u5691.length c5697]]) (d := 24) (by kernel_rfl) Try.call12 (lGiven _ _ _ _ _ hr5686 (Nat.le_refl _)) ?_)
    rintro e_ w5715 ⟨cs5714, rfl, hr5713, hs5712⟩
    have hr5716 := hr5713.move (Step.refl _ Nil) nilM (hW5709.laid (G := F) hs5712)
    obtain ⟨n5717, s5718, b5719, l5720, u5721, A5722, c5723, A5724, c5725, A5726, c5727, xs5728, ht5734, hcs5729, h5730, h5731, h5732, h5733⟩ := hr5716.open_
    rw [hcs5729] at hr5716
    have hsm5735 := h5730.small
    have hsm5736 := h5731.small
    rw [hcs5729]
    refine ⟨_, rfl, fun a5737 hE5738 => ?_⟩
    have hW5739 := hW5709.next_nil hs5712
    have hF5740 := Fr.nil [⟨b5606, 0, [.int .i64 n5586, .slice A5591 s5587.length c5592, .bool b5588, .slice A5593 l5589.length c5594, .slice A5595 u5590.length c5596], true⟩, ⟨b5662, 0, [.slice A5644 sHeartbeatResponseF.length c5645, .int .i64 sHeartbeatResponseX], true⟩] [] hs5712
    clear hE5708
    have hT5741 : TT w5676 [⟨b5606, 0, [.int .i64 n5586, .slice A5591 s5587.length c5592, .bool b5588, .slice A5593 l5589.length c5594, .slice A5595 u5590.length c5596], true⟩, ⟨b5662, 0, [.slice A5644 sHeartbeatResponseF.length c5645, .int .i64 sHeartbeatResponseX], true⟩] [] w5715 := ⟨hW5739.cells, (Fr.trans hF5710 hF5740).step⟩
    refine ⟨fun _ => hT5741, ?_⟩
    refine anyC_op (i := 7) (by kernel_rfl) (wpOp_call hE5738 (f := 25) (vs := [.int .i64 (Int.tmod x (4 + 1)), .agg #[.int .i64 n5717, .slice A5722 s5718.length c5723, .bool b5719, .slice A5724 l5720.length c5725, .slice A5726 u5721.length c5727]]) (d := 25) (by kernel_rfl) Try.call25 (mHeartbeatResponse (Int.tmod x (4 + 1)) _ (fitT (Int.tmod x (4 + 1)) 8 sHeartbeatResponseF (Tree.mk n5586 s5587 b5588 l5589 u5590)) _ _ hr5716 hsort hul hxl hmade) ?_)
    rintro e_ w5746 ⟨A5744, c5745, rfl, ho5743, hs5742⟩
    refine ⟨_, rfl, fun a5747 hE5748 => ?_⟩
    have hW5749 := hW5739.fresh hs5742 (brow A5744 c5745 5 (makeHeartbeatResponse (Int.tmod x (4 + 1)) (fitT (Int.tmod x (4 + 1)) 8 sHeartbeatResponseF (Tree.mk n5586 s5587 b5588 l5589 u5590)))) (Nat.le_refl _) ho5743
    have hF5750 := Fr.fresh [⟨b5606, 0, [.int .i64 n5586, .slice A5591 s5587.length c5592, .bool b5588, .slice A5593 l5589.length c5594, .slice A5595 u5590.length c5596], true⟩, ⟨b5662, 0, [.slice A5644 sHeartbeatResponseF.length c5645, .int .i64 sHeartbeatResponseX], true⟩] [] hs5742 (brow A5744 c5745 5 (makeHeartbeatResponse (Int.tmod x (4 + 1)) (fitT (Int.tmod x (4 + 1)) 8 sHeartbeatResponseF (Tree.mk n5586 s5587 b5588 l5589 u5590)))) (Nat.le_refl _) ho5743
    clear hE5738 hW5739
    have hT5751 : TT w5676 [⟨b5606, 0, [.int .i64 n5586, .slice A5591 s5587.length c5592, .bool b5588, .slice A5593 l5589.length c5594, .slice A5595 u5590.length c5596], true⟩, ⟨b5662, 0, [.slice A5644 sHeartbeatResponseF.length c5645, .int .i64 sHeartbeatResponseX], true⟩] [] w5746 := ⟨hW5749.cells, (Fr.trans (Fr.trans hF5710 hF5740) hF5750).step⟩
    refine ⟨fun _ => hT5751, ?_⟩
    refine anyC_op (i := 11) (by kernel_rfl) (wpOp_call hE5748 (f := 19) (vs := [.agg #[.slice A5644 sHeartbeatResponseF.length c5645, .int .i64 sHeartbeatResponseX], .int .i64 (Int.tmod x (4 + 1)), .agg #[.int .i64 n5586, .slice A5591 s5587.length c5592, .bool b5588, .slice A5593 l5589.length c5594, .slice A5595 u5590.length c5596]]) (d := 29) (by kernel_rfl) Try.call19 (sWrite _ _ sHeartbeatResponseF sHeartbeatResponseX (Int.tmod x (4 + 1)) _ (Tree.mk n5586 s5587 b5588 l5589 u5590) _ _ ⟨xs5647, (h5648.move (Fr.trans (Fr.trans (Fr.trans (Fr.trans (Fr.trans (Fr.trans hF5661 hF5667) hF5671) hF5677) hF5710) hF5740) hF5750).step immM (Fr.trans (Fr.trans (Fr.trans (Fr.trans (Fr.trans (Fr.trans hF5661 hF5667) hF5671) hF5677) hF5710) hF5740) hF5750).to'), (fun i_ x_ h_ => ((h5649 i_ x_ h_).move (Fr.trans (Fr.trans (Fr.trans (Fr.trans (Fr.trans (Fr.trans hF5661 hF5667) hF5671) hF5677) hF5710) hF5740) hF5750).step immM (Fr.trans (Fr.trans (Fr.trans (Fr.trans (Fr.trans (Fr.trans hF5661 hF5667) hF5671) hF5677) hF5710) hF5740) hF5750).to'))⟩ sHeartbeatResponse_depth (ht.move hW5749.step nilM hW5749.imm) hroom) ?_)
    rintro e_ w5756 ⟨A5754, c5755, rfl, ho5753, hs5752⟩
    refine ⟨_, rfl, fun a5757 hE5758 => ?_⟩
    have hW5759 := hW5749.fresh hs5752 (brow A5754 c5755 5 (writeB 8 sHeartbeatResponseF sHeartbeatResponseX (Int.tmod x (4 + 1)) (Tree.mk n5586 s5587 b5588 l5589 u5590))) (Nat.le_refl _) ho5753
    have hF5760 := Fr.fresh [⟨b5606, 0, [.int .i64 n5586, .slice A5591 s5587.length c5592, .bool b5588, .slice A5593 l5589.length c5594, .slice A5595 u5590.length c5596], true⟩, ⟨b5662, 0, [.slice A5644 sHeartbeatResponseF.length c5645, .int .i64 sHeartbeatResponseX], true⟩] [brow A5744 c5745 5 (makeHeartbeatResponse (Int.tmod x (4 + 1)) (fitT (Int.tmod x (4 + 1)) 8 sHeartbeatResponseF (Tree.mk n5586 s5587 b5588 l5589 u5590)))] hs5752 (brow A5754 c5755 5 (writeB 8 sHeartbeatResponseF sHeartbeatResponseX (Int.tmod x (4 + 1)) (Tree.mk n5586 s5587 b5588 l5589 u5590))) (Nat.le_refl _) ho5753
    clear hE5748 hW5749
    have hT5761 : TT w5676 [⟨b5606, 0, [.int .i64 n5586, .slice A5591 s5587.length c5592, .bool b5588, .slice A5593 l5589.length c5594, .slice A5595 u5590.length c5596], true⟩, ⟨b5662, 0, [.slice A5644 sHeartbeatResponseF.length c5645, .int .i64 sHeartbeatResponseX], true⟩] [] w5756 := ⟨hW5759.cells, (Fr.trans (Fr.trans (Fr.trans hF5710 hF5740) hF5750) hF5760).step⟩
    refine ⟨fun _ => hT5761, ?_⟩
    refine anyC_op (i := 12) (by kernel_rfl) (wpOp_call hE5758 (f := 10) (vs := [.slice A5744 ((makeHeartbeatResponse (Int.tmod x (4 + 1)) (fitT (Int.tmod x (4 + 1)) 8 sHeartbeatResponseF (Tree.mk n5586 s5587 b5588 l5589 u5590))).length) c5745, .slice A5754 ((writeB 8 sHeartbeatResponseF sHeartbeatResponseX (Int.tmod x (4 + 1)) (Tree.mk n5586 s5587 b5588 l5589 u5590)).length) c5755]) (d := 30) (by kernel_rfl) Try.call10 (sSame _ _ _ _ (makeHeartbeatResponse (Int.tmod x (4 + 1)) (fitT (Int.tmod x (4 + 1)) 8 sHeartbeatResponseF (Tree.mk n5586 s5587 b5588 l5589 u5590))) (writeB 8 sHeartbeatResponseF sHeartbeatResponseX (Int.tmod x (4 + 1)) (Tree.mk n5586 s5587 b5588 l5589 u5590)) _ _ (octs_own (hW5759.own 0 _ rfl) (by first | omega | (simp only [be_length]; exact Nat.le_trans (widthI_le _) (by decide)) | (have := hroom; omega) | (have := hmade; omega)) (F := fun _ _ => True) (fun _ _ _ => trivial)) (octs_own (hW5759.own 1 _ rfl) (by first | omega | (simp only [be_length]; exact Nat.le_trans (widthI_le _) (by decide)) | (have := hroom; omega) | (have := hmade; omega)) (F := fun _ _ => True) (fun _ _ _ => trivial))) ?_)
    rintro e_ w5763 ⟨rfl, hs5762⟩
    refine ⟨_, rfl, fun a5764 hE5765 => ?_⟩
    have hW5766 := hW5759.next_nil hs5762
    have hF5767 := Fr.nil [⟨b5606, 0, [.int .i64 n5586, .slice A5591 s5587.length c5592, .bool b5588, .slice A5593 l5589.length c5594, .slice A5595 u5590.length c5596], true⟩, ⟨b5662, 0, [.slice A5644 sHeartbeatResponseF.length c5645, .int .i64 sHeartbeatResponseX], true⟩] [brow A5744 c5745 5 (makeHeartbeatResponse (Int.tmod x (4 + 1)) (fitT (Int.tmod x (4 + 1)) 8 sHeartbeatResponseF (Tree.mk n5586 s5587 b5588 l5589 u5590))), brow A5754 c5755 5 (writeB 8 sHeartbeatResponseF sHeartbeatResponseX (Int.tmod x (4 + 1)) (Tree.mk n5586 s5587 b5588 l5589 u5590))] hs5762
    clear hE5758 hW5759
    have hT5768 : TT w5676 [⟨b5606, 0, [.int .i64 n5586, .slice A5591 s5587.length c5592, .bool b5588, .slice A5593 l5589.length c5594, .slice A5595 u5590.length c5596], true⟩, ⟨b5662, 0, [.slice A5644 sHeartbeatResponseF.length c5645, .int .i64 sHeartbeatResponseX], true⟩] [] w5763 := ⟨hW5766.cells, (Fr.trans (Fr.trans (Fr.trans (Fr.trans hF5710 hF5740) hF5750) hF5760) hF5767).step⟩
    refine ⟨fun _ => hT5768, ?_⟩
    refine anyC_op (i := 13) (by kernel_rfl) (wpOp_pure [4] hW5766.cells hE5765 (env' := [(4, .v (.bool (decide (makeHeartbeatResponse (Int.tmod x (4 + 1)) (fitT (Int.tmod x (4 + 1)) 8 sHeartbeatResponseF (Tree.mk n5586 s5587 b5588 l5589 u5590)) = writeB 8 sHeartbeatResponseF sHeartbeatResponseX (Int.tmod x (4 + 1)) (Tree.mk n5586 s5587 b5588 l5589 u5590)))))]) (by kernel_rfl) fun a5769 hE5770 => ?_)
    clear hE5765
    refine ⟨fun h => absurd rfl h, ?_⟩
    refine anyC_done (by kernel_rfl) ?_ _
    refine then_normal ?_
    refine wp_ret ?_
    refine leave hE5770 hW5766.cells (v := .bool (decide (makeHeartbeatResponse (Int.tmod x (4 + 1)) (fitT (Int.tmod x (4 + 1)) 8 sHeartbeatResponseF (Tree.mk n5586 s5587 b5588 l5589 u5590)) = writeB 8 sHeartbeatResponseF sHeartbeatResponseX (Int.tmod x (4 + 1)) (Tree.mk n5586 s5587 b5588 l5589 u5590)))) (by kernel_rfl) ?_
    exact ⟨by rw [hpure]; simp, hW5766.step⟩

theorem xRenewDelegationTokenResponse (w : World) : Calls Try.prog 26 #[] w (Gives w (.int .i64 2)) := by
  refine enter (n := 4) Try.func26 rfl Try.ntmps26 (by kernel_rfl) fun a hE => ?_
  have hW := WOk.start w Nil
  refine go_seq_region [0] (by kernel_rfl) ?_
  refine go_runs [0] [] [] hW hE (env' := []) (by kernel_rfl) rfl fun a5807 hE5808 => ?_
  clear hE
  refine wpOps_nil ?_
  refine then_normal ?_
  refine go_seq_region [0, 1, 2, 3] (by kernel_rfl) ?_
  refine of_op (wpOp_inline hE5808 (f := 53) (vs := []) (d := 1) (n' := 3) (by kernel_rfl) Try.call53 Try.func53 rfl Try.ntmps53 (by kernel_rfl) fun a5809 hE5810 => ?_)
  refine go_seq_region [0] (by kernel_rfl) ?_
  refine go_runs [0] [] [] hW hE5810 (env' := []) (by kernel_rfl) rfl fun a5811 hE5812 => ?_
  clear hE5810
  refine wpOps_nil ?_
  refine then_normal ?_
  refine go_seq_region [0] (by kernel_rfl) ?_
  refine of_op (wpOp_alloc hW hE5812 (d := 1) (cs := [.int .i16 0, .int .i16 0, .int .i64 0, .int .i32 0, .map none]) (by kernel_rfl) fun b5813 a5814 w5815 hb5816 hz5817 hF5818 hW5819 hE5820 => ?_)
  clear hE5812 hW
  refine wpOps_nil ?_
  refine then_normal ?_
  refine go_seq_region [0] (by kernel_rfl) ?_
  refine of_op (wpOp_inline hE5820 (f := 78) (vs := [.pointer (some ⟨b5813, 0, none⟩)]) (d := 2) (n' := 2) (by kernel_rfl) Try.call78 Try.func78 rfl Try.ntmps78 (by kernel_rfl) fun a5821 hE5822 => ?_)
  have hE5823 := hE5822.recast 0 (.v (.pointer (some ⟨b5813, 0, none⟩))) (.p 0 0) rfl rfl (Nat.le_of_ble_eq_true (n := 1) rfl)
  refine wp_skip ?_
  refine leave_end hE5823 hW5819.cells (v := .tuple #[]) (by kernel_rfl) ?_
  refine ⟨_, rfl, fun a5824 hE5825 => ?_⟩
  have hE5826 : EnvOk 3 [⟨b5813, 0, [.int .i16 0, .int .i16 0, .int .i64 0, .int .i32 0, .map none], true⟩] [(2, .v (.tuple #[])), (1, .p 0 0)] _ := hE5825.places (⟨rfl, rfl, trivial⟩)
  refine wpOps_nil ?_
  refine then_normal ?_
  refine go_seq_region [0] (by kernel_rfl) ?_
  refine go_runs [0] [] [0] hW5819 hE5826 (env' := [(0, .p 0 0)]) (by kernel_rfl) rfl fun a5827 hE5828 => ?_
  clear hE5826
  refine wpOps_nil ?_
  refine then_normal ?_
  refine wp_ret ?_
  refine leave hE5828 hW5819.cells (v := .pointer (some ⟨b5813, 0, none⟩)) (by kernel_rfl) ?_
  refine ⟨_, rfl, fun a5829 hE5830 => ?_⟩
  have hE5831 : EnvOk 4 [⟨b5813, 0, [.int .i16 0, .int .i16 0, .int .i64 0, .int .i32 0, .map none], true⟩] [(1, .v (.pointer (some ⟨b5813, 0, none⟩)))] _ := hE5830.places (trivial)
  refine of_op (wpOp_inline hE5831 (f := 54) (vs := [.pointer (some ⟨b5813, 0, none⟩)]) (d := 2) (n' := 3) (by kernel_rfl) Try.call54 Try.func54 rfl Try.ntmps54 (by kernel_rfl) fun a5832 hE5833 => ?_)
  refine go_seq_region [0] (by kernel_rfl) ?_
  refine go_runs [0] [] [] hW5819 hE5833 (env' := []) (by kernel_rfl) rfl fun a5834 hE5835 => ?_
  clear hE5833
  refine wpOps_nil ?_
  refine then_normal ?_
  refine go_seq_region [0] (by kernel_rfl) ?_
  refine go_runs [0] [] [2] hW5819 hE5835 (env' := [(2, .v (.int .i16 2))]) (by kernel_rfl) rfl fun a5836 hE5837 => ?_
  clear hE5835
  refine wpOps_nil ?_
  refine then_normal ?_
  refine wp_ret ?_
  refine leave hE5837 hW5819.cells (v := .int .i16 2) (by kernel_rfl) ?_
  refine ⟨_, rfl, fun a5838 hE5839 => ?_⟩
  have hE5840 : EnvOk 4 [⟨b5813, 0, [.int .i16 0, .int .i16 0, .int .i64 0, .int .i32 0, .map none], true⟩] [(2, .v (.int .i16 2)), (1, .v (.pointer (some ⟨b5813, 0, none⟩)))] _ := hE5839.places (⟨rfl, rfl, trivial⟩)
  refine go_runs [2, 3] [] [0] hW5819 hE5840 (env' := [(0, .v (.int .i64 2))]) (by kernel_rfl) rfl fun a5841 hE5842 => ?_
  clear hE5840
  refine wpOps_nil ?_
  refine then_normal ?_
  refine wp_ret ?_
  refine leave hE5842 hW5819.cells (v := .int .i64 2) (by kernel_rfl) ?_
  exact ⟨rfl, hW5819.step⟩

theorem sRenewDelegationTokenResponse_depth : depths sRenewDelegationTokenResponseF ≤ 8 := by simp [sRenewDelegationTokenResponseF, Fld.depth.depths, Fld.depth]
theorem sRenewDelegationTokenResponse_plain : plains sRenewDelegationTokenResponseF := by simp [sRenewDelegationTokenResponseF, Fld.plain.plains, Fld.plain]

theorem lawRenewDelegationTokenResponse (x : Int) (hx : 0 ≤ x) (hx' : x < 256) (ct : List Value) (t : Tree) (w : World) (F : Nat → Nat → Prop) (ht : TreeR w F ct t) (hroom : (writeB 8 sRenewDelegationTokenResponseF sRenewDelegationTokenResponseX (Int.tmod x (2 + 1)) t).length ≤ 1099511627776) (hsort : Sorted (fitT (Int.tmod x (2 + 1)) 8 sRenewDelegationTokenResponseF t).U) (hul : (fitT (Int.tmod x (2 + 1)) 8 sRenewDelegationTokenResponseF t).U.length ≤ 1000000) (hxl : ∀ y ∈ (fitT (Int.tmod x (2 + 1)) 8 sRenewDelegationTokenResponseF t).U, y.2.length < 4294967296) (hmade : (makeRenewDelegationTokenResponse (Int.tmod x (2 + 1)) (fitT (Int.tmod x (2 + 1)) 8 sRenewDelegationTokenResponseF t)).length + 16 ≤ 1099511627776) (hpure : makeRenewDelegationTokenResponse (Int.tmod x (2 + 1)) (fitT (Int.tmod x (2 + 1)) 8 sRenewDelegationTokenResponseF t) = writeB 8 sRenewDelegationTokenResponseF sRenewDelegationTokenResponseX (Int.tmod x (2 + 1)) t) :
    Calls Try.prog 7 #[.int .u8 x, .agg ct.toArray] w (Gives w (.bool true)) := by
  obtain ⟨n5843, s5844, b5845, l5846, u5847, A5848, c5849, A5850, c5851, A5852, c5853, xs5854, rfl, rfl, h5856, h5857, h5858, h5859⟩ := ht.open_
  have hsm5861 := h5856.small
  have hsm5862 := h5857.small
  refine enter (n := 31) Try.func7 rfl Try.ntmps7 (by kernel_rfl) fun a hE => ?_
  have hW := WOk.start w Nil
  refine go_seq_region [0, 1] (by kernel_rfl) ?_
  refine of_op (wpOp_box hW hE (d := 3) (cs := [.int .i64 n5843, .slice A5848 s5844.length c5849, .bool b5845, .slice A5850 l5846.length c5851, .slice A5852 u5847.length c5853]) (by kernel_rfl) fun b5863 a5864 w5865 hb5866 hz5867 hF5868 hW5869 hE5870 => ?_)
  clear hE hW
  refine go_runs [1] [] [0, 3] hW5869 hE5870 (env' := [(0, .v (.int .u8 x)), (3, .p 0 0)]) (by kernel_rfl) rfl fun a5871 hE5872 => ?_
  clear hE5870
  refine wpOps_nil ?_
  refine then_normal ?_
  refine wp_seq ?_
  refine go_seq_region [0, 1, 2] (by kernel_rfl) ?_
  refine go_runs [0] [1, 2] [0, 3, 8] hW5869 hE5872 (env' := [(0, .v (.int .u8 x)), (3, .p 0 0), (8, .v (.agg #[.int .i64 n5843, .slice A5848 s5844.length c5849, .bool b5845, .slice A5850 l5846.length c5851, .slice A5852 u5847.length c5853]))]) (by kernel_rfl) rfl fun a5873 hE5874 => ?_
  clear hE5872
  refine of_op (wpOp_call hE5874 (f := 8) (vs := [.agg #[.int .i64 n5843, .slice A5848 s5844.length c5849, .bool b5845, .slice A5850 l5846.length c5851, .slice A5852 u5847.length c5853]]) (d := 9) (by kernel_rfl) Try.call8 (lFits1 _ _ _ _ (ht.move hW5869.step nilM hW5869.imm)) ?_)
  rintro e_ w5877 ⟨b5876, rfl, hs5875⟩
  refine ⟨_, rfl, fun a5878 hE5879 => ?_⟩
  have hW5880 := hW5869.next_nil hs5875
  have hF5881 := Fr.nil [⟨b5863, 0, [.int .i64 n5843, .slice A5848 s5844.length c5849, .bool b5845, .slice A5850 l5846.length c5851, .slice A5852 u5847.length c5853], true⟩] [] hs5875
  clear hE5874 hW5869
  refine go_runs [2] [] [0, 3, 10] hW5880 hE5879 (env' := [(0, .v (.int .u8 x)), (3, .p 0 0), (10, .v (.bool (!b5876)))]) (by kernel_rfl) rfl fun a5882 hE5883 => ?_
  clear hE5879
  refine wpOps_nil ?_
  refine then_normal ?_
  refine cond_of hE5883 (b := !b5876) (by kernel_rfl) (fun hc5884 => ?_) (fun hc5884 => ?_)
  ·
    refine go_seq_region [0] (by kernel_rfl) ?_
    refine go_runs [0] [] [4] hW5880 hE5883 (env' := [(4, .v (.bool true))]) (by kernel_rfl) rfl fun a5886 hE5887 => ?_
    clear hE5883
    refine wpOps_nil ?_
    refine then_normal ?_
    refine wp_ret ?_
    refine then_ret ?_
    refine leave hE5887 hW5880.cells (v := .bool true) (by kernel_rfl) ?_
    exact ⟨rfl, hW5880.step⟩
  ·
    refine wp_skip ?_
    refine then_normal ?_
    refine go_seq_region [0, 1] (by kernel_rfl) ?_
    refine of_op (wpOp_call hE5883 (f := 26) (vs := []) (d := 11) (by kernel_rfl) Try.call26 (xRenewDelegationTokenResponse _) ?_)
    rintro e_ w5890 ⟨rfl, hs5889⟩
    refine ⟨_, rfl, fun a5891 hE5892 => ?_⟩
    have hW5893 := hW5880.next_nil hs5889
    have hF5894 := Fr.nil [⟨b5863, 0, [.int .i64 n5843, .slice A5848 s5844.length c5849, .bool b5845, .slice A5850 l5846.length c5851, .slice A5852 u5847.length c5853], true⟩] [] hs5889
    clear hE5883 hW5880
    refine go_runs [1] [] [0, 3, 5] hW5893 hE5892 (env' := [(0, .v (.int .u8 x)), (3, .p 0 0), (5, .v (.int .i64 2))]) (by kernel_rfl) rfl fun a5895 hE5896 => ?_
    clear hE5892
    refine wpOps_nil ?_
    refine then_normal ?_
    refine wp_seq ?_
    refine go_seq_region [0, 1] (by kernel_rfl) ?_
    refine go_runs [0, 1] [] [0, 3, 5, 13] hW5893 hE5896 (env' := [(0, .v (.int .u8 x)), (3, .p 0 0), (5, .v (.int .i64 2)), (13, .v (.bool false))]) (by kernel_rfl) rfl fun a5897 hE5898 => ?_
    clear hE5896
    refine wpOps_nil ?_
    refine then_normal ?_
    refine cond_false hE5898 (b := false) (by kernel_rfl) rfl ?_
    refine wp_skip ?_
    refine then_normal ?_
    refine go_seq_region [0, 1, 2, 3, 4, 5, 6] (by kernel_rfl) ?_
    refine of_op (wpOp_call hE5898 (f := 27) (vs := []) (d := 14) (by kernel_rfl) Try.call27 (sRenewDelegationTokenResponse _ (Imm F w w5890 [⟨b5863, 0, [.int .i64 n5843, .slice A5848 s5844.length c5849, .bool b5845, .slice A5850 l5846.length c5851, .slice A5852 u5847.length c5853], true⟩] [])) ?_)
    rintro e_ w5903 ⟨A5901, c5902, rfl, hr5900, hs5899⟩
    obtain ⟨xs5904, h5905, h5906⟩ := hr5900.move (Step.refl _ Nil) nilM (hW5893.laid (G := F) hs5899)
    refine ⟨_, rfl, fun a5907 hE5908 => ?_⟩
    have hW5909 := hW5893.next_nil hs5899
    have hF5910 := Fr.nil [⟨b5863, 0, [.int .i64 n5843, .slice A5848 s5844.length c5849, .bool b5845, .slice A5850 l5846.length c5851, .slice A5852 u5847.length c5853], true⟩] [] hs5899
    clear hE5898
    refine go_runs [1, 2] [3, 4, 5, 6] [3, 14, 15, 16] hW5909 hE5908 (env' := [(3, .p 0 0), (14, .v (.agg #[.slice A5901 sRenewDelegationTokenResponseF.length c5902, .int .i64 sRenewDelegationTokenResponseX])), (15, .v (.int .u8 x)), (16, .v (.int .i64 2))]) (by kernel_rfl) rfl fun a5911 hE5912 => ?_
    clear hE5908
    refine of_op (wpOp_call hE5912 (f := 17) (vs := [.int .u8 x, .int .i64 2]) (d := 17) (by kernel_rfl) Try.call17 (lVersion x 2 hx hx' (by decide) (by decide) _) ?_)
    rintro e_ w5914 ⟨rfl, hs5913⟩
    refine ⟨_, rfl, fun a5915 hE5916 => ?_⟩
    have hW5917 := hW5909.next_nil hs5913
    have hF5918 := Fr.nil [⟨b5863, 0, [.int .i64 n5843, .slice A5848 s5844.length c5849, .bool b5845, .slice A5850 l5846.length c5851, .slice A5852 u5847.length c5853], true⟩] [] hs5913
    clear hE5912 hW5909
    refine of_op (wpOp_alloc hW5917 hE5916 (d := 6) (cs := [.slice none 0 0, .int .i64 0]) (by kernel_rfl) fun b5919 a5920 w5921 hb5922 hz5923 hF5924 hW5925 hE5926 => ?_)
    clear hE5916 hW5917
    refine of_op (wpOp_store hW5925 hE5926 (oi := 1) (cs := [.slice A5901 sRenewDelegationTokenResponseF.length c5902, .int .i64 sRenewDelegationTokenResponseX]) (by kernel_rfl) fun w5927 hF5928 hW5929 hE5930 => ?_)
    clear hE5926 hW5925
    refine go_runs [6] [] [3, 6, 7] hW5929 hE5930 (env' := [(3, .p 0 0), (6, .p 1 0), (7, .v (.int .i64 (Int.tmod x (2 + 1))))]) (by kernel_rfl) rfl fun a5931 hE5932 => ?_
    clear hE5930
    refine wpOps_nil ?_
    refine then_normal ?_
    refine go_seq_drawK 13 (by kernel_rfl) hW5929 fun w5933 hF5934 hW5935 hT5936 => ?_
    clear hW5929
    refine go_runsD [0, 1, 2, 3, 4, 8, 9, 10] [18, 20, 21, 22, 26, 27, 28] 6 (by kernel_rfl) (panicFree_then panicFree_body) (fun _ h => h.cells) hT5936 hE5932 (by kernel_rfl) (env' := [(18, .v (.int .i64 (Int.tmod x (2 + 1)))), (20, .v (.slice A5901 sRenewDelegationTokenResponseF.length c5902)), (21, .v (.int .i64 (Int.tmod x (2 + 1)))), (22, .v (.agg #[.int .i64 n5843, .slice A5848 s5844.length c5849, .bool b5845, .slice A5850 l5846.length c5851, .slice A5852 u5847.length c5853])), (26, .v (.agg #[.slice A5901 sRenewDelegationTokenResponseF.length c5902, .int .i64 sRenewDelegationTokenResponseX])), (27, .v (.int .i64 (Int.tmod x (2 + 1)))), (28, .v (.agg #[.int .i64 n5843, .slice A5848 s5844.length c5849, .bool b5845, .slice A5850 l5846.length c5851, .slice A5852 u5847.length c5853]))]) (by kernel_rfl) rfl fun a5937 hE5938 => ?_
    clear hE5932
    refine anyC_op (i := 5) (by kernel_rfl) (wpOp_call hE5938 (f := 13) (vs := [.slice A5901 sRenewDelegationTokenResponseF.length c5902, .int .i64 (Int.tmod x (2 + 1)), .agg #[.int .i64 n5843, .slice A5848 s5844.length c5849, .bool b5845, .slice A5850 l5846.length c5851, .slice A5852 u5847.length c5853]]) (d := 23) (by kernel_rfl) Try.call13 (sFitOK _ _ _ sRenewDelegationTokenResponseF (Int.tmod x (2 + 1)) _ (Tree.mk n5843 s5844 b5845 l5846 u5847) _ _ ⟨xs5904, (h5905.move (Fr.trans (Fr.trans (Fr.trans hF5918 hF5924) hF5928) hF5934).step immM (Fr.trans (Fr.trans (Fr.trans hF5918 hF5924) hF5928) hF5934).to'), (fun i_ x_ h_ => ((h5906 i_ x_ h_).move (Fr.trans (Fr.trans (Fr.trans hF5918 hF5924) hF5928) hF5934).step immM (Fr.trans (Fr.trans (Fr.trans hF5918 hF5924) hF5928) hF5934).to'))⟩ sRenewDelegationTokenResponse_plain sRenewDelegationTokenResponse_depth (ht.move hW5935.step nilM hW5935.imm)) ?_)
    rintro e_ w5942 ⟨cs5941, rfl, hr5940, hs5939⟩
    have hr5943 := hr5940.move (Step.refl _ Nil) nilM (hW5935.laid (G := F) hs5939)
    obtain ⟨n5944, s5945, b5946, l5947, u5948, A5949, c5950, A5951, c5952, A5953, c5954, xs5955, ht5961, hcs5956, h5957, h5958, h5959, h5960⟩ := hr5943.open_
    rw [hcs5956] at hr5943
    have hsm5962 := h5957.small
    have hsm5963 := h5958.small
    rw [hcs5956]
    refine ⟨_, rfl, fun a5964 hE5965 => ?_⟩
    have hW5966 := hW5935.next_nil hs5939
    have hF5967 := Fr.nil [⟨b5863, 0, [.int .i64 n5843, .slice A5848 s5844.length c5849, .bool b5845, .slice A5850 l5846.length c5851, .slice A5852 u5847.length c5853], true⟩, ⟨b5919, 0, [.slice A5901 sRenewDelegationTokenResponseF.length c5902, .int .i64 sRenewDelegationTokenResponseX], true⟩] [] hs5939
    clear hE5938
    have hT5968 : TT w5933 [⟨b5863, 0, [.int .i64 n5843, .slice A5848 s5844.length c5849, .bool b5845, .slice A5850 l5846.length c5851, .slice A5852 u5847.length c5853], true⟩, ⟨b5919, 0, [.slice A5901 sRenewDelegationTokenResponseF.length c5902, .int .i64 sRenewDelegationTokenResponseX], true⟩] [] w5942 := ⟨hW5966.cells, hF5967.step⟩
    refine ⟨fun _ => hT5968, ?_⟩
    refine anyC_op (i := 6) (by kernel_rfl) (wpOp_call hE5965 (f := 12) (vs := [.agg #[.int .i64 n5944, .slice A5949 s5945.length c5950, .bool b5946, .slice A5951 l5947.length c5952, .slice A5953 u5948.length c5954]]) (d := 24) (by kernel_rfl) Try.call12 (lGiven _ _ _ _ _ hr5943 (Nat.le_refl _)) ?_)
    rintro e_ w5972 ⟨cs5971, rfl, hr5970, hs5969⟩
    have hr5973 := hr5970.move (Step.refl _ Nil) nilM (hW5966.laid (G := F) hs5969)
    obtain ⟨n5974, s5975, b5976, l5977, u5978, A5979, c5980, A5981, c5982, A5983, c5984, xs5985, ht5991, hcs5986, h5987, h5988, h5989, h5990⟩ := hr5973.open_
    rw [hcs5986] at hr5973
    have hsm5992 := h5987.small
    have hsm5993 := h5988.small
    rw [hcs5986]
    refine ⟨_, rfl, fun a5994 hE5995 => ?_⟩
    have hW5996 := hW5966.next_nil hs5969
    have hF5997 := Fr.nil [⟨b5863, 0, [.int .i64 n5843, .slice A5848 s5844.length c5849, .bool b5845, .slice A5850 l5846.length c5851, .slice A5852 u5847.length c5853], true⟩, ⟨b5919, 0, [.slice A5901 sRenewDelegationTokenResponseF.length c5902, .int .i64 sRenewDelegationTokenResponseX], true⟩] [] hs5969
    clear hE5965
    have hT5998 : TT w5933 [⟨b5863, 0, [.int .i64 n5843, .slice A5848 s5844.length c5849, .bool b5845, .slice A5850 l5846.length c5851, .slice A5852 u5847.length c5853], true⟩, ⟨b5919, 0, [.slice A5901 sRenewDelegationTokenResponseF.length c5902, .int .i64 sRenewDelegationTokenResponseX], true⟩] [] w5972 := ⟨hW5996.cells, (Fr.trans hF5967 hF5997).step⟩
    refine ⟨fun _ => hT5998, ?_⟩
    refine anyC_op (i := 7) (by kernel_rfl) (wpOp_call hE5995 (f := 28) (vs := [.int .i64 (Int.tmod x (2 + 1)), .agg #[.int .i64 n5974, .slice A5979 s5975.length c5980, .bool b5976, .slice A5981 l5977.length c5982, .slice A5983 u5978.length c5984]]) (d := 25) (by kernel_rfl) Try.call28 (mRenewDelegationTokenResponse (Int.tmod x (2 + 1)) _ (fitT (Int.tmod x (2 + 1)) 8 sRenewDelegationTokenResponseF (Tree.mk n5843 s5844 b5845 l5846 u5847)) _ _ hr5973 hsort hul hxl hmade) ?_)
    rintro e_ w6003 ⟨A6001, c6002, rfl, ho6000, hs5999⟩
    refine ⟨_, rfl, fun a6004 hE6005 => ?_⟩
    have hW6006 := hW5996.fresh hs5999 (brow A6001 c6002 5 (makeRenewDelegationTokenResponse (Int.tmod x (2 + 1)) (fitT (Int.tmod x (2 + 1)) 8 sRenewDelegationTokenResponseF (Tree.mk n5843 s5844 b5845 l5846 u5847)))) (Nat.le_refl _) ho6000
    have hF6007 := Fr.fresh [⟨b5863, 0, [.int .i64 n5843, .slice A5848 s5844.length c5849, .bool b5845, .slice A5850 l5846.length c5851, .slice A5852 u5847.length c5853], true⟩, ⟨b5919, 0, [.slice A5901 sRenewDelegationTokenResponseF.length c5902, .int .i64 sRenewDelegationTokenResponseX], true⟩] [] hs5999 (brow A6001 c6002 5 (makeRenewDelegationTokenResponse (Int.tmod x (2 + 1)) (fitT (Int.tmod x (2 + 1)) 8 sRenewDelegationTokenResponseF (Tree.mk n5843 s5844 b5845 l5846 u5847)))) (Nat.le_refl _) ho6000
    clear hE5995 hW5996
    have hT6008 : TT w5933 [⟨b5863, 0, [.int .i64 n5843, .slice A5848 s5844.length c5849, .bool b5845, .slice A5850 l5846.length c5851, .slice A5852 u5847.length c5853], true⟩, ⟨b5919, 0, [.slice A5901 sRenewDelegationTokenResponseF.length c5902, .int .i64 sRenewDelegationTokenResponseX], true⟩] [] w6003 := ⟨hW6006.cells, (Fr.trans (Fr.trans hF5967 hF5997) hF6007).step⟩
    refine ⟨fun _ => hT6008, ?_⟩
    refine anyC_op (i := 11) (by kernel_rfl) (wpOp_call hE6005 (f := 19) (vs := [.agg #[.slice A5901 sRenewDelegationTokenResponseF.length c5902, .int .i64 sRenewDelegationTokenResponseX], .int .i64 (Int.tmod x (2 + 1)), .agg #[.int .i64 n5843, .slice A5848 s5844.length c5849, .bool b5845, .slice A5850 l5846.length c5851, .slice A5852 u5847.length c5853]]) (d := 29) (by kernel_rfl) Try.call19 (sWrite _ _ sRenewDelegationTokenResponseF sRenewDelegationTokenResponseX (Int.tmod x (2 + 1)) _ (Tree.mk n5843 s5844 b5845 l5846 u5847) _ _ ⟨xs5904, (h5905.move (Fr.trans (Fr.trans (Fr.trans (Fr.trans (Fr.trans (Fr.trans hF5918 hF5924) hF5928) hF5934) hF5967) hF5997) hF6007).step immM (Fr.trans (Fr.trans (Fr.trans (Fr.trans (Fr.trans (Fr.trans hF5918 hF5924) hF5928) hF5934) hF5967) hF5997) hF6007).to'), (fun i_ x_ h_ => ((h5906 i_ x_ h_).move (Fr.trans (Fr.trans (Fr.trans (Fr.trans (Fr.trans (Fr.trans hF5918 hF5924) hF5928) hF5934) hF5967) hF5997) hF6007).step immM (Fr.trans (Fr.trans (Fr.trans (Fr.trans (Fr.trans (Fr.trans hF5918 hF5924) hF5928) hF5934) hF5967) hF5997) hF6007).to'))⟩ sRenewDelegationTokenResponse_depth (ht.move hW6006.step nilM hW6006.imm) hroom) ?_)
    rintro e_ w6013 ⟨A6011, c6012, rfl, ho6010, hs6009⟩
    refine ⟨_, rfl, fun a6014 hE6015 => ?_⟩
    have hW6016 := hW6006.fresh hs6009 (brow A6011 c6012 5 (writeB 8 sRenewDelegationTokenResponseF sRenewDelegationTokenResponseX (Int.tmod x (2 + 1)) (Tree.mk n5843 s5844 b5845 l5846 u5847))) (Nat.le_refl _) ho6010
    have hF6017 := Fr.fresh [⟨b5863, 0, [.int .i64 n5843, .slice A5848 s5844.length c5849, .bool b5845, .slice A5850 l5846.length c5851, .slice A5852 u5847.length c5853], true⟩, ⟨b5919, 0, [.slice A5901 sRenewDelegationTokenResponseF.length c5902, .int .i64 sRenewDelegationTokenResponseX], true⟩] [brow A6001 c6002 5 (makeRenewDelegationTokenResponse (Int.tmod x (2 + 1)) (fitT (Int.tmod x (2 + 1)) 8 sRenewDelegationTokenResponseF (Tree.mk n5843 s5844 b5845 l5846 u5847)))] hs6009 (brow A6011 c6012 5 (writeB 8 sRenewDelegationTokenResponseF sRenewDelegationTokenResponseX (Int.tmod x (2 + 1)) (Tree.mk n5843 s5844 b5845 l5846 u5847))) (Nat.le_refl _) ho6010
    clear hE6005 hW6006
    have hT6018 : TT w5933 [⟨b5863, 0, [.int .i64 n5843, .slice A5848 s5844.length c5849, .bool b5845, .slice A5850 l5846.length c5851, .slice A5852 u5847.length c5853], true⟩, ⟨b5919, 0, [.slice A5901 sRenewDelegationTokenResponseF.length c5902, .int .i64 sRenewDelegationTokenResponseX], true⟩] [] w6013 := ⟨hW6016.cells, (Fr.trans (Fr.trans (Fr.trans hF5967 hF5997) hF6007) hF6017).step⟩
    refine ⟨fun _ => hT6018, ?_⟩
    refine anyC_op (i := 12) (by kernel_rfl) (wpOp_call hE6015 (f := 10) (vs := [.slice A6001 ((makeRenewDelegationTokenResponse (Int.tmod x (2 + 1)) (fitT (Int.tmod x (2 + 1)) 8 sRenewDelegationTokenResponseF (Tree.mk n5843 s5844 b5845 l5846 u5847))).length) c6002, .slice A6011 ((writeB 8 sRenewDelegationTokenResponseF sRenewDelegationTokenResponseX (Int.tmod x (2 + 1)) (Tree.mk n5843 s5844 b5845 l5846 u5847)).length) c6012]) (d := 30) (by kernel_rfl) Try.call10 (sSame _ _ _ _ (makeRenewDelegationTokenResponse (Int.tmod x (2 + 1)) (fitT (Int.tmod x (2 + 1)) 8 sRenewDelegationTokenResponseF (Tree.mk n5843 s5844 b5845 l5846 u5847))) (writeB 8 sRenewDelegationTokenResponseF sRenewDelegationTokenResponseX (Int.tmod x (2 + 1)) (Tree.mk n5843 s5844 b5845 l5846 u5847)) _ _ (octs_own (hW6016.own 0 _ rfl) (by first | omega | (simp only [be_length]; exact Nat.le_trans (widthI_le _) (by decide)) | (have := hroom; omega) | (have := hmade; omega)) (F := fun _ _ => True) (fun _ _ _ => trivial)) (octs_own (hW6016.own 1 _ rfl) (by first | omega | (simp only [be_length]; exact Nat.le_trans (widthI_le _) (by decide)) | (have := hroom; omega) | (have := hmade; omega)) (F := fun _ _ => True) (fun _ _ _ => trivial))) ?_)
    rintro e_ w6020 ⟨rfl, hs6019⟩
    refine ⟨_, rfl, fun a6021 hE6022 => ?_⟩
    have hW6023 := hW6016.next_nil hs6019
    have hF6024 := Fr.nil [⟨b5863, 0, [.int .i64 n5843, .slice A5848 s5844.length c5849, .bool b5845, .slice A5850 l5846.length c5851, .slice A5852 u5847.length c5853], true⟩, ⟨b5919, 0, [.slice A5901 sRenewDelegationTokenResponseF.length c5902, .int .i64 sRenewDelegationTokenResponseX], true⟩] [brow A6001 c6002 5 (makeRenewDelegationTokenResponse (Int.tmod x (2 + 1)) (fitT (Int.tmod x (2 + 1)) 8 sRenewDelegationTokenResponseF (Tree.mk n5843 s5844 b5845 l5846 u5847))), brow A6011 c6012 5 (writeB 8 sRenewDelegationTokenResponseF sRenewDelegationTokenResponseX (Int.tmod x (2 + 1)) (Tree.mk n5843 s5844 b5845 l5846 u5847))] hs6019
    clear hE6015 hW6016
    have hT6025 : TT w5933 [⟨b5863, 0, [.int .i64 n5843, .slice A5848 s5844.length c5849, .bool b5845, .slice A5850 l5846.length c5851, .slice A5852 u5847.length c5853], true⟩, ⟨b5919, 0, [.slice A5901 sRenewDelegationTokenResponseF.length c5902, .int .i64 sRenewDelegationTokenResponseX], true⟩] [] w6020 := ⟨hW6023.cells, (Fr.trans (Fr.trans (Fr.trans (Fr.trans hF5967 hF5997) hF6007) hF6017) hF6024).step⟩
    refine ⟨fun _ => hT6025, ?_⟩
    refine anyC_op (i := 13) (by kernel_rfl) (wpOp_pure [4] hW6023.cells hE6022 (env' := [(4, .v (.bool (decide (makeRenewDelegationTokenResponse (Int.tmod x (2 + 1)) (fitT (Int.tmod x (2 + 1)) 8 sRenewDelegationTokenResponseF (Tree.mk n5843 s5844 b5845 l5846 u5847)) = writeB 8 sRenewDelegationTokenResponseF sRenewDelegationTokenResponseX (Int.tmod x (2 + 1)) (Tree.mk n5843 s5844 b5845 l5846 u5847)))))]) (by kernel_rfl) fun a6026 hE6027 => ?_)
    clear hE6022
    refine ⟨fun h => absurd rfl h, ?_⟩
    refine anyC_done (by kernel_rfl) ?_ _
    refine then_normal ?_
    refine wp_ret ?_
    refine leave hE6027 hW6023.cells (v := .bool (decide (makeRenewDelegationTokenResponse (Int.tmod x (2 + 1)) (fitT (Int.tmod x (2 + 1)) 8 sRenewDelegationTokenResponseF (Tree.mk n5843 s5844 b5845 l5846 u5847)) = writeB 8 sRenewDelegationTokenResponseF sRenewDelegationTokenResponseX (Int.tmod x (2 + 1)) (Tree.mk n5843 s5844 b5845 l5846 u5847)))) (by kernel_rfl) ?_
    exact ⟨by rw [hpure]; simp, hW6023.step⟩

theorem xUnregisterControllerRequest (w : World) : Calls Try.prog 15 #[] w (Gives w (.int .i64 0)) := by
  refine enter (n := 4) Try.func15 rfl Try.ntmps15 (by kernel_rfl) fun a hE => ?_
  have hW := WOk.start w Nil
  refine go_seq_region [0] (by kernel_rfl) ?_
  refine go_runs [0] [] [] hW hE (env' := []) (by kernel_rfl) rfl fun a6064 hE6065 => ?_
  clear hE
  refine wpOps_nil ?_
  refine then_normal ?_
  refine go_seq_region [0, 1, 2, 3] (by kernel_rfl) ?_
  refine of_op (wpOp_inline hE6065 (f := 37) (vs := []) (d := 1) (n' := 3) (by kernel_rfl) Try.call37 Try.func37 rfl Try.ntmps37 (by kernel_rfl) fun a6066 hE6067 => ?_)
  refine go_seq_region [0] (by kernel_rfl) ?_
  refine go_runs [0] [] [] hW hE6067 (env' := []) (by kernel_rfl) rfl fun a6068 hE6069 => ?_
  clear hE6067
  refine wpOps_nil ?_
  refine then_normal ?_
  refine go_seq_region [0] (by kernel_rfl) ?_
  refine of_op (wpOp_alloc hW hE6069 (d := 1) (cs := [.int .i16 0, .int .i32 0, .map none]) (by kernel_rfl) fun b6070 a6071 w6072 hb6073 hz6074 hF6075 hW6076 hE6077 => ?_)
  clear hE6069 hW
  refine wpOps_nil ?_
  refine then_normal ?_
  refine go_seq_region [0] (by kernel_rfl) ?_
  refine of_op (wpOp_inline hE6077 (f := 65) (vs := [.pointer (some ⟨b6070, 0, none⟩)]) (d := 2) (n' := 2) (by kernel_rfl) Try.call65 Try.func65 rfl Try.ntmps65 (by kernel_rfl) fun a6078 hE6079 => ?_)
  have hE6080 := hE6079.recast 0 (.v (.pointer (some ⟨b6070, 0, none⟩))) (.p 0 0) rfl rfl (Nat.le_of_ble_eq_true (n := 1) rfl)
  refine wp_skip ?_
  refine leave_end hE6080 hW6076.cells (v := .tuple #[]) (by kernel_rfl) ?_
  refine ⟨_, rfl, fun a6081 hE6082 => ?_⟩
  have hE6083 : EnvOk 3 [⟨b6070, 0, [.int .i16 0, .int .i32 0, .map none], true⟩] [(2, .v (.tuple #[])), (1, .p 0 0)] _ := hE6082.places (⟨rfl, rfl, trivial⟩)
  refine wpOps_nil ?_
  refine then_normal ?_
  refine go_seq_region [0] (by kernel_rfl) ?_
  refine go_runs [0] [] [0] hW6076 hE6083 (env' := [(0, .p 0 0)]) (by kernel_rfl) rfl fun a6084 hE6085 => ?_
  clear hE6083
  refine wpOps_nil ?_
  refine then_normal ?_
  refine wp_ret ?_
  refine leave hE6085 hW6076.cells (v := .pointer (some ⟨b6070, 0, none⟩)) (by kernel_rfl) ?_
  refine ⟨_, rfl, fun a6086 hE6087 => ?_⟩
  have hE6088 : EnvOk 4 [⟨b6070, 0, [.int .i16 0, .int .i32 0, .map none], true⟩] [(1, .v (.pointer (some ⟨b6070, 0, none⟩)))] _ := hE6087.places (trivial)
  refine of_op (wpOp_inline hE6088 (f := 38) (vs := [.pointer (some ⟨b6070, 0, none⟩)]) (d := 2) (n' := 3) (by kernel_rfl) Try.call38 Try.func38 rfl Try.ntmps38 (by kernel_rfl) fun a6089 hE6090 => ?_)
  refine go_seq_region [0] (by kernel_rfl) ?_
  refine go_runs [0] [] [] hW6076 hE6090 (env' := []) (by kernel_rfl) rfl fun a6091 hE6092 => ?_
  clear hE6090
  refine wpOps_nil ?_
  refine then_normal ?_
  refine go_seq_region [0] (by kernel_rfl) ?_
  refine go_runs [0] [] [2] hW6076 hE6092 (env' := [(2, .v (.int .i16 0))]) (by kernel_rfl) rfl fun a6093 hE6094 => ?_
  clear hE6092
  refine wpOps_nil ?_
  refine then_normal ?_
  refine wp_ret ?_
  refine leave hE6094 hW6076.cells (v := .int .i16 0) (by kernel_rfl) ?_
  refine ⟨_, rfl, fun a6095 hE6096 => ?_⟩
  have hE6097 : EnvOk 4 [⟨b6070, 0, [.int .i16 0, .int .i32 0, .map none], true⟩] [(2, .v (.int .i16 0)), (1, .v (.pointer (some ⟨b6070, 0, none⟩)))] _ := hE6096.places (⟨rfl, rfl, trivial⟩)
  refine go_runs [2, 3] [] [0] hW6076 hE6097 (env' := [(0, .v (.int .i64 0))]) (by kernel_rfl) rfl fun a6098 hE6099 => ?_
  clear hE6097
  refine wpOps_nil ?_
  refine then_normal ?_
  refine wp_ret ?_
  refine leave hE6099 hW6076.cells (v := .int .i64 0) (by kernel_rfl) ?_
  exact ⟨rfl, hW6076.step⟩

theorem sUnregisterControllerRequest_depth : depths sUnregisterControllerRequestF ≤ 8 := by simp [sUnregisterControllerRequestF, Fld.depth.depths, Fld.depth]
theorem sUnregisterControllerRequest_plain : plains sUnregisterControllerRequestF := by simp [sUnregisterControllerRequestF, Fld.plain.plains, Fld.plain]

theorem lawUnregisterControllerRequest (x : Int) (hx : 0 ≤ x) (hx' : x < 256) (ct : List Value) (t : Tree) (w : World) (F : Nat → Nat → Prop) (ht : TreeR w F ct t) (hroom : (writeB 8 sUnregisterControllerRequestF sUnregisterControllerRequestX (Int.tmod x (0 + 1)) t).length ≤ 1099511627776) (hsort : Sorted (fitT (Int.tmod x (0 + 1)) 8 sUnregisterControllerRequestF t).U) (hul : (fitT (Int.tmod x (0 + 1)) 8 sUnregisterControllerRequestF t).U.length ≤ 1000000) (hxl : ∀ y ∈ (fitT (Int.tmod x (0 + 1)) 8 sUnregisterControllerRequestF t).U, y.2.length < 4294967296) (hmade : (makeUnregisterControllerRequest (Int.tmod x (0 + 1)) (fitT (Int.tmod x (0 + 1)) 8 sUnregisterControllerRequestF t)).length + 16 ≤ 1099511627776) (hpure : makeUnregisterControllerRequest (Int.tmod x (0 + 1)) (fitT (Int.tmod x (0 + 1)) 8 sUnregisterControllerRequestF t) = writeB 8 sUnregisterControllerRequestF sUnregisterControllerRequestX (Int.tmod x (0 + 1)) t) :
    Calls Try.prog 4 #[.int .u8 x, .agg ct.toArray] w (Gives w (.bool true)) := by
  obtain ⟨n6100, s6101, b6102, l6103, u6104, A6105, c6106, A6107, c6108, A6109, c6110, xs6111, rfl, rfl, h6113, h6114, h6115, h6116⟩ := ht.open_
  have hsm6118 := h6113.small
  have hsm6119 := h6114.small
  refine enter (n := 31) Try.func4 rfl Try.ntmps4 (by kernel_rfl) fun a hE => ?_
  have hW := WOk.start w Nil
  refine go_seq_region [0, 1] (by kernel_rfl) ?_
  refine of_op (wpOp_box hW hE (d := 3) (cs := [.int .i64 n6100, .slice A6105 s6101.length c6106, .bool b6102, .slice A6107 l6103.length c6108, .slice A6109 u6104.length c6110]) (by kernel_rfl) fun b6120 a6121 w6122 hb6123 hz6124 hF6125 hW6126 hE6127 => ?_)
  clear hE hW
  refine go_runs [1] [] [0, 3] hW6126 hE6127 (env' := [(0, .v (.int .u8 x)), (3, .p 0 0)]) (by kernel_rfl) rfl fun a6128 hE6129 => ?_
  clear hE6127
  refine wpOps_nil ?_
  refine then_normal ?_
  refine wp_seq ?_
  refine go_seq_region [0, 1, 2] (by kernel_rfl) ?_
  refine go_runs [0] [1, 2] [0, 3, 8] hW6126 hE6129 (env' := [(0, .v (.int .u8 x)), (3, .p 0 0), (8, .v (.agg #[.int .i64 n6100, .slice A6105 s6101.length c6106, .bool b6102, .slice A6107 l6103.length c6108, .slice A6109 u6104.length c6110]))]) (by kernel_rfl) rfl fun a6130 hE6131 => ?_
  clear hE6129
  refine of_op (wpOp_call hE6131 (f := 8) (vs := [.agg #[.int .i64 n6100, .slice A6105 s6101.length c6106, .bool b6102, .slice A6107 l6103.length c6108, .slice A6109 u6104.length c6110]]) (d := 9) (by kernel_rfl) Try.call8 (lFits1 _ _ _ _ (ht.move hW6126.step nilM hW6126.imm)) ?_)
  rintro e_ w6134 ⟨b6133, rfl, hs6132⟩
  refine ⟨_, rfl, fun a6135 hE6136 => ?_⟩
  have hW6137 := hW6126.next_nil hs6132
  have hF6138 := Fr.nil [⟨b6120, 0, [.int .i64 n6100, .slice A6105 s6101.length c6106, .bool b6102, .slice A6107 l6103.length c6108, .slice A6109 u6104.length c6110], true⟩] [] hs6132
  clear hE6131 hW6126
  refine go_runs [2] [] [0, 3, 10] hW6137 hE6136 (env' := [(0, .v (.int .u8 x)), (3, .p 0 0), (10, .v (.bool (!b6133)))]) (by kernel_rfl) rfl fun a6139 hE6140 => ?_
  clear hE6136
  refine wpOps_nil ?_
  refine then_normal ?_
  refine cond_of hE6140 (b := !b6133) (by kernel_rfl) (fun hc6141 => ?_) (fun hc6141 => ?_)
  ·
    refine go_seq_region [0] (by kernel_rfl) ?_
    refine go_runs [0] [] [4] hW6137 hE6140 (env' := [(4, .v (.bool true))]) (by kernel_rfl) rfl fun a6143 hE6144 => ?_
    clear hE6140
    refine wpOps_nil ?_
    refine then_normal ?_
    refine wp_ret ?_
    refine then_ret ?_
    refine leave hE6144 hW6137.cells (v := .bool true) (by kernel_rfl) ?_
    exact ⟨rfl, hW6137.step⟩
  ·
    refine wp_skip ?_
    refine then_normal ?_
    refine go_seq_region [0, 1] (by kernel_rfl) ?_
    refine of_op (wpOp_call hE6140 (f := 15) (vs := []) (d := 11) (by kernel_rfl) Try.call15 (xUnregisterControllerRequest _) ?_)
    rintro e_ w6147 ⟨rfl, hs6146⟩
    refine ⟨_, rfl, fun a6148 hE6149 => ?_⟩
    have hW6150 := hW6137.next_nil hs6146
    have hF6151 := Fr.nil [⟨b6120, 0, [.int .i64 n6100, .slice A6105 s6101.length c6106, .bool b6102, .slice A6107 l6103.length c6108, .slice A6109 u6104.length c6110], true⟩] [] hs6146
    clear hE6140 hW6137
    refine go_runs [1] [] [0, 3, 5] hW6150 hE6149 (env' := [(0, .v (.int .u8 x)), (3, .p 0 0), (5, .v (.int .i64 0))]) (by kernel_rfl) rfl fun a6152 hE6153 => ?_
    clear hE6149
    refine wpOps_nil ?_
    refine then_normal ?_
    refine wp_seq ?_
    refine go_seq_region [0, 1] (by kernel_rfl) ?_
    refine go_runs [0, 1] [] [0, 3, 5, 13] hW6150 hE6153 (env' := [(0, .v (.int .u8 x)), (3, .p 0 0), (5, .v (.int .i64 0)), (13, .v (.bool false))]) (by kernel_rfl) rfl fun a6154 hE6155 => ?_
    clear hE6153
    refine wpOps_nil ?_
    refine then_normal ?_
    refine cond_false hE6155 (b := false) (by kernel_rfl) rfl ?_
    refine wp_skip ?_
    refine then_normal ?_
    refine go_seq_region [0, 1, 2, 3, 4, 5, 6] (by kernel_rfl) ?_
    refine of_op (wpOp_call hE6155 (f := 16) (vs := []) (d := 14) (by kernel_rfl) Try.call16 (sUnregisterControllerRequest _ (Imm F w w6147 [⟨b6120, 0, [.int .i64 n6100, .slice A6105 s6101.length c6106, .bool b6102, .slice A6107 l6103.length c6108, .slice A6109 u6104.length c6110], true⟩] [])) ?_)
    rintro e_ w6160 ⟨A6158, c6159, rfl, hr6157, hs6156⟩
    obtain ⟨xs6161, h6162, h6163⟩ := hr6157.move (Step.refl _ Nil) nilM (hW6150.laid (G := F) hs6156)
    refine ⟨_, rfl, fun a6164 hE6165 => ?_⟩
    have hW6166 := hW6150.next_nil hs6156
    have hF6167 := Fr.nil [⟨b6120, 0, [.int .i64 n6100, .slice A6105 s6101.length c6106, .bool b6102, .slice A6107 l6103.length c6108, .slice A6109 u6104.length c6110], true⟩] [] hs6156
    clear hE6155
    refine go_runs [1, 2] [3, 4, 5, 6] [3, 14, 15, 16] hW6166 hE6165 (env' := [(3, .p 0 0), (14, .v (.agg #[.slice A6158 sUnregisterControllerRequestF.length c6159, .int .i64 sUnregisterControllerRequestX])), (15, .v (.int .u8 x)), (16, .v (.int .i64 0))]) (by kernel_rfl) rfl fun a6168 hE6169 => ?_
    clear hE6165
    refine of_op (wpOp_call hE6169 (f := 17) (vs := [.int .u8 x, .int .i64 0]) (d := 17) (by kernel_rfl) Try.call17 (lVersion x 0 hx hx' (by decide) (by decide) _) ?_)
    rintro e_ w6171 ⟨rfl, hs6170⟩
    refine ⟨_, rfl, fun a6172 hE6173 => ?_⟩
    have hW6174 := hW6166.next_nil hs6170
    have hF6175 := Fr.nil [⟨b6120, 0, [.int .i64 n6100, .slice A6105 s6101.length c6106, .bool b6102, .slice A6107 l6103.length c6108, .slice A6109 u6104.length c6110], true⟩] [] hs6170
    clear hE6169 hW6166
    refine of_op (wpOp_alloc hW6174 hE6173 (d := 6) (cs := [.slice none 0 0, .int .i64 0]) (by kernel_rfl) fun b6176 a6177 w6178 hb6179 hz6180 hF6181 hW6182 hE6183 => ?_)
    clear hE6173 hW6174
    refine of_op (wpOp_store hW6182 hE6183 (oi := 1) (cs := [.slice A6158 sUnregisterControllerRequestF.length c6159, .int .i64 sUnregisterControllerRequestX]) (by kernel_rfl) fun w6184 hF6185 hW6186 hE6187 => ?_)
    clear hE6183 hW6182
    refine go_runs [6] [] [3, 6, 7] hW6186 hE6187 (env' := [(3, .p 0 0), (6, .p 1 0), (7, .v (.int .i64 (Int.tmod x (0 + 1))))]) (by kernel_rfl) rfl fun a6188 hE6189 => ?_
    clear hE6187
    refine wpOps_nil ?_
    refine then_normal ?_
    refine go_seq_drawK 13 (by kernel_rfl) hW6186 fun w6190 hF6191 hW6192 hT6193 => ?_
    clear hW6186
    refine go_runsD [0, 1, 2, 3, 4, 8, 9, 10] [18, 20, 21, 22, 26, 27, 28] 6 (by kernel_rfl) (panicFree_then panicFree_body) (fun _ h => h.cells) hT6193 hE6189 (by kernel_rfl) (env' := [(18, .v (.int .i64 (Int.tmod x (0 + 1)))), (20, .v (.slice A6158 sUnregisterControllerRequestF.length c6159)), (21, .v (.int .i64 (Int.tmod x (0 + 1)))), (22, .v (.agg #[.int .i64 n6100, .slice A6105 s6101.length c6106, .bool b6102, .slice A6107 l6103.length c6108, .slice A6109 u6104.length c6110])), (26, .v (.agg #[.slice A6158 sUnregisterControllerRequestF.length c6159, .int .i64 sUnregisterControllerRequestX])), (27, .v (.int .i64 (Int.tmod x (0 + 1)))), (28, .v (.agg #[.int .i64 n6100, .slice A6105 s6101.length c6106, .bool b6102, .slice A6107 l6103.length c6108, .slice A6109 u6104.length c6110]))]) (by kernel_rfl) rfl fun a6194 hE6195 => ?_
    clear hE6189
    refine anyC_op (i := 5) (by kernel_rfl) (wpOp_call hE6195 (f := 13) (vs := [.slice A6158 sUnregisterControllerRequestF.length c6159, .int .i64 (Int.tmod x (0 + 1)), .agg #[.int .i64 n6100, .slice A6105 s6101.length c6106, .bool b6102, .slice A6107 l6103.length c6108, .slice A6109 u6104.length c6110]]) (d := 23) (by kernel_rfl) Try.call13 (sFitOK _ _ _ sUnregisterControllerRequestF (Int.tmod x (0 + 1)) _ (Tree.mk n6100 s6101 b6102 l6103 u6104) _ _ ⟨xs6161, (h6162.move (Fr.trans (Fr.trans (Fr.trans hF6175 hF6181) hF6185) hF6191).step immM (Fr.trans (Fr.trans (Fr.trans hF6175 hF6181) hF6185) hF6191).to'), (fun i_ x_ h_ => ((h6163 i_ x_ h_).move (Fr.trans (Fr.trans (Fr.trans hF6175 hF6181) hF6185) hF6191).step immM (Fr.trans (Fr.trans (Fr.trans hF6175 hF6181) hF6185) hF6191).to'))⟩ sUnregisterControllerRequest_plain sUnregisterControllerRequest_depth (ht.move hW6192.step nilM hW6192.imm)) ?_)
    rintro e_ w6199 ⟨cs6198, rfl, hr6197, hs6196⟩
    have hr6200 := hr6197.move (Step.refl _ Nil) nilM (hW6192.laid (G := F) hs6196)
    obtain ⟨n6201, s6202, b6203, l6204, u6205, A6206, c6207, A6208, c6209, A6210, c6211, xs6212, ht6218, hcs6213, h6214, h6215, h6216, h6217⟩ := hr6200.open_
    rw [hcs6213] at hr6200
    have hsm6219 := h6214.small
    have hsm6220 := h6215.small
    rw [hcs6213]
    refine ⟨_, rfl, fun a6221 hE6222 => ?_⟩
    have hW6223 := hW6192.next_nil hs6196
    have hF6224 := Fr.nil [⟨b6120, 0, [.int .i64 n6100, .slice A6105 s6101.length c6106, .bool b6102, .slice A6107 l6103.length c6108, .slice A6109 u6104.length c6110], true⟩, ⟨b6176, 0, [.slice A6158 sUnregisterControllerRequestF.length c6159, .int .i64 sUnregisterControllerRequestX], true⟩] [] hs6196
    clear hE6195
    have hT6225 : TT w6190 [⟨b6120, 0, [.int .i64 n6100, .slice A6105 s6101.length c6106, .bool b6102, .slice A6107 l6103.length c6108, .slice A6109 u6104.length c6110], true⟩, ⟨b6176, 0, [.slice A6158 sUnregisterControllerRequestF.length c6159, .int .i64 sUnregisterControllerRequestX], true⟩] [] w6199 := ⟨hW6223.cells, hF6224.step⟩
    refine ⟨fun _ => hT6225, ?_⟩
    refine anyC_op (i := 6) (by kernel_rfl) (wpOp_call hE6222 (f := 12) (vs := [.agg #[.int .i64 n6201, .slice A6206 s6202.length c6207, .bool b6203, .slice A6208 l6204.length c6209, .slice A6210 u6205.length c6211]]) (d := 24) (by kernel_rfl) Try.call12 (lGiven _ _ _ _ _ hr6200 (Nat.le_refl _)) ?_)
    rintro e_ w6229 ⟨cs6228, rfl, hr6227, hs6226⟩
    have hr6230 := hr6227.move (Step.refl _ Nil) nilM (hW6223.laid (G := F) hs6226)
    obtain ⟨n6231, s6232, b6233, l6234, u6235, A6236, c6237, A6238, c6239, A6240, c6241, xs6242, ht6248, hcs6243, h6244, h6245, h6246, h6247⟩ := hr6230.open_
    rw [hcs6243] at hr6230
    have hsm6249 := h6244.small
    have hsm6250 := h6245.small
    rw [hcs6243]
    refine ⟨_, rfl, fun a6251 hE6252 => ?_⟩
    have hW6253 := hW6223.next_nil hs6226
    have hF6254 := Fr.nil [⟨b6120, 0, [.int .i64 n6100, .slice A6105 s6101.length c6106, .bool b6102, .slice A6107 l6103.length c6108, .slice A6109 u6104.length c6110], true⟩, ⟨b6176, 0, [.slice A6158 sUnregisterControllerRequestF.length c6159, .int .i64 sUnregisterControllerRequestX], true⟩] [] hs6226
    clear hE6222
    have hT6255 : TT w6190 [⟨b6120, 0, [.int .i64 n6100, .slice A6105 s6101.length c6106, .bool b6102, .slice A6107 l6103.length c6108, .slice A6109 u6104.length c6110], true⟩, ⟨b6176, 0, [.slice A6158 sUnregisterControllerRequestF.length c6159, .int .i64 sUnregisterControllerRequestX], true⟩] [] w6229 := ⟨hW6253.cells, (Fr.trans hF6224 hF6254).step⟩
    refine ⟨fun _ => hT6255, ?_⟩
    refine anyC_op (i := 7) (by kernel_rfl) (wpOp_call hE6252 (f := 18) (vs := [.int .i64 (Int.tmod x (0 + 1)), .agg #[.int .i64 n6231, .slice A6236 s6232.length c6237, .bool b6233, .slice A6238 l6234.length c6239, .slice A6240 u6235.length c6241]]) (d := 25) (by kernel_rfl) Try.call18 (mUnregisterControllerRequest (Int.tmod x (0 + 1)) _ (fitT (Int.tmod x (0 + 1)) 8 sUnregisterControllerRequestF (Tree.mk n6100 s6101 b6102 l6103 u6104)) _ _ hr6230 hsort hul hxl hmade) ?_)
    rintro e_ w6260 ⟨A6258, c6259, rfl, ho6257, hs6256⟩
    refine ⟨_, rfl, fun a6261 hE6262 => ?_⟩
    have hW6263 := hW6253.fresh hs6256 (brow A6258 c6259 5 (makeUnregisterControllerRequest (Int.tmod x (0 + 1)) (fitT (Int.tmod x (0 + 1)) 8 sUnregisterControllerRequestF (Tree.mk n6100 s6101 b6102 l6103 u6104)))) (Nat.le_refl _) ho6257
    have hF6264 := Fr.fresh [⟨b6120, 0, [.int .i64 n6100, .slice A6105 s6101.length c6106, .bool b6102, .slice A6107 l6103.length c6108, .slice A6109 u6104.length c6110], true⟩, ⟨b6176, 0, [.slice A6158 sUnregisterControllerRequestF.length c6159, .int .i64 sUnregisterControllerRequestX], true⟩] [] hs6256 (brow A6258 c6259 5 (makeUnregisterControllerRequest (Int.tmod x (0 + 1)) (fitT (Int.tmod x (0 + 1)) 8 sUnregisterControllerRequestF (Tree.mk n6100 s6101 b6102 l6103 u6104)))) (Nat.le_refl _) ho6257
    clear hE6252 hW6253
    have hT6265 : TT w6190 [⟨b6120, 0, [.int .i64 n6100, .slice A6105 s6101.length c6106, .bool b6102, .slice A6107 l6103.length c6108, .slice A6109 u6104.length c6110], true⟩, ⟨b6176, 0, [.slice A6158 sUnregisterControllerRequestF.length c6159, .int .i64 sUnregisterControllerRequestX], true⟩] [] w6260 := ⟨hW6263.cells, (Fr.trans (Fr.trans hF6224 hF6254) hF6264).step⟩
    refine ⟨fun _ => hT6265, ?_⟩
    refine anyC_op (i := 11) (by kernel_rfl) (wpOp_call hE6262 (f := 19) (vs := [.agg #[.slice A6158 sUnregisterControllerRequestF.length c6159, .int .i64 sUnregisterControllerRequestX], .int .i64 (Int.tmod x (0 + 1)), .agg #[.int .i64 n6100, .slice A6105 s6101.length c6106, .bool b6102, .slice A6107 l6103.length c6108, .slice A6109 u6104.length c6110]]) (d := 29) (by kernel_rfl) Try.call19 (sWrite _ _ sUnregisterControllerRequestF sUnregisterControllerRequestX (Int.tmod x (0 + 1)) _ (Tree.mk n6100 s6101 b6102 l6103 u6104) _ _ ⟨xs6161, (h6162.move (Fr.trans (Fr.trans (Fr.trans (Fr.trans (Fr.trans (Fr.trans hF6175 hF6181) hF6185) hF6191) hF6224) hF6254) hF6264).step immM (Fr.trans (Fr.trans (Fr.trans (Fr.trans (Fr.trans (Fr.trans hF6175 hF6181) hF6185) hF6191) hF6224) hF6254) hF6264).to'), (fun i_ x_ h_ => ((h6163 i_ x_ h_).move (Fr.trans (Fr.trans (Fr.trans (Fr.trans (Fr.trans (Fr.trans hF6175 hF6181) hF6185) hF6191) hF6224) hF6254) hF6264).step immM (Fr.trans (Fr.trans (Fr.trans (Fr.trans (Fr.trans (Fr.trans hF6175 hF6181) hF6185) hF6191) hF6224) hF6254) hF6264).to'))⟩ sUnregisterControllerRequest_depth (ht.move hW6263.step nilM hW6263.imm) hroom) ?_)
    rintro e_ w6270 ⟨A6268, c6269, rfl, ho6267, hs6266⟩
    refine ⟨_, rfl, fun a6271 hE6272 => ?_⟩
    have hW6273 := hW6263.fresh hs6266 (brow A6268 c6269 5 (writeB 8 sUnregisterControllerRequestF sUnregisterControllerRequestX (Int.tmod x (0 + 1)) (Tree.mk n6100 s6101 b6102 l6103 u6104))) (Nat.le_refl _) ho6267
    have hF6274 := Fr.fresh [⟨b6120, 0, [.int .i64 n6100, .slice A6105 s6101.length c6106, .bool b6102, .slice A6107 l6103.length c6108, .slice A6109 u6104.length c6110], true⟩, ⟨b6176, 0, [.slice A6158 sUnregisterControllerRequestF.length c6159, .int .i64 sUnregisterControllerRequestX], true⟩] [brow A6258 c6259 5 (makeUnregisterControllerRequest (Int.tmod x (0 + 1)) (fitT (Int.tmod x (0 + 1)) 8 sUnregisterControllerRequestF (Tree.mk n6100 s6101 b6102 l6103 u6104)))] hs6266 (brow A6268 c6269 5 (writeB 8 sUnregisterControllerRequestF sUnregisterControllerRequestX (Int.tmod x (0 + 1)) (Tree.mk n6100 s6101 b6102 l6103 u6104))) (Nat.le_refl _) ho6267
    clear hE6262 hW6263
    have hT6275 : TT w6190 [⟨b6120, 0, [.int .i64 n6100, .slice A6105 s6101.length c6106, .bool b6102, .slice A6107 l6103.length c6108, .slice A6109 u6104.length c6110], true⟩, ⟨b6176, 0, [.slice A6158 sUnregisterControllerRequestF.length c6159, .int .i64 sUnregisterControllerRequestX], true⟩] [] w6270 := ⟨hW6273.cells, (Fr.trans (Fr.trans (Fr.trans hF6224 hF6254) hF6264) hF6274).step⟩
    refine ⟨fun _ => hT6275, ?_⟩
    refine anyC_op (i := 12) (by kernel_rfl) (wpOp_call hE6272 (f := 10) (vs := [.slice A6258 ((makeUnregisterControllerRequest (Int.tmod x (0 + 1)) (fitT (Int.tmod x (0 + 1)) 8 sUnregisterControllerRequestF (Tree.mk n6100 s6101 b6102 l6103 u6104))).length) c6259, .slice A6268 ((writeB 8 sUnregisterControllerRequestF sUnregisterControllerRequestX (Int.tmod x (0 + 1)) (Tree.mk n6100 s6101 b6102 l6103 u6104)).length) c6269]) (d := 30) (by kernel_rfl) Try.call10 (sSame _ _ _ _ (makeUnregisterControllerRequest (Int.tmod x (0 + 1)) (fitT (Int.tmod x (0 + 1)) 8 sUnregisterControllerRequestF (Tree.mk n6100 s6101 b6102 l6103 u6104))) (writeB 8 sUnregisterControllerRequestF sUnregisterControllerRequestX (Int.tmod x (0 + 1)) (Tree.mk n6100 s6101 b6102 l6103 u6104)) _ _ (octs_own (hW6273.own 0 _ rfl) (by first | omega | (simp only [be_length]; exact Nat.le_trans (widthI_le _) (by decide)) | (have := hroom; omega) | (have := hmade; omega)) (F := fun _ _ => True) (fun _ _ _ => trivial)) (octs_own (hW6273.own 1 _ rfl) (by first | omega | (simp only [be_length]; exact Nat.le_trans (widthI_le _) (by decide)) | (have := hroom; omega) | (have := hmade; omega)) (F := fun _ _ => True) (fun _ _ _ => trivial))) ?_)
    rintro e_ w6277 ⟨rfl, hs6276⟩
    refine ⟨_, rfl, fun a6278 hE6279 => ?_⟩
    have hW6280 := hW6273.next_nil hs6276
    have hF6281 := Fr.nil [⟨b6120, 0, [.int .i64 n6100, .slice A6105 s6101.length c6106, .bool b6102, .slice A6107 l6103.length c6108, .slice A6109 u6104.length c6110], true⟩, ⟨b6176, 0, [.slice A6158 sUnregisterControllerRequestF.length c6159, .int .i64 sUnregisterControllerRequestX], true⟩] [brow A6258 c6259 5 (makeUnregisterControllerRequest (Int.tmod x (0 + 1)) (fitT (Int.tmod x (0 + 1)) 8 sUnregisterControllerRequestF (Tree.mk n6100 s6101 b6102 l6103 u6104))), brow A6268 c6269 5 (writeB 8 sUnregisterControllerRequestF sUnregisterControllerRequestX (Int.tmod x (0 + 1)) (Tree.mk n6100 s6101 b6102 l6103 u6104))] hs6276
    clear hE6272 hW6273
    have hT6282 : TT w6190 [⟨b6120, 0, [.int .i64 n6100, .slice A6105 s6101.length c6106, .bool b6102, .slice A6107 l6103.length c6108, .slice A6109 u6104.length c6110], true⟩, ⟨b6176, 0, [.slice A6158 sUnregisterControllerRequestF.length c6159, .int .i64 sUnregisterControllerRequestX], true⟩] [] w6277 := ⟨hW6280.cells, (Fr.trans (Fr.trans (Fr.trans (Fr.trans hF6224 hF6254) hF6264) hF6274) hF6281).step⟩
    refine ⟨fun _ => hT6282, ?_⟩
    refine anyC_op (i := 13) (by kernel_rfl) (wpOp_pure [4] hW6280.cells hE6279 (env' := [(4, .v (.bool (decide (makeUnregisterControllerRequest (Int.tmod x (0 + 1)) (fitT (Int.tmod x (0 + 1)) 8 sUnregisterControllerRequestF (Tree.mk n6100 s6101 b6102 l6103 u6104)) = writeB 8 sUnregisterControllerRequestF sUnregisterControllerRequestX (Int.tmod x (0 + 1)) (Tree.mk n6100 s6101 b6102 l6103 u6104)))))]) (by kernel_rfl) fun a6283 hE6284 => ?_)
    clear hE6279
    refine ⟨fun h => absurd rfl h, ?_⟩
    refine anyC_done (by kernel_rfl) ?_ _
    refine then_normal ?_
    refine wp_ret ?_
    refine leave hE6284 hW6280.cells (v := .bool (decide (makeUnregisterControllerRequest (Int.tmod x (0 + 1)) (fitT (Int.tmod x (0 + 1)) 8 sUnregisterControllerRequestF (Tree.mk n6100 s6101 b6102 l6103 u6104)) = writeB 8 sUnregisterControllerRequestF sUnregisterControllerRequestX (Int.tmod x (0 + 1)) (Tree.mk n6100 s6101 b6102 l6103 u6104)))) (by kernel_rfl) ?_
    exact ⟨by rw [hpure]; simp, hW6280.step⟩

end Go.Proofs.Ytlkiilgbpliakaa.ME
