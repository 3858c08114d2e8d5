/- Contracts: printed by tools/sp.py. Own work. -/
import Derived.Test.YtbjopfcbpobnpaaSw
namespace Go.Proofs.Ytbjopfcbpobnpaa.ME
open Go
set_option linter.unusedVariables false
set_option linter.unusedSimpArgs false
set_option maxRecDepth 20000

theorem sPartOK : ∀ d, PartOK d
  | 0 => fun A c l v flex ct t w F hl hd ht hr => sPart (fun _ _ => []) A c l v flex ct t w F (fun cf f ct t w F hm hf ht hr => by
      obtain ⟨i, hi⟩ := List.mem_iff_getElem?.1 hm
      have h := depths_get hi
      obtain ⟨k, x1, x2, x3, x4, x5, x6, l, A, c, xs, rfl, _⟩ := hf.open_
      rw [depth_mk] at h; omega) hl ht hr
  | d + 1 => fun A c l v flex ct t w F hl hd ht hr => sPart (fun f t => fieldD d f v flex t) A c l v flex ct t w F (fun cf f ct t w F hm hf ht hr => sField (sPartOK d) cf f v flex ct t w F hf (by
      obtain ⟨i, hi⟩ := List.mem_iff_getElem?.1 hm
      have h := depths_get hi
      obtain ⟨k, x1, x2, x3, x4, x5, x6, l, A, c, xs, rfl, _⟩ := hf.open_
      rw [depth_mk] at h
      show depths l ≤ d
      omega) ht hr) hl ht hr

theorem sWrite {d : Nat} (A : Option Addr) (c : Nat) (l : List Fld) (x v : Int) (ct : List Value) (t : Tree) (w : World) (F : Nat → Nat → Prop) (hl : FldsR w F A c l) (hd : depths l ≤ d) (ht : TreeR w F ct t) (hroom : (writeB d l x v t).length ≤ 1099511627776) :
    Calls Try.prog 19 #[.agg #[.slice A l.length c, .int .i64 x], .int .i64 v, .agg ct.toArray] w (FreshB w 5 (writeB d l x v t)) := by
  obtain ⟨xfs, h1, h2⟩ := hl.ex
  have hsm := h1.small
  obtain ⟨n2678, s2679, b2680, l2681, u2682, A2683, c2684, A2685, c2686, A2687, c2688, xs2689, rfl, rfl, h2691, h2692, h2693, h2694⟩ := ht.open_
  have hsm2696 := h2691.small
  have hsm2697 := h2692.small
  refine enter (n := 21) Try.func19 rfl Try.ntmps19 (by kernel_rfl) fun a hE => ?_
  have hW := WOk.start w Nil
  refine go_seq_region [0, 1, 2] (by kernel_rfl) ?_
  refine of_op (wpOp_box hW hE (d := 3) (cs := [.slice A l.length c, .int .i64 x]) (by kernel_rfl) fun b2698 a2699 w2700 hb2701 hz2702 hF2703 hW2704 hE2705 => ?_)
  clear hE hW
  refine of_op (wpOp_box hW2704 hE2705 (d := 5) (cs := [.int .i64 n2678, .slice A2683 s2679.length c2684, .bool b2680, .slice A2685 l2681.length c2686, .slice A2687 u2682.length c2688]) (by kernel_rfl) fun b2706 a2707 w2708 hb2709 hz2710 hF2711 hW2712 hE2713 => ?_)
  clear hE2705 hW2704
  refine go_runs [2] [] [1, 3, 5] hW2712 hE2713 (env' := [(1, .v (.int .i64 v)), (3, .p 0 0), (5, .p 1 0)]) (by kernel_rfl) rfl fun a2714 hE2715 => ?_
  clear hE2713
  refine wpOps_nil ?_
  refine then_normal ?_
  refine go_seq_region [0, 1, 2, 3, 4, 5, 6, 7, 8, 9, 10, 11, 12, 13, 14] (by kernel_rfl) ?_
  refine go_runs [0, 1, 2, 3, 4, 5, 6] [7, 8, 9, 10, 11, 12, 13, 14] [1, 3, 5, 8, 9, 13] hW2712 hE2715 (env' := [(1, .v (.int .i64 v)), (3, .p 0 0), (5, .p 1 0), (8, .v (.slice A l.length c)), (9, .v (.int .i64 v)), (13, .v (.bool (decide (x ≥ 0))))]) (by kernel_rfl) rfl fun a2716 hE2717 => ?_
  clear hE2715
  refine (Bool.eq_false_or_eq_true (decide (x ≥ 0))).elim (fun hc2718 => ?_) (fun hc2718 => ?_)
  ·
    have hf2719 := of_decide_eq_true hc2718
    have hE2720 := hE2717.cast (env' := [(1, .v (.int .i64 v)), (3, .p 0 0), (5, .p 1 0), (8, .v (.slice A l.length c)), (9, .v (.int .i64 v)), (13, .v (.bool true))]) (by rw [hc2718])
    clear hE2717
    refine go_runs [7, 8, 9, 10, 11, 12] [13, 14] [8, 9, 18, 19] hW2712 hE2720 (env' := [(8, .v (.slice A l.length c)), (9, .v (.int .i64 v)), (18, .v (.bool (decide (v ≥ x)))), (19, .v (.agg #[.int .i64 n2678, .slice A2683 s2679.length c2684, .bool b2680, .slice A2685 l2681.length c2686, .slice A2687 u2682.length c2688]))]) (by kernel_rfl) rfl fun a2721 hE2722 => ?_
    clear hE2720
    refine of_op (wpOp_call hE2722 (f := 51) (vs := [.slice A l.length c, .int .i64 v, .bool (decide (v ≥ x)), .agg #[.int .i64 n2678, .slice A2683 s2679.length c2684, .bool b2680, .slice A2685 l2681.length c2686, .slice A2687 u2682.length c2688]]) (d := 20) (by kernel_rfl) Try.call51 (sPartOK _ _ _ l v (decide (v ≥ x)) _ (Tree.mk n2678 s2679 b2680 l2681 u2682) _ _ ⟨xfs, (h1.move hW2712.step nilM hW2712.imm), (fun i_ x_ h_ => ((h2 i_ x_ h_).move hW2712.step nilM hW2712.imm))⟩ hd (ht.move hW2712.step nilM hW2712.imm) (by simpa [writeB, hc2718] using hroom)) ?_)
    rintro e_ w2727 ⟨A2725, c2726, rfl, ho2724, hs2723⟩
    refine ⟨_, rfl, fun a2728 hE2729 => ?_⟩
    have hW2730 := hW2712.fresh hs2723 (brow A2725 c2726 5 (partB d l v (decide (v ≥ x)) (Tree.mk n2678 s2679 b2680 l2681 u2682))) (Nat.le_refl _) ho2724
    have hF2731 := Fr.fresh [⟨b2698, 0, [.slice A l.length c, .int .i64 x], true⟩, ⟨b2706, 0, [.int .i64 n2678, .slice A2683 s2679.length c2684, .bool b2680, .slice A2685 l2681.length c2686, .slice A2687 u2682.length c2688], true⟩] [] hs2723 (brow A2725 c2726 5 (partB d l v (decide (v ≥ x)) (Tree.mk n2678 s2679 b2680 l2681 u2682))) (Nat.le_refl _) ho2724
    clear hE2722 hW2712
    refine go_runs [14] [] [6] hW2730 hE2729 (env' := [(6, .v (.slice A2725 ((partB d l v (decide (v ≥ x)) (Tree.mk n2678 s2679 b2680 l2681 u2682)).length) c2726))]) (by kernel_rfl) rfl fun a2732 hE2733 => ?_
    clear hE2729
    refine wpOps_nil ?_
    refine then_normal ?_
    refine wp_ret ?_
    refine leave hE2733 hW2730.cells (v := .slice A2725 ((partB d l v (decide (v ≥ x)) (Tree.mk n2678 s2679 b2680 l2681 u2682)).length) c2726) (by kernel_rfl) ?_
    exact fresh_end hW2730 (k := 0) rfl (by simp [writeB, hc2718])
  ·
    have hf2734 := of_decide_eq_false hc2718
    have hE2735 := hE2717.cast (env' := [(1, .v (.int .i64 v)), (3, .p 0 0), (5, .p 1 0), (8, .v (.slice A l.length c)), (9, .v (.int .i64 v)), (13, .v (.bool false))]) (by rw [hc2718])
    clear hE2717
    refine go_runs [7, 8, 9, 10, 11, 12] [13, 14] [8, 9, 18, 19] hW2712 hE2735 (env' := [(8, .v (.slice A l.length c)), (9, .v (.int .i64 v)), (18, .v (.bool false)), (19, .v (.agg #[.int .i64 n2678, .slice A2683 s2679.length c2684, .bool b2680, .slice A2685 l2681.length c2686, .slice A2687 u2682.length c2688]))]) (by kernel_rfl) rfl fun a2736 hE2737 => ?_
    clear hE2735
    refine of_op (wpOp_call hE2737 (f := 51) (vs := [.slice A l.length c, .int .i64 v, .bool false, .agg #[.int .i64 n2678, .slice A2683 s2679.length c2684, .bool b2680, .slice A2685 l2681.length c2686, .slice A2687 u2682.length c2688]]) (d := 20) (by kernel_rfl) Try.call51 (sPartOK _ _ _ l v false _ (Tree.mk n2678 s2679 b2680 l2681 u2682) _ _ ⟨xfs, (h1.move hW2712.step nilM hW2712.imm), (fun i_ x_ h_ => ((h2 i_ x_ h_).move hW2712.step nilM hW2712.imm))⟩ hd (ht.move hW2712.step nilM hW2712.imm) (by simpa [writeB, hc2718] using hroom)) ?_)
    rintro e_ w2742 ⟨A2740, c2741, rfl, ho2739, hs2738⟩
    refine ⟨_, rfl, fun a2743 hE2744 => ?_⟩
    have hW2745 := hW2712.fresh hs2738 (brow A2740 c2741 5 (partB d l v false (Tree.mk n2678 s2679 b2680 l2681 u2682))) (Nat.le_refl _) ho2739
    have hF2746 := Fr.fresh [⟨b2698, 0, [.slice A l.length c, .int .i64 x], true⟩, ⟨b2706, 0, [.int .i64 n2678, .slice A2683 s2679.length c2684, .bool b2680, .slice A2685 l2681.length c2686, .slice A2687 u2682.length c2688], true⟩] [] hs2738 (brow A2740 c2741 5 (partB d l v false (Tree.mk n2678 s2679 b2680 l2681 u2682))) (Nat.le_refl _) ho2739
    clear hE2737 hW2712
    refine go_runs [14] [] [6] hW2745 hE2744 (env' := [(6, .v (.slice A2740 ((partB d l v false (Tree.mk n2678 s2679 b2680 l2681 u2682)).length) c2741))]) (by kernel_rfl) rfl fun a2747 hE2748 => ?_
    clear hE2744
    refine wpOps_nil ?_
    refine then_normal ?_
    refine wp_ret ?_
    refine leave hE2748 hW2745.cells (v := .slice A2740 ((partB d l v false (Tree.mk n2678 s2679 b2680 l2681 u2682)).length) c2741) (by kernel_rfl) ?_
    exact fresh_end hW2745 (k := 0) rfl (by simp [writeB, hc2718])

end Go.Proofs.Ytbjopfcbpobnpaa.ME
