/- Printed by tools/mk.py. Own work. -/
import Derived.Test.YtlkiilgbpliakaaTk
import Derived.Test.YtlkiilgbpliakaaSp
namespace Go.Proofs.Ytlkiilgbpliakaa.ME
open Go
open Go.RowKit
set_option linter.unusedVariables false
set_option linter.unusedSimpArgs false
set_option maxRecDepth 20000

theorem kSixteen (A : Option Addr) (c : Nat) (s : Bs) (w : World) (F : Nat → Nat → Prop) (hs : Octs w F A c s) : Calls Try.prog 75 #[.slice A s.length c] w (Gives w (.agg ((List.range 16).map fun i => byteCell (s.getD i 0)).toArray)) := by
  refine enter (n := 7) (vs := [.slice A s.length c]) Try.func75 rfl Try.ntmps75 (by kernel_rfl) fun a hE => ?_
  have hW := WOk.start w Nil
  refine go_seq_region [0] (by kernel_rfl) ?_
  refine of_op (wpOp_alloc2 hE (d := 2) (cs := ((List.range 16).map fun _ => byteCell 0)) (by kernel_rfl) fun t' a1 hE1 => wpOps_nil (then_normal ?_))
  have hW1 := hW.alloc ((List.range 16).map fun _ => byteCell 0) t'
  have hE2 := (hE1.grow ⟨w.heap.size, 0, ((List.range 16).map fun _ => byteCell 0), true⟩).recast 2 (.v (.pointer (some ⟨w.heap.size, 0, none⟩))) (.p 0 0) rfl rfl (by simp [SV.ok])
  refine go_seq_region [0, 1, 2] (by kernel_rfl) ?_
  refine go_runs [0, 1] [2] [2, 3, 4] hW1 hE2 (env' := [(2, .p 0 0), (3, .v (.slice (some ⟨w.heap.size, 0, none⟩) 16 16)), (4, .v (.slice A s.length c))]) (by kernel_rfl) rfl fun a2 hE3 => ?_
  refine of_op (wpOp_copy16 hE3 (t := 22) (u := 22) (e := 5) (bytes := 1) (b := w.heap.size) (d := 5) (by kernel_rfl) (by kernel_rfl) (heap_new _ _) rfl (hs.move (Step.alloc w _) nilM keepF) fun a3 w2 hst hat hfz hE4 => wpOps_nil (then_normal ?_))
  obtain ⟨v, hE4⟩ := hE4
  have hst2 : Step w w2 Nil := (Step.alloc w _).trans hst fun b' o hl h => by omega
  have hW2 := hat.wok hst2 hfz (Nat.le_refl _) (by kernel_rfl)
  have hE5 : EnvOk 7 [⟨w.heap.size, 0, ((List.range 16).map fun i => byteCell (s.getD i 0)), true⟩] [(2, .p 0 0)] a3 := (hE4.pick (ks := [2]) (env' := [(2, .p 0 0)]) (by kernel_rfl)).places ⟨rfl, rfl, trivial⟩
  refine go_seq_region [0, 1] (by kernel_rfl) ?_
  refine go_runs [0] [1] [2, 6] hW2 hE5 (env' := [(2, .p 0 0), (6, .v (.agg ((List.range 16).map fun i => byteCell (s.getD i 0)).toArray))]) (by kernel_rfl) rfl fun a4 hE6 => ?_
  refine of_op (wpOp_store hW2 hE6 (oi := 0) (cs := ((List.range 16).map fun i => byteCell (s.getD i 0))) (by kernel_rfl) fun w3 hF3 hW3 hE7 => wpOps_nil (then_normal (wp_ret ?_)))
  exact leave hE7 hW3.cells (v := .agg ((List.range 16).map fun i => byteCell (s.getD i 0)).toArray) (by kernel_rfl) ⟨rfl, hW3.step⟩

end Go.Proofs.Ytlkiilgbpliakaa.ME
