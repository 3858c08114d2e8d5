/- Contracts: printed by tools/sp.py. Own work. -/
import Derived.Test.YtlkiilgbpliakaaLc
import Derived.Test.YtlkiilgbpliakaaLa
namespace Go.Proofs.Ytlkiilgbpliakaa.ME
open Go
set_option linter.unusedVariables false
set_option linter.unusedSimpArgs false
set_option maxRecDepth 20000

theorem sEndTxnMarker_depth : depths sEndTxnMarkerF ≤ 8 := by simp [sEndTxnMarkerF, Fld.depth.depths, Fld.depth]
theorem sEndTxnMarker_plain : plains sEndTxnMarkerF := by simp [sEndTxnMarkerF, Fld.plain.plains, Fld.plain]

theorem lawEndTxnMarker (x : Int) (ct : List Value) (t : Tree) (w : World) (F : Nat → Nat → Prop) (ht : TreeR w F ct t) (hroom : (keptB 8 sEndTxnMarkerF sEndTxnMarkerX (Int.tmod (IntKind.i64.wrap x) 1) t).length ≤ 1099511627776) (hmade : (makeEndTxnMarker (Int.tmod (IntKind.i64.wrap x) 1) (fitT (Int.tmod (IntKind.i64.wrap x) 1) 8 sEndTxnMarkerF t)).length ≤ 1099511627776) (hpure : makeEndTxnMarker (Int.tmod (IntKind.i64.wrap x) 1) (fitT (Int.tmod (IntKind.i64.wrap x) 1) 8 sEndTxnMarkerF t) = keptB 8 sEndTxnMarkerF sEndTxnMarkerX (Int.tmod (IntKind.i64.wrap x) 1) t) :
    Calls Try.prog 3 #[.int .u8 x, .agg ct.toArray] w (Gives w (.bool true)) := by
  obtain ⟨n4808, s4809, b4810, l4811, u4812, A4813, c4814, A4815, c4816, A4817, c4818, xs4819, rfl, rfl, h4821, h4822, h4823, h4824⟩ := ht.open_
  have hsm4826 := h4821.small
  have hsm4827 := h4822.small
  refine enter (n := 27) Try.func3 rfl Try.ntmps3 (by kernel_rfl) fun a hE => ?_
  have hW := WOk.start w Nil
  refine go_seq_region [0, 1] (by kernel_rfl) ?_
  refine of_op (wpOp_box hW hE (d := 3) (cs := [.int .i64 n4808, .slice A4813 s4809.length c4814, .bool b4810, .slice A4815 l4811.length c4816, .slice A4817 u4812.length c4818]) (by kernel_rfl) fun b4828 a4829 w4830 hb4831 hz4832 hF4833 hW4834 hE4835 => ?_)
  clear hE hW
  refine go_runs [1] [] [0, 3] hW4834 hE4835 (env' := [(0, .v (.int .u8 x)), (3, .p 0 0)]) (by kernel_rfl) rfl fun a4836 hE4837 => ?_
  clear hE4835
  refine wpOps_nil ?_
  refine then_normal ?_
  refine wp_seq ?_
  refine go_seq_region [0, 1, 2] (by kernel_rfl) ?_
  refine go_runs [0] [1, 2] [0, 3, 7] hW4834 hE4837 (env' := [(0, .v (.int .u8 x)), (3, .p 0 0), (7, .v (.agg #[.int .i64 n4808, .slice A4813 s4809.length c4814, .bool b4810, .slice A4815 l4811.length c4816, .slice A4817 u4812.length c4818]))]) (by kernel_rfl) rfl fun a4838 hE4839 => ?_
  clear hE4837
  refine of_op (wpOp_call hE4839 (f := 8) (vs := [.agg #[.int .i64 n4808, .slice A4813 s4809.length c4814, .bool b4810, .slice A4815 l4811.length c4816, .slice A4817 u4812.length c4818]]) (d := 8) (by kernel_rfl) Try.call8 (lFits1 _ _ _ _ (ht.move hW4834.step nilM hW4834.imm)) ?_)
  rintro e_ w4842 ⟨b4841, rfl, hs4840⟩
  refine ⟨_, rfl, fun a4843 hE4844 => ?_⟩
  have hW4845 := hW4834.next_nil hs4840
  have hF4846 := Fr.nil [⟨b4828, 0, [.int .i64 n4808, .slice A4813 s4809.length c4814, .bool b4810, .slice A4815 l4811.length c4816, .slice A4817 u4812.length c4818], true⟩] [] hs4840
  clear hE4839 hW4834
  refine go_runs [2] [] [0, 3, 9] hW4845 hE4844 (env' := [(0, .v (.int .u8 x)), (3, .p 0 0), (9, .v (.bool (!b4841)))]) (by kernel_rfl) rfl fun a4847 hE4848 => ?_
  clear hE4844
  refine wpOps_nil ?_
  refine then_normal ?_
  refine cond_of hE4848 (b := !b4841) (by kernel_rfl) (fun hc4849 => ?_) (fun hc4849 => ?_)
  ·
    refine go_seq_region [0] (by kernel_rfl) ?_
    refine go_runs [0] [] [4] hW4845 hE4848 (env' := [(4, .v (.bool true))]) (by kernel_rfl) rfl fun a4851 hE4852 => ?_
    clear hE4848
    refine wpOps_nil ?_
    refine then_normal ?_
    refine wp_ret ?_
    refine then_ret ?_
    refine leave hE4852 hW4845.cells (v := .bool true) (by kernel_rfl) ?_
    exact ⟨rfl, hW4845.step⟩
  ·
    refine wp_skip ?_
    refine then_normal ?_
    refine go_seq_region [0, 1, 2, 3, 4, 5, 6] (by kernel_rfl) ?_
    refine of_op (wpOp_call hE4848 (f := 9) (vs := []) (d := 10) (by kernel_rfl) Try.call9 (sEndTxnMarker _ (Imm F w w4842 [⟨b4828, 0, [.int .i64 n4808, .slice A4813 s4809.length c4814, .bool b4810, .slice A4815 l4811.length c4816, .slice A4817 u4812.length c4818], true⟩] [])) ?_)
    rintro e_ w4858 ⟨A4856, c4857, rfl, hr4855, hs4854⟩
    obtain ⟨xs4859, h4860, h4861⟩ := hr4855.move (Step.refl _ Nil) nilM (hW4845.laid (G := F) hs4854)
    refine ⟨_, rfl, fun a4862 hE4863 => ?_⟩
    have hW4864 := hW4845.next_nil hs4854
    have hF4865 := Fr.nil [⟨b4828, 0, [.int .i64 n4808, .slice A4813 s4809.length c4814, .bool b4810, .slice A4815 l4811.length c4816, .slice A4817 u4812.length c4818], true⟩] [] hs4854
    clear hE4848
    refine go_runs [1, 2, 3] [4, 5, 6] [3, 10, 13] hW4864 hE4863 (env' := [(3, .p 0 0), (10, .v (.agg #[.slice A4856 sEndTxnMarkerF.length c4857, .int .i64 sEndTxnMarkerX])), (13, .v (.int .i64 (Int.tmod (IntKind.i64.wrap x) 1)))]) (by kernel_rfl) rfl fun a4866 hE4867 => ?_
    clear hE4863
    refine of_op (wpOp_alloc hW4864 hE4867 (d := 5) (cs := [.slice none 0 0, .int .i64 0]) (by kernel_rfl) fun b4868 a4869 w4870 hb4871 hz4872 hF4873 hW4874 hE4875 => ?_)
    clear hE4867 hW4864
    refine of_op (wpOp_store hW4874 hE4875 (oi := 1) (cs := [.slice A4856 sEndTxnMarkerF.length c4857, .int .i64 sEndTxnMarkerX]) (by kernel_rfl) fun w4876 hF4877 hW4878 hE4879 => ?_)
    clear hE4875 hW4874
    refine go_runs [6] [] [3, 5, 6] hW4878 hE4879 (env' := [(3, .p 0 0), (5, .p 1 0), (6, .v (.int .i64 (Int.tmod (IntKind.i64.wrap x) 1)))]) (by kernel_rfl) rfl fun a4880 hE4881 => ?_
    clear hE4879
    refine wpOps_nil ?_
    refine then_normal ?_
    refine go_seq_drawK 13 (by kernel_rfl) hW4878 fun w4882 hF4883 hW4884 hT4885 => ?_
    clear hW4878
    refine go_runsD [0, 1, 2, 3, 4, 8, 9, 10] [14, 16, 17, 18, 22, 23, 24] 6 (by kernel_rfl) (panicFree_then panicFree_body) (fun _ h => h.cells) hT4885 hE4881 (by kernel_rfl) (env' := [(14, .v (.int .i64 (Int.tmod (IntKind.i64.wrap x) 1))), (16, .v (.slice A4856 sEndTxnMarkerF.length c4857)), (17, .v (.int .i64 (Int.tmod (IntKind.i64.wrap x) 1))), (18, .v (.agg #[.int .i64 n4808, .slice A4813 s4809.length c4814, .bool b4810, .slice A4815 l4811.length c4816, .slice A4817 u4812.length c4818])), (22, .v (.agg #[.slice A4856 sEndTxnMarkerF.length c4857, .int .i64 sEndTxnMarkerX])), (23, .v (.int .i64 (Int.tmod (IntKind.i64.wrap x) 1))), (24, .v (.agg #[.int .i64 n4808, .slice A4813 s4809.length c4814, .bool b4810, .slice A4815 l4811.length c4816, .slice A4817 u4812.length c4818]))]) (by kernel_rfl) rfl fun a4886 hE4887 => ?_
    clear hE4881
    refine anyC_op (i := 5) (by kernel_rfl) (wpOp_call hE4887 (f := 13) (vs := [.slice A4856 sEndTxnMarkerF.length c4857, .int .i64 (Int.tmod (IntKind.i64.wrap x) 1), .agg #[.int .i64 n4808, .slice A4813 s4809.length c4814, .bool b4810, .slice A4815 l4811.length c4816, .slice A4817 u4812.length c4818]]) (d := 19) (by kernel_rfl) Try.call13 (sFitOK _ _ _ sEndTxnMarkerF (Int.tmod (IntKind.i64.wrap x) 1) _ (Tree.mk n4808 s4809 b4810 l4811 u4812) _ _ ⟨xs4859, (h4860.move (Fr.trans (Fr.trans hF4873 hF4877) hF4883).step immM (Fr.trans (Fr.trans hF4873 hF4877) hF4883).to'), (fun i_ x_ h_ => ((h4861 i_ x_ h_).move (Fr.trans (Fr.trans hF4873 hF4877) hF4883).step immM (Fr.trans (Fr.trans hF4873 hF4877) hF4883).to'))⟩ sEndTxnMarker_plain sEndTxnMarker_depth (ht.move hW4884.step nilM hW4884.imm)) ?_)
    rintro e_ w4891 ⟨cs4890, rfl, hr4889, hs4888⟩
    have hr4892 := hr4889.move (Step.refl _ Nil) nilM (hW4884.laid (G := F) hs4888)
    obtain ⟨n4893, s4894, b4895, l4896, u4897, A4898, c4899, A4900, c4901, A4902, c4903, xs4904, ht4910, hcs4905, h4906, h4907, h4908, h4909⟩ := hr4892.open_
    rw [hcs4905] at hr4892
    have hsm4911 := h4906.small
    have hsm4912 := h4907.small
    rw [hcs4905]
    refine ⟨_, rfl, fun a4913 hE4914 => ?_⟩
    have hW4915 := hW4884.next_nil hs4888
    have hF4916 := Fr.nil [⟨b4828, 0, [.int .i64 n4808, .slice A4813 s4809.length c4814, .bool b4810, .slice A4815 l4811.length c4816, .slice A4817 u4812.length c4818], true⟩, ⟨b4868, 0, [.slice A4856 sEndTxnMarkerF.length c4857, .int .i64 sEndTxnMarkerX], true⟩] [] hs4888
    clear hE4887
    have hT4917 : TT w4882 [⟨b4828, 0, [.int .i64 n4808, .slice A4813 s4809.length c4814, .bool b4810, .slice A4815 l4811.length c4816, .slice A4817 u4812.length c4818], true⟩, ⟨b4868, 0, [.slice A4856 sEndTxnMarkerF.length c4857, .int .i64 sEndTxnMarkerX], true⟩] [] w4891 := ⟨hW4915.cells, hF4916.step⟩
    refine ⟨fun _ => hT4917, ?_⟩
    refine anyC_op (i := 6) (by kernel_rfl) (wpOp_call hE4914 (f := 12) (vs := [.agg #[.int .i64 n4893, .slice A4898 s4894.length c4899, .bool b4895, .slice A4900 l4896.length c4901, .slice A4902 u4897.length c4903]]) (d := 20) (by kernel_rfl) Try.call12 (lGiven _ _ _ _ _ hr4892 (Nat.le_refl _)) ?_)
    rintro e_ w4921 ⟨cs4920, rfl, hr4919, hs4918⟩
    have hr4922 := hr4919.move (Step.refl _ Nil) nilM (hW4915.laid (G := F) hs4918)
    obtain ⟨n4923, s4924, b4925, l4926, u4927, A4928, c4929, A4930, c4931, A4932, c4933, xs4934, ht4940, hcs4935, h4936, h4937, h4938, h4939⟩ := hr4922.open_
    rw [hcs4935] at hr4922
    have hsm4941 := h4936.small
    have hsm4942 := h4937.small
    rw [hcs4935]
    refine ⟨_, rfl, fun a4943 hE4944 => ?_⟩
    have hW4945 := hW4915.next_nil hs4918
    have hF4946 := Fr.nil [⟨b4828, 0, [.int .i64 n4808, .slice A4813 s4809.length c4814, .bool b4810, .slice A4815 l4811.length c4816, .slice A4817 u4812.length c4818], true⟩, ⟨b4868, 0, [.slice A4856 sEndTxnMarkerF.length c4857, .int .i64 sEndTxnMarkerX], true⟩] [] hs4918
    clear hE4914
    have hT4947 : TT w4882 [⟨b4828, 0, [.int .i64 n4808, .slice A4813 s4809.length c4814, .bool b4810, .slice A4815 l4811.length c4816, .slice A4817 u4812.length c4818], true⟩, ⟨b4868, 0, [.slice A4856 sEndTxnMarkerF.length c4857, .int .i64 sEndTxnMarkerX], true⟩] [] w4921 := ⟨hW4945.cells, (Fr.trans hF4916 hF4946).step⟩
    refine ⟨fun _ => hT4947, ?_⟩
    refine anyC_op (i := 7) (by kernel_rfl) (wpOp_call hE4944 (f := 11) (vs := [.int .i64 (Int.tmod (IntKind.i64.wrap x) 1), .agg #[.int .i64 n4923, .slice A4928 s4924.length c4929, .bool b4925, .slice A4930 l4926.length c4931, .slice A4932 u4927.length c4933]]) (d := 21) (by kernel_rfl) Try.call11 (mEndTxnMarker (Int.tmod (IntKind.i64.wrap x) 1) _ (fitT (Int.tmod (IntKind.i64.wrap x) 1) 8 sEndTxnMarkerF (Tree.mk n4808 s4809 b4810 l4811 u4812)) _ _ hr4922) ?_)
    rintro e_ w4952 ⟨A4950, c4951, rfl, ho4949, hs4948⟩
    refine ⟨_, rfl, fun a4953 hE4954 => ?_⟩
    have hW4955 := hW4945.fresh hs4948 (brow A4950 c4951 5 (makeEndTxnMarker (Int.tmod (IntKind.i64.wrap x) 1) (fitT (Int.tmod (IntKind.i64.wrap x) 1) 8 sEndTxnMarkerF (Tree.mk n4808 s4809 b4810 l4811 u4812)))) (Nat.le_refl _) ho4949
    have hF4956 := Fr.fresh [⟨b4828, 0, [.int .i64 n4808, .slice A4813 s4809.length c4814, .bool b4810, .slice A4815 l4811.length c4816, .slice A4817 u4812.length c4818], true⟩, ⟨b4868, 0, [.slice A4856 sEndTxnMarkerF.length c4857, .int .i64 sEndTxnMarkerX], true⟩] [] hs4948 (brow A4950 c4951 5 (makeEndTxnMarker (Int.tmod (IntKind.i64.wrap x) 1) (fitT (Int.tmod (IntKind.i64.wrap x) 1) 8 sEndTxnMarkerF (Tree.mk n4808 s4809 b4810 l4811 u4812)))) (Nat.le_refl _) ho4949
    clear hE4944 hW4945
    have hT4957 : TT w4882 [⟨b4828, 0, [.int .i64 n4808, .slice A4813 s4809.length c4814, .bool b4810, .slice A4815 l4811.length c4816, .slice A4817 u4812.length c4818], true⟩, ⟨b4868, 0, [.slice A4856 sEndTxnMarkerF.length c4857, .int .i64 sEndTxnMarkerX], true⟩] [] w4952 := ⟨hW4955.cells, (Fr.trans (Fr.trans hF4916 hF4946) hF4956).step⟩
    refine ⟨fun _ => hT4957, ?_⟩
    refine anyC_op (i := 11) (by kernel_rfl) (wpOp_call hE4954 (f := 14) (vs := [.agg #[.slice A4856 sEndTxnMarkerF.length c4857, .int .i64 sEndTxnMarkerX], .int .i64 (Int.tmod (IntKind.i64.wrap x) 1), .agg #[.int .i64 n4808, .slice A4813 s4809.length c4814, .bool b4810, .slice A4815 l4811.length c4816, .slice A4817 u4812.length c4818]]) (d := 25) (by kernel_rfl) Try.call14 (sKept _ _ sEndTxnMarkerF sEndTxnMarkerX (Int.tmod (IntKind.i64.wrap x) 1) _ (Tree.mk n4808 s4809 b4810 l4811 u4812) _ _ ⟨xs4859, (h4860.move (Fr.trans (Fr.trans (Fr.trans (Fr.trans (Fr.trans hF4873 hF4877) hF4883) hF4916) hF4946) hF4956).step immM (Fr.trans (Fr.trans (Fr.trans (Fr.trans (Fr.trans hF4873 hF4877) hF4883) hF4916) hF4946) hF4956).to'), (fun i_ x_ h_ => ((h4861 i_ x_ h_).move (Fr.trans (Fr.trans (Fr.trans (Fr.trans (Fr.trans hF4873 hF4877) hF4883) hF4916) hF4946) hF4956).step immM (Fr.trans (Fr.trans (Fr.trans (Fr.trans (Fr.trans hF4873 hF4877) hF4883) hF4916) hF4946) hF4956).to'))⟩ sEndTxnMarker_depth (ht.move hW4955.step nilM hW4955.imm) hroom) ?_)
    rintro e_ w4962 ⟨A4960, c4961, rfl, ho4959, hs4958⟩
    refine ⟨_, rfl, fun a4963 hE4964 => ?_⟩
    have hW4965 := hW4955.fresh hs4958 (brow A4960 c4961 5 (keptB 8 sEndTxnMarkerF sEndTxnMarkerX (Int.tmod (IntKind.i64.wrap x) 1) (Tree.mk n4808 s4809 b4810 l4811 u4812))) (Nat.le_refl _) ho4959
    have hF4966 := Fr.fresh [⟨b4828, 0, [.int .i64 n4808, .slice A4813 s4809.length c4814, .bool b4810, .slice A4815 l4811.length c4816, .slice A4817 u4812.length c4818], true⟩, ⟨b4868, 0, [.slice A4856 sEndTxnMarkerF.length c4857, .int .i64 sEndTxnMarkerX], true⟩] [brow A4950 c4951 5 (makeEndTxnMarker (Int.tmod (IntKind.i64.wrap x) 1) (fitT (Int.tmod (IntKind.i64.wrap x) 1) 8 sEndTxnMarkerF (Tree.mk n4808 s4809 b4810 l4811 u4812)))] hs4958 (brow A4960 c4961 5 (keptB 8 sEndTxnMarkerF sEndTxnMarkerX (Int.tmod (IntKind.i64.wrap x) 1) (Tree.mk n4808 s4809 b4810 l4811 u4812))) (Nat.le_refl _) ho4959
    clear hE4954 hW4955
    have hT4967 : TT w4882 [⟨b4828, 0, [.int .i64 n4808, .slice A4813 s4809.length c4814, .bool b4810, .slice A4815 l4811.length c4816, .slice A4817 u4812.length c4818], true⟩, ⟨b4868, 0, [.slice A4856 sEndTxnMarkerF.length c4857, .int .i64 sEndTxnMarkerX], true⟩] [] w4962 := ⟨hW4965.cells, (Fr.trans (Fr.trans (Fr.trans hF4916 hF4946) hF4956) hF4966).step⟩
    refine ⟨fun _ => hT4967, ?_⟩
    refine anyC_op (i := 12) (by kernel_rfl) (wpOp_call hE4964 (f := 10) (vs := [.slice A4950 ((makeEndTxnMarker (Int.tmod (IntKind.i64.wrap x) 1) (fitT (Int.tmod (IntKind.i64.wrap x) 1) 8 sEndTxnMarkerF (Tree.mk n4808 s4809 b4810 l4811 u4812))).length) c4951, .slice A4960 ((keptB 8 sEndTxnMarkerF sEndTxnMarkerX (Int.tmod (IntKind.i64.wrap x) 1) (Tree.mk n4808 s4809 b4810 l4811 u4812)).length) c4961]) (d := 26) (by kernel_rfl) Try.call10 (sSame _ _ _ _ (makeEndTxnMarker (Int.tmod (IntKind.i64.wrap x) 1) (fitT (Int.tmod (IntKind.i64.wrap x) 1) 8 sEndTxnMarkerF (Tree.mk n4808 s4809 b4810 l4811 u4812))) (keptB 8 sEndTxnMarkerF sEndTxnMarkerX (Int.tmod (IntKind.i64.wrap x) 1) (Tree.mk n4808 s4809 b4810 l4811 u4812)) _ _ (octs_own (hW4965.own 0 _ rfl) (by first | omega | (simp only [be_length]; exact Nat.le_trans (widthI_le _) (by decide)) | (have := hroom; omega) | (have := hmade; omega)) (F := fun _ _ => True) (fun _ _ _ => trivial)) (octs_own (hW4965.own 1 _ rfl) (by first | omega | (simp only [be_length]; exact Nat.le_trans (widthI_le _) (by decide)) | (have := hroom; omega) | (have := hmade; omega)) (F := fun _ _ => True) (fun _ _ _ => trivial))) ?_)
    rintro e_ w4969 ⟨rfl, hs4968⟩
    refine ⟨_, rfl, fun a4970 hE4971 => ?_⟩
    have hW4972 := hW4965.next_nil hs4968
    have hF4973 := Fr.nil [⟨b4828, 0, [.int .i64 n4808, .slice A4813 s4809.length c4814, .bool b4810, .slice A4815 l4811.length c4816, .slice A4817 u4812.length c4818], true⟩, ⟨b4868, 0, [.slice A4856 sEndTxnMarkerF.length c4857, .int .i64 sEndTxnMarkerX], true⟩] [brow A4950 c4951 5 (makeEndTxnMarker (Int.tmod (IntKind.i64.wrap x) 1) (fitT (Int.tmod (IntKind.i64.wrap x) 1) 8 sEndTxnMarkerF (Tree.mk n4808 s4809 b4810 l4811 u4812))), brow A4960 c4961 5 (keptB 8 sEndTxnMarkerF sEndTxnMarkerX (Int.tmod (IntKind.i64.wrap x) 1) (Tree.mk n4808 s4809 b4810 l4811 u4812))] hs4968
    clear hE4964 hW4965
    have hT4974 : TT w4882 [⟨b4828, 0, [.int .i64 n4808, .slice A4813 s4809.length c4814, .bool b4810, .slice A4815 l4811.length c4816, .slice A4817 u4812.length c4818], true⟩, ⟨b4868, 0, [.slice A4856 sEndTxnMarkerF.length c4857, .int .i64 sEndTxnMarkerX], true⟩] [] w4969 := ⟨hW4972.cells, (Fr.trans (Fr.trans (Fr.trans (Fr.trans hF4916 hF4946) hF4956) hF4966) hF4973).step⟩
    refine ⟨fun _ => hT4974, ?_⟩
    refine anyC_op (i := 13) (by kernel_rfl) (wpOp_pure [4] hW4972.cells hE4971 (env' := [(4, .v (.bool (decide (makeEndTxnMarker (Int.tmod (IntKind.i64.wrap x) 1) (fitT (Int.tmod (IntKind.i64.wrap x) 1) 8 sEndTxnMarkerF (Tree.mk n4808 s4809 b4810 l4811 u4812)) = keptB 8 sEndTxnMarkerF sEndTxnMarkerX (Int.tmod (IntKind.i64.wrap x) 1) (Tree.mk n4808 s4809 b4810 l4811 u4812)))))]) (by kernel_rfl) fun a4975 hE4976 => ?_)
    clear hE4971
    refine ⟨fun h => absurd rfl h, ?_⟩
    refine anyC_done (by kernel_rfl) ?_ _
    refine then_normal ?_
    refine wp_ret ?_
    refine leave hE4976 hW4972.cells (v := .bool (decide (makeEndTxnMarker (Int.tmod (IntKind.i64.wrap x) 1) (fitT (Int.tmod (IntKind.i64.wrap x) 1) 8 sEndTxnMarkerF (Tree.mk n4808 s4809 b4810 l4811 u4812)) = keptB 8 sEndTxnMarkerF sEndTxnMarkerX (Int.tmod (IntKind.i64.wrap x) 1) (Tree.mk n4808 s4809 b4810 l4811 u4812)))) (by kernel_rfl) ?_
    exact ⟨by rw [hpure]; simp, hW4972.step⟩

end Go.Proofs.Ytlkiilgbpliakaa.ME
