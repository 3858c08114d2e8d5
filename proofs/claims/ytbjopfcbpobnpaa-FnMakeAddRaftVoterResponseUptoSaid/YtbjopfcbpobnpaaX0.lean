/- Printed by tools/mk.py. Own work. -/
import Derived.Test.YtbjopfcbpobnpaaXc
import Derived.Test.YtbjopfcbpobnpaaLa
import Derived.Test.YtbjopfcbpobnpaaLb
namespace Go.Proofs.Ytbjopfcbpobnpaa.ME
open Go
open Go.RowKit
set_option linter.unusedVariables false
set_option linter.unusedSimpArgs false
set_option maxRecDepth 20000

def aAddRaftVoterResponse (x0 : Int) (x1 : Int) (x2 : Int) (x3 : Bs) (n3 : Bool) (u : List (Int × Bs)) : Bs := (be 4 x1) ++ ((be 2 x2) ++ ((if (decide (x0 ≥ 0)) = true then (if n3 = true then uv 0 else uv (x3.length + 1) ++ x3) else (if n3 = true then be 2 (-1) else be 2 x3.length ++ x3)) ++ ((if (decide (x0 ≥ 0)) = true then (uv u.length) ++ (tagsR u) else []) ++ ([]))))
theorem kAddRaftVoterResponse (x0 : Int) (x1 : Int) (x2 : Int) (x3 : Bs) (u : List (Int × Bs)) (b o : Nat) (m : Option Nat) (p3 : Option Addr) (A : Option Addr) (cp : Nat) (s : Bs) (w : World) (F : Nat → Nat → Prop) (hat : AtF w F b o [.int .i16 x0, .int .i32 x1, .int .i16 x2, .pointer p3, .map m]) (hm : MapR w F m u) (hul : u.length ≤ 1000000) (hx : ∀ x ∈ u, x.2.length < 4294967296) (hO3 : ∀ ad, p3 = some ad → ∃ b o, ad = ⟨b, o, none⟩ ∧ AtF w F b o [.string (bs x3)]) (hs3 : x3.length ≤ 1000000) (hF : ∀ b o, F b o → ¬ Blk A b o) (ho : w.ownsRow 0 5 1 (.slice A s.length cp) s.length (bc s)) (hroom : s.length + (aAddRaftVoterResponse x0 x1 x2 x3 p3.isNone u).length + 16 ≤ 1099511627776) :
    Calls Try.prog 56 [.pointer (some ⟨b, o, none⟩), .slice A s.length cp].toArray w (AppPost w 5 A (s ++ aAddRaftVoterResponse x0 x1 x2 x3 p3.isNone u)) := by
  refine chr_calls (n := 58) Try.func56 rfl Try.ntmps56 (by kernel_rfl) rfl ho hroom ?_
  unfold aAddRaftVoterResponse
  refine chr_ob b o [.int .i16 x0, .int .i32 x1, .int .i16 x2, .pointer p3, .map m] hat hF (by kernel_rfl) (by kernel_rfl) ?_
  refine chr_ptr 0 0 0 b o (by simp) rfl rfl rfl ?_
  refine chr_seq0 (ch_pure (env' := [(0, .p 0 0)]) [0] (fun _ _ _ => by kernel_rfl)) ?_
  refine chr_seq0 (ch_pure (env' := [(0, .p 0 0), (5, .v (.int .i16 x0))]) [0, 5] (fun _ _ _ => by kernel_rfl)) ?_
  refine chr_seq0 (ch_pure (env' := [(0, .p 0 0), (5, .v (.int .i16 x0))]) [0, 5] (fun _ _ _ => by kernel_rfl)) ?_
  refine chr_seq0 (ch_pure (env' := [(0, .p 0 0), (6, .v (.bool (decide (x0 ≥ 0))))]) [0, 6] (fun _ _ _ => by kernel_rfl)) ?_
  refine chr_seq0 (ch_pure (env' := [(0, .p 0 0), (6, .v (.bool (decide (x0 ≥ 0))))]) [0, 6] (fun _ _ _ => by kernel_rfl)) ?_
  refine chr_seq (e1 := [(0, .p 0 0), (6, .v (.bool (decide (x0 ≥ 0))))]) ?_ ?_
  ·
    refine ch_seq0 (ch_pure (env' := [(0, .p 0 0), (6, .v (.bool (decide (x0 ≥ 0)))), (7, .v (.int .i32 x1))]) [0, 6, 7] (fun _ _ _ => by kernel_rfl)) ?_
    exact ch_call (f := 112) (vs := [.int .i32 x1]) 2 [0, 6] (fun _ _ _ _ _ _ => by kernel_rfl) (by kernel_rfl) Try.call112 (fun A cp s w _ _ ho hr => kAppendInt32 A cp s x1 w ho (by omega))
  refine chr_seq (e1 := [(0, .p 0 0), (6, .v (.bool (decide (x0 ≥ 0))))]) ?_ ?_
  ·
    refine ch_seq0 (ch_pure (env' := [(0, .p 0 0), (6, .v (.bool (decide (x0 ≥ 0)))), (8, .v (.int .i16 x2))]) [0, 6, 8] (fun _ _ _ => by kernel_rfl)) ?_
    exact ch_call (f := 99) (vs := [.int .i16 x2]) 2 [0, 6] (fun _ _ _ _ _ _ => by kernel_rfl) (by kernel_rfl) Try.call99 (fun A cp s w _ _ ho hr => kAppendInt16 A cp s x2 w ho (by omega))
  refine chr_seq (e1 := [(0, .p 0 0), (6, .v (.bool (decide (x0 ≥ 0))))]) ?_ ?_
  ·
    refine ch_seq0 (ch_pure (env' := [(0, .p 0 0), (6, .v (.bool (decide (x0 ≥ 0)))), (9, .v (.pointer p3))]) [0, 6, 9] (fun _ _ _ => by kernel_rfl)) ?_
    refine ch_seq0 (ch_pure (env' := [(0, .p 0 0), (6, .v (.bool (decide (x0 ≥ 0)))), (9, .v (.pointer p3)), (36, .v (.bool (decide (x0 ≥ 0))))]) [0, 6, 9, 36] (fun _ _ _ => by kernel_rfl)) ?_
    refine ch_if (b := decide (x0 ≥ 0)) (fun _ _ _ => by kernel_rfl) (fun hb => ?_) (fun hb => ?_)
    ·
      exact ch_call (f := 113) (vs := [.pointer p3]) 2 [0, 6] (fun _ _ _ _ _ _ => by kernel_rfl) (by kernel_rfl) Try.call113 (fun A cp s w hs hA ho hr => kAppendCompactNullableString' p3 x3 A cp s w ho (Lo F _) (lo_dis hF hA) (fun ad h => by obtain ⟨b', o', g1, g2⟩ := hO3 ad h; exact ⟨b', o', g1, g2.move hs (lo_M hF) lo_F⟩) hs3 hr)
    ·
      exact ch_call (f := 114) (vs := [.pointer p3]) 2 [0, 6] (fun _ _ _ _ _ _ => by kernel_rfl) (by kernel_rfl) Try.call114 (fun A cp s w hs hA ho hr => kAppendNullableString' p3 x3 A cp s w ho (Lo F _) (lo_dis hF hA) (fun ad h => by obtain ⟨b', o', g1, g2⟩ := hO3 ad h; exact ⟨b', o', g1, g2.move hs (lo_M hF) lo_F⟩) hs3 hr)
  refine chr_seq (e1 := []) ?_ ?_
  ·
    refine ch_seq0 (ch_pure (env' := [(0, .p 0 0), (43, .v (.bool (decide (x0 ≥ 0))))]) [0, 43] (fun _ _ _ => by kernel_rfl)) ?_
    refine ch_when (b := decide (x0 ≥ 0)) (fun _ _ _ => by kernel_rfl) (fun hb => ?_) (fun hb => ?_)
    ·
      refine ch_seq (e1 := [(0, .p 0 0)]) ?_ ?_
      ·
        exact ch_call2 (f1 := 101) (vs1 := [.pointer (some ⟨b, o + 4, none⟩)]) (r1 := .int .i64 ((u.length : Nat) : Int)) (f := 100) (vs := [.int .u32 (IntKind.u32.wrap (0 + (IntKind.u32.wrap ((u.length : Nat) : Int))))]) 4 7 [0] (fun _ _ _ _ _ _ => by kernel_rfl) (by kernel_rfl) Try.call101 Try.call100 (fun w hs => kTagsLen (F := Lo F _) ((hat.one 4 rfl).move hs (lo_M hF) lo_F) (hm.move hs (lo_M hF) lo_F)) (fun A cp s w _ _ ho hr => by rw [show (IntKind.u32.wrap (0 + (IntKind.u32.wrap ((u.length : Nat) : Int))) : Int) = ((u.length : Nat) : Int) from wrap_u32_len _ hul]; exact kAppendUvarint u.length (by omega) A cp s w ho hr)
      ·
        exact ch_callG (f := 102) 4 [] (fun s => [.pointer (some ⟨b, o + 4, none⟩), s]) (fun _ _ _ _ _ _ => by kernel_rfl) (by kernel_rfl) Try.call102 (fun A cp s w hs hA ho hr => kAppendEach (F := Lo F _) ((hat.one 4 rfl).move hs (lo_M hF) lo_F) (hm.move hs (lo_M hF) lo_F) ho (lo_dis hF hA) hx hr)
    · exact ch_pick (e1 := []) [] (fun _ _ _ => by kernel_rfl) ch_skip
  exact chr_end (fun _ _ _ => by kernel_rfl)

def makeAddRaftVoterResponse (v : Int) (t : Tree) : Bs := aAddRaftVoterResponse (IntKind.i16.wrap v) (IntKind.i32.wrap (t.at_ 0).N) (IntKind.i16.wrap (t.at_ 1).N) (octOf (t.at_ 2)) ((t.at_ 2).null) t.U
theorem mAddRaftVoterResponse (v : Int) (ct : List Value) (t : Tree) (w : World) (F : Nat → Nat → Prop) (ht : TreeR w F ct t) (hsort : Sorted t.U) (hul : t.U.length ≤ 1000000) (hxl : ∀ x ∈ t.U, x.2.length < 4294967296) (hb2 : (octOf (t.at_ 2)).length ≤ 1000000) (hroom : (makeAddRaftVoterResponse v t).length + 16 ≤ 1099511627776) : Calls Try.prog 22 #[.int .i64 v, .agg ct.toArray] w (FreshB w 5 (makeAddRaftVoterResponse v t)) := by
  obtain ⟨n4791, s4792, b4793, l4794, u4795, A4796, c4797, A4798, c4799, A4800, c4801, xs4802, rfl, rfl, h4804, h4805, h4806, h4807⟩ := ht.open_
  have hsm4809 := h4804.small
  have hsm4810 := h4805.small
  replace hsort : Sorted u4795 := hsort
  replace hul : u4795.length ≤ 1000000 := hul
  replace hxl : ∀ x ∈ u4795, x.2.length < 4294967296 := hxl
  refine enter (n := 17) Try.func22 rfl Try.ntmps22 (by kernel_rfl) fun a hE => ?_
  have hW := WOk.start w Nil
  refine go_seq_region [0, 1] (by kernel_rfl) ?_
  refine of_op (wpOp_box hW hE (d := 3) (cs := [.int .i64 n4791, .slice A4796 s4792.length c4797, .bool b4793, .slice A4798 l4794.length c4799, .slice A4800 u4795.length c4801]) (by kernel_rfl) fun b4811 a4812 w4813 hb4814 hz4815 hF4816 hW4817 hE4818 => ?_)
  clear hE hW
  refine go_runs [1] [] [0, 3] hW4817 hE4818 (env' := [(0, .v (.int .i64 v)), (3, .p 0 0)]) (by kernel_rfl) rfl fun a4819 hE4820 => ?_
  clear hE4818
  refine wpOps_nil ?_
  refine then_normal ?_
  refine go_seq_region [0, 1, 2] (by kernel_rfl) ?_
  refine go_runs [0] [1, 2] [0, 3, 6] hW4817 hE4820 (env' := [(0, .v (.int .i64 v)), (3, .p 0 0), (6, .v (.agg #[.int .i16 0, .int .i32 0, .int .i16 0, .pointer none, .map none]))]) (by kernel_rfl) rfl fun a4821 hE4822 => ?_
  clear hE4820
  refine of_op (wpOp_box hW4817 hE4822 (d := 7) (cs := [.int .i16 0, .int .i32 0, .int .i16 0, .pointer none, .map none]) (by kernel_rfl) fun b4823 a4824 w4825 hb4826 hz4827 hF4828 hW4829 hE4830 => ?_)
  clear hE4822 hW4817
  refine go_runs [2] [] [0, 3, 5] hW4829 hE4830 (env' := [(0, .v (.int .i64 v)), (3, .p 0 0), (5, .p 1 0)]) (by kernel_rfl) rfl fun a4831 hE4832 => ?_
  clear hE4830
  refine wpOps_nil ?_
  refine then_normal ?_
  refine go_seq_region [0, 1, 2, 3] (by kernel_rfl) ?_
  refine go_runs [0, 1, 2] [3] [3, 5, 8, 10] hW4829 hE4832 (env' := [(3, .p 0 0), (5, .p 1 0), (8, .p 1 0), (10, .v (.int .i16 (IntKind.i16.wrap v)))]) (by kernel_rfl) rfl fun a4833 hE4834 => ?_
  clear hE4832
  refine of_op (wpOp_inline hE4834 (f := 54) (vs := [.pointer (some ⟨b4823, 0, none⟩), .int .i16 (IntKind.i16.wrap v)]) (d := 11) (n' := 8) (by kernel_rfl) Try.call54 Try.func54 rfl Try.ntmps54 (by kernel_rfl) fun a4835 hE4836 => ?_)
  have hE4837 := hE4836.recast 0 (.v (.pointer (some ⟨b4823, 0, none⟩))) (.p 1 0) rfl rfl (Nat.le_of_ble_eq_true (n := 2) rfl)
  refine go_region [0, 1, 2, 3, 4] (by kernel_rfl) ?_
  refine go_runs [0, 1, 2, 3] [4] [5, 7] hW4829 hE4837 (env' := [(5, .v (.int .i16 (IntKind.i16.wrap v))), (7, .p 1 0)]) (by kernel_rfl) rfl fun a4838 hE4839 => ?_
  clear hE4837
  refine of_op (wpOp_store hW4829 hE4839 (oi := 1) (cs := [.int .i16 (IntKind.i16.wrap v), .int .i32 0, .int .i16 0, .pointer none, .map none]) (by kernel_rfl) fun w4840 hF4841 hW4842 hE4843 => ?_)
  clear hE4839 hW4829
  refine wpOps_nil ?_
  refine leave_end hE4843 hW4842.cells (v := .tuple #[]) (by kernel_rfl) ?_
  refine ⟨_, rfl, fun a4844 hE4845 => ?_⟩
  have hE4846 : EnvOk 17 [⟨b4811, 0, [.int .i64 n4791, .slice A4796 s4792.length c4797, .bool b4793, .slice A4798 l4794.length c4799, .slice A4800 u4795.length c4801], true⟩, ⟨b4823, 0, [.int .i16 (IntKind.i16.wrap v), .int .i32 0, .int .i16 0, .pointer none, .map none], true⟩] [(11, .v (.tuple #[])), (3, .p 0 0), (5, .p 1 0), (8, .p 1 0), (10, .v (.int .i16 (IntKind.i16.wrap v)))] _ := hE4845.places (⟨rfl, rfl, ⟨rfl, rfl, trivial⟩⟩)
  refine wpOps_nil ?_
  refine then_normal ?_
  refine go_seq_region [0, 1, 2] (by kernel_rfl) ?_
  refine go_runs [0, 1] [2] [5, 12, 13] hW4842 hE4846 (env' := [(5, .p 1 0), (12, .p 1 0), (13, .v (.agg #[.int .i64 n4791, .slice A4796 s4792.length c4797, .bool b4793, .slice A4798 l4794.length c4799, .slice A4800 u4795.length c4801]))]) (by kernel_rfl) rfl fun a4847 hE4848 => ?_
  clear hE4846
  refine of_op (wpOp_inline hE4848 (f := 55) (vs := [.pointer (some ⟨b4823, 0, none⟩), .agg #[.int .i64 n4791, .slice A4796 s4792.length c4797, .bool b4793, .slice A4798 l4794.length c4799, .slice A4800 u4795.length c4801]]) (d := 14) (n' := 42) (by kernel_rfl) Try.call55 Try.func55 rfl Try.ntmps55 (by kernel_rfl) fun a4849 hE4850 => ?_)
  have hE4851 := hE4850.recast 0 (.v (.pointer (some ⟨b4823, 0, none⟩))) (.p 1 0) rfl rfl (Nat.le_of_ble_eq_true (n := 2) rfl)
  refine go_seq_region [0] (by kernel_rfl) ?_
  refine of_op (wpOp_box hW4842 hE4851 (d := 3) (cs := [.int .i64 n4791, .slice A4796 s4792.length c4797, .bool b4793, .slice A4798 l4794.length c4799, .slice A4800 u4795.length c4801]) (by kernel_rfl) fun b4852 a4853 w4854 hb4855 hz4856 hF4857 hW4858 hE4859 => ?_)
  clear hE4851 hW4842
  refine wpOps_nil ?_
  refine then_normal ?_
  refine go_seq_region [0, 1, 2, 3, 4, 5, 6, 7] (by kernel_rfl) ?_
  refine go_runs [0, 1] [2, 3, 4, 5, 6, 7] [0, 3, 6, 7] hW4858 hE4859 (env' := [(0, .p 1 0), (3, .p 2 0), (6, .p 1 0), (7, .v (.agg #[.int .i64 n4791, .slice A4796 s4792.length c4797, .bool b4793, .slice A4798 l4794.length c4799, .slice A4800 u4795.length c4801]))]) (by kernel_rfl) rfl fun a4860 hE4861 => ?_
  clear hE4859
  refine of_op (wpOp_call hE4861 (f := 95) (vs := [.agg #[.int .i64 n4791, .slice A4796 s4792.length c4797, .bool b4793, .slice A4798 l4794.length c4799, .slice A4800 u4795.length c4801], .int .i64 0]) (d := 8) (by kernel_rfl) Try.call95 (iAt _ _ 0 _ _ (ht.move hW4858.step nilM hW4858.imm)) ?_)
  rintro e_ w4865 ⟨cs4864, rfl, hr4863, hs4862⟩
  have hr4866 := hr4863.move hs4862 nilM (fun b o h_ hb_ => hW4858.laid (G := F) hs4862 b o (.inl h_) (Nat.lt_of_lt_of_le hb_ hs4862.size))
  obtain ⟨n4867, s4868, b4869, l4870, u4871, A4872, c4873, A4874, c4875, A4876, c4877, xs4878, ht4884, hcs4879, h4880, h4881, h4882, h4883⟩ := hr4866.open_
  rw [hcs4879] at hr4866
  have hsm4885 := h4880.small
  have hsm4886 := h4881.small
  rw [hcs4879]
  refine ⟨_, rfl, fun a4887 hE4888 => ?_⟩
  have hW4889 := hW4858.next_nil hs4862
  have hF4890 := Fr.nil [⟨b4811, 0, [.int .i64 n4791, .slice A4796 s4792.length c4797, .bool b4793, .slice A4798 l4794.length c4799, .slice A4800 u4795.length c4801], true⟩, ⟨b4823, 0, [.int .i16 (IntKind.i16.wrap v), .int .i32 0, .int .i16 0, .pointer none, .map none], true⟩, ⟨b4852, 0, [.int .i64 n4791, .slice A4796 s4792.length c4797, .bool b4793, .slice A4798 l4794.length c4799, .slice A4800 u4795.length c4801], true⟩] [] hs4862
  clear hE4861
  refine go_runs [3, 4, 5, 6] [7] [0, 3, 10, 12] hW4889 hE4888 (env' := [(0, .p 1 0), (3, .p 2 0), (10, .v (.int .i32 (IntKind.i32.wrap n4867))), (12, .p 1 1)]) (by kernel_rfl) rfl fun a4891 hE4892 => ?_
  clear hE4888
  refine of_op (wpOp_store hW4889 hE4892 (oi := 1) (cs := [.int .i16 (IntKind.i16.wrap v), .int .i32 (IntKind.i32.wrap n4867), .int .i16 0, .pointer none, .map none]) (by kernel_rfl) fun w4893 hF4894 hW4895 hE4896 => ?_)
  clear hE4892 hW4889
  refine wpOps_nil ?_
  refine then_normal ?_
  refine go_seq_region [0, 1, 2, 3, 4, 5, 6, 7] (by kernel_rfl) ?_
  refine go_runs [0, 1] [2, 3, 4, 5, 6, 7] [0, 3, 13, 14] hW4895 hE4896 (env' := [(0, .p 1 0), (3, .p 2 0), (13, .p 1 0), (14, .v (.agg #[.int .i64 n4791, .slice A4796 s4792.length c4797, .bool b4793, .slice A4798 l4794.length c4799, .slice A4800 u4795.length c4801]))]) (by kernel_rfl) rfl fun a4897 hE4898 => ?_
  clear hE4896
  refine of_op (wpOp_call hE4898 (f := 95) (vs := [.agg #[.int .i64 n4791, .slice A4796 s4792.length c4797, .bool b4793, .slice A4798 l4794.length c4799, .slice A4800 u4795.length c4801], .int .i64 1]) (d := 15) (by kernel_rfl) Try.call95 (iAt _ _ 1 _ _ (ht.move hW4895.step nilM hW4895.imm)) ?_)
  rintro e_ w4902 ⟨cs4901, rfl, hr4900, hs4899⟩
  have hr4903 := hr4900.move hs4899 nilM (fun b o h_ hb_ => hW4895.laid (G := F) hs4899 b o (.inl h_) (Nat.lt_of_lt_of_le hb_ hs4899.size))
  obtain ⟨n4904, s4905, b4906, l4907, u4908, A4909, c4910, A4911, c4912, A4913, c4914, xs4915, ht4921, hcs4916, h4917, h4918, h4919, h4920⟩ := hr4903.open_
  rw [hcs4916] at hr4903
  have hsm4922 := h4917.small
  have hsm4923 := h4918.small
  rw [hcs4916]
  refine ⟨_, rfl, fun a4924 hE4925 => ?_⟩
  have hW4926 := hW4895.next_nil hs4899
  have hF4927 := Fr.nil [⟨b4811, 0, [.int .i64 n4791, .slice A4796 s4792.length c4797, .bool b4793, .slice A4798 l4794.length c4799, .slice A4800 u4795.length c4801], true⟩, ⟨b4823, 0, [.int .i16 (IntKind.i16.wrap v), .int .i32 (IntKind.i32.wrap n4867), .int .i16 0, .pointer none, .map none], true⟩, ⟨b4852, 0, [.int .i64 n4791, .slice A4796 s4792.length c4797, .bool b4793, .slice A4798 l4794.length c4799, .slice A4800 u4795.length c4801], true⟩] [] hs4899
  clear hE4898
  refine go_runs [3, 4, 5, 6] [7] [0, 3, 17, 19] hW4926 hE4925 (env' := [(0, .p 1 0), (3, .p 2 0), (17, .v (.int .i16 (IntKind.i16.wrap n4904))), (19, .p 1 2)]) (by kernel_rfl) rfl fun a4928 hE4929 => ?_
  clear hE4925
  refine of_op (wpOp_store hW4926 hE4929 (oi := 1) (cs := [.int .i16 (IntKind.i16.wrap v), .int .i32 (IntKind.i32.wrap n4867), .int .i16 (IntKind.i16.wrap n4904), .pointer none, .map none]) (by kernel_rfl) fun w4930 hF4931 hW4932 hE4933 => ?_)
  clear hE4929 hW4926
  refine wpOps_nil ?_
  refine then_normal ?_
  refine go_seq_region [0, 1, 2, 3, 4, 5, 6] (by kernel_rfl) ?_
  refine go_runs [0, 1] [2, 3, 4, 5, 6] [0, 3, 20, 21] hW4932 hE4933 (env' := [(0, .p 1 0), (3, .p 2 0), (20, .p 1 0), (21, .v (.agg #[.int .i64 n4791, .slice A4796 s4792.length c4797, .bool b4793, .slice A4798 l4794.length c4799, .slice A4800 u4795.length c4801]))]) (by kernel_rfl) rfl fun a4934 hE4935 => ?_
  clear hE4933
  refine of_op (wpOp_call hE4935 (f := 95) (vs := [.agg #[.int .i64 n4791, .slice A4796 s4792.length c4797, .bool b4793, .slice A4798 l4794.length c4799, .slice A4800 u4795.length c4801], .int .i64 2]) (d := 22) (by kernel_rfl) Try.call95 (iAt _ _ 2 _ _ (ht.move hW4932.step nilM hW4932.imm)) ?_)
  rintro e_ w4939 ⟨cs4938, rfl, hr4937, hs4936⟩
  have hr4940 := hr4937.move hs4936 nilM (fun b o h_ hb_ => hW4932.laid (G := F) hs4936 b o (.inl h_) (Nat.lt_of_lt_of_le hb_ hs4936.size))
  obtain ⟨n4941, s4942, b4943, l4944, u4945, A4946, c4947, A4948, c4949, A4950, c4951, xs4952, ht4958, hcs4953, h4954, h4955, h4956, h4957⟩ := hr4940.open_
  rw [hcs4953] at hr4940
  have hsm4959 := h4954.small
  have hsm4960 := h4955.small
  rw [hcs4953]
  refine ⟨_, rfl, fun a4961 hE4962 => ?_⟩
  have hW4963 := hW4932.next_nil hs4936
  have hF4964 := Fr.nil [⟨b4811, 0, [.int .i64 n4791, .slice A4796 s4792.length c4797, .bool b4793, .slice A4798 l4794.length c4799, .slice A4800 u4795.length c4801], true⟩, ⟨b4823, 0, [.int .i16 (IntKind.i16.wrap v), .int .i32 (IntKind.i32.wrap n4867), .int .i16 (IntKind.i16.wrap n4904), .pointer none, .map none], true⟩, ⟨b4852, 0, [.int .i64 n4791, .slice A4796 s4792.length c4797, .bool b4793, .slice A4798 l4794.length c4799, .slice A4800 u4795.length c4801], true⟩] [] hs4936
  clear hE4935
  refine of_op (wpOp_call hE4962 (f := 111) (vs := [.agg #[.int .i64 n4941, .slice A4946 s4942.length c4947, .bool b4943, .slice A4948 l4944.length c4949, .slice A4950 u4945.length c4951]]) (d := 23) (by kernel_rfl) Try.call111 (kTextOf _ (Tree.at_ (Tree.mk n4791 s4792 b4793 l4794 u4795) 2) _ _ hr4940) ?_)
  rintro e_ w4971 ⟨A4968, rfl, hr4966, hn4967, hs4965⟩
  have hr4970 : ∀ ad, A4968 = some ad → ∃ b o, ad = ⟨b, o, none⟩ ∧ AtF _ _ b o [.string (bs (octOf (Tree.at_ (Tree.mk n4791 s4792 b4793 l4794 u4795) 2)))] := fun ad h => by
      obtain ⟨b, o, g1, g2⟩ := hr4966 ad h
      exact ⟨b, o, g1, g2.move (Step.refl _ Nil) nilM (hW4963.laid (G := F) hs4965)⟩
  refine ⟨_, rfl, fun a4972 hE4973 => ?_⟩
  have hW4974 := hW4963.next_nil hs4965
  have hF4975 := Fr.nil [⟨b4811, 0, [.int .i64 n4791, .slice A4796 s4792.length c4797, .bool b4793, .slice A4798 l4794.length c4799, .slice A4800 u4795.length c4801], true⟩, ⟨b4823, 0, [.int .i16 (IntKind.i16.wrap v), .int .i32 (IntKind.i32.wrap n4867), .int .i16 (IntKind.i16.wrap n4904), .pointer none, .map none], true⟩, ⟨b4852, 0, [.int .i64 n4791, .slice A4796 s4792.length c4797, .bool b4793, .slice A4798 l4794.length c4799, .slice A4800 u4795.length c4801], true⟩] [] hs4965
  clear hE4962
  refine go_runs [4, 5] [6] [0, 3, 23, 25] hW4974 hE4973 (env' := [(0, .p 1 0), (3, .p 2 0), (23, .v (.pointer A4968)), (25, .p 1 3)]) (by kernel_rfl) rfl fun a4976 hE4977 => ?_
  clear hE4973
  refine of_op (wpOp_store hW4974 hE4977 (oi := 1) (cs := [.int .i16 (IntKind.i16.wrap v), .int .i32 (IntKind.i32.wrap n4867), .int .i16 (IntKind.i16.wrap n4904), .pointer A4968, .map none]) (by kernel_rfl) fun w4978 hF4979 hW4980 hE4981 => ?_)
  clear hE4977 hW4974
  refine wpOps_nil ?_
  refine then_normal ?_
  refine go_seq_region [0, 1, 2, 3] (by kernel_rfl) ?_
  refine go_runs [0, 1, 2, 3] [] [0, 27, 28, 29] hW4980 hE4981 (env' := [(0, .p 1 0), (27, .v (.slice A4800 u4795.length c4801)), (28, .v (.int .i64 ((u4795.length : Nat) : Int))), (29, .v (.int .i64 0))]) (by kernel_rfl) rfl fun a4982 hE4983 => ?_
  clear hE4981
  refine wpOps_nil ?_
  refine then_normal ?_
  refine wp_block ?_
  have hO0_ : ∀ ad, A4968 = some ad → ∃ b o, ad = ⟨b, o, none⟩ ∧ AtF _ _ b o [.string (bs (octOf (Tree.at_ (Tree.mk n4791 s4792 b4793 l4794 u4795) 2)))] := fun ad h => by
      obtain ⟨b, o, g1, g2⟩ := hr4970 ad h
      exact ⟨b, o, g1, (g2.move hF4979.step immM hF4979.to')⟩
  have hpB := new_of hW4980 1 rfl (by kernel_rfl)
  have hE0 := hE4983.recast 0 (.p 1 0) (.v (.pointer (some ⟨b4823, 0, none⟩))) rfl rfl trivial
  have hE1 := (hE0.pick (ks := [0, 27, 28, 29]) (env' := [(0, .v (.pointer (some ⟨b4823, 0, none⟩))), (27, .v (.slice A4800 u4795.length c4801)), (28, .v (.int .i64 ((u4795.length : Nat) : Int))), (29, .v (.int .i64 0))]) (by kernel_rfl)).cutTb 0 (by kernel_rfl)
  refine wp_loop_ghost (fun q a_ w_ => ∃ (j : Nat) (m_ : Option Nat), q = u4795.length - j ∧ j ≤ u4795.length ∧ EnvOk 42 [] [(0, .v (.pointer (some ⟨b4823, 0, none⟩))), (27, .v (.slice A4800 u4795.length c4801)), (28, .v (.int .i64 ((u4795.length : Nat) : Int))), (29, .v (.int .i64 ((j : Nat) : Int)))] a_ ∧ TL w w4978 w_ F b4823 4 [.int .i16 (IntKind.i16.wrap v), .int .i32 (IntKind.i32.wrap n4867), .int .i16 (IntKind.i16.wrap n4904), .pointer A4968, .map none] m_ (u4795.take j)) u4795.length
    ⟨0, none, by omega, by omega, hE1, TL.start hW4980 1 rfl rfl⟩ ?_
  rintro q aq wq ⟨j, m_, rfl, hj, hE2, hT⟩
  have hWq := WOk.start wq Nil
  refine go_seq_region [0] (by kernel_rfl) (go_runs [0] [] [0, 27, 28, 29, 30] hWq hE2 (env' := [(0, .v (.pointer (some ⟨b4823, 0, none⟩))), (27, .v (.slice A4800 u4795.length c4801)), (28, .v (.int .i64 ((u4795.length : Nat) : Int))), (29, .v (.int .i64 ((j : Nat) : Int))), (30, .v (.bool (decide (((j : Nat) : Int) < ((u4795.length : Nat) : Int)))))]) (by kernel_rfl) rfl fun aq2 hE3 => wpOps_nil (then_normal (wp_seq ?_)))
  refine cond_of hE3 (b := decide (((j : Nat) : Int) < ((u4795.length : Nat) : Int))) (by kernel_rfl) (fun hc => ?_) (fun hc => ?_)
  · have hlt : j < u4795.length := by have := of_decide_eq_true hc; omega
    refine wp_skip (then_normal (wp_seq (wp_block ?_)))
    obtain ⟨⟨k, x⟩, hu⟩ : ∃ y, u4795[j]? = some y := ⟨_, List.getElem?_eq_getElem hlt⟩
    obtain ⟨bb, bo, xA, xc, hA, hat, hxo, hk⟩ := tag_at h4807 hu
    refine go_seq_region [0, 1, 2, 3] (by kernel_rfl) ?_
    refine of_op (wpOp_index hE3 (t := 37) (e := 62) (size := 2) (bytes := 32) (d := 31) (b := bb) (o := bo) (m := u4795.length) (j := j) (by kernel_rfl) (by kernel_rfl) hA rfl hlt fun aq3 hE4 => ?_)
    refine of_op (wpOp_load hE4 (t := 62) (d := 32) (cs := [.int .u32 k, .slice xA x.length xc]) (v := .agg #[.int .u32 k, .slice xA x.length xc]) (by kernel_rfl) (by kernel_rfl) (hat.step_nil hT.step) fun aq4 hE5 => ?_)
    refine of_op (wpOp_alloc hWq hE5 (d := 5) (cs := [.int .u32 0, .slice none 0 0]) (by kernel_rfl) fun bx aq5 wq2 hbx hbx0 hFq2 hWq2 hE6 => ?_)
    refine of_op (wpOp_store hWq2 hE6 (oi := 0) (cs := [.int .u32 k, .slice xA x.length xc]) (by kernel_rfl) fun wq3 hFq3 hWq3 hE7 => wpOps_nil (then_normal ?_))
    have hWq4 := hWq3.drew
    refine region_draw (fun wz => CellsOk wz [⟨bx, 0, [.int .u32 k, .slice xA x.length xc], true⟩]) 8 (by kernel_rfl) ?_
    refine go_runsD [0, 1, 2, 3, 4, 5, 6] [0, 27, 28, 29, 35, 37, 39] 1 (by kernel_rfl) (panicFree_block (panicFree_then (panicFree_then (panicFree_block panicFree_body)))) (fun _ h => h) hWq4.cells hE7 (by kernel_rfl) (env' := [(0, .v (.pointer (some ⟨b4823, 0, none⟩))), (27, .v (.slice A4800 u4795.length c4801)), (28, .v (.int .i64 ((u4795.length : Nat) : Int))), (29, .v (.int .i64 ((j : Nat) : Int))), (35, .v (.pointer (some ⟨b4823, 4, none⟩))), (37, .v (.int .u32 k)), (39, .v (.slice xA x.length xc))]) (by kernel_rfl) rfl fun aq6 hE8 => ?_
    refine anyC_op (i := 7) (by kernel_rfl) (wpOp_call hE8 (f := 96) (vs := [.pointer (some ⟨b4823, 4, none⟩), .int .u32 k, .slice xA x.length xc]) (d := 40) (by kernel_rfl) Try.call96 ((hT.move hWq4.step).set hpB (by kernel_rfl) hsort hu hxo hk) ?_)
    rintro e_ wq5 ⟨rfl, hS5, r, hT5⟩
    refine ⟨_, rfl, fun aq7 hE9 => ⟨fun _ => hT.keeps (off := 4) (by kernel_rfl) hS5 hWq4.cells (fun ob hm => by rw [List.mem_singleton.1 hm]; exact Nat.le_of_eq hbx.symm), anyC_done (by kernel_rfl) (block_normal (then_normal ?_)) _⟩⟩
    have hE10 := (hE9.pick (ks := [0, 27, 28, 29]) (env' := [(0, .v (.pointer (some ⟨b4823, 0, none⟩))), (27, .v (.slice A4800 u4795.length c4801)), (28, .v (.int .i64 ((u4795.length : Nat) : Int))), (29, .v (.int .i64 ((j : Nat) : Int)))]) (by kernel_rfl)).cutTb 0 (by kernel_rfl)
    refine go_region [0, 1] (by kernel_rfl) (go_runs [0, 1] [] [0, 27, 28, 29] (WOk.start wq5 Nil) hE10 (env' := [(0, .v (.pointer (some ⟨b4823, 0, none⟩))), (27, .v (.slice A4800 u4795.length c4801)), (28, .v (.int .i64 ((u4795.length : Nat) : Int))), (29, .v (.int .i64 (IntKind.i64.wrap (((j : Nat) : Int) + 1))))]) (by kernel_rfl) rfl fun aq8 hE11 => wpOps_nil (then_normal ?_))
    rw [wrap_succ (by omega)] at hE11
    exact ⟨u4795.length - (j + 1), by omega, j + 1, some r, rfl, by omega, hE11, hT5⟩
  · obtain rfl : j = u4795.length := by have := of_decide_eq_false hc; omega
    refine wp_exit (then_exit (then_exit (block_exit ?_)))
    rw [List.take_length] at hT
    refine leave_end hE3 hWq.cells (v := .tuple #[]) (by kernel_rfl) ?_
    refine ⟨_, rfl, fun aq9 hE12 => ?_⟩
    have hE13 := ((hE12.recast 5 (.p 1 0) (.v (.pointer (some ⟨b4823, 0, none⟩))) rfl rfl trivial).pick (ks := [5]) (env' := [(5, .v (.pointer (some ⟨b4823, 0, none⟩)))]) (by kernel_rfl)).cutTb 0 (by kernel_rfl)
    refine wpOps_nil (then_normal ?_)
    refine go_seq_region [0, 1, 2] (by kernel_rfl) ?_
    refine go_runs [0] [1, 2] [15] hWq hE13 (env' := [(15, .v (.pointer (some ⟨b4823, 0, none⟩)))]) (by kernel_rfl) rfl fun aq10 hE14 => ?_
    have he : aAddRaftVoterResponse (IntKind.i16.wrap v) (IntKind.i32.wrap n4867) (IntKind.i16.wrap n4904) (octOf (Tree.at_ (Tree.mk n4791 s4792 b4793 l4794 u4795) 2)) A4968.isNone u4795 = makeAddRaftVoterResponse v (Tree.mk n4791 s4792 b4793 l4794 u4795) := by simp only [makeAddRaftVoterResponse, hn4967, ht4884, ht4921, ht4958]; rfl
    rw [← he] at hroom ⊢
    refine of_op (wpOp_call hE14 (f := 56) (vs := [.pointer (some ⟨b4823, 0, none⟩), .slice none 0 0]) (d := 16) (by kernel_rfl) Try.call56 (kAddRaftVoterResponse (IntKind.i16.wrap v) (IntKind.i32.wrap n4867) (IntKind.i16.wrap n4904) (octOf (Tree.at_ (Tree.mk n4791 s4792 b4793 l4794 u4795) 2)) u4795 b4823 0 m_ A4968 none 0 [] _ _ hT.str.atF (hT.map hsort (tags_range h4807)) hul hxl (fun ad h => by obtain ⟨b, o, g1, g2⟩ := hO0_ ad h; exact ⟨b, o, g1, g2.move hT.keep (imm_off 1 rfl (by kernel_rfl)) (fun _ _ _ _ => trivial)⟩) (by first | exact hb2 | omega) none_blk (World.ownsRow_nil _ 0 _ _) (by simpa using hroom)) ?_)
    rintro e_ wq6 ⟨A', c', rfl, ho, hs, hn⟩
    refine ⟨_, rfl, fun aq11 hE15 => ?_⟩
    refine go_runs [2] [] [4] (WOk.start wq6 Nil) hE15 (env' := [(4, .v (.slice A' ([] ++ aAddRaftVoterResponse (IntKind.i16.wrap v) (IntKind.i32.wrap n4867) (IntKind.i16.wrap n4904) (octOf (Tree.at_ (Tree.mk n4791 s4792 b4793 l4794 u4795) 2)) A4968.isNone u4795).length c'))]) (by kernel_rfl) rfl fun aq12 hE16 => wpOps_nil (then_normal (wp_ret ?_))
    refine leave hE16 (WOk.start wq6 Nil).cells (v := .slice A' ([] ++ aAddRaftVoterResponse (IntKind.i16.wrap v) (IntKind.i32.wrap n4867) (IntKind.i16.wrap n4904) (octOf (Tree.at_ (Tree.mk n4791 s4792 b4793 l4794 u4795) 2)) A4968.isNone u4795).length c') (by kernel_rfl) ?_
    exact fresh_of_app hT.step ⟨A', c', rfl, ho, hs, hn⟩

theorem xAddRaftVoterResponse (w : World) : Calls Try.prog 20 #[] w (Gives w (.int .i64 1)) := by
  refine enter (n := 4) Try.func20 rfl Try.ntmps20 (by kernel_rfl) fun a hE => ?_
  have hW := WOk.start w Nil
  refine go_seq_region [0] (by kernel_rfl) ?_
  refine go_runs [0] [] [] hW hE (env' := []) (by kernel_rfl) rfl fun a5020 hE5021 => ?_
  clear hE
  refine wpOps_nil ?_
  refine then_normal ?_
  refine go_seq_region [0, 1, 2, 3] (by kernel_rfl) ?_
  refine of_op (wpOp_inline hE5021 (f := 52) (vs := []) (d := 1) (n' := 3) (by kernel_rfl) Try.call52 Try.func52 rfl Try.ntmps52 (by kernel_rfl) fun a5022 hE5023 => ?_)
  refine go_seq_region [0] (by kernel_rfl) ?_
  refine go_runs [0] [] [] hW hE5023 (env' := []) (by kernel_rfl) rfl fun a5024 hE5025 => ?_
  clear hE5023
  refine wpOps_nil ?_
  refine then_normal ?_
  refine go_seq_region [0] (by kernel_rfl) ?_
  refine of_op (wpOp_alloc hW hE5025 (d := 1) (cs := [.int .i16 0, .int .i32 0, .int .i16 0, .pointer none, .map none]) (by kernel_rfl) fun b5026 a5027 w5028 hb5029 hz5030 hF5031 hW5032 hE5033 => ?_)
  clear hE5025 hW
  refine wpOps_nil ?_
  refine then_normal ?_
  refine go_seq_region [0] (by kernel_rfl) ?_
  refine of_op (wpOp_inline hE5033 (f := 110) (vs := [.pointer (some ⟨b5026, 0, none⟩)]) (d := 2) (n' := 2) (by kernel_rfl) Try.call110 Try.func110 rfl Try.ntmps110 (by kernel_rfl) fun a5034 hE5035 => ?_)
  have hE5036 := hE5035.recast 0 (.v (.pointer (some ⟨b5026, 0, none⟩))) (.p 0 0) rfl rfl (Nat.le_of_ble_eq_true (n := 1) rfl)
  refine wp_skip ?_
  refine leave_end hE5036 hW5032.cells (v := .tuple #[]) (by kernel_rfl) ?_
  refine ⟨_, rfl, fun a5037 hE5038 => ?_⟩
  have hE5039 : EnvOk 3 [⟨b5026, 0, [.int .i16 0, .int .i32 0, .int .i16 0, .pointer none, .map none], true⟩] [(2, .v (.tuple #[])), (1, .p 0 0)] _ := hE5038.places (⟨rfl, rfl, trivial⟩)
  refine wpOps_nil ?_
  refine then_normal ?_
  refine go_seq_region [0] (by kernel_rfl) ?_
  refine go_runs [0] [] [0] hW5032 hE5039 (env' := [(0, .p 0 0)]) (by kernel_rfl) rfl fun a5040 hE5041 => ?_
  clear hE5039
  refine wpOps_nil ?_
  refine then_normal ?_
  refine wp_ret ?_
  refine leave hE5041 hW5032.cells (v := .pointer (some ⟨b5026, 0, none⟩)) (by kernel_rfl) ?_
  refine ⟨_, rfl, fun a5042 hE5043 => ?_⟩
  have hE5044 : EnvOk 4 [⟨b5026, 0, [.int .i16 0, .int .i32 0, .int .i16 0, .pointer none, .map none], true⟩] [(1, .v (.pointer (some ⟨b5026, 0, none⟩)))] _ := hE5043.places (trivial)
  refine of_op (wpOp_inline hE5044 (f := 53) (vs := [.pointer (some ⟨b5026, 0, none⟩)]) (d := 2) (n' := 3) (by kernel_rfl) Try.call53 Try.func53 rfl Try.ntmps53 (by kernel_rfl) fun a5045 hE5046 => ?_)
  refine go_seq_region [0] (by kernel_rfl) ?_
  refine go_runs [0] [] [] hW5032 hE5046 (env' := []) (by kernel_rfl) rfl fun a5047 hE5048 => ?_
  clear hE5046
  refine wpOps_nil ?_
  refine then_normal ?_
  refine go_seq_region [0] (by kernel_rfl) ?_
  refine go_runs [0] [] [2] hW5032 hE5048 (env' := [(2, .v (.int .i16 1))]) (by kernel_rfl) rfl fun a5049 hE5050 => ?_
  clear hE5048
  refine wpOps_nil ?_
  refine then_normal ?_
  refine wp_ret ?_
  refine leave hE5050 hW5032.cells (v := .int .i16 1) (by kernel_rfl) ?_
  refine ⟨_, rfl, fun a5051 hE5052 => ?_⟩
  have hE5053 : EnvOk 4 [⟨b5026, 0, [.int .i16 0, .int .i32 0, .int .i16 0, .pointer none, .map none], true⟩] [(2, .v (.int .i16 1)), (1, .v (.pointer (some ⟨b5026, 0, none⟩)))] _ := hE5052.places (⟨rfl, rfl, trivial⟩)
  refine go_runs [2, 3] [] [0] hW5032 hE5053 (env' := [(0, .v (.int .i64 1))]) (by kernel_rfl) rfl fun a5054 hE5055 => ?_
  clear hE5053
  refine wpOps_nil ?_
  refine then_normal ?_
  refine wp_ret ?_
  refine leave hE5055 hW5032.cells (v := .int .i64 1) (by kernel_rfl) ?_
  exact ⟨rfl, hW5032.step⟩

theorem sAddRaftVoterResponse_depth : depths sAddRaftVoterResponseF ≤ 8 := by simp [sAddRaftVoterResponseF, Fld.depth.depths, Fld.depth]
theorem sAddRaftVoterResponse_plain : plains sAddRaftVoterResponseF := by simp [sAddRaftVoterResponseF, Fld.plain.plains, Fld.plain]

theorem lawAddRaftVoterResponse (x : Int) (hx : 0 ≤ x) (hx' : x < 256) (ct : List Value) (t : Tree) (w : World) (F : Nat → Nat → Prop) (ht : TreeR w F ct t) (hroom : (writeB 8 sAddRaftVoterResponseF sAddRaftVoterResponseX (Int.tmod x (1 + 1)) t).length ≤ 1099511627776) (hsort : Sorted (fitT (Int.tmod x (1 + 1)) 8 sAddRaftVoterResponseF t).U) (hul : (fitT (Int.tmod x (1 + 1)) 8 sAddRaftVoterResponseF t).U.length ≤ 1000000) (hxl : ∀ y ∈ (fitT (Int.tmod x (1 + 1)) 8 sAddRaftVoterResponseF t).U, y.2.length < 4294967296) (hb2 : (octOf ((fitT (Int.tmod x (1 + 1)) 8 sAddRaftVoterResponseF t).at_ 2)).length ≤ 1000000) (hmade : (makeAddRaftVoterResponse (Int.tmod x (1 + 1)) (fitT (Int.tmod x (1 + 1)) 8 sAddRaftVoterResponseF t)).length + 16 ≤ 1099511627776) (hpure : makeAddRaftVoterResponse (Int.tmod x (1 + 1)) (fitT (Int.tmod x (1 + 1)) 8 sAddRaftVoterResponseF t) = writeB 8 sAddRaftVoterResponseF sAddRaftVoterResponseX (Int.tmod x (1 + 1)) t) :
    Calls Try.prog 4 #[.int .u8 x, .agg ct.toArray] w (Gives w (.bool true)) := by
  obtain ⟨n5056, s5057, b5058, l5059, u5060, A5061, c5062, A5063, c5064, A5065, c5066, xs5067, rfl, rfl, h5069, h5070, h5071, h5072⟩ := ht.open_
  have hsm5074 := h5069.small
  have hsm5075 := h5070.small
  refine enter (n := 31) Try.func4 rfl Try.ntmps4 (by kernel_rfl) fun a hE => ?_
  have hW := WOk.start w Nil
  refine go_seq_region [0, 1] (by kernel_rfl) ?_
  refine of_op (wpOp_box hW hE (d := 3) (cs := [.int .i64 n5056, .slice A5061 s5057.length c5062, .bool b5058, .slice A5063 l5059.length c5064, .slice A5065 u5060.length c5066]) (by kernel_rfl) fun b5076 a5077 w5078 hb5079 hz5080 hF5081 hW5082 hE5083 => ?_)
  clear hE hW
  refine go_runs [1] [] [0, 3] hW5082 hE5083 (env' := [(0, .v (.int .u8 x)), (3, .p 0 0)]) (by kernel_rfl) rfl fun a5084 hE5085 => ?_
  clear hE5083
  refine wpOps_nil ?_
  refine then_normal ?_
  refine wp_seq ?_
  refine go_seq_region [0, 1, 2] (by kernel_rfl) ?_
  refine go_runs [0] [1, 2] [0, 3, 8] hW5082 hE5085 (env' := [(0, .v (.int .u8 x)), (3, .p 0 0), (8, .v (.agg #[.int .i64 n5056, .slice A5061 s5057.length c5062, .bool b5058, .slice A5063 l5059.length c5064, .slice A5065 u5060.length c5066]))]) (by kernel_rfl) rfl fun a5086 hE5087 => ?_
  clear hE5085
  refine of_op (wpOp_call hE5087 (f := 11) (vs := [.agg #[.int .i64 n5056, .slice A5061 s5057.length c5062, .bool b5058, .slice A5063 l5059.length c5064, .slice A5065 u5060.length c5066]]) (d := 9) (by kernel_rfl) Try.call11 (lFits1 _ _ _ _ (ht.move hW5082.step nilM hW5082.imm)) ?_)
  rintro e_ w5090 ⟨b5089, rfl, hs5088⟩
  refine ⟨_, rfl, fun a5091 hE5092 => ?_⟩
  have hW5093 := hW5082.next_nil hs5088
  have hF5094 := Fr.nil [⟨b5076, 0, [.int .i64 n5056, .slice A5061 s5057.length c5062, .bool b5058, .slice A5063 l5059.length c5064, .slice A5065 u5060.length c5066], true⟩] [] hs5088
  clear hE5087 hW5082
  refine go_runs [2] [] [0, 3, 10] hW5093 hE5092 (env' := [(0, .v (.int .u8 x)), (3, .p 0 0), (10, .v (.bool (!b5089)))]) (by kernel_rfl) rfl fun a5095 hE5096 => ?_
  clear hE5092
  refine wpOps_nil ?_
  refine then_normal ?_
  refine cond_of hE5096 (b := !b5089) (by kernel_rfl) (fun hc5097 => ?_) (fun hc5097 => ?_)
  ·
    refine go_seq_region [0] (by kernel_rfl) ?_
    refine go_runs [0] [] [4] hW5093 hE5096 (env' := [(4, .v (.bool true))]) (by kernel_rfl) rfl fun a5099 hE5100 => ?_
    clear hE5096
    refine wpOps_nil ?_
    refine then_normal ?_
    refine wp_ret ?_
    refine then_ret ?_
    refine leave hE5100 hW5093.cells (v := .bool true) (by kernel_rfl) ?_
    exact ⟨rfl, hW5093.step⟩
  ·
    refine wp_skip ?_
    refine then_normal ?_
    refine go_seq_region [0, 1] (by kernel_rfl) ?_
    refine of_op (wpOp_call hE5096 (f := 20) (vs := []) (d := 11) (by kernel_rfl) Try.call20 (xAddRaftVoterResponse _) ?_)
    rintro e_ w5103 ⟨rfl, hs5102⟩
    refine ⟨_, rfl, fun a5104 hE5105 => ?_⟩
    have hW5106 := hW5093.next_nil hs5102
    have hF5107 := Fr.nil [⟨b5076, 0, [.int .i64 n5056, .slice A5061 s5057.length c5062, .bool b5058, .slice A5063 l5059.length c5064, .slice A5065 u5060.length c5066], true⟩] [] hs5102
    clear hE5096 hW5093
    refine go_runs [1] [] [0, 3, 5] hW5106 hE5105 (env' := [(0, .v (.int .u8 x)), (3, .p 0 0), (5, .v (.int .i64 1))]) (by kernel_rfl) rfl fun a5108 hE5109 => ?_
    clear hE5105
    refine wpOps_nil ?_
    refine then_normal ?_
    refine wp_seq ?_
    refine go_seq_region [0, 1] (by kernel_rfl) ?_
    refine go_runs [0, 1] [] [0, 3, 5, 13] hW5106 hE5109 (env' := [(0, .v (.int .u8 x)), (3, .p 0 0), (5, .v (.int .i64 1)), (13, .v (.bool false))]) (by kernel_rfl) rfl fun a5110 hE5111 => ?_
    clear hE5109
    refine wpOps_nil ?_
    refine then_normal ?_
    refine cond_false hE5111 (b := false) (by kernel_rfl) rfl ?_
    refine wp_skip ?_
    refine then_normal ?_
    refine go_seq_region [0, 1, 2, 3, 4, 5, 6] (by kernel_rfl) ?_
    refine of_op (wpOp_call hE5111 (f := 21) (vs := []) (d := 14) (by kernel_rfl) Try.call21 (sAddRaftVoterResponse _ (Imm F w w5103 [⟨b5076, 0, [.int .i64 n5056, .slice A5061 s5057.length c5062, .bool b5058, .slice A5063 l5059.length c5064, .slice A5065 u5060.length c5066], true⟩] [])) ?_)
    rintro e_ w5116 ⟨A5114, c5115, rfl, hr5113, hs5112⟩
    obtain ⟨xs5117, h5118, h5119⟩ := hr5113.move (Step.refl _ Nil) nilM (hW5106.laid (G := F) hs5112)
    refine ⟨_, rfl, fun a5120 hE5121 => ?_⟩
    have hW5122 := hW5106.next_nil hs5112
    have hF5123 := Fr.nil [⟨b5076, 0, [.int .i64 n5056, .slice A5061 s5057.length c5062, .bool b5058, .slice A5063 l5059.length c5064, .slice A5065 u5060.length c5066], true⟩] [] hs5112
    clear hE5111
    refine go_runs [1, 2] [3, 4, 5, 6] [3, 14, 15, 16] hW5122 hE5121 (env' := [(3, .p 0 0), (14, .v (.agg #[.slice A5114 sAddRaftVoterResponseF.length c5115, .int .i64 sAddRaftVoterResponseX])), (15, .v (.int .u8 x)), (16, .v (.int .i64 1))]) (by kernel_rfl) rfl fun a5124 hE5125 => ?_
    clear hE5121
    refine of_op (wpOp_call hE5125 (f := 14) (vs := [.int .u8 x, .int .i64 1]) (d := 17) (by kernel_rfl) Try.call14 (lVersion x 1 hx hx' (by decide) (by decide) _) ?_)
    rintro e_ w5127 ⟨rfl, hs5126⟩
    refine ⟨_, rfl, fun a5128 hE5129 => ?_⟩
    have hW5130 := hW5122.next_nil hs5126
    have hF5131 := Fr.nil [⟨b5076, 0, [.int .i64 n5056, .slice A5061 s5057.length c5062, .bool b5058, .slice A5063 l5059.length c5064, .slice A5065 u5060.length c5066], true⟩] [] hs5126
    clear hE5125 hW5122
    refine of_op (wpOp_alloc hW5130 hE5129 (d := 6) (cs := [.slice none 0 0, .int .i64 0]) (by kernel_rfl) fun b5132 a5133 w5134 hb5135 hz5136 hF5137 hW5138 hE5139 => ?_)
    clear hE5129 hW5130
    refine of_op (wpOp_store hW5138 hE5139 (oi := 1) (cs := [.slice A5114 sAddRaftVoterResponseF.length c5115, .int .i64 sAddRaftVoterResponseX]) (by kernel_rfl) fun w5140 hF5141 hW5142 hE5143 => ?_)
    clear hE5139 hW5138
    refine go_runs [6] [] [3, 6, 7] hW5142 hE5143 (env' := [(3, .p 0 0), (6, .p 1 0), (7, .v (.int .i64 (Int.tmod x (1 + 1))))]) (by kernel_rfl) rfl fun a5144 hE5145 => ?_
    clear hE5143
    refine wpOps_nil ?_
    refine then_normal ?_
    refine go_seq_drawK 13 (by kernel_rfl) hW5142 fun w5146 hF5147 hW5148 hT5149 => ?_
    clear hW5142
    refine go_runsD [0, 1, 2, 3, 4, 8, 9, 10] [18, 20, 21, 22, 26, 27, 28] 6 (by kernel_rfl) (panicFree_then panicFree_body) (fun _ h => h.cells) hT5149 hE5145 (by kernel_rfl) (env' := [(18, .v (.int .i64 (Int.tmod x (1 + 1)))), (20, .v (.slice A5114 sAddRaftVoterResponseF.length c5115)), (21, .v (.int .i64 (Int.tmod x (1 + 1)))), (22, .v (.agg #[.int .i64 n5056, .slice A5061 s5057.length c5062, .bool b5058, .slice A5063 l5059.length c5064, .slice A5065 u5060.length c5066])), (26, .v (.agg #[.slice A5114 sAddRaftVoterResponseF.length c5115, .int .i64 sAddRaftVoterResponseX])), (27, .v (.int .i64 (Int.tmod x (1 + 1)))), (28, .v (.agg #[.int .i64 n5056, .slice A5061 s5057.length c5062, .bool b5058, .slice A5063 l5059.length c5064, .slice A5065 u5060.length c5066]))]) (by kernel_rfl) rfl fun a5150 hE5151 => ?_
    clear hE5145
    refine anyC_op (i := 5) (by kernel_rfl) (wpOp_call hE5151 (f := 18) (vs := [.slice A5114 sAddRaftVoterResponseF.length c5115, .int .i64 (Int.tmod x (1 + 1)), .agg #[.int .i64 n5056, .slice A5061 s5057.length c5062, .bool b5058, .slice A5063 l5059.length c5064, .slice A5065 u5060.length c5066]]) (d := 23) (by kernel_rfl) Try.call18 (sFitOK _ _ _ sAddRaftVoterResponseF (Int.tmod x (1 + 1)) _ (Tree.mk n5056 s5057 b5058 l5059 u5060) _ _ ⟨xs5117, (h5118.move (Fr.trans (Fr.trans (Fr.trans hF5131 hF5137) hF5141) hF5147).step immM (Fr.trans (Fr.trans (Fr.trans hF5131 hF5137) hF5141) hF5147).to'), (fun i_ x_ h_ => ((h5119 i_ x_ h_).move (Fr.trans (Fr.trans (Fr.trans hF5131 hF5137) hF5141) hF5147).step immM (Fr.trans (Fr.trans (Fr.trans hF5131 hF5137) hF5141) hF5147).to'))⟩ sAddRaftVoterResponse_plain sAddRaftVoterResponse_depth (ht.move hW5148.step nilM hW5148.imm)) ?_)
    rintro e_ w5155 ⟨cs5154, rfl, hr5153, hs5152⟩
    have hr5156 := hr5153.move (Step.refl _ Nil) nilM (hW5148.laid (G := F) hs5152)
    obtain ⟨n5157, s5158, b5159, l5160, u5161, A5162, c5163, A5164, c5165, A5166, c5167, xs5168, ht5174, hcs5169, h5170, h5171, h5172, h5173⟩ := hr5156.open_
    rw [hcs5169] at hr5156
    have hsm5175 := h5170.small
    have hsm5176 := h5171.small
    rw [hcs5169]
    refine ⟨_, rfl, fun a5177 hE5178 => ?_⟩
    have hW5179 := hW5148.next_nil hs5152
    have hF5180 := Fr.nil [⟨b5076, 0, [.int .i64 n5056, .slice A5061 s5057.length c5062, .bool b5058, .slice A5063 l5059.length c5064, .slice A5065 u5060.length c5066], true⟩, ⟨b5132, 0, [.slice A5114 sAddRaftVoterResponseF.length c5115, .int .i64 sAddRaftVoterResponseX], true⟩] [] hs5152
    clear hE5151
    have hT5181 : TT w5146 [⟨b5076, 0, [.int .i64 n5056, .slice A5061 s5057.length c5062, .bool b5058, .slice A5063 l5059.length c5064, .slice A5065 u5060.length c5066], true⟩, ⟨b5132, 0, [.slice A5114 sAddRaftVoterResponseF.length c5115, .int .i64 sAddRaftVoterResponseX], true⟩] [] w5155 := ⟨hW5179.cells, hF5180.step⟩
    refine ⟨fun _ => hT5181, ?_⟩
    refine anyC_op (i := 6) (by kernel_rfl) (wpOp_call hE5178 (f := 17) (vs := [.agg #[.int .i64 n5157, .slice A5162 s5158.length c5163, .bool b5159, .slice A5164 l5160.length c5165, .slice A5166 u5161.length c5167]]) (d := 24) (by kernel_rfl) Try.call17 (lGiven _ _ _ _ _ hr5156 (Nat.le_refl _)) ?_)
    rintro e_ w5185 ⟨cs5184, rfl, hr5183, hs5182⟩
    have hr5186 := hr5183.move (Step.refl _ Nil) nilM (hW5179.laid (G := F) hs5182)
    obtain ⟨n5187, s5188, b5189, l5190, u5191, A5192, c5193, A5194, c5195, A5196, c5197, xs5198, ht5204, hcs5199, h5200, h5201, h5202, h5203⟩ := hr5186.open_
    rw [hcs5199] at hr5186
    have hsm5205 := h5200.small
    have hsm5206 := h5201.small
    rw [hcs5199]
    refine ⟨_, rfl, fun a5207 hE5208 => ?_⟩
    have hW5209 := hW5179.next_nil hs5182
    have hF5210 := Fr.nil [⟨b5076, 0, [.int .i64 n5056, .slice A5061 s5057.length c5062, .bool b5058, .slice A5063 l5059.length c5064, .slice A5065 u5060.length c5066], true⟩, ⟨b5132, 0, [.slice A5114 sAddRaftVoterResponseF.length c5115, .int .i64 sAddRaftVoterResponseX], true⟩] [] hs5182
    clear hE5178
    have hT5211 : TT w5146 [⟨b5076, 0, [.int .i64 n5056, .slice A5061 s5057.length c5062, .bool b5058, .slice A5063 l5059.length c5064, .slice A5065 u5060.length c5066], true⟩, ⟨b5132, 0, [.slice A5114 sAddRaftVoterResponseF.length c5115, .int .i64 sAddRaftVoterResponseX], true⟩] [] w5185 := ⟨hW5209.cells, (Fr.trans hF5180 hF5210).step⟩
    refine ⟨fun _ => hT5211, ?_⟩
    refine anyC_op (i := 7) (by kernel_rfl) (wpOp_call hE5208 (f := 22) (vs := [.int .i64 (Int.tmod x (1 + 1)), .agg #[.int .i64 n5187, .slice A5192 s5188.length c5193, .bool b5189, .slice A5194 l5190.length c5195, .slice A5196 u5191.length c5197]]) (d := 25) (by kernel_rfl) Try.call22 (mAddRaftVoterResponse (Int.tmod x (1 + 1)) _ (fitT (Int.tmod x (1 + 1)) 8 sAddRaftVoterResponseF (Tree.mk n5056 s5057 b5058 l5059 u5060)) _ _ hr5186 hsort hul hxl hb2 hmade) ?_)
    rintro e_ w5216 ⟨A5214, c5215, rfl, ho5213, hs5212⟩
    refine ⟨_, rfl, fun a5217 hE5218 => ?_⟩
    have hW5219 := hW5209.fresh hs5212 (brow A5214 c5215 5 (makeAddRaftVoterResponse (Int.tmod x (1 + 1)) (fitT (Int.tmod x (1 + 1)) 8 sAddRaftVoterResponseF (Tree.mk n5056 s5057 b5058 l5059 u5060)))) (Nat.le_refl _) ho5213
    have hF5220 := Fr.fresh [⟨b5076, 0, [.int .i64 n5056, .slice A5061 s5057.length c5062, .bool b5058, .slice A5063 l5059.length c5064, .slice A5065 u5060.length c5066], true⟩, ⟨b5132, 0, [.slice A5114 sAddRaftVoterResponseF.length c5115, .int .i64 sAddRaftVoterResponseX], true⟩] [] hs5212 (brow A5214 c5215 5 (makeAddRaftVoterResponse (Int.tmod x (1 + 1)) (fitT (Int.tmod x (1 + 1)) 8 sAddRaftVoterResponseF (Tree.mk n5056 s5057 b5058 l5059 u5060)))) (Nat.le_refl _) ho5213
    clear hE5208 hW5209
    have hT5221 : TT w5146 [⟨b5076, 0, [.int .i64 n5056, .slice A5061 s5057.length c5062, .bool b5058, .slice A5063 l5059.length c5064, .slice A5065 u5060.length c5066], true⟩, ⟨b5132, 0, [.slice A5114 sAddRaftVoterResponseF.length c5115, .int .i64 sAddRaftVoterResponseX], true⟩] [] w5216 := ⟨hW5219.cells, (Fr.trans (Fr.trans hF5180 hF5210) hF5220).step⟩
    refine ⟨fun _ => hT5221, ?_⟩
    refine anyC_op (i := 11) (by kernel_rfl) (wpOp_call hE5218 (f := 19) (vs := [.agg #[.slice A5114 sAddRaftVoterResponseF.length c5115, .int .i64 sAddRaftVoterResponseX], .int .i64 (Int.tmod x (1 + 1)), .agg #[.int .i64 n5056, .slice A5061 s5057.length c5062, .bool b5058, .slice A5063 l5059.length c5064, .slice A5065 u5060.length c5066]]) (d := 29) (by kernel_rfl) Try.call19 (sWrite _ _ sAddRaftVoterResponseF sAddRaftVoterResponseX (Int.tmod x (1 + 1)) _ (Tree.mk n5056 s5057 b5058 l5059 u5060) _ _ ⟨xs5117, (h5118.move (Fr.trans (Fr.trans (Fr.trans (Fr.trans (Fr.trans (Fr.trans hF5131 hF5137) hF5141) hF5147) hF5180) hF5210) hF5220).step immM (Fr.trans (Fr.trans (Fr.trans (Fr.trans (Fr.trans (Fr.trans hF5131 hF5137) hF5141) hF5147) hF5180) hF5210) hF5220).to'), (fun i_ x_ h_ => ((h5119 i_ x_ h_).move (Fr.trans (Fr.trans (Fr.trans (Fr.trans (Fr.trans (Fr.trans hF5131 hF5137) hF5141) hF5147) hF5180) hF5210) hF5220).step immM (Fr.trans (Fr.trans (Fr.trans (Fr.trans (Fr.trans (Fr.trans hF5131 hF5137) hF5141) hF5147) hF5180) hF5210) hF5220).to'))⟩ sAddRaftVoterResponse_depth (ht.move hW5219.step nilM hW5219.imm) hroom) ?_)
    rintro e_ w5226 ⟨A5224, c5225, rfl, ho5223, hs5222⟩
    refine ⟨_, rfl, fun a5227 hE5228 => ?_⟩
    have hW5229 := hW5219.fresh hs5222 (brow A5224 c5225 5 (writeB 8 sAddRaftVoterResponseF sAddRaftVoterResponseX (Int.tmod x (1 + 1)) (Tree.mk n5056 s5057 b5058 l5059 u5060))) (Nat.le_refl _) ho5223
    have hF5230 := Fr.fresh [⟨b5076, 0, [.int .i64 n5056, .slice A5061 s5057.length c5062, .bool b5058, .slice A5063 l5059.length c5064, .slice A5065 u5060.length c5066], true⟩, ⟨b5132, 0, [.slice A5114 sAddRaftVoterResponseF.length c5115, .int .i64 sAddRaftVoterResponseX], true⟩] [brow A5214 c5215 5 (makeAddRaftVoterResponse (Int.tmod x (1 + 1)) (fitT (Int.tmod x (1 + 1)) 8 sAddRaftVoterResponseF (Tree.mk n5056 s5057 b5058 l5059 u5060)))] hs5222 (brow A5224 c5225 5 (writeB 8 sAddRaftVoterResponseF sAddRaftVoterResponseX (Int.tmod x (1 + 1)) (Tree.mk n5056 s5057 b5058 l5059 u5060))) (Nat.le_refl _) ho5223
    clear hE5218 hW5219
    have hT5231 : TT w5146 [⟨b5076, 0, [.int .i64 n5056, .slice A5061 s5057.length c5062, .bool b5058, .slice A5063 l5059.length c5064, .slice A5065 u5060.length c5066], true⟩, ⟨b5132, 0, [.slice A5114 sAddRaftVoterResponseF.length c5115, .int .i64 sAddRaftVoterResponseX], true⟩] [] w5226 := ⟨hW5229.cells, (Fr.trans (Fr.trans (Fr.trans hF5180 hF5210) hF5220) hF5230).step⟩
    refine ⟨fun _ => hT5231, ?_⟩
    refine anyC_op (i := 12) (by kernel_rfl) (wpOp_call hE5228 (f := 15) (vs := [.slice A5214 ((makeAddRaftVoterResponse (Int.tmod x (1 + 1)) (fitT (Int.tmod x (1 + 1)) 8 sAddRaftVoterResponseF (Tree.mk n5056 s5057 b5058 l5059 u5060))).length) c5215, .slice A5224 ((writeB 8 sAddRaftVoterResponseF sAddRaftVoterResponseX (Int.tmod x (1 + 1)) (Tree.mk n5056 s5057 b5058 l5059 u5060)).length) c5225]) (d := 30) (by kernel_rfl) Try.call15 (sSame _ _ _ _ (makeAddRaftVoterResponse (Int.tmod x (1 + 1)) (fitT (Int.tmod x (1 + 1)) 8 sAddRaftVoterResponseF (Tree.mk n5056 s5057 b5058 l5059 u5060))) (writeB 8 sAddRaftVoterResponseF sAddRaftVoterResponseX (Int.tmod x (1 + 1)) (Tree.mk n5056 s5057 b5058 l5059 u5060)) _ _ (octs_own (hW5229.own 0 _ rfl) (by first | omega | (simp only [be_length]; exact Nat.le_trans (widthI_le _) (by decide)) | (have := hroom; omega) | (have := hmade; omega)) (F := fun _ _ => True) (fun _ _ _ => trivial)) (octs_own (hW5229.own 1 _ rfl) (by first | omega | (simp only [be_length]; exact Nat.le_trans (widthI_le _) (by decide)) | (have := hroom; omega) | (have := hmade; omega)) (F := fun _ _ => True) (fun _ _ _ => trivial))) ?_)
    rintro e_ w5233 ⟨rfl, hs5232⟩
    refine ⟨_, rfl, fun a5234 hE5235 => ?_⟩
    have hW5236 := hW5229.next_nil hs5232
    have hF5237 := Fr.nil [⟨b5076, 0, [.int .i64 n5056, .slice A5061 s5057.length c5062, .bool b5058, .slice A5063 l5059.length c5064, .slice A5065 u5060.length c5066], true⟩, ⟨b5132, 0, [.slice A5114 sAddRaftVoterResponseF.length c5115, .int .i64 sAddRaftVoterResponseX], true⟩] [brow A5214 c5215 5 (makeAddRaftVoterResponse (Int.tmod x (1 + 1)) (fitT (Int.tmod x (1 + 1)) 8 sAddRaftVoterResponseF (Tree.mk n5056 s5057 b5058 l5059 u5060))), brow A5224 c5225 5 (writeB 8 sAddRaftVoterResponseF sAddRaftVoterResponseX (Int.tmod x (1 + 1)) (Tree.mk n5056 s5057 b5058 l5059 u5060))] hs5232
    clear hE5228 hW5229
    have hT5238 : TT w5146 [⟨b5076, 0, [.int .i64 n5056, .slice A5061 s5057.length c5062, .bool b5058, .slice A5063 l5059.length c5064, .slice A5065 u5060.length c5066], true⟩, ⟨b5132, 0, [.slice A5114 sAddRaftVoterResponseF.length c5115, .int .i64 sAddRaftVoterResponseX], true⟩] [] w5233 := ⟨hW5236.cells, (Fr.trans (Fr.trans (Fr.trans (Fr.trans hF5180 hF5210) hF5220) hF5230) hF5237).step⟩
    refine ⟨fun _ => hT5238, ?_⟩
    refine anyC_op (i := 13) (by kernel_rfl) (wpOp_pure [4] hW5236.cells hE5235 (env' := [(4, .v (.bool (decide (makeAddRaftVoterResponse (Int.tmod x (1 + 1)) (fitT (Int.tmod x (1 + 1)) 8 sAddRaftVoterResponseF (Tree.mk n5056 s5057 b5058 l5059 u5060)) = writeB 8 sAddRaftVoterResponseF sAddRaftVoterResponseX (Int.tmod x (1 + 1)) (Tree.mk n5056 s5057 b5058 l5059 u5060)))))]) (by kernel_rfl) fun a5239 hE5240 => ?_)
    clear hE5235
    refine ⟨fun h => absurd rfl h, ?_⟩
    refine anyC_done (by kernel_rfl) ?_ _
    refine then_normal ?_
    refine wp_ret ?_
    refine leave hE5240 hW5236.cells (v := .bool (decide (makeAddRaftVoterResponse (Int.tmod x (1 + 1)) (fitT (Int.tmod x (1 + 1)) 8 sAddRaftVoterResponseF (Tree.mk n5056 s5057 b5058 l5059 u5060)) = writeB 8 sAddRaftVoterResponseF sAddRaftVoterResponseX (Int.tmod x (1 + 1)) (Tree.mk n5056 s5057 b5058 l5059 u5060)))) (by kernel_rfl) ?_
    exact ⟨by rw [hpure]; simp, hW5236.step⟩

theorem pureAddRaftVoterResponse (v : Int) (h0 : 0 ≤ v) (h1 : v < 32768) (t : Tree) : makeAddRaftVoterResponse v (fitT v 8 sAddRaftVoterResponseF t) = writeB 8 sAddRaftVoterResponseF sAddRaftVoterResponseX v t := by
  have e0 : ((fitT v 8 sAddRaftVoterResponseF t).at_ 0).N = (t.at_ 0).N := fit_N (d := 7) (show sAddRaftVoterResponseF[0]? = _ from rfl) (by decide)
  have e1 : ((fitT v 8 sAddRaftVoterResponseF t).at_ 1).N = (t.at_ 1).N := fit_N (d := 7) (show sAddRaftVoterResponseF[1]? = _ from rfl) (by decide)
  have o2 := fit_o (v := v) (d := 7) (t := t) (show sAddRaftVoterResponseF[2]? = _ from rfl) (by decide)
  rw [makeAddRaftVoterResponse, aAddRaftVoterResponse, fit_U, tagsR_whole, wholeU_len, i16_small h0 h1, o2.1, o2.2]
  simp only [e0, e1, be4_i32', be2_i16, be8_i64, be1_i8]
  by_cases n2 : Fld.nul (Fld.mk 8 0 (-1) 0 (-1) 0 0 []) v (t.at_ 2) = true <;> simp [writeB, sAddRaftVoterResponseX, partB, partW, bodyB, sAddRaftVoterResponseF, Fld.tag, Fld.has, fieldB, Fld.kind, Fld.null, valueB, widthI, tagsN, tagsK, knownI, h0, n2, countedB, uv0, h0]
theorem closeAddRaftVoterResponse (x : Int) (hx : 0 ≤ x ∧ x ≤ 255) (ct : List Value) (t : Tree) (w : World) (F : Nat → Nat → Prop) (ht : TreeR w F ct t) : Calls Try.prog 4 #[.int .u8 x, .agg ct.toArray] w (Gives w (.bool true)) := by
  obtain ⟨g0, g1⟩ := ver_ok (m := 1 + 1) hx.1 hx.2 (by decide) (by decide)
  obtain ⟨h1, h2, h3, h4⟩ := fit_ok ht (Int.tmod x (1 + 1)) 8 sAddRaftVoterResponseF
  have hp := pureAddRaftVoterResponse (Int.tmod x (1 + 1)) g0 g1 t
  have huv := uv_len_le (fitT (Int.tmod x (1 + 1)) 8 sAddRaftVoterResponseF t).U.length 5 (by omega) (by decide)
  have hb2 : (octOf ((fitT (Int.tmod x (1 + 1)) 8 sAddRaftVoterResponseF t).at_ 2)).length ≤ 1000000 := octs_le (d := 7) (show sAddRaftVoterResponseF[2]? = _ from rfl) (by decide)
  have hw2 := uv_len_le ((octOf ((fitT (Int.tmod x (1 + 1)) 8 sAddRaftVoterResponseF t).at_ 2)).length + 1) 5 (by omega) (by decide)
  have hu0 : (uv 0).length = 1 := by rw [uv0]; rfl
  have hm : (makeAddRaftVoterResponse (Int.tmod x (1 + 1)) (fitT (Int.tmod x (1 + 1)) 8 sAddRaftVoterResponseF t)).length + 16 ≤ 1099511627776 := by
    simp only [makeAddRaftVoterResponse, aAddRaftVoterResponse, List.length_append, be_length, List.length_nil]
    repeat' split
    all_goals (simp only [List.length_append, be_length, List.length_nil]; omega)
  exact lawAddRaftVoterResponse x hx.1 (by omega) ct t w F ht (by rw [← hp]; omega) h1 h2 h3 hb2 hm hp

end Go.Proofs.Ytbjopfcbpobnpaa.ME
