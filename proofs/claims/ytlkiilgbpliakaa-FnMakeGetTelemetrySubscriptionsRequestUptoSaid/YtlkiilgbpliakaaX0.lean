/- Printed by tools/mk.py. Own work. -/
import Derived.Test.YtlkiilgbpliakaaXc
import Derived.Test.YtlkiilgbpliakaaLa
import Derived.Test.YtlkiilgbpliakaaLb
namespace Go.Proofs.Ytlkiilgbpliakaa.ME
open Go
open Go.RowKit
set_option linter.unusedVariables false
set_option linter.unusedSimpArgs false
set_option maxRecDepth 20000

def aGetTelemetrySubscriptionsRequest (x0 : Int) (x1 : Bs) (u : List (Int × Bs)) : Bs := (x1) ++ ((if (decide (x0 ≥ 0)) = true then (uv u.length) ++ (tagsR u) else []) ++ ([]))
theorem kGetTelemetrySubscriptionsRequest (x0 : Int) (x1 : Bs) (u : List (Int × Bs)) (b o : Nat) (m : Option Nat) (A : Option Addr) (cp : Nat) (s : Bs) (w : World) (F : Nat → Nat → Prop) (hat : AtF w F b o [.int .i16 x0, byteCell (x1.getD 0 0), byteCell (x1.getD 1 0), byteCell (x1.getD 2 0), byteCell (x1.getD 3 0), byteCell (x1.getD 4 0), byteCell (x1.getD 5 0), byteCell (x1.getD 6 0), byteCell (x1.getD 7 0), byteCell (x1.getD 8 0), byteCell (x1.getD 9 0), byteCell (x1.getD 10 0), byteCell (x1.getD 11 0), byteCell (x1.getD 12 0), byteCell (x1.getD 13 0), byteCell (x1.getD 14 0), byteCell (x1.getD 15 0), .map m]) (hm : MapR w F m u) (hul : u.length ≤ 1000000) (hx : ∀ x ∈ u, x.2.length < 4294967296) (hlx1 : x1.length = 16) (hF : ∀ b o, F b o → ¬ Blk A b o) (ho : w.ownsRow 0 5 1 (.slice A s.length cp) s.length (bc s)) (hroom : s.length + (aGetTelemetrySubscriptionsRequest x0 x1 u).length + 16 ≤ 1099511627776) :
    Calls Try.prog 47 [.pointer (some ⟨b, o, none⟩), .slice A s.length cp].toArray w (AppPost w 5 A (s ++ aGetTelemetrySubscriptionsRequest x0 x1 u)) := by
  refine chr_calls (n := 38) Try.func47 rfl Try.ntmps47 (by kernel_rfl) rfl ho hroom ?_
  unfold aGetTelemetrySubscriptionsRequest
  refine chr_ob b o [.int .i16 x0, byteCell (x1.getD 0 0), byteCell (x1.getD 1 0), byteCell (x1.getD 2 0), byteCell (x1.getD 3 0), byteCell (x1.getD 4 0), byteCell (x1.getD 5 0), byteCell (x1.getD 6 0), byteCell (x1.getD 7 0), byteCell (x1.getD 8 0), byteCell (x1.getD 9 0), byteCell (x1.getD 10 0), byteCell (x1.getD 11 0), byteCell (x1.getD 12 0), byteCell (x1.getD 13 0), byteCell (x1.getD 14 0), byteCell (x1.getD 15 0), .map m] hat hF (by kernel_rfl) (by kernel_rfl) ?_
  refine chr_ptr 0 0 0 b o (by simp) rfl rfl rfl ?_
  refine chr_seq0 (ch_pure (env' := [(0, .p 0 0)]) [0] (fun _ _ _ => by kernel_rfl)) ?_
  refine chr_seq0 (ch_pure (env' := [(0, .p 0 0), (5, .v (.int .i16 x0))]) [0, 5] (fun _ _ _ => by kernel_rfl)) ?_
  refine chr_seq0 (ch_pure (env' := [(0, .p 0 0), (5, .v (.int .i16 x0))]) [0, 5] (fun _ _ _ => by kernel_rfl)) ?_
  refine chr_seq0 (ch_pure (env' := [(0, .p 0 0), (6, .v (.bool (decide (x0 ≥ 0))))]) [0, 6] (fun _ _ _ => by kernel_rfl)) ?_
  refine chr_seq0 (ch_pure (env' := [(0, .p 0 0), (6, .v (.bool (decide (x0 ≥ 0))))]) [0, 6] (fun _ _ _ => by kernel_rfl)) ?_
  refine chr_seq (e1 := [(0, .p 0 0), (6, .v (.bool (decide (x0 ≥ 0))))]) ?_ ?_
  ·
    refine ch_box (cs := [byteCell (x1.getD 0 0), byteCell (x1.getD 1 0), byteCell (x1.getD 2 0), byteCell (x1.getD 3 0), byteCell (x1.getD 4 0), byteCell (x1.getD 5 0), byteCell (x1.getD 6 0), byteCell (x1.getD 7 0), byteCell (x1.getD 8 0), byteCell (x1.getD 9 0), byteCell (x1.getD 10 0), byteCell (x1.getD 11 0), byteCell (x1.getD 12 0), byteCell (x1.getD 13 0), byteCell (x1.getD 14 0), byteCell (x1.getD 15 0)]) (e2 := [(0, .p 0 0), (6, .v (.bool (decide (x0 ≥ 0)))), (7, .p 1 0)]) 4 [0, 6, 7] (fun _ _ _ _ => by kernel_rfl) (by kernel_rfl) (by kernel_rfl) fun blk => ?_
    exact ch_call (f := 76) (vs := [.agg #[byteCell (x1.getD 0 0), byteCell (x1.getD 1 0), byteCell (x1.getD 2 0), byteCell (x1.getD 3 0), byteCell (x1.getD 4 0), byteCell (x1.getD 5 0), byteCell (x1.getD 6 0), byteCell (x1.getD 7 0), byteCell (x1.getD 8 0), byteCell (x1.getD 9 0), byteCell (x1.getD 10 0), byteCell (x1.getD 11 0), byteCell (x1.getD 12 0), byteCell (x1.getD 13 0), byteCell (x1.getD 14 0), byteCell (x1.getD 15 0)]]) 2 [0, 6] (fun _ _ _ _ _ _ => by kernel_rfl) (by kernel_rfl) Try.call76 (fun A cp s w _ _ ho hr => kAppendUuid x1 hlx1 A cp s w ho hr)
  refine chr_seq (e1 := []) ?_ ?_
  ·
    refine ch_seq0 (ch_pure (env' := [(0, .p 0 0), (23, .v (.bool (decide (x0 ≥ 0))))]) [0, 23] (fun _ _ _ => by kernel_rfl)) ?_
    refine ch_when (b := decide (x0 ≥ 0)) (fun _ _ _ => by kernel_rfl) (fun hb => ?_) (fun hb => ?_)
    ·
      refine ch_seq (e1 := [(0, .p 0 0)]) ?_ ?_
      ·
        exact ch_call2 (f1 := 68) (vs1 := [.pointer (some ⟨b, o + 17, none⟩)]) (r1 := .int .i64 ((u.length : Nat) : Int)) (f := 67) (vs := [.int .u32 (IntKind.u32.wrap (0 + (IntKind.u32.wrap ((u.length : Nat) : Int))))]) 4 7 [0] (fun _ _ _ _ _ _ => by kernel_rfl) (by kernel_rfl) Try.call68 Try.call67 (fun w hs => kTagsLen (F := Lo F _) ((hat.one 17 rfl).move hs (lo_M hF) lo_F) (hm.move hs (lo_M hF) lo_F)) (fun A cp s w _ _ ho hr => by rw [show (IntKind.u32.wrap (0 + (IntKind.u32.wrap ((u.length : Nat) : Int))) : Int) = ((u.length : Nat) : Int) from wrap_u32_len _ hul]; exact kAppendUvarint u.length (by omega) A cp s w ho hr)
      ·
        exact ch_callG (f := 69) 4 [] (fun s => [.pointer (some ⟨b, o + 17, none⟩), s]) (fun _ _ _ _ _ _ => by kernel_rfl) (by kernel_rfl) Try.call69 (fun A cp s w hs hA ho hr => kAppendEach (F := Lo F _) ((hat.one 17 rfl).move hs (lo_M hF) lo_F) (hm.move hs (lo_M hF) lo_F) ho (lo_dis hF hA) hx hr)
    · exact ch_pick (e1 := []) [] (fun _ _ _ => by kernel_rfl) ch_skip
  exact chr_end (fun _ _ _ => by kernel_rfl)

def makeGetTelemetrySubscriptionsRequest (v : Int) (t : Tree) : Bs := aGetTelemetrySubscriptionsRequest (IntKind.i16.wrap v) (sixteenB (t.at_ 0).S) t.U
theorem mGetTelemetrySubscriptionsRequest (v : Int) (ct : List Value) (t : Tree) (w : World) (F : Nat → Nat → Prop) (ht : TreeR w F ct t) (hsort : Sorted t.U) (hul : t.U.length ≤ 1000000) (hxl : ∀ x ∈ t.U, x.2.length < 4294967296) (hroom : (makeGetTelemetrySubscriptionsRequest v t).length + 16 ≤ 1099511627776) : Calls Try.prog 22 #[.int .i64 v, .agg ct.toArray] w (FreshB w 5 (makeGetTelemetrySubscriptionsRequest v t)) := by
  obtain ⟨n4977, s4978, b4979, l4980, u4981, A4982, c4983, A4984, c4985, A4986, c4987, xs4988, rfl, rfl, h4990, h4991, h4992, h4993⟩ := ht.open_
  have hsm4995 := h4990.small
  have hsm4996 := h4991.small
  replace hsort : Sorted u4981 := hsort
  replace hul : u4981.length ≤ 1000000 := hul
  replace hxl : ∀ x ∈ u4981, x.2.length < 4294967296 := hxl
  refine enter (n := 17) Try.func22 rfl Try.ntmps22 (by kernel_rfl) fun a hE => ?_
  have hW := WOk.start w Nil
  refine go_seq_region [0, 1] (by kernel_rfl) ?_
  refine of_op (wpOp_box hW hE (d := 3) (cs := [.int .i64 n4977, .slice A4982 s4978.length c4983, .bool b4979, .slice A4984 l4980.length c4985, .slice A4986 u4981.length c4987]) (by kernel_rfl) fun b4997 a4998 w4999 hb5000 hz5001 hF5002 hW5003 hE5004 => ?_)
  clear hE hW
  refine go_runs [1] [] [0, 3] hW5003 hE5004 (env' := [(0, .v (.int .i64 v)), (3, .p 0 0)]) (by kernel_rfl) rfl fun a5005 hE5006 => ?_
  clear hE5004
  refine wpOps_nil ?_
  refine then_normal ?_
  refine go_seq_region [0, 1, 2] (by kernel_rfl) ?_
  refine go_runs [0] [1, 2] [0, 3, 6] hW5003 hE5006 (env' := [(0, .v (.int .i64 v)), (3, .p 0 0), (6, .v (.agg #[.int .i16 0, .int .u8 0, .int .u8 0, .int .u8 0, .int .u8 0, .int .u8 0, .int .u8 0, .int .u8 0, .int .u8 0, .int .u8 0, .int .u8 0, .int .u8 0, .int .u8 0, .int .u8 0, .int .u8 0, .int .u8 0, .int .u8 0, .map none]))]) (by kernel_rfl) rfl fun a5007 hE5008 => ?_
  clear hE5006
  refine of_op (wpOp_box hW5003 hE5008 (d := 7) (cs := [.int .i16 0, .int .u8 0, .int .u8 0, .int .u8 0, .int .u8 0, .int .u8 0, .int .u8 0, .int .u8 0, .int .u8 0, .int .u8 0, .int .u8 0, .int .u8 0, .int .u8 0, .int .u8 0, .int .u8 0, .int .u8 0, .int .u8 0, .map none]) (by kernel_rfl) fun b5009 a5010 w5011 hb5012 hz5013 hF5014 hW5015 hE5016 => ?_)
  clear hE5008 hW5003
  refine go_runs [2] [] [0, 3, 5] hW5015 hE5016 (env' := [(0, .v (.int .i64 v)), (3, .p 0 0), (5, .p 1 0)]) (by kernel_rfl) rfl fun a5017 hE5018 => ?_
  clear hE5016
  refine wpOps_nil ?_
  refine then_normal ?_
  refine go_seq_region [0, 1, 2, 3] (by kernel_rfl) ?_
  refine go_runs [0, 1, 2] [3] [3, 5, 8, 10] hW5015 hE5018 (env' := [(3, .p 0 0), (5, .p 1 0), (8, .p 1 0), (10, .v (.int .i16 (IntKind.i16.wrap v)))]) (by kernel_rfl) rfl fun a5019 hE5020 => ?_
  clear hE5018
  refine of_op (wpOp_inline hE5020 (f := 45) (vs := [.pointer (some ⟨b5009, 0, none⟩), .int .i16 (IntKind.i16.wrap v)]) (d := 11) (n' := 8) (by kernel_rfl) Try.call45 Try.func45 rfl Try.ntmps45 (by kernel_rfl) fun a5021 hE5022 => ?_)
  have hE5023 := hE5022.recast 0 (.v (.pointer (some ⟨b5009, 0, none⟩))) (.p 1 0) rfl rfl (Nat.le_of_ble_eq_true (n := 2) rfl)
  refine go_region [0, 1, 2, 3, 4] (by kernel_rfl) ?_
  refine go_runs [0, 1, 2, 3] [4] [5, 7] hW5015 hE5023 (env' := [(5, .v (.int .i16 (IntKind.i16.wrap v))), (7, .p 1 0)]) (by kernel_rfl) rfl fun a5024 hE5025 => ?_
  clear hE5023
  refine of_op (wpOp_store hW5015 hE5025 (oi := 1) (cs := [.int .i16 (IntKind.i16.wrap v), .int .u8 0, .int .u8 0, .int .u8 0, .int .u8 0, .int .u8 0, .int .u8 0, .int .u8 0, .int .u8 0, .int .u8 0, .int .u8 0, .int .u8 0, .int .u8 0, .int .u8 0, .int .u8 0, .int .u8 0, .int .u8 0, .map none]) (by kernel_rfl) fun w5026 hF5027 hW5028 hE5029 => ?_)
  clear hE5025 hW5015
  refine wpOps_nil ?_
  refine leave_end hE5029 hW5028.cells (v := .tuple #[]) (by kernel_rfl) ?_
  refine ⟨_, rfl, fun a5030 hE5031 => ?_⟩
  have hE5032 : EnvOk 17 [⟨b4997, 0, [.int .i64 n4977, .slice A4982 s4978.length c4983, .bool b4979, .slice A4984 l4980.length c4985, .slice A4986 u4981.length c4987], true⟩, ⟨b5009, 0, [.int .i16 (IntKind.i16.wrap v), .int .u8 0, .int .u8 0, .int .u8 0, .int .u8 0, .int .u8 0, .int .u8 0, .int .u8 0, .int .u8 0, .int .u8 0, .int .u8 0, .int .u8 0, .int .u8 0, .int .u8 0, .int .u8 0, .int .u8 0, .int .u8 0, .map none], true⟩] [(11, .v (.tuple #[])), (3, .p 0 0), (5, .p 1 0), (8, .p 1 0), (10, .v (.int .i16 (IntKind.i16.wrap v)))] _ := hE5031.places (⟨rfl, rfl, ⟨rfl, rfl, trivial⟩⟩)
  refine wpOps_nil ?_
  refine then_normal ?_
  refine go_seq_region [0, 1, 2] (by kernel_rfl) ?_
  refine go_runs [0, 1] [2] [5, 12, 13] hW5028 hE5032 (env' := [(5, .p 1 0), (12, .p 1 0), (13, .v (.agg #[.int .i64 n4977, .slice A4982 s4978.length c4983, .bool b4979, .slice A4984 l4980.length c4985, .slice A4986 u4981.length c4987]))]) (by kernel_rfl) rfl fun a5033 hE5034 => ?_
  clear hE5032
  refine of_op (wpOp_inline hE5034 (f := 46) (vs := [.pointer (some ⟨b5009, 0, none⟩), .agg #[.int .i64 n4977, .slice A4982 s4978.length c4983, .bool b4979, .slice A4984 l4980.length c4985, .slice A4986 u4981.length c4987]]) (d := 14) (n' := 29) (by kernel_rfl) Try.call46 Try.func46 rfl Try.ntmps46 (by kernel_rfl) fun a5035 hE5036 => ?_)
  have hE5037 := hE5036.recast 0 (.v (.pointer (some ⟨b5009, 0, none⟩))) (.p 1 0) rfl rfl (Nat.le_of_ble_eq_true (n := 2) rfl)
  refine go_seq_region [0] (by kernel_rfl) ?_
  refine of_op (wpOp_box hW5028 hE5037 (d := 3) (cs := [.int .i64 n4977, .slice A4982 s4978.length c4983, .bool b4979, .slice A4984 l4980.length c4985, .slice A4986 u4981.length c4987]) (by kernel_rfl) fun b5038 a5039 w5040 hb5041 hz5042 hF5043 hW5044 hE5045 => ?_)
  clear hE5037 hW5028
  refine wpOps_nil ?_
  refine then_normal ?_
  refine go_seq_region [0, 1, 2, 3, 4, 5, 6, 7] (by kernel_rfl) ?_
  refine go_runs [0, 1] [2, 3, 4, 5, 6, 7] [0, 3, 6, 7] hW5044 hE5045 (env' := [(0, .p 1 0), (3, .p 2 0), (6, .p 1 0), (7, .v (.agg #[.int .i64 n4977, .slice A4982 s4978.length c4983, .bool b4979, .slice A4984 l4980.length c4985, .slice A4986 u4981.length c4987]))]) (by kernel_rfl) rfl fun a5046 hE5047 => ?_
  clear hE5045
  refine of_op (wpOp_call hE5047 (f := 59) (vs := [.agg #[.int .i64 n4977, .slice A4982 s4978.length c4983, .bool b4979, .slice A4984 l4980.length c4985, .slice A4986 u4981.length c4987], .int .i64 0]) (d := 8) (by kernel_rfl) Try.call59 (iAt _ _ 0 _ _ (ht.move hW5044.step nilM hW5044.imm)) ?_)
  rintro e_ w5051 ⟨cs5050, rfl, hr5049, hs5048⟩
  have hr5052 := hr5049.move hs5048 nilM (fun b o h_ hb_ => hW5044.laid (G := F) hs5048 b o (.inl h_) (Nat.lt_of_lt_of_le hb_ hs5048.size))
  obtain ⟨n5053, s5054, b5055, l5056, u5057, A5058, c5059, A5060, c5061, A5062, c5063, xs5064, ht5070, hcs5065, h5066, h5067, h5068, h5069⟩ := hr5052.open_
  rw [hcs5065] at hr5052
  have hsm5071 := h5066.small
  have hsm5072 := h5067.small
  rw [hcs5065]
  refine ⟨_, rfl, fun a5073 hE5074 => ?_⟩
  have hW5075 := hW5044.next_nil hs5048
  have hF5076 := Fr.nil [⟨b4997, 0, [.int .i64 n4977, .slice A4982 s4978.length c4983, .bool b4979, .slice A4984 l4980.length c4985, .slice A4986 u4981.length c4987], true⟩, ⟨b5009, 0, [.int .i16 (IntKind.i16.wrap v), .int .u8 0, .int .u8 0, .int .u8 0, .int .u8 0, .int .u8 0, .int .u8 0, .int .u8 0, .int .u8 0, .int .u8 0, .int .u8 0, .int .u8 0, .int .u8 0, .int .u8 0, .int .u8 0, .int .u8 0, .int .u8 0, .map none], true⟩, ⟨b5038, 0, [.int .i64 n4977, .slice A4982 s4978.length c4983, .bool b4979, .slice A4984 l4980.length c4985, .slice A4986 u4981.length c4987], true⟩] [] hs5048
  clear hE5047
  refine go_runs [3] [4, 5, 6, 7] [0, 3, 6, 9] hW5075 hE5074 (env' := [(0, .p 1 0), (3, .p 2 0), (6, .p 1 0), (9, .v (.slice A5058 s5054.length c5059))]) (by kernel_rfl) rfl fun a5077 hE5078 => ?_
  clear hE5074
  refine of_op (wpOp_call hE5078 (f := 75) (vs := [.slice A5058 s5054.length c5059]) (d := 10) (by kernel_rfl) Try.call75 (kSixteen _ _ s5054 _ _ h5066) ?_)
  rintro e_ w5080 ⟨rfl, hs5079⟩
  refine ⟨_, rfl, fun a5081 hE5082 => ?_⟩
  have hW5083 := hW5075.next_nil hs5079
  have hF5084 := Fr.nil [⟨b4997, 0, [.int .i64 n4977, .slice A4982 s4978.length c4983, .bool b4979, .slice A4984 l4980.length c4985, .slice A4986 u4981.length c4987], true⟩, ⟨b5009, 0, [.int .i16 (IntKind.i16.wrap v), .int .u8 0, .int .u8 0, .int .u8 0, .int .u8 0, .int .u8 0, .int .u8 0, .int .u8 0, .int .u8 0, .int .u8 0, .int .u8 0, .int .u8 0, .int .u8 0, .int .u8 0, .int .u8 0, .int .u8 0, .int .u8 0, .map none], true⟩, ⟨b5038, 0, [.int .i64 n4977, .slice A4982 s4978.length c4983, .bool b4979, .slice A4984 l4980.length c4985, .slice A4986 u4981.length c4987], true⟩] [] hs5079
  clear hE5078 hW5075
  refine go_runs [5, 6] [7] [0, 3, 10, 12] hW5083 hE5082 (env' := [(0, .p 1 0), (3, .p 2 0), (10, .v (.agg #[byteCell (s5054.getD 0 0), byteCell (s5054.getD 1 0), byteCell (s5054.getD 2 0), byteCell (s5054.getD 3 0), byteCell (s5054.getD 4 0), byteCell (s5054.getD 5 0), byteCell (s5054.getD 6 0), byteCell (s5054.getD 7 0), byteCell (s5054.getD 8 0), byteCell (s5054.getD 9 0), byteCell (s5054.getD 10 0), byteCell (s5054.getD 11 0), byteCell (s5054.getD 12 0), byteCell (s5054.getD 13 0), byteCell (s5054.getD 14 0), byteCell (s5054.getD 15 0)])), (12, .p 1 1)]) (by kernel_rfl) rfl fun a5085 hE5086 => ?_
  clear hE5082
  refine of_op (wpOp_store hW5083 hE5086 (oi := 1) (cs := [.int .i16 (IntKind.i16.wrap v), byteCell (s5054.getD 0 0), byteCell (s5054.getD 1 0), byteCell (s5054.getD 2 0), byteCell (s5054.getD 3 0), byteCell (s5054.getD 4 0), byteCell (s5054.getD 5 0), byteCell (s5054.getD 6 0), byteCell (s5054.getD 7 0), byteCell (s5054.getD 8 0), byteCell (s5054.getD 9 0), byteCell (s5054.getD 10 0), byteCell (s5054.getD 11 0), byteCell (s5054.getD 12 0), byteCell (s5054.getD 13 0), byteCell (s5054.getD 14 0), byteCell (s5054.getD 15 0), .map none]) (by kernel_rfl) fun w5087 hF5088 hW5089 hE5090 => ?_)
  clear hE5086 hW5083
  refine wpOps_nil ?_
  refine then_normal ?_
  refine go_seq_region [0, 1, 2, 3] (by kernel_rfl) ?_
  refine go_runs [0, 1, 2, 3] [] [0, 14, 15, 16] hW5089 hE5090 (env' := [(0, .p 1 0), (14, .v (.slice A4986 u4981.length c4987)), (15, .v (.int .i64 ((u4981.length : Nat) : Int))), (16, .v (.int .i64 0))]) (by kernel_rfl) rfl fun a5091 hE5092 => ?_
  clear hE5090
  refine wpOps_nil ?_
  refine then_normal ?_
  refine wp_block ?_
  have hpB := new_of hW5089 1 rfl (by kernel_rfl)
  have hE0 := hE5092.recast 0 (.p 1 0) (.v (.pointer (some ⟨b5009, 0, none⟩))) rfl rfl trivial
  have hE1 := (hE0.pick (ks := [0, 14, 15, 16]) (env' := [(0, .v (.pointer (some ⟨b5009, 0, none⟩))), (14, .v (.slice A4986 u4981.length c4987)), (15, .v (.int .i64 ((u4981.length : Nat) : Int))), (16, .v (.int .i64 0))]) (by kernel_rfl)).cutTb 0 (by kernel_rfl)
  refine wp_loop_ghost (fun q a_ w_ => ∃ (j : Nat) (m_ : Option Nat), q = u4981.length - j ∧ j ≤ u4981.length ∧ EnvOk 29 [] [(0, .v (.pointer (some ⟨b5009, 0, none⟩))), (14, .v (.slice A4986 u4981.length c4987)), (15, .v (.int .i64 ((u4981.length : Nat) : Int))), (16, .v (.int .i64 ((j : Nat) : Int)))] a_ ∧ TL w w5087 w_ F b5009 17 [.int .i16 (IntKind.i16.wrap v), byteCell (s5054.getD 0 0), byteCell (s5054.getD 1 0), byteCell (s5054.getD 2 0), byteCell (s5054.getD 3 0), byteCell (s5054.getD 4 0), byteCell (s5054.getD 5 0), byteCell (s5054.getD 6 0), byteCell (s5054.getD 7 0), byteCell (s5054.getD 8 0), byteCell (s5054.getD 9 0), byteCell (s5054.getD 10 0), byteCell (s5054.getD 11 0), byteCell (s5054.getD 12 0), byteCell (s5054.getD 13 0), byteCell (s5054.getD 14 0), byteCell (s5054.getD 15 0), .map none] m_ (u4981.take j)) u4981.length
    ⟨0, none, by omega, by omega, hE1, TL.start hW5089 1 rfl rfl⟩ ?_
  rintro q aq wq ⟨j, m_, rfl, hj, hE2, hT⟩
  have hWq := WOk.start wq Nil
  refine go_seq_region [0] (by kernel_rfl) (go_runs [0] [] [0, 14, 15, 16, 17] hWq hE2 (env' := [(0, .v (.pointer (some ⟨b5009, 0, none⟩))), (14, .v (.slice A4986 u4981.length c4987)), (15, .v (.int .i64 ((u4981.length : Nat) : Int))), (16, .v (.int .i64 ((j : Nat) : Int))), (17, .v (.bool (decide (((j : Nat) : Int) < ((u4981.length : Nat) : Int)))))]) (by kernel_rfl) rfl fun aq2 hE3 => wpOps_nil (then_normal (wp_seq ?_)))
  refine cond_of hE3 (b := decide (((j : Nat) : Int) < ((u4981.length : Nat) : Int))) (by kernel_rfl) (fun hc => ?_) (fun hc => ?_)
  · have hlt : j < u4981.length := by have := of_decide_eq_true hc; omega
    refine wp_skip (then_normal (wp_seq (wp_block ?_)))
    obtain ⟨⟨k, x⟩, hu⟩ : ∃ y, u4981[j]? = some y := ⟨_, List.getElem?_eq_getElem hlt⟩
    obtain ⟨bb, bo, xA, xc, hA, hat, hxo, hk⟩ := tag_at h4993 hu
    refine go_seq_region [0, 1, 2, 3] (by kernel_rfl) ?_
    refine of_op (wpOp_index hE3 (t := 35) (e := 56) (size := 2) (bytes := 32) (d := 18) (b := bb) (o := bo) (m := u4981.length) (j := j) (by kernel_rfl) (by kernel_rfl) hA rfl hlt fun aq3 hE4 => ?_)
    refine of_op (wpOp_load hE4 (t := 56) (d := 19) (cs := [.int .u32 k, .slice xA x.length xc]) (v := .agg #[.int .u32 k, .slice xA x.length xc]) (by kernel_rfl) (by kernel_rfl) (hat.step_nil hT.step) fun aq4 hE5 => ?_)
    refine of_op (wpOp_alloc hWq hE5 (d := 5) (cs := [.int .u32 0, .slice none 0 0]) (by kernel_rfl) fun bx aq5 wq2 hbx hbx0 hFq2 hWq2 hE6 => ?_)
    refine of_op (wpOp_store hWq2 hE6 (oi := 0) (cs := [.int .u32 k, .slice xA x.length xc]) (by kernel_rfl) fun wq3 hFq3 hWq3 hE7 => wpOps_nil (then_normal ?_))
    have hWq4 := hWq3.drew
    refine region_draw (fun wz => CellsOk wz [⟨bx, 0, [.int .u32 k, .slice xA x.length xc], true⟩]) 8 (by kernel_rfl) ?_
    refine go_runsD [0, 1, 2, 3, 4, 5, 6] [0, 14, 15, 16, 22, 24, 26] 1 (by kernel_rfl) (panicFree_block (panicFree_then (panicFree_then (panicFree_block panicFree_body)))) (fun _ h => h) hWq4.cells hE7 (by kernel_rfl) (env' := [(0, .v (.pointer (some ⟨b5009, 0, none⟩))), (14, .v (.slice A4986 u4981.length c4987)), (15, .v (.int .i64 ((u4981.length : Nat) : Int))), (16, .v (.int .i64 ((j : Nat) : Int))), (22, .v (.pointer (some ⟨b5009, 17, none⟩))), (24, .v (.int .u32 k)), (26, .v (.slice xA x.length xc))]) (by kernel_rfl) rfl fun aq6 hE8 => ?_
    refine anyC_op (i := 7) (by kernel_rfl) (wpOp_call hE8 (f := 66) (vs := [.pointer (some ⟨b5009, 17, none⟩), .int .u32 k, .slice xA x.length xc]) (d := 27) (by kernel_rfl) Try.call66 ((hT.move hWq4.step).set hpB (by kernel_rfl) hsort hu hxo hk) ?_)
    rintro e_ wq5 ⟨rfl, hS5, r, hT5⟩
    refine ⟨_, rfl, fun aq7 hE9 => ⟨fun _ => hT.keeps (off := 17) (by kernel_rfl) hS5 hWq4.cells (fun ob hm => by rw [List.mem_singleton.1 hm]; exact Nat.le_of_eq hbx.symm), anyC_done (by kernel_rfl) (block_normal (then_normal ?_)) _⟩⟩
    have hE10 := (hE9.pick (ks := [0, 14, 15, 16]) (env' := [(0, .v (.pointer (some ⟨b5009, 0, none⟩))), (14, .v (.slice A4986 u4981.length c4987)), (15, .v (.int .i64 ((u4981.length : Nat) : Int))), (16, .v (.int .i64 ((j : Nat) : Int)))]) (by kernel_rfl)).cutTb 0 (by kernel_rfl)
    refine go_region [0, 1] (by kernel_rfl) (go_runs [0, 1] [] [0, 14, 15, 16] (WOk.start wq5 Nil) hE10 (env' := [(0, .v (.pointer (some ⟨b5009, 0, none⟩))), (14, .v (.slice A4986 u4981.length c4987)), (15, .v (.int .i64 ((u4981.length : Nat) : Int))), (16, .v (.int .i64 (IntKind.i64.wrap (((j : Nat) : Int) + 1))))]) (by kernel_rfl) rfl fun aq8 hE11 => wpOps_nil (then_normal ?_))
    rw [wrap_succ (by omega)] at hE11
    exact ⟨u4981.length - (j + 1), by omega, j + 1, some r, rfl, by omega, hE11, hT5⟩
  · obtain rfl : j = u4981.length := by have := of_decide_eq_false hc; omega
    refine wp_exit (then_exit (then_exit (block_exit ?_)))
    rw [List.take_length] at hT
    refine leave_end hE3 hWq.cells (v := .tuple #[]) (by kernel_rfl) ?_
    refine ⟨_, rfl, fun aq9 hE12 => ?_⟩
    have hE13 := ((hE12.recast 5 (.p 1 0) (.v (.pointer (some ⟨b5009, 0, none⟩))) rfl rfl trivial).pick (ks := [5]) (env' := [(5, .v (.pointer (some ⟨b5009, 0, none⟩)))]) (by kernel_rfl)).cutTb 0 (by kernel_rfl)
    refine wpOps_nil (then_normal ?_)
    refine go_seq_region [0, 1, 2] (by kernel_rfl) ?_
    refine go_runs [0] [1, 2] [15] hWq hE13 (env' := [(15, .v (.pointer (some ⟨b5009, 0, none⟩)))]) (by kernel_rfl) rfl fun aq10 hE14 => ?_
    have he : aGetTelemetrySubscriptionsRequest (IntKind.i16.wrap v) (sixteenB s5054) u4981 = makeGetTelemetrySubscriptionsRequest v (Tree.mk n4977 s4978 b4979 l4980 u4981) := by simp only [makeGetTelemetrySubscriptionsRequest, ht5070]; rfl
    rw [← he] at hroom ⊢
    refine of_op (wpOp_call hE14 (f := 47) (vs := [.pointer (some ⟨b5009, 0, none⟩), .slice none 0 0]) (d := 16) (by kernel_rfl) Try.call47 (kGetTelemetrySubscriptionsRequest (IntKind.i16.wrap v) (sixteenB s5054) u4981 b5009 0 m_ none 0 [] _ _ hT.str.atF (hT.map hsort (tags_range h4993)) hul hxl (sixteenB_len _) none_blk (World.ownsRow_nil _ 0 _ _) (by simpa using hroom)) ?_)
    rintro e_ wq6 ⟨A', c', rfl, ho, hs, hn⟩
    refine ⟨_, rfl, fun aq11 hE15 => ?_⟩
    refine go_runs [2] [] [4] (WOk.start wq6 Nil) hE15 (env' := [(4, .v (.slice A' ([] ++ aGetTelemetrySubscriptionsRequest (IntKind.i16.wrap v) (sixteenB s5054) u4981).length c'))]) (by kernel_rfl) rfl fun aq12 hE16 => wpOps_nil (then_normal (wp_ret ?_))
    refine leave hE16 (WOk.start wq6 Nil).cells (v := .slice A' ([] ++ aGetTelemetrySubscriptionsRequest (IntKind.i16.wrap v) (sixteenB s5054) u4981).length c') (by kernel_rfl) ?_
    exact fresh_of_app hT.step ⟨A', c', rfl, ho, hs, hn⟩

theorem xGetTelemetrySubscriptionsRequest (w : World) : Calls Try.prog 20 #[] w (Gives w (.int .i64 0)) := by
  refine enter (n := 4) Try.func20 rfl Try.ntmps20 (by kernel_rfl) fun a hE => ?_
  have hW := WOk.start w Nil
  refine go_seq_region [0] (by kernel_rfl) ?_
  refine go_runs [0] [] [] hW hE (env' := []) (by kernel_rfl) rfl fun a5129 hE5130 => ?_
  clear hE
  refine wpOps_nil ?_
  refine then_normal ?_
  refine go_seq_region [0, 1, 2, 3] (by kernel_rfl) ?_
  refine of_op (wpOp_inline hE5130 (f := 43) (vs := []) (d := 1) (n' := 3) (by kernel_rfl) Try.call43 Try.func43 rfl Try.ntmps43 (by kernel_rfl) fun a5131 hE5132 => ?_)
  refine go_seq_region [0] (by kernel_rfl) ?_
  refine go_runs [0] [] [] hW hE5132 (env' := []) (by kernel_rfl) rfl fun a5133 hE5134 => ?_
  clear hE5132
  refine wpOps_nil ?_
  refine then_normal ?_
  refine go_seq_region [0] (by kernel_rfl) ?_
  refine of_op (wpOp_alloc hW hE5134 (d := 1) (cs := [.int .i16 0, .int .u8 0, .int .u8 0, .int .u8 0, .int .u8 0, .int .u8 0, .int .u8 0, .int .u8 0, .int .u8 0, .int .u8 0, .int .u8 0, .int .u8 0, .int .u8 0, .int .u8 0, .int .u8 0, .int .u8 0, .int .u8 0, .map none]) (by kernel_rfl) fun b5135 a5136 w5137 hb5138 hz5139 hF5140 hW5141 hE5142 => ?_)
  clear hE5134 hW
  refine wpOps_nil ?_
  refine then_normal ?_
  refine go_seq_region [0] (by kernel_rfl) ?_
  refine of_op (wpOp_inline hE5142 (f := 74) (vs := [.pointer (some ⟨b5135, 0, none⟩)]) (d := 2) (n' := 2) (by kernel_rfl) Try.call74 Try.func74 rfl Try.ntmps74 (by kernel_rfl) fun a5143 hE5144 => ?_)
  have hE5145 := hE5144.recast 0 (.v (.pointer (some ⟨b5135, 0, none⟩))) (.p 0 0) rfl rfl (Nat.le_of_ble_eq_true (n := 1) rfl)
  refine wp_skip ?_
  refine leave_end hE5145 hW5141.cells (v := .tuple #[]) (by kernel_rfl) ?_
  refine ⟨_, rfl, fun a5146 hE5147 => ?_⟩
  have hE5148 : EnvOk 3 [⟨b5135, 0, [.int .i16 0, .int .u8 0, .int .u8 0, .int .u8 0, .int .u8 0, .int .u8 0, .int .u8 0, .int .u8 0, .int .u8 0, .int .u8 0, .int .u8 0, .int .u8 0, .int .u8 0, .int .u8 0, .int .u8 0, .int .u8 0, .int .u8 0, .map none], true⟩] [(2, .v (.tuple #[])), (1, .p 0 0)] _ := hE5147.places (⟨rfl, rfl, trivial⟩)
  refine wpOps_nil ?_
  refine then_normal ?_
  refine go_seq_region [0] (by kernel_rfl) ?_
  refine go_runs [0] [] [0] hW5141 hE5148 (env' := [(0, .p 0 0)]) (by kernel_rfl) rfl fun a5149 hE5150 => ?_
  clear hE5148
  refine wpOps_nil ?_
  refine then_normal ?_
  refine wp_ret ?_
  refine leave hE5150 hW5141.cells (v := .pointer (some ⟨b5135, 0, none⟩)) (by kernel_rfl) ?_
  refine ⟨_, rfl, fun a5151 hE5152 => ?_⟩
  have hE5153 : EnvOk 4 [⟨b5135, 0, [.int .i16 0, .int .u8 0, .int .u8 0, .int .u8 0, .int .u8 0, .int .u8 0, .int .u8 0, .int .u8 0, .int .u8 0, .int .u8 0, .int .u8 0, .int .u8 0, .int .u8 0, .int .u8 0, .int .u8 0, .int .u8 0, .int .u8 0, .map none], true⟩] [(1, .v (.pointer (some ⟨b5135, 0, none⟩)))] _ := hE5152.places (trivial)
  refine of_op (wpOp_inline hE5153 (f := 44) (vs := [.pointer (some ⟨b5135, 0, none⟩)]) (d := 2) (n' := 3) (by kernel_rfl) Try.call44 Try.func44 rfl Try.ntmps44 (by kernel_rfl) fun a5154 hE5155 => ?_)
  refine go_seq_region [0] (by kernel_rfl) ?_
  refine go_runs [0] [] [] hW5141 hE5155 (env' := []) (by kernel_rfl) rfl fun a5156 hE5157 => ?_
  clear hE5155
  refine wpOps_nil ?_
  refine then_normal ?_
  refine go_seq_region [0] (by kernel_rfl) ?_
  refine go_runs [0] [] [2] hW5141 hE5157 (env' := [(2, .v (.int .i16 0))]) (by kernel_rfl) rfl fun a5158 hE5159 => ?_
  clear hE5157
  refine wpOps_nil ?_
  refine then_normal ?_
  refine wp_ret ?_
  refine leave hE5159 hW5141.cells (v := .int .i16 0) (by kernel_rfl) ?_
  refine ⟨_, rfl, fun a5160 hE5161 => ?_⟩
  have hE5162 : EnvOk 4 [⟨b5135, 0, [.int .i16 0, .int .u8 0, .int .u8 0, .int .u8 0, .int .u8 0, .int .u8 0, .int .u8 0, .int .u8 0, .int .u8 0, .int .u8 0, .int .u8 0, .int .u8 0, .int .u8 0, .int .u8 0, .int .u8 0, .int .u8 0, .int .u8 0, .map none], true⟩] [(2, .v (.int .i16 0)), (1, .v (.pointer (some ⟨b5135, 0, none⟩)))] _ := hE5161.places (⟨rfl, rfl, trivial⟩)
  refine go_runs [2, 3] [] [0] hW5141 hE5162 (env' := [(0, .v (.int .i64 0))]) (by kernel_rfl) rfl fun a5163 hE5164 => ?_
  clear hE5162
  refine wpOps_nil ?_
  refine then_normal ?_
  refine wp_ret ?_
  refine leave hE5164 hW5141.cells (v := .int .i64 0) (by kernel_rfl) ?_
  exact ⟨rfl, hW5141.step⟩

theorem sGetTelemetrySubscriptionsRequest_depth : depths sGetTelemetrySubscriptionsRequestF ≤ 8 := by simp [sGetTelemetrySubscriptionsRequestF, Fld.depth.depths, Fld.depth]
theorem sGetTelemetrySubscriptionsRequest_plain : plains sGetTelemetrySubscriptionsRequestF := by simp [sGetTelemetrySubscriptionsRequestF, Fld.plain.plains, Fld.plain]

theorem lawGetTelemetrySubscriptionsRequest (x : Int) (hx : 0 ≤ x) (hx' : x < 256) (ct : List Value) (t : Tree) (w : World) (F : Nat → Nat → Prop) (ht : TreeR w F ct t) (hroom : (writeB 8 sGetTelemetrySubscriptionsRequestF sGetTelemetrySubscriptionsRequestX (Int.tmod x (0 + 1)) t).length ≤ 1099511627776) (hsort : Sorted (fitT (Int.tmod x (0 + 1)) 8 sGetTelemetrySubscriptionsRequestF t).U) (hul : (fitT (Int.tmod x (0 + 1)) 8 sGetTelemetrySubscriptionsRequestF t).U.length ≤ 1000000) (hxl : ∀ y ∈ (fitT (Int.tmod x (0 + 1)) 8 sGetTelemetrySubscriptionsRequestF t).U, y.2.length < 4294967296) (hmade : (makeGetTelemetrySubscriptionsRequest (Int.tmod x (0 + 1)) (fitT (Int.tmod x (0 + 1)) 8 sGetTelemetrySubscriptionsRequestF t)).length + 16 ≤ 1099511627776) (hpure : makeGetTelemetrySubscriptionsRequest (Int.tmod x (0 + 1)) (fitT (Int.tmod x (0 + 1)) 8 sGetTelemetrySubscriptionsRequestF t) = writeB 8 sGetTelemetrySubscriptionsRequestF sGetTelemetrySubscriptionsRequestX (Int.tmod x (0 + 1)) t) :
    Calls Try.prog 5 #[.int .u8 x, .agg ct.toArray] w (Gives w (.bool true)) := by
  obtain ⟨n5165, s5166, b5167, l5168, u5169, A5170, c5171, A5172, c5173, A5174, c5175, xs5176, rfl, rfl, h5178, h5179, h5180, h5181⟩ := ht.open_
  have hsm5183 := h5178.small
  have hsm5184 := h5179.small
  refine enter (n := 31) Try.func5 rfl Try.ntmps5 (by kernel_rfl) fun a hE => ?_
  have hW := WOk.start w Nil
  refine go_seq_region [0, 1] (by kernel_rfl) ?_
  refine of_op (wpOp_box hW hE (d := 3) (cs := [.int .i64 n5165, .slice A5170 s5166.length c5171, .bool b5167, .slice A5172 l5168.length c5173, .slice A5174 u5169.length c5175]) (by kernel_rfl) fun b5185 a5186 w5187 hb5188 hz5189 hF5190 hW5191 hE5192 => ?_)
  clear hE hW
  refine go_runs [1] [] [0, 3] hW5191 hE5192 (env' := [(0, .v (.int .u8 x)), (3, .p 0 0)]) (by kernel_rfl) rfl fun a5193 hE5194 => ?_
  clear hE5192
  refine wpOps_nil ?_
  refine then_normal ?_
  refine wp_seq ?_
  refine go_seq_region [0, 1, 2] (by kernel_rfl) ?_
  refine go_runs [0] [1, 2] [0, 3, 8] hW5191 hE5194 (env' := [(0, .v (.int .u8 x)), (3, .p 0 0), (8, .v (.agg #[.int .i64 n5165, .slice A5170 s5166.length c5171, .bool b5167, .slice A5172 l5168.length c5173, .slice A5174 u5169.length c5175]))]) (by kernel_rfl) rfl fun a5195 hE5196 => ?_
  clear hE5194
  refine of_op (wpOp_call hE5196 (f := 8) (vs := [.agg #[.int .i64 n5165, .slice A5170 s5166.length c5171, .bool b5167, .slice A5172 l5168.length c5173, .slice A5174 u5169.length c5175]]) (d := 9) (by kernel_rfl) Try.call8 (lFits1 _ _ _ _ (ht.move hW5191.step nilM hW5191.imm)) ?_)
  rintro e_ w5199 ⟨b5198, rfl, hs5197⟩
  refine ⟨_, rfl, fun a5200 hE5201 => ?_⟩
  have hW5202 := hW5191.next_nil hs5197
  have hF5203 := Fr.nil [⟨b5185, 0, [.int .i64 n5165, .slice A5170 s5166.length c5171, .bool b5167, .slice A5172 l5168.length c5173, .slice A5174 u5169.length c5175], true⟩] [] hs5197
  clear hE5196 hW5191
  refine go_runs [2] [] [0, 3, 10] hW5202 hE5201 (env' := [(0, .v (.int .u8 x)), (3, .p 0 0), (10, .v (.bool (!b5198)))]) (by kernel_rfl) rfl fun a5204 hE5205 => ?_
  clear hE5201
  refine wpOps_nil ?_
  refine then_normal ?_
  refine cond_of hE5205 (b := !b5198) (by kernel_rfl) (fun hc5206 => ?_) (fun hc5206 => ?_)
  ·
    refine go_seq_region [0] (by kernel_rfl) ?_
    refine go_runs [0] [] [4] hW5202 hE5205 (env' := [(4, .v (.bool true))]) (by kernel_rfl) rfl fun a5208 hE5209 => ?_
    clear hE5205
    refine wpOps_nil ?_
    refine then_normal ?_
    refine wp_ret ?_
    refine then_ret ?_
    refine leave hE5209 hW5202.cells (v := .bool true) (by kernel_rfl) ?_
    exact ⟨rfl, hW5202.step⟩
  ·
    refine wp_skip ?_
    refine then_normal ?_
    refine go_seq_region [0, 1] (by kernel_rfl) ?_
    refine of_op (wpOp_call hE5205 (f := 20) (vs := []) (d := 11) (by kernel_rfl) Try.call20 (xGetTelemetrySubscriptionsRequest _) ?_)
    rintro e_ w5212 ⟨rfl, hs5211⟩
    refine ⟨_, rfl, fun a5213 hE5214 => ?_⟩
    have hW5215 := hW5202.next_nil hs5211
    have hF5216 := Fr.nil [⟨b5185, 0, [.int .i64 n5165, .slice A5170 s5166.length c5171, .bool b5167, .slice A5172 l5168.length c5173, .slice A5174 u5169.length c5175], true⟩] [] hs5211
    clear hE5205 hW5202
    refine go_runs [1] [] [0, 3, 5] hW5215 hE5214 (env' := [(0, .v (.int .u8 x)), (3, .p 0 0), (5, .v (.int .i64 0))]) (by kernel_rfl) rfl fun a5217 hE5218 => ?_
    clear hE5214
    refine wpOps_nil ?_
    refine then_normal ?_
    refine wp_seq ?_
    refine go_seq_region [0, 1] (by kernel_rfl) ?_
    refine go_runs [0, 1] [] [0, 3, 5, 13] hW5215 hE5218 (env' := [(0, .v (.int .u8 x)), (3, .p 0 0), (5, .v (.int .i64 0)), (13, .v (.bool false))]) (by kernel_rfl) rfl fun a5219 hE5220 => ?_
    clear hE5218
    refine wpOps_nil ?_
    refine then_normal ?_
    refine cond_false hE5220 (b := false) (by kernel_rfl) rfl ?_
    refine wp_skip ?_
    refine then_normal ?_
    refine go_seq_region [0, 1, 2, 3, 4, 5, 6] (by kernel_rfl) ?_
    refine of_op (wpOp_call hE5220 (f := 21) (vs := []) (d := 14) (by kernel_rfl) Try.call21 (sGetTelemetrySubscriptionsRequest _ (Imm F w w5212 [⟨b5185, 0, [.int .i64 n5165, .slice A5170 s5166.length c5171, .bool b5167, .slice A5172 l5168.length c5173, .slice A5174 u5169.length c5175], true⟩] [])) ?_)
    rintro e_ w5225 ⟨A5223, c5224, rfl, hr5222, hs5221⟩
    obtain ⟨xs5226, h5227, h5228⟩ := hr5222.move (Step.refl _ Nil) nilM (hW5215.laid (G := F) hs5221)
    refine ⟨_, rfl, fun a5229 hE5230 => ?_⟩
    have hW5231 := hW5215.next_nil hs5221
    have hF5232 := Fr.nil [⟨b5185, 0, [.int .i64 n5165, .slice A5170 s5166.length c5171, .bool b5167, .slice A5172 l5168.length c5173, .slice A5174 u5169.length c5175], true⟩] [] hs5221
    clear hE5220
    refine go_runs [1, 2] [3, 4, 5, 6] [3, 14, 15, 16] hW5231 hE5230 (env' := [(3, .p 0 0), (14, .v (.agg #[.slice A5223 sGetTelemetrySubscriptionsRequestF.length c5224, .int .i64 sGetTelemetrySubscriptionsRequestX])), (15, .v (.int .u8 x)), (16, .v (.int .i64 0))]) (by kernel_rfl) rfl fun a5233 hE5234 => ?_
    clear hE5230
    refine of_op (wpOp_call hE5234 (f := 17) (vs := [.int .u8 x, .int .i64 0]) (d := 17) (by kernel_rfl) Try.call17 (lVersion x 0 hx hx' (by decide) (by decide) _) ?_)
    rintro e_ w5236 ⟨rfl, hs5235⟩
    refine ⟨_, rfl, fun a5237 hE5238 => ?_⟩
    have hW5239 := hW5231.next_nil hs5235
    have hF5240 := Fr.nil [⟨b5185, 0, [.int .i64 n5165, .slice A5170 s5166.length c5171, .bool b5167, .slice A5172 l5168.length c5173, .slice A5174 u5169.length c5175], true⟩] [] hs5235
    clear hE5234 hW5231
    refine of_op (wpOp_alloc hW5239 hE5238 (d := 6) (cs := [.slice none 0 0, .int .i64 0]) (by kernel_rfl) fun b5241 a5242 w5243 hb5244 hz5245 hF5246 hW5247 hE5248 => ?_)
    clear hE5238 hW5239
    refine of_op (wpOp_store hW5247 hE5248 (oi := 1) (cs := [.slice A5223 sGetTelemetrySubscriptionsRequestF.length c5224, .int .i64 sGetTelemetrySubscriptionsRequestX]) (by kernel_rfl) fun w5249 hF5250 hW5251 hE5252 => ?_)
    clear hE5248 hW5247
    refine go_runs [6] [] [3, 6, 7] hW5251 hE5252 (env' := [(3, .p 0 0), (6, .p 1 0), (7, .v (.int .i64 (Int.tmod x (0 + 1))))]) (by kernel_rfl) rfl fun a5253 hE5254 => ?_
    clear hE5252
    refine wpOps_nil ?_
    refine then_normal ?_
    refine go_seq_drawK 13 (by kernel_rfl) hW5251 fun w5255 hF5256 hW5257 hT5258 => ?_
    clear hW5251
    refine go_runsD [0, 1, 2, 3, 4, 8, 9, 10] [18, 20, 21, 22, 26, 27, 28] 6 (by kernel_rfl) (panicFree_then panicFree_body) (fun _ h => h.cells) hT5258 hE5254 (by kernel_rfl) (env' := [(18, .v (.int .i64 (Int.tmod x (0 + 1)))), (20, .v (.slice A5223 sGetTelemetrySubscriptionsRequestF.length c5224)), (21, .v (.int .i64 (Int.tmod x (0 + 1)))), (22, .v (.agg #[.int .i64 n5165, .slice A5170 s5166.length c5171, .bool b5167, .slice A5172 l5168.length c5173, .slice A5174 u5169.length c5175])), (26, .v (.agg #[.slice A5223 sGetTelemetrySubscriptionsRequestF.length c5224, .int .i64 sGetTelemetrySubscriptionsRequestX])), (27, .v (.int .i64 (Int.tmod x (0 + 1)))), (28, .v (.agg #[.int .i64 n5165, .slice A5170 s5166.length c5171, .bool b5167, .slice A5172 l5168.length c5173, .slice A5174 u5169.length c5175]))]) (by kernel_rfl) rfl fun a5259 hE5260 => ?_
    clear hE5254
    refine anyC_op (i := 5) (by kernel_rfl) (wpOp_call hE5260 (f := 13) (vs := [.slice A5223 sGetTelemetrySubscriptionsRequestF.length c5224, .int .i64 (Int.tmod x (0 + 1)), .agg #[.int .i64 n5165, .slice A5170 s5166.length c5171, .bool b5167, .slice A5172 l5168.length c5173, .slice A5174 u5169.length c5175]]) (d := 23) (by kernel_rfl) Try.call13 (sFitOK _ _ _ sGetTelemetrySubscriptionsRequestF (Int.tmod x (0 + 1)) _ (Tree.mk n5165 s5166 b5167 l5168 u5169) _ _ ⟨xs5226, (h5227.move (Fr.trans (Fr.trans (Fr.trans hF5240 hF5246) hF5250) hF5256).step immM (Fr.trans (Fr.trans (Fr.trans hF5240 hF5246) hF5250) hF5256).to'), (fun i_ x_ h_ => ((h5228 i_ x_ h_).move (Fr.trans (Fr.trans (Fr.trans hF5240 hF5246) hF5250) hF5256).step immM (Fr.trans (Fr.trans (Fr.trans hF5240 hF5246) hF5250) hF5256).to'))⟩ sGetTelemetrySubscriptionsRequest_plain sGetTelemetrySubscriptionsRequest_depth (ht.move hW5257.step nilM hW5257.imm)) ?_)
    rintro e_ w5264 ⟨cs5263, rfl, hr5262, hs5261⟩
    have hr5265 := hr5262.move (Step.refl _ Nil) nilM (hW5257.laid (G := F) hs5261)
    obtain ⟨n5266, s5267, b5268, l5269, u5270, A5271, c5272, A5273, c5274, A5275, c5276, xs5277, ht5283, hcs5278, h5279, h5280, h5281, h5282⟩ := hr5265.open_
    rw [hcs5278] at hr5265
    have hsm5284 := h5279.small
    have hsm5285 := h5280.small
    rw [hcs5278]
    refine ⟨_, rfl, fun a5286 hE5287 => ?_⟩
    have hW5288 := hW5257.next_nil hs5261
    have hF5289 := Fr.nil [⟨b5185, 0, [.int .i64 n5165, .slice A5170 s5166.length c5171, .bool b5167, .slice A5172 l5168.length c5173, .slice A5174 u5169.length c5175], true⟩, ⟨b5241, 0, [.slice A5223 sGetTelemetrySubscriptionsRequestF.length c5224, .int .i64 sGetTelemetrySubscriptionsRequestX], true⟩] [] hs5261
    clear hE5260
    have hT5290 : TT w5255 [⟨b5185, 0, [.int .i64 n5165, .slice A5170 s5166.length c5171, .bool b5167, .slice A5172 l5168.length c5173, .slice A5174 u5169.length c5175], true⟩, ⟨b5241, 0, [.slice A5223 sGetTelemetrySubscriptionsRequestF.length c5224, .int .i64 sGetTelemetrySubscriptionsRequestX], true⟩] [] w5264 := ⟨hW5288.cells, hF5289.step⟩
    refine ⟨fun _ => hT5290, ?_⟩
    refine anyC_op (i := 6) (by kernel_rfl) (wpOp_call hE5287 (f := 12) (vs := [.agg #[.int .i64 n5266, .slice A5271 s5267.length c5272, .bool b5268, .slice A5273 l5269.length c5274, .slice A5275 u5270.length c5276]]) (d := 24) (by kernel_rfl) Try.call12 (lGiven _ _ _ _ _ hr5265 (Nat.le_refl _)) ?_)
    rintro e_ w5294 ⟨cs5293, rfl, hr5292, hs5291⟩
    have hr5295 := hr5292.move (Step.refl _ Nil) nilM (hW5288.laid (G := F) hs5291)
    obtain ⟨n5296, s5297, b5298, l5299, u5300, A5301, c5302, A5303, c5304, A5305, c5306, xs5307, ht5313, hcs5308, h5309, h5310, h5311, h5312⟩ := hr5295.open_
    rw [hcs5308] at hr5295
    have hsm5314 := h5309.small
    have hsm5315 := h5310.small
    rw [hcs5308]
    refine ⟨_, rfl, fun a5316 hE5317 => ?_⟩
    have hW5318 := hW5288.next_nil hs5291
    have hF5319 := Fr.nil [⟨b5185, 0, [.int .i64 n5165, .slice A5170 s5166.length c5171, .bool b5167, .slice A5172 l5168.length c5173, .slice A5174 u5169.length c5175], true⟩, ⟨b5241, 0, [.slice A5223 sGetTelemetrySubscriptionsRequestF.length c5224, .int .i64 sGetTelemetrySubscriptionsRequestX], true⟩] [] hs5291
    clear hE5287
    have hT5320 : TT w5255 [⟨b5185, 0, [.int .i64 n5165, .slice A5170 s5166.length c5171, .bool b5167, .slice A5172 l5168.length c5173, .slice A5174 u5169.length c5175], true⟩, ⟨b5241, 0, [.slice A5223 sGetTelemetrySubscriptionsRequestF.length c5224, .int .i64 sGetTelemetrySubscriptionsRequestX], true⟩] [] w5294 := ⟨hW5318.cells, (Fr.trans hF5289 hF5319).step⟩
    refine ⟨fun _ => hT5320, ?_⟩
    refine anyC_op (i := 7) (by kernel_rfl) (wpOp_call hE5317 (f := 22) (vs := [.int .i64 (Int.tmod x (0 + 1)), .agg #[.int .i64 n5296, .slice A5301 s5297.length c5302, .bool b5298, .slice A5303 l5299.length c5304, .slice A5305 u5300.length c5306]]) (d := 25) (by kernel_rfl) Try.call22 (mGetTelemetrySubscriptionsRequest (Int.tmod x (0 + 1)) _ (fitT (Int.tmod x (0 + 1)) 8 sGetTelemetrySubscriptionsRequestF (Tree.mk n5165 s5166 b5167 l5168 u5169)) _ _ hr5295 hsort hul hxl hmade) ?_)
    rintro e_ w5325 ⟨A5323, c5324, rfl, ho5322, hs5321⟩
    refine ⟨_, rfl, fun a5326 hE5327 => ?_⟩
    have hW5328 := hW5318.fresh hs5321 (brow A5323 c5324 5 (makeGetTelemetrySubscriptionsRequest (Int.tmod x (0 + 1)) (fitT (Int.tmod x (0 + 1)) 8 sGetTelemetrySubscriptionsRequestF (Tree.mk n5165 s5166 b5167 l5168 u5169)))) (Nat.le_refl _) ho5322
    have hF5329 := Fr.fresh [⟨b5185, 0, [.int .i64 n5165, .slice A5170 s5166.length c5171, .bool b5167, .slice A5172 l5168.length c5173, .slice A5174 u5169.length c5175], true⟩, ⟨b5241, 0, [.slice A5223 sGetTelemetrySubscriptionsRequestF.length c5224, .int .i64 sGetTelemetrySubscriptionsRequestX], true⟩] [] hs5321 (brow A5323 c5324 5 (makeGetTelemetrySubscriptionsRequest (Int.tmod x (0 + 1)) (fitT (Int.tmod x (0 + 1)) 8 sGetTelemetrySubscriptionsRequestF (Tree.mk n5165 s5166 b5167 l5168 u5169)))) (Nat.le_refl _) ho5322
    clear hE5317 hW5318
    have hT5330 : TT w5255 [⟨b5185, 0, [.int .i64 n5165, .slice A5170 s5166.length c5171, .bool b5167, .slice A5172 l5168.length c5173, .slice A5174 u5169.length c5175], true⟩, ⟨b5241, 0, [.slice A5223 sGetTelemetrySubscriptionsRequestF.length c5224, .int .i64 sGetTelemetrySubscriptionsRequestX], true⟩] [] w5325 := ⟨hW5328.cells, (Fr.trans (Fr.trans hF5289 hF5319) hF5329).step⟩
    refine ⟨fun _ => hT5330, ?_⟩
    refine anyC_op (i := 11) (by kernel_rfl) (wpOp_call hE5327 (f := 19) (vs := [.agg #[.slice A5223 sGetTelemetrySubscriptionsRequestF.length c5224, .int .i64 sGetTelemetrySubscriptionsRequestX], .int .i64 (Int.tmod x (0 + 1)), .agg #[.int .i64 n5165, .slice A5170 s5166.length c5171, .bool b5167, .slice A5172 l5168.length c5173, .slice A5174 u5169.length c5175]]) (d := 29) (by kernel_rfl) Try.call19 (sWrite _ _ sGetTelemetrySubscriptionsRequestF sGetTelemetrySubscriptionsRequestX (Int.tmod x (0 + 1)) _ (Tree.mk n5165 s5166 b5167 l5168 u5169) _ _ ⟨xs5226, (h5227.move (Fr.trans (Fr.trans (Fr.trans (Fr.trans (Fr.trans (Fr.trans hF5240 hF5246) hF5250) hF5256) hF5289) hF5319) hF5329).step immM (Fr.trans (Fr.trans (Fr.trans (Fr.trans (Fr.trans (Fr.trans hF5240 hF5246) hF5250) hF5256) hF5289) hF5319) hF5329).to'), (fun i_ x_ h_ => ((h5228 i_ x_ h_).move (Fr.trans (Fr.trans (Fr.trans (Fr.trans (Fr.trans (Fr.trans hF5240 hF5246) hF5250) hF5256) hF5289) hF5319) hF5329).step immM (Fr.trans (Fr.trans (Fr.trans (Fr.trans (Fr.trans (Fr.trans hF5240 hF5246) hF5250) hF5256) hF5289) hF5319) hF5329).to'))⟩ sGetTelemetrySubscriptionsRequest_depth (ht.move hW5328.step nilM hW5328.imm) hroom) ?_)
    rintro e_ w5335 ⟨A5333, c5334, rfl, ho5332, hs5331⟩
    refine ⟨_, rfl, fun a5336 hE5337 => ?_⟩
    have hW5338 := hW5328.fresh hs5331 (brow A5333 c5334 5 (writeB 8 sGetTelemetrySubscriptionsRequestF sGetTelemetrySubscriptionsRequestX (Int.tmod x (0 + 1)) (Tree.mk n5165 s5166 b5167 l5168 u5169))) (Nat.le_refl _) ho5332
    have hF5339 := Fr.fresh [⟨b5185, 0, [.int .i64 n5165, .slice A5170 s5166.length c5171, .bool b5167, .slice A5172 l5168.length c5173, .slice A5174 u5169.length c5175], true⟩, ⟨b5241, 0, [.slice A5223 sGetTelemetrySubscriptionsRequestF.length c5224, .int .i64 sGetTelemetrySubscriptionsRequestX], true⟩] [brow A5323 c5324 5 (makeGetTelemetrySubscriptionsRequest (Int.tmod x (0 + 1)) (fitT (Int.tmod x (0 + 1)) 8 sGetTelemetrySubscriptionsRequestF (Tree.mk n5165 s5166 b5167 l5168 u5169)))] hs5331 (brow A5333 c5334 5 (writeB 8 sGetTelemetrySubscriptionsRequestF sGetTelemetrySubscriptionsRequestX (Int.tmod x (0 + 1)) (Tree.mk n5165 s5166 b5167 l5168 u5169))) (Nat.le_refl _) ho5332
    clear hE5327 hW5328
    have hT5340 : TT w5255 [⟨b5185, 0, [.int .i64 n5165, .slice A5170 s5166.length c5171, .bool b5167, .slice A5172 l5168.length c5173, .slice A5174 u5169.length c5175], true⟩, ⟨b5241, 0, [.slice A5223 sGetTelemetrySubscriptionsRequestF.length c5224, .int .i64 sGetTelemetrySubscriptionsRequestX], true⟩] [] w5335 := ⟨hW5338.cells, (Fr.trans (Fr.trans (Fr.trans hF5289 hF5319) hF5329) hF5339).step⟩
    refine ⟨fun _ => hT5340, ?_⟩
    refine anyC_op (i := 12) (by kernel_rfl) (wpOp_call hE5337 (f := 10) (vs := [.slice A5323 ((makeGetTelemetrySubscriptionsRequest (Int.tmod x (0 + 1)) (fitT (Int.tmod x (0 + 1)) 8 sGetTelemetrySubscriptionsRequestF (Tree.mk n5165 s5166 b5167 l5168 u5169))).length) c5324, .slice A5333 ((writeB 8 sGetTelemetrySubscriptionsRequestF sGetTelemetrySubscriptionsRequestX (Int.tmod x (0 + 1)) (Tree.mk n5165 s5166 b5167 l5168 u5169)).length) c5334]) (d := 30) (by kernel_rfl) Try.call10 (sSame _ _ _ _ (makeGetTelemetrySubscriptionsRequest (Int.tmod x (0 + 1)) (fitT (Int.tmod x (0 + 1)) 8 sGetTelemetrySubscriptionsRequestF (Tree.mk n5165 s5166 b5167 l5168 u5169))) (writeB 8 sGetTelemetrySubscriptionsRequestF sGetTelemetrySubscriptionsRequestX (Int.tmod x (0 + 1)) (Tree.mk n5165 s5166 b5167 l5168 u5169)) _ _ (octs_own (hW5338.own 0 _ rfl) (by first | omega | (simp only [be_length]; exact Nat.le_trans (widthI_le _) (by decide)) | (have := hroom; omega) | (have := hmade; omega)) (F := fun _ _ => True) (fun _ _ _ => trivial)) (octs_own (hW5338.own 1 _ rfl) (by first | omega | (simp only [be_length]; exact Nat.le_trans (widthI_le _) (by decide)) | (have := hroom; omega) | (have := hmade; omega)) (F := fun _ _ => True) (fun _ _ _ => trivial))) ?_)
    rintro e_ w5342 ⟨rfl, hs5341⟩
    refine ⟨_, rfl, fun a5343 hE5344 => ?_⟩
    have hW5345 := hW5338.next_nil hs5341
    have hF5346 := Fr.nil [⟨b5185, 0, [.int .i64 n5165, .slice A5170 s5166.length c5171, .bool b5167, .slice A5172 l5168.length c5173, .slice A5174 u5169.length c5175], true⟩, ⟨b5241, 0, [.slice A5223 sGetTelemetrySubscriptionsRequestF.length c5224, .int .i64 sGetTelemetrySubscriptionsRequestX], true⟩] [brow A5323 c5324 5 (makeGetTelemetrySubscriptionsRequest (Int.tmod x (0 + 1)) (fitT (Int.tmod x (0 + 1)) 8 sGetTelemetrySubscriptionsRequestF (Tree.mk n5165 s5166 b5167 l5168 u5169))), brow A5333 c5334 5 (writeB 8 sGetTelemetrySubscriptionsRequestF sGetTelemetrySubscriptionsRequestX (Int.tmod x (0 + 1)) (Tree.mk n5165 s5166 b5167 l5168 u5169))] hs5341
    clear hE5337 hW5338
    have hT5347 : TT w5255 [⟨b5185, 0, [.int .i64 n5165, .slice A5170 s5166.length c5171, .bool b5167, .slice A5172 l5168.length c5173, .slice A5174 u5169.length c5175], true⟩, ⟨b5241, 0, [.slice A5223 sGetTelemetrySubscriptionsRequestF.length c5224, .int .i64 sGetTelemetrySubscriptionsRequestX], true⟩] [] w5342 := ⟨hW5345.cells, (Fr.trans (Fr.trans (Fr.trans (Fr.trans hF5289 hF5319) hF5329) hF5339) hF5346).step⟩
    refine ⟨fun _ => hT5347, ?_⟩
    refine anyC_op (i := 13) (by kernel_rfl) (wpOp_pure [4] hW5345.cells hE5344 (env' := [(4, .v (.bool (decide (makeGetTelemetrySubscriptionsRequest (Int.tmod x (0 + 1)) (fitT (Int.tmod x (0 + 1)) 8 sGetTelemetrySubscriptionsRequestF (Tree.mk n5165 s5166 b5167 l5168 u5169)) = writeB 8 sGetTelemetrySubscriptionsRequestF sGetTelemetrySubscriptionsRequestX (Int.tmod x (0 + 1)) (Tree.mk n5165 s5166 b5167 l5168 u5169)))))]) (by kernel_rfl) fun a5348 hE5349 => ?_)
    clear hE5344
    refine ⟨fun h => absurd rfl h, ?_⟩
    refine anyC_done (by kernel_rfl) ?_ _
    refine then_normal ?_
    refine wp_ret ?_
    refine leave hE5349 hW5345.cells (v := .bool (decide (makeGetTelemetrySubscriptionsRequest (Int.tmod x (0 + 1)) (fitT (Int.tmod x (0 + 1)) 8 sGetTelemetrySubscriptionsRequestF (Tree.mk n5165 s5166 b5167 l5168 u5169)) = writeB 8 sGetTelemetrySubscriptionsRequestF sGetTelemetrySubscriptionsRequestX (Int.tmod x (0 + 1)) (Tree.mk n5165 s5166 b5167 l5168 u5169)))) (by kernel_rfl) ?_
    exact ⟨by rw [hpure]; simp, hW5345.step⟩

theorem pureGetTelemetrySubscriptionsRequest (v : Int) (h0 : 0 ≤ v) (h1 : v < 32768) (t : Tree) : makeGetTelemetrySubscriptionsRequest v (fitT v 8 sGetTelemetrySubscriptionsRequestF t) = writeB 8 sGetTelemetrySubscriptionsRequestF sGetTelemetrySubscriptionsRequestX v t := by
  have f0 : ((fitT v 8 sGetTelemetrySubscriptionsRequestF t).at_ 0).S = (t.at_ 0).S := fit_S7 (d := 7) (show sGetTelemetrySubscriptionsRequestF[0]? = _ from rfl) (by decide)
  rw [makeGetTelemetrySubscriptionsRequest, aGetTelemetrySubscriptionsRequest, fit_U, tagsR_whole, wholeU_len, i16_small h0 h1]
  simp only [f0, be4_i32', be2_i16, be8_i64, be1_i8, sixteenB_uuid]
  simp [writeB, sGetTelemetrySubscriptionsRequestX, partB, partW, bodyB, sGetTelemetrySubscriptionsRequestF, Fld.tag, Fld.has, fieldB, Fld.kind, Fld.null, valueB, widthI, tagsN, tagsK, knownI, h0, h0]
theorem closeGetTelemetrySubscriptionsRequest (x : Int) (hx : 0 ≤ x ∧ x ≤ 255) (ct : List Value) (t : Tree) (w : World) (F : Nat → Nat → Prop) (ht : TreeR w F ct t) : Calls Try.prog 5 #[.int .u8 x, .agg ct.toArray] w (Gives w (.bool true)) := by
  obtain ⟨g0, g1⟩ := ver_ok (m := 0 + 1) hx.1 hx.2 (by decide) (by decide)
  obtain ⟨h1, h2, h3, h4⟩ := fit_ok ht (Int.tmod x (0 + 1)) 8 sGetTelemetrySubscriptionsRequestF
  have hp := pureGetTelemetrySubscriptionsRequest (Int.tmod x (0 + 1)) g0 g1 t
  have huv := uv_len_le (fitT (Int.tmod x (0 + 1)) 8 sGetTelemetrySubscriptionsRequestF t).U.length 5 (by omega) (by decide)
  have hm : (makeGetTelemetrySubscriptionsRequest (Int.tmod x (0 + 1)) (fitT (Int.tmod x (0 + 1)) 8 sGetTelemetrySubscriptionsRequestF t)).length + 16 ≤ 1099511627776 := by
    simp only [makeGetTelemetrySubscriptionsRequest, aGetTelemetrySubscriptionsRequest, List.length_append, be_length, List.length_nil, sixteenB_len]
    repeat' split
    all_goals (simp only [List.length_append, be_length, List.length_nil]; omega)
  exact lawGetTelemetrySubscriptionsRequest x hx.1 (by omega) ct t w F ht (by rw [← hp]; omega) h1 h2 h3 hm hp

end Go.Proofs.Ytlkiilgbpliakaa.ME
