/- Printed by tools/mk.py. Own work. -/
import Derived.Test.YtbjopfcbpobnpaaXc
import Derived.Test.YtbjopfcbpobnpaaLa
import Derived.Test.YtbjopfcbpobnpaaLb
namespace Go.Proofs.Ytbjopfcbpobnpaa.ME
open Go
open Go.RowKit
set_option linter.unusedVariables false
set_option linter.unusedSimpArgs false
set_option maxRecDepth 20000

def aRemoveRaftVoterRequest (x0 : Int) (x1 : Bs) (x2 : Int) (x3 : Bs) (n1 : Bool) (u : List (Int × Bs)) : Bs := (if (decide (x0 ≥ 0)) = true then (if n1 = true then uv 0 else uv (x1.length + 1) ++ x1) else (if n1 = true then be 2 (-1) else be 2 x1.length ++ x1)) ++ ((be 4 x2) ++ ((x3) ++ ((if (decide (x0 ≥ 0)) = true then (uv u.length) ++ (tagsR u) else []) ++ ([]))))
theorem kRemoveRaftVoterRequest (x0 : Int) (x1 : Bs) (x2 : Int) (x3 : Bs) (u : List (Int × Bs)) (b o : Nat) (m : Option Nat) (p1 : Option Addr) (A : Option Addr) (cp : Nat) (s : Bs) (w : World) (F : Nat → Nat → Prop) (hat : AtF w F b o [.int .i16 x0, .pointer p1, .int .i32 x2, byteCell (x3.getD 0 0), byteCell (x3.getD 1 0), byteCell (x3.getD 2 0), byteCell (x3.getD 3 0), byteCell (x3.getD 4 0), byteCell (x3.getD 5 0), byteCell (x3.getD 6 0), byteCell (x3.getD 7 0), byteCell (x3.getD 8 0), byteCell (x3.getD 9 0), byteCell (x3.getD 10 0), byteCell (x3.getD 11 0), byteCell (x3.getD 12 0), byteCell (x3.getD 13 0), byteCell (x3.getD 14 0), byteCell (x3.getD 15 0), .map m]) (hm : MapR w F m u) (hul : u.length ≤ 1000000) (hx : ∀ x ∈ u, x.2.length < 4294967296) (hlx3 : x3.length = 16) (hO1 : ∀ ad, p1 = some ad → ∃ b o, ad = ⟨b, o, none⟩ ∧ AtF w F b o [.string (bs x1)]) (hs1 : x1.length ≤ 1000000) (hF : ∀ b o, F b o → ¬ Blk A b o) (ho : w.ownsRow 0 5 1 (.slice A s.length cp) s.length (bc s)) (hroom : s.length + (aRemoveRaftVoterRequest x0 x1 x2 x3 p1.isNone u).length + 16 ≤ 1099511627776) :
    Calls Try.prog 61 [.pointer (some ⟨b, o, none⟩), .slice A s.length cp].toArray w (AppPost w 5 A (s ++ aRemoveRaftVoterRequest x0 x1 x2 x3 p1.isNone u)) := by
  refine chr_calls (n := 58) Try.func61 rfl Try.ntmps61 (by kernel_rfl) rfl ho hroom ?_
  unfold aRemoveRaftVoterRequest
  refine chr_ob b o [.int .i16 x0, .pointer p1, .int .i32 x2, byteCell (x3.getD 0 0), byteCell (x3.getD 1 0), byteCell (x3.getD 2 0), byteCell (x3.getD 3 0), byteCell (x3.getD 4 0), byteCell (x3.getD 5 0), byteCell (x3.getD 6 0), byteCell (x3.getD 7 0), byteCell (x3.getD 8 0), byteCell (x3.getD 9 0), byteCell (x3.getD 10 0), byteCell (x3.getD 11 0), byteCell (x3.getD 12 0), byteCell (x3.getD 13 0), byteCell (x3.getD 14 0), byteCell (x3.getD 15 0), .map m] hat hF (by kernel_rfl) (by kernel_rfl) ?_
  refine chr_ptr 0 0 0 b o (by simp) rfl rfl rfl ?_
  refine chr_seq0 (ch_pure (env' := [(0, .p 0 0)]) [0] (fun _ _ _ => by kernel_rfl)) ?_
  refine chr_seq0 (ch_pure (env' := [(0, .p 0 0), (5, .v (.int .i16 x0))]) [0, 5] (fun _ _ _ => by kernel_rfl)) ?_
  refine chr_seq0 (ch_pure (env' := [(0, .p 0 0), (5, .v (.int .i16 x0))]) [0, 5] (fun _ _ _ => by kernel_rfl)) ?_
  refine chr_seq0 (ch_pure (env' := [(0, .p 0 0), (6, .v (.bool (decide (x0 ≥ 0))))]) [0, 6] (fun _ _ _ => by kernel_rfl)) ?_
  refine chr_seq0 (ch_pure (env' := [(0, .p 0 0), (6, .v (.bool (decide (x0 ≥ 0))))]) [0, 6] (fun _ _ _ => by kernel_rfl)) ?_
  refine chr_seq (e1 := [(0, .p 0 0), (6, .v (.bool (decide (x0 ≥ 0))))]) ?_ ?_
  ·
    refine ch_seq0 (ch_pure (env' := [(0, .p 0 0), (6, .v (.bool (decide (x0 ≥ 0)))), (7, .v (.pointer p1))]) [0, 6, 7] (fun _ _ _ => by kernel_rfl)) ?_
    refine ch_seq0 (ch_pure (env' := [(0, .p 0 0), (6, .v (.bool (decide (x0 ≥ 0)))), (7, .v (.pointer p1)), (22, .v (.bool (decide (x0 ≥ 0))))]) [0, 6, 7, 22] (fun _ _ _ => by kernel_rfl)) ?_
    refine ch_if (b := decide (x0 ≥ 0)) (fun _ _ _ => by kernel_rfl) (fun hb => ?_) (fun hb => ?_)
    ·
      exact ch_call (f := 113) (vs := [.pointer p1]) 2 [0, 6] (fun _ _ _ _ _ _ => by kernel_rfl) (by kernel_rfl) Try.call113 (fun A cp s w hs hA ho hr => kAppendCompactNullableString' p1 x1 A cp s w ho (Lo F _) (lo_dis hF hA) (fun ad h => by obtain ⟨b', o', g1, g2⟩ := hO1 ad h; exact ⟨b', o', g1, g2.move hs (lo_M hF) lo_F⟩) hs1 hr)
    ·
      exact ch_call (f := 114) (vs := [.pointer p1]) 2 [0, 6] (fun _ _ _ _ _ _ => by kernel_rfl) (by kernel_rfl) Try.call114 (fun A cp s w hs hA ho hr => kAppendNullableString' p1 x1 A cp s w ho (Lo F _) (lo_dis hF hA) (fun ad h => by obtain ⟨b', o', g1, g2⟩ := hO1 ad h; exact ⟨b', o', g1, g2.move hs (lo_M hF) lo_F⟩) hs1 hr)
  refine chr_seq (e1 := [(0, .p 0 0), (6, .v (.bool (decide (x0 ≥ 0))))]) ?_ ?_
  ·
    refine ch_seq0 (ch_pure (env' := [(0, .p 0 0), (6, .v (.bool (decide (x0 ≥ 0)))), (8, .v (.int .i32 x2))]) [0, 6, 8] (fun _ _ _ => by kernel_rfl)) ?_
    exact ch_call (f := 112) (vs := [.int .i32 x2]) 2 [0, 6] (fun _ _ _ _ _ _ => by kernel_rfl) (by kernel_rfl) Try.call112 (fun A cp s w _ _ ho hr => kAppendInt32 A cp s x2 w ho (by omega))
  refine chr_seq (e1 := [(0, .p 0 0), (6, .v (.bool (decide (x0 ≥ 0))))]) ?_ ?_
  ·
    refine ch_box (cs := [byteCell (x3.getD 0 0), byteCell (x3.getD 1 0), byteCell (x3.getD 2 0), byteCell (x3.getD 3 0), byteCell (x3.getD 4 0), byteCell (x3.getD 5 0), byteCell (x3.getD 6 0), byteCell (x3.getD 7 0), byteCell (x3.getD 8 0), byteCell (x3.getD 9 0), byteCell (x3.getD 10 0), byteCell (x3.getD 11 0), byteCell (x3.getD 12 0), byteCell (x3.getD 13 0), byteCell (x3.getD 14 0), byteCell (x3.getD 15 0)]) (e2 := [(0, .p 0 0), (6, .v (.bool (decide (x0 ≥ 0)))), (9, .p 1 0)]) 4 [0, 6, 9] (fun _ _ _ _ => by kernel_rfl) (by kernel_rfl) (by kernel_rfl) fun blk => ?_
    exact ch_call (f := 117) (vs := [.agg #[byteCell (x3.getD 0 0), byteCell (x3.getD 1 0), byteCell (x3.getD 2 0), byteCell (x3.getD 3 0), byteCell (x3.getD 4 0), byteCell (x3.getD 5 0), byteCell (x3.getD 6 0), byteCell (x3.getD 7 0), byteCell (x3.getD 8 0), byteCell (x3.getD 9 0), byteCell (x3.getD 10 0), byteCell (x3.getD 11 0), byteCell (x3.getD 12 0), byteCell (x3.getD 13 0), byteCell (x3.getD 14 0), byteCell (x3.getD 15 0)]]) 2 [0, 6] (fun _ _ _ _ _ _ => by kernel_rfl) (by kernel_rfl) Try.call117 (fun A cp s w _ _ ho hr => kAppendUuid x3 hlx3 A cp s w ho hr)
  refine chr_seq (e1 := []) ?_ ?_
  ·
    refine ch_seq0 (ch_pure (env' := [(0, .p 0 0), (43, .v (.bool (decide (x0 ≥ 0))))]) [0, 43] (fun _ _ _ => by kernel_rfl)) ?_
    refine ch_when (b := decide (x0 ≥ 0)) (fun _ _ _ => by kernel_rfl) (fun hb => ?_) (fun hb => ?_)
    ·
      refine ch_seq (e1 := [(0, .p 0 0)]) ?_ ?_
      ·
        exact ch_call2 (f1 := 101) (vs1 := [.pointer (some ⟨b, o + 19, none⟩)]) (r1 := .int .i64 ((u.length : Nat) : Int)) (f := 100) (vs := [.int .u32 (IntKind.u32.wrap (0 + (IntKind.u32.wrap ((u.length : Nat) : Int))))]) 4 7 [0] (fun _ _ _ _ _ _ => by kernel_rfl) (by kernel_rfl) Try.call101 Try.call100 (fun w hs => kTagsLen (F := Lo F _) ((hat.one 19 rfl).move hs (lo_M hF) lo_F) (hm.move hs (lo_M hF) lo_F)) (fun A cp s w _ _ ho hr => by rw [show (IntKind.u32.wrap (0 + (IntKind.u32.wrap ((u.length : Nat) : Int))) : Int) = ((u.length : Nat) : Int) from wrap_u32_len _ hul]; exact kAppendUvarint u.length (by omega) A cp s w ho hr)
      ·
        exact ch_callG (f := 102) 4 [] (fun s => [.pointer (some ⟨b, o + 19, none⟩), s]) (fun _ _ _ _ _ _ => by kernel_rfl) (by kernel_rfl) Try.call102 (fun A cp s w hs hA ho hr => kAppendEach (F := Lo F _) ((hat.one 19 rfl).move hs (lo_M hF) lo_F) (hm.move hs (lo_M hF) lo_F) ho (lo_dis hF hA) hx hr)
    · exact ch_pick (e1 := []) [] (fun _ _ _ => by kernel_rfl) ch_skip
  exact chr_end (fun _ _ _ => by kernel_rfl)

def makeRemoveRaftVoterRequest (v : Int) (t : Tree) : Bs := aRemoveRaftVoterRequest (IntKind.i16.wrap v) (octOf (t.at_ 0)) (IntKind.i32.wrap (t.at_ 1).N) (sixteenB (t.at_ 2).S) ((t.at_ 0).null) t.U
theorem mRemoveRaftVoterRequest (v : Int) (ct : List Value) (t : Tree) (w : World) (F : Nat → Nat → Prop) (ht : TreeR w F ct t) (hsort : Sorted t.U) (hul : t.U.length ≤ 1000000) (hxl : ∀ x ∈ t.U, x.2.length < 4294967296) (hb0 : (octOf (t.at_ 0)).length ≤ 1000000) (hroom : (makeRemoveRaftVoterRequest v t).length + 16 ≤ 1099511627776) : Calls Try.prog 25 #[.int .i64 v, .agg ct.toArray] w (FreshB w 5 (makeRemoveRaftVoterRequest v t)) := by
  obtain ⟨n6011, s6012, b6013, l6014, u6015, A6016, c6017, A6018, c6019, A6020, c6021, xs6022, rfl, rfl, h6024, h6025, h6026, h6027⟩ := ht.open_
  have hsm6029 := h6024.small
  have hsm6030 := h6025.small
  replace hsort : Sorted u6015 := hsort
  replace hul : u6015.length ≤ 1000000 := hul
  replace hxl : ∀ x ∈ u6015, x.2.length < 4294967296 := hxl
  refine enter (n := 17) Try.func25 rfl Try.ntmps25 (by kernel_rfl) fun a hE => ?_
  have hW := WOk.start w Nil
  refine go_seq_region [0, 1] (by kernel_rfl) ?_
  refine of_op (wpOp_box hW hE (d := 3) (cs := [.int .i64 n6011, .slice A6016 s6012.length c6017, .bool b6013, .slice A6018 l6014.length c6019, .slice A6020 u6015.length c6021]) (by kernel_rfl) fun b6031 a6032 w6033 hb6034 hz6035 hF6036 hW6037 hE6038 => ?_)
  clear hE hW
  refine go_runs [1] [] [0, 3] hW6037 hE6038 (env' := [(0, .v (.int .i64 v)), (3, .p 0 0)]) (by kernel_rfl) rfl fun a6039 hE6040 => ?_
  clear hE6038
  refine wpOps_nil ?_
  refine then_normal ?_
  refine go_seq_region [0, 1, 2] (by kernel_rfl) ?_
  refine go_runs [0] [1, 2] [0, 3, 6] hW6037 hE6040 (env' := [(0, .v (.int .i64 v)), (3, .p 0 0), (6, .v (.agg #[.int .i16 0, .pointer none, .int .i32 0, .int .u8 0, .int .u8 0, .int .u8 0, .int .u8 0, .int .u8 0, .int .u8 0, .int .u8 0, .int .u8 0, .int .u8 0, .int .u8 0, .int .u8 0, .int .u8 0, .int .u8 0, .int .u8 0, .int .u8 0, .int .u8 0, .map none]))]) (by kernel_rfl) rfl fun a6041 hE6042 => ?_
  clear hE6040
  refine of_op (wpOp_box hW6037 hE6042 (d := 7) (cs := [.int .i16 0, .pointer none, .int .i32 0, .int .u8 0, .int .u8 0, .int .u8 0, .int .u8 0, .int .u8 0, .int .u8 0, .int .u8 0, .int .u8 0, .int .u8 0, .int .u8 0, .int .u8 0, .int .u8 0, .int .u8 0, .int .u8 0, .int .u8 0, .int .u8 0, .map none]) (by kernel_rfl) fun b6043 a6044 w6045 hb6046 hz6047 hF6048 hW6049 hE6050 => ?_)
  clear hE6042 hW6037
  refine go_runs [2] [] [0, 3, 5] hW6049 hE6050 (env' := [(0, .v (.int .i64 v)), (3, .p 0 0), (5, .p 1 0)]) (by kernel_rfl) rfl fun a6051 hE6052 => ?_
  clear hE6050
  refine wpOps_nil ?_
  refine then_normal ?_
  refine go_seq_region [0, 1, 2, 3] (by kernel_rfl) ?_
  refine go_runs [0, 1, 2] [3] [3, 5, 8, 10] hW6049 hE6052 (env' := [(3, .p 0 0), (5, .p 1 0), (8, .p 1 0), (10, .v (.int .i16 (IntKind.i16.wrap v)))]) (by kernel_rfl) rfl fun a6053 hE6054 => ?_
  clear hE6052
  refine of_op (wpOp_inline hE6054 (f := 59) (vs := [.pointer (some ⟨b6043, 0, none⟩), .int .i16 (IntKind.i16.wrap v)]) (d := 11) (n' := 8) (by kernel_rfl) Try.call59 Try.func59 rfl Try.ntmps59 (by kernel_rfl) fun a6055 hE6056 => ?_)
  have hE6057 := hE6056.recast 0 (.v (.pointer (some ⟨b6043, 0, none⟩))) (.p 1 0) rfl rfl (Nat.le_of_ble_eq_true (n := 2) rfl)
  refine go_region [0, 1, 2, 3, 4] (by kernel_rfl) ?_
  refine go_runs [0, 1, 2, 3] [4] [5, 7] hW6049 hE6057 (env' := [(5, .v (.int .i16 (IntKind.i16.wrap v))), (7, .p 1 0)]) (by kernel_rfl) rfl fun a6058 hE6059 => ?_
  clear hE6057
  refine of_op (wpOp_store hW6049 hE6059 (oi := 1) (cs := [.int .i16 (IntKind.i16.wrap v), .pointer none, .int .i32 0, .int .u8 0, .int .u8 0, .int .u8 0, .int .u8 0, .int .u8 0, .int .u8 0, .int .u8 0, .int .u8 0, .int .u8 0, .int .u8 0, .int .u8 0, .int .u8 0, .int .u8 0, .int .u8 0, .int .u8 0, .int .u8 0, .map none]) (by kernel_rfl) fun w6060 hF6061 hW6062 hE6063 => ?_)
  clear hE6059 hW6049
  refine wpOps_nil ?_
  refine leave_end hE6063 hW6062.cells (v := .tuple #[]) (by kernel_rfl) ?_
  refine ⟨_, rfl, fun a6064 hE6065 => ?_⟩
  have hE6066 : EnvOk 17 [⟨b6031, 0, [.int .i64 n6011, .slice A6016 s6012.length c6017, .bool b6013, .slice A6018 l6014.length c6019, .slice A6020 u6015.length c6021], true⟩, ⟨b6043, 0, [.int .i16 (IntKind.i16.wrap v), .pointer none, .int .i32 0, .int .u8 0, .int .u8 0, .int .u8 0, .int .u8 0, .int .u8 0, .int .u8 0, .int .u8 0, .int .u8 0, .int .u8 0, .int .u8 0, .int .u8 0, .int .u8 0, .int .u8 0, .int .u8 0, .int .u8 0, .int .u8 0, .map none], true⟩] [(11, .v (.tuple #[])), (3, .p 0 0), (5, .p 1 0), (8, .p 1 0), (10, .v (.int .i16 (IntKind.i16.wrap v)))] _ := hE6065.places (⟨rfl, rfl, ⟨rfl, rfl, trivial⟩⟩)
  refine wpOps_nil ?_
  refine then_normal ?_
  refine go_seq_region [0, 1, 2] (by kernel_rfl) ?_
  refine go_runs [0, 1] [2] [5, 12, 13] hW6062 hE6066 (env' := [(5, .p 1 0), (12, .p 1 0), (13, .v (.agg #[.int .i64 n6011, .slice A6016 s6012.length c6017, .bool b6013, .slice A6018 l6014.length c6019, .slice A6020 u6015.length c6021]))]) (by kernel_rfl) rfl fun a6067 hE6068 => ?_
  clear hE6066
  refine of_op (wpOp_inline hE6068 (f := 60) (vs := [.pointer (some ⟨b6043, 0, none⟩), .agg #[.int .i64 n6011, .slice A6016 s6012.length c6017, .bool b6013, .slice A6018 l6014.length c6019, .slice A6020 u6015.length c6021]]) (d := 14) (n' := 42) (by kernel_rfl) Try.call60 Try.func60 rfl Try.ntmps60 (by kernel_rfl) fun a6069 hE6070 => ?_)
  have hE6071 := hE6070.recast 0 (.v (.pointer (some ⟨b6043, 0, none⟩))) (.p 1 0) rfl rfl (Nat.le_of_ble_eq_true (n := 2) rfl)
  refine go_seq_region [0] (by kernel_rfl) ?_
  refine of_op (wpOp_box hW6062 hE6071 (d := 3) (cs := [.int .i64 n6011, .slice A6016 s6012.length c6017, .bool b6013, .slice A6018 l6014.length c6019, .slice A6020 u6015.length c6021]) (by kernel_rfl) fun b6072 a6073 w6074 hb6075 hz6076 hF6077 hW6078 hE6079 => ?_)
  clear hE6071 hW6062
  refine wpOps_nil ?_
  refine then_normal ?_
  refine go_seq_region [0, 1, 2, 3, 4, 5, 6] (by kernel_rfl) ?_
  refine go_runs [0, 1] [2, 3, 4, 5, 6] [0, 3, 6, 7] hW6078 hE6079 (env' := [(0, .p 1 0), (3, .p 2 0), (6, .p 1 0), (7, .v (.agg #[.int .i64 n6011, .slice A6016 s6012.length c6017, .bool b6013, .slice A6018 l6014.length c6019, .slice A6020 u6015.length c6021]))]) (by kernel_rfl) rfl fun a6080 hE6081 => ?_
  clear hE6079
  refine of_op (wpOp_call hE6081 (f := 95) (vs := [.agg #[.int .i64 n6011, .slice A6016 s6012.length c6017, .bool b6013, .slice A6018 l6014.length c6019, .slice A6020 u6015.length c6021], .int .i64 0]) (d := 8) (by kernel_rfl) Try.call95 (iAt _ _ 0 _ _ (ht.move hW6078.step nilM hW6078.imm)) ?_)
  rintro e_ w6085 ⟨cs6084, rfl, hr6083, hs6082⟩
  have hr6086 := hr6083.move hs6082 nilM (fun b o h_ hb_ => hW6078.laid (G := F) hs6082 b o (.inl h_) (Nat.lt_of_lt_of_le hb_ hs6082.size))
  obtain ⟨n6087, s6088, b6089, l6090, u6091, A6092, c6093, A6094, c6095, A6096, c6097, xs6098, ht6104, hcs6099, h6100, h6101, h6102, h6103⟩ := hr6086.open_
  rw [hcs6099] at hr6086
  have hsm6105 := h6100.small
  have hsm6106 := h6101.small
  rw [hcs6099]
  refine ⟨_, rfl, fun a6107 hE6108 => ?_⟩
  have hW6109 := hW6078.next_nil hs6082
  have hF6110 := Fr.nil [⟨b6031, 0, [.int .i64 n6011, .slice A6016 s6012.length c6017, .bool b6013, .slice A6018 l6014.length c6019, .slice A6020 u6015.length c6021], true⟩, ⟨b6043, 0, [.int .i16 (IntKind.i16.wrap v), .pointer none, .int .i32 0, .int .u8 0, .int .u8 0, .int .u8 0, .int .u8 0, .int .u8 0, .int .u8 0, .int .u8 0, .int .u8 0, .int .u8 0, .int .u8 0, .int .u8 0, .int .u8 0, .int .u8 0, .int .u8 0, .int .u8 0, .int .u8 0, .map none], true⟩, ⟨b6072, 0, [.int .i64 n6011, .slice A6016 s6012.length c6017, .bool b6013, .slice A6018 l6014.length c6019, .slice A6020 u6015.length c6021], true⟩] [] hs6082
  clear hE6081
  refine of_op (wpOp_call hE6108 (f := 111) (vs := [.agg #[.int .i64 n6087, .slice A6092 s6088.length c6093, .bool b6089, .slice A6094 l6090.length c6095, .slice A6096 u6091.length c6097]]) (d := 9) (by kernel_rfl) Try.call111 (kTextOf _ (Tree.at_ (Tree.mk n6011 s6012 b6013 l6014 u6015) 0) _ _ hr6086) ?_)
  rintro e_ w6117 ⟨A6114, rfl, hr6112, hn6113, hs6111⟩
  have hr6116 : ∀ ad, A6114 = some ad → ∃ b o, ad = ⟨b, o, none⟩ ∧ AtF _ _ b o [.string (bs (octOf (Tree.at_ (Tree.mk n6011 s6012 b6013 l6014 u6015) 0)))] := fun ad h => by
      obtain ⟨b, o, g1, g2⟩ := hr6112 ad h
      exact ⟨b, o, g1, g2.move (Step.refl _ Nil) nilM (hW6109.laid (G := F) hs6111)⟩
  refine ⟨_, rfl, fun a6118 hE6119 => ?_⟩
  have hW6120 := hW6109.next_nil hs6111
  have hF6121 := Fr.nil [⟨b6031, 0, [.int .i64 n6011, .slice A6016 s6012.length c6017, .bool b6013, .slice A6018 l6014.length c6019, .slice A6020 u6015.length c6021], true⟩, ⟨b6043, 0, [.int .i16 (IntKind.i16.wrap v), .pointer none, .int .i32 0, .int .u8 0, .int .u8 0, .int .u8 0, .int .u8 0, .int .u8 0, .int .u8 0, .int .u8 0, .int .u8 0, .int .u8 0, .int .u8 0, .int .u8 0, .int .u8 0, .int .u8 0, .int .u8 0, .int .u8 0, .int .u8 0, .map none], true⟩, ⟨b6072, 0, [.int .i64 n6011, .slice A6016 s6012.length c6017, .bool b6013, .slice A6018 l6014.length c6019, .slice A6020 u6015.length c6021], true⟩] [] hs6111
  clear hE6108
  refine go_runs [4, 5] [6] [0, 3, 9, 11] hW6120 hE6119 (env' := [(0, .p 1 0), (3, .p 2 0), (9, .v (.pointer A6114)), (11, .p 1 1)]) (by kernel_rfl) rfl fun a6122 hE6123 => ?_
  clear hE6119
  refine of_op (wpOp_store hW6120 hE6123 (oi := 1) (cs := [.int .i16 (IntKind.i16.wrap v), .pointer A6114, .int .i32 0, .int .u8 0, .int .u8 0, .int .u8 0, .int .u8 0, .int .u8 0, .int .u8 0, .int .u8 0, .int .u8 0, .int .u8 0, .int .u8 0, .int .u8 0, .int .u8 0, .int .u8 0, .int .u8 0, .int .u8 0, .int .u8 0, .map none]) (by kernel_rfl) fun w6124 hF6125 hW6126 hE6127 => ?_)
  clear hE6123 hW6120
  refine wpOps_nil ?_
  refine then_normal ?_
  refine go_seq_region [0, 1, 2, 3, 4, 5, 6, 7] (by kernel_rfl) ?_
  refine go_runs [0, 1] [2, 3, 4, 5, 6, 7] [0, 3, 12, 13] hW6126 hE6127 (env' := [(0, .p 1 0), (3, .p 2 0), (12, .p 1 0), (13, .v (.agg #[.int .i64 n6011, .slice A6016 s6012.length c6017, .bool b6013, .slice A6018 l6014.length c6019, .slice A6020 u6015.length c6021]))]) (by kernel_rfl) rfl fun a6128 hE6129 => ?_
  clear hE6127
  refine of_op (wpOp_call hE6129 (f := 95) (vs := [.agg #[.int .i64 n6011, .slice A6016 s6012.length c6017, .bool b6013, .slice A6018 l6014.length c6019, .slice A6020 u6015.length c6021], .int .i64 1]) (d := 14) (by kernel_rfl) Try.call95 (iAt _ _ 1 _ _ (ht.move hW6126.step nilM hW6126.imm)) ?_)
  rintro e_ w6133 ⟨cs6132, rfl, hr6131, hs6130⟩
  have hr6134 := hr6131.move hs6130 nilM (fun b o h_ hb_ => hW6126.laid (G := F) hs6130 b o (.inl h_) (Nat.lt_of_lt_of_le hb_ hs6130.size))
  obtain ⟨n6135, s6136, b6137, l6138, u6139, A6140, c6141, A6142, c6143, A6144, c6145, xs6146, ht6152, hcs6147, h6148, h6149, h6150, h6151⟩ := hr6134.open_
  rw [hcs6147] at hr6134
  have hsm6153 := h6148.small
  have hsm6154 := h6149.small
  rw [hcs6147]
  refine ⟨_, rfl, fun a6155 hE6156 => ?_⟩
  have hW6157 := hW6126.next_nil hs6130
  have hF6158 := Fr.nil [⟨b6031, 0, [.int .i64 n6011, .slice A6016 s6012.length c6017, .bool b6013, .slice A6018 l6014.length c6019, .slice A6020 u6015.length c6021], true⟩, ⟨b6043, 0, [.int .i16 (IntKind.i16.wrap v), .pointer A6114, .int .i32 0, .int .u8 0, .int .u8 0, .int .u8 0, .int .u8 0, .int .u8 0, .int .u8 0, .int .u8 0, .int .u8 0, .int .u8 0, .int .u8 0, .int .u8 0, .int .u8 0, .int .u8 0, .int .u8 0, .int .u8 0, .int .u8 0, .map none], true⟩, ⟨b6072, 0, [.int .i64 n6011, .slice A6016 s6012.length c6017, .bool b6013, .slice A6018 l6014.length c6019, .slice A6020 u6015.length c6021], true⟩] [] hs6130
  clear hE6129
  refine go_runs [3, 4, 5, 6] [7] [0, 3, 16, 18] hW6157 hE6156 (env' := [(0, .p 1 0), (3, .p 2 0), (16, .v (.int .i32 (IntKind.i32.wrap n6135))), (18, .p 1 2)]) (by kernel_rfl) rfl fun a6159 hE6160 => ?_
  clear hE6156
  refine of_op (wpOp_store hW6157 hE6160 (oi := 1) (cs := [.int .i16 (IntKind.i16.wrap v), .pointer A6114, .int .i32 (IntKind.i32.wrap n6135), .int .u8 0, .int .u8 0, .int .u8 0, .int .u8 0, .int .u8 0, .int .u8 0, .int .u8 0, .int .u8 0, .int .u8 0, .int .u8 0, .int .u8 0, .int .u8 0, .int .u8 0, .int .u8 0, .int .u8 0, .int .u8 0, .map none]) (by kernel_rfl) fun w6161 hF6162 hW6163 hE6164 => ?_)
  clear hE6160 hW6157
  refine wpOps_nil ?_
  refine then_normal ?_
  refine go_seq_region [0, 1, 2, 3, 4, 5, 6, 7] (by kernel_rfl) ?_
  refine go_runs [0, 1] [2, 3, 4, 5, 6, 7] [0, 3, 19, 20] hW6163 hE6164 (env' := [(0, .p 1 0), (3, .p 2 0), (19, .p 1 0), (20, .v (.agg #[.int .i64 n6011, .slice A6016 s6012.length c6017, .bool b6013, .slice A6018 l6014.length c6019, .slice A6020 u6015.length c6021]))]) (by kernel_rfl) rfl fun a6165 hE6166 => ?_
  clear hE6164
  refine of_op (wpOp_call hE6166 (f := 95) (vs := [.agg #[.int .i64 n6011, .slice A6016 s6012.length c6017, .bool b6013, .slice A6018 l6014.length c6019, .slice A6020 u6015.length c6021], .int .i64 2]) (d := 21) (by kernel_rfl) Try.call95 (iAt _ _ 2 _ _ (ht.move hW6163.step nilM hW6163.imm)) ?_)
  rintro e_ w6170 ⟨cs6169, rfl, hr6168, hs6167⟩
  have hr6171 := hr6168.move hs6167 nilM (fun b o h_ hb_ => hW6163.laid (G := F) hs6167 b o (.inl h_) (Nat.lt_of_lt_of_le hb_ hs6167.size))
  obtain ⟨n6172, s6173, b6174, l6175, u6176, A6177, c6178, A6179, c6180, A6181, c6182, xs6183, ht6189, hcs6184, h6185, h6186, h6187, h6188⟩ := hr6171.open_
  rw [hcs6184] at hr6171
  have hsm6190 := h6185.small
  have hsm6191 := h6186.small
  rw [hcs6184]
  refine ⟨_, rfl, fun a6192 hE6193 => ?_⟩
  have hW6194 := hW6163.next_nil hs6167
  have hF6195 := Fr.nil [⟨b6031, 0, [.int .i64 n6011, .slice A6016 s6012.length c6017, .bool b6013, .slice A6018 l6014.length c6019, .slice A6020 u6015.length c6021], true⟩, ⟨b6043, 0, [.int .i16 (IntKind.i16.wrap v), .pointer A6114, .int .i32 (IntKind.i32.wrap n6135), .int .u8 0, .int .u8 0, .int .u8 0, .int .u8 0, .int .u8 0, .int .u8 0, .int .u8 0, .int .u8 0, .int .u8 0, .int .u8 0, .int .u8 0, .int .u8 0, .int .u8 0, .int .u8 0, .int .u8 0, .int .u8 0, .map none], true⟩, ⟨b6072, 0, [.int .i64 n6011, .slice A6016 s6012.length c6017, .bool b6013, .slice A6018 l6014.length c6019, .slice A6020 u6015.length c6021], true⟩] [] hs6167
  clear hE6166
  refine go_runs [3] [4, 5, 6, 7] [0, 3, 19, 22] hW6194 hE6193 (env' := [(0, .p 1 0), (3, .p 2 0), (19, .p 1 0), (22, .v (.slice A6177 s6173.length c6178))]) (by kernel_rfl) rfl fun a6196 hE6197 => ?_
  clear hE6193
  refine of_op (wpOp_call hE6197 (f := 116) (vs := [.slice A6177 s6173.length c6178]) (d := 23) (by kernel_rfl) Try.call116 (kSixteen _ _ s6173 _ _ h6185) ?_)
  rintro e_ w6199 ⟨rfl, hs6198⟩
  refine ⟨_, rfl, fun a6200 hE6201 => ?_⟩
  have hW6202 := hW6194.next_nil hs6198
  have hF6203 := Fr.nil [⟨b6031, 0, [.int .i64 n6011, .slice A6016 s6012.length c6017, .bool b6013, .slice A6018 l6014.length c6019, .slice A6020 u6015.length c6021], true⟩, ⟨b6043, 0, [.int .i16 (IntKind.i16.wrap v), .pointer A6114, .int .i32 (IntKind.i32.wrap n6135), .int .u8 0, .int .u8 0, .int .u8 0, .int .u8 0, .int .u8 0, .int .u8 0, .int .u8 0, .int .u8 0, .int .u8 0, .int .u8 0, .int .u8 0, .int .u8 0, .int .u8 0, .int .u8 0, .int .u8 0, .int .u8 0, .map none], true⟩, ⟨b6072, 0, [.int .i64 n6011, .slice A6016 s6012.length c6017, .bool b6013, .slice A6018 l6014.length c6019, .slice A6020 u6015.length c6021], true⟩] [] hs6198
  clear hE6197 hW6194
  refine go_runs [5, 6] [7] [0, 3, 23, 25] hW6202 hE6201 (env' := [(0, .p 1 0), (3, .p 2 0), (23, .v (.agg #[byteCell (s6173.getD 0 0), byteCell (s6173.getD 1 0), byteCell (s6173.getD 2 0), byteCell (s6173.getD 3 0), byteCell (s6173.getD 4 0), byteCell (s6173.getD 5 0), byteCell (s6173.getD 6 0), byteCell (s6173.getD 7 0), byteCell (s6173.getD 8 0), byteCell (s6173.getD 9 0), byteCell (s6173.getD 10 0), byteCell (s6173.getD 11 0), byteCell (s6173.getD 12 0), byteCell (s6173.getD 13 0), byteCell (s6173.getD 14 0), byteCell (s6173.getD 15 0)])), (25, .p 1 3)]) (by kernel_rfl) rfl fun a6204 hE6205 => ?_
  clear hE6201
  refine of_op (wpOp_store hW6202 hE6205 (oi := 1) (cs := [.int .i16 (IntKind.i16.wrap v), .pointer A6114, .int .i32 (IntKind.i32.wrap n6135), byteCell (s6173.getD 0 0), byteCell (s6173.getD 1 0), byteCell (s6173.getD 2 0), byteCell (s6173.getD 3 0), byteCell (s6173.getD 4 0), byteCell (s6173.getD 5 0), byteCell (s6173.getD 6 0), byteCell (s6173.getD 7 0), byteCell (s6173.getD 8 0), byteCell (s6173.getD 9 0), byteCell (s6173.getD 10 0), byteCell (s6173.getD 11 0), byteCell (s6173.getD 12 0), byteCell (s6173.getD 13 0), byteCell (s6173.getD 14 0), byteCell (s6173.getD 15 0), .map none]) (by kernel_rfl) fun w6206 hF6207 hW6208 hE6209 => ?_)
  clear hE6205 hW6202
  refine wpOps_nil ?_
  refine then_normal ?_
  refine go_seq_region [0, 1, 2, 3] (by kernel_rfl) ?_
  refine go_runs [0, 1, 2, 3] [] [0, 27, 28, 29] hW6208 hE6209 (env' := [(0, .p 1 0), (27, .v (.slice A6020 u6015.length c6021)), (28, .v (.int .i64 ((u6015.length : Nat) : Int))), (29, .v (.int .i64 0))]) (by kernel_rfl) rfl fun a6210 hE6211 => ?_
  clear hE6209
  refine wpOps_nil ?_
  refine then_normal ?_
  refine wp_block ?_
  have hO0_ : ∀ ad, A6114 = some ad → ∃ b o, ad = ⟨b, o, none⟩ ∧ AtF _ _ b o [.string (bs (octOf (Tree.at_ (Tree.mk n6011 s6012 b6013 l6014 u6015) 0)))] := fun ad h => by
      obtain ⟨b, o, g1, g2⟩ := hr6116 ad h
      exact ⟨b, o, g1, (g2.move (Fr.trans (Fr.trans (Fr.trans (Fr.trans (Fr.trans hF6125 hF6158) hF6162) hF6195) hF6203) hF6207).step immM (Fr.trans (Fr.trans (Fr.trans (Fr.trans (Fr.trans hF6125 hF6158) hF6162) hF6195) hF6203) hF6207).to')⟩
  have hpB := new_of hW6208 1 rfl (by kernel_rfl)
  have hE0 := hE6211.recast 0 (.p 1 0) (.v (.pointer (some ⟨b6043, 0, none⟩))) rfl rfl trivial
  have hE1 := (hE0.pick (ks := [0, 27, 28, 29]) (env' := [(0, .v (.pointer (some ⟨b6043, 0, none⟩))), (27, .v (.slice A6020 u6015.length c6021)), (28, .v (.int .i64 ((u6015.length : Nat) : Int))), (29, .v (.int .i64 0))]) (by kernel_rfl)).cutTb 0 (by kernel_rfl)
  refine wp_loop_ghost (fun q a_ w_ => ∃ (j : Nat) (m_ : Option Nat), q = u6015.length - j ∧ j ≤ u6015.length ∧ EnvOk 42 [] [(0, .v (.pointer (some ⟨b6043, 0, none⟩))), (27, .v (.slice A6020 u6015.length c6021)), (28, .v (.int .i64 ((u6015.length : Nat) : Int))), (29, .v (.int .i64 ((j : Nat) : Int)))] a_ ∧ TL w w6206 w_ F b6043 19 [.int .i16 (IntKind.i16.wrap v), .pointer A6114, .int .i32 (IntKind.i32.wrap n6135), byteCell (s6173.getD 0 0), byteCell (s6173.getD 1 0), byteCell (s6173.getD 2 0), byteCell (s6173.getD 3 0), byteCell (s6173.getD 4 0), byteCell (s6173.getD 5 0), byteCell (s6173.getD 6 0), byteCell (s6173.getD 7 0), byteCell (s6173.getD 8 0), byteCell (s6173.getD 9 0), byteCell (s6173.getD 10 0), byteCell (s6173.getD 11 0), byteCell (s6173.getD 12 0), byteCell (s6173.getD 13 0), byteCell (s6173.getD 14 0), byteCell (s6173.getD 15 0), .map none] m_ (u6015.take j)) u6015.length
    ⟨0, none, by omega, by omega, hE1, TL.start hW6208 1 rfl rfl⟩ ?_
  rintro q aq wq ⟨j, m_, rfl, hj, hE2, hT⟩
  have hWq := WOk.start wq Nil
  refine go_seq_region [0] (by kernel_rfl) (go_runs [0] [] [0, 27, 28, 29, 30] hWq hE2 (env' := [(0, .v (.pointer (some ⟨b6043, 0, none⟩))), (27, .v (.slice A6020 u6015.length c6021)), (28, .v (.int .i64 ((u6015.length : Nat) : Int))), (29, .v (.int .i64 ((j : Nat) : Int))), (30, .v (.bool (decide (((j : Nat) : Int) < ((u6015.length : Nat) : Int)))))]) (by kernel_rfl) rfl fun aq2 hE3 => wpOps_nil (then_normal (wp_seq ?_)))
  refine cond_of hE3 (b := decide (((j : Nat) : Int) < ((u6015.length : Nat) : Int))) (by kernel_rfl) (fun hc => ?_) (fun hc => ?_)
  · have hlt : j < u6015.length := by have := of_decide_eq_true hc; omega
    refine wp_skip (then_normal (wp_seq (wp_block ?_)))
    obtain ⟨⟨k, x⟩, hu⟩ : ∃ y, u6015[j]? = some y := ⟨_, List.getElem?_eq_getElem hlt⟩
    obtain ⟨bb, bo, xA, xc, hA, hat, hxo, hk⟩ := tag_at h6027 hu
    refine go_seq_region [0, 1, 2, 3] (by kernel_rfl) ?_
    refine of_op (wpOp_index hE3 (t := 37) (e := 62) (size := 2) (bytes := 32) (d := 31) (b := bb) (o := bo) (m := u6015.length) (j := j) (by kernel_rfl) (by kernel_rfl) hA rfl hlt fun aq3 hE4 => ?_)
    refine of_op (wpOp_load hE4 (t := 62) (d := 32) (cs := [.int .u32 k, .slice xA x.length xc]) (v := .agg #[.int .u32 k, .slice xA x.length xc]) (by kernel_rfl) (by kernel_rfl) (hat.step_nil hT.step) fun aq4 hE5 => ?_)
    refine of_op (wpOp_alloc hWq hE5 (d := 5) (cs := [.int .u32 0, .slice none 0 0]) (by kernel_rfl) fun bx aq5 wq2 hbx hbx0 hFq2 hWq2 hE6 => ?_)
    refine of_op (wpOp_store hWq2 hE6 (oi := 0) (cs := [.int .u32 k, .slice xA x.length xc]) (by kernel_rfl) fun wq3 hFq3 hWq3 hE7 => wpOps_nil (then_normal ?_))
    have hWq4 := hWq3.drew
    refine region_draw (fun wz => CellsOk wz [⟨bx, 0, [.int .u32 k, .slice xA x.length xc], true⟩]) 8 (by kernel_rfl) ?_
    refine go_runsD [0, 1, 2, 3, 4, 5, 6] [0, 27, 28, 29, 35, 37, 39] 1 (by kernel_rfl) (panicFree_block (panicFree_then (panicFree_then (panicFree_block panicFree_body)))) (fun _ h => h) hWq4.cells hE7 (by kernel_rfl) (env' := [(0, .v (.pointer (some ⟨b6043, 0, none⟩))), (27, .v (.slice A6020 u6015.length c6021)), (28, .v (.int .i64 ((u6015.length : Nat) : Int))), (29, .v (.int .i64 ((j : Nat) : Int))), (35, .v (.pointer (some ⟨b6043, 19, none⟩))), (37, .v (.int .u32 k)), (39, .v (.slice xA x.length xc))]) (by kernel_rfl) rfl fun aq6 hE8 => ?_
    refine anyC_op (i := 7) (by kernel_rfl) (wpOp_call hE8 (f := 96) (vs := [.pointer (some ⟨b6043, 19, none⟩), .int .u32 k, .slice xA x.length xc]) (d := 40) (by kernel_rfl) Try.call96 ((hT.move hWq4.step).set hpB (by kernel_rfl) hsort hu hxo hk) ?_)
    rintro e_ wq5 ⟨rfl, hS5, r, hT5⟩
    refine ⟨_, rfl, fun aq7 hE9 => ⟨fun _ => hT.keeps (off := 19) (by kernel_rfl) hS5 hWq4.cells (fun ob hm => by rw [List.mem_singleton.1 hm]; exact Nat.le_of_eq hbx.symm), anyC_done (by kernel_rfl) (block_normal (then_normal ?_)) _⟩⟩
    have hE10 := (hE9.pick (ks := [0, 27, 28, 29]) (env' := [(0, .v (.pointer (some ⟨b6043, 0, none⟩))), (27, .v (.slice A6020 u6015.length c6021)), (28, .v (.int .i64 ((u6015.length : Nat) : Int))), (29, .v (.int .i64 ((j : Nat) : Int)))]) (by kernel_rfl)).cutTb 0 (by kernel_rfl)
    refine go_region [0, 1] (by kernel_rfl) (go_runs [0, 1] [] [0, 27, 28, 29] (WOk.start wq5 Nil) hE10 (env' := [(0, .v (.pointer (some ⟨b6043, 0, none⟩))), (27, .v (.slice A6020 u6015.length c6021)), (28, .v (.int .i64 ((u6015.length : Nat) : Int))), (29, .v (.int .i64 (IntKind.i64.wrap (((j : Nat) : Int) + 1))))]) (by kernel_rfl) rfl fun aq8 hE11 => wpOps_nil (then_normal ?_))
    rw [wrap_succ (by omega)] at hE11
    exact ⟨u6015.length - (j + 1), by omega, j + 1, some r, rfl, by omega, hE11, hT5⟩
  · obtain rfl : j = u6015.length := by have := of_decide_eq_false hc; omega
    refine wp_exit (then_exit (then_exit (block_exit ?_)))
    rw [List.take_length] at hT
    refine leave_end hE3 hWq.cells (v := .tuple #[]) (by kernel_rfl) ?_
    refine ⟨_, rfl, fun aq9 hE12 => ?_⟩
    have hE13 := ((hE12.recast 5 (.p 1 0) (.v (.pointer (some ⟨b6043, 0, none⟩))) rfl rfl trivial).pick (ks := [5]) (env' := [(5, .v (.pointer (some ⟨b6043, 0, none⟩)))]) (by kernel_rfl)).cutTb 0 (by kernel_rfl)
    refine wpOps_nil (then_normal ?_)
    refine go_seq_region [0, 1, 2] (by kernel_rfl) ?_
    refine go_runs [0] [1, 2] [15] hWq hE13 (env' := [(15, .v (.pointer (some ⟨b6043, 0, none⟩)))]) (by kernel_rfl) rfl fun aq10 hE14 => ?_
    have he : aRemoveRaftVoterRequest (IntKind.i16.wrap v) (octOf (Tree.at_ (Tree.mk n6011 s6012 b6013 l6014 u6015) 0)) (IntKind.i32.wrap n6135) (sixteenB s6173) A6114.isNone u6015 = makeRemoveRaftVoterRequest v (Tree.mk n6011 s6012 b6013 l6014 u6015) := by simp only [makeRemoveRaftVoterRequest, hn6113, ht6104, ht6152, ht6189]; rfl
    rw [← he] at hroom ⊢
    refine of_op (wpOp_call hE14 (f := 61) (vs := [.pointer (some ⟨b6043, 0, none⟩), .slice none 0 0]) (d := 16) (by kernel_rfl) Try.call61 (kRemoveRaftVoterRequest (IntKind.i16.wrap v) (octOf (Tree.at_ (Tree.mk n6011 s6012 b6013 l6014 u6015) 0)) (IntKind.i32.wrap n6135) (sixteenB s6173) u6015 b6043 0 m_ A6114 none 0 [] _ _ hT.str.atF (hT.map hsort (tags_range h6027)) hul hxl (sixteenB_len _) (fun ad h => by obtain ⟨b, o, g1, g2⟩ := hO0_ ad h; exact ⟨b, o, g1, g2.move hT.keep (imm_off 1 rfl (by kernel_rfl)) (fun _ _ _ _ => trivial)⟩) (by first | exact hb0 | omega) none_blk (World.ownsRow_nil _ 0 _ _) (by simpa using hroom)) ?_)
    rintro e_ wq6 ⟨A', c', rfl, ho, hs, hn⟩
    refine ⟨_, rfl, fun aq11 hE15 => ?_⟩
    refine go_runs [2] [] [4] (WOk.start wq6 Nil) hE15 (env' := [(4, .v (.slice A' ([] ++ aRemoveRaftVoterRequest (IntKind.i16.wrap v) (octOf (Tree.at_ (Tree.mk n6011 s6012 b6013 l6014 u6015) 0)) (IntKind.i32.wrap n6135) (sixteenB s6173) A6114.isNone u6015).length c'))]) (by kernel_rfl) rfl fun aq12 hE16 => wpOps_nil (then_normal (wp_ret ?_))
    refine leave hE16 (WOk.start wq6 Nil).cells (v := .slice A' ([] ++ aRemoveRaftVoterRequest (IntKind.i16.wrap v) (octOf (Tree.at_ (Tree.mk n6011 s6012 b6013 l6014 u6015) 0)) (IntKind.i32.wrap n6135) (sixteenB s6173) A6114.isNone u6015).length c') (by kernel_rfl) ?_
    exact fresh_of_app hT.step ⟨A', c', rfl, ho, hs, hn⟩

theorem xRemoveRaftVoterRequest (w : World) : Calls Try.prog 23 #[] w (Gives w (.int .i64 0)) := by
  refine enter (n := 4) Try.func23 rfl Try.ntmps23 (by kernel_rfl) fun a hE => ?_
  have hW := WOk.start w Nil
  refine go_seq_region [0] (by kernel_rfl) ?_
  refine go_runs [0] [] [] hW hE (env' := []) (by kernel_rfl) rfl fun a6248 hE6249 => ?_
  clear hE
  refine wpOps_nil ?_
  refine then_normal ?_
  refine go_seq_region [0, 1, 2, 3] (by kernel_rfl) ?_
  refine of_op (wpOp_inline hE6249 (f := 57) (vs := []) (d := 1) (n' := 3) (by kernel_rfl) Try.call57 Try.func57 rfl Try.ntmps57 (by kernel_rfl) fun a6250 hE6251 => ?_)
  refine go_seq_region [0] (by kernel_rfl) ?_
  refine go_runs [0] [] [] hW hE6251 (env' := []) (by kernel_rfl) rfl fun a6252 hE6253 => ?_
  clear hE6251
  refine wpOps_nil ?_
  refine then_normal ?_
  refine go_seq_region [0] (by kernel_rfl) ?_
  refine of_op (wpOp_alloc hW hE6253 (d := 1) (cs := [.int .i16 0, .pointer none, .int .i32 0, .int .u8 0, .int .u8 0, .int .u8 0, .int .u8 0, .int .u8 0, .int .u8 0, .int .u8 0, .int .u8 0, .int .u8 0, .int .u8 0, .int .u8 0, .int .u8 0, .int .u8 0, .int .u8 0, .int .u8 0, .int .u8 0, .map none]) (by kernel_rfl) fun b6254 a6255 w6256 hb6257 hz6258 hF6259 hW6260 hE6261 => ?_)
  clear hE6253 hW
  refine wpOps_nil ?_
  refine then_normal ?_
  refine go_seq_region [0] (by kernel_rfl) ?_
  refine of_op (wpOp_inline hE6261 (f := 115) (vs := [.pointer (some ⟨b6254, 0, none⟩)]) (d := 2) (n' := 2) (by kernel_rfl) Try.call115 Try.func115 rfl Try.ntmps115 (by kernel_rfl) fun a6262 hE6263 => ?_)
  have hE6264 := hE6263.recast 0 (.v (.pointer (some ⟨b6254, 0, none⟩))) (.p 0 0) rfl rfl (Nat.le_of_ble_eq_true (n := 1) rfl)
  refine wp_skip ?_
  refine leave_end hE6264 hW6260.cells (v := .tuple #[]) (by kernel_rfl) ?_
  refine ⟨_, rfl, fun a6265 hE6266 => ?_⟩
  have hE6267 : EnvOk 3 [⟨b6254, 0, [.int .i16 0, .pointer none, .int .i32 0, .int .u8 0, .int .u8 0, .int .u8 0, .int .u8 0, .int .u8 0, .int .u8 0, .int .u8 0, .int .u8 0, .int .u8 0, .int .u8 0, .int .u8 0, .int .u8 0, .int .u8 0, .int .u8 0, .int .u8 0, .int .u8 0, .map none], true⟩] [(2, .v (.tuple #[])), (1, .p 0 0)] _ := hE6266.places (⟨rfl, rfl, trivial⟩)
  refine wpOps_nil ?_
  refine then_normal ?_
  refine go_seq_region [0] (by kernel_rfl) ?_
  refine go_runs [0] [] [0] hW6260 hE6267 (env' := [(0, .p 0 0)]) (by kernel_rfl) rfl fun a6268 hE6269 => ?_
  clear hE6267
  refine wpOps_nil ?_
  refine then_normal ?_
  refine wp_ret ?_
  refine leave hE6269 hW6260.cells (v := .pointer (some ⟨b6254, 0, none⟩)) (by kernel_rfl) ?_
  refine ⟨_, rfl, fun a6270 hE6271 => ?_⟩
  have hE6272 : EnvOk 4 [⟨b6254, 0, [.int .i16 0, .pointer none, .int .i32 0, .int .u8 0, .int .u8 0, .int .u8 0, .int .u8 0, .int .u8 0, .int .u8 0, .int .u8 0, .int .u8 0, .int .u8 0, .int .u8 0, .int .u8 0, .int .u8 0, .int .u8 0, .int .u8 0, .int .u8 0, .int .u8 0, .map none], true⟩] [(1, .v (.pointer (some ⟨b6254, 0, none⟩)))] _ := hE6271.places (trivial)
  refine of_op (wpOp_inline hE6272 (f := 58) (vs := [.pointer (some ⟨b6254, 0, none⟩)]) (d := 2) (n' := 3) (by kernel_rfl) Try.call58 Try.func58 rfl Try.ntmps58 (by kernel_rfl) fun a6273 hE6274 => ?_)
  refine go_seq_region [0] (by kernel_rfl) ?_
  refine go_runs [0] [] [] hW6260 hE6274 (env' := []) (by kernel_rfl) rfl fun a6275 hE6276 => ?_
  clear hE6274
  refine wpOps_nil ?_
  refine then_normal ?_
  refine go_seq_region [0] (by kernel_rfl) ?_
  refine go_runs [0] [] [2] hW6260 hE6276 (env' := [(2, .v (.int .i16 0))]) (by kernel_rfl) rfl fun a6277 hE6278 => ?_
  clear hE6276
  refine wpOps_nil ?_
  refine then_normal ?_
  refine wp_ret ?_
  refine leave hE6278 hW6260.cells (v := .int .i16 0) (by kernel_rfl) ?_
  refine ⟨_, rfl, fun a6279 hE6280 => ?_⟩
  have hE6281 : EnvOk 4 [⟨b6254, 0, [.int .i16 0, .pointer none, .int .i32 0, .int .u8 0, .int .u8 0, .int .u8 0, .int .u8 0, .int .u8 0, .int .u8 0, .int .u8 0, .int .u8 0, .int .u8 0, .int .u8 0, .int .u8 0, .int .u8 0, .int .u8 0, .int .u8 0, .int .u8 0, .int .u8 0, .map none], true⟩] [(2, .v (.int .i16 0)), (1, .v (.pointer (some ⟨b6254, 0, none⟩)))] _ := hE6280.places (⟨rfl, rfl, trivial⟩)
  refine go_runs [2, 3] [] [0] hW6260 hE6281 (env' := [(0, .v (.int .i64 0))]) (by kernel_rfl) rfl fun a6282 hE6283 => ?_
  clear hE6281
  refine wpOps_nil ?_
  refine then_normal ?_
  refine wp_ret ?_
  refine leave hE6283 hW6260.cells (v := .int .i64 0) (by kernel_rfl) ?_
  exact ⟨rfl, hW6260.step⟩

theorem sRemoveRaftVoterRequest_depth : depths sRemoveRaftVoterRequestF ≤ 8 := by simp [sRemoveRaftVoterRequestF, Fld.depth.depths, Fld.depth]
theorem sRemoveRaftVoterRequest_plain : plains sRemoveRaftVoterRequestF := by simp [sRemoveRaftVoterRequestF, Fld.plain.plains, Fld.plain]

theorem lawRemoveRaftVoterRequest (x : Int) (hx : 0 ≤ x) (hx' : x < 256) (ct : List Value) (t : Tree) (w : World) (F : Nat → Nat → Prop) (ht : TreeR w F ct t) (hroom : (writeB 8 sRemoveRaftVoterRequestF sRemoveRaftVoterRequestX (Int.tmod x (0 + 1)) t).length ≤ 1099511627776) (hsort : Sorted (fitT (Int.tmod x (0 + 1)) 8 sRemoveRaftVoterRequestF t).U) (hul : (fitT (Int.tmod x (0 + 1)) 8 sRemoveRaftVoterRequestF t).U.length ≤ 1000000) (hxl : ∀ y ∈ (fitT (Int.tmod x (0 + 1)) 8 sRemoveRaftVoterRequestF t).U, y.2.length < 4294967296) (hb0 : (octOf ((fitT (Int.tmod x (0 + 1)) 8 sRemoveRaftVoterRequestF t).at_ 0)).length ≤ 1000000) (hmade : (makeRemoveRaftVoterRequest (Int.tmod x (0 + 1)) (fitT (Int.tmod x (0 + 1)) 8 sRemoveRaftVoterRequestF t)).length + 16 ≤ 1099511627776) (hpure : makeRemoveRaftVoterRequest (Int.tmod x (0 + 1)) (fitT (Int.tmod x (0 + 1)) 8 sRemoveRaftVoterRequestF t) = writeB 8 sRemoveRaftVoterRequestF sRemoveRaftVoterRequestX (Int.tmod x (0 + 1)) t) :
    Calls Try.prog 5 #[.int .u8 x, .agg ct.toArray] w (Gives w (.bool true)) := by
  obtain ⟨n6284, s6285, b6286, l6287, u6288, A6289, c6290, A6291, c6292, A6293, c6294, xs6295, rfl, rfl, h6297, h6298, h6299, h6300⟩ := ht.open_
  have hsm6302 := h6297.small
  have hsm6303 := h6298.small
  refine enter (n := 31) Try.func5 rfl Try.ntmps5 (by kernel_rfl) fun a hE => ?_
  have hW := WOk.start w Nil
  refine go_seq_region [0, 1] (by kernel_rfl) ?_
  refine of_op (wpOp_box hW hE (d := 3) (cs := [.int .i64 n6284, .slice A6289 s6285.length c6290, .bool b6286, .slice A6291 l6287.length c6292, .slice A6293 u6288.length c6294]) (by kernel_rfl) fun b6304 a6305 w6306 hb6307 hz6308 hF6309 hW6310 hE6311 => ?_)
  clear hE hW
  refine go_runs [1] [] [0, 3] hW6310 hE6311 (env' := [(0, .v (.int .u8 x)), (3, .p 0 0)]) (by kernel_rfl) rfl fun a6312 hE6313 => ?_
  clear hE6311
  refine wpOps_nil ?_
  refine then_normal ?_
  refine wp_seq ?_
  refine go_seq_region [0, 1, 2] (by kernel_rfl) ?_
  refine go_runs [0] [1, 2] [0, 3, 8] hW6310 hE6313 (env' := [(0, .v (.int .u8 x)), (3, .p 0 0), (8, .v (.agg #[.int .i64 n6284, .slice A6289 s6285.length c6290, .bool b6286, .slice A6291 l6287.length c6292, .slice A6293 u6288.length c6294]))]) (by kernel_rfl) rfl fun a6314 hE6315 => ?_
  clear hE6313
  refine of_op (wpOp_call hE6315 (f := 11) (vs := [.agg #[.int .i64 n6284, .slice A6289 s6285.length c6290, .bool b6286, .slice A6291 l6287.length c6292, .slice A6293 u6288.length c6294]]) (d := 9) (by kernel_rfl) Try.call11 (lFits1 _ _ _ _ (ht.move hW6310.step nilM hW6310.imm)) ?_)
  rintro e_ w6318 ⟨b6317, rfl, hs6316⟩
  refine ⟨_, rfl, fun a6319 hE6320 => ?_⟩
  have hW6321 := hW6310.next_nil hs6316
  have hF6322 := Fr.nil [⟨b6304, 0, [.int .i64 n6284, .slice A6289 s6285.length c6290, .bool b6286, .slice A6291 l6287.length c6292, .slice A6293 u6288.length c6294], true⟩] [] hs6316
  clear hE6315 hW6310
  refine go_runs [2] [] [0, 3, 10] hW6321 hE6320 (env' := [(0, .v (.int .u8 x)), (3, .p 0 0), (10, .v (.bool (!b6317)))]) (by kernel_rfl) rfl fun a6323 hE6324 => ?_
  clear hE6320
  refine wpOps_nil ?_
  refine then_normal ?_
  refine cond_of hE6324 (b := !b6317) (by kernel_rfl) (fun hc6325 => ?_) (fun hc6325 => ?_)
  ·
    refine go_seq_region [0] (by kernel_rfl) ?_
    refine go_runs [0] [] [4] hW6321 hE6324 (env' := [(4, .v (.bool true))]) (by kernel_rfl) rfl fun a6327 hE6328 => ?_
    clear hE6324
    refine wpOps_nil ?_
    refine then_normal ?_
    refine wp_ret ?_
    refine then_ret ?_
    refine leave hE6328 hW6321.cells (v := .bool true) (by kernel_rfl) ?_
    exact ⟨rfl, hW6321.step⟩
  ·
    refine wp_skip ?_
    refine then_normal ?_
    refine go_seq_region [0, 1] (by kernel_rfl) ?_
    refine of_op (wpOp_call hE6324 (f := 23) (vs := []) (d := 11) (by kernel_rfl) Try.call23 (xRemoveRaftVoterRequest _) ?_)
    rintro e_ w6331 ⟨rfl, hs6330⟩
    refine ⟨_, rfl, fun a6332 hE6333 => ?_⟩
    have hW6334 := hW6321.next_nil hs6330
    have hF6335 := Fr.nil [⟨b6304, 0, [.int .i64 n6284, .slice A6289 s6285.length c6290, .bool b6286, .slice A6291 l6287.length c6292, .slice A6293 u6288.length c6294], true⟩] [] hs6330
    clear hE6324 hW6321
    refine go_runs [1] [] [0, 3, 5] hW6334 hE6333 (env' := [(0, .v (.int .u8 x)), (3, .p 0 0), (5, .v (.int .i64 0))]) (by kernel_rfl) rfl fun a6336 hE6337 => ?_
    clear hE6333
    refine wpOps_nil ?_
    refine then_normal ?_
    refine wp_seq ?_
    refine go_seq_region [0, 1] (by kernel_rfl) ?_
    refine go_runs [0, 1] [] [0, 3, 5, 13] hW6334 hE6337 (env' := [(0, .v (.int .u8 x)), (3, .p 0 0), (5, .v (.int .i64 0)), (13, .v (.bool false))]) (by kernel_rfl) rfl fun a6338 hE6339 => ?_
    clear hE6337
    refine wpOps_nil ?_
    refine then_normal ?_
    refine cond_false hE6339 (b := false) (by kernel_rfl) rfl ?_
    refine wp_skip ?_
    refine then_normal ?_
    refine go_seq_region [0, 1, 2, 3, 4, 5, 6] (by kernel_rfl) ?_
    refine of_op (wpOp_call hE6339 (f := 24) (vs := []) (d := 14) (by kernel_rfl) Try.call24 (sRemoveRaftVoterRequest _ (Imm F w w6331 [⟨b6304, 0, [.int .i64 n6284, .slice A6289 s6285.length c6290, .bool b6286, .slice A6291 l6287.length c6292, .slice A6293 u6288.length c6294], true⟩] [])) ?_)
    rintro e_ w6344 ⟨A6342, c6343, rfl, hr6341, hs6340⟩
    obtain ⟨xs6345, h6346, h6347⟩ := hr6341.move (Step.refl _ Nil) nilM (hW6334.laid (G := F) hs6340)
    refine ⟨_, rfl, fun a6348 hE6349 => ?_⟩
    have hW6350 := hW6334.next_nil hs6340
    have hF6351 := Fr.nil [⟨b6304, 0, [.int .i64 n6284, .slice A6289 s6285.length c6290, .bool b6286, .slice A6291 l6287.length c6292, .slice A6293 u6288.length c6294], true⟩] [] hs6340
    clear hE6339
    refine go_runs [1, 2] [3, 4, 5, 6] [3, 14, 15, 16] hW6350 hE6349 (env' := [(3, .p 0 0), (14, .v (.agg #[.slice A6342 sRemoveRaftVoterRequestF.length c6343, .int .i64 sRemoveRaftVoterRequestX])), (15, .v (.int .u8 x)), (16, .v (.int .i64 0))]) (by kernel_rfl) rfl fun a6352 hE6353 => ?_
    clear hE6349
    refine of_op (wpOp_call hE6353 (f := 14) (vs := [.int .u8 x, .int .i64 0]) (d := 17) (by kernel_rfl) Try.call14 (lVersion x 0 hx hx' (by decide) (by decide) _) ?_)
    rintro e_ w6355 ⟨rfl, hs6354⟩
    refine ⟨_, rfl, fun a6356 hE6357 => ?_⟩
    have hW6358 := hW6350.next_nil hs6354
    have hF6359 := Fr.nil [⟨b6304, 0, [.int .i64 n6284, .slice A6289 s6285.length c6290, .bool b6286, .slice A6291 l6287.length c6292, .slice A6293 u6288.length c6294], true⟩] [] hs6354
    clear hE6353 hW6350
    refine of_op (wpOp_alloc hW6358 hE6357 (d := 6) (cs := [.slice none 0 0, .int .i64 0]) (by kernel_rfl) fun b6360 a6361 w6362 hb6363 hz6364 hF6365 hW6366 hE6367 => ?_)
    clear hE6357 hW6358
    refine of_op (wpOp_store hW6366 hE6367 (oi := 1) (cs := [.slice A6342 sRemoveRaftVoterRequestF.length c6343, .int .i64 sRemoveRaftVoterRequestX]) (by kernel_rfl) fun w6368 hF6369 hW6370 hE6371 => ?_)
    clear hE6367 hW6366
    refine go_runs [6] [] [3, 6, 7] hW6370 hE6371 (env' := [(3, .p 0 0), (6, .p 1 0), (7, .v (.int .i64 (Int.tmod x (0 + 1))))]) (by kernel_rfl) rfl fun a6372 hE6373 => ?_
    clear hE6371
    refine wpOps_nil ?_
    refine then_normal ?_
    refine go_seq_drawK 13 (by kernel_rfl) hW6370 fun w6374 hF6375 hW6376 hT6377 => ?_
    clear hW6370
    refine go_runsD [0, 1, 2, 3, 4, 8, 9, 10] [18, 20, 21, 22, 26, 27, 28] 6 (by kernel_rfl) (panicFree_then panicFree_body) (fun _ h => h.cells) hT6377 hE6373 (by kernel_rfl) (env' := [(18, .v (.int .i64 (Int.tmod x (0 + 1)))), (20, .v (.slice A6342 sRemoveRaftVoterRequestF.length c6343)), (21, .v (.int .i64 (Int.tmod x (0 + 1)))), (22, .v (.agg #[.int .i64 n6284, .slice A6289 s6285.length c6290, .bool b6286, .slice A6291 l6287.length c6292, .slice A6293 u6288.length c6294])), (26, .v (.agg #[.slice A6342 sRemoveRaftVoterRequestF.length c6343, .int .i64 sRemoveRaftVoterRequestX])), (27, .v (.int .i64 (Int.tmod x (0 + 1)))), (28, .v (.agg #[.int .i64 n6284, .slice A6289 s6285.length c6290, .bool b6286, .slice A6291 l6287.length c6292, .slice A6293 u6288.length c6294]))]) (by kernel_rfl) rfl fun a6378 hE6379 => ?_
    clear hE6373
    refine anyC_op (i := 5) (by kernel_rfl) (wpOp_call hE6379 (f := 18) (vs := [.slice A6342 sRemoveRaftVoterRequestF.length c6343, .int .i64 (Int.tmod x (0 + 1)), .agg #[.int .i64 n6284, .slice A6289 s6285.length c6290, .bool b6286, .slice A6291 l6287.length c6292, .slice A6293 u6288.length c6294]]) (d := 23) (by kernel_rfl) Try.call18 (sFitOK _ _ _ sRemoveRaftVoterRequestF (Int.tmod x (0 + 1)) _ (Tree.mk n6284 s6285 b6286 l6287 u6288) _ _ ⟨xs6345, (h6346.move (Fr.trans (Fr.trans (Fr.trans hF6359 hF6365) hF6369) hF6375).step immM (Fr.trans (Fr.trans (Fr.trans hF6359 hF6365) hF6369) hF6375).to'), (fun i_ x_ h_ => ((h6347 i_ x_ h_).move (Fr.trans (Fr.trans (Fr.trans hF6359 hF6365) hF6369) hF6375).step immM (Fr.trans (Fr.trans (Fr.trans hF6359 hF6365) hF6369) hF6375).to'))⟩ sRemoveRaftVoterRequest_plain sRemoveRaftVoterRequest_depth (ht.move hW6376.step nilM hW6376.imm)) ?_)
    rintro e_ w6383 ⟨cs6382, rfl, hr6381, hs6380⟩
    have hr6384 := hr6381.move (Step.refl _ Nil) nilM (hW6376.laid (G := F) hs6380)
    obtain ⟨n6385, s6386, b6387, l6388, u6389, A6390, c6391, A6392, c6393, A6394, c6395, xs6396, ht6402, hcs6397, h6398, h6399, h6400, h6401⟩ := hr6384.open_
    rw [hcs6397] at hr6384
    have hsm6403 := h6398.small
    have hsm6404 := h6399.small
    rw [hcs6397]
    refine ⟨_, rfl, fun a6405 hE6406 => ?_⟩
    have hW6407 := hW6376.next_nil hs6380
    have hF6408 := Fr.nil [⟨b6304, 0, [.int .i64 n6284, .slice A6289 s6285.length c6290, .bool b6286, .slice A6291 l6287.length c6292, .slice A6293 u6288.length c6294], true⟩, ⟨b6360, 0, [.slice A6342 sRemoveRaftVoterRequestF.length c6343, .int .i64 sRemoveRaftVoterRequestX], true⟩] [] hs6380
    clear hE6379
    have hT6409 : TT w6374 [⟨b6304, 0, [.int .i64 n6284, .slice A6289 s6285.length c6290, .bool b6286, .slice A6291 l6287.length c6292, .slice A6293 u6288.length c6294], true⟩, ⟨b6360, 0, [.slice A6342 sRemoveRaftVoterRequestF.length c6343, .int .i64 sRemoveRaftVoterRequestX], true⟩] [] w6383 := ⟨hW6407.cells, hF6408.step⟩
    refine ⟨fun _ => hT6409, ?_⟩
    refine anyC_op (i := 6) (by kernel_rfl) (wpOp_call hE6406 (f := 17) (vs := [.agg #[.int .i64 n6385, .slice A6390 s6386.length c6391, .bool b6387, .slice A6392 l6388.length c6393, .slice A6394 u6389.length c6395]]) (d := 24) (by kernel_rfl) Try.call17 (lGiven _ _ _ _ _ hr6384 (Nat.le_refl _)) ?_)
    rintro e_ w6413 ⟨cs6412, rfl, hr6411, hs6410⟩
    have hr6414 := hr6411.move (Step.refl _ Nil) nilM (hW6407.laid (G := F) hs6410)
    obtain ⟨n6415, s6416, b6417, l6418, u6419, A6420, c6421, A6422, c6423, A6424, c6425, xs6426, ht6432, hcs6427, h6428, h6429, h6430, h6431⟩ := hr6414.open_
    rw [hcs6427] at hr6414
    have hsm6433 := h6428.small
    have hsm6434 := h6429.small
    rw [hcs6427]
    refine ⟨_, rfl, fun a6435 hE6436 => ?_⟩
    have hW6437 := hW6407.next_nil hs6410
    have hF6438 := Fr.nil [⟨b6304, 0, [.int .i64 n6284, .slice A6289 s6285.length c6290, .bool b6286, .slice A6291 l6287.length c6292, .slice A6293 u6288.length c6294], true⟩, ⟨b6360, 0, [.slice A6342 sRemoveRaftVoterRequestF.length c6343, .int .i64 sRemoveRaftVoterRequestX], true⟩] [] hs6410
    clear hE6406
    have hT6439 : TT w6374 [⟨b6304, 0, [.int .i64 n6284, .slice A6289 s6285.length c6290, .bool b6286, .slice A6291 l6287.length c6292, .slice A6293 u6288.length c6294], true⟩, ⟨b6360, 0, [.slice A6342 sRemoveRaftVoterRequestF.length c6343, .int .i64 sRemoveRaftVoterRequestX], true⟩] [] w6413 := ⟨hW6437.cells, (Fr.trans hF6408 hF6438).step⟩
    refine ⟨fun _ => hT6439, ?_⟩
    refine anyC_op (i := 7) (by kernel_rfl) (wpOp_call hE6436 (f := 25) (vs := [.int .i64 (Int.tmod x (0 + 1)), .agg #[.int .i64 n6415, .slice A6420 s6416.length c6421, .bool b6417, .slice A6422 l6418.length c6423, .slice A6424 u6419.length c6425]]) (d := 25) (by kernel_rfl) Try.call25 (mRemoveRaftVoterRequest (Int.tmod x (0 + 1)) _ (fitT (Int.tmod x (0 + 1)) 8 sRemoveRaftVoterRequestF (Tree.mk n6284 s6285 b6286 l6287 u6288)) _ _ hr6414 hsort hul hxl hb0 hmade) ?_)
    rintro e_ w6444 ⟨A6442, c6443, rfl, ho6441, hs6440⟩
    refine ⟨_, rfl, fun a6445 hE6446 => ?_⟩
    have hW6447 := hW6437.fresh hs6440 (brow A6442 c6443 5 (makeRemoveRaftVoterRequest (Int.tmod x (0 + 1)) (fitT (Int.tmod x (0 + 1)) 8 sRemoveRaftVoterRequestF (Tree.mk n6284 s6285 b6286 l6287 u6288)))) (Nat.le_refl _) ho6441
    have hF6448 := Fr.fresh [⟨b6304, 0, [.int .i64 n6284, .slice A6289 s6285.length c6290, .bool b6286, .slice A6291 l6287.length c6292, .slice A6293 u6288.length c6294], true⟩, ⟨b6360, 0, [.slice A6342 sRemoveRaftVoterRequestF.length c6343, .int .i64 sRemoveRaftVoterRequestX], true⟩] [] hs6440 (brow A6442 c6443 5 (makeRemoveRaftVoterRequest (Int.tmod x (0 + 1)) (fitT (Int.tmod x (0 + 1)) 8 sRemoveRaftVoterRequestF (Tree.mk n6284 s6285 b6286 l6287 u6288)))) (Nat.le_refl _) ho6441
    clear hE6436 hW6437
    have hT6449 : TT w6374 [⟨b6304, 0, [.int .i64 n6284, .slice A6289 s6285.length c6290, .bool b6286, .slice A6291 l6287.length c6292, .slice A6293 u6288.length c6294], true⟩, ⟨b6360, 0, [.slice A6342 sRemoveRaftVoterRequestF.length c6343, .int .i64 sRemoveRaftVoterRequestX], true⟩] [] w6444 := ⟨hW6447.cells, (Fr.trans (Fr.trans hF6408 hF6438) hF6448).step⟩
    refine ⟨fun _ => hT6449, ?_⟩
    refine anyC_op (i := 11) (by kernel_rfl) (wpOp_call hE6446 (f := 19) (vs := [.agg #[.slice A6342 sRemoveRaftVoterRequestF.length c6343, .int .i64 sRemoveRaftVoterRequestX], .int .i64 (Int.tmod x (0 + 1)), .agg #[.int .i64 n6284, .slice A6289 s6285.length c6290, .bool b6286, .slice A6291 l6287.length c6292, .slice A6293 u6288.length c6294]]) (d := 29) (by kernel_rfl) Try.call19 (sWrite _ _ sRemoveRaftVoterRequestF sRemoveRaftVoterRequestX (Int.tmod x (0 + 1)) _ (Tree.mk n6284 s6285 b6286 l6287 u6288) _ _ ⟨xs6345, (h6346.move (Fr.trans (Fr.trans (Fr.trans (Fr.trans (Fr.trans (Fr.trans hF6359 hF6365) hF6369) hF6375) hF6408) hF6438) hF6448).step immM (Fr.trans (Fr.trans (Fr.trans (Fr.trans (Fr.trans (Fr.trans hF6359 hF6365) hF6369) hF6375) hF6408) hF6438) hF6448).to'), (fun i_ x_ h_ => ((h6347 i_ x_ h_).move (Fr.trans (Fr.trans (Fr.trans (Fr.trans (Fr.trans (Fr.trans hF6359 hF6365) hF6369) hF6375) hF6408) hF6438) hF6448).step immM (Fr.trans (Fr.trans (Fr.trans (Fr.trans (Fr.trans (Fr.trans hF6359 hF6365) hF6369) hF6375) hF6408) hF6438) hF6448).to'))⟩ sRemoveRaftVoterRequest_depth (ht.move hW6447.step nilM hW6447.imm) hroom) ?_)
    rintro e_ w6454 ⟨A6452, c6453, rfl, ho6451, hs6450⟩
    refine ⟨_, rfl, fun a6455 hE6456 => ?_⟩
    have hW6457 := hW6447.fresh hs6450 (brow A6452 c6453 5 (writeB 8 sRemoveRaftVoterRequestF sRemoveRaftVoterRequestX (Int.tmod x (0 + 1)) (Tree.mk n6284 s6285 b6286 l6287 u6288))) (Nat.le_refl _) ho6451
    have hF6458 := Fr.fresh [⟨b6304, 0, [.int .i64 n6284, .slice A6289 s6285.length c6290, .bool b6286, .slice A6291 l6287.length c6292, .slice A6293 u6288.length c6294], true⟩, ⟨b6360, 0, [.slice A6342 sRemoveRaftVoterRequestF.length c6343, .int .i64 sRemoveRaftVoterRequestX], true⟩] [brow A6442 c6443 5 (makeRemoveRaftVoterRequest (Int.tmod x (0 + 1)) (fitT (Int.tmod x (0 + 1)) 8 sRemoveRaftVoterRequestF (Tree.mk n6284 s6285 b6286 l6287 u6288)))] hs6450 (brow A6452 c6453 5 (writeB 8 sRemoveRaftVoterRequestF sRemoveRaftVoterRequestX (Int.tmod x (0 + 1)) (Tree.mk n6284 s6285 b6286 l6287 u6288))) (Nat.le_refl _) ho6451
    clear hE6446 hW6447
    have hT6459 : TT w6374 [⟨b6304, 0, [.int .i64 n6284, .slice A6289 s6285.length c6290, .bool b6286, .slice A6291 l6287.length c6292, .slice A6293 u6288.length c6294], true⟩, ⟨b6360, 0, [.slice A6342 sRemoveRaftVoterRequestF.length c6343, .int .i64 sRemoveRaftVoterRequestX], true⟩] [] w6454 := ⟨hW6457.cells, (Fr.trans (Fr.trans (Fr.trans hF6408 hF6438) hF6448) hF6458).step⟩
    refine ⟨fun _ => hT6459, ?_⟩
    refine anyC_op (i := 12) (by kernel_rfl) (wpOp_call hE6456 (f := 15) (vs := [.slice A6442 ((makeRemoveRaftVoterRequest (Int.tmod x (0 + 1)) (fitT (Int.tmod x (0 + 1)) 8 sRemoveRaftVoterRequestF (Tree.mk n6284 s6285 b6286 l6287 u6288))).length) c6443, .slice A6452 ((writeB 8 sRemoveRaftVoterRequestF sRemoveRaftVoterRequestX (Int.tmod x (0 + 1)) (Tree.mk n6284 s6285 b6286 l6287 u6288)).length) c6453]) (d := 30) (by kernel_rfl) Try.call15 (sSame _ _ _ _ (makeRemoveRaftVoterRequest (Int.tmod x (0 + 1)) (fitT (Int.tmod x (0 + 1)) 8 sRemoveRaftVoterRequestF (Tree.mk n6284 s6285 b6286 l6287 u6288))) (writeB 8 sRemoveRaftVoterRequestF sRemoveRaftVoterRequestX (Int.tmod x (0 + 1)) (Tree.mk n6284 s6285 b6286 l6287 u6288)) _ _ (octs_own (hW6457.own 0 _ rfl) (by first | omega | (simp only [be_length]; exact Nat.le_trans (widthI_le _) (by decide)) | (have := hroom; omega) | (have := hmade; omega)) (F := fun _ _ => True) (fun _ _ _ => trivial)) (octs_own (hW6457.own 1 _ rfl) (by first | omega | (simp only [be_length]; exact Nat.le_trans (widthI_le _) (by decide)) | (have := hroom; omega) | (have := hmade; omega)) (F := fun _ _ => True) (fun _ _ _ => trivial))) ?_)
    rintro e_ w6461 ⟨rfl, hs6460⟩
    refine ⟨_, rfl, fun a6462 hE6463 => ?_⟩
    have hW6464 := hW6457.next_nil hs6460
    have hF6465 := Fr.nil [⟨b6304, 0, [.int .i64 n6284, .slice A6289 s6285.length c6290, .bool b6286, .slice A6291 l6287.length c6292, .slice A6293 u6288.length c6294], true⟩, ⟨b6360, 0, [.slice A6342 sRemoveRaftVoterRequestF.length c6343, .int .i64 sRemoveRaftVoterRequestX], true⟩] [brow A6442 c6443 5 (makeRemoveRaftVoterRequest (Int.tmod x (0 + 1)) (fitT (Int.tmod x (0 + 1)) 8 sRemoveRaftVoterRequestF (Tree.mk n6284 s6285 b6286 l6287 u6288))), brow A6452 c6453 5 (writeB 8 sRemoveRaftVoterRequestF sRemoveRaftVoterRequestX (Int.tmod x (0 + 1)) (Tree.mk n6284 s6285 b6286 l6287 u6288))] hs6460
    clear hE6456 hW6457
    have hT6466 : TT w6374 [⟨b6304, 0, [.int .i64 n6284, .slice A6289 s6285.length c6290, .bool b6286, .slice A6291 l6287.length c6292, .slice A6293 u6288.length c6294], true⟩, ⟨b6360, 0, [.slice A6342 sRemoveRaftVoterRequestF.length c6343, .int .i64 sRemoveRaftVoterRequestX], true⟩] [] w6461 := ⟨hW6464.cells, (Fr.trans (Fr.trans (Fr.trans (Fr.trans hF6408 hF6438) hF6448) hF6458) hF6465).step⟩
    refine ⟨fun _ => hT6466, ?_⟩
    refine anyC_op (i := 13) (by kernel_rfl) (wpOp_pure [4] hW6464.cells hE6463 (env' := [(4, .v (.bool (decide (makeRemoveRaftVoterRequest (Int.tmod x (0 + 1)) (fitT (Int.tmod x (0 + 1)) 8 sRemoveRaftVoterRequestF (Tree.mk n6284 s6285 b6286 l6287 u6288)) = writeB 8 sRemoveRaftVoterRequestF sRemoveRaftVoterRequestX (Int.tmod x (0 + 1)) (Tree.mk n6284 s6285 b6286 l6287 u6288)))))]) (by kernel_rfl) fun a6467 hE6468 => ?_)
    clear hE6463
    refine ⟨fun h => absurd rfl h, ?_⟩
    refine anyC_done (by kernel_rfl) ?_ _
    refine then_normal ?_
    refine wp_ret ?_
    refine leave hE6468 hW6464.cells (v := .bool (decide (makeRemoveRaftVoterRequest (Int.tmod x (0 + 1)) (fitT (Int.tmod x (0 + 1)) 8 sRemoveRaftVoterRequestF (Tree.mk n6284 s6285 b6286 l6287 u6288)) = writeB 8 sRemoveRaftVoterRequestF sRemoveRaftVoterRequestX (Int.tmod x (0 + 1)) (Tree.mk n6284 s6285 b6286 l6287 u6288)))) (by kernel_rfl) ?_
    exact ⟨by rw [hpure]; simp, hW6464.step⟩

theorem pureRemoveRaftVoterRequest (v : Int) (h0 : 0 ≤ v) (h1 : v < 32768) (t : Tree) : makeRemoveRaftVoterRequest v (fitT v 8 sRemoveRaftVoterRequestF t) = writeB 8 sRemoveRaftVoterRequestF sRemoveRaftVoterRequestX v t := by
  have e1 : ((fitT v 8 sRemoveRaftVoterRequestF t).at_ 1).N = (t.at_ 1).N := fit_N (d := 7) (show sRemoveRaftVoterRequestF[1]? = _ from rfl) (by decide)
  have f2 : ((fitT v 8 sRemoveRaftVoterRequestF t).at_ 2).S = (t.at_ 2).S := fit_S7 (d := 7) (show sRemoveRaftVoterRequestF[2]? = _ from rfl) (by decide)
  have o0 := fit_o (v := v) (d := 7) (t := t) (show sRemoveRaftVoterRequestF[0]? = _ from rfl) (by decide)
  rw [makeRemoveRaftVoterRequest, aRemoveRaftVoterRequest, fit_U, tagsR_whole, wholeU_len, i16_small h0 h1, o0.1, o0.2]
  simp only [e1, f2, be4_i32', be2_i16, be8_i64, be1_i8, sixteenB_uuid]
  by_cases n0 : Fld.nul (Fld.mk 8 0 (-1) 0 (-1) 0 0 []) v (t.at_ 0) = true <;> simp [writeB, sRemoveRaftVoterRequestX, partB, partW, bodyB, sRemoveRaftVoterRequestF, Fld.tag, Fld.has, fieldB, Fld.kind, Fld.null, valueB, widthI, tagsN, tagsK, knownI, h0, n0, countedB, uv0, h0]
theorem closeRemoveRaftVoterRequest (x : Int) (hx : 0 ≤ x ∧ x ≤ 255) (ct : List Value) (t : Tree) (w : World) (F : Nat → Nat → Prop) (ht : TreeR w F ct t) : Calls Try.prog 5 #[.int .u8 x, .agg ct.toArray] w (Gives w (.bool true)) := by
  obtain ⟨g0, g1⟩ := ver_ok (m := 0 + 1) hx.1 hx.2 (by decide) (by decide)
  obtain ⟨h1, h2, h3, h4⟩ := fit_ok ht (Int.tmod x (0 + 1)) 8 sRemoveRaftVoterRequestF
  have hp := pureRemoveRaftVoterRequest (Int.tmod x (0 + 1)) g0 g1 t
  have huv := uv_len_le (fitT (Int.tmod x (0 + 1)) 8 sRemoveRaftVoterRequestF t).U.length 5 (by omega) (by decide)
  have hb0 : (octOf ((fitT (Int.tmod x (0 + 1)) 8 sRemoveRaftVoterRequestF t).at_ 0)).length ≤ 1000000 := octs_le (d := 7) (show sRemoveRaftVoterRequestF[0]? = _ from rfl) (by decide)
  have hw0 := uv_len_le ((octOf ((fitT (Int.tmod x (0 + 1)) 8 sRemoveRaftVoterRequestF t).at_ 0)).length + 1) 5 (by omega) (by decide)
  have hu0 : (uv 0).length = 1 := by rw [uv0]; rfl
  have hm : (makeRemoveRaftVoterRequest (Int.tmod x (0 + 1)) (fitT (Int.tmod x (0 + 1)) 8 sRemoveRaftVoterRequestF t)).length + 16 ≤ 1099511627776 := by
    simp only [makeRemoveRaftVoterRequest, aRemoveRaftVoterRequest, List.length_append, be_length, List.length_nil, sixteenB_len]
    repeat' split
    all_goals (simp only [List.length_append, be_length, List.length_nil]; omega)
  exact lawRemoveRaftVoterRequest x hx.1 (by omega) ct t w F ht (by rw [← hp]; omega) h1 h2 h3 hb0 hm hp

end Go.Proofs.Ytbjopfcbpobnpaa.ME
