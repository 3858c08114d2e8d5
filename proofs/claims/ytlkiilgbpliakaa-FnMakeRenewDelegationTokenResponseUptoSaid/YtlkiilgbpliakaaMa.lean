/- Printed by tools/mk.py. Own work. -/
import Derived.Test.YtlkiilgbpliakaaTh
namespace Go.Proofs.Ytlkiilgbpliakaa.ME
open Go
open Go.RowKit
set_option linter.unusedVariables false
set_option linter.unusedSimpArgs false
set_option maxRecDepth 20000

def aGetTelemetrySubscriptionsRequest (x0 : Int) (x1 : Bs) (u : List (Int × Bs)) : Bs := (x1) ++ ((if (decide (x0 ≥ 0)) = true then (uv u.length) ++ (tagsR u) else []) ++ ([]))
theorem kGetTelemetrySubscriptionsRequest (x0 : Int) (x1 : Bs) (u : List (Int × Bs)) (b o : Nat) (m : Option Nat) (A : Option Addr) (cp : Nat) (s : Bs) (w : World) (F : Nat → Nat → Prop) (hat : AtF w F b o [.int .i16 x0, byteCell (x1.getD 0 0), byteCell (x1.getD 1 0), byteCell (x1.getD 2 0), byteCell (x1.getD 3 0), byteCell (x1.getD 4 0), byteCell (x1.getD 5 0), byteCell (x1.getD 6 0), byteCell (x1.getD 7 0), byteCell (x1.getD 8 0), byteCell (x1.getD 9 0), byteCell (x1.getD 10 0), byteCell (x1.getD 11 0), byteCell (x1.getD 12 0), byteCell (x1.getD 13 0), byteCell (x1.getD 14 0), byteCell (x1.getD 15 0), .map m]) (hm : MapR w F m u) (hul : u.length ≤ 1000000) (hx : ∀ x ∈ u, x.2.length < 4294967296) (hlx1 : x1.length = 16) (hF : ∀ b o, F b o → ¬ Blk A b o) (ho : w.ownsRow 0 5 1 (.slice A s.length cp) s.length (bc s)) (hroom : s.length + (aGetTelemetrySubscriptionsRequest x0 x1 u).length + 16 ≤ 1099511627776) :
    Calls Try.prog 47 [.pointer (some ⟨b, o, none⟩), .slice A s.length cp].toArray w (AppPost w 5 A (s ++ aGetTelemetrySubscriptionsRequest x0 x1 u)) := by
  refine chr_calls (n := 38) Try.func47 rfl Try.ntmps47 (by kernel_rfl) rfl ho hroom ?_
  unfold aGetTelemetrySubscriptionsRequest
  refine chr_ob b o [.int .i16 x0, byteCell (x1.getD 0 0), byteCell (x1.getD 1 0), byteCell (x1.getD 2 0), byteCell (x1.getD 3 0), byteCell (x1.getD 4 0), byteCell (x1.getD 5 0), byteCell (x1.getD 6 0), byteCell (x1.getD 7 0), byteCell (x1.getD 8 0), byteCell (x1.getD 9 0), byteCell (x1.getD 10 0), byteCell (x1.getD 11 0), byteCell (x1.getD 12 0), byteCell (x1.getD 13 0), byteCell (x1.getD 14 0), byteCell (x1.getD 15 0), .map m] hat hF (by kernel_rfl) (by kernel_rfl) ?_
  refine chr_ptr 0 0 0 b o (by simp) rfl rfl rfl ?_
  refine chr_seq0 (ch_pure (env' := [(0, .p 0 0)]) [0] (fun _ _ _ => by kernel_rfl)) ?_
  refine chr_seq0 (ch_pure (env' := [(0, .p 0 0), (5, .v (.int .i16 x0))]) [0, 5] (fun _ _ _ => by kernel_rfl)) ?_
  refine chr_seq0 (ch_pure (env' := [(0, .p 0 0), (5, .v (.int .i16 x0))]) [0, 5] (fun _ _ _ => by kernel_rfl)) ?_
  refine chr_seq0 (ch_pure (env' := [(0, .p 0 0), (6, .v (.bool (decide (x0 ≥ 0))))]) [0, 6] (fun _ _ _ => by kernel_rfl)) ?_
  refine chr_seq0 (ch_pure (env' := [(0, .p 0 0), (6, .v (.bool (decide (x0 ≥ 0))))]) [0, 6] (fun _ _ _ => by kernel_rfl)) ?_
  refine chr_seq (e1 := [(0, .p 0 0), (6, .v (.bool (decide (x0 ≥ 0))))]) ?_ ?_
  ·
    refine ch_box (cs := [byteCell (x1.getD 0 0), byteCell (x1.getD 1 0), byteCell (x1.getD 2 0), byteCell (x1.getD 3 0), byteCell (x1.getD 4 0), byteCell (x1.getD 5 0), byteCell (x1.getD 6 0), byteCell (x1.getD 7 0), byteCell (x1.getD 8 0), byteCell (x1.getD 9 0), byteCell (x1.getD 10 0), byteCell (x1.getD 11 0), byteCell (x1.getD 12 0), byteCell (x1.getD 13 0), byteCell (x1.getD 14 0), byteCell (x1.getD 15 0)]) (e2 := [(0, .p 0 0), (6, .v (.bool (decide (x0 ≥ 0)))), (7, .p 1 0)]) 4 [0, 6, 7] (fun _ _ _ _ => by kernel_rfl) (by kernel_rfl) (by kernel_rfl) fun blk => ?_
    exact ch_call (f := 76) (vs := [.agg #[byteCell (x1.getD 0 0), byteCell (x1.getD 1 0), byteCell (x1.getD 2 0), byteCell (x1.getD 3 0), byteCell (x1.getD 4 0), byteCell (x1.getD 5 0), byteCell (x1.getD 6 0), byteCell (x1.getD 7 0), byteCell (x1.getD 8 0), byteCell (x1.getD 9 0), byteCell (x1.getD 10 0), byteCell (x1.getD 11 0), byteCell (x1.getD 12 0), byteCell (x1.getD 13 0), byteCell (x1.getD 14 0), byteCell (x1.getD 15 0)]]) 2 [0, 6] (fun _ _ _ _ _ _ => by kernel_rfl) (by kernel_rfl) Try.call76 (fun A cp s w _ _ ho hr => kAppendUuid x1 hlx1 A cp s w ho hr)
  refine chr_seq (e1 := []) ?_ ?_
  ·
    refine ch_seq0 (ch_pure (env' := [(0, .p 0 0), (23, .v (.bool (decide (x0 ≥ 0))))]) [0, 23] (fun _ _ _ => by kernel_rfl)) ?_
    refine ch_when (b := decide (x0 ≥ 0)) (fun _ _ _ => by kernel_rfl) (fun hb => ?_) (fun hb => ?_)
    ·
      refine ch_seq (e1 := [(0, .p 0 0)]) ?_ ?_
      ·
        exact ch_call2 (f1 := 68) (vs1 := [.pointer (some ⟨b, o + 17, none⟩)]) (r1 := .int .i64 ((u.length : Nat) : Int)) (f := 67) (vs := [.int .u32 (IntKind.u32.wrap (0 + (IntKind.u32.wrap ((u.length : Nat) : Int))))]) 4 7 [0] (fun _ _ _ _ _ _ => by kernel_rfl) (by kernel_rfl) Try.call68 Try.call67 (fun w hs => kTagsLen (F := Lo F _) ((hat.one 17 rfl).move hs (lo_M hF) lo_F) (hm.move hs (lo_M hF) lo_F)) (fun A cp s w _ _ ho hr => by rw [show (IntKind.u32.wrap (0 + (IntKind.u32.wrap ((u.length : Nat) : Int))) : Int) = ((u.length : Nat) : Int) from wrap_u32_len _ hul]; exact kAppendUvarint u.length (by omega) A cp s w ho hr)
      ·
        exact ch_callG (f := 69) 4 [] (fun s => [.pointer (some ⟨b, o + 17, none⟩), s]) (fun _ _ _ _ _ _ => by kernel_rfl) (by kernel_rfl) Try.call69 (fun A cp s w hs hA ho hr => kAppendEach (F := Lo F _) ((hat.one 17 rfl).move hs (lo_M hF) lo_F) (hm.move hs (lo_M hF) lo_F) ho (lo_dis hF hA) hx hr)
    · exact ch_pick (e1 := []) [] (fun _ _ _ => by kernel_rfl) ch_skip
  exact chr_end (fun _ _ _ => by kernel_rfl)

def aHeartbeatResponse (x0 : Int) (x1 : Int) (x2 : Int) (u : List (Int × Bs)) : Bs := (if (decide (x0 ≥ 1)) = true then be 4 x1 else []) ++ ((be 2 x2) ++ ((if (decide (x0 ≥ 4)) = true then (uv u.length) ++ (tagsR u) else []) ++ ([])))
theorem kHeartbeatResponse (x0 : Int) (x1 : Int) (x2 : Int) (u : List (Int × Bs)) (b o : Nat) (m : Option Nat) (A : Option Addr) (cp : Nat) (s : Bs) (w : World) (F : Nat → Nat → Prop) (hat : AtF w F b o [.int .i16 x0, .int .i32 x1, .int .i16 x2, .map m]) (hm : MapR w F m u) (hul : u.length ≤ 1000000) (hx : ∀ x ∈ u, x.2.length < 4294967296) (hF : ∀ b o, F b o → ¬ Blk A b o) (ho : w.ownsRow 0 5 1 (.slice A s.length cp) s.length (bc s)) (hroom : s.length + (aHeartbeatResponse x0 x1 x2 u).length + 16 ≤ 1099511627776) :
    Calls Try.prog 52 [.pointer (some ⟨b, o, none⟩), .slice A s.length cp].toArray w (AppPost w 5 A (s ++ aHeartbeatResponse x0 x1 x2 u)) := by
  refine chr_calls (n := 48) Try.func52 rfl Try.ntmps52 (by kernel_rfl) rfl ho hroom ?_
  unfold aHeartbeatResponse
  refine chr_ob b o [.int .i16 x0, .int .i32 x1, .int .i16 x2, .map m] hat hF (by kernel_rfl) (by kernel_rfl) ?_
  refine chr_ptr 0 0 0 b o (by simp) rfl rfl rfl ?_
  refine chr_seq0 (ch_pure (env' := [(0, .p 0 0)]) [0] (fun _ _ _ => by kernel_rfl)) ?_
  refine chr_seq0 (ch_pure (env' := [(0, .p 0 0), (5, .v (.int .i16 x0))]) [0, 5] (fun _ _ _ => by kernel_rfl)) ?_
  refine chr_seq0 (ch_pure (env' := [(0, .p 0 0), (5, .v (.int .i16 x0))]) [0, 5] (fun _ _ _ => by kernel_rfl)) ?_
  refine chr_seq0 (ch_pure (env' := [(0, .p 0 0), (5, .v (.int .i16 x0)), (6, .v (.bool (decide (x0 ≥ 4))))]) [0, 5, 6] (fun _ _ _ => by kernel_rfl)) ?_
  refine chr_seq0 (ch_pure (env' := [(0, .p 0 0), (5, .v (.int .i16 x0)), (6, .v (.bool (decide (x0 ≥ 4))))]) [0, 5, 6] (fun _ _ _ => by kernel_rfl)) ?_
  refine chr_seq (e1 := [(0, .p 0 0), (6, .v (.bool (decide (x0 ≥ 4))))]) ?_ ?_
  ·
    refine ch_seq0 (ch_pure (env' := [(0, .p 0 0), (6, .v (.bool (decide (x0 ≥ 4)))), (18, .v (.bool (decide (x0 ≥ 1))))]) [0, 6, 18] (fun _ _ _ => by kernel_rfl)) ?_
    refine ch_when (b := decide (x0 ≥ 1)) (fun _ _ _ => by kernel_rfl) (fun hb => ?_) (fun hb => ?_)
    ·
      refine ch_seq0 (ch_pure (env' := [(0, .p 0 0), (6, .v (.bool (decide (x0 ≥ 4)))), (7, .v (.int .i32 x1))]) [0, 6, 7] (fun _ _ _ => by kernel_rfl)) ?_
      exact ch_call (f := 61) (vs := [.int .i32 x1]) 2 [0, 6] (fun _ _ _ _ _ _ => by kernel_rfl) (by kernel_rfl) Try.call61 (fun A cp s w _ _ ho hr => kAppendInt32 A cp s x1 w ho (by omega))
    · exact ch_pick (e1 := [(0, .p 0 0), (6, .v (.bool (decide (x0 ≥ 4))))]) [0, 6] (fun _ _ _ => by kernel_rfl) ch_skip
  refine chr_seq (e1 := [(0, .p 0 0), (6, .v (.bool (decide (x0 ≥ 4))))]) ?_ ?_
  ·
    refine ch_seq0 (ch_pure (env' := [(0, .p 0 0), (6, .v (.bool (decide (x0 ≥ 4)))), (8, .v (.int .i16 x2))]) [0, 6, 8] (fun _ _ _ => by kernel_rfl)) ?_
    exact ch_call (f := 60) (vs := [.int .i16 x2]) 2 [0, 6] (fun _ _ _ _ _ _ => by kernel_rfl) (by kernel_rfl) Try.call60 (fun A cp s w _ _ ho hr => kAppendInt16 A cp s x2 w ho (by omega))
  refine chr_seq (e1 := []) ?_ ?_
  ·
    refine ch_seq0 (ch_pure (env' := [(0, .p 0 0), (33, .v (.bool (decide (x0 ≥ 4))))]) [0, 33] (fun _ _ _ => by kernel_rfl)) ?_
    refine ch_when (b := decide (x0 ≥ 4)) (fun _ _ _ => by kernel_rfl) (fun hb => ?_) (fun hb => ?_)
    ·
      refine ch_seq (e1 := [(0, .p 0 0)]) ?_ ?_
      ·
        exact ch_call2 (f1 := 68) (vs1 := [.pointer (some ⟨b, o + 3, none⟩)]) (r1 := .int .i64 ((u.length : Nat) : Int)) (f := 67) (vs := [.int .u32 (IntKind.u32.wrap (0 + (IntKind.u32.wrap ((u.length : Nat) : Int))))]) 4 7 [0] (fun _ _ _ _ _ _ => by kernel_rfl) (by kernel_rfl) Try.call68 Try.call67 (fun w hs => kTagsLen (F := Lo F _) ((hat.one 3 rfl).move hs (lo_M hF) lo_F) (hm.move hs (lo_M hF) lo_F)) (fun A cp s w _ _ ho hr => by rw [show (IntKind.u32.wrap (0 + (IntKind.u32.wrap ((u.length : Nat) : Int))) : Int) = ((u.length : Nat) : Int) from wrap_u32_len _ hul]; exact kAppendUvarint u.length (by omega) A cp s w ho hr)
      ·
        exact ch_callG (f := 69) 4 [] (fun s => [.pointer (some ⟨b, o + 3, none⟩), s]) (fun _ _ _ _ _ _ => by kernel_rfl) (by kernel_rfl) Try.call69 (fun A cp s w hs hA ho hr => kAppendEach (F := Lo F _) ((hat.one 3 rfl).move hs (lo_M hF) lo_F) (hm.move hs (lo_M hF) lo_F) ho (lo_dis hF hA) hx hr)
    · exact ch_pick (e1 := []) [] (fun _ _ _ => by kernel_rfl) ch_skip
  exact chr_end (fun _ _ _ => by kernel_rfl)

def aRenewDelegationTokenResponse (x0 : Int) (x1 : Int) (x2 : Int) (x3 : Int) (u : List (Int × Bs)) : Bs := (be 2 x1) ++ ((be 8 x2) ++ ((be 4 x3) ++ ((if (decide (x0 ≥ 2)) = true then (uv u.length) ++ (tagsR u) else []) ++ ([]))))
theorem kRenewDelegationTokenResponse (x0 : Int) (x1 : Int) (x2 : Int) (x3 : Int) (u : List (Int × Bs)) (b o : Nat) (m : Option Nat) (A : Option Addr) (cp : Nat) (s : Bs) (w : World) (F : Nat → Nat → Prop) (hat : AtF w F b o [.int .i16 x0, .int .i16 x1, .int .i64 x2, .int .i32 x3, .map m]) (hm : MapR w F m u) (hul : u.length ≤ 1000000) (hx : ∀ x ∈ u, x.2.length < 4294967296) (hF : ∀ b o, F b o → ¬ Blk A b o) (ho : w.ownsRow 0 5 1 (.slice A s.length cp) s.length (bc s)) (hroom : s.length + (aRenewDelegationTokenResponse x0 x1 x2 x3 u).length + 16 ≤ 1099511627776) :
    Calls Try.prog 57 [.pointer (some ⟨b, o, none⟩), .slice A s.length cp].toArray w (AppPost w 5 A (s ++ aRenewDelegationTokenResponse x0 x1 x2 x3 u)) := by
  refine chr_calls (n := 54) Try.func57 rfl Try.ntmps57 (by kernel_rfl) rfl ho hroom ?_
  unfold aRenewDelegationTokenResponse
  refine chr_ob b o [.int .i16 x0, .int .i16 x1, .int .i64 x2, .int .i32 x3, .map m] hat hF (by kernel_rfl) (by kernel_rfl) ?_
  refine chr_ptr 0 0 0 b o (by simp) rfl rfl rfl ?_
  refine chr_seq0 (ch_pure (env' := [(0, .p 0 0)]) [0] (fun _ _ _ => by kernel_rfl)) ?_
  refine chr_seq0 (ch_pure (env' := [(0, .p 0 0), (5, .v (.int .i16 x0))]) [0, 5] (fun _ _ _ => by kernel_rfl)) ?_
  refine chr_seq0 (ch_pure (env' := [(0, .p 0 0), (5, .v (.int .i16 x0))]) [0, 5] (fun _ _ _ => by kernel_rfl)) ?_
  refine chr_seq0 (ch_pure (env' := [(0, .p 0 0), (6, .v (.bool (decide (x0 ≥ 2))))]) [0, 6] (fun _ _ _ => by kernel_rfl)) ?_
  refine chr_seq0 (ch_pure (env' := [(0, .p 0 0), (6, .v (.bool (decide (x0 ≥ 2))))]) [0, 6] (fun _ _ _ => by kernel_rfl)) ?_
  refine chr_seq (e1 := [(0, .p 0 0), (6, .v (.bool (decide (x0 ≥ 2))))]) ?_ ?_
  ·
    refine ch_seq0 (ch_pure (env' := [(0, .p 0 0), (6, .v (.bool (decide (x0 ≥ 2)))), (7, .v (.int .i16 x1))]) [0, 6, 7] (fun _ _ _ => by kernel_rfl)) ?_
    exact ch_call (f := 60) (vs := [.int .i16 x1]) 2 [0, 6] (fun _ _ _ _ _ _ => by kernel_rfl) (by kernel_rfl) Try.call60 (fun A cp s w _ _ ho hr => kAppendInt16 A cp s x1 w ho (by omega))
  refine chr_seq (e1 := [(0, .p 0 0), (6, .v (.bool (decide (x0 ≥ 2))))]) ?_ ?_
  ·
    refine ch_seq0 (ch_pure (env' := [(0, .p 0 0), (6, .v (.bool (decide (x0 ≥ 2)))), (8, .v (.int .i64 x2))]) [0, 6, 8] (fun _ _ _ => by kernel_rfl)) ?_
    exact ch_call (f := 79) (vs := [.int .i64 x2]) 2 [0, 6] (fun _ _ _ _ _ _ => by kernel_rfl) (by kernel_rfl) Try.call79 (fun A cp s w _ _ ho hr => kAppendInt64 A cp s x2 w ho (by omega))
  refine chr_seq (e1 := [(0, .p 0 0), (6, .v (.bool (decide (x0 ≥ 2))))]) ?_ ?_
  ·
    refine ch_seq0 (ch_pure (env' := [(0, .p 0 0), (6, .v (.bool (decide (x0 ≥ 2)))), (9, .v (.int .i32 x3))]) [0, 6, 9] (fun _ _ _ => by kernel_rfl)) ?_
    exact ch_call (f := 61) (vs := [.int .i32 x3]) 2 [0, 6] (fun _ _ _ _ _ _ => by kernel_rfl) (by kernel_rfl) Try.call61 (fun A cp s w _ _ ho hr => kAppendInt32 A cp s x3 w ho (by omega))
  refine chr_seq (e1 := []) ?_ ?_
  ·
    refine ch_seq0 (ch_pure (env' := [(0, .p 0 0), (39, .v (.bool (decide (x0 ≥ 2))))]) [0, 39] (fun _ _ _ => by kernel_rfl)) ?_
    refine ch_when (b := decide (x0 ≥ 2)) (fun _ _ _ => by kernel_rfl) (fun hb => ?_) (fun hb => ?_)
    ·
      refine ch_seq (e1 := [(0, .p 0 0)]) ?_ ?_
      ·
        exact ch_call2 (f1 := 68) (vs1 := [.pointer (some ⟨b, o + 4, none⟩)]) (r1 := .int .i64 ((u.length : Nat) : Int)) (f := 67) (vs := [.int .u32 (IntKind.u32.wrap (0 + (IntKind.u32.wrap ((u.length : Nat) : Int))))]) 4 7 [0] (fun _ _ _ _ _ _ => by kernel_rfl) (by kernel_rfl) Try.call68 Try.call67 (fun w hs => kTagsLen (F := Lo F _) ((hat.one 4 rfl).move hs (lo_M hF) lo_F) (hm.move hs (lo_M hF) lo_F)) (fun A cp s w _ _ ho hr => by rw [show (IntKind.u32.wrap (0 + (IntKind.u32.wrap ((u.length : Nat) : Int))) : Int) = ((u.length : Nat) : Int) from wrap_u32_len _ hul]; exact kAppendUvarint u.length (by omega) A cp s w ho hr)
      ·
        exact ch_callG (f := 69) 4 [] (fun s => [.pointer (some ⟨b, o + 4, none⟩), s]) (fun _ _ _ _ _ _ => by kernel_rfl) (by kernel_rfl) Try.call69 (fun A cp s w hs hA ho hr => kAppendEach (F := Lo F _) ((hat.one 4 rfl).move hs (lo_M hF) lo_F) (hm.move hs (lo_M hF) lo_F) ho (lo_dis hF hA) hx hr)
    · exact ch_pick (e1 := []) [] (fun _ _ _ => by kernel_rfl) ch_skip
  exact chr_end (fun _ _ _ => by kernel_rfl)

def aUnregisterControllerRequest (x0 : Int) (x1 : Int) (u : List (Int × Bs)) : Bs := (be 4 x1) ++ ((if (decide (x0 ≥ 0)) = true then (uv u.length) ++ (tagsR u) else []) ++ ([]))
theorem kUnregisterControllerRequest (x0 : Int) (x1 : Int) (u : List (Int × Bs)) (b o : Nat) (m : Option Nat) (A : Option Addr) (cp : Nat) (s : Bs) (w : World) (F : Nat → Nat → Prop) (hat : AtF w F b o [.int .i16 x0, .int .i32 x1, .map m]) (hm : MapR w F m u) (hul : u.length ≤ 1000000) (hx : ∀ x ∈ u, x.2.length < 4294967296) (hF : ∀ b o, F b o → ¬ Blk A b o) (ho : w.ownsRow 0 5 1 (.slice A s.length cp) s.length (bc s)) (hroom : s.length + (aUnregisterControllerRequest x0 x1 u).length + 16 ≤ 1099511627776) :
    Calls Try.prog 41 [.pointer (some ⟨b, o, none⟩), .slice A s.length cp].toArray w (AppPost w 5 A (s ++ aUnregisterControllerRequest x0 x1 u)) := by
  refine chr_calls (n := 38) Try.func41 rfl Try.ntmps41 (by kernel_rfl) rfl ho hroom ?_
  unfold aUnregisterControllerRequest
  refine chr_ob b o [.int .i16 x0, .int .i32 x1, .map m] hat hF (by kernel_rfl) (by kernel_rfl) ?_
  refine chr_ptr 0 0 0 b o (by simp) rfl rfl rfl ?_
  refine chr_seq0 (ch_pure (env' := [(0, .p 0 0)]) [0] (fun _ _ _ => by kernel_rfl)) ?_
  refine chr_seq0 (ch_pure (env' := [(0, .p 0 0), (5, .v (.int .i16 x0))]) [0, 5] (fun _ _ _ => by kernel_rfl)) ?_
  refine chr_seq0 (ch_pure (env' := [(0, .p 0 0), (5, .v (.int .i16 x0))]) [0, 5] (fun _ _ _ => by kernel_rfl)) ?_
  refine chr_seq0 (ch_pure (env' := [(0, .p 0 0), (6, .v (.bool (decide (x0 ≥ 0))))]) [0, 6] (fun _ _ _ => by kernel_rfl)) ?_
  refine chr_seq0 (ch_pure (env' := [(0, .p 0 0), (6, .v (.bool (decide (x0 ≥ 0))))]) [0, 6] (fun _ _ _ => by kernel_rfl)) ?_
  refine chr_seq (e1 := [(0, .p 0 0), (6, .v (.bool (decide (x0 ≥ 0))))]) ?_ ?_
  ·
    refine ch_seq0 (ch_pure (env' := [(0, .p 0 0), (6, .v (.bool (decide (x0 ≥ 0)))), (7, .v (.int .i32 x1))]) [0, 6, 7] (fun _ _ _ => by kernel_rfl)) ?_
    exact ch_call (f := 61) (vs := [.int .i32 x1]) 2 [0, 6] (fun _ _ _ _ _ _ => by kernel_rfl) (by kernel_rfl) Try.call61 (fun A cp s w _ _ ho hr => kAppendInt32 A cp s x1 w ho (by omega))
  refine chr_seq (e1 := []) ?_ ?_
  ·
    refine ch_seq0 (ch_pure (env' := [(0, .p 0 0), (23, .v (.bool (decide (x0 ≥ 0))))]) [0, 23] (fun _ _ _ => by kernel_rfl)) ?_
    refine ch_when (b := decide (x0 ≥ 0)) (fun _ _ _ => by kernel_rfl) (fun hb => ?_) (fun hb => ?_)
    ·
      refine ch_seq (e1 := [(0, .p 0 0)]) ?_ ?_
      ·
        exact ch_call2 (f1 := 68) (vs1 := [.pointer (some ⟨b, o + 2, none⟩)]) (r1 := .int .i64 ((u.length : Nat) : Int)) (f := 67) (vs := [.int .u32 (IntKind.u32.wrap (0 + (IntKind.u32.wrap ((u.length : Nat) : Int))))]) 4 7 [0] (fun _ _ _ _ _ _ => by kernel_rfl) (by kernel_rfl) Try.call68 Try.call67 (fun w hs => kTagsLen (F := Lo F _) ((hat.one 2 rfl).move hs (lo_M hF) lo_F) (hm.move hs (lo_M hF) lo_F)) (fun A cp s w _ _ ho hr => by rw [show (IntKind.u32.wrap (0 + (IntKind.u32.wrap ((u.length : Nat) : Int))) : Int) = ((u.length : Nat) : Int) from wrap_u32_len _ hul]; exact kAppendUvarint u.length (by omega) A cp s w ho hr)
      ·
        exact ch_callG (f := 69) 4 [] (fun s => [.pointer (some ⟨b, o + 2, none⟩), s]) (fun _ _ _ _ _ _ => by kernel_rfl) (by kernel_rfl) Try.call69 (fun A cp s w hs hA ho hr => kAppendEach (F := Lo F _) ((hat.one 2 rfl).move hs (lo_M hF) lo_F) (hm.move hs (lo_M hF) lo_F) ho (lo_dis hF hA) hx hr)
    · exact ch_pick (e1 := []) [] (fun _ _ _ => by kernel_rfl) ch_skip
  exact chr_end (fun _ _ _ => by kernel_rfl)

end Go.Proofs.Ytlkiilgbpliakaa.ME
