/- The texts of a claim, put together: the engine, the contracts, the law. Own work. -/
import Derived.Test.YtbjopfcbpobnpaaGreatWShM1
import Derived.Test.YtbjopfcbpobnpaaGreatProg
namespace Go.Proofs.YtbjopfcbpobnpaaGreat.ME
open Go
open Go.RowKit
set_option linter.unusedVariables false
set_option linter.unusedSimpArgs false
set_option maxRecDepth 20000
def okStreamsGroupHeartbeatResponseStatus (w : World) (F : Nat → Nat → Prop) (D : DV) : Prop := (True) ∧ ((D.f 1).s.size ≤ 1000000) ∧ MapR w F D.m D.u ∧ D.u.length ≤ 1000000 ∧ (∀ x ∈ D.u, x.2.length < 4294967296) ∧ True
def okTaskIDs (w : World) (F : Nat → Nat → Prop) (D : DV) : Prop := ((D.f 0).s.size ≤ 1000000) ∧ (Slots w F 1 (D.f 1).A (D.f 1).c (D.f 1).l (fun i => [.int .i32 (((D.f 1).f i).n)]) ∧ (D.f 1).l ≤ 1000000 ∧ ∀ i, i < (D.f 1).l → True) ∧ MapR w F D.m D.u ∧ D.u.length ≤ 1000000 ∧ (∀ x ∈ D.u, x.2.length < 4294967296) ∧ True
def okEndpoint (w : World) (F : Nat → Nat → Prop) (D : DV) : Prop := ((D.f 0).s.size ≤ 1000000) ∧ (True) ∧ MapR w F D.m D.u ∧ D.u.length ≤ 1000000 ∧ (∀ x ∈ D.u, x.2.length < 4294967296) ∧ True
def okStreamsGroupHeartbeatResponsePartitionsByUserEndpointActivePartition (w : World) (F : Nat → Nat → Prop) (D : DV) : Prop := ((D.f 0).s.size ≤ 1000000) ∧ (Slots w F 1 (D.f 1).A (D.f 1).c (D.f 1).l (fun i => [.int .i32 (((D.f 1).f i).n)]) ∧ (D.f 1).l ≤ 1000000 ∧ ∀ i, i < (D.f 1).l → True) ∧ MapR w F D.m D.u ∧ D.u.length ≤ 1000000 ∧ (∀ x ∈ D.u, x.2.length < 4294967296) ∧ True
def okStreamsGroupHeartbeatResponsePartitionsByUserEndpointStandbyPartition (w : World) (F : Nat → Nat → Prop) (D : DV) : Prop := ((D.f 0).s.size ≤ 1000000) ∧ (Slots w F 1 (D.f 1).A (D.f 1).c (D.f 1).l (fun i => [.int .i32 (((D.f 1).f i).n)]) ∧ (D.f 1).l ≤ 1000000 ∧ ∀ i, i < (D.f 1).l → True) ∧ MapR w F D.m D.u ∧ D.u.length ≤ 1000000 ∧ (∀ x ∈ D.u, x.2.length < 4294967296) ∧ True
def okStreamsGroupHeartbeatResponsePartitionsByUserEndpoint (w : World) (F : Nat → Nat → Prop) (D : DV) : Prop := (okEndpoint w F (D.f 0)) ∧ (Slots w F 3 (D.f 1).A (D.f 1).c (D.f 1).l (fun i => [.string ((((D.f 1).f i).f 0).s), .slice ((((D.f 1).f i).f 1).A) ((((D.f 1).f i).f 1).l) ((((D.f 1).f i).f 1).c), .map (((D.f 1).f i).m)]) ∧ (D.f 1).l ≤ 1000000 ∧ ∀ i, i < (D.f 1).l → okStreamsGroupHeartbeatResponsePartitionsByUserEndpointActivePartition w F ((D.f 1).f i)) ∧ (Slots w F 3 (D.f 2).A (D.f 2).c (D.f 2).l (fun i => [.string ((((D.f 2).f i).f 0).s), .slice ((((D.f 2).f i).f 1).A) ((((D.f 2).f i).f 1).l) ((((D.f 2).f i).f 1).c), .map (((D.f 2).f i).m)]) ∧ (D.f 2).l ≤ 1000000 ∧ ∀ i, i < (D.f 2).l → okStreamsGroupHeartbeatResponsePartitionsByUserEndpointStandbyPartition w F ((D.f 2).f i)) ∧ MapR w F D.m D.u ∧ D.u.length ≤ 1000000 ∧ (∀ x ∈ D.u, x.2.length < 4294967296) ∧ True
def okStreamsGroupHeartbeatResponse (w : World) (F : Nat → Nat → Prop) (D : DV) : Prop := (True) ∧ (True) ∧ ((∀ ad, (D.f 2).A = some ad → ∃ b o, ad = ⟨b, o, none⟩ ∧ AtF w F b o [.string (D.f 2).s]) ∧ (D.f 2).s.size ≤ 1000000) ∧ ((D.f 3).s.size ≤ 1000000) ∧ (True) ∧ (True) ∧ (True) ∧ (True) ∧ (True) ∧ (Slots w F 3 (D.f 9).A (D.f 9).c (D.f 9).l (fun i => [.int .i8 ((((D.f 9).f i).f 0).n), .string ((((D.f 9).f i).f 1).s), .map (((D.f 9).f i).m)]) ∧ (D.f 9).l ≤ 1000000 ∧ ∀ i, i < (D.f 9).l → okStreamsGroupHeartbeatResponseStatus w F ((D.f 9).f i)) ∧ (Slots w F 3 (D.f 10).A (D.f 10).c (D.f 10).l (fun i => [.string ((((D.f 10).f i).f 0).s), .slice ((((D.f 10).f i).f 1).A) ((((D.f 10).f i).f 1).l) ((((D.f 10).f i).f 1).c), .map (((D.f 10).f i).m)]) ∧ (D.f 10).l ≤ 1000000 ∧ ∀ i, i < (D.f 10).l → okTaskIDs w F ((D.f 10).f i)) ∧ (Slots w F 3 (D.f 11).A (D.f 11).c (D.f 11).l (fun i => [.string ((((D.f 11).f i).f 0).s), .slice ((((D.f 11).f i).f 1).A) ((((D.f 11).f i).f 1).l) ((((D.f 11).f i).f 1).c), .map (((D.f 11).f i).m)]) ∧ (D.f 11).l ≤ 1000000 ∧ ∀ i, i < (D.f 11).l → okTaskIDs w F ((D.f 11).f i)) ∧ (Slots w F 3 (D.f 12).A (D.f 12).c (D.f 12).l (fun i => [.string ((((D.f 12).f i).f 0).s), .slice ((((D.f 12).f i).f 1).A) ((((D.f 12).f i).f 1).l) ((((D.f 12).f i).f 1).c), .map (((D.f 12).f i).m)]) ∧ (D.f 12).l ≤ 1000000 ∧ ∀ i, i < (D.f 12).l → okTaskIDs w F ((D.f 12).f i)) ∧ (True) ∧ (True) ∧ (Slots w F 6 (D.f 15).A (D.f 15).c (D.f 15).l (fun i => [.string (((((D.f 15).f i).f 0).f 0).s), .int .u16 (((((D.f 15).f i).f 0).f 1).n), .map ((((D.f 15).f i).f 0).m), .slice ((((D.f 15).f i).f 1).A) ((((D.f 15).f i).f 1).l) ((((D.f 15).f i).f 1).c), .slice ((((D.f 15).f i).f 2).A) ((((D.f 15).f i).f 2).l) ((((D.f 15).f i).f 2).c), .map (((D.f 15).f i).m)]) ∧ (D.f 15).l ≤ 1000000 ∧ ∀ i, i < (D.f 15).l → okStreamsGroupHeartbeatResponsePartitionsByUserEndpoint w F ((D.f 15).f i)) ∧ MapR w F D.m D.u ∧ D.u.length ≤ 1000000 ∧ (∀ x ∈ D.u, x.2.length < 4294967296) ∧ True
def aStreamsGroupHeartbeatResponse (v : Int) (D : DV) : Bs := (be 4 ((D.f 0).n)) ++ ((be 2 ((D.f 1).n)) ++ ((if (decide (v ≥ 0)) = true then (if (D.f 2).A.isNone = true then uv 0 else uv ((D.f 2).s.size + 1) ++ sb (D.f 2).s) else (if (D.f 2).A.isNone = true then be 2 (-1) else be 2 (D.f 2).s.size ++ sb (D.f 2).s)) ++ ((if (decide (v ≥ 0)) = true then (uv ((D.f 3).s.size + 1) ++ sb (D.f 3).s) else (be 2 (D.f 3).s.size ++ sb (D.f 3).s)) ++ ((be 4 ((D.f 4).n)) ++ ((be 4 ((D.f 5).n)) ++ ((if ((if (decide (v ≥ 0)) = true then decide (v ≤ 0) else false)) = true then be 4 ((D.f 6).n) else []) ++ ((be 4 ((D.f 7).n)) ++ ((if (decide (v ≥ 1)) = true then be 8 ((D.f 8).n) else []) ++ (((if (decide (v ≥ 0)) = true then (if ((D.f 9).A).isNone = true then uv 0 else uv ((D.f 9).l + 1)) else (if ((D.f 9).A).isNone = true then be 4 (-1) else be 4 (D.f 9).l)) ++ ((List.range (D.f 9).l).flatMap fun ah => (be 1 ((((D.f 9).f ah).f 0).n)) ++ ((if (decide (v ≥ 0)) = true then (uv ((((D.f 9).f ah).f 1).s.size + 1) ++ sb (((D.f 9).f ah).f 1).s) else (be 2 (((D.f 9).f ah).f 1).s.size ++ sb (((D.f 9).f ah).f 1).s)) ++ (if (decide (v ≥ 0)) = true then (uv ((D.f 9).f ah).u.length) ++ (tagsR ((D.f 9).f ah).u) else [])))) ++ (((if (decide (v ≥ 0)) = true then (if ((D.f 10).A).isNone = true then uv 0 else uv ((D.f 10).l + 1)) else (if ((D.f 10).A).isNone = true then be 4 (-1) else be 4 (D.f 10).l)) ++ ((List.range (D.f 10).l).flatMap fun ab => (if (decide (v ≥ 0)) = true then (uv ((((D.f 10).f ab).f 0).s.size + 1) ++ sb (((D.f 10).f ab).f 0).s) else (be 2 (((D.f 10).f ab).f 0).s.size ++ sb (((D.f 10).f ab).f 0).s)) ++ (((if (decide (v ≥ 0)) = true then (uv ((((D.f 10).f ab).f 1).l + 1)) else (be 4 (((D.f 10).f ab).f 1).l)) ++ ((List.range (((D.f 10).f ab).f 1).l).flatMap fun ai => be 4 (((((D.f 10).f ab).f 1).f ai).n))) ++ (if (decide (v ≥ 0)) = true then (uv ((D.f 10).f ab).u.length) ++ (tagsR ((D.f 10).f ab).u) else [])))) ++ (((if (decide (v ≥ 0)) = true then (if ((D.f 11).A).isNone = true then uv 0 else uv ((D.f 11).l + 1)) else (if ((D.f 11).A).isNone = true then be 4 (-1) else be 4 (D.f 11).l)) ++ ((List.range (D.f 11).l).flatMap fun ac => (if (decide (v ≥ 0)) = true then (uv ((((D.f 11).f ac).f 0).s.size + 1) ++ sb (((D.f 11).f ac).f 0).s) else (be 2 (((D.f 11).f ac).f 0).s.size ++ sb (((D.f 11).f ac).f 0).s)) ++ (((if (decide (v ≥ 0)) = true then (uv ((((D.f 11).f ac).f 1).l + 1)) else (be 4 (((D.f 11).f ac).f 1).l)) ++ ((List.range (((D.f 11).f ac).f 1).l).flatMap fun aj => be 4 (((((D.f 11).f ac).f 1).f aj).n))) ++ (if (decide (v ≥ 0)) = true then (uv ((D.f 11).f ac).u.length) ++ (tagsR ((D.f 11).f ac).u) else [])))) ++ (((if (decide (v ≥ 0)) = true then (if ((D.f 12).A).isNone = true then uv 0 else uv ((D.f 12).l + 1)) else (if ((D.f 12).A).isNone = true then be 4 (-1) else be 4 (D.f 12).l)) ++ ((List.range (D.f 12).l).flatMap fun ae => (if (decide (v ≥ 0)) = true then (uv ((((D.f 12).f ae).f 0).s.size + 1) ++ sb (((D.f 12).f ae).f 0).s) else (be 2 (((D.f 12).f ae).f 0).s.size ++ sb (((D.f 12).f ae).f 0).s)) ++ (((if (decide (v ≥ 0)) = true then (uv ((((D.f 12).f ae).f 1).l + 1)) else (be 4 (((D.f 12).f ae).f 1).l)) ++ ((List.range (((D.f 12).f ae).f 1).l).flatMap fun ak => be 4 (((((D.f 12).f ae).f 1).f ak).n))) ++ (if (decide (v ≥ 0)) = true then (uv ((D.f 12).f ae).u.length) ++ (tagsR ((D.f 12).f ae).u) else [])))) ++ ((if (decide (v ≥ 1)) = true then [by8 (if (D.f 13).b then 1 else 0)] else []) ++ ((be 4 ((D.f 14).n)) ++ (((if (decide (v ≥ 0)) = true then (if ((D.f 15).A).isNone = true then uv 0 else uv ((D.f 15).l + 1)) else (if ((D.f 15).A).isNone = true then be 4 (-1) else be 4 (D.f 15).l)) ++ ((List.range (D.f 15).l).flatMap fun aa => ((if (decide (v ≥ 0)) = true then (uv (((((D.f 15).f aa).f 0).f 0).s.size + 1) ++ sb ((((D.f 15).f aa).f 0).f 0).s) else (be 2 ((((D.f 15).f aa).f 0).f 0).s.size ++ sb ((((D.f 15).f aa).f 0).f 0).s)) ++ ((be 2 (((((D.f 15).f aa).f 0).f 1).n)) ++ (if (decide (v ≥ 0)) = true then (uv (((D.f 15).f aa).f 0).u.length) ++ (tagsR (((D.f 15).f aa).f 0).u) else []))) ++ (((if (decide (v ≥ 0)) = true then (uv ((((D.f 15).f aa).f 1).l + 1)) else (be 4 (((D.f 15).f aa).f 1).l)) ++ ((List.range (((D.f 15).f aa).f 1).l).flatMap fun af => (if (decide (v ≥ 0)) = true then (uv ((((((D.f 15).f aa).f 1).f af).f 0).s.size + 1) ++ sb (((((D.f 15).f aa).f 1).f af).f 0).s) else (be 2 (((((D.f 15).f aa).f 1).f af).f 0).s.size ++ sb (((((D.f 15).f aa).f 1).f af).f 0).s)) ++ (((if (decide (v ≥ 0)) = true then (uv ((((((D.f 15).f aa).f 1).f af).f 1).l + 1)) else (be 4 (((((D.f 15).f aa).f 1).f af).f 1).l)) ++ ((List.range (((((D.f 15).f aa).f 1).f af).f 1).l).flatMap fun al => be 4 (((((((D.f 15).f aa).f 1).f af).f 1).f al).n))) ++ (if (decide (v ≥ 0)) = true then (uv ((((D.f 15).f aa).f 1).f af).u.length) ++ (tagsR ((((D.f 15).f aa).f 1).f af).u) else [])))) ++ (((if (decide (v ≥ 0)) = true then (uv ((((D.f 15).f aa).f 2).l + 1)) else (be 4 (((D.f 15).f aa).f 2).l)) ++ ((List.range (((D.f 15).f aa).f 2).l).flatMap fun ag => (if (decide (v ≥ 0)) = true then (uv ((((((D.f 15).f aa).f 2).f ag).f 0).s.size + 1) ++ sb (((((D.f 15).f aa).f 2).f ag).f 0).s) else (be 2 (((((D.f 15).f aa).f 2).f ag).f 0).s.size ++ sb (((((D.f 15).f aa).f 2).f ag).f 0).s)) ++ (((if (decide (v ≥ 0)) = true then (uv ((((((D.f 15).f aa).f 2).f ag).f 1).l + 1)) else (be 4 (((((D.f 15).f aa).f 2).f ag).f 1).l)) ++ ((List.range (((((D.f 15).f aa).f 2).f ag).f 1).l).flatMap fun am => be 4 (((((((D.f 15).f aa).f 2).f ag).f 1).f am).n))) ++ (if (decide (v ≥ 0)) = true then (uv ((((D.f 15).f aa).f 2).f ag).u.length) ++ (tagsR ((((D.f 15).f aa).f 2).f ag).u) else [])))) ++ (if (decide (v ≥ 0)) = true then (uv ((D.f 15).f aa).u.length) ++ (tagsR ((D.f 15).f aa).u) else []))))) ++ ((if (decide (v ≥ 0)) = true then (uv D.u.length) ++ (tagsR D.u) else []) ++ ([])))))))))))))))))
theorem kStreamsGroupHeartbeatResponse (v : Int) (D : DV) (b o : Nat) (A : Option Addr) (cp : Nat) (s : Bs) (w : World) (F : Nat → Nat → Prop) (hat : AtF w F b o [.int .i16 v, .int .i32 ((D.f 0).n), .int .i16 ((D.f 1).n), .pointer ((D.f 2).A), .string ((D.f 3).s), .int .i32 ((D.f 4).n), .int .i32 ((D.f 5).n), .int .i32 ((D.f 6).n), .int .i32 ((D.f 7).n), .int .i64 ((D.f 8).n), .slice ((D.f 9).A) ((D.f 9).l) ((D.f 9).c), .slice ((D.f 10).A) ((D.f 10).l) ((D.f 10).c), .slice ((D.f 11).A) ((D.f 11).l) ((D.f 11).c), .slice ((D.f 12).A) ((D.f 12).l) ((D.f 12).c), .bool ((D.f 13).b), .int .i32 ((D.f 14).n), .slice ((D.f 15).A) ((D.f 15).l) ((D.f 15).c), .map D.m]) (hok : okStreamsGroupHeartbeatResponse w F D) (hF : ∀ b o, F b o → ¬ Blk A b o) (ho : w.ownsRow 0 5 1 (.slice A s.length cp) s.length (bc s)) (hroom : s.length + (aStreamsGroupHeartbeatResponse v D).length + 16 ≤ 1099511627776) :
  Calls Tryz.prog 68 [.pointer (some ⟨b, o, none⟩), .slice A s.length cp].toArray w (AppPost w 5 A (s ++ aStreamsGroupHeartbeatResponse v D)) := by
 unfold okStreamsGroupHeartbeatResponse at hok
 obtain ⟨bz, bA, ⟨aE, g135l⟩, aW, bB, bC, bD, bE, bF, ⟨aX, g142l, g142e⟩, ⟨aY, g143l, g143e⟩, ⟨aZ, g144l, g144e⟩, ⟨ba, g145l, g145e⟩, bG, bH, ⟨bd, g148l, g148e⟩, aF, g149l, g149x, _⟩ := hok
 refine chr_calls (n := 692) Tryz.func68 rfl Tryz.ntmps68 kz rfl ho hroom ?_
 unfold aStreamsGroupHeartbeatResponse
 refine chr_ob b o [.int .i16 v, .int .i32 ((D.f 0).n), .int .i16 ((D.f 1).n), .pointer ((D.f 2).A), .string ((D.f 3).s), .int .i32 ((D.f 4).n), .int .i32 ((D.f 5).n), .int .i32 ((D.f 6).n), .int .i32 ((D.f 7).n), .int .i64 ((D.f 8).n), .slice ((D.f 9).A) ((D.f 9).l) ((D.f 9).c), .slice ((D.f 10).A) ((D.f 10).l) ((D.f 10).c), .slice ((D.f 11).A) ((D.f 11).l) ((D.f 11).c), .slice ((D.f 12).A) ((D.f 12).l) ((D.f 12).c), .bool ((D.f 13).b), .int .i32 ((D.f 14).n), .slice ((D.f 15).A) ((D.f 15).l) ((D.f 15).c), .map D.m] hat hF kz kz ?_
 refine chr_ptr 0 0 0 b o (by simp) rfl rfl rfl ?_
 refine chr_seq0 (ch_pure (env' := [(0, .p 0 0)]) [0] (fun _ _ _ => by kernel_rfl)) ?_
 refine chr_seq0 (ch_pure (env' := [(0, .p 0 0), (5, .v (.int .i16 v))]) [0, 5] (fun _ _ _ => by kernel_rfl)) ?_
 refine chr_seq0 (ch_pure (env' := [(0, .p 0 0), (5, .v (.int .i16 v))]) [0, 5] (fun _ _ _ => by kernel_rfl)) ?_
 refine chr_seq0 (ch_pure (env' := [(0, .p 0 0), (5, .v (.int .i16 v)), (6, .v (.bool (decide (v ≥ 0))))]) [0, 5, 6] (fun _ _ _ => by kernel_rfl)) ?_
 refine chr_seq0 (ch_pure (env' := [(0, .p 0 0), (5, .v (.int .i16 v)), (6, .v (.bool (decide (v ≥ 0))))]) [0, 5, 6] (fun _ _ _ => by kernel_rfl)) ?_
 refine chr_seq (e1 := [(0, .p 0 0), (5, .v (.int .i16 v)), (6, .v (.bool (decide (v ≥ 0))))]) ?_ ?_
 ·
  refine ch_seq0 (ch_pure (env' := [(0, .p 0 0), (5, .v (.int .i16 v)), (6, .v (.bool (decide (v ≥ 0)))), (7, .v (.int .i32 ((D.f 0).n)))]) [0, 5, 6, 7] (fun _ _ _ => by kernel_rfl)) ?_
  exact ch_call (f := 99) (vs := [.int .i32 ((D.f 0).n)]) 2 [0, 5, 6] (fun _ _ _ _ _ _ => by kernel_rfl) kz Tryz.call99 (fun A cp s w _ _ ho hr => kAppendInt32 A cp s ((D.f 0).n) w ho (by omega))
 refine chr_seq (e1 := [(0, .p 0 0), (5, .v (.int .i16 v)), (6, .v (.bool (decide (v ≥ 0))))]) ?_ ?_
 ·
  refine ch_seq0 (ch_pure (env' := [(0, .p 0 0), (5, .v (.int .i16 v)), (6, .v (.bool (decide (v ≥ 0)))), (8, .v (.int .i16 ((D.f 1).n)))]) [0, 5, 6, 8] (fun _ _ _ => by kernel_rfl)) ?_
  exact ch_call (f := 100) (vs := [.int .i16 ((D.f 1).n)]) 2 [0, 5, 6] (fun _ _ _ _ _ _ => by kernel_rfl) kz Tryz.call100 (fun A cp s w _ _ ho hr => kAppendInt16 A cp s ((D.f 1).n) w ho (by omega))
 refine chr_seq (e1 := [(0, .p 0 0), (5, .v (.int .i16 v)), (6, .v (.bool (decide (v ≥ 0))))]) ?_ ?_
 ·
  refine ch_seq0 (ch_pure (env' := [(0, .p 0 0), (5, .v (.int .i16 v)), (6, .v (.bool (decide (v ≥ 0)))), (9, .v (.pointer ((D.f 2).A)))]) [0, 5, 6, 9] (fun _ _ _ => by kernel_rfl)) ?_
  refine ch_seq0 (ch_pure (env' := [(0, .p 0 0), (5, .v (.int .i16 v)), (6, .v (.bool (decide (v ≥ 0)))), (9, .v (.pointer ((D.f 2).A))), (90, .v (.bool (decide (v ≥ 0))))]) [0, 5, 6, 9, 90] (fun _ _ _ => by kernel_rfl)) ?_
  refine ch_if (b := decide (v ≥ 0)) (fun _ _ _ => by kernel_rfl) (fun hb => ?_) (fun hb => ?_)
  ·
   exact ch_call (f := 80) (vs := [.pointer ((D.f 2).A)]) 2 [0, 5, 6] (fun _ _ _ _ _ _ => by kernel_rfl) kz Tryz.call80 (fun A cp s w hs hA ho hr => yAppendCompactNullableString (D.f 2).A (D.f 2).s A cp s w ho (Lo F _) (lo_dis hF hA) (fun ad h => by obtain ⟨b', o', g1, g2⟩ := aE ad h; exact ⟨b', o', g1, g2.move hs (lo_M hF) lo_F⟩) g135l hr)
  ·
   exact ch_call (f := 81) (vs := [.pointer ((D.f 2).A)]) 2 [0, 5, 6] (fun _ _ _ _ _ _ => by kernel_rfl) kz Tryz.call81 (fun A cp s w hs hA ho hr => yAppendNullableString (D.f 2).A (D.f 2).s A cp s w ho (Lo F _) (lo_dis hF hA) (fun ad h => by obtain ⟨b', o', g1, g2⟩ := aE ad h; exact ⟨b', o', g1, g2.move hs (lo_M hF) lo_F⟩) g135l hr)
 refine chr_seq (e1 := [(0, .p 0 0), (5, .v (.int .i16 v)), (6, .v (.bool (decide (v ≥ 0))))]) ?_ ?_
 ·
  refine ch_seq0 (ch_pure (env' := [(0, .p 0 0), (5, .v (.int .i16 v)), (6, .v (.bool (decide (v ≥ 0)))), (10, .v (.string ((D.f 3).s)))]) [0, 5, 6, 10] (fun _ _ _ => by kernel_rfl)) ?_
  refine ch_seq0 (ch_pure (env' := [(0, .p 0 0), (5, .v (.int .i16 v)), (6, .v (.bool (decide (v ≥ 0)))), (10, .v (.string ((D.f 3).s))), (101, .v (.bool (decide (v ≥ 0))))]) [0, 5, 6, 10, 101] (fun _ _ _ => by kernel_rfl)) ?_
  refine ch_if (b := decide (v ≥ 0)) (fun _ _ _ => by kernel_rfl) (fun hb => ?_) (fun hb => ?_)
  ·
   exact ch_call (f := 78) (vs := [.string ((D.f 3).s)]) 2 [0, 5, 6] (fun _ _ _ _ _ _ => by kernel_rfl) kz Tryz.call78 (fun A cp s w _ _ ho hr => kAppendCompactString (D.f 3).s A cp s w ho aW hr)
  ·
   exact ch_call (f := 79) (vs := [.string ((D.f 3).s)]) 2 [0, 5, 6] (fun _ _ _ _ _ _ => by kernel_rfl) kz Tryz.call79 (fun A cp s w _ _ ho hr => kAppendString (D.f 3).s A cp s w ho hr)
 refine chr_seq (e1 := [(0, .p 0 0), (5, .v (.int .i16 v)), (6, .v (.bool (decide (v ≥ 0))))]) ?_ ?_
 ·
  refine ch_seq0 (ch_pure (env' := [(0, .p 0 0), (5, .v (.int .i16 v)), (6, .v (.bool (decide (v ≥ 0)))), (11, .v (.int .i32 ((D.f 4).n)))]) [0, 5, 6, 11] (fun _ _ _ => by kernel_rfl)) ?_
  exact ch_call (f := 99) (vs := [.int .i32 ((D.f 4).n)]) 2 [0, 5, 6] (fun _ _ _ _ _ _ => by kernel_rfl) kz Tryz.call99 (fun A cp s w _ _ ho hr => kAppendInt32 A cp s ((D.f 4).n) w ho (by omega))
 refine chr_seq (e1 := [(0, .p 0 0), (5, .v (.int .i16 v)), (6, .v (.bool (decide (v ≥ 0))))]) ?_ ?_
 ·
  refine ch_seq0 (ch_pure (env' := [(0, .p 0 0), (5, .v (.int .i16 v)), (6, .v (.bool (decide (v ≥ 0)))), (12, .v (.int .i32 ((D.f 5).n)))]) [0, 5, 6, 12] (fun _ _ _ => by kernel_rfl)) ?_
  exact ch_call (f := 99) (vs := [.int .i32 ((D.f 5).n)]) 2 [0, 5, 6] (fun _ _ _ _ _ _ => by kernel_rfl) kz Tryz.call99 (fun A cp s w _ _ ho hr => kAppendInt32 A cp s ((D.f 5).n) w ho (by omega))
 refine chr_seq (e1 := [(0, .p 0 0), (5, .v (.int .i16 v)), (6, .v (.bool (decide (v ≥ 0))))]) ?_ ?_
 ·
  refine ch_seq0 (ch_guard (c := decide (v ≥ 0)) (e1 := fun c_ => [(0, .p 0 0), (5, .v (.int .i16 v)), (6, .v (.bool (decide (v ≥ 0)))), (124, .v (.bool c_))]) (e2 := fun c_ => [(0, .p 0 0), (5, .v (.int .i16 v)), (6, .v (.bool (decide (v ≥ 0)))), (127, .v (.bool (if c_ = true then decide (v ≤ 0) else false)))]) 3 [0, 5, 6, 124] [0, 5, 6, 127] (fun _ _ _ => by kernel_rfl) (fun _ _ _ => by kernel_rfl) (fun _ _ _ => by kernel_rfl) kz) ?_
  refine ch_when (b := (if (decide (v ≥ 0)) = true then decide (v ≤ 0) else false)) (fun _ _ _ => by kernel_rfl) (fun hb => ?_) (fun hb => ?_)
  ·
   refine ch_seq0 (ch_pure (env' := [(0, .p 0 0), (5, .v (.int .i16 v)), (6, .v (.bool (decide (v ≥ 0)))), (13, .v (.int .i32 ((D.f 6).n)))]) [0, 5, 6, 13] (fun _ _ _ => by kernel_rfl)) ?_
   exact ch_call (f := 99) (vs := [.int .i32 ((D.f 6).n)]) 2 [0, 5, 6] (fun _ _ _ _ _ _ => by kernel_rfl) kz Tryz.call99 (fun A cp s w _ _ ho hr => kAppendInt32 A cp s ((D.f 6).n) w ho (by omega))
  ·exact ch_pick (e1 := [(0, .p 0 0), (5, .v (.int .i16 v)), (6, .v (.bool (decide (v ≥ 0))))]) [0, 5, 6] (fun _ _ _ => by kernel_rfl) ch_skip
 refine chr_seq (e1 := [(0, .p 0 0), (5, .v (.int .i16 v)), (6, .v (.bool (decide (v ≥ 0))))]) ?_ ?_
 ·
  refine ch_seq0 (ch_pure (env' := [(0, .p 0 0), (5, .v (.int .i16 v)), (6, .v (.bool (decide (v ≥ 0)))), (14, .v (.int .i32 ((D.f 7).n)))]) [0, 5, 6, 14] (fun _ _ _ => by kernel_rfl)) ?_
  exact ch_call (f := 99) (vs := [.int .i32 ((D.f 7).n)]) 2 [0, 5, 6] (fun _ _ _ _ _ _ => by kernel_rfl) kz Tryz.call99 (fun A cp s w _ _ ho hr => kAppendInt32 A cp s ((D.f 7).n) w ho (by omega))
 refine chr_seq (e1 := [(0, .p 0 0), (5, .v (.int .i16 v)), (6, .v (.bool (decide (v ≥ 0))))]) ?_ ?_
 ·
  refine ch_seq0 (ch_pure (env' := [(0, .p 0 0), (5, .v (.int .i16 v)), (6, .v (.bool (decide (v ≥ 0)))), (143, .v (.bool (decide (v ≥ 1))))]) [0, 5, 6, 143] (fun _ _ _ => by kernel_rfl)) ?_
  refine ch_when (b := decide (v ≥ 1)) (fun _ _ _ => by kernel_rfl) (fun hb => ?_) (fun hb => ?_)
  ·
   refine ch_seq0 (ch_pure (env' := [(0, .p 0 0), (5, .v (.int .i16 v)), (6, .v (.bool (decide (v ≥ 0)))), (15, .v (.int .i64 ((D.f 8).n)))]) [0, 5, 6, 15] (fun _ _ _ => by kernel_rfl)) ?_
   exact ch_call (f := 119) (vs := [.int .i64 ((D.f 8).n)]) 2 [0, 5, 6] (fun _ _ _ _ _ _ => by kernel_rfl) kz Tryz.call119 (fun A cp s w _ _ ho hr => kAppendInt64 A cp s ((D.f 8).n) w ho (by omega))
  ·exact ch_pick (e1 := [(0, .p 0 0), (5, .v (.int .i16 v)), (6, .v (.bool (decide (v ≥ 0))))]) [0, 5, 6] (fun _ _ _ => by kernel_rfl) ch_skip
 refine chr_seq (e1 := [(0, .p 0 0), (5, .v (.int .i16 v)), (6, .v (.bool (decide (v ≥ 0))))]) ?_ ?_
 ·
  refine ch_seq0 (ch_pure (env' := [(0, .p 0 0), (5, .v (.int .i16 v)), (6, .v (.bool (decide (v ≥ 0)))), (16, .v (.slice ((D.f 9).A) ((D.f 9).l) ((D.f 9).c)))]) [0, 5, 6, 16] (fun _ _ _ => by kernel_rfl)) ?_
  refine ch_seq (e1 := [(0, .p 0 0), (5, .v (.int .i16 v)), (6, .v (.bool (decide (v ≥ 0)))), (16, .v (.slice ((D.f 9).A) ((D.f 9).l) ((D.f 9).c)))]) ?_ ?_
  ·
   refine ch_seq0 (ch_pure (env' := [(0, .p 0 0), (5, .v (.int .i16 v)), (6, .v (.bool (decide (v ≥ 0)))), (16, .v (.slice ((D.f 9).A) ((D.f 9).l) ((D.f 9).c))), (155, .v (.bool (decide (v ≥ 0))))]) [0, 5, 6, 16, 155] (fun _ _ _ => by kernel_rfl)) ?_
   refine ch_if (b := decide (v ≥ 0)) (fun _ _ _ => by kernel_rfl) (fun hb => ?_) (fun hb => ?_)
   ·
    exact ch_call (f := 101) (vs := [.int .i64 (((D.f 9).l : Nat) : Int), .bool (((D.f 9).A).isNone)]) 5 [0, 5, 6, 16] (fun _ _ _ _ _ _ => by kernel_rfl) kz Tryz.call101 (fun A cp s w _ _ ho hr => kAppendCompactNullableArrayLen (D.f 9).l g142l (((D.f 9).A).isNone) A cp s w ho hr)
   ·
    exact ch_call (f := 102) (vs := [.int .i64 (((D.f 9).l : Nat) : Int), .bool (((D.f 9).A).isNone)]) 5 [0, 5, 6, 16] (fun _ _ _ _ _ _ => by kernel_rfl) kz Tryz.call102 (fun A cp s w _ _ ho hr => kAppendNullableArrayLen (D.f 9).l g142l (((D.f 9).A).isNone) A cp s w ho hr)
  ·
   refine ch_seq0 (ch_pure (env' := [(170, .v (.int .i64 0)), (0, .p 0 0), (5, .v (.int .i16 v)), (6, .v (.bool (decide (v ≥ 0)))), (16, .v (.slice ((D.f 9).A) ((D.f 9).l) ((D.f 9).c))), (169, .v (.int .i64 (((D.f 9).l : Nat) : Int)))]) [170, 0, 5, 6, 16, 169] (fun _ _ _ => by kernel_rfl)) ?_
   refine ch_drop (e1 := [(0, .p 0 0), (5, .v (.int .i16 v)), (6, .v (.bool (decide (v ≥ 0)))), (16, .v (.slice ((D.f 9).A) ((D.f 9).l) ((D.f 9).c))), (169, .v (.int .i64 (((D.f 9).l : Nat) : Int)))]) [0, 5, 6] (fun _ _ _ => by kernel_rfl) ?_
   refine ch_loop (len := (D.f 9).l) (xs := fun ah => (be 1 ((((D.f 9).f ah).f 0).n)) ++ ((if (decide (v ≥ 0)) = true then (uv ((((D.f 9).f ah).f 1).s.size + 1) ++ sb (((D.f 9).f ah).f 1).s) else (be 2 (((D.f 9).f ah).f 1).s.size ++ sb (((D.f 9).f ah).f 1).s)) ++ (if (decide (v ≥ 0)) = true then (uv ((D.f 9).f ah).u.length) ++ (tagsR ((D.f 9).f ah).u) else []))) 170 171 [0, 5, 6, 16, 169] (fun _ _ _ _ => by kernel_rfl) (fun _ _ _ _ => by kernel_rfl) (fun _ _ _ _ _ => by kernel_rfl) (fun _ _ _ _ _ => by kernel_rfl) kz (Nat.le_trans g142l (by decide)) (fun ah ao => ?_)
   refine ch_seq0 (ch_pure (env' := [(0, .p 0 0), (5, .v (.int .i16 v)), (6, .v (.bool (decide (v ≥ 0)))), (16, .v (.slice ((D.f 9).A) ((D.f 9).l) ((D.f 9).c))), (17, .v (.int .i64 ((ah : Nat) : Int))), (169, .v (.int .i64 (((D.f 9).l : Nat) : Int))), (170, .v (.int .i64 ((ah : Nat) : Int)))]) [0, 5, 6, 16, 17, 169, 170] (fun _ _ _ => by kernel_rfl)) ?_
   refine ch_elem (t := 92) (e := 171) (size := 3) (bytes := 32) (len := (D.f 9).l) (j := ah) (cs := fun i => [.int .i8 ((((D.f 9).f i).f 0).n), .string ((((D.f 9).f i).f 1).s), .map (((D.f 9).f i).m)]) (e1 := [(0, .p 0 0), (5, .v (.int .i16 v)), (6, .v (.bool (decide (v ≥ 0)))), (16, .v (.slice ((D.f 9).A) ((D.f 9).l) ((D.f 9).c))), (18, .p 1 0), (169, .v (.int .i64 (((D.f 9).l : Nat) : Int))), (170, .v (.int .i64 ((ah : Nat) : Int)))]) 2 [0, 5, 6, 16, 18, 169, 170] (fun _ _ _ _ _ => by kernel_rfl) kz kz aX ao hF kz kz kz fun bb1 oo1 hat1 => ?_
   have aG := g142e ah ao
   unfold okStreamsGroupHeartbeatResponseStatus at aG
   obtain ⟨bI, bf, aH, g154l, g154x, _⟩ := aG
   refine ch_seq (e1 := [(0, .p 0 0), (5, .v (.int .i16 v)), (6, .v (.bool (decide (v ≥ 0)))), (16, .v (.slice ((D.f 9).A) ((D.f 9).l) ((D.f 9).c))), (18, .p 1 0), (169, .v (.int .i64 (((D.f 9).l : Nat) : Int))), (170, .v (.int .i64 ((ah : Nat) : Int)))]) ?_ ?_
   ·
    refine ch_seq0 (ch_pure (env' := [(0, .p 0 0), (5, .v (.int .i16 v)), (6, .v (.bool (decide (v ≥ 0)))), (16, .v (.slice ((D.f 9).A) ((D.f 9).l) ((D.f 9).c))), (18, .p 1 0), (19, .v (.int .i8 ((((D.f 9).f ah).f 0).n))), (169, .v (.int .i64 (((D.f 9).l : Nat) : Int))), (170, .v (.int .i64 ((ah : Nat) : Int)))]) [0, 5, 6, 16, 18, 19, 169, 170] (fun _ _ _ => by kernel_rfl)) ?_
    exact ch_call (f := 120) (vs := [.int .i8 ((((D.f 9).f ah).f 0).n)]) 2 [0, 5, 6, 16, 18, 169, 170] (fun _ _ _ _ _ _ => by kernel_rfl) kz Tryz.call120 (fun A cp s w _ _ ho hr => kAppendInt8 A cp s ((((D.f 9).f ah).f 0).n) w ho (by omega))
   ·
    refine ch_seq (e1 := [(0, .p 0 0), (5, .v (.int .i16 v)), (6, .v (.bool (decide (v ≥ 0)))), (16, .v (.slice ((D.f 9).A) ((D.f 9).l) ((D.f 9).c))), (18, .p 1 0), (169, .v (.int .i64 (((D.f 9).l : Nat) : Int))), (170, .v (.int .i64 ((ah : Nat) : Int)))]) ?_ ?_
    ·
     refine ch_seq0 (ch_pure (env' := [(0, .p 0 0), (5, .v (.int .i16 v)), (6, .v (.bool (decide (v ≥ 0)))), (16, .v (.slice ((D.f 9).A) ((D.f 9).l) ((D.f 9).c))), (18, .p 1 0), (20, .v (.string ((((D.f 9).f ah).f 1).s))), (169, .v (.int .i64 (((D.f 9).l : Nat) : Int))), (170, .v (.int .i64 ((ah : Nat) : Int)))]) [0, 5, 6, 16, 18, 20, 169, 170] (fun _ _ _ => by kernel_rfl)) ?_
     refine ch_seq0 (ch_pure (env' := [(0, .p 0 0), (5, .v (.int .i16 v)), (6, .v (.bool (decide (v ≥ 0)))), (16, .v (.slice ((D.f 9).A) ((D.f 9).l) ((D.f 9).c))), (18, .p 1 0), (20, .v (.string ((((D.f 9).f ah).f 1).s))), (169, .v (.int .i64 (((D.f 9).l : Nat) : Int))), (170, .v (.int .i64 ((ah : Nat) : Int))), (187, .v (.bool (decide (v ≥ 0))))]) [0, 5, 6, 16, 18, 20, 169, 170, 187] (fun _ _ _ => by kernel_rfl)) ?_
     refine ch_if (b := decide (v ≥ 0)) (fun _ _ _ => by kernel_rfl) (fun hb => ?_) (fun hb => ?_)
     ·
      exact ch_call (f := 78) (vs := [.string ((((D.f 9).f ah).f 1).s)]) 2 [0, 5, 6, 16, 18, 169, 170] (fun _ _ _ _ _ _ => by kernel_rfl) kz Tryz.call78 (fun A cp s w _ _ ho hr => kAppendCompactString (((D.f 9).f ah).f 1).s A cp s w ho bf hr)
     ·
      exact ch_call (f := 79) (vs := [.string ((((D.f 9).f ah).f 1).s)]) 2 [0, 5, 6, 16, 18, 169, 170] (fun _ _ _ _ _ _ => by kernel_rfl) kz Tryz.call79 (fun A cp s w _ _ ho hr => kAppendString (((D.f 9).f ah).f 1).s A cp s w ho hr)
    ·
     refine ch_seq0 (ch_pure (env' := [(0, .p 0 0), (5, .v (.int .i16 v)), (6, .v (.bool (decide (v ≥ 0)))), (16, .v (.slice ((D.f 9).A) ((D.f 9).l) ((D.f 9).c))), (18, .p 1 0), (169, .v (.int .i64 (((D.f 9).l : Nat) : Int))), (170, .v (.int .i64 ((ah : Nat) : Int))), (194, .v (.bool (decide (v ≥ 0))))]) [0, 5, 6, 16, 18, 169, 170, 194] (fun _ _ _ => by kernel_rfl)) ?_
     refine ch_when (b := decide (v ≥ 0)) (fun _ _ _ => by kernel_rfl) (fun hb => ?_) (fun hb => ?_)
     ·
      refine ch_seq (e1 := [(0, .p 0 0), (5, .v (.int .i16 v)), (6, .v (.bool (decide (v ≥ 0)))), (16, .v (.slice ((D.f 9).A) ((D.f 9).l) ((D.f 9).c))), (18, .p 1 0), (169, .v (.int .i64 (((D.f 9).l : Nat) : Int))), (170, .v (.int .i64 ((ah : Nat) : Int)))]) ?_ ?_
      ·
       exact ch_call2 (f1 := 83) (vs1 := [.pointer (some ⟨bb1, oo1 + 2, none⟩)]) (r1 := .int .i64 ((((D.f 9).f ah).u.length : Nat) : Int)) (f := 82) (vs := [.int .u32 (IntKind.u32.wrap (0 + (IntKind.u32.wrap ((((D.f 9).f ah).u.length : Nat) : Int))))]) 4 7 [0, 5, 6, 16, 18, 169, 170] (fun _ _ _ _ _ _ => by kernel_rfl) kz Tryz.call83 Tryz.call82 (fun w hs => kTagsLen (F := Lo F _) ((hat1.one 2 rfl).move hs (lo_M hF) lo_F) (aH.move hs (lo_M hF) lo_F)) (fun A cp s w _ _ ho hr => by rw [show (IntKind.u32.wrap (0 + (IntKind.u32.wrap ((((D.f 9).f ah).u.length : Nat) : Int))) : Int) = ((((D.f 9).f ah).u.length : Nat) : Int) from wrap_u32_len _ g154l]; exact kAppendUvarint ((D.f 9).f ah).u.length (by have := g154l; omega) A cp s w ho hr)
      ·
       exact ch_callG (f := 84) 4 [170, 0, 5, 6, 16, 169] (fun s => [.pointer (some ⟨bb1, oo1 + 2, none⟩), s]) (fun _ _ _ _ _ _ => by kernel_rfl) kz Tryz.call84 (fun A cp s w hs hA ho hr => kAppendEach (F := Lo F _) ((hat1.one 2 rfl).move hs (lo_M hF) lo_F) (aH.move hs (lo_M hF) lo_F) ho (lo_dis hF hA) g154x hr)
     ·exact ch_pick (e1 := [(170, .v (.int .i64 ((ah : Nat) : Int))), (0, .p 0 0), (5, .v (.int .i16 v)), (6, .v (.bool (decide (v ≥ 0)))), (16, .v (.slice ((D.f 9).A) ((D.f 9).l) ((D.f 9).c))), (169, .v (.int .i64 (((D.f 9).l : Nat) : Int)))]) [170, 0, 5, 6, 16, 169] (fun _ _ _ => by kernel_rfl) ch_skip
 refine chr_seq (e1 := [(0, .p 0 0), (5, .v (.int .i16 v)), (6, .v (.bool (decide (v ≥ 0))))]) ?_ ?_
 ·
  refine ch_seq0 (ch_pure (env' := [(0, .p 0 0), (5, .v (.int .i16 v)), (6, .v (.bool (decide (v ≥ 0)))), (21, .v (.slice ((D.f 10).A) ((D.f 10).l) ((D.f 10).c)))]) [0, 5, 6, 21] (fun _ _ _ => by kernel_rfl)) ?_
  refine ch_seq (e1 := [(0, .p 0 0), (5, .v (.int .i16 v)), (6, .v (.bool (decide (v ≥ 0)))), (21, .v (.slice ((D.f 10).A) ((D.f 10).l) ((D.f 10).c)))]) ?_ ?_
  ·
   refine ch_seq0 (ch_pure (env' := [(0, .p 0 0), (5, .v (.int .i16 v)), (6, .v (.bool (decide (v ≥ 0)))), (21, .v (.slice ((D.f 10).A) ((D.f 10).l) ((D.f 10).c))), (213, .v (.bool (decide (v ≥ 0))))]) [0, 5, 6, 21, 213] (fun _ _ _ => by kernel_rfl)) ?_
   refine ch_if (b := decide (v ≥ 0)) (fun _ _ _ => by kernel_rfl) (fun hb => ?_) (fun hb => ?_)
   ·
    exact ch_call (f := 101) (vs := [.int .i64 (((D.f 10).l : Nat) : Int), .bool (((D.f 10).A).isNone)]) 5 [0, 5, 6, 21] (fun _ _ _ _ _ _ => by kernel_rfl) kz Tryz.call101 (fun A cp s w _ _ ho hr => kAppendCompactNullableArrayLen (D.f 10).l g143l (((D.f 10).A).isNone) A cp s w ho hr)
   ·
    exact ch_call (f := 102) (vs := [.int .i64 (((D.f 10).l : Nat) : Int), .bool (((D.f 10).A).isNone)]) 5 [0, 5, 6, 21] (fun _ _ _ _ _ _ => by kernel_rfl) kz Tryz.call102 (fun A cp s w _ _ ho hr => kAppendNullableArrayLen (D.f 10).l g143l (((D.f 10).A).isNone) A cp s w ho hr)
  ·
   refine ch_seq0 (ch_pure (env' := [(228, .v (.int .i64 0)), (0, .p 0 0), (5, .v (.int .i16 v)), (6, .v (.bool (decide (v ≥ 0)))), (21, .v (.slice ((D.f 10).A) ((D.f 10).l) ((D.f 10).c))), (227, .v (.int .i64 (((D.f 10).l : Nat) : Int)))]) [228, 0, 5, 6, 21, 227] (fun _ _ _ => by kernel_rfl)) ?_
   refine ch_drop (e1 := [(0, .p 0 0), (5, .v (.int .i16 v)), (6, .v (.bool (decide (v ≥ 0)))), (21, .v (.slice ((D.f 10).A) ((D.f 10).l) ((D.f 10).c))), (227, .v (.int .i64 (((D.f 10).l : Nat) : Int)))]) [0, 5, 6] (fun _ _ _ => by kernel_rfl) ?_
   refine ch_loop (len := (D.f 10).l) (xs := fun ae => (if (decide (v ≥ 0)) = true then (uv ((((D.f 10).f ae).f 0).s.size + 1) ++ sb (((D.f 10).f ae).f 0).s) else (be 2 (((D.f 10).f ae).f 0).s.size ++ sb (((D.f 10).f ae).f 0).s)) ++ (((if (decide (v ≥ 0)) = true then (uv ((((D.f 10).f ae).f 1).l + 1)) else (be 4 (((D.f 10).f ae).f 1).l)) ++ ((List.range (((D.f 10).f ae).f 1).l).flatMap fun ak => be 4 (((((D.f 10).f ae).f 1).f ak).n))) ++ (if (decide (v ≥ 0)) = true then (uv ((D.f 10).f ae).u.length) ++ (tagsR ((D.f 10).f ae).u) else []))) 228 229 [0, 5, 6, 21, 227] (fun _ _ _ _ => by kernel_rfl) (fun _ _ _ _ => by kernel_rfl) (fun _ _ _ _ _ => by kernel_rfl) (fun _ _ _ _ _ => by kernel_rfl) kz (Nat.le_trans g143l (by decide)) (fun ae ap => ?_)
   refine ch_seq0 (ch_pure (env' := [(0, .p 0 0), (5, .v (.int .i16 v)), (6, .v (.bool (decide (v ≥ 0)))), (21, .v (.slice ((D.f 10).A) ((D.f 10).l) ((D.f 10).c))), (22, .v (.int .i64 ((ae : Nat) : Int))), (227, .v (.int .i64 (((D.f 10).l : Nat) : Int))), (228, .v (.int .i64 ((ae : Nat) : Int)))]) [0, 5, 6, 21, 22, 227, 228] (fun _ _ _ => by kernel_rfl)) ?_
   refine ch_elem (t := 93) (e := 174) (size := 3) (bytes := 48) (len := (D.f 10).l) (j := ae) (cs := fun i => [.string ((((D.f 10).f i).f 0).s), .slice ((((D.f 10).f i).f 1).A) ((((D.f 10).f i).f 1).l) ((((D.f 10).f i).f 1).c), .map (((D.f 10).f i).m)]) (e1 := [(0, .p 0 0), (5, .v (.int .i16 v)), (6, .v (.bool (decide (v ≥ 0)))), (21, .v (.slice ((D.f 10).A) ((D.f 10).l) ((D.f 10).c))), (23, .p 1 0), (227, .v (.int .i64 (((D.f 10).l : Nat) : Int))), (228, .v (.int .i64 ((ae : Nat) : Int)))]) 2 [0, 5, 6, 21, 23, 227, 228] (fun _ _ _ _ _ => by kernel_rfl) kz kz aY ap hF kz kz kz fun bb1 oo1 hat1 => ?_
   have aI := g143e ae ap
   unfold okTaskIDs at aI
   obtain ⟨bg, ⟨bh, g158l, g158e⟩, aJ, g159l, g159x, _⟩ := aI
   refine ch_seq (e1 := [(0, .p 0 0), (5, .v (.int .i16 v)), (6, .v (.bool (decide (v ≥ 0)))), (21, .v (.slice ((D.f 10).A) ((D.f 10).l) ((D.f 10).c))), (23, .p 1 0), (227, .v (.int .i64 (((D.f 10).l : Nat) : Int))), (228, .v (.int .i64 ((ae : Nat) : Int)))]) ?_ ?_
   ·
    refine ch_seq0 (ch_pure (env' := [(0, .p 0 0), (5, .v (.int .i16 v)), (6, .v (.bool (decide (v ≥ 0)))), (21, .v (.slice ((D.f 10).A) ((D.f 10).l) ((D.f 10).c))), (23, .p 1 0), (24, .v (.string ((((D.f 10).f ae).f 0).s))), (227, .v (.int .i64 (((D.f 10).l : Nat) : Int))), (228, .v (.int .i64 ((ae : Nat) : Int)))]) [0, 5, 6, 21, 23, 24, 227, 228] (fun _ _ _ => by kernel_rfl)) ?_
    refine ch_seq0 (ch_pure (env' := [(0, .p 0 0), (5, .v (.int .i16 v)), (6, .v (.bool (decide (v ≥ 0)))), (21, .v (.slice ((D.f 10).A) ((D.f 10).l) ((D.f 10).c))), (23, .p 1 0), (24, .v (.string ((((D.f 10).f ae).f 0).s))), (227, .v (.int .i64 (((D.f 10).l : Nat) : Int))), (228, .v (.int .i64 ((ae : Nat) : Int))), (238, .v (.bool (decide (v ≥ 0))))]) [0, 5, 6, 21, 23, 24, 227, 228, 238] (fun _ _ _ => by kernel_rfl)) ?_
    refine ch_if (b := decide (v ≥ 0)) (fun _ _ _ => by kernel_rfl) (fun hb => ?_) (fun hb => ?_)
    ·
     exact ch_call (f := 78) (vs := [.string ((((D.f 10).f ae).f 0).s)]) 2 [0, 5, 6, 21, 23, 227, 228] (fun _ _ _ _ _ _ => by kernel_rfl) kz Tryz.call78 (fun A cp s w _ _ ho hr => kAppendCompactString (((D.f 10).f ae).f 0).s A cp s w ho bg hr)
    ·
     exact ch_call (f := 79) (vs := [.string ((((D.f 10).f ae).f 0).s)]) 2 [0, 5, 6, 21, 23, 227, 228] (fun _ _ _ _ _ _ => by kernel_rfl) kz Tryz.call79 (fun A cp s w _ _ ho hr => kAppendString (((D.f 10).f ae).f 0).s A cp s w ho hr)
   ·
    refine ch_seq (e1 := [(0, .p 0 0), (5, .v (.int .i16 v)), (6, .v (.bool (decide (v ≥ 0)))), (21, .v (.slice ((D.f 10).A) ((D.f 10).l) ((D.f 10).c))), (23, .p 1 0), (227, .v (.int .i64 (((D.f 10).l : Nat) : Int))), (228, .v (.int .i64 ((ae : Nat) : Int)))]) ?_ ?_
    ·
     refine ch_seq0 (ch_pure (env' := [(0, .p 0 0), (5, .v (.int .i16 v)), (6, .v (.bool (decide (v ≥ 0)))), (21, .v (.slice ((D.f 10).A) ((D.f 10).l) ((D.f 10).c))), (23, .p 1 0), (25, .v (.slice ((((D.f 10).f ae).f 1).A) ((((D.f 10).f ae).f 1).l) ((((D.f 10).f ae).f 1).c))), (227, .v (.int .i64 (((D.f 10).l : Nat) : Int))), (228, .v (.int .i64 ((ae : Nat) : Int)))]) [0, 5, 6, 21, 23, 25, 227, 228] (fun _ _ _ => by kernel_rfl)) ?_
     refine ch_seq (e1 := [(0, .p 0 0), (5, .v (.int .i16 v)), (6, .v (.bool (decide (v ≥ 0)))), (21, .v (.slice ((D.f 10).A) ((D.f 10).l) ((D.f 10).c))), (23, .p 1 0), (25, .v (.slice ((((D.f 10).f ae).f 1).A) ((((D.f 10).f ae).f 1).l) ((((D.f 10).f ae).f 1).c))), (227, .v (.int .i64 (((D.f 10).l : Nat) : Int))), (228, .v (.int .i64 ((ae : Nat) : Int)))]) ?_ ?_
     ·
      refine ch_seq0 (ch_pure (env' := [(0, .p 0 0), (5, .v (.int .i16 v)), (6, .v (.bool (decide (v ≥ 0)))), (21, .v (.slice ((D.f 10).A) ((D.f 10).l) ((D.f 10).c))), (23, .p 1 0), (25, .v (.slice ((((D.f 10).f ae).f 1).A) ((((D.f 10).f ae).f 1).l) ((((D.f 10).f ae).f 1).c))), (227, .v (.int .i64 (((D.f 10).l : Nat) : Int))), (228, .v (.int .i64 ((ae : Nat) : Int))), (249, .v (.bool (decide (v ≥ 0))))]) [0, 5, 6, 21, 23, 25, 227, 228, 249] (fun _ _ _ => by kernel_rfl)) ?_
      refine ch_if (b := decide (v ≥ 0)) (fun _ _ _ => by kernel_rfl) (fun hb => ?_) (fun hb => ?_)
      ·
       exact ch_call (f := 76) (vs := [.int .i64 (((((D.f 10).f ae).f 1).l : Nat) : Int)]) 3 [0, 5, 6, 21, 23, 25, 227, 228] (fun _ _ _ _ _ _ => by kernel_rfl) kz Tryz.call76 (fun A cp s w _ _ ho hr => kAppendCompactArrayLen (((D.f 10).f ae).f 1).l g158l A cp s w ho hr)
      ·
       exact ch_call (f := 77) (vs := [.int .i64 (((((D.f 10).f ae).f 1).l : Nat) : Int)]) 3 [0, 5, 6, 21, 23, 25, 227, 228] (fun _ _ _ _ _ _ => by kernel_rfl) kz Tryz.call77 (fun A cp s w _ _ ho hr => kAppendArrayLen (((D.f 10).f ae).f 1).l A cp s w ho hr)
     ·
      refine ch_seq0 (ch_pure (env' := [(260, .v (.int .i64 0)), (0, .p 0 0), (5, .v (.int .i16 v)), (6, .v (.bool (decide (v ≥ 0)))), (21, .v (.slice ((D.f 10).A) ((D.f 10).l) ((D.f 10).c))), (23, .p 1 0), (25, .v (.slice ((((D.f 10).f ae).f 1).A) ((((D.f 10).f ae).f 1).l) ((((D.f 10).f ae).f 1).c))), (227, .v (.int .i64 (((D.f 10).l : Nat) : Int))), (228, .v (.int .i64 ((ae : Nat) : Int))), (259, .v (.int .i64 (((((D.f 10).f ae).f 1).l : Nat) : Int)))]) [260, 0, 5, 6, 21, 23, 25, 227, 228, 259] (fun _ _ _ => by kernel_rfl)) ?_
      refine ch_drop (e1 := [(0, .p 0 0), (5, .v (.int .i16 v)), (6, .v (.bool (decide (v ≥ 0)))), (21, .v (.slice ((D.f 10).A) ((D.f 10).l) ((D.f 10).c))), (23, .p 1 0), (25, .v (.slice ((((D.f 10).f ae).f 1).A) ((((D.f 10).f ae).f 1).l) ((((D.f 10).f ae).f 1).c))), (227, .v (.int .i64 (((D.f 10).l : Nat) : Int))), (228, .v (.int .i64 ((ae : Nat) : Int))), (259, .v (.int .i64 (((((D.f 10).f ae).f 1).l : Nat) : Int)))]) [0, 5, 6, 21, 23, 227, 228] (fun _ _ _ => by kernel_rfl) ?_
      refine ch_loop (len := (((D.f 10).f ae).f 1).l) (xs := fun ak => be 4 (((((D.f 10).f ae).f 1).f ak).n)) 260 261 [0, 5, 6, 21, 23, 25, 227, 228, 259] (fun _ _ _ _ => by kernel_rfl) (fun _ _ _ _ => by kernel_rfl) (fun _ _ _ _ _ => by kernel_rfl) (fun _ _ _ _ _ => by kernel_rfl) kz (Nat.le_trans g158l (by decide)) (fun ak ar => ?_)
      refine ch_seq0 (ch_pure (env' := [(0, .p 0 0), (5, .v (.int .i16 v)), (6, .v (.bool (decide (v ≥ 0)))), (21, .v (.slice ((D.f 10).A) ((D.f 10).l) ((D.f 10).c))), (23, .p 1 0), (25, .v (.slice ((((D.f 10).f ae).f 1).A) ((((D.f 10).f ae).f 1).l) ((((D.f 10).f ae).f 1).c))), (26, .v (.int .i64 ((ak : Nat) : Int))), (227, .v (.int .i64 (((D.f 10).l : Nat) : Int))), (228, .v (.int .i64 ((ae : Nat) : Int))), (259, .v (.int .i64 (((((D.f 10).f ae).f 1).l : Nat) : Int))), (260, .v (.int .i64 ((ak : Nat) : Int)))]) [0, 5, 6, 21, 23, 25, 26, 227, 228, 259, 260] (fun _ _ _ => by kernel_rfl)) ?_
      refine ch_elem (t := 143) (e := 21) (size := 1) (bytes := 4) (len := (((D.f 10).f ae).f 1).l) (j := ak) (cs := fun i => [.int .i32 (((((D.f 10).f ae).f 1).f i).n)]) (e1 := [(0, .p 0 0), (5, .v (.int .i16 v)), (6, .v (.bool (decide (v ≥ 0)))), (21, .v (.slice ((D.f 10).A) ((D.f 10).l) ((D.f 10).c))), (23, .p 1 0), (25, .v (.slice ((((D.f 10).f ae).f 1).A) ((((D.f 10).f ae).f 1).l) ((((D.f 10).f ae).f 1).c))), (27, .v (.int .i32 (((((D.f 10).f ae).f 1).f ak).n))), (227, .v (.int .i64 (((D.f 10).l : Nat) : Int))), (228, .v (.int .i64 ((ae : Nat) : Int))), (259, .v (.int .i64 (((((D.f 10).f ae).f 1).l : Nat) : Int))), (260, .v (.int .i64 ((ak : Nat) : Int)))]) 2 [0, 5, 6, 21, 23, 25, 27, 227, 228, 259, 260] (fun _ _ _ _ _ => by kernel_rfl) kz kz bh ar hF kz kz kz fun bb2 oo2 hat2 => ?_
      have bJ := g158e ak ar
      exact ch_call (f := 99) (vs := [.int .i32 (((((D.f 10).f ae).f 1).f ak).n)]) 2 [260, 0, 5, 6, 21, 23, 25, 227, 228, 259] (fun _ _ _ _ _ _ => by kernel_rfl) kz Tryz.call99 (fun A cp s w _ _ ho hr => kAppendInt32 A cp s (((((D.f 10).f ae).f 1).f ak).n) w ho (by omega))
    ·
     refine ch_seq0 (ch_pure (env' := [(0, .p 0 0), (5, .v (.int .i16 v)), (6, .v (.bool (decide (v ≥ 0)))), (21, .v (.slice ((D.f 10).A) ((D.f 10).l) ((D.f 10).c))), (23, .p 1 0), (227, .v (.int .i64 (((D.f 10).l : Nat) : Int))), (228, .v (.int .i64 ((ae : Nat) : Int))), (271, .v (.bool (decide (v ≥ 0))))]) [0, 5, 6, 21, 23, 227, 228, 271] (fun _ _ _ => by kernel_rfl)) ?_
     refine ch_when (b := decide (v ≥ 0)) (fun _ _ _ => by kernel_rfl) (fun hb => ?_) (fun hb => ?_)
     ·
      refine ch_seq (e1 := [(0, .p 0 0), (5, .v (.int .i16 v)), (6, .v (.bool (decide (v ≥ 0)))), (21, .v (.slice ((D.f 10).A) ((D.f 10).l) ((D.f 10).c))), (23, .p 1 0), (227, .v (.int .i64 (((D.f 10).l : Nat) : Int))), (228, .v (.int .i64 ((ae : Nat) : Int)))]) ?_ ?_
      ·
       exact ch_call2 (f1 := 83) (vs1 := [.pointer (some ⟨bb1, oo1 + 2, none⟩)]) (r1 := .int .i64 ((((D.f 10).f ae).u.length : Nat) : Int)) (f := 82) (vs := [.int .u32 (IntKind.u32.wrap (0 + (IntKind.u32.wrap ((((D.f 10).f ae).u.length : Nat) : Int))))]) 4 7 [0, 5, 6, 21, 23, 227, 228] (fun _ _ _ _ _ _ => by kernel_rfl) kz Tryz.call83 Tryz.call82 (fun w hs => kTagsLen (F := Lo F _) ((hat1.one 2 rfl).move hs (lo_M hF) lo_F) (aJ.move hs (lo_M hF) lo_F)) (fun A cp s w _ _ ho hr => by rw [show (IntKind.u32.wrap (0 + (IntKind.u32.wrap ((((D.f 10).f ae).u.length : Nat) : Int))) : Int) = ((((D.f 10).f ae).u.length : Nat) : Int) from wrap_u32_len _ g159l]; exact kAppendUvarint ((D.f 10).f ae).u.length (by have := g159l; omega) A cp s w ho hr)
      ·
       exact ch_callG (f := 84) 4 [228, 0, 5, 6, 21, 227] (fun s => [.pointer (some ⟨bb1, oo1 + 2, none⟩), s]) (fun _ _ _ _ _ _ => by kernel_rfl) kz Tryz.call84 (fun A cp s w hs hA ho hr => kAppendEach (F := Lo F _) ((hat1.one 2 rfl).move hs (lo_M hF) lo_F) (aJ.move hs (lo_M hF) lo_F) ho (lo_dis hF hA) g159x hr)
     ·exact ch_pick (e1 := [(228, .v (.int .i64 ((ae : Nat) : Int))), (0, .p 0 0), (5, .v (.int .i16 v)), (6, .v (.bool (decide (v ≥ 0)))), (21, .v (.slice ((D.f 10).A) ((D.f 10).l) ((D.f 10).c))), (227, .v (.int .i64 (((D.f 10).l : Nat) : Int)))]) [228, 0, 5, 6, 21, 227] (fun _ _ _ => by kernel_rfl) ch_skip
 refine chr_seq (e1 := [(0, .p 0 0), (5, .v (.int .i16 v)), (6, .v (.bool (decide (v ≥ 0))))]) ?_ ?_
 ·
  refine ch_seq0 (ch_pure (env' := [(0, .p 0 0), (5, .v (.int .i16 v)), (6, .v (.bool (decide (v ≥ 0)))), (28, .v (.slice ((D.f 11).A) ((D.f 11).l) ((D.f 11).c)))]) [0, 5, 6, 28] (fun _ _ _ => by kernel_rfl)) ?_
  refine ch_seq (e1 := [(0, .p 0 0), (5, .v (.int .i16 v)), (6, .v (.bool (decide (v ≥ 0)))), (28, .v (.slice ((D.f 11).A) ((D.f 11).l) ((D.f 11).c)))]) ?_ ?_
  ·
   refine ch_seq0 (ch_pure (env' := [(0, .p 0 0), (5, .v (.int .i16 v)), (6, .v (.bool (decide (v ≥ 0)))), (28, .v (.slice ((D.f 11).A) ((D.f 11).l) ((D.f 11).c))), (290, .v (.bool (decide (v ≥ 0))))]) [0, 5, 6, 28, 290] (fun _ _ _ => by kernel_rfl)) ?_
   refine ch_if (b := decide (v ≥ 0)) (fun _ _ _ => by kernel_rfl) (fun hb => ?_) (fun hb => ?_)
   ·
    exact ch_call (f := 101) (vs := [.int .i64 (((D.f 11).l : Nat) : Int), .bool (((D.f 11).A).isNone)]) 5 [0, 5, 6, 28] (fun _ _ _ _ _ _ => by kernel_rfl) kz Tryz.call101 (fun A cp s w _ _ ho hr => kAppendCompactNullableArrayLen (D.f 11).l g144l (((D.f 11).A).isNone) A cp s w ho hr)
   ·
    exact ch_call (f := 102) (vs := [.int .i64 (((D.f 11).l : Nat) : Int), .bool (((D.f 11).A).isNone)]) 5 [0, 5, 6, 28] (fun _ _ _ _ _ _ => by kernel_rfl) kz Tryz.call102 (fun A cp s w _ _ ho hr => kAppendNullableArrayLen (D.f 11).l g144l (((D.f 11).A).isNone) A cp s w ho hr)
  ·
   refine ch_seq0 (ch_pure (env' := [(305, .v (.int .i64 0)), (0, .p 0 0), (5, .v (.int .i16 v)), (6, .v (.bool (decide (v ≥ 0)))), (28, .v (.slice ((D.f 11).A) ((D.f 11).l) ((D.f 11).c))), (304, .v (.int .i64 (((D.f 11).l : Nat) : Int)))]) [305, 0, 5, 6, 28, 304] (fun _ _ _ => by kernel_rfl)) ?_
   refine ch_drop (e1 := [(0, .p 0 0), (5, .v (.int .i16 v)), (6, .v (.bool (decide (v ≥ 0)))), (28, .v (.slice ((D.f 11).A) ((D.f 11).l) ((D.f 11).c))), (304, .v (.int .i64 (((D.f 11).l : Nat) : Int)))]) [0, 5, 6] (fun _ _ _ => by kernel_rfl) ?_
   refine ch_loop (len := (D.f 11).l) (xs := fun af => (if (decide (v ≥ 0)) = true then (uv ((((D.f 11).f af).f 0).s.size + 1) ++ sb (((D.f 11).f af).f 0).s) else (be 2 (((D.f 11).f af).f 0).s.size ++ sb (((D.f 11).f af).f 0).s)) ++ (((if (decide (v ≥ 0)) = true then (uv ((((D.f 11).f af).f 1).l + 1)) else (be 4 (((D.f 11).f af).f 1).l)) ++ ((List.range (((D.f 11).f af).f 1).l).flatMap fun al => be 4 (((((D.f 11).f af).f 1).f al).n))) ++ (if (decide (v ≥ 0)) = true then (uv ((D.f 11).f af).u.length) ++ (tagsR ((D.f 11).f af).u) else []))) 305 306 [0, 5, 6, 28, 304] (fun _ _ _ _ => by kernel_rfl) (fun _ _ _ _ => by kernel_rfl) (fun _ _ _ _ _ => by kernel_rfl) (fun _ _ _ _ _ => by kernel_rfl) kz (Nat.le_trans g144l (by decide)) (fun af au => ?_)
   refine ch_seq0 (ch_pure (env' := [(0, .p 0 0), (5, .v (.int .i16 v)), (6, .v (.bool (decide (v ≥ 0)))), (28, .v (.slice ((D.f 11).A) ((D.f 11).l) ((D.f 11).c))), (29, .v (.int .i64 ((af : Nat) : Int))), (304, .v (.int .i64 (((D.f 11).l : Nat) : Int))), (305, .v (.int .i64 ((af : Nat) : Int)))]) [0, 5, 6, 28, 29, 304, 305] (fun _ _ _ => by kernel_rfl)) ?_
   refine ch_elem (t := 93) (e := 174) (size := 3) (bytes := 48) (len := (D.f 11).l) (j := af) (cs := fun i => [.string ((((D.f 11).f i).f 0).s), .slice ((((D.f 11).f i).f 1).A) ((((D.f 11).f i).f 1).l) ((((D.f 11).f i).f 1).c), .map (((D.f 11).f i).m)]) (e1 := [(0, .p 0 0), (5, .v (.int .i16 v)), (6, .v (.bool (decide (v ≥ 0)))), (28, .v (.slice ((D.f 11).A) ((D.f 11).l) ((D.f 11).c))), (30, .p 1 0), (304, .v (.int .i64 (((D.f 11).l : Nat) : Int))), (305, .v (.int .i64 ((af : Nat) : Int)))]) 2 [0, 5, 6, 28, 30, 304, 305] (fun _ _ _ _ _ => by kernel_rfl) kz kz aZ au hF kz kz kz fun bb1 oo1 hat1 => ?_
   have aK := g144e af au
   unfold okTaskIDs at aK
   obtain ⟨bi, ⟨bj, g165l, g165e⟩, aL, g166l, g166x, _⟩ := aK
   refine ch_seq (e1 := [(0, .p 0 0), (5, .v (.int .i16 v)), (6, .v (.bool (decide (v ≥ 0)))), (28, .v (.slice ((D.f 11).A) ((D.f 11).l) ((D.f 11).c))), (30, .p 1 0), (304, .v (.int .i64 (((D.f 11).l : Nat) : Int))), (305, .v (.int .i64 ((af : Nat) : Int)))]) ?_ ?_
   ·
    refine ch_seq0 (ch_pure (env' := [(0, .p 0 0), (5, .v (.int .i16 v)), (6, .v (.bool (decide (v ≥ 0)))), (28, .v (.slice ((D.f 11).A) ((D.f 11).l) ((D.f 11).c))), (30, .p 1 0), (31, .v (.string ((((D.f 11).f af).f 0).s))), (304, .v (.int .i64 (((D.f 11).l : Nat) : Int))), (305, .v (.int .i64 ((af : Nat) : Int)))]) [0, 5, 6, 28, 30, 31, 304, 305] (fun _ _ _ => by kernel_rfl)) ?_
    refine ch_seq0 (ch_pure (env' := [(0, .p 0 0), (5, .v (.int .i16 v)), (6, .v (.bool (decide (v ≥ 0)))), (28, .v (.slice ((D.f 11).A) ((D.f 11).l) ((D.f 11).c))), (30, .p 1 0), (31, .v (.string ((((D.f 11).f af).f 0).s))), (304, .v (.int .i64 (((D.f 11).l : Nat) : Int))), (305, .v (.int .i64 ((af : Nat) : Int))), (315, .v (.bool (decide (v ≥ 0))))]) [0, 5, 6, 28, 30, 31, 304, 305, 315] (fun _ _ _ => by kernel_rfl)) ?_
    refine ch_if (b := decide (v ≥ 0)) (fun _ _ _ => by kernel_rfl) (fun hb => ?_) (fun hb => ?_)
    ·
     exact ch_call (f := 78) (vs := [.string ((((D.f 11).f af).f 0).s)]) 2 [0, 5, 6, 28, 30, 304, 305] (fun _ _ _ _ _ _ => by kernel_rfl) kz Tryz.call78 (fun A cp s w _ _ ho hr => kAppendCompactString (((D.f 11).f af).f 0).s A cp s w ho bi hr)
    ·
     exact ch_call (f := 79) (vs := [.string ((((D.f 11).f af).f 0).s)]) 2 [0, 5, 6, 28, 30, 304, 305] (fun _ _ _ _ _ _ => by kernel_rfl) kz Tryz.call79 (fun A cp s w _ _ ho hr => kAppendString (((D.f 11).f af).f 0).s A cp s w ho hr)
   ·
    refine ch_seq (e1 := [(0, .p 0 0), (5, .v (.int .i16 v)), (6, .v (.bool (decide (v ≥ 0)))), (28, .v (.slice ((D.f 11).A) ((D.f 11).l) ((D.f 11).c))), (30, .p 1 0), (304, .v (.int .i64 (((D.f 11).l : Nat) : Int))), (305, .v (.int .i64 ((af : Nat) : Int)))]) ?_ ?_
    ·
     refine ch_seq0 (ch_pure (env' := [(0, .p 0 0), (5, .v (.int .i16 v)), (6, .v (.bool (decide (v ≥ 0)))), (28, .v (.slice ((D.f 11).A) ((D.f 11).l) ((D.f 11).c))), (30, .p 1 0), (32, .v (.slice ((((D.f 11).f af).f 1).A) ((((D.f 11).f af).f 1).l) ((((D.f 11).f af).f 1).c))), (304, .v (.int .i64 (((D.f 11).l : Nat) : Int))), (305, .v (.int .i64 ((af : Nat) : Int)))]) [0, 5, 6, 28, 30, 32, 304, 305] (fun _ _ _ => by kernel_rfl)) ?_
     refine ch_seq (e1 := [(0, .p 0 0), (5, .v (.int .i16 v)), (6, .v (.bool (decide (v ≥ 0)))), (28, .v (.slice ((D.f 11).A) ((D.f 11).l) ((D.f 11).c))), (30, .p 1 0), (32, .v (.slice ((((D.f 11).f af).f 1).A) ((((D.f 11).f af).f 1).l) ((((D.f 11).f af).f 1).c))), (304, .v (.int .i64 (((D.f 11).l : Nat) : Int))), (305, .v (.int .i64 ((af : Nat) : Int)))]) ?_ ?_
     ·
      refine ch_seq0 (ch_pure (env' := [(0, .p 0 0), (5, .v (.int .i16 v)), (6, .v (.bool (decide (v ≥ 0)))), (28, .v (.slice ((D.f 11).A) ((D.f 11).l) ((D.f 11).c))), (30, .p 1 0), (32, .v (.slice ((((D.f 11).f af).f 1).A) ((((D.f 11).f af).f 1).l) ((((D.f 11).f af).f 1).c))), (304, .v (.int .i64 (((D.f 11).l : Nat) : Int))), (305, .v (.int .i64 ((af : Nat) : Int))), (326, .v (.bool (decide (v ≥ 0))))]) [0, 5, 6, 28, 30, 32, 304, 305, 326] (fun _ _ _ => by kernel_rfl)) ?_
      refine ch_if (b := decide (v ≥ 0)) (fun _ _ _ => by kernel_rfl) (fun hb => ?_) (fun hb => ?_)
      ·
       exact ch_call (f := 76) (vs := [.int .i64 (((((D.f 11).f af).f 1).l : Nat) : Int)]) 3 [0, 5, 6, 28, 30, 32, 304, 305] (fun _ _ _ _ _ _ => by kernel_rfl) kz Tryz.call76 (fun A cp s w _ _ ho hr => kAppendCompactArrayLen (((D.f 11).f af).f 1).l g165l A cp s w ho hr)
      ·
       exact ch_call (f := 77) (vs := [.int .i64 (((((D.f 11).f af).f 1).l : Nat) : Int)]) 3 [0, 5, 6, 28, 30, 32, 304, 305] (fun _ _ _ _ _ _ => by kernel_rfl) kz Tryz.call77 (fun A cp s w _ _ ho hr => kAppendArrayLen (((D.f 11).f af).f 1).l A cp s w ho hr)
     ·
      refine ch_seq0 (ch_pure (env' := [(337, .v (.int .i64 0)), (0, .p 0 0), (5, .v (.int .i16 v)), (6, .v (.bool (decide (v ≥ 0)))), (28, .v (.slice ((D.f 11).A) ((D.f 11).l) ((D.f 11).c))), (30, .p 1 0), (32, .v (.slice ((((D.f 11).f af).f 1).A) ((((D.f 11).f af).f 1).l) ((((D.f 11).f af).f 1).c))), (304, .v (.int .i64 (((D.f 11).l : Nat) : Int))), (305, .v (.int .i64 ((af : Nat) : Int))), (336, .v (.int .i64 (((((D.f 11).f af).f 1).l : Nat) : Int)))]) [337, 0, 5, 6, 28, 30, 32, 304, 305, 336] (fun _ _ _ => by kernel_rfl)) ?_
      refine ch_drop (e1 := [(0, .p 0 0), (5, .v (.int .i16 v)), (6, .v (.bool (decide (v ≥ 0)))), (28, .v (.slice ((D.f 11).A) ((D.f 11).l) ((D.f 11).c))), (30, .p 1 0), (32, .v (.slice ((((D.f 11).f af).f 1).A) ((((D.f 11).f af).f 1).l) ((((D.f 11).f af).f 1).c))), (304, .v (.int .i64 (((D.f 11).l : Nat) : Int))), (305, .v (.int .i64 ((af : Nat) : Int))), (336, .v (.int .i64 (((((D.f 11).f af).f 1).l : Nat) : Int)))]) [0, 5, 6, 28, 30, 304, 305] (fun _ _ _ => by kernel_rfl) ?_
      refine ch_loop (len := (((D.f 11).f af).f 1).l) (xs := fun al => be 4 (((((D.f 11).f af).f 1).f al).n)) 337 338 [0, 5, 6, 28, 30, 32, 304, 305, 336] (fun _ _ _ _ => by kernel_rfl) (fun _ _ _ _ => by kernel_rfl) (fun _ _ _ _ _ => by kernel_rfl) (fun _ _ _ _ _ => by kernel_rfl) kz (Nat.le_trans g165l (by decide)) (fun al av => ?_)
      refine ch_seq0 (ch_pure (env' := [(0, .p 0 0), (5, .v (.int .i16 v)), (6, .v (.bool (decide (v ≥ 0)))), (28, .v (.slice ((D.f 11).A) ((D.f 11).l) ((D.f 11).c))), (30, .p 1 0), (32, .v (.slice ((((D.f 11).f af).f 1).A) ((((D.f 11).f af).f 1).l) ((((D.f 11).f af).f 1).c))), (33, .v (.int .i64 ((al : Nat) : Int))), (304, .v (.int .i64 (((D.f 11).l : Nat) : Int))), (305, .v (.int .i64 ((af : Nat) : Int))), (336, .v (.int .i64 (((((D.f 11).f af).f 1).l : Nat) : Int))), (337, .v (.int .i64 ((al : Nat) : Int)))]) [0, 5, 6, 28, 30, 32, 33, 304, 305, 336, 337] (fun _ _ _ => by kernel_rfl)) ?_
      refine ch_elem (t := 143) (e := 21) (size := 1) (bytes := 4) (len := (((D.f 11).f af).f 1).l) (j := al) (cs := fun i => [.int .i32 (((((D.f 11).f af).f 1).f i).n)]) (e1 := [(0, .p 0 0), (5, .v (.int .i16 v)), (6, .v (.bool (decide (v ≥ 0)))), (28, .v (.slice ((D.f 11).A) ((D.f 11).l) ((D.f 11).c))), (30, .p 1 0), (32, .v (.slice ((((D.f 11).f af).f 1).A) ((((D.f 11).f af).f 1).l) ((((D.f 11).f af).f 1).c))), (34, .v (.int .i32 (((((D.f 11).f af).f 1).f al).n))), (304, .v (.int .i64 (((D.f 11).l : Nat) : Int))), (305, .v (.int .i64 ((af : Nat) : Int))), (336, .v (.int .i64 (((((D.f 11).f af).f 1).l : Nat) : Int))), (337, .v (.int .i64 ((al : Nat) : Int)))]) 2 [0, 5, 6, 28, 30, 32, 34, 304, 305, 336, 337] (fun _ _ _ _ _ => by kernel_rfl) kz kz bj av hF kz kz kz fun bb2 oo2 hat2 => ?_
      have bK := g165e al av
      exact ch_call (f := 99) (vs := [.int .i32 (((((D.f 11).f af).f 1).f al).n)]) 2 [337, 0, 5, 6, 28, 30, 32, 304, 305, 336] (fun _ _ _ _ _ _ => by kernel_rfl) kz Tryz.call99 (fun A cp s w _ _ ho hr => kAppendInt32 A cp s (((((D.f 11).f af).f 1).f al).n) w ho (by omega))
    ·
     refine ch_seq0 (ch_pure (env' := [(0, .p 0 0), (5, .v (.int .i16 v)), (6, .v (.bool (decide (v ≥ 0)))), (28, .v (.slice ((D.f 11).A) ((D.f 11).l) ((D.f 11).c))), (30, .p 1 0), (304, .v (.int .i64 (((D.f 11).l : Nat) : Int))), (305, .v (.int .i64 ((af : Nat) : Int))), (348, .v (.bool (decide (v ≥ 0))))]) [0, 5, 6, 28, 30, 304, 305, 348] (fun _ _ _ => by kernel_rfl)) ?_
     refine ch_when (b := decide (v ≥ 0)) (fun _ _ _ => by kernel_rfl) (fun hb => ?_) (fun hb => ?_)
     ·
      refine ch_seq (e1 := [(0, .p 0 0), (5, .v (.int .i16 v)), (6, .v (.bool (decide (v ≥ 0)))), (28, .v (.slice ((D.f 11).A) ((D.f 11).l) ((D.f 11).c))), (30, .p 1 0), (304, .v (.int .i64 (((D.f 11).l : Nat) : Int))), (305, .v (.int .i64 ((af : Nat) : Int)))]) ?_ ?_
      ·
       exact ch_call2 (f1 := 83) (vs1 := [.pointer (some ⟨bb1, oo1 + 2, none⟩)]) (r1 := .int .i64 ((((D.f 11).f af).u.length : Nat) : Int)) (f := 82) (vs := [.int .u32 (IntKind.u32.wrap (0 + (IntKind.u32.wrap ((((D.f 11).f af).u.length : Nat) : Int))))]) 4 7 [0, 5, 6, 28, 30, 304, 305] (fun _ _ _ _ _ _ => by kernel_rfl) kz Tryz.call83 Tryz.call82 (fun w hs => kTagsLen (F := Lo F _) ((hat1.one 2 rfl).move hs (lo_M hF) lo_F) (aL.move hs (lo_M hF) lo_F)) (fun A cp s w _ _ ho hr => by rw [show (IntKind.u32.wrap (0 + (IntKind.u32.wrap ((((D.f 11).f af).u.length : Nat) : Int))) : Int) = ((((D.f 11).f af).u.length : Nat) : Int) from wrap_u32_len _ g166l]; exact kAppendUvarint ((D.f 11).f af).u.length (by have := g166l; omega) A cp s w ho hr)
      ·
       exact ch_callG (f := 84) 4 [305, 0, 5, 6, 28, 304] (fun s => [.pointer (some ⟨bb1, oo1 + 2, none⟩), s]) (fun _ _ _ _ _ _ => by kernel_rfl) kz Tryz.call84 (fun A cp s w hs hA ho hr => kAppendEach (F := Lo F _) ((hat1.one 2 rfl).move hs (lo_M hF) lo_F) (aL.move hs (lo_M hF) lo_F) ho (lo_dis hF hA) g166x hr)
     ·exact ch_pick (e1 := [(305, .v (.int .i64 ((af : Nat) : Int))), (0, .p 0 0), (5, .v (.int .i16 v)), (6, .v (.bool (decide (v ≥ 0)))), (28, .v (.slice ((D.f 11).A) ((D.f 11).l) ((D.f 11).c))), (304, .v (.int .i64 (((D.f 11).l : Nat) : Int)))]) [305, 0, 5, 6, 28, 304] (fun _ _ _ => by kernel_rfl) ch_skip
 refine chr_seq (e1 := [(0, .p 0 0), (5, .v (.int .i16 v)), (6, .v (.bool (decide (v ≥ 0))))]) ?_ ?_
 ·
  refine ch_seq0 (ch_pure (env' := [(0, .p 0 0), (5, .v (.int .i16 v)), (6, .v (.bool (decide (v ≥ 0)))), (35, .v (.slice ((D.f 12).A) ((D.f 12).l) ((D.f 12).c)))]) [0, 5, 6, 35] (fun _ _ _ => by kernel_rfl)) ?_
  refine ch_seq (e1 := [(0, .p 0 0), (5, .v (.int .i16 v)), (6, .v (.bool (decide (v ≥ 0)))), (35, .v (.slice ((D.f 12).A) ((D.f 12).l) ((D.f 12).c)))]) ?_ ?_
  ·
   refine ch_seq0 (ch_pure (env' := [(0, .p 0 0), (5, .v (.int .i16 v)), (6, .v (.bool (decide (v ≥ 0)))), (35, .v (.slice ((D.f 12).A) ((D.f 12).l) ((D.f 12).c))), (367, .v (.bool (decide (v ≥ 0))))]) [0, 5, 6, 35, 367] (fun _ _ _ => by kernel_rfl)) ?_
   refine ch_if (b := decide (v ≥ 0)) (fun _ _ _ => by kernel_rfl) (fun hb => ?_) (fun hb => ?_)
   ·
    exact ch_call (f := 101) (vs := [.int .i64 (((D.f 12).l : Nat) : Int), .bool (((D.f 12).A).isNone)]) 5 [0, 5, 6, 35] (fun _ _ _ _ _ _ => by kernel_rfl) kz Tryz.call101 (fun A cp s w _ _ ho hr => kAppendCompactNullableArrayLen (D.f 12).l g145l (((D.f 12).A).isNone) A cp s w ho hr)
   ·
    exact ch_call (f := 102) (vs := [.int .i64 (((D.f 12).l : Nat) : Int), .bool (((D.f 12).A).isNone)]) 5 [0, 5, 6, 35] (fun _ _ _ _ _ _ => by kernel_rfl) kz Tryz.call102 (fun A cp s w _ _ ho hr => kAppendNullableArrayLen (D.f 12).l g145l (((D.f 12).A).isNone) A cp s w ho hr)
  ·
   refine ch_seq0 (ch_pure (env' := [(382, .v (.int .i64 0)), (0, .p 0 0), (5, .v (.int .i16 v)), (6, .v (.bool (decide (v ≥ 0)))), (35, .v (.slice ((D.f 12).A) ((D.f 12).l) ((D.f 12).c))), (381, .v (.int .i64 (((D.f 12).l : Nat) : Int)))]) [382, 0, 5, 6, 35, 381] (fun _ _ _ => by kernel_rfl)) ?_
   refine ch_drop (e1 := [(0, .p 0 0), (5, .v (.int .i16 v)), (6, .v (.bool (decide (v ≥ 0)))), (35, .v (.slice ((D.f 12).A) ((D.f 12).l) ((D.f 12).c))), (381, .v (.int .i64 (((D.f 12).l : Nat) : Int)))]) [0, 5, 6] (fun _ _ _ => by kernel_rfl) ?_
   refine ch_loop (len := (D.f 12).l) (xs := fun ag => (if (decide (v ≥ 0)) = true then (uv ((((D.f 12).f ag).f 0).s.size + 1) ++ sb (((D.f 12).f ag).f 0).s) else (be 2 (((D.f 12).f ag).f 0).s.size ++ sb (((D.f 12).f ag).f 0).s)) ++ (((if (decide (v ≥ 0)) = true then (uv ((((D.f 12).f ag).f 1).l + 1)) else (be 4 (((D.f 12).f ag).f 1).l)) ++ ((List.range (((D.f 12).f ag).f 1).l).flatMap fun am => be 4 (((((D.f 12).f ag).f 1).f am).n))) ++ (if (decide (v ≥ 0)) = true then (uv ((D.f 12).f ag).u.length) ++ (tagsR ((D.f 12).f ag).u) else []))) 382 383 [0, 5, 6, 35, 381] (fun _ _ _ _ => by kernel_rfl) (fun _ _ _ _ => by kernel_rfl) (fun _ _ _ _ _ => by kernel_rfl) (fun _ _ _ _ _ => by kernel_rfl) kz (Nat.le_trans g145l (by decide)) (fun ag aw => ?_)
   refine ch_seq0 (ch_pure (env' := [(0, .p 0 0), (5, .v (.int .i16 v)), (6, .v (.bool (decide (v ≥ 0)))), (35, .v (.slice ((D.f 12).A) ((D.f 12).l) ((D.f 12).c))), (36, .v (.int .i64 ((ag : Nat) : Int))), (381, .v (.int .i64 (((D.f 12).l : Nat) : Int))), (382, .v (.int .i64 ((ag : Nat) : Int)))]) [0, 5, 6, 35, 36, 381, 382] (fun _ _ _ => by kernel_rfl)) ?_
   refine ch_elem (t := 93) (e := 174) (size := 3) (bytes := 48) (len := (D.f 12).l) (j := ag) (cs := fun i => [.string ((((D.f 12).f i).f 0).s), .slice ((((D.f 12).f i).f 1).A) ((((D.f 12).f i).f 1).l) ((((D.f 12).f i).f 1).c), .map (((D.f 12).f i).m)]) (e1 := [(0, .p 0 0), (5, .v (.int .i16 v)), (6, .v (.bool (decide (v ≥ 0)))), (35, .v (.slice ((D.f 12).A) ((D.f 12).l) ((D.f 12).c))), (37, .p 1 0), (381, .v (.int .i64 (((D.f 12).l : Nat) : Int))), (382, .v (.int .i64 ((ag : Nat) : Int)))]) 2 [0, 5, 6, 35, 37, 381, 382] (fun _ _ _ _ _ => by kernel_rfl) kz kz ba aw hF kz kz kz fun bb1 oo1 hat1 => ?_
   have aM := g145e ag aw
   unfold okTaskIDs at aM
   obtain ⟨bk, ⟨bn, g172l, g172e⟩, aN, g173l, g173x, _⟩ := aM
   refine ch_seq (e1 := [(0, .p 0 0), (5, .v (.int .i16 v)), (6, .v (.bool (decide (v ≥ 0)))), (35, .v (.slice ((D.f 12).A) ((D.f 12).l) ((D.f 12).c))), (37, .p 1 0), (381, .v (.int .i64 (((D.f 12).l : Nat) : Int))), (382, .v (.int .i64 ((ag : Nat) : Int)))]) ?_ ?_
   ·
    refine ch_seq0 (ch_pure (env' := [(0, .p 0 0), (5, .v (.int .i16 v)), (6, .v (.bool (decide (v ≥ 0)))), (35, .v (.slice ((D.f 12).A) ((D.f 12).l) ((D.f 12).c))), (37, .p 1 0), (38, .v (.string ((((D.f 12).f ag).f 0).s))), (381, .v (.int .i64 (((D.f 12).l : Nat) : Int))), (382, .v (.int .i64 ((ag : Nat) : Int)))]) [0, 5, 6, 35, 37, 38, 381, 382] (fun _ _ _ => by kernel_rfl)) ?_
    refine ch_seq0 (ch_pure (env' := [(0, .p 0 0), (5, .v (.int .i16 v)), (6, .v (.bool (decide (v ≥ 0)))), (35, .v (.slice ((D.f 12).A) ((D.f 12).l) ((D.f 12).c))), (37, .p 1 0), (38, .v (.string ((((D.f 12).f ag).f 0).s))), (381, .v (.int .i64 (((D.f 12).l : Nat) : Int))), (382, .v (.int .i64 ((ag : Nat) : Int))), (392, .v (.bool (decide (v ≥ 0))))]) [0, 5, 6, 35, 37, 38, 381, 382, 392] (fun _ _ _ => by kernel_rfl)) ?_
    refine ch_if (b := decide (v ≥ 0)) (fun _ _ _ => by kernel_rfl) (fun hb => ?_) (fun hb => ?_)
    ·
     exact ch_call (f := 78) (vs := [.string ((((D.f 12).f ag).f 0).s)]) 2 [0, 5, 6, 35, 37, 381, 382] (fun _ _ _ _ _ _ => by kernel_rfl) kz Tryz.call78 (fun A cp s w _ _ ho hr => kAppendCompactString (((D.f 12).f ag).f 0).s A cp s w ho bk hr)
    ·
     exact ch_call (f := 79) (vs := [.string ((((D.f 12).f ag).f 0).s)]) 2 [0, 5, 6, 35, 37, 381, 382] (fun _ _ _ _ _ _ => by kernel_rfl) kz Tryz.call79 (fun A cp s w _ _ ho hr => kAppendString (((D.f 12).f ag).f 0).s A cp s w ho hr)
   ·
    refine ch_seq (e1 := [(0, .p 0 0), (5, .v (.int .i16 v)), (6, .v (.bool (decide (v ≥ 0)))), (35, .v (.slice ((D.f 12).A) ((D.f 12).l) ((D.f 12).c))), (37, .p 1 0), (381, .v (.int .i64 (((D.f 12).l : Nat) : Int))), (382, .v (.int .i64 ((ag : Nat) : Int)))]) ?_ ?_
    ·
     refine ch_seq0 (ch_pure (env' := [(0, .p 0 0), (5, .v (.int .i16 v)), (6, .v (.bool (decide (v ≥ 0)))), (35, .v (.slice ((D.f 12).A) ((D.f 12).l) ((D.f 12).c))), (37, .p 1 0), (39, .v (.slice ((((D.f 12).f ag).f 1).A) ((((D.f 12).f ag).f 1).l) ((((D.f 12).f ag).f 1).c))), (381, .v (.int .i64 (((D.f 12).l : Nat) : Int))), (382, .v (.int .i64 ((ag : Nat) : Int)))]) [0, 5, 6, 35, 37, 39, 381, 382] (fun _ _ _ => by kernel_rfl)) ?_
     refine ch_seq (e1 := [(0, .p 0 0), (5, .v (.int .i16 v)), (6, .v (.bool (decide (v ≥ 0)))), (35, .v (.slice ((D.f 12).A) ((D.f 12).l) ((D.f 12).c))), (37, .p 1 0), (39, .v (.slice ((((D.f 12).f ag).f 1).A) ((((D.f 12).f ag).f 1).l) ((((D.f 12).f ag).f 1).c))), (381, .v (.int .i64 (((D.f 12).l : Nat) : Int))), (382, .v (.int .i64 ((ag : Nat) : Int)))]) ?_ ?_
     ·
      refine ch_seq0 (ch_pure (env' := [(0, .p 0 0), (5, .v (.int .i16 v)), (6, .v (.bool (decide (v ≥ 0)))), (35, .v (.slice ((D.f 12).A) ((D.f 12).l) ((D.f 12).c))), (37, .p 1 0), (39, .v (.slice ((((D.f 12).f ag).f 1).A) ((((D.f 12).f ag).f 1).l) ((((D.f 12).f ag).f 1).c))), (381, .v (.int .i64 (((D.f 12).l : Nat) : Int))), (382, .v (.int .i64 ((ag : Nat) : Int))), (403, .v (.bool (decide (v ≥ 0))))]) [0, 5, 6, 35, 37, 39, 381, 382, 403] (fun _ _ _ => by kernel_rfl)) ?_
      refine ch_if (b := decide (v ≥ 0)) (fun _ _ _ => by kernel_rfl) (fun hb => ?_) (fun hb => ?_)
      ·
       exact ch_call (f := 76) (vs := [.int .i64 (((((D.f 12).f ag).f 1).l : Nat) : Int)]) 3 [0, 5, 6, 35, 37, 39, 381, 382] (fun _ _ _ _ _ _ => by kernel_rfl) kz Tryz.call76 (fun A cp s w _ _ ho hr => kAppendCompactArrayLen (((D.f 12).f ag).f 1).l g172l A cp s w ho hr)
      ·
       exact ch_call (f := 77) (vs := [.int .i64 (((((D.f 12).f ag).f 1).l : Nat) : Int)]) 3 [0, 5, 6, 35, 37, 39, 381, 382] (fun _ _ _ _ _ _ => by kernel_rfl) kz Tryz.call77 (fun A cp s w _ _ ho hr => kAppendArrayLen (((D.f 12).f ag).f 1).l A cp s w ho hr)
     ·
      refine ch_seq0 (ch_pure (env' := [(414, .v (.int .i64 0)), (0, .p 0 0), (5, .v (.int .i16 v)), (6, .v (.bool (decide (v ≥ 0)))), (35, .v (.slice ((D.f 12).A) ((D.f 12).l) ((D.f 12).c))), (37, .p 1 0), (39, .v (.slice ((((D.f 12).f ag).f 1).A) ((((D.f 12).f ag).f 1).l) ((((D.f 12).f ag).f 1).c))), (381, .v (.int .i64 (((D.f 12).l : Nat) : Int))), (382, .v (.int .i64 ((ag : Nat) : Int))), (413, .v (.int .i64 (((((D.f 12).f ag).f 1).l : Nat) : Int)))]) [414, 0, 5, 6, 35, 37, 39, 381, 382, 413] (fun _ _ _ => by kernel_rfl)) ?_
      refine ch_drop (e1 := [(0, .p 0 0), (5, .v (.int .i16 v)), (6, .v (.bool (decide (v ≥ 0)))), (35, .v (.slice ((D.f 12).A) ((D.f 12).l) ((D.f 12).c))), (37, .p 1 0), (39, .v (.slice ((((D.f 12).f ag).f 1).A) ((((D.f 12).f ag).f 1).l) ((((D.f 12).f ag).f 1).c))), (381, .v (.int .i64 (((D.f 12).l : Nat) : Int))), (382, .v (.int .i64 ((ag : Nat) : Int))), (413, .v (.int .i64 (((((D.f 12).f ag).f 1).l : Nat) : Int)))]) [0, 5, 6, 35, 37, 381, 382] (fun _ _ _ => by kernel_rfl) ?_
      refine ch_loop (len := (((D.f 12).f ag).f 1).l) (xs := fun am => be 4 (((((D.f 12).f ag).f 1).f am).n)) 414 415 [0, 5, 6, 35, 37, 39, 381, 382, 413] (fun _ _ _ _ => by kernel_rfl) (fun _ _ _ _ => by kernel_rfl) (fun _ _ _ _ _ => by kernel_rfl) (fun _ _ _ _ _ => by kernel_rfl) kz (Nat.le_trans g172l (by decide)) (fun am ax => ?_)
      refine ch_seq0 (ch_pure (env' := [(0, .p 0 0), (5, .v (.int .i16 v)), (6, .v (.bool (decide (v ≥ 0)))), (35, .v (.slice ((D.f 12).A) ((D.f 12).l) ((D.f 12).c))), (37, .p 1 0), (39, .v (.slice ((((D.f 12).f ag).f 1).A) ((((D.f 12).f ag).f 1).l) ((((D.f 12).f ag).f 1).c))), (40, .v (.int .i64 ((am : Nat) : Int))), (381, .v (.int .i64 (((D.f 12).l : Nat) : Int))), (382, .v (.int .i64 ((ag : Nat) : Int))), (413, .v (.int .i64 (((((D.f 12).f ag).f 1).l : Nat) : Int))), (414, .v (.int .i64 ((am : Nat) : Int)))]) [0, 5, 6, 35, 37, 39, 40, 381, 382, 413, 414] (fun _ _ _ => by kernel_rfl)) ?_
      refine ch_elem (t := 143) (e := 21) (size := 1) (bytes := 4) (len := (((D.f 12).f ag).f 1).l) (j := am) (cs := fun i => [.int .i32 (((((D.f 12).f ag).f 1).f i).n)]) (e1 := [(0, .p 0 0), (5, .v (.int .i16 v)), (6, .v (.bool (decide (v ≥ 0)))), (35, .v (.slice ((D.f 12).A) ((D.f 12).l) ((D.f 12).c))), (37, .p 1 0), (39, .v (.slice ((((D.f 12).f ag).f 1).A) ((((D.f 12).f ag).f 1).l) ((((D.f 12).f ag).f 1).c))), (41, .v (.int .i32 (((((D.f 12).f ag).f 1).f am).n))), (381, .v (.int .i64 (((D.f 12).l : Nat) : Int))), (382, .v (.int .i64 ((ag : Nat) : Int))), (413, .v (.int .i64 (((((D.f 12).f ag).f 1).l : Nat) : Int))), (414, .v (.int .i64 ((am : Nat) : Int)))]) 2 [0, 5, 6, 35, 37, 39, 41, 381, 382, 413, 414] (fun _ _ _ _ _ => by kernel_rfl) kz kz bn ax hF kz kz kz fun bb2 oo2 hat2 => ?_
      have bL := g172e am ax
      exact ch_call (f := 99) (vs := [.int .i32 (((((D.f 12).f ag).f 1).f am).n)]) 2 [414, 0, 5, 6, 35, 37, 39, 381, 382, 413] (fun _ _ _ _ _ _ => by kernel_rfl) kz Tryz.call99 (fun A cp s w _ _ ho hr => kAppendInt32 A cp s (((((D.f 12).f ag).f 1).f am).n) w ho (by omega))
    ·
     refine ch_seq0 (ch_pure (env' := [(0, .p 0 0), (5, .v (.int .i16 v)), (6, .v (.bool (decide (v ≥ 0)))), (35, .v (.slice ((D.f 12).A) ((D.f 12).l) ((D.f 12).c))), (37, .p 1 0), (381, .v (.int .i64 (((D.f 12).l : Nat) : Int))), (382, .v (.int .i64 ((ag : Nat) : Int))), (425, .v (.bool (decide (v ≥ 0))))]) [0, 5, 6, 35, 37, 381, 382, 425] (fun _ _ _ => by kernel_rfl)) ?_
     refine ch_when (b := decide (v ≥ 0)) (fun _ _ _ => by kernel_rfl) (fun hb => ?_) (fun hb => ?_)
     ·
      refine ch_seq (e1 := [(0, .p 0 0), (5, .v (.int .i16 v)), (6, .v (.bool (decide (v ≥ 0)))), (35, .v (.slice ((D.f 12).A) ((D.f 12).l) ((D.f 12).c))), (37, .p 1 0), (381, .v (.int .i64 (((D.f 12).l : Nat) : Int))), (382, .v (.int .i64 ((ag : Nat) : Int)))]) ?_ ?_
      ·
       exact ch_call2 (f1 := 83) (vs1 := [.pointer (some ⟨bb1, oo1 + 2, none⟩)]) (r1 := .int .i64 ((((D.f 12).f ag).u.length : Nat) : Int)) (f := 82) (vs := [.int .u32 (IntKind.u32.wrap (0 + (IntKind.u32.wrap ((((D.f 12).f ag).u.length : Nat) : Int))))]) 4 7 [0, 5, 6, 35, 37, 381, 382] (fun _ _ _ _ _ _ => by kernel_rfl) kz Tryz.call83 Tryz.call82 (fun w hs => kTagsLen (F := Lo F _) ((hat1.one 2 rfl).move hs (lo_M hF) lo_F) (aN.move hs (lo_M hF) lo_F)) (fun A cp s w _ _ ho hr => by rw [show (IntKind.u32.wrap (0 + (IntKind.u32.wrap ((((D.f 12).f ag).u.length : Nat) : Int))) : Int) = ((((D.f 12).f ag).u.length : Nat) : Int) from wrap_u32_len _ g173l]; exact kAppendUvarint ((D.f 12).f ag).u.length (by have := g173l; omega) A cp s w ho hr)
      ·
       exact ch_callG (f := 84) 4 [382, 0, 5, 6, 35, 381] (fun s => [.pointer (some ⟨bb1, oo1 + 2, none⟩), s]) (fun _ _ _ _ _ _ => by kernel_rfl) kz Tryz.call84 (fun A cp s w hs hA ho hr => kAppendEach (F := Lo F _) ((hat1.one 2 rfl).move hs (lo_M hF) lo_F) (aN.move hs (lo_M hF) lo_F) ho (lo_dis hF hA) g173x hr)
     ·exact ch_pick (e1 := [(382, .v (.int .i64 ((ag : Nat) : Int))), (0, .p 0 0), (5, .v (.int .i16 v)), (6, .v (.bool (decide (v ≥ 0)))), (35, .v (.slice ((D.f 12).A) ((D.f 12).l) ((D.f 12).c))), (381, .v (.int .i64 (((D.f 12).l : Nat) : Int)))]) [382, 0, 5, 6, 35, 381] (fun _ _ _ => by kernel_rfl) ch_skip
 refine chr_seq (e1 := [(0, .p 0 0), (6, .v (.bool (decide (v ≥ 0))))]) ?_ ?_
 ·
  refine ch_seq0 (ch_pure (env' := [(0, .p 0 0), (6, .v (.bool (decide (v ≥ 0)))), (441, .v (.bool (decide (v ≥ 1))))]) [0, 6, 441] (fun _ _ _ => by kernel_rfl)) ?_
  refine ch_when (b := decide (v ≥ 1)) (fun _ _ _ => by kernel_rfl) (fun hb => ?_) (fun hb => ?_)
  ·
   refine ch_seq0 (ch_pure (env' := [(0, .p 0 0), (6, .v (.bool (decide (v ≥ 0)))), (42, .v (.bool ((D.f 13).b)))]) [0, 6, 42] (fun _ _ _ => by kernel_rfl)) ?_
   exact ch_call (f := 86) (vs := [.bool ((D.f 13).b)]) 2 [0, 6] (fun _ _ _ _ _ _ => by kernel_rfl) kz Tryz.call86 (fun A cp s w _ _ ho hr => kAppendBool A cp s (D.f 13).b w ho (by omega))
  ·exact ch_pick (e1 := [(0, .p 0 0), (6, .v (.bool (decide (v ≥ 0))))]) [0, 6] (fun _ _ _ => by kernel_rfl) ch_skip
 refine chr_seq (e1 := [(0, .p 0 0), (6, .v (.bool (decide (v ≥ 0))))]) ?_ ?_
 ·
  refine ch_seq0 (ch_pure (env' := [(0, .p 0 0), (6, .v (.bool (decide (v ≥ 0)))), (43, .v (.int .i32 ((D.f 14).n)))]) [0, 6, 43] (fun _ _ _ => by kernel_rfl)) ?_
  exact ch_call (f := 99) (vs := [.int .i32 ((D.f 14).n)]) 2 [0, 6] (fun _ _ _ _ _ _ => by kernel_rfl) kz Tryz.call99 (fun A cp s w _ _ ho hr => kAppendInt32 A cp s ((D.f 14).n) w ho (by omega))
 refine chr_seq (e1 := [(0, .p 0 0), (6, .v (.bool (decide (v ≥ 0))))]) ?_ ?_
 ·
  refine ch_seq0 (ch_pure (env' := [(0, .p 0 0), (6, .v (.bool (decide (v ≥ 0)))), (44, .v (.slice ((D.f 15).A) ((D.f 15).l) ((D.f 15).c)))]) [0, 6, 44] (fun _ _ _ => by kernel_rfl)) ?_
  refine ch_seq (e1 := [(0, .p 0 0), (6, .v (.bool (decide (v ≥ 0)))), (44, .v (.slice ((D.f 15).A) ((D.f 15).l) ((D.f 15).c)))]) ?_ ?_
  ·
   refine ch_seq0 (ch_pure (env' := [(0, .p 0 0), (6, .v (.bool (decide (v ≥ 0)))), (44, .v (.slice ((D.f 15).A) ((D.f 15).l) ((D.f 15).c))), (460, .v (.bool (decide (v ≥ 0))))]) [0, 6, 44, 460] (fun _ _ _ => by kernel_rfl)) ?_
   refine ch_if (b := decide (v ≥ 0)) (fun _ _ _ => by kernel_rfl) (fun hb => ?_) (fun hb => ?_)
   ·
    exact ch_call (f := 101) (vs := [.int .i64 (((D.f 15).l : Nat) : Int), .bool (((D.f 15).A).isNone)]) 5 [0, 6, 44] (fun _ _ _ _ _ _ => by kernel_rfl) kz Tryz.call101 (fun A cp s w _ _ ho hr => kAppendCompactNullableArrayLen (D.f 15).l g148l (((D.f 15).A).isNone) A cp s w ho hr)
   ·
    exact ch_call (f := 102) (vs := [.int .i64 (((D.f 15).l : Nat) : Int), .bool (((D.f 15).A).isNone)]) 5 [0, 6, 44] (fun _ _ _ _ _ _ => by kernel_rfl) kz Tryz.call102 (fun A cp s w _ _ ho hr => kAppendNullableArrayLen (D.f 15).l g148l (((D.f 15).A).isNone) A cp s w ho hr)
  ·
   refine ch_seq0 (ch_pure (env' := [(475, .v (.int .i64 0)), (0, .p 0 0), (6, .v (.bool (decide (v ≥ 0)))), (44, .v (.slice ((D.f 15).A) ((D.f 15).l) ((D.f 15).c))), (474, .v (.int .i64 (((D.f 15).l : Nat) : Int)))]) [475, 0, 6, 44, 474] (fun _ _ _ => by kernel_rfl)) ?_
   refine ch_drop (e1 := [(0, .p 0 0), (6, .v (.bool (decide (v ≥ 0)))), (44, .v (.slice ((D.f 15).A) ((D.f 15).l) ((D.f 15).c))), (474, .v (.int .i64 (((D.f 15).l : Nat) : Int)))]) [0, 6] (fun _ _ _ => by kernel_rfl) ?_
   refine ch_loop (len := (D.f 15).l) (xs := fun aa => ((if (decide (v ≥ 0)) = true then (uv (((((D.f 15).f aa).f 0).f 0).s.size + 1) ++ sb ((((D.f 15).f aa).f 0).f 0).s) else (be 2 ((((D.f 15).f aa).f 0).f 0).s.size ++ sb ((((D.f 15).f aa).f 0).f 0).s)) ++ ((be 2 (((((D.f 15).f aa).f 0).f 1).n)) ++ (if (decide (v ≥ 0)) = true then (uv (((D.f 15).f aa).f 0).u.length) ++ (tagsR (((D.f 15).f aa).f 0).u) else []))) ++ (((if (decide (v ≥ 0)) = true then (uv ((((D.f 15).f aa).f 1).l + 1)) else (be 4 (((D.f 15).f aa).f 1).l)) ++ ((List.range (((D.f 15).f aa).f 1).l).flatMap fun ab => (if (decide (v ≥ 0)) = true then (uv ((((((D.f 15).f aa).f 1).f ab).f 0).s.size + 1) ++ sb (((((D.f 15).f aa).f 1).f ab).f 0).s) else (be 2 (((((D.f 15).f aa).f 1).f ab).f 0).s.size ++ sb (((((D.f 15).f aa).f 1).f ab).f 0).s)) ++ (((if (decide (v ≥ 0)) = true then (uv ((((((D.f 15).f aa).f 1).f ab).f 1).l + 1)) else (be 4 (((((D.f 15).f aa).f 1).f ab).f 1).l)) ++ ((List.range (((((D.f 15).f aa).f 1).f ab).f 1).l).flatMap fun ai => be 4 (((((((D.f 15).f aa).f 1).f ab).f 1).f ai).n))) ++ (if (decide (v ≥ 0)) = true then (uv ((((D.f 15).f aa).f 1).f ab).u.length) ++ (tagsR ((((D.f 15).f aa).f 1).f ab).u) else [])))) ++ (((if (decide (v ≥ 0)) = true then (uv ((((D.f 15).f aa).f 2).l + 1)) else (be 4 (((D.f 15).f aa).f 2).l)) ++ ((List.range (((D.f 15).f aa).f 2).l).flatMap fun ac => (if (decide (v ≥ 0)) = true then (uv ((((((D.f 15).f aa).f 2).f ac).f 0).s.size + 1) ++ sb (((((D.f 15).f aa).f 2).f ac).f 0).s) else (be 2 (((((D.f 15).f aa).f 2).f ac).f 0).s.size ++ sb (((((D.f 15).f aa).f 2).f ac).f 0).s)) ++ (((if (decide (v ≥ 0)) = true then (uv ((((((D.f 15).f aa).f 2).f ac).f 1).l + 1)) else (be 4 (((((D.f 15).f aa).f 2).f ac).f 1).l)) ++ ((List.range (((((D.f 15).f aa).f 2).f ac).f 1).l).flatMap fun aj => be 4 (((((((D.f 15).f aa).f 2).f ac).f 1).f aj).n))) ++ (if (decide (v ≥ 0)) = true then (uv ((((D.f 15).f aa).f 2).f ac).u.length) ++ (tagsR ((((D.f 15).f aa).f 2).f ac).u) else [])))) ++ (if (decide (v ≥ 0)) = true then (uv ((D.f 15).f aa).u.length) ++ (tagsR ((D.f 15).f aa).u) else [])))) 475 476 [0, 6, 44, 474] (fun _ _ _ _ => by kernel_rfl) (fun _ _ _ _ => by kernel_rfl) (fun _ _ _ _ _ => by kernel_rfl) (fun _ _ _ _ _ => by kernel_rfl) kz (Nat.le_trans g148l (by decide)) (fun aa ay => ?_)
   refine ch_seq0 (ch_pure (env' := [(0, .p 0 0), (6, .v (.bool (decide (v ≥ 0)))), (44, .v (.slice ((D.f 15).A) ((D.f 15).l) ((D.f 15).c))), (45, .v (.int .i64 ((aa : Nat) : Int))), (474, .v (.int .i64 (((D.f 15).l : Nat) : Int))), (475, .v (.int .i64 ((aa : Nat) : Int)))]) [0, 6, 44, 45, 474, 475] (fun _ _ _ => by kernel_rfl)) ?_
   refine ch_elem (t := 94) (e := 182) (size := 6) (bytes := 88) (len := (D.f 15).l) (j := aa) (cs := fun i => [.string (((((D.f 15).f i).f 0).f 0).s), .int .u16 (((((D.f 15).f i).f 0).f 1).n), .map ((((D.f 15).f i).f 0).m), .slice ((((D.f 15).f i).f 1).A) ((((D.f 15).f i).f 1).l) ((((D.f 15).f i).f 1).c), .slice ((((D.f 15).f i).f 2).A) ((((D.f 15).f i).f 2).l) ((((D.f 15).f i).f 2).c), .map (((D.f 15).f i).m)]) (e1 := [(0, .p 0 0), (6, .v (.bool (decide (v ≥ 0)))), (44, .v (.slice ((D.f 15).A) ((D.f 15).l) ((D.f 15).c))), (46, .p 1 0), (474, .v (.int .i64 (((D.f 15).l : Nat) : Int))), (475, .v (.int .i64 ((aa : Nat) : Int)))]) 2 [0, 6, 44, 46, 474, 475] (fun _ _ _ _ _ => by kernel_rfl) kz kz bd ay hF kz kz kz fun bb1 oo1 hat1 => ?_
   have aO := g148e aa ay
   unfold okStreamsGroupHeartbeatResponsePartitionsByUserEndpoint at aO
   obtain ⟨aP, ⟨bp, g179l, g179e⟩, ⟨bq, g180l, g180e⟩, aQ, g181l, g181x, _⟩ := aO
   unfold okEndpoint at aP
   obtain ⟨br, bM, aR, g184l, g184x, _⟩ := aP
   refine ch_seq (e1 := [(0, .p 0 0), (6, .v (.bool (decide (v ≥ 0)))), (44, .v (.slice ((D.f 15).A) ((D.f 15).l) ((D.f 15).c))), (46, .p 1 0), (474, .v (.int .i64 (((D.f 15).l : Nat) : Int))), (475, .v (.int .i64 ((aa : Nat) : Int)))]) ?_ ?_
   ·
    refine ch_seq0 (ch_pure (env' := [(0, .p 0 0), (6, .v (.bool (decide (v ≥ 0)))), (44, .v (.slice ((D.f 15).A) ((D.f 15).l) ((D.f 15).c))), (46, .p 1 0), (47, .p 1 0), (474, .v (.int .i64 (((D.f 15).l : Nat) : Int))), (475, .v (.int .i64 ((aa : Nat) : Int)))]) [0, 6, 44, 46, 47, 474, 475] (fun _ _ _ => by kernel_rfl)) ?_
    refine ch_seq (e1 := [(0, .p 0 0), (6, .v (.bool (decide (v ≥ 0)))), (44, .v (.slice ((D.f 15).A) ((D.f 15).l) ((D.f 15).c))), (46, .p 1 0), (47, .p 1 0), (474, .v (.int .i64 (((D.f 15).l : Nat) : Int))), (475, .v (.int .i64 ((aa : Nat) : Int)))]) ?_ ?_
    ·
     refine ch_seq0 (ch_pure (env' := [(0, .p 0 0), (6, .v (.bool (decide (v ≥ 0)))), (44, .v (.slice ((D.f 15).A) ((D.f 15).l) ((D.f 15).c))), (46, .p 1 0), (47, .p 1 0), (48, .v (.string (((((D.f 15).f aa).f 0).f 0).s))), (474, .v (.int .i64 (((D.f 15).l : Nat) : Int))), (475, .v (.int .i64 ((aa : Nat) : Int)))]) [0, 6, 44, 46, 47, 48, 474, 475] (fun _ _ _ => by kernel_rfl)) ?_
     refine ch_seq0 (ch_pure (env' := [(0, .p 0 0), (6, .v (.bool (decide (v ≥ 0)))), (44, .v (.slice ((D.f 15).A) ((D.f 15).l) ((D.f 15).c))), (46, .p 1 0), (47, .p 1 0), (48, .v (.string (((((D.f 15).f aa).f 0).f 0).s))), (474, .v (.int .i64 (((D.f 15).l : Nat) : Int))), (475, .v (.int .i64 ((aa : Nat) : Int))), (488, .v (.bool (decide (v ≥ 0))))]) [0, 6, 44, 46, 47, 48, 474, 475, 488] (fun _ _ _ => by kernel_rfl)) ?_
     refine ch_if (b := decide (v ≥ 0)) (fun _ _ _ => by kernel_rfl) (fun hb => ?_) (fun hb => ?_)
     ·
      exact ch_call (f := 78) (vs := [.string (((((D.f 15).f aa).f 0).f 0).s)]) 2 [0, 6, 44, 46, 47, 474, 475] (fun _ _ _ _ _ _ => by kernel_rfl) kz Tryz.call78 (fun A cp s w _ _ ho hr => kAppendCompactString ((((D.f 15).f aa).f 0).f 0).s A cp s w ho br hr)
     ·
      exact ch_call (f := 79) (vs := [.string (((((D.f 15).f aa).f 0).f 0).s)]) 2 [0, 6, 44, 46, 47, 474, 475] (fun _ _ _ _ _ _ => by kernel_rfl) kz Tryz.call79 (fun A cp s w _ _ ho hr => kAppendString ((((D.f 15).f aa).f 0).f 0).s A cp s w ho hr)
    ·
     refine ch_seq (e1 := [(0, .p 0 0), (6, .v (.bool (decide (v ≥ 0)))), (44, .v (.slice ((D.f 15).A) ((D.f 15).l) ((D.f 15).c))), (46, .p 1 0), (47, .p 1 0), (474, .v (.int .i64 (((D.f 15).l : Nat) : Int))), (475, .v (.int .i64 ((aa : Nat) : Int)))]) ?_ ?_
     ·
      refine ch_seq0 (ch_pure (env' := [(0, .p 0 0), (6, .v (.bool (decide (v ≥ 0)))), (44, .v (.slice ((D.f 15).A) ((D.f 15).l) ((D.f 15).c))), (46, .p 1 0), (47, .p 1 0), (49, .v (.int .u16 (((((D.f 15).f aa).f 0).f 1).n))), (474, .v (.int .i64 (((D.f 15).l : Nat) : Int))), (475, .v (.int .i64 ((aa : Nat) : Int)))]) [0, 6, 44, 46, 47, 49, 474, 475] (fun _ _ _ => by kernel_rfl)) ?_
      exact ch_call (f := 121) (vs := [.int .u16 (((((D.f 15).f aa).f 0).f 1).n)]) 2 [0, 6, 44, 46, 47, 474, 475] (fun _ _ _ _ _ _ => by kernel_rfl) kz Tryz.call121 (fun A cp s w _ _ ho hr => kAppendUint16 A cp s (((((D.f 15).f aa).f 0).f 1).n) w ho (by omega))
     ·
      refine ch_seq0 (ch_pure (env' := [(0, .p 0 0), (6, .v (.bool (decide (v ≥ 0)))), (44, .v (.slice ((D.f 15).A) ((D.f 15).l) ((D.f 15).c))), (46, .p 1 0), (47, .p 1 0), (474, .v (.int .i64 (((D.f 15).l : Nat) : Int))), (475, .v (.int .i64 ((aa : Nat) : Int))), (502, .v (.bool (decide (v ≥ 0))))]) [0, 6, 44, 46, 47, 474, 475, 502] (fun _ _ _ => by kernel_rfl)) ?_
      refine ch_when (b := decide (v ≥ 0)) (fun _ _ _ => by kernel_rfl) (fun hb => ?_) (fun hb => ?_)
      ·
       refine ch_seq (e1 := [(0, .p 0 0), (6, .v (.bool (decide (v ≥ 0)))), (44, .v (.slice ((D.f 15).A) ((D.f 15).l) ((D.f 15).c))), (46, .p 1 0), (47, .p 1 0), (474, .v (.int .i64 (((D.f 15).l : Nat) : Int))), (475, .v (.int .i64 ((aa : Nat) : Int)))]) ?_ ?_
       ·
        exact ch_call2 (f1 := 83) (vs1 := [.pointer (some ⟨bb1, oo1 + 2, none⟩)]) (r1 := .int .i64 (((((D.f 15).f aa).f 0).u.length : Nat) : Int)) (f := 82) (vs := [.int .u32 (IntKind.u32.wrap (0 + (IntKind.u32.wrap (((((D.f 15).f aa).f 0).u.length : Nat) : Int))))]) 4 7 [0, 6, 44, 46, 47, 474, 475] (fun _ _ _ _ _ _ => by kernel_rfl) kz Tryz.call83 Tryz.call82 (fun w hs => kTagsLen (F := Lo F _) ((hat1.one 2 rfl).move hs (lo_M hF) lo_F) (aR.move hs (lo_M hF) lo_F)) (fun A cp s w _ _ ho hr => by rw [show (IntKind.u32.wrap (0 + (IntKind.u32.wrap (((((D.f 15).f aa).f 0).u.length : Nat) : Int))) : Int) = (((((D.f 15).f aa).f 0).u.length : Nat) : Int) from wrap_u32_len _ g184l]; exact kAppendUvarint (((D.f 15).f aa).f 0).u.length (by have := g184l; omega) A cp s w ho hr)
       ·
        exact ch_callG (f := 84) 4 [0, 6, 44, 46, 474, 475] (fun s => [.pointer (some ⟨bb1, oo1 + 2, none⟩), s]) (fun _ _ _ _ _ _ => by kernel_rfl) kz Tryz.call84 (fun A cp s w hs hA ho hr => kAppendEach (F := Lo F _) ((hat1.one 2 rfl).move hs (lo_M hF) lo_F) (aR.move hs (lo_M hF) lo_F) ho (lo_dis hF hA) g184x hr)
      ·exact ch_pick (e1 := [(0, .p 0 0), (6, .v (.bool (decide (v ≥ 0)))), (44, .v (.slice ((D.f 15).A) ((D.f 15).l) ((D.f 15).c))), (46, .p 1 0), (474, .v (.int .i64 (((D.f 15).l : Nat) : Int))), (475, .v (.int .i64 ((aa : Nat) : Int)))]) [0, 6, 44, 46, 474, 475] (fun _ _ _ => by kernel_rfl) ch_skip
   ·
    refine ch_seq (e1 := [(0, .p 0 0), (6, .v (.bool (decide (v ≥ 0)))), (44, .v (.slice ((D.f 15).A) ((D.f 15).l) ((D.f 15).c))), (46, .p 1 0), (474, .v (.int .i64 (((D.f 15).l : Nat) : Int))), (475, .v (.int .i64 ((aa : Nat) : Int)))]) ?_ ?_
    ·
     refine ch_seq0 (ch_pure (env' := [(0, .p 0 0), (6, .v (.bool (decide (v ≥ 0)))), (44, .v (.slice ((D.f 15).A) ((D.f 15).l) ((D.f 15).c))), (46, .p 1 0), (50, .v (.slice ((((D.f 15).f aa).f 1).A) ((((D.f 15).f aa).f 1).l) ((((D.f 15).f aa).f 1).c))), (474, .v (.int .i64 (((D.f 15).l : Nat) : Int))), (475, .v (.int .i64 ((aa : Nat) : Int)))]) [0, 6, 44, 46, 50, 474, 475] (fun _ _ _ => by kernel_rfl)) ?_
     refine ch_seq (e1 := [(0, .p 0 0), (6, .v (.bool (decide (v ≥ 0)))), (44, .v (.slice ((D.f 15).A) ((D.f 15).l) ((D.f 15).c))), (46, .p 1 0), (50, .v (.slice ((((D.f 15).f aa).f 1).A) ((((D.f 15).f aa).f 1).l) ((((D.f 15).f aa).f 1).c))), (474, .v (.int .i64 (((D.f 15).l : Nat) : Int))), (475, .v (.int .i64 ((aa : Nat) : Int)))]) ?_ ?_
     ·
      refine ch_seq0 (ch_pure (env' := [(0, .p 0 0), (6, .v (.bool (decide (v ≥ 0)))), (44, .v (.slice ((D.f 15).A) ((D.f 15).l) ((D.f 15).c))), (46, .p 1 0), (50, .v (.slice ((((D.f 15).f aa).f 1).A) ((((D.f 15).f aa).f 1).l) ((((D.f 15).f aa).f 1).c))), (474, .v (.int .i64 (((D.f 15).l : Nat) : Int))), (475, .v (.int .i64 ((aa : Nat) : Int))), (520, .v (.bool (decide (v ≥ 0))))]) [0, 6, 44, 46, 50, 474, 475, 520] (fun _ _ _ => by kernel_rfl)) ?_
      refine ch_if (b := decide (v ≥ 0)) (fun _ _ _ => by kernel_rfl) (fun hb => ?_) (fun hb => ?_)
      ·
       exact ch_call (f := 76) (vs := [.int .i64 (((((D.f 15).f aa).f 1).l : Nat) : Int)]) 3 [0, 6, 44, 46, 50, 474, 475] (fun _ _ _ _ _ _ => by kernel_rfl) kz Tryz.call76 (fun A cp s w _ _ ho hr => kAppendCompactArrayLen (((D.f 15).f aa).f 1).l g179l A cp s w ho hr)
      ·
       exact ch_call (f := 77) (vs := [.int .i64 (((((D.f 15).f aa).f 1).l : Nat) : Int)]) 3 [0, 6, 44, 46, 50, 474, 475] (fun _ _ _ _ _ _ => by kernel_rfl) kz Tryz.call77 (fun A cp s w _ _ ho hr => kAppendArrayLen (((D.f 15).f aa).f 1).l A cp s w ho hr)
     ·
      refine ch_seq0 (ch_pure (env' := [(531, .v (.int .i64 0)), (0, .p 0 0), (6, .v (.bool (decide (v ≥ 0)))), (44, .v (.slice ((D.f 15).A) ((D.f 15).l) ((D.f 15).c))), (46, .p 1 0), (50, .v (.slice ((((D.f 15).f aa).f 1).A) ((((D.f 15).f aa).f 1).l) ((((D.f 15).f aa).f 1).c))), (474, .v (.int .i64 (((D.f 15).l : Nat) : Int))), (475, .v (.int .i64 ((aa : Nat) : Int))), (530, .v (.int .i64 (((((D.f 15).f aa).f 1).l : Nat) : Int)))]) [531, 0, 6, 44, 46, 50, 474, 475, 530] (fun _ _ _ => by kernel_rfl)) ?_
      refine ch_drop (e1 := [(0, .p 0 0), (6, .v (.bool (decide (v ≥ 0)))), (44, .v (.slice ((D.f 15).A) ((D.f 15).l) ((D.f 15).c))), (46, .p 1 0), (50, .v (.slice ((((D.f 15).f aa).f 1).A) ((((D.f 15).f aa).f 1).l) ((((D.f 15).f aa).f 1).c))), (474, .v (.int .i64 (((D.f 15).l : Nat) : Int))), (475, .v (.int .i64 ((aa : Nat) : Int))), (530, .v (.int .i64 (((((D.f 15).f aa).f 1).l : Nat) : Int)))]) [0, 6, 44, 46, 474, 475] (fun _ _ _ => by kernel_rfl) ?_
      refine ch_loop (len := (((D.f 15).f aa).f 1).l) (xs := fun ab => (if (decide (v ≥ 0)) = true then (uv ((((((D.f 15).f aa).f 1).f ab).f 0).s.size + 1) ++ sb (((((D.f 15).f aa).f 1).f ab).f 0).s) else (be 2 (((((D.f 15).f aa).f 1).f ab).f 0).s.size ++ sb (((((D.f 15).f aa).f 1).f ab).f 0).s)) ++ (((if (decide (v ≥ 0)) = true then (uv ((((((D.f 15).f aa).f 1).f ab).f 1).l + 1)) else (be 4 (((((D.f 15).f aa).f 1).f ab).f 1).l)) ++ ((List.range (((((D.f 15).f aa).f 1).f ab).f 1).l).flatMap fun ai => be 4 (((((((D.f 15).f aa).f 1).f ab).f 1).f ai).n))) ++ (if (decide (v ≥ 0)) = true then (uv ((((D.f 15).f aa).f 1).f ab).u.length) ++ (tagsR ((((D.f 15).f aa).f 1).f ab).u) else []))) 531 532 [0, 6, 44, 46, 50, 474, 475, 530] (fun _ _ _ _ => by kernel_rfl) (fun _ _ _ _ => by kernel_rfl) (fun _ _ _ _ _ => by kernel_rfl) (fun _ _ _ _ _ => by kernel_rfl) kz (Nat.le_trans g179l (by decide)) (fun ab aA => ?_)
      refine ch_seq0 (ch_pure (env' := [(0, .p 0 0), (6, .v (.bool (decide (v ≥ 0)))), (44, .v (.slice ((D.f 15).A) ((D.f 15).l) ((D.f 15).c))), (46, .p 1 0), (50, .v (.slice ((((D.f 15).f aa).f 1).A) ((((D.f 15).f aa).f 1).l) ((((D.f 15).f aa).f 1).c))), (51, .v (.int .i64 ((ab : Nat) : Int))), (474, .v (.int .i64 (((D.f 15).l : Nat) : Int))), (475, .v (.int .i64 ((aa : Nat) : Int))), (530, .v (.int .i64 (((((D.f 15).f aa).f 1).l : Nat) : Int))), (531, .v (.int .i64 ((ab : Nat) : Int)))]) [0, 6, 44, 46, 50, 51, 474, 475, 530, 531] (fun _ _ _ => by kernel_rfl)) ?_
      refine ch_elem (t := 179) (e := 192) (size := 3) (bytes := 48) (len := (((D.f 15).f aa).f 1).l) (j := ab) (cs := fun i => [.string ((((((D.f 15).f aa).f 1).f i).f 0).s), .slice ((((((D.f 15).f aa).f 1).f i).f 1).A) ((((((D.f 15).f aa).f 1).f i).f 1).l) ((((((D.f 15).f aa).f 1).f i).f 1).c), .map (((((D.f 15).f aa).f 1).f i).m)]) (e1 := [(0, .p 0 0), (6, .v (.bool (decide (v ≥ 0)))), (44, .v (.slice ((D.f 15).A) ((D.f 15).l) ((D.f 15).c))), (46, .p 1 0), (50, .v (.slice ((((D.f 15).f aa).f 1).A) ((((D.f 15).f aa).f 1).l) ((((D.f 15).f aa).f 1).c))), (52, .p 2 0), (474, .v (.int .i64 (((D.f 15).l : Nat) : Int))), (475, .v (.int .i64 ((aa : Nat) : Int))), (530, .v (.int .i64 (((((D.f 15).f aa).f 1).l : Nat) : Int))), (531, .v (.int .i64 ((ab : Nat) : Int)))]) 2 [0, 6, 44, 46, 50, 52, 474, 475, 530, 531] (fun _ _ _ _ _ => by kernel_rfl) kz kz bp aA hF kz kz kz fun bb2 oo2 hat2 => ?_
      have aS := g179e ab aA
      unfold okStreamsGroupHeartbeatResponsePartitionsByUserEndpointActivePartition at aS
      obtain ⟨bt, ⟨bu, g188l, g188e⟩, aT, g189l, g189x, _⟩ := aS
      refine ch_seq (e1 := [(0, .p 0 0), (6, .v (.bool (decide (v ≥ 0)))), (44, .v (.slice ((D.f 15).A) ((D.f 15).l) ((D.f 15).c))), (46, .p 1 0), (50, .v (.slice ((((D.f 15).f aa).f 1).A) ((((D.f 15).f aa).f 1).l) ((((D.f 15).f aa).f 1).c))), (52, .p 2 0), (474, .v (.int .i64 (((D.f 15).l : Nat) : Int))), (475, .v (.int .i64 ((aa : Nat) : Int))), (530, .v (.int .i64 (((((D.f 15).f aa).f 1).l : Nat) : Int))), (531, .v (.int .i64 ((ab : Nat) : Int)))]) ?_ ?_
      ·
       refine ch_seq0 (ch_pure (env' := [(0, .p 0 0), (6, .v (.bool (decide (v ≥ 0)))), (44, .v (.slice ((D.f 15).A) ((D.f 15).l) ((D.f 15).c))), (46, .p 1 0), (50, .v (.slice ((((D.f 15).f aa).f 1).A) ((((D.f 15).f aa).f 1).l) ((((D.f 15).f aa).f 1).c))), (52, .p 2 0), (53, .v (.string ((((((D.f 15).f aa).f 1).f ab).f 0).s))), (474, .v (.int .i64 (((D.f 15).l : Nat) : Int))), (475, .v (.int .i64 ((aa : Nat) : Int))), (530, .v (.int .i64 (((((D.f 15).f aa).f 1).l : Nat) : Int))), (531, .v (.int .i64 ((ab : Nat) : Int)))]) [0, 6, 44, 46, 50, 52, 53, 474, 475, 530, 531] (fun _ _ _ => by kernel_rfl)) ?_
       refine ch_seq0 (ch_pure (env' := [(0, .p 0 0), (6, .v (.bool (decide (v ≥ 0)))), (44, .v (.slice ((D.f 15).A) ((D.f 15).l) ((D.f 15).c))), (46, .p 1 0), (50, .v (.slice ((((D.f 15).f aa).f 1).A) ((((D.f 15).f aa).f 1).l) ((((D.f 15).f aa).f 1).c))), (52, .p 2 0), (53, .v (.string ((((((D.f 15).f aa).f 1).f ab).f 0).s))), (474, .v (.int .i64 (((D.f 15).l : Nat) : Int))), (475, .v (.int .i64 ((aa : Nat) : Int))), (530, .v (.int .i64 (((((D.f 15).f aa).f 1).l : Nat) : Int))), (531, .v (.int .i64 ((ab : Nat) : Int))), (541, .v (.bool (decide (v ≥ 0))))]) [0, 6, 44, 46, 50, 52, 53, 474, 475, 530, 531, 541] (fun _ _ _ => by kernel_rfl)) ?_
       refine ch_if (b := decide (v ≥ 0)) (fun _ _ _ => by kernel_rfl) (fun hb => ?_) (fun hb => ?_)
       ·
        exact ch_call (f := 78) (vs := [.string ((((((D.f 15).f aa).f 1).f ab).f 0).s)]) 2 [0, 6, 44, 46, 50, 52, 474, 475, 530, 531] (fun _ _ _ _ _ _ => by kernel_rfl) kz Tryz.call78 (fun A cp s w _ _ ho hr => kAppendCompactString (((((D.f 15).f aa).f 1).f ab).f 0).s A cp s w ho bt hr)
       ·
        exact ch_call (f := 79) (vs := [.string ((((((D.f 15).f aa).f 1).f ab).f 0).s)]) 2 [0, 6, 44, 46, 50, 52, 474, 475, 530, 531] (fun _ _ _ _ _ _ => by kernel_rfl) kz Tryz.call79 (fun A cp s w _ _ ho hr => kAppendString (((((D.f 15).f aa).f 1).f ab).f 0).s A cp s w ho hr)
      ·
       refine ch_seq (e1 := [(0, .p 0 0), (6, .v (.bool (decide (v ≥ 0)))), (44, .v (.slice ((D.f 15).A) ((D.f 15).l) ((D.f 15).c))), (46, .p 1 0), (50, .v (.slice ((((D.f 15).f aa).f 1).A) ((((D.f 15).f aa).f 1).l) ((((D.f 15).f aa).f 1).c))), (52, .p 2 0), (474, .v (.int .i64 (((D.f 15).l : Nat) : Int))), (475, .v (.int .i64 ((aa : Nat) : Int))), (530, .v (.int .i64 (((((D.f 15).f aa).f 1).l : Nat) : Int))), (531, .v (.int .i64 ((ab : Nat) : Int)))]) ?_ ?_
       ·
        refine ch_seq0 (ch_pure (env' := [(0, .p 0 0), (6, .v (.bool (decide (v ≥ 0)))), (44, .v (.slice ((D.f 15).A) ((D.f 15).l) ((D.f 15).c))), (46, .p 1 0), (50, .v (.slice ((((D.f 15).f aa).f 1).A) ((((D.f 15).f aa).f 1).l) ((((D.f 15).f aa).f 1).c))), (52, .p 2 0), (54, .v (.slice ((((((D.f 15).f aa).f 1).f ab).f 1).A) ((((((D.f 15).f aa).f 1).f ab).f 1).l) ((((((D.f 15).f aa).f 1).f ab).f 1).c))), (474, .v (.int .i64 (((D.f 15).l : Nat) : Int))), (475, .v (.int .i64 ((aa : Nat) : Int))), (530, .v (.int .i64 (((((D.f 15).f aa).f 1).l : Nat) : Int))), (531, .v (.int .i64 ((ab : Nat) : Int)))]) [0, 6, 44, 46, 50, 52, 54, 474, 475, 530, 531] (fun _ _ _ => by kernel_rfl)) ?_
        refine ch_seq (e1 := [(0, .p 0 0), (6, .v (.bool (decide (v ≥ 0)))), (44, .v (.slice ((D.f 15).A) ((D.f 15).l) ((D.f 15).c))), (46, .p 1 0), (50, .v (.slice ((((D.f 15).f aa).f 1).A) ((((D.f 15).f aa).f 1).l) ((((D.f 15).f aa).f 1).c))), (52, .p 2 0), (54, .v (.slice ((((((D.f 15).f aa).f 1).f ab).f 1).A) ((((((D.f 15).f aa).f 1).f ab).f 1).l) ((((((D.f 15).f aa).f 1).f ab).f 1).c))), (474, .v (.int .i64 (((D.f 15).l : Nat) : Int))), (475, .v (.int .i64 ((aa : Nat) : Int))), (530, .v (.int .i64 (((((D.f 15).f aa).f 1).l : Nat) : Int))), (531, .v (.int .i64 ((ab : Nat) : Int)))]) ?_ ?_
        ·
         refine ch_seq0 (ch_pure (env' := [(0, .p 0 0), (6, .v (.bool (decide (v ≥ 0)))), (44, .v (.slice ((D.f 15).A) ((D.f 15).l) ((D.f 15).c))), (46, .p 1 0), (50, .v (.slice ((((D.f 15).f aa).f 1).A) ((((D.f 15).f aa).f 1).l) ((((D.f 15).f aa).f 1).c))), (52, .p 2 0), (54, .v (.slice ((((((D.f 15).f aa).f 1).f ab).f 1).A) ((((((D.f 15).f aa).f 1).f ab).f 1).l) ((((((D.f 15).f aa).f 1).f ab).f 1).c))), (474, .v (.int .i64 (((D.f 15).l : Nat) : Int))), (475, .v (.int .i64 ((aa : Nat) : Int))), (530, .v (.int .i64 (((((D.f 15).f aa).f 1).l : Nat) : Int))), (531, .v (.int .i64 ((ab : Nat) : Int))), (552, .v (.bool (decide (v ≥ 0))))]) [0, 6, 44, 46, 50, 52, 54, 474, 475, 530, 531, 552] (fun _ _ _ => by kernel_rfl)) ?_
         refine ch_if (b := decide (v ≥ 0)) (fun _ _ _ => by kernel_rfl) (fun hb => ?_) (fun hb => ?_)
         ·
          exact ch_call (f := 76) (vs := [.int .i64 (((((((D.f 15).f aa).f 1).f ab).f 1).l : Nat) : Int)]) 3 [0, 6, 44, 46, 50, 52, 54, 474, 475, 530, 531] (fun _ _ _ _ _ _ => by kernel_rfl) kz Tryz.call76 (fun A cp s w _ _ ho hr => kAppendCompactArrayLen (((((D.f 15).f aa).f 1).f ab).f 1).l g188l A cp s w ho hr)
         ·
          exact ch_call (f := 77) (vs := [.int .i64 (((((((D.f 15).f aa).f 1).f ab).f 1).l : Nat) : Int)]) 3 [0, 6, 44, 46, 50, 52, 54, 474, 475, 530, 531] (fun _ _ _ _ _ _ => by kernel_rfl) kz Tryz.call77 (fun A cp s w _ _ ho hr => kAppendArrayLen (((((D.f 15).f aa).f 1).f ab).f 1).l A cp s w ho hr)
        ·
         refine ch_seq0 (ch_pure (env' := [(563, .v (.int .i64 0)), (0, .p 0 0), (6, .v (.bool (decide (v ≥ 0)))), (44, .v (.slice ((D.f 15).A) ((D.f 15).l) ((D.f 15).c))), (46, .p 1 0), (50, .v (.slice ((((D.f 15).f aa).f 1).A) ((((D.f 15).f aa).f 1).l) ((((D.f 15).f aa).f 1).c))), (52, .p 2 0), (54, .v (.slice ((((((D.f 15).f aa).f 1).f ab).f 1).A) ((((((D.f 15).f aa).f 1).f ab).f 1).l) ((((((D.f 15).f aa).f 1).f ab).f 1).c))), (474, .v (.int .i64 (((D.f 15).l : Nat) : Int))), (475, .v (.int .i64 ((aa : Nat) : Int))), (530, .v (.int .i64 (((((D.f 15).f aa).f 1).l : Nat) : Int))), (531, .v (.int .i64 ((ab : Nat) : Int))), (562, .v (.int .i64 (((((((D.f 15).f aa).f 1).f ab).f 1).l : Nat) : Int)))]) [563, 0, 6, 44, 46, 50, 52, 54, 474, 475, 530, 531, 562] (fun _ _ _ => by kernel_rfl)) ?_
         refine ch_drop (e1 := [(0, .p 0 0), (6, .v (.bool (decide (v ≥ 0)))), (44, .v (.slice ((D.f 15).A) ((D.f 15).l) ((D.f 15).c))), (46, .p 1 0), (50, .v (.slice ((((D.f 15).f aa).f 1).A) ((((D.f 15).f aa).f 1).l) ((((D.f 15).f aa).f 1).c))), (52, .p 2 0), (54, .v (.slice ((((((D.f 15).f aa).f 1).f ab).f 1).A) ((((((D.f 15).f aa).f 1).f ab).f 1).l) ((((((D.f 15).f aa).f 1).f ab).f 1).c))), (474, .v (.int .i64 (((D.f 15).l : Nat) : Int))), (475, .v (.int .i64 ((aa : Nat) : Int))), (530, .v (.int .i64 (((((D.f 15).f aa).f 1).l : Nat) : Int))), (531, .v (.int .i64 ((ab : Nat) : Int))), (562, .v (.int .i64 (((((((D.f 15).f aa).f 1).f ab).f 1).l : Nat) : Int)))]) [0, 6, 44, 46, 50, 52, 474, 475, 530, 531] (fun _ _ _ => by kernel_rfl) ?_
         refine ch_loop (len := (((((D.f 15).f aa).f 1).f ab).f 1).l) (xs := fun ai => be 4 (((((((D.f 15).f aa).f 1).f ab).f 1).f ai).n)) 563 564 [0, 6, 44, 46, 50, 52, 54, 474, 475, 530, 531, 562] (fun _ _ _ _ => by kernel_rfl) (fun _ _ _ _ => by kernel_rfl) (fun _ _ _ _ _ => by kernel_rfl) (fun _ _ _ _ _ => by kernel_rfl) kz (Nat.le_trans g188l (by decide)) (fun ai aB => ?_)
         refine ch_seq0 (ch_pure (env' := [(0, .p 0 0), (6, .v (.bool (decide (v ≥ 0)))), (44, .v (.slice ((D.f 15).A) ((D.f 15).l) ((D.f 15).c))), (46, .p 1 0), (50, .v (.slice ((((D.f 15).f aa).f 1).A) ((((D.f 15).f aa).f 1).l) ((((D.f 15).f aa).f 1).c))), (52, .p 2 0), (54, .v (.slice ((((((D.f 15).f aa).f 1).f ab).f 1).A) ((((((D.f 15).f aa).f 1).f ab).f 1).l) ((((((D.f 15).f aa).f 1).f ab).f 1).c))), (55, .v (.int .i64 ((ai : Nat) : Int))), (474, .v (.int .i64 (((D.f 15).l : Nat) : Int))), (475, .v (.int .i64 ((aa : Nat) : Int))), (530, .v (.int .i64 (((((D.f 15).f aa).f 1).l : Nat) : Int))), (531, .v (.int .i64 ((ab : Nat) : Int))), (562, .v (.int .i64 (((((((D.f 15).f aa).f 1).f ab).f 1).l : Nat) : Int))), (563, .v (.int .i64 ((ai : Nat) : Int)))]) [0, 6, 44, 46, 50, 52, 54, 55, 474, 475, 530, 531, 562, 563] (fun _ _ _ => by kernel_rfl)) ?_
         refine ch_elem (t := 143) (e := 21) (size := 1) (bytes := 4) (len := (((((D.f 15).f aa).f 1).f ab).f 1).l) (j := ai) (cs := fun i => [.int .i32 (((((((D.f 15).f aa).f 1).f ab).f 1).f i).n)]) (e1 := [(0, .p 0 0), (6, .v (.bool (decide (v ≥ 0)))), (44, .v (.slice ((D.f 15).A) ((D.f 15).l) ((D.f 15).c))), (46, .p 1 0), (50, .v (.slice ((((D.f 15).f aa).f 1).A) ((((D.f 15).f aa).f 1).l) ((((D.f 15).f aa).f 1).c))), (52, .p 2 0), (54, .v (.slice ((((((D.f 15).f aa).f 1).f ab).f 1).A) ((((((D.f 15).f aa).f 1).f ab).f 1).l) ((((((D.f 15).f aa).f 1).f ab).f 1).c))), (56, .v (.int .i32 (((((((D.f 15).f aa).f 1).f ab).f 1).f ai).n))), (474, .v (.int .i64 (((D.f 15).l : Nat) : Int))), (475, .v (.int .i64 ((aa : Nat) : Int))), (530, .v (.int .i64 (((((D.f 15).f aa).f 1).l : Nat) : Int))), (531, .v (.int .i64 ((ab : Nat) : Int))), (562, .v (.int .i64 (((((((D.f 15).f aa).f 1).f ab).f 1).l : Nat) : Int))), (563, .v (.int .i64 ((ai : Nat) : Int)))]) 2 [0, 6, 44, 46, 50, 52, 54, 56, 474, 475, 530, 531, 562, 563] (fun _ _ _ _ _ => by kernel_rfl) kz kz bu aB hF kz kz kz fun bb3 oo3 hat3 => ?_
         have bN := g188e ai aB
         exact ch_call (f := 99) (vs := [.int .i32 (((((((D.f 15).f aa).f 1).f ab).f 1).f ai).n)]) 2 [563, 0, 6, 44, 46, 50, 52, 54, 474, 475, 530, 531, 562] (fun _ _ _ _ _ _ => by kernel_rfl) kz Tryz.call99 (fun A cp s w _ _ ho hr => kAppendInt32 A cp s (((((((D.f 15).f aa).f 1).f ab).f 1).f ai).n) w ho (by omega))
       ·
        refine ch_seq0 (ch_pure (env' := [(0, .p 0 0), (6, .v (.bool (decide (v ≥ 0)))), (44, .v (.slice ((D.f 15).A) ((D.f 15).l) ((D.f 15).c))), (46, .p 1 0), (50, .v (.slice ((((D.f 15).f aa).f 1).A) ((((D.f 15).f aa).f 1).l) ((((D.f 15).f aa).f 1).c))), (52, .p 2 0), (474, .v (.int .i64 (((D.f 15).l : Nat) : Int))), (475, .v (.int .i64 ((aa : Nat) : Int))), (530, .v (.int .i64 (((((D.f 15).f aa).f 1).l : Nat) : Int))), (531, .v (.int .i64 ((ab : Nat) : Int))), (574, .v (.bool (decide (v ≥ 0))))]) [0, 6, 44, 46, 50, 52, 474, 475, 530, 531, 574] (fun _ _ _ => by kernel_rfl)) ?_
        refine ch_when (b := decide (v ≥ 0)) (fun _ _ _ => by kernel_rfl) (fun hb => ?_) (fun hb => ?_)
        ·
         refine ch_seq (e1 := [(0, .p 0 0), (6, .v (.bool (decide (v ≥ 0)))), (44, .v (.slice ((D.f 15).A) ((D.f 15).l) ((D.f 15).c))), (46, .p 1 0), (50, .v (.slice ((((D.f 15).f aa).f 1).A) ((((D.f 15).f aa).f 1).l) ((((D.f 15).f aa).f 1).c))), (52, .p 2 0), (474, .v (.int .i64 (((D.f 15).l : Nat) : Int))), (475, .v (.int .i64 ((aa : Nat) : Int))), (530, .v (.int .i64 (((((D.f 15).f aa).f 1).l : Nat) : Int))), (531, .v (.int .i64 ((ab : Nat) : Int)))]) ?_ ?_
         ·
          exact ch_call2 (f1 := 83) (vs1 := [.pointer (some ⟨bb2, oo2 + 2, none⟩)]) (r1 := .int .i64 ((((((D.f 15).f aa).f 1).f ab).u.length : Nat) : Int)) (f := 82) (vs := [.int .u32 (IntKind.u32.wrap (0 + (IntKind.u32.wrap ((((((D.f 15).f aa).f 1).f ab).u.length : Nat) : Int))))]) 4 7 [0, 6, 44, 46, 50, 52, 474, 475, 530, 531] (fun _ _ _ _ _ _ => by kernel_rfl) kz Tryz.call83 Tryz.call82 (fun w hs => kTagsLen (F := Lo F _) ((hat2.one 2 rfl).move hs (lo_M hF) lo_F) (aT.move hs (lo_M hF) lo_F)) (fun A cp s w _ _ ho hr => by rw [show (IntKind.u32.wrap (0 + (IntKind.u32.wrap ((((((D.f 15).f aa).f 1).f ab).u.length : Nat) : Int))) : Int) = ((((((D.f 15).f aa).f 1).f ab).u.length : Nat) : Int) from wrap_u32_len _ g189l]; exact kAppendUvarint ((((D.f 15).f aa).f 1).f ab).u.length (by have := g189l; omega) A cp s w ho hr)
         ·
          exact ch_callG (f := 84) 4 [531, 0, 6, 44, 46, 50, 474, 475, 530] (fun s => [.pointer (some ⟨bb2, oo2 + 2, none⟩), s]) (fun _ _ _ _ _ _ => by kernel_rfl) kz Tryz.call84 (fun A cp s w hs hA ho hr => kAppendEach (F := Lo F _) ((hat2.one 2 rfl).move hs (lo_M hF) lo_F) (aT.move hs (lo_M hF) lo_F) ho (lo_dis hF hA) g189x hr)
        ·exact ch_pick (e1 := [(531, .v (.int .i64 ((ab : Nat) : Int))), (0, .p 0 0), (6, .v (.bool (decide (v ≥ 0)))), (44, .v (.slice ((D.f 15).A) ((D.f 15).l) ((D.f 15).c))), (46, .p 1 0), (50, .v (.slice ((((D.f 15).f aa).f 1).A) ((((D.f 15).f aa).f 1).l) ((((D.f 15).f aa).f 1).c))), (474, .v (.int .i64 (((D.f 15).l : Nat) : Int))), (475, .v (.int .i64 ((aa : Nat) : Int))), (530, .v (.int .i64 (((((D.f 15).f aa).f 1).l : Nat) : Int)))]) [531, 0, 6, 44, 46, 50, 474, 475, 530] (fun _ _ _ => by kernel_rfl) ch_skip
    ·
     refine ch_seq (e1 := [(0, .p 0 0), (6, .v (.bool (decide (v ≥ 0)))), (44, .v (.slice ((D.f 15).A) ((D.f 15).l) ((D.f 15).c))), (46, .p 1 0), (474, .v (.int .i64 (((D.f 15).l : Nat) : Int))), (475, .v (.int .i64 ((aa : Nat) : Int)))]) ?_ ?_
     ·
      refine ch_seq0 (ch_pure (env' := [(0, .p 0 0), (6, .v (.bool (decide (v ≥ 0)))), (44, .v (.slice ((D.f 15).A) ((D.f 15).l) ((D.f 15).c))), (46, .p 1 0), (57, .v (.slice ((((D.f 15).f aa).f 2).A) ((((D.f 15).f aa).f 2).l) ((((D.f 15).f aa).f 2).c))), (474, .v (.int .i64 (((D.f 15).l : Nat) : Int))), (475, .v (.int .i64 ((aa : Nat) : Int)))]) [0, 6, 44, 46, 57, 474, 475] (fun _ _ _ => by kernel_rfl)) ?_
      refine ch_seq (e1 := [(0, .p 0 0), (6, .v (.bool (decide (v ≥ 0)))), (44, .v (.slice ((D.f 15).A) ((D.f 15).l) ((D.f 15).c))), (46, .p 1 0), (57, .v (.slice ((((D.f 15).f aa).f 2).A) ((((D.f 15).f aa).f 2).l) ((((D.f 15).f aa).f 2).c))), (474, .v (.int .i64 (((D.f 15).l : Nat) : Int))), (475, .v (.int .i64 ((aa : Nat) : Int)))]) ?_ ?_
      ·
       refine ch_seq0 (ch_pure (env' := [(0, .p 0 0), (6, .v (.bool (decide (v ≥ 0)))), (44, .v (.slice ((D.f 15).A) ((D.f 15).l) ((D.f 15).c))), (46, .p 1 0), (57, .v (.slice ((((D.f 15).f aa).f 2).A) ((((D.f 15).f aa).f 2).l) ((((D.f 15).f aa).f 2).c))), (474, .v (.int .i64 (((D.f 15).l : Nat) : Int))), (475, .v (.int .i64 ((aa : Nat) : Int))), (593, .v (.bool (decide (v ≥ 0))))]) [0, 6, 44, 46, 57, 474, 475, 593] (fun _ _ _ => by kernel_rfl)) ?_
       refine ch_if (b := decide (v ≥ 0)) (fun _ _ _ => by kernel_rfl) (fun hb => ?_) (fun hb => ?_)
       ·
        exact ch_call (f := 76) (vs := [.int .i64 (((((D.f 15).f aa).f 2).l : Nat) : Int)]) 3 [0, 6, 44, 46, 57, 474, 475] (fun _ _ _ _ _ _ => by kernel_rfl) kz Tryz.call76 (fun A cp s w _ _ ho hr => kAppendCompactArrayLen (((D.f 15).f aa).f 2).l g180l A cp s w ho hr)
       ·
        exact ch_call (f := 77) (vs := [.int .i64 (((((D.f 15).f aa).f 2).l : Nat) : Int)]) 3 [0, 6, 44, 46, 57, 474, 475] (fun _ _ _ _ _ _ => by kernel_rfl) kz Tryz.call77 (fun A cp s w _ _ ho hr => kAppendArrayLen (((D.f 15).f aa).f 2).l A cp s w ho hr)
      ·
       refine ch_seq0 (ch_pure (env' := [(604, .v (.int .i64 0)), (0, .p 0 0), (6, .v (.bool (decide (v ≥ 0)))), (44, .v (.slice ((D.f 15).A) ((D.f 15).l) ((D.f 15).c))), (46, .p 1 0), (57, .v (.slice ((((D.f 15).f aa).f 2).A) ((((D.f 15).f aa).f 2).l) ((((D.f 15).f aa).f 2).c))), (474, .v (.int .i64 (((D.f 15).l : Nat) : Int))), (475, .v (.int .i64 ((aa : Nat) : Int))), (603, .v (.int .i64 (((((D.f 15).f aa).f 2).l : Nat) : Int)))]) [604, 0, 6, 44, 46, 57, 474, 475, 603] (fun _ _ _ => by kernel_rfl)) ?_
       refine ch_drop (e1 := [(0, .p 0 0), (6, .v (.bool (decide (v ≥ 0)))), (44, .v (.slice ((D.f 15).A) ((D.f 15).l) ((D.f 15).c))), (46, .p 1 0), (57, .v (.slice ((((D.f 15).f aa).f 2).A) ((((D.f 15).f aa).f 2).l) ((((D.f 15).f aa).f 2).c))), (474, .v (.int .i64 (((D.f 15).l : Nat) : Int))), (475, .v (.int .i64 ((aa : Nat) : Int))), (603, .v (.int .i64 (((((D.f 15).f aa).f 2).l : Nat) : Int)))]) [0, 6, 44, 46, 474, 475] (fun _ _ _ => by kernel_rfl) ?_
       refine ch_loop (len := (((D.f 15).f aa).f 2).l) (xs := fun ac => (if (decide (v ≥ 0)) = true then (uv ((((((D.f 15).f aa).f 2).f ac).f 0).s.size + 1) ++ sb (((((D.f 15).f aa).f 2).f ac).f 0).s) else (be 2 (((((D.f 15).f aa).f 2).f ac).f 0).s.size ++ sb (((((D.f 15).f aa).f 2).f ac).f 0).s)) ++ (((if (decide (v ≥ 0)) = true then (uv ((((((D.f 15).f aa).f 2).f ac).f 1).l + 1)) else (be 4 (((((D.f 15).f aa).f 2).f ac).f 1).l)) ++ ((List.range (((((D.f 15).f aa).f 2).f ac).f 1).l).flatMap fun aj => be 4 (((((((D.f 15).f aa).f 2).f ac).f 1).f aj).n))) ++ (if (decide (v ≥ 0)) = true then (uv ((((D.f 15).f aa).f 2).f ac).u.length) ++ (tagsR ((((D.f 15).f aa).f 2).f ac).u) else []))) 604 605 [0, 6, 44, 46, 57, 474, 475, 603] (fun _ _ _ _ => by kernel_rfl) (fun _ _ _ _ => by kernel_rfl) (fun _ _ _ _ _ => by kernel_rfl) (fun _ _ _ _ _ => by kernel_rfl) kz (Nat.le_trans g180l (by decide)) (fun ac aC => ?_)
       refine ch_seq0 (ch_pure (env' := [(0, .p 0 0), (6, .v (.bool (decide (v ≥ 0)))), (44, .v (.slice ((D.f 15).A) ((D.f 15).l) ((D.f 15).c))), (46, .p 1 0), (57, .v (.slice ((((D.f 15).f aa).f 2).A) ((((D.f 15).f aa).f 2).l) ((((D.f 15).f aa).f 2).c))), (58, .v (.int .i64 ((ac : Nat) : Int))), (474, .v (.int .i64 (((D.f 15).l : Nat) : Int))), (475, .v (.int .i64 ((aa : Nat) : Int))), (603, .v (.int .i64 (((((D.f 15).f aa).f 2).l : Nat) : Int))), (604, .v (.int .i64 ((ac : Nat) : Int)))]) [0, 6, 44, 46, 57, 58, 474, 475, 603, 604] (fun _ _ _ => by kernel_rfl)) ?_
       refine ch_elem (t := 180) (e := 194) (size := 3) (bytes := 48) (len := (((D.f 15).f aa).f 2).l) (j := ac) (cs := fun i => [.string ((((((D.f 15).f aa).f 2).f i).f 0).s), .slice ((((((D.f 15).f aa).f 2).f i).f 1).A) ((((((D.f 15).f aa).f 2).f i).f 1).l) ((((((D.f 15).f aa).f 2).f i).f 1).c), .map (((((D.f 15).f aa).f 2).f i).m)]) (e1 := [(0, .p 0 0), (6, .v (.bool (decide (v ≥ 0)))), (44, .v (.slice ((D.f 15).A) ((D.f 15).l) ((D.f 15).c))), (46, .p 1 0), (57, .v (.slice ((((D.f 15).f aa).f 2).A) ((((D.f 15).f aa).f 2).l) ((((D.f 15).f aa).f 2).c))), (59, .p 2 0), (474, .v (.int .i64 (((D.f 15).l : Nat) : Int))), (475, .v (.int .i64 ((aa : Nat) : Int))), (603, .v (.int .i64 (((((D.f 15).f aa).f 2).l : Nat) : Int))), (604, .v (.int .i64 ((ac : Nat) : Int)))]) 2 [0, 6, 44, 46, 57, 59, 474, 475, 603, 604] (fun _ _ _ _ _ => by kernel_rfl) kz kz bq aC hF kz kz kz fun bb2 oo2 hat2 => ?_
       have aU := g180e ac aC
       unfold okStreamsGroupHeartbeatResponsePartitionsByUserEndpointStandbyPartition at aU
       obtain ⟨bv, ⟨bw, g195l, g195e⟩, aV, g196l, g196x, _⟩ := aU
       refine ch_seq (e1 := [(0, .p 0 0), (6, .v (.bool (decide (v ≥ 0)))), (44, .v (.slice ((D.f 15).A) ((D.f 15).l) ((D.f 15).c))), (46, .p 1 0), (57, .v (.slice ((((D.f 15).f aa).f 2).A) ((((D.f 15).f aa).f 2).l) ((((D.f 15).f aa).f 2).c))), (59, .p 2 0), (474, .v (.int .i64 (((D.f 15).l : Nat) : Int))), (475, .v (.int .i64 ((aa : Nat) : Int))), (603, .v (.int .i64 (((((D.f 15).f aa).f 2).l : Nat) : Int))), (604, .v (.int .i64 ((ac : Nat) : Int)))]) ?_ ?_
       ·
        refine ch_seq0 (ch_pure (env' := [(0, .p 0 0), (6, .v (.bool (decide (v ≥ 0)))), (44, .v (.slice ((D.f 15).A) ((D.f 15).l) ((D.f 15).c))), (46, .p 1 0), (57, .v (.slice ((((D.f 15).f aa).f 2).A) ((((D.f 15).f aa).f 2).l) ((((D.f 15).f aa).f 2).c))), (59, .p 2 0), (60, .v (.string ((((((D.f 15).f aa).f 2).f ac).f 0).s))), (474, .v (.int .i64 (((D.f 15).l : Nat) : Int))), (475, .v (.int .i64 ((aa : Nat) : Int))), (603, .v (.int .i64 (((((D.f 15).f aa).f 2).l : Nat) : Int))), (604, .v (.int .i64 ((ac : Nat) : Int)))]) [0, 6, 44, 46, 57, 59, 60, 474, 475, 603, 604] (fun _ _ _ => by kernel_rfl)) ?_
        refine ch_seq0 (ch_pure (env' := [(0, .p 0 0), (6, .v (.bool (decide (v ≥ 0)))), (44, .v (.slice ((D.f 15).A) ((D.f 15).l) ((D.f 15).c))), (46, .p 1 0), (57, .v (.slice ((((D.f 15).f aa).f 2).A) ((((D.f 15).f aa).f 2).l) ((((D.f 15).f aa).f 2).c))), (59, .p 2 0), (60, .v (.string ((((((D.f 15).f aa).f 2).f ac).f 0).s))), (474, .v (.int .i64 (((D.f 15).l : Nat) : Int))), (475, .v (.int .i64 ((aa : Nat) : Int))), (603, .v (.int .i64 (((((D.f 15).f aa).f 2).l : Nat) : Int))), (604, .v (.int .i64 ((ac : Nat) : Int))), (614, .v (.bool (decide (v ≥ 0))))]) [0, 6, 44, 46, 57, 59, 60, 474, 475, 603, 604, 614] (fun _ _ _ => by kernel_rfl)) ?_
        refine ch_if (b := decide (v ≥ 0)) (fun _ _ _ => by kernel_rfl) (fun hb => ?_) (fun hb => ?_)
        ·
         exact ch_call (f := 78) (vs := [.string ((((((D.f 15).f aa).f 2).f ac).f 0).s)]) 2 [0, 6, 44, 46, 57, 59, 474, 475, 603, 604] (fun _ _ _ _ _ _ => by kernel_rfl) kz Tryz.call78 (fun A cp s w _ _ ho hr => kAppendCompactString (((((D.f 15).f aa).f 2).f ac).f 0).s A cp s w ho bv hr)
        ·
         exact ch_call (f := 79) (vs := [.string ((((((D.f 15).f aa).f 2).f ac).f 0).s)]) 2 [0, 6, 44, 46, 57, 59, 474, 475, 603, 604] (fun _ _ _ _ _ _ => by kernel_rfl) kz Tryz.call79 (fun A cp s w _ _ ho hr => kAppendString (((((D.f 15).f aa).f 2).f ac).f 0).s A cp s w ho hr)
       ·
        refine ch_seq (e1 := [(0, .p 0 0), (6, .v (.bool (decide (v ≥ 0)))), (44, .v (.slice ((D.f 15).A) ((D.f 15).l) ((D.f 15).c))), (46, .p 1 0), (57, .v (.slice ((((D.f 15).f aa).f 2).A) ((((D.f 15).f aa).f 2).l) ((((D.f 15).f aa).f 2).c))), (59, .p 2 0), (474, .v (.int .i64 (((D.f 15).l : Nat) : Int))), (475, .v (.int .i64 ((aa : Nat) : Int))), (603, .v (.int .i64 (((((D.f 15).f aa).f 2).l : Nat) : Int))), (604, .v (.int .i64 ((ac : Nat) : Int)))]) ?_ ?_
        ·
         refine ch_seq0 (ch_pure (env' := [(0, .p 0 0), (6, .v (.bool (decide (v ≥ 0)))), (44, .v (.slice ((D.f 15).A) ((D.f 15).l) ((D.f 15).c))), (46, .p 1 0), (57, .v (.slice ((((D.f 15).f aa).f 2).A) ((((D.f 15).f aa).f 2).l) ((((D.f 15).f aa).f 2).c))), (59, .p 2 0), (61, .v (.slice ((((((D.f 15).f aa).f 2).f ac).f 1).A) ((((((D.f 15).f aa).f 2).f ac).f 1).l) ((((((D.f 15).f aa).f 2).f ac).f 1).c))), (474, .v (.int .i64 (((D.f 15).l : Nat) : Int))), (475, .v (.int .i64 ((aa : Nat) : Int))), (603, .v (.int .i64 (((((D.f 15).f aa).f 2).l : Nat) : Int))), (604, .v (.int .i64 ((ac : Nat) : Int)))]) [0, 6, 44, 46, 57, 59, 61, 474, 475, 603, 604] (fun _ _ _ => by kernel_rfl)) ?_
         refine ch_seq (e1 := [(0, .p 0 0), (6, .v (.bool (decide (v ≥ 0)))), (44, .v (.slice ((D.f 15).A) ((D.f 15).l) ((D.f 15).c))), (46, .p 1 0), (57, .v (.slice ((((D.f 15).f aa).f 2).A) ((((D.f 15).f aa).f 2).l) ((((D.f 15).f aa).f 2).c))), (59, .p 2 0), (61, .v (.slice ((((((D.f 15).f aa).f 2).f ac).f 1).A) ((((((D.f 15).f aa).f 2).f ac).f 1).l) ((((((D.f 15).f aa).f 2).f ac).f 1).c))), (474, .v (.int .i64 (((D.f 15).l : Nat) : Int))), (475, .v (.int .i64 ((aa : Nat) : Int))), (603, .v (.int .i64 (((((D.f 15).f aa).f 2).l : Nat) : Int))), (604, .v (.int .i64 ((ac : Nat) : Int)))]) ?_ ?_
         ·
          refine ch_seq0 (ch_pure (env' := [(0, .p 0 0), (6, .v (.bool (decide (v ≥ 0)))), (44, .v (.slice ((D.f 15).A) ((D.f 15).l) ((D.f 15).c))), (46, .p 1 0), (57, .v (.slice ((((D.f 15).f aa).f 2).A) ((((D.f 15).f aa).f 2).l) ((((D.f 15).f aa).f 2).c))), (59, .p 2 0), (61, .v (.slice ((((((D.f 15).f aa).f 2).f ac).f 1).A) ((((((D.f 15).f aa).f 2).f ac).f 1).l) ((((((D.f 15).f aa).f 2).f ac).f 1).c))), (474, .v (.int .i64 (((D.f 15).l : Nat) : Int))), (475, .v (.int .i64 ((aa : Nat) : Int))), (603, .v (.int .i64 (((((D.f 15).f aa).f 2).l : Nat) : Int))), (604, .v (.int .i64 ((ac : Nat) : Int))), (625, .v (.bool (decide (v ≥ 0))))]) [0, 6, 44, 46, 57, 59, 61, 474, 475, 603, 604, 625] (fun _ _ _ => by kernel_rfl)) ?_
          refine ch_if (b := decide (v ≥ 0)) (fun _ _ _ => by kernel_rfl) (fun hb => ?_) (fun hb => ?_)
          ·
           exact ch_call (f := 76) (vs := [.int .i64 (((((((D.f 15).f aa).f 2).f ac).f 1).l : Nat) : Int)]) 3 [0, 6, 44, 46, 57, 59, 61, 474, 475, 603, 604] (fun _ _ _ _ _ _ => by kernel_rfl) kz Tryz.call76 (fun A cp s w _ _ ho hr => kAppendCompactArrayLen (((((D.f 15).f aa).f 2).f ac).f 1).l g195l A cp s w ho hr)
          ·
           exact ch_call (f := 77) (vs := [.int .i64 (((((((D.f 15).f aa).f 2).f ac).f 1).l : Nat) : Int)]) 3 [0, 6, 44, 46, 57, 59, 61, 474, 475, 603, 604] (fun _ _ _ _ _ _ => by kernel_rfl) kz Tryz.call77 (fun A cp s w _ _ ho hr => kAppendArrayLen (((((D.f 15).f aa).f 2).f ac).f 1).l A cp s w ho hr)
         ·
          refine ch_seq0 (ch_pure (env' := [(636, .v (.int .i64 0)), (0, .p 0 0), (6, .v (.bool (decide (v ≥ 0)))), (44, .v (.slice ((D.f 15).A) ((D.f 15).l) ((D.f 15).c))), (46, .p 1 0), (57, .v (.slice ((((D.f 15).f aa).f 2).A) ((((D.f 15).f aa).f 2).l) ((((D.f 15).f aa).f 2).c))), (59, .p 2 0), (61, .v (.slice ((((((D.f 15).f aa).f 2).f ac).f 1).A) ((((((D.f 15).f aa).f 2).f ac).f 1).l) ((((((D.f 15).f aa).f 2).f ac).f 1).c))), (474, .v (.int .i64 (((D.f 15).l : Nat) : Int))), (475, .v (.int .i64 ((aa : Nat) : Int))), (603, .v (.int .i64 (((((D.f 15).f aa).f 2).l : Nat) : Int))), (604, .v (.int .i64 ((ac : Nat) : Int))), (635, .v (.int .i64 (((((((D.f 15).f aa).f 2).f ac).f 1).l : Nat) : Int)))]) [636, 0, 6, 44, 46, 57, 59, 61, 474, 475, 603, 604, 635] (fun _ _ _ => by kernel_rfl)) ?_
          refine ch_drop (e1 := [(0, .p 0 0), (6, .v (.bool (decide (v ≥ 0)))), (44, .v (.slice ((D.f 15).A) ((D.f 15).l) ((D.f 15).c))), (46, .p 1 0), (57, .v (.slice ((((D.f 15).f aa).f 2).A) ((((D.f 15).f aa).f 2).l) ((((D.f 15).f aa).f 2).c))), (59, .p 2 0), (61, .v (.slice ((((((D.f 15).f aa).f 2).f ac).f 1).A) ((((((D.f 15).f aa).f 2).f ac).f 1).l) ((((((D.f 15).f aa).f 2).f ac).f 1).c))), (474, .v (.int .i64 (((D.f 15).l : Nat) : Int))), (475, .v (.int .i64 ((aa : Nat) : Int))), (603, .v (.int .i64 (((((D.f 15).f aa).f 2).l : Nat) : Int))), (604, .v (.int .i64 ((ac : Nat) : Int))), (635, .v (.int .i64 (((((((D.f 15).f aa).f 2).f ac).f 1).l : Nat) : Int)))]) [0, 6, 44, 46, 57, 59, 474, 475, 603, 604] (fun _ _ _ => by kernel_rfl) ?_
          refine ch_loop (len := (((((D.f 15).f aa).f 2).f ac).f 1).l) (xs := fun aj => be 4 (((((((D.f 15).f aa).f 2).f ac).f 1).f aj).n)) 636 637 [0, 6, 44, 46, 57, 59, 61, 474, 475, 603, 604, 635] (fun _ _ _ _ => by kernel_rfl) (fun _ _ _ _ => by kernel_rfl) (fun _ _ _ _ _ => by kernel_rfl) (fun _ _ _ _ _ => by kernel_rfl) kz (Nat.le_trans g195l (by decide)) (fun aj aD => ?_)
          refine ch_seq0 (ch_pure (env' := [(0, .p 0 0), (6, .v (.bool (decide (v ≥ 0)))), (44, .v (.slice ((D.f 15).A) ((D.f 15).l) ((D.f 15).c))), (46, .p 1 0), (57, .v (.slice ((((D.f 15).f aa).f 2).A) ((((D.f 15).f aa).f 2).l) ((((D.f 15).f aa).f 2).c))), (59, .p 2 0), (61, .v (.slice ((((((D.f 15).f aa).f 2).f ac).f 1).A) ((((((D.f 15).f aa).f 2).f ac).f 1).l) ((((((D.f 15).f aa).f 2).f ac).f 1).c))), (62, .v (.int .i64 ((aj : Nat) : Int))), (474, .v (.int .i64 (((D.f 15).l : Nat) : Int))), (475, .v (.int .i64 ((aa : Nat) : Int))), (603, .v (.int .i64 (((((D.f 15).f aa).f 2).l : Nat) : Int))), (604, .v (.int .i64 ((ac : Nat) : Int))), (635, .v (.int .i64 (((((((D.f 15).f aa).f 2).f ac).f 1).l : Nat) : Int))), (636, .v (.int .i64 ((aj : Nat) : Int)))]) [0, 6, 44, 46, 57, 59, 61, 62, 474, 475, 603, 604, 635, 636] (fun _ _ _ => by kernel_rfl)) ?_
          refine ch_elem (t := 143) (e := 21) (size := 1) (bytes := 4) (len := (((((D.f 15).f aa).f 2).f ac).f 1).l) (j := aj) (cs := fun i => [.int .i32 (((((((D.f 15).f aa).f 2).f ac).f 1).f i).n)]) (e1 := [(0, .p 0 0), (6, .v (.bool (decide (v ≥ 0)))), (44, .v (.slice ((D.f 15).A) ((D.f 15).l) ((D.f 15).c))), (46, .p 1 0), (57, .v (.slice ((((D.f 15).f aa).f 2).A) ((((D.f 15).f aa).f 2).l) ((((D.f 15).f aa).f 2).c))), (59, .p 2 0), (61, .v (.slice ((((((D.f 15).f aa).f 2).f ac).f 1).A) ((((((D.f 15).f aa).f 2).f ac).f 1).l) ((((((D.f 15).f aa).f 2).f ac).f 1).c))), (63, .v (.int .i32 (((((((D.f 15).f aa).f 2).f ac).f 1).f aj).n))), (474, .v (.int .i64 (((D.f 15).l : Nat) : Int))), (475, .v (.int .i64 ((aa : Nat) : Int))), (603, .v (.int .i64 (((((D.f 15).f aa).f 2).l : Nat) : Int))), (604, .v (.int .i64 ((ac : Nat) : Int))), (635, .v (.int .i64 (((((((D.f 15).f aa).f 2).f ac).f 1).l : Nat) : Int))), (636, .v (.int .i64 ((aj : Nat) : Int)))]) 2 [0, 6, 44, 46, 57, 59, 61, 63, 474, 475, 603, 604, 635, 636] (fun _ _ _ _ _ => by kernel_rfl) kz kz bw aD hF kz kz kz fun bb3 oo3 hat3 => ?_
          have bO := g195e aj aD
          exact ch_call (f := 99) (vs := [.int .i32 (((((((D.f 15).f aa).f 2).f ac).f 1).f aj).n)]) 2 [636, 0, 6, 44, 46, 57, 59, 61, 474, 475, 603, 604, 635] (fun _ _ _ _ _ _ => by kernel_rfl) kz Tryz.call99 (fun A cp s w _ _ ho hr => kAppendInt32 A cp s (((((((D.f 15).f aa).f 2).f ac).f 1).f aj).n) w ho (by omega))
        ·
         refine ch_seq0 (ch_pure (env' := [(0, .p 0 0), (6, .v (.bool (decide (v ≥ 0)))), (44, .v (.slice ((D.f 15).A) ((D.f 15).l) ((D.f 15).c))), (46, .p 1 0), (57, .v (.slice ((((D.f 15).f aa).f 2).A) ((((D.f 15).f aa).f 2).l) ((((D.f 15).f aa).f 2).c))), (59, .p 2 0), (474, .v (.int .i64 (((D.f 15).l : Nat) : Int))), (475, .v (.int .i64 ((aa : Nat) : Int))), (603, .v (.int .i64 (((((D.f 15).f aa).f 2).l : Nat) : Int))), (604, .v (.int .i64 ((ac : Nat) : Int))), (647, .v (.bool (decide (v ≥ 0))))]) [0, 6, 44, 46, 57, 59, 474, 475, 603, 604, 647] (fun _ _ _ => by kernel_rfl)) ?_
         refine ch_when (b := decide (v ≥ 0)) (fun _ _ _ => by kernel_rfl) (fun hb => ?_) (fun hb => ?_)
         ·
          refine ch_seq (e1 := [(0, .p 0 0), (6, .v (.bool (decide (v ≥ 0)))), (44, .v (.slice ((D.f 15).A) ((D.f 15).l) ((D.f 15).c))), (46, .p 1 0), (57, .v (.slice ((((D.f 15).f aa).f 2).A) ((((D.f 15).f aa).f 2).l) ((((D.f 15).f aa).f 2).c))), (59, .p 2 0), (474, .v (.int .i64 (((D.f 15).l : Nat) : Int))), (475, .v (.int .i64 ((aa : Nat) : Int))), (603, .v (.int .i64 (((((D.f 15).f aa).f 2).l : Nat) : Int))), (604, .v (.int .i64 ((ac : Nat) : Int)))]) ?_ ?_
          ·
           exact ch_call2 (f1 := 83) (vs1 := [.pointer (some ⟨bb2, oo2 + 2, none⟩)]) (r1 := .int .i64 ((((((D.f 15).f aa).f 2).f ac).u.length : Nat) : Int)) (f := 82) (vs := [.int .u32 (IntKind.u32.wrap (0 + (IntKind.u32.wrap ((((((D.f 15).f aa).f 2).f ac).u.length : Nat) : Int))))]) 4 7 [0, 6, 44, 46, 57, 59, 474, 475, 603, 604] (fun _ _ _ _ _ _ => by kernel_rfl) kz Tryz.call83 Tryz.call82 (fun w hs => kTagsLen (F := Lo F _) ((hat2.one 2 rfl).move hs (lo_M hF) lo_F) (aV.move hs (lo_M hF) lo_F)) (fun A cp s w _ _ ho hr => by rw [show (IntKind.u32.wrap (0 + (IntKind.u32.wrap ((((((D.f 15).f aa).f 2).f ac).u.length : Nat) : Int))) : Int) = ((((((D.f 15).f aa).f 2).f ac).u.length : Nat) : Int) from wrap_u32_len _ g196l]; exact kAppendUvarint ((((D.f 15).f aa).f 2).f ac).u.length (by have := g196l; omega) A cp s w ho hr)
          ·
           exact ch_callG (f := 84) 4 [604, 0, 6, 44, 46, 57, 474, 475, 603] (fun s => [.pointer (some ⟨bb2, oo2 + 2, none⟩), s]) (fun _ _ _ _ _ _ => by kernel_rfl) kz Tryz.call84 (fun A cp s w hs hA ho hr => kAppendEach (F := Lo F _) ((hat2.one 2 rfl).move hs (lo_M hF) lo_F) (aV.move hs (lo_M hF) lo_F) ho (lo_dis hF hA) g196x hr)
         ·exact ch_pick (e1 := [(604, .v (.int .i64 ((ac : Nat) : Int))), (0, .p 0 0), (6, .v (.bool (decide (v ≥ 0)))), (44, .v (.slice ((D.f 15).A) ((D.f 15).l) ((D.f 15).c))), (46, .p 1 0), (57, .v (.slice ((((D.f 15).f aa).f 2).A) ((((D.f 15).f aa).f 2).l) ((((D.f 15).f aa).f 2).c))), (474, .v (.int .i64 (((D.f 15).l : Nat) : Int))), (475, .v (.int .i64 ((aa : Nat) : Int))), (603, .v (.int .i64 (((((D.f 15).f aa).f 2).l : Nat) : Int)))]) [604, 0, 6, 44, 46, 57, 474, 475, 603] (fun _ _ _ => by kernel_rfl) ch_skip
     ·
      refine ch_seq0 (ch_pure (env' := [(0, .p 0 0), (6, .v (.bool (decide (v ≥ 0)))), (44, .v (.slice ((D.f 15).A) ((D.f 15).l) ((D.f 15).c))), (46, .p 1 0), (474, .v (.int .i64 (((D.f 15).l : Nat) : Int))), (475, .v (.int .i64 ((aa : Nat) : Int))), (662, .v (.bool (decide (v ≥ 0))))]) [0, 6, 44, 46, 474, 475, 662] (fun _ _ _ => by kernel_rfl)) ?_
      refine ch_when (b := decide (v ≥ 0)) (fun _ _ _ => by kernel_rfl) (fun hb => ?_) (fun hb => ?_)
      ·
       refine ch_seq (e1 := [(0, .p 0 0), (6, .v (.bool (decide (v ≥ 0)))), (44, .v (.slice ((D.f 15).A) ((D.f 15).l) ((D.f 15).c))), (46, .p 1 0), (474, .v (.int .i64 (((D.f 15).l : Nat) : Int))), (475, .v (.int .i64 ((aa : Nat) : Int)))]) ?_ ?_
       ·
        exact ch_call2 (f1 := 83) (vs1 := [.pointer (some ⟨bb1, oo1 + 5, none⟩)]) (r1 := .int .i64 ((((D.f 15).f aa).u.length : Nat) : Int)) (f := 82) (vs := [.int .u32 (IntKind.u32.wrap (0 + (IntKind.u32.wrap ((((D.f 15).f aa).u.length : Nat) : Int))))]) 4 7 [0, 6, 44, 46, 474, 475] (fun _ _ _ _ _ _ => by kernel_rfl) kz Tryz.call83 Tryz.call82 (fun w hs => kTagsLen (F := Lo F _) ((hat1.one 5 rfl).move hs (lo_M hF) lo_F) (aQ.move hs (lo_M hF) lo_F)) (fun A cp s w _ _ ho hr => by rw [show (IntKind.u32.wrap (0 + (IntKind.u32.wrap ((((D.f 15).f aa).u.length : Nat) : Int))) : Int) = ((((D.f 15).f aa).u.length : Nat) : Int) from wrap_u32_len _ g181l]; exact kAppendUvarint ((D.f 15).f aa).u.length (by have := g181l; omega) A cp s w ho hr)
       ·
        exact ch_callG (f := 84) 4 [475, 0, 6, 44, 474] (fun s => [.pointer (some ⟨bb1, oo1 + 5, none⟩), s]) (fun _ _ _ _ _ _ => by kernel_rfl) kz Tryz.call84 (fun A cp s w hs hA ho hr => kAppendEach (F := Lo F _) ((hat1.one 5 rfl).move hs (lo_M hF) lo_F) (aQ.move hs (lo_M hF) lo_F) ho (lo_dis hF hA) g181x hr)
      ·exact ch_pick (e1 := [(475, .v (.int .i64 ((aa : Nat) : Int))), (0, .p 0 0), (6, .v (.bool (decide (v ≥ 0)))), (44, .v (.slice ((D.f 15).A) ((D.f 15).l) ((D.f 15).c))), (474, .v (.int .i64 (((D.f 15).l : Nat) : Int)))]) [475, 0, 6, 44, 474] (fun _ _ _ => by kernel_rfl) ch_skip
 refine chr_seq (e1 := []) ?_ ?_
 ·
  refine ch_seq0 (ch_pure (env' := [(0, .p 0 0), (677, .v (.bool (decide (v ≥ 0))))]) [0, 677] (fun _ _ _ => by kernel_rfl)) ?_
  refine ch_when (b := decide (v ≥ 0)) (fun _ _ _ => by kernel_rfl) (fun hb => ?_) (fun hb => ?_)
  ·
   refine ch_seq (e1 := [(0, .p 0 0)]) ?_ ?_
   ·
    exact ch_call2 (f1 := 83) (vs1 := [.pointer (some ⟨b, o + 17, none⟩)]) (r1 := .int .i64 ((D.u.length : Nat) : Int)) (f := 82) (vs := [.int .u32 (IntKind.u32.wrap (0 + (IntKind.u32.wrap ((D.u.length : Nat) : Int))))]) 4 7 [0] (fun _ _ _ _ _ _ => by kernel_rfl) kz Tryz.call83 Tryz.call82 (fun w hs => kTagsLen (F := Lo F _) ((hat.one 17 rfl).move hs (lo_M hF) lo_F) (aF.move hs (lo_M hF) lo_F)) (fun A cp s w _ _ ho hr => by rw [show (IntKind.u32.wrap (0 + (IntKind.u32.wrap ((D.u.length : Nat) : Int))) : Int) = ((D.u.length : Nat) : Int) from wrap_u32_len _ g149l]; exact kAppendUvarint D.u.length (by have := g149l; omega) A cp s w ho hr)
   ·
    exact ch_callG (f := 84) 4 [] (fun s => [.pointer (some ⟨b, o + 17, none⟩), s]) (fun _ _ _ _ _ _ => by kernel_rfl) kz Tryz.call84 (fun A cp s w hs hA ho hr => kAppendEach (F := Lo F _) ((hat.one 17 rfl).move hs (lo_M hF) lo_F) (aF.move hs (lo_M hF) lo_F) ho (lo_dis hF hA) g149x hr)
  ·exact ch_pick (e1 := []) [] (fun _ _ _ => by kernel_rfl) ch_skip
 exact chr_end (fun _ _ _ => by kernel_rfl)
def relStreamsGroupHeartbeatResponseStatus (D : DV) (T : Tree) : Prop := ((D.f 0).n = IntKind.i8.wrap (T.at_ 0).N) ∧ ((D.f 1).s = bs (T.at_ 1).S) ∧ D.u = T.U ∧ True
def relTaskIDs (D : DV) (T : Tree) : Prop := ((D.f 0).s = bs (T.at_ 0).S) ∧ ((D.f 1).A.isNone = (T.at_ 1).null ∧ (D.f 1).l = (lst (T.at_ 1)).length ∧ ∀ i, i < (D.f 1).l → ((D.f 1).f i).n = IntKind.i32.wrap ((lst (T.at_ 1)).getD i .zero).N) ∧ D.u = T.U ∧ True
def relEndpoint (D : DV) (T : Tree) : Prop := ((D.f 0).s = bs (T.at_ 0).S) ∧ ((D.f 1).n = IntKind.u16.wrap (T.at_ 1).N) ∧ D.u = T.U ∧ True
def relStreamsGroupHeartbeatResponsePartitionsByUserEndpointActivePartition (D : DV) (T : Tree) : Prop := ((D.f 0).s = bs (T.at_ 0).S) ∧ ((D.f 1).A.isNone = (T.at_ 1).null ∧ (D.f 1).l = (lst (T.at_ 1)).length ∧ ∀ i, i < (D.f 1).l → ((D.f 1).f i).n = IntKind.i32.wrap ((lst (T.at_ 1)).getD i .zero).N) ∧ D.u = T.U ∧ True
def relStreamsGroupHeartbeatResponsePartitionsByUserEndpointStandbyPartition (D : DV) (T : Tree) : Prop := ((D.f 0).s = bs (T.at_ 0).S) ∧ ((D.f 1).A.isNone = (T.at_ 1).null ∧ (D.f 1).l = (lst (T.at_ 1)).length ∧ ∀ i, i < (D.f 1).l → ((D.f 1).f i).n = IntKind.i32.wrap ((lst (T.at_ 1)).getD i .zero).N) ∧ D.u = T.U ∧ True
def relStreamsGroupHeartbeatResponsePartitionsByUserEndpoint (D : DV) (T : Tree) : Prop := (relEndpoint (D.f 0) (T.at_ 0)) ∧ ((D.f 1).A.isNone = (T.at_ 1).null ∧ (D.f 1).l = (lst (T.at_ 1)).length ∧ ∀ i, i < (D.f 1).l → relStreamsGroupHeartbeatResponsePartitionsByUserEndpointActivePartition ((D.f 1).f i) ((lst (T.at_ 1)).getD i .zero)) ∧ ((D.f 2).A.isNone = (T.at_ 2).null ∧ (D.f 2).l = (lst (T.at_ 2)).length ∧ ∀ i, i < (D.f 2).l → relStreamsGroupHeartbeatResponsePartitionsByUserEndpointStandbyPartition ((D.f 2).f i) ((lst (T.at_ 2)).getD i .zero)) ∧ D.u = T.U ∧ True
def relStreamsGroupHeartbeatResponse (D : DV) (T : Tree) : Prop := ((D.f 0).n = IntKind.i32.wrap (T.at_ 0).N) ∧ ((D.f 1).n = IntKind.i16.wrap (T.at_ 1).N) ∧ ((D.f 2).s = bs (octOf (T.at_ 2)) ∧ (D.f 2).A.isNone = (T.at_ 2).null) ∧ ((D.f 3).s = bs (T.at_ 3).S) ∧ ((D.f 4).n = IntKind.i32.wrap (T.at_ 4).N) ∧ ((D.f 5).n = IntKind.i32.wrap (T.at_ 5).N) ∧ ((D.f 6).n = IntKind.i32.wrap (T.at_ 6).N) ∧ ((D.f 7).n = IntKind.i32.wrap (T.at_ 7).N) ∧ ((D.f 8).n = (T.at_ 8).N) ∧ ((D.f 9).A.isNone = (T.at_ 9).null ∧ (D.f 9).l = (lst (T.at_ 9)).length ∧ ∀ i, i < (D.f 9).l → relStreamsGroupHeartbeatResponseStatus ((D.f 9).f i) ((lst (T.at_ 9)).getD i .zero)) ∧ ((D.f 10).A.isNone = (T.at_ 10).null ∧ (D.f 10).l = (lst (T.at_ 10)).length ∧ ∀ i, i < (D.f 10).l → relTaskIDs ((D.f 10).f i) ((lst (T.at_ 10)).getD i .zero)) ∧ ((D.f 11).A.isNone = (T.at_ 11).null ∧ (D.f 11).l = (lst (T.at_ 11)).length ∧ ∀ i, i < (D.f 11).l → relTaskIDs ((D.f 11).f i) ((lst (T.at_ 11)).getD i .zero)) ∧ ((D.f 12).A.isNone = (T.at_ 12).null ∧ (D.f 12).l = (lst (T.at_ 12)).length ∧ ∀ i, i < (D.f 12).l → relTaskIDs ((D.f 12).f i) ((lst (T.at_ 12)).getD i .zero)) ∧ ((D.f 13).b = decide ((T.at_ 13).N % 2 = 1)) ∧ ((D.f 14).n = IntKind.i32.wrap (T.at_ 14).N) ∧ ((D.f 15).A.isNone = (T.at_ 15).null ∧ (D.f 15).l = (lst (T.at_ 15)).length ∧ ∀ i, i < (D.f 15).l → relStreamsGroupHeartbeatResponsePartitionsByUserEndpoint ((D.f 15).f i) ((lst (T.at_ 15)).getD i .zero)) ∧ D.u = T.U ∧ True
def tStreamsGroupHeartbeatResponse (v : Int) (T : Tree) : Bs := (be 4 ((IntKind.i32.wrap (T.at_ 0).N))) ++ ((be 2 ((IntKind.i16.wrap (T.at_ 1).N))) ++ ((if (decide (v ≥ 0)) = true then (if (T.at_ 2).null = true then uv 0 else uv ((octOf (T.at_ 2)).length + 1) ++ (octOf (T.at_ 2))) else (if (T.at_ 2).null = true then be 2 (-1) else be 2 (octOf (T.at_ 2)).length ++ (octOf (T.at_ 2)))) ++ ((if (decide (v ≥ 0)) = true then (uv ((T.at_ 3).S.length + 1) ++ (T.at_ 3).S) else (be 2 (T.at_ 3).S.length ++ (T.at_ 3).S)) ++ ((be 4 ((IntKind.i32.wrap (T.at_ 4).N))) ++ ((be 4 ((IntKind.i32.wrap (T.at_ 5).N))) ++ ((if ((if (decide (v ≥ 0)) = true then decide (v ≤ 0) else false)) = true then be 4 ((IntKind.i32.wrap (T.at_ 6).N)) else []) ++ ((be 4 ((IntKind.i32.wrap (T.at_ 7).N))) ++ ((if (decide (v ≥ 1)) = true then be 8 ((T.at_ 8).N) else []) ++ (((if (decide (v ≥ 0)) = true then (if (T.at_ 9).null = true then uv 0 else uv ((lst (T.at_ 9)).length + 1)) else (if (T.at_ 9).null = true then be 4 (-1) else be 4 (lst (T.at_ 9)).length)) ++ ((lst (T.at_ 9)).flatMap fun ah => (be 1 ((IntKind.i8.wrap (ah.at_ 0).N))) ++ ((if (decide (v ≥ 0)) = true then (uv ((ah.at_ 1).S.length + 1) ++ (ah.at_ 1).S) else (be 2 (ah.at_ 1).S.length ++ (ah.at_ 1).S)) ++ (if (decide (v ≥ 0)) = true then (uv ah.U.length) ++ (tagsR ah.U) else [])))) ++ (((if (decide (v ≥ 0)) = true then (if (T.at_ 10).null = true then uv 0 else uv ((lst (T.at_ 10)).length + 1)) else (if (T.at_ 10).null = true then be 4 (-1) else be 4 (lst (T.at_ 10)).length)) ++ ((lst (T.at_ 10)).flatMap fun ab => (if (decide (v ≥ 0)) = true then (uv ((ab.at_ 0).S.length + 1) ++ (ab.at_ 0).S) else (be 2 (ab.at_ 0).S.length ++ (ab.at_ 0).S)) ++ (((if (decide (v ≥ 0)) = true then (uv ((lst (ab.at_ 1)).length + 1)) else (be 4 (lst (ab.at_ 1)).length)) ++ ((lst (ab.at_ 1)).flatMap fun ai => be 4 ((IntKind.i32.wrap ai.N)))) ++ (if (decide (v ≥ 0)) = true then (uv ab.U.length) ++ (tagsR ab.U) else [])))) ++ (((if (decide (v ≥ 0)) = true then (if (T.at_ 11).null = true then uv 0 else uv ((lst (T.at_ 11)).length + 1)) else (if (T.at_ 11).null = true then be 4 (-1) else be 4 (lst (T.at_ 11)).length)) ++ ((lst (T.at_ 11)).flatMap fun ac => (if (decide (v ≥ 0)) = true then (uv ((ac.at_ 0).S.length + 1) ++ (ac.at_ 0).S) else (be 2 (ac.at_ 0).S.length ++ (ac.at_ 0).S)) ++ (((if (decide (v ≥ 0)) = true then (uv ((lst (ac.at_ 1)).length + 1)) else (be 4 (lst (ac.at_ 1)).length)) ++ ((lst (ac.at_ 1)).flatMap fun aj => be 4 ((IntKind.i32.wrap aj.N)))) ++ (if (decide (v ≥ 0)) = true then (uv ac.U.length) ++ (tagsR ac.U) else [])))) ++ (((if (decide (v ≥ 0)) = true then (if (T.at_ 12).null = true then uv 0 else uv ((lst (T.at_ 12)).length + 1)) else (if (T.at_ 12).null = true then be 4 (-1) else be 4 (lst (T.at_ 12)).length)) ++ ((lst (T.at_ 12)).flatMap fun ae => (if (decide (v ≥ 0)) = true then (uv ((ae.at_ 0).S.length + 1) ++ (ae.at_ 0).S) else (be 2 (ae.at_ 0).S.length ++ (ae.at_ 0).S)) ++ (((if (decide (v ≥ 0)) = true then (uv ((lst (ae.at_ 1)).length + 1)) else (be 4 (lst (ae.at_ 1)).length)) ++ ((lst (ae.at_ 1)).flatMap fun ak => be 4 ((IntKind.i32.wrap ak.N)))) ++ (if (decide (v ≥ 0)) = true then (uv ae.U.length) ++ (tagsR ae.U) else [])))) ++ ((if (decide (v ≥ 1)) = true then [by8 (if (decide ((T.at_ 13).N % 2 = 1)) then 1 else 0)] else []) ++ ((be 4 ((IntKind.i32.wrap (T.at_ 14).N))) ++ (((if (decide (v ≥ 0)) = true then (if (T.at_ 15).null = true then uv 0 else uv ((lst (T.at_ 15)).length + 1)) else (if (T.at_ 15).null = true then be 4 (-1) else be 4 (lst (T.at_ 15)).length)) ++ ((lst (T.at_ 15)).flatMap fun aa => ((if (decide (v ≥ 0)) = true then (uv (((aa.at_ 0).at_ 0).S.length + 1) ++ ((aa.at_ 0).at_ 0).S) else (be 2 ((aa.at_ 0).at_ 0).S.length ++ ((aa.at_ 0).at_ 0).S)) ++ ((be 2 ((IntKind.u16.wrap ((aa.at_ 0).at_ 1).N))) ++ (if (decide (v ≥ 0)) = true then (uv (aa.at_ 0).U.length) ++ (tagsR (aa.at_ 0).U) else []))) ++ (((if (decide (v ≥ 0)) = true then (uv ((lst (aa.at_ 1)).length + 1)) else (be 4 (lst (aa.at_ 1)).length)) ++ ((lst (aa.at_ 1)).flatMap fun af => (if (decide (v ≥ 0)) = true then (uv ((af.at_ 0).S.length + 1) ++ (af.at_ 0).S) else (be 2 (af.at_ 0).S.length ++ (af.at_ 0).S)) ++ (((if (decide (v ≥ 0)) = true then (uv ((lst (af.at_ 1)).length + 1)) else (be 4 (lst (af.at_ 1)).length)) ++ ((lst (af.at_ 1)).flatMap fun al => be 4 ((IntKind.i32.wrap al.N)))) ++ (if (decide (v ≥ 0)) = true then (uv af.U.length) ++ (tagsR af.U) else [])))) ++ (((if (decide (v ≥ 0)) = true then (uv ((lst (aa.at_ 2)).length + 1)) else (be 4 (lst (aa.at_ 2)).length)) ++ ((lst (aa.at_ 2)).flatMap fun ag => (if (decide (v ≥ 0)) = true then (uv ((ag.at_ 0).S.length + 1) ++ (ag.at_ 0).S) else (be 2 (ag.at_ 0).S.length ++ (ag.at_ 0).S)) ++ (((if (decide (v ≥ 0)) = true then (uv ((lst (ag.at_ 1)).length + 1)) else (be 4 (lst (ag.at_ 1)).length)) ++ ((lst (ag.at_ 1)).flatMap fun am => be 4 ((IntKind.i32.wrap am.N)))) ++ (if (decide (v ≥ 0)) = true then (uv ag.U.length) ++ (tagsR ag.U) else [])))) ++ (if (decide (v ≥ 0)) = true then (uv aa.U.length) ++ (tagsR aa.U) else []))))) ++ ((if (decide (v ≥ 0)) = true then (uv T.U.length) ++ (tagsR T.U) else []) ++ ([])))))))))))))))))
theorem atStreamsGroupHeartbeatResponse (v : Int) (D : DV) (T : Tree) (h : relStreamsGroupHeartbeatResponse D T) : aStreamsGroupHeartbeatResponse v D = tStreamsGroupHeartbeatResponse v T := by
 unfold relStreamsGroupHeartbeatResponse at h
 obtain ⟨aR, aS, ⟨aT, r201n⟩, aU, aV, aW, aX, aY, aZ, ⟨r208n, r208l, r208e⟩, ⟨r209n, r209l, r209e⟩, ⟨r210n, r210l, r210e⟩, ⟨r211n, r211l, r211e⟩, ba, bd, ⟨r214n, r214l, r214e⟩, bf, _⟩ := h
 unfold aStreamsGroupHeartbeatResponse tStreamsGroupHeartbeatResponse
 have bg : ((List.range (D.f 9).l).flatMap fun ap => (be 1 ((((D.f 9).f ap).f 0).n)) ++ ((if (decide (v ≥ 0)) = true then (uv ((((D.f 9).f ap).f 1).s.size + 1) ++ sb (((D.f 9).f ap).f 1).s) else (be 2 (((D.f 9).f ap).f 1).s.size ++ sb (((D.f 9).f ap).f 1).s)) ++ (if (decide (v ≥ 0)) = true then (uv ((D.f 9).f ap).u.length) ++ (tagsR ((D.f 9).f ap).u) else []))) = ((lst (T.at_ 9)).flatMap fun ao => (be 1 ((IntKind.i8.wrap (ao.at_ 0).N))) ++ ((if (decide (v ≥ 0)) = true then (uv ((ao.at_ 1).S.length + 1) ++ (ao.at_ 1).S) else (be 2 (ao.at_ 1).S.length ++ (ao.at_ 1).S)) ++ (if (decide (v ≥ 0)) = true then (uv ao.U.length) ++ (tagsR ao.U) else []))) := flat_rel r208l fun ap hk => by
  have aE := r208e ap hk
  generalize (lst (T.at_ 9)).getD ap .zero = ao at aE ⊢
  unfold relStreamsGroupHeartbeatResponseStatus at aE
  obtain ⟨bh, bi, bj, _⟩ := aE
  simp only [bh, bi, bj, sb_bs, bs_size]
 have bk : ((List.range (D.f 10).l).flatMap fun ak => (if (decide (v ≥ 0)) = true then (uv ((((D.f 10).f ak).f 0).s.size + 1) ++ sb (((D.f 10).f ak).f 0).s) else (be 2 (((D.f 10).f ak).f 0).s.size ++ sb (((D.f 10).f ak).f 0).s)) ++ (((if (decide (v ≥ 0)) = true then (uv ((((D.f 10).f ak).f 1).l + 1)) else (be 4 (((D.f 10).f ak).f 1).l)) ++ ((List.range (((D.f 10).f ak).f 1).l).flatMap fun aB => be 4 (((((D.f 10).f ak).f 1).f aB).n))) ++ (if (decide (v ≥ 0)) = true then (uv ((D.f 10).f ak).u.length) ++ (tagsR ((D.f 10).f ak).u) else []))) = ((lst (T.at_ 10)).flatMap fun ah => (if (decide (v ≥ 0)) = true then (uv ((ah.at_ 0).S.length + 1) ++ (ah.at_ 0).S) else (be 2 (ah.at_ 0).S.length ++ (ah.at_ 0).S)) ++ (((if (decide (v ≥ 0)) = true then (uv ((lst (ah.at_ 1)).length + 1)) else (be 4 (lst (ah.at_ 1)).length)) ++ ((lst (ah.at_ 1)).flatMap fun ax => be 4 ((IntKind.i32.wrap ax.N)))) ++ (if (decide (v ≥ 0)) = true then (uv ah.U.length) ++ (tagsR ah.U) else []))) := flat_rel r209l fun ak hk => by
  have aF := r209e ak hk
  generalize (lst (T.at_ 10)).getD ak .zero = ah at aF ⊢
  unfold relTaskIDs at aF
  obtain ⟨bn, ⟨r224n, r224l, r224e⟩, bp, _⟩ := aF
  have bq : ((List.range (((D.f 10).f ak).f 1).l).flatMap fun aB => be 4 (((((D.f 10).f ak).f 1).f aB).n)) = ((lst (ah.at_ 1)).flatMap fun ax => be 4 ((IntKind.i32.wrap ax.N))) := flat_rel r224l fun aB hk => by
   have aL := r224e aB hk
   generalize (lst (ah.at_ 1)).getD aB .zero = ax at aL ⊢
   simp only [aL, sb_bs, bs_size]
  rw [bq]
  simp only [bn, r224n, r224l, bp, sb_bs, bs_size]
 have br : ((List.range (D.f 11).l).flatMap fun al => (if (decide (v ≥ 0)) = true then (uv ((((D.f 11).f al).f 0).s.size + 1) ++ sb (((D.f 11).f al).f 0).s) else (be 2 (((D.f 11).f al).f 0).s.size ++ sb (((D.f 11).f al).f 0).s)) ++ (((if (decide (v ≥ 0)) = true then (uv ((((D.f 11).f al).f 1).l + 1)) else (be 4 (((D.f 11).f al).f 1).l)) ++ ((List.range (((D.f 11).f al).f 1).l).flatMap fun aC => be 4 (((((D.f 11).f al).f 1).f aC).n))) ++ (if (decide (v ≥ 0)) = true then (uv ((D.f 11).f al).u.length) ++ (tagsR ((D.f 11).f al).u) else []))) = ((lst (T.at_ 11)).flatMap fun ai => (if (decide (v ≥ 0)) = true then (uv ((ai.at_ 0).S.length + 1) ++ (ai.at_ 0).S) else (be 2 (ai.at_ 0).S.length ++ (ai.at_ 0).S)) ++ (((if (decide (v ≥ 0)) = true then (uv ((lst (ai.at_ 1)).length + 1)) else (be 4 (lst (ai.at_ 1)).length)) ++ ((lst (ai.at_ 1)).flatMap fun ay => be 4 ((IntKind.i32.wrap ay.N)))) ++ (if (decide (v ≥ 0)) = true then (uv ai.U.length) ++ (tagsR ai.U) else []))) := flat_rel r210l fun al hk => by
  have aG := r210e al hk
  generalize (lst (T.at_ 11)).getD al .zero = ai at aG ⊢
  unfold relTaskIDs at aG
  obtain ⟨bt, ⟨r231n, r231l, r231e⟩, bu, _⟩ := aG
  have bv : ((List.range (((D.f 11).f al).f 1).l).flatMap fun aC => be 4 (((((D.f 11).f al).f 1).f aC).n)) = ((lst (ai.at_ 1)).flatMap fun ay => be 4 ((IntKind.i32.wrap ay.N))) := flat_rel r231l fun aC hk => by
   have aM := r231e aC hk
   generalize (lst (ai.at_ 1)).getD aC .zero = ay at aM ⊢
   simp only [aM, sb_bs, bs_size]
  rw [bv]
  simp only [bt, r231n, r231l, bu, sb_bs, bs_size]
 have bw : ((List.range (D.f 12).l).flatMap fun am => (if (decide (v ≥ 0)) = true then (uv ((((D.f 12).f am).f 0).s.size + 1) ++ sb (((D.f 12).f am).f 0).s) else (be 2 (((D.f 12).f am).f 0).s.size ++ sb (((D.f 12).f am).f 0).s)) ++ (((if (decide (v ≥ 0)) = true then (uv ((((D.f 12).f am).f 1).l + 1)) else (be 4 (((D.f 12).f am).f 1).l)) ++ ((List.range (((D.f 12).f am).f 1).l).flatMap fun aD => be 4 (((((D.f 12).f am).f 1).f aD).n))) ++ (if (decide (v ≥ 0)) = true then (uv ((D.f 12).f am).u.length) ++ (tagsR ((D.f 12).f am).u) else []))) = ((lst (T.at_ 12)).flatMap fun aj => (if (decide (v ≥ 0)) = true then (uv ((aj.at_ 0).S.length + 1) ++ (aj.at_ 0).S) else (be 2 (aj.at_ 0).S.length ++ (aj.at_ 0).S)) ++ (((if (decide (v ≥ 0)) = true then (uv ((lst (aj.at_ 1)).length + 1)) else (be 4 (lst (aj.at_ 1)).length)) ++ ((lst (aj.at_ 1)).flatMap fun aA => be 4 ((IntKind.i32.wrap aA.N)))) ++ (if (decide (v ≥ 0)) = true then (uv aj.U.length) ++ (tagsR aj.U) else []))) := flat_rel r211l fun am hk => by
  have aH := r211e am hk
  generalize (lst (T.at_ 12)).getD am .zero = aj at aH ⊢
  unfold relTaskIDs at aH
  obtain ⟨bz, ⟨r238n, r238l, r238e⟩, bA, _⟩ := aH
  have bB : ((List.range (((D.f 12).f am).f 1).l).flatMap fun aD => be 4 (((((D.f 12).f am).f 1).f aD).n)) = ((lst (aj.at_ 1)).flatMap fun aA => be 4 ((IntKind.i32.wrap aA.N))) := flat_rel r238l fun aD hk => by
   have aN := r238e aD hk
   generalize (lst (aj.at_ 1)).getD aD .zero = aA at aN ⊢
   simp only [aN, sb_bs, bs_size]
  rw [bB]
  simp only [bz, r238n, r238l, bA, sb_bs, bs_size]
 have bC : ((List.range (D.f 15).l).flatMap fun aa => ((if (decide (v ≥ 0)) = true then (uv (((((D.f 15).f aa).f 0).f 0).s.size + 1) ++ sb ((((D.f 15).f aa).f 0).f 0).s) else (be 2 ((((D.f 15).f aa).f 0).f 0).s.size ++ sb ((((D.f 15).f aa).f 0).f 0).s)) ++ ((be 2 (((((D.f 15).f aa).f 0).f 1).n)) ++ (if (decide (v ≥ 0)) = true then (uv (((D.f 15).f aa).f 0).u.length) ++ (tagsR (((D.f 15).f aa).f 0).u) else []))) ++ (((if (decide (v ≥ 0)) = true then (uv ((((D.f 15).f aa).f 1).l + 1)) else (be 4 (((D.f 15).f aa).f 1).l)) ++ ((List.range (((D.f 15).f aa).f 1).l).flatMap fun af => (if (decide (v ≥ 0)) = true then (uv ((((((D.f 15).f aa).f 1).f af).f 0).s.size + 1) ++ sb (((((D.f 15).f aa).f 1).f af).f 0).s) else (be 2 (((((D.f 15).f aa).f 1).f af).f 0).s.size ++ sb (((((D.f 15).f aa).f 1).f af).f 0).s)) ++ (((if (decide (v ≥ 0)) = true then (uv ((((((D.f 15).f aa).f 1).f af).f 1).l + 1)) else (be 4 (((((D.f 15).f aa).f 1).f af).f 1).l)) ++ ((List.range (((((D.f 15).f aa).f 1).f af).f 1).l).flatMap fun av => be 4 (((((((D.f 15).f aa).f 1).f af).f 1).f av).n))) ++ (if (decide (v ≥ 0)) = true then (uv ((((D.f 15).f aa).f 1).f af).u.length) ++ (tagsR ((((D.f 15).f aa).f 1).f af).u) else [])))) ++ (((if (decide (v ≥ 0)) = true then (uv ((((D.f 15).f aa).f 2).l + 1)) else (be 4 (((D.f 15).f aa).f 2).l)) ++ ((List.range (((D.f 15).f aa).f 2).l).flatMap fun ag => (if (decide (v ≥ 0)) = true then (uv ((((((D.f 15).f aa).f 2).f ag).f 0).s.size + 1) ++ sb (((((D.f 15).f aa).f 2).f ag).f 0).s) else (be 2 (((((D.f 15).f aa).f 2).f ag).f 0).s.size ++ sb (((((D.f 15).f aa).f 2).f ag).f 0).s)) ++ (((if (decide (v ≥ 0)) = true then (uv ((((((D.f 15).f aa).f 2).f ag).f 1).l + 1)) else (be 4 (((((D.f 15).f aa).f 2).f ag).f 1).l)) ++ ((List.range (((((D.f 15).f aa).f 2).f ag).f 1).l).flatMap fun aw => be 4 (((((((D.f 15).f aa).f 2).f ag).f 1).f aw).n))) ++ (if (decide (v ≥ 0)) = true then (uv ((((D.f 15).f aa).f 2).f ag).u.length) ++ (tagsR ((((D.f 15).f aa).f 2).f ag).u) else [])))) ++ (if (decide (v ≥ 0)) = true then (uv ((D.f 15).f aa).u.length) ++ (tagsR ((D.f 15).f aa).u) else [])))) = ((lst (T.at_ 15)).flatMap fun ae => ((if (decide (v ≥ 0)) = true then (uv (((ae.at_ 0).at_ 0).S.length + 1) ++ ((ae.at_ 0).at_ 0).S) else (be 2 ((ae.at_ 0).at_ 0).S.length ++ ((ae.at_ 0).at_ 0).S)) ++ ((be 2 ((IntKind.u16.wrap ((ae.at_ 0).at_ 1).N))) ++ (if (decide (v ≥ 0)) = true then (uv (ae.at_ 0).U.length) ++ (tagsR (ae.at_ 0).U) else []))) ++ (((if (decide (v ≥ 0)) = true then (uv ((lst (ae.at_ 1)).length + 1)) else (be 4 (lst (ae.at_ 1)).length)) ++ ((lst (ae.at_ 1)).flatMap fun ab => (if (decide (v ≥ 0)) = true then (uv ((ab.at_ 0).S.length + 1) ++ (ab.at_ 0).S) else (be 2 (ab.at_ 0).S.length ++ (ab.at_ 0).S)) ++ (((if (decide (v ≥ 0)) = true then (uv ((lst (ab.at_ 1)).length + 1)) else (be 4 (lst (ab.at_ 1)).length)) ++ ((lst (ab.at_ 1)).flatMap fun ar => be 4 ((IntKind.i32.wrap ar.N)))) ++ (if (decide (v ≥ 0)) = true then (uv ab.U.length) ++ (tagsR ab.U) else [])))) ++ (((if (decide (v ≥ 0)) = true then (uv ((lst (ae.at_ 2)).length + 1)) else (be 4 (lst (ae.at_ 2)).length)) ++ ((lst (ae.at_ 2)).flatMap fun ac => (if (decide (v ≥ 0)) = true then (uv ((ac.at_ 0).S.length + 1) ++ (ac.at_ 0).S) else (be 2 (ac.at_ 0).S.length ++ (ac.at_ 0).S)) ++ (((if (decide (v ≥ 0)) = true then (uv ((lst (ac.at_ 1)).length + 1)) else (be 4 (lst (ac.at_ 1)).length)) ++ ((lst (ac.at_ 1)).flatMap fun au => be 4 ((IntKind.i32.wrap au.N)))) ++ (if (decide (v ≥ 0)) = true then (uv ac.U.length) ++ (tagsR ac.U) else [])))) ++ (if (decide (v ≥ 0)) = true then (uv ae.U.length) ++ (tagsR ae.U) else [])))) := flat_rel r214l fun aa hk => by
  have aI := r214e aa hk
  generalize (lst (T.at_ 15)).getD aa .zero = ae at aI ⊢
  unfold relStreamsGroupHeartbeatResponsePartitionsByUserEndpoint at aI
  obtain ⟨aO, ⟨r245n, r245l, r245e⟩, ⟨r246n, r246l, r246e⟩, bD, _⟩ := aI
  unfold relEndpoint at aO
  obtain ⟨bE, bF, bG, _⟩ := aO
  have bH : ((List.range (((D.f 15).f aa).f 1).l).flatMap fun af => (if (decide (v ≥ 0)) = true then (uv ((((((D.f 15).f aa).f 1).f af).f 0).s.size + 1) ++ sb (((((D.f 15).f aa).f 1).f af).f 0).s) else (be 2 (((((D.f 15).f aa).f 1).f af).f 0).s.size ++ sb (((((D.f 15).f aa).f 1).f af).f 0).s)) ++ (((if (decide (v ≥ 0)) = true then (uv ((((((D.f 15).f aa).f 1).f af).f 1).l + 1)) else (be 4 (((((D.f 15).f aa).f 1).f af).f 1).l)) ++ ((List.range (((((D.f 15).f aa).f 1).f af).f 1).l).flatMap fun av => be 4 (((((((D.f 15).f aa).f 1).f af).f 1).f av).n))) ++ (if (decide (v ≥ 0)) = true then (uv ((((D.f 15).f aa).f 1).f af).u.length) ++ (tagsR ((((D.f 15).f aa).f 1).f af).u) else []))) = ((lst (ae.at_ 1)).flatMap fun ab => (if (decide (v ≥ 0)) = true then (uv ((ab.at_ 0).S.length + 1) ++ (ab.at_ 0).S) else (be 2 (ab.at_ 0).S.length ++ (ab.at_ 0).S)) ++ (((if (decide (v ≥ 0)) = true then (uv ((lst (ab.at_ 1)).length + 1)) else (be 4 (lst (ab.at_ 1)).length)) ++ ((lst (ab.at_ 1)).flatMap fun ar => be 4 ((IntKind.i32.wrap ar.N)))) ++ (if (decide (v ≥ 0)) = true then (uv ab.U.length) ++ (tagsR ab.U) else []))) := flat_rel r245l fun af hk => by
   have aJ := r245e af hk
   generalize (lst (ae.at_ 1)).getD af .zero = ab at aJ ⊢
   unfold relStreamsGroupHeartbeatResponsePartitionsByUserEndpointActivePartition at aJ
   obtain ⟨bI, ⟨r254n, r254l, r254e⟩, bJ, _⟩ := aJ
   have bK : ((List.range (((((D.f 15).f aa).f 1).f af).f 1).l).flatMap fun av => be 4 (((((((D.f 15).f aa).f 1).f af).f 1).f av).n)) = ((lst (ab.at_ 1)).flatMap fun ar => be 4 ((IntKind.i32.wrap ar.N))) := flat_rel r254l fun av hk => by
    have aP := r254e av hk
    generalize (lst (ab.at_ 1)).getD av .zero = ar at aP ⊢
    simp only [aP, sb_bs, bs_size]
   rw [bK]
   simp only [bI, r254n, r254l, bJ, sb_bs, bs_size]
  have bL : ((List.range (((D.f 15).f aa).f 2).l).flatMap fun ag => (if (decide (v ≥ 0)) = true then (uv ((((((D.f 15).f aa).f 2).f ag).f 0).s.size + 1) ++ sb (((((D.f 15).f aa).f 2).f ag).f 0).s) else (be 2 (((((D.f 15).f aa).f 2).f ag).f 0).s.size ++ sb (((((D.f 15).f aa).f 2).f ag).f 0).s)) ++ (((if (decide (v ≥ 0)) = true then (uv ((((((D.f 15).f aa).f 2).f ag).f 1).l + 1)) else (be 4 (((((D.f 15).f aa).f 2).f ag).f 1).l)) ++ ((List.range (((((D.f 15).f aa).f 2).f ag).f 1).l).flatMap fun aw => be 4 (((((((D.f 15).f aa).f 2).f ag).f 1).f aw).n))) ++ (if (decide (v ≥ 0)) = true then (uv ((((D.f 15).f aa).f 2).f ag).u.length) ++ (tagsR ((((D.f 15).f aa).f 2).f ag).u) else []))) = ((lst (ae.at_ 2)).flatMap fun ac => (if (decide (v ≥ 0)) = true then (uv ((ac.at_ 0).S.length + 1) ++ (ac.at_ 0).S) else (be 2 (ac.at_ 0).S.length ++ (ac.at_ 0).S)) ++ (((if (decide (v ≥ 0)) = true then (uv ((lst (ac.at_ 1)).length + 1)) else (be 4 (lst (ac.at_ 1)).length)) ++ ((lst (ac.at_ 1)).flatMap fun au => be 4 ((IntKind.i32.wrap au.N)))) ++ (if (decide (v ≥ 0)) = true then (uv ac.U.length) ++ (tagsR ac.U) else []))) := flat_rel r246l fun ag hk => by
   have aK := r246e ag hk
   generalize (lst (ae.at_ 2)).getD ag .zero = ac at aK ⊢
   unfold relStreamsGroupHeartbeatResponsePartitionsByUserEndpointStandbyPartition at aK
   obtain ⟨bM, ⟨r261n, r261l, r261e⟩, bN, _⟩ := aK
   have bO : ((List.range (((((D.f 15).f aa).f 2).f ag).f 1).l).flatMap fun aw => be 4 (((((((D.f 15).f aa).f 2).f ag).f 1).f aw).n)) = ((lst (ac.at_ 1)).flatMap fun au => be 4 ((IntKind.i32.wrap au.N))) := flat_rel r261l fun aw hk => by
    have aQ := r261e aw hk
    generalize (lst (ac.at_ 1)).getD aw .zero = au at aQ ⊢
    simp only [aQ, sb_bs, bs_size]
   rw [bO]
   simp only [bM, r261n, r261l, bN, sb_bs, bs_size]
  rw [bH, bL]
  simp only [r245n, r245l, r246n, r246l, bD, bE, bF, bG, sb_bs, bs_size]
 rw [bg, bk, br, bw, bC]
 simp only [aR, aS, aT, r201n, aU, aV, aW, aX, aY, aZ, r208n, r208l, r209n, r209l, r210n, r210l, r211n, r211l, ba, bd, r214n, r214l, bf, sb_bs, bs_size]
end Go.Proofs.YtbjopfcbpobnpaaGreat.ME
namespace Go.Proofs.YtbjopfcbpobnpaaGreat.ME
open Go
set_option linter.unusedVariables false
set_option linter.unusedSimpArgs false
theorem fit_11 {v : Int} {d : Nat} {l : List Fld} {t : Tree} {i : Nat} {x1 x2 x3 x5 x6 : Int} {s : List Fld} (h : l[i]? = some (.mk 11 x1 x2 x3 (-1) x5 x6 s)) :
  ((fitT v (d + 1) l t).at_ i).null = Fld.nul (.mk 11 x1 x2 x3 (-1) x5 x6 s) v (t.at_ i) ∧
  lst ((fitT v (d + 1) l t).at_ i) = (if Fld.nul (.mk 11 x1 x2 x3 (-1) x5 x6 s) v (t.at_ i) = true then [] else things (t.at_ i).L).map (fun x => fitted0 (fitT v d) (.mk x6 x1 x2 (-1) (-1) x5 x6 s) (Fld.nul (.mk x6 x1 x2 (-1) (-1) x5 x6 s) v x) x) := by
 rw [fit_at h]
 have e : fittedW (fitT v d) v (.mk 11 x1 x2 x3 (-1) x5 x6 s) (t.at_ i) = .mk 0 [] (Fld.nul (.mk 11 x1 x2 x3 (-1) x5 x6 s) v (t.at_ i)) ((things (t.at_ i).L).map (fun x => fitted0 (fitT v d) (.mk x6 x1 x2 (-1) (-1) x5 x6 s) (Fld.nul (.mk x6 x1 x2 (-1) (-1) x5 x6 s) v x) x)) [] := by
  simp [fittedW, Fld.kind, Fld.tag, Fld.elem]
 rw [e]
 refine ⟨rfl, ?_⟩
 unfold lst
 show (if Fld.nul _ v (t.at_ i) = true then [] else _) = _
 split
 ·rfl
 ·rfl
theorem fit_10 {v : Int} {d : Nat} {x1 x2 x5 x6 : Int} {s : List Fld} {b : Bool} {x : Tree} : (∀ i, (fitted0 (fitT v d) (.mk 10 x1 x2 (-1) (-1) x5 x6 s) b x).at_ i = (fitT v d s x).at_ i) ∧ (fitted0 (fitT v d) (.mk 10 x1 x2 (-1) (-1) x5 x6 s) b x).U = (fitT v d s x).U := by
 cases hT : fitT v d s x with
 | mk n s' b' l u =>
  have e : fitted0 (fitT v d) (.mk 10 x1 x2 (-1) (-1) x5 x6 s) b x = .mk n s' b l u := by
   simp [fitted0, Fld.kind, Fld.sub, hT]
  rw [e]
  exact ⟨fun _ => rfl, rfl⟩
theorem fit_10s {v : Int} {d : Nat} {l : List Fld} {t : Tree} {i : Nat} {x1 x2 x3 x4 x5 x6 : Int} {s : List Fld} (h : l[i]? = some (.mk 10 x1 x2 x3 x4 x5 x6 s)) :
  (∀ j, ((fitT v (d + 1) l t).at_ i).at_ j = (fitT v d s (t.at_ i)).at_ j) ∧ ((fitT v (d + 1) l t).at_ i).U = (fitT v d s (t.at_ i)).U ∧ ((fitT v (d + 1) l t).at_ i).null = Fld.nul (.mk 10 x1 x2 x3 x4 x5 x6 s) v (t.at_ i) := by
 rw [fit_at h]
 cases hT : fitT v d s (t.at_ i) with
 | mk n s' b' l' u =>
  have e : fittedW (fitT v d) v (.mk 10 x1 x2 x3 x4 x5 x6 s) (t.at_ i) = .mk n s' (Fld.nul (.mk 10 x1 x2 x3 x4 x5 x6 s) v (t.at_ i)) l' u := by
   simp [fittedW, fitted0, Fld.kind, Fld.sub, hT]
  rw [e]
  exact ⟨fun _ => rfl, rfl, rfl⟩
theorem fit_t {v : Int} {d : Nat} {l : List Fld} {t : Tree} {i : Nat} {k x1 x2 x3 x4 x5 x6 : Int} {s : List Fld} (h : l[i]? = some (.mk k x1 x2 x3 x4 x5 x6 s)) (hk : k = 8 ∨ k = 9) :
  ((fitT v (d + 1) l t).at_ i).S = whole (t.at_ i).S := by
 rw [fit_at h]
 have e1 : k ≠ 11 := by omega
 have e : fittedW (fitT v d) v (.mk k x1 x2 x3 x4 x5 x6 s) (t.at_ i) = .mk 0 (whole (t.at_ i).S) (Fld.nul (.mk k x1 x2 x3 x4 x5 x6 s) v (t.at_ i)) [] [] := by
  simp [fittedW, fitted0, Fld.kind, e1, hk]
 rw [e]
 rfl
theorem nul_no {k x1 x2 x4 x5 x6 : Int} {s : List Fld} {v : Int} {t : Tree} : Fld.nul (.mk k x1 x2 (-1) x4 x5 x6 s) v t = false := by
 cases t
 simp [Fld.nul]
theorem be8_f64 {x : Int} : be 8 (((IntKind.u64.wrap x).toNat : Nat) : Int) = be 8 x := by
 rw [show (((IntKind.u64.wrap x).toNat : Nat) : Int) = IntKind.u64.wrap x by rw [wrap_u64]; omega, be8_wrap]
theorem nul_ge {k x1 x2 n x4 x5 x6 : Int} {s : List Fld} {v : Int} {t : Tree} (h : Fld.nul (.mk k x1 x2 n x4 x5 x6 s) v t = true) : v ≥ n := by
 cases t
 simp only [Fld.nul, Bool.and_eq_true, decide_eq_true_eq] at h
 exact h.2
theorem bool8 {x : Int} : by8 (if decide (x % 2 = 1) = true then 1 else 0) = by8 (x % 2) := by
 rcases Int.emod_two_eq x with h | h <;> simp [h]
theorem bool_rel (n : Int) : (IntKind.i64.wrap (BitVec.ofInt 64 n &&& BitVec.ofInt 64 1).toNat == 1) = decide (n % 2 = 1) := by
 rw [and1]
 rw [Bool.eq_iff_iff, beq_iff_eq, decide_eq_true_iff]
def canU (u : List (Int × Bs)) : Prop := Sorted u ∧ u.length ≤ 1000000 ∧ ∀ y ∈ u, y.2.length < 4294967296
theorem canU_fit {v : Int} {d : Nat} {l : List Fld} {t : Tree} : canU (fitT v d l t).U := by
 rw [fit_U]
 refine ⟨wholeU_sorted (unknownT_sorted _ _), ?_, fun y hy => ?_⟩
 ·rw [wholeU_len]; exact Nat.le_trans (unknownT_len _ _) (by decide)
 ·obtain ⟨x, _, rfl⟩ := List.mem_map.1 hy
  exact Nat.lt_of_le_of_lt (whole_le _) (by decide)
theorem lst_le {v : Int} {d : Nat} {l : List Fld} {t : Tree} {i : Nat} {x1 x2 x3 x5 x6 : Int} {s : List Fld} (h : l[i]? = some (.mk 11 x1 x2 x3 (-1) x5 x6 s)) : (lst ((fitT v (d + 1) l t).at_ i)).length ≤ 1000000 := by
 rw [(fit_11 h).2, List.length_map]
 split
 ·exact Nat.zero_le _
 ·simp only [things, List.length_take]; omega
theorem lst_mem {v : Int} {d : Nat} {l : List Fld} {t : Tree} {i : Nat} {x1 x2 x3 x5 x6 : Int} {s : List Fld} {Q : Tree → Prop} (h : l[i]? = some (.mk 11 x1 x2 x3 (-1) x5 x6 s))
  (hq : ∀ y, Q (fitted0 (fitT v d) (.mk x6 x1 x2 (-1) (-1) x5 x6 s) (Fld.nul (.mk x6 x1 x2 (-1) (-1) x5 x6 s) v y) y)) : ∀ x ∈ lst ((fitT v (d + 1) l t).at_ i), Q x := by
 rw [(fit_11 h).2]
 intro x hx
 obtain ⟨y, _, rfl⟩ := List.mem_map.1 hx
 exact hq y
end Go.Proofs.YtbjopfcbpobnpaaGreat.ME
namespace Go.Proofs.YtbjopfcbpobnpaaGreat.ME
open Go
set_option linter.unusedVariables false
set_option linter.unusedSimpArgs false
set_option maxRecDepth 20000
theorem sHas (k x1 x2 x3 x4 x5 x6 : Int) (fs : List Fld) (AF : Option Addr) (cF : Nat) (v : Int) (w : World) :
  Calls Tryz.prog 90 #[.agg #[.int .i64 k, .int .i64 x1, .int .i64 x2, .int .i64 x3, .int .i64 x4, .int .i64 x5, .int .i64 x6, .slice AF fs.length cF], .int .i64 v] w (Gives w (.bool (Fld.has (Fld.mk k x1 x2 x3 x4 x5 x6 fs) v))) := by
 refine enter (n := 20) Tryz.func90 rfl Tryz.ntmps90 kz fun a hE => ?_
 have hW := WOk.start w Nil
 refine go_seq_region [0, 1] kz ?_
 refine of_op (wpOp_box hW hE (d := 2) (cs := [.int .i64 k, .int .i64 x1, .int .i64 x2, .int .i64 x3, .int .i64 x4, .int .i64 x5, .int .i64 x6, .slice AF fs.length cF]) kz fun b1 a2 w3 hb4 hz5 hF6 hW7 hE8 => ?_)
 clear hE hW
 refine go_rn [1] [] [(1, .v (.int .i64 v)), (2, .p 0 0)] hW7 hE8 fun a9 af => ?_
 clear hE8
 refine wpOps_nil (then_normal ?_)
 refine go_seq_region [0, 1, 2, 3, 4, 5, 6, 7, 8, 9, 10, 11, 12, 13, 14, 15] kz ?_
 refine go_rn [0, 1, 2, 3, 4] [5, 6, 7, 8, 9, 10, 11, 12, 13, 14, 15] [(1, .v (.int .i64 v)), (2, .p 0 0), (9, .v (.bool (decide (x1 ≤ v))))] hW7 af fun av ac => ?_
 clear af
 refine (Bool.eq_false_or_eq_true (decide (x1 ≤ v))).elim (fun aa => ?_) (fun aa => ?_)
 ·
  have ao := of_decide_eq_true aa
  have ag := ac.cast (env' := [(1, .v (.int .i64 v)), (2, .p 0 0), (9, .v (.bool true))]) (by rw [aa])
  clear ac
  refine go_rn [5, 6, 7, 8] [9, 10, 11, 12, 13, 14, 15] [(1, .v (.int .i64 v)), (2, .p 0 0), (9, .v (.bool true)), (13, .v (.bool (decide (x2 < 0))))] hW7 ag fun aw ae => ?_
  clear ag
  refine (Bool.eq_false_or_eq_true (decide (x2 < 0))).elim (fun ab => ?_) (fun ab => ?_)
  ·
   have ap := of_decide_eq_true ab
   have ah := ae.cast (env' := [(1, .v (.int .i64 v)), (2, .p 0 0), (9, .v (.bool true)), (13, .v (.bool true))]) (by rw [ab])
   clear ae
   refine go_rn [9, 10, 11, 12, 13, 14, 15] [] [(4, .v (.bool true))] hW7 ah fun ax ak => ?_
   clear ah
   refine wpOps_nil (then_normal ?_)
   refine wp_ret ?_
   refine leave ak hW7.cells (v := .bool true) kz ?_
   exact ⟨by simp only [Fld.has, aa, ab, Bool.true_and, Bool.and_true, Bool.false_and, Bool.and_false, Bool.true_or, Bool.false_or, Bool.or_true, Bool.or_false], hW7.step⟩
  ·
   have ar := of_decide_eq_false ab
   have ai := ae.cast (env' := [(1, .v (.int .i64 v)), (2, .p 0 0), (9, .v (.bool true)), (13, .v (.bool false))]) (by rw [ab])
   clear ae
   refine go_rn [9, 10, 11, 12, 13, 14, 15] [] [(4, .v (.bool (decide (v ≤ x2))))] hW7 ai fun ay al => ?_
   clear ai
   refine wpOps_nil (then_normal ?_)
   refine wp_ret ?_
   refine leave al hW7.cells (v := .bool (decide (v ≤ x2))) kz ?_
   exact ⟨by simp only [Fld.has, aa, ab, Bool.true_and, Bool.and_true, Bool.false_and, Bool.and_false, Bool.true_or, Bool.false_or, Bool.or_true, Bool.or_false], hW7.step⟩
 ·
  have au := of_decide_eq_false aa
  have aj := ac.cast (env' := [(1, .v (.int .i64 v)), (2, .p 0 0), (9, .v (.bool false))]) (by rw [aa])
  clear ac
  refine go_rn [5, 6, 7, 8, 9, 10, 11, 12, 13, 14, 15] [] [(4, .v (.bool false))] hW7 aj fun aA am => ?_
  clear aj
  refine wpOps_nil (then_normal ?_)
  refine wp_ret ?_
  refine leave am hW7.cells (v := .bool false) kz ?_
  exact ⟨by simp only [Fld.has, aa, Bool.true_and, Bool.and_true, Bool.false_and, Bool.and_false, Bool.true_or, Bool.false_or, Bool.or_true, Bool.or_false], hW7.step⟩
theorem sNull (k x1 x2 x3 x4 x5 x6 : Int) (fs : List Fld) (AF : Option Addr) (cF : Nat) (v : Int) (n : Int) (s : Bs) (b : Bool) (l : List Tree) (u : List (Int × Bs)) (A1 : Option Addr) (c1 : Nat) (A2 : Option Addr) (c2 : Nat) (A3 : Option Addr) (c3 : Nat) (w : World) :
  Calls Tryz.prog 87 #[.agg #[.int .i64 k, .int .i64 x1, .int .i64 x2, .int .i64 x3, .int .i64 x4, .int .i64 x5, .int .i64 x6, .slice AF fs.length cF], .int .i64 v, .agg #[.int .i64 n, .slice A1 s.length c1, .bool b, .slice A2 l.length c2, .slice A3 u.length c3]] w (Gives w (.bool (Fld.nul (Fld.mk k x1 x2 x3 x4 x5 x6 fs) v (Tree.mk n s b l u)))) := by
 refine enter (n := 20) Tryz.func87 rfl Tryz.ntmps87 kz fun a hE => ?_
 have hW := WOk.start w Nil
 refine go_seq_region [0, 1, 2] kz ?_
 refine of_op (wpOp_box hW hE (d := 3) (cs := [.int .i64 k, .int .i64 x1, .int .i64 x2, .int .i64 x3, .int .i64 x4, .int .i64 x5, .int .i64 x6, .slice AF fs.length cF]) kz fun b1 a2 w3 hb4 hz5 hF6 hW7 hE8 => ?_)
 clear hE hW
 refine of_op (wpOp_box hW7 hE8 (d := 5) (cs := [.int .i64 n, .slice A1 s.length c1, .bool b, .slice A2 l.length c2, .slice A3 u.length c3]) kz fun b9 ay aA ar au av aa ag => ?_)
 clear hE8 hW7
 refine go_rn [2] [] [(1, .v (.int .i64 v)), (3, .p 0 0), (5, .p 1 0)] aa ag fun aB ah => ?_
 clear ag
 refine wpOps_nil (then_normal ?_)
 refine go_seq_region [0, 1, 2, 3, 4, 5, 6, 7, 8, 9, 10, 11, 12, 13] kz ?_
 refine go_rn [0, 1, 2] [3, 4, 5, 6, 7, 8, 9, 10, 11, 12, 13] [(1, .v (.int .i64 v)), (3, .p 0 0), (9, .v (.bool b))] aa ah fun aC ae => ?_
 clear ah
 refine (Bool.eq_false_or_eq_true (b)).elim (fun ac => ?_) (fun ac => ?_)
 ·
  have ai := ae.cast (env' := [(1, .v (.int .i64 v)), (3, .p 0 0), (9, .v (.bool true))]) (by rw [ac])
  clear ae
  refine go_rn [3, 4, 5, 6, 7] [8, 9, 10, 11, 12, 13] [(1, .v (.int .i64 v)), (3, .p 0 0), (14, .v (.bool (decide (x3 ≥ 0))))] aa ai fun aD af => ?_
  clear ai
  refine (Bool.eq_false_or_eq_true (decide (x3 ≥ 0))).elim (fun ab => ?_) (fun ab => ?_)
  ·
   have aw := of_decide_eq_true ab
   have aj := af.cast (env' := [(1, .v (.int .i64 v)), (3, .p 0 0), (14, .v (.bool true))]) (by rw [ab])
   clear af
   refine go_rn [8, 9, 10, 11, 12, 13] [] [(6, .v (.bool (decide (v ≥ x3))))] aa aj fun aE am => ?_
   clear aj
   refine wpOps_nil (then_normal ?_)
   refine wp_ret ?_
   refine leave am aa.cells (v := .bool (decide (v ≥ x3))) kz ?_
   exact ⟨by simp only [Fld.nul, ac, ab, Bool.true_and, Bool.and_true, Bool.false_and, Bool.and_false, Bool.true_or, Bool.false_or, Bool.or_true, Bool.or_false], aa.step⟩
  ·
   have ax := of_decide_eq_false ab
   have ak := af.cast (env' := [(1, .v (.int .i64 v)), (3, .p 0 0), (14, .v (.bool false))]) (by rw [ab])
   clear af
   refine go_rn [8, 9, 10, 11, 12, 13] [] [(6, .v (.bool false))] aa ak fun aF ao => ?_
   clear ak
   refine wpOps_nil (then_normal ?_)
   refine wp_ret ?_
   refine leave ao aa.cells (v := .bool false) kz ?_
   exact ⟨by simp only [Fld.nul, ac, ab, Bool.true_and, Bool.and_true, Bool.false_and, Bool.and_false, Bool.true_or, Bool.false_or, Bool.or_true, Bool.or_false], aa.step⟩
 ·
  have al := ae.cast (env' := [(1, .v (.int .i64 v)), (3, .p 0 0), (9, .v (.bool false))]) (by rw [ac])
  clear ae
  refine go_rn [3, 4, 5, 6, 7, 8, 9, 10, 11, 12, 13] [] [(6, .v (.bool false))] aa al fun aG ap => ?_
  clear al
  refine wpOps_nil (then_normal ?_)
  refine wp_ret ?_
  refine leave ap aa.cells (v := .bool false) kz ?_
  exact ⟨by simp only [Fld.nul, ac, Bool.true_and, Bool.and_true, Bool.false_and, Bool.and_false, Bool.true_or, Bool.false_or, Bool.or_true, Bool.or_false], aa.step⟩
theorem sWidth (k : Int) (w : World) : Calls Tryz.prog 132 #[.int .i64 k] w (Gives w (.int .i64 ((widthI k : Nat) : Int))) := by
 refine enter (n := 11) Tryz.func132 rfl Tryz.ntmps132 kz fun a hE => ?_
 have hW := WOk.start w Nil
 refine go_sp [(0, .v (.int .i64 k))] hW hE fun a1 hE2 => ?_
 clear hE
 refine wp_seq ?_
 refine go_sp [(3, .v (.int .i64 k))] hW hE2 fun a3 hE4 => ?_
 clear hE2
 refine wp_block ?_
 refine go_sp [(3, .v (.int .i64 k)), (4, .v (.bool (k == 1)))] hW hE4 fun a5 hE6 => ?_
 clear hE4
 refine cond_of hE6 (b := k == 1) kz (fun hc7 => ?_) (fun hc7 => ?_)
 ·
  have hf8 : k = 1 := by simpa using hc7
  refine go_sp [(2, .v (.int .i64 1))] hW hE6 fun a9 ah => ?_
  clear hE6
  refine wp_ret ?_
  refine block_ret ?_
  refine then_ret ?_
  refine leave ah hW.cells (v := .int .i64 1) kz ?_
  exact ⟨by simp_all [widthI], hW.step⟩
 ·
  have am : k ≠ 1 := by simpa using hc7
  refine wp_seq ?_
  refine go_sp [(3, .v (.int .i64 k)), (6, .v (.bool (k == 2)))] hW hE6 fun ax aa => ?_
  clear hE6
  refine cond_of aa (b := k == 2) kz (fun ae => ?_) (fun ae => ?_)
  ·
   have ao : k = 2 := by simpa using ae
   refine wp_skip ?_
   refine then_normal ?_
   refine cond_true aa (b := k == 2) kz (ae) ?_
   refine go_sp [(2, .v (.int .i64 2))] hW aa fun ay ai => ?_
   clear aa
   refine wp_ret ?_
   refine block_ret ?_
   refine then_ret ?_
   refine leave ai hW.cells (v := .int .i64 2) kz ?_
   exact ⟨by simp_all [widthI], hW.step⟩
  ·
   have ap : k ≠ 2 := by simpa using ae
   refine go_region [0, 1] kz ?_
   refine go_rn [0, 1] [] [(3, .v (.int .i64 k)), (6, .v (.bool (k == 5)))] hW aa fun aA ab => ?_
   clear aa
   refine wpOps_nil (then_normal ?_)
   refine cond_of ab (b := k == 5) kz (fun af => ?_) (fun af => ?_)
   ·
    have ar : k = 5 := by simpa using af
    refine go_sp [(2, .v (.int .i64 2))] hW ab fun aB aj => ?_
    clear ab
    refine wp_ret ?_
    refine block_ret ?_
    refine then_ret ?_
    refine leave aj hW.cells (v := .int .i64 2) kz ?_
    exact ⟨by simp_all [widthI], hW.step⟩
   ·
    have au : k ≠ 5 := by simpa using af
    refine go_sp [(9, .v (.bool (k == 3)))] hW ab fun aC ac => ?_
    clear ab
    refine cond_of ac (b := k == 3) kz (fun ag => ?_) (fun ag => ?_)
    ·
     have av : k = 3 := by simpa using ag
     refine go_sp [(2, .v (.int .i64 4))] hW ac fun aD ak => ?_
     clear ac
     refine wp_ret ?_
     refine block_ret ?_
     refine then_ret ?_
     refine leave ak hW.cells (v := .int .i64 4) kz ?_
     exact ⟨by simp_all [widthI], hW.step⟩
    ·
     have aw : k ≠ 3 := by simpa using ag
     refine wp_skip ?_
     refine block_normal ?_
     refine then_normal ?_
     refine go_sp [(2, .v (.int .i64 8))] hW ac fun aE al => ?_
     clear ac
     refine wp_ret ?_
     refine leave al hW.cells (v := .int .i64 8) kz ?_
     exact ⟨by simp_all [widthI], hW.step⟩
theorem sWhole (A : Option Addr) (c : Nat) (s : Bs) (hc : s.length ≤ c) (w : World) :
  Calls Tryz.prog 39 #[.slice A s.length c] w (Gives w (.slice A (whole s).length c)) := by
 refine enter (n := 8) Tryz.func39 rfl Tryz.ntmps39 kz fun a hE => ?_
 have hW := WOk.start w Nil
 refine go_sp [(0, .v (.slice A s.length c))] hW hE fun a1 hE2 => ?_
 clear hE
 refine go_seq_region [0, 1, 2, 3, 4, 5] kz ?_
 refine go_rn [0, 1, 2, 3] [4, 5] [(3, .v (.slice A s.length c)), (6, .v (.int .i64 (if 32767 < ((s.length : Nat) : Int) then 32767 else ((s.length : Nat) : Int))))] hW hE2 fun a3 hE4 => ?_
 clear hE2
 refine of_op (wpOp_cut_hi hE4 (t := 22) (A := A) (m := s.length) (cp := c) (q := (if 32767 < ((s.length : Nat) : Int) then 32767 else ((s.length : Nat) : Int))) (d := 7) (j := (whole s).length) kz (e := 5) (size := 1) (bytes := 1) kz (by simpa [whole] using min_lit s.length) (by simp only [whole, List.length_take]; omega) fun a5 hE6 => ?_)
 clear hE4
 refine go_rn [5] [] [(2, .v (.slice A ((whole s).length) c))] hW hE6 fun a7 hE8 => ?_
 clear hE6
 refine wpOps_nil (then_normal ?_)
 refine wp_ret ?_
 refine leave hE8 hW.cells (v := .slice A ((whole s).length) c) kz ?_
 exact ⟨rfl, hW.step⟩
theorem sThings (A : Option Addr) (c : Nat) (s : List Tree) (hc : s.length ≤ c) (w : World) :
  Calls Tryz.prog 88 #[.slice A s.length c] w (Gives w (.slice A (things s).length c)) := by
 refine enter (n := 8) Tryz.func88 rfl Tryz.ntmps88 kz fun a hE => ?_
 have hW := WOk.start w Nil
 refine go_sp [(0, .v (.slice A s.length c))] hW hE fun a1 hE2 => ?_
 clear hE
 refine go_seq_region [0, 1, 2, 3, 4, 5] kz ?_
 refine go_rn [0, 1, 2, 3] [4, 5] [(3, .v (.slice A s.length c)), (6, .v (.int .i64 (if 32767 < ((s.length : Nat) : Int) then 32767 else ((s.length : Nat) : Int))))] hW hE2 fun a3 hE4 => ?_
 clear hE2
 refine of_op (wpOp_cut_hi hE4 (t := 23) (A := A) (m := s.length) (cp := c) (q := (if 32767 < ((s.length : Nat) : Int) then 32767 else ((s.length : Nat) : Int))) (d := 7) (j := (things s).length) kz (e := 26) (size := 5) (bytes := 88) kz (by simpa [things] using min_lit s.length) (by simp only [things, List.length_take]; omega) fun a5 hE6 => ?_)
 clear hE4
 refine go_rn [5] [] [(2, .v (.slice A ((things s).length) c))] hW hE6 fun a7 hE8 => ?_
 clear hE6
 refine wpOps_nil (then_normal ?_)
 refine wp_ret ?_
 refine leave hE8 hW.cells (v := .slice A ((things s).length) c) kz ?_
 exact ⟨rfl, hW.step⟩
theorem sSame (A A' : Option Addr) (c c' : Nat) (s t : Bs) (w : World) (F : Nat → Nat → Prop) (hs : Octs w F A c s) (ht : Octs w F A' c' t) :
  Calls Tryz.prog 12 #[.slice A s.length c, .slice A' t.length c'] w (Gives w (.bool (decide (s = t)))) := by
 refine enter (n := 26) Tryz.func12 rfl Tryz.ntmps12 kz fun a hE => ?_
 have hW := WOk.start w Nil
 have hl := Slots.small hs
 refine go_sp [(0, .v (.slice A s.length c)), (1, .v (.slice A' t.length c'))] hW hE fun a1 hE2 => ?_
 clear hE
 refine wp_seq ?_
 refine go_sp [(0, .v (.slice A s.length c)), (1, .v (.slice A' t.length c')), (10, .v (.bool (((s.length : Nat) : Int) != ((t.length : Nat) : Int))))] hW hE2 fun a3 hE4 => ?_
 clear hE2
 refine cond_of hE4 (b := ((s.length : Nat) : Int) != ((t.length : Nat) : Int)) kz (fun hc5 => ?_) (fun hc5 => ?_)
 ·
  have hf6 : ((s.length : Nat) : Int) ≠ ((t.length : Nat) : Int) := by simpa using hc5
  refine go_sp [(4, .v (.bool false))] hW hE4 fun a7 hE8 => ?_
  clear hE4
  refine wp_ret ?_
  refine then_ret ?_
  refine leave hE8 hW.cells (v := .bool false) kz ?_
  exact ⟨by first | rw [← same_end hq (by omega) hlen] | rw [← same_el (by assumption)] | rw [← same_len (by assumption)], hW.step⟩
 ·
  have hf9 : ((s.length : Nat) : Int) = ((t.length : Nat) : Int) := by simpa using hc5
  refine wp_skip ?_
  refine then_normal ?_
  refine wp_seq ?_
  refine go_sp [(0, .v (.slice A s.length c)), (1, .v (.slice A' t.length c')), (12, .v (.int .i64 ((s.length : Nat) : Int))), (13, .v (.int .i64 0))] hW hE4 fun aQ ah => ?_
  clear hE4
  refine wp_block ?_
  have hlen : s.length = t.length := by omega
  refine wp_loop_ghost (fun n_ a_ w_ => ∃ (k : Nat), n_ = s.length - k ∧ k ≤ s.length ∧ (s.take k = t.take k) ∧ LInv hW 26 [] [] [(0, .v (.slice A s.length c)), (1, .v (.slice A' t.length c')), (12, .v (.int .i64 ((s.length : Nat) : Int))), (13, .v (.int .i64 ((k : Nat) : Int)))] a_ w_) (s.length) ⟨0, by omega, by omega, rfl, ah.pk, hW, Fr.refl _ _ _⟩ ?_
  clear ah
  rintro aR aS aT ⟨k, aE, aF, hq, ai, ab, aw⟩
  refine go_sp [(0, .v (.slice A s.length c)), (1, .v (.slice A' t.length c')), (12, .v (.int .i64 ((s.length : Nat) : Int))), (13, .v (.int .i64 ((k : Nat) : Int))), (14, .v (.bool (decide (((k : Nat) : Int) < ((s.length : Nat) : Int)))))] ab ai fun aU ac => ?_
  clear ai
  refine wp_seq ?_
  refine cond_of ac (b := decide (((k : Nat) : Int) < ((s.length : Nat) : Int))) kz (fun af => ?_) (fun af => ?_)
  ·
   have aG := of_decide_eq_true af
   refine wp_skip ?_
   refine then_normal ?_
   refine wp_seq ?_
   refine wp_block ?_
   refine go_sp [(0, .v (.slice A s.length c)), (1, .v (.slice A' t.length c')), (5, .v (.int .i64 ((k : Nat) : Int))), (12, .v (.int .i64 ((s.length : Nat) : Int))), (13, .v (.int .i64 ((k : Nat) : Int)))] ab ac fun aV aj => ?_
   clear ac
   refine go_seq_drawQ kz ab fun aW ax aa => ?_
   clear ab
   refine go_rnD [0, 1, 4, 5] [(0, .v (.slice A s.length c)), (1, .v (.slice A' t.length c')), (12, .v (.int .i64 ((s.length : Nat) : Int))), (13, .v (.int .i64 ((k : Nat) : Int))), (16, .v (.slice A s.length c)), (17, .v (.int .i64 ((k : Nat) : Int))), (20, .v (.slice A' t.length c')), (21, .v (.int .i64 ((k : Nat) : Int)))] 5 (panicFree_then (panicFree_block (panicFree_then (panicFree_then (panicFree_block (panicFree_then panicFree_body)))))) (fun _ h => h ▸ aa.cells) rfl aj fun aX ak => ?_
   clear aj
   obtain ⟨aH, aI, ay, aJ, al⟩ := Slots.get hs (i := k) (by omega)
   refine takeC_index ak (i := 2) (t := 22) (A := A) (m := s.length) (q := ((k : Nat) : Int)) (d := 18) kz (e := 5) (size := 1) (bytes := 1) kz ay rfl (by omega) kz kz (panicFree_then (panicFree_block (panicFree_then (panicFree_then (panicFree_block (panicFree_then panicFree_body)))))) rfl fun aY am => ?_
   clear ak
   refine takeC_load am (i := 3) (t := 5) (b := aH) (o := aI + k * 1) (d := 19) kz (cs := [.int .u8 ((s.getD k 0).toNat : Int)]) (v := .int .u8 ((s.getD k 0).toNat : Int)) kz (fun w' h' => h' ▸ (AtF.move al aa.step nilM keepF).at_) kz kz (panicFree_then (panicFree_block (panicFree_then (panicFree_then (panicFree_block (panicFree_then panicFree_body)))))) rfl fun aZ ao => ?_
   clear am
   obtain ⟨aK, aL, aA, aM, ap⟩ := Slots.get ht (i := k) (by omega)
   refine takeC_index ao (i := 6) (t := 22) (A := A') (m := t.length) (q := ((k : Nat) : Int)) (d := 22) kz (e := 5) (size := 1) (bytes := 1) kz aA rfl (by omega) kz kz (panicFree_then (panicFree_block (panicFree_then (panicFree_then (panicFree_block (panicFree_then panicFree_body)))))) rfl fun ba ar => ?_
   clear ao
   refine takeC_load ar (i := 7) (t := 5) (b := aK) (o := aL + k * 1) (d := 23) kz (cs := [.int .u8 ((t.getD k 0).toNat : Int)]) (v := .int .u8 ((t.getD k 0).toNat : Int)) kz (fun w' h' => h' ▸ (AtF.move ap aa.step nilM keepF).at_) kz kz (panicFree_then (panicFree_block (panicFree_then (panicFree_then (panicFree_block (panicFree_then panicFree_body)))))) rfl fun bd au => ?_
   clear ar
   refine go_rnD [8] [(0, .v (.slice A s.length c)), (1, .v (.slice A' t.length c')), (12, .v (.int .i64 ((s.length : Nat) : Int))), (13, .v (.int .i64 ((k : Nat) : Int))), (24, .v (.bool (((s.getD k 0).toNat : Int) != ((t.getD k 0).toNat : Int))))] 0 (panicFree_then (panicFree_block (panicFree_then (panicFree_then (panicFree_block (panicFree_then panicFree_body)))))) (fun _ h => h ▸ aa.cells) rfl au fun bf ae => ?_
   clear au
   refine anyC_done kz ?_ _
   refine then_normal ?_
   refine cond_of ae (b := ((s.getD k 0).toNat : Int) != ((t.getD k 0).toNat : Int)) kz (fun ag => ?_) (fun ag => ?_)
   ·
    have aN : ((s.getD k 0).toNat : Int) ≠ ((t.getD k 0).toNat : Int) := by simpa using ag
    refine go_sp [(4, .v (.bool false))] aa ae fun bg aB => ?_
    clear ae
    refine wp_ret ?_
    refine block_ret ?_
    refine then_ret ?_
    refine then_ret ?_
    refine block_ret ?_
    refine then_ret ?_
    refine leave aB aa.cells (v := .bool false) kz ?_
    exact ⟨by first | rw [← same_end hq (by omega) hlen] | rw [← same_el (by assumption)] | rw [← same_len (by assumption)], aa.step⟩
   ·
    have aO : ((s.getD k 0).toNat : Int) = ((t.getD k 0).toNat : Int) := by simpa using ag
    refine wp_skip ?_
    refine block_normal ?_
    refine then_normal ?_
    refine go_region [0, 1] kz ?_
    refine go_rn [0, 1] [] [(0, .v (.slice A s.length c)), (1, .v (.slice A' t.length c')), (12, .v (.int .i64 ((s.length : Nat) : Int))), (13, .v (.int .i64 (IntKind.i64.wrap (((k : Nat) : Int) + 1))))] aa ae fun bh av => ?_
    clear ae
    refine wpOps_nil (then_normal ?_)
    have aC : IntKind.i64.wrap (((k : Nat) : Int) + 1) = ((k + 1 : Nat) : Int) := wrap_succ (by omega)
    rw [aC] at av
    exact ⟨s.length - (k + 1), by omega, k + 1, rfl, by omega, take_step hq (by omega) hlen (by assumption), av.pk, aa, (aw.trans ax)⟩
  ·
   have aP := of_decide_eq_false af
   refine wp_exit ?_
   refine then_exit ?_
   refine then_exit ?_
   refine block_exit ?_
   refine then_normal ?_
   refine go_sp [(4, .v (.bool true))] ab ac fun bi aD => ?_
   clear ac
   refine wp_ret ?_
   refine leave aD ab.cells (v := .bool true) kz ?_
   exact ⟨by first | rw [← same_end hq (by omega) hlen] | rw [← same_el (by assumption)] | rw [← same_len (by assumption)], ab.step⟩
theorem sAt (ct : List Value) (t : Tree) (i : Nat) (w : World) (F : Nat → Nat → Prop) (ht : TreeR w F ct t) :
  Calls Tryz.prog 37 #[.agg ct.toArray, .int .i64 (i : Int)] w (GivesO w F (t.at_ i)) := by
 obtain ⟨n1, s2, b3, l4, u5, A6, c7, A8, c9, aP, aQ, aR, rfl, rfl, aS, aK, aT, br⟩ := ht.open_
 have aL := aS.small
 have aM := aK.small
 refine enter (n := 16) Tryz.func37 rfl Tryz.ntmps37 kz fun a hE => ?_
 have hW := WOk.start w Nil
 refine go_seq_region [0, 1] kz ?_
 refine of_op (wpOp_box hW hE (d := 2) (cs := [.int .i64 n1, .slice A6 s2.length c7, .bool b3, .slice A8 l4.length c9, .slice aP u5.length aQ]) kz fun bt bu bv aU aV aW ah ai => ?_)
 clear hE hW
 refine of_op (wpOp_alloc ah ai (d := 4) (cs := [.int .i64 0, .slice none 0 0, .bool false, .slice none 0 0, .slice none 0 0]) kz fun bw bz bA aX aY aZ aa aj => ?_)
 clear ai ah
 refine wpOps_nil (then_normal ?_)
 refine wp_seq ?_
 refine go_sp [(1, .v (.int .i64 ((i : Nat) : Int))), (2, .p 0 0), (4, .p 1 0), (9, .v (.bool (decide (((i : Nat) : Int) < ((l4.length : Nat) : Int)))))] aa aj fun bB ab => ?_
 clear aj
 refine cond_of ab (b := decide (((i : Nat) : Int) < ((l4.length : Nat) : Int))) kz (fun af => ?_) (fun af => ?_)
 ·
  have ba := of_decide_eq_true af
  refine go_seq_region [0, 1, 2, 3, 4, 5] kz ?_
  refine go_rn [0, 1, 2] [3, 4, 5] [(4, .p 1 0), (11, .v (.slice A8 l4.length c9)), (12, .v (.int .i64 ((i : Nat) : Int)))] aa ab fun bC ak => ?_
  clear ab
  obtain ⟨bd, bf, aH, bg, ac⟩ := Slots.get aK (i := i) (by omega)
  obtain ⟨bh, al⟩ : ∃ x, l4[i]? = some x := ⟨_, List.getElem?_eq_getElem (by omega)⟩
  have ag := aT i bh al
  obtain ⟨av, aw, ax, ay, aA, aB, aC, aD, aE, aF, aG, bi, rfl, ae, bj, bk, bD, bE⟩ := ag.open_
  rw [ae] at ag
  have aN := bj.small
  have aO := bk.small
  rw [ae] at ac
  refine of_op (wpOp_index ak (t := 23) (A := A8) (m := l4.length) (q := ((i : Nat) : Int)) (d := 13) kz (e := 26) (size := 5) (bytes := 88) kz aH rfl (by omega) fun bF am => ?_)
  clear ak
  refine of_op (wpOp_load am (t := 26) (b := bd) (o := bf + i * 5) (d := 14) kz (cs := [.int .i64 av, .slice aB aw.length aC, .bool ax, .slice aD ay.length aE, .slice aF aA.length aG]) (v := .agg #[.int .i64 av, .slice aB aw.length aC, .bool ax, .slice aD ay.length aE, .slice aF aA.length aG]) kz (AtF.move ac aa.step nilM keepF).at_ fun bG ao => ?_)
  clear am
  refine of_op (wpOp_store aa ao (oi := 1) (cs := [.int .i64 av, .slice aB aw.length aC, .bool ax, .slice aD ay.length aE, .slice aF aA.length aG]) kz fun bH bn ap aI => ?_)
  clear ao aa
  refine wpOps_nil (then_normal ?_)
  refine wp_ret ?_
  refine then_ret ?_
  refine leave aI ap.cells (v := .agg #[.int .i64 av, .slice aB aw.length aC, .bool ax, .slice aD ay.length aE, .slice aF aA.length aG]) kz ?_
  exact ⟨_, rfl, by rw [at_some al]; exact ag, ap.step⟩
 ·
  have bp := of_decide_eq_false af
  refine wp_skip ?_
  refine then_normal ?_
  refine go_seq_region [0, 1] kz ?_
  refine go_rn [0] [1] [(4, .p 1 0), (15, .v (.agg #[.int .i64 0, .slice none 0 0, .bool false, .slice none 0 0, .slice none 0 0]))] aa ab fun bI ar => ?_
  clear ab
  refine of_op (wpOp_store aa ar (oi := 1) (cs := [.int .i64 0, .slice none 0 0, .bool false, .slice none 0 0, .slice none 0 0]) kz fun bJ bq au aJ => ?_)
  clear ar aa
  refine wpOps_nil (then_normal ?_)
  refine wp_ret ?_
  refine leave aJ au.cells (v := .agg #[.int .i64 0, .slice none 0 0, .bool false, .slice none 0 0, .slice none 0 0]) kz ?_
  exact ⟨_, rfl, by rw [at_none (by omega)]; exact TreeR.zero _ _, au.step⟩
theorem iAt (ct : List Value) (t : Tree) (i : Nat) (w : World) (F : Nat → Nat → Prop) (ht : TreeR w F ct t) :
  Calls Tryz.prog 73 #[.agg ct.toArray, .int .i64 (i : Int)] w (GivesO w F (t.at_ i)) := by
 obtain ⟨n1, s2, b3, l4, u5, A6, c7, A8, c9, aP, aQ, aR, rfl, rfl, aS, aK, aT, br⟩ := ht.open_
 have aL := aS.small
 have aM := aK.small
 refine enter (n := 16) Tryz.func73 rfl Tryz.ntmps73 kz fun a hE => ?_
 have hW := WOk.start w Nil
 refine go_seq_region [0, 1] kz ?_
 refine of_op (wpOp_box hW hE (d := 2) (cs := [.int .i64 n1, .slice A6 s2.length c7, .bool b3, .slice A8 l4.length c9, .slice aP u5.length aQ]) kz fun bt bu bv aU aV aW ah ai => ?_)
 clear hE hW
 refine of_op (wpOp_alloc ah ai (d := 4) (cs := [.int .i64 0, .slice none 0 0, .bool false, .slice none 0 0, .slice none 0 0]) kz fun bw bz bA aX aY aZ aa aj => ?_)
 clear ai ah
 refine wpOps_nil (then_normal ?_)
 refine wp_seq ?_
 refine go_sp [(1, .v (.int .i64 ((i : Nat) : Int))), (2, .p 0 0), (4, .p 1 0), (9, .v (.bool (decide (((i : Nat) : Int) < ((l4.length : Nat) : Int)))))] aa aj fun bB ab => ?_
 clear aj
 refine cond_of ab (b := decide (((i : Nat) : Int) < ((l4.length : Nat) : Int))) kz (fun af => ?_) (fun af => ?_)
 ·
  have ba := of_decide_eq_true af
  refine go_seq_region [0, 1, 2, 3, 4, 5] kz ?_
  refine go_rn [0, 1, 2] [3, 4, 5] [(4, .p 1 0), (11, .v (.slice A8 l4.length c9)), (12, .v (.int .i64 ((i : Nat) : Int)))] aa ab fun bC ak => ?_
  clear ab
  obtain ⟨bd, bf, aH, bg, ac⟩ := Slots.get aK (i := i) (by omega)
  obtain ⟨bh, al⟩ : ∃ x, l4[i]? = some x := ⟨_, List.getElem?_eq_getElem (by omega)⟩
  have ag := aT i bh al
  obtain ⟨av, aw, ax, ay, aA, aB, aC, aD, aE, aF, aG, bi, rfl, ae, bj, bk, bD, bE⟩ := ag.open_
  rw [ae] at ag
  have aN := bj.small
  have aO := bk.small
  rw [ae] at ac
  refine of_op (wpOp_index ak (t := 36) (A := A8) (m := l4.length) (q := ((i : Nat) : Int)) (d := 13) kz (e := 39) (size := 5) (bytes := 88) kz aH rfl (by omega) fun bF am => ?_)
  clear ak
  refine of_op (wpOp_load am (t := 39) (b := bd) (o := bf + i * 5) (d := 14) kz (cs := [.int .i64 av, .slice aB aw.length aC, .bool ax, .slice aD ay.length aE, .slice aF aA.length aG]) (v := .agg #[.int .i64 av, .slice aB aw.length aC, .bool ax, .slice aD ay.length aE, .slice aF aA.length aG]) kz (AtF.move ac aa.step nilM keepF).at_ fun bG ao => ?_)
  clear am
  refine of_op (wpOp_store aa ao (oi := 1) (cs := [.int .i64 av, .slice aB aw.length aC, .bool ax, .slice aD ay.length aE, .slice aF aA.length aG]) kz fun bH bn ap aI => ?_)
  clear ao aa
  refine wpOps_nil (then_normal ?_)
  refine wp_ret ?_
  refine then_ret ?_
  refine leave aI ap.cells (v := .agg #[.int .i64 av, .slice aB aw.length aC, .bool ax, .slice aD ay.length aE, .slice aF aA.length aG]) kz ?_
  exact ⟨_, rfl, by rw [at_some al]; exact ag, ap.step⟩
 ·
  have bp := of_decide_eq_false af
  refine wp_skip ?_
  refine then_normal ?_
  refine go_seq_region [0, 1] kz ?_
  refine go_rn [0] [1] [(4, .p 1 0), (15, .v (.agg #[.int .i64 0, .slice none 0 0, .bool false, .slice none 0 0, .slice none 0 0]))] aa ab fun bI ar => ?_
  clear ab
  refine of_op (wpOp_store aa ar (oi := 1) (cs := [.int .i64 0, .slice none 0 0, .bool false, .slice none 0 0, .slice none 0 0]) kz fun bJ bq au aJ => ?_)
  clear ar aa
  refine wpOps_nil (then_normal ?_)
  refine wp_ret ?_
  refine leave aJ au.cells (v := .agg #[.int .i64 0, .slice none 0 0, .bool false, .slice none 0 0, .slice none 0 0]) kz ?_
  exact ⟨_, rfl, by rw [at_none (by omega)]; exact TreeR.zero _ _, au.step⟩
theorem sFixed (x : Int) (size : Nat) (hsz : size ≤ 8) (w : World) :
  Calls Tryz.prog 131 #[.int .i64 x, .int .i64 ((size : Nat) : Int)] w (FreshB w 5 (be size x)) := by
 refine enter (n := 22) Tryz.func131 rfl Tryz.ntmps131 kz fun a hE => ?_
 have hW := WOk.start w Nil
 refine go_sp [(0, .v (.int .i64 x)), (1, .v (.int .i64 ((size : Nat) : Int)))] hW hE fun a1 hE2 => ?_
 clear hE
 refine go_sp [(0, .v (.int .i64 x)), (1, .v (.int .i64 ((size : Nat) : Int))), (5, .v (.slice none 0 0))] hW hE2 fun a3 hE4 => ?_
 clear hE2
 refine wp_seq ?_
 refine go_sp [(0, .v (.int .i64 x)), (5, .v (.slice none 0 0)), (6, .v (.int .i64 (IntKind.i64.wrap (((size : Nat) : Int) - 1))))] hW hE4 fun a5 hE6 => ?_
 clear hE4
 refine wp_block ?_
 have hW7 := hW.addNil 5 1
 have hF8 := hW.frNil 5 1
 clear hW
 have aw : IntKind.i64.wrap (((size : Nat) : Int) - 1) = ((size : Nat) : Int) - 1 - ((0 : Nat) : Int) := by rw [wrap_i64 (by omega) (by omega)]; omega
 rw [aw] at hE6
 refine wp_loop_ghost (fun n_ a_ w_ => ∃ (k : Nat) (A : Option Addr) (c : Nat), n_ = size - k ∧ k ≤ size ∧ LInv hW7 22 [] [brow A c 5 ((be size x).take k)] [(0, .v (.int .i64 x)), (5, .v (.slice A (((be size x).take k).length) c)), (6, .v (.int .i64 (((size : Nat) : Int) - 1 - ((k : Nat) : Int))))] a_ w_) (size) ⟨0, none, 0, by omega, by omega, hE6.pk, hW7, Fr.refl _ _ _⟩ ?_
 clear hE6
 rintro n9 aL aM ⟨k, A, c, aH, aI, ai, aa, ax⟩
 refine wp_seq ?_
 refine go_sp [(0, .v (.int .i64 x)), (5, .v (.slice A (((be size x).take k).length) c)), (6, .v (.int .i64 (((size : Nat) : Int) - 1 - ((k : Nat) : Int)))), (10, .v (.bool (decide ((((size : Nat) : Int) - 1 - ((k : Nat) : Int)) ≥ 0))))] aa ai fun aN ab => ?_
 clear ai
 refine cond_of ab (b := decide ((((size : Nat) : Int) - 1 - ((k : Nat) : Int)) ≥ 0)) kz (fun ag => ?_) (fun ag => ?_)
 ·
  have aJ := of_decide_eq_true ag
  refine wp_skip ?_
  refine then_normal ?_
  refine wp_seq ?_
  refine wp_block ?_
  refine go_region [0, 1, 2, 3, 4, 5, 6, 7, 8] kz ?_
  refine go_rn [0, 1, 2, 3] [4, 5, 6, 7, 8] [(0, .v (.int .i64 x)), (6, .v (.int .i64 (((size : Nat) : Int) - 1 - ((k : Nat) : Int)))), (13, .v (.slice A (((be size x).take k).length) c)), (14, .v (.int .i64 x)), (16, .v (.int .i64 (IntKind.i64.wrap (8 * (((size : Nat) : Int) - 1 - ((k : Nat) : Int))))))] aa ab fun aO aj => ?_
  clear ab
  refine of_op (wpOp_shr aj (k := .i64) (p := x) (q := (IntKind.i64.wrap (8 * (((size : Nat) : Int) - 1 - ((k : Nat) : Int))))) (d := 17) (j := 8 * (size - 1 - k)) kz (by rw [wrap_i64 (by omega) (by omega)]; omega) (by simp only [IntKind.bits]; omega) fun aP ak => ?_)
  clear aj
  refine go_rn [5] [6, 7, 8] [(0, .v (.int .i64 x)), (6, .v (.int .i64 (((size : Nat) : Int) - 1 - ((k : Nat) : Int)))), (13, .v (.slice A (((be size x).take k).length) c)), (18, .v (.int .u8 (IntKind.u8.wrap (x / 2 ^ (8 * (size - 1 - k))))))] aa ak fun aQ al => ?_
  clear ak
  refine wpOps_push aa al (k := 0) (e := 5) (size := 1) (len := 1) (cs := [.int .u8 (IntKind.u8.wrap (x / 2 ^ (8 * (size - 1 - k))))]) (d1 := 19) (d := 20) kz (t := 22) (bytes := 1) kz (fun _ => by kernel_rfl) rfl kz (by first | (have := hroom; omega) | (simp; done) | (simp; omega)) fun ac ae aR aS ay am ⟨_, ao⟩ => ?_
  clear al aa
  have aA : (⟨ac, ae, 5, 1, ((be size x).take k).length + 1, bc ((be size x).take k) ++ [.int .u8 (IntKind.u8.wrap (x / 2 ^ (8 * (size - 1 - k))))]⟩ : Rw) = brow ac ae 5 ((be size x).take k ++ [by8 (x / 2 ^ (8 * (size - 1 - k)))]) := brow_eq (by simp only [bc, List.map, by8_wrap]; try rfl) rfl
  obtain ⟨af, aB⟩ := am.rowEq 0 [brow ac ae 5 ((be size x).take k ++ [by8 (x / 2 ^ (8 * (size - 1 - k)))])] aA
  clear am
  have ap := EnvOk.pick ao (ks := [0, 6, 13, 18, 20]) (env' := [(0, .v (.int .i64 x)), (6, .v (.int .i64 (((size : Nat) : Int) - 1 - ((k : Nat) : Int)))), (13, .v (.slice A (((be size x).take k).length) c)), (18, .v (.int .u8 (IntKind.u8.wrap (x / 2 ^ (8 * (size - 1 - k)))))), (20, .v (.slice ac (((be size x).take k).length + 1) ae))]) kz
  have ar := ap.cast (env' := [(0, .v (.int .i64 x)), (6, .v (.int .i64 (((size : Nat) : Int) - 1 - ((k : Nat) : Int)))), (13, .v (.slice A (((be size x).take k).length) c)), (18, .v (.int .u8 (IntKind.u8.wrap (x / 2 ^ (8 * (size - 1 - k)))))), (20, .v (.slice ac (((be size x).take k ++ [by8 (x / 2 ^ (8 * (size - 1 - k)))]).length) ae))]) (by simp only [List.length_append, List.length_cons, List.length_nil, Nat.zero_add])
  clear ao
  clear ap
  refine go_rn [8] [] [(0, .v (.int .i64 x)), (5, .v (.slice ac (((be size x).take k ++ [by8 (x / 2 ^ (8 * (size - 1 - k)))]).length) ae)), (6, .v (.int .i64 (((size : Nat) : Int) - 1 - ((k : Nat) : Int))))] af ar fun aT au => ?_
  clear ar
  refine wpOps_nil ?_
  refine block_normal ?_
  refine then_normal ?_
  refine go_region [0, 1, 2] kz ?_
  refine go_rn [0, 1, 2] [] [(0, .v (.int .i64 x)), (5, .v (.slice ac (((be size x).take k ++ [by8 (x / 2 ^ (8 * (size - 1 - k)))]).length) ae)), (6, .v (.int .i64 (IntKind.i64.wrap ((((size : Nat) : Int) - 1 - ((k : Nat) : Int)) - 1))))] af au fun aU ah => ?_
  clear au
  refine wpOps_nil (then_normal ?_)
  have av : ((be size x).take k ++ [by8 (x / 2 ^ (8 * (size - 1 - k)))]) = ((be size x).take (k + 1)) := (be_take_succ (by omega)).symm
  have aC := congrArg (brow ac ae 5) av
  obtain ⟨aD, aE⟩ := af.rowEq 0 [brow ac ae 5 ((be size x).take (k + 1))] aC
  clear af
  rw [av] at ah
  have aF : IntKind.i64.wrap ((((size : Nat) : Int) - 1 - ((k : Nat) : Int)) - 1) = ((size : Nat) : Int) - 1 - (((k + 1) : Nat) : Int) := by rw [wrap_i64 (by omega) (by omega)]; omega
  rw [aF] at ah
  exact ⟨size - (k + 1), by omega, k + 1, ac, ae, rfl, by omega, ah.pk, aD, (((ax.trans ay).trans aB).trans aE)⟩
 ·
  have aK := of_decide_eq_false ag
  refine wp_exit ?_
  refine then_exit ?_
  refine then_exit ?_
  refine block_exit ?_
  refine then_normal ?_
  refine go_sp [(4, .v (.slice A (((be size x).take k).length) c))] aa ab fun aV aG => ?_
  clear ab
  refine wp_ret ?_
  refine leave aG aa.cells (v := .slice A (((be size x).take k).length) c) kz ?_
  exact fresh_end aa (k := 0) rfl (List.take_of_length_le (by simp; omega))
theorem sUvarint (x : Nat) (hx : x < 18446744073709551616) (w : World) :
  Calls Tryz.prog 93 #[.int .u64 ((x : Nat) : Int)] w (FreshB w 5 (uv x)) := by
 refine enter (n := 20) Tryz.func93 rfl Tryz.ntmps93 kz fun a hE => ?_
 have hW := WOk.start w Nil
 refine go_sp [(0, .v (.int .u64 ((x : Nat) : Int)))] hW hE fun a1 hE2 => ?_
 clear hE
 refine go_sp [(0, .v (.int .u64 ((x : Nat) : Int))), (3, .v (.slice none 0 0))] hW hE2 fun a3 hE4 => ?_
 clear hE2
 refine wp_seq ?_
 refine wp_block ?_
 have hW5 := hW.addNil 5 1
 have hF6 := hW.frNil 5 1
 clear hW
 refine wp_loop_ghost (fun n_ a_ w_ => ∃ (A : Option Addr) (c : Nat) (pre : Bs) (m : Nat), n_ = m ∧ (pre ++ uv m = uv x) ∧ (m < 18446744073709551616) ∧ LInv hW5 20 [] [brow A c 5 pre] [(0, .v (.int .u64 ((m : Nat) : Int))), (3, .v (.slice A pre.length c))] a_ w_) (x) ⟨none, 0, [], x, rfl, rfl, hx, hE4.pk, hW5, Fr.refl _ _ _⟩ ?_
 clear hE4
 rintro n7 a8 w9 ⟨A, c, pre, m, aN, hp, hm, al, aa, aD⟩
 refine wp_seq ?_
 refine go_sp [(0, .v (.int .u64 ((m : Nat) : Int))), (3, .v (.slice A pre.length c)), (5, .v (.bool (decide (((m : Nat) : Int) > 127))))] aa al fun aS ab => ?_
 clear al
 refine cond_of ab (b := decide (((m : Nat) : Int) > 127)) kz (fun ag => ?_) (fun ag => ?_)
 ·
  have aO := of_decide_eq_true ag
  refine wp_skip ?_
  refine then_normal ?_
  refine wp_block ?_
  refine go_seq_region [0, 1, 2, 3, 4, 5, 6, 7] kz ?_
  refine go_rn [0, 1, 2, 3, 4] [5, 6, 7] [(0, .v (.int .u64 ((m : Nat) : Int))), (6, .v (.slice A pre.length c)), (10, .v (.int .u8 (IntKind.u8.wrap (BitVec.ofInt 8 (IntKind.u8.wrap (IntKind.u64.wrap (BitVec.ofInt 64 ((m : Nat) : Int) &&& BitVec.ofInt 64 127).toNat)) ||| BitVec.ofInt 8 128).toNat)))] aa ab fun aT am => ?_
  clear ab
  refine wpOps_push aa am (k := 0) (e := 5) (size := 1) (len := 1) (cs := [.int .u8 (IntKind.u8.wrap (BitVec.ofInt 8 (IntKind.u8.wrap (IntKind.u64.wrap (BitVec.ofInt 64 ((m : Nat) : Int) &&& BitVec.ofInt 64 127).toNat)) ||| BitVec.ofInt 8 128).toNat)]) (d1 := 11) (d := 12) kz (t := 22) (bytes := 1) kz (fun _ => by kernel_rfl) rfl kz (by have h1_ := uv_len10 x hx; rw [← hp, List.length_append] at h1_; omega) fun ac ae aU aV aE ao ⟨_, ap⟩ => ?_
  clear am aa
  have aF : (⟨ac, ae, 5, 1, pre.length + 1, bc pre ++ [.int .u8 (IntKind.u8.wrap (BitVec.ofInt 8 (IntKind.u8.wrap (IntKind.u64.wrap (BitVec.ofInt 64 ((m : Nat) : Int) &&& BitVec.ofInt 64 127).toNat)) ||| BitVec.ofInt 8 128).toNat)]⟩ : Rw) = brow ac ae 5 (pre ++ [by8 (BitVec.ofInt 8 (IntKind.u8.wrap (IntKind.u64.wrap (BitVec.ofInt 64 ((m : Nat) : Int) &&& BitVec.ofInt 64 127).toNat)) ||| BitVec.ofInt 8 128).toNat]) := brow_eq (by simp only [bc, List.map, by8_wrap]; try rfl) rfl
  obtain ⟨af, aG⟩ := ao.rowEq 0 [brow ac ae 5 (pre ++ [by8 (BitVec.ofInt 8 (IntKind.u8.wrap (IntKind.u64.wrap (BitVec.ofInt 64 ((m : Nat) : Int) &&& BitVec.ofInt 64 127).toNat)) ||| BitVec.ofInt 8 128).toNat])] aF
  clear ao
  have ar := EnvOk.pick ap (ks := [0, 6, 10, 12]) (env' := [(0, .v (.int .u64 ((m : Nat) : Int))), (6, .v (.slice A pre.length c)), (10, .v (.int .u8 (IntKind.u8.wrap (BitVec.ofInt 8 (IntKind.u8.wrap (IntKind.u64.wrap (BitVec.ofInt 64 ((m : Nat) : Int) &&& BitVec.ofInt 64 127).toNat)) ||| BitVec.ofInt 8 128).toNat))), (12, .v (.slice ac (pre.length + 1) ae))]) kz
  have au := ar.cast (env' := [(0, .v (.int .u64 ((m : Nat) : Int))), (6, .v (.slice A pre.length c)), (10, .v (.int .u8 (IntKind.u8.wrap (BitVec.ofInt 8 (IntKind.u8.wrap (IntKind.u64.wrap (BitVec.ofInt 64 ((m : Nat) : Int) &&& BitVec.ofInt 64 127).toNat)) ||| BitVec.ofInt 8 128).toNat))), (12, .v (.slice ac ((pre ++ [by8 (BitVec.ofInt 8 (IntKind.u8.wrap (IntKind.u64.wrap (BitVec.ofInt 64 ((m : Nat) : Int) &&& BitVec.ofInt 64 127).toNat)) ||| BitVec.ofInt 8 128).toNat]).length) ae))]) (by simp only [List.length_append, List.length_cons, List.length_nil, Nat.zero_add])
  clear ap
  clear ar
  refine go_rn [7] [] [(0, .v (.int .u64 ((m : Nat) : Int))), (3, .v (.slice ac ((pre ++ [by8 (BitVec.ofInt 8 (IntKind.u8.wrap (IntKind.u64.wrap (BitVec.ofInt 64 ((m : Nat) : Int) &&& BitVec.ofInt 64 127).toNat)) ||| BitVec.ofInt 8 128).toNat]).length) ae))] af au fun aW av => ?_
  clear au
  refine wpOps_nil (then_normal ?_)
  refine go_region [0, 1, 2] kz ?_
  refine go_rn [0, 1, 2] [] [(0, .v (.int .u64 (Int.fdiv ((m : Nat) : Int) 128))), (3, .v (.slice ac ((pre ++ [by8 (BitVec.ofInt 8 (IntKind.u8.wrap (IntKind.u64.wrap (BitVec.ofInt 64 ((m : Nat) : Int) &&& BitVec.ofInt 64 127).toNat)) ||| BitVec.ofInt 8 128).toNat]).length) ae))] af av fun aX ah => ?_
  clear av
  refine wpOps_nil ?_
  refine block_normal ?_
  refine then_normal ?_
  have aw : (pre ++ [by8 (BitVec.ofInt 8 (IntKind.u8.wrap (IntKind.u64.wrap (BitVec.ofInt 64 ((m : Nat) : Int) &&& BitVec.ofInt 64 127).toNat)) ||| BitVec.ofInt 8 128).toNat]) = (pre ++ [UInt8.ofNat (m % 128 + 128)]) := by rw [uv_oct64 m (by omega)]
  have aH := congrArg (brow ac ae 5) aw
  obtain ⟨aI, aJ⟩ := af.rowEq 0 [brow ac ae 5 (pre ++ [UInt8.ofNat (m % 128 + 128)])] aH
  clear af
  rw [aw] at ah
  have aK : Int.fdiv ((m : Nat) : Int) 128 = ((m / 128 : Nat) : Int) := fdiv128 m
  rw [aK] at ah
  exact ⟨m / 128, by omega, ac, ae, pre ++ [UInt8.ofNat (m % 128 + 128)], m / 128, rfl, by rw [← hp, uv_big (show 128 ≤ m by omega)]; simp, by omega, ah.pk, aI, (((aD.trans aE).trans aG).trans aJ)⟩
 ·
  have aP := of_decide_eq_false ag
  refine wp_exit ?_
  refine then_exit ?_
  refine then_exit ?_
  refine block_exit ?_
  refine then_normal ?_
  refine go_seq_region [0, 1, 2, 3, 4, 5] kz ?_
  refine go_rn [0, 1, 2] [3, 4, 5] [(15, .v (.slice A pre.length c)), (17, .v (.int .u8 (IntKind.u8.wrap ((m : Nat) : Int))))] aa ab fun aY ax => ?_
  clear ab
  refine wpOps_push aa ax (k := 0) (e := 5) (size := 1) (len := 1) (cs := [.int .u8 (IntKind.u8.wrap ((m : Nat) : Int))]) (d1 := 18) (d := 19) kz (t := 22) (bytes := 1) kz (fun _ => by kernel_rfl) rfl kz (by have h1_ := uv_len10 x hx; rw [← hp, List.length_append] at h1_; omega) fun ai aj aZ ba aQ ay ⟨_, aA⟩ => ?_
  clear ax aa
  have aL : (⟨ai, aj, 5, 1, pre.length + 1, bc pre ++ [.int .u8 (IntKind.u8.wrap ((m : Nat) : Int))]⟩ : Rw) = brow ai aj 5 (pre ++ [by8 ((m : Nat) : Int)]) := brow_eq (by simp only [bc, List.map, by8_wrap]; try rfl) rfl
  obtain ⟨ak, aR⟩ := ay.rowEq 0 [brow ai aj 5 (pre ++ [by8 ((m : Nat) : Int)])] aL
  clear ay
  have aB := EnvOk.pick aA (ks := [15, 17, 19]) (env' := [(15, .v (.slice A pre.length c)), (17, .v (.int .u8 (IntKind.u8.wrap ((m : Nat) : Int)))), (19, .v (.slice ai (pre.length + 1) aj))]) kz
  have aC := aB.cast (env' := [(15, .v (.slice A pre.length c)), (17, .v (.int .u8 (IntKind.u8.wrap ((m : Nat) : Int)))), (19, .v (.slice ai ((pre ++ [by8 ((m : Nat) : Int)]).length) aj))]) (by simp only [List.length_append, List.length_cons, List.length_nil, Nat.zero_add])
  clear aA
  clear aB
  refine go_rn [5] [] [(2, .v (.slice ai ((pre ++ [by8 ((m : Nat) : Int)]).length) aj))] ak aC fun bd aM => ?_
  clear aC
  refine wpOps_nil (then_normal ?_)
  refine wp_ret ?_
  refine leave aM ak.cells (v := .slice ai ((pre ++ [by8 ((m : Nat) : Int)]).length) aj) kz ?_
  exact fresh_end ak (k := 0) rfl (by rw [← hp, uv_small (show m < 128 by omega), by8_nat])
theorem sCounted (flex null : Bool) (m sz : Nat) (hm : m ≤ 1099511627776) (hsz : sz ≤ 8) (w : World) :
  Calls Tryz.prog 129 #[.bool flex, .bool null, .int .i64 ((m : Nat) : Int), .int .i64 ((sz : Nat) : Int)] w (FreshB w 5 (countedB flex null m sz)) := by
 refine enter (n := 28) Tryz.func129 rfl Tryz.ntmps129 kz fun a hE => ?_
 have hW := WOk.start w Nil
 refine go_sp [(0, .v (.bool flex)), (1, .v (.bool null)), (2, .v (.int .i64 ((m : Nat) : Int))), (3, .v (.int .i64 ((sz : Nat) : Int)))] hW hE fun a1 hE2 => ?_
 clear hE
 refine wp_seq ?_
 refine wp_block ?_
 refine go_seq_region [0, 1, 2, 3, 4] kz ?_
 refine go_rn [0, 1] [2, 3, 4] [(0, .v (.bool flex)), (1, .v (.bool null)), (2, .v (.int .i64 ((m : Nat) : Int))), (3, .v (.int .i64 ((sz : Nat) : Int))), (11, .v (.bool flex))] hW hE2 fun a3 hE4 => ?_
 clear hE2
 refine (Bool.eq_false_or_eq_true (flex)).elim (fun hc5 => ?_) (fun hc5 => ?_)
 ·
  have hE7 := hE4.cast (env' := [(0, .v (.bool true)), (1, .v (.bool null)), (2, .v (.int .i64 ((m : Nat) : Int))), (3, .v (.int .i64 ((sz : Nat) : Int))), (11, .v (.bool true))]) (by rw [hc5])
  clear hE4
  refine go_rn [2, 3, 4] [] [(0, .v (.bool true)), (1, .v (.bool null)), (2, .v (.int .i64 ((m : Nat) : Int))), (3, .v (.int .i64 ((sz : Nat) : Int))), (9, .v (.bool null))] hW hE7 fun a8 hE9 => ?_
  clear hE7
  refine wpOps_nil (then_normal ?_)
  refine cond_of hE9 (b := null) kz (fun ab => ?_) (fun ab => ?_)
  ·
   refine go_seq_region [0, 1] kz ?_
   refine of_op (wpOp_lit hW hE9 (e := 5) (size := 1) (len := 1) (cs := [.int .u8 0]) (d := 14) kz kz fun ac bg bh aW aX aY am ao => ?_)
   clear hE9 hW
   have aE : (⟨some ⟨ac, 0, none⟩, 1, 5, 1, 1, [.int .u8 0]⟩ : Rw) = brow (some ⟨ac, 0, none⟩) 1 5 [by8 0] := by first | rfl | (simp only [brow, bc, List.map, by8_wrap]; try rfl)
   obtain ⟨ae, aZ⟩ := am.rowEq 0 [brow (some ⟨ac, 0, none⟩) 1 5 [by8 0]] aE
   clear am
   have ap := EnvOk.pick ao (ks := [0, 1, 2, 3, 9, 14]) (env' := [(0, .v (.bool true)), (1, .v (.bool null)), (2, .v (.int .i64 ((m : Nat) : Int))), (3, .v (.int .i64 ((sz : Nat) : Int))), (9, .v (.bool null)), (14, .v (.slice (some ⟨ac, 0, none⟩) 1 1))]) kz
   have ar := ap.cast (env' := [(0, .v (.bool true)), (1, .v (.bool null)), (2, .v (.int .i64 ((m : Nat) : Int))), (3, .v (.int .i64 ((sz : Nat) : Int))), (9, .v (.bool null)), (14, .v (.slice (some ⟨ac, 0, none⟩) ([by8 0].length) 1))]) rfl
   clear ao ap
   refine go_rn [1] [] [(8, .v (.slice (some ⟨ac, 0, none⟩) ([by8 0].length) 1))] ae ar fun bi aF => ?_
   clear ar
   refine wpOps_nil (then_normal ?_)
   refine wp_ret ?_
   refine block_ret ?_
   refine then_ret ?_
   refine leave aF ae.cells (v := .slice (some ⟨ac, 0, none⟩) ([by8 0].length) 1) kz ?_
   exact fresh_end ae (k := 0) rfl (by simp [countedB, hc5, ab]; try rfl)
  ·
   refine go_sp [(1, .v (.bool null)), (2, .v (.int .i64 ((m : Nat) : Int))), (3, .v (.int .i64 ((sz : Nat) : Int))), (15, .v (.bool true))] hW hE9 fun bj af => ?_
   clear hE9
   refine cond_true af (b := true) kz rfl ?_
   refine go_seq_region [0, 1, 2, 3, 4] kz ?_
   refine go_rn [0, 1, 2] [3, 4] [(19, .v (.int .u64 (IntKind.u64.wrap ((IntKind.u64.wrap ((m : Nat) : Int)) + 1))))] hW af fun bk au => ?_
   clear af
   have aG : IntKind.u64.wrap ((IntKind.u64.wrap ((m : Nat) : Int)) + 1) = ((m + 1 : Nat) : Int) := by simp only [wrap_u64, wrap_u32, wrap_u16, IntKind.wrap_i64, IntKind.wrap_i32]; omega
   have av := EnvOk.pick au (ks := [19]) (env' := [(19, .v (.int .u64 (IntKind.u64.wrap ((IntKind.u64.wrap ((m : Nat) : Int)) + 1))))]) kz
   have aw := av.cast (env' := [(19, .v (.int .u64 ((m + 1 : Nat) : Int)))]) (by rw [aG])
   clear au av
   refine of_op (wpOp_call aw (f := 93) (vs := [.int .u64 ((m + 1 : Nat) : Int)]) (d := 20) kz Tryz.call93 (sUvarint (m + 1) (by omega) _) ?_)
   rintro e_ bn ⟨aH, aI, rfl, aJ, aK⟩
   refine ⟨_, rfl, fun bp ax => ?_⟩
   obtain ⟨ag, ba⟩ := hW.frFresh aK (brow aH aI 5 (uv (m + 1))) (Nat.le_refl _) aJ
   clear aw hW
   refine go_rn [4] [] [(8, .v (.slice aH ((uv (m + 1)).length) aI))] ag ax fun bq aL => ?_
   clear ax
   refine wpOps_nil (then_normal ?_)
   refine wp_ret ?_
   refine block_ret ?_
   refine then_ret ?_
   refine leave aL ag.cells (v := .slice aH ((uv (m + 1)).length) aI) kz ?_
   exact fresh_end ag (k := 0) rfl (by simp [countedB, hc5, ab]; try rfl)
 ·
  have ay := hE4.cast (env' := [(0, .v (.bool false)), (1, .v (.bool null)), (2, .v (.int .i64 ((m : Nat) : Int))), (3, .v (.int .i64 ((sz : Nat) : Int))), (11, .v (.bool false))]) (by rw [hc5])
  clear hE4
  refine go_rn [2, 3, 4] [] [(0, .v (.bool false)), (1, .v (.bool null)), (2, .v (.int .i64 ((m : Nat) : Int))), (3, .v (.int .i64 ((sz : Nat) : Int))), (9, .v (.bool false))] hW ay fun br ah => ?_
  clear ay
  refine wpOps_nil (then_normal ?_)
  refine cond_false ah (b := false) kz rfl ?_
  refine go_sp [(1, .v (.bool null)), (2, .v (.int .i64 ((m : Nat) : Int))), (3, .v (.int .i64 ((sz : Nat) : Int))), (15, .v (.bool false))] hW ah fun bt ai => ?_
  clear ah
  refine cond_false ai (b := false) kz rfl ?_
  refine go_sp [(2, .v (.int .i64 ((m : Nat) : Int))), (3, .v (.int .i64 ((sz : Nat) : Int))), (21, .v (.bool null))] hW ai fun bu aa => ?_
  clear ai
  refine cond_of aa (b := null) kz (fun aj => ?_) (fun aj => ?_)
  ·
   refine go_seq_region [0, 1, 2] kz ?_
   refine go_rn [0] [1, 2] [(23, .v (.int .i64 ((sz : Nat) : Int)))] hW aa fun bv aA => ?_
   clear aa
   refine of_op (wpOp_call aA (f := 131) (vs := [.int .i64 (-1), .int .i64 ((sz : Nat) : Int)]) (d := 24) kz Tryz.call131 (sFixed (-1) sz (by first | decide | exact widthI_le _ | omega) _) ?_)
   rintro e_ bw ⟨aM, aN, rfl, aO, aP⟩
   refine ⟨_, rfl, fun bz aB => ?_⟩
   obtain ⟨ak, bd⟩ := hW.frFresh aP (brow aM aN 5 (be sz (-1))) (Nat.le_refl _) aO
   clear aA hW
   refine go_rn [2] [] [(8, .v (.slice aM ((be sz (-1)).length) aN))] ak aB fun bA aQ => ?_
   clear aB
   refine wpOps_nil (then_normal ?_)
   refine wp_ret ?_
   refine block_ret ?_
   refine then_ret ?_
   refine leave aQ ak.cells (v := .slice aM ((be sz (-1)).length) aN) kz ?_
   exact fresh_end ak (k := 0) rfl (by simp [countedB, hc5, aj]; try rfl)
  ·
   refine wp_skip ?_
   refine block_normal ?_
   refine then_normal ?_
   refine go_seq_region [0, 1, 2, 3] kz ?_
   refine go_rn [0, 1] [2, 3] [(25, .v (.int .i64 ((m : Nat) : Int))), (26, .v (.int .i64 ((sz : Nat) : Int)))] hW aa fun bB aC => ?_
   clear aa
   refine of_op (wpOp_call aC (f := 131) (vs := [.int .i64 ((m : Nat) : Int), .int .i64 ((sz : Nat) : Int)]) (d := 27) kz Tryz.call131 (sFixed ((m : Nat) : Int) sz (by first | decide | exact widthI_le _ | omega) _) ?_)
   rintro e_ bC ⟨aR, aS, rfl, aT, aU⟩
   refine ⟨_, rfl, fun bD aD => ?_⟩
   obtain ⟨al, bf⟩ := hW.frFresh aU (brow aR aS 5 (be sz ((m : Nat) : Int))) (Nat.le_refl _) aT
   clear aC hW
   refine go_rn [3] [] [(8, .v (.slice aR ((be sz ((m : Nat) : Int)).length) aS))] al aD fun bE aV => ?_
   clear aD
   refine wpOps_nil (then_normal ?_)
   refine wp_ret ?_
   refine leave aV al.cells (v := .slice aR ((be sz ((m : Nat) : Int)).length) aS) kz ?_
   exact fresh_end al (k := 0) rfl (by simp [countedB, hc5, aj]; try rfl)
theorem sKnown (A : Option Addr) (c : Nat) (l : List Fld) (w : World) (F : Nat → Nat → Prop) (hl : FldsR w F A c l) :
  Calls Tryz.prog 89 #[.slice A l.length c] w (Gives w (.int .u32 (knownI l))) := by
 obtain ⟨xfs, h1, h2⟩ := hl.ex
 have hsm := h1.small
 refine enter (n := 23) Tryz.func89 rfl Tryz.ntmps89 kz fun a hE => ?_
 have hW := WOk.start w Nil
 refine go_sp [(0, .v (.slice A l.length c))] hW hE fun a1 hE2 => ?_
 clear hE
 refine go_sp [(0, .v (.slice A l.length c)), (3, .v (.int .u32 0))] hW hE2 fun a3 hE4 => ?_
 clear hE2
 refine wp_seq ?_
 refine go_sp [(3, .v (.int .u32 0)), (6, .v (.slice A l.length c)), (7, .v (.int .i64 ((l.length : Nat) : Int))), (8, .v (.int .i64 0))] hW hE4 fun a5 hE6 => ?_
 clear hE4
 refine wp_block ?_
 refine wp_loop_ghost (fun n_ a_ w_ => ∃ (k : Nat), n_ = l.length - k ∧ k ≤ l.length ∧ LInv hW 23 [] [] [(3, .v (.int .u32 (knownI (l.take k)))), (6, .v (.slice A l.length c)), (7, .v (.int .i64 ((l.length : Nat) : Int))), (8, .v (.int .i64 ((k : Nat) : Int)))] a_ w_) (l.length) ⟨0, by omega, by omega, hE6.pk, hW, Fr.refl _ _ _⟩ ?_
 clear hE6
 rintro n7 a8 w9 ⟨k, bd, bf, ao, aa, ap⟩
 refine go_sp [(3, .v (.int .u32 (knownI (l.take k)))), (6, .v (.slice A l.length c)), (7, .v (.int .i64 ((l.length : Nat) : Int))), (8, .v (.int .i64 ((k : Nat) : Int))), (9, .v (.bool (decide (((k : Nat) : Int) < ((l.length : Nat) : Int)))))] aa ao fun bu ae => ?_
 clear ao
 refine wp_seq ?_
 refine cond_of ae (b := decide (((k : Nat) : Int) < ((l.length : Nat) : Int))) kz (fun ai => ?_) (fun ai => ?_)
 ·
  have bg := of_decide_eq_true ai
  refine wp_skip ?_
  refine then_normal ?_
  refine wp_seq ?_
  refine wp_block ?_
  refine go_seq_region [0, 1, 2, 3] kz ?_
  obtain ⟨bh, bi, aD, bj, ag⟩ := Slots.get h1 (i := k) (by omega)
  obtain ⟨bk, aj⟩ : ∃ x, l[k]? = some x := ⟨_, List.getElem?_eq_getElem (by omega)⟩
  have ar := h2 k bk aj
  obtain ⟨aE, aF, aG, aH, ab, aI, aJ, aK, aL, aM, bn, rfl, ah, bp, bv⟩ := ar.open_
  rw [ah] at ar
  have ba := bp.small
  rw [ah] at ag
  refine of_op (wpOp_index ae (t := 29) (A := A) (m := l.length) (q := ((k : Nat) : Int)) (d := 10) kz (e := 51) (size := 8) (bytes := 80) kz aD rfl (by omega) fun bw au => ?_)
  clear ae
  refine of_op (wpOp_load au (t := 51) (b := bh) (o := bi + k * 8) (d := 11) kz (cs := [.int .i64 aE, .int .i64 aF, .int .i64 aG, .int .i64 aH, .int .i64 ab, .int .i64 aI, .int .i64 aJ, .slice aL aK.length aM]) (v := .agg #[.int .i64 aE, .int .i64 aF, .int .i64 aG, .int .i64 aH, .int .i64 ab, .int .i64 aI, .int .i64 aJ, .slice aL aK.length aM]) kz (AtF.move ag aa.step nilM keepF).at_ fun bz av => ?_)
  clear au
  refine of_op (wpOp_alloc aa av (d := 5) (cs := [.int .i64 0, .int .i64 0, .int .i64 0, .int .i64 0, .int .i64 0, .int .i64 0, .int .i64 0, .slice none 0 0]) kz fun bA bB bC bq br aw ax ay => ?_)
  clear av aa
  refine of_op (wpOp_store ax ay (oi := 0) (cs := [.int .i64 aE, .int .i64 aF, .int .i64 aG, .int .i64 aH, .int .i64 ab, .int .i64 aI, .int .i64 aJ, .slice aL aK.length aM]) kz fun bD aA ac aB => ?_)
  clear ay ax
  refine wpOps_nil (then_normal ?_)
  refine go_sp [(3, .v (.int .u32 (knownI (l.take k)))), (5, .p 0 0), (6, .v (.slice A l.length c)), (7, .v (.int .i64 ((l.length : Nat) : Int))), (8, .v (.int .i64 ((k : Nat) : Int))), (14, .v (.bool (decide (ab ≥ 0))))] ac aB fun bE af => ?_
  clear aB
  refine cond_of af (b := decide (ab ≥ 0)) kz (fun ak => ?_) (fun ak => ?_)
  ·
   have aN := of_decide_eq_true ak
   refine go_region [0, 1, 2, 3, 4, 5, 6] kz ?_
   refine go_rn [0, 1, 2, 3, 4, 5, 6] [] [(3, .v (.int .u32 (if IntKind.u32.wrap ((IntKind.u32.wrap ab) + 1) > knownI (l.take k) then IntKind.u32.wrap ((IntKind.u32.wrap ab) + 1) else knownI (l.take k)))), (6, .v (.slice A l.length c)), (7, .v (.int .i64 ((l.length : Nat) : Int))), (8, .v (.int .i64 ((k : Nat) : Int)))] ac af fun bF aC => ?_
   clear af
   refine wpOps_nil ?_
   refine block_normal ?_
   refine then_normal ?_
   refine go_region [0, 1] kz ?_
   refine go_rn [0, 1] [] [(3, .v (.int .u32 (if IntKind.u32.wrap ((IntKind.u32.wrap ab) + 1) > knownI (l.take k) then IntKind.u32.wrap ((IntKind.u32.wrap ab) + 1) else knownI (l.take k)))), (6, .v (.slice A l.length c)), (7, .v (.int .i64 ((l.length : Nat) : Int))), (8, .v (.int .i64 (IntKind.i64.wrap (((k : Nat) : Int) + 1))))] ac aC fun bG aO => ?_
   clear aC
   refine wpOps_nil (then_normal ?_)
   obtain ⟨al, aP, aQ⟩ := ac.cutB aO 0 [] [(3, .v (.int .u32 (if IntKind.u32.wrap ((IntKind.u32.wrap ab) + 1) > knownI (l.take k) then IntKind.u32.wrap ((IntKind.u32.wrap ab) + 1) else knownI (l.take k)))), (6, .v (.slice A l.length c)), (7, .v (.int .i64 ((l.length : Nat) : Int))), (8, .v (.int .i64 (IntKind.i64.wrap (((k : Nat) : Int) + 1))))]
   have aR : IntKind.i64.wrap (((k : Nat) : Int) + 1) = ((k + 1 : Nat) : Int) := wrap_succ (by omega)
   rw [aR] at al
   have aS : (if IntKind.u32.wrap ((IntKind.u32.wrap ab) + 1) > knownI (l.take k) then IntKind.u32.wrap ((IntKind.u32.wrap ab) + 1) else knownI (l.take k)) = knownI (l.take (k + 1)) := known_pos aj aN
   rw [aS] at al
   exact ⟨l.length - (k + 1), by omega, k + 1, rfl, by omega, al.pk, aP, (((ap.trans aw).trans aA).trans aQ)⟩
  ·
   have aT := of_decide_eq_false ak
   refine wp_skip ?_
   refine block_normal ?_
   refine then_normal ?_
   refine go_region [0, 1] kz ?_
   refine go_rn [0, 1] [] [(3, .v (.int .u32 (knownI (l.take k)))), (6, .v (.slice A l.length c)), (7, .v (.int .i64 ((l.length : Nat) : Int))), (8, .v (.int .i64 (IntKind.i64.wrap (((k : Nat) : Int) + 1))))] ac af fun bH aU => ?_
   clear af
   refine wpOps_nil (then_normal ?_)
   obtain ⟨am, aV, aW⟩ := ac.cutB aU 0 [] [(3, .v (.int .u32 (knownI (l.take k)))), (6, .v (.slice A l.length c)), (7, .v (.int .i64 ((l.length : Nat) : Int))), (8, .v (.int .i64 (IntKind.i64.wrap (((k : Nat) : Int) + 1))))]
   have aX : IntKind.i64.wrap (((k : Nat) : Int) + 1) = ((k + 1 : Nat) : Int) := wrap_succ (by omega)
   rw [aX] at am
   have aY : knownI (l.take k) = knownI (l.take (k + 1)) := known_neg aj aT
   rw [aY] at am
   exact ⟨l.length - (k + 1), by omega, k + 1, rfl, by omega, am.pk, aV, (((ap.trans aw).trans aA).trans aW)⟩
 ·
  have bt := of_decide_eq_false ai
  refine wp_exit ?_
  refine then_exit ?_
  refine then_exit ?_
  refine block_exit ?_
  refine then_normal ?_
  refine go_sp [(2, .v (.int .u32 (knownI (l.take k))))] aa ae fun bI aZ => ?_
  clear ae
  refine wp_ret ?_
  refine leave aZ aa.cells (v := .int .u32 (knownI (l.take k))) kz ?_
  exact ⟨by rw [List.take_of_length_le (by omega)], aa.step⟩
def PartOK (d : Nat) : Prop := ∀ (A : Option Addr) (c : Nat) (l : List Fld) (v : Int) (flex : Bool) (ct : List Value) (t : Tree) (w : World) (F : Nat → Nat → Prop), FldsR w F A c l → depths l ≤ d → TreeR w F ct t → (partB d l v flex t).length ≤ 1099511627776 →
  Calls Tryz.prog 40 #[.slice A l.length c, .int .i64 v, .bool flex, .agg ct.toArray] w (FreshB w 5 (partB d l v flex t))
theorem sValue {d : Nat} (hp : PartOK d) (kind : Int) (A : Option Addr) (c : Nat) (l : List Fld) (null : Bool) (v : Int) (flex : Bool) (ct : List Value) (t : Tree) (w : World) (F : Nat → Nat → Prop) (hl : FldsR w F A c l) (hd : depths l ≤ d) (ht : TreeR w F ct t) (hroom : (valueB (partB d l v flex) kind null flex t).length ≤ 1099511627776) :
  Calls Tryz.prog 130 #[.int .i64 kind, .slice A l.length c, .bool null, .int .i64 v, .bool flex, .agg ct.toArray] w (FreshB w 5 (valueB (partB d l v flex) kind null flex t)) := by
 obtain ⟨n1, s2, b3, l4, u5, A6, c7, A8, c9, dw, dx, dX, rfl, rfl, bh, dY, fi, fj⟩ := ht.open_
 have dF := bh.small
 have dG := dY.small
 have hl0 := hl
 obtain ⟨xfs, h1, h2⟩ := hl.ex
 have hsm := h1.small
 refine enter (n := 70) Tryz.func130 rfl Tryz.ntmps130 kz fun a hE => ?_
 have hW := WOk.start w Nil
 refine go_seq_region [0, 1] kz ?_
 refine of_op (wpOp_box hW hE (d := 11) (cs := [.int .i64 n1, .slice A6 s2.length c7, .bool b3, .slice A8 l4.length c9, .slice dw u5.length dx]) kz fun fk fl fm dZ d4 d5 aa cu => ?_)
 clear hE hW
 refine go_rn [1] [] [(0, .v (.int .i64 kind)), (1, .v (.slice A l.length c)), (2, .v (.bool null)), (3, .v (.int .i64 v)), (4, .v (.bool flex)), (11, .p 0 0)] aa cu fun fo cv => ?_
 clear cu
 refine wpOps_nil (then_normal ?_)
 refine wp_seq ?_
 refine go_sp [(0, .v (.int .i64 kind)), (1, .v (.slice A l.length c)), (2, .v (.bool null)), (3, .v (.int .i64 v)), (4, .v (.bool flex)), (11, .p 0 0), (16, .v (.int .i64 kind))] aa cv fun fp cw => ?_
 clear cv
 refine wp_block ?_
 refine go_sp [(0, .v (.int .i64 kind)), (1, .v (.slice A l.length c)), (2, .v (.bool null)), (3, .v (.int .i64 v)), (4, .v (.bool flex)), (11, .p 0 0), (16, .v (.int .i64 kind)), (17, .v (.bool (kind == 0)))] aa cw fun fq aI => ?_
 clear cw
 refine cond_of aI (b := kind == 0) kz (fun ae => ?_) (fun ae => ?_)
 ·
  have dy : kind = 0 := by simpa using ae
  refine go_seq_region [0, 1, 2, 3, 4, 5] kz ?_
  refine go_rn [0, 1, 2, 3] [4, 5] [(22, .v (.int .u8 (IntKind.u8.wrap (IntKind.i64.wrap (BitVec.ofInt 64 n1 &&& BitVec.ofInt 64 1).toNat))))] aa aI fun fr cy => ?_
  clear aI
  refine of_op (wpOp_lit aa cy (e := 5) (size := 1) (len := 1) (cs := [.int .u8 (IntKind.u8.wrap (IntKind.i64.wrap (BitVec.ofInt 64 n1 &&& BitVec.ofInt 64 1).toNat))]) (d := 23) kz kz fun cd ft fu d6 d7 d8 cz cA => ?_)
  clear cy aa
  have dz : (⟨some ⟨cd, 0, none⟩, 1, 5, 1, 1, [.int .u8 (IntKind.u8.wrap (IntKind.i64.wrap (BitVec.ofInt 64 n1 &&& BitVec.ofInt 64 1).toNat))]⟩ : Rw) = brow (some ⟨cd, 0, none⟩) 1 5 [by8 (IntKind.i64.wrap (BitVec.ofInt 64 n1 &&& BitVec.ofInt 64 1).toNat)] := by first | rfl | (simp only [brow, bc, List.map, by8_wrap]; try rfl)
  obtain ⟨ce, d9⟩ := cz.rowEq 0 [brow (some ⟨cd, 0, none⟩) 1 5 [by8 (IntKind.i64.wrap (BitVec.ofInt 64 n1 &&& BitVec.ofInt 64 1).toNat)]] dz
  clear cz
  have cB := EnvOk.pick cA (ks := [22, 23]) (env' := [(22, .v (.int .u8 (IntKind.u8.wrap (IntKind.i64.wrap (BitVec.ofInt 64 n1 &&& BitVec.ofInt 64 1).toNat)))), (23, .v (.slice (some ⟨cd, 0, none⟩) 1 1))]) kz
  have cC := cB.cast (env' := [(22, .v (.int .u8 (IntKind.u8.wrap (IntKind.i64.wrap (BitVec.ofInt 64 n1 &&& BitVec.ofInt 64 1).toNat)))), (23, .v (.slice (some ⟨cd, 0, none⟩) ([by8 (IntKind.i64.wrap (BitVec.ofInt 64 n1 &&& BitVec.ofInt 64 1).toNat)].length) 1))]) rfl
  clear cA cB
  refine go_rn [5] [] [(12, .v (.slice (some ⟨cd, 0, none⟩) ([by8 (IntKind.i64.wrap (BitVec.ofInt 64 n1 &&& BitVec.ofInt 64 1).toNat)].length) 1))] ce cC fun fv dA => ?_
  clear cC
  refine wpOps_nil (then_normal ?_)
  refine wp_ret ?_
  refine block_ret ?_
  refine then_ret ?_
  refine leave dA ce.cells (v := .slice (some ⟨cd, 0, none⟩) ([by8 (IntKind.i64.wrap (BitVec.ofInt 64 n1 &&& BitVec.ofInt 64 1).toNat)].length) 1) kz ?_
  exact fresh_end ce (k := 0) rfl (by (try simp only [and1]); simp [valueB, Tree.S, Tree.N, dy, ae])
 ·
  have al : kind ≠ 0 := by simpa using ae
  refine go_sp [(0, .v (.int .i64 kind)), (1, .v (.slice A l.length c)), (2, .v (.bool null)), (3, .v (.int .i64 v)), (4, .v (.bool flex)), (11, .p 0 0), (16, .v (.int .i64 kind)), (24, .v (.bool (kind == 7)))] aa aI fun fw aJ => ?_
  clear aI
  refine cond_of aJ (b := kind == 7) kz (fun af => ?_) (fun af => ?_)
  ·
   have dB : kind = 7 := by simpa using af
   refine go_seq_region [0, 1] kz ?_
   refine of_op (wpOp_make1 aa aJ (d := 26) (j := 16) (t := 22) (e := 5) (bytes := 1) (z := .int .u8 0) kz kz kz kz (rfl) (rfl) (by omega) fun aG fx fy ea eb ec aH cD => ?_)
   clear aJ aa
   refine go_rn [1] [] [(11, .p 0 0), (13, .v (.slice (some ⟨aG, 0, none⟩) 16 16))] aH cD fun fz cE => ?_
   clear cD
   refine wpOps_nil (then_normal ?_)
   refine go_seq_region [0, 1, 2, 3] kz ?_
   refine go_rn [0, 1, 2] [3] [(13, .v (.slice (some ⟨aG, 0, none⟩) 16 16)), (27, .v (.slice (some ⟨aG, 0, none⟩) 16 16)), (29, .v (.slice A6 s2.length c7))] aH cE fun fA cG => ?_
   clear cE
   refine of_op (wpOp_copyR aH cG (k := 0) (d := 30) (t := 22) (u := 22) (e := 5) (bytes := 1) (A := (some ⟨aG, 0, none⟩)) (As := A6) (m := s2.length) (cs := c7) (m0 := 16) (c := 16) (xs := (List.replicate 16 (.int .u8 0))) (news := bc s2) kz kz rfl (bh.move aH.step nilM aH.imm).src fun fB fC ee cH cI => ?_)
   clear cG aH
   have dC : (⟨(some ⟨aG, 0, none⟩), 16, 5, 1, 16, splice (List.replicate 16 (.int .u8 0)) 0 ((bc s2).take (min s2.length 16))⟩ : Rw) = brow (some ⟨aG, 0, none⟩) 16 5 (uuidB s2) := uuid_row _ _ _
   obtain ⟨cg, ef⟩ := cH.rowEq 0 [brow (some ⟨aG, 0, none⟩) 16 5 (uuidB s2)] dC
   clear cH
   have cJ := EnvOk.pick cI (ks := [13, 27, 29, 30]) (env' := [(13, .v (.slice (some ⟨aG, 0, none⟩) 16 16)), (27, .v (.slice (some ⟨aG, 0, none⟩) 16 16)), (29, .v (.slice A6 s2.length c7)), (30, .v (.int .i64 ((min s2.length 16 : Nat) : Int)))]) kz
   have cK := cJ.cast (env' := [(13, .v (.slice (some ⟨aG, 0, none⟩) ((uuidB s2).length) 16)), (27, .v (.slice (some ⟨aG, 0, none⟩) ((uuidB s2).length) 16)), (29, .v (.slice A6 s2.length c7)), (30, .v (.int .i64 ((min s2.length 16 : Nat) : Int)))]) (by rw [uuidB_length _])
   clear cI cJ
   refine wpOps_nil (then_normal ?_)
   refine go_sp [(12, .v (.slice (some ⟨aG, 0, none⟩) ((uuidB s2).length) 16))] cg cK fun fD dD => ?_
   clear cK
   refine wp_ret ?_
   refine block_ret ?_
   refine then_ret ?_
   refine leave dD cg.cells (v := .slice (some ⟨aG, 0, none⟩) ((uuidB s2).length) 16) kz ?_
   exact fresh_end cg (k := 0) rfl (by (try simp only [and1]); simp [valueB, Tree.S, Tree.N, al, dB, ae, af])
  ·
   have av : kind ≠ 7 := by simpa using af
   refine go_sp [(0, .v (.int .i64 kind)), (1, .v (.slice A l.length c)), (2, .v (.bool null)), (3, .v (.int .i64 v)), (4, .v (.bool flex)), (11, .p 0 0), (16, .v (.int .i64 kind)), (32, .v (.bool (kind == 8)))] aa aJ fun fE aK => ?_
   clear aJ
   refine cond_of aK (b := kind == 8) kz (fun ai => ?_) (fun ai => ?_)
   ·
    have cL : kind = 8 := by simpa using ai
    refine go_seq_region [0, 1, 2, 3] kz ?_
    refine go_rn [0, 1] [2, 3] [(2, .v (.bool null)), (4, .v (.bool flex)), (35, .v (.slice A6 s2.length c7))] aa aK fun fF cM => ?_
    clear aK
    have dH := whole_le s2
    refine of_op (wpOp_call cM (f := 39) (vs := [.slice A6 s2.length c7]) (d := 36) kz Tryz.call39 (sWhole _ _ s2 (bh.move aa.step nilM aa.imm).le _) ?_)
    rintro e_ fG ⟨rfl, cN⟩
    refine ⟨_, rfl, fun fH cO => ?_⟩
    have ak := aa.next_nil cN
    have eg := aa.frN cN
    clear cM aa
    refine go_rn [3] [] [(2, .v (.bool null)), (4, .v (.bool flex)), (14, .v (.slice A6 ((whole s2).length) c7))] ak cO fun fI bi => ?_
    clear cO
    refine wpOps_nil (then_normal ?_)
    refine wp_seq ?_
    refine go_sp [(2, .v (.bool null)), (4, .v (.bool flex)), (14, .v (.slice A6 ((whole s2).length) c7)), (37, .v (.bool null))] ak bi fun eh am => ?_
    clear bi
    refine cond_of am (b := null) kz (fun aL => ?_) (fun aL => ?_)
    ·
     refine go_region [0] kz ?_
     refine go_rn [0] [] [(2, .v (.bool null)), (4, .v (.bool flex)), (14, .v (.slice none 0 0))] ak am fun ei bj => ?_
     clear am
     refine wpOps_nil (then_normal ?_)
     refine go_seq_region [0, 1, 2, 3, 4, 5, 6, 7] kz ?_
     refine go_rn [0, 1, 2, 3] [4, 5, 6, 7] [(14, .v (.slice none 0 0)), (38, .v (.bool flex)), (39, .v (.bool null)), (41, .v (.int .i64 0))] ak bj fun ej bk => ?_
     clear bj
     refine of_op (wpOp_call bk (f := 129) (vs := [.bool flex, .bool null, .int .i64 0, .int .i64 2]) (d := 42) kz Tryz.call129 (sCounted flex null 0 2 (by first | omega | exact Nat.le_trans (whole_le _) (by decide) | exact Nat.le_trans (things_le _) (by decide) | (simp; done) | (have := hroom; omega)) (by first | decide | omega) _) ?_)
     rintro e_ ek ⟨aM, aN, rfl, cP, cQ⟩
     refine ⟨_, rfl, fun em bn => ?_⟩
     obtain ⟨aO, dI⟩ := ak.frFresh cQ (brow aM aN 5 (countedB flex null 0 2)) (Nat.le_refl _) cP
     clear bk ak
     refine go_rn [5] [6, 7] [(42, .v (.slice aM ((countedB flex null 0 2).length) aN)), (43, .v (.slice none 0 0))] aO bn fun eo bp => ?_
     clear bn
     refine of_op (wpOp_append aO bp (k := 0) (d := 44) (t := 22) (e := 5) (size := 1) (bytes := 1) (A := aM) (As := none) (m0 := ((countedB flex null 0 2).length)) (c := aN) (m := 0) (cs := 0) (xs := (bc (countedB flex null 0 2))) (news := bc ([] : Bs)) kz kz rfl (Octs.nil _ (fun _ _ => True)).src (fun _ => rfl) (by first | exact cw_room (by omega) (by decide) (by omega) | exact cw_room (Nat.le_trans (whole_le _) (by decide)) (by decide) (Nat.le_trans (whole_le _) (by decide)) | (simp; done)) fun aw ax ep eu dJ bq br => ?_)
     clear bp aO
     have cR : (⟨aw, ax, 5, 1, (countedB flex null 0 2).length + 0, bc (countedB flex null 0 2) ++ bc ([] : Bs)⟩ : Rw) = brow aw ax 5 (countedB flex null 0 2 ++ ([] : Bs)) := brow_eq (rfl) rfl
     obtain ⟨aP, dK⟩ := bq.rowEq 0 [brow aw ax 5 (countedB flex null 0 2 ++ ([] : Bs))] cR
     clear bq
     have bt := EnvOk.pick br (ks := [42, 43, 44]) (env' := [(42, .v (.slice aM ((countedB flex null 0 2).length) aN)), (43, .v (.slice none 0 0)), (44, .v (.slice aw ((countedB flex null 0 2).length + 0) ax))]) kz
     have bu := bt.cast (env' := [(42, .v (.slice aM ((countedB flex null 0 2).length) aN)), (43, .v (.slice none 0 0)), (44, .v (.slice aw ((countedB flex null 0 2 ++ ([] : Bs)).length) ax))]) (by simp only [List.length_append, List.length_cons, List.length_nil, Nat.zero_add])
     clear br
     clear bt
     refine go_rn [7] [] [(12, .v (.slice aw ((countedB flex null 0 2 ++ ([] : Bs)).length) ax))] aP bu fun ev cS => ?_
     clear bu
     refine wpOps_nil (then_normal ?_)
     refine wp_ret ?_
     refine block_ret ?_
     refine then_ret ?_
     refine leave cS aP.cells (v := .slice aw ((countedB flex null 0 2 ++ ([] : Bs)).length) ax) kz ?_
     exact fresh_end aP (k := 0) rfl (by (try simp only [and1]); simp [valueB, Tree.S, Tree.N, al, av, cL, ae, af, ai, aL])
    ·
     refine wp_skip ?_
     refine then_normal ?_
     refine go_seq_region [0, 1, 2, 3, 4, 5, 6, 7] kz ?_
     refine go_rn [0, 1, 2, 3] [4, 5, 6, 7] [(14, .v (.slice A6 ((whole s2).length) c7)), (38, .v (.bool flex)), (39, .v (.bool null)), (41, .v (.int .i64 (((whole s2).length : Nat) : Int)))] ak am fun ew bv => ?_
     clear am
     refine of_op (wpOp_call bv (f := 129) (vs := [.bool flex, .bool null, .int .i64 (((whole s2).length : Nat) : Int), .int .i64 2]) (d := 42) kz Tryz.call129 (sCounted flex null ((whole s2).length) 2 (by first | omega | exact Nat.le_trans (whole_le _) (by decide) | exact Nat.le_trans (things_le _) (by decide) | (simp; done) | (have := hroom; omega)) (by first | decide | omega) _) ?_)
     rintro e_ ey ⟨aQ, aR, rfl, cT, cV⟩
     refine ⟨_, rfl, fun ez bw => ?_⟩
     obtain ⟨ag, dL⟩ := ak.frFresh cV (brow aQ aR 5 (countedB flex null ((whole s2).length) 2)) (Nat.le_refl _) cT
     clear bv ak
     refine go_rn [5] [6, 7] [(42, .v (.slice aQ ((countedB flex null ((whole s2).length) 2).length) aR)), (43, .v (.slice A6 ((whole s2).length) c7))] ag bw fun eA bz => ?_
     clear bw
     refine of_op (wpOp_append ag bz (k := 0) (d := 44) (t := 22) (e := 5) (size := 1) (bytes := 1) (A := aQ) (As := A6) (m0 := ((countedB flex null ((whole s2).length) 2).length)) (c := aR) (m := ((whole s2).length)) (cs := c7) (xs := (bc (countedB flex null ((whole s2).length) 2))) (news := bc (whole s2)) kz kz rfl ((bh.take 32767).move ag.step nilM ag.imm).src ((bh.take 32767).move ag.step nilM ag.imm).cap (by first | exact cw_room (by omega) (by decide) (by omega) | exact cw_room (Nat.le_trans (whole_le _) (by decide)) (by decide) (Nat.le_trans (whole_le _) (by decide)) | (simp; done)) fun ay aA eB eC dM bA bB => ?_)
     clear bz ag
     have cW : (⟨ay, aA, 5, 1, (countedB flex null ((whole s2).length) 2).length + (whole s2).length, bc (countedB flex null ((whole s2).length) 2) ++ bc (whole s2)⟩ : Rw) = brow ay aA 5 (countedB flex null ((whole s2).length) 2 ++ (whole s2)) := brow_eq (rfl) rfl
     obtain ⟨aS, dN⟩ := bA.rowEq 0 [brow ay aA 5 (countedB flex null ((whole s2).length) 2 ++ (whole s2))] cW
     clear bA
     have bC := EnvOk.pick bB (ks := [42, 43, 44]) (env' := [(42, .v (.slice aQ ((countedB flex null ((whole s2).length) 2).length) aR)), (43, .v (.slice A6 ((whole s2).length) c7)), (44, .v (.slice ay ((countedB flex null ((whole s2).length) 2).length + (whole s2).length) aA))]) kz
     have bD := bC.cast (env' := [(42, .v (.slice aQ ((countedB flex null ((whole s2).length) 2).length) aR)), (43, .v (.slice A6 ((whole s2).length) c7)), (44, .v (.slice ay ((countedB flex null ((whole s2).length) 2 ++ (whole s2)).length) aA))]) (by simp only [List.length_append, List.length_cons, List.length_nil, Nat.zero_add])
     clear bB
     clear bC
     refine go_rn [7] [] [(12, .v (.slice ay ((countedB flex null ((whole s2).length) 2 ++ (whole s2)).length) aA))] aS bD fun eD cX => ?_
     clear bD
     refine wpOps_nil (then_normal ?_)
     refine wp_ret ?_
     refine block_ret ?_
     refine then_ret ?_
     refine leave cX aS.cells (v := .slice ay ((countedB flex null ((whole s2).length) 2 ++ (whole s2)).length) aA) kz ?_
     exact fresh_end aS (k := 0) rfl (by (try simp only [and1]); simp [valueB, Tree.S, Tree.N, al, av, cL, ae, af, ai, aL])
   ·
    have ao : kind ≠ 8 := by simpa using ai
    refine go_sp [(0, .v (.int .i64 kind)), (1, .v (.slice A l.length c)), (2, .v (.bool null)), (3, .v (.int .i64 v)), (4, .v (.bool flex)), (11, .p 0 0), (16, .v (.int .i64 kind)), (45, .v (.bool (kind == 9)))] aa aK fun eE ap => ?_
    clear aK
    refine cond_of ap (b := kind == 9) kz (fun ac => ?_) (fun ac => ?_)
    ·
     have bE : kind = 9 := by simpa using ac
     refine go_seq_region [0, 1, 2, 3] kz ?_
     refine go_rn [0, 1] [2, 3] [(2, .v (.bool null)), (4, .v (.bool flex)), (48, .v (.slice A6 s2.length c7))] aa ap fun eF bF => ?_
     clear ap
     have dE := whole_le s2
     refine of_op (wpOp_call bF (f := 39) (vs := [.slice A6 s2.length c7]) (d := 49) kz Tryz.call39 (sWhole _ _ s2 (bh.move aa.step nilM aa.imm).le _) ?_)
     rintro e_ eG ⟨rfl, bG⟩
     refine ⟨_, rfl, fun eH bH => ?_⟩
     have ab := aa.next_nil bG
     have dO := aa.frN bG
     clear bF aa
     refine go_rn [3] [] [(2, .v (.bool null)), (4, .v (.bool flex)), (15, .v (.slice A6 ((whole s2).length) c7))] ab bH fun eI bI => ?_
     clear bH
     refine wpOps_nil (then_normal ?_)
     refine wp_seq ?_
     refine go_sp [(2, .v (.bool null)), (4, .v (.bool flex)), (15, .v (.slice A6 ((whole s2).length) c7)), (50, .v (.bool null))] ab bI fun eJ ar => ?_
     clear bI
     refine cond_of ar (b := null) kz (fun aT => ?_) (fun aT => ?_)
     ·
      refine go_region [0] kz ?_
      refine go_rn [0] [] [(2, .v (.bool null)), (4, .v (.bool flex)), (15, .v (.slice none 0 0))] ab ar fun eK bJ => ?_
      clear ar
      refine wpOps_nil (then_normal ?_)
      refine go_seq_region [0, 1, 2, 3, 4, 5, 6, 7] kz ?_
      refine go_rn [0, 1, 2, 3] [4, 5, 6, 7] [(15, .v (.slice none 0 0)), (51, .v (.bool flex)), (52, .v (.bool null)), (54, .v (.int .i64 0))] ab bJ fun eL bK => ?_
      clear bJ
      refine of_op (wpOp_call bK (f := 129) (vs := [.bool flex, .bool null, .int .i64 0, .int .i64 4]) (d := 55) kz Tryz.call129 (sCounted flex null 0 4 (by first | omega | exact Nat.le_trans (whole_le _) (by decide) | exact Nat.le_trans (things_le _) (by decide) | (simp; done) | (have := hroom; omega)) (by first | decide | omega) _) ?_)
      rintro e_ eM ⟨aU, aV, rfl, cY, cZ⟩
      refine ⟨_, rfl, fun eN bL => ?_⟩
      obtain ⟨aW, dP⟩ := ab.frFresh cZ (brow aU aV 5 (countedB flex null 0 4)) (Nat.le_refl _) cY
      clear bK ab
      refine go_rn [5] [6, 7] [(55, .v (.slice aU ((countedB flex null 0 4).length) aV)), (56, .v (.slice none 0 0))] aW bL fun eO bM => ?_
      clear bL
      refine of_op (wpOp_append aW bM (k := 0) (d := 57) (t := 22) (e := 5) (size := 1) (bytes := 1) (A := aU) (As := none) (m0 := ((countedB flex null 0 4).length)) (c := aV) (m := 0) (cs := 0) (xs := (bc (countedB flex null 0 4))) (news := bc ([] : Bs)) kz kz rfl (Octs.nil _ (fun _ _ => True)).src (fun _ => rfl) (by first | exact cw_room (by omega) (by decide) (by omega) | exact cw_room (Nat.le_trans (whole_le _) (by decide)) (by decide) (Nat.le_trans (whole_le _) (by decide)) | (simp; done)) fun aB aC eP eQ dQ bN bO => ?_)
      clear bM aW
      have c5 : (⟨aB, aC, 5, 1, (countedB flex null 0 4).length + 0, bc (countedB flex null 0 4) ++ bc ([] : Bs)⟩ : Rw) = brow aB aC 5 (countedB flex null 0 4 ++ ([] : Bs)) := brow_eq (rfl) rfl
      obtain ⟨aX, dR⟩ := bN.rowEq 0 [brow aB aC 5 (countedB flex null 0 4 ++ ([] : Bs))] c5
      clear bN
      have bP := EnvOk.pick bO (ks := [55, 56, 57]) (env' := [(55, .v (.slice aU ((countedB flex null 0 4).length) aV)), (56, .v (.slice none 0 0)), (57, .v (.slice aB ((countedB flex null 0 4).length + 0) aC))]) kz
      have bQ := bP.cast (env' := [(55, .v (.slice aU ((countedB flex null 0 4).length) aV)), (56, .v (.slice none 0 0)), (57, .v (.slice aB ((countedB flex null 0 4 ++ ([] : Bs)).length) aC))]) (by simp only [List.length_append, List.length_cons, List.length_nil, Nat.zero_add])
      clear bO
      clear bP
      refine go_rn [7] [] [(12, .v (.slice aB ((countedB flex null 0 4 ++ ([] : Bs)).length) aC))] aX bQ fun eR da => ?_
      clear bQ
      refine wpOps_nil (then_normal ?_)
      refine wp_ret ?_
      refine block_ret ?_
      refine then_ret ?_
      refine leave da aX.cells (v := .slice aB ((countedB flex null 0 4 ++ ([] : Bs)).length) aC) kz ?_
      exact fresh_end aX (k := 0) rfl (by (try simp only [and1]); simp [valueB, Tree.S, Tree.N, al, av, ao, bE, ae, af, ai, ac, aT])
     ·
      refine wp_skip ?_
      refine then_normal ?_
      refine go_seq_region [0, 1, 2, 3, 4, 5, 6, 7] kz ?_
      refine go_rn [0, 1, 2, 3] [4, 5, 6, 7] [(15, .v (.slice A6 ((whole s2).length) c7)), (51, .v (.bool flex)), (52, .v (.bool null)), (54, .v (.int .i64 (((whole s2).length : Nat) : Int)))] ab ar fun eS bR => ?_
      clear ar
      refine of_op (wpOp_call bR (f := 129) (vs := [.bool flex, .bool null, .int .i64 (((whole s2).length : Nat) : Int), .int .i64 4]) (d := 55) kz Tryz.call129 (sCounted flex null ((whole s2).length) 4 (by first | omega | exact Nat.le_trans (whole_le _) (by decide) | exact Nat.le_trans (things_le _) (by decide) | (simp; done) | (have := hroom; omega)) (by first | decide | omega) _) ?_)
      rintro e_ eT ⟨aY, aZ, rfl, db, dc⟩
      refine ⟨_, rfl, fun eU bS => ?_⟩
      obtain ⟨ah, dS⟩ := ab.frFresh dc (brow aY aZ 5 (countedB flex null ((whole s2).length) 4)) (Nat.le_refl _) db
      clear bR ab
      refine go_rn [5] [6, 7] [(55, .v (.slice aY ((countedB flex null ((whole s2).length) 4).length) aZ)), (56, .v (.slice A6 ((whole s2).length) c7))] ah bS fun eV bT => ?_
      clear bS
      refine of_op (wpOp_append ah bT (k := 0) (d := 57) (t := 22) (e := 5) (size := 1) (bytes := 1) (A := aY) (As := A6) (m0 := ((countedB flex null ((whole s2).length) 4).length)) (c := aZ) (m := ((whole s2).length)) (cs := c7) (xs := (bc (countedB flex null ((whole s2).length) 4))) (news := bc (whole s2)) kz kz rfl ((bh.take 32767).move ah.step nilM ah.imm).src ((bh.take 32767).move ah.step nilM ah.imm).cap (by first | exact cw_room (by omega) (by decide) (by omega) | exact cw_room (Nat.le_trans (whole_le _) (by decide)) (by decide) (Nat.le_trans (whole_le _) (by decide)) | (simp; done)) fun aD aE eW eX dT bU bV => ?_)
      clear bT ah
      have de : (⟨aD, aE, 5, 1, (countedB flex null ((whole s2).length) 4).length + (whole s2).length, bc (countedB flex null ((whole s2).length) 4) ++ bc (whole s2)⟩ : Rw) = brow aD aE 5 (countedB flex null ((whole s2).length) 4 ++ (whole s2)) := brow_eq (rfl) rfl
      obtain ⟨ba, dU⟩ := bU.rowEq 0 [brow aD aE 5 (countedB flex null ((whole s2).length) 4 ++ (whole s2))] de
      clear bU
      have bW := EnvOk.pick bV (ks := [55, 56, 57]) (env' := [(55, .v (.slice aY ((countedB flex null ((whole s2).length) 4).length) aZ)), (56, .v (.slice A6 ((whole s2).length) c7)), (57, .v (.slice aD ((countedB flex null ((whole s2).length) 4).length + (whole s2).length) aE))]) kz
      have bX := bW.cast (env' := [(55, .v (.slice aY ((countedB flex null ((whole s2).length) 4).length) aZ)), (56, .v (.slice A6 ((whole s2).length) c7)), (57, .v (.slice aD ((countedB flex null ((whole s2).length) 4 ++ (whole s2)).length) aE))]) (by simp only [List.length_append, List.length_cons, List.length_nil, Nat.zero_add])
      clear bV
      clear bW
      refine go_rn [7] [] [(12, .v (.slice aD ((countedB flex null ((whole s2).length) 4 ++ (whole s2)).length) aE))] ba bX fun eY df => ?_
      clear bX
      refine wpOps_nil (then_normal ?_)
      refine wp_ret ?_
      refine block_ret ?_
      refine then_ret ?_
      refine leave df ba.cells (v := .slice aD ((countedB flex null ((whole s2).length) 4 ++ (whole s2)).length) aE) kz ?_
      exact fresh_end ba (k := 0) rfl (by (try simp only [and1]); simp [valueB, Tree.S, Tree.N, al, av, ao, bE, ae, af, ai, ac, aT])
    ·
     have bd : kind ≠ 9 := by simpa using ac
     refine go_sp [(0, .v (.int .i64 kind)), (1, .v (.slice A l.length c)), (3, .v (.int .i64 v)), (4, .v (.bool flex)), (11, .p 0 0), (58, .v (.bool (kind == 10)))] aa ap fun eZ au => ?_
     clear ap
     refine cond_of au (b := kind == 10) kz (fun aj => ?_) (fun aj => ?_)
     ·
      have bY : kind = 10 := by simpa using aj
      refine go_seq_region [0, 1, 2, 3, 4, 5] kz ?_
      refine go_rn [0, 1, 2, 3] [4, 5] [(60, .v (.slice A l.length c)), (61, .v (.int .i64 v)), (62, .v (.bool flex)), (63, .v (.agg #[.int .i64 n1, .slice A6 s2.length c7, .bool b3, .slice A8 l4.length c9, .slice dw u5.length dx]))] aa au fun e5 bZ => ?_
      clear au
      refine of_op (wpOp_call bZ (f := 40) (vs := [.slice A l.length c, .int .i64 v, .bool flex, .agg #[.int .i64 n1, .slice A6 s2.length c7, .bool b3, .slice A8 l4.length c9, .slice dw u5.length dx]]) (d := 64) kz Tryz.call40 (hp _ _ l v flex _ (Tree.mk n1 s2 b3 l4 u5) _ _ ⟨xfs, (h1.move aa.step nilM aa.imm), (fun i_ x_ h_ => ((h2 i_ x_ h_).move aa.step nilM aa.imm))⟩ hd (ht.move aa.step nilM aa.imm) (by simpa [valueB, al, av, ao, bd, bY, ae, af, ai, ac, aj] using hroom)) ?_)
      rintro e_ e6 ⟨cl, cm, rfl, dg, dh⟩
      refine ⟨_, rfl, fun e7 b0 => ?_⟩
      obtain ⟨bf, dV⟩ := aa.frFresh dh (brow cl cm 5 (partB d l v flex (Tree.mk n1 s2 b3 l4 u5))) (Nat.le_refl _) dg
      clear bZ aa
      refine go_rn [5] [] [(12, .v (.slice cl ((partB d l v flex (Tree.mk n1 s2 b3 l4 u5)).length) cm))] bf b0 fun e9 di => ?_
      clear b0
      refine wpOps_nil (then_normal ?_)
      refine wp_ret ?_
      refine block_ret ?_
      refine then_ret ?_
      refine leave di bf.cells (v := .slice cl ((partB d l v flex (Tree.mk n1 s2 b3 l4 u5)).length) cm) kz ?_
      exact fresh_end bf (k := 0) rfl (by (try simp only [and1]); simp [valueB, Tree.S, Tree.N, al, av, ao, bd, bY, ae, af, ai, ac, aj])
     ·
      have dj : kind ≠ 10 := by simpa using aj
      refine wp_skip ?_
      refine block_normal ?_
      refine then_normal ?_
      refine go_seq_drawK 5 kz aa fun fa dW b5 dl => ?_
      clear aa
      refine go_rnD [0, 1, 2] [(66, .v (.int .i64 n1)), (67, .v (.int .i64 kind))] 3 (panicFree_then panicFree_body) (fun _ h => h.cells) dl au fun fb b6 => ?_
      clear au
      refine anyC_op (i := 3) kz (wpOp_call b6 (f := 132) (vs := [.int .i64 kind]) (d := 68) kz Tryz.call132 (sWidth kind _) ?_)
      rintro e_ fc ⟨rfl, b8⟩
      refine ⟨_, rfl, fun fe ca => ?_⟩
      have bg := b5.next_nil b8
      have cb := b5.frN b8
      clear b6
      have dp := TT.ofW cb bg
      refine ⟨fun _ => dp, ?_⟩
      refine anyC_op (i := 4) kz (wpOp_call ca (f := 131) (vs := [.int .i64 n1, .int .i64 ((widthI kind : Nat) : Int)]) (d := 69) kz Tryz.call131 (sFixed n1 (widthI kind) (by first | decide | exact widthI_le _ | omega) _) ?_)
      rintro e_ ff ⟨cq, cr, rfl, dq, dr⟩
      refine ⟨_, rfl, fun fg cc => ?_⟩
      obtain ⟨aF, dt⟩ := bg.frFresh dr (brow cq cr 5 (be (widthI kind) n1)) (Nat.le_refl _) dq
      clear ca bg
      have du := TT.ofW (cb.trans dt) aF
      refine ⟨fun _ => du, ?_⟩
      refine anyC_op (i := 5) kz (wpOp_pure [12] aF.cells cc (env' := [(12, .v (.slice cq ((be (widthI kind) n1).length) cr))]) kz fun fh dv => ?_)
      clear cc
      refine ⟨fun h => absurd rfl h, ?_⟩
      refine anyC_done kz ?_ _
      refine then_normal ?_
      refine wp_ret ?_
      refine leave dv aF.cells (v := .slice cq ((be (widthI kind) n1).length) cr) kz ?_
      exact fresh_end aF (k := 0) rfl (by (try simp only [and1]); simp [valueB, Tree.S, Tree.N, al, av, ao, bd, dj, ae, af, ai, ac, aj])
theorem sField {d : Nat} (hp : PartOK d) (cf : List Value) (f : Fld) (v : Int) (flex : Bool) (ct : List Value) (t : Tree) (w : World) (F : Nat → Nat → Prop) (hf : FldR w F cf f) (hd : depths f.sub ≤ d) (ht : TreeR w F ct t) (hroom : (fieldD d f v flex t).length ≤ 1099511627776) :
  Calls Tryz.prog 91 #[.agg cf.toArray, .int .i64 v, .bool flex, .agg ct.toArray] w (FreshB w 5 (fieldD d f v flex t)) := by
 obtain ⟨n1, s2, b3, l4, u5, A6, c7, A8, c9, aQ, aR, eO, rfl, rfl, eP, d7, eQ, f0⟩ := ht.open_
 have eh := eP.small
 have ei := d7.small
 obtain ⟨ac, af, ag, ae, ah, ai, ab, aa, aA, aB, bF, rfl, rfl, cO, d6⟩ := hf.open_
 have ej := cO.small
 refine enter (n := 76) Tryz.func91 rfl Tryz.ntmps91 kz fun a hE => ?_
 have hW := WOk.start w Nil
 refine go_seq_region [0, 1, 2] kz ?_
 refine of_op (wpOp_box hW hE (d := 4) (cs := [.int .i64 ac, .int .i64 af, .int .i64 ag, .int .i64 ae, .int .i64 ah, .int .i64 ai, .int .i64 ab, .slice aA aa.length aB]) kz fun ek f5 f8 eR eS eT cP cQ => ?_)
 clear hE hW
 refine of_op (wpOp_box cP cQ (d := 7) (cs := [.int .i64 n1, .slice A6 s2.length c7, .bool b3, .slice A8 l4.length c9, .slice aQ u5.length aR]) kz fun em f9 ga eU eV eW aU cR => ?_)
 clear cQ cP
 refine go_rn [2] [] [(1, .v (.int .i64 v)), (2, .v (.bool flex)), (4, .p 0 0), (7, .p 1 0)] aU cR fun gb cS => ?_
 clear cR
 refine wpOps_nil (then_normal ?_)
 refine go_seq_region [0, 1, 2, 3, 4] kz ?_
 refine go_rn [0, 1, 2] [3, 4] [(1, .v (.int .i64 v)), (2, .v (.bool flex)), (4, .p 0 0), (7, .p 1 0), (13, .v (.agg #[.int .i64 ac, .int .i64 af, .int .i64 ag, .int .i64 ae, .int .i64 ah, .int .i64 ai, .int .i64 ab, .slice aA aa.length aB])), (14, .v (.int .i64 v)), (15, .v (.agg #[.int .i64 n1, .slice A6 s2.length c7, .bool b3, .slice A8 l4.length c9, .slice aQ u5.length aR]))] aU cS fun gc cT => ?_
 clear cS
 refine of_op (wpOp_call cT (f := 87) (vs := [.agg #[.int .i64 ac, .int .i64 af, .int .i64 ag, .int .i64 ae, .int .i64 ah, .int .i64 ai, .int .i64 ab, .slice aA aa.length aB], .int .i64 v, .agg #[.int .i64 n1, .slice A6 s2.length c7, .bool b3, .slice A8 l4.length c9, .slice aQ u5.length aR]]) (d := 16) kz Tryz.call87 (sNull ac af ag ae ah ai ab aa _ _ v n1 s2 b3 l4 u5 _ _ _ _ _ _ _) ?_)
 rintro e_ gd ⟨rfl, cV⟩
 refine ⟨_, rfl, fun ge cW => ?_⟩
 have aj := aU.next_nil cV
 have eX := aU.frN cV
 clear cT aU
 refine go_rn [4] [] [(1, .v (.int .i64 v)), (2, .v (.bool flex)), (4, .p 0 0), (7, .p 1 0), (9, .v (.bool (Fld.nul (Fld.mk ac af ag ae ah ai ab aa) v (Tree.mk n1 s2 b3 l4 u5))))] aj cW fun gf cX => ?_
 clear cW
 refine wpOps_nil (then_normal ?_)
 refine wp_seq ?_
 refine go_sp [(1, .v (.int .i64 v)), (2, .v (.bool flex)), (4, .p 0 0), (7, .p 1 0), (9, .v (.bool (Fld.nul (Fld.mk ac af ag ae ah ai ab aa) v (Tree.mk n1 s2 b3 l4 u5)))), (19, .v (.bool (ac == 11)))] aj cX fun gg aV => ?_
 clear cX
 refine cond_of aV (b := ac == 11) kz (fun cB => ?_) (fun cB => ?_)
 ·
  have eY : ac = 11 := by simpa using cB
  refine go_seq_region [0, 1, 2, 3] kz ?_
  refine go_rn [0, 1] [2, 3] [(1, .v (.int .i64 v)), (2, .v (.bool flex)), (4, .p 0 0), (9, .v (.bool (Fld.nul (Fld.mk ac af ag ae ah ai ab aa) v (Tree.mk n1 s2 b3 l4 u5)))), (21, .v (.slice A8 l4.length c9))] aj aV fun gh cY => ?_
  clear aV
  refine of_op (wpOp_call cY (f := 88) (vs := [.slice A8 l4.length c9]) (d := 22) kz Tryz.call88 (sThings _ _ l4 (d7.move aj.step nilM aj.imm).le _) ?_)
  rintro e_ gi ⟨rfl, cZ⟩
  refine ⟨_, rfl, fun gj c5 => ?_⟩
  have ay := aj.next_nil cZ
  have eZ := aj.frN cZ
  clear cY aj
  refine go_rn [3] [] [(1, .v (.int .i64 v)), (2, .v (.bool flex)), (4, .p 0 0), (9, .v (.bool (Fld.nul (Fld.mk ac af ag ae ah ai ab aa) v (Tree.mk n1 s2 b3 l4 u5)))), (10, .v (.slice A8 ((things l4).length) c9))] ay c5 fun gk da => ?_
  clear c5
  refine wpOps_nil (then_normal ?_)
  refine wp_seq ?_
  refine go_sp [(1, .v (.int .i64 v)), (2, .v (.bool flex)), (4, .p 0 0), (9, .v (.bool (Fld.nul (Fld.mk ac af ag ae ah ai ab aa) v (Tree.mk n1 s2 b3 l4 u5)))), (10, .v (.slice A8 ((things l4).length) c9)), (23, .v (.bool (Fld.nul (Fld.mk ac af ag ae ah ai ab aa) v (Tree.mk n1 s2 b3 l4 u5))))] ay da fun gl aW => ?_
  clear da
  refine cond_of aW (b := Fld.nul (Fld.mk ac af ag ae ah ai ab aa) v (Tree.mk n1 s2 b3 l4 u5)) kz (fun d8 => ?_) (fun d8 => ?_)
  ·
   refine go_region [0] kz ?_
   refine go_rn [0] [] [(1, .v (.int .i64 v)), (2, .v (.bool flex)), (4, .p 0 0), (9, .v (.bool (Fld.nul (Fld.mk ac af ag ae ah ai ab aa) v (Tree.mk n1 s2 b3 l4 u5)))), (10, .v (.slice none 0 0))] ay aW fun gm db => ?_
   clear aW
   refine wpOps_nil (then_normal ?_)
   refine go_seq_region [0, 1, 2, 3, 4, 5] kz ?_
   refine go_rn [0, 1, 2, 3] [4, 5] [(1, .v (.int .i64 v)), (2, .v (.bool flex)), (4, .p 0 0), (10, .v (.slice none 0 0)), (24, .v (.bool flex)), (25, .v (.bool (Fld.nul (Fld.mk ac af ag ae ah ai ab aa) v (Tree.mk n1 s2 b3 l4 u5)))), (27, .v (.int .i64 0))] ay db fun gn dc => ?_
   clear db
   refine of_op (wpOp_call dc (f := 129) (vs := [.bool flex, .bool (Fld.nul (Fld.mk ac af ag ae ah ai ab aa) v (Tree.mk n1 s2 b3 l4 u5)), .int .i64 0, .int .i64 4]) (d := 28) kz Tryz.call129 (sCounted flex (Fld.nul (Fld.mk ac af ag ae ah ai ab aa) v (Tree.mk n1 s2 b3 l4 u5)) 0 4 (by first | omega | exact Nat.le_trans (whole_le _) (by decide) | exact Nat.le_trans (things_le _) (by decide) | (simp; done) | (have := hroom; omega)) (by first | decide | omega) _) ?_)
   rintro e_ gp ⟨cM, cN, rfl, d9, ea⟩
   refine ⟨_, rfl, fun gq de => ?_⟩
   obtain ⟨bG, e5⟩ := ay.frFresh ea (brow cM cN 5 (countedB flex (Fld.nul (Fld.mk ac af ag ae ah ai ab aa) v (Tree.mk n1 s2 b3 l4 u5)) 0 4)) (Nat.le_refl _) d9
   clear dc ay
   refine go_rn [5] [] [(1, .v (.int .i64 v)), (2, .v (.bool flex)), (4, .p 0 0), (10, .v (.slice none 0 0)), (11, .v (.slice cM ((countedB flex (Fld.nul (Fld.mk ac af ag ae ah ai ab aa) v (Tree.mk n1 s2 b3 l4 u5)) 0 4).length) cN))] bG de fun gt df => ?_
   clear de
   refine wpOps_nil (then_normal ?_)
   refine wp_seq ?_
   refine go_sp [(1, .v (.int .i64 v)), (2, .v (.bool flex)), (4, .p 0 0), (10, .v (.slice none 0 0)), (11, .v (.slice cM ((countedB flex (Fld.nul (Fld.mk ac af ag ae ah ai ab aa) v (Tree.mk n1 s2 b3 l4 u5)) 0 4).length) cN)), (30, .v (.int .i64 0)), (31, .v (.int .i64 0))] bG df fun gu cC => ?_
   clear df
   refine wp_block ?_
   have hr2 : (countedB flex (Fld.nul (Fld.mk ac af ag ae ah ai ab aa) v (Tree.mk n1 s2 b3 l4 u5)) 0 4 ++ ([] : List Tree).flatMap (valueB (partB d aa v flex) ab false flex)).length ≤ 1099511627776 := by have h_ := hroom; rw [fieldD_11n (by assumption) (by assumption)] at h_; exact h_
   rw [List.length_append] at hr2
   have hr3 := flatMap_take_le ([] : List Tree) (valueB (partB d aa v flex) ab false flex)
   have dg : (countedB flex (Fld.nul (Fld.mk ac af ag ae ah ai ab aa) v (Tree.mk n1 s2 b3 l4 u5)) 0 4) = (countedB flex (Fld.nul (Fld.mk ac af ag ae ah ai ab aa) v (Tree.mk n1 s2 b3 l4 u5)) 0 4 ++ (([] : List Tree).take 0).flatMap (valueB (partB d aa v flex) ab false flex)) := by simp
   have dh := congrArg (brow cM cN 5) dg
   obtain ⟨bJ, eo⟩ := bG.rowEq 0 [brow cM cN 5 (countedB flex (Fld.nul (Fld.mk ac af ag ae ah ai ab aa) v (Tree.mk n1 s2 b3 l4 u5)) 0 4 ++ (([] : List Tree).take 0).flatMap (valueB (partB d aa v flex) ab false flex))] dh
   clear bG
   rw [dg] at cC
   refine wp_loop_ghost (fun n_ a_ w_ => ∃ (k : Nat) (A_ : Option Addr) (c_ : Nat), n_ = 0 - k ∧ k ≤ 0 ∧ LInv bJ 76 [⟨ek, 0, [.int .i64 ac, .int .i64 af, .int .i64 ag, .int .i64 ae, .int .i64 ah, .int .i64 ai, .int .i64 ab, .slice aA aa.length aB], true⟩, ⟨em, 0, [.int .i64 n1, .slice A6 s2.length c7, .bool b3, .slice A8 l4.length c9, .slice aQ u5.length aR], true⟩] [brow A_ c_ 5 (countedB flex (Fld.nul (Fld.mk ac af ag ae ah ai ab aa) v (Tree.mk n1 s2 b3 l4 u5)) 0 4 ++ (([] : List Tree).take k).flatMap (valueB (partB d aa v flex) ab false flex))] [(1, .v (.int .i64 v)), (2, .v (.bool flex)), (4, .p 0 0), (10, .v (.slice none 0 0)), (11, .v (.slice A_ ((countedB flex (Fld.nul (Fld.mk ac af ag ae ah ai ab aa) v (Tree.mk n1 s2 b3 l4 u5)) 0 4 ++ (([] : List Tree).take k).flatMap (valueB (partB d aa v flex) ab false flex)).length) c_)), (30, .v (.int .i64 0)), (31, .v (.int .i64 ((k : Nat) : Int)))] a_ w_) (0) ⟨0, cM, cN, by omega, by omega, cC.pk, bJ, Fr.refl _ _ _⟩ ?_
   clear cC
   rintro e6 e7 e9 ⟨k, A_, c_, ep, eu, bK, aK, ev⟩
   refine go_sp [(1, .v (.int .i64 v)), (2, .v (.bool flex)), (4, .p 0 0), (10, .v (.slice none 0 0)), (11, .v (.slice A_ ((countedB flex (Fld.nul (Fld.mk ac af ag ae ah ai ab aa) v (Tree.mk n1 s2 b3 l4 u5)) 0 4 ++ (([] : List Tree).take k).flatMap (valueB (partB d aa v flex) ab false flex)).length) c_)), (30, .v (.int .i64 0)), (31, .v (.int .i64 ((k : Nat) : Int))), (32, .v (.bool (decide (((k : Nat) : Int) < 0))))] aK bK fun fa aX => ?_
   clear bK
   refine wp_seq ?_
   refine cond_false aX (b := decide (((k : Nat) : Int) < 0)) kz (decide_eq_false (by omega)) ?_
   refine wp_exit ?_
   refine then_exit ?_
   refine then_exit ?_
   refine block_exit ?_
   refine then_normal ?_
   refine go_sp [(8, .v (.slice A_ ((countedB flex (Fld.nul (Fld.mk ac af ag ae ah ai ab aa) v (Tree.mk n1 s2 b3 l4 u5)) 0 4 ++ (([] : List Tree).take k).flatMap (valueB (partB d aa v flex) ab false flex)).length) c_))] aK aX fun fb di => ?_
   clear aX
   refine wp_ret ?_
   refine then_ret ?_
   refine leave di aK.cells (v := .slice A_ ((countedB flex (Fld.nul (Fld.mk ac af ag ae ah ai ab aa) v (Tree.mk n1 s2 b3 l4 u5)) 0 4 ++ (([] : List Tree).take k).flatMap (valueB (partB d aa v flex) ab false flex)).length) c_) kz ?_
   exact fresh_end aK (k := 0) rfl (by rw [fieldD_11n (by assumption) (by assumption)]; simp)
  ·
   refine wp_skip ?_
   refine then_normal ?_
   refine go_seq_region [0, 1, 2, 3, 4, 5] kz ?_
   refine go_rn [0, 1, 2, 3] [4, 5] [(1, .v (.int .i64 v)), (2, .v (.bool flex)), (4, .p 0 0), (10, .v (.slice A8 ((things l4).length) c9)), (24, .v (.bool flex)), (25, .v (.bool (Fld.nul (Fld.mk ac af ag ae ah ai ab aa) v (Tree.mk n1 s2 b3 l4 u5)))), (27, .v (.int .i64 (((things l4).length : Nat) : Int)))] ay aW fun fc bL => ?_
   clear aW
   refine of_op (wpOp_call bL (f := 129) (vs := [.bool flex, .bool (Fld.nul (Fld.mk ac af ag ae ah ai ab aa) v (Tree.mk n1 s2 b3 l4 u5)), .int .i64 (((things l4).length : Nat) : Int), .int .i64 4]) (d := 28) kz Tryz.call129 (sCounted flex (Fld.nul (Fld.mk ac af ag ae ah ai ab aa) v (Tree.mk n1 s2 b3 l4 u5)) ((things l4).length) 4 (by first | omega | exact Nat.le_trans (whole_le _) (by decide) | exact Nat.le_trans (things_le _) (by decide) | (simp; done) | (have := hroom; omega)) (by first | decide | omega) _) ?_)
   rintro e_ fe ⟨aS, aT, rfl, dj, dl⟩
   refine ⟨_, rfl, fun ff bM => ?_⟩
   obtain ⟨aL, ew⟩ := ay.frFresh dl (brow aS aT 5 (countedB flex (Fld.nul (Fld.mk ac af ag ae ah ai ab aa) v (Tree.mk n1 s2 b3 l4 u5)) ((things l4).length) 4)) (Nat.le_refl _) dj
   clear bL ay
   refine go_rn [5] [] [(1, .v (.int .i64 v)), (2, .v (.bool flex)), (4, .p 0 0), (10, .v (.slice A8 ((things l4).length) c9)), (11, .v (.slice aS ((countedB flex (Fld.nul (Fld.mk ac af ag ae ah ai ab aa) v (Tree.mk n1 s2 b3 l4 u5)) ((things l4).length) 4).length) aT))] aL bM fun fg bN => ?_
   clear bM
   refine wpOps_nil (then_normal ?_)
   refine wp_seq ?_
   refine go_sp [(1, .v (.int .i64 v)), (2, .v (.bool flex)), (4, .p 0 0), (10, .v (.slice A8 ((things l4).length) c9)), (11, .v (.slice aS ((countedB flex (Fld.nul (Fld.mk ac af ag ae ah ai ab aa) v (Tree.mk n1 s2 b3 l4 u5)) ((things l4).length) 4).length) aT)), (30, .v (.int .i64 (((things l4).length : Nat) : Int))), (31, .v (.int .i64 0))] aL bN fun fh aY => ?_
   clear bN
   refine wp_block ?_
   have hr2 : (countedB flex (Fld.nul (Fld.mk ac af ag ae ah ai ab aa) v (Tree.mk n1 s2 b3 l4 u5)) ((things l4).length) 4 ++ (things l4).flatMap (valueB (partB d aa v flex) ab false flex)).length ≤ 1099511627776 := by have h_ := hroom; rw [fieldD_11 (by assumption) (by assumption)] at h_; exact h_
   rw [List.length_append] at hr2
   have hr3 := flatMap_take_le (things l4) (valueB (partB d aa v flex) ab false flex)
   have hsm3 : (things l4).length ≤ 32767 := by simp only [things, List.length_take]; omega
   have bO : (countedB flex (Fld.nul (Fld.mk ac af ag ae ah ai ab aa) v (Tree.mk n1 s2 b3 l4 u5)) ((things l4).length) 4) = (countedB flex (Fld.nul (Fld.mk ac af ag ae ah ai ab aa) v (Tree.mk n1 s2 b3 l4 u5)) ((things l4).length) 4 ++ ((things l4).take 0).flatMap (valueB (partB d aa v flex) ab false flex)) := by simp
   have dp := congrArg (brow aS aT 5) bO
   obtain ⟨bP, ey⟩ := aL.rowEq 0 [brow aS aT 5 (countedB flex (Fld.nul (Fld.mk ac af ag ae ah ai ab aa) v (Tree.mk n1 s2 b3 l4 u5)) ((things l4).length) 4 ++ ((things l4).take 0).flatMap (valueB (partB d aa v flex) ab false flex))] dp
   clear aL
   rw [bO] at aY
   refine wp_loop_ghost (fun n_ a_ w_ => ∃ (k : Nat) (A_ : Option Addr) (c_ : Nat), n_ = (things l4).length - k ∧ k ≤ (things l4).length ∧ LInv bP 76 [⟨ek, 0, [.int .i64 ac, .int .i64 af, .int .i64 ag, .int .i64 ae, .int .i64 ah, .int .i64 ai, .int .i64 ab, .slice aA aa.length aB], true⟩, ⟨em, 0, [.int .i64 n1, .slice A6 s2.length c7, .bool b3, .slice A8 l4.length c9, .slice aQ u5.length aR], true⟩] [brow A_ c_ 5 (countedB flex (Fld.nul (Fld.mk ac af ag ae ah ai ab aa) v (Tree.mk n1 s2 b3 l4 u5)) ((things l4).length) 4 ++ ((things l4).take k).flatMap (valueB (partB d aa v flex) ab false flex))] [(1, .v (.int .i64 v)), (2, .v (.bool flex)), (4, .p 0 0), (10, .v (.slice A8 ((things l4).length) c9)), (11, .v (.slice A_ ((countedB flex (Fld.nul (Fld.mk ac af ag ae ah ai ab aa) v (Tree.mk n1 s2 b3 l4 u5)) ((things l4).length) 4 ++ ((things l4).take k).flatMap (valueB (partB d aa v flex) ab false flex)).length) c_)), (30, .v (.int .i64 (((things l4).length : Nat) : Int))), (31, .v (.int .i64 ((k : Nat) : Int)))] a_ w_) ((things l4).length) ⟨0, aS, aT, by omega, by omega, aY.pk, bP, Fr.refl _ _ _⟩ ?_
   clear aY
   rintro fi fj fk ⟨k, A_, c_, ez, eA, bQ, av, dq⟩
   refine go_sp [(1, .v (.int .i64 v)), (2, .v (.bool flex)), (4, .p 0 0), (10, .v (.slice A8 ((things l4).length) c9)), (11, .v (.slice A_ ((countedB flex (Fld.nul (Fld.mk ac af ag ae ah ai ab aa) v (Tree.mk n1 s2 b3 l4 u5)) ((things l4).length) 4 ++ ((things l4).take k).flatMap (valueB (partB d aa v flex) ab false flex)).length) c_)), (30, .v (.int .i64 (((things l4).length : Nat) : Int))), (31, .v (.int .i64 ((k : Nat) : Int))), (32, .v (.bool (decide (((k : Nat) : Int) < (((things l4).length : Nat) : Int)))))] av bQ fun fl aC => ?_
   clear bQ
   refine wp_seq ?_
   refine cond_of aC (b := decide (((k : Nat) : Int) < (((things l4).length : Nat) : Int))) kz (fun aZ => ?_) (fun aZ => ?_)
   ·
    have eB := of_decide_eq_true aZ
    refine wp_skip ?_
    refine then_normal ?_
    refine wp_seq ?_
    refine wp_block ?_
    refine go_sp [(1, .v (.int .i64 v)), (2, .v (.bool flex)), (4, .p 0 0), (10, .v (.slice A8 ((things l4).length) c9)), (11, .v (.slice A_ ((countedB flex (Fld.nul (Fld.mk ac af ag ae ah ai ab aa) v (Tree.mk n1 s2 b3 l4 u5)) ((things l4).length) 4 ++ ((things l4).take k).flatMap (valueB (partB d aa v flex) ab false flex)).length) c_)), (12, .v (.int .i64 ((k : Nat) : Int))), (30, .v (.int .i64 (((things l4).length : Nat) : Int))), (31, .v (.int .i64 ((k : Nat) : Int)))] av aC fun fm bR => ?_
    clear aC
    refine go_drawK 13 kz av fun fo dr au ba => ?_
    clear av
    refine go_rnD [0, 1, 2, 3, 4, 5, 6, 7, 8] [(1, .v (.int .i64 v)), (2, .v (.bool flex)), (4, .p 0 0), (10, .v (.slice A8 ((things l4).length) c9)), (11, .v (.slice A_ ((countedB flex (Fld.nul (Fld.mk ac af ag ae ah ai ab aa) v (Tree.mk n1 s2 b3 l4 u5)) ((things l4).length) 4 ++ ((things l4).take k).flatMap (valueB (partB d aa v flex) ab false flex)).length) c_)), (30, .v (.int .i64 (((things l4).length : Nat) : Int))), (31, .v (.int .i64 ((k : Nat) : Int))), (34, .v (.slice A_ ((countedB flex (Fld.nul (Fld.mk ac af ag ae ah ai ab aa) v (Tree.mk n1 s2 b3 l4 u5)) ((things l4).length) 4 ++ ((things l4).take k).flatMap (valueB (partB d aa v flex) ab false flex)).length) c_)), (36, .v (.int .i64 ab)), (38, .v (.slice aA aa.length aB)), (39, .v (.int .i64 v)), (40, .v (.bool flex)), (41, .v (.slice A8 ((things l4).length) c9)), (42, .v (.int .i64 ((k : Nat) : Int)))] 5 (panicFree_block (panicFree_then (panicFree_then (panicFree_block (panicFree_then (panicFree_then panicFree_body)))))) (fun _ h => h.cells) ba bR fun fp bS => ?_
    clear bR
    obtain ⟨cD, cE, dt, eC, bd⟩ := Slots.get (things_slots d7) (i := k) (by omega)
    obtain ⟨eb, aM⟩ : ∃ x, (things l4)[k]? = some x := ⟨_, List.getElem?_eq_getElem (by omega)⟩
    have bf := (things_each eQ) k eb aM
    obtain ⟨ak, al, am, ao, ap, bg, bh, bi, bj, bk, bn, eD, rfl, bp, ec, ee, fq, fr⟩ := bf.open_
    rw [bp] at bf
    have ef := ec.small
    have eg := ee.small
    rw [bp] at bd
    refine takeC_index bS (i := 9) (t := 23) (A := A8) (m := ((things l4).length)) (q := ((k : Nat) : Int)) (d := 43) kz (e := 26) (size := 5) (bytes := 88) kz dt rfl (by omega) kz kz (panicFree_block (panicFree_then (panicFree_then (panicFree_block (panicFree_then (panicFree_then panicFree_body)))))) ba fun ft bT => ?_
    clear bS
    refine takeC_load bT (i := 10) (t := 26) (b := cD) (o := cE + k * 5) (d := 44) kz (cs := [.int .i64 ak, .slice bg al.length bh, .bool am, .slice bi ao.length bj, .slice bk ap.length bn]) (v := .agg #[.int .i64 ak, .slice bg al.length bh, .bool am, .slice bi ao.length bj, .slice bk ap.length bn]) kz (fun w' h' => (AtF.move bd (TT.step0 au h') nilM keepF).at_) kz kz (panicFree_block (panicFree_then (panicFree_then (panicFree_block (panicFree_then (panicFree_then panicFree_body)))))) ba fun fu bU => ?_
    clear bT
    refine anyC_op (i := 11) kz (wpOp_call bU (f := 130) (vs := [.int .i64 ab, .slice aA aa.length aB, .bool false, .int .i64 v, .bool flex, .agg #[.int .i64 ak, .slice bg al.length bh, .bool am, .slice bi ao.length bj, .slice bk ap.length bn]]) (d := 45) kz Tryz.call130 (sValue hp ab _ _ aa false v flex _ (Tree.mk ak al am ao ap) _ _ ⟨bF, (cO.move au.step nilM au.imm), (fun i_ x_ h_ => ((d6 i_ x_ h_).move au.step nilM au.imm))⟩ hd (bf.move au.step nilM au.imm) (by have := flatMap_le (g := valueB (partB d aa v flex) ab false flex) aM; omega)) ?_)
    rintro e_ fv ⟨bq, br, rfl, du, dv⟩
    refine ⟨_, rfl, fun fw bV => ?_⟩
    obtain ⟨aD, bt⟩ := au.frFresh dv (brow bq br 5 (valueB (partB d aa v flex) ab false flex (Tree.mk ak al am ao ap))) (Nat.le_refl _) du
    clear bU
    have dw := TT.ofW bt aD
    refine ⟨fun _ => dw, ?_⟩
    refine anyC_op (i := 12) kz (wpOp_append aD bV (k := 0) (d := 46) (t := 22) (e := 5) (size := 1) (bytes := 1) (A := A_) (As := bq) (m0 := ((countedB flex (Fld.nul (Fld.mk ac af ag ae ah ai ab aa) v (Tree.mk n1 s2 b3 l4 u5)) ((things l4).length) 4 ++ ((things l4).take k).flatMap (valueB (partB d aa v flex) ab false flex)).length)) (c := c_) (m := ((valueB (partB d aa v flex) ab false flex (Tree.mk ak al am ao ap)).length)) (cs := br) (xs := (bc (countedB flex (Fld.nul (Fld.mk ac af ag ae ah ai ab aa) v (Tree.mk n1 s2 b3 l4 u5)) ((things l4).length) 4 ++ ((things l4).take k).flatMap (valueB (partB d aa v flex) ab false flex)))) (news := bc (valueB (partB d aa v flex) ab false flex (Tree.mk ak al am ao ap))) kz kz rfl (own_src (aD.own 1 _ rfl) (bc_one _)) (own_cap (aD.own 1 _ rfl)) (by rw [List.length_append]; have h8_ := hr3 k; have h9_ := flatMap_le (g := valueB (partB d aa v flex) ab false flex) aM; omega) fun aw ax fx fy bW bX bY => ?_)
    clear bV aD
    have dx : (⟨aw, ax, 5, 1, (countedB flex (Fld.nul (Fld.mk ac af ag ae ah ai ab aa) v (Tree.mk n1 s2 b3 l4 u5)) ((things l4).length) 4 ++ ((things l4).take k).flatMap (valueB (partB d aa v flex) ab false flex)).length + (valueB (partB d aa v flex) ab false flex (Tree.mk ak al am ao ap)).length, bc (countedB flex (Fld.nul (Fld.mk ac af ag ae ah ai ab aa) v (Tree.mk n1 s2 b3 l4 u5)) ((things l4).length) 4 ++ ((things l4).take k).flatMap (valueB (partB d aa v flex) ab false flex)) ++ bc (valueB (partB d aa v flex) ab false flex (Tree.mk ak al am ao ap))⟩ : Rw) = brow aw ax 5 (countedB flex (Fld.nul (Fld.mk ac af ag ae ah ai ab aa) v (Tree.mk n1 s2 b3 l4 u5)) ((things l4).length) 4 ++ ((things l4).take k).flatMap (valueB (partB d aa v flex) ab false flex) ++ (valueB (partB d aa v flex) ab false flex (Tree.mk ak al am ao ap))) := brow_eq (rfl) rfl
    obtain ⟨aN, bZ⟩ := bX.rowEq 0 [brow aw ax 5 (countedB flex (Fld.nul (Fld.mk ac af ag ae ah ai ab aa) v (Tree.mk n1 s2 b3 l4 u5)) ((things l4).length) 4 ++ ((things l4).take k).flatMap (valueB (partB d aa v flex) ab false flex) ++ (valueB (partB d aa v flex) ab false flex (Tree.mk ak al am ao ap))), brow bq br 5 (valueB (partB d aa v flex) ab false flex (Tree.mk ak al am ao ap))] dx
    clear bX
    have b0 := EnvOk.pick bY (ks := [1, 2, 4, 10, 11, 30, 31, 34, 36, 38, 39, 40, 41, 42, 43, 44, 45, 46]) (env' := [(1, .v (.int .i64 v)), (2, .v (.bool flex)), (4, .p 0 0), (10, .v (.slice A8 ((things l4).length) c9)), (11, .v (.slice A_ ((countedB flex (Fld.nul (Fld.mk ac af ag ae ah ai ab aa) v (Tree.mk n1 s2 b3 l4 u5)) ((things l4).length) 4 ++ ((things l4).take k).flatMap (valueB (partB d aa v flex) ab false flex)).length) c_)), (30, .v (.int .i64 (((things l4).length : Nat) : Int))), (31, .v (.int .i64 ((k : Nat) : Int))), (34, .v (.slice A_ ((countedB flex (Fld.nul (Fld.mk ac af ag ae ah ai ab aa) v (Tree.mk n1 s2 b3 l4 u5)) ((things l4).length) 4 ++ ((things l4).take k).flatMap (valueB (partB d aa v flex) ab false flex)).length) c_)), (36, .v (.int .i64 ab)), (38, .v (.slice aA aa.length aB)), (39, .v (.int .i64 v)), (40, .v (.bool flex)), (41, .v (.slice A8 ((things l4).length) c9)), (42, .v (.int .i64 ((k : Nat) : Int))), (43, .v (.pointer (some ⟨cD, cE + k * 5, none⟩))), (44, .v (.agg #[.int .i64 ak, .slice bg al.length bh, .bool am, .slice bi ao.length bj, .slice bk ap.length bn])), (45, .v (.slice bq ((valueB (partB d aa v flex) ab false flex (Tree.mk ak al am ao ap)).length) br)), (46, .v (.slice aw ((countedB flex (Fld.nul (Fld.mk ac af ag ae ah ai ab aa) v (Tree.mk n1 s2 b3 l4 u5)) ((things l4).length) 4 ++ ((things l4).take k).flatMap (valueB (partB d aa v flex) ab false flex)).length + (valueB (partB d aa v flex) ab false flex (Tree.mk ak al am ao ap)).length) ax))]) kz
    have b5 := b0.cast (env' := [(1, .v (.int .i64 v)), (2, .v (.bool flex)), (4, .p 0 0), (10, .v (.slice A8 ((things l4).length) c9)), (11, .v (.slice A_ ((countedB flex (Fld.nul (Fld.mk ac af ag ae ah ai ab aa) v (Tree.mk n1 s2 b3 l4 u5)) ((things l4).length) 4 ++ ((things l4).take k).flatMap (valueB (partB d aa v flex) ab false flex)).length) c_)), (30, .v (.int .i64 (((things l4).length : Nat) : Int))), (31, .v (.int .i64 ((k : Nat) : Int))), (34, .v (.slice A_ ((countedB flex (Fld.nul (Fld.mk ac af ag ae ah ai ab aa) v (Tree.mk n1 s2 b3 l4 u5)) ((things l4).length) 4 ++ ((things l4).take k).flatMap (valueB (partB d aa v flex) ab false flex)).length) c_)), (36, .v (.int .i64 ab)), (38, .v (.slice aA aa.length aB)), (39, .v (.int .i64 v)), (40, .v (.bool flex)), (41, .v (.slice A8 ((things l4).length) c9)), (42, .v (.int .i64 ((k : Nat) : Int))), (43, .v (.pointer (some ⟨cD, cE + k * 5, none⟩))), (44, .v (.agg #[.int .i64 ak, .slice bg al.length bh, .bool am, .slice bi ao.length bj, .slice bk ap.length bn])), (45, .v (.slice bq ((valueB (partB d aa v flex) ab false flex (Tree.mk ak al am ao ap)).length) br)), (46, .v (.slice aw ((countedB flex (Fld.nul (Fld.mk ac af ag ae ah ai ab aa) v (Tree.mk n1 s2 b3 l4 u5)) ((things l4).length) 4 ++ ((things l4).take k).flatMap (valueB (partB d aa v flex) ab false flex) ++ (valueB (partB d aa v flex) ab false flex (Tree.mk ak al am ao ap))).length) ax))]) (by simp only [List.length_append, List.length_cons, List.length_nil, Nat.zero_add])
    clear bY
    clear b0
    have dy := TT.ofW ((bt.trans bW).trans bZ) aN
    refine ⟨fun _ => dy, ?_⟩
    refine anyC_op (i := 13) kz (wpOp_pure [1, 2, 4, 10, 11, 30, 31] aN.cells b5 (env' := [(1, .v (.int .i64 v)), (2, .v (.bool flex)), (4, .p 0 0), (10, .v (.slice A8 ((things l4).length) c9)), (11, .v (.slice aw ((countedB flex (Fld.nul (Fld.mk ac af ag ae ah ai ab aa) v (Tree.mk n1 s2 b3 l4 u5)) ((things l4).length) 4 ++ ((things l4).take k).flatMap (valueB (partB d aa v flex) ab false flex) ++ (valueB (partB d aa v flex) ab false flex (Tree.mk ak al am ao ap))).length) ax)), (30, .v (.int .i64 (((things l4).length : Nat) : Int))), (31, .v (.int .i64 ((k : Nat) : Int)))]) kz fun fz b6 => ?_)
    clear b5
    refine ⟨fun h => absurd rfl h, ?_⟩
    refine anyC_done kz ?_ _
    refine block_normal ?_
    refine then_normal ?_
    refine go_region [0, 1] kz ?_
    refine go_rn [0, 1] [] [(1, .v (.int .i64 v)), (2, .v (.bool flex)), (4, .p 0 0), (10, .v (.slice A8 ((things l4).length) c9)), (11, .v (.slice aw ((countedB flex (Fld.nul (Fld.mk ac af ag ae ah ai ab aa) v (Tree.mk n1 s2 b3 l4 u5)) ((things l4).length) 4 ++ ((things l4).take k).flatMap (valueB (partB d aa v flex) ab false flex) ++ (valueB (partB d aa v flex) ab false flex (Tree.mk ak al am ao ap))).length) ax)), (30, .v (.int .i64 (((things l4).length : Nat) : Int))), (31, .v (.int .i64 (IntKind.i64.wrap (((k : Nat) : Int) + 1))))] aN b6 fun fA bu => ?_
    clear b6
    refine wpOps_nil (then_normal ?_)
    obtain ⟨b8, dz⟩ := aN.cutR 1 [brow aw ax 5 (countedB flex (Fld.nul (Fld.mk ac af ag ae ah ai ab aa) v (Tree.mk n1 s2 b3 l4 u5)) ((things l4).length) 4 ++ ((things l4).take k).flatMap (valueB (partB d aa v flex) ab false flex) ++ (valueB (partB d aa v flex) ab false flex (Tree.mk ak al am ao ap)))]
    have ca : (countedB flex (Fld.nul (Fld.mk ac af ag ae ah ai ab aa) v (Tree.mk n1 s2 b3 l4 u5)) ((things l4).length) 4 ++ ((things l4).take k).flatMap (valueB (partB d aa v flex) ab false flex) ++ (valueB (partB d aa v flex) ab false flex (Tree.mk ak al am ao ap))) = (countedB flex (Fld.nul (Fld.mk ac af ag ae ah ai ab aa) v (Tree.mk n1 s2 b3 l4 u5)) ((things l4).length) 4 ++ ((things l4).take (k + 1)).flatMap (valueB (partB d aa v flex) ab false flex)) := by rw [flatMap_take_succ aM, List.append_assoc]
    have dA := congrArg (brow aw ax 5) ca
    obtain ⟨dB, dC⟩ := b8.rowEq 0 [brow aw ax 5 (countedB flex (Fld.nul (Fld.mk ac af ag ae ah ai ab aa) v (Tree.mk n1 s2 b3 l4 u5)) ((things l4).length) 4 ++ ((things l4).take (k + 1)).flatMap (valueB (partB d aa v flex) ab false flex))] dA
    clear b8
    rw [ca] at bu
    have dD : IntKind.i64.wrap (((k : Nat) : Int) + 1) = ((k + 1 : Nat) : Int) := wrap_succ (by omega)
    rw [dD] at bu
    exact ⟨(things l4).length - (k + 1), by omega, k + 1, aw, ax, rfl, by omega, bu.pk, dB, ((((((dq.trans dr).trans bt).trans bW).trans bZ).trans dz).trans dC)⟩
   ·
    have eE := of_decide_eq_false aZ
    refine wp_exit ?_
    refine then_exit ?_
    refine then_exit ?_
    refine block_exit ?_
    refine then_normal ?_
    refine go_sp [(8, .v (.slice A_ ((countedB flex (Fld.nul (Fld.mk ac af ag ae ah ai ab aa) v (Tree.mk n1 s2 b3 l4 u5)) ((things l4).length) 4 ++ ((things l4).take k).flatMap (valueB (partB d aa v flex) ab false flex)).length) c_))] av aC fun fB dE => ?_
    clear aC
    refine wp_ret ?_
    refine then_ret ?_
    refine leave dE av.cells (v := .slice A_ ((countedB flex (Fld.nul (Fld.mk ac af ag ae ah ai ab aa) v (Tree.mk n1 s2 b3 l4 u5)) ((things l4).length) 4 ++ ((things l4).take k).flatMap (valueB (partB d aa v flex) ab false flex)).length) c_) kz ?_
    have hkk : (things l4).take k = things l4 := List.take_of_length_le (by omega)
    exact fresh_end av (k := 0) rfl (by rw [hkk, fieldD_11 (by assumption) (by assumption)]; rfl)
 ·
  have eF : ac ≠ 11 := by simpa using cB
  refine wp_skip ?_
  refine then_normal ?_
  refine wp_seq ?_
  refine go_seq_region [0, 1, 2, 3, 4, 5, 6, 7] kz ?_
  refine go_rn [0, 1, 2, 3] [4, 5, 6, 7] [(1, .v (.int .i64 v)), (2, .v (.bool flex)), (4, .p 0 0), (7, .p 1 0), (9, .v (.bool (Fld.nul (Fld.mk ac af ag ae ah ai ab aa) v (Tree.mk n1 s2 b3 l4 u5)))), (52, .v (.bool (ac == 10)))] aj aV fun fC aO => ?_
  clear aV
  refine (Bool.eq_false_or_eq_true (ac == 10)).elim (fun aE => ?_) (fun aE => ?_)
  ·
   have eG : ac = 10 := by simpa using aE
   have cb := aO.cast (env' := [(1, .v (.int .i64 v)), (2, .v (.bool flex)), (4, .p 0 0), (7, .p 1 0), (9, .v (.bool (Fld.nul (Fld.mk ac af ag ae ah ai ab aa) v (Tree.mk n1 s2 b3 l4 u5)))), (52, .v (.bool true))]) (by rw [aE])
   clear aO
   refine go_rn [4, 5, 6, 7] [] [(1, .v (.int .i64 v)), (2, .v (.bool flex)), (4, .p 0 0), (7, .p 1 0), (9, .v (.bool (Fld.nul (Fld.mk ac af ag ae ah ai ab aa) v (Tree.mk n1 s2 b3 l4 u5)))), (56, .v (.bool (decide (ae ≥ 0))))] aj cb fun fD aF => ?_
   clear cb
   refine wpOps_nil (then_normal ?_)
   refine cond_of aF (b := decide (ae ≥ 0)) kz (fun bv => ?_) (fun bv => ?_)
   ·
    have eH := of_decide_eq_true bv
    refine wp_seq ?_
    refine go_sp [(1, .v (.int .i64 v)), (2, .v (.bool flex)), (4, .p 0 0), (7, .p 1 0), (57, .v (.bool (Fld.nul (Fld.mk ac af ag ae ah ai ab aa) v (Tree.mk n1 s2 b3 l4 u5))))] aj aF fun fE aG => ?_
    clear aF
    refine cond_of aG (b := Fld.nul (Fld.mk ac af ag ae ah ai ab aa) v (Tree.mk n1 s2 b3 l4 u5)) kz (fun dF => ?_) (fun dF => ?_)
    ·
     refine go_seq_region [0, 1] kz ?_
     refine of_op (wpOp_call aG (f := 131) (vs := [.int .i64 (-1), .int .i64 1]) (d := 58) kz Tryz.call131 (sFixed (-1) 1 (by first | decide | exact widthI_le _ | omega) _) ?_)
     rintro e_ fF ⟨cG, cH, rfl, dG, dH⟩
     refine ⟨_, rfl, fun fG cc => ?_⟩
     obtain ⟨bw, eI⟩ := aj.frFresh dH (brow cG cH 5 (be 1 (-1))) (Nat.le_refl _) dG
     clear aG aj
     refine go_rn [1] [] [(8, .v (.slice cG ((be 1 (-1)).length) cH))] bw cc fun fH dI => ?_
     clear cc
     refine wpOps_nil (then_normal ?_)
     refine wp_ret ?_
     refine then_ret ?_
     refine then_ret ?_
     refine leave dI bw.cells (v := .slice cG ((be 1 (-1)).length) cH) kz ?_
     exact fresh_end bw (k := 0) rfl (by first | rw [fieldD_0 (by assumption) (by assumption)] | rw [fieldD_1 (by assumption) (by assumption) (by assumption)] | rw [fieldD_10 (by assumption) (by assumption) (by assumption) (by assumption)] | rw [fieldD_10n (by assumption) (by assumption) (by assumption) (by assumption)])
    ·
     refine wp_skip ?_
     refine then_normal ?_
     refine go_seq_drawK 8 kz aj fun fI eJ dJ dK => ?_
     clear aj
     refine go_rnD [1, 2, 3, 4, 5] [(61, .v (.slice aA aa.length aB)), (62, .v (.int .i64 v)), (63, .v (.bool flex)), (64, .v (.agg #[.int .i64 n1, .slice A6 s2.length c7, .bool b3, .slice A8 l4.length c9, .slice aQ u5.length aR]))] 4 (panicFree_then (panicFree_then panicFree_body)) (fun _ h => h.cells) dK aG fun fJ cd => ?_
     clear aG
     refine anyC_op (i := 0) kz (wpOp_call cd (f := 131) (vs := [.int .i64 1, .int .i64 1]) (d := 59) kz Tryz.call131 (sFixed 1 1 (by first | decide | exact widthI_le _ | omega) _) ?_)
     rintro e_ fK ⟨bH, bI, rfl, dL, dM⟩
     refine ⟨_, rfl, fun fL ce => ?_⟩
     obtain ⟨ar, bz⟩ := dJ.frFresh dM (brow bH bI 5 (be 1 1)) (Nat.le_refl _) dL
     clear cd
     have dN := TT.ofW bz ar
     refine ⟨fun _ => dN, ?_⟩
     refine anyC_op (i := 6) kz (wpOp_call ce (f := 40) (vs := [.slice aA aa.length aB, .int .i64 v, .bool flex, .agg #[.int .i64 n1, .slice A6 s2.length c7, .bool b3, .slice A8 l4.length c9, .slice aQ u5.length aR]]) (d := 65) kz Tryz.call40 (hp _ _ aa v flex _ (Tree.mk n1 s2 b3 l4 u5) _ _ ⟨bF, (cO.move ar.step nilM ar.imm), (fun i_ x_ h_ => ((d6 i_ x_ h_).move ar.step nilM ar.imm))⟩ hd (ht.move ar.step nilM ar.imm) (by have h9_ := hroom; rw [fieldD_10 (by assumption) (by assumption) (by assumption) (by assumption), List.length_append] at h9_; omega)) ?_)
     rintro e_ fM ⟨bA, bB, rfl, dO, dP⟩
     refine ⟨_, rfl, fun fN cg => ?_⟩
     obtain ⟨aH, cl⟩ := ar.frFresh dP (brow bA bB 5 (partB d aa v flex (Tree.mk n1 s2 b3 l4 u5))) (Nat.le_refl _) dO
     clear ce ar
     have dQ := TT.ofW (bz.trans cl) aH
     refine ⟨fun _ => dQ, ?_⟩
     refine anyC_op (i := 7) kz (wpOp_append aH cg (k := 0) (d := 66) (t := 22) (e := 5) (size := 1) (bytes := 1) (A := bH) (As := bA) (m0 := ((be 1 1).length)) (c := bI) (m := ((partB d aa v flex (Tree.mk n1 s2 b3 l4 u5)).length)) (cs := bB) (xs := (bc (be 1 1))) (news := bc (partB d aa v flex (Tree.mk n1 s2 b3 l4 u5))) kz kz rfl (own_src (aH.own 1 _ rfl) (bc_one _)) (own_cap (aH.own 1 _ rfl)) (by have h9_ := hroom; rw [fieldD_10 (by assumption) (by assumption) (by assumption) (by assumption), List.length_append] at h9_; omega) fun aI aJ fO fP dR cm cq => ?_)
     clear cg aH
     have dS : (⟨aI, aJ, 5, 1, (be 1 1).length + (partB d aa v flex (Tree.mk n1 s2 b3 l4 u5)).length, bc (be 1 1) ++ bc (partB d aa v flex (Tree.mk n1 s2 b3 l4 u5))⟩ : Rw) = brow aI aJ 5 (be 1 1 ++ (partB d aa v flex (Tree.mk n1 s2 b3 l4 u5))) := brow_eq (rfl) rfl
     obtain ⟨aP, dT⟩ := cm.rowEq 0 [brow aI aJ 5 (be 1 1 ++ (partB d aa v flex (Tree.mk n1 s2 b3 l4 u5))), brow bA bB 5 (partB d aa v flex (Tree.mk n1 s2 b3 l4 u5))] dS
     clear cm
     have cr := EnvOk.pick cq (ks := [61, 62, 63, 64, 59, 65, 66]) (env' := [(61, .v (.slice aA aa.length aB)), (62, .v (.int .i64 v)), (63, .v (.bool flex)), (64, .v (.agg #[.int .i64 n1, .slice A6 s2.length c7, .bool b3, .slice A8 l4.length c9, .slice aQ u5.length aR])), (59, .v (.slice bH ((be 1 1).length) bI)), (65, .v (.slice bA ((partB d aa v flex (Tree.mk n1 s2 b3 l4 u5)).length) bB)), (66, .v (.slice aI ((be 1 1).length + (partB d aa v flex (Tree.mk n1 s2 b3 l4 u5)).length) aJ))]) kz
     have cu := cr.cast (env' := [(61, .v (.slice aA aa.length aB)), (62, .v (.int .i64 v)), (63, .v (.bool flex)), (64, .v (.agg #[.int .i64 n1, .slice A6 s2.length c7, .bool b3, .slice A8 l4.length c9, .slice aQ u5.length aR])), (59, .v (.slice bH ((be 1 1).length) bI)), (65, .v (.slice bA ((partB d aa v flex (Tree.mk n1 s2 b3 l4 u5)).length) bB)), (66, .v (.slice aI ((be 1 1 ++ (partB d aa v flex (Tree.mk n1 s2 b3 l4 u5))).length) aJ))]) (by simp only [List.length_append, List.length_cons, List.length_nil, Nat.zero_add])
     clear cq
     clear cr
     have dU := TT.ofW (((bz.trans cl).trans dR).trans dT) aP
     refine ⟨fun _ => dU, ?_⟩
     refine anyC_op (i := 8) kz (wpOp_pure [8] aP.cells cu (env' := [(8, .v (.slice aI ((be 1 1 ++ (partB d aa v flex (Tree.mk n1 s2 b3 l4 u5))).length) aJ))]) kz fun fQ dV => ?_)
     clear cu
     refine ⟨fun h => absurd rfl h, ?_⟩
     refine anyC_done kz ?_ _
     refine then_normal ?_
     refine wp_ret ?_
     refine then_ret ?_
     refine leave dV aP.cells (v := .slice aI ((be 1 1 ++ (partB d aa v flex (Tree.mk n1 s2 b3 l4 u5))).length) aJ) kz ?_
     exact fresh_end aP (k := 0) rfl (by first | rw [fieldD_0 (by assumption) (by assumption)] | rw [fieldD_1 (by assumption) (by assumption) (by assumption)] | rw [fieldD_10 (by assumption) (by assumption) (by assumption) (by assumption)] | rw [fieldD_10n (by assumption) (by assumption) (by assumption) (by assumption)])
   ·
    have eK := of_decide_eq_false bv
    refine wp_skip ?_
    refine then_normal ?_
    refine go_seq_region [0, 1, 2, 3, 4, 5, 6, 7, 8, 9] kz ?_
    refine go_rn [0, 1, 2, 3, 4, 5, 6, 7] [8, 9] [(68, .v (.int .i64 ac)), (70, .v (.slice aA aa.length aB)), (71, .v (.bool (Fld.nul (Fld.mk ac af ag ae ah ai ab aa) v (Tree.mk n1 s2 b3 l4 u5)))), (72, .v (.int .i64 v)), (73, .v (.bool flex)), (74, .v (.agg #[.int .i64 n1, .slice A6 s2.length c7, .bool b3, .slice A8 l4.length c9, .slice aQ u5.length aR]))] aj aF fun fR cv => ?_
    clear aF
    refine of_op (wpOp_call cv (f := 130) (vs := [.int .i64 ac, .slice aA aa.length aB, .bool (Fld.nul (Fld.mk ac af ag ae ah ai ab aa) v (Tree.mk n1 s2 b3 l4 u5)), .int .i64 v, .bool flex, .agg #[.int .i64 n1, .slice A6 s2.length c7, .bool b3, .slice A8 l4.length c9, .slice aQ u5.length aR]]) (d := 75) kz Tryz.call130 (sValue hp ac _ _ aa (Fld.nul (Fld.mk ac af ag ae ah ai ab aa) v (Tree.mk n1 s2 b3 l4 u5)) v flex _ (Tree.mk n1 s2 b3 l4 u5) _ _ ⟨bF, (cO.move aj.step nilM aj.imm), (fun i_ x_ h_ => ((d6 i_ x_ h_).move aj.step nilM aj.imm))⟩ hd (ht.move aj.step nilM aj.imm) (by have h_ := hroom; (first | rw [fieldD_0 (by assumption) (by assumption)] at h_ | rw [fieldD_1 (by assumption) (by assumption) (by assumption)] at h_); exact h_)) ?_)
    rintro e_ fS ⟨cI, cJ, rfl, dW, dX⟩
    refine ⟨_, rfl, fun fT cw => ?_⟩
    obtain ⟨bC, eL⟩ := aj.frFresh dX (brow cI cJ 5 (valueB (partB d aa v flex) ac (Fld.nul (Fld.mk ac af ag ae ah ai ab aa) v (Tree.mk n1 s2 b3 l4 u5)) flex (Tree.mk n1 s2 b3 l4 u5))) (Nat.le_refl _) dW
    clear cv aj
    refine go_rn [9] [] [(8, .v (.slice cI ((valueB (partB d aa v flex) ac (Fld.nul (Fld.mk ac af ag ae ah ai ab aa) v (Tree.mk n1 s2 b3 l4 u5)) flex (Tree.mk n1 s2 b3 l4 u5)).length) cJ))] bC cw fun fU dY => ?_
    clear cw
    refine wpOps_nil (then_normal ?_)
    refine wp_ret ?_
    refine leave dY bC.cells (v := .slice cI ((valueB (partB d aa v flex) ac (Fld.nul (Fld.mk ac af ag ae ah ai ab aa) v (Tree.mk n1 s2 b3 l4 u5)) flex (Tree.mk n1 s2 b3 l4 u5)).length) cJ) kz ?_
    exact fresh_end bC (k := 0) rfl (by first | rw [fieldD_0 (by assumption) (by assumption)] | rw [fieldD_1 (by assumption) (by assumption) (by assumption)] | rw [fieldD_10 (by assumption) (by assumption) (by assumption) (by assumption)] | rw [fieldD_10n (by assumption) (by assumption) (by assumption) (by assumption)])
  ·
   have eM : ac ≠ 10 := by simpa using aE
   have cy := aO.cast (env' := [(1, .v (.int .i64 v)), (2, .v (.bool flex)), (4, .p 0 0), (7, .p 1 0), (9, .v (.bool (Fld.nul (Fld.mk ac af ag ae ah ai ab aa) v (Tree.mk n1 s2 b3 l4 u5)))), (52, .v (.bool false))]) (by rw [aE])
   clear aO
   refine go_rn [4, 5, 6, 7] [] [(1, .v (.int .i64 v)), (2, .v (.bool flex)), (4, .p 0 0), (7, .p 1 0), (9, .v (.bool (Fld.nul (Fld.mk ac af ag ae ah ai ab aa) v (Tree.mk n1 s2 b3 l4 u5)))), (56, .v (.bool false))] aj cy fun fV bD => ?_
   clear cy
   refine wpOps_nil (then_normal ?_)
   refine cond_false bD (b := false) kz rfl ?_
   refine wp_skip ?_
   refine then_normal ?_
   refine go_seq_region [0, 1, 2, 3, 4, 5, 6, 7, 8, 9] kz ?_
   refine go_rn [0, 1, 2, 3, 4, 5, 6, 7] [8, 9] [(68, .v (.int .i64 ac)), (70, .v (.slice aA aa.length aB)), (71, .v (.bool (Fld.nul (Fld.mk ac af ag ae ah ai ab aa) v (Tree.mk n1 s2 b3 l4 u5)))), (72, .v (.int .i64 v)), (73, .v (.bool flex)), (74, .v (.agg #[.int .i64 n1, .slice A6 s2.length c7, .bool b3, .slice A8 l4.length c9, .slice aQ u5.length aR]))] aj bD fun fW cz => ?_
   clear bD
   refine of_op (wpOp_call cz (f := 130) (vs := [.int .i64 ac, .slice aA aa.length aB, .bool (Fld.nul (Fld.mk ac af ag ae ah ai ab aa) v (Tree.mk n1 s2 b3 l4 u5)), .int .i64 v, .bool flex, .agg #[.int .i64 n1, .slice A6 s2.length c7, .bool b3, .slice A8 l4.length c9, .slice aQ u5.length aR]]) (d := 75) kz Tryz.call130 (sValue hp ac _ _ aa (Fld.nul (Fld.mk ac af ag ae ah ai ab aa) v (Tree.mk n1 s2 b3 l4 u5)) v flex _ (Tree.mk n1 s2 b3 l4 u5) _ _ ⟨bF, (cO.move aj.step nilM aj.imm), (fun i_ x_ h_ => ((d6 i_ x_ h_).move aj.step nilM aj.imm))⟩ hd (ht.move aj.step nilM aj.imm) (by have h_ := hroom; (first | rw [fieldD_0 (by assumption) (by assumption)] at h_ | rw [fieldD_1 (by assumption) (by assumption) (by assumption)] at h_); exact h_)) ?_)
   rintro e_ fX ⟨cK, cL, rfl, dZ, d4⟩
   refine ⟨_, rfl, fun fY cA => ?_⟩
   obtain ⟨bE, eN⟩ := aj.frFresh d4 (brow cK cL 5 (valueB (partB d aa v flex) ac (Fld.nul (Fld.mk ac af ag ae ah ai ab aa) v (Tree.mk n1 s2 b3 l4 u5)) flex (Tree.mk n1 s2 b3 l4 u5))) (Nat.le_refl _) dZ
   clear cz aj
   refine go_rn [9] [] [(8, .v (.slice cK ((valueB (partB d aa v flex) ac (Fld.nul (Fld.mk ac af ag ae ah ai ab aa) v (Tree.mk n1 s2 b3 l4 u5)) flex (Tree.mk n1 s2 b3 l4 u5)).length) cL))] bE cA fun fZ d5 => ?_
   clear cA
   refine wpOps_nil (then_normal ?_)
   refine wp_ret ?_
   refine leave d5 bE.cells (v := .slice cK ((valueB (partB d aa v flex) ac (Fld.nul (Fld.mk ac af ag ae ah ai ab aa) v (Tree.mk n1 s2 b3 l4 u5)) flex (Tree.mk n1 s2 b3 l4 u5)).length) cL) kz ?_
   exact fresh_end bE (k := 0) rfl (by first | rw [fieldD_0 (by assumption) (by assumption)] | rw [fieldD_1 (by assumption) (by assumption) (by assumption)] | rw [fieldD_10 (by assumption) (by assumption) (by assumption) (by assumption)] | rw [fieldD_10n (by assumption) (by assumption) (by assumption) (by assumption)])
end Go.Proofs.YtbjopfcbpobnpaaGreat.ME