/- Tags: one written, by the closure that AppendEach hands over. Own work. -/
import Derived.Test.YtbjopfcbpobnpaaTc
import Derived.Test.YtbjopfcbpobnpaaCk
namespace Go.Proofs.Ytbjopfcbpobnpaa.ME
open Go
open Go.RowKit
open Go.ChangeMaps (setBlock)
set_option linter.unusedVariables false
set_option linter.unusedSimpArgs false
set_option maxRecDepth 20000

/-- a slice of octets in a variable of its own -/
structure Dst (w : World) (B e8 : Nat) (A : Option Addr) (cp : Nat) (s : Bs) : Prop where
  cell : w.cell? ⟨B, 0, none⟩ = some (.slice A s.length cp)
  frz : w.frozen? ⟨B, 0, none⟩ = false
  own : w.ownsRow 0 e8 1 (.slice A s.length cp) s.length (bc s)
  ne : A.map (·.block) ≠ some B
def BM (B : Nat) (A : Option Addr) : Nat → Nat → Prop := fun b o => (b = B ∧ o = 0) ∨ Blk A b o
def BoxPost (w : World) (B e8 : Nat) (A : Option Addr) (s : Bs) : Ending → World → Prop := fun en w' =>
  en = .returned (.tuple #[]) ∧ ∃ A' cp', Dst w' B e8 A' cp' s ∧ Near w A A' ∧ Step w w' (BM B A)
theorem Dst.wok {w : World} {B e8 cp : Nat} {A : Option Addr} {s : Bs} (h : Dst w B e8 A cp s) : WOk w (BM B A) w [⟨B, 0, [.slice A s.length cp], true⟩] [brow A cp e8 s] := by
  have h1 : WOk w (BM B A) w [⟨B, 0, [.slice A s.length cp], true⟩] [] := by
    refine (WOk.start w _).add ⟨B, 0, [.slice A s.length cp], true⟩ (World.lt_of_cell h.cell) (fun j v hj => ?_) (fun _ j hj => ?_) (fun i ob hi => by simp at hi) (fun i r hi => by simp at hi)
    · have hj0 : j = 0 := by
        have := (List.getElem?_eq_some_iff.1 hj).1
        simp at this; omega
      subst hj0
      simp only [List.getElem?_cons_zero, Option.some.injEq] at hj
      subst hj
      exact h.cell
    · have hj0 : j = 0 := by simp at hj; omega
      subst hj0
      exact ⟨.inr (.inl ⟨rfl, rfl⟩), h.frz⟩
  refine h1.addRow (brow A cp e8 s) h.own (fun g hg => .inr fun o => .inr hg) (fun i ob hi => ?_) (fun i r hi => by simp at hi)
  cases i with
  | zero =>
    simp only [List.getElem?_cons_zero, Option.some.injEq] at hi; subst hi
    exact h.ne
  | succ i => simp at hi
theorem dst_of {w0 w : World} {B e8 cp : Nat} {A0 A : Option Addr} {s : Bs} {v : Value} (hW : WOk w0 (BM B A0) w [⟨B, 0, [v], true⟩] [brow A cp e8 s]) (hv : v = .slice A s.length cp) (hB : B < w0.heap.size) : Dst w B e8 A cp s ∧ Near w0 A0 A ∧ Step w0 w (BM B A0) := by
  subst hv
  refine ⟨⟨?_, ?_, hW.own 0 _ rfl, fun e => hW.rtb 0 _ rfl B e 0 _ rfl rfl⟩, fun g hg => ?_, hW.step⟩
  · exact hW.cells 0 _ rfl 0 _ rfl
  · exact (hW.rw_ 0 _ rfl rfl 0 (by simp)).2
  · rcases hW.ownM 0 _ rfl g hg with h | h
    · exact .inr h
    · rcases h 0 with ⟨rfl, _⟩ | h
      · exact absurd rfl (hW.rtb 0 _ rfl _ hg 0 _ rfl)
      · exact .inl h

/-- one tag's octets -/
def tagR (k : Int) (x : Bs) : Bs := uv k.toNat ++ uv x.length ++ x

theorem kEachOne {w : World} {B cp c : Nat} {k : Int} {A Av : Option Addr} {s x : Bs} {G : Nat → Nat → Prop} (hd : Dst w B 5 A cp s) (hk : 0 ≤ k ∧ k < 4294967296) (hx : Octs w G Av c x) (hG : ∀ b o, G b o → ¬ BM B A b o)
    (hxl : x.length < 4294967296) (hroom : s.length + (tagR k x).length + 16 ≤ 1099511627776) :
    Calls Try.prog 143 [.int .u32 k, .slice Av x.length c, .pointer (some ⟨B, 0, none⟩)].toArray w (BoxPost w B 5 A (s ++ tagR k x)) := by
  obtain ⟨m, rfl⟩ : ∃ m : Nat, k = (m : Int) := ⟨k.toNat, by omega⟩
  have hB := World.lt_of_cell hd.cell
  unfold tagR at hroom ⊢
  rw [Int.toNat_natCast] at hroom ⊢
  simp only [List.length_append] at hroom
  refine enter (n := 16) Try.func143 rfl Try.ntmps143 (by kernel_rfl) fun a hE => ?_
  have hW := hd.wok
  have hE0 := (hE.grow ⟨B, 0, [.slice A s.length cp], true⟩).recast 2 (.v (.pointer (some ⟨B, 0, none⟩))) (.p 0 0) rfl rfl (by simp [SV.ok])
  -- the number
  refine go_seq_region [0, 1, 2, 3] (by kernel_rfl) ?_
  refine go_runs [0, 1] [2, 3] [0, 1, 2, 5, 6] hW hE0 (env' := [(0, .v (.int .u32 (m : Int))), (1, .v (.slice Av x.length c)), (2, .p 0 0), (5, .v (.slice A s.length cp)), (6, .v (.int .u32 (m : Int)))]) (by kernel_rfl) rfl fun a1 hE1 => ?_
  refine of_op (wpOp_call hE1 (f := 100) (vs := [.slice A s.length cp, .int .u32 (m : Int)]) (d := 7) (by kernel_rfl) Try.call100 (kAppendUvarint m (by omega) A cp s _ (hW.own 0 _ rfl) (by omega)) ?_)
  rintro e_ w1 ⟨A1, c1, rfl, ho1, hs1, hn1⟩
  refine ⟨_, rfl, fun a2 hE2 => ?_⟩
  have hW1 : WOk _ _ _ _ [brow A1 c1 5 (s ++ uv m)] := hW.grow (k := 0) rfl hs1 ho1 hn1
  refine of_op (wpOp_store hW1 hE2 (oi := 0) (cs := [.slice A1 (s ++ uv m).length c1]) (by kernel_rfl) fun w2 hF2 hW2 hE2' => wpOps_nil (then_normal ?_))
  -- the length
  refine go_seq_region [0, 1, 2, 3, 4, 5] (by kernel_rfl) ?_
  refine go_runs [0, 1, 2, 3] [4, 5] [1, 2, 8, 11] hW2 hE2' (env' := [(1, .v (.slice Av x.length c)), (2, .p 0 0), (8, .v (.slice A1 (s ++ uv m).length c1)), (11, .v (.int .u32 (IntKind.u32.wrap ((x.length : Nat) : Int))))]) (by kernel_rfl) rfl fun a3 hE3 => ?_
  rw [wrap_u32, Int.emod_eq_of_lt (by omega) (by omega)] at hE3
  refine of_op (wpOp_call hE3 (f := 100) (vs := [.slice A1 (s ++ uv m).length c1, .int .u32 ((x.length : Nat) : Int)]) (d := 12) (by kernel_rfl) Try.call100 (kAppendUvarint x.length hxl A1 c1 (s ++ uv m) _ (hW2.own 0 _ rfl) (by rw [List.length_append]; omega)) ?_)
  rintro e_ w3 ⟨A2, c2, rfl, ho2, hs2, hn2⟩
  refine ⟨_, rfl, fun a4 hE4 => ?_⟩
  have hW3 : WOk _ _ _ _ [brow A2 c2 5 (s ++ uv m ++ uv x.length)] := hW2.grow (k := 0) rfl hs2 ho2 hn2
  refine of_op (wpOp_store hW3 hE4 (oi := 0) (cs := [.slice A2 (s ++ uv m ++ uv x.length).length c2]) (by kernel_rfl) fun w4 hF4 hW4 hE4' => wpOps_nil (then_normal ?_))
  -- the octets
  refine go_region [0, 1, 2, 3] (by kernel_rfl) ?_
  refine go_runs [0, 1] [2, 3] [2, 13, 14] hW4 hE4' (env' := [(2, .p 0 0), (13, .v (.slice A2 (s ++ uv m ++ uv x.length).length c2)), (14, .v (.slice Av x.length c))]) (by kernel_rfl) rfl fun a5 hE5 => ?_
  have hx4 : Octs w4 G Av c x := hx.move hW4.step (fun b o hg _ => hG b o hg) keepF
  refine of_op (wpOp_append hW4 hE5 (k := 0) (t := 22) (e := 5) (bytes := 1) (d := 15) (m := x.length) (by kernel_rfl) (by kernel_rfl) rfl hx4.src hx4.cap (by rw [List.length_append, List.length_append]; omega) fun A3 c3 a6 w5 hF5 hW5 hE6 => ?_)
  have er : (⟨A3, c3, 5, 1, (s ++ uv m ++ uv x.length).length + x.length, bc (s ++ uv m ++ uv x.length) ++ bc x⟩ : Rw) = brow A3 c3 5 (s ++ (uv m ++ uv x.length ++ x)) := by
    rw [brow_eq rfl rfl]; congr 1; simp
  have hW5' : WOk w (BM B A) w5 [⟨B, 0, [.slice A2 (s ++ uv m ++ uv x.length).length c2], true⟩] [brow A3 c3 5 (s ++ (uv m ++ uv x.length ++ x))] := er ▸ hW5
  refine of_op (wpOp_store hW5' hE6 (oi := 0) (cs := [.slice A3 ((s ++ uv m ++ uv x.length).length + x.length) c3]) (by kernel_rfl) fun w6 hF6 hW6 hE6' => wpOps_nil ?_)
  obtain ⟨h1, h2, h3⟩ := dst_of hW6 (by congr 1; simp; omega) hB
  exact leave_end hE6' hW6.cells (v := .tuple #[]) (by kernel_rfl) ⟨rfl, A3, c3, h1, h2, h3⟩

end Go.Proofs.Ytbjopfcbpobnpaa.ME
