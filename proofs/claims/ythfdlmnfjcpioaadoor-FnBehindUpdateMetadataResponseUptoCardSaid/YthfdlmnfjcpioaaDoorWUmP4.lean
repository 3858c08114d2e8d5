/- FnBehindUpdateMetadataResponse: the statement: of every version, every slice of octets and every tree of the bulk that the statement speaks of the law returns true, and leaves its arguments as they are; and the card. Own work. -/
import Derived.Test.YthfdlmnfjcpioaaDoorWUmP3
import Derived.Deep.LoopGhost
import Derived.Test.YthfdlmnfjcpioaaDoorTie
import Derived.Test.YthfdlmnfjcpioaaDoorCards
import Derived.LaidMore
import Derived.SevenTiedAt
/- Reading a message's tags. Own work. -/
namespace Go.Proofs.YthfdlmnfjcpioaaDoor.ME
open Go
open Go.RowKit
set_option linter.unusedVariables false
set_option linter.unusedSimpArgs false
set_option maxRecDepth 20000

/-- the state while tags are read -/
structure TR (w w' : World) (br p2 p3 : Nat) (F : Nat → Nat → Prop) (A : Option Addr) (n c : Nat) (s : Bs) (m : Option Nat) (u : List (Int × Bs)) : Prop where
  step : Step w w' (RdM br)
  old : br < w.heap.size
  new2 : w.heap.size ≤ p2
  new3 : w.heap.size ≤ p3
  ne : p2 ≠ p3
  rd : Str w' br [.slice A n c, .bool false]
  s2 : Str w' p2 [.map none]
  s3 : Str w' p3 [.map m]
  oct : RdS w' (fun b o => F b o ∧ b < w.heap.size) A n c s
  own : OwnM w' (fun b o => F b o ∧ b < w.heap.size) m u
  new : ∀ r, m = some r → w.heap.size ≤ r
theorem TR.mne {w w' : World} {br p2 p3 : Nat} {F : Nat → Nat → Prop} {A : Option Addr} {n c : Nat} {s : Bs} {m : Option Nat} {u : List (Int × Bs)} (h : TR w w' br p2 p3 F A n c s m u) : m ≠ some p2 ∧ m ≠ some p3 := by
  refine ⟨fun e => ?_, fun e => ?_⟩
  · obtain ⟨es, clk, h1, _⟩ := h.own.some_ p2 e
    exact cell_block (h.s2.at_ 0 _ rfl) h1 rfl
  · obtain ⟨es, clk, h1, _⟩ := h.own.some_ p3 e
    exact cell_block (h.s3.at_ 0 _ rfl) h1 rfl
/-- something has been read -/
theorem TR.read {w w' w1 : World} {br p2 p3 : Nat} {F : Nat → Nat → Prop} {A A' : Option Addr} {n c n' c' : Nat} {s s' : Bs} {m : Option Nat} {u : List (Int × Bs)} (h : TR w w' br p2 p3 F A n c s m u) (hFd : ∀ b o, F b o → ¬ RdM br b o) (hs : Str w1 br [.slice A' n' c', .bool false]) (hr : RdS w1 (fun b o => F b o ∧ b < w.heap.size) A' n' c' s') (hst : Step w' w1 (RdM br)) : TR w w1 br p2 p3 F A' n' c' s' m u := by
  have ho := h.old
  have h2 := h.new2
  have h3 := h.new3
  refine ⟨h.step.trans hst fun _ _ _ e => e, ho, h2, h3, h.ne, hs, h.s2.move hst fun o e => ?_, h.s3.move hst fun o e => ?_, hr, h.own.move hst (fun b o hg _ => hFd b o hg.1) keepF (fun r o e he => ?_), h.new⟩
  · have := e.1; omega
  · have := e.1; omega
  · have := h.new r e; have := he.1; omega
/-- a tag is set -/
theorem TR.set {w w' : World} {br p2 p3 : Nat} {F : Nat → Nat → Prop} {A A1 : Option Addr} {n c c1 j : Nat} {s x : Bs} {k : Int} {m : Option Nat} {u : List (Int × Bs)} (h : TR w w' br p2 p3 F A n c s m (u.take j)) (hsort : Sorted u) (hj : u[j]? = some (k, x)) (hx : Octs w' (fun b o => F b o ∧ b < w.heap.size) A1 c1 x) (hk : 0 ≤ k ∧ k < 4294967296) :
    Calls Tryd.prog 119 [.pointer (some ⟨p3, 0, none⟩), .int .u32 k, .slice A1 x.length c1].toArray w' (fun e w1 => e = .returned (.tuple #[]) ∧ ∃ r, TR w w1 br p2 p3 F A n c s (some r) (u.take (j + 1))) := by
  have hcell : w'.cell? ⟨p3, 0, none⟩ = some (.map m) := h.s3.at_ 0 _ rfl
  have hfz : w'.frozen? ⟨p3, 0, none⟩ = false := h.s3.frz 0 (by simp)
  have hnew := h.new
  have h2 := h.new2
  have h3 := h.new3
  have ho := h.old
  have hsz := h.step.size
  obtain ⟨m2, m3⟩ := h.mne
  refine (kTagsSet hcell hfz h.own hx hk (fun b' o' hg => ⟨fun e => ?_, fun e => ?_⟩) (fun b' o' hg => Nat.lt_of_lt_of_le hg.2 hsz)).mono ?_
  · have := hg.2; omega
  · have := hnew b' e; have := hg.2; omega
  · rintro e w1 ⟨rfl, r, g1, g2, g3, g4, g5⟩
    rw [setT_next hsort hj] at g3
    refine ⟨rfl, r, h.step.trans g5 fun b o hl e => ?_, ho, h2, h3, h.ne, h.rd.move g5 fun o e => ?_, h.s2.move g5 fun o e => ?_, ⟨fun i v hi => ?_, fun i hi => ?_⟩, ⟨h.oct.len, Octs.move h.oct.oct g5 (fun b o hg _ e => ?_) keepF⟩, g3, fun r' hr' => ?_⟩
    · rcases e with ⟨e1, _⟩ | e1
      · omega
      · have := hnew b e1; omega
    · rcases e with ⟨e1, _⟩ | e1
      · omega
      · have := hnew br e1; omega
    · rcases e with ⟨e1, _⟩ | e1
      · exact h.ne e1
      · exact m2 e1
    · cases i with
      | zero =>
        simp only [List.getElem?_cons_zero, Option.some.injEq] at hi
        subst hi
        exact g1
      | succ i => simp at hi
    · have : i = 0 := by simp at hi; omega
      subst this
      exact g2
    · have := hg.2
      rcases e with ⟨e1, _⟩ | e1
      · omega
      · have := hnew b e1; omega
    · obtain rfl := Option.some.inj hr'
      rcases g4 with g4 | g4
      · exact hnew _ g4
      · exact Nat.le_trans hsz g4
theorem tagsR_cons (x : Int × Bs) (u : List (Int × Bs)) : tagsR (x :: u) = tagR x.1 x.2 ++ tagsR u := by unfold tagsR; rw [List.flatMap_cons]
theorem tagsR_drop {u : List (Int × Bs)} {j : Nat} {k : Int} {x : Bs} (h : u[j]? = some (k, x)) (rest : Bs) : tagsR (u.drop j) ++ rest = uv k.toNat ++ (uv x.length ++ (x ++ (tagsR (u.drop (j + 1)) ++ rest))) := by
  obtain ⟨hlt, he⟩ := List.getElem?_eq_some_iff.1 h
  rw [List.drop_eq_getElem_cons hlt, he, tagsR_cons]
  simp only [tagR, List.append_assoc]

theorem rTags (u : List (Int × Bs)) (rest : Bs) (hsort : Sorted u) (hk : ∀ x ∈ u, 0 ≤ x.1 ∧ x.1 < 4294967296) (hul : u.length ≤ 1000000) (hxl : ∀ x ∈ u, x.2.length < 4294967296) {br : Nat} {A : Option Addr} {m c : Nat} {w : World} {F : Nat → Nat → Prop} (hst : Str w br [.slice A m c, .bool false]) (hr : RdS w F A m c (uv u.length ++ (tagsR u ++ rest))) (hFd : ∀ b o, F b o → ¬ RdM br b o) :
    Calls Tryd.prog 100 #[.pointer (some ⟨br, 0, none⟩)] w (RdPost w br (Fp F w) rest fun v w' => ∃ mm, v = .agg #[.map mm] ∧ MapR w' (Fp F w) mm u) := by
  have hbr : br < w.heap.size := World.lt_of_cell (hst.at_ 0 _ rfl)
  refine enter (n := 24) (vs := [.pointer (some ⟨br, 0, none⟩)]) Tryd.func100 rfl Tryd.ntmps100 (by kernel_rfl) fun a hE => ?_
  have hW := WOk.start w Nil
  refine go_seq_region [0] (by kernel_rfl) ?_
  refine of_op (wpOp_alloc hW hE (d := 2) (cs := [.map none]) (by kernel_rfl) fun p2 a1 w1 hp2 hz2 hF1 hW1 hE1 => wpOps_nil (then_normal ?_))
  refine go_seq_region [0] (by kernel_rfl) ?_
  refine of_op (wpOp_alloc hW1 hE1 (d := 3) (cs := [.map none]) (by kernel_rfl) fun p3 a2 w2 hp3 hz3 hF2 hW2 hE2 => wpOps_nil (then_normal ?_))
  have hne : p2 ≠ p3 := by
    have h1 := hW1.live 0 _ rfl
    simp only at h1
    omega
  have hS : Step w w2 Nil := hW2.step
  have hT0 : TR w w2 br p2 p3 F A m c (uv u.length ++ (tagsR u ++ rest)) none (u.take 0) := by
    refine ⟨hS.mono fun _ _ _ h => h.elim, hbr, hz2, hz3, hne, hst.move hS (fun _ h => h), Str.of hW2 0 rfl, Str.of hW2 1 rfl, hr.move hS nilM (fun b o h hb => ⟨h, hb⟩), ?_, fun _ h => by cases h⟩
    rw [List.take_zero]
    exact OwnM.nil _ _
  refine wp_seq ?_
  have hE3 := (((hE2.recast 2 (.p 0 0) (.v (.pointer (some ⟨p2, 0, none⟩))) rfl rfl trivial).recast 3 (.p 1 0) (.v (.pointer (some ⟨p3, 0, none⟩))) rfl rfl trivial).pick (ks := [0, 2, 3]) (env' := [(0, .v (.pointer (some ⟨br, 0, none⟩))), (2, .v (.pointer (some ⟨p2, 0, none⟩))), (3, .v (.pointer (some ⟨p3, 0, none⟩)))]) (by kernel_rfl)).cutTb 0 (by kernel_rfl)
  have hWz := WOk.start w2 Nil
  refine go_seq_region [0, 1, 2] (by kernel_rfl) ?_
  refine go_rn [0] [1, 2] [(0, .v (.pointer (some ⟨br, 0, none⟩))), (2, .v (.pointer (some ⟨p2, 0, none⟩))), (3, .v (.pointer (some ⟨p3, 0, none⟩))), (7, .v (.pointer (some ⟨br, 0, none⟩)))] hWz hE3 fun a3 hE4 => ?_
  have hFd' : ∀ b o, (F b o ∧ b < w.heap.size) → ¬ RdM br b o := fun b o h => hFd b o h.1
  refine of_op (wpOp_call hE4 (f := 118) (vs := [.pointer (some ⟨br, 0, none⟩)]) (d := 8) (by kernel_rfl) Tryd.call118 (rUvarint u.length (by omega) (tagsR u ++ rest) hT0.rd hT0.oct hFd') ?_)
  rintro e_ w3 ⟨_, A3, n3, c3, rfl, hs3, hr3, hst3, rfl⟩
  have hT1 := hT0.read hFd hs3 hr3 hst3
  refine ⟨_, rfl, fun a4 hE5 => ?_⟩
  refine go_rn [2] [] [(0, .v (.pointer (some ⟨br, 0, none⟩))), (2, .v (.pointer (some ⟨p2, 0, none⟩))), (3, .v (.pointer (some ⟨p3, 0, none⟩))), (4, .v (.int .u32 ((u.length : Nat) : Int)))] (WOk.start w3 Nil) hE5 fun a5 hE6 => wpOps_nil (then_normal ?_)
  refine wp_block ?_
  refine wp_loop_ghost (fun q a_ w_ => ∃ (j : Nat) (m_ : Option Nat) (A_ : Option Addr) (n_ c_ : Nat), q = u.length - j ∧ j ≤ u.length ∧ EnvOk 24 [] [(0, .v (.pointer (some ⟨br, 0, none⟩))), (2, .v (.pointer (some ⟨p2, 0, none⟩))), (3, .v (.pointer (some ⟨p3, 0, none⟩))), (4, .v (.int .u32 ((u.length - j : Nat) : Int)))] a_ ∧ TR w w_ br p2 p3 F A_ n_ c_ (tagsR (u.drop j) ++ rest) m_ (u.take j)) u.length
    ⟨0, none, A3, n3, c3, by omega, by omega, hE6, hT1⟩ ?_
  rintro q aq wq ⟨j, m_, A_, n_, c_, rfl, hj, hEq, hT⟩
  have hWq := WOk.start wq Nil
  refine wp_seq (go_sp [(0, .v (.pointer (some ⟨br, 0, none⟩))), (2, .v (.pointer (some ⟨p2, 0, none⟩))), (3, .v (.pointer (some ⟨p3, 0, none⟩))), (4, .v (.int .u32 ((u.length - j : Nat) : Int))), (10, .v (.bool (decide (((u.length - j : Nat) : Int) > 0))))] hWq hEq fun aq1 hE7 => ?_)
  refine cond_of hE7 (b := decide (((u.length - j : Nat) : Int) > 0)) (by kernel_rfl) (fun hc => ?_) (fun hc => ?_)
  · have hlt : j < u.length := by have := of_decide_eq_true hc; omega
    obtain ⟨⟨k, x⟩, hu⟩ : ∃ y, u[j]? = some y := ⟨_, List.getElem?_eq_getElem hlt⟩
    have hk' := hk (k, x) (List.mem_of_getElem? hu)
    have hx' := hxl (k, x) (List.mem_of_getElem? hu)
    dsimp only at hk' hx'
    have hoct := hT.oct
    rw [tagsR_drop hu rest] at hoct
    refine wp_skip (then_normal (wp_seq (wp_block ?_)))
    refine go_seq_region [0, 1, 2, 3, 4, 5] (by kernel_rfl) ?_
    refine go_rn [0] [1, 2, 3, 4, 5] [(0, .v (.pointer (some ⟨br, 0, none⟩))), (2, .v (.pointer (some ⟨p2, 0, none⟩))), (3, .v (.pointer (some ⟨p3, 0, none⟩))), (4, .v (.int .u32 ((u.length - j : Nat) : Int))), (13, .v (.pointer (some ⟨br, 0, none⟩)))] hWq hE7 fun aq2 hE8 => ?_
    refine of_op (wpOp_call hE8 (f := 118) (vs := [.pointer (some ⟨br, 0, none⟩)]) (d := 14) (by kernel_rfl) Tryd.call118 (rUvarint k.toNat (by omega) _ hT.rd hoct hFd') ?_)
    rintro e_ wa ⟨_, Aa, na, ca, rfl, hsa, hra, hsta, rfl⟩
    have hTa := hT.read hFd hsa hra hsta
    refine ⟨_, rfl, fun aq3 hE9 => ?_⟩
    refine go_rn [2] [3, 4, 5] [(0, .v (.pointer (some ⟨br, 0, none⟩))), (2, .v (.pointer (some ⟨p2, 0, none⟩))), (3, .v (.pointer (some ⟨p3, 0, none⟩))), (4, .v (.int .u32 ((u.length - j : Nat) : Int))), (14, .v (.int .u32 ((k.toNat : Nat) : Int))), (15, .v (.pointer (some ⟨br, 0, none⟩)))] (WOk.start wa Nil) hE9 fun aq4 hE10 => ?_
    refine of_op (wpOp_call hE10 (f := 118) (vs := [.pointer (some ⟨br, 0, none⟩)]) (d := 16) (by kernel_rfl) Tryd.call118 (rUvarint x.length hx' _ hTa.rd hTa.oct hFd') ?_)
    rintro e_ wb ⟨_, Ab, nb, cb, rfl, hsb, hrb, hstb, rfl⟩
    have hTb := hTa.read hFd hsb hrb hstb
    refine ⟨_, rfl, fun aq5 hE11 => ?_⟩
    refine go_rn [4, 5] [] [(0, .v (.pointer (some ⟨br, 0, none⟩))), (2, .v (.pointer (some ⟨p2, 0, none⟩))), (3, .v (.pointer (some ⟨p3, 0, none⟩))), (4, .v (.int .u32 ((u.length - j : Nat) : Int))), (5, .v (.int .u32 ((k.toNat : Nat) : Int))), (6, .v (.int .u32 ((x.length : Nat) : Int)))] (WOk.start wb Nil) hE11 fun aq6 hE12 => wpOps_nil (then_normal ?_)
    refine go_region [0, 1, 2, 3, 4, 5] (by kernel_rfl) ?_
    refine go_rn [0, 1, 2, 3] [4, 5] [(0, .v (.pointer (some ⟨br, 0, none⟩))), (2, .v (.pointer (some ⟨p2, 0, none⟩))), (3, .v (.pointer (some ⟨p3, 0, none⟩))), (4, .v (.int .u32 ((u.length - j : Nat) : Int))), (17, .v (.int .u32 ((k.toNat : Nat) : Int))), (18, .v (.pointer (some ⟨br, 0, none⟩))), (20, .v (.int .i64 (IntKind.i64.wrap ((x.length : Nat) : Int))))] (WOk.start wb Nil) hE12 fun aq7 hE13 => ?_
    rw [show IntKind.i64.wrap ((x.length : Nat) : Int) = ((x.length : Nat) : Int) by rw [i64w]; omega, show ((k.toNat : Nat) : Int) = k by omega] at hE13
    refine of_op (wpOp_call hE13 (f := 115) (vs := [.pointer (some ⟨br, 0, none⟩), .int .i64 ((x.length : Nat) : Int)]) (d := 21) (by kernel_rfl) Tryd.call115 (rSpan x _ hTb.rd hTb.oct hFd') ?_)
    rintro e_ wc ⟨_, Ac, nc, cc, rfl, hsc, hrc, hstc, Ax, rfl, hox⟩
    have hTc := hTb.read hFd hsc hrc hstc
    refine ⟨_, rfl, fun aq8 hE14 => ?_⟩
    refine of_op (wpOp_call hE14 (f := 119) (vs := [.pointer (some ⟨p3, 0, none⟩), .int .u32 k, .slice Ax x.length x.length]) (d := 22) (by kernel_rfl) Tryd.call119 (hTc.set hsort hu hox hk') ?_)
    rintro e_ wd ⟨rfl, r, hTd⟩
    refine ⟨_, rfl, fun aq9 hE15 => wpOps_nil (block_normal (then_normal ?_))⟩
    refine go_region [0, 1, 2] (by kernel_rfl) (go_rn [0, 1, 2] [] [(0, .v (.pointer (some ⟨br, 0, none⟩))), (2, .v (.pointer (some ⟨p2, 0, none⟩))), (3, .v (.pointer (some ⟨p3, 0, none⟩))), (4, .v (.int .u32 (IntKind.u32.wrap (((u.length - j : Nat) : Int) - 1))))] (WOk.start wd Nil) hE15 fun aqa hE16 => wpOps_nil (then_normal ?_))
    rw [show IntKind.u32.wrap (((u.length - j : Nat) : Int) - 1) = ((u.length - (j + 1) : Nat) : Int) by rw [wrap_u32]; omega] at hE16
    exact ⟨u.length - (j + 1), by omega, j + 1, some r, Ac, nc, cc, rfl, by omega, hE16, hTd⟩
  · obtain rfl : j = u.length := by have := of_decide_eq_false hc; omega
    refine wp_exit (then_exit (then_exit (block_exit (then_normal ?_))))
    rw [List.take_length, List.drop_length] at hT
    have hT' : TR w wq br p2 p3 F A_ n_ c_ rest m_ u := hT
    have h2 := hT'.new2
    have h3 := hT'.new3
    have hW9 : WOk w (RdM br) wq ([] ++ [⟨p3, 0, [.map m_], true⟩] ++ [⟨p2, 0, [.map none], true⟩]) [] := by
      have hb : WOk w (RdM br) wq [] [] := ⟨hT'.step, fun i o hi => by simp at hi, fun i o hi => by simp at hi, fun i o hi => by simp at hi, fun i j o o' _ hi => by simp at hi, fun i r hi => by simp at hi, fun i r hi => by simp at hi, fun i r hi => by simp at hi, fun i j r r' _ hi => by simp at hi⟩
      have h4 := hb.add ⟨p3, 0, [.map m_], true⟩ (World.lt_of_cell (hT'.s3.at_ 0 _ rfl)) (fun j v hj => by rw [Nat.zero_add]; exact hT'.s3.at_ j v hj) (fun _ j hj => ⟨.inl h3, by rw [Nat.zero_add]; exact hT'.s3.frz j hj⟩) (fun i o hi => by simp at hi) (fun i r hi => by simp at hi)
      refine h4.add ⟨p2, 0, [.map none], true⟩ (World.lt_of_cell (hT'.s2.at_ 0 _ rfl)) (fun j v hj => by rw [Nat.zero_add]; exact hT'.s2.at_ j v hj) (fun _ j hj => ⟨.inl h2, by rw [Nat.zero_add]; exact hT'.s2.frz j hj⟩) (fun i o hi _ => .inl ?_) (fun i r hi => by simp at hi)
      have : o = ⟨p3, 0, [.map m_], true⟩ := by
        have hm := List.mem_of_getElem? hi
        simpa using hm
      rw [this]
      exact fun e => hT'.ne e.symm
    have hE17 := (((hE7.retable [⟨p3, 0, [.map m_], true⟩, ⟨p2, 0, [.map none], true⟩]).recast 3 (.v (.pointer (some ⟨p3, 0, none⟩))) (.p 0 0) rfl rfl (Nat.le_of_ble_eq_true (n := 1) rfl)).recast 2 (.v (.pointer (some ⟨p2, 0, none⟩))) (.p 1 0) rfl rfl (Nat.le_of_ble_eq_true (n := 2) rfl))
    have hE18 : EnvOk 24 [⟨p3, 0, [.map m_], true⟩, ⟨p2, 0, [.map none], true⟩] [(2, .p 1 0), (3, .p 0 0)] _ := hE17.pk
    refine go_seq_region [0, 1] (by kernel_rfl) ?_
    refine go_rn [0] [1] [(2, .p 1 0), (23, .v (.agg #[.map m_]))] hW9 hE18 fun aqb hE19 => ?_
    refine of_op (wpOp_store hW9 hE19 (oi := 1) (cs := [.map m_]) (by kernel_rfl) fun wz hFz hWz hEz => wpOps_nil (then_normal (wp_ret ?_)))
    have hsz := hT'.step.size
    have hstz : Step wq wz (fun b o => b = p2 ∨ b = p3) := hFz.step.mono fun b o _ ha => by
      rcases ha with ⟨i, ob, hi, _, rfl, _⟩ | ⟨i, r, hi, _⟩
      · have hm := List.mem_of_getElem? hi
        simp only [List.nil_append, List.cons_append, List.mem_cons, List.not_mem_nil, or_false] at hm
        rcases hm with rfl | rfl
        · exact .inr rfl
        · exact .inl rfl
      · simp at hi
    obtain ⟨m2, m3⟩ := hT'.mne
    refine leave hEz hWz.cells (v := .agg #[.map m_]) (by kernel_rfl) ⟨_, A_, n_, c_, rfl, hT'.rd.move hstz (fun o e => ?_), hT'.oct.move hstz (fun b o hg _ e => ?_) (fun b o hg _ => .inl hg.1), hWz.step, m_, rfl, ?_⟩
    · have := hT'.old; rcases e with e | e <;> omega
    · have := hg.2; rcases e with e | e <;> omega
    · refine (hT'.own.move hstz (fun b o hg _ e => ?_) keepF (fun r o e he => ?_)).map (fun b o h => .inl h.1) (fun r o e => .inr (hT'.new r e)) hsort hk
      · have := hg.2; rcases e with e | e <;> omega
      · rcases he with he | he
        · exact m2 (by rw [e, he])
        · exact m3 (by rw [e, he])

end Go.Proofs.YthfdlmnfjcpioaaDoor.ME

/- Contracts: printed by tools/sp.py. Own work. -/
namespace Go.Proofs.YthfdlmnfjcpioaaDoor.ME
open Go
set_option linter.unusedVariables false
set_option linter.unusedSimpArgs false
set_option maxRecDepth 20000

theorem lFits3 (k : Int) (A : Option Addr) (m c : Nat) (w : World) : Calls Tryd.prog 63 #[.agg #[.int .u32 k, .slice A m c]] w (GivesB w) := by
  refine enter (n := 7) Tryd.func63 rfl Tryd.ntmps63 (by kernel_rfl) fun a hE => ?_
  have hW := WOk.start w Nil
  refine go_seq_region [0, 1] (by kernel_rfl) ?_
  refine of_op (wpOp_box hW hE (d := 1) (cs := [.int .u32 k, .slice A m c]) (by kernel_rfl) fun b1 a2 w3 hb4 hz5 hF6 hW7 hE8 => ?_)
  clear hE hW
  refine go_rn [1] [] [(1, .p 0 0)] hW7 hE8 fun a9 hE10 => ?_
  clear hE8
  refine wpOps_nil ?_
  refine then_normal ?_
  refine wp_seq ?_
  refine go_sp [(6, .v (.bool (decide (((m : Nat) : Int) > 2147483647))))] hW7 hE10 fun a11 hE12 => ?_
  clear hE10
  refine cond_of hE12 (b := decide (((m : Nat) : Int) > 2147483647)) (by kernel_rfl) (fun hc13 => ?_) (fun hc13 => ?_)
  ·
    have hf14 := of_decide_eq_true hc13
    refine go_sp [(2, .v (.bool false))] hW7 hE12 fun a15 hE16 => ?_
    clear hE12
    refine wp_ret ?_
    refine then_ret ?_
    refine leave hE16 hW7.cells (v := .bool false) (by kernel_rfl) ?_
    exact ⟨_, rfl, hW7.step⟩
  ·
    have hf17 := of_decide_eq_false hc13
    refine wp_skip ?_
    refine then_normal ?_
    refine go_sp [(2, .v (.bool true))] hW7 hE12 fun a18 hE19 => ?_
    clear hE12
    refine wp_ret ?_
    refine leave hE19 hW7.cells (v := .bool true) (by kernel_rfl) ?_
    exact ⟨_, rfl, hW7.step⟩

theorem lFits2 (A : Option Addr) (c : Nat) (u : List (Int × Bs)) (w : World) (F : Nat → Nat → Prop) (hu : TagsR w F A c u) : Calls Tryd.prog 30 #[.slice A u.length c] w (GivesB w) := by
  obtain ⟨xu, h1, h2⟩ := hu.ex
  have hsm := h1.small
  refine enter (n := 18) Tryd.func30 rfl Tryd.ntmps30 (by kernel_rfl) fun a hE => ?_
  have hW := WOk.start w Nil
  refine go_sp [(0, .v (.slice A u.length c))] hW hE fun a1 hE2 => ?_
  clear hE
  refine wp_seq ?_
  refine go_sp [(0, .v (.slice A u.length c)), (7, .v (.bool (decide (((u.length : Nat) : Int) > 2147483647))))] hW hE2 fun a3 hE4 => ?_
  clear hE2
  refine cond_of hE4 (b := decide (((u.length : Nat) : Int) > 2147483647)) (by kernel_rfl) (fun hc5 => ?_) (fun hc5 => ?_)
  ·
    have hf6 := of_decide_eq_true hc5
    refine go_sp [(2, .v (.bool false))] hW hE4 fun a7 hE8 => ?_
    clear hE4
    refine wp_ret ?_
    refine then_ret ?_
    refine leave hE8 hW.cells (v := .bool false) (by kernel_rfl) ?_
    exact ⟨_, rfl, hW.step⟩
  ·
    have hf9 := of_decide_eq_false hc5
    refine wp_skip ?_
    refine then_normal ?_
    refine wp_seq ?_
    refine go_sp [(8, .v (.slice A u.length c)), (9, .v (.int .i64 ((u.length : Nat) : Int))), (10, .v (.int .i64 0))] hW hE4 fun a10 hE11 => ?_
    clear hE4
    refine wp_block ?_
    refine wp_loop_ghost (fun n_ a_ w_ => ∃ (k : Nat), n_ = u.length - k ∧ k ≤ u.length ∧ LInv hW 18 [] [] [(8, .v (.slice A u.length c)), (9, .v (.int .i64 ((u.length : Nat) : Int))), (10, .v (.int .i64 ((k : Nat) : Int)))] a_ w_) (u.length) ⟨0, by omega, by omega, hE11.pk, hW, Fr.refl _ _ _⟩ ?_
    clear hE11
    rintro n12 a13 w14 ⟨k, hn17, hk18, hE15, hW16, hF19⟩
    refine go_sp [(8, .v (.slice A u.length c)), (9, .v (.int .i64 ((u.length : Nat) : Int))), (10, .v (.int .i64 ((k : Nat) : Int))), (11, .v (.bool (decide (((k : Nat) : Int) < ((u.length : Nat) : Int)))))] hW16 hE15 fun a20 hE21 => ?_
    clear hE15
    refine wp_seq ?_
    refine cond_of hE21 (b := decide (((k : Nat) : Int) < ((u.length : Nat) : Int))) (by kernel_rfl) (fun hc22 => ?_) (fun hc22 => ?_)
    ·
      have hf23 := of_decide_eq_true hc22
      refine wp_skip ?_
      refine then_normal ?_
      refine wp_seq ?_
      refine wp_block ?_
      refine go_seq_region [0, 1, 2, 3] (by kernel_rfl) ?_
      obtain ⟨b24, o25, hA26, hl27, hat28⟩ := Slots.get h1 (i := k) (by omega)
      obtain ⟨⟨k29, s30⟩, he31⟩ : ∃ x, u[k]? = some x := ⟨_, List.getElem?_eq_getElem (by omega)⟩
      obtain ⟨⟨A32, c33, hcs34, hb35⟩, h36, h37⟩ := h2 k k29 s30 he31
      rw [hcs34] at hat28
      refine of_op (wpOp_index hE21 (t := 24) (A := A) (m := u.length) (q := ((k : Nat) : Int)) (d := 12) (by kernel_rfl) (e := 70) (size := 2) (bytes := 32) (by kernel_rfl) hA26 rfl (by omega) fun a38 hE39 => ?_)
      clear hE21
      refine of_op (wpOp_load hE39 (t := 70) (b := b24) (o := o25 + k * 2) (d := 13) (by kernel_rfl) (cs := [.int .u32 k29, .slice A32 s30.length c33]) (v := .agg #[.int .u32 k29, .slice A32 s30.length c33]) (by kernel_rfl) (AtF.move hat28 hW16.step nilM keepF).at_ fun a40 hE41 => ?_)
      clear hE39
      refine of_op (wpOp_alloc hW16 hE41 (d := 4) (cs := [.int .u32 0, .slice none 0 0]) (by kernel_rfl) fun b42 a43 w44 hb45 hz46 hF47 hW48 hE49 => ?_)
      clear hE41 hW16
      refine of_op (wpOp_store hW48 hE49 (oi := 0) (cs := [.int .u32 k29, .slice A32 s30.length c33]) (by kernel_rfl) fun w50 hF51 hW52 hE53 => ?_)
      clear hE49 hW48
      refine wpOps_nil ?_
      refine then_normal ?_
      refine go_seq_region [0, 1, 2] (by kernel_rfl) ?_
      refine go_rn [0] [1, 2] [(8, .v (.slice A u.length c)), (9, .v (.int .i64 ((u.length : Nat) : Int))), (10, .v (.int .i64 ((k : Nat) : Int))), (14, .v (.agg #[.int .u32 k29, .slice A32 s30.length c33]))] hW52 hE53 fun a54 hE55 => ?_
      clear hE53
      refine of_op (wpOp_call hE55 (f := 63) (vs := [.agg #[.int .u32 k29, .slice A32 s30.length c33]]) (d := 15) (by kernel_rfl) Tryd.call63 (lFits3 _ _ _ _ _) ?_)
      rintro e_ w58 ⟨b57, rfl, hs56⟩
      refine ⟨_, rfl, fun a59 hE60 => ?_⟩
      have hW61 := hW52.next_nil hs56
      have hF62 := hW52.frN hs56
      clear hE55 hW52
      refine go_rn [2] [] [(8, .v (.slice A u.length c)), (9, .v (.int .i64 ((u.length : Nat) : Int))), (10, .v (.int .i64 ((k : Nat) : Int))), (16, .v (.bool (!b57)))] hW61 hE60 fun a63 hE64 => ?_
      clear hE60
      refine wpOps_nil ?_
      refine then_normal ?_
      refine cond_of hE64 (b := !b57) (by kernel_rfl) (fun hc65 => ?_) (fun hc65 => ?_)
      ·
        refine go_sp [(2, .v (.bool false))] hW61 hE64 fun a67 hE68 => ?_
        clear hE64
        refine wp_ret ?_
        refine block_ret ?_
        refine then_ret ?_
        refine then_ret ?_
        refine block_ret ?_
        refine then_ret ?_
        refine leave hE68 hW61.cells (v := .bool false) (by kernel_rfl) ?_
        exact ⟨_, rfl, hW61.step⟩
      ·
        refine wp_skip ?_
        refine block_normal ?_
        refine then_normal ?_
        refine go_region [0, 1] (by kernel_rfl) ?_
        refine go_rn [0, 1] [] [(8, .v (.slice A u.length c)), (9, .v (.int .i64 ((u.length : Nat) : Int))), (10, .v (.int .i64 (IntKind.i64.wrap (((k : Nat) : Int) + 1))))] hW61 hE64 fun a70 hE71 => ?_
        clear hE64
        refine wpOps_nil ?_
        refine then_normal ?_
        obtain ⟨hE72, hW73, hF74⟩ := hW61.cutB hE71 0 [] [(8, .v (.slice A u.length c)), (9, .v (.int .i64 ((u.length : Nat) : Int))), (10, .v (.int .i64 (IntKind.i64.wrap (((k : Nat) : Int) + 1))))]
        have he75 : IntKind.i64.wrap (((k : Nat) : Int) + 1) = ((k + 1 : Nat) : Int) := wrap_succ (by omega)
        rw [he75] at hE72
        exact ⟨u.length - (k + 1), by omega, k + 1, rfl, by omega, hE72.pk, hW73, (Fr.trans (Fr.trans (Fr.trans (Fr.trans hF19 hF47) hF51) hF62) hF74)⟩
    ·
      have hf76 := of_decide_eq_false hc22
      refine wp_exit ?_
      refine then_exit ?_
      refine then_exit ?_
      refine block_exit ?_
      refine then_normal ?_
      refine go_sp [(2, .v (.bool true))] hW16 hE21 fun a77 hE78 => ?_
      clear hE21
      refine wp_ret ?_
      refine leave hE78 hW16.cells (v := .bool true) (by kernel_rfl) ?_
      exact ⟨_, rfl, hW16.step⟩

theorem lFits1 (ct : List Value) (t : Tree) (w : World) (F : Nat → Nat → Prop) (ht : TreeR w F ct t) : Calls Tryd.prog 8 #[.agg ct.toArray] w (GivesB w) := by
  obtain ⟨n1, s2, b3, l4, u5, A6, c7, A8, c9, A10, c11, xs12, rfl, rfl, h14, h15, h16, h17⟩ := ht.open_
  have hsm19 := h14.small
  have hsm20 := h15.small
  refine enter (n := 15) Tryd.func8 rfl Tryd.ntmps8 (by kernel_rfl) fun a hE => ?_
  have hW := WOk.start w Nil
  refine go_seq_region [0, 1] (by kernel_rfl) ?_
  refine of_op (wpOp_box hW hE (d := 1) (cs := [.int .i64 n1, .slice A6 s2.length c7, .bool b3, .slice A8 l4.length c9, .slice A10 u5.length c11]) (by kernel_rfl) fun b21 a22 w23 hb24 hz25 hF26 hW27 hE28 => ?_)
  clear hE hW
  refine go_rn [1] [] [(1, .p 0 0)] hW27 hE28 fun a29 hE30 => ?_
  clear hE28
  refine wpOps_nil ?_
  refine then_normal ?_
  refine wp_seq ?_
  refine go_sp [(1, .p 0 0), (6, .v (.bool (decide (((s2.length : Nat) : Int) > 2147483647))))] hW27 hE30 fun a31 hE32 => ?_
  clear hE30
  refine cond_of hE32 (b := decide (((s2.length : Nat) : Int) > 2147483647)) (by kernel_rfl) (fun hc33 => ?_) (fun hc33 => ?_)
  ·
    have hf34 := of_decide_eq_true hc33
    refine go_sp [(2, .v (.bool false))] hW27 hE32 fun a35 hE36 => ?_
    clear hE32
    refine wp_ret ?_
    refine then_ret ?_
    refine leave hE36 hW27.cells (v := .bool false) (by kernel_rfl) ?_
    exact ⟨_, rfl, hW27.step⟩
  ·
    have hf37 := of_decide_eq_false hc33
    refine wp_skip ?_
    refine then_normal ?_
    refine wp_seq ?_
    refine go_sp [(1, .p 0 0), (10, .v (.bool (decide (((l4.length : Nat) : Int) > 2147483647))))] hW27 hE32 fun a38 hE39 => ?_
    clear hE32
    refine cond_of hE39 (b := decide (((l4.length : Nat) : Int) > 2147483647)) (by kernel_rfl) (fun hc40 => ?_) (fun hc40 => ?_)
    ·
      have hf41 := of_decide_eq_true hc40
      refine go_sp [(2, .v (.bool false))] hW27 hE39 fun a42 hE43 => ?_
      clear hE39
      refine wp_ret ?_
      refine then_ret ?_
      refine leave hE43 hW27.cells (v := .bool false) (by kernel_rfl) ?_
      exact ⟨_, rfl, hW27.step⟩
    ·
      have hf44 := of_decide_eq_false hc40
      refine wp_skip ?_
      refine then_normal ?_
      refine wp_seq ?_
      refine go_seq_region [0, 1, 2, 3] (by kernel_rfl) ?_
      refine go_rn [0, 1] [2, 3] [(12, .v (.slice A10 u5.length c11))] hW27 hE39 fun a45 hE46 => ?_
      clear hE39
      refine of_op (wpOp_call hE46 (f := 30) (vs := [.slice A10 u5.length c11]) (d := 13) (by kernel_rfl) Tryd.call30 (lFits2 _ _ u5 _ _ (h17.move hW27.step nilM hW27.imm)) ?_)
      rintro e_ w49 ⟨b48, rfl, hs47⟩
      refine ⟨_, rfl, fun a50 hE51 => ?_⟩
      have hW52 := hW27.next_nil hs47
      have hF53 := hW27.frN hs47
      clear hE46 hW27
      refine go_rn [3] [] [(14, .v (.bool (!b48)))] hW52 hE51 fun a54 hE55 => ?_
      clear hE51
      refine wpOps_nil ?_
      refine then_normal ?_
      refine cond_of hE55 (b := !b48) (by kernel_rfl) (fun hc56 => ?_) (fun hc56 => ?_)
      ·
        refine go_sp [(2, .v (.bool false))] hW52 hE55 fun a58 hE59 => ?_
        clear hE55
        refine wp_ret ?_
        refine then_ret ?_
        refine leave hE59 hW52.cells (v := .bool false) (by kernel_rfl) ?_
        exact ⟨_, rfl, hW52.step⟩
      ·
        refine wp_skip ?_
        refine then_normal ?_
        refine go_sp [(2, .v (.bool true))] hW52 hE55 fun a61 hE62 => ?_
        clear hE55
        refine wp_ret ?_
        refine leave hE62 hW52.cells (v := .bool true) (by kernel_rfl) ?_
        exact ⟨_, rfl, hW52.step⟩

theorem lVersion (x m : Int) (hx : 0 ≤ x) (hx' : x < 256) (hm : 0 ≤ m) (hm' : m < 32768) (w : World) : Calls Tryd.prog 11 #[.int .u8 x, .int .i64 m] w (Gives w (.int .i64 (Int.tmod x (m + 1)))) := by
  refine enter (n := 10) Tryd.func11 rfl Tryd.ntmps11 (by kernel_rfl) fun a hE => ?_
  have hW := WOk.start w Nil
  refine go_sp [(0, .v (.int .u8 x)), (1, .v (.int .i64 m))] hW hE fun a1 hE2 => ?_
  clear hE
  refine go_seq_region [0, 1, 2, 3, 4, 5] (by kernel_rfl) ?_
  refine go_rn [0, 1, 2, 3] [4, 5] [(6, .v (.int .i64 (IntKind.i64.wrap x))), (8, .v (.int .i64 (IntKind.i64.wrap (m + 1))))] hW hE2 fun a3 hE4 => ?_
  clear hE2
  refine of_op (wpOp_rem hE4 (k := .i64) (p := (IntKind.i64.wrap x)) (q := (IntKind.i64.wrap (m + 1))) (d := 9) (by kernel_rfl) (by simp only [IntKind.wrap_i64]; omega) fun a5 hE6 => ?_)
  clear hE4
  refine go_rn [5] [] [(4, .v (.int .i64 (Int.tmod (IntKind.i64.wrap x) (IntKind.i64.wrap (m + 1)))))] hW hE6 fun a7 hE8 => ?_
  clear hE6
  refine wpOps_nil ?_
  refine then_normal ?_
  refine wp_ret ?_
  refine leave hE8 hW.cells (v := .int .i64 (Int.tmod (IntKind.i64.wrap x) (IntKind.i64.wrap (m + 1)))) (by kernel_rfl) ?_
  exact ⟨by rw [wrap_i64 (by omega) (by omega), wrap_i64 (by omega) (by omega)], hW.step⟩

end Go.Proofs.YthfdlmnfjcpioaaDoor.ME

/- Printed by tools/mk.py. Own work. -/
namespace Go.Proofs.YthfdlmnfjcpioaaDoor.ME
open Go
open Go.RowKit
set_option linter.unusedVariables false
set_option linter.unusedSimpArgs false
set_option maxRecDepth 20000

theorem mvUpdateMetadataResponse : Moves okUpdateMetadataResponse := by
  intro w w' F F' M d hs hM hF h
  unfold okUpdateMetadataResponse at h ⊢
  obtain ⟨g0, t1, t2, t3, _⟩ := h
  exact ⟨g0, t1.move hs hM hF, t2, t3, trivial⟩

def rvUpdateMetadataResponse (v : Int) (D : DV) (T : Tree) : Prop := ((D.f 0).n = IntKind.i16.wrap (T.at_ 0).N) ∧ (v ≥ 6 → D.u = T.U) ∧ True
theorem rdUpdateMetadataResponse (v : Int) (T : Tree) {bv : Nat} {A : Option Addr} {c : Nat} {w : World} {F : Nat → Nat → Prop} (hst : Str w bv [.int .i16 v, .int .i16 0, .map none]) (ho : Octs w F A c (tUpdateMetadataResponse v T)) (hFd : ∀ b o, F b o → ¬ (b = bv ∧ o < 3)) (hc : canUpdateMetadataResponse T) (hkey : ∀ x ∈ T.U, 0 ≤ x.1 ∧ x.1 < 4294967296) :
    Calls Tryd.prog 77 #[.pointer (some ⟨bv, 0, none⟩), .slice A (tUpdateMetadataResponse v T).length c, .bool false] w (fun e w' => ∃ D : DV, e = .returned .nilIface ∧ Str w' bv [.int .i16 v, .int .i16 ((D.f 0).n), .map D.m] ∧ okUpdateMetadataResponse w' (Fp F w) D ∧ rvUpdateMetadataResponse v D T ∧ Step w w' (fun b o => b = bv ∧ o < 3)) := by
  unfold canUpdateMetadataResponse at hc
  obtain ⟨c0_, cU, _⟩ := hc
  have hrd : RdS w F A (tUpdateMetadataResponse v T).length c ((be 2 ((IntKind.i16.wrap (T.at_ 0).N))) ++ ((if (decide (v ≥ 6)) = true then (uv T.U.length) ++ (tagsR T.U) else []) ++ [])) := ⟨rfl, ho⟩
  have hbv : bv < w.heap.size := World.lt_of_cell (hst.at_ 0 _ rfl)
  refine enter (n := 36) Tryd.func77 rfl Tryd.ntmps77 (by kernel_rfl) fun a hE => ?_
  have hW := WOk.startStr hst
  have hE1 := (hE.grow ⟨bv, 0, [.int .i16 v, .int .i16 0, .map none], true⟩).recast 0 (.v (.pointer (some ⟨bv, 0, none⟩))) (.p 0 0) rfl rfl (Nat.le_of_ble_eq_true (n := 1) rfl)
  refine go_sp [(0, .p 0 0), (1, .v (.slice A ((tUpdateMetadataResponse v T).length) c))] hW hE1 fun a1 hE2 => ?_
  clear hE1
  refine go_seq_region [0, 1] (by kernel_rfl) ?_
  refine go_rn [0] [1] [(0, .p 0 0), (1, .v (.slice A ((tUpdateMetadataResponse v T).length) c)), (12, .p 0 0)] hW hE2 fun a3 hE4 => ?_
  clear hE2
  refine of_op (wpOp_inline hE4 (f := 76) (vs := [.pointer (some ⟨bv, 0, none⟩)]) (d := 13) (n' := 2) (by kernel_rfl) Tryd.call76 Tryd.func76 rfl Tryd.ntmps76 (by kernel_rfl) fun a5 hE6 => ?_)
  have hE7 := hE6.recast 0 (.v (.pointer (some ⟨bv, 0, none⟩))) (.p 0 0) rfl rfl (Nat.le_of_ble_eq_true (n := 1) rfl)
  refine wp_skip ?_
  refine leave_end hE7 hW.cells (v := .tuple #[]) (by kernel_rfl) ?_
  refine ⟨_, rfl, fun a8 hE9 => ?_⟩
  have hE10 : EnvOk 36 [⟨bv, 0, [.int .i16 v, .int .i16 0, .map none], true⟩] [(13, .v (.tuple #[])), (0, .p 0 0), (1, .v (.slice A ((tUpdateMetadataResponse v T).length) c)), (12, .p 0 0)] _ := hE9.places (⟨rfl, rfl, trivial⟩)
  refine wpOps_nil ?_
  refine then_normal ?_
  refine go_seq_region [0, 1, 2, 3] (by kernel_rfl) ?_
  refine go_rn [0, 1] [2, 3] [(0, .p 0 0), (15, .v (.agg #[.slice A ((tUpdateMetadataResponse v T).length) c, .bool false]))] hW hE10 fun a11 hE12 => ?_
  clear hE10
  refine of_op (wpOp_alloc hW hE12 (d := 7) (cs := [.slice none 0 0, .bool false]) (by kernel_rfl) fun b13 a14 w15 hb16 hz17 hF18 hW19 hE20 => ?_)
  clear hE12 hW
  refine of_op (wpOp_store hW19 hE20 (oi := 1) (cs := [.slice A ((tUpdateMetadataResponse v T).length) c, .bool false]) (by kernel_rfl) fun w21 hF22 hW23 hE24 => ?_)
  clear hE20 hW19
  refine wpOps_nil ?_
  refine then_normal ?_
  refine go_sp [(0, .p 0 0), (7, .p 1 0), (8, .v (.int .i16 v))] hW23 hE24 fun a25 hE26 => ?_
  clear hE24
  refine go_sp [(0, .p 0 0), (7, .p 1 0), (8, .v (.int .i16 v))] hW23 hE26 fun a27 hE28 => ?_
  clear hE26
  refine go_sp [(0, .p 0 0), (7, .p 1 0), (9, .v (.bool (decide (v ≥ 6))))] hW23 hE28 fun a29 hE30 => ?_
  clear hE28
  refine go_sp [(0, .p 0 0), (7, .p 1 0), (9, .v (.bool (decide (v ≥ 6))))] hW23 hE30 fun a31 hE32 => ?_
  clear hE30
  refine go_sp [(7, .p 1 0), (9, .v (.bool (decide (v ≥ 6)))), (10, .p 0 0)] hW23 hE32 fun a33 hE34 => ?_
  clear hE32
  refine wp_seq ?_
  refine go_seq_region [0, 1] (by kernel_rfl) ?_
  refine of_op (wpOp_call hE34 (f := 97) (vs := [.pointer (some ⟨b13, 0, none⟩)]) (d := 25) (by kernel_rfl) Tryd.call97 (rInt16 ((IntKind.i16.wrap (T.at_ 0).N)) ((if (decide (v ≥ 6)) = true then (uv T.U.length) ++ (tagsR T.U) else []) ++ []) (Str.of hW23 1 rfl) (hrd.move hW23.step (fun b_ o_ h_ _ => hFd b_ o_ h_) (hW23.immM hFd)) (imm_rd 1 rfl)) ?_)
  rintro e_ w35 ⟨_, A36, n37, c38, rfl, hs39, hr40, hst41, rfl⟩
  obtain ⟨hW43, hF44, hl48⟩ := hW23.wrote 1 [⟨bv, 0, [.int .i16 v, .int .i16 0, .map none], true⟩, ⟨b13, 0, [.slice A36 n37 c38, .bool false], true⟩] rfl hst41 hs39
  have hr49 := hr40.move (Step.refl _ Nil) nilM (fun b_ o_ h_ _ => hF44.to b_ o_ h_)
  refine ⟨_, rfl, fun a45 hE46 => ?_⟩
  have hE47 : EnvOk 36 [⟨bv, 0, [.int .i16 v, .int .i16 0, .map none], true⟩, ⟨b13, 0, [.slice A36 n37 c38, .bool false], true⟩] [(25, .v (.int .i16 (IntKind.i16.wrap ((IntKind.i16.wrap (T.at_ 0).N))))), (7, .p 1 0), (9, .v (.bool (decide (v ≥ 6)))), (10, .p 0 0)] _ := hE46.places (⟨rfl, rfl, ⟨rfl, rfl, trivial⟩⟩)
  clear hE34
  refine go_rn [1] [] [(7, .p 1 0), (9, .v (.bool (decide (v ≥ 6)))), (10, .p 0 0), (11, .v (.int .i16 (IntKind.i16.wrap ((IntKind.i16.wrap (T.at_ 0).N)))))] hW43 hE47 fun a50 hE51 => ?_
  clear hE47
  refine wpOps_nil ?_
  refine then_normal ?_
  refine go_region [0, 1, 2, 3, 4] (by kernel_rfl) ?_
  refine go_rn [0, 1, 2, 3] [4] [(7, .p 1 0), (9, .v (.bool (decide (v ≥ 6)))), (10, .p 0 0), (27, .v (.int .i16 (IntKind.i16.wrap ((IntKind.i16.wrap (T.at_ 0).N))))), (29, .p 0 1)] hW43 hE51 fun a52 hE53 => ?_
  clear hE51
  refine of_op (wpOp_store hW43 hE53 (oi := 0) (cs := [.int .i16 v, .int .i16 (IntKind.i16.wrap ((IntKind.i16.wrap (T.at_ 0).N))), .map none]) (by kernel_rfl) fun w54 hF55 hW56 hE57 => ?_)
  clear hE53 hW43
  refine wpOps_nil ?_
  refine then_normal ?_
  refine wp_seq ?_
  refine go_sp [(7, .p 1 0), (10, .p 0 0), (30, .v (.bool (decide (v ≥ 6))))] hW56 hE57 fun a58 hE59 => ?_
  clear hE57
  refine cond_of hE59 (b := decide (v ≥ 6)) (by kernel_rfl) (fun hc60 => ?_) (fun hc60 => ?_)
  ·
    have hf61 := of_decide_eq_true hc60
    have hr62 := RdS.cast (t := (uv T.U.length) ++ ((tagsR T.U) ++ [])) (hr49.move hF55.step immM hF55.to') (by rw [if_pos hc60]; simp only [List.append_assoc])
    refine go_region [0, 1, 2, 3, 4] (by kernel_rfl) ?_
    refine go_rn [0] [1, 2, 3, 4] [(7, .p 1 0), (31, .p 0 0)] hW56 hE59 fun a63 hE64 => ?_
    clear hE59
    refine of_op (wpOp_call hE64 (f := 100) (vs := [.pointer (some ⟨b13, 0, none⟩)]) (d := 32) (by kernel_rfl) Tryd.call100 (rTags T.U ([]) cU.1 hkey cU.2.1 cU.2.2 (Str.of hW56 1 rfl) (hr62.cast (by simp only [List.append_assoc])) (imm_rd 1 rfl)) ?_)
    rintro e_ w65 ⟨_, A66, n67, c68, rfl, hs69, hr70, hst71, mm78, rfl, hm79⟩
    obtain ⟨hW73, hF74, hl80⟩ := hW56.wrote 1 [⟨bv, 0, [.int .i16 v, .int .i16 (IntKind.i16.wrap ((IntKind.i16.wrap (T.at_ 0).N))), .map none], true⟩, ⟨b13, 0, [.slice A66 n67 c68, .bool false], true⟩] rfl hst71 hs69
    have hr81 := hr70.move (Step.refl _ Nil) nilM hl80
    refine ⟨_, rfl, fun a75 hE76 => ?_⟩
    have hE77 : EnvOk 36 [⟨bv, 0, [.int .i16 v, .int .i16 (IntKind.i16.wrap ((IntKind.i16.wrap (T.at_ 0).N))), .map none], true⟩, ⟨b13, 0, [.slice A66 n67 c68, .bool false], true⟩] [(32, .v (.agg #[.map mm78])), (7, .p 1 0), (31, .p 0 0)] _ := hE76.places (⟨rfl, rfl, ⟨rfl, rfl, trivial⟩⟩)
    clear hE64
    have hm82 := hm79.move (Step.refl _ Nil) nilM hl80
    refine go_rn [2, 3] [4] [(7, .p 1 0), (32, .v (.agg #[.map mm78])), (34, .p 0 2)] hW73 hE77 fun a83 hE84 => ?_
    clear hE77
    refine of_op (wpOp_store hW73 hE84 (oi := 0) (cs := [.int .i16 v, .int .i16 (IntKind.i16.wrap ((IntKind.i16.wrap (T.at_ 0).N))), .map mm78]) (by kernel_rfl) fun w85 hF86 hW87 hE88 => ?_)
    clear hE84 hW73
    refine wpOps_nil ?_
    refine then_normal ?_
    refine go_seq_region [0, 1] (by kernel_rfl) ?_
    refine of_op (wpOp_call hE88 (f := 94) (vs := [.pointer (some ⟨b13, 0, none⟩)]) (d := 35) (by kernel_rfl) Tryd.call94 (rComplete (Str.of hW87 1 rfl)) ?_)
    rintro e_ _ ⟨rfl, rfl⟩
    refine ⟨_, rfl, fun a89 hE90 => ?_⟩
    clear hE88
    refine go_rn [1] [] [(6, .v (.nilIface))] hW87 hE90 fun a91 hE92 => ?_
    clear hE90
    refine wpOps_nil ?_
    refine then_normal ?_
    refine wp_ret ?_
    refine leave hE92 hW87.cells (v := .nilIface) (by kernel_rfl) ?_
    refine ⟨dvP mm78 T.U [dvN (IntKind.i16.wrap ((IntKind.i16.wrap (T.at_ 0).N)))], rfl, Str.of hW87 0 rfl, ?_, ?_, hW87.step⟩
    · unfold okUpdateMetadataResponse
      exact ⟨trivial, ((hm82.move hF86.step immM hF86.to').move (Step.refl _ Nil) nilM immOut), cU.2.1, cU.2.2, trivial⟩
    · unfold rvUpdateMetadataResponse
      exact ⟨by show IntKind.i16.wrap ((IntKind.i16.wrap (T.at_ 0).N)) = _; simp only [ww16, ww32, ww8], fun _ => rfl, trivial⟩
  ·
    have hf93 := of_decide_eq_false hc60
    have hr94 := RdS.cast (t := []) (hr49.move hF55.step immM hF55.to') (by rw [if_neg (by rw [hc60]; decide)]; rfl)
    refine wp_skip ?_
    refine then_normal ?_
    refine go_seq_region [0, 1] (by kernel_rfl) ?_
    refine of_op (wpOp_call hE59 (f := 94) (vs := [.pointer (some ⟨b13, 0, none⟩)]) (d := 35) (by kernel_rfl) Tryd.call94 (rComplete (Str.of hW56 1 rfl)) ?_)
    rintro e_ _ ⟨rfl, rfl⟩
    refine ⟨_, rfl, fun a95 hE96 => ?_⟩
    clear hE59
    refine go_rn [1] [] [(6, .v (.nilIface))] hW56 hE96 fun a97 hE98 => ?_
    clear hE96
    refine wpOps_nil ?_
    refine then_normal ?_
    refine wp_ret ?_
    refine leave hE98 hW56.cells (v := .nilIface) (by kernel_rfl) ?_
    refine ⟨dvP none [] [dvN (IntKind.i16.wrap ((IntKind.i16.wrap (T.at_ 0).N)))], rfl, Str.of hW56 0 rfl, ?_, ?_, hW56.step⟩
    · unfold okUpdateMetadataResponse
      exact ⟨trivial, MapR.nil _ _, Nat.zero_le _, (fun _ h => by cases h), trivial⟩
    · unfold rvUpdateMetadataResponse
      exact ⟨by show IntKind.i16.wrap ((IntKind.i16.wrap (T.at_ 0).N)) = _; simp only [ww16, ww32, ww8], fun h => absurd h (of_decide_eq_false hc60), trivial⟩

theorem avUpdateMetadataResponse (v : Int) (D : DV) (T : Tree) (h : rvUpdateMetadataResponse v D T) : aUpdateMetadataResponse v D = tUpdateMetadataResponse v T := by
  unfold rvUpdateMetadataResponse at h
  obtain ⟨h0, hU, _⟩ := h
  unfold aUpdateMetadataResponse tUpdateMetadataResponse
  by_cases hv : v ≥ 6
  · simp only [h0, hU hv]
  · simp only [h0, decide_eq_false hv, Bool.false_eq_true, if_false]

theorem bhUpdateMetadataResponse (v : Int) (T : Tree) (dst : Bs) {A1 A2 : Option Addr} {c1 c2 : Nat} {w : World} {F : Nat → Nat → Prop} (hd : Octs w F A1 c1 dst) (hs_ : Octs w F A2 c2 (tUpdateMetadataResponse (IntKind.i16.wrap v) T)) (hc : canUpdateMetadataResponse T) (hkey : ∀ x ∈ T.U, 0 ≤ x.1 ∧ x.1 < 4294967296) (hroom : dst.length + (tUpdateMetadataResponse (IntKind.i16.wrap v) T).length + 16 ≤ 1099511627776) :
    Calls Tryd.prog 22 #[.int .i64 v, .slice A1 dst.length c1, .slice A2 (tUpdateMetadataResponse (IntKind.i16.wrap v) T).length c2] w (fun e w' => ∃ A c, e = .returned (.tuple #[.slice A (dst ++ (tUpdateMetadataResponse (IntKind.i16.wrap v) T)).length c, .bool true]) ∧ w'.ownsRow w.heap.size 5 1 (.slice A (dst ++ (tUpdateMetadataResponse (IntKind.i16.wrap v) T)).length c) (dst ++ (tUpdateMetadataResponse (IntKind.i16.wrap v) T)).length (bc (dst ++ (tUpdateMetadataResponse (IntKind.i16.wrap v) T))) ∧ Step w w' Nil) := by
  refine enter (n := 23) Tryd.func22 rfl Tryd.ntmps22 (by kernel_rfl) fun a hE => ?_
  have hW := WOk.start w Nil
  have hsm1 := Slots.small hd
  have hsm2 := Slots.small hs_
  refine go_sp [(0, .v (.int .i64 v)), (1, .v (.slice A1 dst.length c1)), (2, .v (.slice A2 ((tUpdateMetadataResponse (IntKind.i16.wrap v) T).length) c2))] hW hE fun a1 hE2 => ?_
  clear hE
  refine go_seq_region [0, 1] (by kernel_rfl) ?_
  refine of_op (wpOp_inline hE2 (f := 48) (vs := []) (d := 9) (n' := 3) (by kernel_rfl) Tryd.call48 Tryd.func48 rfl Tryd.ntmps48 (by kernel_rfl) fun a3 hE4 => ?_)
  refine go_sp [] hW hE4 fun a5 hE6 => ?_
  clear hE4
  refine go_seq_region [0] (by kernel_rfl) ?_
  refine of_op (wpOp_alloc hW hE6 (d := 1) (cs := [.int .i16 0, .int .i16 0, .map none]) (by kernel_rfl) fun b7 a8 w9 hb10 hz11 hF12 hW13 hE14 => ?_)
  clear hE6 hW
  refine wpOps_nil ?_
  refine then_normal ?_
  refine go_seq_region [0] (by kernel_rfl) ?_
  refine of_op (wpOp_inline hE14 (f := 76) (vs := [.pointer (some ⟨b7, 0, none⟩)]) (d := 2) (n' := 2) (by kernel_rfl) Tryd.call76 Tryd.func76 rfl Tryd.ntmps76 (by kernel_rfl) fun a15 hE16 => ?_)
  have hE17 := hE16.recast 0 (.v (.pointer (some ⟨b7, 0, none⟩))) (.p 0 0) rfl rfl (Nat.le_of_ble_eq_true (n := 1) rfl)
  refine wp_skip ?_
  refine leave_end hE17 hW13.cells (v := .tuple #[]) (by kernel_rfl) ?_
  refine ⟨_, rfl, fun a18 hE19 => ?_⟩
  have hE20 : EnvOk 3 [⟨b7, 0, [.int .i16 0, .int .i16 0, .map none], true⟩] [(2, .v (.tuple #[])), (1, .p 0 0)] _ := hE19.places (⟨rfl, rfl, trivial⟩)
  refine wpOps_nil ?_
  refine then_normal ?_
  refine go_sp [(0, .p 0 0)] hW13 hE20 fun a21 hE22 => ?_
  clear hE20
  refine wp_ret ?_
  refine leave hE22 hW13.cells (v := .pointer (some ⟨b7, 0, none⟩)) (by kernel_rfl) ?_
  refine ⟨_, rfl, fun a23 hE24 => ?_⟩
  have hE25 : EnvOk 23 [⟨b7, 0, [.int .i16 0, .int .i16 0, .map none], true⟩] [(9, .v (.pointer (some ⟨b7, 0, none⟩))), (0, .v (.int .i64 v)), (1, .v (.slice A1 dst.length c1)), (2, .v (.slice A2 ((tUpdateMetadataResponse (IntKind.i16.wrap v) T).length) c2))] _ := hE24.places (trivial)
  have hE26 := hE25.recast 9 (.v (.pointer (some ⟨b7, 0, none⟩))) (.p 0 0) rfl rfl (Nat.le_of_ble_eq_true (n := 1) rfl)
  have hE27 := hE26.pick (ks := [0, 1, 2, 9]) (env' := [(0, .v (.int .i64 v)), (1, .v (.slice A1 dst.length c1)), (2, .v (.slice A2 ((tUpdateMetadataResponse (IntKind.i16.wrap v) T).length) c2)), (9, .p 0 0)]) (by kernel_rfl)
  clear hE25
  clear hE26
  refine go_rn [1] [] [(0, .v (.int .i64 v)), (1, .v (.slice A1 dst.length c1)), (2, .v (.slice A2 ((tUpdateMetadataResponse (IntKind.i16.wrap v) T).length) c2)), (8, .p 0 0)] hW13 hE27 fun a28 hE29 => ?_
  clear hE27
  refine wpOps_nil ?_
  refine then_normal ?_
  refine go_seq_region [0, 1, 2, 3] (by kernel_rfl) ?_
  refine go_rn [0, 1, 2] [3] [(1, .v (.slice A1 dst.length c1)), (2, .v (.slice A2 ((tUpdateMetadataResponse (IntKind.i16.wrap v) T).length) c2)), (8, .p 0 0), (10, .p 0 0), (12, .v (.int .i16 (IntKind.i16.wrap v)))] hW13 hE29 fun a30 hE31 => ?_
  clear hE29
  refine of_op (wpOp_inline hE31 (f := 50) (vs := [.pointer (some ⟨b7, 0, none⟩), .int .i16 (IntKind.i16.wrap v)]) (d := 13) (n' := 8) (by kernel_rfl) Tryd.call50 Tryd.func50 rfl Tryd.ntmps50 (by kernel_rfl) fun a32 hE33 => ?_)
  have hE34 := hE33.recast 0 (.v (.pointer (some ⟨b7, 0, none⟩))) (.p 0 0) rfl rfl (Nat.le_of_ble_eq_true (n := 1) rfl)
  refine go_region [0, 1, 2, 3, 4] (by kernel_rfl) ?_
  refine go_rn [0, 1, 2, 3] [4] [(5, .v (.int .i16 (IntKind.i16.wrap v))), (7, .p 0 0)] hW13 hE34 fun a35 hE36 => ?_
  clear hE34
  refine of_op (wpOp_store hW13 hE36 (oi := 0) (cs := [.int .i16 (IntKind.i16.wrap v), .int .i16 0, .map none]) (by kernel_rfl) fun w37 hF38 hW39 hE40 => ?_)
  clear hE36 hW13
  refine wpOps_nil ?_
  refine leave_end hE40 hW39.cells (v := .tuple #[]) (by kernel_rfl) ?_
  refine ⟨_, rfl, fun a41 hE42 => ?_⟩
  have hE43 : EnvOk 23 [⟨b7, 0, [.int .i16 (IntKind.i16.wrap v), .int .i16 0, .map none], true⟩] [(13, .v (.tuple #[])), (1, .v (.slice A1 dst.length c1)), (2, .v (.slice A2 ((tUpdateMetadataResponse (IntKind.i16.wrap v) T).length) c2)), (8, .p 0 0), (10, .p 0 0), (12, .v (.int .i16 (IntKind.i16.wrap v)))] _ := hE42.places (⟨rfl, rfl, trivial⟩)
  refine wpOps_nil ?_
  refine then_normal ?_
  refine wp_seq ?_
  refine go_seq_region [0, 1, 2, 3, 4] (by kernel_rfl) ?_
  refine go_rn [0, 1] [2, 3, 4] [(1, .v (.slice A1 dst.length c1)), (8, .p 0 0), (14, .p 0 0), (15, .v (.slice A2 ((tUpdateMetadataResponse (IntKind.i16.wrap v) T).length) c2))] hW39 hE43 fun a44 hE45 => ?_
  clear hE43
  have hW46 := hW39.addNil 5 1
  have hF47 := hW39.frNil 5 1
  clear hW39
  refine of_op (wpOp_append hW46 hE45 (k := 0) (d := 16) (t := 22) (e := 5) (size := 1) (bytes := 1) (A := none) (As := A2) (m0 := 0) (c := 0) (m := ((tUpdateMetadataResponse (IntKind.i16.wrap v) T).length)) (cs := c2) (xs := []) (news := bc (tUpdateMetadataResponse (IntKind.i16.wrap v) T)) (by kernel_rfl) (by kernel_rfl) rfl (hs_.move hW46.step nilM hW46.imm).src (hs_.move hW46.step nilM hW46.imm).cap (by first | omega | (simp only [List.length_nil]; omega) | (simp; omega)) fun A48 c49 a50 w51 hF52 hW53 hE54 => ?_)
  clear hE45 hW46
  have er55 : (⟨A48, c49, 5, 1, 0 + (tUpdateMetadataResponse (IntKind.i16.wrap v) T).length, [] ++ bc (tUpdateMetadataResponse (IntKind.i16.wrap v) T)⟩ : Rw) = brow A48 c49 5 (tUpdateMetadataResponse (IntKind.i16.wrap v) T) := by rw [List.nil_append, Nat.zero_add]
  obtain ⟨hW56, hF58⟩ := hW53.rowEq 0 [brow A48 c49 5 (tUpdateMetadataResponse (IntKind.i16.wrap v) T)] er55
  clear hW53
  have hE59 := EnvOk.pick hE54 (ks := [1, 8, 14, 15, 16]) (env' := [(1, .v (.slice A1 dst.length c1)), (8, .p 0 0), (14, .p 0 0), (15, .v (.slice A2 ((tUpdateMetadataResponse (IntKind.i16.wrap v) T).length) c2)), (16, .v (.slice A48 (0 + (tUpdateMetadataResponse (IntKind.i16.wrap v) T).length) c49))]) (by kernel_rfl)
  have hE57 := hE59.cast (env' := [(1, .v (.slice A1 dst.length c1)), (8, .p 0 0), (14, .p 0 0), (15, .v (.slice A2 ((tUpdateMetadataResponse (IntKind.i16.wrap v) T).length) c2)), (16, .v (.slice A48 ((tUpdateMetadataResponse (IntKind.i16.wrap v) T).length) c49))]) (by simp only [List.length_append, List.length_cons, List.length_nil, Nat.zero_add])
  clear hE54
  clear hE59
  refine of_op (wpOp_inline hE57 (f := 51) (vs := [.pointer (some ⟨b7, 0, none⟩), .slice A48 ((tUpdateMetadataResponse (IntKind.i16.wrap v) T).length) c49]) (d := 17) (n' := 8) (by kernel_rfl) Tryd.call51 Tryd.func51 rfl Tryd.ntmps51 (by kernel_rfl) fun a60 hE61 => ?_)
  have hE62 := hE61.recast 0 (.v (.pointer (some ⟨b7, 0, none⟩))) (.p 0 0) rfl rfl (Nat.le_of_ble_eq_true (n := 1) rfl)
  refine go_sp [(0, .p 0 0), (1, .v (.slice A48 ((tUpdateMetadataResponse (IntKind.i16.wrap v) T).length) c49))] hW56 hE62 fun a63 hE64 => ?_
  clear hE62
  refine go_seq_region [0, 1, 2, 3] (by kernel_rfl) ?_
  refine go_rn [0, 1] [2, 3] [(5, .p 0 0), (6, .v (.slice A48 ((tUpdateMetadataResponse (IntKind.i16.wrap v) T).length) c49))] hW56 hE64 fun a65 hE66 => ?_
  clear hE64
  have ho67 := hW56.giveUp (G := F) 0 [] (show _ = some (brow A48 c49 5 (tUpdateMetadataResponse (IntKind.i16.wrap v) T)) from rfl) (by omega)
  obtain ⟨hW68, hF69⟩ := hW56.cutR 0 []
  refine of_op (wpOp_call hE66 (f := 77) (vs := [.pointer (some ⟨b7, 0, none⟩), .slice A48 ((tUpdateMetadataResponse (IntKind.i16.wrap v) T).length) c49, .bool false]) (d := 7) (by kernel_rfl) Tryd.call77 (rdUpdateMetadataResponse (IntKind.i16.wrap v) T (Str.of hW68 0 rfl) ho67 (imm_n 0 rfl) hc hkey) ?_)
  rintro e_ w70 ⟨D71, rfl, hs72, hk73, hv74, hst75⟩
  obtain ⟨hW76, hF77, hl78⟩ := hW68.wrote 0 [⟨b7, 0, [.int .i16 (IntKind.i16.wrap v), .int .i16 ((D71.f 0).n), .map D71.m], true⟩] rfl hst75 hs72
  have hk82 := mvUpdateMetadataResponse _ (Step.refl _ Nil) nilM hl78 hk73
  refine ⟨_, rfl, fun a79 hE80 => ?_⟩
  have hE81 : EnvOk 8 [⟨b7, 0, [.int .i16 (IntKind.i16.wrap v), .int .i16 ((D71.f 0).n), .map D71.m], true⟩] [(7, .v (.nilIface)), (5, .p 0 0), (6, .v (.slice A48 ((tUpdateMetadataResponse (IntKind.i16.wrap v) T).length) c49))] _ := hE80.places (⟨rfl, rfl, trivial⟩)
  clear hE66
  refine go_rn [3] [] [(4, .v (.nilIface))] hW76 hE81 fun a83 hE84 => ?_
  clear hE81
  refine wpOps_nil ?_
  refine then_normal ?_
  refine wp_ret ?_
  refine leave hE84 hW76.cells (v := .nilIface) (by kernel_rfl) ?_
  refine ⟨_, rfl, fun a85 hE86 => ?_⟩
  have hE87 : EnvOk 23 [⟨b7, 0, [.int .i16 (IntKind.i16.wrap v), .int .i16 ((D71.f 0).n), .map D71.m], true⟩] [(17, .v (.nilIface)), (1, .v (.slice A1 dst.length c1)), (8, .p 0 0), (14, .p 0 0), (15, .v (.slice A2 ((tUpdateMetadataResponse (IntKind.i16.wrap v) T).length) c2)), (16, .v (.slice A48 ((tUpdateMetadataResponse (IntKind.i16.wrap v) T).length) c49))] _ := hE86.places (⟨rfl, rfl, trivial⟩)
  refine go_rn [4] [] [(1, .v (.slice A1 dst.length c1)), (8, .p 0 0), (18, .v (.bool false))] hW76 hE87 fun a88 hE89 => ?_
  clear hE87
  refine wpOps_nil ?_
  refine then_normal ?_
  refine cond_false hE89 (b := false) (by kernel_rfl) rfl ?_
  refine wp_skip ?_
  refine then_normal ?_
  refine go_seq_region [0, 1, 2, 3, 4, 5] (by kernel_rfl) ?_
  refine go_rn [0, 1] [2, 3, 4, 5] [(19, .p 0 0), (20, .v (.slice A1 dst.length c1))] hW76 hE89 fun a90 hE91 => ?_
  clear hE89
  have hW92 := hW76.addNil 5 1
  have hF93 := hW76.frNil 5 1
  clear hW76
  refine of_op (wpOp_append hW92 hE91 (k := 0) (d := 21) (t := 22) (e := 5) (size := 1) (bytes := 1) (A := none) (As := A1) (m0 := 0) (c := 0) (m := dst.length) (cs := c1) (xs := []) (news := bc dst) (by kernel_rfl) (by kernel_rfl) rfl (hd.move hW92.step nilM hW92.imm).src (hd.move hW92.step nilM hW92.imm).cap (by first | omega | (simp only [List.length_nil]; omega) | (simp; omega)) fun A94 c95 a96 w97 hF98 hW99 hE100 => ?_)
  clear hE91 hW92
  have er101 : (⟨A94, c95, 5, 1, 0 + dst.length, [] ++ bc dst⟩ : Rw) = brow A94 c95 5 dst := by rw [List.nil_append, Nat.zero_add]
  obtain ⟨hW102, hF104⟩ := hW99.rowEq 0 [brow A94 c95 5 dst] er101
  clear hW99
  have hE105 := EnvOk.pick hE100 (ks := [19, 20, 21]) (env' := [(19, .p 0 0), (20, .v (.slice A1 dst.length c1)), (21, .v (.slice A94 (0 + dst.length) c95))]) (by kernel_rfl)
  have hE103 := hE105.cast (env' := [(19, .p 0 0), (20, .v (.slice A1 dst.length c1)), (21, .v (.slice A94 dst.length c95))]) (by simp only [List.length_append, List.length_cons, List.length_nil, Nat.zero_add])
  clear hE100
  clear hE105
  have hk106 := (mvUpdateMetadataResponse _ (Fr.trans (Fr.trans hF93 hF98) hF104).step immM (Fr.trans (Fr.trans hF93 hF98) hF104).to' hk82)
  have hat107 := hW102.strImm (G := F) 0 rfl
  have hk_ := mvUpdateMetadataResponse _ (Step.refl _ Nil) nilM (fun b o h_ _ => imm_cut h_) hk106
  rw [← avUpdateMetadataResponse _ _ _ hv74] at hroom ⊢
  refine of_op (wpOp_call hE103 (f := 52) (vs := [.pointer (some ⟨b7, 0, none⟩), .slice A94 dst.length c95]) (d := 22) (by kernel_rfl) Tryd.call52 (kUpdateMetadataResponse (IntKind.i16.wrap v) D71 b7 0 A94 c95 dst _ _ hat107 hk_ (imm_blk 0 rfl) (hW102.own 0 _ rfl) (by omega)) ?_)
  rintro e_ w110 ⟨A111, c112, rfl, ho113, hs114, hn115⟩
  refine ⟨_, rfl, fun a116 hE117 => ?_⟩
  have hW108 : WOk _ _ _ _ [brow A111 c112 5 (dst ++ aUpdateMetadataResponse (IntKind.i16.wrap v) D71)] := hW102.grow (k := 0) rfl hs114 ho113 hn115
  have hF109 := Fr.grow [⟨b7, 0, [.int .i16 (IntKind.i16.wrap v), .int .i16 ((D71.f 0).n), .map D71.m], true⟩] (k := 0) (rs := [brow A94 c95 5 dst]) (r' := (brow A111 c112 5 (dst ++ aUpdateMetadataResponse (IntKind.i16.wrap v) D71))) rfl hs114 hn115
  clear hE103 hW102
  refine go_rn [4, 5] [] [(6, .v (.slice A111 ((dst ++ aUpdateMetadataResponse (IntKind.i16.wrap v) D71).length) c112)), (7, .v (.bool true))] hW108 hE117 fun a119 hE120 => ?_
  clear hE117
  refine wpOps_nil ?_
  refine then_normal ?_
  refine wp_ret ?_
  refine leave hE120 hW108.cells (v := .tuple #[.slice A111 ((dst ++ aUpdateMetadataResponse (IntKind.i16.wrap v) D71).length) c112, .bool true]) (by kernel_rfl) ?_
  exact ⟨A111, c112, rfl, own_fresh hW108 (k := 0) rfl rfl (hW108.own 0 _ rfl), hW108.step⟩

end Go.Proofs.YthfdlmnfjcpioaaDoor.ME

/- Printed by tools/mk.py. Own work. -/
namespace Go.Proofs.YthfdlmnfjcpioaaDoor.ME
open Go
open Go.RowKit
set_option linter.unusedVariables false
set_option linter.unusedSimpArgs false
set_option maxRecDepth 20000

theorem bhgUpdateMetadataResponse (v : Int) (T : Tree) (dst B : Bs) {A1 A2 : Option Addr} {c1 c2 : Nat} {w : World} {F : Nat → Nat → Prop} (hB : tUpdateMetadataResponse (IntKind.i16.wrap v) T = B) (hd : Octs w F A1 c1 dst) (hs_ : Octs w F A2 c2 B) (hc : canUpdateMetadataResponse T) (hkey : ∀ x ∈ T.U, 0 ≤ x.1 ∧ x.1 < 4294967296) (hroom : dst.length + B.length + 16 ≤ 1099511627776) :
    Calls Tryd.prog 22 #[.int .i64 v, .slice A1 dst.length c1, .slice A2 B.length c2] w (fun e w' => ∃ A c, e = .returned (.tuple #[.slice A (dst ++ B).length c, .bool true]) ∧ w'.ownsRow w.heap.size 5 1 (.slice A (dst ++ B).length c) (dst ++ B).length (bc (dst ++ B)) ∧ Step w w' Nil) := by
  subst hB
  exact bhUpdateMetadataResponse v T dst hd hs_ hc hkey hroom

theorem xUpdateMetadataResponse (w : World) : Calls Tryd.prog 20 #[] w (Gives w (.int .i64 8)) := by
  refine enter (n := 4) Tryd.func20 rfl Tryd.ntmps20 (by kernel_rfl) fun a hE => ?_
  have hW := WOk.start w Nil
  refine go_sp [] hW hE fun a1 hE2 => ?_
  clear hE
  refine go_seq_region [0, 1, 2, 3] (by kernel_rfl) ?_
  refine of_op (wpOp_inline hE2 (f := 48) (vs := []) (d := 1) (n' := 3) (by kernel_rfl) Tryd.call48 Tryd.func48 rfl Tryd.ntmps48 (by kernel_rfl) fun a3 hE4 => ?_)
  refine go_sp [] hW hE4 fun a5 hE6 => ?_
  clear hE4
  refine go_seq_region [0] (by kernel_rfl) ?_
  refine of_op (wpOp_alloc hW hE6 (d := 1) (cs := [.int .i16 0, .int .i16 0, .map none]) (by kernel_rfl) fun b7 a8 w9 hb10 hz11 hF12 hW13 hE14 => ?_)
  clear hE6 hW
  refine wpOps_nil ?_
  refine then_normal ?_
  refine go_seq_region [0] (by kernel_rfl) ?_
  refine of_op (wpOp_inline hE14 (f := 76) (vs := [.pointer (some ⟨b7, 0, none⟩)]) (d := 2) (n' := 2) (by kernel_rfl) Tryd.call76 Tryd.func76 rfl Tryd.ntmps76 (by kernel_rfl) fun a15 hE16 => ?_)
  have hE17 := hE16.recast 0 (.v (.pointer (some ⟨b7, 0, none⟩))) (.p 0 0) rfl rfl (Nat.le_of_ble_eq_true (n := 1) rfl)
  refine wp_skip ?_
  refine leave_end hE17 hW13.cells (v := .tuple #[]) (by kernel_rfl) ?_
  refine ⟨_, rfl, fun a18 hE19 => ?_⟩
  have hE20 : EnvOk 3 [⟨b7, 0, [.int .i16 0, .int .i16 0, .map none], true⟩] [(2, .v (.tuple #[])), (1, .p 0 0)] _ := hE19.places (⟨rfl, rfl, trivial⟩)
  refine wpOps_nil ?_
  refine then_normal ?_
  refine go_sp [(0, .p 0 0)] hW13 hE20 fun a21 hE22 => ?_
  clear hE20
  refine wp_ret ?_
  refine leave hE22 hW13.cells (v := .pointer (some ⟨b7, 0, none⟩)) (by kernel_rfl) ?_
  refine ⟨_, rfl, fun a23 hE24 => ?_⟩
  have hE25 : EnvOk 4 [⟨b7, 0, [.int .i16 0, .int .i16 0, .map none], true⟩] [(1, .v (.pointer (some ⟨b7, 0, none⟩)))] _ := hE24.places (trivial)
  have hE26 := hE25.recast 1 (.v (.pointer (some ⟨b7, 0, none⟩))) (.p 0 0) rfl rfl (Nat.le_of_ble_eq_true (n := 1) rfl)
  have hE27 := hE26.pick (ks := [1]) (env' := [(1, .p 0 0)]) (by kernel_rfl)
  clear hE25
  clear hE26
  refine of_op (wpOp_inline hE27 (f := 49) (vs := [.pointer (some ⟨b7, 0, none⟩)]) (d := 2) (n' := 3) (by kernel_rfl) Tryd.call49 Tryd.func49 rfl Tryd.ntmps49 (by kernel_rfl) fun a28 hE29 => ?_)
  have hE30 := hE29.recast 0 (.v (.pointer (some ⟨b7, 0, none⟩))) (.p 0 0) rfl rfl (Nat.le_of_ble_eq_true (n := 1) rfl)
  refine go_sp [] hW13 hE30 fun a31 hE32 => ?_
  clear hE30
  refine go_sp [(2, .v (.int .i16 8))] hW13 hE32 fun a33 hE34 => ?_
  clear hE32
  refine wp_ret ?_
  refine leave hE34 hW13.cells (v := .int .i16 8) (by kernel_rfl) ?_
  refine ⟨_, rfl, fun a35 hE36 => ?_⟩
  have hE37 : EnvOk 4 [⟨b7, 0, [.int .i16 0, .int .i16 0, .map none], true⟩] [(2, .v (.int .i16 8)), (1, .p 0 0)] _ := hE36.places (⟨rfl, rfl, trivial⟩)
  refine go_rn [2, 3] [] [(0, .v (.int .i64 8))] hW13 hE37 fun a38 hE39 => ?_
  clear hE37
  refine wpOps_nil ?_
  refine then_normal ?_
  refine wp_ret ?_
  refine leave hE39 hW13.cells (v := .int .i64 8) (by kernel_rfl) ?_
  exact ⟨rfl, hW13.step⟩

theorem sUpdateMetadataResponse_depth : depths sUpdateMetadataResponseF ≤ 8 := by simp [sUpdateMetadataResponseF, Fld.depth.depths, Fld.depth]
theorem lawUpdateMetadataResponse (x : Int) (hx : 0 ≤ x) (hx' : x < 256) (dst : Bs) {A1 : Option Addr} {c1 : Nat} (ct : List Value) (t : Tree) (w : World) (F : Nat → Nat → Prop) (hd : Octs w F A1 c1 dst) (hdl : dst.length ≤ 1048576) (ht : TreeR w F ct t) (hroom1 : (writeB 8 sUpdateMetadataResponseF sUpdateMetadataResponseX (Int.tmod x (8 + 1)) t).length ≤ 1099511627776) (hroom : dst.length + (writeB 8 sUpdateMetadataResponseF sUpdateMetadataResponseX (Int.tmod x (8 + 1)) t).length + 16 ≤ 1099511627776) (hcan : canUpdateMetadataResponse (fitT (Int.tmod x (8 + 1)) 8 sUpdateMetadataResponseF t)) (hkey : ∀ q_ ∈ Tree.U (fitT (Int.tmod x (8 + 1)) 8 sUpdateMetadataResponseF t), 0 ≤ q_.1 ∧ q_.1 < 4294967296) (hpure : tUpdateMetadataResponse (IntKind.i16.wrap (Int.tmod x (8 + 1))) (fitT (Int.tmod x (8 + 1)) 8 sUpdateMetadataResponseF t) = writeB 8 sUpdateMetadataResponseF sUpdateMetadataResponseX (Int.tmod x (8 + 1)) t) :
    Calls Tryd.prog 5 #[.int .u8 x, .slice A1 dst.length c1, .agg ct.toArray] w (Gives w (.bool true)) := by
  obtain ⟨n1, s2, b3, l4, u5, A6, c7, A8, c9, A10, c11, xs12, rfl, rfl, h14, h15, h16, h17⟩ := ht.open_
  have hsm19 := h14.small
  have hsm20 := h15.small
  refine enter (n := 52) Tryd.func5 rfl Tryd.ntmps5 (by kernel_rfl) fun a hE => ?_
  have hW := WOk.start w Nil
  have hsm1 := Slots.small hd
  refine go_seq_region [0, 1] (by kernel_rfl) ?_
  refine of_op (wpOp_box hW hE (d := 5) (cs := [.int .i64 n1, .slice A6 s2.length c7, .bool b3, .slice A8 l4.length c9, .slice A10 u5.length c11]) (by kernel_rfl) fun b21 a22 w23 hb24 hz25 hF26 hW27 hE28 => ?_)
  clear hE hW
  refine go_rn [1] [] [(0, .v (.int .u8 x)), (1, .v (.slice A1 dst.length c1)), (5, .p 0 0)] hW27 hE28 fun a29 hE30 => ?_
  clear hE28
  refine wpOps_nil ?_
  refine then_normal ?_
  refine wp_seq ?_
  refine go_seq_region [0, 1, 2, 3, 4, 5, 6, 7] (by kernel_rfl) ?_
  refine go_rn [0, 1, 2, 3] [4, 5, 6, 7] [(0, .v (.int .u8 x)), (1, .v (.slice A1 dst.length c1)), (5, .p 0 0), (16, .v (.bool (decide (((dst.length : Nat) : Int) > 2147483647))))] hW27 hE30 fun a31 hE32 => ?_
  clear hE30
  have hc33 : (decide (((dst.length : Nat) : Int) > 2147483647)) = false := decide_eq_false (by omega)
  have hE34 := hE32.cast (env' := [(0, .v (.int .u8 x)), (1, .v (.slice A1 dst.length c1)), (5, .p 0 0), (16, .v (.bool false))]) (by rw [hc33])
  clear hE32
  refine go_rn [4] [5, 6, 7] [(0, .v (.int .u8 x)), (1, .v (.slice A1 dst.length c1)), (5, .p 0 0), (16, .v (.bool false)), (17, .v (.agg #[.int .i64 n1, .slice A6 s2.length c7, .bool b3, .slice A8 l4.length c9, .slice A10 u5.length c11]))] hW27 hE34 fun a35 hE36 => ?_
  clear hE34
  refine of_op (wpOp_call hE36 (f := 8) (vs := [.agg #[.int .i64 n1, .slice A6 s2.length c7, .bool b3, .slice A8 l4.length c9, .slice A10 u5.length c11]]) (d := 18) (by kernel_rfl) Tryd.call8 (lFits1 _ _ _ _ (ht.move hW27.step nilM hW27.imm)) ?_)
  rintro e_ w39 ⟨b38, rfl, hs37⟩
  refine ⟨_, rfl, fun a40 hE41 => ?_⟩
  have hW42 := hW27.next_nil hs37
  have hF43 := hW27.frN hs37
  clear hE36 hW27
  refine go_rn [6, 7] [] [(0, .v (.int .u8 x)), (1, .v (.slice A1 dst.length c1)), (5, .p 0 0), (20, .v (.bool (!b38)))] hW42 hE41 fun a44 hE45 => ?_
  clear hE41
  refine wpOps_nil ?_
  refine then_normal ?_
  refine cond_of hE45 (b := !b38) (by kernel_rfl) (fun hc46 => ?_) (fun hc46 => ?_)
  ·
    refine go_sp [(6, .v (.bool true))] hW42 hE45 fun a48 hE49 => ?_
    clear hE45
    refine wp_ret ?_
    refine then_ret ?_
    refine leave hE49 hW42.cells (v := .bool true) (by kernel_rfl) ?_
    exact ⟨rfl, hW42.step⟩
  ·
    refine wp_skip ?_
    refine then_normal ?_
    refine go_seq_region [0, 1] (by kernel_rfl) ?_
    refine of_op (wpOp_call hE45 (f := 20) (vs := []) (d := 21) (by kernel_rfl) Tryd.call20 (xUpdateMetadataResponse _) ?_)
    rintro e_ w52 ⟨rfl, hs51⟩
    refine ⟨_, rfl, fun a53 hE54 => ?_⟩
    have hW55 := hW42.next_nil hs51
    have hF56 := hW42.frN hs51
    clear hE45 hW42
    refine go_rn [1] [] [(0, .v (.int .u8 x)), (1, .v (.slice A1 dst.length c1)), (5, .p 0 0), (7, .v (.int .i64 8))] hW55 hE54 fun a57 hE58 => ?_
    clear hE54
    refine wpOps_nil ?_
    refine then_normal ?_
    refine wp_seq ?_
    refine go_sp [(0, .v (.int .u8 x)), (1, .v (.slice A1 dst.length c1)), (5, .p 0 0), (7, .v (.int .i64 8)), (23, .v (.bool false))] hW55 hE58 fun a59 hE60 => ?_
    clear hE58
    refine cond_false hE60 (b := false) (by kernel_rfl) rfl ?_
    refine wp_skip ?_
    refine then_normal ?_
    refine go_seq_region [0, 1, 2, 3, 4, 5, 6] (by kernel_rfl) ?_
    refine of_op (wpOp_call hE60 (f := 21) (vs := []) (d := 24) (by kernel_rfl) Tryd.call21 (sUpdateMetadataResponse _ (Imm F w w52 [⟨b21, 0, [.int .i64 n1, .slice A6 s2.length c7, .bool b3, .slice A8 l4.length c9, .slice A10 u5.length c11], true⟩] [])) ?_)
    rintro e_ w65 ⟨A63, c64, rfl, hr62, hs61⟩
    obtain ⟨xs66, h67, h68⟩ := hr62.move (Step.refl _ Nil) nilM (hW55.laid (G := F) hs61)
    refine ⟨_, rfl, fun a69 hE70 => ?_⟩
    have hW71 := hW55.next_nil hs61
    have hF72 := hW55.frN hs61
    clear hE60
    refine go_rn [1, 2] [3, 4, 5, 6] [(1, .v (.slice A1 dst.length c1)), (5, .p 0 0), (24, .v (.agg #[.slice A63 sUpdateMetadataResponseF.length c64, .int .i64 sUpdateMetadataResponseX])), (25, .v (.int .u8 x)), (26, .v (.int .i64 8))] hW71 hE70 fun a73 hE74 => ?_
    clear hE70
    refine of_op (wpOp_call hE74 (f := 11) (vs := [.int .u8 x, .int .i64 8]) (d := 27) (by kernel_rfl) Tryd.call11 (lVersion x 8 hx hx' (by decide) (by decide) _) ?_)
    rintro e_ w76 ⟨rfl, hs75⟩
    refine ⟨_, rfl, fun a77 hE78 => ?_⟩
    have hW79 := hW71.next_nil hs75
    have hF80 := hW71.frN hs75
    clear hE74 hW71
    refine of_op (wpOp_alloc hW79 hE78 (d := 8) (cs := [.slice none 0 0, .int .i64 0]) (by kernel_rfl) fun b81 a82 w83 hb84 hz85 hF86 hW87 hE88 => ?_)
    clear hE78 hW79
    refine of_op (wpOp_store hW87 hE88 (oi := 1) (cs := [.slice A63 sUpdateMetadataResponseF.length c64, .int .i64 sUpdateMetadataResponseX]) (by kernel_rfl) fun w89 hF90 hW91 hE92 => ?_)
    clear hE88 hW87
    refine go_rn [6] [] [(1, .v (.slice A1 dst.length c1)), (5, .p 0 0), (8, .p 1 0), (9, .v (.int .i64 (Int.tmod x (8 + 1))))] hW91 hE92 fun a93 hE94 => ?_
    clear hE92
    refine wpOps_nil ?_
    refine then_normal ?_
    refine wp_seq ?_
    refine go_sp [(1, .v (.slice A1 dst.length c1)), (5, .p 0 0), (8, .p 1 0), (9, .v (.int .i64 (Int.tmod x (8 + 1)))), (30, .v (.bool (decide (((dst.length : Nat) : Int) > 1000))))] hW91 hE94 fun a95 hE96 => ?_
    clear hE94
    refine cond_of hE96 (b := decide (((dst.length : Nat) : Int) > 1000)) (by kernel_rfl) (fun hc97 => ?_) (fun hc97 => ?_)
    ·
      have hf98 := of_decide_eq_true hc97
      refine go_sp [(6, .v (.bool true))] hW91 hE96 fun a99 hE100 => ?_
      clear hE96
      refine wp_ret ?_
      refine then_ret ?_
      refine leave hE100 hW91.cells (v := .bool true) (by kernel_rfl) ?_
      exact ⟨rfl, hW91.step⟩
    ·
      have hf101 := of_decide_eq_false hc97
      refine wp_skip ?_
      refine then_normal ?_
      refine go_seq_region [0, 1, 2, 3, 4] (by kernel_rfl) ?_
      refine go_rn [0, 1, 2] [3, 4] [(1, .v (.slice A1 dst.length c1)), (9, .v (.int .i64 (Int.tmod x (8 + 1)))), (31, .v (.agg #[.slice A63 sUpdateMetadataResponseF.length c64, .int .i64 sUpdateMetadataResponseX])), (32, .v (.int .i64 (Int.tmod x (8 + 1)))), (33, .v (.agg #[.int .i64 n1, .slice A6 s2.length c7, .bool b3, .slice A8 l4.length c9, .slice A10 u5.length c11]))] hW91 hE96 fun a102 hE103 => ?_
      clear hE96
      refine of_op (wpOp_call hE103 (f := 13) (vs := [.agg #[.slice A63 sUpdateMetadataResponseF.length c64, .int .i64 sUpdateMetadataResponseX], .int .i64 (Int.tmod x (8 + 1)), .agg #[.int .i64 n1, .slice A6 s2.length c7, .bool b3, .slice A8 l4.length c9, .slice A10 u5.length c11]]) (d := 34) (by kernel_rfl) Tryd.call13 (sWrite _ _ sUpdateMetadataResponseF sUpdateMetadataResponseX (Int.tmod x (8 + 1)) _ (Tree.mk n1 s2 b3 l4 u5) _ _ ⟨xs66, (h67.move (Fr.trans (Fr.trans hF80 hF86) hF90).step immM (Fr.trans (Fr.trans hF80 hF86) hF90).to'), (fun i_ x_ h_ => ((h68 i_ x_ h_).move (Fr.trans (Fr.trans hF80 hF86) hF90).step immM (Fr.trans (Fr.trans hF80 hF86) hF90).to'))⟩ sUpdateMetadataResponse_depth (ht.move hW91.step nilM hW91.imm) hroom1) ?_)
      rintro e_ w108 ⟨A106, c107, rfl, ho105, hs104⟩
      refine ⟨_, rfl, fun a109 hE110 => ?_⟩
      obtain ⟨hW111, hF112⟩ := hW91.frFresh hs104 (brow A106 c107 5 (writeB 8 sUpdateMetadataResponseF sUpdateMetadataResponseX (Int.tmod x (8 + 1)) (Tree.mk n1 s2 b3 l4 u5))) (Nat.le_refl _) ho105
      clear hE103 hW91
      refine go_rn [4] [] [(1, .v (.slice A1 dst.length c1)), (9, .v (.int .i64 (Int.tmod x (8 + 1)))), (10, .v (.slice A106 ((writeB 8 sUpdateMetadataResponseF sUpdateMetadataResponseX (Int.tmod x (8 + 1)) (Tree.mk n1 s2 b3 l4 u5)).length) c107))] hW111 hE110 fun a113 hE114 => ?_
      clear hE110
      refine wpOps_nil ?_
      refine then_normal ?_
      refine go_seq_region [0, 1, 2, 3, 4, 5, 6, 7, 8] (by kernel_rfl) ?_
      refine go_rn [0, 1, 2] [3, 4, 5, 6, 7, 8] [(1, .v (.slice A1 dst.length c1)), (10, .v (.slice A106 ((writeB 8 sUpdateMetadataResponseF sUpdateMetadataResponseX (Int.tmod x (8 + 1)) (Tree.mk n1 s2 b3 l4 u5)).length) c107)), (36, .v (.int .i64 (Int.tmod x (8 + 1)))), (37, .v (.slice A1 dst.length c1)), (38, .v (.slice A106 ((writeB 8 sUpdateMetadataResponseF sUpdateMetadataResponseX (Int.tmod x (8 + 1)) (Tree.mk n1 s2 b3 l4 u5)).length) c107))] hW111 hE114 fun a115 hE116 => ?_
      clear hE114
      refine of_op (wpOp_call hE116 (f := 22) (vs := [.int .i64 (Int.tmod x (8 + 1)), .slice A1 dst.length c1, .slice A106 ((writeB 8 sUpdateMetadataResponseF sUpdateMetadataResponseX (Int.tmod x (8 + 1)) (Tree.mk n1 s2 b3 l4 u5)).length) c107]) (d := 39) (by kernel_rfl) Tryd.call22 (bhgUpdateMetadataResponse (Int.tmod x (8 + 1)) _ dst (writeB 8 sUpdateMetadataResponseF sUpdateMetadataResponseX (Int.tmod x (8 + 1)) (Tree.mk n1 s2 b3 l4 u5)) hpure ((hd.move hW111.step nilM hW111.imm).move (Step.refl _ Nil) nilM allF) (octs_own (hW111.own 0 _ rfl) (by first | omega | (simp only [be_length]; exact Nat.le_trans (widthI_le _) (by decide)) | (have := hroom; omega) | (have := hmade; omega) | (simp only [List.length_append, List.length_nil]; omega)) (F := fun _ _ => True) (fun _ _ _ => trivial)) hcan hkey (by first | omega | (have := hroom1; omega))) ?_)
      rintro e_ w117 ⟨A118, c119, rfl, ho120, hs121⟩
      refine ⟨_, rfl, fun a122 hE123 => ?_⟩
      obtain ⟨hW124, hF125⟩ := hW111.frFresh hs121 (brow A118 c119 5 (dst ++ (writeB 8 sUpdateMetadataResponseF sUpdateMetadataResponseX (Int.tmod x (8 + 1)) (Tree.mk n1 s2 b3 l4 u5)))) (Nat.le_refl _) ho120
      clear hE116 hW111
      refine go_rn [4, 5, 6, 7, 8] [] [(1, .v (.slice A1 dst.length c1)), (10, .v (.slice A106 ((writeB 8 sUpdateMetadataResponseF sUpdateMetadataResponseX (Int.tmod x (8 + 1)) (Tree.mk n1 s2 b3 l4 u5)).length) c107)), (11, .v (.slice A118 ((dst ++ (writeB 8 sUpdateMetadataResponseF sUpdateMetadataResponseX (Int.tmod x (8 + 1)) (Tree.mk n1 s2 b3 l4 u5))).length) c119)), (12, .v (.bool true))] hW124 hE123 fun a126 hE127 => ?_
      clear hE123
      refine wpOps_nil ?_
      refine then_normal ?_
      refine go_seq_region [0, 1, 2, 3, 4, 5, 6, 7, 8, 9, 10] (by kernel_rfl) ?_
      refine go_rn [0, 1, 2] [3, 4, 5, 6, 7, 8, 9, 10] [(1, .v (.slice A1 dst.length c1)), (10, .v (.slice A106 ((writeB 8 sUpdateMetadataResponseF sUpdateMetadataResponseX (Int.tmod x (8 + 1)) (Tree.mk n1 s2 b3 l4 u5)).length) c107)), (43, .v (.bool true)), (44, .v (.slice A118 ((dst ++ (writeB 8 sUpdateMetadataResponseF sUpdateMetadataResponseX (Int.tmod x (8 + 1)) (Tree.mk n1 s2 b3 l4 u5))).length) c119))] hW124 hE127 fun a128 hE129 => ?_
      clear hE127
      refine of_op (wpOp_lit hW124 hE129 (e := 5) (size := 1) (len := 0) (cs := []) (d := 45) (by kernel_rfl) (by kernel_rfl) fun b130 a131 w132 hb133 hz134 hF135 hW136 hE137 => ?_)
      clear hE129 hW124
      have er138 : (⟨some ⟨b130, 0, none⟩, 0, 5, 1, 0, []⟩ : Rw) = brow (some ⟨b130, 0, none⟩) 0 5 ([] : Bs) := by first | rfl | (simp only [brow, bc, List.map, by8_wrap]; try rfl)
      obtain ⟨hW139, hF141⟩ := hW136.rowEq 2 [brow A106 c107 5 (writeB 8 sUpdateMetadataResponseF sUpdateMetadataResponseX (Int.tmod x (8 + 1)) (Tree.mk n1 s2 b3 l4 u5)), brow A118 c119 5 (dst ++ (writeB 8 sUpdateMetadataResponseF sUpdateMetadataResponseX (Int.tmod x (8 + 1)) (Tree.mk n1 s2 b3 l4 u5))), brow (some ⟨b130, 0, none⟩) 0 5 ([] : Bs)] er138
      clear hW136
      have hE143 := EnvOk.pick hE137 (ks := [1, 10, 43, 44, 45]) (env' := [(1, .v (.slice A1 dst.length c1)), (10, .v (.slice A106 ((writeB 8 sUpdateMetadataResponseF sUpdateMetadataResponseX (Int.tmod x (8 + 1)) (Tree.mk n1 s2 b3 l4 u5)).length) c107)), (43, .v (.bool true)), (44, .v (.slice A118 ((dst ++ (writeB 8 sUpdateMetadataResponseF sUpdateMetadataResponseX (Int.tmod x (8 + 1)) (Tree.mk n1 s2 b3 l4 u5))).length) c119)), (45, .v (.slice (some ⟨b130, 0, none⟩) 0 0))]) (by kernel_rfl)
      have hE142 := hE143.cast (env' := [(1, .v (.slice A1 dst.length c1)), (10, .v (.slice A106 ((writeB 8 sUpdateMetadataResponseF sUpdateMetadataResponseX (Int.tmod x (8 + 1)) (Tree.mk n1 s2 b3 l4 u5)).length) c107)), (43, .v (.bool true)), (44, .v (.slice A118 ((dst ++ (writeB 8 sUpdateMetadataResponseF sUpdateMetadataResponseX (Int.tmod x (8 + 1)) (Tree.mk n1 s2 b3 l4 u5))).length) c119)), (45, .v (.slice (some ⟨b130, 0, none⟩) (([] : Bs).length) 0))]) rfl
      clear hE137 hE143
      refine go_rn [4] [5, 6, 7, 8, 9, 10] [(10, .v (.slice A106 ((writeB 8 sUpdateMetadataResponseF sUpdateMetadataResponseX (Int.tmod x (8 + 1)) (Tree.mk n1 s2 b3 l4 u5)).length) c107)), (43, .v (.bool true)), (44, .v (.slice A118 ((dst ++ (writeB 8 sUpdateMetadataResponseF sUpdateMetadataResponseX (Int.tmod x (8 + 1)) (Tree.mk n1 s2 b3 l4 u5))).length) c119)), (45, .v (.slice (some ⟨b130, 0, none⟩) (([] : Bs).length) 0)), (46, .v (.slice A1 dst.length c1))] hW139 hE142 fun a144 hE145 => ?_
      clear hE142
      refine of_op (wpOp_append hW139 hE145 (k := 2) (d := 47) (t := 22) (e := 5) (size := 1) (bytes := 1) (A := some ⟨b130, 0, none⟩) (As := A1) (m0 := (([] : Bs).length)) (c := 0) (m := dst.length) (cs := c1) (xs := (bc ([] : Bs))) (news := bc dst) (by kernel_rfl) (by kernel_rfl) rfl (hd.move hW139.step nilM hW139.imm).src (hd.move hW139.step nilM hW139.imm).cap (by first | omega | (simp only [List.length_nil, List.length_append]; omega) | (simp; omega)) fun A146 c147 a148 w149 hF150 hW151 hE152 => ?_)
      clear hE145 hW139
      have er153 : (⟨A146, c147, 5, 1, ([] : Bs).length + dst.length, bc ([] : Bs) ++ bc dst⟩ : Rw) = brow A146 c147 5 (([] : Bs) ++ dst) := brow_eq (rfl) rfl
      obtain ⟨hW154, hF156⟩ := hW151.rowEq 2 [brow A106 c107 5 (writeB 8 sUpdateMetadataResponseF sUpdateMetadataResponseX (Int.tmod x (8 + 1)) (Tree.mk n1 s2 b3 l4 u5)), brow A118 c119 5 (dst ++ (writeB 8 sUpdateMetadataResponseF sUpdateMetadataResponseX (Int.tmod x (8 + 1)) (Tree.mk n1 s2 b3 l4 u5))), brow A146 c147 5 (([] : Bs) ++ dst)] er153
      clear hW151
      have hE157 := EnvOk.pick hE152 (ks := [10, 43, 44, 45, 46, 47]) (env' := [(10, .v (.slice A106 ((writeB 8 sUpdateMetadataResponseF sUpdateMetadataResponseX (Int.tmod x (8 + 1)) (Tree.mk n1 s2 b3 l4 u5)).length) c107)), (43, .v (.bool true)), (44, .v (.slice A118 ((dst ++ (writeB 8 sUpdateMetadataResponseF sUpdateMetadataResponseX (Int.tmod x (8 + 1)) (Tree.mk n1 s2 b3 l4 u5))).length) c119)), (45, .v (.slice (some ⟨b130, 0, none⟩) (([] : Bs).length) 0)), (46, .v (.slice A1 dst.length c1)), (47, .v (.slice A146 (([] : Bs).length + dst.length) c147))]) (by kernel_rfl)
      have hE155 := hE157.cast (env' := [(10, .v (.slice A106 ((writeB 8 sUpdateMetadataResponseF sUpdateMetadataResponseX (Int.tmod x (8 + 1)) (Tree.mk n1 s2 b3 l4 u5)).length) c107)), (43, .v (.bool true)), (44, .v (.slice A118 ((dst ++ (writeB 8 sUpdateMetadataResponseF sUpdateMetadataResponseX (Int.tmod x (8 + 1)) (Tree.mk n1 s2 b3 l4 u5))).length) c119)), (45, .v (.slice (some ⟨b130, 0, none⟩) (([] : Bs).length) 0)), (46, .v (.slice A1 dst.length c1)), (47, .v (.slice A146 ((([] : Bs) ++ dst).length) c147))]) (by simp only [List.length_append, List.length_cons, List.length_nil, Nat.zero_add])
      clear hE152
      clear hE157
      refine go_rn [6] [7, 8, 9, 10] [(43, .v (.bool true)), (44, .v (.slice A118 ((dst ++ (writeB 8 sUpdateMetadataResponseF sUpdateMetadataResponseX (Int.tmod x (8 + 1)) (Tree.mk n1 s2 b3 l4 u5))).length) c119)), (47, .v (.slice A146 ((([] : Bs) ++ dst).length) c147)), (48, .v (.slice A106 ((writeB 8 sUpdateMetadataResponseF sUpdateMetadataResponseX (Int.tmod x (8 + 1)) (Tree.mk n1 s2 b3 l4 u5)).length) c107))] hW154 hE155 fun a158 hE159 => ?_
      clear hE155
      refine of_op (wpOp_append hW154 hE159 (k := 2) (d := 49) (t := 22) (e := 5) (size := 1) (bytes := 1) (A := A146) (As := A106) (m0 := ((([] : Bs) ++ dst).length)) (c := c147) (m := ((writeB 8 sUpdateMetadataResponseF sUpdateMetadataResponseX (Int.tmod x (8 + 1)) (Tree.mk n1 s2 b3 l4 u5)).length)) (cs := c107) (xs := (bc (([] : Bs) ++ dst))) (news := bc (writeB 8 sUpdateMetadataResponseF sUpdateMetadataResponseX (Int.tmod x (8 + 1)) (Tree.mk n1 s2 b3 l4 u5))) (by kernel_rfl) (by kernel_rfl) rfl (own_src (hW154.own 0 _ rfl) (bc_one _)) (own_cap (hW154.own 0 _ rfl)) (by first | omega | (simp only [List.length_nil, List.length_append]; omega) | (simp; omega)) fun A160 c161 a162 w163 hF164 hW165 hE166 => ?_)
      clear hE159 hW154
      have er167 : (⟨A160, c161, 5, 1, (([] : Bs) ++ dst).length + (writeB 8 sUpdateMetadataResponseF sUpdateMetadataResponseX (Int.tmod x (8 + 1)) (Tree.mk n1 s2 b3 l4 u5)).length, bc (([] : Bs) ++ dst) ++ bc (writeB 8 sUpdateMetadataResponseF sUpdateMetadataResponseX (Int.tmod x (8 + 1)) (Tree.mk n1 s2 b3 l4 u5))⟩ : Rw) = brow A160 c161 5 (([] : Bs) ++ dst ++ (writeB 8 sUpdateMetadataResponseF sUpdateMetadataResponseX (Int.tmod x (8 + 1)) (Tree.mk n1 s2 b3 l4 u5))) := brow_eq (rfl) rfl
      obtain ⟨hW168, hF170⟩ := hW165.rowEq 2 [brow A106 c107 5 (writeB 8 sUpdateMetadataResponseF sUpdateMetadataResponseX (Int.tmod x (8 + 1)) (Tree.mk n1 s2 b3 l4 u5)), brow A118 c119 5 (dst ++ (writeB 8 sUpdateMetadataResponseF sUpdateMetadataResponseX (Int.tmod x (8 + 1)) (Tree.mk n1 s2 b3 l4 u5))), brow A160 c161 5 (([] : Bs) ++ dst ++ (writeB 8 sUpdateMetadataResponseF sUpdateMetadataResponseX (Int.tmod x (8 + 1)) (Tree.mk n1 s2 b3 l4 u5)))] er167
      clear hW165
      have hE171 := EnvOk.pick hE166 (ks := [43, 44, 47, 48, 49]) (env' := [(43, .v (.bool true)), (44, .v (.slice A118 ((dst ++ (writeB 8 sUpdateMetadataResponseF sUpdateMetadataResponseX (Int.tmod x (8 + 1)) (Tree.mk n1 s2 b3 l4 u5))).length) c119)), (47, .v (.slice A146 ((([] : Bs) ++ dst).length) c147)), (48, .v (.slice A106 ((writeB 8 sUpdateMetadataResponseF sUpdateMetadataResponseX (Int.tmod x (8 + 1)) (Tree.mk n1 s2 b3 l4 u5)).length) c107)), (49, .v (.slice A160 ((([] : Bs) ++ dst).length + (writeB 8 sUpdateMetadataResponseF sUpdateMetadataResponseX (Int.tmod x (8 + 1)) (Tree.mk n1 s2 b3 l4 u5)).length) c161))]) (by kernel_rfl)
      have hE169 := hE171.cast (env' := [(43, .v (.bool true)), (44, .v (.slice A118 ((dst ++ (writeB 8 sUpdateMetadataResponseF sUpdateMetadataResponseX (Int.tmod x (8 + 1)) (Tree.mk n1 s2 b3 l4 u5))).length) c119)), (47, .v (.slice A146 ((([] : Bs) ++ dst).length) c147)), (48, .v (.slice A106 ((writeB 8 sUpdateMetadataResponseF sUpdateMetadataResponseX (Int.tmod x (8 + 1)) (Tree.mk n1 s2 b3 l4 u5)).length) c107)), (49, .v (.slice A160 ((([] : Bs) ++ dst ++ (writeB 8 sUpdateMetadataResponseF sUpdateMetadataResponseX (Int.tmod x (8 + 1)) (Tree.mk n1 s2 b3 l4 u5))).length) c161))]) (by simp only [List.length_append, List.length_cons, List.length_nil, Nat.zero_add])
      clear hE166
      clear hE171
      refine of_op (wpOp_call hE169 (f := 23) (vs := [.slice A118 ((dst ++ (writeB 8 sUpdateMetadataResponseF sUpdateMetadataResponseX (Int.tmod x (8 + 1)) (Tree.mk n1 s2 b3 l4 u5))).length) c119, .slice A160 ((([] : Bs) ++ dst ++ (writeB 8 sUpdateMetadataResponseF sUpdateMetadataResponseX (Int.tmod x (8 + 1)) (Tree.mk n1 s2 b3 l4 u5))).length) c161]) (d := 50) (by kernel_rfl) Tryd.call23 (sSame _ _ _ _ (dst ++ (writeB 8 sUpdateMetadataResponseF sUpdateMetadataResponseX (Int.tmod x (8 + 1)) (Tree.mk n1 s2 b3 l4 u5))) (([] : Bs) ++ dst ++ (writeB 8 sUpdateMetadataResponseF sUpdateMetadataResponseX (Int.tmod x (8 + 1)) (Tree.mk n1 s2 b3 l4 u5))) _ _ (octs_own (hW168.own 1 _ rfl) (by first | omega | (simp only [be_length]; exact Nat.le_trans (widthI_le _) (by decide)) | (have := hroom; omega) | (have := hmade; omega) | (simp only [List.length_append, List.length_nil]; omega)) (F := fun _ _ => True) (fun _ _ _ => trivial)) (octs_own (hW168.own 2 _ rfl) (by first | omega | (simp only [be_length]; exact Nat.le_trans (widthI_le _) (by decide)) | (have := hroom; omega) | (have := hmade; omega) | (simp only [List.length_append, List.length_nil]; omega)) (F := fun _ _ => True) (fun _ _ _ => trivial))) ?_)
      rintro e_ w173 ⟨rfl, hs172⟩
      refine ⟨_, rfl, fun a174 hE175 => ?_⟩
      have hW176 := hW168.next_nil hs172
      have hF177 := hW168.frN hs172
      clear hE169 hW168
      refine go_rn [9, 10] [] [(6, .v (.bool (decide (dst ++ (writeB 8 sUpdateMetadataResponseF sUpdateMetadataResponseX (Int.tmod x (8 + 1)) (Tree.mk n1 s2 b3 l4 u5)) = ([] : Bs) ++ dst ++ (writeB 8 sUpdateMetadataResponseF sUpdateMetadataResponseX (Int.tmod x (8 + 1)) (Tree.mk n1 s2 b3 l4 u5))))))] hW176 hE175 fun a178 hE179 => ?_
      clear hE175
      refine wpOps_nil ?_
      refine then_normal ?_
      refine wp_ret ?_
      refine leave hE179 hW176.cells (v := .bool (decide (dst ++ (writeB 8 sUpdateMetadataResponseF sUpdateMetadataResponseX (Int.tmod x (8 + 1)) (Tree.mk n1 s2 b3 l4 u5)) = ([] : Bs) ++ dst ++ (writeB 8 sUpdateMetadataResponseF sUpdateMetadataResponseX (Int.tmod x (8 + 1)) (Tree.mk n1 s2 b3 l4 u5))))) (by kernel_rfl) ?_
      exact ⟨by simp, hW176.step⟩

theorem fit_keys {w : World} {F : Nat → Nat → Prop} {ct : List Value} {t : Tree} (ht : TreeR w F ct t) (v : Int) (d : Nat) (l : List Fld) : ∀ x ∈ (fitT v d l t).U, 0 ≤ x.1 ∧ x.1 < 4294967296 := by
  obtain ⟨n, s, b, ll, u, A1, c1, A2, c2, A3, c3, xs, rfl, _, _, _, _, hu⟩ := ht.open_
  rw [fit_U]
  intro y hy
  obtain ⟨x, hx, rfl⟩ := List.mem_map.1 hy
  exact tags_range hu x (unknownT_mem x hx)
theorem closeUpdateMetadataResponse (x : Int) (hx : 0 ≤ x ∧ x ≤ 255) (dst : Bs) {A1 : Option Addr} {c1 : Nat} (ct : List Value) (t : Tree) (w : World) (F : Nat → Nat → Prop) (hd : Octs w F A1 c1 dst) (hdl : dst.length ≤ 1048576) (ht : TreeR w F ct t) (hsz : t.size ≤ 8388608) : Calls Tryd.prog 5 #[.int .u8 x, .slice A1 dst.length c1, .agg ct.toArray] w (Gives w (.bool true)) := by
  obtain ⟨g0, g1⟩ := ver_ok (m := 8 + 1) hx.1 hx.2 (by decide) (by decide)
  have hp : tUpdateMetadataResponse (IntKind.i16.wrap (Int.tmod x (8 + 1))) (fitT (Int.tmod x (8 + 1)) 8 sUpdateMetadataResponseF t) = writeB 8 sUpdateMetadataResponseF sUpdateMetadataResponseX (Int.tmod x (8 + 1)) t := by rw [i16_small g0 g1]; exact pureUpdateMetadataResponse (Int.tmod x (8 + 1)) g0 g1 t
  have h1 := writeB_le 8 sUpdateMetadataResponseF sUpdateMetadataResponseX (Int.tmod x (8 + 1)) t
  have h2 : costL sUpdateMetadataResponseF ≤ 131000 := by decide +kernel
  have h3 := Nat.mul_le_mul h2 hsz
  exact lawUpdateMetadataResponse x hx.1 (by omega) dst ct t w F hd hdl ht (by omega) (by omega) (canfitUpdateMetadataResponse (Int.tmod x (8 + 1)) t) (fit_keys ht _ _ _) hp

end Go.Proofs.YthfdlmnfjcpioaaDoor.ME

/- FnBehindUpdateMetadataResponse: the statement: of every version, every slice of octets and every tree of the bulk that the statement speaks of the law returns true, and leaves its arguments as they are; and the card. Own work. -/
namespace Go.Proofs.YthfdlmnfjcpioaaDoor.ME
open Go
open Go.ChangeShapes Go.WideShapes Go.ChangeAt Go.RowKit
set_option linter.unusedVariables false
set_option linter.unusedSimpArgs false

theorem ownKnob_ : ownKnob Tryd.prog.godebug = none := by kernel_rfl
theorem laidOut_ : laidOutB Tryd.prog = true := by kernel_rfl
theorem treeTys : TreeTys Tryd.prog 26 23 24 70 22 2 4 68 5 := ⟨by kernel_rfl, by kernel_rfl, by kernel_rfl, by kernel_rfl, by kernel_rfl, by kernel_rfl, by kernel_rfl, by kernel_rfl, by kernel_rfl, by kernel_rfl⟩
theorem open_first {H : Type} {enc : TypeId × Value → H} {P : Program} {W : World} {base b' : Nat} {sp : Nat → Bool} {hd : Bool} {t0 t1 t2 : TypeId} {v0 v1 v2 : Value} {d0 : DataW H} {p0 : List MemPlace} (hu : P.underlying t0 = some (.int .u8))
    (hval : ∀ (j : Nat) (t : TypeId) (v : Value), #[t0, t1, t2][j]? = some t → #[v0, v1, v2][j]? = some v → Value.okWide P W .any base t v) (h : DataW.Trod enc P W b' sp hd t0 v0 d0 p0) : ∃ x, v0 = .int .u8 x ∧ d0 = .lit (.int .u8 x) ∧ p0 = [] ∧ (Lit.int .u8 x).wf = true :=
  open_int hu (hval 0 t0 v0 rfl rfl) h
theorem agg_of {v : Value} {cs : List Value} (h : v.cells.toList = cs) (h5 : cs.length = 5) : v = .agg cs.toArray := by
  subst h
  cases v <;> first | (simp [Value.cells] at h5; done) | simp [Value.cells]
theorem slice_of {A : Option Addr} {n c : Nat} {a : Option Addr} {l k : Nat} (h : (Value.slice a l k).cells.toList = [.slice A n c]) : Value.slice a l k = .slice A n c := by
  simpa [Value.cells] using h

set_option maxRecDepth 100000 in
theorem contract_ (H : Type) (enc : TypeId × Value → H) (W : World) (base : Nat) (args : Array Value) (ds gs : List (DataW H)) (before : List MemPlace)
    (hval : ∀ (j : Nat) t v, Tryd.f5.params[j]? = some t → args[j]? = some v → Value.okWide Tryd.prog W .any base t v)
    (hW : DataW.Whole enc Tryd.prog Tryd.f5.params.toList Rows.fnBehindUpdateMetadataResponseSpec.vars false W args.toList ds gs before) (hk : Rows.uptoSmall H (ds ++ gs) = true) :
    Calls Tryd.prog 5 args W fun e W' => ∃ v, e = .returned v ∧ Rows.fnBehindUpdateMetadataResponseSpec.post enc Tryd.prog Tryd.f5 false true false false W args v W' := by
  have hW' := hW
  obtain ⟨p, q, hA0, hV, rfl, hfz, hnd⟩ := hW
  have hA : DataW.TrodAll enc Tryd.prog W 0 (fun _ => true) true Tryd.f5.params.toList args.toList ds p := hA0
  rw [Tryd.params5] at hA hval
  obtain ⟨v0, v1, v2, d0, d1, d2, p0, p1, p2, rfl, rfl, rfl, h0, h1, h2⟩ := trodAll_three hA
  obtain ⟨rfl, rfl⟩ := trodVars_none hV
  obtain ⟨x, rfl, rfl, rfl, w0⟩ := open_first Tryd.underlying5 @hval h0
  have hx : 0 ≤ x ∧ x ≤ 255 := by simpa [Lit.wf, IntKind.min, IntKind.max, IntKind.signed, IntKind.bits] using w0
  have hb : Rows.uptoBulk d1 ≤ 1048576 ∧ Rows.uptoBulk d2 ≤ 1048576 := by
    have h : Rows.uptoBulkAll ([DataW.lit (H := H) (.int .u8 x), d1, d2] ++ []) ≤ 1048576 := of_decide_eq_true hk
    simp only [List.append_nil, Rows.uptoBulkAll] at h
    omega
  obtain ⟨fuel1, hf1⟩ := h1
  obtain ⟨A1, c1, dst, hcs1, hd, hdl⟩ := trod_octs treeTys hf1 hb.1
  obtain ⟨a1_, l1_, k1_, rfl⟩ := okWide_slice Tryd.underlying22 (hval 1 22 v1 rfl rfl)
  have hv1 := slice_of hcs1
  rw [hv1] at hW' hval ⊢
  obtain ⟨fuel, hf⟩ := h2
  obtain ⟨t, ht, hsz⟩ := trod_tree treeTys fuel _ _ hf hb.2
  have hdl' : dst.length ≤ 1048576 := Nat.le_trans hdl hb.1
  replace hsz : t.size ≤ 8388608 := Nat.le_trans hsz (by show 8 * Rows.uptoBulk d2 ≤ 8388608; omega)
  have hagg := agg_of rfl ht.five
  generalize v2.cells.toList = ct at ht hagg
  subst hagg
  clear hf hf1
  refine (closeUpdateMetadataResponse x hx dst _ t W (fun _ _ => True) hd hdl' ht hsz).mono fun e W' h => ?_
  obtain ⟨rfl, hs⟩ := h
  exact ⟨_, rfl, post_step hW' hs laidOut_ (by rw [Tryd.params5]; decide +kernel) rfl rfl rfl (fun _ _ _ => trodAll_cons_mk (shut_bool Tryd.underlying4 _) trodAll_mk0)⟩

/-- the door's own heap meets the condition -/
theorem door_met (os : Os) (args : Array Value) : laidMetH Tryd.prog Rows.fnBehindUpdateMetadataResponseUptoRow.laid ((World.doorLaid Tryd.prog 400 os).forCall (fun _ _ => 0) ⟨#[], args, []⟩).memory :=
  laidMetH_of_parts3 (fuel := 8) (laidMet_of_run' 8 (by kernel_rfl) (by kernel_rfl)) (by kernel_rfl) (by kernel_rfl)

set_option maxRecDepth 100000 in
theorem witness_ (os : Os) (H : Type) (enc : TypeId × Value → H) : ∃ (w : World) (tape : Tape) (i : Input), w.os = os ∧ (w.forCall tape i).Shaped Tryd.prog ∧ i.vars = [] ∧ Input.okWide Tryd.prog (w.forCall tape i) .any w.heap.size 5 i ∧
      (((Rows.OpenSpec.upto Rows.fnBehindUpdateMetadataResponseSpec).pre enc Tryd.prog Tryd.f5 Rows.fnBehindUpdateMetadataResponseUptoRow.domain false (w.forCall tape i).memory i.args ∧ laidMetH Tryd.prog Rows.fnBehindUpdateMetadataResponseUptoRow.laid (w.forCall tape i).memory) ∧ sizedMet enc Tryd.prog Tryd.f5 (Rows.OpenSpec.upto Rows.fnBehindUpdateMetadataResponseSpec) false (w.forCall tape i).memory i.args) ∧
      ({} : Assume).holds Tryd.prog (lone (Frame.enter Tryd.prog 5 i.args .normal) [] (w.forCall tape i)) := by
  have hok : Input.okWideB Tryd.prog ((World.doorLaid Tryd.prog 400 os).forCall (fun _ _ => 0) ⟨#[], #[.int .u8 0, .slice none 0 0, .agg #[.int .i64 0, .slice none 0 0, .bool false, .slice none 0 0, .slice none 0 0]], []⟩) 5 ⟨#[], #[.int .u8 0, .slice none 0 0, .agg #[.int .i64 0, .slice none 0 0, .bool false, .slice none 0 0, .slice none 0 0]], []⟩ = true := by kernel_rfl
  refine ⟨World.doorLaid Tryd.prog 400 os, fun _ _ => 0, ⟨#[], #[.int .u8 0, .slice none 0 0, .agg #[.int .i64 0, .slice none 0 0, .bool false, .slice none 0 0, .slice none 0 0]], []⟩, rfl, World.shaped_of_RefB (by kernel_rfl) (by kernel_rfl), (Input.okWide_of_okWideB (base := 0) hok).1, (Input.okWide_of_okWideB hok).2,
    ⟨⟨(OpenSpec.pre_some (k := Rows.uptoSmall) rfl _ _ _ _).2 ⟨[.lit (.int .u8 0), .nil, .agg [.lit (.int .i64 0), .nil, .lit (.bool false), .nil, .nil]], [], [], DataW.Whole_of_whole (fuel := 8) (x := ([.lit (.int .u8 0), .nil, .agg [.lit (.int .i64 0), .nil, .lit (.bool false), .nil, .nil]], [], [])) (by kernel_rfl), rfl, by kernel_rfl⟩, door_met os _⟩, sizedMet_of_sizedB (s := (Rows.OpenSpec.upto Rows.fnBehindUpdateMetadataResponseSpec).bare) (fuel := 8) (by kernel_rfl)⟩, ?_⟩
  simp only [Assume.holds]
  exact ⟨by simp, by simp, by simp, by simp, by simp⟩

set_option maxRecDepth 100000 in
theorem lifted_ (os : Os) (started : os.Started) (H : Type) (enc : TypeId × Value → H) (F : Stop.Interp) :
    ReturnsInHanded {} Tryd.checked os 5 .any (fun w args => ((Rows.OpenSpec.upto Rows.fnBehindUpdateMetadataResponseSpec).pre enc Tryd.prog Tryd.f5 Rows.fnBehindUpdateMetadataResponseUptoRow.domain false w args ∧ laidMetH Tryd.prog Rows.fnBehindUpdateMetadataResponseUptoRow.laid w) ∧ sizedMet enc Tryd.prog Tryd.f5 (Rows.OpenSpec.upto Rows.fnBehindUpdateMetadataResponseSpec) false w args) (((Rows.OpenSpec.upto Rows.fnBehindUpdateMetadataResponseSpec).at F).post enc Tryd.prog Tryd.f5 false true false false) := by
  refine returnsInHanded_of_calls ownKnob_ started (by kernel_rfl) (witness_ os H enc) ?_
  intro w tape i _ _ _ hok hpre hholds
  obtain ⟨_, _, _, fn', hfn', _, _, _, _, hval⟩ := hok
  have e : fn' = Tryd.f5 := Option.some.inj (hfn'.symm.trans Tryd.func5)
  subst e
  obtain ⟨ds, gs, before, hw, hc, hkk⟩ := (OpenSpec.pre_some (k := Rows.uptoSmall) rfl _ _ _ _).1 hpre.1.1
  have hw' := DataW.Whole.of_heap (w' := w.forCall tape i) (by rfl) hw
  refine (contract_ H enc (w.forCall tape i) w.heap.size i.args ds gs before hval hw' hkk).mono fun e W' ⟨v, he, hp⟩ => ?_
  subst he
  exact ChangeSpec.post_blind hp

theorem holds_ : Rows.FnBehindUpdateMetadataResponseUptoSaid :=
  OpenClaim.holds_of_cond 5 Tryd.f5 rfl rfl rfl rfl rfl rfl rfl ⟨rfl, rfl, rfl, rfl, rfl⟩ rfl rfl rfl rfl rfl (by kernel_rfl) Tryd.func5 (by kernel_rfl)
    (of_decide_eq_true (by kernel_rfl)) (by unfold Func.isWrapper; first | (rw [if_pos (by decide +kernel)]; kernel_rfl) | (rw [if_neg (by decide +kernel)]; exact ⟨rfl, rfl⟩))
    (fun os started H enc _ F => lifted_ os started H enc F)
end Go.Proofs.YthfdlmnfjcpioaaDoor.ME
namespace Go.Proofs.YthfdlmnfjcpioaaDoor
open Go
/-- the card -/
theorem fnBehindUpdateMetadataResponse_holds : Rows.FnBehindUpdateMetadataResponseUptoCardSaid :=
  Claim7.holds_tied_plain_at .later [] [.sentinel] true (true, "a9d4e93d7c5de2b4ee29e59dab77210d618123e4c744bbc927f088067c577ec1") false ME.holds_ (fun _ h => by cases h) (by kernel_rfl) (fun _ h => by cases h) fnBehindUpdateMetadataResponseUpto_row_tie rfl ⟨rfl, rfl⟩ (by kernel_rfl) rfl
    (fun f fn hf hfn => by
      obtain rfl : f = 5 := Option.some.inj ((show Tryd.prog.funcNamed "pub-mailsack/laws.FnBehindUpdateMetadataResponse" = some 5 by kernel_rfl).symm.trans hf) |>.symm
      obtain rfl : fn = Tryd.f5 := (Option.some.inj (Tryd.func5.symm.trans hfn)).symm
      exact ⟨by kernel_rfl, fun j t ht => by
        rw [Tryd.params5] at ht
        have hm : t ∈ [5, 22, 26] := by simpa using Array.mem_of_getElem? ht
        have hall : ([5, 22, 26].all fun u => !Tryd.prog.wantsStandIn u) = true := by kernel_rfl
        exact (show Tryd.prog.wantsStandIn t = false by simpa using List.all_eq_true.1 hall t hm)⟩)
    (by kernel_rfl)
end Go.Proofs.YthfdlmnfjcpioaaDoor
