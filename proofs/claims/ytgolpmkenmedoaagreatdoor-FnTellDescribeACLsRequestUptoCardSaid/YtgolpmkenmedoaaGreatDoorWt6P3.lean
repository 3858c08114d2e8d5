/- The texts of a claim, put together: the engine, the contracts, the law. Own work. -/
import Derived.Test.YtgolpmkenmedoaaGreatDoorWt6P2
import Derived.Deep.LoopGhost
import Derived.Lib.ConvBytes
namespace Go.Proofs.YtgolpmkenmedoaaGreatDoor.ME
open Go
open Go.RowKit
set_option linter.unusedVariables false
set_option linter.unusedSimpArgs false
set_option maxRecDepth 20000
structure TR (w w' : World) (br p2 p3 : Nat) (F : Nat → Nat → Prop) (A : Option Addr) (n c : Nat) (s : Bs) (m : Option Nat) (u : List (Int × Bs)) : Prop where
 step : Step w w' (RdM br)
 old : br < w.heap.size
 new2 : w.heap.size ≤ p2
 new3 : w.heap.size ≤ p3
 ne : p2 ≠ p3
 rd : Str w' br [.slice A n c, .bool false]
 s2 : Str w' p2 [.map none]
 s3 : Str w' p3 [.map m]
 oct : RdS w' (fun b o => F b o ∧ b < w.heap.size) A n c s
 own : OwnM w' (fun b o => F b o ∧ b < w.heap.size) m u
 new : ∀ r, m = some r → w.heap.size ≤ r
theorem TR.mne {w w' : World} {br p2 p3 : Nat} {F : Nat → Nat → Prop} {A : Option Addr} {n c : Nat} {s : Bs} {m : Option Nat} {u : List (Int × Bs)} (h : TR w w' br p2 p3 F A n c s m u) : m ≠ some p2 ∧ m ≠ some p3 := by
 refine ⟨fun e => ?_, fun e => ?_⟩
 ·obtain ⟨es, clk, h1, _⟩ := h.own.some_ p2 e
  exact cell_block (h.s2.at_ 0 _ rfl) h1 rfl
 ·obtain ⟨es, clk, h1, _⟩ := h.own.some_ p3 e
  exact cell_block (h.s3.at_ 0 _ rfl) h1 rfl
theorem TR.read {w w' w1 : World} {br p2 p3 : Nat} {F : Nat → Nat → Prop} {A A' : Option Addr} {n c n' c' : Nat} {s s' : Bs} {m : Option Nat} {u : List (Int × Bs)} (h : TR w w' br p2 p3 F A n c s m u) (hFd : ∀ b o, F b o → ¬ RdM br b o) (hs : Str w1 br [.slice A' n' c', .bool false]) (hr : RdS w1 (fun b o => F b o ∧ b < w.heap.size) A' n' c' s') (hst : Step w' w1 (RdM br)) : TR w w1 br p2 p3 F A' n' c' s' m u := by
 have ho := h.old
 have h2 := h.new2
 have h3 := h.new3
 refine ⟨h.step.trans hst fun _ _ _ e => e, ho, h2, h3, h.ne, hs, h.s2.move hst fun o e => ?_, h.s3.move hst fun o e => ?_, hr, h.own.move hst (fun b o hg _ => hFd b o hg.1) keepF (fun r o e he => ?_), h.new⟩
 ·have := e.1; omega
 ·have := e.1; omega
 ·have := h.new r e; have := he.1; omega
theorem TR.set {w w' : World} {br p2 p3 : Nat} {F : Nat → Nat → Prop} {A A1 : Option Addr} {n c c1 j : Nat} {s x : Bs} {k : Int} {m : Option Nat} {u : List (Int × Bs)} (h : TR w w' br p2 p3 F A n c s m (u.take j)) (hsort : Sorted u) (hj : u[j]? = some (k, x)) (hx : Octs w' (fun b o => F b o ∧ b < w.heap.size) A1 c1 x) (hk : 0 ≤ k ∧ k < 4294967296) :
  Calls Tryz.prog 225 [.pointer (some ⟨p3, 0, none⟩), .int .u32 k, .slice A1 x.length c1].toArray w' (fun e w1 => e = .returned (.tuple #[]) ∧ ∃ r, TR w w1 br p2 p3 F A n c s (some r) (u.take (j + 1))) := by
 have hcell : w'.cell? ⟨p3, 0, none⟩ = some (.map m) := h.s3.at_ 0 _ rfl
 have hfz : w'.frozen? ⟨p3, 0, none⟩ = false := h.s3.frz 0 (by simp)
 have hnew := h.new
 have h2 := h.new2
 have h3 := h.new3
 have ho := h.old
 have hsz := h.step.size
 obtain ⟨m2, m3⟩ := h.mne
 refine (kTagsSet hcell hfz h.own hx hk (fun b' o' hg => ⟨fun e => ?_, fun e => ?_⟩) (fun b' o' hg => Nat.lt_of_lt_of_le hg.2 hsz)).mono ?_
 ·have := hg.2; omega
 ·have := hnew b' e; have := hg.2; omega
 ·rintro e w1 ⟨rfl, r, g1, g2, g3, g4, g5⟩
  rw [setT_next hsort hj] at g3
  refine ⟨rfl, r, h.step.trans g5 fun b o hl e => ?_, ho, h2, h3, h.ne, h.rd.move g5 fun o e => ?_, h.s2.move g5 fun o e => ?_, ⟨fun i v hi => ?_, fun i hi => ?_⟩, ⟨h.oct.len, Octs.move h.oct.oct g5 (fun b o hg _ e => ?_) keepF⟩, g3, fun r' hr' => ?_⟩
  ·rcases e with ⟨e1, _⟩ | e1
   ·omega
   ·have := hnew b e1; omega
  ·rcases e with ⟨e1, _⟩ | e1
   ·omega
   ·have := hnew br e1; omega
  ·rcases e with ⟨e1, _⟩ | e1
   ·exact h.ne e1
   ·exact m2 e1
  ·cases i with
   | zero =>
    simp only [List.getElem?_cons_zero, Option.some.injEq] at hi
    subst hi
    exact g1
   | succ i => simp at hi
  ·have : i = 0 := by simp at hi; omega
   subst this
   exact g2
  ·have := hg.2
   rcases e with ⟨e1, _⟩ | e1
   ·omega
   ·have := hnew b e1; omega
  ·obtain rfl := Option.some.inj hr'
   rcases g4 with g4 | g4
   ·exact hnew _ g4
   ·exact Nat.le_trans hsz g4
theorem tagsR_cons (x : Int × Bs) (u : List (Int × Bs)) : tagsR (x :: u) = tagR x.1 x.2 ++ tagsR u := by unfold tagsR; rw [List.flatMap_cons]
theorem tagsR_drop {u : List (Int × Bs)} {j : Nat} {k : Int} {x : Bs} (h : u[j]? = some (k, x)) (rest : Bs) : tagsR (u.drop j) ++ rest = uv k.toNat ++ (uv x.length ++ (x ++ (tagsR (u.drop (j + 1)) ++ rest))) := by
 obtain ⟨hlt, he⟩ := List.getElem?_eq_some_iff.1 h
 rw [List.drop_eq_getElem_cons hlt, he, tagsR_cons]
 simp only [tagR, List.append_assoc]
theorem rTags (u : List (Int × Bs)) (rest : Bs) (hsort : Sorted u) (hk : ∀ x ∈ u, 0 ≤ x.1 ∧ x.1 < 4294967296) (hul : u.length ≤ 1000000) (hxl : ∀ x ∈ u, x.2.length < 4294967296) {br : Nat} {A : Option Addr} {m c : Nat} {w : World} {F : Nat → Nat → Prop} (hst : Str w br [.slice A m c, .bool false]) (hr : RdS w F A m c (uv u.length ++ (tagsR u ++ rest))) (hFd : ∀ b o, F b o → ¬ RdM br b o) :
  Calls Tryz.prog 182 #[.pointer (some ⟨br, 0, none⟩)] w (RdPost w br (Fp F w) rest fun v w' => ∃ mm, v = .agg #[.map mm] ∧ MapR w' (Fp F w) mm u) := by
 have hbr : br < w.heap.size := World.lt_of_cell (hst.at_ 0 _ rfl)
 refine enter (n := 24) (vs := [.pointer (some ⟨br, 0, none⟩)]) Tryz.func182 rfl Tryz.ntmps182 kz fun a hE => ?_
 have hW := WOk.start w Nil
 refine go_seq_region [0] kz ?_
 refine of_op (wpOp_alloc hW hE (d := 2) (cs := [.map none]) kz fun p2 a1 w1 hp2 hz2 hF1 hW1 hE1 => wpOps_nil (then_normal ?_))
 refine go_seq_region [0] kz ?_
 refine of_op (wpOp_alloc hW1 hE1 (d := 3) (cs := [.map none]) kz fun p3 a2 w2 hp3 hz3 hF2 hW2 hE2 => wpOps_nil (then_normal ?_))
 have hne : p2 ≠ p3 := by
  have h1 := hW1.live 0 _ rfl
  simp only at h1
  omega
 have hS : Step w w2 Nil := hW2.step
 have hT0 : TR w w2 br p2 p3 F A m c (uv u.length ++ (tagsR u ++ rest)) none (u.take 0) := by
  refine ⟨hS.mono fun _ _ _ h => h.elim, hbr, hz2, hz3, hne, hst.move hS (fun _ h => h), Str.of hW2 0 rfl, Str.of hW2 1 rfl, hr.move hS nilM (fun b o h hb => ⟨h, hb⟩), ?_, fun _ h => by cases h⟩
  rw [List.take_zero]
  exact OwnM.nil _ _
 refine wp_seq ?_
 have hE3 := (((hE2.recast 2 (.p 0 0) (.v (.pointer (some ⟨p2, 0, none⟩))) rfl rfl trivial).recast 3 (.p 1 0) (.v (.pointer (some ⟨p3, 0, none⟩))) rfl rfl trivial).pick (ks := [0, 2, 3]) (env' := [(0, .v (.pointer (some ⟨br, 0, none⟩))), (2, .v (.pointer (some ⟨p2, 0, none⟩))), (3, .v (.pointer (some ⟨p3, 0, none⟩)))]) kz).cutTb 0 kz
 have hWz := WOk.start w2 Nil
 refine go_seq_region [0, 1, 2] kz ?_
 refine go_rn [0] [1, 2] [(0, .v (.pointer (some ⟨br, 0, none⟩))), (2, .v (.pointer (some ⟨p2, 0, none⟩))), (3, .v (.pointer (some ⟨p3, 0, none⟩))), (7, .v (.pointer (some ⟨br, 0, none⟩)))] hWz hE3 fun a3 hE4 => ?_
 have hFd' : ∀ b o, (F b o ∧ b < w.heap.size) → ¬ RdM br b o := fun b o h => hFd b o h.1
 refine of_op (wpOp_call hE4 (f := 222) (vs := [.pointer (some ⟨br, 0, none⟩)]) (d := 8) kz Tryz.call222 (rUvarint u.length (by omega) (tagsR u ++ rest) hT0.rd hT0.oct hFd') ?_)
 rintro e_ w3 ⟨_, A3, n3, c3, rfl, hs3, hr3, hst3, rfl⟩
 have hT1 := hT0.read hFd hs3 hr3 hst3
 refine ⟨_, rfl, fun a4 hE5 => ?_⟩
 refine go_rn [2] [] [(0, .v (.pointer (some ⟨br, 0, none⟩))), (2, .v (.pointer (some ⟨p2, 0, none⟩))), (3, .v (.pointer (some ⟨p3, 0, none⟩))), (4, .v (.int .u32 ((u.length : Nat) : Int)))] (WOk.start w3 Nil) hE5 fun a5 hE6 => wpOps_nil (then_normal ?_)
 refine wp_block ?_
 refine wp_loop_ghost (fun q a_ w_ => ∃ (j : Nat) (m_ : Option Nat) (A_ : Option Addr) (n_ c_ : Nat), q = u.length - j ∧ j ≤ u.length ∧ EnvOk 24 [] [(0, .v (.pointer (some ⟨br, 0, none⟩))), (2, .v (.pointer (some ⟨p2, 0, none⟩))), (3, .v (.pointer (some ⟨p3, 0, none⟩))), (4, .v (.int .u32 ((u.length - j : Nat) : Int)))] a_ ∧ TR w w_ br p2 p3 F A_ n_ c_ (tagsR (u.drop j) ++ rest) m_ (u.take j)) u.length
  ⟨0, none, A3, n3, c3, by omega, by omega, hE6, hT1⟩ ?_
 rintro q aq wq ⟨j, m_, A_, n_, c_, rfl, hj, hEq, hT⟩
 have hWq := WOk.start wq Nil
 refine wp_seq (go_sp [(0, .v (.pointer (some ⟨br, 0, none⟩))), (2, .v (.pointer (some ⟨p2, 0, none⟩))), (3, .v (.pointer (some ⟨p3, 0, none⟩))), (4, .v (.int .u32 ((u.length - j : Nat) : Int))), (10, .v (.bool (decide (((u.length - j : Nat) : Int) > 0))))] hWq hEq fun aq1 hE7 => ?_)
 refine cond_of hE7 (b := decide (((u.length - j : Nat) : Int) > 0)) kz (fun hc => ?_) (fun hc => ?_)
 ·have hlt : j < u.length := by have := of_decide_eq_true hc; omega
  obtain ⟨⟨k, x⟩, hu⟩ : ∃ y, u[j]? = some y := ⟨_, List.getElem?_eq_getElem hlt⟩
  have hk' := hk (k, x) (List.mem_of_getElem? hu)
  have hx' := hxl (k, x) (List.mem_of_getElem? hu)
  dsimp only at hk' hx'
  have hoct := hT.oct
  rw [tagsR_drop hu rest] at hoct
  refine wp_skip (then_normal (wp_seq (wp_block ?_)))
  refine go_seq_region [0, 1, 2, 3, 4, 5] kz ?_
  refine go_rn [0] [1, 2, 3, 4, 5] [(0, .v (.pointer (some ⟨br, 0, none⟩))), (2, .v (.pointer (some ⟨p2, 0, none⟩))), (3, .v (.pointer (some ⟨p3, 0, none⟩))), (4, .v (.int .u32 ((u.length - j : Nat) : Int))), (13, .v (.pointer (some ⟨br, 0, none⟩)))] hWq hE7 fun aq2 hE8 => ?_
  refine of_op (wpOp_call hE8 (f := 222) (vs := [.pointer (some ⟨br, 0, none⟩)]) (d := 14) kz Tryz.call222 (rUvarint k.toNat (by omega) _ hT.rd hoct hFd') ?_)
  rintro e_ wa ⟨_, Aa, na, ca, rfl, hsa, hra, hsta, rfl⟩
  have hTa := hT.read hFd hsa hra hsta
  refine ⟨_, rfl, fun aq3 hE9 => ?_⟩
  refine go_rn [2] [3, 4, 5] [(0, .v (.pointer (some ⟨br, 0, none⟩))), (2, .v (.pointer (some ⟨p2, 0, none⟩))), (3, .v (.pointer (some ⟨p3, 0, none⟩))), (4, .v (.int .u32 ((u.length - j : Nat) : Int))), (14, .v (.int .u32 ((k.toNat : Nat) : Int))), (15, .v (.pointer (some ⟨br, 0, none⟩)))] (WOk.start wa Nil) hE9 fun aq4 hE10 => ?_
  refine of_op (wpOp_call hE10 (f := 222) (vs := [.pointer (some ⟨br, 0, none⟩)]) (d := 16) kz Tryz.call222 (rUvarint x.length hx' _ hTa.rd hTa.oct hFd') ?_)
  rintro e_ wb ⟨_, Ab, nb, cb, rfl, hsb, hrb, hstb, rfl⟩
  have hTb := hTa.read hFd hsb hrb hstb
  refine ⟨_, rfl, fun aq5 hE11 => ?_⟩
  refine go_rn [4, 5] [] [(0, .v (.pointer (some ⟨br, 0, none⟩))), (2, .v (.pointer (some ⟨p2, 0, none⟩))), (3, .v (.pointer (some ⟨p3, 0, none⟩))), (4, .v (.int .u32 ((u.length - j : Nat) : Int))), (5, .v (.int .u32 ((k.toNat : Nat) : Int))), (6, .v (.int .u32 ((x.length : Nat) : Int)))] (WOk.start wb Nil) hE11 fun aq6 hE12 => wpOps_nil (then_normal ?_)
  refine go_region [0, 1, 2, 3, 4, 5] kz ?_
  refine go_rn [0, 1, 2, 3] [4, 5] [(0, .v (.pointer (some ⟨br, 0, none⟩))), (2, .v (.pointer (some ⟨p2, 0, none⟩))), (3, .v (.pointer (some ⟨p3, 0, none⟩))), (4, .v (.int .u32 ((u.length - j : Nat) : Int))), (17, .v (.int .u32 ((k.toNat : Nat) : Int))), (18, .v (.pointer (some ⟨br, 0, none⟩))), (20, .v (.int .i64 (IntKind.i64.wrap ((x.length : Nat) : Int))))] (WOk.start wb Nil) hE12 fun aq7 hE13 => ?_
  rw [show IntKind.i64.wrap ((x.length : Nat) : Int) = ((x.length : Nat) : Int) by rw [i64w]; omega, show ((k.toNat : Nat) : Int) = k by omega] at hE13
  refine of_op (wpOp_call hE13 (f := 224) (vs := [.pointer (some ⟨br, 0, none⟩), .int .i64 ((x.length : Nat) : Int)]) (d := 21) kz Tryz.call224 (rSpan x _ hTb.rd hTb.oct hFd') ?_)
  rintro e_ wc ⟨_, Ac, nc, cc, rfl, hsc, hrc, hstc, Ax, rfl, hox⟩
  have hTc := hTb.read hFd hsc hrc hstc
  refine ⟨_, rfl, fun aq8 hE14 => ?_⟩
  refine of_op (wpOp_call hE14 (f := 225) (vs := [.pointer (some ⟨p3, 0, none⟩), .int .u32 k, .slice Ax x.length x.length]) (d := 22) kz Tryz.call225 (hTc.set hsort hu hox hk') ?_)
  rintro e_ wd ⟨rfl, r, hTd⟩
  refine ⟨_, rfl, fun aq9 hE15 => wpOps_nil (block_normal (then_normal ?_))⟩
  refine go_region [0, 1, 2] kz (go_rn [0, 1, 2] [] [(0, .v (.pointer (some ⟨br, 0, none⟩))), (2, .v (.pointer (some ⟨p2, 0, none⟩))), (3, .v (.pointer (some ⟨p3, 0, none⟩))), (4, .v (.int .u32 (IntKind.u32.wrap (((u.length - j : Nat) : Int) - 1))))] (WOk.start wd Nil) hE15 fun aqa hE16 => wpOps_nil (then_normal ?_))
  rw [show IntKind.u32.wrap (((u.length - j : Nat) : Int) - 1) = ((u.length - (j + 1) : Nat) : Int) by rw [wrap_u32]; omega] at hE16
  exact ⟨u.length - (j + 1), by omega, j + 1, some r, Ac, nc, cc, rfl, by omega, hE16, hTd⟩
 ·obtain rfl : j = u.length := by have := of_decide_eq_false hc; omega
  refine wp_exit (then_exit (then_exit (block_exit (then_normal ?_))))
  rw [List.take_length, List.drop_length] at hT
  have hT' : TR w wq br p2 p3 F A_ n_ c_ rest m_ u := hT
  have h2 := hT'.new2
  have h3 := hT'.new3
  have hW9 : WOk w (RdM br) wq ([] ++ [⟨p3, 0, [.map m_], true⟩] ++ [⟨p2, 0, [.map none], true⟩]) [] := by
   have hb : WOk w (RdM br) wq [] [] := ⟨hT'.step, fun i o hi => by simp at hi, fun i o hi => by simp at hi, fun i o hi => by simp at hi, fun i j o o' _ hi => by simp at hi, fun i r hi => by simp at hi, fun i r hi => by simp at hi, fun i r hi => by simp at hi, fun i j r r' _ hi => by simp at hi⟩
   have h4 := hb.add ⟨p3, 0, [.map m_], true⟩ (World.lt_of_cell (hT'.s3.at_ 0 _ rfl)) (fun j v hj => by rw [Nat.zero_add]; exact hT'.s3.at_ j v hj) (fun _ j hj => ⟨.inl h3, by rw [Nat.zero_add]; exact hT'.s3.frz j hj⟩) (fun i o hi => by simp at hi) (fun i r hi => by simp at hi)
   refine h4.add ⟨p2, 0, [.map none], true⟩ (World.lt_of_cell (hT'.s2.at_ 0 _ rfl)) (fun j v hj => by rw [Nat.zero_add]; exact hT'.s2.at_ j v hj) (fun _ j hj => ⟨.inl h2, by rw [Nat.zero_add]; exact hT'.s2.frz j hj⟩) (fun i o hi _ => .inl ?_) (fun i r hi => by simp at hi)
   have : o = ⟨p3, 0, [.map m_], true⟩ := by
    have hm := List.mem_of_getElem? hi
    simpa using hm
   rw [this]
   exact fun e => hT'.ne e.symm
  have hE17 := (((hE7.retable [⟨p3, 0, [.map m_], true⟩, ⟨p2, 0, [.map none], true⟩]).recast 3 (.v (.pointer (some ⟨p3, 0, none⟩))) (.p 0 0) rfl rfl (Nat.le_of_ble_eq_true (n := 1) rfl)).recast 2 (.v (.pointer (some ⟨p2, 0, none⟩))) (.p 1 0) rfl rfl (Nat.le_of_ble_eq_true (n := 2) rfl))
  have hE18 : EnvOk 24 [⟨p3, 0, [.map m_], true⟩, ⟨p2, 0, [.map none], true⟩] [(2, .p 1 0), (3, .p 0 0)] _ := hE17.pk
  refine go_seq_region [0, 1] kz ?_
  refine go_rn [0] [1] [(2, .p 1 0), (23, .v (.agg #[.map m_]))] hW9 hE18 fun aqb hE19 => ?_
  refine of_op (wpOp_store hW9 hE19 (oi := 1) (cs := [.map m_]) kz fun wz hFz hWz hEz => wpOps_nil (then_normal (wp_ret ?_)))
  have hsz := hT'.step.size
  have hstz : Step wq wz (fun b o => b = p2 ∨ b = p3) := hFz.step.mono fun b o _ ha => by
   rcases ha with ⟨i, ob, hi, _, rfl, _⟩ | ⟨i, r, hi, _⟩
   ·have hm := List.mem_of_getElem? hi
    simp only [List.nil_append, List.cons_append, List.mem_cons, List.not_mem_nil, or_false] at hm
    rcases hm with rfl | rfl
    ·exact .inr rfl
    ·exact .inl rfl
   ·simp at hi
  obtain ⟨m2, m3⟩ := hT'.mne
  refine leave hEz hWz.cells (v := .agg #[.map m_]) kz ⟨_, A_, n_, c_, rfl, hT'.rd.move hstz (fun o e => ?_), hT'.oct.move hstz (fun b o hg _ e => ?_) (fun b o hg _ => .inl hg.1), hWz.step, m_, rfl, ?_⟩
  ·have := hT'.old; rcases e with e | e <;> omega
  ·have := hg.2; rcases e with e | e <;> omega
  ·refine (hT'.own.move hstz (fun b o hg _ e => ?_) keepF (fun r o e he => ?_)).map (fun b o h => .inl h.1) (fun r o e => .inr (hT'.new r e)) hsort hk
   ·have := hg.2; rcases e with e | e <;> omega
   ·rcases he with he | he
    ·exact m2 (by rw [e, he])
    ·exact m3 (by rw [e, he])
theorem rString (X : Bs) (hX : X.length ≤ 32767) (rest : Bs)  {br : Nat} {A : Option Addr} {m c : Nat} {w : World} {F : Nat → Nat → Prop} (hst : Str w br [.slice A m c, .bool false]) (hr : RdS w F A m c ((be 2 ((X.length : Nat) : Int)) ++ (X ++ rest))) (hFd : ∀ b o, F b o → ¬ RdM br b o) :
  Calls Tryz.prog 181 #[.pointer (some ⟨br, 0, none⟩)] w (RdPost w br (Fp F w) rest fun v w' => v = .string (bs X)) := by
 refine enter (n := 11) Tryz.func181 rfl Tryz.ntmps181 kz fun a hE => ?_
 have hW : WOk w (RdM br) w [⟨br, 0, [.slice A m c, .bool false], true⟩] [] := WOk.startStr hst
 have hE1 := (hE.grow ⟨br, 0, [.slice A m c, .bool false], true⟩).recast 0 (.v (.pointer (some ⟨br, 0, none⟩))) (.p 0 0) rfl rfl (Nat.le_of_ble_eq_true (n := 1) rfl)
 refine go_sp [(0, .p 0 0)] hW hE1 fun a1 hE2 => ?_
 clear hE1
 refine go_seq_region [0, 1, 2] kz ?_
 refine go_rn [0] [1, 2] [(0, .p 0 0), (4, .p 0 0)] hW hE2 fun a3 hE4 => ?_
 clear hE2
 refine of_op (wpOp_call hE4 (f := 197) (vs := [.pointer (some ⟨br, 0, none⟩)]) (d := 5) kz Tryz.call197 (rInt16 ((X.length : Nat) : Int) (X ++ rest) (Str.of hW 0 rfl) (hr.move hW.step (fun b_ o_ h_ _ => hFd b_ o_ h_) (hW.immM hFd)) (imm_rd 0 rfl)) ?_)
 rintro e_ w5 ⟨_, A6, n7, c8, rfl, hs9, ao, ac, rfl⟩
 obtain ⟨aa, ap, aG⟩ := hW.wrote 0 [⟨br, 0, [.slice A6 n7 c8, .bool false], true⟩] rfl ac hs9
 have ar := ao.move (Step.refl _ Nil) nilM (fun b_ o_ h_ _ => ap.to b_ o_ h_)
 refine ⟨_, rfl, fun aJ au => ?_⟩
 have ae : EnvOk 11 [⟨br, 0, [.slice A6 n7 c8, .bool false], true⟩] [(5, .v (.int .i16 (IntKind.i16.wrap ((X.length : Nat) : Int)))), (0, .p 0 0), (4, .p 0 0)] _ := au.places (⟨rfl, rfl, trivial⟩)
 clear hE4
 refine go_rn [2] [] [(0, .p 0 0), (3, .v (.int .i16 (IntKind.i16.wrap ((X.length : Nat) : Int))))] aa ae fun aK af => ?_
 clear ae
 refine wpOps_nil (then_normal ?_)
 refine go_seq_region [0, 1, 2, 3, 4, 5] kz ?_
 refine go_rn [0, 1, 2] [3, 4, 5] [(6, .p 0 0), (8, .v (.int .i64 (IntKind.i64.wrap (IntKind.i16.wrap ((X.length : Nat) : Int)))))] aa af fun aL ag => ?_
 clear af
 have av : IntKind.i64.wrap (IntKind.i16.wrap ((X.length : Nat) : Int)) = ((X.length : Nat) : Int) := by simp only [i16w, i32w, i64w]; omega
 have ah := EnvOk.pick ag (ks := [6, 8]) (env' := [(6, .p 0 0), (8, .v (.int .i64 (IntKind.i64.wrap (IntKind.i16.wrap ((X.length : Nat) : Int)))))]) kz
 have ai := ah.cast (env' := [(6, .p 0 0), (8, .v (.int .i64 ((X.length : Nat) : Int)))]) (by rw [av])
 clear ag ah
 refine of_op (wpOp_call ai (f := 224) (vs := [.pointer (some ⟨br, 0, none⟩), .int .i64 ((X.length : Nat) : Int)]) (d := 9) kz Tryz.call224 (rSpan X (rest) (Str.of aa 0 rfl) ar (imm_rd 0 rfl)) ?_)
 rintro e_ aM ⟨_, aD, aE, aF, rfl, aw, ax, aj, ⟨aH, rfl, ay⟩⟩
 obtain ⟨ab, ak, aI⟩ := aa.wrote 0 [⟨br, 0, [.slice aD aE aF, .bool false], true⟩] rfl aj aw
 have az := ax.move (Step.refl _ Nil) nilM (fun b_ o_ h_ _ => ak.to b_ o_ h_)
 refine ⟨_, rfl, fun aN aA => ?_⟩
 have al : EnvOk 11 [⟨br, 0, [.slice aD aE aF, .bool false], true⟩] [(9, .v (.slice aH X.length X.length)), (6, .p 0 0), (8, .v (.int .i64 ((X.length : Nat) : Int)))] _ := aA.places (⟨rfl, rfl, trivial⟩)
 clear ai
 have aB := ay.move (Step.refl _ Nil) nilM (fun b_ o_ h_ _ => ak.to b_ o_ h_)
 refine of_op (wpOp_conv al (src := 22) (dst := 9) (e := 5) (d := 10) kz kz kz kz aB fun aO am => ?_)
 clear al
 refine go_rn [5] [] [(2, .v (.string (bs X)))] ab am fun aP aC => ?_
 clear am
 refine wpOps_nil (then_normal ?_)
 refine wp_ret ?_
 refine leave aC ab.cells (v := .string (bs X)) kz ?_
 refine ⟨_, _, _, _, rfl, Str.of ab 0 rfl, (az.move (Step.refl _ Nil) nilM immOut), ab.step, rfl⟩
theorem rCompactString (X : Bs) (hX : X.length ≤ 1000000) (rest : Bs)  {br : Nat} {A : Option Addr} {m c : Nat} {w : World} {F : Nat → Nat → Prop} (hst : Str w br [.slice A m c, .bool false]) (hr : RdS w F A m c ((uv (X.length + 1)) ++ (X ++ rest))) (hFd : ∀ b o, F b o → ¬ RdM br b o) :
  Calls Tryz.prog 180 #[.pointer (some ⟨br, 0, none⟩)] w (RdPost w br (Fp F w) rest fun v w' => v = .string (bs X)) := by
 refine enter (n := 12) Tryz.func180 rfl Tryz.ntmps180 kz fun a hE => ?_
 have hW : WOk w (RdM br) w [⟨br, 0, [.slice A m c, .bool false], true⟩] [] := WOk.startStr hst
 have hE1 := (hE.grow ⟨br, 0, [.slice A m c, .bool false], true⟩).recast 0 (.v (.pointer (some ⟨br, 0, none⟩))) (.p 0 0) rfl rfl (Nat.le_of_ble_eq_true (n := 1) rfl)
 refine go_sp [(0, .p 0 0)] hW hE1 fun a1 hE2 => ?_
 clear hE1
 refine go_seq_region [0, 1, 2, 3, 4] kz ?_
 refine go_rn [0] [1, 2, 3, 4] [(0, .p 0 0), (4, .p 0 0)] hW hE2 fun a3 hE4 => ?_
 clear hE2
 refine of_op (wpOp_call hE4 (f := 222) (vs := [.pointer (some ⟨br, 0, none⟩)]) (d := 5) kz Tryz.call222 (rUvarint (X.length + 1) (by omega) (X ++ rest) (Str.of hW 0 rfl) (hr.move hW.step (fun b_ o_ h_ _ => hFd b_ o_ h_) (hW.immM hFd)) (imm_rd 0 rfl)) ?_)
 rintro e_ w5 ⟨_, A6, n7, c8, rfl, hs9, ao, ac, rfl⟩
 obtain ⟨aa, ap, aG⟩ := hW.wrote 0 [⟨br, 0, [.slice A6 n7 c8, .bool false], true⟩] rfl ac hs9
 have ar := ao.move (Step.refl _ Nil) nilM (fun b_ o_ h_ _ => ap.to b_ o_ h_)
 refine ⟨_, rfl, fun aJ au => ?_⟩
 have ae : EnvOk 12 [⟨br, 0, [.slice A6 n7 c8, .bool false], true⟩] [(5, .v (.int .u32 ((X.length + 1 : Nat) : Int))), (0, .p 0 0), (4, .p 0 0)] _ := au.places (⟨rfl, rfl, trivial⟩)
 clear hE4
 refine go_rn [2, 3, 4] [] [(0, .p 0 0), (3, .v (.int .i64 (IntKind.i64.wrap ((IntKind.i64.wrap ((X.length + 1 : Nat) : Int)) - 1))))] aa ae fun aK af => ?_
 clear ae
 refine wpOps_nil (then_normal ?_)
 refine go_seq_region [0, 1, 2, 3, 4] kz ?_
 refine go_rn [0, 1] [2, 3, 4] [(8, .p 0 0), (9, .v (.int .i64 (IntKind.i64.wrap ((IntKind.i64.wrap ((X.length + 1 : Nat) : Int)) - 1))))] aa af fun aL ag => ?_
 clear af
 have av : IntKind.i64.wrap ((IntKind.i64.wrap ((X.length + 1 : Nat) : Int)) - 1) = ((X.length : Nat) : Int) := by simp only [i16w, i32w, i64w]; omega
 have ah := EnvOk.pick ag (ks := [8, 9]) (env' := [(8, .p 0 0), (9, .v (.int .i64 (IntKind.i64.wrap ((IntKind.i64.wrap ((X.length + 1 : Nat) : Int)) - 1))))]) kz
 have ai := ah.cast (env' := [(8, .p 0 0), (9, .v (.int .i64 ((X.length : Nat) : Int)))]) (by rw [av])
 clear ag ah
 refine of_op (wpOp_call ai (f := 224) (vs := [.pointer (some ⟨br, 0, none⟩), .int .i64 ((X.length : Nat) : Int)]) (d := 10) kz Tryz.call224 (rSpan X (rest) (Str.of aa 0 rfl) ar (imm_rd 0 rfl)) ?_)
 rintro e_ aM ⟨_, aD, aE, aF, rfl, aw, ax, aj, ⟨aH, rfl, ay⟩⟩
 obtain ⟨ab, ak, aI⟩ := aa.wrote 0 [⟨br, 0, [.slice aD aE aF, .bool false], true⟩] rfl aj aw
 have az := ax.move (Step.refl _ Nil) nilM (fun b_ o_ h_ _ => ak.to b_ o_ h_)
 refine ⟨_, rfl, fun aN aA => ?_⟩
 have al : EnvOk 12 [⟨br, 0, [.slice aD aE aF, .bool false], true⟩] [(10, .v (.slice aH X.length X.length)), (8, .p 0 0), (9, .v (.int .i64 ((X.length : Nat) : Int)))] _ := aA.places (⟨rfl, rfl, trivial⟩)
 clear ai
 have aB := ay.move (Step.refl _ Nil) nilM (fun b_ o_ h_ _ => ak.to b_ o_ h_)
 refine of_op (wpOp_conv al (src := 22) (dst := 9) (e := 5) (d := 11) kz kz kz kz aB fun aO am => ?_)
 clear al
 refine go_rn [4] [] [(2, .v (.string (bs X)))] ab am fun aP aC => ?_
 clear am
 refine wpOps_nil (then_normal ?_)
 refine wp_ret ?_
 refine leave aC ab.cells (v := .string (bs X)) kz ?_
 refine ⟨_, _, _, _, rfl, Str.of ab 0 rfl, (az.move (Step.refl _ Nil) nilM immOut), ab.step, rfl⟩
theorem rNullableString0 (X : Bs) (rest : Bs)  {br : Nat} {A : Option Addr} {m c : Nat} {w : World} {F : Nat → Nat → Prop} (hst : Str w br [.slice A m c, .bool false]) (hr : RdS w F A m c ((be 2 (-1)) ++ rest)) (hFd : ∀ b o, F b o → ¬ RdM br b o) :
  Calls Tryz.prog 194 #[.pointer (some ⟨br, 0, none⟩)] w (RdPost w br (Fp F w) rest fun v w' => ∃ A2, v = .pointer A2 ∧ (∀ ad, A2 = some ad → ∃ b o, ad = ⟨b, o, none⟩ ∧ AtF w' (Fp F w) b o [.string (bs X)]) ∧ A2.isNone = true) := by
 refine enter (n := 14) Tryz.func194 rfl Tryz.ntmps194 kz fun a hE => ?_
 have hW : WOk w (RdM br) w [⟨br, 0, [.slice A m c, .bool false], true⟩] [] := WOk.startStr hst
 have hE1 := (hE.grow ⟨br, 0, [.slice A m c, .bool false], true⟩).recast 0 (.v (.pointer (some ⟨br, 0, none⟩))) (.p 0 0) rfl rfl (Nat.le_of_ble_eq_true (n := 1) rfl)
 refine go_sp [(0, .p 0 0)] hW hE1 fun a1 hE2 => ?_
 clear hE1
 refine go_seq_region [0, 1, 2] kz ?_
 refine go_rn [0] [1, 2] [(0, .p 0 0), (5, .p 0 0)] hW hE2 fun a3 hE4 => ?_
 clear hE2
 refine of_op (wpOp_call hE4 (f := 197) (vs := [.pointer (some ⟨br, 0, none⟩)]) (d := 6) kz Tryz.call197 (rInt16 (-1) (rest) (Str.of hW 0 rfl) (hr.move hW.step (fun b_ o_ h_ _ => hFd b_ o_ h_) (hW.immM hFd)) (imm_rd 0 rfl)) ?_)
 rintro e_ w5 ⟨_, A6, n7, c8, rfl, hs9, ag, ac, rfl⟩
 obtain ⟨aa, ah, al⟩ := hW.wrote 0 [⟨br, 0, [.slice A6 n7 c8, .bool false], true⟩] rfl ac hs9
 have ai := ag.move (Step.refl _ Nil) nilM (fun b_ o_ h_ _ => ah.to b_ o_ h_)
 refine ⟨_, rfl, fun am aj => ?_⟩
 have ae : EnvOk 14 [⟨br, 0, [.slice A6 n7 c8, .bool false], true⟩] [(6, .v (.int .i16 (IntKind.i16.wrap (-1)))), (0, .p 0 0), (5, .p 0 0)] _ := aj.places (⟨rfl, rfl, trivial⟩)
 clear hE4
 refine go_rn [2] [] [(0, .p 0 0), (3, .v (.int .i16 (IntKind.i16.wrap (-1))))] aa ae fun ao af => ?_
 clear ae
 refine wpOps_nil (then_normal ?_)
 refine wp_seq ?_
 refine go_sp [(0, .p 0 0), (3, .v (.int .i16 (IntKind.i16.wrap (-1)))), (8, .v (.bool (decide ((IntKind.i16.wrap (-1)) < 0))))] aa af fun ap ab => ?_
 clear af
 refine cond_true ab (b := decide ((IntKind.i16.wrap (-1)) < 0)) kz (decide_eq_true (by simp only [i16w, i32w, i64w]; omega)) ?_
 refine go_sp [(2, .v (.pointer none))] aa ab fun ar ak => ?_
 clear ab
 refine wp_ret ?_
 refine then_ret ?_
 refine leave ak aa.cells (v := .pointer none) kz ?_
 refine ⟨_, _, _, _, rfl, Str.of aa 0 rfl, (ai.move (Step.refl _ Nil) nilM immOut), aa.step, _, rfl, (fun ad h_ => by cases h_), rfl⟩
theorem rNullableString1 (X : Bs) (hX : X.length ≤ 32767) (rest : Bs)  {br : Nat} {A : Option Addr} {m c : Nat} {w : World} {F : Nat → Nat → Prop} (hst : Str w br [.slice A m c, .bool false]) (hr : RdS w F A m c ((be 2 ((X.length : Nat) : Int)) ++ (X ++ rest))) (hFd : ∀ b o, F b o → ¬ RdM br b o) :
  Calls Tryz.prog 194 #[.pointer (some ⟨br, 0, none⟩)] w (RdPost w br (Fp F w) rest fun v w' => ∃ A2, v = .pointer A2 ∧ (∀ ad, A2 = some ad → ∃ b o, ad = ⟨b, o, none⟩ ∧ AtF w' (Fp F w) b o [.string (bs X)]) ∧ A2.isNone = false) := by
 refine enter (n := 14) Tryz.func194 rfl Tryz.ntmps194 kz fun a hE => ?_
 have hW : WOk w (RdM br) w [⟨br, 0, [.slice A m c, .bool false], true⟩] [] := WOk.startStr hst
 have hE1 := (hE.grow ⟨br, 0, [.slice A m c, .bool false], true⟩).recast 0 (.v (.pointer (some ⟨br, 0, none⟩))) (.p 0 0) rfl rfl (Nat.le_of_ble_eq_true (n := 1) rfl)
 refine go_sp [(0, .p 0 0)] hW hE1 fun a1 hE2 => ?_
 clear hE1
 refine go_seq_region [0, 1, 2] kz ?_
 refine go_rn [0] [1, 2] [(0, .p 0 0), (5, .p 0 0)] hW hE2 fun a3 hE4 => ?_
 clear hE2
 refine of_op (wpOp_call hE4 (f := 197) (vs := [.pointer (some ⟨br, 0, none⟩)]) (d := 6) kz Tryz.call197 (rInt16 ((X.length : Nat) : Int) (X ++ rest) (Str.of hW 0 rfl) (hr.move hW.step (fun b_ o_ h_ _ => hFd b_ o_ h_) (hW.immM hFd)) (imm_rd 0 rfl)) ?_)
 rintro e_ w5 ⟨_, A6, n7, c8, rfl, hs9, ay, ae, rfl⟩
 obtain ⟨aa, az, aN⟩ := hW.wrote 0 [⟨br, 0, [.slice A6 n7 c8, .bool false], true⟩] rfl ae hs9
 have aA := ay.move (Step.refl _ Nil) nilM (fun b_ o_ h_ _ => az.to b_ o_ h_)
 refine ⟨_, rfl, fun aT aB => ?_⟩
 have af : EnvOk 14 [⟨br, 0, [.slice A6 n7 c8, .bool false], true⟩] [(6, .v (.int .i16 (IntKind.i16.wrap ((X.length : Nat) : Int)))), (0, .p 0 0), (5, .p 0 0)] _ := aB.places (⟨rfl, rfl, trivial⟩)
 clear hE4
 refine go_rn [2] [] [(0, .p 0 0), (3, .v (.int .i16 (IntKind.i16.wrap ((X.length : Nat) : Int))))] aa af fun aU ag => ?_
 clear af
 refine wpOps_nil (then_normal ?_)
 refine wp_seq ?_
 refine go_sp [(0, .p 0 0), (3, .v (.int .i16 (IntKind.i16.wrap ((X.length : Nat) : Int)))), (8, .v (.bool (decide ((IntKind.i16.wrap ((X.length : Nat) : Int)) < 0))))] aa ag fun aV ac => ?_
 clear ag
 refine cond_false ac (b := decide ((IntKind.i16.wrap ((X.length : Nat) : Int)) < 0)) kz (decide_eq_false (by simp only [i16w, i32w, i64w]; omega)) ?_
 refine wp_skip ?_
 refine then_normal ?_
 refine go_seq_region [0, 1, 2, 3, 4, 5, 6] kz ?_
 refine go_rn [0, 1, 2] [3, 4, 5, 6] [(9, .p 0 0), (11, .v (.int .i64 (IntKind.i64.wrap (IntKind.i16.wrap ((X.length : Nat) : Int)))))] aa ac fun aW ah => ?_
 clear ac
 have aC : IntKind.i64.wrap (IntKind.i16.wrap ((X.length : Nat) : Int)) = ((X.length : Nat) : Int) := by simp only [i16w, i32w, i64w]; omega
 have ai := EnvOk.pick ah (ks := [9, 11]) (env' := [(9, .p 0 0), (11, .v (.int .i64 (IntKind.i64.wrap (IntKind.i16.wrap ((X.length : Nat) : Int)))))]) kz
 have aj := ai.cast (env' := [(9, .p 0 0), (11, .v (.int .i64 ((X.length : Nat) : Int)))]) (by rw [aC])
 clear ah ai
 refine of_op (wpOp_call aj (f := 224) (vs := [.pointer (some ⟨br, 0, none⟩), .int .i64 ((X.length : Nat) : Int)]) (d := 12) kz Tryz.call224 (rSpan X (rest) (Str.of aa 0 rfl) aA (imm_rd 0 rfl)) ?_)
 rintro e_ aX ⟨_, aK, aL, aM, rfl, aD, aE, ak, ⟨aO, rfl, aF⟩⟩
 obtain ⟨al, am, aP⟩ := aa.wrote 0 [⟨br, 0, [.slice aK aL aM, .bool false], true⟩] rfl ak aD
 have aG := aE.move (Step.refl _ Nil) nilM (fun b_ o_ h_ _ => am.to b_ o_ h_)
 refine ⟨_, rfl, fun aY aH => ?_⟩
 have ao : EnvOk 14 [⟨br, 0, [.slice aK aL aM, .bool false], true⟩] [(12, .v (.slice aO X.length X.length)), (9, .p 0 0), (11, .v (.int .i64 ((X.length : Nat) : Int)))] _ := aH.places (⟨rfl, rfl, trivial⟩)
 clear aj
 have aI := aF.move (Step.refl _ Nil) nilM (fun b_ o_ h_ _ => am.to b_ o_ h_)
 refine of_op (wpOp_conv ao (src := 22) (dst := 9) (e := 5) (d := 13) kz kz kz kz aI fun aZ ap => ?_)
 clear ao
 refine of_op (wpOp_alloc al ap (d := 4) (cs := [.string ByteArray.empty]) kz fun aQ ba bd aR aS ar au av => ?_)
 clear ap al
 refine of_op (wpOp_store au av (oi := 1) (cs := [.string (bs X)]) kz fun bf aw ab ax => ?_)
 clear av au
 refine wpOps_nil (then_normal ?_)
 refine go_sp [(2, .p 1 0)] ab ax fun bg aJ => ?_
 clear ax
 refine wp_ret ?_
 refine leave aJ ab.cells (v := .pointer (some ⟨aQ, 0, none⟩)) kz ?_
 refine ⟨_, _, _, _, rfl, Str.of ab 0 rfl, ((aG.move (ar.trans aw).step immM (ar.trans aw).to').move (Step.refl _ Nil) nilM immOut), ab.step, _, rfl, (fun ad h_ => by
  obtain rfl := Option.some.inj h_
  exact ⟨_, 0, rfl, fun j v_ hj => ⟨.inr (by assumption), ab.cells 1 _ rfl j v_ hj⟩⟩), rfl⟩
theorem rNullableString (nul : Bool) (X : Bs) (hX : X.length ≤ 32767) (rest : Bs) {br : Nat} {A : Option Addr} {m c : Nat} {w : World} {F : Nat → Nat → Prop} (hst : Str w br [.slice A m c, .bool false]) (hr : RdS w F A m c ((if nul = true then be 2 (-1) else be 2 ((X.length : Nat) : Int) ++ X) ++ rest)) (hFd : ∀ b o, F b o → ¬ RdM br b o) :
  Calls Tryz.prog 194 #[.pointer (some ⟨br, 0, none⟩)] w (RdPost w br (Fp F w) rest fun v w' => ∃ A2, v = .pointer A2 ∧ (∀ ad, A2 = some ad → ∃ b o, ad = ⟨b, o, none⟩ ∧ AtF w' (Fp F w) b o [.string (bs X)]) ∧ A2.isNone = nul) := by
 cases nul
 ·exact rNullableString1 X hX rest hst (hr.cast (by simp only [Bool.false_eq_true, if_false, List.append_assoc])) hFd
 ·exact rNullableString0 X rest hst (hr.cast (by simp only [if_true])) hFd
theorem rCompactNullableString0 (X : Bs) (rest : Bs)  {br : Nat} {A : Option Addr} {m c : Nat} {w : World} {F : Nat → Nat → Prop} (hst : Str w br [.slice A m c, .bool false]) (hr : RdS w F A m c ((uv 0) ++ rest)) (hFd : ∀ b o, F b o → ¬ RdM br b o) :
  Calls Tryz.prog 192 #[.pointer (some ⟨br, 0, none⟩)] w (RdPost w br (Fp F w) rest fun v w' => ∃ A2, v = .pointer A2 ∧ (∀ ad, A2 = some ad → ∃ b o, ad = ⟨b, o, none⟩ ∧ AtF w' (Fp F w) b o [.string (bs X)]) ∧ A2.isNone = true) := by
 refine enter (n := 15) Tryz.func192 rfl Tryz.ntmps192 kz fun a hE => ?_
 have hW : WOk w (RdM br) w [⟨br, 0, [.slice A m c, .bool false], true⟩] [] := WOk.startStr hst
 have hE1 := (hE.grow ⟨br, 0, [.slice A m c, .bool false], true⟩).recast 0 (.v (.pointer (some ⟨br, 0, none⟩))) (.p 0 0) rfl rfl (Nat.le_of_ble_eq_true (n := 1) rfl)
 refine go_sp [(0, .p 0 0)] hW hE1 fun a1 hE2 => ?_
 clear hE1
 refine go_seq_region [0, 1, 2, 3, 4] kz ?_
 refine go_rn [0] [1, 2, 3, 4] [(0, .p 0 0), (5, .p 0 0)] hW hE2 fun a3 hE4 => ?_
 clear hE2
 refine of_op (wpOp_call hE4 (f := 222) (vs := [.pointer (some ⟨br, 0, none⟩)]) (d := 6) kz Tryz.call222 (rUvarint 0 (by omega) (rest) (Str.of hW 0 rfl) (hr.move hW.step (fun b_ o_ h_ _ => hFd b_ o_ h_) (hW.immM hFd)) (imm_rd 0 rfl)) ?_)
 rintro e_ w5 ⟨_, A6, n7, c8, rfl, hs9, ag, ac, rfl⟩
 obtain ⟨aa, ah, al⟩ := hW.wrote 0 [⟨br, 0, [.slice A6 n7 c8, .bool false], true⟩] rfl ac hs9
 have ai := ag.move (Step.refl _ Nil) nilM (fun b_ o_ h_ _ => ah.to b_ o_ h_)
 refine ⟨_, rfl, fun am aj => ?_⟩
 have ae : EnvOk 15 [⟨br, 0, [.slice A6 n7 c8, .bool false], true⟩] [(6, .v (.int .u32 ((0 : Nat) : Int))), (0, .p 0 0), (5, .p 0 0)] _ := aj.places (⟨rfl, rfl, trivial⟩)
 clear hE4
 refine go_rn [2, 3, 4] [] [(0, .p 0 0), (3, .v (.int .i64 (IntKind.i64.wrap ((IntKind.i64.wrap ((0 : Nat) : Int)) - 1))))] aa ae fun ao af => ?_
 clear ae
 refine wpOps_nil (then_normal ?_)
 refine wp_seq ?_
 refine go_sp [(0, .p 0 0), (3, .v (.int .i64 (IntKind.i64.wrap ((IntKind.i64.wrap ((0 : Nat) : Int)) - 1)))), (10, .v (.bool (decide ((IntKind.i64.wrap ((IntKind.i64.wrap ((0 : Nat) : Int)) - 1)) < 0))))] aa af fun ap ab => ?_
 clear af
 refine cond_true ab (b := decide ((IntKind.i64.wrap ((IntKind.i64.wrap ((0 : Nat) : Int)) - 1)) < 0)) kz (decide_eq_true (by simp only [i16w, i32w, i64w]; omega)) ?_
 refine go_sp [(2, .v (.pointer none))] aa ab fun ar ak => ?_
 clear ab
 refine wp_ret ?_
 refine then_ret ?_
 refine leave ak aa.cells (v := .pointer none) kz ?_
 refine ⟨_, _, _, _, rfl, Str.of aa 0 rfl, (ai.move (Step.refl _ Nil) nilM immOut), aa.step, _, rfl, (fun ad h_ => by cases h_), rfl⟩
theorem rCompactNullableString1 (X : Bs) (hX : X.length ≤ 1000000) (rest : Bs)  {br : Nat} {A : Option Addr} {m c : Nat} {w : World} {F : Nat → Nat → Prop} (hst : Str w br [.slice A m c, .bool false]) (hr : RdS w F A m c ((uv (X.length + 1)) ++ (X ++ rest))) (hFd : ∀ b o, F b o → ¬ RdM br b o) :
  Calls Tryz.prog 192 #[.pointer (some ⟨br, 0, none⟩)] w (RdPost w br (Fp F w) rest fun v w' => ∃ A2, v = .pointer A2 ∧ (∀ ad, A2 = some ad → ∃ b o, ad = ⟨b, o, none⟩ ∧ AtF w' (Fp F w) b o [.string (bs X)]) ∧ A2.isNone = false) := by
 refine enter (n := 15) Tryz.func192 rfl Tryz.ntmps192 kz fun a hE => ?_
 have hW : WOk w (RdM br) w [⟨br, 0, [.slice A m c, .bool false], true⟩] [] := WOk.startStr hst
 have hE1 := (hE.grow ⟨br, 0, [.slice A m c, .bool false], true⟩).recast 0 (.v (.pointer (some ⟨br, 0, none⟩))) (.p 0 0) rfl rfl (Nat.le_of_ble_eq_true (n := 1) rfl)
 refine go_sp [(0, .p 0 0)] hW hE1 fun a1 hE2 => ?_
 clear hE1
 refine go_seq_region [0, 1, 2, 3, 4] kz ?_
 refine go_rn [0] [1, 2, 3, 4] [(0, .p 0 0), (5, .p 0 0)] hW hE2 fun a3 hE4 => ?_
 clear hE2
 refine of_op (wpOp_call hE4 (f := 222) (vs := [.pointer (some ⟨br, 0, none⟩)]) (d := 6) kz Tryz.call222 (rUvarint (X.length + 1) (by omega) (X ++ rest) (Str.of hW 0 rfl) (hr.move hW.step (fun b_ o_ h_ _ => hFd b_ o_ h_) (hW.immM hFd)) (imm_rd 0 rfl)) ?_)
 rintro e_ w5 ⟨_, A6, n7, c8, rfl, hs9, ay, ae, rfl⟩
 obtain ⟨aa, az, aN⟩ := hW.wrote 0 [⟨br, 0, [.slice A6 n7 c8, .bool false], true⟩] rfl ae hs9
 have aA := ay.move (Step.refl _ Nil) nilM (fun b_ o_ h_ _ => az.to b_ o_ h_)
 refine ⟨_, rfl, fun aT aB => ?_⟩
 have af : EnvOk 15 [⟨br, 0, [.slice A6 n7 c8, .bool false], true⟩] [(6, .v (.int .u32 ((X.length + 1 : Nat) : Int))), (0, .p 0 0), (5, .p 0 0)] _ := aB.places (⟨rfl, rfl, trivial⟩)
 clear hE4
 refine go_rn [2, 3, 4] [] [(0, .p 0 0), (3, .v (.int .i64 (IntKind.i64.wrap ((IntKind.i64.wrap ((X.length + 1 : Nat) : Int)) - 1))))] aa af fun aU ag => ?_
 clear af
 refine wpOps_nil (then_normal ?_)
 refine wp_seq ?_
 refine go_sp [(0, .p 0 0), (3, .v (.int .i64 (IntKind.i64.wrap ((IntKind.i64.wrap ((X.length + 1 : Nat) : Int)) - 1)))), (10, .v (.bool (decide ((IntKind.i64.wrap ((IntKind.i64.wrap ((X.length + 1 : Nat) : Int)) - 1)) < 0))))] aa ag fun aV ac => ?_
 clear ag
 refine cond_false ac (b := decide ((IntKind.i64.wrap ((IntKind.i64.wrap ((X.length + 1 : Nat) : Int)) - 1)) < 0)) kz (decide_eq_false (by simp only [i16w, i32w, i64w]; omega)) ?_
 refine wp_skip ?_
 refine then_normal ?_
 refine go_seq_region [0, 1, 2, 3, 4, 5] kz ?_
 refine go_rn [0, 1] [2, 3, 4, 5] [(11, .p 0 0), (12, .v (.int .i64 (IntKind.i64.wrap ((IntKind.i64.wrap ((X.length + 1 : Nat) : Int)) - 1))))] aa ac fun aW ah => ?_
 clear ac
 have aC : IntKind.i64.wrap ((IntKind.i64.wrap ((X.length + 1 : Nat) : Int)) - 1) = ((X.length : Nat) : Int) := by simp only [i16w, i32w, i64w]; omega
 have ai := EnvOk.pick ah (ks := [11, 12]) (env' := [(11, .p 0 0), (12, .v (.int .i64 (IntKind.i64.wrap ((IntKind.i64.wrap ((X.length + 1 : Nat) : Int)) - 1))))]) kz
 have aj := ai.cast (env' := [(11, .p 0 0), (12, .v (.int .i64 ((X.length : Nat) : Int)))]) (by rw [aC])
 clear ah ai
 refine of_op (wpOp_call aj (f := 224) (vs := [.pointer (some ⟨br, 0, none⟩), .int .i64 ((X.length : Nat) : Int)]) (d := 13) kz Tryz.call224 (rSpan X (rest) (Str.of aa 0 rfl) aA (imm_rd 0 rfl)) ?_)
 rintro e_ aX ⟨_, aK, aL, aM, rfl, aD, aE, ak, ⟨aO, rfl, aF⟩⟩
 obtain ⟨al, am, aP⟩ := aa.wrote 0 [⟨br, 0, [.slice aK aL aM, .bool false], true⟩] rfl ak aD
 have aG := aE.move (Step.refl _ Nil) nilM (fun b_ o_ h_ _ => am.to b_ o_ h_)
 refine ⟨_, rfl, fun aY aH => ?_⟩
 have ao : EnvOk 15 [⟨br, 0, [.slice aK aL aM, .bool false], true⟩] [(13, .v (.slice aO X.length X.length)), (11, .p 0 0), (12, .v (.int .i64 ((X.length : Nat) : Int)))] _ := aH.places (⟨rfl, rfl, trivial⟩)
 clear aj
 have aI := aF.move (Step.refl _ Nil) nilM (fun b_ o_ h_ _ => am.to b_ o_ h_)
 refine of_op (wpOp_conv ao (src := 22) (dst := 9) (e := 5) (d := 14) kz kz kz kz aI fun aZ ap => ?_)
 clear ao
 refine of_op (wpOp_alloc al ap (d := 4) (cs := [.string ByteArray.empty]) kz fun aQ ba bd aR aS ar au av => ?_)
 clear ap al
 refine of_op (wpOp_store au av (oi := 1) (cs := [.string (bs X)]) kz fun bf aw ab ax => ?_)
 clear av au
 refine wpOps_nil (then_normal ?_)
 refine go_sp [(2, .p 1 0)] ab ax fun bg aJ => ?_
 clear ax
 refine wp_ret ?_
 refine leave aJ ab.cells (v := .pointer (some ⟨aQ, 0, none⟩)) kz ?_
 refine ⟨_, _, _, _, rfl, Str.of ab 0 rfl, ((aG.move (ar.trans aw).step immM (ar.trans aw).to').move (Step.refl _ Nil) nilM immOut), ab.step, _, rfl, (fun ad h_ => by
  obtain rfl := Option.some.inj h_
  exact ⟨_, 0, rfl, fun j v_ hj => ⟨.inr (by assumption), ab.cells 1 _ rfl j v_ hj⟩⟩), rfl⟩
theorem rCompactNullableString (nul : Bool) (X : Bs) (hX : X.length ≤ 1000000) (rest : Bs) {br : Nat} {A : Option Addr} {m c : Nat} {w : World} {F : Nat → Nat → Prop} (hst : Str w br [.slice A m c, .bool false]) (hr : RdS w F A m c ((if nul = true then uv 0 else uv (X.length + 1) ++ X) ++ rest)) (hFd : ∀ b o, F b o → ¬ RdM br b o) :
  Calls Tryz.prog 192 #[.pointer (some ⟨br, 0, none⟩)] w (RdPost w br (Fp F w) rest fun v w' => ∃ A2, v = .pointer A2 ∧ (∀ ad, A2 = some ad → ∃ b o, ad = ⟨b, o, none⟩ ∧ AtF w' (Fp F w) b o [.string (bs X)]) ∧ A2.isNone = nul) := by
 cases nul
 ·exact rCompactNullableString1 X hX rest hst (hr.cast (by simp only [Bool.false_eq_true, if_false, List.append_assoc])) hFd
 ·exact rCompactNullableString0 X rest hst (hr.cast (by simp only [if_true])) hFd
end Go.Proofs.YtgolpmkenmedoaaGreatDoor.ME
namespace Go.Proofs.YtgolpmkenmedoaaGreatDoor.ME
open Go
open Go.RowKit
set_option linter.unusedVariables false
set_option linter.unusedSimpArgs false
theorem wp_joinN {P : Program} {c : Code} {Mid : Act → World → Prop} {Q : Exit → Act → World → Prop} {a : Act} {w : World} (h1 : c.wp P (Exit.then Mid Q) a w) (h2 : ∀ a' w', Mid a' w' → Q .normal a' w') : c.wp P Q a w :=
 wp_mono h1 fun e a' w' h => by
  cases e <;> first | exact h2 a' w' h | exact h
section
variable {Pr : Program} {ops : Array Oper} {Q : Exit → Act → World → Prop} {w0 : World} {M F : Nat → Nat → Prop} {n br : Nat} {tb : Tb} {env : Env} {P : FactW} {s : Bs} {a : Act} {w : World}
end
theorem pInt8 (x : Int) (rest : Bs) : RPrim0 Tryz.prog 190 (be 1 (IntKind.i8.wrap x)) rest (.int .i8 (IntKind.i8.wrap x)) := fun hs hr hF => (rInt8 _ rest hs hr hF).mono fun e w' hp => hp.fp fun v w' h => by rw [h, ww8]
theorem pCompactString (S : Bs) (hS : S.length ≤ 32767) (rest : Bs) : RPrim0 Tryz.prog 180 (uv (S.length + 1) ++ S) rest (.string (bs S)) := fun hs hr hF => (rCompactString S (by omega) rest hs (hr.cast (by simp only [List.append_assoc])) hF).mono fun e w' hp => hp.q fun v w' h => h
theorem pNullableString (nul : Bool) (S : Bs) (hS : S.length ≤ 32767) (rest : Bs) : RPrim Tryz.prog 194 (if nul = true then be 2 (-1) else be 2 S.length ++ S) rest (fun A : Option Addr => .pointer A) (fun A => andF (textF A S) (isF (A.isNone = nul))) := fun hs hr hF => (rNullableString nul S (by omega) rest hs hr hF).mono fun e w' hp => hp.q fun v w' h => by
 obtain ⟨A, h1, h2, h3⟩ := h
 exact ⟨A, h1, h2, h3⟩
theorem pCompactNullableString (nul : Bool) (S : Bs) (hS : S.length ≤ 32767) (rest : Bs) : RPrim Tryz.prog 192 (if nul = true then uv 0 else uv (S.length + 1) ++ S) rest (fun A : Option Addr => .pointer A) (fun A => andF (textF A S) (isF (A.isNone = nul))) := fun hs hr hF => (rCompactNullableString nul S (by omega) rest hs hr hF).mono fun e w' hp => hp.q fun v w' h => by
 obtain ⟨A, h1, h2, h3⟩ := h
 exact ⟨A, h1, h2, h3⟩
theorem pTags (u : List (Int × Bs)) (hU : canU u) (hk : ∀ x ∈ u, 0 ≤ x.1 ∧ x.1 < 4294967296) (rest : Bs) : RPrim Tryz.prog 182 (uv u.length ++ tagsR u) rest (fun m : Option Nat => .agg #[.map m]) (fun m => tagsF m u) := fun hs hr hF => (rTags u rest hU.1 hk hU.2.1 hU.2.2 hs (hr.cast (by simp only [List.append_assoc])) hF).mono fun e w' hp => hp.q fun v w' h => h
end Go.Proofs.YtgolpmkenmedoaaGreatDoor.ME
namespace Go.Proofs.YtgolpmkenmedoaaGreatDoor.ME
open Go
set_option linter.unusedVariables false
set_option linter.unusedSimpArgs false
set_option maxRecDepth 20000
theorem lFits3 (k : Int) (A : Option Addr) (m c : Nat) (w : World) : Calls Tryz.prog 118 #[.agg #[.int .u32 k, .slice A m c]] w (GivesB w) := by
 refine enter (n := 7) Tryz.func118 rfl Tryz.ntmps118 kz fun a hE => ?_
 have hW := WOk.start w Nil
 refine go_seq_region [0, 1] kz ?_
 refine of_op (wpOp_box hW hE (d := 1) (cs := [.int .u32 k, .slice A m c]) kz fun b1 a2 w3 hb4 hz5 hF6 hW7 hE8 => ?_)
 clear hE hW
 refine go_rn [1] [] [(1, .p 0 0)] hW7 hE8 fun a9 ac => ?_
 clear hE8
 refine wpOps_nil (then_normal ?_)
 refine wp_seq ?_
 refine go_sp [(6, .v (.bool (decide (((m : Nat) : Int) > 2147483647))))] hW7 ac fun ai aa => ?_
 clear ac
 refine cond_of aa (b := decide (((m : Nat) : Int) > 2147483647)) kz (fun ab => ?_) (fun ab => ?_)
 ·
  have ag := of_decide_eq_true ab
  refine go_sp [(2, .v (.bool false))] hW7 aa fun aj ae => ?_
  clear aa
  refine wp_ret ?_
  refine then_ret ?_
  refine leave ae hW7.cells (v := .bool false) kz ?_
  exact ⟨_, rfl, hW7.step⟩
 ·
  have ah := of_decide_eq_false ab
  refine wp_skip ?_
  refine then_normal ?_
  refine go_sp [(2, .v (.bool true))] hW7 aa fun ak af => ?_
  clear aa
  refine wp_ret ?_
  refine leave af hW7.cells (v := .bool true) kz ?_
  exact ⟨_, rfl, hW7.step⟩
theorem lFits2 (A : Option Addr) (c : Nat) (u : List (Int × Bs)) (w : World) (F : Nat → Nat → Prop) (hu : TagsR w F A c u) : Calls Tryz.prog 49 #[.slice A u.length c] w (GivesB w) := by
 obtain ⟨xu, h1, h2⟩ := hu.ex
 have hsm := h1.small
 refine enter (n := 18) Tryz.func49 rfl Tryz.ntmps49 kz fun a hE => ?_
 have hW := WOk.start w Nil
 refine go_sp [(0, .v (.slice A u.length c))] hW hE fun a1 hE2 => ?_
 clear hE
 refine wp_seq ?_
 refine go_sp [(0, .v (.slice A u.length c)), (7, .v (.bool (decide (((u.length : Nat) : Int) > 2147483647))))] hW hE2 fun a3 hE4 => ?_
 clear hE2
 refine cond_of hE4 (b := decide (((u.length : Nat) : Int) > 2147483647)) kz (fun hc5 => ?_) (fun hc5 => ?_)
 ·
  have hf6 := of_decide_eq_true hc5
  refine go_sp [(2, .v (.bool false))] hW hE4 fun a7 hE8 => ?_
  clear hE4
  refine wp_ret ?_
  refine then_ret ?_
  refine leave hE8 hW.cells (v := .bool false) kz ?_
  exact ⟨_, rfl, hW.step⟩
 ·
  have hf9 := of_decide_eq_false hc5
  refine wp_skip ?_
  refine then_normal ?_
  refine wp_seq ?_
  refine go_sp [(8, .v (.slice A u.length c)), (9, .v (.int .i64 ((u.length : Nat) : Int))), (10, .v (.int .i64 0))] hW hE4 fun ba ak => ?_
  clear hE4
  refine wp_block ?_
  refine wp_loop_ghost (fun n_ a_ w_ => ∃ (k : Nat), n_ = u.length - k ∧ k ≤ u.length ∧ LInv hW 18 [] [] [(8, .v (.slice A u.length c)), (9, .v (.int .i64 ((u.length : Nat) : Int))), (10, .v (.int .i64 ((k : Nat) : Int)))] a_ w_) (u.length) ⟨0, by omega, by omega, ak.pk, hW, Fr.refl _ _ _⟩ ?_
  clear ak
  rintro bd bf bg ⟨k, aQ, aR, al, aa, aC⟩
  refine go_sp [(8, .v (.slice A u.length c)), (9, .v (.int .i64 ((u.length : Nat) : Int))), (10, .v (.int .i64 ((k : Nat) : Int))), (11, .v (.bool (decide (((k : Nat) : Int) < ((u.length : Nat) : Int)))))] aa al fun bh ac => ?_
  clear al
  refine wp_seq ?_
  refine cond_of ac (b := decide (((k : Nat) : Int) < ((u.length : Nat) : Int))) kz (fun ah => ?_) (fun ah => ?_)
  ·
   have aS := of_decide_eq_true ah
   refine wp_skip ?_
   refine then_normal ?_
   refine wp_seq ?_
   refine wp_block ?_
   refine go_seq_region [0, 1, 2, 3] kz ?_
   obtain ⟨aT, aU, aD, aV, ag⟩ := Slots.get h1 (i := k) (by omega)
   obtain ⟨⟨ai, aj⟩, aE⟩ : ∃ x, u[k]? = some x := ⟨_, List.getElem?_eq_getElem (by omega)⟩
   obtain ⟨⟨am, ao, ap, aW⟩, bi, bj⟩ := h2 k ai aj aE
   rw [ap] at ag
   refine of_op (wpOp_index ac (t := 24) (A := A) (m := u.length) (q := ((k : Nat) : Int)) (d := 12) kz (e := 66) (size := 2) (bytes := 32) kz aD rfl (by omega) fun bk ar => ?_)
   clear ac
   refine of_op (wpOp_load ar (t := 66) (b := aT) (o := aU + k * 2) (d := 13) kz (cs := [.int .u32 ai, .slice am aj.length ao]) (v := .agg #[.int .u32 ai, .slice am aj.length ao]) kz (AtF.move ag aa.step nilM keepF).at_ fun bn au => ?_)
   clear ar
   refine of_op (wpOp_alloc aa au (d := 4) (cs := [.int .u32 0, .slice none 0 0]) kz fun bo bp bq aX aY aF av aw => ?_)
   clear au aa
   refine of_op (wpOp_store av aw (oi := 0) (cs := [.int .u32 ai, .slice am aj.length ao]) kz fun bt aG af ax => ?_)
   clear aw av
   refine wpOps_nil (then_normal ?_)
   refine go_seq_region [0, 1, 2] kz ?_
   refine go_rn [0] [1, 2] [(8, .v (.slice A u.length c)), (9, .v (.int .i64 ((u.length : Nat) : Int))), (10, .v (.int .i64 ((k : Nat) : Int))), (14, .v (.agg #[.int .u32 ai, .slice am aj.length ao]))] af ax fun bu ay => ?_
   clear ax
   refine of_op (wpOp_call ay (f := 118) (vs := [.agg #[.int .u32 ai, .slice am aj.length ao]]) (d := 15) kz Tryz.call118 (lFits3 _ _ _ _ _) ?_)
   rintro e_ bw ⟨aP, rfl, az⟩
   refine ⟨_, rfl, fun bx aA => ?_⟩
   have ab := af.next_nil az
   have aH := af.frN az
   clear ay af
   refine go_rn [2] [] [(8, .v (.slice A u.length c)), (9, .v (.int .i64 ((u.length : Nat) : Int))), (10, .v (.int .i64 ((k : Nat) : Int))), (16, .v (.bool (!aP)))] ab aA fun bz ae => ?_
   clear aA
   refine wpOps_nil (then_normal ?_)
   refine cond_of ae (b := !aP) kz (fun aI => ?_) (fun aI => ?_)
   ·
    refine go_sp [(2, .v (.bool false))] ab ae fun bA aJ => ?_
    clear ae
    refine wp_ret ?_
    refine block_ret ?_
    refine then_ret ?_
    refine then_ret ?_
    refine block_ret ?_
    refine then_ret ?_
    refine leave aJ ab.cells (v := .bool false) kz ?_
    exact ⟨_, rfl, ab.step⟩
   ·
    refine wp_skip ?_
    refine block_normal ?_
    refine then_normal ?_
    refine go_region [0, 1] kz ?_
    refine go_rn [0, 1] [] [(8, .v (.slice A u.length c)), (9, .v (.int .i64 ((u.length : Nat) : Int))), (10, .v (.int .i64 (IntKind.i64.wrap (((k : Nat) : Int) + 1))))] ab ae fun bB aK => ?_
    clear ae
    refine wpOps_nil (then_normal ?_)
    obtain ⟨aB, aL, aM⟩ := ab.cutB aK 0 [] [(8, .v (.slice A u.length c)), (9, .v (.int .i64 ((u.length : Nat) : Int))), (10, .v (.int .i64 (IntKind.i64.wrap (((k : Nat) : Int) + 1))))]
    have aN : IntKind.i64.wrap (((k : Nat) : Int) + 1) = ((k + 1 : Nat) : Int) := wrap_succ (by omega)
    rw [aN] at aB
    exact ⟨u.length - (k + 1), by omega, k + 1, rfl, by omega, aB.pk, aL, ((((aC.trans aF).trans aG).trans aH).trans aM)⟩
  ·
   have aZ := of_decide_eq_false ah
   refine wp_exit ?_
   refine then_exit ?_
   refine then_exit ?_
   refine block_exit ?_
   refine then_normal ?_
   refine go_sp [(2, .v (.bool true))] aa ac fun bC aO => ?_
   clear ac
   refine wp_ret ?_
   refine leave aO aa.cells (v := .bool true) kz ?_
   exact ⟨_, rfl, aa.step⟩
theorem lFits1 (ct : List Value) (t : Tree) (w : World) (F : Nat → Nat → Prop) (ht : TreeR w F ct t) : Calls Tryz.prog 13 #[.agg ct.toArray] w (GivesB w) := by
 obtain ⟨n1, s2, b3, l4, u5, A6, c7, A8, c9, ao, ap, aB, rfl, rfl, aC, aD, aN, aE⟩ := ht.open_
 have ay := aC.small
 have az := aD.small
 refine enter (n := 15) Tryz.func13 rfl Tryz.ntmps13 kz fun a hE => ?_
 have hW := WOk.start w Nil
 refine go_seq_region [0, 1] kz ?_
 refine of_op (wpOp_box hW hE (d := 1) (cs := [.int .i64 n1, .slice A6 s2.length c7, .bool b3, .slice A8 l4.length c9, .slice ao u5.length ap]) kz fun aO aP aQ aF aG aH aa ai => ?_)
 clear hE hW
 refine go_rn [1] [] [(1, .p 0 0)] aa ai fun aR aj => ?_
 clear ai
 refine wpOps_nil (then_normal ?_)
 refine wp_seq ?_
 refine go_sp [(1, .p 0 0), (6, .v (.bool (decide (((s2.length : Nat) : Int) > 2147483647))))] aa aj fun aS ac => ?_
 clear aj
 refine cond_of ac (b := decide (((s2.length : Nat) : Int) > 2147483647)) kz (fun ag => ?_) (fun ag => ?_)
 ·
  have aI := of_decide_eq_true ag
  refine go_sp [(2, .v (.bool false))] aa ac fun aT ar => ?_
  clear ac
  refine wp_ret ?_
  refine then_ret ?_
  refine leave ar aa.cells (v := .bool false) kz ?_
  exact ⟨_, rfl, aa.step⟩
 ·
  have aJ := of_decide_eq_false ag
  refine wp_skip ?_
  refine then_normal ?_
  refine wp_seq ?_
  refine go_sp [(1, .p 0 0), (10, .v (.bool (decide (((l4.length : Nat) : Int) > 2147483647))))] aa ac fun aU ae => ?_
  clear ac
  refine cond_of ae (b := decide (((l4.length : Nat) : Int) > 2147483647)) kz (fun ah => ?_) (fun ah => ?_)
  ·
   have aK := of_decide_eq_true ah
   refine go_sp [(2, .v (.bool false))] aa ae fun aV au => ?_
   clear ae
   refine wp_ret ?_
   refine then_ret ?_
   refine leave au aa.cells (v := .bool false) kz ?_
   exact ⟨_, rfl, aa.step⟩
  ·
   have aL := of_decide_eq_false ah
   refine wp_skip ?_
   refine then_normal ?_
   refine wp_seq ?_
   refine go_seq_region [0, 1, 2, 3] kz ?_
   refine go_rn [0, 1] [2, 3] [(12, .v (.slice ao u5.length ap))] aa ae fun aW ak => ?_
   clear ae
   refine of_op (wpOp_call ak (f := 49) (vs := [.slice ao u5.length ap]) (d := 13) kz Tryz.call49 (lFits2 _ _ u5 _ _ (aE.move aa.step nilM aa.imm)) ?_)
   rintro e_ aX ⟨aA, rfl, al⟩
   refine ⟨_, rfl, fun aY am => ?_⟩
   have ab := aa.next_nil al
   have aM := aa.frN al
   clear ak aa
   refine go_rn [3] [] [(14, .v (.bool (!aA)))] ab am fun aZ af => ?_
   clear am
   refine wpOps_nil (then_normal ?_)
   refine cond_of af (b := !aA) kz (fun av => ?_) (fun av => ?_)
   ·
    refine go_sp [(2, .v (.bool false))] ab af fun ba aw => ?_
    clear af
    refine wp_ret ?_
    refine then_ret ?_
    refine leave aw ab.cells (v := .bool false) kz ?_
    exact ⟨_, rfl, ab.step⟩
   ·
    refine wp_skip ?_
    refine then_normal ?_
    refine go_sp [(2, .v (.bool true))] ab af fun bd ax => ?_
    clear af
    refine wp_ret ?_
    refine leave ax ab.cells (v := .bool true) kz ?_
    exact ⟨_, rfl, ab.step⟩
theorem lVersion (x m : Int) (hx : 0 ≤ x) (hx' : x < 256) (hm : 0 ≤ m) (hm' : m < 32768) (w : World) : Calls Tryz.prog 16 #[.int .u8 x, .int .i64 m] w (Gives w (.int .i64 (Int.tmod x (m + 1)))) := by
 refine enter (n := 10) Tryz.func16 rfl Tryz.ntmps16 kz fun a hE => ?_
 have hW := WOk.start w Nil
 refine go_sp [(0, .v (.int .u8 x)), (1, .v (.int .i64 m))] hW hE fun a1 hE2 => ?_
 clear hE
 refine go_seq_region [0, 1, 2, 3, 4, 5] kz ?_
 refine go_rn [0, 1, 2, 3] [4, 5] [(6, .v (.int .i64 (IntKind.i64.wrap x))), (8, .v (.int .i64 (IntKind.i64.wrap (m + 1))))] hW hE2 fun a3 hE4 => ?_
 clear hE2
 refine of_op (wpOp_rem hE4 (k := .i64) (p := (IntKind.i64.wrap x)) (q := (IntKind.i64.wrap (m + 1))) (d := 9) kz (by simp only [IntKind.wrap_i64]; omega) fun a5 hE6 => ?_)
 clear hE4
 refine go_rn [5] [] [(4, .v (.int .i64 (Int.tmod (IntKind.i64.wrap x) (IntKind.i64.wrap (m + 1)))))] hW hE6 fun a7 hE8 => ?_
 clear hE6
 refine wpOps_nil (then_normal ?_)
 refine wp_ret ?_
 refine leave hE8 hW.cells (v := .int .i64 (Int.tmod (IntKind.i64.wrap x) (IntKind.i64.wrap (m + 1)))) kz ?_
 exact ⟨by rw [wrap_i64 (by omega) (by omega), wrap_i64 (by omega) (by omega)], hW.step⟩
end Go.Proofs.YtgolpmkenmedoaaGreatDoor.ME
namespace Go.Proofs.YtgolpmkenmedoaaGreatDoor.ME
open Go
open Go.RowKit
set_option linter.unusedVariables false
set_option linter.unusedSimpArgs false
set_option maxRecDepth 20000
def tEDescribeACLsRequest_ (v : Int) (T : Tree) : Bs := (be 1 ((IntKind.i8.wrap (T.at_ 0).N))) ++ ((if (decide (v ≥ 2)) = true then (if (T.at_ 1).null = true then uv 0 else uv ((octOf (T.at_ 1)).length + 1) ++ (octOf (T.at_ 1))) else (if (T.at_ 1).null = true then be 2 (-1) else be 2 (octOf (T.at_ 1)).length ++ (octOf (T.at_ 1)))) ++ ((if (decide (v ≥ 1)) = true then be 1 ((IntKind.i8.wrap (T.at_ 2).N)) else []) ++ ((if (decide (v ≥ 2)) = true then (if (T.at_ 3).null = true then uv 0 else uv ((octOf (T.at_ 3)).length + 1) ++ (octOf (T.at_ 3))) else (if (T.at_ 3).null = true then be 2 (-1) else be 2 (octOf (T.at_ 3)).length ++ (octOf (T.at_ 3)))) ++ ((if (decide (v ≥ 2)) = true then (if (T.at_ 4).null = true then uv 0 else uv ((octOf (T.at_ 4)).length + 1) ++ (octOf (T.at_ 4))) else (if (T.at_ 4).null = true then be 2 (-1) else be 2 (octOf (T.at_ 4)).length ++ (octOf (T.at_ 4)))) ++ ((be 1 ((IntKind.i8.wrap (T.at_ 5).N))) ++ ((be 1 ((IntKind.i8.wrap (T.at_ 6).N))) ++ ((if (decide (v ≥ 2)) = true then (uv T.U.length) ++ (tagsR T.U) else []) ++ (([] : Bs)))))))))
theorem teDescribeACLsRequest (v : Int) (T : Tree) : tDescribeACLsRequest v T = tEDescribeACLsRequest_ v T := rfl
def rvDescribeACLsRequest (v : Int) (D : DV) (T : Tree) : Prop := ((D.f 0).n = IntKind.i8.wrap (T.at_ 0).N) ∧ (((D.f 1).s = bs (octOf (T.at_ 1)) ∧ (D.f 1).A.isNone = (T.at_ 1).null)) ∧ (((decide (v ≥ 1)) = true → (D.f 2).n = IntKind.i8.wrap (T.at_ 2).N) ∧ ((decide (v ≥ 1)) = false → (D.f 2).n = 3)) ∧ (((D.f 3).s = bs (octOf (T.at_ 3)) ∧ (D.f 3).A.isNone = (T.at_ 3).null)) ∧ (((D.f 4).s = bs (octOf (T.at_ 4)) ∧ (D.f 4).A.isNone = (T.at_ 4).null)) ∧ ((D.f 5).n = IntKind.i8.wrap (T.at_ 5).N) ∧ ((D.f 6).n = IntKind.i8.wrap (T.at_ 6).N) ∧ (((decide (v ≥ 2)) = true → D.u = T.U) ∧ ((decide (v ≥ 2)) = false → D.u = [])) ∧ True
set_option maxHeartbeats 4000000 in
theorem rdDescribeACLsRequest (v : Int) (T : Tree) {bv : Nat} {A : Option Addr} {c : Nat} {w : World} {F : Nat → Nat → Prop} (hst : Str w bv [.int .i16 v, .int .i8 0, .pointer none, .int .i8 3, .pointer none, .pointer none, .int .i8 0, .int .i8 0, .map none]) (ho : Octs w F A c (tDescribeACLsRequest v T)) (hFd : ∀ b o, F b o → ¬ (b = bv ∧ o < 9)) (hc : canDescribeACLsRequest T) (hR : T.ranged) :
  Calls Tryz.prog 138 #[.pointer (some ⟨bv, 0, none⟩), .slice A (tDescribeACLsRequest v T).length c, .bool false] w (fun e w' => ∃ D : DV, e = .returned .nilIface ∧ Str w' bv [.int .i16 v, .int .i8 ((D.f 0).n), .pointer ((D.f 1).A), .int .i8 ((D.f 2).n), .pointer ((D.f 3).A), .pointer ((D.f 4).A), .int .i8 ((D.f 5).n), .int .i8 ((D.f 6).n), .map D.m] ∧ okDescribeACLsRequest w' (Fp F w) D ∧ rvDescribeACLsRequest v D T ∧ Step w w' (fun b o => b = bv ∧ o < 9)) := by
 refine enter (n := 108) Tryz.func138 rfl Tryz.ntmps138 kz fun a hE => ?_
 have hW := WOk.startStr hst
 have hE1 := (hE.grow ⟨bv, 0, [.int .i16 v, .int .i8 0, .pointer none, .int .i8 3, .pointer none, .pointer none, .int .i8 0, .int .i8 0, .map none], true⟩).recast 0 (.v (.pointer (some ⟨bv, 0, none⟩))) (.p 0 0) rfl rfl (Nat.le_of_ble_eq_true (n := 1) rfl)
 refine go_sp [(0, .p 0 0), (1, .v (.slice A ((tDescribeACLsRequest v T).length) c)), (2, .v (.bool false))] hW hE1 fun a1 hE2 => ?_
 clear hE1
 refine go_seq_region [0, 1] kz ?_
 refine go_rn [0] [1] [(0, .p 0 0), (1, .v (.slice A ((tDescribeACLsRequest v T).length) c)), (2, .v (.bool false)), (26, .p 0 0)] hW hE2 fun a3 hE4 => ?_
 clear hE2
 refine of_op (wpOp_inline hE4 (f := 137) (vs := [.pointer (some ⟨bv, 0, none⟩)]) (d := 27) (n' := 5) kz Tryz.call137 Tryz.func137 rfl Tryz.ntmps137 kz fun a5 hE6 => ?_)
 have hE7 := hE6.recast 0 (.v (.pointer (some ⟨bv, 0, none⟩))) (.p 0 0) rfl rfl (Nat.le_of_ble_eq_true (n := 1) rfl)
 refine go_region [0, 1, 2, 3] kz ?_
 refine go_rn [0, 1, 2] [3] [(4, .p 0 3)] hW hE7 fun a8 hE9 => ?_
 clear hE7
 refine of_op (wpOp_store hW hE9 (oi := 0) (cs := [.int .i16 v, .int .i8 0, .pointer none, .int .i8 3, .pointer none, .pointer none, .int .i8 0, .int .i8 0, .map none]) kz fun dI dq aA db => ?_)
 clear hE9 hW
 refine wpOps_nil ?_
 refine leave_end db aA.cells (v := .tuple #[]) kz ?_
 refine ⟨_, rfl, fun dJ dc => ?_⟩
 have bH : EnvOk 108 [⟨bv, 0, [.int .i16 v, .int .i8 0, .pointer none, .int .i8 3, .pointer none, .pointer none, .int .i8 0, .int .i8 0, .map none], true⟩] [(27, .v (.tuple #[])), (0, .p 0 0), (1, .v (.slice A ((tDescribeACLsRequest v T).length) c)), (2, .v (.bool false)), (26, .p 0 0)] _ := dc.places (⟨rfl, rfl, trivial⟩)
 refine wpOps_nil (then_normal ?_)
 refine go_seq_region [0, 1, 2, 3] kz ?_
 refine go_rn [0, 1] [2, 3] [(0, .p 0 0), (2, .v (.bool false)), (29, .v (.agg #[.slice A ((tDescribeACLsRequest v T).length) c, .bool false]))] aA bH fun dK bI => ?_
 clear bH
 refine of_op (wpOp_alloc aA bI (d := 7) (cs := [.slice none 0 0, .bool false]) kz fun bJ dL dM dr dt du bK bL => ?_)
 clear bI aA
 refine of_op (wpOp_store bK bL (oi := 1) (cs := [.slice A ((tDescribeACLsRequest v T).length) c, .bool false]) kz fun dN dv bC de => ?_)
 clear bL bK
 refine wpOps_nil (then_normal ?_)
 have bM := RS.start (F := F) (s := tDescribeACLsRequest v T) bC de (ho.move bC.step (fun b_ o_ h_ _ => hFd b_ o_ h_) (bC.immM hFd)) [(0, .p 1 0), (2, .v (.bool false)), (7, .p 0 0)]
 have dp := hc
 have e32r := hR
 unfold canDescribeACLsRequest at dp
 obtain ⟨e32_0, e32_1, e32_2, e32_3, e32_4, e32_5, e32_6, e32_U, _⟩ := dp
 obtain ⟨dw, bN⟩ : ∃ R, R = (if (decide (v ≥ 2)) = true then (uv T.U.length) ++ (tagsR T.U) else []) ++ ([] : Bs) := ⟨_, rfl⟩
 obtain ⟨dx, bO⟩ : ∃ R, R = (be 1 ((IntKind.i8.wrap (T.at_ 6).N))) ++ dw := ⟨_, rfl⟩
 obtain ⟨cY, bP⟩ : ∃ R, R = (be 1 ((IntKind.i8.wrap (T.at_ 5).N))) ++ dx := ⟨_, rfl⟩
 obtain ⟨cZ, bQ⟩ : ∃ R, R = (if (decide (v ≥ 2)) = true then (if (T.at_ 4).null = true then uv 0 else uv ((octOf (T.at_ 4)).length + 1) ++ (octOf (T.at_ 4))) else (if (T.at_ 4).null = true then be 2 (-1) else be 2 (octOf (T.at_ 4)).length ++ (octOf (T.at_ 4)))) ++ cY := ⟨_, rfl⟩
 obtain ⟨bR, bS⟩ : ∃ R, R = (if (decide (v ≥ 2)) = true then (if (T.at_ 3).null = true then uv 0 else uv ((octOf (T.at_ 3)).length + 1) ++ (octOf (T.at_ 3))) else (if (T.at_ 3).null = true then be 2 (-1) else be 2 (octOf (T.at_ 3)).length ++ (octOf (T.at_ 3)))) ++ cZ := ⟨_, rfl⟩
 obtain ⟨c5, bT⟩ : ∃ R, R = (if (decide (v ≥ 1)) = true then be 1 ((IntKind.i8.wrap (T.at_ 2).N)) else []) ++ bR := ⟨_, rfl⟩
 obtain ⟨dy, bU⟩ : ∃ R, R = (if (decide (v ≥ 2)) = true then (if (T.at_ 1).null = true then uv 0 else uv ((octOf (T.at_ 1)).length + 1) ++ (octOf (T.at_ 1))) else (if (T.at_ 1).null = true then be 2 (-1) else be 2 (octOf (T.at_ 1)).length ++ (octOf (T.at_ 1)))) ++ c5 := ⟨_, rfl⟩
 obtain ⟨dz, bV⟩ : ∃ R, R = (be 1 ((IntKind.i8.wrap (T.at_ 0).N))) ++ dy := ⟨_, rfl⟩
 have bW := bM.cast (t := dz) (by rw [teDescribeACLsRequest, bV, bU, bT, bS, bQ, bP, bO, bN]; unfold tEDescribeACLsRequest_; simp only [List.append_assoc])
 clear bM
 refine wp_seq ?_
 refine rs_sr [(0, .p 1 0), (2, .v (.bool false)), (7, .p 0 0), (8, .v (.int .i16 v))] bW fun _ bX => ?_
 clear bW
 refine then_normal ?_
 refine wp_seq ?_
 refine rs_sr [(0, .p 1 0), (2, .v (.bool false)), (7, .p 0 0), (8, .v (.int .i16 v))] bX fun _ bY => ?_
 clear bX
 refine then_normal ?_
 refine wp_seq ?_
 refine rs_sr [(0, .p 1 0), (2, .v (.bool false)), (7, .p 0 0), (8, .v (.int .i16 v)), (9, .v (.bool (decide (v ≥ 2))))] bY fun _ bZ => ?_
 clear bY
 refine then_normal ?_
 refine wp_seq ?_
 refine rs_sr [(0, .p 1 0), (2, .v (.bool false)), (7, .p 0 0), (8, .v (.int .i16 v)), (9, .v (.bool (decide (v ≥ 2))))] bZ fun _ b8 => ?_
 clear bZ
 refine then_normal ?_
 refine wp_seq ?_
 refine rs_sr [(2, .v (.bool false)), (7, .p 0 0), (8, .v (.int .i16 v)), (9, .v (.bool (decide (v ≥ 2)))), (10, .p 1 0)] b8 fun _ cd => ?_
 clear b8
 refine then_normal ?_
 refine wp_seq ?_
 refine wp_seq ?_
 refine rs_sr [(2, .v (.bool false)), (7, .p 0 0), (8, .v (.int .i16 v)), (9, .v (.bool (decide (v ≥ 2)))), (10, .p 1 0)] cd fun _ ce => ?_
 clear cd
 refine then_normal ?_
 refine wp_seq ?_
 refine wp_seq ?_
 have cm := ce.cast bV
 clear ce
 refine rs_ca0 (d := 39) [(2, .v (.bool false)), (7, .p 0 0), (8, .v (.int .i16 v)), (9, .v (.bool (decide (v ≥ 2)))), (10, .p 1 0), (12, .v (.int .i8 (IntKind.i8.wrap (T.at_ 0).N)))] cm (pInt8 _ _) Tryz.call190 fun _ _ cq => ?_
 clear cm
 refine then_normal ?_
 refine rs_sr [(2, .v (.bool false)), (7, .p 0 0), (8, .v (.int .i16 v)), (9, .v (.bool (decide (v ≥ 2)))), (10, .p 1 0), (11, .v (.int .i8 (IntKind.i8.wrap (T.at_ 0).N)))] cq fun _ cr => ?_
 clear cq
 refine then_normal ?_
 refine wp_seq ?_
 refine rs_sr [(2, .v (.bool false)), (7, .p 0 0), (8, .v (.int .i16 v)), (9, .v (.bool (decide (v ≥ 2)))), (10, .p 1 0), (13, .v (.int .i8 (IntKind.i8.wrap (T.at_ 0).N)))] cr fun _ cu => ?_
 clear cr
 refine then_normal ?_
 refine rs_sto [⟨bv, 0, [.int .i16 v, .int .i8 (IntKind.i8.wrap (T.at_ 0).N), .pointer none, .int .i8 3, .pointer none, .pointer none, .int .i8 0, .int .i8 0, .map none], true⟩] 0 [(2, .v (.bool false)), (7, .p 0 0), (8, .v (.int .i16 v)), (9, .v (.bool (decide (v ≥ 2)))), (10, .p 1 0)] cu fun _ _ cw => ?_
 clear cu
 refine then_normal ?_
 refine wp_seq ?_
 refine wp_seq ?_
 refine rs_sr [(2, .v (.bool false)), (7, .p 0 0), (8, .v (.int .i16 v)), (9, .v (.bool (decide (v ≥ 2)))), (10, .p 1 0)] cw fun _ cz => ?_
 clear cw
 refine then_normal ?_
 refine wp_seq ?_
 have cA := cz.cast bU
 clear cz
 refine wp_joinN (Mid := fun a_ w_ => ∃ (ak : Option Addr) (P' : FactW), (∀ w F, P' w F → noF w F ∧ textF ak (octOf (T.at_ 1)) w F ∧ ak.isNone = (T.at_ 1).null) ∧ RS w (fun b o => b = bv ∧ o < 9) F 108 bJ [⟨bv, 0, [.int .i16 v, .int .i8 (IntKind.i8.wrap (T.at_ 0).N), .pointer none, .int .i8 3, .pointer none, .pointer none, .int .i8 0, .int .i8 0, .map none], true⟩] [(2, .v (.bool false)), (7, .p 0 0), (8, .v (.int .i16 v)), (9, .v (.bool (decide (v ≥ 2)))), (10, .p 1 0), (14, .v (.pointer ak))] P' c5 a_ w_) ?_ ?_
 ·
  refine wp_seq ?_
  refine rs_sr [(2, .v (.bool false)), (7, .p 0 0), (8, .v (.int .i16 v)), (9, .v (.bool (decide (v ≥ 2)))), (10, .p 1 0), (46, .v (.bool (decide (v ≥ 2))))] cA fun _ ao => then_normal ?_
  clear cA
  refine cond_of ao.env_ (b := decide (v ≥ 2)) kz (fun bD => ?_) (fun bD => ?_)
  ·
   have cB := ao.cast (t := (if (T.at_ 1).null = true then uv 0 else uv ((octOf (T.at_ 1)).length + 1) ++ (octOf (T.at_ 1))) ++ c5) (by rw [if_pos bD])
   clear ao
   refine wp_seq ?_
   refine rs_sr [(2, .v (.bool false)), (7, .p 0 0), (8, .v (.int .i16 v)), (9, .v (.bool (decide (v ≥ 2)))), (10, .p 1 0), (47, .v (.bool false))] cB fun _ bE => then_normal ?_
   clear cB
   refine cond_false bE.env_ (b := false) kz (rfl) ?_
   refine rs_ca (d := 49) (fun c6 => [(2, .v (.bool false)), (7, .p 0 0), (8, .v (.int .i16 v)), (9, .v (.bool (decide (v ≥ 2)))), (10, .p 1 0), (14, .v (.pointer c6))]) bE (pCompactNullableString (T.at_ 1).null (octOf (T.at_ 1)) e32_1 _) (fun _ => (MvF.text _ _).and (MvF.is _)) Tryz.call192 fun c6 dO _ _ cC df => ?_
   clear bE
   refine then_normal ?_
   exact ⟨c6, _, fun w F h_ => ⟨(cC _ _ h_).1, (cC _ _ h_).2⟩, df.pk (env' := [(2, .v (.bool false)), (7, .p 0 0), (8, .v (.int .i16 v)), (9, .v (.bool (decide (v ≥ 2)))), (10, .p 1 0), (14, .v (.pointer c6))])⟩
  ·
   have cD := ao.cast (t := (if (T.at_ 1).null = true then be 2 (-1) else be 2 (octOf (T.at_ 1)).length ++ (octOf (T.at_ 1))) ++ c5) (by rw [if_neg (by rw [bD]; decide)])
   clear ao
   refine wp_seq ?_
   refine rs_sr [(2, .v (.bool false)), (7, .p 0 0), (8, .v (.int .i16 v)), (9, .v (.bool (decide (v ≥ 2)))), (10, .p 1 0), (50, .v (.bool false))] cD fun _ bF => then_normal ?_
   clear cD
   refine cond_false bF.env_ (b := false) kz (rfl) ?_
   refine rs_ca (d := 52) (fun da => [(2, .v (.bool false)), (7, .p 0 0), (8, .v (.int .i16 v)), (9, .v (.bool (decide (v ≥ 2)))), (10, .p 1 0), (14, .v (.pointer da))]) bF (pNullableString (T.at_ 1).null (octOf (T.at_ 1)) e32_1 _) (fun _ => (MvF.text _ _).and (MvF.is _)) Tryz.call194 fun da dP _ _ cE dg => ?_
   clear bF
   refine then_normal ?_
   exact ⟨da, _, fun w F h_ => ⟨(cE _ _ h_).1, (cE _ _ h_).2⟩, dg.pk (env' := [(2, .v (.bool false)), (7, .p 0 0), (8, .v (.int .i16 v)), (9, .v (.bool (decide (v ≥ 2)))), (10, .p 1 0), (14, .v (.pointer da))])⟩
 rintro _ _ ⟨ak, dA, cG, cH⟩
 refine then_normal ?_
 refine rs_sto [⟨bv, 0, [.int .i16 v, .int .i8 (IntKind.i8.wrap (T.at_ 0).N), .pointer ak, .int .i8 3, .pointer none, .pointer none, .int .i8 0, .int .i8 0, .map none], true⟩] 0 [(2, .v (.bool false)), (7, .p 0 0), (8, .v (.int .i16 v)), (9, .v (.bool (decide (v ≥ 2)))), (10, .p 1 0)] cH fun _ _ cI => ?_
 clear cH
 refine then_normal ?_
 refine wp_seq ?_
 have cJ := cI.cast bT
 clear cI
 refine wp_joinN (Mid := fun a_ w_ => ∃ (am : DV) (P' : FactW), (∀ w F, P' w F → dA w F ∧ (True) ∧ ((decide (v ≥ 1)) = true → am.n = IntKind.i8.wrap (T.at_ 2).N) ∧ ((decide (v ≥ 1)) = false → am.n = 3)) ∧ RS w (fun b o => b = bv ∧ o < 9) F 108 bJ [⟨bv, 0, [.int .i16 v, .int .i8 (IntKind.i8.wrap (T.at_ 0).N), .pointer ak, .int .i8 am.n, .pointer none, .pointer none, .int .i8 0, .int .i8 0, .map none], true⟩] [(2, .v (.bool false)), (7, .p 0 0), (9, .v (.bool (decide (v ≥ 2)))), (10, .p 1 0)] P' bR a_ w_) ?_ ?_
 ·
  refine wp_seq ?_
  refine rs_sr [(2, .v (.bool false)), (7, .p 0 0), (9, .v (.bool (decide (v ≥ 2)))), (10, .p 1 0), (58, .v (.bool (decide (v ≥ 1))))] cJ fun _ ap => then_normal ?_
  clear cJ
  refine cond_of ap.env_ (b := decide (v ≥ 1)) kz (fun ar => ?_) (fun ar => ?_)
  ·
   have cK := ap.cast (t := (be 1 ((IntKind.i8.wrap (T.at_ 2).N))) ++ bR) (by rw [if_pos ar])
   clear ap
   refine wp_seq ?_
   refine rs_sr [(2, .v (.bool false)), (7, .p 0 0), (9, .v (.bool (decide (v ≥ 2)))), (10, .p 1 0)] cK fun _ cL => ?_
   clear cK
   refine then_normal ?_
   refine wp_seq ?_
   refine wp_seq ?_
   refine rs_ca0 (d := 59) [(2, .v (.bool false)), (7, .p 0 0), (9, .v (.bool (decide (v ≥ 2)))), (10, .p 1 0), (16, .v (.int .i8 (IntKind.i8.wrap (T.at_ 2).N)))] cL (pInt8 _ _) Tryz.call190 fun _ _ cM => ?_
   clear cL
   refine then_normal ?_
   refine rs_sr [(2, .v (.bool false)), (7, .p 0 0), (9, .v (.bool (decide (v ≥ 2)))), (10, .p 1 0), (15, .v (.int .i8 (IntKind.i8.wrap (T.at_ 2).N)))] cM fun _ cN => ?_
   clear cM
   refine then_normal ?_
   refine wp_seq ?_
   refine rs_sr [(2, .v (.bool false)), (7, .p 0 0), (9, .v (.bool (decide (v ≥ 2)))), (10, .p 1 0), (17, .v (.int .i8 (IntKind.i8.wrap (T.at_ 2).N)))] cN fun _ cO => ?_
   clear cN
   refine then_normal ?_
   refine rs_sto [⟨bv, 0, [.int .i16 v, .int .i8 (IntKind.i8.wrap (T.at_ 0).N), .pointer ak, .int .i8 (IntKind.i8.wrap (T.at_ 2).N), .pointer none, .pointer none, .int .i8 0, .int .i8 0, .map none], true⟩] 0 [(2, .v (.bool false)), (7, .p 0 0), (9, .v (.bool (decide (v ≥ 2)))), (10, .p 1 0)] cO fun _ _ dh => ?_
   clear cO
   refine then_normal ?_
   exact ⟨dvN (IntKind.i8.wrap (T.at_ 2).N), _, fun w F h_ => ⟨h_, trivial, ⟨fun _ => rfl, (fun e_ => by rw [ar] at e_; cases e_)⟩⟩, dh.pk (env' := [(2, .v (.bool false)), (7, .p 0 0), (9, .v (.bool (decide (v ≥ 2)))), (10, .p 1 0)])⟩
  ·
   have cP := ap.cast (t := [] ++ bR) (by rw [if_neg (by rw [ar]; decide)])
   clear ap
   have di := cP.cast (t := bR) rfl
   clear cP
   refine wp_skip (then_normal ?_)
   exact ⟨dvN (3), _, fun w F h_ => ⟨h_, trivial, ⟨(fun e_ => by rw [ar] at e_; cases e_), fun _ => rfl⟩⟩, di.pk (env' := [(2, .v (.bool false)), (7, .p 0 0), (9, .v (.bool (decide (v ≥ 2)))), (10, .p 1 0)])⟩
 rintro _ _ ⟨am, dB, aB, cQ⟩
 refine then_normal ?_
 refine wp_seq ?_
 refine wp_seq ?_
 refine rs_sr [(2, .v (.bool false)), (7, .p 0 0), (9, .v (.bool (decide (v ≥ 2)))), (10, .p 1 0)] cQ fun _ cR => ?_
 clear cQ
 refine then_normal ?_
 refine wp_seq ?_
 have aH := cR.cast bS
 clear cR
 refine wp_joinN (Mid := fun a_ w_ => ∃ (ac : Option Addr) (P' : FactW), (∀ w F, P' w F → dB w F ∧ textF ac (octOf (T.at_ 3)) w F ∧ ac.isNone = (T.at_ 3).null) ∧ RS w (fun b o => b = bv ∧ o < 9) F 108 bJ [⟨bv, 0, [.int .i16 v, .int .i8 (IntKind.i8.wrap (T.at_ 0).N), .pointer ak, .int .i8 am.n, .pointer none, .pointer none, .int .i8 0, .int .i8 0, .map none], true⟩] [(2, .v (.bool false)), (7, .p 0 0), (9, .v (.bool (decide (v ≥ 2)))), (10, .p 1 0), (18, .v (.pointer ac))] P' cZ a_ w_) ?_ ?_
 ·
  refine wp_seq ?_
  refine rs_sr [(2, .v (.bool false)), (7, .p 0 0), (9, .v (.bool (decide (v ≥ 2)))), (10, .p 1 0), (66, .v (.bool (decide (v ≥ 2))))] aH fun _ ag => then_normal ?_
  clear aH
  refine cond_of ag.env_ (b := decide (v ≥ 2)) kz (fun au => ?_) (fun au => ?_)
  ·
   have aI := ag.cast (t := (if (T.at_ 3).null = true then uv 0 else uv ((octOf (T.at_ 3)).length + 1) ++ (octOf (T.at_ 3))) ++ cZ) (by rw [if_pos au])
   clear ag
   refine wp_seq ?_
   refine rs_sr [(2, .v (.bool false)), (7, .p 0 0), (9, .v (.bool (decide (v ≥ 2)))), (10, .p 1 0), (67, .v (.bool false))] aI fun _ av => then_normal ?_
   clear aI
   refine cond_false av.env_ (b := false) kz (rfl) ?_
   refine rs_ca (d := 69) (fun aC => [(2, .v (.bool false)), (7, .p 0 0), (9, .v (.bool (decide (v ≥ 2)))), (10, .p 1 0), (18, .v (.pointer aC))]) av (pCompactNullableString (T.at_ 3).null (octOf (T.at_ 3)) e32_3 _) (fun _ => (MvF.text _ _).and (MvF.is _)) Tryz.call192 fun aC dC _ _ aJ cS => ?_
   clear av
   refine then_normal ?_
   exact ⟨aC, _, fun w F h_ => ⟨(aJ _ _ h_).1, (aJ _ _ h_).2⟩, cS.pk (env' := [(2, .v (.bool false)), (7, .p 0 0), (9, .v (.bool (decide (v ≥ 2)))), (10, .p 1 0), (18, .v (.pointer aC))])⟩
  ·
   have aK := ag.cast (t := (if (T.at_ 3).null = true then be 2 (-1) else be 2 (octOf (T.at_ 3)).length ++ (octOf (T.at_ 3))) ++ cZ) (by rw [if_neg (by rw [au]; decide)])
   clear ag
   refine wp_seq ?_
   refine rs_sr [(2, .v (.bool false)), (7, .p 0 0), (9, .v (.bool (decide (v ≥ 2)))), (10, .p 1 0), (70, .v (.bool false))] aK fun _ aw => then_normal ?_
   clear aK
   refine cond_false aw.env_ (b := false) kz (rfl) ?_
   refine rs_ca (d := 72) (fun aD => [(2, .v (.bool false)), (7, .p 0 0), (9, .v (.bool (decide (v ≥ 2)))), (10, .p 1 0), (18, .v (.pointer aD))]) aw (pNullableString (T.at_ 3).null (octOf (T.at_ 3)) e32_3 _) (fun _ => (MvF.text _ _).and (MvF.is _)) Tryz.call194 fun aD dD _ _ aL cT => ?_
   clear aw
   refine then_normal ?_
   exact ⟨aD, _, fun w F h_ => ⟨(aL _ _ h_).1, (aL _ _ h_).2⟩, cT.pk (env' := [(2, .v (.bool false)), (7, .p 0 0), (9, .v (.bool (decide (v ≥ 2)))), (10, .p 1 0), (18, .v (.pointer aD))])⟩
 rintro _ _ ⟨ac, dj, af, aM⟩
 refine then_normal ?_
 refine rs_sto [⟨bv, 0, [.int .i16 v, .int .i8 (IntKind.i8.wrap (T.at_ 0).N), .pointer ak, .int .i8 am.n, .pointer ac, .pointer none, .int .i8 0, .int .i8 0, .map none], true⟩] 0 [(2, .v (.bool false)), (7, .p 0 0), (9, .v (.bool (decide (v ≥ 2)))), (10, .p 1 0)] aM fun _ _ aN => ?_
 clear aM
 refine then_normal ?_
 refine wp_seq ?_
 refine wp_seq ?_
 refine rs_sr [(2, .v (.bool false)), (7, .p 0 0), (9, .v (.bool (decide (v ≥ 2)))), (10, .p 1 0)] aN fun _ aO => ?_
 clear aN
 refine then_normal ?_
 refine wp_seq ?_
 have aP := aO.cast bQ
 clear aO
 refine wp_joinN (Mid := fun a_ w_ => ∃ (ae : Option Addr) (P' : FactW), (∀ w F, P' w F → dj w F ∧ textF ae (octOf (T.at_ 4)) w F ∧ ae.isNone = (T.at_ 4).null) ∧ RS w (fun b o => b = bv ∧ o < 9) F 108 bJ [⟨bv, 0, [.int .i16 v, .int .i8 (IntKind.i8.wrap (T.at_ 0).N), .pointer ak, .int .i8 am.n, .pointer ac, .pointer none, .int .i8 0, .int .i8 0, .map none], true⟩] [(7, .p 0 0), (9, .v (.bool (decide (v ≥ 2)))), (10, .p 1 0), (19, .v (.pointer ae))] P' cY a_ w_) ?_ ?_
 ·
  refine wp_seq ?_
  refine rs_sr [(2, .v (.bool false)), (7, .p 0 0), (9, .v (.bool (decide (v ≥ 2)))), (10, .p 1 0), (77, .v (.bool (decide (v ≥ 2))))] aP fun _ ah => then_normal ?_
  clear aP
  refine cond_of ah.env_ (b := decide (v ≥ 2)) kz (fun ax => ?_) (fun ax => ?_)
  ·
   have aQ := ah.cast (t := (if (T.at_ 4).null = true then uv 0 else uv ((octOf (T.at_ 4)).length + 1) ++ (octOf (T.at_ 4))) ++ cY) (by rw [if_pos ax])
   clear ah
   refine wp_seq ?_
   refine rs_sr [(7, .p 0 0), (9, .v (.bool (decide (v ≥ 2)))), (10, .p 1 0), (78, .v (.bool false))] aQ fun _ ay => then_normal ?_
   clear aQ
   refine cond_false ay.env_ (b := false) kz (rfl) ?_
   refine rs_ca (d := 80) (fun aE => [(7, .p 0 0), (9, .v (.bool (decide (v ≥ 2)))), (10, .p 1 0), (19, .v (.pointer aE))]) ay (pCompactNullableString (T.at_ 4).null (octOf (T.at_ 4)) e32_4 _) (fun _ => (MvF.text _ _).and (MvF.is _)) Tryz.call192 fun aE dE _ _ aR cU => ?_
   clear ay
   refine then_normal ?_
   exact ⟨aE, _, fun w F h_ => ⟨(aR _ _ h_).1, (aR _ _ h_).2⟩, cU.pk (env' := [(7, .p 0 0), (9, .v (.bool (decide (v ≥ 2)))), (10, .p 1 0), (19, .v (.pointer aE))])⟩
  ·
   have aS := ah.cast (t := (if (T.at_ 4).null = true then be 2 (-1) else be 2 (octOf (T.at_ 4)).length ++ (octOf (T.at_ 4))) ++ cY) (by rw [if_neg (by rw [ax]; decide)])
   clear ah
   refine wp_seq ?_
   refine rs_sr [(7, .p 0 0), (9, .v (.bool (decide (v ≥ 2)))), (10, .p 1 0), (81, .v (.bool false))] aS fun _ az => then_normal ?_
   clear aS
   refine cond_false az.env_ (b := false) kz (rfl) ?_
   refine rs_ca (d := 83) (fun aF => [(7, .p 0 0), (9, .v (.bool (decide (v ≥ 2)))), (10, .p 1 0), (19, .v (.pointer aF))]) az (pNullableString (T.at_ 4).null (octOf (T.at_ 4)) e32_4 _) (fun _ => (MvF.text _ _).and (MvF.is _)) Tryz.call194 fun aF dF _ _ aT cV => ?_
   clear az
   refine then_normal ?_
   exact ⟨aF, _, fun w F h_ => ⟨(aT _ _ h_).1, (aT _ _ h_).2⟩, cV.pk (env' := [(7, .p 0 0), (9, .v (.bool (decide (v ≥ 2)))), (10, .p 1 0), (19, .v (.pointer aF))])⟩
 rintro _ _ ⟨ae, dl, ab, aU⟩
 refine then_normal ?_
 refine rs_sto [⟨bv, 0, [.int .i16 v, .int .i8 (IntKind.i8.wrap (T.at_ 0).N), .pointer ak, .int .i8 am.n, .pointer ac, .pointer ae, .int .i8 0, .int .i8 0, .map none], true⟩] 0 [(7, .p 0 0), (9, .v (.bool (decide (v ≥ 2)))), (10, .p 1 0)] aU fun _ _ aV => ?_
 clear aU
 refine then_normal ?_
 refine wp_seq ?_
 refine wp_seq ?_
 refine rs_sr [(7, .p 0 0), (9, .v (.bool (decide (v ≥ 2)))), (10, .p 1 0)] aV fun _ aW => ?_
 clear aV
 refine then_normal ?_
 refine wp_seq ?_
 refine wp_seq ?_
 have aX := aW.cast bP
 clear aW
 refine rs_ca0 (d := 88) [(7, .p 0 0), (9, .v (.bool (decide (v ≥ 2)))), (10, .p 1 0), (21, .v (.int .i8 (IntKind.i8.wrap (T.at_ 5).N)))] aX (pInt8 _ _) Tryz.call190 fun _ _ aY => ?_
 clear aX
 refine then_normal ?_
 refine rs_sr [(7, .p 0 0), (9, .v (.bool (decide (v ≥ 2)))), (10, .p 1 0), (20, .v (.int .i8 (IntKind.i8.wrap (T.at_ 5).N)))] aY fun _ aZ => ?_
 clear aY
 refine then_normal ?_
 refine wp_seq ?_
 refine rs_sr [(7, .p 0 0), (9, .v (.bool (decide (v ≥ 2)))), (10, .p 1 0), (22, .v (.int .i8 (IntKind.i8.wrap (T.at_ 5).N)))] aZ fun _ ba => ?_
 clear aZ
 refine then_normal ?_
 refine rs_sto [⟨bv, 0, [.int .i16 v, .int .i8 (IntKind.i8.wrap (T.at_ 0).N), .pointer ak, .int .i8 am.n, .pointer ac, .pointer ae, .int .i8 (IntKind.i8.wrap (T.at_ 5).N), .int .i8 0, .map none], true⟩] 0 [(7, .p 0 0), (9, .v (.bool (decide (v ≥ 2)))), (10, .p 1 0)] ba fun _ _ bd => ?_
 clear ba
 refine then_normal ?_
 refine wp_seq ?_
 refine wp_seq ?_
 refine rs_sr [(7, .p 0 0), (9, .v (.bool (decide (v ≥ 2)))), (10, .p 1 0)] bd fun _ bf => ?_
 clear bd
 refine then_normal ?_
 refine wp_seq ?_
 refine wp_seq ?_
 have bg := bf.cast bO
 clear bf
 refine rs_ca0 (d := 95) [(7, .p 0 0), (9, .v (.bool (decide (v ≥ 2)))), (10, .p 1 0), (24, .v (.int .i8 (IntKind.i8.wrap (T.at_ 6).N)))] bg (pInt8 _ _) Tryz.call190 fun _ _ bh => ?_
 clear bg
 refine then_normal ?_
 refine rs_sr [(7, .p 0 0), (9, .v (.bool (decide (v ≥ 2)))), (10, .p 1 0), (23, .v (.int .i8 (IntKind.i8.wrap (T.at_ 6).N)))] bh fun _ bi => ?_
 clear bh
 refine then_normal ?_
 refine wp_seq ?_
 refine rs_sr [(7, .p 0 0), (9, .v (.bool (decide (v ≥ 2)))), (10, .p 1 0), (25, .v (.int .i8 (IntKind.i8.wrap (T.at_ 6).N)))] bi fun _ bj => ?_
 clear bi
 refine then_normal ?_
 refine rs_sto [⟨bv, 0, [.int .i16 v, .int .i8 (IntKind.i8.wrap (T.at_ 0).N), .pointer ak, .int .i8 am.n, .pointer ac, .pointer ae, .int .i8 (IntKind.i8.wrap (T.at_ 5).N), .int .i8 (IntKind.i8.wrap (T.at_ 6).N), .map none], true⟩] 0 [(7, .p 0 0), (9, .v (.bool (decide (v ≥ 2)))), (10, .p 1 0)] bj fun _ _ bk => ?_
 clear bj
 refine then_normal ?_
 refine wp_seq ?_
 have bn := bk.cast bN
 clear bk
 refine wp_joinN (Mid := fun a_ w_ => ∃ (aG : Option Nat) (al : List (Int × Bs)) (P' : FactW), (∀ w F, P' w F → dl w F ∧ (MapR w F aG al ∧ al.length ≤ 1000000 ∧ ∀ x ∈ al, x.2.length < 4294967296) ∧ ((decide (v ≥ 2)) = true → al = T.U) ∧ ((decide (v ≥ 2)) = false → al = [])) ∧ RS w (fun b o => b = bv ∧ o < 9) F 108 bJ [⟨bv, 0, [.int .i16 v, .int .i8 (IntKind.i8.wrap (T.at_ 0).N), .pointer ak, .int .i8 am.n, .pointer ac, .pointer ae, .int .i8 (IntKind.i8.wrap (T.at_ 5).N), .int .i8 (IntKind.i8.wrap (T.at_ 6).N), .map aG], true⟩] [(7, .p 0 0)] P' ([] : Bs) a_ w_) ?_ ?_
 ·
  refine wp_seq ?_
  refine rs_sr [(7, .p 0 0), (10, .p 1 0), (102, .v (.bool (decide (v ≥ 2))))] bn fun _ ai => then_normal ?_
  clear bn
  refine cond_of ai.env_ (b := decide (v ≥ 2)) kz (fun aj => ?_) (fun aj => ?_)
  ·
   have bo := ai.cast (t := ((uv T.U.length) ++ (tagsR T.U)) ++ ([] : Bs)) (by rw [if_pos aj])
   clear ai
   refine go_region [0, 1, 2, 3, 4] kz ?_
   refine rs_rn [0] [1, 2, 3, 4] [(7, .p 0 0), (103, .p 1 0)] bo fun _ bp => ?_
   clear bo
   refine of_op (rs_call (d := 104) bp (pTags T.U e32_U (ranged_U e32r) _) (fun _ => MvF.tags _ _) Tryz.call182 fun bG dG _ _ bq bt => ?_)
   clear bp
   refine rs_rn [2, 3] [4] [(7, .p 0 0), (104, .v (.agg #[.map bG])), (106, .p 1 8)] bt fun _ bu => ?_
   clear bt
   refine of_op (rs_store [⟨bv, 0, [.int .i16 v, .int .i8 (IntKind.i8.wrap (T.at_ 0).N), .pointer ak, .int .i8 am.n, .pointer ac, .pointer ae, .int .i8 (IntKind.i8.wrap (T.at_ 5).N), .int .i8 (IntKind.i8.wrap (T.at_ 6).N), .map bG], true⟩] 0 bu fun _ bw => ?_)
   clear bu
   refine wpOps_nil ?_
   have cW := bw.pk (env' := [(7, .p 0 0)])
   clear bw
   refine then_normal ?_
   exact ⟨bG, T.U, _, fun w F h_ => ⟨(bq _ _ h_).1, ⟨(bq _ _ h_).2, e32_U.2.1, e32_U.2.2⟩, ⟨fun _ => rfl, (fun e_ => by rw [aj] at e_; cases e_)⟩⟩, cW.pk (env' := [(7, .p 0 0)])⟩
  ·
   have bx := ai.cast (t := [] ++ ([] : Bs)) (by rw [if_neg (by rw [aj]; decide)])
   clear ai
   have cX := bx.cast (t := ([] : Bs)) rfl
   clear bx
   refine wp_skip (then_normal ?_)
   exact ⟨none, [], _, fun w F h_ => ⟨h_, ⟨MapR.nil _ _, Nat.zero_le _, fun _ h => by cases h⟩, ⟨(fun e_ => by rw [aj] at e_; cases e_), fun _ => rfl⟩⟩, cX.pk (env' := [(7, .p 0 0)])⟩
 rintro _ _ ⟨aG, al, dH, aa, bz⟩
 refine then_normal ?_
 refine wp_seq ?_
 refine go_region [0, 1] kz (of_op (rs_complete (d := 107) bz rComplete Tryz.call176 fun _ bA => ?_))
 clear bz
 refine rs_rn [1] [] [(6, .v (.nilIface))] bA fun _ bB => wpOps_nil ?_
 clear bA
 refine then_normal ?_
 refine wp_ret ?_
 obtain ⟨A_, m_, c_, hW_, hr_, hE_, hP_⟩ := bB.open_
 refine leave hE_ hW_.cells (v := .nilIface) kz ?_
 have h_ := bB.mv.mono immOut hP_
 refine ⟨(dvP aG al [dvN (IntKind.i8.wrap (T.at_ 0).N), dvT ak (bs (octOf (T.at_ 1))), am, dvT ac (bs (octOf (T.at_ 3))), dvT ae (bs (octOf (T.at_ 4))), dvN (IntKind.i8.wrap (T.at_ 5).N), dvN (IntKind.i8.wrap (T.at_ 6).N)]), rfl, Str.of hW_ 1 rfl, ?_, ?_, hW_.step⟩
 ·unfold okDescribeACLsRequest
  exact ⟨(trivial), (⟨(cG _ _ (aB _ _ (af _ _ (ab _ _ (aa _ _ h_).1).1).1).1).2.1, by show ByteArray.size (bs _) ≤ 1000000; rw [bs_size]; exact Nat.le_trans e32_1 (by decide)⟩), ((aB _ _ (af _ _ (ab _ _ (aa _ _ h_).1).1).1).2.1), (⟨(af _ _ (ab _ _ (aa _ _ h_).1).1).2.1, by show ByteArray.size (bs _) ≤ 1000000; rw [bs_size]; exact Nat.le_trans e32_3 (by decide)⟩), (⟨(ab _ _ (aa _ _ h_).1).2.1, by show ByteArray.size (bs _) ≤ 1000000; rw [bs_size]; exact Nat.le_trans e32_4 (by decide)⟩), (trivial), (trivial), (aa _ _ h_).2.1.1, (aa _ _ h_).2.1.2.1, (aa _ _ h_).2.1.2.2, trivial⟩
 ·unfold rvDescribeACLsRequest
  exact ⟨(rfl), (⟨rfl, (cG _ _ (aB _ _ (af _ _ (ab _ _ (aa _ _ h_).1).1).1).1).2.2⟩), ((aB _ _ (af _ _ (ab _ _ (aa _ _ h_).1).1).1).2.2), (⟨rfl, (af _ _ (ab _ _ (aa _ _ h_).1).1).2.2⟩), (⟨rfl, (ab _ _ (aa _ _ h_).1).2.2⟩), (rfl), (rfl), (aa _ _ h_).2.2, trivial⟩
theorem mvDescribeACLsRequest : Moves okDescribeACLsRequest := by
 intro w w' F F' M d hs hM hF h
 unfold okDescribeACLsRequest at h ⊢
 obtain ⟨g0, ⟨g1, g1l⟩, g2, ⟨g3, g3l⟩, ⟨g4, g4l⟩, g5, g6, t1, t2, t3, _⟩ := h
 exact ⟨g0, ⟨fun ad hA => by
  obtain ⟨b, o, h1, h2⟩ := g1 ad hA
  exact ⟨b, o, h1, h2.move hs hM hF⟩, g1l⟩, g2, ⟨fun ad hA => by
  obtain ⟨b, o, h1, h2⟩ := g3 ad hA
  exact ⟨b, o, h1, h2.move hs hM hF⟩, g3l⟩, ⟨fun ad hA => by
  obtain ⟨b, o, h1, h2⟩ := g4 ad hA
  exact ⟨b, o, h1, h2.move hs hM hF⟩, g4l⟩, g5, g6, t1.move hs hM hF, t2, t3, trivial⟩
end Go.Proofs.YtgolpmkenmedoaaGreatDoor.ME
namespace Go.Proofs.YtgolpmkenmedoaaGreatDoor.ME
open Go
open Go.RowKit
open Go.ChangeMaps (setBlock)
set_option linter.unusedVariables false
set_option linter.unusedSimpArgs false
set_option maxRecDepth 20000
abbrev cloV (fc : Nat) (cap : Value) : Value := .func (.func fc) #[] #[cap]
theorem kEachG {fc : Nat} {cap : Value} {m : Option Nat} {u : List (Int × Bs)} {b o : Nat} {w : World} {F M : Nat → Nat → Prop} (hcf : ∀ args w, (callFunc fc args).run Tryz.prog w = .ok (.enter fc args) w) (I : World → Nat → World → Prop) (hat : AtF w F b o [.map m]) (hm : MapR w F m u) (hMF : ∀ b o, F b o → ¬ M b o) (hMlt : ∀ b o, M b o → b < w.heap.size)
  (hI0 : ∀ w7, Step w w7 Nil → I w7 0 w7) (hIs : ∀ w7 j w8, I w7 j w8 → Step w7 w8 M)
  (hI1 : ∀ w7, Step w w7 Nil → ∀ j k x w8 Ax cx, I w7 j w8 → u[j]? = some (k, x) → (0 ≤ k ∧ k < 4294967296) → Octs w8 (fun b o => F b o ∧ b < w7.heap.size) Ax cx x → Calls Tryz.prog fc [.int .u32 k, .slice Ax x.length cx, cap].toArray w8 (fun e w9 => e = .returned (.tuple #[]) ∧ I w7 (j + 1) w9)) (hul : u.length ≤ 1000000) :
  Calls Tryz.prog 122 [.pointer (some ⟨b, o, none⟩), cloV fc cap].toArray w (fun e w' => e = .returned (.tuple #[]) ∧ ∃ w7, Step w w7 Nil ∧ I w7 u.length w') := by
 refine enter (n := 53) Tryz.func122 rfl Tryz.ntmps122 kz fun a hE => ?_
 have hW : WOk w Nil w [⟨b, o, [.map m], false⟩] [] := (WOk.start w Nil).start1 hat rfl rfl
 refine wp_seq (wp_seq ?_)
 refine go_region [0, 1, 2, 3, 4, 5] kz ?_
 refine go_runs [0, 1, 2, 3] [4, 5] [0, 1, 11] hW (EnvOk.ptr0 (cs := [.map m]) (r := false) hE) (env' := [(0, .p 0 0), (1, .v (cloV fc cap)), (11, .v (.map m))]) kz rfl fun a1 hE1 => ?_
 refine of_op (wpOp_lenM (t := 99) (kt := 64) (et := 22) hE1 (m := m) (d := 12) kz kz hm fun a2 hE2 => ?_)
 refine go_runs [5] [] [0, 1, 13] hW hE2 (env' := [(0, .p 0 0), (1, .v (cloV fc cap)), (13, .v (.bool (((u.length : Nat) : Int) == 0)))]) kz rfl fun a3 hE3 => wpOps_nil (then_normal ?_)
 refine cond_of hE3 (b := ((u.length : Nat) : Int) == 0) kz (fun hb => ?_) (fun hb => ?_)
 ·-- none
  have hu : u = [] := List.eq_nil_of_length_eq_zero (by have := eq_of_beq hb; omega)
  subst hu
  refine wp_ret (then_ret ?_)
  exact leave hE3 hW.cells (v := .tuple #[]) kz ⟨rfl, w, Step.refl _ _, hI0 w (Step.refl _ _)⟩
 have hu0 : 0 < u.length := by have := ne_of_beq_false hb; omega
 cases m with
 | none => rw [hm.none_ rfl] at hu0; cases hu0
 | some mb =>
 obtain ⟨hFm, es, clk, hes, hperm, hborn, hnod, hcont⟩ := hm.some_ mb rfl
 have hmlt : mb < w.heap.size := (Array.getElem?_eq_some_iff.1 hes).1
 have hesz : es.size = u.length := MapR.size (w := w) (F := F) hperm
 refine wp_skip (then_normal ?_)
 refine go_seq_region [0, 1, 2, 3, 4, 5, 6, 7] kz ?_
 refine go_runs [0, 1, 2, 3] [4, 5, 6, 7] [0, 1, 17] hW hE3 (env' := [(0, .p 0 0), (1, .v (cloV fc cap)), (17, .v (.map (some mb)))]) kz rfl fun a4 hE4 => ?_
 refine of_op (wpOp_lenM (t := 99) (kt := 64) (et := 22) hE4 (m := some mb) (d := 18) kz kz hm fun a5 hE5 => ?_)
 refine of_op (wpOp_make0 (e := 64) (size := 1) (bytes := 4) (j := u.length) (t := 200) (d := 19) hW hE5 (p := 0) (q := ((u.length : Nat) : Int)) kz kz rfl rfl (by omega) fun kr a6 w1 hkr hkr0 hF1 hW1 hE6 => ?_)
 refine of_op (wpOp_alloc hW1 hE6 (d := 4) (cs := [.slice none 0 0]) kz fun kb a7 w2 hkb hkb0 hF2 hW2 hE7 => ?_)
 refine of_op (wpOp_store hW2 hE7 (oi := 1) (cs := [.slice (some ⟨kr, 0, none⟩) 0 u.length]) kz fun w3 hF3 hW3 hE8 => wpOps_nil (then_normal ?_))
 refine wp_seq (go_seq_region [0, 1, 2, 3, 4] kz ?_)
 refine go_runs [0, 1, 2, 3] [4] [0, 1, 4, 23] hW3 hE8 (env' := [(0, .p 0 0), (1, .v (cloV fc cap)), (4, .p 1 0), (23, .v (.map (some mb)))]) kz rfl fun a8 hE9 => ?_
 have hes3 := hW3.step.heap (fun o h => h) hes
 refine of_op (wpOp_range (t := 99) (kt := 64) (et := 22) (d := 24) (r := mb) hE9 kz kz hes3 fun a9 hE10 => wpOps_nil (then_normal ?_))
 have hW4 := hW3.next_nil (Step.alloc w3 (.mapIter (some mb) clk #[] clk))
 have hr4 : (w3.alloc (.mapIter (some mb) clk #[] clk)).heap[w3.heap.size]? = some (.mapIter (some mb) clk #[] clk) := heap_new _ _
 have hE11 := hE10.pick (ks := [0, 1, 4, 24]) (env' := [(0, .p 0 0), (1, .v (cloV fc cap)), (4, .p 1 0), (24, .v (.pointer (some ⟨w3.heap.size, 0, none⟩)))]) kz
 have hrlt : w3.heap.size < (w3.alloc (.mapIter (some mb) clk #[] clk)).heap.size := by rw [size_alloc]; omega
 have hr0 : w.heap.size ≤ w3.heap.size := hW3.step.size
 have hkbr : kb ≠ w3.heap.size := by have := hW3.live 1 _ rfl; show ¬ _; intro e; rw [← e] at this; exact absurd this (Nat.lt_irrefl _)
 have hkrr : kr ≠ w3.heap.size := by have := own_live (hW3.own 0 _ rfl) (g := kr) rfl; omega
 generalize hR : w3.heap.size = R at hr4 hE11 hrlt hkbr hkrr
 generalize hw4 : w3.alloc (.mapIter (some mb) clk #[] clk) = w4 at hW4 hr4 hrlt
 refine wp_block ?_
 refine wp_loop_ghost (fun q a_ w_ => ∃ (vis : List MapEntry) (seen : Array Nat) (K : Option Addr) (kc c0 : Nat), q = (leftOf es seen).size ∧ Vis es.toList vis seen ∧ vis.length + (leftOf es seen).size ≤ es.size ∧
   EnvOk 53 [⟨b, o, [.map (some mb)], false⟩, ⟨kb, 0, [.slice K vis.length kc], true⟩] [(0, .p 0 0), (1, .v (cloV fc cap)), (4, .p 1 0), (24, .v (.pointer (some ⟨R, 0, none⟩)))] a_ ∧
   WOk w Nil w_ [⟨b, o, [.map (some mb)], false⟩, ⟨kb, 0, [.slice K vis.length kc], true⟩] [⟨K, kc, 64, 1, vis.length, (vis.map fun e => kOf e.key).map (Value.int .u32)⟩] ∧
   w_.heap[R]? = some (.mapIter (some mb) clk seen c0) ∧ clk ≤ c0 ∧ K.map (·.block) ≠ some R) (leftOf es #[]).size
  ⟨[], #[], some ⟨kr, 0, none⟩, u.length, clk, rfl, Vis.nil _, by rw [List.length_nil, Nat.zero_add]; exact Array.size_filter_le, by rw [← hw4] at *; exact hE11, hW4, hr4, Nat.le_refl _, by simpa using hkrr⟩ ?_
 rintro q a10 w5 ⟨vis, seen, K, kc, c0, rfl, hv, hvl, hE12, hW5, hr5, hc0, hKR⟩
 have hes5 := hW5.step.heap (fun o h => h) hes
 refine go_seq_region [0, 1] kz ?_
 refine of_op (wpOp_next hE12 (d := 25) (r := R) kz hr5 hes5 hborn hc0 (fun h0 a11 hE13 => ?_) (fun e he w6 hw6 a11 hE13 => ?_))
 ·-- behind it
  refine go_runs [1] [] [0, 1, 4, 26] hW5 hE13 (env' := [(0, .p 0 0), (1, .v (cloV fc cap)), (4, .p 1 0), (26, .v (.bool false))]) kz rfl fun a12 hE14 => wpOps_nil (then_normal (wp_seq ?_))
  refine cond_of hE14 (b := false) kz (fun hb => by cases hb) (fun _ => ?_)
  refine wp_exit (then_exit (then_exit (block_exit (then_normal ?_))))
  have hpe := hv.all h0 hnod
  have hvu : vis.length = u.length := by rw [hpe.length_eq, Array.length_toList, hesz]
  have hkp : (vis.map fun e => kOf e.key).Perm (u.map Prod.fst) := by
   have h1 := (hpe.map fun e => kOf e.key)
   have h2 := hperm.map kOf
   rw [List.map_map, List.map_map] at h2
   exact h1.trans h2
  have hkl : (vis.map fun e => kOf e.key).length = vis.length := by simp
  generalize (vis.map fun e => kOf e.key) = ks at hkp hkl hW5
  have hown4 : w5.ownsRow 0 64 1 (.slice K vis.length kc) vis.length (ks.map (Value.int .u32)) := hW5.own 0 _ rfl
  obtain ⟨g, rfl⟩ := own_addr hown4 (by omega)
  have hown5 : w5.ownsRow 0 64 1 (.slice (some ⟨g, 0, none⟩) vis.length kc) vis.length (ks.map (Value.int .u32)) := hown4
  have hg0 : w.heap.size ≤ g := by
   rcases hW5.ownM 0 _ rfl g rfl with h | h
   ·exact h
   ·exact (h 0).elim
  refine go_seq_region [0, 1, 2, 3] kz ?_
  refine go_runs [0, 1] [2, 3] [0, 1, 4, 34] hW5 hE14 (env' := [(0, .p 0 0), (1, .v (cloV fc cap)), (4, .p 1 0), (34, .v (.iface 200 (.slice (some ⟨g, 0, none⟩) vis.length kc)))]) kz rfl fun a13 hE15 => ?_
  refine of_op (wpOp_mkf hE15 (v := .func (.func 185) #[] #[.pointer (some ⟨kb, 0, none⟩)]) (d := 35) kz fun a14 hE16 => ?_)
  have hS := Tryz.sortKeys g kc kb ks.toArray (by simp; omega) (by simp; omega) w5 (by simp only [List.size_toArray, hkl]; exact hW5.cells 1 _ rfl 0 _ rfl) (fun e => hW5.rtb 0 _ rfl g rfl 1 _ rfl e) (own_holds hkl hown5) (own_live (hW5.own 0 _ rfl) (g := g) rfl) (hW5.live 1 _ rfl)
  rw [List.size_toArray, hkl] at hS
  refine of_op (wpOp_call hE16 (f := 184) (vs := [.iface 200 (.slice (some ⟨g, 0, none⟩) vis.length kc), .func (.func 185) #[] #[.pointer (some ⟨kb, 0, none⟩)]]) (d := 36) kz Tryz.call184 hS ?_)
  rintro e_ w7 ⟨rfl, d', nd, os, hd1, hd2, hd3, rfl⟩
  refine ⟨_, rfl, fun a15 hE17 => wpOps_nil (then_normal ?_)⟩
  have hus : d'.toList = u.map Prod.fst := sorted_is hd2 (by rw [hd1]; exact hd3) hkp (List.pairwise_map.2 hm.sorted)
  obtain ⟨hst7, hown7⟩ := sort_own (n := nd) (os := os) hkl hown5 (by rw [hd1, hkl])
  rw [hus] at hown7
  generalize Sort.grow (Sort.putRow (Value.int .u32) (Sort.ahead w5 nd) g 0 d') os = w7 at hst7 hown7
  have hW7 : WOk w Nil w7 [⟨b, o, [.map (some mb)], false⟩, ⟨kb, 0, [.slice (some ⟨g, 0, none⟩) vis.length kc], true⟩] [⟨some ⟨g, 0, none⟩, kc, 64, 1, vis.length, (u.map Prod.fst).map (Value.int .u32)⟩] :=
   hW5.grow (k := 0) (r' := ⟨some ⟨g, 0, none⟩, kc, 64, 1, vis.length, (u.map Prod.fst).map (Value.int .u32)⟩) rfl (hst7.mono fun b' _ _ hb' => by rw [hb']; rfl) hown7 (fun g' h => .inl h)
  refine go_seq_region [0, 1, 2] kz ?_
  refine go_runs [0, 1, 2] [] [0, 1, 37, 38, 39] hW7 hE17 (env' := [(0, .p 0 0), (1, .v (cloV fc cap)), (37, .v (.slice (some ⟨g, 0, none⟩) vis.length kc)), (38, .v (.int .i64 ((vis.length : Nat) : Int))), (39, .v (.int .i64 0))]) kz rfl fun a16 hE18 => wpOps_nil (then_normal ?_)
  have hE19 := EnvOk.cutTb 1 hE18 kz
  have hat7 := hat.move hW7.step nilM keepF
  have hm7 := hm.move hW7.step nilM keepF
  have hg7 : g < w7.heap.size := own_live (hW7.own 0 _ rfl) (g := g) rfl
  have hkeys := own_holds (by simpa using hvu.symm) hown7
  rw [hvu] at hE19
  refine wp_block ?_
  refine wp_loop_ghost (fun q a_ w_ => ∃ (j : Nat), q = u.length - j ∧ j ≤ u.length ∧ EnvOk 53 [⟨b, o, [.map (some mb)], false⟩] [(0, .p 0 0), (1, .v (cloV fc cap)), (37, .v (.slice (some ⟨g, 0, none⟩) u.length kc)), (38, .v (.int .i64 ((u.length : Nat) : Int))), (39, .v (.int .i64 ((j : Nat) : Int)))] a_ ∧
   I w7 j w_) u.length
   ⟨0, by omega, by omega, hE19, hI0 w7 hW7.step⟩ ?_
  rintro q a17 w8 ⟨j, rfl, hj, hE20, hD⟩
  have hS8 := hIs w7 j w8 hD
  have hat8 := hat7.move hS8 (fun b o hf _ => hMF b o hf) keepF
  have hm8 : MapR w8 (fun b' o' => F b' o' ∧ b' < w7.heap.size) (some mb) u := hm7.move hS8 (fun b o hf _ => hMF b o hf) (fun b' o' hf hl => ⟨hf, hl⟩)
  have hW8 : WOk w8 Nil w8 [⟨b, o, [.map (some mb)], false⟩] [] := (WOk.start w8 Nil).start1 hat8 rfl rfl
  refine go_seq_region [0] kz (go_runs [0] [] [0, 1, 37, 38, 39, 40] hW8 hE20 (env' := [(0, .p 0 0), (1, .v (cloV fc cap)), (37, .v (.slice (some ⟨g, 0, none⟩) u.length kc)), (38, .v (.int .i64 ((u.length : Nat) : Int))), (39, .v (.int .i64 ((j : Nat) : Int))), (40, .v (.bool (decide (((j : Nat) : Int) < ((u.length : Nat) : Int)))))]) kz rfl fun a18 hE21 => wpOps_nil (then_normal (wp_seq ?_)))
  refine cond_of hE21 (b := decide (((j : Nat) : Int) < ((u.length : Nat) : Int))) kz (fun hc => ?_) (fun hc => ?_)
  ·have hlt : j < u.length := by have := of_decide_eq_true hc; omega
   refine wp_skip (then_normal (wp_seq (wp_block ?_)))
   obtain ⟨⟨k, x⟩, hu⟩ : ∃ y, u[j]? = some y := ⟨_, List.getElem?_eq_getElem hlt⟩
   have hmem := List.mem_of_getElem? hu
   have hkr := hm.range _ hmem
   have hcell : At w8 g (0 + j * 1) [.int .u32 k] := by
    intro i v hi
    have hi0 : i = 0 := by
     have := (List.getElem?_eq_some_iff.1 hi).1
     simp at this; omega
    subst hi0
    simp only [List.getElem?_cons_zero, Option.some.injEq] at hi
    subst hi
    refine hS8.cell (fun hbm => ?_) ?_
    ·have := hMlt _ _ hbm; omega
    ·have h1 := (hkeys j (by simpa using hlt)).1
     have h2 : (u.map Prod.fst).toArray[j]! = k := by
      rw [getElem!_pos _ j (by simpa using hlt)]
      have : (u.map Prod.fst)[j]? = some k := by rw [List.getElem?_map, hu]; rfl
      simpa using (List.getElem?_eq_some_iff.1 this).2
     rw [h2] at h1
     simpa using h1
   refine go_seq_region [0, 1, 2] kz ?_
   refine of_op (wpOp_index hE21 (t := 200) (e := 64) (size := 1) (bytes := 4) (d := 41) (b := g) (o := 0) (m := u.length) (j := j) kz kz rfl rfl hlt fun a19 hE22 => ?_)
   refine of_op (wpOp_load hE22 (t := 64) (d := 42) (cs := [.int .u32 k]) (v := .int .u32 k) kz kz hcell fun a20 hE23 => ?_)
   refine go_runs [2] [] [0, 1, 37, 38, 39, 7] hW8 hE23 (env' := [(0, .p 0 0), (1, .v (cloV fc cap)), (37, .v (.slice (some ⟨g, 0, none⟩) u.length kc)), (38, .v (.int .i64 ((u.length : Nat) : Int))), (39, .v (.int .i64 ((j : Nat) : Int))), (7, .v (.int .u32 k))]) kz rfl fun a21 hE24 => wpOps_nil (then_normal ?_)
   refine go_region [0, 1, 2, 3, 4, 5, 6, 7, 8] kz ?_
   refine go_runs [0, 1, 2, 3, 4, 5, 6] [7, 8] [0, 1, 37, 38, 39, 43, 44, 48, 49] hW8 hE24 (env' := [(0, .p 0 0), (1, .v (cloV fc cap)), (37, .v (.slice (some ⟨g, 0, none⟩) u.length kc)), (38, .v (.int .i64 ((u.length : Nat) : Int))), (39, .v (.int .i64 ((j : Nat) : Int))), (43, .v (cloV fc cap)), (44, .v (.int .u32 k)), (48, .v (.map (some mb))), (49, .v (.int .u32 k))]) kz rfl fun a22 hE25 => ?_
   refine of_op (wpOp_look hE25 (t := 99) (kt := 64) (et := 22) (m := some mb) (k := k) (s := x) (d := 50) kz kz kz hm8 hmem fun a23 Ax cx hox hE26 => ?_)
   refine of_op (wpOp_call hE26 (f := fc) (vs := [.int .u32 k, .slice Ax x.length cx, cap]) (d := 51) kz hcf (hI1 w7 hW7.step j k x w8 Ax cx hD hu hkr hox) ?_)
   rintro e_ w9 ⟨rfl, hD2⟩
   refine ⟨_, rfl, fun a24 hE27 => wpOps_nil (block_normal (then_normal ?_))⟩
   have hS9 := hIs w7 (j + 1) w9 hD2
   have hat9 := hat7.move hS9 (fun b o hf _ => hMF b o hf) keepF
   have hW9 : WOk w9 Nil w9 [⟨b, o, [.map (some mb)], false⟩] [] := (WOk.start w9 Nil).start1 hat9 rfl rfl
   refine go_region [0, 1] kz (go_runs [0, 1] [] [0, 1, 37, 38, 39] hW9 hE27 (env' := [(0, .p 0 0), (1, .v (cloV fc cap)), (37, .v (.slice (some ⟨g, 0, none⟩) u.length kc)), (38, .v (.int .i64 ((u.length : Nat) : Int))), (39, .v (.int .i64 (IntKind.i64.wrap (((j : Nat) : Int) + 1))))]) kz rfl fun a25 hE28 => wpOps_nil (then_normal ?_))
   rw [wrap_succ (by omega)] at hE28
   exact ⟨u.length - (j + 1), by omega, j + 1, rfl, by omega, hE28, hD2⟩
  ·obtain rfl : j = u.length := by have := of_decide_eq_false hc; omega
   refine wp_exit (then_exit (then_exit (block_exit ?_)))
   exact leave_end hE21 hW8.cells (v := .tuple #[]) kz ⟨rfl, w7, hW7.step, hD⟩
 ·-- one more
  have hst6 : Step w5 w6 Nil := by
   rcases hw6 with rfl | rfl
   ·exact Step.refl _ _
   ·exact Step.drew _
  have hr6 : w6.heap[R]? = some (.mapIter (some mb) clk seen c0) := hst6.heap (fun o h => h) hr5
  have hW6 := hW5.next_nil hst6
  obtain ⟨hml, _⟩ := mem_left he
  obtain ⟨k, sx, Ax, cx, hk1, hk2, hk3, hk4⟩ := hcont e hml
  have hR6 : R < w6.heap.size := (Array.getElem?_eq_some_iff.1 hr6).1
  have hW7 : WOk w Nil (setBlock w6 R (.mapIter (some mb) clk (seen.push e.born) clk)) [⟨b, o, [.map (some mb)], false⟩, ⟨kb, 0, [.slice K vis.length kc], true⟩] [⟨K, kc, 64, 1, vis.length, (vis.map fun e => kOf e.key).map (Value.int .u32)⟩] := by
   refine hW6.next (Step.setBlock w6 R _) (fun b' o' hb' hN => by omega) (fun i ob hi j hj hN => ?_) (fun i q hi g' hg' o' hN => ?_)
   ·match i, hi with
    | 0, hi =>
     simp only [List.getElem?_cons_zero, Option.some.injEq] at hi; subst hi
     have := World.lt_of_cell (hat 0 _ rfl).2
     simp only at hN; omega
    | 1, hi =>
     simp only [List.getElem?_cons_succ, List.getElem?_cons_zero, Option.some.injEq] at hi; subst hi
     exact hkbr hN
    | i + 2, hi => simp at hi
   ·match i, hi with
    | 0, hi =>
     simp only [List.getElem?_cons_zero, Option.some.injEq] at hi; subst hi
     exact hKR (by rw [← hN]; exact hg')
    | i + 1, hi => simp at hi
  have hr7 : (setBlock w6 R (.mapIter (some mb) clk (seen.push e.born) clk)).heap[R]? = some (.mapIter (some mb) clk (seen.push e.born) clk) := heap_setBlock hr6
  generalize hw7 : setBlock w6 R (.mapIter (some mb) clk (seen.push e.born) clk) = w7 at hW7 hr7
  refine go_runs [1] [] [0, 1, 4, 24, 26] hW7 hE13 (env' := [(0, .p 0 0), (1, .v (cloV fc cap)), (4, .p 1 0), (24, .v (.pointer (some ⟨R, 0, none⟩))), (26, .v (.bool true))]) kz rfl fun a12 hE14 => wpOps_nil (then_normal (wp_seq ?_))
  refine cond_of hE14 (b := true) kz (fun _ => ?_) (fun hb => by cases hb)
  refine wp_skip (then_normal (wp_block ?_))
  have hes7 := hW7.step.heap (fun o h => h) hes
  refine go_seq_region [0, 1, 2] kz ?_
  refine of_op (wpOp_entry hE14 (d := 27) (r := R) kz hr7 hes7 hml hnod fun a13 hE15 => ?_)
  rw [hk1] at hE15
  refine go_runs [1, 2] [] [0, 1, 4, 24, 5] hW7 hE15 (env' := [(0, .p 0 0), (1, .v (cloV fc cap)), (4, .p 1 0), (24, .v (.pointer (some ⟨R, 0, none⟩))), (5, .v (.int .u32 k))]) kz rfl fun a14 hE16 => wpOps_nil (then_normal ?_)
  refine go_region [0, 1, 2, 3, 4] kz ?_
  refine go_runs [0, 1] [2, 3, 4] [0, 1, 4, 24, 29, 30] hW7 hE16 (env' := [(0, .p 0 0), (1, .v (cloV fc cap)), (4, .p 1 0), (24, .v (.pointer (some ⟨R, 0, none⟩))), (29, .v (.slice K vis.length kc)), (30, .v (.int .u32 k))]) kz rfl fun a15 hE17 => ?_
  have hsh := left_shrinks es seen e he
  refine wpOps_push (t := 200) (e := 64) (size := 1) (bytes := 4) (len := 1) (cs := [.int .u32 k]) (d1 := 31) (d := 32) (k := 0) hW7 hE17 kz kz (fun _ => by kernel_rfl) rfl kz (by omega) fun K2 kc2 a16 w8 hF8 hW8 hE18 => ?_
  obtain ⟨bl, hE18⟩ := hE18
  have hR7 : R < w7.heap.size := (Array.getElem?_eq_some_iff.1 hr7).1
  have hna : ∀ {o'}, ¬ Act_ [⟨b, o, [.map (some mb)], false⟩, ⟨kb, 0, [.slice K vis.length kc], true⟩] [⟨K, kc, 64, 1, vis.length, (vis.map fun e => kOf e.key).map (Value.int .u32)⟩] R o' := by
   rintro o' (⟨i, ob, hi, hrw, hb, _⟩ | ⟨i, q, hi, hq⟩)
   ·match i, hi with
    | 0, hi =>
     simp only [List.getElem?_cons_zero, Option.some.injEq] at hi; subst hi
     cases hrw
    | 1, hi =>
     simp only [List.getElem?_cons_succ, List.getElem?_cons_zero, Option.some.injEq] at hi; subst hi
     exact hkbr hb
    | i + 2, hi => simp at hi
   ·match i, hi with
    | 0, hi =>
     simp only [List.getElem?_cons_zero, Option.some.injEq] at hi; subst hi
     exact hKR hq
    | i + 1, hi => simp at hi
  have hK2 : K2.map (·.block) ≠ some R := fun hk => by
   exact hF8.imm R 0 hR7 hna (.inr ⟨0, _, rfl, hk⟩)
  refine of_op (wpOp_store hW8 hE18 (oi := 1) (cs := [.slice K2 (vis.length + 1) kc2]) kz fun w9 hF9 hW9 hE19 => wpOps_nil (block_normal (then_normal ?_)))
  have hr8 : w9.heap[R]? = some (.mapIter (some mb) clk (seen.push e.born) clk) :=
   hF9.step.heap (fun o' => hF8.imm R o' hR7 hna) (hF8.step.heap (fun o' => hna) hr7)
  refine ⟨(leftOf es (seen.push e.born)).size, hsh, vis ++ [e], seen.push e.born, K2, kc2, clk, rfl, hv.push he, by rw [List.length_append, List.length_singleton]; omega, ?_, ?_, hr8, Nat.le_refl _, hK2⟩
  ·rw [List.length_append, List.length_singleton]
   exact hE19.pick (ks := [0, 1, 4, 24]) kz
  ·rw [List.length_append, List.length_singleton, List.map_append, List.map_append, List.map_cons, List.map_cons, hk1]
   exact hW9
end Go.Proofs.YtgolpmkenmedoaaGreatDoor.ME
namespace Go.Proofs.YtgolpmkenmedoaaGreatDoor.ME
open Go
open Go.RowKit
set_option linter.unusedVariables false
set_option linter.unusedSimpArgs false
section
variable {P : Program} {ops : Array Oper} {Q : Exit → Act → World → Prop} {n : Nat} {tb : Tb} {env : Env} {rs : List Rw} {w0 : World} {M : Nat → Nat → Prop} {a : Act} {w : World}
theorem wpOp_makeZ {i d j : Nat} {t e : TypeId} {size bytes : Nat} (z : Value) (cs : List Value) {N : Act → World → Prop} (hW : WOk w0 M w tb rs) (hE : EnvOk n tb env a)
  (K : ∀ b a' w', b = w.heap.size → w0.heap.size ≤ b → Fr w tb rs w' (tb ++ [⟨b, 0, cs, true⟩]) rs → WOk w0 M w' (tb ++ [⟨b, 0, cs, true⟩]) rs → EnvOk n (tb ++ [⟨b, 0, cs, true⟩]) ((d, .v (.slice (some ⟨b, 0, none⟩) j j)) :: env) a' → N a' w')
  (h : makeE env ops n i = some (t, ((j : Nat) : Int), ((j : Nat) : Int), d) := by kernel_rfl) (ht : rowTy P t = some (e, size, bytes) := by kernel_rfl) (hz : (P.info? e).bind (·.zero) = some z := by kernel_rfl) (hcs : (madeCells z.cells (j * size)).toList = cs := by kernel_rfl) (hb : Nat.ble (bytes * j) 1000000 = true := by kernel_rfl) : wpOp P ops Q i N a w := by
 obtain ⟨ht', inf, z', hi, hz', hzs, hs1, rfl, hsz, hbp⟩ := rowTy_ok ht
 obtain ⟨op, ho, hd, kl, kc, hrun⟩ := makeE_ok (P := P) (w := w) hE h
 have hzz : z' = z := by rw [hi] at hz; simp only [Option.bind_some, hz', Option.some.injEq] at hz; exact hz
 subst hzz
 have hb' := Nat.le_of_ble_eq_true hb
 have hjm : j ≤ 1000000 := by
  have := Nat.le_mul_of_pos_left j hbp
  omega
 have hr := run_make (P := P) w t e inf z' ht' hi hz' kl kc (j : Int) (j : Int) (by omega) (Int.le_refl _) (by
  have : ((inf.bytes * j : Nat) : Int) ≤ 281474976710656 := by omega
  rwa [Int.natCast_mul] at this) (by omega)
 simp only [Int.toNat_natCast, hs1] at hr
 have hca : madeCells z'.cells (j * size) = cs.toArray := by rw [← hcs]
 rw [hca] at hr
 refine wpOp_value hE ho (fun o hop => hrun o _ _ hop hr) ?_
 refine K w.heap.size _ _ rfl hW.step.size (Fr.alloc w tb rs _ cs true) (hW.alloc cs e) ?_
 exact (hE.put hd (.v (.slice (some ⟨w.heap.size, 0, none⟩) j j)) trivial).grow _
theorem wpOp_bytes {i d : Nat} {src dst e : TypeId} {s : ByteArray} {N : Act → World → Prop} (hW : WOk w0 M w tb rs) (hE : EnvOk n tb env a) (hsm : s.size ≤ 1099511627776)
  (K : ∀ b c a' w', Fr w tb rs w' tb rs → WOk w0 M w' tb rs → (∀ G, Octs w' (Imm G w0 w' tb rs) (some ⟨b, 0, none⟩) c (sb s)) → EnvOk n tb ((d, .v (.slice (some ⟨b, 0, none⟩) (sb s).length c)) :: env) a' → N a' w')
  (h : convE tb env ops n i = some (src, dst, .string s, d) := by kernel_rfl) (hs : P.underlying src = some .string := by kernel_rfl) (hd : P.underlying dst = some (.slice e) := by kernel_rfl) (he : P.underlying e = some (.int .u8) := by kernel_rfl) : wpOp P ops Q i N a w := by
 unfold convE at h
 split at h
 ·rename_i src' dst' x d' hop
  split at h
  ·rename_i v hx
   simp only [Option.some.injEq, Prod.mk.injEq] at h
   obtain ⟨rfl, rfl, rfl, rfl⟩ := h
   have hdn := (opAt_ok hE hop).choose_spec.2.2.2.1
   have hrun := Lib.run_convert_string_bytes (P := P) w src' dst' e s hs hd he
   have hst : Step w (Lib.bytesWorld w e s) Nil := ⟨rfl, rfl, by rw [Lib.bytesWorld_size]; omega, fun b hb => by rw [Lib.bytesWorld_at_old w e s b hb]; exact Keeps.refl _ _⟩
   have hlen : (sb s).length = s.size := sb_length s
   have e1 := (opd_ok hE hx).1
   refine wpOp_value hE hop (v := .slice (some ⟨w.heap.size, 0, none⟩) (sb s).length (grownCap w s.size 0 e)) (w' := Lib.bytesWorld w e s) (fun o' ho' => ?_) (K w.heap.size _ _ _ (Fr.nil tb rs hst) (hW.next_nil hst) (fun G => ?_) (hE.put hdn (.v _) trivial))
   ·unfold execOp
    rw [ho']
    simp only [SV.val] at e1
    simp only [e1, Sem.run_bind, hrun, Result.andThen_ok, Sem.run_pure, hlen]
   ·refine ⟨by rw [hlen]; exact grownCap_ge w s.size 0 e, by rw [hlen]; exact hsm, fun h => (by cases h), fun ad hA _ => ?_⟩
    obtain rfl := Option.some.inj hA
    refine ⟨w.heap.size, 0, rfl, fun q hq => ⟨rfl, fun j v hj => ?_⟩⟩
    have hj0 : j = 0 := by
     cases j with
     | zero => rfl
     | succ j => simp at hj
    subst hj0
    simp only [List.getElem?_cons_zero, Option.some.injEq] at hj
    subst hj
    have h2 : (Lib.bytesWorld w e s).heap.size = w.heap.size + 1 := Lib.bytesWorld_size w e s
    refine ⟨⟨.inr hW.step.size, by rw [h2]; exact Nat.lt_succ_self _, fun ha => ?_⟩, ?_⟩
    ·have := hW.act_live ha
     exact absurd this (Nat.lt_irrefl _)
    ·rw [Nat.zero_add, Nat.mul_one, Nat.add_zero, Lib.bytesWorld_cell w e s q (by rw [← hlen]; exact hq)]
     rfl
  ·cases h
 ·cases h
end
end Go.Proofs.YtgolpmkenmedoaaGreatDoor.ME
namespace Go.Proofs.YtgolpmkenmedoaaGreatDoor.ME
open Go
open Go.RowKit
set_option linter.unusedVariables false
set_option linter.unusedSimpArgs false
set_option maxRecDepth 20000
structure TBox (w : World) (B eT : Nat) (A : Option Addr) (cp n : Nat) (x0 x1 x2 x3 : Value) (xs : List Value) : Prop where
 str : Str w B [x0, x1, x2, x3, .slice A n cp]
 own : w.ownsRow 0 eT 2 (.slice A n cp) n xs
 ne : A.map (·.block) ≠ some B
def TM (B : Nat) (A : Option Addr) : Nat → Nat → Prop := fun b o => (b = B ∧ o < 5) ∨ Blk A b o
def TBoxPost (w : World) (B eT : Nat) (A : Option Addr) (n : Nat) (x0 x1 x2 x3 : Value) (xs : List Value) (k : Int) (x : Bs) : Ending → World → Prop := fun en w' =>
 en = .returned (.tuple #[]) ∧ ∃ A' cp' Av cv, TBox w' B eT A' cp' (n + 1) x0 x1 x2 x3 (xs ++ [.int .u32 k, .slice Av x.length cv]) ∧ Octs w' (fun b o => (w.heap.size ≤ b ∨ A.map (·.block) = some b) ∧ ¬ TM B A' b o) Av cv x ∧ Near w A A' ∧ Step w w' (TM B A)
def TellOne (P : Program) (fc eT : Nat) : Prop := ∀ (w : World) (B cp c n : Nat) (k : Int) (A Av : Option Addr) (x : Bs) (x0 x1 x2 x3 : Value) (xs : List Value) (G : Nat → Nat → Prop), TBox w B eT A cp n x0 x1 x2 x3 xs → Octs w G Av c x → (∀ b o, G b o → ¬ TM B A b o) → n ≤ 1000000 →
 Calls P fc [.int .u32 k, .slice Av x.length c, .pointer (some ⟨B, 0, none⟩)].toArray w (TBoxPost w B eT A n x0 x1 x2 x3 xs k x)
theorem TBox.wok {w : World} {B eT cp n : Nat} {A : Option Addr} {x0 x1 x2 x3 : Value} {xs : List Value} (h : TBox w B eT A cp n x0 x1 x2 x3 xs) : WOk w (TM B A) w [⟨B, 0, [x0, x1, x2, x3, .slice A n cp], true⟩] [⟨A, cp, eT, 2, n, xs⟩] := by
 have h1 : WOk w (TM B A) w [⟨B, 0, [x0, x1, x2, x3, .slice A n cp], true⟩] [] :=
  (WOk.start w _).add ⟨B, 0, [x0, x1, x2, x3, .slice A n cp], true⟩ (World.lt_of_cell (h.str.at_ 0 _ rfl)) (fun j v hj => by rw [Nat.zero_add]; exact h.str.at_ j v hj) (fun _ j hj => ⟨.inr (.inl ⟨rfl, by rw [Nat.zero_add]; exact hj⟩), by rw [Nat.zero_add]; exact h.str.frz j hj⟩) (fun i ob hi => by simp at hi) (fun i r hi => by simp at hi)
 refine h1.addRow ⟨A, cp, eT, 2, n, xs⟩ h.own (fun g hg => .inr fun o => .inr hg) (fun i ob hi => ?_) (fun i r hi => by simp at hi)
 cases i with
 | zero =>
  simp only [List.getElem?_cons_zero, Option.some.injEq] at hi; subst hi
  exact h.ne
 | succ i => simp at hi
theorem tbox_of {w0 w : World} {B eT cp n : Nat} {A0 A : Option Addr} {x0 x1 x2 x3 : Value} {xs : List Value} {rs : List Rw} (hW : WOk w0 (TM B A0) w [⟨B, 0, [x0, x1, x2, x3, .slice A n cp], true⟩] (⟨A, cp, eT, 2, n, xs⟩ :: rs)) (hB : B < w0.heap.size) : TBox w B eT A cp n x0 x1 x2 x3 xs ∧ Near w0 A0 A ∧ Step w0 w (TM B A0) := by
 refine ⟨⟨Str.of hW 0 rfl, hW.own 0 _ rfl, fun e => hW.rtb 0 _ rfl B e 0 _ rfl rfl⟩, fun g hg => ?_, hW.step⟩
 rcases hW.ownM 0 _ rfl g hg with h | h
 ·exact .inr h
 ·rcases h 5 with ⟨_, h⟩ | h
  ·omega
  ·exact .inl h
theorem tbox_octs {w0 w : World} {B eT cp n c e8 : Nat} {A0 A Av : Option Addr} {cs : List Value} {xs : List Value} {s : Bs} (hl : cs.length = 5) (hW : WOk w0 (TM B A0) w [⟨B, 0, cs, true⟩] [⟨A, cp, eT, 2, n, xs⟩, brow Av c e8 s]) (hsm : s.length ≤ 1099511627776) : Octs w (fun b o => (w0.heap.size ≤ b ∨ A0.map (·.block) = some b) ∧ ¬ TM B A b o) Av c s := by
 refine octs_own (hW.own 1 _ rfl) hsm fun g hg o => ⟨?_, ?_⟩
 ·rcases hW.ownM 1 _ rfl g hg with h | h
  ·exact .inl h
  ·rcases h 5 with ⟨_, h⟩ | h
   ·omega
   ·exact .inr h
 ·rintro (⟨rfl, _⟩ | h)
  ·exact hW.rtb 1 _ rfl g hg 0 _ rfl rfl
  ·exact hW.rr 1 0 _ _ (by decide) rfl rfl g hg h
theorem kEachTell {fc eT B b o : Nat} {m : Option Nat} {u : List (Int × Bs)} {w : World} {F : Nat → Nat → Prop} {x0 x1 x2 x3 : Value} (hcf : ∀ args w, (callFunc fc args).run Tryz.prog w = .ok (.enter fc args) w) (hone : TellOne Tryz.prog fc eT) (hat : AtF w F b o [.map m]) (hm : MapR w F m u) (hB : Str w B [x0, x1, x2, x3, .slice none 0 0]) (hF : ∀ b o, F b o → ¬ (b = B ∧ o < 5)) (hul : u.length ≤ 1000000) :
  Calls Tryz.prog 122 [.pointer (some ⟨b, o, none⟩), cloV fc (.pointer (some ⟨B, 0, none⟩))].toArray w (fun e w' => e = .returned (.tuple #[]) ∧ ∃ A c, Str w' B [x0, x1, x2, x3, .slice A u.length c] ∧ TagsR w' (fun b o => w.heap.size ≤ b) A c u ∧ Step w w' (fun b o => b = B ∧ o < 5)) := by
 have hBl : B < w.heap.size := World.lt_of_cell (hB.at_ 0 _ rfl)
 refine (kEachG (M := fun b o => b = B ∧ o < 5) hcf (fun w7 j w8 => ∃ A cp xs css, TBox w8 B eT A cp j x0 x1 x2 x3 xs ∧ Tags w8 (fun b o => w7.heap.size ≤ b ∧ ¬ TM B A b o) xs (u.take j) css ∧ (∀ g, A.map (·.block) = some g → w7.heap.size ≤ g) ∧ Step w7 w8 (fun b o => b = B ∧ o < 5)) hat hm hF (fun b o h => by rw [h.1]; exact hBl) (fun w7 hs => ?_) (fun w7 j w8 h => by obtain ⟨_, _, _, _, _, _, _, h⟩ := h; exact h) (fun w7 hs j k x w8 Ax cx hI hu hk hox => ?_) hul).mono ?_
 ·exact ⟨none, 0, [], [], ⟨hB.move hs fun _ h => h, World.ownsRow_nil _ 0 eT 2, fun h => by cases h⟩, Tags.nil _ _, fun g h => (by cases h), Step.refl _ _⟩
 ·obtain ⟨A, cp, xs, css, hbx, hT, hA, hs8⟩ := hI
  have hj : j < u.length := (List.getElem?_eq_some_iff.1 hu).1
  refine (hone w8 B cp cx j k A Ax x x0 x1 x2 x3 xs _ hbx hox (fun b o hf => ?_) (by omega)).mono ?_
  ·rintro (h | h)
   ·exact hF _ _ hf.1 h
   ·have := hA b h; have := hf.2; omega
  ·rintro e w9 ⟨rfl, A', cp', Av, cv, hbx', ho', hn, hs9⟩
   refine ⟨rfl, A', cp', _, css ++ [[.int .u32 k, .slice Av x.length cv]], hbx', ?_, fun g hg => ?_, hs8.trans hs9 fun b o hb h => ?_⟩
   ·rw [take_succ_of hu]
    have e1 : Tags w9 (fun b o => w7.heap.size ≤ b ∧ ¬ TM B A' b o) xs (u.take j) css := hT.move hs9 (fun b o h _ => h.2) (fun b o h hb => ⟨h.1, fun h' => by
     rcases h' with h' | h'
     ·exact h.2 (.inl h')
     ·rcases hn b h' with h' | h'
      ·exact h.2 (.inr h')
      ·omega⟩)
    have e2 : Octs w9 (fun b o => w7.heap.size ≤ b ∧ ¬ TM B A' b o) Av cv x := ho'.move (Step.refl _ Nil) nilM fun b o h _ => ⟨by
     rcases h.1 with h' | h'
     ·exact Nat.le_trans hs8.size h'
     ·exact hA b h', h.2⟩
    exact e1.snoc (c := [.int .u32 k, .slice Av x.length cv]) (x := (k, x)) ⟨⟨_, _, rfl, e2⟩, hk.1, hk.2⟩
   ·rcases hn g hg with h | h
    ·exact hA g h
    ·exact Nat.le_trans hs8.size h
   ·rcases h with h | h
    ·exact h
    ·have := hA b h; omega
 ·rintro e w' ⟨rfl, w7, hs, A, cp, xs, css, hbx, hT, hA, hs8⟩
  rw [List.take_length] at hT
  refine ⟨rfl, A, cp, hbx.str, ?_, (hs.mono (N := fun b o => b = B ∧ o < 5) fun _ _ _ f => f.elim).trans hs8 fun b o _ h => h⟩
  exact ((hT.move (Step.refl _ Nil) nilM fun b o h _ => Nat.le_trans hs.size h.1).slots (F := fun b o => w.heap.size ≤ b) hbx.own rfl (by omega) fun g hg o => Nat.le_trans hs.size (hA g hg))
def textT (A : Option Addr) (s : ByteArray) : Tree := .mk 0 (if A.isNone = true then [] else sb s) A.isNone [] []
abbrev NoF : Nat → Nat → Prop := fun _ _ => False
theorem WOk.strOut {G : Nat → Nat → Prop} {w0 w : World} {tb : Tb} {rs : List Rw} {p : Nat} {cs : List Value} (tb' : Tb) (hW : WOk w0 Nil w tb rs) (ht : tb' ++ [⟨p, 0, cs, true⟩] = tb := by rfl) : AtF w (Imm G w0 w tb' rs) p 0 cs := fun j v hj => by
 subst ht
 have hi : (tb' ++ [(⟨p, 0, cs, true⟩ : Ob)])[tb'.length]? = some ⟨p, 0, cs, true⟩ := by rw [List.getElem?_append_right (Nat.le_refl _), Nat.sub_self]; rfl
 have h1 := hW.cells _ _ hi j v hj
 have hlt : j < cs.length := (List.getElem?_eq_some_iff.1 hj).1
 refine ⟨⟨?_, hW.live _ _ hi, fun ha => ?_⟩, h1⟩
 ·rcases (hW.rw_ _ _ hi rfl j hlt).1 with h2 | h2
  ·exact .inr h2
  ·exact h2.elim
 ·rcases ha with ⟨k, ob, h2, h3, h4, h5, h6⟩ | ⟨k, r, h2, h3⟩
  ·have hk : k < tb'.length := (List.getElem?_eq_some_iff.1 h2).1
   have h7 : (tb' ++ [(⟨p, 0, cs, true⟩ : Ob)])[k]? = some ob := by rw [List.getElem?_append_left hk]; exact h2
   rcases hW.apart k _ ob _ (by omega) h7 hi (.inr rfl) with h8 | h8 | h8
   ·exact h8 h4
   ·simp only [Nat.zero_add] at h5 h6; simp only [Nat.le_zero] at h8; omega
   ·simp only [Nat.zero_add] at h5 h6 h8; omega
  ·exact hW.rtb k r h2 p h3 _ _ hi rfl
theorem sorted_not {u : List (Int × Bs)} (h : Sorted u) {i j : Nat} {k k' : Int} {s s' : Bs} (hi : u[i]? = some (k, s)) (hj : u[j]? = some (k', s')) (hij : j < i) : ¬ k < k' := by
 obtain ⟨h1, h2⟩ := List.getElem?_eq_some_iff.1 hi
 obtain ⟨h3, h4⟩ := List.getElem?_eq_some_iff.1 hj
 have := List.pairwise_iff_getElem.1 h j i h3 h1 hij
 rw [h2, h4] at this
 simp only at this
 omega
section
variable {w0 w : World} {tb : Tb} {rs : List Rw} {F : Nat → Nat → Prop}
theorem WOk.objFp (hW : WOk w0 Nil w tb rs) (i : Nat) {b : Nat} {cs : List Value} (hi : tb[i]? = some ⟨b, 0, cs, true⟩) : AtF w (Fp F w0) b 0 cs := fun j v hj => by
 have hlt := (List.getElem?_eq_some_iff.1 hj).1
 refine ⟨?_, hW.cells i _ hi j v hj⟩
 rcases (hW.rw_ i _ hi rfl j hlt).1 with h | h
 ·exact .inr h
 ·exact h.elim
def TrL (w : World) (F : Nat → Nat → Prop) : List (List Value) → List Tree → Prop
 | [], [] => True
 | c :: cs, x :: xs => TreeR w F c x ∧ TrL w F cs xs
 | _, _ => False
theorem TrL.move {w w' : World} {F F' M : Nat → Nat → Prop} (hs : Step w w' M) (hM : ∀ b o, F b o → b < w.heap.size → ¬ M b o) (hF : ∀ b o, F b o → b < w.heap.size → F' b o) : ∀ {cs : List (List Value)} {l : List Tree}, TrL w F cs l → TrL w' F' cs l
 | [], [], _ => trivial
 | _ :: _, _ :: _, h => ⟨h.1.move hs hM hF, TrL.move hs hM hF h.2⟩
 | [], _ :: _, h => h.elim
 | _ :: _, [], h => h.elim
theorem TrL.len : ∀ {cs : List (List Value)} {l : List Tree}, TrL w F cs l → cs.length = l.length
 | [], [], _ => rfl
 | _ :: _, _ :: _, h => congrArg (· + 1) (TrL.len h.2)
 | [], _ :: _, h => h.elim
 | _ :: _, [], h => h.elim
theorem TrL.five : ∀ {cs : List (List Value)} {l : List Tree}, TrL w F cs l → ∀ c ∈ cs, c.length = 5
 | [], [], _ => fun c hc => by cases hc
 | _ :: _, _ :: _, h => fun c hc => by
  rcases List.mem_cons.1 hc with rfl | hc
  ·exact h.1.five
  ·exact TrL.five h.2 c hc
 | [], _ :: _, h => h.elim
 | _ :: _, [], h => h.elim
theorem TrL.get : ∀ {cs : List (List Value)} {l : List Tree}, TrL w F cs l → ∀ (i : Nat) (x : Tree), l[i]? = some x → TreeR w F (cs.getD i []) x
 | [], [], _, i, x, hx => by simp at hx
 | _ :: _, _ :: _, h, 0, x, hx => by
  simp only [List.getElem?_cons_zero, Option.some.injEq] at hx
  subst hx
  exact h.1
 | _ :: _, _ :: _, h, i + 1, x, hx => TrL.get h.2 i x hx
 | [], _ :: _, h, _, _, _ => h.elim
 | _ :: _, [], h, _, _, _ => h.elim
theorem flat5 {b : Nat} : ∀ (css : List (List Value)) (o : Nat), AtF w F b o css.flatten → (∀ c ∈ css, c.length = 5) → ∀ i, i < css.length → (css.getD i []).length = 5 ∧ AtF w F b (o + i * 5) (css.getD i [])
 | [], o, h, hl, i, hi => absurd hi (Nat.not_lt_zero _)
 | c :: r, o, h, hl, 0, _ => ⟨hl c List.mem_cons_self, fun j v hj => by
   have hj' : c[j]? = some v := hj
   have := h j v (by rw [List.flatten_cons, List.getElem?_append_left (List.getElem?_eq_some_iff.1 hj').1]; exact hj')
   rw [show o + 0 * 5 + j = o + j by omega]
   exact this⟩
 | c :: r, o, h, hl, i + 1, hi => by
  have hc := hl c List.mem_cons_self
  have := flat5 r (o + 5) (fun j v hj => by
   have := h (5 + j) v (by rw [List.flatten_cons, List.getElem?_append_right (by omega), show 5 + j - c.length = j by omega]; exact hj)
   rw [show o + 5 + j = o + (5 + j) by omega]
   exact this) (fun d hd => hl d (List.mem_cons_of_mem _ hd)) i (by simpa using hi)
  rw [show o + (i + 1) * 5 = o + 5 + i * 5 by omega]
  exact this
theorem tell_slots {b : Nat} {css : List (List Value)} {l : List Tree} (h : AtF w F b 0 css.flatten) (hT : TrL w F css l) (hsm : l.length ≤ 1099511627776) : Slots w F 5 (some ⟨b, 0, none⟩) l.length l.length (fun i => css.getD i []) :=
 ⟨Nat.le_refl _, hsm, fun h => (by cases h), fun ad hA _ => ⟨b, 0, (Option.some.inj hA).symm, fun i hi => flat5 css 0 h hT.five i (by rw [hT.len]; exact hi)⟩⟩
theorem tell_end (hW : WOk w0 Nil w tb rs) (i : Nat) {b n2 c3 : Nat} {A3 : Option Addr} {u : List (Int × Bs)} {css : List (List Value)} {cs : List Value} {l : List Tree} (hi : tb[i]? = some ⟨b, 0, cs, true⟩) (hT' : TrL w (Fp F w0) css l) (hU : TagsR w (Fp F w0) A3 c3 u) (hf : css.flatten = cs := by rfl) (hl : l.length = n2 := by rfl) (hn : Nat.ble n2 1000000 = true := by kernel_rfl) :
  GivesT w0 F (.mk 0 [] false l u) (.returned (.agg #[.int .i64 0, .slice none 0 0, .bool false, .slice (some ⟨b, 0, none⟩) n2 n2, .slice A3 u.length c3])) w := by
 subst hf
 subst hl
 have hn' := Nat.le_of_ble_eq_true hn
 exact ⟨_, rfl, TreeR.mk (s := []) _ (Octs.nil _ _) (tell_slots (hW.objFp i hi) hT' (by omega)) hT'.get hU, hW.step⟩
end
def GotOK (m : Nat) : Prop := ∀ (ct : List Value) (t : Tree) (w : World) (F : Nat → Nat → Prop), TreeR w F ct t → t.depth ≤ m →
  Calls Tryz.prog 21 #[.agg ct.toArray] w (GivesT w F t)
theorem lGot_step {m : Nat} (hg : GotOK m) (ct : List Value) (t : Tree) (w : World) (F : Nat → Nat → Prop) (ht : TreeR w F ct t) (hd : t.depth ≤ m + 1) :
  Calls Tryz.prog 21 #[.agg ct.toArray] w (GivesT w F t) := by
 obtain ⟨n1, s2, b3, l4, u5, A6, c7, A8, c9, av, aw, dT, rfl, rfl, dw, dx, dU, dV⟩ := ht.open_
 have dy := dw.small
 have dz := dx.small
 obtain ⟨dW, dA, dX⟩ := dV.ex
 have dB := dA.small
 refine enter (n := 49) Tryz.func21 rfl Tryz.ntmps21 kz fun a hE => ?_
 have hW := WOk.start w Nil
 refine go_seq_region [0, 1] kz ?_
 refine of_op (wpOp_box hW hE (d := 1) (cs := [.int .i64 n1, .slice A6 s2.length c7, .bool b3, .slice A8 l4.length c9, .slice av u5.length aw]) kz fun cq fk fl dY dZ d5 cw cz => ?_)
 clear hE hW
 refine of_op (wpOp_alloc cw cz (d := 2) (cs := [.int .i64 0, .slice none 0 0, .bool false, .slice none 0 0, .slice none 0 0]) kz fun cr fm fo d6 d7 d8 bZ cA => ?_)
 clear cz cw
 refine wpOps_nil (then_normal ?_)
 refine go_seq_region [0, 1, 2, 3, 4, 5, 6, 7, 8] kz ?_
 refine go_rn [0, 1, 2, 3, 4, 5, 6] [7, 8] [(1, .p 0 0), (2, .p 1 0), (14, .v (.agg #[.int .i64 n1, .slice A6 s2.length c7, .bool b3, .slice none 0 0, .slice none 0 0]))] bZ cA fun fq cB => ?_
 clear cA
 refine of_op (wpOp_alloc bZ cB (d := 3) (cs := [.int .i64 0, .slice none 0 0, .bool false, .slice none 0 0, .slice none 0 0]) kz fun cu fr ft d9 ea eb cC cD => ?_)
 clear cB bZ
 refine of_op (wpOp_store cC cD (oi := 2) (cs := [.int .i64 n1, .slice A6 s2.length c7, .bool b3, .slice none 0 0, .slice none 0 0]) kz fun fu ec bi cE => ?_)
 clear cD cC
 refine wpOps_nil (then_normal ?_)
 refine wp_seq ?_
 refine go_sp [(1, .p 0 0), (2, .p 1 0), (3, .p 2 0), (16, .v (.slice A8 l4.length c9)), (17, .v (.int .i64 ((l4.length : Nat) : Int))), (18, .v (.int .i64 0))] bi cE fun fv cG => ?_
 clear cE
 refine wp_block ?_
 have cH := bi.addNil 26 5
 have ee := bi.frNil 26 5
 clear bi
 refine wp_loop_ghost (fun n_ a_ w_ => ∃ (k : Nat) (A_ : Option Addr) (c_ : Nat) (xs : List Value) (css : List (List Value)), n_ = l4.length - k ∧ k ≤ l4.length ∧ (Trees w_ (Imm F w w_ [⟨cq, 0, [.int .i64 n1, .slice A6 s2.length c7, .bool b3, .slice A8 l4.length c9, .slice av u5.length aw], true⟩, ⟨cr, 0, [.int .i64 0, .slice none 0 0, .bool false, .slice none 0 0, .slice none 0 0], true⟩, ⟨cu, 0, [.int .i64 n1, .slice A6 s2.length c7, .bool b3, .slice A_ k c_, .slice none 0 0], true⟩] [⟨A_, c_, 26, 5, k, xs⟩]) xs (l4.take k) css) ∧ LInv cH 49 [⟨cq, 0, [.int .i64 n1, .slice A6 s2.length c7, .bool b3, .slice A8 l4.length c9, .slice av u5.length aw], true⟩, ⟨cr, 0, [.int .i64 0, .slice none 0 0, .bool false, .slice none 0 0, .slice none 0 0], true⟩, ⟨cu, 0, [.int .i64 n1, .slice A6 s2.length c7, .bool b3, .slice A_ k c_, .slice none 0 0], true⟩] [⟨A_, c_, 26, 5, k, xs⟩] [(1, .p 0 0), (2, .p 1 0), (3, .p 2 0), (16, .v (.slice A8 l4.length c9)), (17, .v (.int .i64 ((l4.length : Nat) : Int))), (18, .v (.int .i64 ((k : Nat) : Int)))] a_ w_) (l4.length) ⟨0, none, 0, [], [], by omega, by omega, Trees.nil _ _, cG.pk, cH, Fr.refl _ _ _⟩ ?_
 clear cG
 rintro fw fx fy ⟨k, A_, c_, xs, css, ef, eg, hT, cI, ah, dg⟩
 refine go_sp [(1, .p 0 0), (2, .p 1 0), (3, .p 2 0), (16, .v (.slice A8 l4.length c9)), (17, .v (.int .i64 ((l4.length : Nat) : Int))), (18, .v (.int .i64 ((k : Nat) : Int))), (19, .v (.bool (decide (((k : Nat) : Int) < ((l4.length : Nat) : Int)))))] ah cI fun fz ay => ?_
 clear cI
 refine wp_seq ?_
 refine cond_of ay (b := decide (((k : Nat) : Int) < ((l4.length : Nat) : Int))) kz (fun b8 => ?_) (fun b8 => ?_)
 ·
  have eh := of_decide_eq_true b8
  refine wp_skip ?_
  refine then_normal ?_
  refine wp_seq ?_
  refine wp_block ?_
  refine go_seq_region [0, 1, 2, 3] kz ?_
  obtain ⟨ei, ej, dh, ek, bn⟩ := Slots.get dx (i := k) (by omega)
  obtain ⟨em, cd⟩ : ∃ x, l4[k]? = some x := ⟨_, List.getElem?_eq_getElem (by omega)⟩
  have ce := dU k em cd
  obtain ⟨cJ, cK, cL, cM, cN, cO, cP, cQ, cR, cS, cT, eo, rfl, bo, ep, eu, fA, fB⟩ := ce.open_
  rw [bo] at ce
  have dC := ep.small
  have dD := eu.small
  rw [bo] at bn
  refine of_op (wpOp_index ay (t := 34) (A := A8) (m := l4.length) (q := ((k : Nat) : Int)) (d := 20) kz (e := 37) (size := 5) (bytes := 88) kz dh rfl (by omega) fun fC bp => ?_)
  clear ay
  refine of_op (wpOp_load bp (t := 37) (b := ei) (o := ej + k * 5) (d := 21) kz (cs := [.int .i64 cJ, .slice cO cK.length cP, .bool cL, .slice cQ cM.length cR, .slice cS cN.length cT]) (v := .agg #[.int .i64 cJ, .slice cO cK.length cP, .bool cL, .slice cQ cM.length cR, .slice cS cN.length cT]) kz (AtF.move bn ah.step nilM keepF).at_ fun ev bq => ?_)
  clear bp
  refine of_op (wpOp_alloc ah bq (d := 5) (cs := [.int .i64 0, .slice none 0 0, .bool false, .slice none 0 0, .slice none 0 0]) kz fun ew ey ez dE dF az bt bu => ?_)
  clear bq ah
  refine of_op (wpOp_store bt bu (oi := 3) (cs := [.int .i64 cJ, .slice cO cK.length cP, .bool cL, .slice cQ cM.length cR, .slice cS cN.length cT]) kz fun eB aA bw bx => ?_)
  clear bu bt
  refine wpOps_nil (then_normal ?_)
  refine go_drawK 7 kz bw fun eC aB ai cU => ?_
  clear bw
  refine go_rnD [0, 1, 2] [(1, .p 0 0), (2, .p 1 0), (3, .p 2 0), (16, .v (.slice A8 l4.length c9)), (17, .v (.int .i64 ((l4.length : Nat) : Int))), (18, .v (.int .i64 ((k : Nat) : Int))), (23, .v (.slice A_ k c_)), (24, .v (.agg #[.int .i64 cJ, .slice cO cK.length cP, .bool cL, .slice cQ cM.length cR, .slice cS cN.length cT]))] 5 (panicFree_block (panicFree_then (panicFree_then (panicFree_block (panicFree_then panicFree_body))))) (fun _ h => h.cells) cU bx fun eD bz => ?_
  clear bx
  refine anyC_op (i := 3) kz (wpOp_call bz (f := 21) (vs := [.agg #[.int .i64 cJ, .slice cO cK.length cP, .bool cL, .slice cQ cM.length cR, .slice cS cN.length cT]]) (d := 25) kz Tryz.call21 ( hg _ _ _ _ (ce.move ai.step nilM ai.imm) (by have h_ := deep_get cd; rw [tdepth_mk] at hd; omega)) ?_)
  rintro e_ eE ⟨dG, rfl, cV, aC⟩
  have aD := cV.move (Step.refl _ Nil) nilM (ai.laid (G := F) aC)
  obtain ⟨aE, aF, aG, aH, aI, aJ, aK, aL, aM, aN, aO, dH, dI, aP, di, dj, eF, eG⟩ := aD.open_
  rw [aP] at aD
  have dl := di.small
  have dp := dj.small
  rw [aP]
  refine ⟨_, rfl, fun eH bA => ?_⟩
  have aQ := ai.next_nil aC
  have af := ai.frN aC
  clear bz
  have cW := TT.ofW af aQ
  refine ⟨fun _ => cW, ?_⟩
  refine anyC_op (i := 4) kz (wpOp_lit aQ bA (e := 26) (size := 5) (len := 1) (cs := [.int .i64 aE, .slice aJ aF.length aK, .bool aG, .slice aL aH.length aM, .slice aN aI.length aO]) (d := 26) kz kz fun dq eI eJ dJ dK aa aj bB => ?_)
  clear bA aQ
  have cX := TT.ofW (af.trans aa) aj
  refine ⟨fun _ => cX, ?_⟩
  refine anyC_op (i := 5) kz (wpOp_append aj bB (k := 0) (d := 27) (t := 23) (e := 26) (size := 5) (bytes := 88) (A := A_) (As := (some ⟨dq, 0, none⟩)) (m0 := k) (c := c_) (m := 1) (cs := 1) (xs := xs) (news := [.int .i64 aE, .slice aJ aF.length aK, .bool aG, .slice aL aH.length aM, .slice aN aI.length aO]) kz kz rfl (own_src (aj.own 1 _ rfl) (allOne_ok kz)) (own_cap (aj.own 1 _ rfl)) (by omega) fun aR aS eK eL ag aT bC => ?_)
  clear bB aj
  have bD := TT.ofW ((af.trans aa).trans ag) aT
  refine ⟨fun _ => bD, ?_⟩
  refine go_rnD [6] [(1, .p 0 0), (2, .p 1 0), (3, .p 2 0), (16, .v (.slice A8 l4.length c9)), (17, .v (.int .i64 ((l4.length : Nat) : Int))), (18, .v (.int .i64 ((k : Nat) : Int))), (27, .v (.slice aR (k + 1) aS)), (28, .p 2 3)] 1 (panicFree_block (panicFree_then (panicFree_then (panicFree_block (panicFree_then panicFree_body))))) (fun _ h => h.cells) bD bC fun eM bE => ?_
  clear bC
  refine anyC_op (i := 7) kz (wpOp_store aT bE (oi := 2) (cs := [.int .i64 n1, .slice A6 s2.length c7, .bool b3, .slice aR (k + 1) aS, .slice none 0 0]) kz fun eN ak bF bG => ?_)
  clear bE aT
  refine ⟨fun h => absurd rfl h, ?_⟩
  refine anyC_done kz ?_ _
  refine block_normal ?_
  refine then_normal ?_
  refine go_region [0, 1] kz ?_
  refine go_rn [0, 1] [] [(1, .p 0 0), (2, .p 1 0), (3, .p 2 0), (16, .v (.slice A8 l4.length c9)), (17, .v (.int .i64 ((l4.length : Nat) : Int))), (18, .v (.int .i64 (IntKind.i64.wrap (((k : Nat) : Int) + 1))))] bF bG fun eO cY => ?_
  clear bG
  refine wpOps_nil (then_normal ?_)
  obtain ⟨bH, cZ, al⟩ := bF.cutB cY 3 [⟨cq, 0, [.int .i64 n1, .slice A6 s2.length c7, .bool b3, .slice A8 l4.length c9, .slice av u5.length aw], true⟩, ⟨cr, 0, [.int .i64 0, .slice none 0 0, .bool false, .slice none 0 0, .slice none 0 0], true⟩, ⟨cu, 0, [.int .i64 n1, .slice A6 s2.length c7, .bool b3, .slice aR (k + 1) aS, .slice none 0 0], true⟩] [(1, .p 0 0), (2, .p 1 0), (3, .p 2 0), (16, .v (.slice A8 l4.length c9)), (17, .v (.int .i64 ((l4.length : Nat) : Int))), (18, .v (.int .i64 (IntKind.i64.wrap (((k : Nat) : Int) + 1))))]
  obtain ⟨c5, am⟩ := cZ.cutR 1 [⟨aR, aS, 26, 5, k + 1, xs ++ [.int .i64 aE, .slice aJ aF.length aK, .bool aG, .slice aL aH.length aM, .slice aN aI.length aO]⟩]
  have c6 : IntKind.i64.wrap (((k : Nat) : Int) + 1) = ((k + 1 : Nat) : Int) := wrap_succ (by omega)
  rw [c6] at bH
  exact ⟨l4.length - (k + 1), by omega, k + 1, aR, aS, xs ++ [Value.int .i64 aE, .slice aJ aF.length aK, .bool aG, .slice aL aH.length aM, .slice aN aI.length aO], (css ++ [[Value.int .i64 aE, .slice aJ aF.length aK, .bool aG, .slice aL aH.length aM, .slice aN aI.length aO]]), rfl, by omega, by rw [take_succ_of cd]; exact (hT.move ((((((((az.trans aA).trans aB).trans af).trans aa).trans ag).trans ak).trans al).trans am).step immM ((((((((az.trans aA).trans aB).trans af).trans aa).trans ag).trans ak).trans al).trans am).to').snoc (aD.move ((((aa.trans ag).trans ak).trans al).trans am).step immM ((((aa.trans ag).trans ak).trans al).trans am).to'), bH.pk, c5, (((((((((dg.trans az).trans aA).trans aB).trans af).trans aa).trans ag).trans ak).trans al).trans am)⟩
 ·
  have dL := of_decide_eq_false b8
  refine wp_exit ?_
  refine then_exit ?_
  refine then_exit ?_
  refine block_exit ?_
  refine then_normal ?_
  refine wp_seq ?_
  refine go_sp [(2, .p 1 0), (3, .p 2 0), (31, .v (.slice av u5.length aw)), (32, .v (.int .i64 ((u5.length : Nat) : Int))), (33, .v (.int .i64 0))] ah ay fun eP bI => ?_
  clear ay
  refine wp_block ?_
  have hk0 : k = l4.length := by omega
  have bJ := ah.addNil 66 2
  have bK := ah.frNil 66 2
  clear ah
  refine wp_loop_ghost (fun n_ a_ w_ => ∃ (q : Nat) (A5_ : Option Addr) (c5_ : Nat) (ys : List Value) (dss : List (List Value)), n_ = u5.length - q ∧ q ≤ u5.length ∧ (Tags w_ (Imm F w w_ [⟨cq, 0, [.int .i64 n1, .slice A6 s2.length c7, .bool b3, .slice A8 l4.length c9, .slice av u5.length aw], true⟩, ⟨cr, 0, [.int .i64 0, .slice none 0 0, .bool false, .slice none 0 0, .slice none 0 0], true⟩, ⟨cu, 0, [.int .i64 n1, .slice A6 s2.length c7, .bool b3, .slice A_ k c_, .slice A5_ q c5_], true⟩] [⟨A_, c_, 26, 5, k, xs⟩, ⟨A5_, c5_, 66, 2, q, ys⟩]) ys (u5.take q) dss) ∧ LInv bJ 49 [⟨cq, 0, [.int .i64 n1, .slice A6 s2.length c7, .bool b3, .slice A8 l4.length c9, .slice av u5.length aw], true⟩, ⟨cr, 0, [.int .i64 0, .slice none 0 0, .bool false, .slice none 0 0, .slice none 0 0], true⟩, ⟨cu, 0, [.int .i64 n1, .slice A6 s2.length c7, .bool b3, .slice A_ k c_, .slice A5_ q c5_], true⟩] [⟨A_, c_, 26, 5, k, xs⟩, ⟨A5_, c5_, 66, 2, q, ys⟩] [(2, .p 1 0), (3, .p 2 0), (31, .v (.slice av u5.length aw)), (32, .v (.int .i64 ((u5.length : Nat) : Int))), (33, .v (.int .i64 ((q : Nat) : Int)))] a_ w_) (u5.length) ⟨0, none, 0, [], [], by omega, by omega, Tags.nil _ _, bI.pk, bJ, Fr.refl _ _ _⟩ ?_
  clear bI
  rintro eQ eR eS ⟨q, A5_, c5_, ys, dss, dM, dN, hU, bL, ab, aU⟩
  refine go_sp [(2, .p 1 0), (3, .p 2 0), (31, .v (.slice av u5.length aw)), (32, .v (.int .i64 ((u5.length : Nat) : Int))), (33, .v (.int .i64 ((q : Nat) : Int))), (34, .v (.bool (decide (((q : Nat) : Int) < ((u5.length : Nat) : Int)))))] ab bL fun eU ao => ?_
  clear bL
  refine wp_seq ?_
  refine cond_of ao (b := decide (((q : Nat) : Int) < ((u5.length : Nat) : Int))) kz (fun aV => ?_) (fun aV => ?_)
  ·
   have dO := of_decide_eq_true aV
   refine wp_skip ?_
   refine then_normal ?_
   refine wp_seq ?_
   refine wp_block ?_
   refine go_seq_region [0, 1, 2, 3] kz ?_
   obtain ⟨dr, dt, da, dP, aW⟩ := Slots.get dA (i := q) (by omega)
   obtain ⟨⟨ac, ae⟩, bM⟩ : ∃ x, u5[q]? = some x := ⟨_, List.getElem?_eq_getElem (by omega)⟩
   obtain ⟨⟨ap, ar, cm, db⟩, du, dv⟩ := dX q ac ae bM
   rw [cm] at aW
   refine of_op (wpOp_index ao (t := 35) (A := av) (m := u5.length) (q := ((q : Nat) : Int)) (d := 35) kz (e := 69) (size := 2) (bytes := 32) kz da rfl (by omega) fun eV bN => ?_)
   clear ao
   refine of_op (wpOp_load bN (t := 69) (b := dr) (o := dt + q * 2) (d := 36) kz (cs := [.int .u32 ac, .slice ap ae.length ar]) (v := .agg #[.int .u32 ac, .slice ap ae.length ar]) kz (AtF.move aW ab.step nilM keepF).at_ fun eW bO => ?_)
   clear bN
   refine of_op (wpOp_alloc ab bO (d := 7) (cs := [.int .u32 0, .slice none 0 0]) kz fun eX eY eZ dQ dR aX bP bQ => ?_)
   clear bO ab
   refine of_op (wpOp_store bP bQ (oi := 3) (cs := [.int .u32 ac, .slice ap ae.length ar]) kz fun e9 aY aZ bR => ?_)
   clear bQ bP
   refine wpOps_nil (then_normal ?_)
   refine go_region [0, 1, 2, 3, 4, 5, 6, 7, 8, 9, 10] kz ?_
   refine go_rn [0, 1, 2, 3, 4, 5, 6] [7, 8, 9, 10] [(2, .p 1 0), (3, .p 2 0), (31, .v (.slice av u5.length aw)), (32, .v (.int .i64 ((u5.length : Nat) : Int))), (33, .v (.int .i64 ((q : Nat) : Int))), (38, .v (.slice A5_ q c5_)), (43, .v (.agg #[.int .u32 ac, .slice ap ae.length ar]))] aZ bR fun fa bS => ?_
   clear bR
   refine wpOps_push aZ bS (k := 1) (e := 66) (size := 2) (len := 1) (cs := [.int .u32 ac, .slice ap ae.length ar]) (d1 := 44) (d := 45) kz (t := 24) (bytes := 32) kz (fun _ => by kernel_rfl) rfl kz (by omega) fun bj bk fb fe ba bd ⟨_, bT⟩ => ?_
   clear bS aZ
   refine go_rn [9] [10] [(2, .p 1 0), (3, .p 2 0), (31, .v (.slice av u5.length aw)), (32, .v (.int .i64 ((u5.length : Nat) : Int))), (33, .v (.int .i64 ((q : Nat) : Int))), (45, .v (.slice bj (q + 1) bk)), (46, .p 2 4)] bd bT fun ff bU => ?_
   clear bT
   refine of_op (wpOp_store bd bU (oi := 2) (cs := [.int .i64 n1, .slice A6 s2.length c7, .bool b3, .slice A_ k c_, .slice bj (q + 1) bk]) kz fun fg bf bV bW => ?_)
   clear bU bd
   refine wpOps_nil ?_
   refine block_normal ?_
   refine then_normal ?_
   refine go_region [0, 1] kz ?_
   refine go_rn [0, 1] [] [(2, .p 1 0), (3, .p 2 0), (31, .v (.slice av u5.length aw)), (32, .v (.int .i64 ((u5.length : Nat) : Int))), (33, .v (.int .i64 (IntKind.i64.wrap (((q : Nat) : Int) + 1))))] bV bW fun fh dc => ?_
   clear bW
   refine wpOps_nil (then_normal ?_)
   obtain ⟨bX, bg, bh⟩ := bV.cutB dc 3 [⟨cq, 0, [.int .i64 n1, .slice A6 s2.length c7, .bool b3, .slice A8 l4.length c9, .slice av u5.length aw], true⟩, ⟨cr, 0, [.int .i64 0, .slice none 0 0, .bool false, .slice none 0 0, .slice none 0 0], true⟩, ⟨cu, 0, [.int .i64 n1, .slice A6 s2.length c7, .bool b3, .slice A_ k c_, .slice bj (q + 1) bk], true⟩] [(2, .p 1 0), (3, .p 2 0), (31, .v (.slice av u5.length aw)), (32, .v (.int .i64 ((u5.length : Nat) : Int))), (33, .v (.int .i64 (IntKind.i64.wrap (((q : Nat) : Int) + 1))))]
   have de : IntKind.i64.wrap (((q : Nat) : Int) + 1) = ((q + 1 : Nat) : Int) := wrap_succ (by omega)
   rw [de] at bX
   exact ⟨u5.length - (q + 1), by omega, q + 1, bj, bk, ys ++ [Value.int .u32 ac, .slice ap ae.length ar], (dss ++ [[Value.int .u32 ac, .slice ap ae.length ar]]), rfl, by omega, by rw [take_succ_of bM]; exact (hU.move ((((aX.trans aY).trans ba).trans bf).trans bh).step immM ((((aX.trans aY).trans ba).trans bf).trans bh).to').snoc (c := [.int .u32 ac, .slice ap ae.length ar]) (x := (ac, ae)) ⟨⟨_, _, rfl, (db.move bg.step nilM bg.imm)⟩, du, dv⟩, bX.pk, bg, (((((aU.trans aX).trans aY).trans ba).trans bf).trans bh)⟩
  ·
   have dS := of_decide_eq_false aV
   refine wp_exit ?_
   refine then_exit ?_
   refine then_exit ?_
   refine block_exit ?_
   refine then_normal ?_
   refine go_seq_region [0, 1] kz ?_
   refine go_rn [0] [1] [(2, .p 1 0), (48, .v (.agg #[.int .i64 n1, .slice A6 s2.length c7, .bool b3, .slice A_ k c_, .slice A5_ q c5_]))] ab ao fun fi bY => ?_
   clear ao
   refine of_op (wpOp_store ab bY (oi := 1) (cs := [.int .i64 n1, .slice A6 s2.length c7, .bool b3, .slice A_ k c_, .slice A5_ q c5_]) kz fun fj ax au df => ?_)
   clear bY ab
   refine wpOps_nil (then_normal ?_)
   refine wp_ret ?_
   refine leave df au.cells (v := .agg #[.int .i64 n1, .slice A6 s2.length c7, .bool b3, .slice A_ k c_, .slice A5_ q c5_]) kz ?_
   have hq0 : q = u5.length := by omega
   have hT' := (hT.move ((bK.trans aU).trans ax).step immM ((bK.trans aU).trans ax).to')
   have hU' := (hU.move ax.step immM ax.to')
   rw [show l4.take k = l4 by rw [hk0, List.take_length]] at hT'
   rw [show u5.take q = u5 by rw [hq0, List.take_length]] at hU'
   exact tree_end au rfl (dw.move au.step nilM startFp) hk0 (trees_fp au (k := 0) rfl hT' hk0 (by omega)) hq0 (tags_fp au (k := 1) rfl hU' hq0 (by omega)) rfl
theorem lGot : ∀ m, GotOK m
 | 0 => fun ct t w F ht hd => by
  obtain ⟨n, s, b, l, u, A1, c1, A2, c2, A3, c3, xs, rfl, _⟩ := ht.open_
  rw [tdepth_mk] at hd; omega
 | m + 1 => lGot_step (lGot m)
theorem tSorted {u : List (Int × Bs)} {A : Option Addr} {c : Nat} {w : World} {F : Nat → Nat → Prop} (hu : TagsR w F A c u) (hsrt : Sorted u) : Calls Tryz.prog 124 #[.slice A u.length c] w (Gives w (.tuple #[])) := by
 obtain ⟨cs1, h2, h3⟩ := hu.ex
 have hsm4 := h2.small
 refine enter (n := 45) Tryz.func124 rfl Tryz.ntmps124 kz fun a hE => ?_
 have hW := WOk.start w Nil
 refine go_sp [(0, .v (.slice A u.length c)), (5, .v (.int .i64 ((u.length : Nat) : Int))), (6, .v (.int .i64 0))] hW hE fun a5 hE6 => ?_
 clear hE
 refine wp_block ?_
 refine wp_loop_ghost (fun n_ a_ w_ => ∃ (k : Nat), n_ = u.length - k ∧ k ≤ u.length ∧ LInv hW 45 [] [] [(0, .v (.slice A u.length c)), (5, .v (.int .i64 ((u.length : Nat) : Int))), (6, .v (.int .i64 ((k : Nat) : Int)))] a_ w_) (u.length) ⟨0, by omega, by omega, hE6.pk, hW, Fr.refl _ _ _⟩ ?_
 clear hE6
 rintro n7 a8 w9 ⟨k, aW, aX, am, ab, ao⟩
 refine go_sp [(0, .v (.slice A u.length c)), (5, .v (.int .i64 ((u.length : Nat) : Int))), (6, .v (.int .i64 ((k : Nat) : Int))), (7, .v (.bool (decide (((k : Nat) : Int) < ((u.length : Nat) : Int)))))] ab am fun bn ae => ?_
 clear am
 refine wp_seq ?_
 refine cond_of ae (b := decide (((k : Nat) : Int) < ((u.length : Nat) : Int))) kz (fun aj => ?_) (fun aj => ?_)
 ·
  have aY := of_decide_eq_true aj
  refine wp_skip ?_
  refine then_normal ?_
  refine wp_seq ?_
  refine wp_block ?_
  refine go_sp [(0, .v (.slice A u.length c)), (2, .v (.int .i64 ((k : Nat) : Int))), (5, .v (.int .i64 ((u.length : Nat) : Int))), (6, .v (.int .i64 ((k : Nat) : Int)))] ab ae fun bo ap => ?_
  clear ae
  refine go_sp [(0, .v (.slice A u.length c)), (3, .v (.int .i64 ((k : Nat) : Int))), (5, .v (.int .i64 ((u.length : Nat) : Int))), (6, .v (.int .i64 ((k : Nat) : Int)))] ab ap fun bp ar => ?_
  clear ap
  refine wp_block ?_
  refine loop_out ?_
  refine wp_seq ?_
  refine go_seq_drawQ kz ab fun bq au aa => ?_
  clear ab
  refine go_rnD [0, 1, 2] [(0, .v (.slice A u.length c)), (3, .v (.int .i64 ((k : Nat) : Int))), (5, .v (.int .i64 ((u.length : Nat) : Int))), (6, .v (.int .i64 ((k : Nat) : Int))), (12, .v (.bool (decide (((k : Nat) : Int) > 0))))] 13 (panicFree_then (panicFree_then (panicFree_then (panicFree_block (panicFree_block (panicFree_then (panicFree_then (panicFree_block panicFree_body)))))))) (fun _ h => h ▸ aa.cells) rfl ar fun bt af => ?_
  clear ar
  refine (Bool.eq_false_or_eq_true (decide (((k : Nat) : Int) > 0))).elim (fun ac => ?_) (fun ac => ?_)
  ·
   have aZ := of_decide_eq_true ac
   have av := af.cast (env' := [(0, .v (.slice A u.length c)), (3, .v (.int .i64 ((k : Nat) : Int))), (5, .v (.int .i64 ((u.length : Nat) : Int))), (6, .v (.int .i64 ((k : Nat) : Int))), (12, .v (.bool true))]) (by rw [ac])
   clear af
   refine go_rnD [3, 4, 8, 9, 10] [(0, .v (.slice A u.length c)), (3, .v (.int .i64 ((k : Nat) : Int))), (5, .v (.int .i64 ((u.length : Nat) : Int))), (6, .v (.int .i64 ((k : Nat) : Int))), (12, .v (.bool true)), (13, .v (.slice A u.length c)), (14, .v (.int .i64 ((k : Nat) : Int))), (18, .v (.slice A u.length c)), (20, .v (.int .i64 (IntKind.i64.wrap (((k : Nat) : Int) - 1))))] 8 (panicFree_then (panicFree_then (panicFree_then (panicFree_block (panicFree_block (panicFree_then (panicFree_then (panicFree_block panicFree_body)))))))) (fun _ h => h ▸ aa.cells) rfl av fun bu aw => ?_
   clear av
   obtain ⟨aN, aO, aP, ba, ag⟩ := Slots.get h2 (i := k) (by omega)
   obtain ⟨⟨ah, bd⟩, ax⟩ : ∃ x, u[k]? = some x := ⟨_, List.getElem?_eq_getElem (by omega)⟩
   obtain ⟨⟨bw, bx, ay, bf⟩, bz, bA⟩ := h3 k ah bd ax
   rw [ay] at ag
   refine takeC_index aw (i := 5) (t := 35) (A := A) (m := u.length) (q := ((k : Nat) : Int)) (d := 15) kz (e := 69) (size := 2) (bytes := 32) kz aP rfl (by omega) kz kz (panicFree_then (panicFree_then (panicFree_then (panicFree_block (panicFree_block (panicFree_then (panicFree_then (panicFree_block panicFree_body)))))))) rfl fun bB az => ?_
   clear aw
   refine go_rnD [6] [(0, .v (.slice A u.length c)), (3, .v (.int .i64 ((k : Nat) : Int))), (5, .v (.int .i64 ((u.length : Nat) : Int))), (6, .v (.int .i64 ((k : Nat) : Int))), (12, .v (.bool true)), (16, .v (.pointer (some ⟨aN, aO + k * 2, none⟩))), (18, .v (.slice A u.length c)), (20, .v (.int .i64 (IntKind.i64.wrap (((k : Nat) : Int) - 1))))] 6 (panicFree_then (panicFree_then (panicFree_then (panicFree_block (panicFree_block (panicFree_then (panicFree_then (panicFree_block panicFree_body)))))))) (fun _ h => h ▸ aa.cells) rfl az fun bC aA => ?_
   clear az
   refine takeC_load aA (i := 7) (t := 64) (b := aN) (o := aO + k * 2) (d := 17) kz (cs := [.int .u32 ah]) (v := .int .u32 ah) kz (fun w' h' => h' ▸ (At.drop (AtF.move ag aa.step nilM keepF).at_ 0 1)) kz kz (panicFree_then (panicFree_then (panicFree_then (panicFree_block (panicFree_block (panicFree_then (panicFree_then (panicFree_block panicFree_body)))))))) rfl fun bD aB => ?_
   clear aA
   have aQ : IntKind.i64.wrap (((k : Nat) : Int) - 1) = (((k - 1) : Nat) : Int) := by simp only [wrap_u64, wrap_u32, wrap_u16, IntKind.wrap_i64, IntKind.wrap_i32]; omega
   have aC := EnvOk.pick aB (ks := [0, 3, 5, 6, 12, 16, 18, 20, 17]) (env' := [(0, .v (.slice A u.length c)), (3, .v (.int .i64 ((k : Nat) : Int))), (5, .v (.int .i64 ((u.length : Nat) : Int))), (6, .v (.int .i64 ((k : Nat) : Int))), (12, .v (.bool true)), (16, .v (.pointer (some ⟨aN, aO + k * 2, none⟩))), (18, .v (.slice A u.length c)), (20, .v (.int .i64 (IntKind.i64.wrap (((k : Nat) : Int) - 1)))), (17, .v (.int .u32 ah))]) kz
   have aD := aC.cast (env' := [(0, .v (.slice A u.length c)), (3, .v (.int .i64 ((k : Nat) : Int))), (5, .v (.int .i64 ((u.length : Nat) : Int))), (6, .v (.int .i64 ((k : Nat) : Int))), (12, .v (.bool true)), (16, .v (.pointer (some ⟨aN, aO + k * 2, none⟩))), (18, .v (.slice A u.length c)), (20, .v (.int .i64 (((k - 1) : Nat) : Int))), (17, .v (.int .u32 ah))]) (by rw [aQ])
   clear aB aC
   obtain ⟨aU, aV, aR, bg, ai⟩ := Slots.get h2 (i := (k - 1)) (by omega)
   obtain ⟨⟨aE, bh⟩, aF⟩ : ∃ x, u[(k - 1)]? = some x := ⟨_, List.getElem?_eq_getElem (by omega)⟩
   obtain ⟨⟨bE, bF, aG, bi⟩, bG, bH⟩ := h3 (k - 1) aE bh aF
   rw [aG] at ai
   refine takeC_index aD (i := 11) (t := 35) (A := A) (m := u.length) (q := (((k - 1) : Nat) : Int)) (d := 21) kz (e := 69) (size := 2) (bytes := 32) kz aR rfl (by omega) kz kz (panicFree_then (panicFree_then (panicFree_then (panicFree_block (panicFree_block (panicFree_then (panicFree_then (panicFree_block panicFree_body)))))))) rfl fun bI aH => ?_
   clear aD
   refine go_rnD [12] [(0, .v (.slice A u.length c)), (3, .v (.int .i64 ((k : Nat) : Int))), (5, .v (.int .i64 ((u.length : Nat) : Int))), (6, .v (.int .i64 ((k : Nat) : Int))), (12, .v (.bool true)), (17, .v (.int .u32 ah)), (22, .v (.pointer (some ⟨aU, aV + (k - 1) * 2, none⟩)))] 3 (panicFree_then (panicFree_then (panicFree_then (panicFree_block (panicFree_block (panicFree_then (panicFree_then (panicFree_block panicFree_body)))))))) (fun _ h => h ▸ aa.cells) rfl aH fun bJ aI => ?_
   clear aH
   refine takeC_load aI (i := 13) (t := 64) (b := aU) (o := aV + (k - 1) * 2) (d := 23) kz (cs := [.int .u32 aE]) (v := .int .u32 aE) kz (fun w' h' => h' ▸ (At.drop (AtF.move ai aa.step nilM keepF).at_ 0 1)) kz kz (panicFree_then (panicFree_then (panicFree_then (panicFree_block (panicFree_block (panicFree_then (panicFree_then (panicFree_block panicFree_body)))))))) rfl fun bK aJ => ?_
   clear aI
   refine go_rnD [14, 15] [(0, .v (.slice A u.length c)), (3, .v (.int .i64 ((k : Nat) : Int))), (5, .v (.int .i64 ((u.length : Nat) : Int))), (6, .v (.int .i64 ((k : Nat) : Int))), (25, .v (.bool (decide (ah < aE))))] 0 (panicFree_then (panicFree_then (panicFree_then (panicFree_block (panicFree_block (panicFree_then (panicFree_then (panicFree_block panicFree_body)))))))) (fun _ h => h ▸ aa.cells) rfl aJ fun bL ak => ?_
   clear aJ
   refine anyC_done kz ?_ _
   refine then_normal ?_
   refine cond_false ak (b := decide (ah < aE)) kz (decide_eq_false (sorted_not hsrt ax aF (by omega))) ?_
   refine wp_exit ?_
   refine then_exit ?_
   refine then_exit ?_
   refine block_exit ?_
   refine block_normal ?_
   refine then_normal ?_
   refine go_region [0, 1] kz ?_
   refine go_rn [0, 1] [] [(0, .v (.slice A u.length c)), (5, .v (.int .i64 ((u.length : Nat) : Int))), (6, .v (.int .i64 (IntKind.i64.wrap (((k : Nat) : Int) + 1))))] aa ak fun bM aK => ?_
   clear ak
   refine wpOps_nil (then_normal ?_)
   have aS : IntKind.i64.wrap (((k : Nat) : Int) + 1) = ((k + 1 : Nat) : Int) := wrap_succ (by omega)
   rw [aS] at aK
   exact ⟨u.length - (k + 1), by omega, k + 1, rfl, by omega, aK.pk, aa, (ao.trans au)⟩
  ·
   have bj := of_decide_eq_false ac
   have aL := af.cast (env' := [(0, .v (.slice A u.length c)), (3, .v (.int .i64 ((k : Nat) : Int))), (5, .v (.int .i64 ((u.length : Nat) : Int))), (6, .v (.int .i64 ((k : Nat) : Int))), (12, .v (.bool false))]) (by rw [ac])
   clear af
   refine go_rnD [3, 4, 5, 6, 7, 8, 9, 10, 11, 12, 13, 14, 15] [(0, .v (.slice A u.length c)), (3, .v (.int .i64 ((k : Nat) : Int))), (5, .v (.int .i64 ((u.length : Nat) : Int))), (6, .v (.int .i64 ((k : Nat) : Int))), (25, .v (.bool false))] 0 (panicFree_then (panicFree_then (panicFree_then (panicFree_block (panicFree_block (panicFree_then (panicFree_then (panicFree_block panicFree_body)))))))) (fun _ h => h ▸ aa.cells) rfl aL fun bN al => ?_
   clear aL
   refine anyC_done kz ?_ _
   refine then_normal ?_
   refine cond_false al (b := false) kz rfl ?_
   refine wp_exit ?_
   refine then_exit ?_
   refine then_exit ?_
   refine block_exit ?_
   refine block_normal ?_
   refine then_normal ?_
   refine go_region [0, 1] kz ?_
   refine go_rn [0, 1] [] [(0, .v (.slice A u.length c)), (5, .v (.int .i64 ((u.length : Nat) : Int))), (6, .v (.int .i64 (IntKind.i64.wrap (((k : Nat) : Int) + 1))))] aa al fun bO aM => ?_
   clear al
   refine wpOps_nil (then_normal ?_)
   have aT : IntKind.i64.wrap (((k : Nat) : Int) + 1) = ((k + 1 : Nat) : Int) := wrap_succ (by omega)
   rw [aT] at aM
   exact ⟨u.length - (k + 1), by omega, k + 1, rfl, by omega, aM.pk, aa, (ao.trans au)⟩
 ·
  have bk := of_decide_eq_false aj
  refine wp_exit ?_
  refine then_exit ?_
  refine then_exit ?_
  refine block_exit ?_
  refine leave_end ae ab.cells (v := .tuple #[]) kz ?_
  exact ⟨rfl, ab.step⟩
theorem tTextN (s : ByteArray) (w : World) (F : Nat → Nat → Prop) : Calls Tryz.prog 139 #[.pointer none] w (GivesT w F (.mk 0 [] true [] [])) := by
 refine enter (n := 11) Tryz.func139 rfl Tryz.ntmps139 kz fun a hE => ?_
 have hW := WOk.start w Nil
 refine go_seq_region [0] kz ?_
 refine of_op (wpOp_alloc hW hE (d := 2) (cs := [.int .i64 0, .slice none 0 0, .bool false, .slice none 0 0, .slice none 0 0]) kz fun b1 a2 w3 hb4 hz5 hF6 hW7 hE8 => ?_)
 clear hE hW
 refine wpOps_nil (then_normal ?_)
 refine wp_seq ?_
 refine go_sp [(0, .v (.pointer none)), (2, .p 0 0), (4, .v (.bool true))] hW7 hE8 fun a9 aa => ?_
 clear hE8
 refine cond_true aa (b := true) kz rfl ?_
 refine go_seq_region [0, 1] kz ?_
 refine go_rn [0] [1] [(2, .p 0 0), (5, .v (.agg #[.int .i64 0, .slice none 0 0, .bool true, .slice none 0 0, .slice none 0 0]))] hW7 aa fun ah ab => ?_
 clear aa
 refine of_op (wpOp_store hW7 ab (oi := 0) (cs := [.int .i64 0, .slice none 0 0, .bool true, .slice none 0 0, .slice none 0 0]) kz fun af ag ac ae => ?_)
 clear ab hW7
 refine wpOps_nil (then_normal ?_)
 refine wp_ret ?_
 refine then_ret ?_
 refine leave ae ac.cells (v := .agg #[.int .i64 0, .slice none 0 0, .bool true, .slice none 0 0, .slice none 0 0]) kz ?_
 exact ⟨_, rfl, (show TreeR _ (Imm F w af [⟨b1, 0, [.int .i64 0, .slice none 0 0, .bool true, .slice none 0 0, .slice none 0 0], true⟩] []) _ (Tree.mk 0 [] true [] []) from (TreeR.mk (n := 0) (b := true) (s := []) (l := []) (u := []) (fun _ => []) (Octs.nil _ _) (Slots.nil _ _ _ _) (fun i_ x_ h_ => by simp at h_) (TagsR.nil _ _))).move (Step.refl _ Nil) nilM immOut, ac.step⟩
theorem tTextS (b o : Nat) (s : ByteArray) (w : World) (F : Nat → Nat → Prop) (hat : AtF w F b o [.string s]) (hs : s.size ≤ 1000000) : Calls Tryz.prog 139 #[.pointer (some ⟨b, o, none⟩)] w (GivesT w F (.mk 0 (sb s) false [] [])) := by
 refine enter (n := 11) Tryz.func139 rfl Tryz.ntmps139 kz fun a hE => ?_
 have hW := WOk.start w Nil
 refine go_seq_region [0] kz ?_
 refine of_op (wpOp_alloc hW hE (d := 2) (cs := [.int .i64 0, .slice none 0 0, .bool false, .slice none 0 0, .slice none 0 0]) kz fun b1 a2 w3 hb4 hz5 hF6 hW7 hE8 => ?_)
 clear hE hW
 refine wpOps_nil (then_normal ?_)
 refine wp_seq ?_
 refine go_sp [(0, .v (.pointer (some ⟨b, o, none⟩))), (2, .p 0 0), (4, .v (.bool false))] hW7 hE8 fun a9 aa => ?_
 clear hE8
 refine cond_false aa (b := false) kz rfl ?_
 refine wp_skip ?_
 refine then_normal ?_
 refine go_seq_region [0, 1, 2, 3, 4, 5] kz ?_
 refine go_rn [0, 1] [2, 3, 4, 5] [(2, .p 0 0), (7, .v (.pointer (some ⟨b, o, none⟩)))] hW7 aa fun au ac => ?_
 clear aa
 refine of_op (wpOp_load ac (t := 9) (b := b) (o := o) (d := 8) kz (cs := [.string s]) (v := .string s) kz (AtF.move hat hW7.step nilM keepF).at_ fun av ae => ?_)
 clear ac
 refine of_op (wpOp_bytes (d := 9) (src := 9) (dst := 22) (e := 5) (s := s) hW7 ae (by omega) fun aj ak aw ax ap ab al af => ?_)
 clear ae hW7
 have am := al F
 refine go_rn [4] [5] [(2, .p 0 0), (10, .v (.agg #[.int .i64 0, .slice (some ⟨aj, 0, none⟩) ((sb s).length) ak, .bool false, .slice none 0 0, .slice none 0 0]))] ab af fun ay ag => ?_
 clear af
 refine of_op (wpOp_store ab ag (oi := 0) (cs := [.int .i64 0, .slice (some ⟨aj, 0, none⟩) ((sb s).length) ak, .bool false, .slice none 0 0, .slice none 0 0]) kz fun ar ah ai ao => ?_)
 clear ag ab
 refine wpOps_nil (then_normal ?_)
 refine wp_ret ?_
 refine leave ao ai.cells (v := .agg #[.int .i64 0, .slice (some ⟨aj, 0, none⟩) ((sb s).length) ak, .bool false, .slice none 0 0, .slice none 0 0]) kz ?_
 exact ⟨_, rfl, (show TreeR _ (Imm F w ar [⟨b1, 0, [.int .i64 0, .slice (some ⟨aj, 0, none⟩) ((sb s).length) ak, .bool false, .slice none 0 0, .slice none 0 0], true⟩] []) _ (Tree.mk 0 (sb s) false [] []) from (TreeR.mk (n := 0) (b := false) (s := (sb s)) (l := []) (u := []) (fun _ => []) (am.move ah.step immM ah.to') (Slots.nil _ _ _ _) (fun i_ x_ h_ => by simp at h_) (TagsR.nil _ _))).move (Step.refl _ Nil) nilM immOut, ai.step⟩
theorem tText (A : Option Addr) (s : ByteArray) (w : World) (F : Nat → Nat → Prop) (hO : ∀ ad, A = some ad → ∃ b o, ad = ⟨b, o, none⟩ ∧ AtF w F b o [.string s]) (hs : s.size ≤ 1000000) : Calls Tryz.prog 139 #[.pointer A] w (GivesT w F (textT A s)) := by
 cases A with
 | none => exact tTextN s w F
 | some ad =>
  obtain ⟨b, o, rfl, h⟩ := hO ad rfl
  exact tTextS b o s w F h hs
theorem tAssignReplicasToDirsResponse_1 : TellOne Tryz.prog 153 69 := by
 intro w B cp c n k A Av x x0 x1 x2 x3 xs G hbx ho hG hn
 refine enter (n := 14) Tryz.func153 rfl Tryz.ntmps153 kz fun a hE => ?_
 have hW := hbx.wok
 have hE0 := (hE.grow ⟨B, 0, [x0, x1, x2, x3, .slice A n cp], true⟩).recast 2 (.v (.pointer (some ⟨B, 0, none⟩))) (.p 0 0) rfl rfl (by simp [SV.ok])
 have hsm := Slots.small ho
 have ah := hE0.pk (env' := [(0, .v (.int .u32 k)), (1, .v (.slice Av x.length c)), (2, .p 0 0)])
 refine go_drawK 9 kz hW fun w1 hF2 hW3 hT4 => ?_
 clear hW
 refine go_rnD [0, 1, 2, 3] [(2, .p 0 0), (6, .v (.slice A n cp)), (7, .v (.int .u32 k)), (8, .v (.slice Av x.length c))] 6 panicFree_body (fun _ h => h.cells) hT4 ah fun a5 hE6 => ?_
 clear ah
 have hW7 := hW3.addNil 5 1
 have hF8 := hW3.frNil 5 1
 refine anyC_op (i := 4) kz (wpOp_append hW7 hE6 (k := 1) (d := 9) (t := 22) (e := 5) (size := 1) (bytes := 1) (A := none) (As := Av) (m0 := 0) (c := 0) (m := x.length) (cs := c) (xs := []) (news := bc x) kz kz rfl (ho.move hW7.step (fun b o h _ => hG b o h) keepF).src (ho.move hW7.step (fun b o h _ => hG b o h) keepF).cap (by first | omega | (simp only [List.length_nil]; omega) | (simp; omega)) fun A9 aa aK aL ac ai aj => ?_)
 clear hE6 hW7
 have aB : (⟨A9, aa, 5, 1, 0 + x.length, [] ++ bc x⟩ : Rw) = brow A9 aa 5 x := by rw [List.nil_append, Nat.zero_add]
 obtain ⟨ae, af⟩ := ai.rowEq 1 [⟨A, cp, 69, 2, n, xs⟩, brow A9 aa 5 x] aB
 clear ai
 have ak := EnvOk.pick aj (ks := [2, 6, 7, 8, 9]) (env' := [(2, .p 0 0), (6, .v (.slice A n cp)), (7, .v (.int .u32 k)), (8, .v (.slice Av x.length c)), (9, .v (.slice A9 (0 + x.length) aa))]) kz
 have al := ak.cast (env' := [(2, .p 0 0), (6, .v (.slice A n cp)), (7, .v (.int .u32 k)), (8, .v (.slice Av x.length c)), (9, .v (.slice A9 x.length aa))]) (by simp only [List.length_append, List.length_cons, List.length_nil, Nat.zero_add])
 clear aj
 clear ak
 have am := TT.ofW ((hF8.trans ac).trans af) ae
 refine ⟨fun _ => am, ?_⟩
 refine go_rnD [5] [(2, .p 0 0), (6, .v (.slice A n cp)), (10, .v (.agg #[.int .u32 k, .slice A9 x.length aa]))] 4 panicFree_body (fun _ h => h.cells) am al fun aM ao => ?_
 clear al
 refine anyC_op (i := 6) kz (wpOp_lit ae ao (e := 69) (size := 2) (len := 1) (cs := [.int .u32 k, .slice A9 x.length aa]) (d := 11) kz kz fun aF aN aO aG aH ap ab ar => ?_)
 clear ao ae
 have aC := TT.ofW (((hF8.trans ac).trans af).trans ap) ab
 refine ⟨fun _ => aC, ?_⟩
 refine anyC_op (i := 7) kz (wpOp_append ab ar (k := 0) (d := 12) (t := 35) (e := 69) (size := 2) (bytes := 32) (A := A) (As := (some ⟨aF, 0, none⟩)) (m0 := n) (c := cp) (m := 1) (cs := 1) (xs := xs) (news := [.int .u32 k, .slice A9 x.length aa]) kz kz rfl (own_src (ab.own 2 _ rfl) (allOne_ok kz)) (own_cap (ab.own 2 _ rfl)) (by first | omega | (simp only [List.length_nil]; omega) | (simp; omega)) fun az aA aP aQ aD ag au => ?_)
 clear ar ab
 have av := TT.ofW ((((hF8.trans ac).trans af).trans ap).trans aD) ag
 refine ⟨fun _ => av, ?_⟩
 refine go_rnD [8] [(12, .v (.slice az (n + 1) aA)), (13, .p 0 4)] 1 panicFree_body (fun _ h => h.cells) av au fun aR aw => ?_
 clear au
 refine anyC_op (i := 9) kz (wpOp_store ag aw (oi := 0) (cs := [x0, x1, x2, x3, .slice az (n + 1) aA]) kz fun aS aI ax aE => ?_)
 clear aw ag
 refine ⟨fun h => absurd rfl h, ?_⟩
 refine anyC_done kz ?_ _
 refine leave_end aE ax.cells (v := .tuple #[]) kz ?_
 obtain ⟨ay, aJ⟩ := ax.cutR 2 [⟨az, aA, 69, 2, n + 1, xs ++ [.int .u32 k, .slice A9 x.length aa]⟩, brow A9 aa 5 x]
 have hoo := tbox_octs (s := x) (Av := A9) (c := aa) (e8 := 5) rfl ay (by omega)
 obtain ⟨hb1, hb2, hb3⟩ := tbox_of ay (World.lt_of_cell (hbx.str.at_ 0 _ rfl))
 exact ⟨rfl, az, aA, A9, aa, hb1, hoo, hb2, hb3⟩
theorem tDescribeACLsRequest_1 : TellOne Tryz.prog 140 69 := by
 intro w B cp c n k A Av x x0 x1 x2 x3 xs G hbx ho hG hn
 refine enter (n := 14) Tryz.func140 rfl Tryz.ntmps140 kz fun a hE => ?_
 have hW := hbx.wok
 have hE0 := (hE.grow ⟨B, 0, [x0, x1, x2, x3, .slice A n cp], true⟩).recast 2 (.v (.pointer (some ⟨B, 0, none⟩))) (.p 0 0) rfl rfl (by simp [SV.ok])
 have hsm := Slots.small ho
 have ah := hE0.pk (env' := [(0, .v (.int .u32 k)), (1, .v (.slice Av x.length c)), (2, .p 0 0)])
 refine go_drawK 9 kz hW fun w1 hF2 hW3 hT4 => ?_
 clear hW
 refine go_rnD [0, 1, 2, 3] [(2, .p 0 0), (6, .v (.slice A n cp)), (7, .v (.int .u32 k)), (8, .v (.slice Av x.length c))] 6 panicFree_body (fun _ h => h.cells) hT4 ah fun a5 hE6 => ?_
 clear ah
 have hW7 := hW3.addNil 5 1
 have hF8 := hW3.frNil 5 1
 refine anyC_op (i := 4) kz (wpOp_append hW7 hE6 (k := 1) (d := 9) (t := 22) (e := 5) (size := 1) (bytes := 1) (A := none) (As := Av) (m0 := 0) (c := 0) (m := x.length) (cs := c) (xs := []) (news := bc x) kz kz rfl (ho.move hW7.step (fun b o h _ => hG b o h) keepF).src (ho.move hW7.step (fun b o h _ => hG b o h) keepF).cap (by first | omega | (simp only [List.length_nil]; omega) | (simp; omega)) fun A9 aa aK aL ac ai aj => ?_)
 clear hE6 hW7
 have aB : (⟨A9, aa, 5, 1, 0 + x.length, [] ++ bc x⟩ : Rw) = brow A9 aa 5 x := by rw [List.nil_append, Nat.zero_add]
 obtain ⟨ae, af⟩ := ai.rowEq 1 [⟨A, cp, 69, 2, n, xs⟩, brow A9 aa 5 x] aB
 clear ai
 have ak := EnvOk.pick aj (ks := [2, 6, 7, 8, 9]) (env' := [(2, .p 0 0), (6, .v (.slice A n cp)), (7, .v (.int .u32 k)), (8, .v (.slice Av x.length c)), (9, .v (.slice A9 (0 + x.length) aa))]) kz
 have al := ak.cast (env' := [(2, .p 0 0), (6, .v (.slice A n cp)), (7, .v (.int .u32 k)), (8, .v (.slice Av x.length c)), (9, .v (.slice A9 x.length aa))]) (by simp only [List.length_append, List.length_cons, List.length_nil, Nat.zero_add])
 clear aj
 clear ak
 have am := TT.ofW ((hF8.trans ac).trans af) ae
 refine ⟨fun _ => am, ?_⟩
 refine go_rnD [5] [(2, .p 0 0), (6, .v (.slice A n cp)), (10, .v (.agg #[.int .u32 k, .slice A9 x.length aa]))] 4 panicFree_body (fun _ h => h.cells) am al fun aM ao => ?_
 clear al
 refine anyC_op (i := 6) kz (wpOp_lit ae ao (e := 69) (size := 2) (len := 1) (cs := [.int .u32 k, .slice A9 x.length aa]) (d := 11) kz kz fun aF aN aO aG aH ap ab ar => ?_)
 clear ao ae
 have aC := TT.ofW (((hF8.trans ac).trans af).trans ap) ab
 refine ⟨fun _ => aC, ?_⟩
 refine anyC_op (i := 7) kz (wpOp_append ab ar (k := 0) (d := 12) (t := 35) (e := 69) (size := 2) (bytes := 32) (A := A) (As := (some ⟨aF, 0, none⟩)) (m0 := n) (c := cp) (m := 1) (cs := 1) (xs := xs) (news := [.int .u32 k, .slice A9 x.length aa]) kz kz rfl (own_src (ab.own 2 _ rfl) (allOne_ok kz)) (own_cap (ab.own 2 _ rfl)) (by first | omega | (simp only [List.length_nil]; omega) | (simp; omega)) fun az aA aP aQ aD ag au => ?_)
 clear ar ab
 have av := TT.ofW ((((hF8.trans ac).trans af).trans ap).trans aD) ag
 refine ⟨fun _ => av, ?_⟩
 refine go_rnD [8] [(12, .v (.slice az (n + 1) aA)), (13, .p 0 4)] 1 panicFree_body (fun _ h => h.cells) av au fun aR aw => ?_
 clear au
 refine anyC_op (i := 9) kz (wpOp_store ag aw (oi := 0) (cs := [x0, x1, x2, x3, .slice az (n + 1) aA]) kz fun aS aI ax aE => ?_)
 clear aw ag
 refine ⟨fun h => absurd rfl h, ?_⟩
 refine anyC_done kz ?_ _
 refine leave_end aE ax.cells (v := .tuple #[]) kz ?_
 obtain ⟨ay, aJ⟩ := ax.cutR 2 [⟨az, aA, 69, 2, n + 1, xs ++ [.int .u32 k, .slice A9 x.length aa]⟩, brow A9 aa 5 x]
 have hoo := tbox_octs (s := x) (Av := A9) (c := aa) (e8 := 5) rfl ay (by omega)
 obtain ⟨hb1, hb2, hb3⟩ := tbox_of ay (World.lt_of_cell (hbx.str.at_ 0 _ rfl))
 exact ⟨rfl, az, aA, A9, aa, hb1, hoo, hb2, hb3⟩
def trDescribeACLsRequest (D : DV) : Tree := .mk 0 [] false [.mk (IntKind.i64.wrap (D.f 0).n) [] false [] [], textT (D.f 1).A (D.f 1).s, .mk (IntKind.i64.wrap (D.f 2).n) [] false [] [], textT (D.f 3).A (D.f 3).s, textT (D.f 4).A (D.f 4).s, .mk (IntKind.i64.wrap (D.f 5).n) [] false [] [], .mk (IntKind.i64.wrap (D.f 6).n) [] false [] []] D.u
set_option maxHeartbeats 4000000 in
theorem tlDescribeACLsRequest (v : Int) (D : DV) (b o : Nat) (w : World) (F : Nat → Nat → Prop) (hat : AtF w F b o [.int .i16 v, .int .i8 ((D.f 0).n), .pointer ((D.f 1).A), .int .i8 ((D.f 2).n), .pointer ((D.f 3).A), .pointer ((D.f 4).A), .int .i8 ((D.f 5).n), .int .i8 ((D.f 6).n), .map D.m]) (hok : okDescribeACLsRequest w F D) : Calls Tryz.prog 75 #[.pointer (some ⟨b, o, none⟩)] w (GivesT w F (trDescribeACLsRequest D)) := by
 refine enter (n := 75) Tryz.func75 rfl Tryz.ntmps75 kz fun a hE => ?_
 have hW : WOk w Nil w [⟨b, o, [.int .i16 v, .int .i8 ((D.f 0).n), .pointer ((D.f 1).A), .int .i8 ((D.f 2).n), .pointer ((D.f 3).A), .pointer ((D.f 4).A), .int .i8 ((D.f 5).n), .int .i8 ((D.f 6).n), .map D.m], false⟩] [] := (WOk.start w Nil).start1 hat rfl rfl
 unfold okDescribeACLsRequest at hok
 obtain ⟨g1, ⟨g2, g2l⟩, g3, ⟨g4, g4l⟩, ⟨g5, g5l⟩, g6, g7, g8, g8l, g8x, _⟩ := hok
 have hE0 := (EnvOk.ptr0 (cs := [.int .i16 v, .int .i8 ((D.f 0).n), .pointer ((D.f 1).A), .int .i8 ((D.f 2).n), .pointer ((D.f 3).A), .pointer ((D.f 4).A), .int .i8 ((D.f 5).n), .int .i8 ((D.f 6).n), .map D.m]) (r := false) hE).pk (env' := [(0, .p 0 0)])
 refine go_seq_region [0] kz ?_
 refine of_op (wpOp_alloc hW hE0 (d := 2) (cs := [.int .i64 0, .slice none 0 0, .bool false, .slice none 0 0, .slice none 0 0]) kz fun b9 fk fl ea eb ec cT cU => ?_)
 clear hE0 hW
 refine wpOps_nil (then_normal ?_)
 refine go_seq_region [0, 1, 2, 3] kz ?_
 refine of_op (wpOp_makeZ (t := 34) (e := 37) (size := 5) (bytes := 88) (d := 4) (j := 7) (.agg #[.int .i64 0, .slice none 0 0, .bool false, .slice none 0 0, .slice none 0 0]) [.int .i64 0, .slice none 0 0, .bool false, .slice none 0 0, .slice none 0 0, .int .i64 0, .slice none 0 0, .bool false, .slice none 0 0, .slice none 0 0, .int .i64 0, .slice none 0 0, .bool false, .slice none 0 0, .slice none 0 0, .int .i64 0, .slice none 0 0, .bool false, .slice none 0 0, .slice none 0 0, .int .i64 0, .slice none 0 0, .bool false, .slice none 0 0, .slice none 0 0, .int .i64 0, .slice none 0 0, .bool false, .slice none 0 0, .slice none 0 0, .int .i64 0, .slice none 0 0, .bool false, .slice none 0 0, .slice none 0 0] cT cU fun aa fm fo ee ef eg cO cV => ?_)
 clear cU cT
 refine go_rn [1] [2, 3] [(0, .p 0 0), (2, .p 1 0), (5, .v (.agg #[.int .i64 0, .slice none 0 0, .bool false, .slice (some ⟨aa, 0, none⟩) 7 7, .slice none 0 0]))] cO cV fun fq cW => ?_
 clear cV
 refine of_op (wpOp_alloc cO cW (d := 3) (cs := [.int .i64 0, .slice none 0 0, .bool false, .slice none 0 0, .slice none 0 0]) kz fun aY fr ft eh ei ej cX cY => ?_)
 clear cW cO
 refine of_op (wpOp_store cX cY (oi := 3) (cs := [.int .i64 0, .slice none 0 0, .bool false, .slice (some ⟨aa, 0, none⟩) 7 7, .slice none 0 0]) kz fun fu ek cZ c5 => ?_)
 clear cY cX
 refine wpOps_nil (then_normal ?_)
 refine go_seq_drawK 9 kz cZ fun fv em dH c6 => ?_
 clear cZ
 refine go_rnD [0, 1, 2, 3, 4, 5, 6, 7] [(0, .p 0 0), (2, .p 1 0), (3, .p 3 0), (7, .v (.slice (some ⟨aa, 0, none⟩) 7 7)), (13, .v (.agg #[.int .i64 (IntKind.i64.wrap ((D.f 0).n)), .slice none 0 0, .bool false, .slice none 0 0, .slice none 0 0]))] 2 (panicFree_then panicFree_body) (fun _ h => h.cells) c6 c5 fun fw da => ?_
 clear c5
 refine takeC_index da (i := 8) (t := 34) (A := (some ⟨aa, 0, none⟩)) (m := 7) (q := 0) (d := 14) kz (e := 37) (size := 5) (bytes := 88) (j := 0) kz (b := aa) (o := 0) rfl rfl (by decide) kz kz (panicFree_then panicFree_body) c6 fun fx db => ?_
 clear da
 have dc := db.recast 14 (.v (.pointer (some ⟨aa, 0 + 0 * 5, none⟩))) (.p 2 0) rfl rfl (Nat.le_of_ble_eq_true (n := 3) rfl)
 clear db
 have de := dc.pk (env' := [(0, .p 0 0), (2, .p 1 0), (3, .p 3 0), (7, .v (.slice (some ⟨aa, 0, none⟩) 7 7)), (13, .v (.agg #[.int .i64 (IntKind.i64.wrap ((D.f 0).n)), .slice none 0 0, .bool false, .slice none 0 0, .slice none 0 0])), (14, .p 2 0)])
 clear dc
 refine anyC_op (i := 9) kz (wpOp_store dH de (oi := 2) (cs := [.int .i64 (IntKind.i64.wrap ((D.f 0).n)), .slice none 0 0, .bool false, .slice none 0 0, .slice none 0 0, .int .i64 0, .slice none 0 0, .bool false, .slice none 0 0, .slice none 0 0, .int .i64 0, .slice none 0 0, .bool false, .slice none 0 0, .slice none 0 0, .int .i64 0, .slice none 0 0, .bool false, .slice none 0 0, .slice none 0 0, .int .i64 0, .slice none 0 0, .bool false, .slice none 0 0, .slice none 0 0, .int .i64 0, .slice none 0 0, .bool false, .slice none 0 0, .slice none 0 0, .int .i64 0, .slice none 0 0, .bool false, .slice none 0 0, .slice none 0 0]) kz fun fy eo df dg => ?_)
 clear de
 refine ⟨fun h => absurd rfl h, ?_⟩
 refine anyC_done kz ?_ _
 refine then_normal ?_
 refine go_seq_drawK 8 kz df fun ep eu bj dI => ?_
 clear df
 refine go_rnD [0, 1, 2, 3, 4, 5] [(0, .p 0 0), (2, .p 1 0), (3, .p 3 0), (16, .v (.slice (some ⟨aa, 0, none⟩) 7 7)), (20, .v (.pointer ((D.f 1).A)))] 3 (panicFree_then panicFree_body) (fun _ h => h.cells) dI dg fun fz dh => ?_
 clear dg
 refine anyC_op (i := 6) kz (wpOp_call dh (f := 139) (vs := [.pointer ((D.f 1).A)]) (d := 21) kz Tryz.call139 (tText _ (D.f 1).s _ (Imm F w ep [⟨b, o, [.int .i16 v, .int .i8 ((D.f 0).n), .pointer ((D.f 1).A), .int .i8 ((D.f 2).n), .pointer ((D.f 3).A), .pointer ((D.f 4).A), .int .i8 ((D.f 5).n), .int .i8 ((D.f 6).n), .map D.m], false⟩, ⟨b9, 0, [.int .i64 0, .slice none 0 0, .bool false, .slice none 0 0, .slice none 0 0], true⟩, ⟨aa, 0, [.int .i64 (IntKind.i64.wrap ((D.f 0).n)), .slice none 0 0, .bool false, .slice none 0 0, .slice none 0 0, .int .i64 0, .slice none 0 0, .bool false, .slice none 0 0, .slice none 0 0, .int .i64 0, .slice none 0 0, .bool false, .slice none 0 0, .slice none 0 0, .int .i64 0, .slice none 0 0, .bool false, .slice none 0 0, .slice none 0 0, .int .i64 0, .slice none 0 0, .bool false, .slice none 0 0, .slice none 0 0, .int .i64 0, .slice none 0 0, .bool false, .slice none 0 0, .slice none 0 0, .int .i64 0, .slice none 0 0, .bool false, .slice none 0 0, .slice none 0 0], true⟩, ⟨aY, 0, [.int .i64 0, .slice none 0 0, .bool false, .slice (some ⟨aa, 0, none⟩) 7 7, .slice none 0 0], true⟩] []) (fun ad h_ => by obtain ⟨b', o', g1, g2⟩ := g2 ad h_; exact ⟨b', o', g1, g2.move bj.step nilM bj.imm⟩) g2l) ?_)
 rintro e_ fA ⟨ev, rfl, dJ, cP⟩
 have cQ := dJ.move (Step.refl _ Nil) nilM (bj.laid (G := F) cP)
 obtain ⟨aG, aH, aI, aJ, aK, aL, aM, aN, aO, aP, aQ, ew, ey, bA, ez, eB, fB, fC⟩ := cQ.open_
 rw [bA] at cQ
 have dX := ez.small
 have dY := eB.small
 rw [bA]
 refine ⟨_, rfl, fun fD di => ?_⟩
 have cR := bj.next_nil cP
 have dK := bj.frN cP
 clear dh
 have dj := TT.ofW dK cR
 refine ⟨fun _ => dj, ?_⟩
 refine takeC_index di (i := 7) (t := 34) (A := (some ⟨aa, 0, none⟩)) (m := 7) (q := 1) (d := 22) kz (e := 37) (size := 5) (bytes := 88) (j := 1) kz (b := aa) (o := 0) rfl rfl (by decide) kz kz (panicFree_then panicFree_body) dj fun fE dl => ?_
 clear di
 have dp := dl.recast 22 (.v (.pointer (some ⟨aa, 0 + 1 * 5, none⟩))) (.p 2 5) rfl rfl (Nat.le_of_ble_eq_true (n := 3) rfl)
 clear dl
 have dq := dp.pk (env' := [(0, .p 0 0), (2, .p 1 0), (3, .p 3 0), (16, .v (.slice (some ⟨aa, 0, none⟩) 7 7)), (20, .v (.pointer ((D.f 1).A))), (21, .v (.agg #[.int .i64 aG, .slice aL aH.length aM, .bool aI, .slice aN aJ.length aO, .slice aP aK.length aQ])), (22, .p 2 5)])
 clear dp
 refine anyC_op (i := 8) kz (wpOp_store cR dq (oi := 2) (cs := [.int .i64 (IntKind.i64.wrap ((D.f 0).n)), .slice none 0 0, .bool false, .slice none 0 0, .slice none 0 0, .int .i64 aG, .slice aL aH.length aM, .bool aI, .slice aN aJ.length aO, .slice aP aK.length aQ, .int .i64 0, .slice none 0 0, .bool false, .slice none 0 0, .slice none 0 0, .int .i64 0, .slice none 0 0, .bool false, .slice none 0 0, .slice none 0 0, .int .i64 0, .slice none 0 0, .bool false, .slice none 0 0, .slice none 0 0, .int .i64 0, .slice none 0 0, .bool false, .slice none 0 0, .slice none 0 0, .int .i64 0, .slice none 0 0, .bool false, .slice none 0 0, .slice none 0 0]) kz fun fF dr dt du => ?_)
 clear dq cR
 refine ⟨fun h => absurd rfl h, ?_⟩
 refine anyC_done kz ?_ _
 refine then_normal ?_
 refine go_seq_drawK 9 kz dt fun fG dv dL bB => ?_
 clear dt
 refine go_rnD [0, 1, 2, 3, 4, 5, 6, 7] [(0, .p 0 0), (2, .p 1 0), (3, .p 3 0), (24, .v (.slice (some ⟨aa, 0, none⟩) 7 7)), (30, .v (.agg #[.int .i64 (IntKind.i64.wrap ((D.f 2).n)), .slice none 0 0, .bool false, .slice none 0 0, .slice none 0 0]))] 2 (panicFree_then panicFree_body) (fun _ h => h.cells) bB du fun eC bC => ?_
 clear du
 refine takeC_index bC (i := 8) (t := 34) (A := (some ⟨aa, 0, none⟩)) (m := 7) (q := 2) (d := 31) kz (e := 37) (size := 5) (bytes := 88) (j := 2) kz (b := aa) (o := 0) rfl rfl (by decide) kz kz (panicFree_then panicFree_body) bB fun eD bD => ?_
 clear bC
 have bE := bD.recast 31 (.v (.pointer (some ⟨aa, 0 + 2 * 5, none⟩))) (.p 2 10) rfl rfl (Nat.le_of_ble_eq_true (n := 3) rfl)
 clear bD
 have bF := bE.pk (env' := [(0, .p 0 0), (2, .p 1 0), (3, .p 3 0), (24, .v (.slice (some ⟨aa, 0, none⟩) 7 7)), (30, .v (.agg #[.int .i64 (IntKind.i64.wrap ((D.f 2).n)), .slice none 0 0, .bool false, .slice none 0 0, .slice none 0 0])), (31, .p 2 10)])
 clear bE
 refine anyC_op (i := 9) kz (wpOp_store dL bF (oi := 2) (cs := [.int .i64 (IntKind.i64.wrap ((D.f 0).n)), .slice none 0 0, .bool false, .slice none 0 0, .slice none 0 0, .int .i64 aG, .slice aL aH.length aM, .bool aI, .slice aN aJ.length aO, .slice aP aK.length aQ, .int .i64 (IntKind.i64.wrap ((D.f 2).n)), .slice none 0 0, .bool false, .slice none 0 0, .slice none 0 0, .int .i64 0, .slice none 0 0, .bool false, .slice none 0 0, .slice none 0 0, .int .i64 0, .slice none 0 0, .bool false, .slice none 0 0, .slice none 0 0, .int .i64 0, .slice none 0 0, .bool false, .slice none 0 0, .slice none 0 0, .int .i64 0, .slice none 0 0, .bool false, .slice none 0 0, .slice none 0 0]) kz fun eE bG bH bI => ?_)
 clear bF
 refine ⟨fun h => absurd rfl h, ?_⟩
 refine anyC_done kz ?_ _
 refine then_normal ?_
 refine go_seq_drawK 8 kz bH fun dM bJ aZ dw => ?_
 clear bH
 refine go_rnD [0, 1, 2, 3, 4, 5] [(0, .p 0 0), (2, .p 1 0), (3, .p 3 0), (33, .v (.slice (some ⟨aa, 0, none⟩) 7 7)), (37, .v (.pointer ((D.f 3).A)))] 3 (panicFree_then panicFree_body) (fun _ h => h.cells) dw bI fun eF bK => ?_
 clear bI
 refine anyC_op (i := 6) kz (wpOp_call bK (f := 139) (vs := [.pointer ((D.f 3).A)]) (d := 38) kz Tryz.call139 (tText _ (D.f 3).s _ (Imm F w dM [⟨b, o, [.int .i16 v, .int .i8 ((D.f 0).n), .pointer ((D.f 1).A), .int .i8 ((D.f 2).n), .pointer ((D.f 3).A), .pointer ((D.f 4).A), .int .i8 ((D.f 5).n), .int .i8 ((D.f 6).n), .map D.m], false⟩, ⟨b9, 0, [.int .i64 0, .slice none 0 0, .bool false, .slice none 0 0, .slice none 0 0], true⟩, ⟨aa, 0, [.int .i64 (IntKind.i64.wrap ((D.f 0).n)), .slice none 0 0, .bool false, .slice none 0 0, .slice none 0 0, .int .i64 aG, .slice aL aH.length aM, .bool aI, .slice aN aJ.length aO, .slice aP aK.length aQ, .int .i64 (IntKind.i64.wrap ((D.f 2).n)), .slice none 0 0, .bool false, .slice none 0 0, .slice none 0 0, .int .i64 0, .slice none 0 0, .bool false, .slice none 0 0, .slice none 0 0, .int .i64 0, .slice none 0 0, .bool false, .slice none 0 0, .slice none 0 0, .int .i64 0, .slice none 0 0, .bool false, .slice none 0 0, .slice none 0 0, .int .i64 0, .slice none 0 0, .bool false, .slice none 0 0, .slice none 0 0], true⟩, ⟨aY, 0, [.int .i64 0, .slice none 0 0, .bool false, .slice (some ⟨aa, 0, none⟩) 7 7, .slice none 0 0], true⟩] []) (fun ad h_ => by obtain ⟨b', o', g1, g2⟩ := g4 ad h_; exact ⟨b', o', g1, g2.move aZ.step nilM aZ.imm⟩) g4l) ?_)
 rintro e_ eG ⟨dZ, rfl, dx, bk⟩
 have bn := dx.move (Step.refl _ Nil) nilM (aZ.laid (G := F) bk)
 obtain ⟨ae, af, ag, ah, ai, aj, ak, al, am, ao, ap, d5, d6, bo, dN, dO, eH, eI⟩ := bn.open_
 rw [bo] at bn
 have dP := dN.small
 have dQ := dO.small
 rw [bo]
 refine ⟨_, rfl, fun eJ bL => ?_⟩
 have bp := aZ.next_nil bk
 have bq := aZ.frN bk
 clear bK
 have bM := TT.ofW bq bp
 refine ⟨fun _ => bM, ?_⟩
 refine takeC_index bL (i := 7) (t := 34) (A := (some ⟨aa, 0, none⟩)) (m := 7) (q := 3) (d := 39) kz (e := 37) (size := 5) (bytes := 88) (j := 3) kz (b := aa) (o := 0) rfl rfl (by decide) kz kz (panicFree_then panicFree_body) bM fun eK bN => ?_
 clear bL
 have bO := bN.recast 39 (.v (.pointer (some ⟨aa, 0 + 3 * 5, none⟩))) (.p 2 15) rfl rfl (Nat.le_of_ble_eq_true (n := 3) rfl)
 clear bN
 have bP := bO.pk (env' := [(0, .p 0 0), (2, .p 1 0), (3, .p 3 0), (33, .v (.slice (some ⟨aa, 0, none⟩) 7 7)), (37, .v (.pointer ((D.f 3).A))), (38, .v (.agg #[.int .i64 ae, .slice aj af.length ak, .bool ag, .slice al ah.length am, .slice ao ai.length ap])), (39, .p 2 15)])
 clear bO
 refine anyC_op (i := 8) kz (wpOp_store bp bP (oi := 2) (cs := [.int .i64 (IntKind.i64.wrap ((D.f 0).n)), .slice none 0 0, .bool false, .slice none 0 0, .slice none 0 0, .int .i64 aG, .slice aL aH.length aM, .bool aI, .slice aN aJ.length aO, .slice aP aK.length aQ, .int .i64 (IntKind.i64.wrap ((D.f 2).n)), .slice none 0 0, .bool false, .slice none 0 0, .slice none 0 0, .int .i64 ae, .slice aj af.length ak, .bool ag, .slice al ah.length am, .slice ao ai.length ap, .int .i64 0, .slice none 0 0, .bool false, .slice none 0 0, .slice none 0 0, .int .i64 0, .slice none 0 0, .bool false, .slice none 0 0, .slice none 0 0, .int .i64 0, .slice none 0 0, .bool false, .slice none 0 0, .slice none 0 0]) kz fun eL bg bQ bR => ?_)
 clear bP bp
 refine ⟨fun h => absurd rfl h, ?_⟩
 refine anyC_done kz ?_ _
 refine then_normal ?_
 refine go_seq_drawK 8 kz bQ fun dR bh ba dy => ?_
 clear bQ
 refine go_rnD [0, 1, 2, 3, 4, 5] [(0, .p 0 0), (2, .p 1 0), (3, .p 3 0), (41, .v (.slice (some ⟨aa, 0, none⟩) 7 7)), (45, .v (.pointer ((D.f 4).A)))] 3 (panicFree_then panicFree_body) (fun _ h => h.cells) dy bR fun eM bS => ?_
 clear bR
 refine anyC_op (i := 6) kz (wpOp_call bS (f := 139) (vs := [.pointer ((D.f 4).A)]) (d := 46) kz Tryz.call139 (tText _ (D.f 4).s _ (Imm F w dR [⟨b, o, [.int .i16 v, .int .i8 ((D.f 0).n), .pointer ((D.f 1).A), .int .i8 ((D.f 2).n), .pointer ((D.f 3).A), .pointer ((D.f 4).A), .int .i8 ((D.f 5).n), .int .i8 ((D.f 6).n), .map D.m], false⟩, ⟨b9, 0, [.int .i64 0, .slice none 0 0, .bool false, .slice none 0 0, .slice none 0 0], true⟩, ⟨aa, 0, [.int .i64 (IntKind.i64.wrap ((D.f 0).n)), .slice none 0 0, .bool false, .slice none 0 0, .slice none 0 0, .int .i64 aG, .slice aL aH.length aM, .bool aI, .slice aN aJ.length aO, .slice aP aK.length aQ, .int .i64 (IntKind.i64.wrap ((D.f 2).n)), .slice none 0 0, .bool false, .slice none 0 0, .slice none 0 0, .int .i64 ae, .slice aj af.length ak, .bool ag, .slice al ah.length am, .slice ao ai.length ap, .int .i64 0, .slice none 0 0, .bool false, .slice none 0 0, .slice none 0 0, .int .i64 0, .slice none 0 0, .bool false, .slice none 0 0, .slice none 0 0, .int .i64 0, .slice none 0 0, .bool false, .slice none 0 0, .slice none 0 0], true⟩, ⟨aY, 0, [.int .i64 0, .slice none 0 0, .bool false, .slice (some ⟨aa, 0, none⟩) 7 7, .slice none 0 0], true⟩] []) (fun ad h_ => by obtain ⟨b', o', g1, g2⟩ := g5 ad h_; exact ⟨b', o', g1, g2.move ba.step nilM ba.imm⟩) g5l) ?_)
 rintro e_ eN ⟨d7, rfl, dz, bt⟩
 have bu := dz.move (Step.refl _ Nil) nilM (ba.laid (G := F) bt)
 obtain ⟨ar, au, av, aw, ax, ay, az, aA, aB, aC, aD, d8, d9, bw, dS, dT, eO, eP⟩ := bu.open_
 rw [bw] at bu
 have dU := dS.small
 have dV := dT.small
 rw [bw]
 refine ⟨_, rfl, fun eQ bT => ?_⟩
 have bx := ba.next_nil bt
 have bd := ba.frN bt
 clear bS
 have bU := TT.ofW bd bx
 refine ⟨fun _ => bU, ?_⟩
 refine takeC_index bT (i := 7) (t := 34) (A := (some ⟨aa, 0, none⟩)) (m := 7) (q := 4) (d := 47) kz (e := 37) (size := 5) (bytes := 88) (j := 4) kz (b := aa) (o := 0) rfl rfl (by decide) kz kz (panicFree_then panicFree_body) bU fun eR bV => ?_
 clear bT
 have bW := bV.recast 47 (.v (.pointer (some ⟨aa, 0 + 4 * 5, none⟩))) (.p 2 20) rfl rfl (Nat.le_of_ble_eq_true (n := 3) rfl)
 clear bV
 have bX := bW.pk (env' := [(0, .p 0 0), (2, .p 1 0), (3, .p 3 0), (41, .v (.slice (some ⟨aa, 0, none⟩) 7 7)), (45, .v (.pointer ((D.f 4).A))), (46, .v (.agg #[.int .i64 ar, .slice ay au.length az, .bool av, .slice aA aw.length aB, .slice aC ax.length aD])), (47, .p 2 20)])
 clear bW
 refine anyC_op (i := 8) kz (wpOp_store bx bX (oi := 2) (cs := [.int .i64 (IntKind.i64.wrap ((D.f 0).n)), .slice none 0 0, .bool false, .slice none 0 0, .slice none 0 0, .int .i64 aG, .slice aL aH.length aM, .bool aI, .slice aN aJ.length aO, .slice aP aK.length aQ, .int .i64 (IntKind.i64.wrap ((D.f 2).n)), .slice none 0 0, .bool false, .slice none 0 0, .slice none 0 0, .int .i64 ae, .slice aj af.length ak, .bool ag, .slice al ah.length am, .slice ao ai.length ap, .int .i64 ar, .slice ay au.length az, .bool av, .slice aA aw.length aB, .slice aC ax.length aD, .int .i64 0, .slice none 0 0, .bool false, .slice none 0 0, .slice none 0 0, .int .i64 0, .slice none 0 0, .bool false, .slice none 0 0, .slice none 0 0]) kz fun eS aS bY bZ => ?_)
 clear bX bx
 refine ⟨fun h => absurd rfl h, ?_⟩
 refine anyC_done kz ?_ _
 refine then_normal ?_
 refine go_seq_drawK 9 kz bY fun eU aT dA b8 => ?_
 clear bY
 refine go_rnD [0, 1, 2, 3, 4, 5, 6, 7] [(0, .p 0 0), (2, .p 1 0), (3, .p 3 0), (49, .v (.slice (some ⟨aa, 0, none⟩) 7 7)), (55, .v (.agg #[.int .i64 (IntKind.i64.wrap ((D.f 5).n)), .slice none 0 0, .bool false, .slice none 0 0, .slice none 0 0]))] 2 (panicFree_then panicFree_body) (fun _ h => h.cells) b8 bZ fun eV cd => ?_
 clear bZ
 refine takeC_index cd (i := 8) (t := 34) (A := (some ⟨aa, 0, none⟩)) (m := 7) (q := 5) (d := 56) kz (e := 37) (size := 5) (bytes := 88) (j := 5) kz (b := aa) (o := 0) rfl rfl (by decide) kz kz (panicFree_then panicFree_body) b8 fun eW ce => ?_
 clear cd
 have cm := ce.recast 56 (.v (.pointer (some ⟨aa, 0 + 5 * 5, none⟩))) (.p 2 25) rfl rfl (Nat.le_of_ble_eq_true (n := 3) rfl)
 clear ce
 have cq := cm.pk (env' := [(0, .p 0 0), (2, .p 1 0), (3, .p 3 0), (49, .v (.slice (some ⟨aa, 0, none⟩) 7 7)), (55, .v (.agg #[.int .i64 (IntKind.i64.wrap ((D.f 5).n)), .slice none 0 0, .bool false, .slice none 0 0, .slice none 0 0])), (56, .p 2 25)])
 clear cm
 refine anyC_op (i := 9) kz (wpOp_store dA cq (oi := 2) (cs := [.int .i64 (IntKind.i64.wrap ((D.f 0).n)), .slice none 0 0, .bool false, .slice none 0 0, .slice none 0 0, .int .i64 aG, .slice aL aH.length aM, .bool aI, .slice aN aJ.length aO, .slice aP aK.length aQ, .int .i64 (IntKind.i64.wrap ((D.f 2).n)), .slice none 0 0, .bool false, .slice none 0 0, .slice none 0 0, .int .i64 ae, .slice aj af.length ak, .bool ag, .slice al ah.length am, .slice ao ai.length ap, .int .i64 ar, .slice ay au.length az, .bool av, .slice aA aw.length aB, .slice aC ax.length aD, .int .i64 (IntKind.i64.wrap ((D.f 5).n)), .slice none 0 0, .bool false, .slice none 0 0, .slice none 0 0, .int .i64 0, .slice none 0 0, .bool false, .slice none 0 0, .slice none 0 0]) kz fun eX aU cr cu => ?_)
 clear cq
 refine ⟨fun h => absurd rfl h, ?_⟩
 refine anyC_done kz ?_ _
 refine then_normal ?_
 refine go_seq_drawK 9 kz cr fun eY aV dB cw => ?_
 clear cr
 refine go_rnD [0, 1, 2, 3, 4, 5, 6, 7] [(0, .p 0 0), (2, .p 1 0), (3, .p 3 0), (58, .v (.slice (some ⟨aa, 0, none⟩) 7 7)), (64, .v (.agg #[.int .i64 (IntKind.i64.wrap ((D.f 6).n)), .slice none 0 0, .bool false, .slice none 0 0, .slice none 0 0]))] 2 (panicFree_then panicFree_body) (fun _ h => h.cells) cw cu fun eZ cz => ?_
 clear cu
 refine takeC_index cz (i := 8) (t := 34) (A := (some ⟨aa, 0, none⟩)) (m := 7) (q := 6) (d := 65) kz (e := 37) (size := 5) (bytes := 88) (j := 6) kz (b := aa) (o := 0) rfl rfl (by decide) kz kz (panicFree_then panicFree_body) cw fun e9 cA => ?_
 clear cz
 have cB := cA.recast 65 (.v (.pointer (some ⟨aa, 0 + 6 * 5, none⟩))) (.p 2 30) rfl rfl (Nat.le_of_ble_eq_true (n := 3) rfl)
 clear cA
 have cC := cB.pk (env' := [(0, .p 0 0), (2, .p 1 0), (3, .p 3 0), (58, .v (.slice (some ⟨aa, 0, none⟩) 7 7)), (64, .v (.agg #[.int .i64 (IntKind.i64.wrap ((D.f 6).n)), .slice none 0 0, .bool false, .slice none 0 0, .slice none 0 0])), (65, .p 2 30)])
 clear cB
 refine anyC_op (i := 9) kz (wpOp_store dB cC (oi := 2) (cs := [.int .i64 (IntKind.i64.wrap ((D.f 0).n)), .slice none 0 0, .bool false, .slice none 0 0, .slice none 0 0, .int .i64 aG, .slice aL aH.length aM, .bool aI, .slice aN aJ.length aO, .slice aP aK.length aQ, .int .i64 (IntKind.i64.wrap ((D.f 2).n)), .slice none 0 0, .bool false, .slice none 0 0, .slice none 0 0, .int .i64 ae, .slice aj af.length ak, .bool ag, .slice al ah.length am, .slice ao ai.length ap, .int .i64 ar, .slice ay au.length az, .bool av, .slice aA aw.length aB, .slice aC ax.length aD, .int .i64 (IntKind.i64.wrap ((D.f 5).n)), .slice none 0 0, .bool false, .slice none 0 0, .slice none 0 0, .int .i64 (IntKind.i64.wrap ((D.f 6).n)), .slice none 0 0, .bool false, .slice none 0 0, .slice none 0 0]) kz fun dW aW aR cD => ?_)
 clear cC
 refine ⟨fun h => absurd rfl h, ?_⟩
 refine anyC_done kz ?_ _
 refine then_normal ?_
 refine go_seq_region [0, 1, 2, 3, 4] kz ?_
 refine go_rn [0, 1, 2] [3, 4] [(2, .p 1 0), (3, .p 3 0), (68, .p 0 8)] aR cD fun fa cE => ?_
 clear cD
 refine of_op (wpOp_mkf cE (v := .func (.func 140) #[] #[.pointer (some ⟨aY, 0, none⟩)]) (d := 69) kz fun fb cG => ?_)
 clear cE
 refine of_op (wpOp_call cG (f := 122) (vs := [.pointer (some ⟨b, o + 8, none⟩), .func (.func 140) #[] #[.pointer (some ⟨aY, 0, none⟩)]]) (d := 70) kz Tryz.call122 (kEachTell (F := (Imm F w dW [⟨b, o, [.int .i16 v, .int .i8 ((D.f 0).n), .pointer ((D.f 1).A), .int .i8 ((D.f 2).n), .pointer ((D.f 3).A), .pointer ((D.f 4).A), .int .i8 ((D.f 5).n), .int .i8 ((D.f 6).n), .map D.m], false⟩, ⟨b9, 0, [.int .i64 0, .slice none 0 0, .bool false, .slice none 0 0, .slice none 0 0], true⟩, ⟨aa, 0, [.int .i64 (IntKind.i64.wrap ((D.f 0).n)), .slice none 0 0, .bool false, .slice none 0 0, .slice none 0 0, .int .i64 aG, .slice aL aH.length aM, .bool aI, .slice aN aJ.length aO, .slice aP aK.length aQ, .int .i64 (IntKind.i64.wrap ((D.f 2).n)), .slice none 0 0, .bool false, .slice none 0 0, .slice none 0 0, .int .i64 ae, .slice aj af.length ak, .bool ag, .slice al ah.length am, .slice ao ai.length ap, .int .i64 ar, .slice ay au.length az, .bool av, .slice aA aw.length aB, .slice aC ax.length aD, .int .i64 (IntKind.i64.wrap ((D.f 5).n)), .slice none 0 0, .bool false, .slice none 0 0, .slice none 0 0, .int .i64 (IntKind.i64.wrap ((D.f 6).n)), .slice none 0 0, .bool false, .slice none 0 0, .slice none 0 0], true⟩, ⟨aY, 0, [.int .i64 0, .slice none 0 0, .bool false, .slice (some ⟨aa, 0, none⟩) 7 7, .slice none 0 0], true⟩] [])) Tryz.call140 tDescribeACLsRequest_1 ((hat.one 8 rfl).move aR.step nilM aR.imm) (g8.move aR.step nilM aR.imm) (Str.of aR 3 rfl) (imm_n 3 rfl) g8l) ?_)
 rintro e_ fe ⟨rfl, ab, ac, cS, dC, dD⟩
 obtain ⟨bi, aX, dE⟩ := aR.wrote 3 [⟨b, o, [.int .i16 v, .int .i8 ((D.f 0).n), .pointer ((D.f 1).A), .int .i8 ((D.f 2).n), .pointer ((D.f 3).A), .pointer ((D.f 4).A), .int .i8 ((D.f 5).n), .int .i8 ((D.f 6).n), .map D.m], false⟩, ⟨b9, 0, [.int .i64 0, .slice none 0 0, .bool false, .slice none 0 0, .slice none 0 0], true⟩, ⟨aa, 0, [.int .i64 (IntKind.i64.wrap ((D.f 0).n)), .slice none 0 0, .bool false, .slice none 0 0, .slice none 0 0, .int .i64 aG, .slice aL aH.length aM, .bool aI, .slice aN aJ.length aO, .slice aP aK.length aQ, .int .i64 (IntKind.i64.wrap ((D.f 2).n)), .slice none 0 0, .bool false, .slice none 0 0, .slice none 0 0, .int .i64 ae, .slice aj af.length ak, .bool ag, .slice al ah.length am, .slice ao ai.length ap, .int .i64 ar, .slice ay au.length az, .bool av, .slice aA aw.length aB, .slice aC ax.length aD, .int .i64 (IntKind.i64.wrap ((D.f 5).n)), .slice none 0 0, .bool false, .slice none 0 0, .slice none 0 0, .int .i64 (IntKind.i64.wrap ((D.f 6).n)), .slice none 0 0, .bool false, .slice none 0 0, .slice none 0 0], true⟩, ⟨aY, 0, [.int .i64 0, .slice none 0 0, .bool false, .slice (some ⟨aa, 0, none⟩) 7 7, .slice ab D.u.length ac], true⟩] rfl dD cS
 have cH := dC.move (Step.refl _ Nil) nilM (fun b_ o_ h_ hb_ => dE (G := F) b_ o_ (.inr h_) hb_)
 refine ⟨_, rfl, fun ff dF => ?_⟩
 have cI := (EnvOk.places (tb' := [⟨b, o, [.int .i16 v, .int .i8 ((D.f 0).n), .pointer ((D.f 1).A), .int .i8 ((D.f 2).n), .pointer ((D.f 3).A), .pointer ((D.f 4).A), .int .i8 ((D.f 5).n), .int .i8 ((D.f 6).n), .map D.m], false⟩, ⟨b9, 0, [.int .i64 0, .slice none 0 0, .bool false, .slice none 0 0, .slice none 0 0], true⟩, ⟨aa, 0, [.int .i64 (IntKind.i64.wrap ((D.f 0).n)), .slice none 0 0, .bool false, .slice none 0 0, .slice none 0 0, .int .i64 aG, .slice aL aH.length aM, .bool aI, .slice aN aJ.length aO, .slice aP aK.length aQ, .int .i64 (IntKind.i64.wrap ((D.f 2).n)), .slice none 0 0, .bool false, .slice none 0 0, .slice none 0 0, .int .i64 ae, .slice aj af.length ak, .bool ag, .slice al ah.length am, .slice ao ai.length ap, .int .i64 ar, .slice ay au.length az, .bool av, .slice aA aw.length aB, .slice aC ax.length aD, .int .i64 (IntKind.i64.wrap ((D.f 5).n)), .slice none 0 0, .bool false, .slice none 0 0, .slice none 0 0, .int .i64 (IntKind.i64.wrap ((D.f 6).n)), .slice none 0 0, .bool false, .slice none 0 0, .slice none 0 0], true⟩, ⟨aY, 0, [.int .i64 0, .slice none 0 0, .bool false, .slice (some ⟨aa, 0, none⟩) 7 7, .slice ab D.u.length ac], true⟩]) dF (show Pl [⟨b, o, [.int .i16 v, .int .i8 ((D.f 0).n), .pointer ((D.f 1).A), .int .i8 ((D.f 2).n), .pointer ((D.f 3).A), .pointer ((D.f 4).A), .int .i8 ((D.f 5).n), .int .i8 ((D.f 6).n), .map D.m], false⟩, ⟨b9, 0, [.int .i64 0, .slice none 0 0, .bool false, .slice none 0 0, .slice none 0 0], true⟩, ⟨aa, 0, [.int .i64 (IntKind.i64.wrap ((D.f 0).n)), .slice none 0 0, .bool false, .slice none 0 0, .slice none 0 0, .int .i64 aG, .slice aL aH.length aM, .bool aI, .slice aN aJ.length aO, .slice aP aK.length aQ, .int .i64 (IntKind.i64.wrap ((D.f 2).n)), .slice none 0 0, .bool false, .slice none 0 0, .slice none 0 0, .int .i64 ae, .slice aj af.length ak, .bool ag, .slice al ah.length am, .slice ao ai.length ap, .int .i64 ar, .slice ay au.length az, .bool av, .slice aA aw.length aB, .slice aC ax.length aD, .int .i64 (IntKind.i64.wrap ((D.f 5).n)), .slice none 0 0, .bool false, .slice none 0 0, .slice none 0 0, .int .i64 (IntKind.i64.wrap ((D.f 6).n)), .slice none 0 0, .bool false, .slice none 0 0, .slice none 0 0], true⟩, ⟨aY, 0, [.int .i64 0, .slice none 0 0, .bool false, .slice (some ⟨aa, 0, none⟩) 7 7, .slice none 0 0], true⟩] [⟨b, o, [.int .i16 v, .int .i8 ((D.f 0).n), .pointer ((D.f 1).A), .int .i8 ((D.f 2).n), .pointer ((D.f 3).A), .pointer ((D.f 4).A), .int .i8 ((D.f 5).n), .int .i8 ((D.f 6).n), .map D.m], false⟩, ⟨b9, 0, [.int .i64 0, .slice none 0 0, .bool false, .slice none 0 0, .slice none 0 0], true⟩, ⟨aa, 0, [.int .i64 (IntKind.i64.wrap ((D.f 0).n)), .slice none 0 0, .bool false, .slice none 0 0, .slice none 0 0, .int .i64 aG, .slice aL aH.length aM, .bool aI, .slice aN aJ.length aO, .slice aP aK.length aQ, .int .i64 (IntKind.i64.wrap ((D.f 2).n)), .slice none 0 0, .bool false, .slice none 0 0, .slice none 0 0, .int .i64 ae, .slice aj af.length ak, .bool ag, .slice al ah.length am, .slice ao ai.length ap, .int .i64 ar, .slice ay au.length az, .bool av, .slice aA aw.length aB, .slice aC ax.length aD, .int .i64 (IntKind.i64.wrap ((D.f 5).n)), .slice none 0 0, .bool false, .slice none 0 0, .slice none 0 0, .int .i64 (IntKind.i64.wrap ((D.f 6).n)), .slice none 0 0, .bool false, .slice none 0 0, .slice none 0 0], true⟩, ⟨aY, 0, [.int .i64 0, .slice none 0 0, .bool false, .slice (some ⟨aa, 0, none⟩) 7 7, .slice ab D.u.length ac], true⟩] from ⟨rfl, rfl, ⟨rfl, rfl, ⟨rfl, rfl, ⟨rfl, rfl, trivial⟩⟩⟩⟩)).pk (env' := [(70, .v (.tuple #[])), (2, .p 1 0), (3, .p 3 0), (68, .p 0 8), (69, .v (.func (.func 140) #[] #[.pointer (some ⟨aY, 0, none⟩)]))])
 clear cG
 refine wpOps_nil (then_normal ?_)
 refine go_seq_region [0, 1, 2] kz ?_
 refine go_rn [0, 1] [2] [(2, .p 1 0), (3, .p 3 0), (72, .v (.slice ab D.u.length ac))] bi cI fun fg cJ => ?_
 clear cI
 refine of_op (wpOp_call cJ (f := 124) (vs := [.slice ab D.u.length ac]) (d := 73) kz Tryz.call124 (tSorted cH g8.sorted) ?_)
 rintro e_ fh ⟨rfl, cK⟩
 refine ⟨_, rfl, fun fi cL => ?_⟩
 have bz := bi.next_nil cK
 have aE := bi.frN cK
 clear cJ bi
 refine wpOps_nil (then_normal ?_)
 refine go_seq_region [0, 1] kz ?_
 refine go_rn [0] [1] [(2, .p 1 0), (74, .v (.agg #[.int .i64 0, .slice none 0 0, .bool false, .slice (some ⟨aa, 0, none⟩) 7 7, .slice ab D.u.length ac]))] bz cL fun fj cM => ?_
 clear cL
 refine of_op (wpOp_store bz cM (oi := 1) (cs := [.int .i64 0, .slice none 0 0, .bool false, .slice (some ⟨aa, 0, none⟩) 7 7, .slice ab D.u.length ac]) kz fun bf aF cN dG => ?_)
 clear cM bz
 refine wpOps_nil (then_normal ?_)
 refine wp_ret ?_
 refine leave dG cN.cells (v := .agg #[.int .i64 0, .slice none 0 0, .bool false, .slice (some ⟨aa, 0, none⟩) 7 7, .slice ab D.u.length ac]) kz ?_
 exact tell_end (u := D.u) (l := [.mk (IntKind.i64.wrap (D.f 0).n) [] false [] [], textT (D.f 1).A (D.f 1).s, .mk (IntKind.i64.wrap (D.f 2).n) [] false [] [], textT (D.f 3).A (D.f 3).s, textT (D.f 4).A (D.f 4).s, .mk (IntKind.i64.wrap (D.f 5).n) [] false [] [], .mk (IntKind.i64.wrap (D.f 6).n) [] false [] []]) (css := [[.int .i64 (IntKind.i64.wrap ((D.f 0).n)), .slice none 0 0, .bool false, .slice none 0 0, .slice none 0 0], [.int .i64 aG, .slice aL aH.length aM, .bool aI, .slice aN aJ.length aO, .slice aP aK.length aQ], [.int .i64 (IntKind.i64.wrap ((D.f 2).n)), .slice none 0 0, .bool false, .slice none 0 0, .slice none 0 0], [.int .i64 ae, .slice aj af.length ak, .bool ag, .slice al ah.length am, .slice ao ai.length ap], [.int .i64 ar, .slice ay au.length az, .bool av, .slice aA aw.length aB, .slice aC ax.length aD], [.int .i64 (IntKind.i64.wrap ((D.f 5).n)), .slice none 0 0, .bool false, .slice none 0 0, .slice none 0 0], [.int .i64 (IntKind.i64.wrap ((D.f 6).n)), .slice none 0 0, .bool false, .slice none 0 0, .slice none 0 0]]) cN 2 rfl ⟨(show TreeR _ (Imm F w bf [⟨b, o, [.int .i16 v, .int .i8 ((D.f 0).n), .pointer ((D.f 1).A), .int .i8 ((D.f 2).n), .pointer ((D.f 3).A), .pointer ((D.f 4).A), .int .i8 ((D.f 5).n), .int .i8 ((D.f 6).n), .map D.m], false⟩, ⟨b9, 0, [.int .i64 0, .slice none 0 0, .bool false, .slice (some ⟨aa, 0, none⟩) 7 7, .slice ab D.u.length ac], true⟩, ⟨aa, 0, [.int .i64 (IntKind.i64.wrap ((D.f 0).n)), .slice none 0 0, .bool false, .slice none 0 0, .slice none 0 0, .int .i64 aG, .slice aL aH.length aM, .bool aI, .slice aN aJ.length aO, .slice aP aK.length aQ, .int .i64 (IntKind.i64.wrap ((D.f 2).n)), .slice none 0 0, .bool false, .slice none 0 0, .slice none 0 0, .int .i64 ae, .slice aj af.length ak, .bool ag, .slice al ah.length am, .slice ao ai.length ap, .int .i64 ar, .slice ay au.length az, .bool av, .slice aA aw.length aB, .slice aC ax.length aD, .int .i64 (IntKind.i64.wrap ((D.f 5).n)), .slice none 0 0, .bool false, .slice none 0 0, .slice none 0 0, .int .i64 (IntKind.i64.wrap ((D.f 6).n)), .slice none 0 0, .bool false, .slice none 0 0, .slice none 0 0], true⟩, ⟨aY, 0, [.int .i64 0, .slice none 0 0, .bool false, .slice (some ⟨aa, 0, none⟩) 7 7, .slice ab D.u.length ac], true⟩] []) _ _ from (TreeR.mk (n := IntKind.i64.wrap ((D.f 0).n)) (b := false) (s := []) (l := []) (u := []) (fun _ => []) (Octs.nil _ _) (Slots.nil _ _ _ _) (fun i_ x_ h_ => by simp at h_) (TagsR.nil _ _))).move (Step.refl _ Nil) nilM immOut, (show TreeR _ (Imm F w bf [⟨b, o, [.int .i16 v, .int .i8 ((D.f 0).n), .pointer ((D.f 1).A), .int .i8 ((D.f 2).n), .pointer ((D.f 3).A), .pointer ((D.f 4).A), .int .i8 ((D.f 5).n), .int .i8 ((D.f 6).n), .map D.m], false⟩, ⟨b9, 0, [.int .i64 0, .slice none 0 0, .bool false, .slice (some ⟨aa, 0, none⟩) 7 7, .slice ab D.u.length ac], true⟩, ⟨aa, 0, [.int .i64 (IntKind.i64.wrap ((D.f 0).n)), .slice none 0 0, .bool false, .slice none 0 0, .slice none 0 0, .int .i64 aG, .slice aL aH.length aM, .bool aI, .slice aN aJ.length aO, .slice aP aK.length aQ, .int .i64 (IntKind.i64.wrap ((D.f 2).n)), .slice none 0 0, .bool false, .slice none 0 0, .slice none 0 0, .int .i64 ae, .slice aj af.length ak, .bool ag, .slice al ah.length am, .slice ao ai.length ap, .int .i64 ar, .slice ay au.length az, .bool av, .slice aA aw.length aB, .slice aC ax.length aD, .int .i64 (IntKind.i64.wrap ((D.f 5).n)), .slice none 0 0, .bool false, .slice none 0 0, .slice none 0 0, .int .i64 (IntKind.i64.wrap ((D.f 6).n)), .slice none 0 0, .bool false, .slice none 0 0, .slice none 0 0], true⟩, ⟨aY, 0, [.int .i64 0, .slice none 0 0, .bool false, .slice (some ⟨aa, 0, none⟩) 7 7, .slice ab D.u.length ac], true⟩] []) _ _ from (cQ.move (((((((((((((((dr.trans dv).trans bG).trans bJ).trans bq).trans bg).trans bh).trans bd).trans aS).trans aT).trans aU).trans aV).trans aW).trans aX).trans aE).trans aF).step immM (((((((((((((((dr.trans dv).trans bG).trans bJ).trans bq).trans bg).trans bh).trans bd).trans aS).trans aT).trans aU).trans aV).trans aW).trans aX).trans aE).trans aF).to')).move (Step.refl _ Nil) nilM immOut, (show TreeR _ (Imm F w bf [⟨b, o, [.int .i16 v, .int .i8 ((D.f 0).n), .pointer ((D.f 1).A), .int .i8 ((D.f 2).n), .pointer ((D.f 3).A), .pointer ((D.f 4).A), .int .i8 ((D.f 5).n), .int .i8 ((D.f 6).n), .map D.m], false⟩, ⟨b9, 0, [.int .i64 0, .slice none 0 0, .bool false, .slice (some ⟨aa, 0, none⟩) 7 7, .slice ab D.u.length ac], true⟩, ⟨aa, 0, [.int .i64 (IntKind.i64.wrap ((D.f 0).n)), .slice none 0 0, .bool false, .slice none 0 0, .slice none 0 0, .int .i64 aG, .slice aL aH.length aM, .bool aI, .slice aN aJ.length aO, .slice aP aK.length aQ, .int .i64 (IntKind.i64.wrap ((D.f 2).n)), .slice none 0 0, .bool false, .slice none 0 0, .slice none 0 0, .int .i64 ae, .slice aj af.length ak, .bool ag, .slice al ah.length am, .slice ao ai.length ap, .int .i64 ar, .slice ay au.length az, .bool av, .slice aA aw.length aB, .slice aC ax.length aD, .int .i64 (IntKind.i64.wrap ((D.f 5).n)), .slice none 0 0, .bool false, .slice none 0 0, .slice none 0 0, .int .i64 (IntKind.i64.wrap ((D.f 6).n)), .slice none 0 0, .bool false, .slice none 0 0, .slice none 0 0], true⟩, ⟨aY, 0, [.int .i64 0, .slice none 0 0, .bool false, .slice (some ⟨aa, 0, none⟩) 7 7, .slice ab D.u.length ac], true⟩] []) _ _ from (TreeR.mk (n := IntKind.i64.wrap ((D.f 2).n)) (b := false) (s := []) (l := []) (u := []) (fun _ => []) (Octs.nil _ _) (Slots.nil _ _ _ _) (fun i_ x_ h_ => by simp at h_) (TagsR.nil _ _))).move (Step.refl _ Nil) nilM immOut, (show TreeR _ (Imm F w bf [⟨b, o, [.int .i16 v, .int .i8 ((D.f 0).n), .pointer ((D.f 1).A), .int .i8 ((D.f 2).n), .pointer ((D.f 3).A), .pointer ((D.f 4).A), .int .i8 ((D.f 5).n), .int .i8 ((D.f 6).n), .map D.m], false⟩, ⟨b9, 0, [.int .i64 0, .slice none 0 0, .bool false, .slice (some ⟨aa, 0, none⟩) 7 7, .slice ab D.u.length ac], true⟩, ⟨aa, 0, [.int .i64 (IntKind.i64.wrap ((D.f 0).n)), .slice none 0 0, .bool false, .slice none 0 0, .slice none 0 0, .int .i64 aG, .slice aL aH.length aM, .bool aI, .slice aN aJ.length aO, .slice aP aK.length aQ, .int .i64 (IntKind.i64.wrap ((D.f 2).n)), .slice none 0 0, .bool false, .slice none 0 0, .slice none 0 0, .int .i64 ae, .slice aj af.length ak, .bool ag, .slice al ah.length am, .slice ao ai.length ap, .int .i64 ar, .slice ay au.length az, .bool av, .slice aA aw.length aB, .slice aC ax.length aD, .int .i64 (IntKind.i64.wrap ((D.f 5).n)), .slice none 0 0, .bool false, .slice none 0 0, .slice none 0 0, .int .i64 (IntKind.i64.wrap ((D.f 6).n)), .slice none 0 0, .bool false, .slice none 0 0, .slice none 0 0], true⟩, ⟨aY, 0, [.int .i64 0, .slice none 0 0, .bool false, .slice (some ⟨aa, 0, none⟩) 7 7, .slice ab D.u.length ac], true⟩] []) _ _ from (bn.move ((((((((((bg.trans bh).trans bd).trans aS).trans aT).trans aU).trans aV).trans aW).trans aX).trans aE).trans aF).step immM ((((((((((bg.trans bh).trans bd).trans aS).trans aT).trans aU).trans aV).trans aW).trans aX).trans aE).trans aF).to')).move (Step.refl _ Nil) nilM immOut, (show TreeR _ (Imm F w bf [⟨b, o, [.int .i16 v, .int .i8 ((D.f 0).n), .pointer ((D.f 1).A), .int .i8 ((D.f 2).n), .pointer ((D.f 3).A), .pointer ((D.f 4).A), .int .i8 ((D.f 5).n), .int .i8 ((D.f 6).n), .map D.m], false⟩, ⟨b9, 0, [.int .i64 0, .slice none 0 0, .bool false, .slice (some ⟨aa, 0, none⟩) 7 7, .slice ab D.u.length ac], true⟩, ⟨aa, 0, [.int .i64 (IntKind.i64.wrap ((D.f 0).n)), .slice none 0 0, .bool false, .slice none 0 0, .slice none 0 0, .int .i64 aG, .slice aL aH.length aM, .bool aI, .slice aN aJ.length aO, .slice aP aK.length aQ, .int .i64 (IntKind.i64.wrap ((D.f 2).n)), .slice none 0 0, .bool false, .slice none 0 0, .slice none 0 0, .int .i64 ae, .slice aj af.length ak, .bool ag, .slice al ah.length am, .slice ao ai.length ap, .int .i64 ar, .slice ay au.length az, .bool av, .slice aA aw.length aB, .slice aC ax.length aD, .int .i64 (IntKind.i64.wrap ((D.f 5).n)), .slice none 0 0, .bool false, .slice none 0 0, .slice none 0 0, .int .i64 (IntKind.i64.wrap ((D.f 6).n)), .slice none 0 0, .bool false, .slice none 0 0, .slice none 0 0], true⟩, ⟨aY, 0, [.int .i64 0, .slice none 0 0, .bool false, .slice (some ⟨aa, 0, none⟩) 7 7, .slice ab D.u.length ac], true⟩] []) _ _ from (bu.move (((((((aS.trans aT).trans aU).trans aV).trans aW).trans aX).trans aE).trans aF).step immM (((((((aS.trans aT).trans aU).trans aV).trans aW).trans aX).trans aE).trans aF).to')).move (Step.refl _ Nil) nilM immOut, (show TreeR _ (Imm F w bf [⟨b, o, [.int .i16 v, .int .i8 ((D.f 0).n), .pointer ((D.f 1).A), .int .i8 ((D.f 2).n), .pointer ((D.f 3).A), .pointer ((D.f 4).A), .int .i8 ((D.f 5).n), .int .i8 ((D.f 6).n), .map D.m], false⟩, ⟨b9, 0, [.int .i64 0, .slice none 0 0, .bool false, .slice (some ⟨aa, 0, none⟩) 7 7, .slice ab D.u.length ac], true⟩, ⟨aa, 0, [.int .i64 (IntKind.i64.wrap ((D.f 0).n)), .slice none 0 0, .bool false, .slice none 0 0, .slice none 0 0, .int .i64 aG, .slice aL aH.length aM, .bool aI, .slice aN aJ.length aO, .slice aP aK.length aQ, .int .i64 (IntKind.i64.wrap ((D.f 2).n)), .slice none 0 0, .bool false, .slice none 0 0, .slice none 0 0, .int .i64 ae, .slice aj af.length ak, .bool ag, .slice al ah.length am, .slice ao ai.length ap, .int .i64 ar, .slice ay au.length az, .bool av, .slice aA aw.length aB, .slice aC ax.length aD, .int .i64 (IntKind.i64.wrap ((D.f 5).n)), .slice none 0 0, .bool false, .slice none 0 0, .slice none 0 0, .int .i64 (IntKind.i64.wrap ((D.f 6).n)), .slice none 0 0, .bool false, .slice none 0 0, .slice none 0 0], true⟩, ⟨aY, 0, [.int .i64 0, .slice none 0 0, .bool false, .slice (some ⟨aa, 0, none⟩) 7 7, .slice ab D.u.length ac], true⟩] []) _ _ from (TreeR.mk (n := IntKind.i64.wrap ((D.f 5).n)) (b := false) (s := []) (l := []) (u := []) (fun _ => []) (Octs.nil _ _) (Slots.nil _ _ _ _) (fun i_ x_ h_ => by simp at h_) (TagsR.nil _ _))).move (Step.refl _ Nil) nilM immOut, (show TreeR _ (Imm F w bf [⟨b, o, [.int .i16 v, .int .i8 ((D.f 0).n), .pointer ((D.f 1).A), .int .i8 ((D.f 2).n), .pointer ((D.f 3).A), .pointer ((D.f 4).A), .int .i8 ((D.f 5).n), .int .i8 ((D.f 6).n), .map D.m], false⟩, ⟨b9, 0, [.int .i64 0, .slice none 0 0, .bool false, .slice (some ⟨aa, 0, none⟩) 7 7, .slice ab D.u.length ac], true⟩, ⟨aa, 0, [.int .i64 (IntKind.i64.wrap ((D.f 0).n)), .slice none 0 0, .bool false, .slice none 0 0, .slice none 0 0, .int .i64 aG, .slice aL aH.length aM, .bool aI, .slice aN aJ.length aO, .slice aP aK.length aQ, .int .i64 (IntKind.i64.wrap ((D.f 2).n)), .slice none 0 0, .bool false, .slice none 0 0, .slice none 0 0, .int .i64 ae, .slice aj af.length ak, .bool ag, .slice al ah.length am, .slice ao ai.length ap, .int .i64 ar, .slice ay au.length az, .bool av, .slice aA aw.length aB, .slice aC ax.length aD, .int .i64 (IntKind.i64.wrap ((D.f 5).n)), .slice none 0 0, .bool false, .slice none 0 0, .slice none 0 0, .int .i64 (IntKind.i64.wrap ((D.f 6).n)), .slice none 0 0, .bool false, .slice none 0 0, .slice none 0 0], true⟩, ⟨aY, 0, [.int .i64 0, .slice none 0 0, .bool false, .slice (some ⟨aa, 0, none⟩) 7 7, .slice ab D.u.length ac], true⟩] []) _ _ from (TreeR.mk (n := IntKind.i64.wrap ((D.f 6).n)) (b := false) (s := []) (l := []) (u := []) (fun _ => []) (Octs.nil _ _) (Slots.nil _ _ _ _) (fun i_ x_ h_ => by simp at h_) (TagsR.nil _ _))).move (Step.refl _ Nil) nilM immOut, trivial⟩ ((show TagsR _ (Imm F w bf [⟨b, o, [.int .i16 v, .int .i8 ((D.f 0).n), .pointer ((D.f 1).A), .int .i8 ((D.f 2).n), .pointer ((D.f 3).A), .pointer ((D.f 4).A), .int .i8 ((D.f 5).n), .int .i8 ((D.f 6).n), .map D.m], false⟩, ⟨b9, 0, [.int .i64 0, .slice none 0 0, .bool false, .slice (some ⟨aa, 0, none⟩) 7 7, .slice ab D.u.length ac], true⟩, ⟨aa, 0, [.int .i64 (IntKind.i64.wrap ((D.f 0).n)), .slice none 0 0, .bool false, .slice none 0 0, .slice none 0 0, .int .i64 aG, .slice aL aH.length aM, .bool aI, .slice aN aJ.length aO, .slice aP aK.length aQ, .int .i64 (IntKind.i64.wrap ((D.f 2).n)), .slice none 0 0, .bool false, .slice none 0 0, .slice none 0 0, .int .i64 ae, .slice aj af.length ak, .bool ag, .slice al ah.length am, .slice ao ai.length ap, .int .i64 ar, .slice ay au.length az, .bool av, .slice aA aw.length aB, .slice aC ax.length aD, .int .i64 (IntKind.i64.wrap ((D.f 5).n)), .slice none 0 0, .bool false, .slice none 0 0, .slice none 0 0, .int .i64 (IntKind.i64.wrap ((D.f 6).n)), .slice none 0 0, .bool false, .slice none 0 0, .slice none 0 0], true⟩, ⟨aY, 0, [.int .i64 0, .slice none 0 0, .bool false, .slice (some ⟨aa, 0, none⟩) 7 7, .slice ab D.u.length ac], true⟩] []) _ _ _ from (cH.move (aE.trans aF).step immM (aE.trans aF).to')).move (Step.refl _ Nil) nilM immOut)
end Go.Proofs.YtgolpmkenmedoaaGreatDoor.ME
namespace Go.Proofs.YtgolpmkenmedoaaGreatDoor.ME
open Go
open Go.RowKit
set_option linter.unusedVariables false
set_option linter.unusedSimpArgs false
theorem n8w (x : Int) : IntKind.i8.wrap x = (x + 128) % 256 - 128 := by simp [IntKind.wrap, IntKind.signed, IntKind.bits]; omega
theorem n16w (x : Int) : IntKind.i16.wrap x = (x + 32768) % 65536 - 32768 := by simp [IntKind.wrap, IntKind.signed, IntKind.bits]; omega
theorem n32w (x : Int) : IntKind.i32.wrap x = (x + 2147483648) % 4294967296 - 2147483648 := by simp [IntKind.wrap, IntKind.signed, IntKind.bits]; omega
theorem n64w (x : Int) : IntKind.i64.wrap x = (x + 9223372036854775808) % 18446744073709551616 - 9223372036854775808 := by simp [IntKind.wrap, IntKind.signed, IntKind.bits]; omega
theorem n64_8 (x : Int) : IntKind.i64.wrap (IntKind.i8.wrap x) = IntKind.i8.wrap x := by rw [n64w, n8w]; omega
theorem n64_16 (x : Int) : IntKind.i64.wrap (IntKind.i16.wrap x) = IntKind.i16.wrap x := by rw [n64w, n16w]; omega
theorem n64_32 (x : Int) : IntKind.i64.wrap (IntKind.i32.wrap x) = IntKind.i32.wrap x := by rw [n64w, n32w]; omega
theorem n64_u16 (x : Int) : IntKind.i64.wrap (IntKind.u16.wrap x) = IntKind.u16.wrap x := by rw [n64w, wrap_u16]; omega
def numberI (k n : Int) : Int := if k = 0 then n % 2 else if k = 1 then IntKind.i8.wrap n else if k = 2 then IntKind.i16.wrap n else if k = 3 then IntKind.i32.wrap n else if k = 5 then IntKind.u16.wrap n else n
structure UsQ (U : List Fld → Tree → Prop) (k x1 x2 x3 x4 x5 x6 : Int) (sub : List Fld) (n : Int) (s : Bs) (b : Bool) (l : List Tree) (u : List (Int × Bs)) : Prop where
 text : k = 8 → b = decide (x3 ≥ 0) ∧ s = []
 uuid : k = 7 → s = List.replicate 16 0
 octs : k = 9 ∨ k = 11 → s = [] ∧ l = []
 part : k = 10 → (x3 ≥ 0 → b = true) ∧ (x3 < 0 → U sub (.mk n s b l u))
 num : k ≠ 7 → k ≠ 8 → k ≠ 9 → k ≠ 10 → k ≠ 11 → n = numberI k x5
def UsF (U : List Fld → Tree → Prop) : Fld → Tree → Prop
 | .mk k x1 x2 x3 x4 x5 x6 sub, .mk n s b l u => UsQ U k x1 x2 x3 x4 x5 x6 sub n s b l u
def UsP (U : List Fld → Tree → Prop) (l : List Fld) (g : Tree) : Prop := g.U = [] ∧ ∀ (i : Nat) (f : Fld), l[i]? = some f → UsF U f (g.at_ i)
def UsualP : Nat → List Fld → Tree → Prop
 | 0 => UsP fun _ _ => False
 | d + 1 => UsP (UsualP d)
structure ToQ (T : List Fld → Tree → Tree → Prop) (v : Int) (f : Fld) (k x3 : Int) (sub : List Fld) (t : Tree) (tn : Int) (ts : Bs) (n : Int) (s : Bs) (b : Bool) (g : Tree) : Prop where
 null : k = 8 ∨ k = 10 ∨ (x3 ≥ 0 ∧ v ≥ x3) → b = f.nul v t
 text : f.nul v t = false → k = 8 ∨ k = 9 → s = whole ts
 uuid : f.nul v t = false → k = 7 → s = uuidB ts
 part : f.nul v t = false → k = 10 → T sub t g
 num : f.nul v t = false → k ≠ 7 → k ≠ 8 → k ≠ 9 → k ≠ 10 → k ≠ 11 → n = numberI k tn
def ToF0 (T : List Fld → Tree → Tree → Prop) (v : Int) : Fld → Tree → Tree → Prop
 | .mk k x1 x2 x3 x4 x5 x6 sub, .mk tn ts tb tl tu, .mk n s b l u => ToQ T v (.mk k x1 x2 x3 x4 x5 x6 sub) k x3 sub (.mk tn ts tb tl tu) tn ts n s b (.mk n s b l u)
def ToF (T : List Fld → Tree → Tree → Prop) (v : Int) (f : Fld) (t g : Tree) : Prop :=
 ToF0 T v f t g ∧ (f.kind = 11 → f.nul v t = false → g.L.length = (things t.L).length ∧ ∀ (i : Nat) (x y : Tree), (things t.L)[i]? = some x → g.L[i]? = some y → ToF0 T v f.elem x y)
def Fld.pres (f : Fld) (v : Int) (flex : Bool) (x : Tree) : Bool := (decide (f.tag < 0) && f.has v) || (decide (f.tag ≥ 0) && (flex && !f.usual x))
def ToP (T : List Fld → Tree → Tree → Prop) (U : List Fld → Tree → Prop) (l : List Fld) (v : Int) (flex : Bool) (t g : Tree) : Prop :=
 g.L.length = l.length ∧ (∀ (i : Nat) (f : Fld) (y : Tree), l[i]? = some f → g.L[i]? = some y → (f.pres v flex (t.at_ i) = true → ToF T v f (t.at_ i) y) ∧ (f.pres v flex (t.at_ i) = false → UsF U f y)) ∧
  g.U = (if flex = true then wholeU (unknownT l t.U) else [])
def ToldP (v : Int) (flex : Bool) : Nat → List Fld → Tree → Tree → Prop
 | 0 => fun l t g => ToP (fun _ _ _ => False) (fun _ _ => False) l v flex t g
 | d + 1 => fun l t g => ToP (ToldP v flex d) (UsualP d) l v flex t g
theorem us_one {U : List Fld → Tree → Prop} {f : Fld} {y : Tree} (h : UsF U f y) : UsP U [f] (.mk 0 [] false [y] []) := by
 refine ⟨rfl, fun i g hg => ?_⟩
 cases i with
 | zero =>
  simp only [List.getElem?_cons_zero, Option.some.injEq] at hg
  subst hg
  exact h
 | succ i => simp at hg
theorem octs_zero {w : World} {e : Nat} {A : Option Addr} {c : Nat} {F : Nat → Nat → Prop} (h : w.ownsRow 0 e 1 (.slice A 16 c) 16 (List.replicate 16 (.int .u8 0))) (hF : ∀ g, A.map (·.block) = some g → ∀ o, F g o) : Octs w F A c (List.replicate 16 0) :=
 octs_own (s := List.replicate 16 0) h (by decide) hF
section
variable {U : List Fld → Tree → Prop} {k x1 x2 x3 x4 x5 x6 n : Int} {sub : List Fld} {s : Bs} {b : Bool} {l : List Tree} {u : List (Int × Bs)}
abbrev UsH (U : List Fld → Tree → Prop) (k x1 x2 x3 x4 x5 x6 : Int) (sub : List Fld) (n : Int) (s : Bs) (b : Bool) (l : List Tree) (u : List (Int × Bs)) : Prop := UsF U (.mk k x1 x2 x3 x4 x5 x6 sub) (.mk n s b l u)
theorem us_q (h : UsH U k x1 x2 x3 x4 x5 x6 sub n s b l u) : UsQ U k x1 x2 x3 x4 x5 x6 sub n s b l u := h
theorem us_8a (h : UsH U k x1 x2 x3 x4 x5 x6 sub n s b l u) (hk : k = 8) (hc : (b != decide (x3 ≥ 0)) = true) : False := by
 have := ((us_q h).text hk).1
 rw [this] at hc; simp at hc
theorem us_8b (h : UsH U k x1 x2 x3 x4 x5 x6 sub n s b l u) (hk : k = 8) (hc : ((s.length : Nat) : Int) > 0) : False := by
 have := ((us_q h).text hk).2
 rw [this] at hc; simp at hc
theorem us_7 (h : UsH U k x1 x2 x3 x4 x5 x6 sub n s b l u) (hk : k = 7) (hc : (!decide (s = (List.replicate 16 0 : Bs))) = true) : False := by
 have := (us_q h).uuid hk
 rw [this] at hc; simp at hc
theorem us_9a (h : UsH U k x1 x2 x3 x4 x5 x6 sub n s b l u) (hk : k = 9) (hc : ((s.length : Nat) : Int) > 0) : False := by
 have := ((us_q h).octs (.inl hk)).1
 rw [this] at hc; simp at hc
theorem us_9b (h : UsH U k x1 x2 x3 x4 x5 x6 sub n s b l u) (hk : k = 9) (hc : ((l.length : Nat) : Int) > 0) : False := by
 have := ((us_q h).octs (.inl hk)).2
 rw [this] at hc; simp at hc
theorem us_11a (h : UsH U k x1 x2 x3 x4 x5 x6 sub n s b l u) (hk : k = 11) (hc : ((s.length : Nat) : Int) > 0) : False := by
 have := ((us_q h).octs (.inr hk)).1
 rw [this] at hc; simp at hc
theorem us_11b (h : UsH U k x1 x2 x3 x4 x5 x6 sub n s b l u) (hk : k = 11) (hc : ((l.length : Nat) : Int) > 0) : False := by
 have := ((us_q h).octs (.inr hk)).2
 rw [this] at hc; simp at hc
theorem us_10 (h : UsH U k x1 x2 x3 x4 x5 x6 sub n s b l u) (hk : k = 10) (h3 : x3 ≥ 0) (hc : (!b) = true) : False := by
 have := ((us_q h).part hk).1 h3
 rw [this] at hc; simp at hc
theorem us_sub (h : UsH U k x1 x2 x3 x4 x5 x6 sub n s b l u) (hk : k = 10) (h3 : x3 < 0) : U sub (.mk n s b l u) := ((us_q h).part hk).2 h3
theorem us_n (h : UsH U k x1 x2 x3 x4 x5 x6 sub n s b l u) (h7 : k ≠ 7) (h8 : k ≠ 8) (h9 : k ≠ 9) (h10 : k ≠ 10) (h11 : k ≠ 11) (hc : n ≠ numberI k x5) : False := hc ((us_q h).num h7 h8 h9 h10 h11)
theorem us_u {g : Tree} (h : g.U = []) {u : List (Int × Bs)} (e : g.U = u) (hc : ((u.length : Nat) : Int) > 0) : False := by
 rw [← e, h] at hc; simp at hc
end
section
variable {T : List Fld → Tree → Tree → Prop} {v k x1 x2 x3 x4 x5 x6 tn n : Int} {sub : List Fld} {ts s : Bs} {tb b : Bool} {tl l : List Tree} {tu u : List (Int × Bs)}
abbrev ToH (T : List Fld → Tree → Tree → Prop) (v k x1 x2 x3 x4 x5 x6 : Int) (sub : List Fld) (tn : Int) (ts : Bs) (tb : Bool) (tl : List Tree) (tu : List (Int × Bs)) (n : Int) (s : Bs) (b : Bool) (l : List Tree) (u : List (Int × Bs)) : Prop := ToF0 T v (.mk k x1 x2 x3 x4 x5 x6 sub) (.mk tn ts tb tl tu) (.mk n s b l u)
abbrev NulH (v k x1 x2 x3 x4 x5 x6 : Int) (sub : List Fld) (tn : Int) (ts : Bs) (tb : Bool) (tl : List Tree) (tu : List (Int × Bs)) : Bool := Fld.nul (.mk k x1 x2 x3 x4 x5 x6 sub) v (.mk tn ts tb tl tu)
theorem to_q (h : ToH T v k x1 x2 x3 x4 x5 x6 sub tn ts tb tl tu n s b l u) : ToQ T v (.mk k x1 x2 x3 x4 x5 x6 sub) k x3 sub (.mk tn ts tb tl tu) tn ts n s b (.mk n s b l u) := h
theorem to_n8 (h : ToH T v k x1 x2 x3 x4 x5 x6 sub tn ts tb tl tu n s b l u) (hk : k = 8) (hc : (b != NulH v k x1 x2 x3 x4 x5 x6 sub tn ts tb tl tu) = true) : False := by
 rw [(to_q h).null (.inl hk)] at hc; simp at hc
theorem to_n10 (h : ToH T v k x1 x2 x3 x4 x5 x6 sub tn ts tb tl tu n s b l u) (hk : k = 10) (hc : (b != NulH v k x1 x2 x3 x4 x5 x6 sub tn ts tb tl tu) = true) : False := by
 rw [(to_q h).null (.inr (.inl hk))] at hc; simp at hc
theorem to_nm (h : ToH T v k x1 x2 x3 x4 x5 x6 sub tn ts tb tl tu n s b l u) (h1 : x3 ≥ 0) (h2 : v ≥ x3) (hc : (b != NulH v k x1 x2 x3 x4 x5 x6 sub tn ts tb tl tu) = true) : False := by
 rw [(to_q h).null (.inr (.inr ⟨h1, h2⟩))] at hc; simp at hc
theorem to_part (h : ToH T v k x1 x2 x3 x4 x5 x6 sub tn ts tb tl tu n s b l u) (hn : NulH v k x1 x2 x3 x4 x5 x6 sub tn ts tb tl tu = false) (hk : k = 10) : T sub (.mk tn ts tb tl tu) (.mk n s b l u) := (to_q h).part hn hk
theorem to_t8 (h : ToH T v k x1 x2 x3 x4 x5 x6 sub tn ts tb tl tu n s b l u) (hn : NulH v k x1 x2 x3 x4 x5 x6 sub tn ts tb tl tu = false) (hk : k = 8) : decide (s = whole ts) = true := decide_eq_true ((to_q h).text hn (.inl hk))
theorem to_t9 (h : ToH T v k x1 x2 x3 x4 x5 x6 sub tn ts tb tl tu n s b l u) (hn : NulH v k x1 x2 x3 x4 x5 x6 sub tn ts tb tl tu = false) (hk : k = 9) : decide (s = whole ts) = true := decide_eq_true ((to_q h).text hn (.inr hk))
theorem to_u (h : ToH T v k x1 x2 x3 x4 x5 x6 sub tn ts tb tl tu n s b l u) (hn : NulH v k x1 x2 x3 x4 x5 x6 sub tn ts tb tl tu = false) (hk : k = 7) : decide (s = uuidB ts) = true := decide_eq_true ((to_q h).uuid hn hk)
theorem to_m (h : ToH T v k x1 x2 x3 x4 x5 x6 sub tn ts tb tl tu n s b l u) (hn : NulH v k x1 x2 x3 x4 x5 x6 sub tn ts tb tl tu = false) (h8 : k ≠ 8) (h9 : k ≠ 9) (h7 : k ≠ 7) (h10 : k ≠ 10) (h11 : k ≠ 11) : (n == numberI k tn) = true := by
 rw [(to_q h).num hn h7 h8 h9 h10 h11]; simp
theorem to_len {a c : Nat} (h : a = c) (hc : ((a : Nat) : Int) ≠ ((c : Nat) : Int)) : False := hc (by rw [h])
end
theorem anyC_two {P : Program} {ops : Array Oper} {Q : Exit → Act → World → Prop} {a : Act} {w : World} {T : World → Prop} {c i j fuel : Nat} {listed : Array Bool} (hr : Region.ready .any ops listed = [i, j]) (h : wpOp P ops Q i (fun a' w' => (i ≠ c → T w') ∧ wpAnyC P ops Q T c fuel (listed.setIfInBounds i true) a' w') a w)
  (h' : wpOp P ops Q j (fun a' w' => (j ≠ c → T w') ∧ wpAnyC P ops Q T c fuel (listed.setIfInBounds j true) a' w') a w) : wpAnyC P ops Q T c (fuel + 1) listed a w := by
 refine ⟨fun h0 => (by rw [hr] at h0; cases h0), fun q hq => ?_⟩
 rw [hr] at hq
 simp only [List.mem_cons, List.not_mem_nil, or_false] at hq
 rcases hq with rfl | rfl
 ·exact h
 ·exact h'
theorem pres_a {k x1 x2 x3 x4 x5 x6 v : Int} {sub : List Fld} {flex : Bool} {x : Tree} (h : x4 < 0) (h2 : Fld.has (.mk k x1 x2 x3 x4 x5 x6 sub) v = true) : Fld.pres (.mk k x1 x2 x3 x4 x5 x6 sub) v flex x = true := by
 simp [Fld.pres, Fld.tag, h, h2]
theorem pres_b {k x1 x2 x3 x4 x5 x6 v : Int} {sub : List Fld} {flex : Bool} {x : Tree} (h : x4 ≥ 0) (h2 : flex = true) (h3 : (!Fld.usual (.mk k x1 x2 x3 x4 x5 x6 sub) x) = true) : Fld.pres (.mk k x1 x2 x3 x4 x5 x6 sub) v flex x = true := by
 subst h2
 simp only [Bool.not_eq_true'] at h3
 simp [Fld.pres, Fld.tag, h, h3]
theorem pres_c {k x1 x2 x3 x4 x5 x6 v : Int} {sub : List Fld} {flex : Bool} {x : Tree} (h : x4 < 0) (h2 : Fld.has (.mk k x1 x2 x3 x4 x5 x6 sub) v = false) : Fld.pres (.mk k x1 x2 x3 x4 x5 x6 sub) v flex x = false := by
 have : ¬ x4 ≥ 0 := by omega
 simp [Fld.pres, Fld.tag, h2, this]
theorem pres_d {k x1 x2 x3 x4 x5 x6 v : Int} {sub : List Fld} {flex : Bool} {x : Tree} (h : ¬ x4 < 0) (h2 : flex = false) : Fld.pres (.mk k x1 x2 x3 x4 x5 x6 sub) v flex x = false := by
 subst h2
 simp [Fld.pres, Fld.tag, h]
theorem pres_e {k x1 x2 x3 x4 x5 x6 v : Int} {sub : List Fld} {flex : Bool} {x : Tree} (h : ¬ x4 < 0) (h3 : (!Fld.usual (.mk k x1 x2 x3 x4 x5 x6 sub) x) = false) : Fld.pres (.mk k x1 x2 x3 x4 x5 x6 sub) v flex x = false := by
 simp only [Bool.not_eq_false'] at h3
 simp [Fld.pres, Fld.tag, h, h3]
theorem pres_f {k x1 x2 x3 x4 x5 x6 v : Int} {sub : List Fld} {flex : Bool} {x : Tree} (h : ¬ x4 < 0) (h2 : flex = true) : Fld.pres (.mk k x1 x2 x3 x4 x5 x6 sub) v flex x = !Fld.usual (.mk k x1 x2 x3 x4 x5 x6 sub) x := by
 subst h2
 have : x4 ≥ 0 := by omega
 simp [Fld.pres, Fld.tag, h, this]
theorem pres_g {k x1 x2 x3 x4 x5 x6 v : Int} {sub : List Fld} {flex : Bool} {x : Tree} (h : x4 < 0) : Fld.pres (.mk k x1 x2 x3 x4 x5 x6 sub) v flex x = Fld.has (.mk k x1 x2 x3 x4 x5 x6 sub) v := by
 have : ¬ x4 ≥ 0 := by omega
 simp [Fld.pres, Fld.tag, h, this]
section
variable {w : World} {F : Nat → Nat → Prop}
theorem at_own {e size b c : Nat} {xs : List Value} {n : Nat} (h : w.ownsRow 0 e size (.slice (some ⟨b, 0, none⟩) n c) n xs) : AtF w (fun _ _ => True) b 0 xs := fun j v hj => ⟨trivial, by
 have := h.cells (g := b) rfl j v hj
 rw [add_none] at this
 exact this⟩
theorem flds_one {e b c : Nat} {cf : List Value} {f : Fld} (h : w.ownsRow 0 e 8 (.slice (some ⟨b, 0, none⟩) 1 c) 1 cf) (hf : FldR w F cf f) (hc : 1 ≤ c) : FldsR w (fun _ _ => True) (some ⟨b, 0, none⟩) c [f] := by
 refine ⟨fun _ => cf, ⟨hc, (by show 1 ≤ 1099511627776; decide), fun h => (by cases h), fun ad hA _ => ?_⟩, fun i x hx => ?_⟩
 ·obtain rfl := Option.some.inj hA
  refine ⟨b, 0, rfl, fun i hi => ⟨hf.eight, ?_⟩⟩
  have : i = 0 := by simp at hi; omega
  subst this
  simpa using at_own h
 ·cases i with
  | zero =>
   simp only [List.getElem?_cons_zero, Option.some.injEq] at hx
   subst hx
   exact hf.move (Step.refl _ Nil) nilM fun _ _ _ _ => trivial
  | succ i => simp at hx
theorem tree_one {e b c : Nat} {cy : List Value} {y : Tree} (h : w.ownsRow 0 e 5 (.slice (some ⟨b, 0, none⟩) 1 c) 1 cy) (hy : TreeR w F cy y) (hc : 1 ≤ c) : TreeR w (fun _ _ => True) [.int .i64 0, .slice none 0 0, .bool false, .slice (some ⟨b, 0, none⟩) 1 c, .slice none 0 0] (.mk 0 [] false [y] []) := by
 refine TreeR.mk (l := [y]) (s := []) (u := []) (fun _ => cy) (Octs.nil _ _) ⟨hc, (by show 1 ≤ 1099511627776; decide), fun h => (by cases h), fun ad hA _ => ?_⟩ (fun i x hx => ?_) (TagsR.nil _ _)
 ·obtain rfl := Option.some.inj hA
  refine ⟨b, 0, rfl, fun i hi => ⟨hy.five, ?_⟩⟩
  have : i = 0 := by simp at hi; omega
  subst this
  simpa using at_own h
 ·cases i with
  | zero =>
   simp only [List.getElem?_cons_zero, Option.some.injEq] at hx
   subst hx
   exact hy.move (Step.refl _ Nil) nilM fun _ _ _ _ => trivial
  | succ i => simp at hx
end
section
variable {gu tu : List (Int × Bs)} {l : List Fld} {flex : Bool} {i : Nat} {k k' : Int} {s s' : Bs}
theorem told_len (h : gu = if flex = true then wholeU (unknownT l tu) else []) (hf : (!flex) = false) (hc : ((gu.length : Nat) : Int) ≠ (((unknownT l tu).length : Nat) : Int)) : False := by
 cases flex
 ·cases hf
 ·rw [if_pos rfl] at h
  rw [h, wholeU_len] at hc
  exact hc rfl
theorem told_len0 (h : gu = if flex = true then wholeU (unknownT l tu) else []) (hf : (!flex) = true) (hc : ((gu.length : Nat) : Int) ≠ 0) : False := by
 cases flex
 ·rw [if_neg (by decide)] at h
  rw [h] at hc
  exact hc rfl
 ·cases hf
theorem told_at (h : gu = if flex = true then wholeU (unknownT l tu) else []) (hf : (!flex) = false) (hu : (unknownT l tu)[i]? = some (k, s)) (hg : gu[i]? = some (k', s')) : k' = k ∧ s' = whole s := by
 cases flex
 ·cases hf
 ·rw [if_pos rfl] at h
  rw [h, wholeU_get hu] at hg
  have := Option.some.inj hg
  exact ⟨(Prod.mk.injEq .. ▸ this).1.symm, (Prod.mk.injEq .. ▸ this).2.symm⟩
theorem told_key (h : gu = if flex = true then wholeU (unknownT l tu) else []) (hf : (!flex) = false) (hu : (unknownT l tu)[i]? = some (k, s)) (hg : gu[i]? = some (k', s')) (hc : k' ≠ k) : False := hc (told_at h hf hu hg).1
theorem told_val (h : gu = if flex = true then wholeU (unknownT l tu) else []) (hf : (!flex) = false) (hu : (unknownT l tu)[i]? = some (k, s)) (hg : gu[i]? = some (k', s')) (hc : (!decide (s' = whole s)) = true) : False := by
 rw [(told_at h hf hu hg).2] at hc; simp at hc
theorem told_idx (h : gu = if flex = true then wholeU (unknownT l tu) else []) (hf : (!flex) = false) : gu.length = (unknownT l tu).length := by
 cases flex
 ·cases hf
 ·rw [if_pos rfl] at h
  rw [h, wholeU_len]
end
end Go.Proofs.YtgolpmkenmedoaaGreatDoor.ME
namespace Go.Proofs.YtgolpmkenmedoaaGreatDoor.ME
open Go
set_option linter.unusedVariables false
set_option linter.unusedSimpArgs false
theorem pres_has {k x1 x2 x3 x5 x6 v : Int} {s : List Fld} {flex : Bool} {x : Tree} : Fld.pres (.mk k x1 x2 x3 (-1) x5 x6 s) v flex x = (decide (x1 ≤ v) && (decide (x2 < 0) || decide (v ≤ x2))) := by simp [Fld.pres, Fld.tag, Fld.has]
section
variable {T : List Fld → Tree → Tree → Prop} {U : List Fld → Tree → Prop} {v k x1 x2 x3 x4 x5 x6 n : Int} {sub : List Fld} {x T' : Tree} {A : Option Addr} {s : ByteArray} {o : Bs} {b : Bool}
theorem to0_num (hn : n = numberI k x.N) (hk : k < 7 := by decide) : ToF0 T v (.mk k x1 x2 (-1) x4 x5 x6 sub) x (.mk n [] false [] []) := by
 cases x
 exact ⟨fun h => by omega, fun _ h => by omega, fun _ h => by omega, fun _ h => by omega, fun _ _ _ _ _ _ => hn⟩
theorem to_num (hn : n = numberI k x.N) (hk : k < 7 := by decide) : ToF T v (.mk k x1 x2 (-1) x4 x5 x6 sub) x (.mk n [] false [] []) := ⟨to0_num hn hk, fun h => absurd (show k = 11 from h) (by omega)⟩
theorem to0_text (hs : o = whole x.S) : ToF0 T v (.mk 8 x1 x2 (-1) x4 x5 x6 sub) x (.mk 0 o false [] []) := by
 cases x with
 | mk a1 a2 a3 a4 a5 =>
  exact ⟨fun _ => nul_no.symm, fun _ _ => hs, fun _ h => by omega, fun _ h => by omega, fun _ _ h => absurd rfl h⟩
theorem to_textN (h : s = bs (octOf T') ∧ A.isNone = T'.null) (h1 : octOf T' = (if Fld.nul (.mk 8 x1 x2 x3 x4 x5 x6 sub) v x = true then [] else whole x.S) ∧ T'.null = Fld.nul (.mk 8 x1 x2 x3 x4 x5 x6 sub) v x) : ToF T v (.mk 8 x1 x2 x3 x4 x5 x6 sub) x (textT A s) := by
 refine ⟨?_, fun h => absurd (show (8 : Int) = 11 from h) (by decide)⟩
 have e : textT A s = .mk 0 (if Fld.nul (.mk 8 x1 x2 x3 x4 x5 x6 sub) v x = true then [] else whole x.S) (Fld.nul (.mk 8 x1 x2 x3 x4 x5 x6 sub) v x) [] [] := by
  unfold textT
  rw [h.2, h1.2, h.1, sb_bs, h1.1]
  split <;> rfl
 rw [e]
 cases x with
 | mk a1 a2 a3 a4 a5 =>
  exact ⟨fun _ => rfl, fun hn _ => by rw [if_neg (by rw [hn]; decide)]; rfl, fun _ h => by omega, fun _ h => by omega, fun _ _ h => absurd rfl h⟩
theorem us_num' (hn : n = numberI k x5) (hk : k < 7 := by decide) : UsF U (.mk k x1 x2 x3 x4 x5 x6 sub) (.mk n [] false [] []) := ⟨fun h => by omega, fun h => by omega, fun h => by omega, fun h => by omega, fun _ _ _ _ _ => hn⟩
end
end Go.Proofs.YtgolpmkenmedoaaGreatDoor.ME
namespace Go.Proofs.YtgolpmkenmedoaaGreatDoor.ME
open Go
open Go.RowKit
set_option linter.unusedVariables false
set_option linter.unusedSimpArgs false
set_option maxRecDepth 20000
theorem toldDescribeACLsRequest (v : Int) (h0 : 0 ≤ v) (t Y : Tree) (hY : ∀ i, Y.at_ i = (fitT v 8 sDescribeACLsRequestF t).at_ i) (hU : Y.U = (fitT v 8 sDescribeACLsRequestF t).U) (hi : t.i64s) (D : DV) (h : rvDescribeACLsRequest v D Y) : ToldP v (decide (v ≥ sDescribeACLsRequestX)) 8 sDescribeACLsRequestF t (trDescribeACLsRequest D) := by
 unfold rvDescribeACLsRequest at h
 obtain ⟨r0, r1, r2, r3, r4, r5, r6, rU, _⟩ := h
 refine ⟨rfl, fun i f y hf hy => ?_, ?_⟩
 ·match i, hf, hy with
  | 0, hf, hy =>
   obtain rfl := Option.some.inj hf
   obtain rfl := Option.some.inj hy
   have e := hY 0
   refine ⟨fun hp => ?_, fun hp => ?_⟩
   ·have hc : True := trivial
    have r := r0
    rw [e] at r
    rw [(fit_N (v := v) (d := 7) (t := t) (show sDescribeACLsRequestF[0]? = _ from rfl) (by decide))] at r
    exact to_num (by rw [r, n64_8]; rfl)
   ·rw [pres_has] at hp; simp at hp; omega
  | 1, hf, hy =>
   obtain rfl := Option.some.inj hf
   obtain rfl := Option.some.inj hy
   have e := hY 1
   refine ⟨fun hp => ?_, fun hp => ?_⟩
   ·have hc : True := trivial
    have r := r1
    rw [e] at r
    exact to_textN r (fit_o (v := v) (d := 7) (t := t) (show sDescribeACLsRequestF[1]? = _ from rfl) (by decide))
   ·rw [pres_has] at hp; simp at hp; omega
  | 2, hf, hy =>
   obtain rfl := Option.some.inj hf
   obtain rfl := Option.some.inj hy
   have e := hY 2
   refine ⟨fun hp => ?_, fun hp => ?_⟩
   ·have hc : (decide (v ≥ 1)) = true := by rw [pres_has] at hp; simp at hp ⊢; try omega
    have r := (r2.1 hc)
    rw [e] at r
    rw [(fit_N (v := v) (d := 7) (t := t) (show sDescribeACLsRequestF[2]? = _ from rfl) (by decide))] at r
    exact to_num (by rw [r, n64_8]; rfl)
   ·have hc : (decide (v ≥ 1)) = false := by rw [pres_has] at hp; simp at hp ⊢; try omega
    have r := (r2.2 hc)
    exact us_num' (by rw [r]; first | rfl | decide)
  | 3, hf, hy =>
   obtain rfl := Option.some.inj hf
   obtain rfl := Option.some.inj hy
   have e := hY 3
   refine ⟨fun hp => ?_, fun hp => ?_⟩
   ·have hc : True := trivial
    have r := r3
    rw [e] at r
    exact to_textN r (fit_o (v := v) (d := 7) (t := t) (show sDescribeACLsRequestF[3]? = _ from rfl) (by decide))
   ·rw [pres_has] at hp; simp at hp; omega
  | 4, hf, hy =>
   obtain rfl := Option.some.inj hf
   obtain rfl := Option.some.inj hy
   have e := hY 4
   refine ⟨fun hp => ?_, fun hp => ?_⟩
   ·have hc : True := trivial
    have r := r4
    rw [e] at r
    exact to_textN r (fit_o (v := v) (d := 7) (t := t) (show sDescribeACLsRequestF[4]? = _ from rfl) (by decide))
   ·rw [pres_has] at hp; simp at hp; omega
  | 5, hf, hy =>
   obtain rfl := Option.some.inj hf
   obtain rfl := Option.some.inj hy
   have e := hY 5
   refine ⟨fun hp => ?_, fun hp => ?_⟩
   ·have hc : True := trivial
    have r := r5
    rw [e] at r
    rw [(fit_N (v := v) (d := 7) (t := t) (show sDescribeACLsRequestF[5]? = _ from rfl) (by decide))] at r
    exact to_num (by rw [r, n64_8]; rfl)
   ·rw [pres_has] at hp; simp at hp; omega
  | 6, hf, hy =>
   obtain rfl := Option.some.inj hf
   obtain rfl := Option.some.inj hy
   have e := hY 6
   refine ⟨fun hp => ?_, fun hp => ?_⟩
   ·have hc : True := trivial
    have r := r6
    rw [e] at r
    rw [(fit_N (v := v) (d := 7) (t := t) (show sDescribeACLsRequestF[6]? = _ from rfl) (by decide))] at r
    exact to_num (by rw [r, n64_8]; rfl)
   ·rw [pres_has] at hp; simp at hp; omega
  | n_ + 7, hf, hy => exact absurd (List.getElem?_eq_some_iff.1 hf).1 (by show ¬ n_ + 7 < 7; omega)
 ·show D.u = if (decide (v ≥ sDescribeACLsRequestX)) = true then wholeU (unknownT sDescribeACLsRequestF t.U) else []
  by_cases hc : (decide (v ≥ 2)) = true
  ·rw [if_pos (show (decide (v ≥ sDescribeACLsRequestX)) = true from hc), rU.1 hc, hU, fit_U]
  ·rw [if_neg (show ¬ (decide (v ≥ sDescribeACLsRequestX)) = true from hc), rU.2 (by simpa using hc)]
set_option maxHeartbeats 4000000 in
theorem tzDescribeACLsRequest (v : Int) (T : Tree) {A2 : Option Addr} {c2 : Nat} {w : World} {F : Nat → Nat → Prop} (hs_ : Octs w F A2 c2 (tDescribeACLsRequest (IntKind.i16.wrap v) T)) (hc : canDescribeACLsRequest T) (hkey : T.ranged) (hroom : (tDescribeACLsRequest (IntKind.i16.wrap v) T).length + 16 ≤ 1099511627776) :
  Calls Tryz.prog 27 #[.int .i64 v, .slice A2 (tDescribeACLsRequest (IntKind.i16.wrap v) T).length c2] w (fun e w' => ∃ D cs, e = .returned (.tuple #[.agg cs.toArray, .bool true]) ∧ TreeR w' (Fp NoF w) cs (trDescribeACLsRequest D) ∧ rvDescribeACLsRequest (IntKind.i16.wrap v) D T ∧ Step w w' Nil) := by
 refine enter (n := 20) Tryz.func27 rfl Tryz.ntmps27 kz fun a hE => ?_
 have hW := WOk.start w Nil
 have hsm2 := Slots.small hs_
 refine go_seq_region [0, 1] kz ?_
 refine of_op (wpOp_alloc hW hE (d := 4) (cs := [.int .i64 0, .slice none 0 0, .bool false, .slice none 0 0, .slice none 0 0]) kz fun b1 a2 w3 hb4 hz5 hF6 hW7 hE8 => ?_)
 clear hE hW
 refine go_rn [1] [] [(0, .v (.int .i64 v)), (1, .v (.slice A2 ((tDescribeACLsRequest (IntKind.i16.wrap v) T).length) c2)), (4, .p 0 0)] hW7 hE8 fun a9 bA => ?_
 clear hE8
 refine wpOps_nil (then_normal ?_)
 refine go_seq_region [0, 1] kz ?_
 refine of_op (wpOp_inline bA (f := 71) (vs := []) (d := 7) (n' := 3) kz Tryz.call71 Tryz.func71 rfl Tryz.ntmps71 kz fun cO aQ => ?_)
 refine go_sp [] hW7 aQ fun cP aR => ?_
 clear aQ
 refine go_seq_region [0] kz ?_
 refine of_op (wpOp_alloc hW7 aR (d := 1) (cs := [.int .i16 0, .int .i8 0, .pointer none, .int .i8 0, .pointer none, .pointer none, .int .i8 0, .int .i8 0, .map none]) kz fun ab cQ cR cr cu cw aD bB => ?_)
 clear aR hW7
 refine wpOps_nil (then_normal ?_)
 refine go_seq_region [0] kz ?_
 refine of_op (wpOp_inline bB (f := 137) (vs := [.pointer (some ⟨ab, 0, none⟩)]) (d := 2) (n' := 5) kz Tryz.call137 Tryz.func137 rfl Tryz.ntmps137 kz fun cS bC => ?_)
 have aS := bC.recast 0 (.v (.pointer (some ⟨ab, 0, none⟩))) (.p 1 0) rfl rfl (Nat.le_of_ble_eq_true (n := 2) rfl)
 refine go_region [0, 1, 2, 3] kz ?_
 refine go_rn [0, 1, 2] [3] [(4, .p 1 3)] aD aS fun cT aT => ?_
 clear aS
 refine of_op (wpOp_store aD aT (oi := 1) (cs := [.int .i16 0, .int .i8 0, .pointer none, .int .i8 3, .pointer none, .pointer none, .int .i8 0, .int .i8 0, .map none]) kz fun cU cz ac bD => ?_)
 clear aT aD
 refine wpOps_nil ?_
 refine leave_end bD ac.cells (v := .tuple #[]) kz ?_
 refine ⟨_, rfl, fun cV bE => ?_⟩
 have aU : EnvOk 3 [⟨b1, 0, [.int .i64 0, .slice none 0 0, .bool false, .slice none 0 0, .slice none 0 0], true⟩, ⟨ab, 0, [.int .i16 0, .int .i8 0, .pointer none, .int .i8 3, .pointer none, .pointer none, .int .i8 0, .int .i8 0, .map none], true⟩] [(2, .v (.tuple #[])), (1, .p 1 0)] _ := bE.places (⟨rfl, rfl, ⟨rfl, rfl, trivial⟩⟩)
 refine wpOps_nil (then_normal ?_)
 refine go_sp [(0, .p 1 0)] ac aU fun cW bF => ?_
 clear aU
 refine wp_ret ?_
 refine leave bF ac.cells (v := .pointer (some ⟨ab, 0, none⟩)) kz ?_
 refine ⟨_, rfl, fun cX bG => ?_⟩
 have aV : EnvOk 20 [⟨b1, 0, [.int .i64 0, .slice none 0 0, .bool false, .slice none 0 0, .slice none 0 0], true⟩, ⟨ab, 0, [.int .i16 0, .int .i8 0, .pointer none, .int .i8 3, .pointer none, .pointer none, .int .i8 0, .int .i8 0, .map none], true⟩] [(7, .v (.pointer (some ⟨ab, 0, none⟩))), (0, .v (.int .i64 v)), (1, .v (.slice A2 ((tDescribeACLsRequest (IntKind.i16.wrap v) T).length) c2)), (4, .p 0 0)] _ := bG.places (⟨rfl, rfl, trivial⟩)
 have aW := aV.recast 7 (.v (.pointer (some ⟨ab, 0, none⟩))) (.p 1 0) rfl rfl (Nat.le_of_ble_eq_true (n := 2) rfl)
 have aX := aW.pick (ks := [0, 1, 4, 7]) (env' := [(0, .v (.int .i64 v)), (1, .v (.slice A2 ((tDescribeACLsRequest (IntKind.i16.wrap v) T).length) c2)), (4, .p 0 0), (7, .p 1 0)]) kz
 clear aV
 clear aW
 refine go_rn [1] [] [(0, .v (.int .i64 v)), (1, .v (.slice A2 ((tDescribeACLsRequest (IntKind.i16.wrap v) T).length) c2)), (4, .p 0 0), (6, .p 1 0)] ac aX fun cY aY => ?_
 clear aX
 refine wpOps_nil (then_normal ?_)
 refine go_seq_region [0, 1, 2, 3] kz ?_
 refine go_rn [0, 1, 2] [3] [(1, .v (.slice A2 ((tDescribeACLsRequest (IntKind.i16.wrap v) T).length) c2)), (4, .p 0 0), (6, .p 1 0), (8, .p 1 0), (10, .v (.int .i16 (IntKind.i16.wrap v)))] ac aY fun cZ bH => ?_
 clear aY
 refine of_op (wpOp_inline bH (f := 73) (vs := [.pointer (some ⟨ab, 0, none⟩), .int .i16 (IntKind.i16.wrap v)]) (d := 11) (n' := 8) kz Tryz.call73 Tryz.func73 rfl Tryz.ntmps73 kz fun c5 bI => ?_)
 have aZ := bI.recast 0 (.v (.pointer (some ⟨ab, 0, none⟩))) (.p 1 0) rfl rfl (Nat.le_of_ble_eq_true (n := 2) rfl)
 refine go_region [0, 1, 2, 3, 4] kz ?_
 refine go_rn [0, 1, 2, 3] [4] [(5, .v (.int .i16 (IntKind.i16.wrap v))), (7, .p 1 0)] ac aZ fun c6 ba => ?_
 clear aZ
 refine of_op (wpOp_store ac ba (oi := 1) (cs := [.int .i16 (IntKind.i16.wrap v), .int .i8 0, .pointer none, .int .i8 3, .pointer none, .pointer none, .int .i8 0, .int .i8 0, .map none]) kz fun da cA ai bJ => ?_)
 clear ba ac
 refine wpOps_nil ?_
 refine leave_end bJ ai.cells (v := .tuple #[]) kz ?_
 refine ⟨_, rfl, fun db bK => ?_⟩
 have bd : EnvOk 20 [⟨b1, 0, [.int .i64 0, .slice none 0 0, .bool false, .slice none 0 0, .slice none 0 0], true⟩, ⟨ab, 0, [.int .i16 (IntKind.i16.wrap v), .int .i8 0, .pointer none, .int .i8 3, .pointer none, .pointer none, .int .i8 0, .int .i8 0, .map none], true⟩] [(11, .v (.tuple #[])), (1, .v (.slice A2 ((tDescribeACLsRequest (IntKind.i16.wrap v) T).length) c2)), (4, .p 0 0), (6, .p 1 0), (8, .p 1 0), (10, .v (.int .i16 (IntKind.i16.wrap v)))] _ := bK.places (⟨rfl, rfl, ⟨rfl, rfl, trivial⟩⟩)
 refine wpOps_nil (then_normal ?_)
 refine wp_seq ?_
 refine go_seq_region [0, 1, 2, 3, 4] kz ?_
 refine go_rn [0, 1] [2, 3, 4] [(4, .p 0 0), (6, .p 1 0), (12, .p 1 0), (13, .v (.slice A2 ((tDescribeACLsRequest (IntKind.i16.wrap v) T).length) c2))] ai bd fun dc bf => ?_
 clear bd
 have ae := ai.addNil 5 1
 have cB := ai.frNil 5 1
 clear ai
 refine of_op (wpOp_append ae bf (k := 0) (d := 14) (t := 22) (e := 5) (size := 1) (bytes := 1) (A := none) (As := A2) (m0 := 0) (c := 0) (m := ((tDescribeACLsRequest (IntKind.i16.wrap v) T).length)) (cs := c2) (xs := []) (news := bc (tDescribeACLsRequest (IntKind.i16.wrap v) T)) kz kz rfl (hs_.move ae.step nilM ae.imm).src (hs_.move ae.step nilM ae.imm).cap (by first | omega | (simp only [List.length_nil]; omega) | (simp; omega)) fun ag ah de df cC bg bh => ?_)
 clear bf ae
 have bL : (⟨ag, ah, 5, 1, 0 + (tDescribeACLsRequest (IntKind.i16.wrap v) T).length, [] ++ bc (tDescribeACLsRequest (IntKind.i16.wrap v) T)⟩ : Rw) = brow ag ah 5 (tDescribeACLsRequest (IntKind.i16.wrap v) T) := by rw [List.nil_append, Nat.zero_add]
 obtain ⟨ar, cD⟩ := bg.rowEq 0 [brow ag ah 5 (tDescribeACLsRequest (IntKind.i16.wrap v) T)] bL
 clear bg
 have bi := EnvOk.pick bh (ks := [4, 6, 12, 13, 14]) (env' := [(4, .p 0 0), (6, .p 1 0), (12, .p 1 0), (13, .v (.slice A2 ((tDescribeACLsRequest (IntKind.i16.wrap v) T).length) c2)), (14, .v (.slice ag (0 + (tDescribeACLsRequest (IntKind.i16.wrap v) T).length) ah))]) kz
 have bM := bi.cast (env' := [(4, .p 0 0), (6, .p 1 0), (12, .p 1 0), (13, .v (.slice A2 ((tDescribeACLsRequest (IntKind.i16.wrap v) T).length) c2)), (14, .v (.slice ag ((tDescribeACLsRequest (IntKind.i16.wrap v) T).length) ah))]) (by simp only [List.length_append, List.length_cons, List.length_nil, Nat.zero_add])
 clear bh
 clear bi
 refine of_op (wpOp_inline bM (f := 74) (vs := [.pointer (some ⟨ab, 0, none⟩), .slice ag ((tDescribeACLsRequest (IntKind.i16.wrap v) T).length) ah]) (d := 15) (n' := 8) kz Tryz.call74 Tryz.func74 rfl Tryz.ntmps74 kz fun dg bN => ?_)
 have bj := bN.recast 0 (.v (.pointer (some ⟨ab, 0, none⟩))) (.p 1 0) rfl rfl (Nat.le_of_ble_eq_true (n := 2) rfl)
 refine go_sp [(0, .p 1 0), (1, .v (.slice ag ((tDescribeACLsRequest (IntKind.i16.wrap v) T).length) ah))] ar bj fun dh bk => ?_
 clear bj
 refine go_seq_region [0, 1, 2, 3] kz ?_
 refine go_rn [0, 1] [2, 3] [(5, .p 1 0), (6, .v (.slice ag ((tDescribeACLsRequest (IntKind.i16.wrap v) T).length) ah))] ar bk fun di bn => ?_
 clear bk
 have bO := ar.giveUp (G := NoF) 0 [] (show _ = some (brow ag ah 5 (tDescribeACLsRequest (IntKind.i16.wrap v) T)) from rfl) (by omega)
 obtain ⟨bo, cE⟩ := ar.cutR 0 []
 refine of_op (wpOp_call bn (f := 138) (vs := [.pointer (some ⟨ab, 0, none⟩), .slice ag ((tDescribeACLsRequest (IntKind.i16.wrap v) T).length) ah, .bool false]) (d := 7) kz Tryz.call138 (rdDescribeACLsRequest (IntKind.i16.wrap v) T (Str.of bo 1 rfl) bO (imm_n 1 rfl) hc hkey) ?_)
 rintro e_ dj ⟨aa, rfl, bP, bQ, bR, bp⟩
 obtain ⟨af, cG, bS⟩ := bo.wrote 1 [⟨b1, 0, [.int .i64 0, .slice none 0 0, .bool false, .slice none 0 0, .slice none 0 0], true⟩, ⟨ab, 0, [.int .i16 (IntKind.i16.wrap v), .int .i8 ((aa.f 0).n), .pointer ((aa.f 1).A), .int .i8 ((aa.f 2).n), .pointer ((aa.f 3).A), .pointer ((aa.f 4).A), .int .i8 ((aa.f 5).n), .int .i8 ((aa.f 6).n), .map aa.m], true⟩] rfl bp bP
 have bT := mvDescribeACLsRequest _ (Step.refl _ Nil) nilM bS bQ
 refine ⟨_, rfl, fun dl bU => ?_⟩
 have bq := (EnvOk.places (tb' := [⟨b1, 0, [.int .i64 0, .slice none 0 0, .bool false, .slice none 0 0, .slice none 0 0], true⟩, ⟨ab, 0, [.int .i16 (IntKind.i16.wrap v), .int .i8 ((aa.f 0).n), .pointer ((aa.f 1).A), .int .i8 ((aa.f 2).n), .pointer ((aa.f 3).A), .pointer ((aa.f 4).A), .int .i8 ((aa.f 5).n), .int .i8 ((aa.f 6).n), .map aa.m], true⟩]) bU (show Pl [⟨b1, 0, [.int .i64 0, .slice none 0 0, .bool false, .slice none 0 0, .slice none 0 0], true⟩, ⟨ab, 0, [.int .i16 (IntKind.i16.wrap v), .int .i8 0, .pointer none, .int .i8 3, .pointer none, .pointer none, .int .i8 0, .int .i8 0, .map none], true⟩] [⟨b1, 0, [.int .i64 0, .slice none 0 0, .bool false, .slice none 0 0, .slice none 0 0], true⟩, ⟨ab, 0, [.int .i16 (IntKind.i16.wrap v), .int .i8 ((aa.f 0).n), .pointer ((aa.f 1).A), .int .i8 ((aa.f 2).n), .pointer ((aa.f 3).A), .pointer ((aa.f 4).A), .int .i8 ((aa.f 5).n), .int .i8 ((aa.f 6).n), .map aa.m], true⟩] from ⟨rfl, rfl, ⟨rfl, rfl, trivial⟩⟩)).pk (env' := [(7, .v (.nilIface)), (5, .p 1 0), (6, .v (.slice ag ((tDescribeACLsRequest (IntKind.i16.wrap v) T).length) ah))])
 clear bn
 refine go_rn [3] [] [(4, .v (.nilIface))] af bq fun dp bV => ?_
 clear bq
 refine wpOps_nil (then_normal ?_)
 refine wp_ret ?_
 refine leave bV af.cells (v := .nilIface) kz ?_
 refine ⟨_, rfl, fun dq bt => ?_⟩
 have au : EnvOk 20 [⟨b1, 0, [.int .i64 0, .slice none 0 0, .bool false, .slice none 0 0, .slice none 0 0], true⟩, ⟨ab, 0, [.int .i16 (IntKind.i16.wrap v), .int .i8 ((aa.f 0).n), .pointer ((aa.f 1).A), .int .i8 ((aa.f 2).n), .pointer ((aa.f 3).A), .pointer ((aa.f 4).A), .int .i8 ((aa.f 5).n), .int .i8 ((aa.f 6).n), .map aa.m], true⟩] [(15, .v (.nilIface)), (4, .p 0 0), (6, .p 1 0), (12, .p 1 0), (13, .v (.slice A2 ((tDescribeACLsRequest (IntKind.i16.wrap v) T).length) c2)), (14, .v (.slice ag ((tDescribeACLsRequest (IntKind.i16.wrap v) T).length) ah))] _ := bt.places (⟨rfl, rfl, ⟨rfl, rfl, trivial⟩⟩)
 refine go_rn [4] [] [(4, .p 0 0), (6, .p 1 0), (16, .v (.bool false))] af au fun cH aj => ?_
 clear au
 refine wpOps_nil (then_normal ?_)
 refine cond_false aj (b := false) kz rfl ?_
 refine wp_skip ?_
 refine then_normal ?_
 refine go_seq_region [0, 1, 2, 3] kz ?_
 refine go_rn [0] [1, 2, 3] [(4, .p 0 0), (18, .p 1 0)] af aj fun cI av => ?_
 clear aj
 have aw := av.recast 18 (.p 1 0) (.v (.pointer (some ⟨ab, 0, none⟩))) rfl rfl trivial
 have bu := aw.pk (env' := [(4, .p 0 0), (18, .v (.pointer (some ⟨ab, 0, none⟩)))])
 clear av aw
 have aE := WOk.strOut (G := NoF) [⟨b1, 0, [.int .i64 0, .slice none 0 0, .bool false, .slice none 0 0, .slice none 0 0], true⟩] af
 obtain ⟨ax, ak, ay⟩ := af.cutB bu 1 [⟨b1, 0, [.int .i64 0, .slice none 0 0, .bool false, .slice none 0 0, .slice none 0 0], true⟩] [(4, .p 0 0), (18, .v (.pointer (some ⟨ab, 0, none⟩)))]
 have bw := mvDescribeACLsRequest _ ay.step immM ay.to' bT
 refine of_op (wpOp_call ax (f := 75) (vs := [.pointer (some ⟨ab, 0, none⟩)]) (d := 19) kz Tryz.call75 (tlDescribeACLsRequest (IntKind.i16.wrap v) aa ab 0 _ _ aE bw) ?_)
 rintro e_ cJ ⟨cd, rfl, bx, al⟩
 have am := bx.move (Step.refl _ Nil) nilM (ak.laid (G := NoF) al)
 obtain ⟨aF, aG, aH, aI, aJ, aK, aL, aM, aN, aO, aP, ce, cm, ao, bW, bX, cK, cL⟩ := am.open_
 rw [ao] at am
 have bY := bW.small
 have bZ := bX.small
 rw [ao]
 refine ⟨_, rfl, fun cM az => ?_⟩
 have aA := ak.next_nil al
 have cq := ak.frN al
 clear ax
 refine of_op (wpOp_store aA az (oi := 0) (cs := [.int .i64 aF, .slice aK aG.length aL, .bool aH, .slice aM aI.length aN, .slice aO aJ.length aP]) kz fun b8 aB ap aC => ?_)
 clear az aA
 refine go_rn [3] [] [(4, .p 0 0), (5, .v (.bool true))] ap aC fun cN bz => ?_
 clear aC
 refine wpOps_nil (then_normal ?_)
 refine wp_ret ?_
 refine leave bz ap.cells (v := .tuple #[.agg #[.int .i64 aF, .slice aK aG.length aL, .bool aH, .slice aM aI.length aN, .slice aO aJ.length aP], .bool true]) kz ?_
 exact ⟨aa, _, rfl, (show TreeR _ (Imm NoF w b8 [⟨b1, 0, [.int .i64 aF, .slice aK aG.length aL, .bool aH, .slice aM aI.length aN, .slice aO aJ.length aP], true⟩] []) _ (trDescribeACLsRequest aa) from (am.move aB.step immM aB.to')).move (Step.refl _ Nil) nilM immOut, bR, ap.step⟩
theorem tegDescribeACLsRequest (v : Int) (T : Tree) (B : Bs) {A2 : Option Addr} {c2 : Nat} {w : World} {F : Nat → Nat → Prop} (hB : tDescribeACLsRequest (IntKind.i16.wrap v) T = B) (hs_ : Octs w F A2 c2 B) (hc : canDescribeACLsRequest T) (hkey : T.ranged) (hroom : B.length + 16 ≤ 1099511627776) :
  Calls Tryz.prog 27 #[.int .i64 v, .slice A2 B.length c2] w (fun e w' => ∃ D cs, e = .returned (.tuple #[.agg cs.toArray, .bool true]) ∧ TreeR w' (Fp NoF w) cs (trDescribeACLsRequest D) ∧ rvDescribeACLsRequest (IntKind.i16.wrap v) D T ∧ Step w w' Nil) := by
 subst hB
 exact tzDescribeACLsRequest v T hs_ hc hkey hroom
end Go.Proofs.YtgolpmkenmedoaaGreatDoor.ME