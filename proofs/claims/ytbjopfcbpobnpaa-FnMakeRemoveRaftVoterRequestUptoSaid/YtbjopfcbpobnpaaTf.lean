/- Tags: all written, by rising number. Own work. -/
import Derived.Test.YtbjopfcbpobnpaaTe
namespace Go.Proofs.Ytbjopfcbpobnpaa.ME
open Go
open Go.RowKit
open Go.ChangeMaps (setBlock)
set_option linter.unusedVariables false
set_option linter.unusedSimpArgs false
set_option maxRecDepth 20000

def tagsR (u : List (Int × Bs)) : Bs := u.flatMap fun x => tagR x.1 x.2
theorem tagsR_len (u : List (Int × Bs)) : 2 * u.length ≤ (tagsR u).length := by
  induction u with
  | nil => exact Nat.le_refl _
  | cons x r ih =>
    have e : tagsR (x :: r) = tagR x.1 x.2 ++ tagsR r := rfl
    rw [e, List.length_append, List.length_cons]
    have h1 := uv_len_pos x.1.toNat
    have h2 := uv_len_pos x.2.length
    unfold tagR
    simp only [List.length_append]
    omega

def eachFn (B : Nat) : Value := .func (.func 143) #[] #[.pointer (some ⟨B, 0, none⟩)]

theorem kTagsEach {m : Option Nat} {u : List (Int × Bs)} {b o B cp : Nat} {A : Option Addr} {s : Bs} {w : World} {F : Nat → Nat → Prop} (hat : AtF w F b o [.map m]) (hm : MapR w F m u) (hd : Dst w B 5 A cp s) (hF : ∀ b o, F b o → ¬ BM B A b o)
    (hx : ∀ x ∈ u, x.2.length < 4294967296) (hroom : s.length + (tagsR u).length + 16 ≤ 1099511627776) :
    Calls Try.prog 142 [.pointer (some ⟨b, o, none⟩), eachFn B].toArray w (BoxPost w B 5 A (s ++ tagsR u)) := by
  have hul := tagsR_len u
  have hB := World.lt_of_cell hd.cell
  refine enter (n := 53) Try.func142 rfl Try.ntmps142 (by kernel_rfl) fun a hE => ?_
  have hW : WOk w Nil w [⟨b, o, [.map m], false⟩] [] := (WOk.start w Nil).start1 hat rfl rfl
  refine wp_seq (wp_seq ?_)
  refine go_region [0, 1, 2, 3, 4, 5] (by kernel_rfl) ?_
  refine go_runs [0, 1, 2, 3] [4, 5] [0, 1, 11] hW (EnvOk.ptr0 (cs := [.map m]) (r := false) hE) (env' := [(0, .p 0 0), (1, .v (eachFn B)), (11, .v (.map m))]) (by kernel_rfl) rfl fun a1 hE1 => ?_
  refine of_op (wpOp_lenM (t := 51) (kt := 59) (et := 22) hE1 (m := m) (d := 12) (by kernel_rfl) (by kernel_rfl) hm fun a2 hE2 => ?_)
  refine go_runs [5] [] [0, 1, 13] hW hE2 (env' := [(0, .p 0 0), (1, .v (eachFn B)), (13, .v (.bool (((u.length : Nat) : Int) == 0)))]) (by kernel_rfl) rfl fun a3 hE3 => wpOps_nil (then_normal ?_)
  refine cond_of hE3 (b := ((u.length : Nat) : Int) == 0) (by kernel_rfl) (fun hb => ?_) (fun hb => ?_)
  · -- none
    have hu : u = [] := List.eq_nil_of_length_eq_zero (by have := eq_of_beq hb; omega)
    subst hu
    refine wp_ret (then_ret ?_)
    refine leave hE3 hW.cells (v := .tuple #[]) (by kernel_rfl) ⟨rfl, A, cp, ?_, fun g hg => .inl hg, Step.refl _ _⟩
    rw [show s ++ tagsR [] = s from List.append_nil s]
    exact hd
  -- some
  have hu0 : 0 < u.length := by have := ne_of_beq_false hb; omega
  cases m with
  | none => rw [hm.none_ rfl] at hu0; cases hu0
  | some mb =>
  obtain ⟨hFm, es, clk, hes, hperm, hborn, hnod, hcont⟩ := hm.some_ mb rfl
  have hmlt : mb < w.heap.size := (Array.getElem?_eq_some_iff.1 hes).1
  have hesz : es.size = u.length := MapR.size (w := w) (F := F) hperm
  refine wp_skip (then_normal ?_)
  refine go_seq_region [0, 1, 2, 3, 4, 5, 6, 7] (by kernel_rfl) ?_
  refine go_runs [0, 1, 2, 3] [4, 5, 6, 7] [0, 1, 17] hW hE3 (env' := [(0, .p 0 0), (1, .v (eachFn B)), (17, .v (.map (some mb)))]) (by kernel_rfl) rfl fun a4 hE4 => ?_
  refine of_op (wpOp_lenM (t := 51) (kt := 59) (et := 22) hE4 (m := some mb) (d := 18) (by kernel_rfl) (by kernel_rfl) hm fun a5 hE5 => ?_)
  refine of_op (wpOp_make0 (e := 59) (size := 1) (bytes := 4) (j := u.length) (t := 183) (d := 19) hW hE5 (p := 0) (q := ((u.length : Nat) : Int)) (by kernel_rfl) (by kernel_rfl) rfl rfl (by omega) fun kr a6 w1 hkr hkr0 hF1 hW1 hE6 => ?_)
  refine of_op (wpOp_alloc hW1 hE6 (d := 4) (cs := [.slice none 0 0]) (by kernel_rfl) fun kb a7 w2 hkb hkb0 hF2 hW2 hE7 => ?_)
  refine of_op (wpOp_store hW2 hE7 (oi := 1) (cs := [.slice (some ⟨kr, 0, none⟩) 0 u.length]) (by kernel_rfl) fun w3 hF3 hW3 hE8 => wpOps_nil (then_normal ?_))
  -- the map gone through
  refine wp_seq (go_seq_region [0, 1, 2, 3, 4] (by kernel_rfl) ?_)
  refine go_runs [0, 1, 2, 3] [4] [0, 1, 4, 23] hW3 hE8 (env' := [(0, .p 0 0), (1, .v (eachFn B)), (4, .p 1 0), (23, .v (.map (some mb)))]) (by kernel_rfl) rfl fun a8 hE9 => ?_
  have hes3 := hW3.step.heap (fun o h => h) hes
  refine of_op (wpOp_range (t := 51) (kt := 59) (et := 22) (d := 24) (r := mb) hE9 (by kernel_rfl) (by kernel_rfl) hes3 fun a9 hE10 => wpOps_nil (then_normal ?_))
  have hW4 := hW3.next_nil (Step.alloc w3 (.mapIter (some mb) clk #[] clk))
  have hr4 : (w3.alloc (.mapIter (some mb) clk #[] clk)).heap[w3.heap.size]? = some (.mapIter (some mb) clk #[] clk) := heap_new _ _
  have hE11 := hE10.pick (ks := [0, 1, 4, 24]) (env' := [(0, .p 0 0), (1, .v (eachFn B)), (4, .p 1 0), (24, .v (.pointer (some ⟨w3.heap.size, 0, none⟩)))]) (by kernel_rfl)
  have hrlt : w3.heap.size < (w3.alloc (.mapIter (some mb) clk #[] clk)).heap.size := by rw [size_alloc]; omega
  have hr0 : w.heap.size ≤ w3.heap.size := hW3.step.size
  have hkbr : kb ≠ w3.heap.size := by have := hW3.live 1 _ rfl; show ¬ _; intro e; rw [← e] at this; exact absurd this (Nat.lt_irrefl _)
  have hkrr : kr ≠ w3.heap.size := by have := own_live (hW3.own 0 _ rfl) (g := kr) rfl; omega
  generalize hR : w3.heap.size = R at hr4 hE11 hrlt hkbr hkrr
  generalize hw4 : w3.alloc (.mapIter (some mb) clk #[] clk) = w4 at hW4 hr4 hrlt
  refine wp_block ?_
  refine wp_loop_ghost (fun q a_ w_ => ∃ (vis : List MapEntry) (seen : Array Nat) (K : Option Addr) (kc c0 : Nat), q = (leftOf es seen).size ∧ Vis es.toList vis seen ∧ vis.length + (leftOf es seen).size ≤ es.size ∧
      EnvOk 53 [⟨b, o, [.map (some mb)], false⟩, ⟨kb, 0, [.slice K vis.length kc], true⟩] [(0, .p 0 0), (1, .v (eachFn B)), (4, .p 1 0), (24, .v (.pointer (some ⟨R, 0, none⟩)))] a_ ∧
      WOk w Nil w_ [⟨b, o, [.map (some mb)], false⟩, ⟨kb, 0, [.slice K vis.length kc], true⟩] [⟨K, kc, 59, 1, vis.length, (vis.map fun e => kOf e.key).map (Value.int .u32)⟩] ∧
      w_.heap[R]? = some (.mapIter (some mb) clk seen c0) ∧ clk ≤ c0 ∧ K.map (·.block) ≠ some R) (leftOf es #[]).size
    ⟨[], #[], some ⟨kr, 0, none⟩, u.length, clk, rfl, Vis.nil _, by rw [List.length_nil, Nat.zero_add]; exact Array.size_filter_le, by rw [← hw4] at *; exact hE11, hW4, hr4, Nat.le_refl _, by simpa using hkrr⟩ ?_
  rintro q a10 w5 ⟨vis, seen, K, kc, c0, rfl, hv, hvl, hE12, hW5, hr5, hc0, hKR⟩
  have hes5 := hW5.step.heap (fun o h => h) hes
  refine go_seq_region [0, 1] (by kernel_rfl) ?_
  refine of_op (wpOp_next hE12 (d := 25) (r := R) (by kernel_rfl) hr5 hes5 hborn hc0 (fun h0 a11 hE13 => ?_) (fun e he w6 hw6 a11 hE13 => ?_))
  · -- behind it
    refine go_runs [1] [] [0, 1, 4, 26] hW5 hE13 (env' := [(0, .p 0 0), (1, .v (eachFn B)), (4, .p 1 0), (26, .v (.bool false))]) (by kernel_rfl) rfl fun a12 hE14 => wpOps_nil (then_normal (wp_seq ?_))
    refine cond_of hE14 (b := false) (by kernel_rfl) (fun hb => by cases hb) (fun _ => ?_)
    refine wp_exit (then_exit (then_exit (block_exit (then_normal ?_))))
    have hpe := hv.all h0 hnod
    have hvu : vis.length = u.length := by rw [hpe.length_eq, Array.length_toList, hesz]
    have hkp : (vis.map fun e => kOf e.key).Perm (u.map Prod.fst) := by
      have h1 := (hpe.map fun e => kOf e.key)
      have h2 := hperm.map kOf
      rw [List.map_map, List.map_map] at h2
      exact h1.trans h2
    have hkl : (vis.map fun e => kOf e.key).length = vis.length := by simp
    generalize (vis.map fun e => kOf e.key) = ks at hkp hkl hW5
    have hown4 : w5.ownsRow 0 59 1 (.slice K vis.length kc) vis.length (ks.map (Value.int .u32)) := hW5.own 0 _ rfl
    obtain ⟨g, rfl⟩ := own_addr hown4 (by omega)
    have hown5 : w5.ownsRow 0 59 1 (.slice (some ⟨g, 0, none⟩) vis.length kc) vis.length (ks.map (Value.int .u32)) := hown4
    have hg0 : w.heap.size ≤ g := by
      rcases hW5.ownM 0 _ rfl g rfl with h | h
      · exact h
      · exact (h 0).elim
    refine go_seq_region [0, 1, 2, 3] (by kernel_rfl) ?_
    refine go_runs [0, 1] [2, 3] [0, 1, 4, 34] hW5 hE14 (env' := [(0, .p 0 0), (1, .v (eachFn B)), (4, .p 1 0), (34, .v (.iface 183 (.slice (some ⟨g, 0, none⟩) vis.length kc)))]) (by kernel_rfl) rfl fun a13 hE15 => ?_
    refine of_op (wpOp_mkf hE15 (v := .func (.func 155) #[] #[.pointer (some ⟨kb, 0, none⟩)]) (d := 35) (by kernel_rfl) fun a14 hE16 => ?_)
    have hS := Try.sortKeys g kc kb ks.toArray (by simp; omega) (by simp; omega) w5 (by simp only [List.size_toArray, hkl]; exact hW5.cells 1 _ rfl 0 _ rfl) (fun e => hW5.rtb 0 _ rfl g rfl 1 _ rfl e) (own_holds hkl hown5) (own_live (hW5.own 0 _ rfl) (g := g) rfl) (hW5.live 1 _ rfl)
    rw [List.size_toArray, hkl] at hS
    refine of_op (wpOp_call hE16 (f := 154) (vs := [.iface 183 (.slice (some ⟨g, 0, none⟩) vis.length kc), .func (.func 155) #[] #[.pointer (some ⟨kb, 0, none⟩)]]) (d := 36) (by kernel_rfl) Try.call154 hS ?_)
    rintro e_ w7 ⟨rfl, d', nd, os, hd1, hd2, hd3, rfl⟩
    refine ⟨_, rfl, fun a15 hE17 => wpOps_nil (then_normal ?_)⟩
    have hus : d'.toList = u.map Prod.fst := sorted_is hd2 (by rw [hd1]; exact hd3) hkp (List.pairwise_map.2 hm.sorted)
    obtain ⟨hst7, hown7⟩ := sort_own (n := nd) (os := os) hkl hown5 (by rw [hd1, hkl])
    rw [hus] at hown7
    generalize Sort.grow (Sort.putRow (Value.int .u32) (Sort.ahead w5 nd) g 0 d') os = w7 at hst7 hown7
    have hW7 : WOk w Nil w7 [⟨b, o, [.map (some mb)], false⟩, ⟨kb, 0, [.slice (some ⟨g, 0, none⟩) vis.length kc], true⟩] [⟨some ⟨g, 0, none⟩, kc, 59, 1, vis.length, (u.map Prod.fst).map (Value.int .u32)⟩] :=
      hW5.grow (k := 0) (r' := ⟨some ⟨g, 0, none⟩, kc, 59, 1, vis.length, (u.map Prod.fst).map (Value.int .u32)⟩) rfl (hst7.mono fun b' _ _ hb' => by rw [hb']; rfl) hown7 (fun g' h => .inl h)
    refine go_seq_region [0, 1, 2] (by kernel_rfl) ?_
    refine go_runs [0, 1, 2] [] [0, 1, 37, 38, 39] hW7 hE17 (env' := [(0, .p 0 0), (1, .v (eachFn B)), (37, .v (.slice (some ⟨g, 0, none⟩) vis.length kc)), (38, .v (.int .i64 ((vis.length : Nat) : Int))), (39, .v (.int .i64 0))]) (by kernel_rfl) rfl fun a16 hE18 => wpOps_nil (then_normal ?_)
    have hE19 := EnvOk.cutTb 1 hE18 (by kernel_rfl)
    have hat7 := hat.move hW7.step nilM keepF
    have hm7 := hm.move hW7.step nilM keepF
    have hd7 := hd.move hW7.step (fun _ _ _ h => h)
    have hg7 : g < w7.heap.size := own_live (hW7.own 0 _ rfl) (g := g) rfl
    have hkeys := own_holds (by simpa using hvu.symm) hown7
    have hBMlt : ∀ b' o', BM B A b' o' → b' < w.heap.size := fun b' o' hbm => by
      rcases hbm with ⟨rfl, _⟩ | h
      · exact hB
      · exact own_live (r := brow A cp 5 s) hd.own h
    rw [hvu] at hE19
    refine wp_block ?_
    refine wp_loop_ghost (fun q a_ w_ => ∃ (j : Nat) (A_ : Option Addr) (cp_ : Nat), q = u.length - j ∧ j ≤ u.length ∧ EnvOk 53 [⟨b, o, [.map (some mb)], false⟩] [(0, .p 0 0), (1, .v (eachFn B)), (37, .v (.slice (some ⟨g, 0, none⟩) u.length kc)), (38, .v (.int .i64 ((u.length : Nat) : Int))), (39, .v (.int .i64 ((j : Nat) : Int)))] a_ ∧
      Dst w_ B 5 A_ cp_ (s ++ tagsR (u.take j)) ∧ Near w7 A A_ ∧ Step w7 w_ (BM B A)) u.length
      ⟨0, A, cp, by omega, by omega, hE19, by simpa [tagsR] using hd7, fun g hg => .inl hg, Step.refl _ _⟩ ?_
    rintro q a17 w8 ⟨j, A1, cp1, rfl, hj, hE20, hD, hN, hS8⟩
    have hat8 := hat7.move hS8 (fun b o hf _ => hF b o hf) keepF
    have hm8 : MapR w8 (fun b' o' => F b' o' ∧ b' < w7.heap.size) (some mb) u := hm7.move hS8 (fun b o hf _ => hF b o hf) (fun b' o' hf hl => ⟨hf, hl⟩)
    have hW8 : WOk w8 Nil w8 [⟨b, o, [.map (some mb)], false⟩] [] := (WOk.start w8 Nil).start1 hat8 rfl rfl
    refine go_seq_region [0] (by kernel_rfl) (go_runs [0] [] [0, 1, 37, 38, 39, 40] hW8 hE20 (env' := [(0, .p 0 0), (1, .v (eachFn B)), (37, .v (.slice (some ⟨g, 0, none⟩) u.length kc)), (38, .v (.int .i64 ((u.length : Nat) : Int))), (39, .v (.int .i64 ((j : Nat) : Int))), (40, .v (.bool (decide (((j : Nat) : Int) < ((u.length : Nat) : Int)))))]) (by kernel_rfl) rfl fun a18 hE21 => wpOps_nil (then_normal (wp_seq ?_)))
    refine cond_of hE21 (b := decide (((j : Nat) : Int) < ((u.length : Nat) : Int))) (by kernel_rfl) (fun hc => ?_) (fun hc => ?_)
    · have hlt : j < u.length := by have := of_decide_eq_true hc; omega
      refine wp_skip (then_normal (wp_seq (wp_block ?_)))
      obtain ⟨⟨k, x⟩, hu⟩ : ∃ y, u[j]? = some y := ⟨_, List.getElem?_eq_getElem hlt⟩
      have hmem := List.mem_of_getElem? hu
      have hkr := hm.range _ hmem
      have hcell : At w8 g (0 + j * 1) [.int .u32 k] := by
        intro i v hi
        have hi0 : i = 0 := by
          have := (List.getElem?_eq_some_iff.1 hi).1
          simp at this; omega
        subst hi0
        simp only [List.getElem?_cons_zero, Option.some.injEq] at hi
        subst hi
        refine hS8.cell (fun hbm => ?_) ?_
        · have := hBMlt _ _ hbm; omega
        · have h1 := (hkeys j (by simpa using hlt)).1
          have h2 : (u.map Prod.fst).toArray[j]! = k := by
            rw [getElem!_pos _ j (by simpa using hlt)]
            have : (u.map Prod.fst)[j]? = some k := by rw [List.getElem?_map, hu]; rfl
            simpa using (List.getElem?_eq_some_iff.1 this).2
          rw [h2] at h1
          simpa using h1
      refine go_seq_region [0, 1, 2] (by kernel_rfl) ?_
      refine of_op (wpOp_index hE21 (t := 183) (e := 59) (size := 1) (bytes := 4) (d := 41) (b := g) (o := 0) (m := u.length) (j := j) (by kernel_rfl) (by kernel_rfl) rfl rfl hlt fun a19 hE22 => ?_)
      refine of_op (wpOp_load hE22 (t := 59) (d := 42) (cs := [.int .u32 k]) (v := .int .u32 k) (by kernel_rfl) (by kernel_rfl) hcell fun a20 hE23 => ?_)
      refine go_runs [2] [] [0, 1, 37, 38, 39, 7] hW8 hE23 (env' := [(0, .p 0 0), (1, .v (eachFn B)), (37, .v (.slice (some ⟨g, 0, none⟩) u.length kc)), (38, .v (.int .i64 ((u.length : Nat) : Int))), (39, .v (.int .i64 ((j : Nat) : Int))), (7, .v (.int .u32 k))]) (by kernel_rfl) rfl fun a21 hE24 => wpOps_nil (then_normal ?_)
      refine go_region [0, 1, 2, 3, 4, 5, 6, 7, 8] (by kernel_rfl) ?_
      refine go_runs [0, 1, 2, 3, 4, 5, 6] [7, 8] [0, 1, 37, 38, 39, 43, 44, 48, 49] hW8 hE24 (env' := [(0, .p 0 0), (1, .v (eachFn B)), (37, .v (.slice (some ⟨g, 0, none⟩) u.length kc)), (38, .v (.int .i64 ((u.length : Nat) : Int))), (39, .v (.int .i64 ((j : Nat) : Int))), (43, .v (eachFn B)), (44, .v (.int .u32 k)), (48, .v (.map (some mb))), (49, .v (.int .u32 k))]) (by kernel_rfl) rfl fun a22 hE25 => ?_
      refine of_op (wpOp_look hE25 (t := 51) (kt := 59) (et := 22) (m := some mb) (k := k) (s := x) (d := 50) (by kernel_rfl) (by kernel_rfl) (by kernel_rfl) hm8 hmem fun a23 Ax cx hox hE26 => ?_)
      have htake : tagsR (u.take (j + 1)) = tagsR (u.take j) ++ tagR k x := flatMap_take_succ (g := fun x : Int × Bs => tagR x.1 x.2) hu
      have htl : (tagsR (u.take (j + 1))).length ≤ (tagsR u).length := flatMap_take_le u _ _
      have hG8 : ∀ b' o', F b' o' → b' < w7.heap.size → ¬ BM B A1 b' o' := fun b' o' hf hl hbm => by
        rcases hbm with h | h
        · exact hF b' o' hf (.inl h)
        · rcases hN b' h with h1 | h1
          · exact hF b' o' hf (.inr h1)
          · omega
      refine of_op (wpOp_call hE26 (f := 143) (vs := [.int .u32 k, .slice Ax x.length cx, .pointer (some ⟨B, 0, none⟩)]) (d := 51) (by kernel_rfl) Try.call143 (kEachOne hD hkr hox (fun b' o' h => hG8 b' o' h.1 h.2) (hx _ hmem) (by rw [htake] at htl; rw [List.length_append] at htl ⊢; omega)) ?_)
      rintro e_ w9 ⟨rfl, A2, cp2, hD2, hN2, hS2⟩
      refine ⟨_, rfl, fun a24 hE27 => wpOps_nil (block_normal (then_normal ?_))⟩
      have hS9 : Step w7 w9 (BM B A) := hS8.trans hS2 fun b' o' hl hbm => by
        rcases hbm with h | h
        · exact .inl h
        · rcases hN b' h with h1 | h1
          · exact .inr h1
          · omega
      have hat9 := hat7.move hS9 (fun b o hf _ => hF b o hf) keepF
      have hW9 : WOk w9 Nil w9 [⟨b, o, [.map (some mb)], false⟩] [] := (WOk.start w9 Nil).start1 hat9 rfl rfl
      refine go_region [0, 1] (by kernel_rfl) (go_runs [0, 1] [] [0, 1, 37, 38, 39] hW9 hE27 (env' := [(0, .p 0 0), (1, .v (eachFn B)), (37, .v (.slice (some ⟨g, 0, none⟩) u.length kc)), (38, .v (.int .i64 ((u.length : Nat) : Int))), (39, .v (.int .i64 (IntKind.i64.wrap (((j : Nat) : Int) + 1))))]) (by kernel_rfl) rfl fun a25 hE28 => wpOps_nil (then_normal ?_))
      rw [wrap_succ (by omega)] at hE28
      refine ⟨u.length - (j + 1), by omega, j + 1, A2, cp2, rfl, by omega, hE28, ?_, ?_, hS9⟩
      · rw [htake, ← List.append_assoc]; exact hD2
      · intro g' hg'
        rcases hN2 g' hg' with h | h
        · exact hN g' h
        · exact .inr (Nat.le_trans hS8.size h)
    · obtain rfl : j = u.length := by have := of_decide_eq_false hc; omega
      refine wp_exit (then_exit (then_exit (block_exit ?_)))
      rw [List.take_length] at hD
      refine leave_end hE21 hW8.cells (v := .tuple #[]) (by kernel_rfl) ⟨rfl, A1, cp1, hD, fun g' hg' => ?_, ?_⟩
      · rcases hN g' hg' with h | h
        · exact .inl h
        · exact .inr (Nat.le_trans hW7.step.size h)
      · exact (hW7.step.mono fun _ _ _ f => f.elim).trans hS8 fun _ _ _ h => h
  · -- one more
    have hst6 : Step w5 w6 Nil := by
      rcases hw6 with rfl | rfl
      · exact Step.refl _ _
      · exact Step.drew _
    have hr6 : w6.heap[R]? = some (.mapIter (some mb) clk seen c0) := hst6.heap (fun o h => h) hr5
    have hW6 := hW5.next_nil hst6
    obtain ⟨hml, _⟩ := mem_left he
    obtain ⟨k, sx, Ax, cx, hk1, hk2, hk3, hk4⟩ := hcont e hml
    have hR6 : R < w6.heap.size := (Array.getElem?_eq_some_iff.1 hr6).1
    have hW7 : WOk w Nil (setBlock w6 R (.mapIter (some mb) clk (seen.push e.born) clk)) [⟨b, o, [.map (some mb)], false⟩, ⟨kb, 0, [.slice K vis.length kc], true⟩] [⟨K, kc, 59, 1, vis.length, (vis.map fun e => kOf e.key).map (Value.int .u32)⟩] := by
      refine hW6.next (Step.setBlock w6 R _) (fun b' o' hb' hN => by omega) (fun i ob hi j hj hN => ?_) (fun i q hi g' hg' o' hN => ?_)
      · match i, hi with
        | 0, hi =>
          simp only [List.getElem?_cons_zero, Option.some.injEq] at hi; subst hi
          have := World.lt_of_cell (hat 0 _ rfl).2
          simp only at hN; omega
        | 1, hi =>
          simp only [List.getElem?_cons_succ, List.getElem?_cons_zero, Option.some.injEq] at hi; subst hi
          exact hkbr hN
        | i + 2, hi => simp at hi
      · match i, hi with
        | 0, hi =>
          simp only [List.getElem?_cons_zero, Option.some.injEq] at hi; subst hi
          exact hKR (by rw [← hN]; exact hg')
        | i + 1, hi => simp at hi
    have hr7 : (setBlock w6 R (.mapIter (some mb) clk (seen.push e.born) clk)).heap[R]? = some (.mapIter (some mb) clk (seen.push e.born) clk) := heap_setBlock hr6
    generalize hw7 : setBlock w6 R (.mapIter (some mb) clk (seen.push e.born) clk) = w7 at hW7 hr7
    refine go_runs [1] [] [0, 1, 4, 24, 26] hW7 hE13 (env' := [(0, .p 0 0), (1, .v (eachFn B)), (4, .p 1 0), (24, .v (.pointer (some ⟨R, 0, none⟩))), (26, .v (.bool true))]) (by kernel_rfl) rfl fun a12 hE14 => wpOps_nil (then_normal (wp_seq ?_))
    refine cond_of hE14 (b := true) (by kernel_rfl) (fun _ => ?_) (fun hb => by cases hb)
    refine wp_skip (then_normal (wp_block ?_))
    have hes7 := hW7.step.heap (fun o h => h) hes
    refine go_seq_region [0, 1, 2] (by kernel_rfl) ?_
    refine of_op (wpOp_entry hE14 (d := 27) (r := R) (by kernel_rfl) hr7 hes7 hml hnod fun a13 hE15 => ?_)
    rw [hk1] at hE15
    refine go_runs [1, 2] [] [0, 1, 4, 24, 5] hW7 hE15 (env' := [(0, .p 0 0), (1, .v (eachFn B)), (4, .p 1 0), (24, .v (.pointer (some ⟨R, 0, none⟩))), (5, .v (.int .u32 k))]) (by kernel_rfl) rfl fun a14 hE16 => wpOps_nil (then_normal ?_)
    refine go_region [0, 1, 2, 3, 4] (by kernel_rfl) ?_
    refine go_runs [0, 1] [2, 3, 4] [0, 1, 4, 24, 29, 30] hW7 hE16 (env' := [(0, .p 0 0), (1, .v (eachFn B)), (4, .p 1 0), (24, .v (.pointer (some ⟨R, 0, none⟩))), (29, .v (.slice K vis.length kc)), (30, .v (.int .u32 k))]) (by kernel_rfl) rfl fun a15 hE17 => ?_
    have hsh := left_shrinks es seen e he
    refine wpOps_push (t := 183) (e := 59) (size := 1) (bytes := 4) (len := 1) (cs := [.int .u32 k]) (d1 := 31) (d := 32) (k := 0) hW7 hE17 (by kernel_rfl) (by kernel_rfl) (fun _ => by kernel_rfl) rfl (by kernel_rfl) (by omega) fun K2 kc2 a16 w8 hF8 hW8 hE18 => ?_
    obtain ⟨bl, hE18⟩ := hE18
    have hR7 : R < w7.heap.size := (Array.getElem?_eq_some_iff.1 hr7).1
    have hna : ∀ {o'}, ¬ Act_ [⟨b, o, [.map (some mb)], false⟩, ⟨kb, 0, [.slice K vis.length kc], true⟩] [⟨K, kc, 59, 1, vis.length, (vis.map fun e => kOf e.key).map (Value.int .u32)⟩] R o' := by
      rintro o' (⟨i, ob, hi, hrw, hb, _⟩ | ⟨i, q, hi, hq⟩)
      · match i, hi with
        | 0, hi =>
          simp only [List.getElem?_cons_zero, Option.some.injEq] at hi; subst hi
          cases hrw
        | 1, hi =>
          simp only [List.getElem?_cons_succ, List.getElem?_cons_zero, Option.some.injEq] at hi; subst hi
          exact hkbr hb
        | i + 2, hi => simp at hi
      · match i, hi with
        | 0, hi =>
          simp only [List.getElem?_cons_zero, Option.some.injEq] at hi; subst hi
          exact hKR hq
        | i + 1, hi => simp at hi
    have hK2 : K2.map (·.block) ≠ some R := fun hk => by
      exact hF8.imm R 0 hR7 hna (.inr ⟨0, _, rfl, hk⟩)
    refine of_op (wpOp_store hW8 hE18 (oi := 1) (cs := [.slice K2 (vis.length + 1) kc2]) (by kernel_rfl) fun w9 hF9 hW9 hE19 => wpOps_nil (block_normal (then_normal ?_)))
    have hr8 : w9.heap[R]? = some (.mapIter (some mb) clk (seen.push e.born) clk) :=
      hF9.step.heap (fun o' => hF8.imm R o' hR7 hna) (hF8.step.heap (fun o' => hna) hr7)
    refine ⟨(leftOf es (seen.push e.born)).size, hsh, vis ++ [e], seen.push e.born, K2, kc2, clk, rfl, hv.push he, by rw [List.length_append, List.length_singleton]; omega, ?_, ?_, hr8, Nat.le_refl _, hK2⟩
    · rw [List.length_append, List.length_singleton]
      exact hE19.pick (ks := [0, 1, 4, 24]) (by kernel_rfl)
    · rw [List.length_append, List.length_singleton, List.map_append, List.map_append, List.map_cons, List.map_cons, hk1]
      exact hW9

theorem kAppendEach {m : Option Nat} {u : List (Int × Bs)} {b o cp : Nat} {A : Option Addr} {s : Bs} {w : World} {F : Nat → Nat → Prop} (hat : AtF w F b o [.map m]) (hm : MapR w F m u) (ho : w.ownsRow 0 5 1 (.slice A s.length cp) s.length (bc s)) (hF : ∀ b o, F b o → ¬ Blk A b o)
    (hx : ∀ x ∈ u, x.2.length < 4294967296) (hroom : s.length + (tagsR u).length + 16 ≤ 1099511627776) :
    Calls Try.prog 102 [.pointer (some ⟨b, o, none⟩), .slice A s.length cp].toArray w (AppPost w 5 A (s ++ tagsR u)) := by
  refine enter (n := 9) Try.func102 rfl Try.ntmps102 (by kernel_rfl) fun a hE => ?_
  have hW := WOk.start w Nil
  refine go_seq_region [0, 1] (by kernel_rfl) ?_
  refine of_op (wpOp_box hW hE (d := 3) (cs := [.slice A s.length cp]) (by kernel_rfl) fun B a1 w1 hB hB0 hF1 hW1 hE1 => ?_)
  refine go_runs [1] [] [0, 3] hW1 hE1 (env' := [(0, .v (.pointer (some ⟨b, o, none⟩))), (3, .p 0 0)]) (by kernel_rfl) rfl fun a2 hE2 => wpOps_nil (then_normal ?_)
  have hst1 : Step w w1 Nil := hW1.step
  have hd1 : Dst w1 B 5 A cp s := ⟨hW1.cells 0 _ rfl 0 _ rfl, (hW1.rw_ 0 _ rfl rfl 0 (by simp)).2, own_keep (r := brow A cp 5 s) ho fun g hg => (hst1.keeps g (own_live (r := brow A cp 5 s) ho hg)).1 fun _ h => h,
    fun e => by have := own_live (r := brow A cp 5 s) ho e; omega⟩
  refine go_seq_region [0, 1, 2] (by kernel_rfl) ?_
  refine go_runs [0] [1, 2] [3, 5] hW1 hE2 (env' := [(3, .p 0 0), (5, .v (.pointer (some ⟨b, o, none⟩)))]) (by kernel_rfl) rfl fun a3 hE3 => ?_
  refine of_op (wpOp_mkf hE3 (v := eachFn B) (d := 6) (by kernel_rfl) fun a4 hE4 => ?_)
  refine of_op (wpOp_call hE4 (f := 142) (vs := [.pointer (some ⟨b, o, none⟩), eachFn B]) (d := 7) (by kernel_rfl) Try.call142
    (kTagsEach (F := fun b o => F b o ∧ b < w.heap.size) (hat.move hst1 nilM fun b o h hl => ⟨h, hl⟩) (hm.move hst1 nilM fun b o h hl => ⟨h, hl⟩) hd1 (fun b' o' h hbm => by
      rcases hbm with ⟨h1, _⟩ | h1
      · omega
      · exact hF b' o' h.1 h1) hx hroom) ?_)
  rintro e_ w2 ⟨rfl, A2, c2, hD, hN, hS⟩
  refine ⟨_, rfl, fun a5 hE5 => wpOps_nil (then_normal ?_)⟩
  have hW2 : WOk w2 Nil w2 [⟨B, 0, [.slice A2 (s ++ tagsR u).length c2], false⟩] [] := by
    have := hD.wok
    refine (WOk.start w2 Nil).add ⟨B, 0, [.slice A2 (s ++ tagsR u).length c2], false⟩ (World.lt_of_cell hD.cell) (fun j v hj => ?_) (fun h => by cases h) (fun i ob hi => by simp at hi) (fun i r hi => by simp at hi)
    exact this.cells 0 _ rfl j v hj
  have hE6 : EnvOk 9 [⟨B, 0, [.slice A2 (s ++ tagsR u).length c2], false⟩] [(3, .p 0 0)] a5 := (hE5.pick (ks := [3]) (env' := [(3, .p 0 0)]) (by kernel_rfl)).places ⟨rfl, rfl, trivial⟩
  refine go_seq_region [0, 1] (by kernel_rfl) ?_
  refine go_runs [0, 1] [] [4] hW2 hE6 (env' := [(4, .v (.slice A2 (s ++ tagsR u).length c2))]) (by kernel_rfl) rfl fun a6 hE7 => wpOps_nil (then_normal (wp_ret ?_))
  refine leave hE7 hW2.cells (v := .slice A2 (s ++ tagsR u).length c2) (by kernel_rfl) ⟨A2, c2, rfl, hD.own, ?_, fun g hg => ?_⟩
  · exact (hst1.mono fun _ _ _ f => f.elim).trans hS fun b' o' hl hbm => by
      rcases hbm with ⟨h1, _⟩ | h1
      · omega
      · exact h1
  · rcases hN g hg with h | h
    · exact .inl h
    · exact .inr (Nat.le_trans hst1.size h)

end Go.Proofs.Ytbjopfcbpobnpaa.ME
