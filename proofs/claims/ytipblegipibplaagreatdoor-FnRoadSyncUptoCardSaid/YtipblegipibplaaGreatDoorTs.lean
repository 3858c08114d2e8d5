/- sort.Slice over a row of u32, as the tags' Each calls it. Own work; the closure's contract turned from the kit's worked text over sort.Slice. -/
import Derived.Shelf.GgSortFunc.Whole
import Derived.Shelf.GgSortFunc.Tiny
import Derived.Deep.QuietTactic
import Derived.Test.YtipblegipibplaaGreatDoorSm
namespace Go.Proofs
open Go.Shelf Go.RowKit Go.Lib Go.Sort

noncomputable def Tryz.siT : TypeInfo := (Tryz.prog.info? 146).get (by kernel_rfl)
noncomputable def Tryz.siE : TypeInfo := (Tryz.prog.info? 85).get (by kernel_rfl)
theorem Tryz.siK (n : Nat) (h2 : 2 ≤ n) : Lib.swapperK n Tryz.siE 10 = 6 := by
  have a : Tryz.siE.hasPointers = false := by kernel_rfl
  have b : Tryz.siE.bytes = 4 := by kernel_rfl
  have c : (n == 0) = false := by simp; omega
  have d : (n == 1) = false := by simp; omega
  simp [Lib.swapperK, a, b, c, d]

set_option maxHeartbeats 2000000 in
theorem Tryz.less_keys (blk off c Bs size : Nat) (W : World) (G : Nat → Int) (hs : W.cell? ⟨Bs, 0, none⟩ = some (.slice (some ⟨blk, off, none⟩) size c))
    (hc : ∀ t, t < size → W.cell? ⟨blk, off + t, none⟩ = some (.int .u32 (G t))) (i j : Nat) (hi : i < size) (hj : j < size) :
    Calls Tryz.prog 110 #[.int .i64 i, .int .i64 j, .pointer (some ⟨Bs, 0, none⟩)] W fun e w' => e = .returned (.bool (decide (G i < G j))) ∧ ∃ q, w' = W.drewN q := by
  have ci := hc i hi
  have cj := hc j hj
  go_enter Tryz.func110, Tryz.ntmps110
  go_wp2
  go_quiet (fail)
  go_wp2
  go_ret
  exact ⟨rfl, nq, rfl⟩

theorem Tryz.sortKeys (g c Bs : Nat) (d : Array Int) (h1 : 1 ≤ d.size) (hsz : d.size < 4611686018427387904) (w : World) (hbox : w.cell? ⟨Bs, 0, none⟩ = some (.slice (some ⟨g, 0, none⟩) d.size c)) (hne : Bs ≠ g)
    (hH : Holds (Value.int .u32) w g 0 d) (hg : g < w.heap.size) (hB : Bs < w.heap.size) :
    Calls Tryz.prog 109 #[.iface 146 (.slice (some ⟨g, 0, none⟩) d.size c), .func (.func 110) #[] #[.pointer (some ⟨Bs, 0, none⟩)]] w fun e w' =>
      e = .returned (.tuple #[]) ∧ ∃ (d' : Array Int) (n : Nat) (os : Array Obj), d'.size = d.size ∧ d'.toList.Perm d.toList ∧ SortedIn ltInt 0 d.size d' ∧ w' = grow (putRow (Value.int .u32) (Sort.ahead w n) g 0 d') os := by
  by_cases h2 : 2 ≤ d.size
  · have hless : LessReads Tryz.prog 110 #[.pointer (some ⟨Bs, 0, none⟩)] (Value.int .u32) ltInt g 0 d.size w := by
      intro m os dk hs i j hi hj
      have e : sortWorld (Value.int .u32) w g 0 m dk os = putRow (Value.int .u32) (grow (Sort.ahead w m) os) g 0 dk := by
        unfold sortWorld; rw [putRow_grow _ (Sort.ahead w m) _ g 0 _ hg]
      have hHg : Holds (Value.int .u32) (grow (Sort.ahead w m) os) g 0 d := holds_grow _ _ _ g 0 d hg (holds_ahead _ _ _ _ _ _ hH)
      refine Tryz.less_keys g 0 c Bs d.size _ (fun t => dk[t]!) ?_ (fun t ht => ?_) i j hi hj
      · rw [e, cell?_putRow_other _ _ g 0 dk _ (Or.inl hne), cell?_grow _ _ _ hB]
        exact hbox
      · rw [e]; exact cell?_putRow _ _ g 0 d dk hHg hs t (by omega)
    have hS := Any.sort_Slice_sorted Tryz.sl6 146 85 Tryz.siT Tryz.siE (by kernel_rfl) (by kernel_rfl) (by kernel_rfl) (by kernel_rfl) 10 (fun _ => by kernel_rfl) (by kernel_rfl) (fun _ => by kernel_rfl) (Value.int .u32) (fun _ => rfl) ltInt swo_ltInt 110 _
      (enters_of Tryz.func110 (by kernel_rfl) rfl) g 0 c d h2 hsz 138 (by rw [Tryz.siK _ h2]; kernel_rfl) true
      (fun args W => run_callFunc_extern Tryz.func138 (by kernel_rfl) (by kernel_rfl) (by kernel_rfl) (e := Extern.ReflectliteSwapper.swap true) (by kernel_rfl) args W) _ hless hH hg
    change Calls Tryz.prog 109 _ _ _ at hS
    refine hS.mono ?_
    rintro e w' ⟨rfl, d', n, os, hp, hso, rfl⟩
    refine ⟨rfl, d', n, os, hp.1, ?_, hso, rfl⟩
    have := hp.2.2
    rwa [Array.extract_eq_self_of_le (by rw [hp.1]; exact Nat.le_refl _), Array.extract_eq_self_of_le (Nat.le_refl _)] at this
  · have hs1 : d.size = 1 := by omega
    have hS := Any.sort_Slice_tiny Tryz.sl6 146 85 Tryz.siT Tryz.siE (by kernel_rfl) (by kernel_rfl) (by kernel_rfl) (by kernel_rfl) 10 (fun _ => by kernel_rfl) (some ⟨g, 0, none⟩) d.size c (by omega) 134 (by rw [hs1]; kernel_rfl)
      (.func 110) #[] #[.pointer (some ⟨Bs, 0, none⟩)] w
    change Calls Tryz.prog 109 _ _ _ at hS
    refine hS.mono ?_
    rintro e w' ⟨rfl, os, rfl⟩
    refine ⟨rfl, d, 0, os, rfl, List.Perm.refl _, fun i j _ h2 h3 => by omega, ?_⟩
    rw [ahead_zero, putRow_self _ _ _ _ _ hH]

end Go.Proofs
