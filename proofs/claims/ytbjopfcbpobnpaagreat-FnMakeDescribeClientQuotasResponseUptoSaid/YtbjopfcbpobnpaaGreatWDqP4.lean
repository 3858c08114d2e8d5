/- FnMakeDescribeClientQuotasResponse: the statement: of every version and every tree of the bulk that the statement speaks of the law returns true, and leaves its arguments as they are. Own work. -/
import Derived.Test.YtbjopfcbpobnpaaGreatWDqP3
/- Printed by tools/mk.py. Own work. -/
namespace Go.Proofs.YtbjopfcbpobnpaaGreat.ME
open Go
open Go.RowKit
set_option linter.unusedVariables false
set_option linter.unusedSimpArgs false
set_option maxRecDepth 20000

def canDescribeClientQuotasResponseEntryEntity (T : Tree) : Prop := ((T.at_ 0).S.length ≤ 1000000) ∧ ((octOf (T.at_ 1)).length ≤ 1000000) ∧ canU T.U ∧ True
def canDescribeClientQuotasResponseEntryValue (T : Tree) : Prop := ((T.at_ 0).S.length ≤ 1000000) ∧ (True) ∧ canU T.U ∧ True
def canDescribeClientQuotasResponseEntry (T : Tree) : Prop := ((lst (T.at_ 0)).length ≤ 1000000 ∧ ∀ x ∈ lst (T.at_ 0), canDescribeClientQuotasResponseEntryEntity x) ∧ ((lst (T.at_ 1)).length ≤ 1000000 ∧ ∀ x ∈ lst (T.at_ 1), canDescribeClientQuotasResponseEntryValue x) ∧ canU T.U ∧ True
def canDescribeClientQuotasResponse (T : Tree) : Prop := (True) ∧ (True) ∧ ((octOf (T.at_ 2)).length ≤ 1000000) ∧ ((lst (T.at_ 3)).length ≤ 1000000 ∧ ∀ x ∈ lst (T.at_ 3), canDescribeClientQuotasResponseEntry x) ∧ canU T.U ∧ True
theorem canfitDescribeClientQuotasResponse (v : Int) (t : Tree) : canDescribeClientQuotasResponse (fitT v 8 sDescribeClientQuotasResponseF t) := by
  unfold canDescribeClientQuotasResponse
  exact ⟨(trivial), (trivial), (octs_le (d := 7) (show sDescribeClientQuotasResponseF[2]? = _ from rfl) (by decide)), (⟨lst_le (d := 7) (show sDescribeClientQuotasResponseF[3]? = _ from rfl), lst_mem (d := 7) (Q := canDescribeClientQuotasResponseEntry) (show sDescribeClientQuotasResponseF[3]? = _ from rfl) fun y => by
      have h := fit_10 (v := v) (d := 7) (x1 := 0) (x2 := -1) (x5 := 0) (x6 := 10) (s := [(Fld.mk 11 0 (-1) (-1) (-1) 0 10 [(Fld.mk 8 0 (-1) (-1) (-1) 0 0 []), (Fld.mk 8 0 (-1) 0 (-1) 0 0 [])]), (Fld.mk 11 0 (-1) (-1) (-1) 0 10 [(Fld.mk 8 0 (-1) (-1) (-1) 0 0 []), (Fld.mk 6 0 (-1) (-1) (-1) 0 0 [])])]) (b := Fld.nul (Fld.mk 10 0 (-1) (-1) (-1) 0 10 [(Fld.mk 11 0 (-1) (-1) (-1) 0 10 [(Fld.mk 8 0 (-1) (-1) (-1) 0 0 []), (Fld.mk 8 0 (-1) 0 (-1) 0 0 [])]), (Fld.mk 11 0 (-1) (-1) (-1) 0 10 [(Fld.mk 8 0 (-1) (-1) (-1) 0 0 []), (Fld.mk 6 0 (-1) (-1) (-1) 0 0 [])])]) v y) (x := y)
      unfold canDescribeClientQuotasResponseEntry
      simp only [h.1, h.2]
      exact ⟨(⟨lst_le (d := 6) (show [(Fld.mk 11 0 (-1) (-1) (-1) 0 10 [(Fld.mk 8 0 (-1) (-1) (-1) 0 0 []), (Fld.mk 8 0 (-1) 0 (-1) 0 0 [])]), (Fld.mk 11 0 (-1) (-1) (-1) 0 10 [(Fld.mk 8 0 (-1) (-1) (-1) 0 0 []), (Fld.mk 6 0 (-1) (-1) (-1) 0 0 [])])][0]? = _ from rfl), lst_mem (d := 6) (Q := canDescribeClientQuotasResponseEntryEntity) (show [(Fld.mk 11 0 (-1) (-1) (-1) 0 10 [(Fld.mk 8 0 (-1) (-1) (-1) 0 0 []), (Fld.mk 8 0 (-1) 0 (-1) 0 0 [])]), (Fld.mk 11 0 (-1) (-1) (-1) 0 10 [(Fld.mk 8 0 (-1) (-1) (-1) 0 0 []), (Fld.mk 6 0 (-1) (-1) (-1) 0 0 [])])][0]? = _ from rfl) fun y => by
          have h := fit_10 (v := v) (d := 6) (x1 := 0) (x2 := -1) (x5 := 0) (x6 := 10) (s := [(Fld.mk 8 0 (-1) (-1) (-1) 0 0 []), (Fld.mk 8 0 (-1) 0 (-1) 0 0 [])]) (b := Fld.nul (Fld.mk 10 0 (-1) (-1) (-1) 0 10 [(Fld.mk 8 0 (-1) (-1) (-1) 0 0 []), (Fld.mk 8 0 (-1) 0 (-1) 0 0 [])]) v y) (x := y)
          unfold canDescribeClientQuotasResponseEntryEntity
          simp only [h.1, h.2]
          exact ⟨(by rw [fit_t (d := 5) (show [(Fld.mk 8 0 (-1) (-1) (-1) 0 0 []), (Fld.mk 8 0 (-1) 0 (-1) 0 0 [])][0]? = _ from rfl) (by decide)]; exact Nat.le_trans (whole_le _) (by decide)), (octs_le (d := 5) (show [(Fld.mk 8 0 (-1) (-1) (-1) 0 0 []), (Fld.mk 8 0 (-1) 0 (-1) 0 0 [])][1]? = _ from rfl) (by decide)), (canU_fit), (trivial)⟩⟩), (⟨lst_le (d := 6) (show [(Fld.mk 11 0 (-1) (-1) (-1) 0 10 [(Fld.mk 8 0 (-1) (-1) (-1) 0 0 []), (Fld.mk 8 0 (-1) 0 (-1) 0 0 [])]), (Fld.mk 11 0 (-1) (-1) (-1) 0 10 [(Fld.mk 8 0 (-1) (-1) (-1) 0 0 []), (Fld.mk 6 0 (-1) (-1) (-1) 0 0 [])])][1]? = _ from rfl), lst_mem (d := 6) (Q := canDescribeClientQuotasResponseEntryValue) (show [(Fld.mk 11 0 (-1) (-1) (-1) 0 10 [(Fld.mk 8 0 (-1) (-1) (-1) 0 0 []), (Fld.mk 8 0 (-1) 0 (-1) 0 0 [])]), (Fld.mk 11 0 (-1) (-1) (-1) 0 10 [(Fld.mk 8 0 (-1) (-1) (-1) 0 0 []), (Fld.mk 6 0 (-1) (-1) (-1) 0 0 [])])][1]? = _ from rfl) fun y => by
          have h := fit_10 (v := v) (d := 6) (x1 := 0) (x2 := -1) (x5 := 0) (x6 := 10) (s := [(Fld.mk 8 0 (-1) (-1) (-1) 0 0 []), (Fld.mk 6 0 (-1) (-1) (-1) 0 0 [])]) (b := Fld.nul (Fld.mk 10 0 (-1) (-1) (-1) 0 10 [(Fld.mk 8 0 (-1) (-1) (-1) 0 0 []), (Fld.mk 6 0 (-1) (-1) (-1) 0 0 [])]) v y) (x := y)
          unfold canDescribeClientQuotasResponseEntryValue
          simp only [h.1, h.2]
          exact ⟨(by rw [fit_t (d := 5) (show [(Fld.mk 8 0 (-1) (-1) (-1) 0 0 []), (Fld.mk 6 0 (-1) (-1) (-1) 0 0 [])][0]? = _ from rfl) (by decide)]; exact Nat.le_trans (whole_le _) (by decide)), (trivial), (canU_fit), (trivial)⟩⟩), (canU_fit), (trivial)⟩⟩), (canU_fit), (trivial)⟩

set_option maxHeartbeats 4000000 in
theorem pureDescribeClientQuotasResponse (v : Int) (h0 : 0 ≤ v) (h1 : v < 32768) (t : Tree) : tDescribeClientQuotasResponse v (fitT v 8 sDescribeClientQuotasResponseF t) = writeB 8 sDescribeClientQuotasResponseF sDescribeClientQuotasResponseX v t := by
  have f283 : ((fitT v 8 sDescribeClientQuotasResponseF t).at_ 0).N = (t.at_ 0).N := fit_N (d := 7) (show sDescribeClientQuotasResponseF[0]? = _ from rfl) (by decide)
  have f284 : ((fitT v 8 sDescribeClientQuotasResponseF t).at_ 1).N = (t.at_ 1).N := fit_N (d := 7) (show sDescribeClientQuotasResponseF[1]? = _ from rfl) (by decide)
  have f285 := fit_o (v := v) (d := 7) (t := t) (l := sDescribeClientQuotasResponseF) (i := 2) (show sDescribeClientQuotasResponseF[2]? = _ from rfl) (by decide)
  obtain ⟨f286n, f286⟩ := fit_11 (v := v) (d := 7) (t := t) (l := sDescribeClientQuotasResponseF) (i := 3) (show sDescribeClientQuotasResponseF[3]? = _ from rfl)
  have el288 : ∀ y287 : Tree, (fun Ek44 : Tree => ((if (decide (v ≥ 1)) = true then (uv ((lst (Ek44.at_ 0)).length + 1)) else (be 4 (lst (Ek44.at_ 0)).length)) ++ ((lst (Ek44.at_ 0)).flatMap fun Ek49 => (if (decide (v ≥ 1)) = true then (uv ((Ek49.at_ 0).S.length + 1) ++ (Ek49.at_ 0).S) else (be 2 (Ek49.at_ 0).S.length ++ (Ek49.at_ 0).S)) ++ ((if (decide (v ≥ 1)) = true then (if (Ek49.at_ 1).null = true then uv 0 else uv ((octOf (Ek49.at_ 1)).length + 1) ++ (octOf (Ek49.at_ 1))) else (if (Ek49.at_ 1).null = true then be 2 (-1) else be 2 (octOf (Ek49.at_ 1)).length ++ (octOf (Ek49.at_ 1)))) ++ (if (decide (v ≥ 1)) = true then (uv Ek49.U.length) ++ (tagsR Ek49.U) else [])))) ++ (((if (decide (v ≥ 1)) = true then (uv ((lst (Ek44.at_ 1)).length + 1)) else (be 4 (lst (Ek44.at_ 1)).length)) ++ ((lst (Ek44.at_ 1)).flatMap fun Ek54 => (if (decide (v ≥ 1)) = true then (uv ((Ek54.at_ 0).S.length + 1) ++ (Ek54.at_ 0).S) else (be 2 (Ek54.at_ 0).S.length ++ (Ek54.at_ 0).S)) ++ ((be 8 (((IntKind.u64.wrap (Ek54.at_ 1).N).toNat) : Int)) ++ (if (decide (v ≥ 1)) = true then (uv Ek54.U.length) ++ (tagsR Ek54.U) else [])))) ++ (if (decide (v ≥ 1)) = true then (uv Ek44.U.length) ++ (tagsR Ek44.U) else []))) (fitted0 (fitT v 7) (Fld.mk 10 0 (-1) (-1) (-1) 0 10 [(Fld.mk 11 0 (-1) (-1) (-1) 0 10 [(Fld.mk 8 0 (-1) (-1) (-1) 0 0 []), (Fld.mk 8 0 (-1) 0 (-1) 0 0 [])]), (Fld.mk 11 0 (-1) (-1) (-1) 0 10 [(Fld.mk 8 0 (-1) (-1) (-1) 0 0 []), (Fld.mk 6 0 (-1) (-1) (-1) 0 0 [])])]) (Fld.nul (Fld.mk 10 0 (-1) (-1) (-1) 0 10 [(Fld.mk 11 0 (-1) (-1) (-1) 0 10 [(Fld.mk 8 0 (-1) (-1) (-1) 0 0 []), (Fld.mk 8 0 (-1) 0 (-1) 0 0 [])]), (Fld.mk 11 0 (-1) (-1) (-1) 0 10 [(Fld.mk 8 0 (-1) (-1) (-1) 0 0 []), (Fld.mk 6 0 (-1) (-1) (-1) 0 0 [])])]) v y287) y287) = partB 7 [(Fld.mk 11 0 (-1) (-1) (-1) 0 10 [(Fld.mk 8 0 (-1) (-1) (-1) 0 0 []), (Fld.mk 8 0 (-1) 0 (-1) 0 0 [])]), (Fld.mk 11 0 (-1) (-1) (-1) 0 10 [(Fld.mk 8 0 (-1) (-1) (-1) 0 0 []), (Fld.mk 6 0 (-1) (-1) (-1) 0 0 [])])] v (decide (v ≥ 1)) y287 := by
    intro y287
    dsimp only
    obtain ⟨g2891, g2892⟩ := fit_10 (v := v) (d := 7) (x1 := 0) (x2 := -1) (x5 := 0) (x6 := 10) (s := [(Fld.mk 11 0 (-1) (-1) (-1) 0 10 [(Fld.mk 8 0 (-1) (-1) (-1) 0 0 []), (Fld.mk 8 0 (-1) 0 (-1) 0 0 [])]), (Fld.mk 11 0 (-1) (-1) (-1) 0 10 [(Fld.mk 8 0 (-1) (-1) (-1) 0 0 []), (Fld.mk 6 0 (-1) (-1) (-1) 0 0 [])])]) (b := Fld.nul (Fld.mk 10 0 (-1) (-1) (-1) 0 10 [(Fld.mk 11 0 (-1) (-1) (-1) 0 10 [(Fld.mk 8 0 (-1) (-1) (-1) 0 0 []), (Fld.mk 8 0 (-1) 0 (-1) 0 0 [])]), (Fld.mk 11 0 (-1) (-1) (-1) 0 10 [(Fld.mk 8 0 (-1) (-1) (-1) 0 0 []), (Fld.mk 6 0 (-1) (-1) (-1) 0 0 [])])]) v y287) (x := y287)
    simp only [g2891, g2892]
    obtain ⟨f290n, f290⟩ := fit_11 (v := v) (d := 6) (t := y287) (l := [(Fld.mk 11 0 (-1) (-1) (-1) 0 10 [(Fld.mk 8 0 (-1) (-1) (-1) 0 0 []), (Fld.mk 8 0 (-1) 0 (-1) 0 0 [])]), (Fld.mk 11 0 (-1) (-1) (-1) 0 10 [(Fld.mk 8 0 (-1) (-1) (-1) 0 0 []), (Fld.mk 6 0 (-1) (-1) (-1) 0 0 [])])]) (i := 0) (show [(Fld.mk 11 0 (-1) (-1) (-1) 0 10 [(Fld.mk 8 0 (-1) (-1) (-1) 0 0 []), (Fld.mk 8 0 (-1) 0 (-1) 0 0 [])]), (Fld.mk 11 0 (-1) (-1) (-1) 0 10 [(Fld.mk 8 0 (-1) (-1) (-1) 0 0 []), (Fld.mk 6 0 (-1) (-1) (-1) 0 0 [])])][0]? = _ from rfl)
    obtain ⟨f291n, f291⟩ := fit_11 (v := v) (d := 6) (t := y287) (l := [(Fld.mk 11 0 (-1) (-1) (-1) 0 10 [(Fld.mk 8 0 (-1) (-1) (-1) 0 0 []), (Fld.mk 8 0 (-1) 0 (-1) 0 0 [])]), (Fld.mk 11 0 (-1) (-1) (-1) 0 10 [(Fld.mk 8 0 (-1) (-1) (-1) 0 0 []), (Fld.mk 6 0 (-1) (-1) (-1) 0 0 [])])]) (i := 1) (show [(Fld.mk 11 0 (-1) (-1) (-1) 0 10 [(Fld.mk 8 0 (-1) (-1) (-1) 0 0 []), (Fld.mk 8 0 (-1) 0 (-1) 0 0 [])]), (Fld.mk 11 0 (-1) (-1) (-1) 0 10 [(Fld.mk 8 0 (-1) (-1) (-1) 0 0 []), (Fld.mk 6 0 (-1) (-1) (-1) 0 0 [])])][1]? = _ from rfl)
    have el293 : ∀ y292 : Tree, (fun Ek49 : Tree => (if (decide (v ≥ 1)) = true then (uv ((Ek49.at_ 0).S.length + 1) ++ (Ek49.at_ 0).S) else (be 2 (Ek49.at_ 0).S.length ++ (Ek49.at_ 0).S)) ++ ((if (decide (v ≥ 1)) = true then (if (Ek49.at_ 1).null = true then uv 0 else uv ((octOf (Ek49.at_ 1)).length + 1) ++ (octOf (Ek49.at_ 1))) else (if (Ek49.at_ 1).null = true then be 2 (-1) else be 2 (octOf (Ek49.at_ 1)).length ++ (octOf (Ek49.at_ 1)))) ++ (if (decide (v ≥ 1)) = true then (uv Ek49.U.length) ++ (tagsR Ek49.U) else []))) (fitted0 (fitT v 6) (Fld.mk 10 0 (-1) (-1) (-1) 0 10 [(Fld.mk 8 0 (-1) (-1) (-1) 0 0 []), (Fld.mk 8 0 (-1) 0 (-1) 0 0 [])]) (Fld.nul (Fld.mk 10 0 (-1) (-1) (-1) 0 10 [(Fld.mk 8 0 (-1) (-1) (-1) 0 0 []), (Fld.mk 8 0 (-1) 0 (-1) 0 0 [])]) v y292) y292) = partB 6 [(Fld.mk 8 0 (-1) (-1) (-1) 0 0 []), (Fld.mk 8 0 (-1) 0 (-1) 0 0 [])] v (decide (v ≥ 1)) y292 := by
      intro y292
      dsimp only
      obtain ⟨g2941, g2942⟩ := fit_10 (v := v) (d := 6) (x1 := 0) (x2 := -1) (x5 := 0) (x6 := 10) (s := [(Fld.mk 8 0 (-1) (-1) (-1) 0 0 []), (Fld.mk 8 0 (-1) 0 (-1) 0 0 [])]) (b := Fld.nul (Fld.mk 10 0 (-1) (-1) (-1) 0 10 [(Fld.mk 8 0 (-1) (-1) (-1) 0 0 []), (Fld.mk 8 0 (-1) 0 (-1) 0 0 [])]) v y292) (x := y292)
      simp only [g2941, g2942]
      have f295 := fit_t (v := v) (d := 5) (t := y292) (l := [(Fld.mk 8 0 (-1) (-1) (-1) 0 0 []), (Fld.mk 8 0 (-1) 0 (-1) 0 0 [])]) (i := 0) (show [(Fld.mk 8 0 (-1) (-1) (-1) 0 0 []), (Fld.mk 8 0 (-1) 0 (-1) 0 0 [])][0]? = _ from rfl) (by decide)
      have f296 := fit_o (v := v) (d := 5) (t := y292) (l := [(Fld.mk 8 0 (-1) (-1) (-1) 0 0 []), (Fld.mk 8 0 (-1) 0 (-1) 0 0 [])]) (i := 1) (show [(Fld.mk 8 0 (-1) (-1) (-1) 0 0 []), (Fld.mk 8 0 (-1) 0 (-1) 0 0 [])][1]? = _ from rfl) (by decide)
      simp only [fit_U, tagsR_whole, wholeU_len, List.flatMap_map, List.length_map, f295, f296.1, f296.2]
      try simp only [be4_i32', be2_i16, be8_i64, be1_i8, be2_wrap, sixteenB_uuid, bool8, be8_f64]
      by_cases c0 : v ≥ 1 <;> by_cases n0 : Fld.nul (Fld.mk 8 0 (-1) 0 (-1) 0 0 []) v (y292.at_ 1) = true <;> (try have m0 := nul_ge n0) <;> first | (exfalso; omega) | simp [partB, partW, bodyB, Fld.tag, Fld.has, fieldB, Fld.kind, Fld.null, Fld.of, Fld.sub, valueB, widthI, tagsN, tagsK, knownI, countedB, uv0, nul_no, c0, n0, h0]
    have el298 : ∀ y297 : Tree, (fun Ek54 : Tree => (if (decide (v ≥ 1)) = true then (uv ((Ek54.at_ 0).S.length + 1) ++ (Ek54.at_ 0).S) else (be 2 (Ek54.at_ 0).S.length ++ (Ek54.at_ 0).S)) ++ ((be 8 (((IntKind.u64.wrap (Ek54.at_ 1).N).toNat) : Int)) ++ (if (decide (v ≥ 1)) = true then (uv Ek54.U.length) ++ (tagsR Ek54.U) else []))) (fitted0 (fitT v 6) (Fld.mk 10 0 (-1) (-1) (-1) 0 10 [(Fld.mk 8 0 (-1) (-1) (-1) 0 0 []), (Fld.mk 6 0 (-1) (-1) (-1) 0 0 [])]) (Fld.nul (Fld.mk 10 0 (-1) (-1) (-1) 0 10 [(Fld.mk 8 0 (-1) (-1) (-1) 0 0 []), (Fld.mk 6 0 (-1) (-1) (-1) 0 0 [])]) v y297) y297) = partB 6 [(Fld.mk 8 0 (-1) (-1) (-1) 0 0 []), (Fld.mk 6 0 (-1) (-1) (-1) 0 0 [])] v (decide (v ≥ 1)) y297 := by
      intro y297
      dsimp only
      obtain ⟨g2991, g2992⟩ := fit_10 (v := v) (d := 6) (x1 := 0) (x2 := -1) (x5 := 0) (x6 := 10) (s := [(Fld.mk 8 0 (-1) (-1) (-1) 0 0 []), (Fld.mk 6 0 (-1) (-1) (-1) 0 0 [])]) (b := Fld.nul (Fld.mk 10 0 (-1) (-1) (-1) 0 10 [(Fld.mk 8 0 (-1) (-1) (-1) 0 0 []), (Fld.mk 6 0 (-1) (-1) (-1) 0 0 [])]) v y297) (x := y297)
      simp only [g2991, g2992]
      have f300 := fit_t (v := v) (d := 5) (t := y297) (l := [(Fld.mk 8 0 (-1) (-1) (-1) 0 0 []), (Fld.mk 6 0 (-1) (-1) (-1) 0 0 [])]) (i := 0) (show [(Fld.mk 8 0 (-1) (-1) (-1) 0 0 []), (Fld.mk 6 0 (-1) (-1) (-1) 0 0 [])][0]? = _ from rfl) (by decide)
      have f301 : ((fitT v 6 [(Fld.mk 8 0 (-1) (-1) (-1) 0 0 []), (Fld.mk 6 0 (-1) (-1) (-1) 0 0 [])] y297).at_ 1).N = (y297.at_ 1).N := fit_N (d := 5) (show [(Fld.mk 8 0 (-1) (-1) (-1) 0 0 []), (Fld.mk 6 0 (-1) (-1) (-1) 0 0 [])][1]? = _ from rfl) (by decide)
      simp only [fit_U, tagsR_whole, wholeU_len, List.flatMap_map, List.length_map, f300, f301]
      try simp only [be4_i32', be2_i16, be8_i64, be1_i8, be2_wrap, sixteenB_uuid, bool8, be8_f64]
      by_cases c0 : v ≥ 1 <;> first | (exfalso; omega) | simp [partB, partW, bodyB, Fld.tag, Fld.has, fieldB, Fld.kind, Fld.null, Fld.of, Fld.sub, valueB, widthI, tagsN, tagsK, knownI, countedB, uv0, nul_no, c0, h0]
    simp only [fit_U, tagsR_whole, wholeU_len, List.flatMap_map, List.length_map, f290n, f290, f291n, f291]
    simp only [el293, el298]
    try simp only [be4_i32', be2_i16, be8_i64, be1_i8, be2_wrap, sixteenB_uuid, bool8, be8_f64]
    by_cases c0 : v ≥ 1 <;> first | (exfalso; omega) | simp [partB, partW, bodyB, Fld.tag, Fld.has, fieldB, Fld.kind, Fld.null, Fld.of, Fld.sub, valueB, widthI, tagsN, tagsK, knownI, countedB, uv0, nul_no, c0, h0]
  unfold tDescribeClientQuotasResponse
  simp only [fit_U, tagsR_whole, wholeU_len, List.flatMap_map, List.length_map, f283, f284, f285.1, f285.2, f286n, f286]
  simp only [el288]
  try simp only [be4_i32', be2_i16, be8_i64, be1_i8, be2_wrap, sixteenB_uuid, bool8, be8_f64]
  by_cases c0 : v ≥ 1 <;> by_cases n0 : Fld.nul (Fld.mk 8 0 (-1) 0 (-1) 0 0 []) v (t.at_ 2) = true <;> by_cases n1 : Fld.nul (Fld.mk 11 0 (-1) 0 (-1) 0 10 [(Fld.mk 11 0 (-1) (-1) (-1) 0 10 [(Fld.mk 8 0 (-1) (-1) (-1) 0 0 []), (Fld.mk 8 0 (-1) 0 (-1) 0 0 [])]), (Fld.mk 11 0 (-1) (-1) (-1) 0 10 [(Fld.mk 8 0 (-1) (-1) (-1) 0 0 []), (Fld.mk 6 0 (-1) (-1) (-1) 0 0 [])])]) v (t.at_ 3) = true <;> (try have m0 := nul_ge n0) <;> (try have m1 := nul_ge n1) <;> first | (exfalso; omega) | simp [writeB, sDescribeClientQuotasResponseX, sDescribeClientQuotasResponseF, partB, partW, bodyB, Fld.tag, Fld.has, fieldB, Fld.kind, Fld.null, Fld.of, Fld.sub, valueB, widthI, tagsN, tagsK, knownI, countedB, uv0, nul_no, c0, n0, n1, h0]

end Go.Proofs.YtbjopfcbpobnpaaGreat.ME

/- Things of a message in a row that is being laid. Own work. -/
namespace Go.Proofs.YtbjopfcbpobnpaaGreat.ME
open Go
set_option linter.unusedVariables false
set_option linter.unusedSimpArgs false

def dv0 : DV := .leaf
/-- data in a row: its cells one behind the other, each as it must lie, each against its tree -/
structure Row_ (size : Nat) (cells : DV → List Value) (ok : DV → Prop) (rel : DV → Tree → Prop) (xs : List Value) (ds : List DV) (ts : List Tree) : Prop where
  flat : Flat size xs (ds.map cells)
  each : ∀ d ∈ ds, ok d
  len : ds.length = ts.length
  rel_ : ∀ (i : Nat) (d : DV) (t : Tree), ds[i]? = some d → ts[i]? = some t → rel d t
theorem Row_.nil {size : Nat} {cells : DV → List Value} {ok : DV → Prop} {rel : DV → Tree → Prop} : Row_ size cells ok rel [] [] [] :=
  ⟨Flat.nil size, (fun _ h => by cases h), rfl, fun i d t h => by simp at h⟩
theorem Row_.mono {size : Nat} {cells : DV → List Value} {ok ok' : DV → Prop} {rel : DV → Tree → Prop} {xs : List Value} {ds : List DV} {ts : List Tree} (h : Row_ size cells ok rel xs ds ts) (hk : ∀ d, ok d → ok' d) : Row_ size cells ok' rel xs ds ts :=
  ⟨h.flat, fun d hd => hk d (h.each d hd), h.len, h.rel_⟩
theorem Row_.snoc {size : Nat} {cells : DV → List Value} {ok : DV → Prop} {rel : DV → Tree → Prop} {xs : List Value} {ds : List DV} {ts : List Tree} (h : Row_ size cells ok rel xs ds ts) {d : DV} {t : Tree} (hc : (cells d).length = size) (ho : ok d) (hr : rel d t) :
    Row_ size cells ok rel (xs ++ cells d) (ds ++ [d]) (ts ++ [t]) := by
  refine ⟨?_, fun d' hd => ?_, by simp [h.len], fun i d' t' h1 h2 => ?_⟩
  · rw [List.map_append, List.map_cons, List.map_nil]
    exact h.flat.snoc hc
  · rcases List.mem_append.1 hd with hd | hd
    · exact h.each d' hd
    · rw [List.mem_singleton.1 hd]; exact ho
  · have hl := h.len
    rcases get_snoc h1 with h1 | ⟨h1, rfl⟩
    · rcases get_snoc h2 with h2 | ⟨h2, _⟩
      · exact h.rel_ i d' t' h1 h2
      · have := (List.getElem?_eq_some_iff.1 h1).1; omega
    · rcases get_snoc h2 with h2 | ⟨_, rfl⟩
      · have := (List.getElem?_eq_some_iff.1 h2).1; omega
      · exact hr
theorem Row_.slots {w : World} {e size c n : Nat} {A : Option Addr} {cells : DV → List Value} {ok : DV → Prop} {rel : DV → Tree → Prop} {xs : List Value} {ds : List DV} {ts : List Tree} (h : Row_ size cells ok rel xs ds ts) (ho : w.ownsRow 0 e size (.slice A n c) n xs) (hn : n = ts.length) (h1 : ∀ d, ∀ u ∈ cells d, u.oneCell' = true) (hsm : ts.length ≤ 1099511627776) {F : Nat → Nat → Prop} (hF : ∀ g, A.map (·.block) = some g → ∀ o, F g o) :
    Slots w F size A c n (fun i => cells (ds.getD i dv0)) ∧ (∀ i, i < n → ok (ds.getD i dv0)) ∧ ∀ i, i < n → rel (ds.getD i dv0) (ts.getD i .zero) := by
  have hl := h.len
  have hnd : n = ds.length := by omega
  subst hnd
  have hcl : (ds.map cells).length = ds.length := List.length_map ..
  have hs := h.flat.slots (A := A) (c := c) (F := F) (by rw [hcl]; exact ho) (fun u hu => by
    rw [h.flat.eq] at hu
    obtain ⟨cs, hcs, hu⟩ := List.mem_flatten.1 hu
    obtain ⟨d, _, rfl⟩ := List.mem_map.1 hcs
    exact h1 d u hu) (by rw [hcl]; omega) hF
  rw [hcl] at hs
  have hg : ∀ i, i < ds.length → (ds.map cells).getD i [] = cells (ds.getD i dv0) := fun i hi => by
    rw [List.getD_eq_getElem?_getD, List.getElem?_map, List.getD_eq_getElem?_getD, List.getElem?_eq_getElem hi]; rfl
  refine ⟨⟨hs.le, hs.small, hs.none_, fun ad hA h0 => ?_⟩, fun i hi => ?_, fun i hi => ?_⟩
  · obtain ⟨b, o, h2, h3⟩ := hs.some_ ad hA h0
    exact ⟨b, o, h2, fun i hi => by have := h3 i hi; rw [hg i hi] at this; exact this⟩
  · rw [List.getD_eq_getElem?_getD, List.getElem?_eq_getElem hi]
    exact h.each _ (List.getElem_mem hi)
  · have hi' : i < ts.length := by omega
    refine h.rel_ i _ _ ?_ ?_
    · rw [List.getD_eq_getElem?_getD, List.getElem?_eq_getElem hi]; rfl
    · rw [List.getD_eq_getElem?_getD, List.getElem?_eq_getElem hi']; rfl

end Go.Proofs.YtbjopfcbpobnpaaGreat.ME

/- Lists of a message, laid anew: data against trees. Own work. -/
namespace Go.Proofs.YtbjopfcbpobnpaaGreat.ME
open Go
open Go.RowKit
set_option linter.unusedVariables false
set_option linter.unusedSimpArgs false

/-- what is known of data stays known where nothing of it is written -/
def Moves (ok : World → (Nat → Nat → Prop) → DV → Prop) : Prop := ∀ {w w' : World} {F F' M : Nat → Nat → Prop} (d : DV), Step w w' M → (∀ b o, F b o → b < w.heap.size → ¬ M b o) → (∀ b o, F b o → b < w.heap.size → F' b o) → ok w F d → ok w' F' d
/-- things in a row that is being laid -/
structure RowL (w : World) (F : Nat → Nat → Prop) (size : Nat) (cells : DV → List Value) (ok : World → (Nat → Nat → Prop) → DV → Prop) (rel : DV → Tree → Prop) (xs : List Value) (ds : List DV) (ts : List Tree) : Prop where
  mv : Moves ok
  row : Row_ size cells (ok w F) rel xs ds ts
/-- a list, laid -/
structure LstR (w : World) (F : Nat → Nat → Prop) (size : Nat) (cells : DV → List Value) (ok : World → (Nat → Nat → Prop) → DV → Prop) (rel : DV → Tree → Prop) (A : Option Addr) (c : Nat) (f : Nat → DV) (ts : List Tree) : Prop where
  mv : Moves ok
  slots : Slots w F size A c ts.length (fun i => cells (f i))
  each : ∀ i, i < ts.length → ok w F (f i)
  rel_ : ∀ i, i < ts.length → rel (f i) (ts.getD i .zero)
section
variable {w w' w0 : World} {F F' M : Nat → Nat → Prop} {size : Nat} {cells : DV → List Value} {ok : World → (Nat → Nat → Prop) → DV → Prop} {rel : DV → Tree → Prop} {xs : List Value} {ds : List DV} {ts : List Tree} {A : Option Addr} {c : Nat} {f : Nat → DV} {tb : Tb} {rs rs' : List Rw}
theorem RowL.move (h : RowL w F size cells ok rel xs ds ts) (hs : Step w w' M) (hM : ∀ b o, F b o → b < w.heap.size → ¬ M b o) (hF : ∀ b o, F b o → b < w.heap.size → F' b o) : RowL w' F' size cells ok rel xs ds ts :=
  ⟨h.mv, h.row.mono fun d hd => h.mv d hs hM hF hd⟩
theorem RowL.nil (mv : Moves ok) : RowL w F size cells ok rel [] [] [] := ⟨mv, Row_.nil⟩
theorem RowL.snoc {l : List Tree} {k : Nat} {t : Tree} {d : DV} (h : RowL w F size cells ok rel xs ds (l.take k)) (hk : l[k]? = some t) (hc : (cells d).length = size) (ho : ok w F d) (hr : rel d t) : RowL w F size cells ok rel (xs ++ cells d) (ds ++ [d]) (l.take (k + 1)) := by
  rw [take_succ_of hk]
  exact ⟨h.mv, h.row.snoc hc ho hr⟩
theorem LstR.move (h : LstR w F size cells ok rel A c f ts) (hs : Step w w' M) (hM : ∀ b o, F b o → b < w.heap.size → ¬ M b o) (hF : ∀ b o, F b o → b < w.heap.size → F' b o) : LstR w' F' size cells ok rel A c f ts :=
  ⟨h.mv, h.slots.move hs hM hF, fun i hi => h.mv _ hs hM hF (h.each i hi), h.rel_⟩
theorem LstR.nil (mv : Moves ok) : LstR w F size cells ok rel none 0 (fun _ => dv0) [] :=
  ⟨mv, Slots.nil _ _ _ _, fun i hi => by simp at hi, fun i hi => by simp at hi⟩
/-- the row is full: it is not written any more -/
theorem LstR.of {e n k : Nat} {G : Nat → Nat → Prop} (hW : WOk w0 Nil w tb rs) (hk : rs[k]? = some ⟨A, c, e, size, n, xs⟩) (h : RowL w (Imm G w0 w tb rs) size cells ok rel xs ds (ts.take n)) (hn : n = ts.length) (h1 : ∀ d, ∀ u ∈ cells d, u.oneCell' = true) (hsm : ts.length ≤ 1099511627776) (hr : rs.take k = rs' := by rfl) :
    LstR w (Imm G w0 w tb rs') size cells ok rel A c (fun i => ds.getD i dv0) ts := by
  subst hr
  rw [hn, List.take_length] at h
  have hI : ∀ b o, Imm G w0 w tb rs b o → b < w.heap.size → Imm G w0 w tb (rs.take k) b o := fun b o hi hb => by
    refine ⟨hi.1, hi.2.1, fun ha => hi.2.2 ?_⟩
    rcases ha with ha | ⟨i, r, h2, h3⟩
    · exact .inl ha
    · rw [List.getElem?_take] at h2
      split at h2
      · exact .inr ⟨i, r, h2, h3⟩
      · cases h2
  have h' := h.move (Step.refl w Nil) nilM hI
  obtain ⟨g1, g2, g3⟩ := h'.row.slots (hW.own k _ hk) hn h1 hsm (F := Imm G w0 w tb (rs.take k)) (fun g hg o => by
    have hb := own_live (hW.own k _ hk) (r := ⟨A, c, e, size, n, xs⟩) hg
    refine ⟨?_, hb, fun ha => ?_⟩
    · rcases hW.ownM k _ hk g hg with h2 | h2
      · exact .inr h2
      · exact (h2 0).elim
    · rcases ha with ⟨i, ob, h2, _, h3, _⟩ | ⟨i, r, h2, h3⟩
      · exact hW.rtb k _ hk g hg i ob h2 h3
      · rw [List.getElem?_take] at h2
        split at h2
        · rename_i hlt
          exact hW.rr k i _ r (by omega) hk h2 g hg h3
        · cases h2)
  rw [hn] at g1 g2 g3
  exact ⟨h'.mv, g1, g2, g3⟩
end
theorem lst_of {t : Tree} (h : t.null = false) : lst t = t.L := by unfold lst; rw [h]; rfl
theorem lst_no {t : Tree} (h : t.null = true) : lst t = [] := by unfold lst; rw [h]; rfl
/-- two ways that come together again -/
theorem wp_join {P : Program} {c : Code} {Mid N : Act → World → Prop} {Q : Exit → Act → World → Prop} {a : Act} {w : World} (h1 : c.wp P (Exit.then Mid Q) a w) (h2 : ∀ a' w', Mid a' w' → N a' w') : c.wp P (Exit.then N Q) a w :=
  wp_mono h1 fun e a' w' h => by
    cases e <;> first | exact h2 a' w' h | exact h
/-- a number as a datum -/
def dvN (n : Int) : DV := .mk n false ByteArray.empty [] none 0 0 none [] (fun _ => .leaf)
def dvF (l : Nat) : DV := .mk 0 false ByteArray.empty [] none l 0 none [] (fun _ => .leaf)
def dvS (s : ByteArray) : DV := .mk 0 false s [] none 0 0 none [] (fun _ => .leaf)
def dvT (A : Option Addr) (s : ByteArray) : DV := .mk 0 false s [] A 0 0 none [] (fun _ => .leaf)
def dvL (A : Option Addr) (l c : Nat) (f : Nat → DV) : DV := .mk 0 false ByteArray.empty [] A l c none [] f
def dvP (m : Option Nat) (u : List (Int × Bs)) (fs : List DV) : DV := .mk 0 false ByteArray.empty [] none 0 0 m u (fun i => fs.getD i .leaf)

/-- behind the setting of tags: the table and the frame -/
theorem TL.tab {w wL w1 : World} {F : Nat → Nat → Prop} {p off : Nat} {cs0 : List Value} {m : Option Nat} {u : List (Int × Bs)} {tb : Tb} {rs : List Rw} (h : TL w wL w1 F p off cs0 m u) (hW : WOk w Nil wL tb rs) (i : Nat) (tb' : Tb) (hi : tb[i]? = some ⟨p, 0, cs0, true⟩) (ht : tb.set i ⟨p, 0, cs0.set off (.map m), true⟩ = tb' := by rfl) (ho : Nat.blt off cs0.length = true := by kernel_rfl) :
    WOk w Nil w1 tb' rs ∧ Fr wL tb rs w1 tb' rs := by
  subst ht
  have ho' : off < cs0.length := by simpa [Nat.blt_eq] using ho
  have hil : i < tb.length := (List.getElem?_eq_some_iff.1 hi).1
  have key : ∀ (j : Nat) (o : Ob), (tb.set i ⟨p, 0, cs0.set off (.map m), true⟩)[j]? = some o → (j = i ∧ o = ⟨p, 0, cs0.set off (.map m), true⟩) ∨ (j ≠ i ∧ tb[j]? = some o) := fun j o hj => by
    rcases set_get hj with ⟨h1, h2, _⟩ | ⟨h1, h2⟩
    · exact .inl ⟨h1, h2⟩
    · exact .inr ⟨h1, h2⟩
  have far : ∀ (j : Nat) (o : Ob), j ≠ i → tb[j]? = some o → ∀ q, q < o.cells.length → ¬ (o.blk = p ∧ o.off + q = off) := fun j o hne hj q hq e => by
    rcases hW.apart j i o _ hne hj hi (.inr rfl) with h1 | h1 | h1
    · exact h1 e.1
    · simp only [Nat.le_zero] at h1; omega
    · simp only [Nat.zero_add] at h1; omega
  have act : ∀ b o, Act_ (tb.set i ⟨p, 0, cs0.set off (.map m), true⟩) rs b o → Act_ tb rs b o := fun b o ha => by
    rcases ha with ⟨j, ob, hj, h1, h2, h3, h4⟩ | ha
    · rcases key j ob hj with ⟨rfl, rfl⟩ | ⟨_, hj⟩
      · exact .inl ⟨j, _, hi, rfl, h2, h3, by simpa using h4⟩
      · exact .inl ⟨j, ob, hj, h1, h2, h3, h4⟩
    · exact .inr ha
  refine ⟨⟨h.step, ?_, ?_, ?_, ?_, ?_, hW.ownM, ?_, hW.rr⟩, ⟨fun b o _ hn ha => hn (act b o ha), h.keep.mono fun b o _ e => .inl ⟨i, _, hi, rfl, e.1.symm, Nat.zero_le _, by simpa [e.2] using ho'⟩⟩⟩
  · intro j o hj q v hv
    rcases key j o hj with ⟨rfl, rfl⟩ | ⟨hne, hj⟩
    · dsimp only
      rw [Nat.zero_add]
      exact h.str.at_ q v hv
    · exact h.keep.cell (far j o hne hj q (List.getElem?_eq_some_iff.1 hv).1) (hW.cells j o hj q v hv)
  · intro j o hj
    rcases key j o hj with ⟨rfl, rfl⟩ | ⟨_, hj⟩
    · have h1 := hW.live j _ hi
      exact Nat.lt_of_lt_of_le h1 h.keep.size
    · exact Nat.lt_of_lt_of_le (hW.live j o hj) h.keep.size
  · intro j o hj hr q hq
    rcases key j o hj with ⟨rfl, rfl⟩ | ⟨hne, hj⟩
    · dsimp only at hq ⊢
      refine ⟨(hW.rw_ j _ hi rfl q (by simpa using hq)).1, ?_⟩
      rw [Nat.zero_add]
      exact h.str.frz q hq
    · obtain ⟨h1, h2⟩ := hW.rw_ j o hj hr q hq
      exact ⟨h1, h.keep.frozen (far j o hne hj q hq) (hW.cells j o hj q _ (List.getElem?_eq_getElem hq)) h2⟩
  · intro j k o o' hjk hj hk hw
    rcases key j o hj with ⟨rfl, rfl⟩ | ⟨hne, hj'⟩
    · rcases key k o' hk with ⟨rfl, rfl⟩ | ⟨hne', hk'⟩
      · exact absurd rfl hjk
      · have := hW.apart j k _ o' hjk hi hk' (.inl rfl)
        simpa using this
    · rcases key k o' hk with ⟨rfl, rfl⟩ | ⟨hne', hk'⟩
      · have := hW.apart j k o _ hjk hj' hi (.inr rfl)
        simpa using this
      · exact hW.apart j k o o' hjk hj' hk' hw
  · intro j r hj
    refine own_keep (hW.own j r hj) fun g hg => (h.keep.keeps g (own_live (hW.own j r hj) hg)).1 fun o e => ?_
    exact hW.rtb j r hj g hg i _ hi e.1.symm
  · intro j r hj g hg k o hk
    rcases key k o hk with ⟨rfl, rfl⟩ | ⟨_, hk⟩
    · have h1 := hW.rtb j r hj g hg k _ hi
      exact h1
    · exact hW.rtb j r hj g hg k o hk
/-- the tags that have been set, as the call's own that is not written any more -/
theorem TL.mapImm {w wL w1 : World} {F : Nat → Nat → Prop} {p off : Nat} {cs0 : List Value} {m : Option Nat} {u : List (Int × Bs)} {tb tb' : Tb} {rs : List Rw} (h : TL w wL w1 F p off cs0 m u) (hW : WOk w Nil wL tb rs) (hW' : WOk w Nil w1 tb' rs) (hf : Fr wL tb rs w1 tb' rs) (hs : Sorted u) (hr : ∀ x ∈ u, 0 ≤ x.1 ∧ x.1 < 4294967296) (hl : tb'.map (·.blk) = tb.map (·.blk) := by rfl) : MapR w1 (Imm F w w1 tb' rs) m u := by
  have blk : ∀ b o, Act_ tb' rs b o → w.heap.size ≤ b ∧ b < wL.heap.size := fun b o ha => by
    rcases ha with ⟨j, ob, hj, h1, rfl, h3, h4⟩ | ⟨j, r, hj, hb⟩
    · have hm : (tb'.map (·.blk))[j]? = some ob.blk := by rw [List.getElem?_map, hj]; rfl
      rw [hl, List.getElem?_map] at hm
      obtain ⟨ob', hk, e⟩ := Option.map_eq_some_iff.1 hm
      refine ⟨?_, by rw [← e]; exact hW.live j ob' hk⟩
      rcases (hW'.rw_ j ob hj h1 (o - ob.off) (by omega)).1 with h5 | h5
      · exact h5
      · exact h5.elim
    · refine ⟨?_, own_live (hW.own j r hj) hb⟩
      rcases hW.ownM j r hj b hb with h5 | h5
      · exact h5
      · exact (h5 0).elim
  have hb := h.big
  refine h.own.map (fun b o h1 => ⟨.inl h1.1, Nat.lt_of_lt_of_le h1.2 h.step.size, fun ha => ?_⟩) (fun r o e => ?_) hs hr
  · have := blk b o ha; have := h1.2; omega
  · have h1 := h.new r e
    obtain ⟨es, clk, h2, _⟩ := h.own.some_ r e
    refine ⟨.inr (Nat.le_trans hb h1), (Array.getElem?_eq_some_iff.1 h2).1, fun ha => ?_⟩
    have := blk r o ha; omega
theorem own_some {w0 w : World} {M : Nat → Nat → Prop} {tb : Tb} {rs : List Rw} {k e size n c : Nat} {A : Option Addr} {xs : List Value} (hW : WOk w0 M w tb rs) (hk : rs[k]? = some ⟨A, c, e, size, n, xs⟩) (hn : 0 < n) : A.isNone = false := by
  cases A with
  | some _ => rfl
  | none =>
    rcases (hW.own k _ hk).2 with ⟨_, h⟩ | ⟨_, _, _, hv, _⟩
    · have h' : n = 0 := h
      omega
    · cases hv
/-- slots that hold addresses, in a table -/
theorem EnvOk.retable {n : Nat} {env : Env} {a : Act} (tb : Tb) (h : EnvOk n [] env a) : EnvOk n tb env a := h.table fun i hi => absurd hi (Nat.not_lt_zero i)

end Go.Proofs.YtbjopfcbpobnpaaGreat.ME

/- Printed by tools/mk.py. Own work. -/
namespace Go.Proofs.YtbjopfcbpobnpaaGreat.ME
open Go
open Go.RowKit
set_option linter.unusedVariables false
set_option linter.unusedSimpArgs false
set_option maxRecDepth 20000

theorem kTextOf (ct : List Value) (t : Tree) (w : World) (F : Nat → Nat → Prop) (ht : TreeR w F ct t) : Calls Tryz.prog 97 #[.agg ct.toArray] w (fun e w' => ∃ A, e = .returned (.pointer A) ∧ (∀ ad, A = some ad → ∃ b o, ad = ⟨b, o, none⟩ ∧ AtF w' (Fp F w) b o [.string (bs (octOf t))]) ∧ A.isNone = t.null ∧ Step w w' Nil) := by
  obtain ⟨n, s, b, l, u, A1, c1, A2, c2, A3, c3, xs, rfl, rfl, h1, h2, h3, h4⟩ := ht.open_
  have hsm := h1.small
  refine enter (n := 9) (vs := [.agg #[.int .i64 n, .slice A1 s.length c1, .bool b, .slice A2 l.length c2, .slice A3 u.length c3]]) Tryz.func97 rfl Tryz.ntmps97 (by kernel_rfl) fun a hE => ?_
  have hW := WOk.start w Nil
  refine go_seq_region [0, 1] (by kernel_rfl) ?_
  refine of_op (wpOp_box hW hE (d := 1) (cs := [.int .i64 n, .slice A1 s.length c1, .bool b, .slice A2 l.length c2, .slice A3 u.length c3]) (by kernel_rfl) fun b1 a1 w1 hb hb0 hF1 hW1 hE1 => ?_)
  refine go_runs [1] [] [1] hW1 hE1 (env' := [(1, .p 0 0)]) (by kernel_rfl) rfl fun a2 hE2 => wpOps_nil (then_normal ?_)
  refine wp_seq (wp_seq ?_)
  refine go_region [0, 1] (by kernel_rfl) (go_runs [0, 1] [] [1, 5] hW1 hE2 (env' := [(1, .p 0 0), (5, .v (.bool b))]) (by kernel_rfl) rfl fun a3 hE3 => wpOps_nil (then_normal ?_))
  refine cond_of hE3 (b := b) (by kernel_rfl) (fun hb => ?_) (fun hb => ?_)
  · subst hb
    refine go_seq_region [0] (by kernel_rfl) (go_runs [0] [] [2] hW1 hE3 (env' := [(2, .v (.pointer none))]) (by kernel_rfl) rfl fun a4 hE4 => wpOps_nil (then_normal (wp_ret (then_ret ?_))))
    exact leave hE4 hW1.cells (v := .pointer none) (by kernel_rfl) ⟨none, rfl, (fun ad h => by cases h), rfl, hW1.step⟩
  · subst hb
    refine wp_skip (then_normal ?_)
    refine go_seq_region [0, 1, 2, 3, 4] (by kernel_rfl) ?_
    refine go_runs [0, 1] [2, 3, 4] [7] hW1 hE3 (env' := [(7, .v (.slice A1 s.length c1))]) (by kernel_rfl) rfl fun a4 hE4 => ?_
    refine of_op (wpOp_conv hE4 (src := 22) (dst := 9) (e := 5) (d := 8) (by kernel_rfl) (by kernel_rfl) (by kernel_rfl) (by kernel_rfl) (h1.move hW1.step nilM keepF) fun a5 hE5 => ?_)
    refine of_op (wpOp_alloc hW1 hE5 (d := 3) (cs := [.string ByteArray.empty]) (by kernel_rfl) fun b2 a6 w2 hb2 hb20 hF2 hW2 hE6 => ?_)
    refine of_op (wpOp_store hW2 hE6 (oi := 1) (cs := [.string (bs s)]) (by kernel_rfl) fun w3 hF3 hW3 hE7 => wpOps_nil (then_normal ?_))
    refine go_seq_region [0] (by kernel_rfl) (go_runs [0] [] [2] hW3 hE7 (env' := [(2, .p 1 0)]) (by kernel_rfl) rfl fun a7 hE8 => wpOps_nil (then_normal (wp_ret ?_)))
    refine leave hE8 hW3.cells (v := .pointer (some ⟨b2, 0, none⟩)) (by kernel_rfl) ⟨some ⟨b2, 0, none⟩, rfl, fun ad h => ?_, rfl, hW3.step⟩
    obtain rfl := Option.some.inj h
    exact ⟨b2, 0, rfl, fun j v hj => ⟨.inr hb20, hW3.cells 1 _ rfl j v hj⟩⟩

end Go.Proofs.YtbjopfcbpobnpaaGreat.ME

/- Contracts: printed by tools/sp.py. Own work. -/
namespace Go.Proofs.YtbjopfcbpobnpaaGreat.ME
open Go
set_option linter.unusedVariables false
set_option linter.unusedSimpArgs false
set_option maxRecDepth 20000

theorem lFits3 (k : Int) (A : Option Addr) (m c : Nat) (w : World) : Calls Tryz.prog 69 #[.agg #[.int .u32 k, .slice A m c]] w (GivesB w) := by
  refine enter (n := 7) Tryz.func69 rfl Tryz.ntmps69 (by kernel_rfl) fun a hE => ?_
  have hW := WOk.start w Nil
  refine go_seq_region [0, 1] (by kernel_rfl) ?_
  refine of_op (wpOp_box hW hE (d := 1) (cs := [.int .u32 k, .slice A m c]) (by kernel_rfl) fun b1 a2 w3 hb4 hz5 hF6 hW7 hE8 => ?_)
  clear hE hW
  refine go_rn [1] [] [(1, .p 0 0)] hW7 hE8 fun a9 hE10 => ?_
  clear hE8
  refine wpOps_nil ?_
  refine then_normal ?_
  refine wp_seq ?_
  refine go_sp [(6, .v (.bool (decide (((m : Nat) : Int) > 2147483647))))] hW7 hE10 fun a11 hE12 => ?_
  clear hE10
  refine cond_of hE12 (b := decide (((m : Nat) : Int) > 2147483647)) (by kernel_rfl) (fun hc13 => ?_) (fun hc13 => ?_)
  ·
    have hf14 := of_decide_eq_true hc13
    refine go_sp [(2, .v (.bool false))] hW7 hE12 fun a15 hE16 => ?_
    clear hE12
    refine wp_ret ?_
    refine then_ret ?_
    refine leave hE16 hW7.cells (v := .bool false) (by kernel_rfl) ?_
    exact ⟨_, rfl, hW7.step⟩
  ·
    have hf17 := of_decide_eq_false hc13
    refine wp_skip ?_
    refine then_normal ?_
    refine go_sp [(2, .v (.bool true))] hW7 hE12 fun a18 hE19 => ?_
    clear hE12
    refine wp_ret ?_
    refine leave hE19 hW7.cells (v := .bool true) (by kernel_rfl) ?_
    exact ⟨_, rfl, hW7.step⟩

theorem lFits2 (A : Option Addr) (c : Nat) (u : List (Int × Bs)) (w : World) (F : Nat → Nat → Prop) (hu : TagsR w F A c u) : Calls Tryz.prog 29 #[.slice A u.length c] w (GivesB w) := by
  obtain ⟨xu, h1, h2⟩ := hu.ex
  have hsm := h1.small
  refine enter (n := 18) Tryz.func29 rfl Tryz.ntmps29 (by kernel_rfl) fun a hE => ?_
  have hW := WOk.start w Nil
  refine go_sp [(0, .v (.slice A u.length c))] hW hE fun a1 hE2 => ?_
  clear hE
  refine wp_seq ?_
  refine go_sp [(0, .v (.slice A u.length c)), (7, .v (.bool (decide (((u.length : Nat) : Int) > 2147483647))))] hW hE2 fun a3 hE4 => ?_
  clear hE2
  refine cond_of hE4 (b := decide (((u.length : Nat) : Int) > 2147483647)) (by kernel_rfl) (fun hc5 => ?_) (fun hc5 => ?_)
  ·
    have hf6 := of_decide_eq_true hc5
    refine go_sp [(2, .v (.bool false))] hW hE4 fun a7 hE8 => ?_
    clear hE4
    refine wp_ret ?_
    refine then_ret ?_
    refine leave hE8 hW.cells (v := .bool false) (by kernel_rfl) ?_
    exact ⟨_, rfl, hW.step⟩
  ·
    have hf9 := of_decide_eq_false hc5
    refine wp_skip ?_
    refine then_normal ?_
    refine wp_seq ?_
    refine go_sp [(8, .v (.slice A u.length c)), (9, .v (.int .i64 ((u.length : Nat) : Int))), (10, .v (.int .i64 0))] hW hE4 fun a10 hE11 => ?_
    clear hE4
    refine wp_block ?_
    refine wp_loop_ghost (fun n_ a_ w_ => ∃ (k : Nat), n_ = u.length - k ∧ k ≤ u.length ∧ LInv hW 18 [] [] [(8, .v (.slice A u.length c)), (9, .v (.int .i64 ((u.length : Nat) : Int))), (10, .v (.int .i64 ((k : Nat) : Int)))] a_ w_) (u.length) ⟨0, by omega, by omega, hE11.pk, hW, Fr.refl _ _ _⟩ ?_
    clear hE11
    rintro n12 a13 w14 ⟨k, hn17, hk18, hE15, hW16, hF19⟩
    refine go_sp [(8, .v (.slice A u.length c)), (9, .v (.int .i64 ((u.length : Nat) : Int))), (10, .v (.int .i64 ((k : Nat) : Int))), (11, .v (.bool (decide (((k : Nat) : Int) < ((u.length : Nat) : Int)))))] hW16 hE15 fun a20 hE21 => ?_
    clear hE15
    refine wp_seq ?_
    refine cond_of hE21 (b := decide (((k : Nat) : Int) < ((u.length : Nat) : Int))) (by kernel_rfl) (fun hc22 => ?_) (fun hc22 => ?_)
    ·
      have hf23 := of_decide_eq_true hc22
      refine wp_skip ?_
      refine then_normal ?_
      refine wp_seq ?_
      refine wp_block ?_
      refine go_seq_region [0, 1, 2, 3] (by kernel_rfl) ?_
      obtain ⟨b24, o25, hA26, hl27, hat28⟩ := Slots.get h1 (i := k) (by omega)
      obtain ⟨⟨k29, s30⟩, he31⟩ : ∃ x, u[k]? = some x := ⟨_, List.getElem?_eq_getElem (by omega)⟩
      obtain ⟨⟨A32, c33, hcs34, hb35⟩, h36, h37⟩ := h2 k k29 s30 he31
      rw [hcs34] at hat28
      refine of_op (wpOp_index hE21 (t := 24) (A := A) (m := u.length) (q := ((k : Nat) : Int)) (d := 12) (by kernel_rfl) (e := 63) (size := 2) (bytes := 32) (by kernel_rfl) hA26 rfl (by omega) fun a38 hE39 => ?_)
      clear hE21
      refine of_op (wpOp_load hE39 (t := 63) (b := b24) (o := o25 + k * 2) (d := 13) (by kernel_rfl) (cs := [.int .u32 k29, .slice A32 s30.length c33]) (v := .agg #[.int .u32 k29, .slice A32 s30.length c33]) (by kernel_rfl) (AtF.move hat28 hW16.step nilM keepF).at_ fun a40 hE41 => ?_)
      clear hE39
      refine of_op (wpOp_alloc hW16 hE41 (d := 4) (cs := [.int .u32 0, .slice none 0 0]) (by kernel_rfl) fun b42 a43 w44 hb45 hz46 hF47 hW48 hE49 => ?_)
      clear hE41 hW16
      refine of_op (wpOp_store hW48 hE49 (oi := 0) (cs := [.int .u32 k29, .slice A32 s30.length c33]) (by kernel_rfl) fun w50 hF51 hW52 hE53 => ?_)
      clear hE49 hW48
      refine wpOps_nil ?_
      refine then_normal ?_
      refine go_seq_region [0, 1, 2] (by kernel_rfl) ?_
      refine go_rn [0] [1, 2] [(8, .v (.slice A u.length c)), (9, .v (.int .i64 ((u.length : Nat) : Int))), (10, .v (.int .i64 ((k : Nat) : Int))), (14, .v (.agg #[.int .u32 k29, .slice A32 s30.length c33]))] hW52 hE53 fun a54 hE55 => ?_
      clear hE53
      refine of_op (wpOp_call hE55 (f := 69) (vs := [.agg #[.int .u32 k29, .slice A32 s30.length c33]]) (d := 15) (by kernel_rfl) Tryz.call69 (lFits3 _ _ _ _ _) ?_)
      rintro e_ w58 ⟨b57, rfl, hs56⟩
      refine ⟨_, rfl, fun a59 hE60 => ?_⟩
      have hW61 := hW52.next_nil hs56
      have hF62 := hW52.frN hs56
      clear hE55 hW52
      refine go_rn [2] [] [(8, .v (.slice A u.length c)), (9, .v (.int .i64 ((u.length : Nat) : Int))), (10, .v (.int .i64 ((k : Nat) : Int))), (16, .v (.bool (!b57)))] hW61 hE60 fun a63 hE64 => ?_
      clear hE60
      refine wpOps_nil ?_
      refine then_normal ?_
      refine cond_of hE64 (b := !b57) (by kernel_rfl) (fun hc65 => ?_) (fun hc65 => ?_)
      ·
        refine go_sp [(2, .v (.bool false))] hW61 hE64 fun a67 hE68 => ?_
        clear hE64
        refine wp_ret ?_
        refine block_ret ?_
        refine then_ret ?_
        refine then_ret ?_
        refine block_ret ?_
        refine then_ret ?_
        refine leave hE68 hW61.cells (v := .bool false) (by kernel_rfl) ?_
        exact ⟨_, rfl, hW61.step⟩
      ·
        refine wp_skip ?_
        refine block_normal ?_
        refine then_normal ?_
        refine go_region [0, 1] (by kernel_rfl) ?_
        refine go_rn [0, 1] [] [(8, .v (.slice A u.length c)), (9, .v (.int .i64 ((u.length : Nat) : Int))), (10, .v (.int .i64 (IntKind.i64.wrap (((k : Nat) : Int) + 1))))] hW61 hE64 fun a70 hE71 => ?_
        clear hE64
        refine wpOps_nil ?_
        refine then_normal ?_
        obtain ⟨hE72, hW73, hF74⟩ := hW61.cutB hE71 0 [] [(8, .v (.slice A u.length c)), (9, .v (.int .i64 ((u.length : Nat) : Int))), (10, .v (.int .i64 (IntKind.i64.wrap (((k : Nat) : Int) + 1))))]
        have he75 : IntKind.i64.wrap (((k : Nat) : Int) + 1) = ((k + 1 : Nat) : Int) := wrap_succ (by omega)
        rw [he75] at hE72
        exact ⟨u.length - (k + 1), by omega, k + 1, rfl, by omega, hE72.pk, hW73, (Fr.trans (Fr.trans (Fr.trans (Fr.trans hF19 hF47) hF51) hF62) hF74)⟩
    ·
      have hf76 := of_decide_eq_false hc22
      refine wp_exit ?_
      refine then_exit ?_
      refine then_exit ?_
      refine block_exit ?_
      refine then_normal ?_
      refine go_sp [(2, .v (.bool true))] hW16 hE21 fun a77 hE78 => ?_
      clear hE21
      refine wp_ret ?_
      refine leave hE78 hW16.cells (v := .bool true) (by kernel_rfl) ?_
      exact ⟨_, rfl, hW16.step⟩

theorem lFits1 (ct : List Value) (t : Tree) (w : World) (F : Nat → Nat → Prop) (ht : TreeR w F ct t) : Calls Tryz.prog 8 #[.agg ct.toArray] w (GivesB w) := by
  obtain ⟨n1, s2, b3, l4, u5, A6, c7, A8, c9, A10, c11, xs12, rfl, rfl, h14, h15, h16, h17⟩ := ht.open_
  have hsm19 := h14.small
  have hsm20 := h15.small
  refine enter (n := 15) Tryz.func8 rfl Tryz.ntmps8 (by kernel_rfl) fun a hE => ?_
  have hW := WOk.start w Nil
  refine go_seq_region [0, 1] (by kernel_rfl) ?_
  refine of_op (wpOp_box hW hE (d := 1) (cs := [.int .i64 n1, .slice A6 s2.length c7, .bool b3, .slice A8 l4.length c9, .slice A10 u5.length c11]) (by kernel_rfl) fun b21 a22 w23 hb24 hz25 hF26 hW27 hE28 => ?_)
  clear hE hW
  refine go_rn [1] [] [(1, .p 0 0)] hW27 hE28 fun a29 hE30 => ?_
  clear hE28
  refine wpOps_nil ?_
  refine then_normal ?_
  refine wp_seq ?_
  refine go_sp [(1, .p 0 0), (6, .v (.bool (decide (((s2.length : Nat) : Int) > 2147483647))))] hW27 hE30 fun a31 hE32 => ?_
  clear hE30
  refine cond_of hE32 (b := decide (((s2.length : Nat) : Int) > 2147483647)) (by kernel_rfl) (fun hc33 => ?_) (fun hc33 => ?_)
  ·
    have hf34 := of_decide_eq_true hc33
    refine go_sp [(2, .v (.bool false))] hW27 hE32 fun a35 hE36 => ?_
    clear hE32
    refine wp_ret ?_
    refine then_ret ?_
    refine leave hE36 hW27.cells (v := .bool false) (by kernel_rfl) ?_
    exact ⟨_, rfl, hW27.step⟩
  ·
    have hf37 := of_decide_eq_false hc33
    refine wp_skip ?_
    refine then_normal ?_
    refine wp_seq ?_
    refine go_sp [(1, .p 0 0), (10, .v (.bool (decide (((l4.length : Nat) : Int) > 2147483647))))] hW27 hE32 fun a38 hE39 => ?_
    clear hE32
    refine cond_of hE39 (b := decide (((l4.length : Nat) : Int) > 2147483647)) (by kernel_rfl) (fun hc40 => ?_) (fun hc40 => ?_)
    ·
      have hf41 := of_decide_eq_true hc40
      refine go_sp [(2, .v (.bool false))] hW27 hE39 fun a42 hE43 => ?_
      clear hE39
      refine wp_ret ?_
      refine then_ret ?_
      refine leave hE43 hW27.cells (v := .bool false) (by kernel_rfl) ?_
      exact ⟨_, rfl, hW27.step⟩
    ·
      have hf44 := of_decide_eq_false hc40
      refine wp_skip ?_
      refine then_normal ?_
      refine wp_seq ?_
      refine go_seq_region [0, 1, 2, 3] (by kernel_rfl) ?_
      refine go_rn [0, 1] [2, 3] [(12, .v (.slice A10 u5.length c11))] hW27 hE39 fun a45 hE46 => ?_
      clear hE39
      refine of_op (wpOp_call hE46 (f := 29) (vs := [.slice A10 u5.length c11]) (d := 13) (by kernel_rfl) Tryz.call29 (lFits2 _ _ u5 _ _ (h17.move hW27.step nilM hW27.imm)) ?_)
      rintro e_ w49 ⟨b48, rfl, hs47⟩
      refine ⟨_, rfl, fun a50 hE51 => ?_⟩
      have hW52 := hW27.next_nil hs47
      have hF53 := hW27.frN hs47
      clear hE46 hW27
      refine go_rn [3] [] [(14, .v (.bool (!b48)))] hW52 hE51 fun a54 hE55 => ?_
      clear hE51
      refine wpOps_nil ?_
      refine then_normal ?_
      refine cond_of hE55 (b := !b48) (by kernel_rfl) (fun hc56 => ?_) (fun hc56 => ?_)
      ·
        refine go_sp [(2, .v (.bool false))] hW52 hE55 fun a58 hE59 => ?_
        clear hE55
        refine wp_ret ?_
        refine then_ret ?_
        refine leave hE59 hW52.cells (v := .bool false) (by kernel_rfl) ?_
        exact ⟨_, rfl, hW52.step⟩
      ·
        refine wp_skip ?_
        refine then_normal ?_
        refine go_sp [(2, .v (.bool true))] hW52 hE55 fun a61 hE62 => ?_
        clear hE55
        refine wp_ret ?_
        refine leave hE62 hW52.cells (v := .bool true) (by kernel_rfl) ?_
        exact ⟨_, rfl, hW52.step⟩

theorem lVersion (x m : Int) (hx : 0 ≤ x) (hx' : x < 256) (hm : 0 ≤ m) (hm' : m < 32768) (w : World) : Calls Tryz.prog 11 #[.int .u8 x, .int .i64 m] w (Gives w (.int .i64 (Int.tmod x (m + 1)))) := by
  refine enter (n := 10) Tryz.func11 rfl Tryz.ntmps11 (by kernel_rfl) fun a hE => ?_
  have hW := WOk.start w Nil
  refine go_sp [(0, .v (.int .u8 x)), (1, .v (.int .i64 m))] hW hE fun a1 hE2 => ?_
  clear hE
  refine go_seq_region [0, 1, 2, 3, 4, 5] (by kernel_rfl) ?_
  refine go_rn [0, 1, 2, 3] [4, 5] [(6, .v (.int .i64 (IntKind.i64.wrap x))), (8, .v (.int .i64 (IntKind.i64.wrap (m + 1))))] hW hE2 fun a3 hE4 => ?_
  clear hE2
  refine of_op (wpOp_rem hE4 (k := .i64) (p := (IntKind.i64.wrap x)) (q := (IntKind.i64.wrap (m + 1))) (d := 9) (by kernel_rfl) (by simp only [IntKind.wrap_i64]; omega) fun a5 hE6 => ?_)
  clear hE4
  refine go_rn [5] [] [(4, .v (.int .i64 (Int.tmod (IntKind.i64.wrap x) (IntKind.i64.wrap (m + 1)))))] hW hE6 fun a7 hE8 => ?_
  clear hE6
  refine wpOps_nil ?_
  refine then_normal ?_
  refine wp_ret ?_
  refine leave hE8 hW.cells (v := .int .i64 (Int.tmod (IntKind.i64.wrap x) (IntKind.i64.wrap (m + 1)))) (by kernel_rfl) ?_
  exact ⟨by rw [wrap_i64 (by omega) (by omega), wrap_i64 (by omega) (by omega)], hW.step⟩

end Go.Proofs.YtbjopfcbpobnpaaGreat.ME

/- Printed by tools/mk.py. Own work. -/
namespace Go.Proofs.YtbjopfcbpobnpaaGreat.ME
open Go
open Go.RowKit
set_option linter.unusedVariables false
set_option linter.unusedSimpArgs false
set_option maxRecDepth 20000

def clDescribeClientQuotasResponseEntryEntity (d : DV) : List Value := [.string ((d.f 0).s), .pointer ((d.f 1).A), .map d.m]
theorem oneDescribeClientQuotasResponseEntryEntity : ∀ d, ∀ u ∈ clDescribeClientQuotasResponseEntryEntity d, u.oneCell' = true := fun d => allOne_ok (by kernel_rfl)
theorem mvDescribeClientQuotasResponseEntryEntity : Moves okDescribeClientQuotasResponseEntryEntity := by
  intro w w' F F' M d hs hM hF h
  unfold okDescribeClientQuotasResponseEntryEntity at h ⊢
  obtain ⟨g0, ⟨g1, g1l⟩, t1, t2, t3, _⟩ := h
  exact ⟨g0, ⟨fun ad hA => by
    obtain ⟨b, o, h1, h2⟩ := g1 ad hA
    exact ⟨b, o, h1, h2.move hs hM hF⟩, g1l⟩, t1.move hs hM hF, t2, t3, trivial⟩

def clDescribeClientQuotasResponseEntryValue (d : DV) : List Value := [.string ((d.f 0).s), .float .f64 (d.f 1).l, .map d.m]
theorem oneDescribeClientQuotasResponseEntryValue : ∀ d, ∀ u ∈ clDescribeClientQuotasResponseEntryValue d, u.oneCell' = true := fun d => allOne_ok (by kernel_rfl)
theorem mvDescribeClientQuotasResponseEntryValue : Moves okDescribeClientQuotasResponseEntryValue := by
  intro w w' F F' M d hs hM hF h
  unfold okDescribeClientQuotasResponseEntryValue at h ⊢
  obtain ⟨g0, g1, t1, t2, t3, _⟩ := h
  exact ⟨g0, g1, t1.move hs hM hF, t2, t3, trivial⟩

def clDescribeClientQuotasResponseEntry (d : DV) : List Value := [.slice ((d.f 0).A) ((d.f 0).l) ((d.f 0).c), .slice ((d.f 1).A) ((d.f 1).l) ((d.f 1).c), .map d.m]
theorem oneDescribeClientQuotasResponseEntry : ∀ d, ∀ u ∈ clDescribeClientQuotasResponseEntry d, u.oneCell' = true := fun d => allOne_ok (by kernel_rfl)
theorem mvDescribeClientQuotasResponseEntry : Moves okDescribeClientQuotasResponseEntry := by
  intro w w' F F' M d hs hM hF h
  unfold okDescribeClientQuotasResponseEntry at h ⊢
  obtain ⟨⟨g0, g0l, g0e⟩, ⟨g1, g1l, g1e⟩, t1, t2, t3, _⟩ := h
  exact ⟨⟨g0.move hs hM hF, g0l, fun i hi => mvDescribeClientQuotasResponseEntryEntity _ hs hM hF (g0e i hi)⟩, ⟨g1.move hs hM hF, g1l, fun i hi => mvDescribeClientQuotasResponseEntryValue _ hs hM hF (g1e i hi)⟩, t1.move hs hM hF, t2, t3, trivial⟩

set_option maxHeartbeats 4000000 in
theorem eDescribeClientQuotasResponseEntryEntity (ct : List Value) (t : Tree) (w : World) (F : Nat → Nat → Prop) (ht : TreeR w F ct t) (hc : canDescribeClientQuotasResponseEntryEntity t) :
    Calls Tryz.prog 133 #[.agg ct.toArray] w (fun e w' => ∃ D : DV, e = .returned (.agg #[.string ((D.f 0).s), .pointer ((D.f 1).A), .map D.m]) ∧ okDescribeClientQuotasResponseEntryEntity w' (Fp F w) D ∧ relDescribeClientQuotasResponseEntryEntity D t ∧ Step w w' Nil) := by
  obtain ⟨n1, s2, b3, l4, u5, A6, c7, A8, c9, A10, c11, xs12, rfl, rfl, h14, h15, h16, h17⟩ := ht.open_
  have hsm19 := h14.small
  have hsm20 := h15.small
  unfold canDescribeClientQuotasResponseEntryEntity at hc
  obtain ⟨cj0, cj1, cU, _⟩ := hc
  have hsort := cU.1
  replace hsort : Sorted u5 := hsort
  have hul : u5.length ≤ 1000000 := cU.2.1
  refine enter (n := 30) Tryz.func133 rfl Tryz.ntmps133 (by kernel_rfl) fun a hE => ?_
  have hW := WOk.start w Nil
  refine go_seq_region [0, 1] (by kernel_rfl) ?_
  refine of_op (wpOp_box hW hE (d := 1) (cs := [.int .i64 n1, .slice A6 s2.length c7, .bool b3, .slice A8 l4.length c9, .slice A10 u5.length c11]) (by kernel_rfl) fun b21 a22 w23 hb24 hz25 hF26 hW27 hE28 => ?_)
  clear hE hW
  refine of_op (wpOp_alloc hW27 hE28 (d := 2) (cs := [.string ByteArray.empty, .pointer none, .map none]) (by kernel_rfl) fun b29 a30 w31 hb32 hz33 hF34 hW35 hE36 => ?_)
  clear hE28 hW27
  refine wpOps_nil ?_
  refine then_normal ?_
  refine go_seq_region [0] (by kernel_rfl) ?_
  refine of_op (wpOp_alloc hW35 hE36 (d := 3) (cs := [.string ByteArray.empty, .pointer none, .map none]) (by kernel_rfl) fun b37 a38 w39 hb40 hz41 hF42 hW43 hE44 => ?_)
  clear hE36 hW35
  refine wpOps_nil ?_
  refine then_normal ?_
  refine go_seq_region [0, 1, 2, 3, 4, 5] (by kernel_rfl) ?_
  refine go_rn [0] [1, 2, 3, 4, 5] [(1, .p 0 0), (2, .p 1 0), (3, .p 2 0), (6, .v (.agg #[.int .i64 n1, .slice A6 s2.length c7, .bool b3, .slice A8 l4.length c9, .slice A10 u5.length c11]))] hW43 hE44 fun a45 hE46 => ?_
  clear hE44
  refine of_op (wpOp_call hE46 (f := 73) (vs := [.agg #[.int .i64 n1, .slice A6 s2.length c7, .bool b3, .slice A8 l4.length c9, .slice A10 u5.length c11], .int .i64 0]) (d := 7) (by kernel_rfl) Tryz.call73 (iAt _ _ 0 _ _ (ht.move hW43.step nilM hW43.imm)) ?_)
  rintro e_ w50 ⟨cs49, rfl, hr48, hs47⟩
  have hr51 := hr48.move hs47 nilM (fun b o h_ hb_ => hW43.laid (G := F) hs47 b o (.inl h_) (Nat.lt_of_lt_of_le hb_ hs47.size))
  obtain ⟨n52, s53, b54, l55, u56, A57, c58, A59, c60, A61, c62, xs63, ht69, hcs64, h65, h66, h67, h68⟩ := hr51.open_
  rw [hcs64] at hr51
  have hsm70 := h65.small
  have hsm71 := h66.small
  rw [hcs64]
  refine ⟨_, rfl, fun a72 hE73 => ?_⟩
  have hW74 := hW43.next_nil hs47
  have hF75 := hW43.frN hs47
  clear hE46
  refine go_rn [2] [3, 4, 5] [(1, .p 0 0), (2, .p 1 0), (3, .p 2 0), (8, .v (.slice A57 s53.length c58))] hW74 hE73 fun a76 hE77 => ?_
  clear hE73
  refine of_op (wpOp_conv hE77 (src := 22) (dst := 9) (e := 5) (d := 9) (by kernel_rfl) (by kernel_rfl) (by kernel_rfl) (by kernel_rfl) h65 fun a78 hE79 => ?_)
  clear hE77
  refine go_rn [4] [5] [(1, .p 0 0), (2, .p 1 0), (3, .p 2 0), (9, .v (.string (bs s53))), (10, .p 2 0)] hW74 hE79 fun a80 hE81 => ?_
  clear hE79
  refine of_op (wpOp_store hW74 hE81 (oi := 2) (cs := [.string (bs s53), .pointer none, .map none]) (by kernel_rfl) fun w82 hF83 hW84 hE85 => ?_)
  clear hE81 hW74
  refine wpOps_nil ?_
  refine then_normal ?_
  refine go_seq_region [0, 1, 2, 3, 4] (by kernel_rfl) ?_
  refine go_rn [0] [1, 2, 3, 4] [(1, .p 0 0), (2, .p 1 0), (3, .p 2 0), (11, .v (.agg #[.int .i64 n1, .slice A6 s2.length c7, .bool b3, .slice A8 l4.length c9, .slice A10 u5.length c11]))] hW84 hE85 fun a86 hE87 => ?_
  clear hE85
  refine of_op (wpOp_call hE87 (f := 73) (vs := [.agg #[.int .i64 n1, .slice A6 s2.length c7, .bool b3, .slice A8 l4.length c9, .slice A10 u5.length c11], .int .i64 1]) (d := 12) (by kernel_rfl) Tryz.call73 (iAt _ _ 1 _ _ (ht.move hW84.step nilM hW84.imm)) ?_)
  rintro e_ w91 ⟨cs90, rfl, hr89, hs88⟩
  have hr92 := hr89.move hs88 nilM (fun b o h_ hb_ => hW84.laid (G := F) hs88 b o (.inl h_) (Nat.lt_of_lt_of_le hb_ hs88.size))
  obtain ⟨n93, s94, b95, l96, u97, A98, c99, A100, c101, A102, c103, xs104, ht110, hcs105, h106, h107, h108, h109⟩ := hr92.open_
  rw [hcs105] at hr92
  have hsm111 := h106.small
  have hsm112 := h107.small
  rw [hcs105]
  refine ⟨_, rfl, fun a113 hE114 => ?_⟩
  have hW115 := hW84.next_nil hs88
  have hF116 := hW84.frN hs88
  clear hE87
  refine of_op (wpOp_call hE114 (f := 97) (vs := [.agg #[.int .i64 n93, .slice A98 s94.length c99, .bool b95, .slice A100 l96.length c101, .slice A102 u97.length c103]]) (d := 13) (by kernel_rfl) Tryz.call97 (kTextOf _ (Tree.at_ (Tree.mk n1 s2 b3 l4 u5) 1) _ _ hr92) ?_)
  rintro e_ w123 ⟨A120, rfl, hr118, hn119, hs117⟩
  have hr122 : ∀ ad, A120 = some ad → ∃ b o, ad = ⟨b, o, none⟩ ∧ AtF _ _ b o [.string (bs (octOf (Tree.at_ (Tree.mk n1 s2 b3 l4 u5) 1)))] := fun ad h => by
      obtain ⟨b, o, g1, g2⟩ := hr118 ad h
      exact ⟨b, o, g1, g2.move (Step.refl _ Nil) nilM (hW115.laid (G := F) hs117)⟩
  refine ⟨_, rfl, fun a124 hE125 => ?_⟩
  have hW126 := hW115.next_nil hs117
  have hF127 := hW115.frN hs117
  clear hE114
  refine go_rn [3] [4] [(1, .p 0 0), (2, .p 1 0), (3, .p 2 0), (13, .v (.pointer A120)), (14, .p 2 1)] hW126 hE125 fun a128 hE129 => ?_
  clear hE125
  refine of_op (wpOp_store hW126 hE129 (oi := 2) (cs := [.string (bs s53), .pointer A120, .map none]) (by kernel_rfl) fun w130 hF131 hW132 hE133 => ?_)
  clear hE129 hW126
  refine wpOps_nil ?_
  refine then_normal ?_
  refine wp_seq ?_
  refine go_sp [(2, .p 1 0), (3, .p 2 0), (16, .v (.slice A10 u5.length c11)), (17, .v (.int .i64 ((u5.length : Nat) : Int))), (18, .v (.int .i64 0))] hW132 hE133 fun a134 hE135 => ?_
  clear hE133
  refine wp_block ?_
  have hp136 := new_of hW132 2 rfl (by kernel_rfl)
  have hE140 := hE135.recast 2 (.p 1 0) (.v (.pointer (some ⟨b29, 0, none⟩))) rfl rfl trivial
  have hE141 := hE140.recast 3 (.p 2 0) (.v (.pointer (some ⟨b37, 0, none⟩))) rfl rfl trivial
  have hE138 := (hE141.pick (ks := [2, 3, 16, 17, 18]) (env' := [(2, .v (.pointer (some ⟨b29, 0, none⟩))), (3, .v (.pointer (some ⟨b37, 0, none⟩))), (16, .v (.slice A10 u5.length c11)), (17, .v (.int .i64 ((u5.length : Nat) : Int))), (18, .v (.int .i64 0))]) (by kernel_rfl)).cutTb 0 (by kernel_rfl)
  refine wp_loop_ghost (fun q a_ w_ => ∃ (j : Nat) (m_ : Option Nat), q = u5.length - j ∧ j ≤ u5.length ∧ EnvOk 30 [] [(2, .v (.pointer (some ⟨b29, 0, none⟩))), (3, .v (.pointer (some ⟨b37, 0, none⟩))), (16, .v (.slice A10 u5.length c11)), (17, .v (.int .i64 ((u5.length : Nat) : Int))), (18, .v (.int .i64 ((j : Nat) : Int)))] a_ ∧ TL w w130 w_ F b37 2 [.string (bs s53), .pointer A120, .map none] m_ (u5.take j)) u5.length
    ⟨0, none, by omega, by omega, hE138, TL.start hW132 2 rfl rfl⟩ ?_
  rintro q aq wq ⟨j, m_, rfl, hj, hE2, hT⟩
  have hWq := WOk.start wq Nil
  refine go_sp [(2, .v (.pointer (some ⟨b29, 0, none⟩))), (3, .v (.pointer (some ⟨b37, 0, none⟩))), (16, .v (.slice A10 u5.length c11)), (17, .v (.int .i64 ((u5.length : Nat) : Int))), (18, .v (.int .i64 ((j : Nat) : Int))), (19, .v (.bool (decide (((j : Nat) : Int) < ((u5.length : Nat) : Int)))))] hWq hE2 fun aq2 hE3 => wp_seq ?_
  refine cond_of hE3 (b := decide (((j : Nat) : Int) < ((u5.length : Nat) : Int))) (by kernel_rfl) (fun hc => ?_) (fun hc => ?_)
  · have hlt : j < u5.length := by have := of_decide_eq_true hc; omega
    refine wp_skip (then_normal (wp_seq (wp_block ?_)))
    obtain ⟨⟨k, x⟩, hu⟩ : ∃ y, u5[j]? = some y := ⟨_, List.getElem?_eq_getElem hlt⟩
    obtain ⟨bb, bo, xA, xc, hA, hat, hxo, hk⟩ := tag_at h17 hu
    refine go_seq_region [0, 1, 2, 3] (by kernel_rfl) ?_
    refine of_op (wpOp_index hE3 (t := 37) (e := 64) (size := 2) (bytes := 32) (d := 20) (b := bb) (o := bo) (m := u5.length) (j := j) (by kernel_rfl) (by kernel_rfl) hA rfl hlt fun aq3 hE4 => ?_)
    refine of_op (wpOp_load hE4 (t := 64) (d := 21) (cs := [.int .u32 k, .slice xA x.length xc]) (v := .agg #[.int .u32 k, .slice xA x.length xc]) (by kernel_rfl) (by kernel_rfl) (hat.step_nil hT.step) fun aq4 hE5 => ?_)
    refine of_op (wpOp_alloc hWq hE5 (d := 5) (cs := [.int .u32 0, .slice none 0 0]) (by kernel_rfl) fun bx aq5 wq2 hbx hbx0 hFq2 hWq2 hE6 => ?_)
    refine of_op (wpOp_store hWq2 hE6 (oi := 0) (cs := [.int .u32 k, .slice xA x.length xc]) (by kernel_rfl) fun wq3 hFq3 hWq3 hE7 => wpOps_nil (then_normal ?_))
    refine go_region [0, 1, 2, 3, 4, 5] (by kernel_rfl) (go_rn [0, 1, 2, 3, 4] [5] [(2, .v (.pointer (some ⟨b29, 0, none⟩))), (3, .v (.pointer (some ⟨b37, 0, none⟩))), (16, .v (.slice A10 u5.length c11)), (17, .v (.int .i64 ((u5.length : Nat) : Int))), (18, .v (.int .i64 ((j : Nat) : Int))), (22, .v (.pointer (some ⟨b37, 2, none⟩))), (24, .v (.int .u32 k)), (26, .v (.slice xA x.length xc))] hWq3 hE7 fun aq6 hE8 => ?_)
    refine of_op (wpOp_call hE8 (f := 75) (vs := [.pointer (some ⟨b37, 2, none⟩), .int .u32 k, .slice xA x.length xc]) (d := 27) (by kernel_rfl) Tryz.call75 ((hT.move hWq3.step).set hp136 (by kernel_rfl) hsort hu hxo hk) ?_)
    rintro e_ wq5 ⟨rfl, hS5, r, hT5⟩
    refine ⟨_, rfl, fun aq7 hE9 => wpOps_nil (block_normal (then_normal ?_))⟩
    have hE10 := (hE9.pick (ks := [2, 3, 16, 17, 18]) (env' := [(2, .v (.pointer (some ⟨b29, 0, none⟩))), (3, .v (.pointer (some ⟨b37, 0, none⟩))), (16, .v (.slice A10 u5.length c11)), (17, .v (.int .i64 ((u5.length : Nat) : Int))), (18, .v (.int .i64 ((j : Nat) : Int)))]) (by kernel_rfl)).cutTb 0 (by kernel_rfl)
    refine go_region [0, 1] (by kernel_rfl) (go_rn [0, 1] [] [(2, .v (.pointer (some ⟨b29, 0, none⟩))), (3, .v (.pointer (some ⟨b37, 0, none⟩))), (16, .v (.slice A10 u5.length c11)), (17, .v (.int .i64 ((u5.length : Nat) : Int))), (18, .v (.int .i64 (IntKind.i64.wrap (((j : Nat) : Int) + 1))))] (WOk.start wq5 Nil) hE10 fun aq8 hE11 => wpOps_nil (then_normal ?_))
    rw [wrap_succ (by omega)] at hE11
    exact ⟨u5.length - (j + 1), by omega, j + 1, some r, rfl, by omega, hE11, hT5⟩
  · obtain rfl : j = u5.length := by have := of_decide_eq_false hc; omega
    refine wp_exit (then_exit (then_exit (block_exit ?_)))
    rw [List.take_length] at hT
    obtain ⟨hW142, hF143⟩ := hT.tab hW132 2 [⟨b21, 0, [.int .i64 n1, .slice A6 s2.length c7, .bool b3, .slice A8 l4.length c9, .slice A10 u5.length c11], true⟩, ⟨b29, 0, [.string ByteArray.empty, .pointer none, .map none], true⟩, ⟨b37, 0, [.string (bs s53), .pointer A120, .map m_], true⟩] rfl
    have hM144 := hT.mapImm hW132 hW142 hF143 hsort (tags_range h17)
    have hE145 := (hE3.retable [⟨b21, 0, [.int .i64 n1, .slice A6 s2.length c7, .bool b3, .slice A8 l4.length c9, .slice A10 u5.length c11], true⟩, ⟨b29, 0, [.string ByteArray.empty, .pointer none, .map none], true⟩, ⟨b37, 0, [.string (bs s53), .pointer A120, .map m_], true⟩]).recast 2 (.v (.pointer (some ⟨b29, 0, none⟩))) (.p 1 0) rfl rfl (Nat.le_of_ble_eq_true (n := 2) rfl)
    have hE146 := hE145.recast 3 (.v (.pointer (some ⟨b37, 0, none⟩))) (.p 2 0) rfl rfl (Nat.le_of_ble_eq_true (n := 3) rfl)
    have hE147 : EnvOk 30 [⟨b21, 0, [.int .i64 n1, .slice A6 s2.length c7, .bool b3, .slice A8 l4.length c9, .slice A10 u5.length c11], true⟩, ⟨b29, 0, [.string ByteArray.empty, .pointer none, .map none], true⟩, ⟨b37, 0, [.string (bs s53), .pointer A120, .map m_], true⟩] [(2, .p 1 0), (3, .p 2 0)] _ := hE146.pk
    refine then_normal ?_
    refine go_seq_region [0, 1] (by kernel_rfl) ?_
    refine go_rn [0] [1] [(2, .p 1 0), (29, .v (.agg #[.string (bs s53), .pointer A120, .map m_]))] hW142 hE147 fun a148 hE149 => ?_
    clear hE147
    refine of_op (wpOp_store hW142 hE149 (oi := 1) (cs := [.string (bs s53), .pointer A120, .map m_]) (by kernel_rfl) fun w150 hF151 hW152 hE153 => ?_)
    clear hE149 hW142
    refine wpOps_nil ?_
    refine then_normal ?_
    refine wp_ret ?_
    refine leave hE153 hW152.cells (v := .agg #[.string (bs s53), .pointer A120, .map m_]) (by kernel_rfl) ?_
    refine ⟨dvP m_ u5 [dvS (bs s53), dvT A120 (bs (octOf (Tree.at_ (Tree.mk n1 s2 b3 l4 u5) 1)))], rfl, ?_, ?_, hW152.step⟩
    · unfold okDescribeClientQuotasResponseEntryEntity
      exact ⟨by show ByteArray.size (bs s53) ≤ 1000000; rw [bs_size]; have h_ := cj0; rw [ht69] at h_; exact h_, ⟨fun ad h => by
      obtain ⟨b, o, g1, g2⟩ := hr122 ad h
      exact ⟨b, o, g1, ((g2.move (Fr.trans (Fr.trans hF131 hF143) hF151).step immM (Fr.trans (Fr.trans hF131 hF143) hF151).to').move (Step.refl _ Nil) nilM immOut)⟩, by show ByteArray.size (bs (octOf (Tree.at_ (Tree.mk n1 s2 b3 l4 u5) 1))) ≤ 1000000; rw [bs_size]; exact cj1⟩, ((hM144.move hF151.step immM hF151.to').move (Step.refl _ Nil) nilM immOut), cU.2.1, cU.2.2, trivial⟩
    · unfold relDescribeClientQuotasResponseEntryEntity
      exact ⟨by rw [ht69]; rfl, ⟨rfl, hn119⟩, rfl, trivial⟩

set_option maxHeartbeats 4000000 in
theorem eDescribeClientQuotasResponseEntryValue (ct : List Value) (t : Tree) (w : World) (F : Nat → Nat → Prop) (ht : TreeR w F ct t) (hc : canDescribeClientQuotasResponseEntryValue t) :
    Calls Tryz.prog 134 #[.agg ct.toArray] w (fun e w' => ∃ D : DV, e = .returned (.agg #[.string ((D.f 0).s), .float .f64 (D.f 1).l, .map D.m]) ∧ okDescribeClientQuotasResponseEntryValue w' (Fp F w) D ∧ relDescribeClientQuotasResponseEntryValue D t ∧ Step w w' Nil) := by
  obtain ⟨n1, s2, b3, l4, u5, A6, c7, A8, c9, A10, c11, xs12, rfl, rfl, h14, h15, h16, h17⟩ := ht.open_
  have hsm19 := h14.small
  have hsm20 := h15.small
  unfold canDescribeClientQuotasResponseEntryValue at hc
  obtain ⟨cj0, cj1, cU, _⟩ := hc
  have hsort := cU.1
  replace hsort : Sorted u5 := hsort
  have hul : u5.length ≤ 1000000 := cU.2.1
  refine enter (n := 32) Tryz.func134 rfl Tryz.ntmps134 (by kernel_rfl) fun a hE => ?_
  have hW := WOk.start w Nil
  refine go_seq_region [0, 1] (by kernel_rfl) ?_
  refine of_op (wpOp_box hW hE (d := 1) (cs := [.int .i64 n1, .slice A6 s2.length c7, .bool b3, .slice A8 l4.length c9, .slice A10 u5.length c11]) (by kernel_rfl) fun b21 a22 w23 hb24 hz25 hF26 hW27 hE28 => ?_)
  clear hE hW
  refine of_op (wpOp_alloc hW27 hE28 (d := 2) (cs := [.string ByteArray.empty, (.float .f64 0), .map none]) (by kernel_rfl) fun b29 a30 w31 hb32 hz33 hF34 hW35 hE36 => ?_)
  clear hE28 hW27
  refine wpOps_nil ?_
  refine then_normal ?_
  refine go_seq_region [0] (by kernel_rfl) ?_
  refine of_op (wpOp_alloc hW35 hE36 (d := 3) (cs := [.string ByteArray.empty, (.float .f64 0), .map none]) (by kernel_rfl) fun b37 a38 w39 hb40 hz41 hF42 hW43 hE44 => ?_)
  clear hE36 hW35
  refine wpOps_nil ?_
  refine then_normal ?_
  refine go_seq_region [0, 1, 2, 3, 4, 5] (by kernel_rfl) ?_
  refine go_rn [0] [1, 2, 3, 4, 5] [(1, .p 0 0), (2, .p 1 0), (3, .p 2 0), (6, .v (.agg #[.int .i64 n1, .slice A6 s2.length c7, .bool b3, .slice A8 l4.length c9, .slice A10 u5.length c11]))] hW43 hE44 fun a45 hE46 => ?_
  clear hE44
  refine of_op (wpOp_call hE46 (f := 73) (vs := [.agg #[.int .i64 n1, .slice A6 s2.length c7, .bool b3, .slice A8 l4.length c9, .slice A10 u5.length c11], .int .i64 0]) (d := 7) (by kernel_rfl) Tryz.call73 (iAt _ _ 0 _ _ (ht.move hW43.step nilM hW43.imm)) ?_)
  rintro e_ w50 ⟨cs49, rfl, hr48, hs47⟩
  have hr51 := hr48.move hs47 nilM (fun b o h_ hb_ => hW43.laid (G := F) hs47 b o (.inl h_) (Nat.lt_of_lt_of_le hb_ hs47.size))
  obtain ⟨n52, s53, b54, l55, u56, A57, c58, A59, c60, A61, c62, xs63, ht69, hcs64, h65, h66, h67, h68⟩ := hr51.open_
  rw [hcs64] at hr51
  have hsm70 := h65.small
  have hsm71 := h66.small
  rw [hcs64]
  refine ⟨_, rfl, fun a72 hE73 => ?_⟩
  have hW74 := hW43.next_nil hs47
  have hF75 := hW43.frN hs47
  clear hE46
  refine go_rn [2] [3, 4, 5] [(1, .p 0 0), (2, .p 1 0), (3, .p 2 0), (8, .v (.slice A57 s53.length c58))] hW74 hE73 fun a76 hE77 => ?_
  clear hE73
  refine of_op (wpOp_conv hE77 (src := 22) (dst := 9) (e := 5) (d := 9) (by kernel_rfl) (by kernel_rfl) (by kernel_rfl) (by kernel_rfl) h65 fun a78 hE79 => ?_)
  clear hE77
  refine go_rn [4] [5] [(1, .p 0 0), (2, .p 1 0), (3, .p 2 0), (9, .v (.string (bs s53))), (10, .p 2 0)] hW74 hE79 fun a80 hE81 => ?_
  clear hE79
  refine of_op (wpOp_store hW74 hE81 (oi := 2) (cs := [.string (bs s53), (.float .f64 0), .map none]) (by kernel_rfl) fun w82 hF83 hW84 hE85 => ?_)
  clear hE81 hW74
  refine wpOps_nil ?_
  refine then_normal ?_
  refine go_seq_region [0, 1, 2, 3, 4, 5, 6] (by kernel_rfl) ?_
  refine go_rn [0] [1, 2, 3, 4, 5, 6] [(1, .p 0 0), (2, .p 1 0), (3, .p 2 0), (11, .v (.agg #[.int .i64 n1, .slice A6 s2.length c7, .bool b3, .slice A8 l4.length c9, .slice A10 u5.length c11]))] hW84 hE85 fun a86 hE87 => ?_
  clear hE85
  refine of_op (wpOp_call hE87 (f := 73) (vs := [.agg #[.int .i64 n1, .slice A6 s2.length c7, .bool b3, .slice A8 l4.length c9, .slice A10 u5.length c11], .int .i64 1]) (d := 12) (by kernel_rfl) Tryz.call73 (iAt _ _ 1 _ _ (ht.move hW84.step nilM hW84.imm)) ?_)
  rintro e_ w91 ⟨cs90, rfl, hr89, hs88⟩
  have hr92 := hr89.move hs88 nilM (fun b o h_ hb_ => hW84.laid (G := F) hs88 b o (.inl h_) (Nat.lt_of_lt_of_le hb_ hs88.size))
  obtain ⟨n93, s94, b95, l96, u97, A98, c99, A100, c101, A102, c103, xs104, ht110, hcs105, h106, h107, h108, h109⟩ := hr92.open_
  rw [hcs105] at hr92
  have hsm111 := h106.small
  have hsm112 := h107.small
  rw [hcs105]
  refine ⟨_, rfl, fun a113 hE114 => ?_⟩
  have hW115 := hW84.next_nil hs88
  have hF116 := hW84.frN hs88
  clear hE87
  refine go_rn [2, 3] [4, 5, 6] [(1, .p 0 0), (2, .p 1 0), (3, .p 2 0), (14, .v (.int .u64 (IntKind.u64.wrap n93)))] hW115 hE114 fun a117 hE118 => ?_
  clear hE114
  refine of_op (wpOp_native hE118 (f := 143) (vs := [.int .u64 (IntKind.u64.wrap n93)]) (d := 15) (v := .float .f64 (IntKind.u64.wrap n93).toNat) (by kernel_rfl) (fun w => by kernel_rfl) fun a119 hE120 => ?_)
  clear hE118
  refine go_rn [5] [6] [(1, .p 0 0), (2, .p 1 0), (3, .p 2 0), (15, .v (.float .f64 (IntKind.u64.wrap n93).toNat)), (16, .p 2 1)] hW115 hE120 fun a121 hE122 => ?_
  clear hE120
  refine of_op (wpOp_store hW115 hE122 (oi := 2) (cs := [.string (bs s53), .float .f64 (IntKind.u64.wrap n93).toNat, .map none]) (by kernel_rfl) fun w123 hF124 hW125 hE126 => ?_)
  clear hE122 hW115
  refine wpOps_nil ?_
  refine then_normal ?_
  refine wp_seq ?_
  refine go_sp [(2, .p 1 0), (3, .p 2 0), (18, .v (.slice A10 u5.length c11)), (19, .v (.int .i64 ((u5.length : Nat) : Int))), (20, .v (.int .i64 0))] hW125 hE126 fun a127 hE128 => ?_
  clear hE126
  refine wp_block ?_
  have hp129 := new_of hW125 2 rfl (by kernel_rfl)
  have hE133 := hE128.recast 2 (.p 1 0) (.v (.pointer (some ⟨b29, 0, none⟩))) rfl rfl trivial
  have hE134 := hE133.recast 3 (.p 2 0) (.v (.pointer (some ⟨b37, 0, none⟩))) rfl rfl trivial
  have hE131 := (hE134.pick (ks := [2, 3, 18, 19, 20]) (env' := [(2, .v (.pointer (some ⟨b29, 0, none⟩))), (3, .v (.pointer (some ⟨b37, 0, none⟩))), (18, .v (.slice A10 u5.length c11)), (19, .v (.int .i64 ((u5.length : Nat) : Int))), (20, .v (.int .i64 0))]) (by kernel_rfl)).cutTb 0 (by kernel_rfl)
  refine wp_loop_ghost (fun q a_ w_ => ∃ (j : Nat) (m_ : Option Nat), q = u5.length - j ∧ j ≤ u5.length ∧ EnvOk 32 [] [(2, .v (.pointer (some ⟨b29, 0, none⟩))), (3, .v (.pointer (some ⟨b37, 0, none⟩))), (18, .v (.slice A10 u5.length c11)), (19, .v (.int .i64 ((u5.length : Nat) : Int))), (20, .v (.int .i64 ((j : Nat) : Int)))] a_ ∧ TL w w123 w_ F b37 2 [.string (bs s53), .float .f64 (IntKind.u64.wrap n93).toNat, .map none] m_ (u5.take j)) u5.length
    ⟨0, none, by omega, by omega, hE131, TL.start hW125 2 rfl rfl⟩ ?_
  rintro q aq wq ⟨j, m_, rfl, hj, hE2, hT⟩
  have hWq := WOk.start wq Nil
  refine go_sp [(2, .v (.pointer (some ⟨b29, 0, none⟩))), (3, .v (.pointer (some ⟨b37, 0, none⟩))), (18, .v (.slice A10 u5.length c11)), (19, .v (.int .i64 ((u5.length : Nat) : Int))), (20, .v (.int .i64 ((j : Nat) : Int))), (21, .v (.bool (decide (((j : Nat) : Int) < ((u5.length : Nat) : Int)))))] hWq hE2 fun aq2 hE3 => wp_seq ?_
  refine cond_of hE3 (b := decide (((j : Nat) : Int) < ((u5.length : Nat) : Int))) (by kernel_rfl) (fun hc => ?_) (fun hc => ?_)
  · have hlt : j < u5.length := by have := of_decide_eq_true hc; omega
    refine wp_skip (then_normal (wp_seq (wp_block ?_)))
    obtain ⟨⟨k, x⟩, hu⟩ : ∃ y, u5[j]? = some y := ⟨_, List.getElem?_eq_getElem hlt⟩
    obtain ⟨bb, bo, xA, xc, hA, hat, hxo, hk⟩ := tag_at h17 hu
    refine go_seq_region [0, 1, 2, 3] (by kernel_rfl) ?_
    refine of_op (wpOp_index hE3 (t := 37) (e := 64) (size := 2) (bytes := 32) (d := 22) (b := bb) (o := bo) (m := u5.length) (j := j) (by kernel_rfl) (by kernel_rfl) hA rfl hlt fun aq3 hE4 => ?_)
    refine of_op (wpOp_load hE4 (t := 64) (d := 23) (cs := [.int .u32 k, .slice xA x.length xc]) (v := .agg #[.int .u32 k, .slice xA x.length xc]) (by kernel_rfl) (by kernel_rfl) (hat.step_nil hT.step) fun aq4 hE5 => ?_)
    refine of_op (wpOp_alloc hWq hE5 (d := 5) (cs := [.int .u32 0, .slice none 0 0]) (by kernel_rfl) fun bx aq5 wq2 hbx hbx0 hFq2 hWq2 hE6 => ?_)
    refine of_op (wpOp_store hWq2 hE6 (oi := 0) (cs := [.int .u32 k, .slice xA x.length xc]) (by kernel_rfl) fun wq3 hFq3 hWq3 hE7 => wpOps_nil (then_normal ?_))
    refine go_region [0, 1, 2, 3, 4, 5] (by kernel_rfl) (go_rn [0, 1, 2, 3, 4] [5] [(2, .v (.pointer (some ⟨b29, 0, none⟩))), (3, .v (.pointer (some ⟨b37, 0, none⟩))), (18, .v (.slice A10 u5.length c11)), (19, .v (.int .i64 ((u5.length : Nat) : Int))), (20, .v (.int .i64 ((j : Nat) : Int))), (24, .v (.pointer (some ⟨b37, 2, none⟩))), (26, .v (.int .u32 k)), (28, .v (.slice xA x.length xc))] hWq3 hE7 fun aq6 hE8 => ?_)
    refine of_op (wpOp_call hE8 (f := 75) (vs := [.pointer (some ⟨b37, 2, none⟩), .int .u32 k, .slice xA x.length xc]) (d := 29) (by kernel_rfl) Tryz.call75 ((hT.move hWq3.step).set hp129 (by kernel_rfl) hsort hu hxo hk) ?_)
    rintro e_ wq5 ⟨rfl, hS5, r, hT5⟩
    refine ⟨_, rfl, fun aq7 hE9 => wpOps_nil (block_normal (then_normal ?_))⟩
    have hE10 := (hE9.pick (ks := [2, 3, 18, 19, 20]) (env' := [(2, .v (.pointer (some ⟨b29, 0, none⟩))), (3, .v (.pointer (some ⟨b37, 0, none⟩))), (18, .v (.slice A10 u5.length c11)), (19, .v (.int .i64 ((u5.length : Nat) : Int))), (20, .v (.int .i64 ((j : Nat) : Int)))]) (by kernel_rfl)).cutTb 0 (by kernel_rfl)
    refine go_region [0, 1] (by kernel_rfl) (go_rn [0, 1] [] [(2, .v (.pointer (some ⟨b29, 0, none⟩))), (3, .v (.pointer (some ⟨b37, 0, none⟩))), (18, .v (.slice A10 u5.length c11)), (19, .v (.int .i64 ((u5.length : Nat) : Int))), (20, .v (.int .i64 (IntKind.i64.wrap (((j : Nat) : Int) + 1))))] (WOk.start wq5 Nil) hE10 fun aq8 hE11 => wpOps_nil (then_normal ?_))
    rw [wrap_succ (by omega)] at hE11
    exact ⟨u5.length - (j + 1), by omega, j + 1, some r, rfl, by omega, hE11, hT5⟩
  · obtain rfl : j = u5.length := by have := of_decide_eq_false hc; omega
    refine wp_exit (then_exit (then_exit (block_exit ?_)))
    rw [List.take_length] at hT
    obtain ⟨hW135, hF136⟩ := hT.tab hW125 2 [⟨b21, 0, [.int .i64 n1, .slice A6 s2.length c7, .bool b3, .slice A8 l4.length c9, .slice A10 u5.length c11], true⟩, ⟨b29, 0, [.string ByteArray.empty, (.float .f64 0), .map none], true⟩, ⟨b37, 0, [.string (bs s53), .float .f64 (IntKind.u64.wrap n93).toNat, .map m_], true⟩] rfl
    have hM137 := hT.mapImm hW125 hW135 hF136 hsort (tags_range h17)
    have hE138 := (hE3.retable [⟨b21, 0, [.int .i64 n1, .slice A6 s2.length c7, .bool b3, .slice A8 l4.length c9, .slice A10 u5.length c11], true⟩, ⟨b29, 0, [.string ByteArray.empty, (.float .f64 0), .map none], true⟩, ⟨b37, 0, [.string (bs s53), .float .f64 (IntKind.u64.wrap n93).toNat, .map m_], true⟩]).recast 2 (.v (.pointer (some ⟨b29, 0, none⟩))) (.p 1 0) rfl rfl (Nat.le_of_ble_eq_true (n := 2) rfl)
    have hE139 := hE138.recast 3 (.v (.pointer (some ⟨b37, 0, none⟩))) (.p 2 0) rfl rfl (Nat.le_of_ble_eq_true (n := 3) rfl)
    have hE140 : EnvOk 32 [⟨b21, 0, [.int .i64 n1, .slice A6 s2.length c7, .bool b3, .slice A8 l4.length c9, .slice A10 u5.length c11], true⟩, ⟨b29, 0, [.string ByteArray.empty, (.float .f64 0), .map none], true⟩, ⟨b37, 0, [.string (bs s53), .float .f64 (IntKind.u64.wrap n93).toNat, .map m_], true⟩] [(2, .p 1 0), (3, .p 2 0)] _ := hE139.pk
    refine then_normal ?_
    refine go_seq_region [0, 1] (by kernel_rfl) ?_
    refine go_rn [0] [1] [(2, .p 1 0), (31, .v (.agg #[.string (bs s53), .float .f64 (IntKind.u64.wrap n93).toNat, .map m_]))] hW135 hE140 fun a141 hE142 => ?_
    clear hE140
    refine of_op (wpOp_store hW135 hE142 (oi := 1) (cs := [.string (bs s53), .float .f64 (IntKind.u64.wrap n93).toNat, .map m_]) (by kernel_rfl) fun w143 hF144 hW145 hE146 => ?_)
    clear hE142 hW135
    refine wpOps_nil ?_
    refine then_normal ?_
    refine wp_ret ?_
    refine leave hE146 hW145.cells (v := .agg #[.string (bs s53), .float .f64 (IntKind.u64.wrap n93).toNat, .map m_]) (by kernel_rfl) ?_
    refine ⟨dvP m_ u5 [dvS (bs s53), dvF (IntKind.u64.wrap n93).toNat], rfl, ?_, ?_, hW145.step⟩
    · unfold okDescribeClientQuotasResponseEntryValue
      exact ⟨by show ByteArray.size (bs s53) ≤ 1000000; rw [bs_size]; have h_ := cj0; rw [ht69] at h_; exact h_, trivial, ((hM137.move hF144.step immM hF144.to').move (Step.refl _ Nil) nilM immOut), cU.2.1, cU.2.2, trivial⟩
    · unfold relDescribeClientQuotasResponseEntryValue
      exact ⟨by rw [ht69]; rfl, by rw [ht110]; rfl, rfl, trivial⟩

set_option maxHeartbeats 4000000 in
theorem eDescribeClientQuotasResponseEntry (ct : List Value) (t : Tree) (w : World) (F : Nat → Nat → Prop) (ht : TreeR w F ct t) (hc : canDescribeClientQuotasResponseEntry t) :
    Calls Tryz.prog 98 #[.agg ct.toArray] w (fun e w' => ∃ D : DV, e = .returned (.agg #[.slice ((D.f 0).A) ((D.f 0).l) ((D.f 0).c), .slice ((D.f 1).A) ((D.f 1).l) ((D.f 1).c), .map D.m]) ∧ okDescribeClientQuotasResponseEntry w' (Fp F w) D ∧ relDescribeClientQuotasResponseEntry D t ∧ Step w w' Nil) := by
  obtain ⟨n1, s2, b3, l4, u5, A6, c7, A8, c9, A10, c11, xs12, rfl, rfl, h14, h15, h16, h17⟩ := ht.open_
  have hsm19 := h14.small
  have hsm20 := h15.small
  unfold canDescribeClientQuotasResponseEntry at hc
  obtain ⟨⟨cj0, cj0e⟩, ⟨cj1, cj1e⟩, cU, _⟩ := hc
  have hsort := cU.1
  replace hsort : Sorted u5 := hsort
  have hul : u5.length ≤ 1000000 := cU.2.1
  refine enter (n := 77) Tryz.func98 rfl Tryz.ntmps98 (by kernel_rfl) fun a hE => ?_
  have hW := WOk.start w Nil
  refine go_seq_region [0, 1] (by kernel_rfl) ?_
  refine of_op (wpOp_box hW hE (d := 1) (cs := [.int .i64 n1, .slice A6 s2.length c7, .bool b3, .slice A8 l4.length c9, .slice A10 u5.length c11]) (by kernel_rfl) fun b21 a22 w23 hb24 hz25 hF26 hW27 hE28 => ?_)
  clear hE hW
  refine of_op (wpOp_alloc hW27 hE28 (d := 2) (cs := [.slice none 0 0, .slice none 0 0, .map none]) (by kernel_rfl) fun b29 a30 w31 hb32 hz33 hF34 hW35 hE36 => ?_)
  clear hE28 hW27
  refine wpOps_nil ?_
  refine then_normal ?_
  refine go_seq_region [0] (by kernel_rfl) ?_
  refine of_op (wpOp_alloc hW35 hE36 (d := 3) (cs := [.slice none 0 0, .slice none 0 0, .map none]) (by kernel_rfl) fun b37 a38 w39 hb40 hz41 hF42 hW43 hE44 => ?_)
  clear hE36 hW35
  refine wpOps_nil ?_
  refine then_normal ?_
  refine wp_seq ?_
  refine go_seq_region [0, 1, 2, 3] (by kernel_rfl) ?_
  refine go_rn [0] [1, 2, 3] [(1, .p 0 0), (2, .p 1 0), (3, .p 2 0), (10, .v (.agg #[.int .i64 n1, .slice A6 s2.length c7, .bool b3, .slice A8 l4.length c9, .slice A10 u5.length c11]))] hW43 hE44 fun a45 hE46 => ?_
  clear hE44
  refine of_op (wpOp_call hE46 (f := 73) (vs := [.agg #[.int .i64 n1, .slice A6 s2.length c7, .bool b3, .slice A8 l4.length c9, .slice A10 u5.length c11], .int .i64 0]) (d := 11) (by kernel_rfl) Tryz.call73 (iAt _ _ 0 _ _ (ht.move hW43.step nilM hW43.imm)) ?_)
  rintro e_ w50 ⟨cs49, rfl, hr48, hs47⟩
  have hr51 := hr48.move hs47 nilM (fun b o h_ hb_ => hW43.laid (G := F) hs47 b o (.inl h_) (Nat.lt_of_lt_of_le hb_ hs47.size))
  obtain ⟨n52, s53, b54, l55, u56, A57, c58, A59, c60, A61, c62, xs63, ht69, hcs64, h65, h66, h67, h68⟩ := hr51.open_
  rw [hcs64] at hr51
  have hsm70 := h65.small
  have hsm71 := h66.small
  rw [hcs64]
  refine ⟨_, rfl, fun a72 hE73 => ?_⟩
  have hW74 := hW43.next_nil hs47
  have hF75 := hW43.frN hs47
  clear hE46
  refine go_rn [2, 3] [] [(1, .p 0 0), (2, .p 1 0), (3, .p 2 0), (13, .v (.bool (!b54)))] hW74 hE73 fun a76 hE77 => ?_
  clear hE73
  refine wpOps_nil ?_
  refine then_normal ?_
  refine wp_join (Mid := fun a_ w_ => ∃ (A_ : Option Addr) (c_ : Nat) (f_ : Nat → DV), A_.isNone = Tree.null (Tree.at_ (Tree.mk n1 s2 b3 l4 u5) 0) ∧ LstR w_ (Imm F w w_ [⟨b21, 0, [.int .i64 n1, .slice A6 s2.length c7, .bool b3, .slice A8 l4.length c9, .slice A10 u5.length c11], true⟩, ⟨b29, 0, [.slice none 0 0, .slice none 0 0, .map none], true⟩, ⟨b37, 0, [.slice A_ ((lst (Tree.at_ (Tree.mk n1 s2 b3 l4 u5) 0)).length) c_, .slice none 0 0, .map none], true⟩] []) 3 clDescribeClientQuotasResponseEntryEntity okDescribeClientQuotasResponseEntryEntity relDescribeClientQuotasResponseEntryEntity A_ c_ f_ (lst (Tree.at_ (Tree.mk n1 s2 b3 l4 u5) 0)) ∧ LInv hW74 77 [⟨b21, 0, [.int .i64 n1, .slice A6 s2.length c7, .bool b3, .slice A8 l4.length c9, .slice A10 u5.length c11], true⟩, ⟨b29, 0, [.slice none 0 0, .slice none 0 0, .map none], true⟩, ⟨b37, 0, [.slice A_ ((lst (Tree.at_ (Tree.mk n1 s2 b3 l4 u5) 0)).length) c_, .slice none 0 0, .map none], true⟩] [] [(1, .p 0 0), (2, .p 1 0), (3, .p 2 0)] a_ w_) ?_ ?_
  ·
    refine cond_of hE77 (b := !b54) (by kernel_rfl) (fun hc78 => ?_) (fun hc78 => ?_)
    ·
      have hnull_ : Tree.null (Tree.at_ (Tree.mk n1 s2 b3 l4 u5) 0) = false := by rw [ht69]; show b54 = false; simpa using hc78
      refine go_seq_region [0, 1, 2, 3, 4, 5, 6] (by kernel_rfl) ?_
      refine go_rn [0] [1, 2, 3, 4, 5, 6] [(1, .p 0 0), (2, .p 1 0), (3, .p 2 0), (14, .v (.agg #[.int .i64 n1, .slice A6 s2.length c7, .bool b3, .slice A8 l4.length c9, .slice A10 u5.length c11]))] hW74 hE77 fun a80 hE81 => ?_
      clear hE77
      refine of_op (wpOp_call hE81 (f := 73) (vs := [.agg #[.int .i64 n1, .slice A6 s2.length c7, .bool b3, .slice A8 l4.length c9, .slice A10 u5.length c11], .int .i64 0]) (d := 15) (by kernel_rfl) Tryz.call73 (iAt _ _ 0 _ _ (ht.move hW74.step nilM hW74.imm)) ?_)
      rintro e_ w85 ⟨cs84, rfl, hr83, hs82⟩
      have hr86 := hr83.move hs82 nilM (fun b o h_ hb_ => hW74.laid (G := F) hs82 b o (.inl h_) (Nat.lt_of_lt_of_le hb_ hs82.size))
      obtain ⟨n87, s88, b89, l90, u91, A92, c93, A94, c95, A96, c97, xs98, ht104, hcs99, h100, h101, h102, h103⟩ := hr86.open_
      rw [hcs99] at hr86
      have hsm105 := h100.small
      have hsm106 := h101.small
      rw [hcs99]
      refine ⟨_, rfl, fun a107 hE108 => ?_⟩
      have hW109 := hW74.next_nil hs82
      have hF110 := hW74.frN hs82
      clear hE81
      have hl3_ : lst (Tree.at_ (Tree.mk n1 s2 b3 l4 u5) 0) = l90 := by rw [lst_of hnull_, ht104]; rfl
      have hb111 : l90.length ≤ 1000000 := by have h_ := cj0; rw [hl3_] at h_; exact h_
      refine go_rn [2, 3] [4, 5, 6] [(1, .p 0 0), (2, .p 1 0), (3, .p 2 0), (17, .v (.int .i64 ((l90.length : Nat) : Int)))] hW109 hE108 fun a112 hE113 => ?_
      clear hE108
      refine of_op (wpOp_make0 hW109 hE113 (d := 18) (j := l90.length) (t := 129) (e := 139) (size := 3) (bytes := 32) (by kernel_rfl) (by kernel_rfl) rfl (rfl) (by omega) fun b114 a115 w116 hb117 hz118 hF119 hW120 hE121 => ?_)
      clear hE113 hW109
      refine go_rn [5] [6] [(1, .p 0 0), (2, .p 1 0), (3, .p 2 0), (18, .v (.slice (some ⟨b114, 0, none⟩) 0 l90.length)), (19, .p 2 0)] hW120 hE121 fun a122 hE123 => ?_
      clear hE121
      refine of_op (wpOp_store hW120 hE123 (oi := 2) (cs := [.slice (some ⟨b114, 0, none⟩) 0 l90.length, .slice none 0 0, .map none]) (by kernel_rfl) fun w124 hF125 hW126 hE127 => ?_)
      clear hE123 hW120
      refine wpOps_nil ?_
      refine then_normal ?_
      refine go_seq_region [0, 1, 2, 3, 4] (by kernel_rfl) ?_
      refine go_rn [0] [1, 2, 3, 4] [(1, .p 0 0), (2, .p 1 0), (3, .p 2 0), (20, .v (.agg #[.int .i64 n1, .slice A6 s2.length c7, .bool b3, .slice A8 l4.length c9, .slice A10 u5.length c11]))] hW126 hE127 fun a128 hE129 => ?_
      clear hE127
      refine of_op (wpOp_call hE129 (f := 73) (vs := [.agg #[.int .i64 n1, .slice A6 s2.length c7, .bool b3, .slice A8 l4.length c9, .slice A10 u5.length c11], .int .i64 0]) (d := 21) (by kernel_rfl) Tryz.call73 (iAt _ _ 0 _ _ (ht.move hW126.step nilM hW126.imm)) ?_)
      rintro e_ w133 ⟨cs132, rfl, hr131, hs130⟩
      have hr134 := hr131.move hs130 nilM (fun b o h_ hb_ => hW126.laid (G := F) hs130 b o (.inl h_) (Nat.lt_of_lt_of_le hb_ hs130.size))
      obtain ⟨n135, s136, b137, l138, u139, A140, c141, A142, c143, A144, c145, xs146, ht152, hcs147, h148, h149, h150, h151⟩ := hr134.open_
      rw [hcs147] at hr134
      have hsm153 := h148.small
      have hsm154 := h149.small
      rw [hcs147]
      refine ⟨_, rfl, fun a155 hE156 => ?_⟩
      have hW157 := hW126.next_nil hs130
      have hF158 := hW126.frN hs130
      clear hE129
      have hl3_ : lst (Tree.at_ (Tree.mk n1 s2 b3 l4 u5) 0) = l138 := by rw [lst_of hnull_, ht152]; rfl
      have hb159 : l138.length ≤ 1000000 := by have h_ := cj0; rw [hl3_] at h_; exact h_
      refine go_rn [2, 3, 4] [] [(1, .p 0 0), (2, .p 1 0), (3, .p 2 0), (22, .v (.slice A142 l138.length c143)), (23, .v (.int .i64 ((l138.length : Nat) : Int))), (24, .v (.int .i64 0))] hW157 hE156 fun a160 hE161 => ?_
      clear hE156
      refine wpOps_nil ?_
      refine then_normal ?_
      refine wp_block ?_
      refine wp_loop_ghost (fun n_ a_ w_ => ∃ (k : Nat) (A_ : Option Addr) (c_ : Nat) (xs_ : List Value) (ds_ : List DV), n_ = l138.length - k ∧ k ≤ l138.length ∧ (A_.isNone = false) ∧ (RowL w_ (Imm F w w_ [⟨b21, 0, [.int .i64 n1, .slice A6 s2.length c7, .bool b3, .slice A8 l4.length c9, .slice A10 u5.length c11], true⟩, ⟨b29, 0, [.slice none 0 0, .slice none 0 0, .map none], true⟩, ⟨b37, 0, [.slice A_ k c_, .slice none 0 0, .map none], true⟩] [⟨A_, c_, 139, 3, k, xs_⟩]) 3 clDescribeClientQuotasResponseEntryEntity okDescribeClientQuotasResponseEntryEntity relDescribeClientQuotasResponseEntryEntity xs_ ds_ (l138.take k)) ∧ LInv hW157 77 [⟨b21, 0, [.int .i64 n1, .slice A6 s2.length c7, .bool b3, .slice A8 l4.length c9, .slice A10 u5.length c11], true⟩, ⟨b29, 0, [.slice none 0 0, .slice none 0 0, .map none], true⟩, ⟨b37, 0, [.slice A_ k c_, .slice none 0 0, .map none], true⟩] [⟨A_, c_, 139, 3, k, xs_⟩] [(1, .p 0 0), (2, .p 1 0), (3, .p 2 0), (22, .v (.slice A142 l138.length c143)), (23, .v (.int .i64 ((l138.length : Nat) : Int))), (24, .v (.int .i64 ((k : Nat) : Int)))] a_ w_) (l138.length) ⟨0, (some ⟨b114, 0, none⟩), l90.length, [], [], by omega, by omega, rfl, RowL.nil mvDescribeClientQuotasResponseEntryEntity, hE161.pk, hW157, Fr.refl _ _ _⟩ ?_
      clear hE161
      rintro n162 a163 w164 ⟨k, A_, c_, xs_, ds_, hn167, hk168, hA, hR, hE165, hW166, hF169⟩
      refine go_sp [(1, .p 0 0), (2, .p 1 0), (3, .p 2 0), (22, .v (.slice A142 l138.length c143)), (23, .v (.int .i64 ((l138.length : Nat) : Int))), (24, .v (.int .i64 ((k : Nat) : Int))), (25, .v (.bool (decide (((k : Nat) : Int) < ((l138.length : Nat) : Int)))))] hW166 hE165 fun a170 hE171 => ?_
      clear hE165
      refine wp_seq ?_
      refine cond_of hE171 (b := decide (((k : Nat) : Int) < ((l138.length : Nat) : Int))) (by kernel_rfl) (fun hc172 => ?_) (fun hc172 => ?_)
      ·
        have hf173 := of_decide_eq_true hc172
        refine wp_skip ?_
        refine then_normal ?_
        refine wp_seq ?_
        refine wp_block ?_
        refine go_seq_region [0, 1, 2, 3] (by kernel_rfl) ?_
        obtain ⟨b174, o175, hA176, hl177, hat178⟩ := Slots.get h149 (i := k) (by omega)
        obtain ⟨x179, he180⟩ : ∃ x, l138[k]? = some x := ⟨_, List.getElem?_eq_getElem (by omega)⟩
        have hr181 := h150 k x179 he180
        obtain ⟨n182, s183, b184, l185, u186, A187, c188, A189, c190, A191, c192, xs193, rfl, hcs194, h195, h196, h197, h198⟩ := hr181.open_
        rw [hcs194] at hr181
        have hsm200 := h195.small
        have hsm201 := h196.small
        rw [hcs194] at hat178
        refine of_op (wpOp_index hE171 (t := 36) (A := A142) (m := l138.length) (q := ((k : Nat) : Int)) (d := 26) (by kernel_rfl) (e := 39) (size := 5) (bytes := 88) (by kernel_rfl) hA176 rfl (by omega) fun a202 hE203 => ?_)
        clear hE171
        refine of_op (wpOp_load hE203 (t := 39) (b := b174) (o := o175 + k * 5) (d := 27) (by kernel_rfl) (cs := [.int .i64 n182, .slice A187 s183.length c188, .bool b184, .slice A189 l185.length c190, .slice A191 u186.length c192]) (v := .agg #[.int .i64 n182, .slice A187 s183.length c188, .bool b184, .slice A189 l185.length c190, .slice A191 u186.length c192]) (by kernel_rfl) (AtF.move hat178 hF169.step immM hF169.to').at_ fun a204 hE205 => ?_)
        clear hE203
        refine of_op (wpOp_alloc hW166 hE205 (d := 5) (cs := [.int .i64 0, .slice none 0 0, .bool false, .slice none 0 0, .slice none 0 0]) (by kernel_rfl) fun b206 a207 w208 hb209 hz210 hF211 hW212 hE213 => ?_)
        clear hE205 hW166
        refine of_op (wpOp_store hW212 hE213 (oi := 3) (cs := [.int .i64 n182, .slice A187 s183.length c188, .bool b184, .slice A189 l185.length c190, .slice A191 u186.length c192]) (by kernel_rfl) fun w214 hF215 hW216 hE217 => ?_)
        clear hE213 hW212
        refine wpOps_nil ?_
        refine then_normal ?_
        refine go_drawK 7 (by kernel_rfl) hW216 fun w218 hF219 hW220 hT221 => ?_
        clear hW216
        refine go_rnD [0, 1, 2] [(1, .p 0 0), (2, .p 1 0), (3, .p 2 0), (22, .v (.slice A142 l138.length c143)), (23, .v (.int .i64 ((l138.length : Nat) : Int))), (24, .v (.int .i64 ((k : Nat) : Int))), (29, .v (.slice A_ k c_)), (30, .v (.agg #[.int .i64 n182, .slice A187 s183.length c188, .bool b184, .slice A189 l185.length c190, .slice A191 u186.length c192]))] 5 (panicFree_block (panicFree_then (panicFree_then (panicFree_block (panicFree_then panicFree_body))))) (fun _ h => h.cells) hT221 hE217 fun a222 hE223 => ?_
        clear hE217
        refine anyC_op (i := 3) (by kernel_rfl) (wpOp_call hE223 (f := 133) (vs := [.agg #[.int .i64 n182, .slice A187 s183.length c188, .bool b184, .slice A189 l185.length c190, .slice A191 u186.length c192]]) (d := 31) (by kernel_rfl) Tryz.call133 (eDescribeClientQuotasResponseEntryEntity _ _ _ _ (hr181.move (Fr.trans (Fr.trans (Fr.trans hF169 hF211) hF215) hF219).step immM (Fr.trans (Fr.trans (Fr.trans hF169 hF211) hF215) hF219).to') (cj0e _ (by rw [hl3_]; exact List.mem_of_getElem? he180))) ?_)
        rintro e_ w229 ⟨D227, rfl, hk225, hrel226, hs224⟩
        have hk228 := mvDescribeClientQuotasResponseEntryEntity _ (Step.refl _ Nil) nilM (hW220.laid (G := F) hs224) hk225
        refine ⟨_, rfl, fun a230 hE231 => ?_⟩
        have hW232 := hW220.next_nil hs224
        have hF233 := hW220.frN hs224
        clear hE223
        have hT234 := TT.ofW hF233 hW232
        refine ⟨fun _ => hT234, ?_⟩
        refine anyC_op (i := 4) (by kernel_rfl) (wpOp_lit hW232 hE231 (e := 139) (size := 3) (len := 1) (cs := [.string ((D227.f 0).s), .pointer ((D227.f 1).A), .map D227.m]) (d := 32) (by kernel_rfl) (by kernel_rfl) fun b235 a236 w237 hb238 hz239 hF240 hW241 hE242 => ?_)
        clear hE231 hW232
        have hT243 := TT.ofW (Fr.trans hF233 hF240) hW241
        refine ⟨fun _ => hT243, ?_⟩
        refine anyC_op (i := 5) (by kernel_rfl) (wpOp_append hW241 hE242 (k := 0) (d := 33) (t := 129) (e := 139) (size := 3) (bytes := 32) (A := A_) (As := (some ⟨b235, 0, none⟩)) (m0 := k) (c := c_) (m := 1) (cs := 1) (xs := xs_) (news := [.string ((D227.f 0).s), .pointer ((D227.f 1).A), .map D227.m]) (by kernel_rfl) (by kernel_rfl) rfl (own_src (hW241.own 1 _ rfl) (allOne_ok (by kernel_rfl))) (own_cap (hW241.own 1 _ rfl)) (by omega) fun A244 c245 a246 w247 hF248 hW249 hE250 => ?_)
        clear hE242 hW241
        have hT251 := TT.ofW (Fr.trans (Fr.trans hF233 hF240) hF248) hW249
        refine ⟨fun _ => hT251, ?_⟩
        refine go_rnD [6] [(1, .p 0 0), (2, .p 1 0), (3, .p 2 0), (22, .v (.slice A142 l138.length c143)), (23, .v (.int .i64 ((l138.length : Nat) : Int))), (24, .v (.int .i64 ((k : Nat) : Int))), (33, .v (.slice A244 (k + 1) c245)), (34, .p 2 0)] 1 (panicFree_block (panicFree_then (panicFree_then (panicFree_block (panicFree_then panicFree_body))))) (fun _ h => h.cells) hT251 hE250 fun a252 hE253 => ?_
        clear hE250
        refine anyC_op (i := 7) (by kernel_rfl) (wpOp_store hW249 hE253 (oi := 2) (cs := [.slice A244 (k + 1) c245, .slice none 0 0, .map none]) (by kernel_rfl) fun w254 hF255 hW256 hE257 => ?_)
        clear hE253 hW249
        refine ⟨fun h => absurd rfl h, ?_⟩
        refine anyC_done (by kernel_rfl) ?_ _
        refine block_normal ?_
        refine then_normal ?_
        refine go_region [0, 1] (by kernel_rfl) ?_
        refine go_rn [0, 1] [] [(1, .p 0 0), (2, .p 1 0), (3, .p 2 0), (22, .v (.slice A142 l138.length c143)), (23, .v (.int .i64 ((l138.length : Nat) : Int))), (24, .v (.int .i64 (IntKind.i64.wrap (((k : Nat) : Int) + 1))))] hW256 hE257 fun a258 hE259 => ?_
        clear hE257
        refine wpOps_nil ?_
        refine then_normal ?_
        obtain ⟨hE260, hW261, hF262⟩ := hW256.cutB hE259 3 [⟨b21, 0, [.int .i64 n1, .slice A6 s2.length c7, .bool b3, .slice A8 l4.length c9, .slice A10 u5.length c11], true⟩, ⟨b29, 0, [.slice none 0 0, .slice none 0 0, .map none], true⟩, ⟨b37, 0, [.slice A244 (k + 1) c245, .slice none 0 0, .map none], true⟩] [(1, .p 0 0), (2, .p 1 0), (3, .p 2 0), (22, .v (.slice A142 l138.length c143)), (23, .v (.int .i64 ((l138.length : Nat) : Int))), (24, .v (.int .i64 (IntKind.i64.wrap (((k : Nat) : Int) + 1))))]
        obtain ⟨hW263, hF264⟩ := hW261.cutR 1 [⟨A244, c245, 139, 3, k + 1, xs_ ++ [.string ((D227.f 0).s), .pointer ((D227.f 1).A), .map D227.m]⟩]
        have he265 : IntKind.i64.wrap (((k : Nat) : Int) + 1) = ((k + 1 : Nat) : Int) := wrap_succ (by omega)
        rw [he265] at hE260
        exact ⟨l138.length - (k + 1), by omega, k + 1, A244, c245, xs_ ++ [Value.string ((D227.f 0).s), .pointer ((D227.f 1).A), .map D227.m], (ds_ ++ [D227]), rfl, by omega, own_some hW263 (k := 0) rfl (by omega), RowL.snoc (d := D227) (hR.move (Fr.trans (Fr.trans (Fr.trans (Fr.trans (Fr.trans (Fr.trans (Fr.trans (Fr.trans hF211 hF215) hF219) hF233) hF240) hF248) hF255) hF262) hF264).step immM (Fr.trans (Fr.trans (Fr.trans (Fr.trans (Fr.trans (Fr.trans (Fr.trans (Fr.trans hF211 hF215) hF219) hF233) hF240) hF248) hF255) hF262) hF264).to') he180 rfl (mvDescribeClientQuotasResponseEntryEntity _ (Fr.trans (Fr.trans (Fr.trans (Fr.trans hF240 hF248) hF255) hF262) hF264).step immM (Fr.trans (Fr.trans (Fr.trans (Fr.trans hF240 hF248) hF255) hF262) hF264).to' hk228) hrel226, hE260.pk, hW263, (Fr.trans (Fr.trans (Fr.trans (Fr.trans (Fr.trans (Fr.trans (Fr.trans (Fr.trans (Fr.trans hF169 hF211) hF215) hF219) hF233) hF240) hF248) hF255) hF262) hF264)⟩
      ·
        have hf266 := of_decide_eq_false hc172
        refine wp_exit ?_
        refine then_exit ?_
        refine then_exit ?_
        refine block_exit ?_
        refine then_normal ?_
        have hk_ : k = (lst (Tree.at_ (Tree.mk n1 s2 b3 l4 u5) 0)).length := by rw [hl3_]; omega
        subst k
        have hL_ := LstR.of hW166 (k := 0) (rs' := []) rfl hR (by rw [hl3_]) oneDescribeClientQuotasResponseEntryEntity (by omega)
        rw [← hl3_] at hL_
        obtain ⟨hW267, hF268⟩ := hW166.cutR 0 []
        exact ⟨_, _, _, by rw [hnull_]; exact hA, hL_, hE171.pk, hW267, (Fr.trans (Fr.trans (Fr.trans (Fr.trans (Fr.trans hF110 hF119) hF125) hF158) hF169) hF268)⟩
    ·
      refine wp_skip ?_
      refine then_normal ?_
      have hn_ : Tree.null (Tree.at_ (Tree.mk n1 s2 b3 l4 u5) 0) = true := by rw [ht69]; show b54 = true; simpa using hc78
      have hl_ := lst_no hn_
      exact ⟨none, 0, fun _ => dv0, by rw [hn_]; rfl, by rw [hl_]; exact LstR.nil mvDescribeClientQuotasResponseEntryEntity, by rw [hl_]; exact ⟨hE77.pk, hW74, Fr.refl _ _ _⟩⟩
  rintro a278 w279 ⟨A270, c271, f272, hn273, hL274, hE275, hW276, hF277⟩
  refine wp_seq ?_
  refine go_seq_region [0, 1, 2, 3] (by kernel_rfl) ?_
  refine go_rn [0] [1, 2, 3] [(1, .p 0 0), (2, .p 1 0), (3, .p 2 0), (36, .v (.agg #[.int .i64 n1, .slice A6 s2.length c7, .bool b3, .slice A8 l4.length c9, .slice A10 u5.length c11]))] hW276 hE275 fun a280 hE281 => ?_
  clear hE275
  refine of_op (wpOp_call hE281 (f := 73) (vs := [.agg #[.int .i64 n1, .slice A6 s2.length c7, .bool b3, .slice A8 l4.length c9, .slice A10 u5.length c11], .int .i64 1]) (d := 37) (by kernel_rfl) Tryz.call73 (iAt _ _ 1 _ _ (ht.move hW276.step nilM hW276.imm)) ?_)
  rintro e_ w285 ⟨cs284, rfl, hr283, hs282⟩
  have hr286 := hr283.move hs282 nilM (fun b o h_ hb_ => hW276.laid (G := F) hs282 b o (.inl h_) (Nat.lt_of_lt_of_le hb_ hs282.size))
  obtain ⟨n287, s288, b289, l290, u291, A292, c293, A294, c295, A296, c297, xs298, ht304, hcs299, h300, h301, h302, h303⟩ := hr286.open_
  rw [hcs299] at hr286
  have hsm305 := h300.small
  have hsm306 := h301.small
  rw [hcs299]
  refine ⟨_, rfl, fun a307 hE308 => ?_⟩
  have hW309 := hW276.next_nil hs282
  have hF310 := hW276.frN hs282
  clear hE281
  refine go_rn [2, 3] [] [(1, .p 0 0), (2, .p 1 0), (3, .p 2 0), (39, .v (.bool (!b289)))] hW309 hE308 fun a311 hE312 => ?_
  clear hE308
  refine wpOps_nil ?_
  refine then_normal ?_
  refine wp_join (Mid := fun a_ w_ => ∃ (A_ : Option Addr) (c_ : Nat) (f_ : Nat → DV), A_.isNone = Tree.null (Tree.at_ (Tree.mk n1 s2 b3 l4 u5) 1) ∧ LstR w_ (Imm F w w_ [⟨b21, 0, [.int .i64 n1, .slice A6 s2.length c7, .bool b3, .slice A8 l4.length c9, .slice A10 u5.length c11], true⟩, ⟨b29, 0, [.slice none 0 0, .slice none 0 0, .map none], true⟩, ⟨b37, 0, [.slice A270 ((lst (Tree.at_ (Tree.mk n1 s2 b3 l4 u5) 0)).length) c271, .slice A_ ((lst (Tree.at_ (Tree.mk n1 s2 b3 l4 u5) 1)).length) c_, .map none], true⟩] []) 3 clDescribeClientQuotasResponseEntryValue okDescribeClientQuotasResponseEntryValue relDescribeClientQuotasResponseEntryValue A_ c_ f_ (lst (Tree.at_ (Tree.mk n1 s2 b3 l4 u5) 1)) ∧ LInv hW309 77 [⟨b21, 0, [.int .i64 n1, .slice A6 s2.length c7, .bool b3, .slice A8 l4.length c9, .slice A10 u5.length c11], true⟩, ⟨b29, 0, [.slice none 0 0, .slice none 0 0, .map none], true⟩, ⟨b37, 0, [.slice A270 ((lst (Tree.at_ (Tree.mk n1 s2 b3 l4 u5) 0)).length) c271, .slice A_ ((lst (Tree.at_ (Tree.mk n1 s2 b3 l4 u5) 1)).length) c_, .map none], true⟩] [] [(1, .p 0 0), (2, .p 1 0), (3, .p 2 0)] a_ w_) ?_ ?_
  ·
    refine cond_of hE312 (b := !b289) (by kernel_rfl) (fun hc313 => ?_) (fun hc313 => ?_)
    ·
      have hnull_ : Tree.null (Tree.at_ (Tree.mk n1 s2 b3 l4 u5) 1) = false := by rw [ht304]; show b289 = false; simpa using hc313
      refine go_seq_region [0, 1, 2, 3, 4, 5, 6] (by kernel_rfl) ?_
      refine go_rn [0] [1, 2, 3, 4, 5, 6] [(1, .p 0 0), (2, .p 1 0), (3, .p 2 0), (40, .v (.agg #[.int .i64 n1, .slice A6 s2.length c7, .bool b3, .slice A8 l4.length c9, .slice A10 u5.length c11]))] hW309 hE312 fun a315 hE316 => ?_
      clear hE312
      refine of_op (wpOp_call hE316 (f := 73) (vs := [.agg #[.int .i64 n1, .slice A6 s2.length c7, .bool b3, .slice A8 l4.length c9, .slice A10 u5.length c11], .int .i64 1]) (d := 41) (by kernel_rfl) Tryz.call73 (iAt _ _ 1 _ _ (ht.move hW309.step nilM hW309.imm)) ?_)
      rintro e_ w320 ⟨cs319, rfl, hr318, hs317⟩
      have hr321 := hr318.move hs317 nilM (fun b o h_ hb_ => hW309.laid (G := F) hs317 b o (.inl h_) (Nat.lt_of_lt_of_le hb_ hs317.size))
      obtain ⟨n322, s323, b324, l325, u326, A327, c328, A329, c330, A331, c332, xs333, ht339, hcs334, h335, h336, h337, h338⟩ := hr321.open_
      rw [hcs334] at hr321
      have hsm340 := h335.small
      have hsm341 := h336.small
      rw [hcs334]
      refine ⟨_, rfl, fun a342 hE343 => ?_⟩
      have hW344 := hW309.next_nil hs317
      have hF345 := hW309.frN hs317
      clear hE316
      have hl3_ : lst (Tree.at_ (Tree.mk n1 s2 b3 l4 u5) 1) = l325 := by rw [lst_of hnull_, ht339]; rfl
      have hb346 : l325.length ≤ 1000000 := by have h_ := cj1; rw [hl3_] at h_; exact h_
      refine go_rn [2, 3] [4, 5, 6] [(1, .p 0 0), (2, .p 1 0), (3, .p 2 0), (43, .v (.int .i64 ((l325.length : Nat) : Int)))] hW344 hE343 fun a347 hE348 => ?_
      clear hE343
      refine of_op (wpOp_make0 hW344 hE348 (d := 44) (j := l325.length) (t := 130) (e := 142) (size := 3) (bytes := 32) (by kernel_rfl) (by kernel_rfl) rfl (rfl) (by omega) fun b349 a350 w351 hb352 hz353 hF354 hW355 hE356 => ?_)
      clear hE348 hW344
      refine go_rn [5] [6] [(1, .p 0 0), (2, .p 1 0), (3, .p 2 0), (44, .v (.slice (some ⟨b349, 0, none⟩) 0 l325.length)), (45, .p 2 1)] hW355 hE356 fun a357 hE358 => ?_
      clear hE356
      refine of_op (wpOp_store hW355 hE358 (oi := 2) (cs := [.slice A270 ((lst (Tree.at_ (Tree.mk n1 s2 b3 l4 u5) 0)).length) c271, .slice (some ⟨b349, 0, none⟩) 0 l325.length, .map none]) (by kernel_rfl) fun w359 hF360 hW361 hE362 => ?_)
      clear hE358 hW355
      refine wpOps_nil ?_
      refine then_normal ?_
      refine go_seq_region [0, 1, 2, 3, 4] (by kernel_rfl) ?_
      refine go_rn [0] [1, 2, 3, 4] [(1, .p 0 0), (2, .p 1 0), (3, .p 2 0), (46, .v (.agg #[.int .i64 n1, .slice A6 s2.length c7, .bool b3, .slice A8 l4.length c9, .slice A10 u5.length c11]))] hW361 hE362 fun a363 hE364 => ?_
      clear hE362
      refine of_op (wpOp_call hE364 (f := 73) (vs := [.agg #[.int .i64 n1, .slice A6 s2.length c7, .bool b3, .slice A8 l4.length c9, .slice A10 u5.length c11], .int .i64 1]) (d := 47) (by kernel_rfl) Tryz.call73 (iAt _ _ 1 _ _ (ht.move hW361.step nilM hW361.imm)) ?_)
      rintro e_ w368 ⟨cs367, rfl, hr366, hs365⟩
      have hr369 := hr366.move hs365 nilM (fun b o h_ hb_ => hW361.laid (G := F) hs365 b o (.inl h_) (Nat.lt_of_lt_of_le hb_ hs365.size))
      obtain ⟨n370, s371, b372, l373, u374, A375, c376, A377, c378, A379, c380, xs381, ht387, hcs382, h383, h384, h385, h386⟩ := hr369.open_
      rw [hcs382] at hr369
      have hsm388 := h383.small
      have hsm389 := h384.small
      rw [hcs382]
      refine ⟨_, rfl, fun a390 hE391 => ?_⟩
      have hW392 := hW361.next_nil hs365
      have hF393 := hW361.frN hs365
      clear hE364
      have hl3_ : lst (Tree.at_ (Tree.mk n1 s2 b3 l4 u5) 1) = l373 := by rw [lst_of hnull_, ht387]; rfl
      have hb394 : l373.length ≤ 1000000 := by have h_ := cj1; rw [hl3_] at h_; exact h_
      refine go_rn [2, 3, 4] [] [(1, .p 0 0), (2, .p 1 0), (3, .p 2 0), (48, .v (.slice A377 l373.length c378)), (49, .v (.int .i64 ((l373.length : Nat) : Int))), (50, .v (.int .i64 0))] hW392 hE391 fun a395 hE396 => ?_
      clear hE391
      refine wpOps_nil ?_
      refine then_normal ?_
      refine wp_block ?_
      refine wp_loop_ghost (fun n_ a_ w_ => ∃ (k : Nat) (A_ : Option Addr) (c_ : Nat) (xs_ : List Value) (ds_ : List DV), n_ = l373.length - k ∧ k ≤ l373.length ∧ (A_.isNone = false) ∧ (RowL w_ (Imm F w w_ [⟨b21, 0, [.int .i64 n1, .slice A6 s2.length c7, .bool b3, .slice A8 l4.length c9, .slice A10 u5.length c11], true⟩, ⟨b29, 0, [.slice none 0 0, .slice none 0 0, .map none], true⟩, ⟨b37, 0, [.slice A270 ((lst (Tree.at_ (Tree.mk n1 s2 b3 l4 u5) 0)).length) c271, .slice A_ k c_, .map none], true⟩] [⟨A_, c_, 142, 3, k, xs_⟩]) 3 clDescribeClientQuotasResponseEntryValue okDescribeClientQuotasResponseEntryValue relDescribeClientQuotasResponseEntryValue xs_ ds_ (l373.take k)) ∧ LInv hW392 77 [⟨b21, 0, [.int .i64 n1, .slice A6 s2.length c7, .bool b3, .slice A8 l4.length c9, .slice A10 u5.length c11], true⟩, ⟨b29, 0, [.slice none 0 0, .slice none 0 0, .map none], true⟩, ⟨b37, 0, [.slice A270 ((lst (Tree.at_ (Tree.mk n1 s2 b3 l4 u5) 0)).length) c271, .slice A_ k c_, .map none], true⟩] [⟨A_, c_, 142, 3, k, xs_⟩] [(1, .p 0 0), (2, .p 1 0), (3, .p 2 0), (48, .v (.slice A377 l373.length c378)), (49, .v (.int .i64 ((l373.length : Nat) : Int))), (50, .v (.int .i64 ((k : Nat) : Int)))] a_ w_) (l373.length) ⟨0, (some ⟨b349, 0, none⟩), l325.length, [], [], by omega, by omega, rfl, RowL.nil mvDescribeClientQuotasResponseEntryValue, hE396.pk, hW392, Fr.refl _ _ _⟩ ?_
      clear hE396
      rintro n397 a398 w399 ⟨k, A_, c_, xs_, ds_, hn402, hk403, hA, hR, hE400, hW401, hF404⟩
      refine go_sp [(1, .p 0 0), (2, .p 1 0), (3, .p 2 0), (48, .v (.slice A377 l373.length c378)), (49, .v (.int .i64 ((l373.length : Nat) : Int))), (50, .v (.int .i64 ((k : Nat) : Int))), (51, .v (.bool (decide (((k : Nat) : Int) < ((l373.length : Nat) : Int)))))] hW401 hE400 fun a405 hE406 => ?_
      clear hE400
      refine wp_seq ?_
      refine cond_of hE406 (b := decide (((k : Nat) : Int) < ((l373.length : Nat) : Int))) (by kernel_rfl) (fun hc407 => ?_) (fun hc407 => ?_)
      ·
        have hf408 := of_decide_eq_true hc407
        refine wp_skip ?_
        refine then_normal ?_
        refine wp_seq ?_
        refine wp_block ?_
        refine go_seq_region [0, 1, 2, 3] (by kernel_rfl) ?_
        obtain ⟨b409, o410, hA411, hl412, hat413⟩ := Slots.get h384 (i := k) (by omega)
        obtain ⟨x414, he415⟩ : ∃ x, l373[k]? = some x := ⟨_, List.getElem?_eq_getElem (by omega)⟩
        have hr416 := h385 k x414 he415
        obtain ⟨n417, s418, b419, l420, u421, A422, c423, A424, c425, A426, c427, xs428, rfl, hcs429, h430, h431, h432, h433⟩ := hr416.open_
        rw [hcs429] at hr416
        have hsm435 := h430.small
        have hsm436 := h431.small
        rw [hcs429] at hat413
        refine of_op (wpOp_index hE406 (t := 36) (A := A377) (m := l373.length) (q := ((k : Nat) : Int)) (d := 52) (by kernel_rfl) (e := 39) (size := 5) (bytes := 88) (by kernel_rfl) hA411 rfl (by omega) fun a437 hE438 => ?_)
        clear hE406
        refine of_op (wpOp_load hE438 (t := 39) (b := b409) (o := o410 + k * 5) (d := 53) (by kernel_rfl) (cs := [.int .i64 n417, .slice A422 s418.length c423, .bool b419, .slice A424 l420.length c425, .slice A426 u421.length c427]) (v := .agg #[.int .i64 n417, .slice A422 s418.length c423, .bool b419, .slice A424 l420.length c425, .slice A426 u421.length c427]) (by kernel_rfl) (AtF.move hat413 hF404.step immM hF404.to').at_ fun a439 hE440 => ?_)
        clear hE438
        refine of_op (wpOp_alloc hW401 hE440 (d := 7) (cs := [.int .i64 0, .slice none 0 0, .bool false, .slice none 0 0, .slice none 0 0]) (by kernel_rfl) fun b441 a442 w443 hb444 hz445 hF446 hW447 hE448 => ?_)
        clear hE440 hW401
        refine of_op (wpOp_store hW447 hE448 (oi := 3) (cs := [.int .i64 n417, .slice A422 s418.length c423, .bool b419, .slice A424 l420.length c425, .slice A426 u421.length c427]) (by kernel_rfl) fun w449 hF450 hW451 hE452 => ?_)
        clear hE448 hW447
        refine wpOps_nil ?_
        refine then_normal ?_
        refine go_drawK 7 (by kernel_rfl) hW451 fun w453 hF454 hW455 hT456 => ?_
        clear hW451
        refine go_rnD [0, 1, 2] [(1, .p 0 0), (2, .p 1 0), (3, .p 2 0), (48, .v (.slice A377 l373.length c378)), (49, .v (.int .i64 ((l373.length : Nat) : Int))), (50, .v (.int .i64 ((k : Nat) : Int))), (55, .v (.slice A_ k c_)), (56, .v (.agg #[.int .i64 n417, .slice A422 s418.length c423, .bool b419, .slice A424 l420.length c425, .slice A426 u421.length c427]))] 5 (panicFree_block (panicFree_then (panicFree_then (panicFree_block (panicFree_then panicFree_body))))) (fun _ h => h.cells) hT456 hE452 fun a457 hE458 => ?_
        clear hE452
        refine anyC_op (i := 3) (by kernel_rfl) (wpOp_call hE458 (f := 134) (vs := [.agg #[.int .i64 n417, .slice A422 s418.length c423, .bool b419, .slice A424 l420.length c425, .slice A426 u421.length c427]]) (d := 57) (by kernel_rfl) Tryz.call134 (eDescribeClientQuotasResponseEntryValue _ _ _ _ (hr416.move (Fr.trans (Fr.trans (Fr.trans hF404 hF446) hF450) hF454).step immM (Fr.trans (Fr.trans (Fr.trans hF404 hF446) hF450) hF454).to') (cj1e _ (by rw [hl3_]; exact List.mem_of_getElem? he415))) ?_)
        rintro e_ w464 ⟨D462, rfl, hk460, hrel461, hs459⟩
        have hk463 := mvDescribeClientQuotasResponseEntryValue _ (Step.refl _ Nil) nilM (hW455.laid (G := F) hs459) hk460
        refine ⟨_, rfl, fun a465 hE466 => ?_⟩
        have hW467 := hW455.next_nil hs459
        have hF468 := hW455.frN hs459
        clear hE458
        have hT469 := TT.ofW hF468 hW467
        refine ⟨fun _ => hT469, ?_⟩
        refine anyC_op (i := 4) (by kernel_rfl) (wpOp_lit hW467 hE466 (e := 142) (size := 3) (len := 1) (cs := [.string ((D462.f 0).s), .float .f64 (D462.f 1).l, .map D462.m]) (d := 58) (by kernel_rfl) (by kernel_rfl) fun b470 a471 w472 hb473 hz474 hF475 hW476 hE477 => ?_)
        clear hE466 hW467
        have hT478 := TT.ofW (Fr.trans hF468 hF475) hW476
        refine ⟨fun _ => hT478, ?_⟩
        refine anyC_op (i := 5) (by kernel_rfl) (wpOp_append hW476 hE477 (k := 0) (d := 59) (t := 130) (e := 142) (size := 3) (bytes := 32) (A := A_) (As := (some ⟨b470, 0, none⟩)) (m0 := k) (c := c_) (m := 1) (cs := 1) (xs := xs_) (news := [.string ((D462.f 0).s), .float .f64 (D462.f 1).l, .map D462.m]) (by kernel_rfl) (by kernel_rfl) rfl (own_src (hW476.own 1 _ rfl) (allOne_ok (by kernel_rfl))) (own_cap (hW476.own 1 _ rfl)) (by omega) fun A479 c480 a481 w482 hF483 hW484 hE485 => ?_)
        clear hE477 hW476
        have hT486 := TT.ofW (Fr.trans (Fr.trans hF468 hF475) hF483) hW484
        refine ⟨fun _ => hT486, ?_⟩
        refine go_rnD [6] [(1, .p 0 0), (2, .p 1 0), (3, .p 2 0), (48, .v (.slice A377 l373.length c378)), (49, .v (.int .i64 ((l373.length : Nat) : Int))), (50, .v (.int .i64 ((k : Nat) : Int))), (59, .v (.slice A479 (k + 1) c480)), (60, .p 2 1)] 1 (panicFree_block (panicFree_then (panicFree_then (panicFree_block (panicFree_then panicFree_body))))) (fun _ h => h.cells) hT486 hE485 fun a487 hE488 => ?_
        clear hE485
        refine anyC_op (i := 7) (by kernel_rfl) (wpOp_store hW484 hE488 (oi := 2) (cs := [.slice A270 ((lst (Tree.at_ (Tree.mk n1 s2 b3 l4 u5) 0)).length) c271, .slice A479 (k + 1) c480, .map none]) (by kernel_rfl) fun w489 hF490 hW491 hE492 => ?_)
        clear hE488 hW484
        refine ⟨fun h => absurd rfl h, ?_⟩
        refine anyC_done (by kernel_rfl) ?_ _
        refine block_normal ?_
        refine then_normal ?_
        refine go_region [0, 1] (by kernel_rfl) ?_
        refine go_rn [0, 1] [] [(1, .p 0 0), (2, .p 1 0), (3, .p 2 0), (48, .v (.slice A377 l373.length c378)), (49, .v (.int .i64 ((l373.length : Nat) : Int))), (50, .v (.int .i64 (IntKind.i64.wrap (((k : Nat) : Int) + 1))))] hW491 hE492 fun a493 hE494 => ?_
        clear hE492
        refine wpOps_nil ?_
        refine then_normal ?_
        obtain ⟨hE495, hW496, hF497⟩ := hW491.cutB hE494 3 [⟨b21, 0, [.int .i64 n1, .slice A6 s2.length c7, .bool b3, .slice A8 l4.length c9, .slice A10 u5.length c11], true⟩, ⟨b29, 0, [.slice none 0 0, .slice none 0 0, .map none], true⟩, ⟨b37, 0, [.slice A270 ((lst (Tree.at_ (Tree.mk n1 s2 b3 l4 u5) 0)).length) c271, .slice A479 (k + 1) c480, .map none], true⟩] [(1, .p 0 0), (2, .p 1 0), (3, .p 2 0), (48, .v (.slice A377 l373.length c378)), (49, .v (.int .i64 ((l373.length : Nat) : Int))), (50, .v (.int .i64 (IntKind.i64.wrap (((k : Nat) : Int) + 1))))]
        obtain ⟨hW498, hF499⟩ := hW496.cutR 1 [⟨A479, c480, 142, 3, k + 1, xs_ ++ [.string ((D462.f 0).s), .float .f64 (D462.f 1).l, .map D462.m]⟩]
        have he500 : IntKind.i64.wrap (((k : Nat) : Int) + 1) = ((k + 1 : Nat) : Int) := wrap_succ (by omega)
        rw [he500] at hE495
        exact ⟨l373.length - (k + 1), by omega, k + 1, A479, c480, xs_ ++ [Value.string ((D462.f 0).s), .float .f64 (D462.f 1).l, .map D462.m], (ds_ ++ [D462]), rfl, by omega, own_some hW498 (k := 0) rfl (by omega), RowL.snoc (d := D462) (hR.move (Fr.trans (Fr.trans (Fr.trans (Fr.trans (Fr.trans (Fr.trans (Fr.trans (Fr.trans hF446 hF450) hF454) hF468) hF475) hF483) hF490) hF497) hF499).step immM (Fr.trans (Fr.trans (Fr.trans (Fr.trans (Fr.trans (Fr.trans (Fr.trans (Fr.trans hF446 hF450) hF454) hF468) hF475) hF483) hF490) hF497) hF499).to') he415 rfl (mvDescribeClientQuotasResponseEntryValue _ (Fr.trans (Fr.trans (Fr.trans (Fr.trans hF475 hF483) hF490) hF497) hF499).step immM (Fr.trans (Fr.trans (Fr.trans (Fr.trans hF475 hF483) hF490) hF497) hF499).to' hk463) hrel461, hE495.pk, hW498, (Fr.trans (Fr.trans (Fr.trans (Fr.trans (Fr.trans (Fr.trans (Fr.trans (Fr.trans (Fr.trans hF404 hF446) hF450) hF454) hF468) hF475) hF483) hF490) hF497) hF499)⟩
      ·
        have hf501 := of_decide_eq_false hc407
        refine wp_exit ?_
        refine then_exit ?_
        refine then_exit ?_
        refine block_exit ?_
        refine then_normal ?_
        have hk_ : k = (lst (Tree.at_ (Tree.mk n1 s2 b3 l4 u5) 1)).length := by rw [hl3_]; omega
        subst k
        have hL_ := LstR.of hW401 (k := 0) (rs' := []) rfl hR (by rw [hl3_]) oneDescribeClientQuotasResponseEntryValue (by omega)
        rw [← hl3_] at hL_
        obtain ⟨hW502, hF503⟩ := hW401.cutR 0 []
        exact ⟨_, _, _, by rw [hnull_]; exact hA, hL_, hE406.pk, hW502, (Fr.trans (Fr.trans (Fr.trans (Fr.trans (Fr.trans hF345 hF354) hF360) hF393) hF404) hF503)⟩
    ·
      refine wp_skip ?_
      refine then_normal ?_
      have hn_ : Tree.null (Tree.at_ (Tree.mk n1 s2 b3 l4 u5) 1) = true := by rw [ht304]; show b289 = true; simpa using hc313
      have hl_ := lst_no hn_
      exact ⟨none, 0, fun _ => dv0, by rw [hn_]; rfl, by rw [hl_]; exact LstR.nil mvDescribeClientQuotasResponseEntryValue, by rw [hl_]; exact ⟨hE312.pk, hW309, Fr.refl _ _ _⟩⟩
  rintro a513 w514 ⟨A505, c506, f507, hn508, hL509, hE510, hW511, hF512⟩
  refine wp_seq ?_
  refine go_sp [(2, .p 1 0), (3, .p 2 0), (63, .v (.slice A10 u5.length c11)), (64, .v (.int .i64 ((u5.length : Nat) : Int))), (65, .v (.int .i64 0))] hW511 hE510 fun a515 hE516 => ?_
  clear hE510
  refine wp_block ?_
  have hp517 := new_of hW511 2 rfl (by kernel_rfl)
  have hE521 := hE516.recast 2 (.p 1 0) (.v (.pointer (some ⟨b29, 0, none⟩))) rfl rfl trivial
  have hE522 := hE521.recast 3 (.p 2 0) (.v (.pointer (some ⟨b37, 0, none⟩))) rfl rfl trivial
  have hE519 := (hE522.pick (ks := [2, 3, 63, 64, 65]) (env' := [(2, .v (.pointer (some ⟨b29, 0, none⟩))), (3, .v (.pointer (some ⟨b37, 0, none⟩))), (63, .v (.slice A10 u5.length c11)), (64, .v (.int .i64 ((u5.length : Nat) : Int))), (65, .v (.int .i64 0))]) (by kernel_rfl)).cutTb 0 (by kernel_rfl)
  refine wp_loop_ghost (fun q a_ w_ => ∃ (j : Nat) (m_ : Option Nat), q = u5.length - j ∧ j ≤ u5.length ∧ EnvOk 77 [] [(2, .v (.pointer (some ⟨b29, 0, none⟩))), (3, .v (.pointer (some ⟨b37, 0, none⟩))), (63, .v (.slice A10 u5.length c11)), (64, .v (.int .i64 ((u5.length : Nat) : Int))), (65, .v (.int .i64 ((j : Nat) : Int)))] a_ ∧ TL w w514 w_ F b37 2 [.slice A270 ((lst (Tree.at_ (Tree.mk n1 s2 b3 l4 u5) 0)).length) c271, .slice A505 ((lst (Tree.at_ (Tree.mk n1 s2 b3 l4 u5) 1)).length) c506, .map none] m_ (u5.take j)) u5.length
    ⟨0, none, by omega, by omega, hE519, TL.start hW511 2 rfl rfl⟩ ?_
  rintro q aq wq ⟨j, m_, rfl, hj, hE2, hT⟩
  have hWq := WOk.start wq Nil
  refine go_sp [(2, .v (.pointer (some ⟨b29, 0, none⟩))), (3, .v (.pointer (some ⟨b37, 0, none⟩))), (63, .v (.slice A10 u5.length c11)), (64, .v (.int .i64 ((u5.length : Nat) : Int))), (65, .v (.int .i64 ((j : Nat) : Int))), (66, .v (.bool (decide (((j : Nat) : Int) < ((u5.length : Nat) : Int)))))] hWq hE2 fun aq2 hE3 => wp_seq ?_
  refine cond_of hE3 (b := decide (((j : Nat) : Int) < ((u5.length : Nat) : Int))) (by kernel_rfl) (fun hc => ?_) (fun hc => ?_)
  · have hlt : j < u5.length := by have := of_decide_eq_true hc; omega
    refine wp_skip (then_normal (wp_seq (wp_block ?_)))
    obtain ⟨⟨k, x⟩, hu⟩ : ∃ y, u5[j]? = some y := ⟨_, List.getElem?_eq_getElem hlt⟩
    obtain ⟨bb, bo, xA, xc, hA, hat, hxo, hk⟩ := tag_at h17 hu
    refine go_seq_region [0, 1, 2, 3] (by kernel_rfl) ?_
    refine of_op (wpOp_index hE3 (t := 37) (e := 64) (size := 2) (bytes := 32) (d := 67) (b := bb) (o := bo) (m := u5.length) (j := j) (by kernel_rfl) (by kernel_rfl) hA rfl hlt fun aq3 hE4 => ?_)
    refine of_op (wpOp_load hE4 (t := 64) (d := 68) (cs := [.int .u32 k, .slice xA x.length xc]) (v := .agg #[.int .u32 k, .slice xA x.length xc]) (by kernel_rfl) (by kernel_rfl) (hat.step_nil hT.step) fun aq4 hE5 => ?_)
    refine of_op (wpOp_alloc hWq hE5 (d := 9) (cs := [.int .u32 0, .slice none 0 0]) (by kernel_rfl) fun bx aq5 wq2 hbx hbx0 hFq2 hWq2 hE6 => ?_)
    refine of_op (wpOp_store hWq2 hE6 (oi := 0) (cs := [.int .u32 k, .slice xA x.length xc]) (by kernel_rfl) fun wq3 hFq3 hWq3 hE7 => wpOps_nil (then_normal ?_))
    refine go_region [0, 1, 2, 3, 4, 5] (by kernel_rfl) (go_rn [0, 1, 2, 3, 4] [5] [(2, .v (.pointer (some ⟨b29, 0, none⟩))), (3, .v (.pointer (some ⟨b37, 0, none⟩))), (63, .v (.slice A10 u5.length c11)), (64, .v (.int .i64 ((u5.length : Nat) : Int))), (65, .v (.int .i64 ((j : Nat) : Int))), (69, .v (.pointer (some ⟨b37, 2, none⟩))), (71, .v (.int .u32 k)), (73, .v (.slice xA x.length xc))] hWq3 hE7 fun aq6 hE8 => ?_)
    refine of_op (wpOp_call hE8 (f := 75) (vs := [.pointer (some ⟨b37, 2, none⟩), .int .u32 k, .slice xA x.length xc]) (d := 74) (by kernel_rfl) Tryz.call75 ((hT.move hWq3.step).set hp517 (by kernel_rfl) hsort hu hxo hk) ?_)
    rintro e_ wq5 ⟨rfl, hS5, r, hT5⟩
    refine ⟨_, rfl, fun aq7 hE9 => wpOps_nil (block_normal (then_normal ?_))⟩
    have hE10 := (hE9.pick (ks := [2, 3, 63, 64, 65]) (env' := [(2, .v (.pointer (some ⟨b29, 0, none⟩))), (3, .v (.pointer (some ⟨b37, 0, none⟩))), (63, .v (.slice A10 u5.length c11)), (64, .v (.int .i64 ((u5.length : Nat) : Int))), (65, .v (.int .i64 ((j : Nat) : Int)))]) (by kernel_rfl)).cutTb 0 (by kernel_rfl)
    refine go_region [0, 1] (by kernel_rfl) (go_rn [0, 1] [] [(2, .v (.pointer (some ⟨b29, 0, none⟩))), (3, .v (.pointer (some ⟨b37, 0, none⟩))), (63, .v (.slice A10 u5.length c11)), (64, .v (.int .i64 ((u5.length : Nat) : Int))), (65, .v (.int .i64 (IntKind.i64.wrap (((j : Nat) : Int) + 1))))] (WOk.start wq5 Nil) hE10 fun aq8 hE11 => wpOps_nil (then_normal ?_))
    rw [wrap_succ (by omega)] at hE11
    exact ⟨u5.length - (j + 1), by omega, j + 1, some r, rfl, by omega, hE11, hT5⟩
  · obtain rfl : j = u5.length := by have := of_decide_eq_false hc; omega
    refine wp_exit (then_exit (then_exit (block_exit ?_)))
    rw [List.take_length] at hT
    obtain ⟨hW523, hF524⟩ := hT.tab hW511 2 [⟨b21, 0, [.int .i64 n1, .slice A6 s2.length c7, .bool b3, .slice A8 l4.length c9, .slice A10 u5.length c11], true⟩, ⟨b29, 0, [.slice none 0 0, .slice none 0 0, .map none], true⟩, ⟨b37, 0, [.slice A270 ((lst (Tree.at_ (Tree.mk n1 s2 b3 l4 u5) 0)).length) c271, .slice A505 ((lst (Tree.at_ (Tree.mk n1 s2 b3 l4 u5) 1)).length) c506, .map m_], true⟩] rfl
    have hM525 := hT.mapImm hW511 hW523 hF524 hsort (tags_range h17)
    have hE526 := (hE3.retable [⟨b21, 0, [.int .i64 n1, .slice A6 s2.length c7, .bool b3, .slice A8 l4.length c9, .slice A10 u5.length c11], true⟩, ⟨b29, 0, [.slice none 0 0, .slice none 0 0, .map none], true⟩, ⟨b37, 0, [.slice A270 ((lst (Tree.at_ (Tree.mk n1 s2 b3 l4 u5) 0)).length) c271, .slice A505 ((lst (Tree.at_ (Tree.mk n1 s2 b3 l4 u5) 1)).length) c506, .map m_], true⟩]).recast 2 (.v (.pointer (some ⟨b29, 0, none⟩))) (.p 1 0) rfl rfl (Nat.le_of_ble_eq_true (n := 2) rfl)
    have hE527 := hE526.recast 3 (.v (.pointer (some ⟨b37, 0, none⟩))) (.p 2 0) rfl rfl (Nat.le_of_ble_eq_true (n := 3) rfl)
    have hE528 : EnvOk 77 [⟨b21, 0, [.int .i64 n1, .slice A6 s2.length c7, .bool b3, .slice A8 l4.length c9, .slice A10 u5.length c11], true⟩, ⟨b29, 0, [.slice none 0 0, .slice none 0 0, .map none], true⟩, ⟨b37, 0, [.slice A270 ((lst (Tree.at_ (Tree.mk n1 s2 b3 l4 u5) 0)).length) c271, .slice A505 ((lst (Tree.at_ (Tree.mk n1 s2 b3 l4 u5) 1)).length) c506, .map m_], true⟩] [(2, .p 1 0), (3, .p 2 0)] _ := hE527.pk
    refine then_normal ?_
    refine go_seq_region [0, 1] (by kernel_rfl) ?_
    refine go_rn [0] [1] [(2, .p 1 0), (76, .v (.agg #[.slice A270 ((lst (Tree.at_ (Tree.mk n1 s2 b3 l4 u5) 0)).length) c271, .slice A505 ((lst (Tree.at_ (Tree.mk n1 s2 b3 l4 u5) 1)).length) c506, .map m_]))] hW523 hE528 fun a529 hE530 => ?_
    clear hE528
    refine of_op (wpOp_store hW523 hE530 (oi := 1) (cs := [.slice A270 ((lst (Tree.at_ (Tree.mk n1 s2 b3 l4 u5) 0)).length) c271, .slice A505 ((lst (Tree.at_ (Tree.mk n1 s2 b3 l4 u5) 1)).length) c506, .map m_]) (by kernel_rfl) fun w531 hF532 hW533 hE534 => ?_)
    clear hE530 hW523
    refine wpOps_nil ?_
    refine then_normal ?_
    refine wp_ret ?_
    refine leave hE534 hW533.cells (v := .agg #[.slice A270 ((lst (Tree.at_ (Tree.mk n1 s2 b3 l4 u5) 0)).length) c271, .slice A505 ((lst (Tree.at_ (Tree.mk n1 s2 b3 l4 u5) 1)).length) c506, .map m_]) (by kernel_rfl) ?_
    refine ⟨dvP m_ u5 [dvL A270 (lst (Tree.at_ (Tree.mk n1 s2 b3 l4 u5) 0)).length c271 f272, dvL A505 (lst (Tree.at_ (Tree.mk n1 s2 b3 l4 u5) 1)).length c506 f507], rfl, ?_, ?_, hW533.step⟩
    · unfold okDescribeClientQuotasResponseEntry
      exact ⟨⟨((hL274.move (Fr.trans (Fr.trans (Fr.trans hF310 hF512) hF524) hF532).step immM (Fr.trans (Fr.trans (Fr.trans hF310 hF512) hF524) hF532).to').move (Step.refl _ Nil) nilM immOut).slots, cj0, ((hL274.move (Fr.trans (Fr.trans (Fr.trans hF310 hF512) hF524) hF532).step immM (Fr.trans (Fr.trans (Fr.trans hF310 hF512) hF524) hF532).to').move (Step.refl _ Nil) nilM immOut).each⟩, ⟨((hL509.move (Fr.trans hF524 hF532).step immM (Fr.trans hF524 hF532).to').move (Step.refl _ Nil) nilM immOut).slots, cj1, ((hL509.move (Fr.trans hF524 hF532).step immM (Fr.trans hF524 hF532).to').move (Step.refl _ Nil) nilM immOut).each⟩, ((hM525.move hF532.step immM hF532.to').move (Step.refl _ Nil) nilM immOut), cU.2.1, cU.2.2, trivial⟩
    · unfold relDescribeClientQuotasResponseEntry
      exact ⟨⟨hn273, rfl, hL274.rel_⟩, ⟨hn508, rfl, hL509.rel_⟩, rfl, trivial⟩

def makeDescribeClientQuotasResponse (v : Int) (T : Tree) : Bs := tDescribeClientQuotasResponse (IntKind.i16.wrap v) T
set_option maxHeartbeats 4000000 in
theorem mDescribeClientQuotasResponse (v : Int) (ct : List Value) (t : Tree) (w : World) (F : Nat → Nat → Prop) (ht : TreeR w F ct t) (hc : canDescribeClientQuotasResponse t) (hroom : (makeDescribeClientQuotasResponse v t).length + 16 ≤ 1099511627776) :
    Calls Tryz.prog 19 #[.int .i64 v, .agg ct.toArray] w (FreshB w 5 (makeDescribeClientQuotasResponse v t)) := by
  obtain ⟨n1, s2, b3, l4, u5, A6, c7, A8, c9, A10, c11, xs12, rfl, rfl, h14, h15, h16, h17⟩ := ht.open_
  have hsm19 := h14.small
  have hsm20 := h15.small
  unfold canDescribeClientQuotasResponse at hc
  obtain ⟨cj0, cj1, cj2, ⟨cj3, cj3e⟩, cU, _⟩ := hc
  have hsort := cU.1
  replace hsort : Sorted u5 := hsort
  have hul : u5.length ≤ 1000000 := cU.2.1
  refine enter (n := 17) Tryz.func19 rfl Tryz.ntmps19 (by kernel_rfl) fun a hE => ?_
  have hW := WOk.start w Nil
  refine go_seq_region [0, 1] (by kernel_rfl) ?_
  refine of_op (wpOp_box hW hE (d := 3) (cs := [.int .i64 n1, .slice A6 s2.length c7, .bool b3, .slice A8 l4.length c9, .slice A10 u5.length c11]) (by kernel_rfl) fun b21 a22 w23 hb24 hz25 hF26 hW27 hE28 => ?_)
  clear hE hW
  refine go_rn [1] [] [(0, .v (.int .i64 v)), (3, .p 0 0)] hW27 hE28 fun a29 hE30 => ?_
  clear hE28
  refine wpOps_nil ?_
  refine then_normal ?_
  refine go_seq_region [0, 1, 2] (by kernel_rfl) ?_
  refine go_rn [0] [1, 2] [(0, .v (.int .i64 v)), (3, .p 0 0), (6, .v (.agg #[.int .i16 0, .int .i32 0, .int .i16 0, .pointer none, .slice none 0 0, .map none]))] hW27 hE30 fun a31 hE32 => ?_
  clear hE30
  refine of_op (wpOp_box hW27 hE32 (d := 7) (cs := [.int .i16 0, .int .i32 0, .int .i16 0, .pointer none, .slice none 0 0, .map none]) (by kernel_rfl) fun b33 a34 w35 hb36 hz37 hF38 hW39 hE40 => ?_)
  clear hE32 hW27
  refine go_rn [2] [] [(0, .v (.int .i64 v)), (3, .p 0 0), (5, .p 1 0)] hW39 hE40 fun a41 hE42 => ?_
  clear hE40
  refine wpOps_nil ?_
  refine then_normal ?_
  refine go_seq_region [0, 1, 2, 3] (by kernel_rfl) ?_
  refine go_rn [0, 1, 2] [3] [(3, .p 0 0), (5, .p 1 0), (8, .p 1 0), (10, .v (.int .i16 (IntKind.i16.wrap v)))] hW39 hE42 fun a43 hE44 => ?_
  clear hE42
  refine of_op (wpOp_inline hE44 (f := 44) (vs := [.pointer (some ⟨b33, 0, none⟩), .int .i16 (IntKind.i16.wrap v)]) (d := 11) (n' := 8) (by kernel_rfl) Tryz.call44 Tryz.func44 rfl Tryz.ntmps44 (by kernel_rfl) fun a45 hE46 => ?_)
  have hE47 := hE46.recast 0 (.v (.pointer (some ⟨b33, 0, none⟩))) (.p 1 0) rfl rfl (Nat.le_of_ble_eq_true (n := 2) rfl)
  refine go_region [0, 1, 2, 3, 4] (by kernel_rfl) ?_
  refine go_rn [0, 1, 2, 3] [4] [(5, .v (.int .i16 (IntKind.i16.wrap v))), (7, .p 1 0)] hW39 hE47 fun a48 hE49 => ?_
  clear hE47
  refine of_op (wpOp_store hW39 hE49 (oi := 1) (cs := [.int .i16 (IntKind.i16.wrap v), .int .i32 0, .int .i16 0, .pointer none, .slice none 0 0, .map none]) (by kernel_rfl) fun w50 hF51 hW52 hE53 => ?_)
  clear hE49 hW39
  refine wpOps_nil ?_
  refine leave_end hE53 hW52.cells (v := .tuple #[]) (by kernel_rfl) ?_
  refine ⟨_, rfl, fun a54 hE55 => ?_⟩
  have hE56 : EnvOk 17 [⟨b21, 0, [.int .i64 n1, .slice A6 s2.length c7, .bool b3, .slice A8 l4.length c9, .slice A10 u5.length c11], true⟩, ⟨b33, 0, [.int .i16 (IntKind.i16.wrap v), .int .i32 0, .int .i16 0, .pointer none, .slice none 0 0, .map none], true⟩] [(11, .v (.tuple #[])), (3, .p 0 0), (5, .p 1 0), (8, .p 1 0), (10, .v (.int .i16 (IntKind.i16.wrap v)))] _ := hE55.places (⟨rfl, rfl, ⟨rfl, rfl, trivial⟩⟩)
  refine wpOps_nil ?_
  refine then_normal ?_
  refine go_seq_region [0, 1, 2] (by kernel_rfl) ?_
  refine go_rn [0, 1] [2] [(5, .p 1 0), (12, .p 1 0), (13, .v (.agg #[.int .i64 n1, .slice A6 s2.length c7, .bool b3, .slice A8 l4.length c9, .slice A10 u5.length c11]))] hW52 hE56 fun a57 hE58 => ?_
  clear hE56
  refine of_op (wpOp_inline hE58 (f := 45) (vs := [.pointer (some ⟨b33, 0, none⟩), .agg #[.int .i64 n1, .slice A6 s2.length c7, .bool b3, .slice A8 l4.length c9, .slice A10 u5.length c11]]) (d := 14) (n' := 76) (by kernel_rfl) Tryz.call45 Tryz.func45 rfl Tryz.ntmps45 (by kernel_rfl) fun a59 hE60 => ?_)
  have hE61 := hE60.recast 0 (.v (.pointer (some ⟨b33, 0, none⟩))) (.p 1 0) rfl rfl (Nat.le_of_ble_eq_true (n := 2) rfl)
  refine go_seq_region [0] (by kernel_rfl) ?_
  refine of_op (wpOp_box hW52 hE61 (d := 3) (cs := [.int .i64 n1, .slice A6 s2.length c7, .bool b3, .slice A8 l4.length c9, .slice A10 u5.length c11]) (by kernel_rfl) fun b62 a63 w64 hb65 hz66 hF67 hW68 hE69 => ?_)
  clear hE61 hW52
  refine wpOps_nil ?_
  refine then_normal ?_
  refine go_seq_region [0, 1, 2, 3, 4, 5, 6, 7] (by kernel_rfl) ?_
  refine go_rn [0, 1] [2, 3, 4, 5, 6, 7] [(0, .p 1 0), (3, .p 2 0), (8, .p 1 0), (9, .v (.agg #[.int .i64 n1, .slice A6 s2.length c7, .bool b3, .slice A8 l4.length c9, .slice A10 u5.length c11]))] hW68 hE69 fun a70 hE71 => ?_
  clear hE69
  refine of_op (wpOp_call hE71 (f := 73) (vs := [.agg #[.int .i64 n1, .slice A6 s2.length c7, .bool b3, .slice A8 l4.length c9, .slice A10 u5.length c11], .int .i64 0]) (d := 10) (by kernel_rfl) Tryz.call73 (iAt _ _ 0 _ _ (ht.move hW68.step nilM hW68.imm)) ?_)
  rintro e_ w75 ⟨cs74, rfl, hr73, hs72⟩
  have hr76 := hr73.move hs72 nilM (fun b o h_ hb_ => hW68.laid (G := F) hs72 b o (.inl h_) (Nat.lt_of_lt_of_le hb_ hs72.size))
  obtain ⟨n77, s78, b79, l80, u81, A82, c83, A84, c85, A86, c87, xs88, ht94, hcs89, h90, h91, h92, h93⟩ := hr76.open_
  rw [hcs89] at hr76
  have hsm95 := h90.small
  have hsm96 := h91.small
  rw [hcs89]
  refine ⟨_, rfl, fun a97 hE98 => ?_⟩
  have hW99 := hW68.next_nil hs72
  have hF100 := hW68.frN hs72
  clear hE71
  refine go_rn [3, 4, 5, 6] [7] [(0, .p 1 0), (3, .p 2 0), (12, .v (.int .i32 (IntKind.i32.wrap n77))), (14, .p 1 1)] hW99 hE98 fun a101 hE102 => ?_
  clear hE98
  refine of_op (wpOp_store hW99 hE102 (oi := 1) (cs := [.int .i16 (IntKind.i16.wrap v), .int .i32 (IntKind.i32.wrap n77), .int .i16 0, .pointer none, .slice none 0 0, .map none]) (by kernel_rfl) fun w103 hF104 hW105 hE106 => ?_)
  clear hE102 hW99
  refine wpOps_nil ?_
  refine then_normal ?_
  refine go_seq_region [0, 1, 2, 3, 4, 5, 6, 7] (by kernel_rfl) ?_
  refine go_rn [0, 1] [2, 3, 4, 5, 6, 7] [(0, .p 1 0), (3, .p 2 0), (15, .p 1 0), (16, .v (.agg #[.int .i64 n1, .slice A6 s2.length c7, .bool b3, .slice A8 l4.length c9, .slice A10 u5.length c11]))] hW105 hE106 fun a107 hE108 => ?_
  clear hE106
  refine of_op (wpOp_call hE108 (f := 73) (vs := [.agg #[.int .i64 n1, .slice A6 s2.length c7, .bool b3, .slice A8 l4.length c9, .slice A10 u5.length c11], .int .i64 1]) (d := 17) (by kernel_rfl) Tryz.call73 (iAt _ _ 1 _ _ (ht.move hW105.step nilM hW105.imm)) ?_)
  rintro e_ w112 ⟨cs111, rfl, hr110, hs109⟩
  have hr113 := hr110.move hs109 nilM (fun b o h_ hb_ => hW105.laid (G := F) hs109 b o (.inl h_) (Nat.lt_of_lt_of_le hb_ hs109.size))
  obtain ⟨n114, s115, b116, l117, u118, A119, c120, A121, c122, A123, c124, xs125, ht131, hcs126, h127, h128, h129, h130⟩ := hr113.open_
  rw [hcs126] at hr113
  have hsm132 := h127.small
  have hsm133 := h128.small
  rw [hcs126]
  refine ⟨_, rfl, fun a134 hE135 => ?_⟩
  have hW136 := hW105.next_nil hs109
  have hF137 := hW105.frN hs109
  clear hE108
  refine go_rn [3, 4, 5, 6] [7] [(0, .p 1 0), (3, .p 2 0), (19, .v (.int .i16 (IntKind.i16.wrap n114))), (21, .p 1 2)] hW136 hE135 fun a138 hE139 => ?_
  clear hE135
  refine of_op (wpOp_store hW136 hE139 (oi := 1) (cs := [.int .i16 (IntKind.i16.wrap v), .int .i32 (IntKind.i32.wrap n77), .int .i16 (IntKind.i16.wrap n114), .pointer none, .slice none 0 0, .map none]) (by kernel_rfl) fun w140 hF141 hW142 hE143 => ?_)
  clear hE139 hW136
  refine wpOps_nil ?_
  refine then_normal ?_
  refine go_seq_region [0, 1, 2, 3, 4, 5, 6] (by kernel_rfl) ?_
  refine go_rn [0, 1] [2, 3, 4, 5, 6] [(0, .p 1 0), (3, .p 2 0), (22, .p 1 0), (23, .v (.agg #[.int .i64 n1, .slice A6 s2.length c7, .bool b3, .slice A8 l4.length c9, .slice A10 u5.length c11]))] hW142 hE143 fun a144 hE145 => ?_
  clear hE143
  refine of_op (wpOp_call hE145 (f := 73) (vs := [.agg #[.int .i64 n1, .slice A6 s2.length c7, .bool b3, .slice A8 l4.length c9, .slice A10 u5.length c11], .int .i64 2]) (d := 24) (by kernel_rfl) Tryz.call73 (iAt _ _ 2 _ _ (ht.move hW142.step nilM hW142.imm)) ?_)
  rintro e_ w149 ⟨cs148, rfl, hr147, hs146⟩
  have hr150 := hr147.move hs146 nilM (fun b o h_ hb_ => hW142.laid (G := F) hs146 b o (.inl h_) (Nat.lt_of_lt_of_le hb_ hs146.size))
  obtain ⟨n151, s152, b153, l154, u155, A156, c157, A158, c159, A160, c161, xs162, ht168, hcs163, h164, h165, h166, h167⟩ := hr150.open_
  rw [hcs163] at hr150
  have hsm169 := h164.small
  have hsm170 := h165.small
  rw [hcs163]
  refine ⟨_, rfl, fun a171 hE172 => ?_⟩
  have hW173 := hW142.next_nil hs146
  have hF174 := hW142.frN hs146
  clear hE145
  refine of_op (wpOp_call hE172 (f := 97) (vs := [.agg #[.int .i64 n151, .slice A156 s152.length c157, .bool b153, .slice A158 l154.length c159, .slice A160 u155.length c161]]) (d := 25) (by kernel_rfl) Tryz.call97 (kTextOf _ (Tree.at_ (Tree.mk n1 s2 b3 l4 u5) 2) _ _ hr150) ?_)
  rintro e_ w181 ⟨A178, rfl, hr176, hn177, hs175⟩
  have hr180 : ∀ ad, A178 = some ad → ∃ b o, ad = ⟨b, o, none⟩ ∧ AtF _ _ b o [.string (bs (octOf (Tree.at_ (Tree.mk n1 s2 b3 l4 u5) 2)))] := fun ad h => by
      obtain ⟨b, o, g1, g2⟩ := hr176 ad h
      exact ⟨b, o, g1, g2.move (Step.refl _ Nil) nilM (hW173.laid (G := F) hs175)⟩
  refine ⟨_, rfl, fun a182 hE183 => ?_⟩
  have hW184 := hW173.next_nil hs175
  have hF185 := hW173.frN hs175
  clear hE172
  refine go_rn [4, 5] [6] [(0, .p 1 0), (3, .p 2 0), (25, .v (.pointer A178)), (27, .p 1 3)] hW184 hE183 fun a186 hE187 => ?_
  clear hE183
  refine of_op (wpOp_store hW184 hE187 (oi := 1) (cs := [.int .i16 (IntKind.i16.wrap v), .int .i32 (IntKind.i32.wrap n77), .int .i16 (IntKind.i16.wrap n114), .pointer A178, .slice none 0 0, .map none]) (by kernel_rfl) fun w188 hF189 hW190 hE191 => ?_)
  clear hE187 hW184
  refine wpOps_nil ?_
  refine then_normal ?_
  refine wp_seq ?_
  refine go_seq_region [0, 1, 2, 3] (by kernel_rfl) ?_
  refine go_rn [0] [1, 2, 3] [(0, .p 1 0), (3, .p 2 0), (28, .v (.agg #[.int .i64 n1, .slice A6 s2.length c7, .bool b3, .slice A8 l4.length c9, .slice A10 u5.length c11]))] hW190 hE191 fun a192 hE193 => ?_
  clear hE191
  refine of_op (wpOp_call hE193 (f := 73) (vs := [.agg #[.int .i64 n1, .slice A6 s2.length c7, .bool b3, .slice A8 l4.length c9, .slice A10 u5.length c11], .int .i64 3]) (d := 29) (by kernel_rfl) Tryz.call73 (iAt _ _ 3 _ _ (ht.move hW190.step nilM hW190.imm)) ?_)
  rintro e_ w197 ⟨cs196, rfl, hr195, hs194⟩
  have hr198 := hr195.move hs194 nilM (fun b o h_ hb_ => hW190.laid (G := F) hs194 b o (.inl h_) (Nat.lt_of_lt_of_le hb_ hs194.size))
  obtain ⟨n199, s200, b201, l202, u203, A204, c205, A206, c207, A208, c209, xs210, ht216, hcs211, h212, h213, h214, h215⟩ := hr198.open_
  rw [hcs211] at hr198
  have hsm217 := h212.small
  have hsm218 := h213.small
  rw [hcs211]
  refine ⟨_, rfl, fun a219 hE220 => ?_⟩
  have hW221 := hW190.next_nil hs194
  have hF222 := hW190.frN hs194
  clear hE193
  refine go_rn [2, 3] [] [(0, .p 1 0), (3, .p 2 0), (31, .v (.bool (!b201)))] hW221 hE220 fun a223 hE224 => ?_
  clear hE220
  refine wpOps_nil ?_
  refine then_normal ?_
  refine wp_join (Mid := fun a_ w_ => ∃ (A_ : Option Addr) (c_ : Nat) (f_ : Nat → DV), A_.isNone = Tree.null (Tree.at_ (Tree.mk n1 s2 b3 l4 u5) 3) ∧ LstR w_ (Imm F w w_ [⟨b21, 0, [.int .i64 n1, .slice A6 s2.length c7, .bool b3, .slice A8 l4.length c9, .slice A10 u5.length c11], true⟩, ⟨b33, 0, [.int .i16 (IntKind.i16.wrap v), .int .i32 (IntKind.i32.wrap n77), .int .i16 (IntKind.i16.wrap n114), .pointer A178, .slice A_ ((lst (Tree.at_ (Tree.mk n1 s2 b3 l4 u5) 3)).length) c_, .map none], true⟩, ⟨b62, 0, [.int .i64 n1, .slice A6 s2.length c7, .bool b3, .slice A8 l4.length c9, .slice A10 u5.length c11], true⟩] []) 3 clDescribeClientQuotasResponseEntry okDescribeClientQuotasResponseEntry relDescribeClientQuotasResponseEntry A_ c_ f_ (lst (Tree.at_ (Tree.mk n1 s2 b3 l4 u5) 3)) ∧ LInv hW221 76 [⟨b21, 0, [.int .i64 n1, .slice A6 s2.length c7, .bool b3, .slice A8 l4.length c9, .slice A10 u5.length c11], true⟩, ⟨b33, 0, [.int .i16 (IntKind.i16.wrap v), .int .i32 (IntKind.i32.wrap n77), .int .i16 (IntKind.i16.wrap n114), .pointer A178, .slice A_ ((lst (Tree.at_ (Tree.mk n1 s2 b3 l4 u5) 3)).length) c_, .map none], true⟩, ⟨b62, 0, [.int .i64 n1, .slice A6 s2.length c7, .bool b3, .slice A8 l4.length c9, .slice A10 u5.length c11], true⟩] [] [(0, .p 1 0), (3, .p 2 0)] a_ w_) ?_ ?_
  ·
    refine cond_of hE224 (b := !b201) (by kernel_rfl) (fun hc225 => ?_) (fun hc225 => ?_)
    ·
      have hnull_ : Tree.null (Tree.at_ (Tree.mk n1 s2 b3 l4 u5) 3) = false := by rw [ht216]; show b201 = false; simpa using hc225
      refine go_seq_region [0, 1, 2, 3, 4, 5, 6, 7, 8] (by kernel_rfl) ?_
      refine go_rn [0, 1] [2, 3, 4, 5, 6, 7, 8] [(0, .p 1 0), (3, .p 2 0), (32, .p 1 0), (33, .v (.agg #[.int .i64 n1, .slice A6 s2.length c7, .bool b3, .slice A8 l4.length c9, .slice A10 u5.length c11]))] hW221 hE224 fun a227 hE228 => ?_
      clear hE224
      refine of_op (wpOp_call hE228 (f := 73) (vs := [.agg #[.int .i64 n1, .slice A6 s2.length c7, .bool b3, .slice A8 l4.length c9, .slice A10 u5.length c11], .int .i64 3]) (d := 34) (by kernel_rfl) Tryz.call73 (iAt _ _ 3 _ _ (ht.move hW221.step nilM hW221.imm)) ?_)
      rintro e_ w232 ⟨cs231, rfl, hr230, hs229⟩
      have hr233 := hr230.move hs229 nilM (fun b o h_ hb_ => hW221.laid (G := F) hs229 b o (.inl h_) (Nat.lt_of_lt_of_le hb_ hs229.size))
      obtain ⟨n234, s235, b236, l237, u238, A239, c240, A241, c242, A243, c244, xs245, ht251, hcs246, h247, h248, h249, h250⟩ := hr233.open_
      rw [hcs246] at hr233
      have hsm252 := h247.small
      have hsm253 := h248.small
      rw [hcs246]
      refine ⟨_, rfl, fun a254 hE255 => ?_⟩
      have hW256 := hW221.next_nil hs229
      have hF257 := hW221.frN hs229
      clear hE228
      have hl3_ : lst (Tree.at_ (Tree.mk n1 s2 b3 l4 u5) 3) = l237 := by rw [lst_of hnull_, ht251]; rfl
      have hb258 : l237.length ≤ 1000000 := by have h_ := cj3; rw [hl3_] at h_; exact h_
      refine go_rn [3, 4] [5, 6, 7, 8] [(0, .p 1 0), (3, .p 2 0), (32, .p 1 0), (36, .v (.int .i64 ((l237.length : Nat) : Int)))] hW256 hE255 fun a259 hE260 => ?_
      clear hE255
      refine of_op (wpOp_make0 hW256 hE260 (d := 37) (j := l237.length) (t := 72) (e := 132) (size := 3) (bytes := 56) (by kernel_rfl) (by kernel_rfl) rfl (rfl) (by omega) fun b261 a262 w263 hb264 hz265 hF266 hW267 hE268 => ?_)
      clear hE260 hW256
      refine go_rn [6, 7] [8] [(0, .p 1 0), (3, .p 2 0), (37, .v (.slice (some ⟨b261, 0, none⟩) 0 l237.length)), (39, .p 1 4)] hW267 hE268 fun a269 hE270 => ?_
      clear hE268
      refine of_op (wpOp_store hW267 hE270 (oi := 1) (cs := [.int .i16 (IntKind.i16.wrap v), .int .i32 (IntKind.i32.wrap n77), .int .i16 (IntKind.i16.wrap n114), .pointer A178, .slice (some ⟨b261, 0, none⟩) 0 l237.length, .map none]) (by kernel_rfl) fun w271 hF272 hW273 hE274 => ?_)
      clear hE270 hW267
      refine wpOps_nil ?_
      refine then_normal ?_
      refine go_seq_region [0, 1, 2, 3, 4] (by kernel_rfl) ?_
      refine go_rn [0] [1, 2, 3, 4] [(0, .p 1 0), (3, .p 2 0), (40, .v (.agg #[.int .i64 n1, .slice A6 s2.length c7, .bool b3, .slice A8 l4.length c9, .slice A10 u5.length c11]))] hW273 hE274 fun a275 hE276 => ?_
      clear hE274
      refine of_op (wpOp_call hE276 (f := 73) (vs := [.agg #[.int .i64 n1, .slice A6 s2.length c7, .bool b3, .slice A8 l4.length c9, .slice A10 u5.length c11], .int .i64 3]) (d := 41) (by kernel_rfl) Tryz.call73 (iAt _ _ 3 _ _ (ht.move hW273.step nilM hW273.imm)) ?_)
      rintro e_ w280 ⟨cs279, rfl, hr278, hs277⟩
      have hr281 := hr278.move hs277 nilM (fun b o h_ hb_ => hW273.laid (G := F) hs277 b o (.inl h_) (Nat.lt_of_lt_of_le hb_ hs277.size))
      obtain ⟨n282, s283, b284, l285, u286, A287, c288, A289, c290, A291, c292, xs293, ht299, hcs294, h295, h296, h297, h298⟩ := hr281.open_
      rw [hcs294] at hr281
      have hsm300 := h295.small
      have hsm301 := h296.small
      rw [hcs294]
      refine ⟨_, rfl, fun a302 hE303 => ?_⟩
      have hW304 := hW273.next_nil hs277
      have hF305 := hW273.frN hs277
      clear hE276
      have hl3_ : lst (Tree.at_ (Tree.mk n1 s2 b3 l4 u5) 3) = l285 := by rw [lst_of hnull_, ht299]; rfl
      have hb306 : l285.length ≤ 1000000 := by have h_ := cj3; rw [hl3_] at h_; exact h_
      refine go_rn [2, 3, 4] [] [(0, .p 1 0), (3, .p 2 0), (42, .v (.slice A289 l285.length c290)), (43, .v (.int .i64 ((l285.length : Nat) : Int))), (44, .v (.int .i64 0))] hW304 hE303 fun a307 hE308 => ?_
      clear hE303
      refine wpOps_nil ?_
      refine then_normal ?_
      refine wp_block ?_
      refine wp_loop_ghost (fun n_ a_ w_ => ∃ (k : Nat) (A_ : Option Addr) (c_ : Nat) (xs_ : List Value) (ds_ : List DV), n_ = l285.length - k ∧ k ≤ l285.length ∧ (A_.isNone = false) ∧ (RowL w_ (Imm F w w_ [⟨b21, 0, [.int .i64 n1, .slice A6 s2.length c7, .bool b3, .slice A8 l4.length c9, .slice A10 u5.length c11], true⟩, ⟨b33, 0, [.int .i16 (IntKind.i16.wrap v), .int .i32 (IntKind.i32.wrap n77), .int .i16 (IntKind.i16.wrap n114), .pointer A178, .slice A_ k c_, .map none], true⟩, ⟨b62, 0, [.int .i64 n1, .slice A6 s2.length c7, .bool b3, .slice A8 l4.length c9, .slice A10 u5.length c11], true⟩] [⟨A_, c_, 132, 3, k, xs_⟩]) 3 clDescribeClientQuotasResponseEntry okDescribeClientQuotasResponseEntry relDescribeClientQuotasResponseEntry xs_ ds_ (l285.take k)) ∧ LInv hW304 76 [⟨b21, 0, [.int .i64 n1, .slice A6 s2.length c7, .bool b3, .slice A8 l4.length c9, .slice A10 u5.length c11], true⟩, ⟨b33, 0, [.int .i16 (IntKind.i16.wrap v), .int .i32 (IntKind.i32.wrap n77), .int .i16 (IntKind.i16.wrap n114), .pointer A178, .slice A_ k c_, .map none], true⟩, ⟨b62, 0, [.int .i64 n1, .slice A6 s2.length c7, .bool b3, .slice A8 l4.length c9, .slice A10 u5.length c11], true⟩] [⟨A_, c_, 132, 3, k, xs_⟩] [(0, .p 1 0), (3, .p 2 0), (42, .v (.slice A289 l285.length c290)), (43, .v (.int .i64 ((l285.length : Nat) : Int))), (44, .v (.int .i64 ((k : Nat) : Int)))] a_ w_) (l285.length) ⟨0, (some ⟨b261, 0, none⟩), l237.length, [], [], by omega, by omega, rfl, RowL.nil mvDescribeClientQuotasResponseEntry, hE308.pk, hW304, Fr.refl _ _ _⟩ ?_
      clear hE308
      rintro n309 a310 w311 ⟨k, A_, c_, xs_, ds_, hn314, hk315, hA, hR, hE312, hW313, hF316⟩
      refine go_sp [(0, .p 1 0), (3, .p 2 0), (42, .v (.slice A289 l285.length c290)), (43, .v (.int .i64 ((l285.length : Nat) : Int))), (44, .v (.int .i64 ((k : Nat) : Int))), (45, .v (.bool (decide (((k : Nat) : Int) < ((l285.length : Nat) : Int)))))] hW313 hE312 fun a317 hE318 => ?_
      clear hE312
      refine wp_seq ?_
      refine cond_of hE318 (b := decide (((k : Nat) : Int) < ((l285.length : Nat) : Int))) (by kernel_rfl) (fun hc319 => ?_) (fun hc319 => ?_)
      ·
        have hf320 := of_decide_eq_true hc319
        refine wp_skip ?_
        refine then_normal ?_
        refine wp_seq ?_
        refine wp_block ?_
        refine go_seq_region [0, 1, 2, 3] (by kernel_rfl) ?_
        obtain ⟨b321, o322, hA323, hl324, hat325⟩ := Slots.get h296 (i := k) (by omega)
        obtain ⟨x326, he327⟩ : ∃ x, l285[k]? = some x := ⟨_, List.getElem?_eq_getElem (by omega)⟩
        have hr328 := h297 k x326 he327
        obtain ⟨n329, s330, b331, l332, u333, A334, c335, A336, c337, A338, c339, xs340, rfl, hcs341, h342, h343, h344, h345⟩ := hr328.open_
        rw [hcs341] at hr328
        have hsm347 := h342.small
        have hsm348 := h343.small
        rw [hcs341] at hat325
        refine of_op (wpOp_index hE318 (t := 36) (A := A289) (m := l285.length) (q := ((k : Nat) : Int)) (d := 46) (by kernel_rfl) (e := 39) (size := 5) (bytes := 88) (by kernel_rfl) hA323 rfl (by omega) fun a349 hE350 => ?_)
        clear hE318
        refine of_op (wpOp_load hE350 (t := 39) (b := b321) (o := o322 + k * 5) (d := 47) (by kernel_rfl) (cs := [.int .i64 n329, .slice A334 s330.length c335, .bool b331, .slice A336 l332.length c337, .slice A338 u333.length c339]) (v := .agg #[.int .i64 n329, .slice A334 s330.length c335, .bool b331, .slice A336 l332.length c337, .slice A338 u333.length c339]) (by kernel_rfl) (AtF.move hat325 hF316.step immM hF316.to').at_ fun a351 hE352 => ?_)
        clear hE350
        refine of_op (wpOp_alloc hW313 hE352 (d := 5) (cs := [.int .i64 0, .slice none 0 0, .bool false, .slice none 0 0, .slice none 0 0]) (by kernel_rfl) fun b353 a354 w355 hb356 hz357 hF358 hW359 hE360 => ?_)
        clear hE352 hW313
        refine of_op (wpOp_store hW359 hE360 (oi := 3) (cs := [.int .i64 n329, .slice A334 s330.length c335, .bool b331, .slice A336 l332.length c337, .slice A338 u333.length c339]) (by kernel_rfl) fun w361 hF362 hW363 hE364 => ?_)
        clear hE360 hW359
        refine wpOps_nil ?_
        refine then_normal ?_
        refine go_drawK 11 (by kernel_rfl) hW363 fun w365 hF366 hW367 hT368 => ?_
        clear hW363
        refine go_rnD [0, 1, 2, 3, 4, 5] [(0, .p 1 0), (3, .p 2 0), (42, .v (.slice A289 l285.length c290)), (43, .v (.int .i64 ((l285.length : Nat) : Int))), (44, .v (.int .i64 ((k : Nat) : Int))), (48, .p 1 0), (52, .v (.slice A_ k c_)), (53, .v (.agg #[.int .i64 n329, .slice A334 s330.length c335, .bool b331, .slice A336 l332.length c337, .slice A338 u333.length c339]))] 6 (panicFree_block (panicFree_then (panicFree_then (panicFree_block (panicFree_then panicFree_body))))) (fun _ h => h.cells) hT368 hE364 fun a369 hE370 => ?_
        clear hE364
        refine anyC_op (i := 6) (by kernel_rfl) (wpOp_call hE370 (f := 98) (vs := [.agg #[.int .i64 n329, .slice A334 s330.length c335, .bool b331, .slice A336 l332.length c337, .slice A338 u333.length c339]]) (d := 54) (by kernel_rfl) Tryz.call98 (eDescribeClientQuotasResponseEntry _ _ _ _ (hr328.move (Fr.trans (Fr.trans (Fr.trans hF316 hF358) hF362) hF366).step immM (Fr.trans (Fr.trans (Fr.trans hF316 hF358) hF362) hF366).to') (cj3e _ (by rw [hl3_]; exact List.mem_of_getElem? he327))) ?_)
        rintro e_ w376 ⟨D374, rfl, hk372, hrel373, hs371⟩
        have hk375 := mvDescribeClientQuotasResponseEntry _ (Step.refl _ Nil) nilM (hW367.laid (G := F) hs371) hk372
        refine ⟨_, rfl, fun a377 hE378 => ?_⟩
        have hW379 := hW367.next_nil hs371
        have hF380 := hW367.frN hs371
        clear hE370
        have hT381 := TT.ofW hF380 hW379
        refine ⟨fun _ => hT381, ?_⟩
        refine anyC_op (i := 7) (by kernel_rfl) (wpOp_lit hW379 hE378 (e := 132) (size := 3) (len := 1) (cs := [.slice ((D374.f 0).A) ((D374.f 0).l) ((D374.f 0).c), .slice ((D374.f 1).A) ((D374.f 1).l) ((D374.f 1).c), .map D374.m]) (d := 55) (by kernel_rfl) (by kernel_rfl) fun b382 a383 w384 hb385 hz386 hF387 hW388 hE389 => ?_)
        clear hE378 hW379
        have hT390 := TT.ofW (Fr.trans hF380 hF387) hW388
        refine ⟨fun _ => hT390, ?_⟩
        refine anyC_op (i := 8) (by kernel_rfl) (wpOp_append hW388 hE389 (k := 0) (d := 56) (t := 72) (e := 132) (size := 3) (bytes := 56) (A := A_) (As := (some ⟨b382, 0, none⟩)) (m0 := k) (c := c_) (m := 1) (cs := 1) (xs := xs_) (news := [.slice ((D374.f 0).A) ((D374.f 0).l) ((D374.f 0).c), .slice ((D374.f 1).A) ((D374.f 1).l) ((D374.f 1).c), .map D374.m]) (by kernel_rfl) (by kernel_rfl) rfl (own_src (hW388.own 1 _ rfl) (allOne_ok (by kernel_rfl))) (own_cap (hW388.own 1 _ rfl)) (by omega) fun A391 c392 a393 w394 hF395 hW396 hE397 => ?_)
        clear hE389 hW388
        have hT398 := TT.ofW (Fr.trans (Fr.trans hF380 hF387) hF395) hW396
        refine ⟨fun _ => hT398, ?_⟩
        refine anyC_op (i := 9) (by kernel_rfl) (wpOp_pure [0, 3, 42, 43, 44, 56, 57] hW396.cells hE397 (env' := [(0, .p 1 0), (3, .p 2 0), (42, .v (.slice A289 l285.length c290)), (43, .v (.int .i64 ((l285.length : Nat) : Int))), (44, .v (.int .i64 ((k : Nat) : Int))), (56, .v (.slice A391 (k + 1) c392)), (57, .p 1 0)]) (by kernel_rfl) fun a399 hE400 => ?_)
        clear hE397
        have hT401 := TT.ofW (Fr.trans (Fr.trans hF380 hF387) hF395) hW396
        refine ⟨fun _ => hT401, ?_⟩
        refine go_rnD [10] [(0, .p 1 0), (3, .p 2 0), (42, .v (.slice A289 l285.length c290)), (43, .v (.int .i64 ((l285.length : Nat) : Int))), (44, .v (.int .i64 ((k : Nat) : Int))), (56, .v (.slice A391 (k + 1) c392)), (58, .p 1 4)] 1 (panicFree_block (panicFree_then (panicFree_then (panicFree_block (panicFree_then panicFree_body))))) (fun _ h => h.cells) hT401 hE400 fun a402 hE403 => ?_
        clear hE400
        refine anyC_op (i := 11) (by kernel_rfl) (wpOp_store hW396 hE403 (oi := 1) (cs := [.int .i16 (IntKind.i16.wrap v), .int .i32 (IntKind.i32.wrap n77), .int .i16 (IntKind.i16.wrap n114), .pointer A178, .slice A391 (k + 1) c392, .map none]) (by kernel_rfl) fun w404 hF405 hW406 hE407 => ?_)
        clear hE403 hW396
        refine ⟨fun h => absurd rfl h, ?_⟩
        refine anyC_done (by kernel_rfl) ?_ _
        refine block_normal ?_
        refine then_normal ?_
        refine go_region [0, 1] (by kernel_rfl) ?_
        refine go_rn [0, 1] [] [(0, .p 1 0), (3, .p 2 0), (42, .v (.slice A289 l285.length c290)), (43, .v (.int .i64 ((l285.length : Nat) : Int))), (44, .v (.int .i64 (IntKind.i64.wrap (((k : Nat) : Int) + 1))))] hW406 hE407 fun a408 hE409 => ?_
        clear hE407
        refine wpOps_nil ?_
        refine then_normal ?_
        obtain ⟨hE410, hW411, hF412⟩ := hW406.cutB hE409 3 [⟨b21, 0, [.int .i64 n1, .slice A6 s2.length c7, .bool b3, .slice A8 l4.length c9, .slice A10 u5.length c11], true⟩, ⟨b33, 0, [.int .i16 (IntKind.i16.wrap v), .int .i32 (IntKind.i32.wrap n77), .int .i16 (IntKind.i16.wrap n114), .pointer A178, .slice A391 (k + 1) c392, .map none], true⟩, ⟨b62, 0, [.int .i64 n1, .slice A6 s2.length c7, .bool b3, .slice A8 l4.length c9, .slice A10 u5.length c11], true⟩] [(0, .p 1 0), (3, .p 2 0), (42, .v (.slice A289 l285.length c290)), (43, .v (.int .i64 ((l285.length : Nat) : Int))), (44, .v (.int .i64 (IntKind.i64.wrap (((k : Nat) : Int) + 1))))]
        obtain ⟨hW413, hF414⟩ := hW411.cutR 1 [⟨A391, c392, 132, 3, k + 1, xs_ ++ [.slice ((D374.f 0).A) ((D374.f 0).l) ((D374.f 0).c), .slice ((D374.f 1).A) ((D374.f 1).l) ((D374.f 1).c), .map D374.m]⟩]
        have he415 : IntKind.i64.wrap (((k : Nat) : Int) + 1) = ((k + 1 : Nat) : Int) := wrap_succ (by omega)
        rw [he415] at hE410
        exact ⟨l285.length - (k + 1), by omega, k + 1, A391, c392, xs_ ++ [Value.slice ((D374.f 0).A) ((D374.f 0).l) ((D374.f 0).c), .slice ((D374.f 1).A) ((D374.f 1).l) ((D374.f 1).c), .map D374.m], (ds_ ++ [D374]), rfl, by omega, own_some hW413 (k := 0) rfl (by omega), RowL.snoc (d := D374) (hR.move (Fr.trans (Fr.trans (Fr.trans (Fr.trans (Fr.trans (Fr.trans (Fr.trans (Fr.trans hF358 hF362) hF366) hF380) hF387) hF395) hF405) hF412) hF414).step immM (Fr.trans (Fr.trans (Fr.trans (Fr.trans (Fr.trans (Fr.trans (Fr.trans (Fr.trans hF358 hF362) hF366) hF380) hF387) hF395) hF405) hF412) hF414).to') he327 rfl (mvDescribeClientQuotasResponseEntry _ (Fr.trans (Fr.trans (Fr.trans (Fr.trans hF387 hF395) hF405) hF412) hF414).step immM (Fr.trans (Fr.trans (Fr.trans (Fr.trans hF387 hF395) hF405) hF412) hF414).to' hk375) hrel373, hE410.pk, hW413, (Fr.trans (Fr.trans (Fr.trans (Fr.trans (Fr.trans (Fr.trans (Fr.trans (Fr.trans (Fr.trans hF316 hF358) hF362) hF366) hF380) hF387) hF395) hF405) hF412) hF414)⟩
      ·
        have hf416 := of_decide_eq_false hc319
        refine wp_exit ?_
        refine then_exit ?_
        refine then_exit ?_
        refine block_exit ?_
        refine then_normal ?_
        have hk_ : k = (lst (Tree.at_ (Tree.mk n1 s2 b3 l4 u5) 3)).length := by rw [hl3_]; omega
        subst k
        have hL_ := LstR.of hW313 (k := 0) (rs' := []) rfl hR (by rw [hl3_]) oneDescribeClientQuotasResponseEntry (by omega)
        rw [← hl3_] at hL_
        obtain ⟨hW417, hF418⟩ := hW313.cutR 0 []
        exact ⟨_, _, _, by rw [hnull_]; exact hA, hL_, hE318.pk, hW417, (Fr.trans (Fr.trans (Fr.trans (Fr.trans (Fr.trans hF257 hF266) hF272) hF305) hF316) hF418)⟩
    ·
      refine wp_skip ?_
      refine then_normal ?_
      have hn_ : Tree.null (Tree.at_ (Tree.mk n1 s2 b3 l4 u5) 3) = true := by rw [ht216]; show b201 = true; simpa using hc225
      have hl_ := lst_no hn_
      exact ⟨none, 0, fun _ => dv0, by rw [hn_]; rfl, by rw [hl_]; exact LstR.nil mvDescribeClientQuotasResponseEntry, by rw [hl_]; exact ⟨hE224.pk, hW221, Fr.refl _ _ _⟩⟩
  rintro a428 w429 ⟨A420, c421, f422, hn423, hL424, hE425, hW426, hF427⟩
  refine go_sp [(0, .p 1 0), (61, .v (.slice A10 u5.length c11)), (62, .v (.int .i64 ((u5.length : Nat) : Int))), (63, .v (.int .i64 0))] hW426 hE425 fun a430 hE431 => ?_
  clear hE425
  refine wp_block ?_
  have hp432 := new_of hW426 1 rfl (by kernel_rfl)
  have hE436 := hE431.recast 0 (.p 1 0) (.v (.pointer (some ⟨b33, 0, none⟩))) rfl rfl trivial
  have hE434 := (hE436.pick (ks := [0, 61, 62, 63]) (env' := [(0, .v (.pointer (some ⟨b33, 0, none⟩))), (61, .v (.slice A10 u5.length c11)), (62, .v (.int .i64 ((u5.length : Nat) : Int))), (63, .v (.int .i64 0))]) (by kernel_rfl)).cutTb 0 (by kernel_rfl)
  refine wp_loop_ghost (fun q a_ w_ => ∃ (j : Nat) (m_ : Option Nat), q = u5.length - j ∧ j ≤ u5.length ∧ EnvOk 76 [] [(0, .v (.pointer (some ⟨b33, 0, none⟩))), (61, .v (.slice A10 u5.length c11)), (62, .v (.int .i64 ((u5.length : Nat) : Int))), (63, .v (.int .i64 ((j : Nat) : Int)))] a_ ∧ TL w w429 w_ F b33 5 [.int .i16 (IntKind.i16.wrap v), .int .i32 (IntKind.i32.wrap n77), .int .i16 (IntKind.i16.wrap n114), .pointer A178, .slice A420 ((lst (Tree.at_ (Tree.mk n1 s2 b3 l4 u5) 3)).length) c421, .map none] m_ (u5.take j)) u5.length
    ⟨0, none, by omega, by omega, hE434, TL.start hW426 1 rfl rfl⟩ ?_
  rintro q aq wq ⟨j, m_, rfl, hj, hE2, hT⟩
  have hWq := WOk.start wq Nil
  refine go_sp [(0, .v (.pointer (some ⟨b33, 0, none⟩))), (61, .v (.slice A10 u5.length c11)), (62, .v (.int .i64 ((u5.length : Nat) : Int))), (63, .v (.int .i64 ((j : Nat) : Int))), (64, .v (.bool (decide (((j : Nat) : Int) < ((u5.length : Nat) : Int)))))] hWq hE2 fun aq2 hE3 => wp_seq ?_
  refine cond_of hE3 (b := decide (((j : Nat) : Int) < ((u5.length : Nat) : Int))) (by kernel_rfl) (fun hc => ?_) (fun hc => ?_)
  · have hlt : j < u5.length := by have := of_decide_eq_true hc; omega
    refine wp_skip (then_normal (wp_seq (wp_block ?_)))
    obtain ⟨⟨k, x⟩, hu⟩ : ∃ y, u5[j]? = some y := ⟨_, List.getElem?_eq_getElem hlt⟩
    obtain ⟨bb, bo, xA, xc, hA, hat, hxo, hk⟩ := tag_at h17 hu
    refine go_seq_region [0, 1, 2, 3] (by kernel_rfl) ?_
    refine of_op (wpOp_index hE3 (t := 37) (e := 64) (size := 2) (bytes := 32) (d := 65) (b := bb) (o := bo) (m := u5.length) (j := j) (by kernel_rfl) (by kernel_rfl) hA rfl hlt fun aq3 hE4 => ?_)
    refine of_op (wpOp_load hE4 (t := 64) (d := 66) (cs := [.int .u32 k, .slice xA x.length xc]) (v := .agg #[.int .u32 k, .slice xA x.length xc]) (by kernel_rfl) (by kernel_rfl) (hat.step_nil hT.step) fun aq4 hE5 => ?_)
    refine of_op (wpOp_alloc hWq hE5 (d := 7) (cs := [.int .u32 0, .slice none 0 0]) (by kernel_rfl) fun bx aq5 wq2 hbx hbx0 hFq2 hWq2 hE6 => ?_)
    refine of_op (wpOp_store hWq2 hE6 (oi := 0) (cs := [.int .u32 k, .slice xA x.length xc]) (by kernel_rfl) fun wq3 hFq3 hWq3 hE7 => wpOps_nil (then_normal ?_))
    have hWq4 := hWq3.drew
    refine region_draw (fun wz => CellsOk wz [⟨bx, 0, [.int .u32 k, .slice xA x.length xc], true⟩]) 8 (by kernel_rfl) ?_
    refine go_rnD [0, 1, 2, 3, 4, 5, 6] [(0, .v (.pointer (some ⟨b33, 0, none⟩))), (61, .v (.slice A10 u5.length c11)), (62, .v (.int .i64 ((u5.length : Nat) : Int))), (63, .v (.int .i64 ((j : Nat) : Int))), (69, .v (.pointer (some ⟨b33, 5, none⟩))), (71, .v (.int .u32 k)), (73, .v (.slice xA x.length xc))] 1 (panicFree_block (panicFree_then (panicFree_then (panicFree_block panicFree_body)))) (fun _ h => h) hWq4.cells hE7 fun aq6 hE8 => ?_
    refine anyC_op (i := 7) (by kernel_rfl) (wpOp_call hE8 (f := 75) (vs := [.pointer (some ⟨b33, 5, none⟩), .int .u32 k, .slice xA x.length xc]) (d := 74) (by kernel_rfl) Tryz.call75 ((hT.move hWq4.step).set hp432 (by kernel_rfl) hsort hu hxo hk) ?_)
    rintro e_ wq5 ⟨rfl, hS5, r, hT5⟩
    refine ⟨_, rfl, fun aq7 hE9 => ⟨fun _ => hT.keeps (off := 5) (by kernel_rfl) hS5 hWq4.cells (fun ob hm => by rw [List.mem_singleton.1 hm]; exact Nat.le_of_eq hbx.symm), anyC_done (by kernel_rfl) (block_normal (then_normal ?_)) _⟩⟩
    have hE10 := (hE9.pick (ks := [0, 61, 62, 63]) (env' := [(0, .v (.pointer (some ⟨b33, 0, none⟩))), (61, .v (.slice A10 u5.length c11)), (62, .v (.int .i64 ((u5.length : Nat) : Int))), (63, .v (.int .i64 ((j : Nat) : Int)))]) (by kernel_rfl)).cutTb 0 (by kernel_rfl)
    refine go_region [0, 1] (by kernel_rfl) (go_rn [0, 1] [] [(0, .v (.pointer (some ⟨b33, 0, none⟩))), (61, .v (.slice A10 u5.length c11)), (62, .v (.int .i64 ((u5.length : Nat) : Int))), (63, .v (.int .i64 (IntKind.i64.wrap (((j : Nat) : Int) + 1))))] (WOk.start wq5 Nil) hE10 fun aq8 hE11 => wpOps_nil (then_normal ?_))
    rw [wrap_succ (by omega)] at hE11
    exact ⟨u5.length - (j + 1), by omega, j + 1, some r, rfl, by omega, hE11, hT5⟩
  · obtain rfl : j = u5.length := by have := of_decide_eq_false hc; omega
    refine wp_exit (then_exit (then_exit (block_exit ?_)))
    rw [List.take_length] at hT
    obtain ⟨hW437, hF438⟩ := hT.tab hW426 1 [⟨b21, 0, [.int .i64 n1, .slice A6 s2.length c7, .bool b3, .slice A8 l4.length c9, .slice A10 u5.length c11], true⟩, ⟨b33, 0, [.int .i16 (IntKind.i16.wrap v), .int .i32 (IntKind.i32.wrap n77), .int .i16 (IntKind.i16.wrap n114), .pointer A178, .slice A420 ((lst (Tree.at_ (Tree.mk n1 s2 b3 l4 u5) 3)).length) c421, .map m_], true⟩, ⟨b62, 0, [.int .i64 n1, .slice A6 s2.length c7, .bool b3, .slice A8 l4.length c9, .slice A10 u5.length c11], true⟩] rfl
    have hM439 := hT.mapImm hW426 hW437 hF438 hsort (tags_range h17)
    have hE440 : EnvOk 76 [⟨b21, 0, [.int .i64 n1, .slice A6 s2.length c7, .bool b3, .slice A8 l4.length c9, .slice A10 u5.length c11], true⟩, ⟨b33, 0, [.int .i16 (IntKind.i16.wrap v), .int .i32 (IntKind.i32.wrap n77), .int .i16 (IntKind.i16.wrap n114), .pointer A178, .slice A420 ((lst (Tree.at_ (Tree.mk n1 s2 b3 l4 u5) 3)).length) c421, .map m_], true⟩, ⟨b62, 0, [.int .i64 n1, .slice A6 s2.length c7, .bool b3, .slice A8 l4.length c9, .slice A10 u5.length c11], true⟩] [] _ := (hE3.retable [⟨b21, 0, [.int .i64 n1, .slice A6 s2.length c7, .bool b3, .slice A8 l4.length c9, .slice A10 u5.length c11], true⟩, ⟨b33, 0, [.int .i16 (IntKind.i16.wrap v), .int .i32 (IntKind.i32.wrap n77), .int .i16 (IntKind.i16.wrap n114), .pointer A178, .slice A420 ((lst (Tree.at_ (Tree.mk n1 s2 b3 l4 u5) 3)).length) c421, .map m_], true⟩, ⟨b62, 0, [.int .i64 n1, .slice A6 s2.length c7, .bool b3, .slice A8 l4.length c9, .slice A10 u5.length c11], true⟩]).pk
    refine leave_end hE440 hW437.cells (v := .tuple #[]) (by kernel_rfl) ?_
    refine ⟨_, rfl, fun a441 hE442 => ?_⟩
    have hE443 : EnvOk 17 [⟨b21, 0, [.int .i64 n1, .slice A6 s2.length c7, .bool b3, .slice A8 l4.length c9, .slice A10 u5.length c11], true⟩, ⟨b33, 0, [.int .i16 (IntKind.i16.wrap v), .int .i32 (IntKind.i32.wrap n77), .int .i16 (IntKind.i16.wrap n114), .pointer A178, .slice A420 ((lst (Tree.at_ (Tree.mk n1 s2 b3 l4 u5) 3)).length) c421, .map m_], true⟩, ⟨b62, 0, [.int .i64 n1, .slice A6 s2.length c7, .bool b3, .slice A8 l4.length c9, .slice A10 u5.length c11], true⟩] [(14, .v (.tuple #[])), (5, .p 1 0), (12, .p 1 0), (13, .v (.agg #[.int .i64 n1, .slice A6 s2.length c7, .bool b3, .slice A8 l4.length c9, .slice A10 u5.length c11]))] _ := hE442.places (⟨rfl, rfl, ⟨rfl, rfl, trivial⟩⟩)
    refine wpOps_nil ?_
    refine then_normal ?_
    refine go_seq_region [0, 1, 2] (by kernel_rfl) ?_
    refine go_rn [0] [1, 2] [(15, .p 1 0)] hW437 hE443 fun a444 hE445 => ?_
    clear hE443
    have hrel_ : relDescribeClientQuotasResponse (dvP m_ u5 [dvN (IntKind.i32.wrap n77), dvN (IntKind.i16.wrap n114), dvT A178 (bs (octOf (Tree.at_ (Tree.mk n1 s2 b3 l4 u5) 2))), dvL A420 (lst (Tree.at_ (Tree.mk n1 s2 b3 l4 u5) 3)).length c421 f422]) (Tree.mk n1 s2 b3 l4 u5) := by
      unfold relDescribeClientQuotasResponse
      exact ⟨by rw [ht94]; rfl, by rw [ht131]; rfl, ⟨rfl, hn177⟩, ⟨hn423, rfl, hL424.rel_⟩, rfl, trivial⟩
    have he_ : aDescribeClientQuotasResponse (IntKind.i16.wrap v) (dvP m_ u5 [dvN (IntKind.i32.wrap n77), dvN (IntKind.i16.wrap n114), dvT A178 (bs (octOf (Tree.at_ (Tree.mk n1 s2 b3 l4 u5) 2))), dvL A420 (lst (Tree.at_ (Tree.mk n1 s2 b3 l4 u5) 3)).length c421 f422]) = makeDescribeClientQuotasResponse v (Tree.mk n1 s2 b3 l4 u5) := atDescribeClientQuotasResponse _ _ _ hrel_
    rw [← he_] at hroom ⊢
    have hok_ : okDescribeClientQuotasResponse wq (fun _ _ => True) (dvP m_ u5 [dvN (IntKind.i32.wrap n77), dvN (IntKind.i16.wrap n114), dvT A178 (bs (octOf (Tree.at_ (Tree.mk n1 s2 b3 l4 u5) 2))), dvL A420 (lst (Tree.at_ (Tree.mk n1 s2 b3 l4 u5) 3)).length c421 f422]) := by
      unfold okDescribeClientQuotasResponse
      exact ⟨trivial, trivial, ⟨fun ad h => by
      obtain ⟨b, o, g1, g2⟩ := hr180 ad h
      exact ⟨b, o, g1, ((g2.move (Fr.trans (Fr.trans (Fr.trans hF189 hF222) hF427) hF438).step immM (Fr.trans (Fr.trans (Fr.trans hF189 hF222) hF427) hF438).to').move (Step.refl _ Nil) nilM (fun _ _ _ _ => trivial))⟩, by show ByteArray.size (bs (octOf (Tree.at_ (Tree.mk n1 s2 b3 l4 u5) 2))) ≤ 1000000; rw [bs_size]; exact cj2⟩, ⟨((hL424.move hF438.step immM hF438.to').move (Step.refl _ Nil) nilM (fun _ _ _ _ => trivial)).slots, cj3, ((hL424.move hF438.step immM hF438.to').move (Step.refl _ Nil) nilM (fun _ _ _ _ => trivial)).each⟩, (hM439.move (Step.refl _ Nil) nilM (fun _ _ _ _ => trivial)), cU.2.1, cU.2.2, trivial⟩
    refine of_op (wpOp_call hE445 (f := 46) (vs := [.pointer (some ⟨b33, 0, none⟩), .slice none 0 0]) (d := 16) (by kernel_rfl) Tryz.call46 (kDescribeClientQuotasResponse (IntKind.i16.wrap v) (dvP m_ u5 [dvN (IntKind.i32.wrap n77), dvN (IntKind.i16.wrap n114), dvT A178 (bs (octOf (Tree.at_ (Tree.mk n1 s2 b3 l4 u5) 2))), dvL A420 (lst (Tree.at_ (Tree.mk n1 s2 b3 l4 u5) 3)).length c421 f422]) b33 0 none 0 [] _ _ (fun j v hj => ⟨trivial, hW437.cells 1 _ rfl j v hj⟩) hok_ none_blk (World.ownsRow_nil _ 0 _ _) (by simpa using hroom)) ?_)
    rintro e_ wz ⟨A', c', rfl, ho, hs, hn⟩
    refine ⟨_, rfl, fun az hEz => ?_⟩
    have hEy := (hEz.pick (ks := [16]) (env' := [(16, .v (.slice A' (([] ++ aDescribeClientQuotasResponse (IntKind.i16.wrap v) (dvP m_ u5 [dvN (IntKind.i32.wrap n77), dvN (IntKind.i16.wrap n114), dvT A178 (bs (octOf (Tree.at_ (Tree.mk n1 s2 b3 l4 u5) 2))), dvL A420 (lst (Tree.at_ (Tree.mk n1 s2 b3 l4 u5) 3)).length c421 f422])).length) c'))]) (by kernel_rfl)).cutTb 0 (by kernel_rfl)
    have hWz := WOk.start wz Nil
    refine go_rn [2] [] [(4, .v (.slice A' (([] ++ aDescribeClientQuotasResponse (IntKind.i16.wrap v) (dvP m_ u5 [dvN (IntKind.i32.wrap n77), dvN (IntKind.i16.wrap n114), dvT A178 (bs (octOf (Tree.at_ (Tree.mk n1 s2 b3 l4 u5) 2))), dvL A420 (lst (Tree.at_ (Tree.mk n1 s2 b3 l4 u5) 3)).length c421 f422])).length) c'))] hWz hEy fun a446 hE447 => ?_
    clear hEy
    refine wpOps_nil ?_
    refine then_normal ?_
    refine wp_ret ?_
    refine leave hE447 hWz.cells (v := .slice A' (([] ++ aDescribeClientQuotasResponse (IntKind.i16.wrap v) (dvP m_ u5 [dvN (IntKind.i32.wrap n77), dvN (IntKind.i16.wrap n114), dvT A178 (bs (octOf (Tree.at_ (Tree.mk n1 s2 b3 l4 u5) 2))), dvL A420 (lst (Tree.at_ (Tree.mk n1 s2 b3 l4 u5) 3)).length c421 f422])).length) c') (by kernel_rfl) ?_
    exact fresh_of_app hW437.step ⟨A', c', rfl, ho, hs, hn⟩

theorem xDescribeClientQuotasResponse (w : World) : Calls Tryz.prog 17 #[] w (Gives w (.int .i64 1)) := by
  refine enter (n := 4) Tryz.func17 rfl Tryz.ntmps17 (by kernel_rfl) fun a hE => ?_
  have hW := WOk.start w Nil
  refine go_sp [] hW hE fun a1 hE2 => ?_
  clear hE
  refine go_seq_region [0, 1, 2, 3] (by kernel_rfl) ?_
  refine of_op (wpOp_inline hE2 (f := 41) (vs := []) (d := 1) (n' := 3) (by kernel_rfl) Tryz.call41 Tryz.func41 rfl Tryz.ntmps41 (by kernel_rfl) fun a3 hE4 => ?_)
  refine go_sp [] hW hE4 fun a5 hE6 => ?_
  clear hE4
  refine go_seq_region [0] (by kernel_rfl) ?_
  refine of_op (wpOp_alloc hW hE6 (d := 1) (cs := [.int .i16 0, .int .i32 0, .int .i16 0, .pointer none, .slice none 0 0, .map none]) (by kernel_rfl) fun b7 a8 w9 hb10 hz11 hF12 hW13 hE14 => ?_)
  clear hE6 hW
  refine wpOps_nil ?_
  refine then_normal ?_
  refine go_seq_region [0] (by kernel_rfl) ?_
  refine of_op (wpOp_inline hE14 (f := 94) (vs := [.pointer (some ⟨b7, 0, none⟩)]) (d := 2) (n' := 2) (by kernel_rfl) Tryz.call94 Tryz.func94 rfl Tryz.ntmps94 (by kernel_rfl) fun a15 hE16 => ?_)
  have hE17 := hE16.recast 0 (.v (.pointer (some ⟨b7, 0, none⟩))) (.p 0 0) rfl rfl (Nat.le_of_ble_eq_true (n := 1) rfl)
  refine wp_skip ?_
  refine leave_end hE17 hW13.cells (v := .tuple #[]) (by kernel_rfl) ?_
  refine ⟨_, rfl, fun a18 hE19 => ?_⟩
  have hE20 : EnvOk 3 [⟨b7, 0, [.int .i16 0, .int .i32 0, .int .i16 0, .pointer none, .slice none 0 0, .map none], true⟩] [(2, .v (.tuple #[])), (1, .p 0 0)] _ := hE19.places (⟨rfl, rfl, trivial⟩)
  refine wpOps_nil ?_
  refine then_normal ?_
  refine go_sp [(0, .p 0 0)] hW13 hE20 fun a21 hE22 => ?_
  clear hE20
  refine wp_ret ?_
  refine leave hE22 hW13.cells (v := .pointer (some ⟨b7, 0, none⟩)) (by kernel_rfl) ?_
  refine ⟨_, rfl, fun a23 hE24 => ?_⟩
  have hE25 : EnvOk 4 [⟨b7, 0, [.int .i16 0, .int .i32 0, .int .i16 0, .pointer none, .slice none 0 0, .map none], true⟩] [(1, .v (.pointer (some ⟨b7, 0, none⟩)))] _ := hE24.places (trivial)
  have hE26 := hE25.recast 1 (.v (.pointer (some ⟨b7, 0, none⟩))) (.p 0 0) rfl rfl (Nat.le_of_ble_eq_true (n := 1) rfl)
  have hE27 := hE26.pick (ks := [1]) (env' := [(1, .p 0 0)]) (by kernel_rfl)
  clear hE25
  clear hE26
  refine of_op (wpOp_inline hE27 (f := 42) (vs := [.pointer (some ⟨b7, 0, none⟩)]) (d := 2) (n' := 3) (by kernel_rfl) Tryz.call42 Tryz.func42 rfl Tryz.ntmps42 (by kernel_rfl) fun a28 hE29 => ?_)
  have hE30 := hE29.recast 0 (.v (.pointer (some ⟨b7, 0, none⟩))) (.p 0 0) rfl rfl (Nat.le_of_ble_eq_true (n := 1) rfl)
  refine go_sp [] hW13 hE30 fun a31 hE32 => ?_
  clear hE30
  refine go_sp [(2, .v (.int .i16 1))] hW13 hE32 fun a33 hE34 => ?_
  clear hE32
  refine wp_ret ?_
  refine leave hE34 hW13.cells (v := .int .i16 1) (by kernel_rfl) ?_
  refine ⟨_, rfl, fun a35 hE36 => ?_⟩
  have hE37 : EnvOk 4 [⟨b7, 0, [.int .i16 0, .int .i32 0, .int .i16 0, .pointer none, .slice none 0 0, .map none], true⟩] [(2, .v (.int .i16 1)), (1, .p 0 0)] _ := hE36.places (⟨rfl, rfl, trivial⟩)
  refine go_rn [2, 3] [] [(0, .v (.int .i64 1))] hW13 hE37 fun a38 hE39 => ?_
  clear hE37
  refine wpOps_nil ?_
  refine then_normal ?_
  refine wp_ret ?_
  refine leave hE39 hW13.cells (v := .int .i64 1) (by kernel_rfl) ?_
  exact ⟨rfl, hW13.step⟩

theorem sDescribeClientQuotasResponse_depth : depths sDescribeClientQuotasResponseF ≤ 8 := by simp [sDescribeClientQuotasResponseF, Fld.depth.depths, Fld.depth]
theorem sDescribeClientQuotasResponse_plain : plains sDescribeClientQuotasResponseF := by simp [sDescribeClientQuotasResponseF, Fld.plain.plains, Fld.plain]

theorem lawDescribeClientQuotasResponse (x : Int) (hx : 0 ≤ x) (hx' : x < 256) (ct : List Value) (t : Tree) (w : World) (F : Nat → Nat → Prop) (ht : TreeR w F ct t) (hroom : (writeB 8 sDescribeClientQuotasResponseF sDescribeClientQuotasResponseX (Int.tmod x (1 + 1)) t).length ≤ 1099511627776) (hcan : canDescribeClientQuotasResponse (fitT (Int.tmod x (1 + 1)) 8 sDescribeClientQuotasResponseF t)) (hmade : (makeDescribeClientQuotasResponse (Int.tmod x (1 + 1)) (fitT (Int.tmod x (1 + 1)) 8 sDescribeClientQuotasResponseF t)).length + 16 ≤ 1099511627776) (hpure : makeDescribeClientQuotasResponse (Int.tmod x (1 + 1)) (fitT (Int.tmod x (1 + 1)) 8 sDescribeClientQuotasResponseF t) = writeB 8 sDescribeClientQuotasResponseF sDescribeClientQuotasResponseX (Int.tmod x (1 + 1)) t) :
    Calls Tryz.prog 4 #[.int .u8 x, .agg ct.toArray] w (Gives w (.bool true)) := by
  obtain ⟨n1, s2, b3, l4, u5, A6, c7, A8, c9, A10, c11, xs12, rfl, rfl, h14, h15, h16, h17⟩ := ht.open_
  have hsm19 := h14.small
  have hsm20 := h15.small
  refine enter (n := 31) Tryz.func4 rfl Tryz.ntmps4 (by kernel_rfl) fun a hE => ?_
  have hW := WOk.start w Nil
  refine go_seq_region [0, 1] (by kernel_rfl) ?_
  refine of_op (wpOp_box hW hE (d := 3) (cs := [.int .i64 n1, .slice A6 s2.length c7, .bool b3, .slice A8 l4.length c9, .slice A10 u5.length c11]) (by kernel_rfl) fun b21 a22 w23 hb24 hz25 hF26 hW27 hE28 => ?_)
  clear hE hW
  refine go_rn [1] [] [(0, .v (.int .u8 x)), (3, .p 0 0)] hW27 hE28 fun a29 hE30 => ?_
  clear hE28
  refine wpOps_nil ?_
  refine then_normal ?_
  refine wp_seq ?_
  refine go_seq_region [0, 1, 2] (by kernel_rfl) ?_
  refine go_rn [0] [1, 2] [(0, .v (.int .u8 x)), (3, .p 0 0), (8, .v (.agg #[.int .i64 n1, .slice A6 s2.length c7, .bool b3, .slice A8 l4.length c9, .slice A10 u5.length c11]))] hW27 hE30 fun a31 hE32 => ?_
  clear hE30
  refine of_op (wpOp_call hE32 (f := 8) (vs := [.agg #[.int .i64 n1, .slice A6 s2.length c7, .bool b3, .slice A8 l4.length c9, .slice A10 u5.length c11]]) (d := 9) (by kernel_rfl) Tryz.call8 (lFits1 _ _ _ _ (ht.move hW27.step nilM hW27.imm)) ?_)
  rintro e_ w35 ⟨b34, rfl, hs33⟩
  refine ⟨_, rfl, fun a36 hE37 => ?_⟩
  have hW38 := hW27.next_nil hs33
  have hF39 := hW27.frN hs33
  clear hE32 hW27
  refine go_rn [2] [] [(0, .v (.int .u8 x)), (3, .p 0 0), (10, .v (.bool (!b34)))] hW38 hE37 fun a40 hE41 => ?_
  clear hE37
  refine wpOps_nil ?_
  refine then_normal ?_
  refine cond_of hE41 (b := !b34) (by kernel_rfl) (fun hc42 => ?_) (fun hc42 => ?_)
  ·
    refine go_sp [(4, .v (.bool true))] hW38 hE41 fun a44 hE45 => ?_
    clear hE41
    refine wp_ret ?_
    refine then_ret ?_
    refine leave hE45 hW38.cells (v := .bool true) (by kernel_rfl) ?_
    exact ⟨rfl, hW38.step⟩
  ·
    refine wp_skip ?_
    refine then_normal ?_
    refine go_seq_region [0, 1] (by kernel_rfl) ?_
    refine of_op (wpOp_call hE41 (f := 17) (vs := []) (d := 11) (by kernel_rfl) Tryz.call17 (xDescribeClientQuotasResponse _) ?_)
    rintro e_ w48 ⟨rfl, hs47⟩
    refine ⟨_, rfl, fun a49 hE50 => ?_⟩
    have hW51 := hW38.next_nil hs47
    have hF52 := hW38.frN hs47
    clear hE41 hW38
    refine go_rn [1] [] [(0, .v (.int .u8 x)), (3, .p 0 0), (5, .v (.int .i64 1))] hW51 hE50 fun a53 hE54 => ?_
    clear hE50
    refine wpOps_nil ?_
    refine then_normal ?_
    refine wp_seq ?_
    refine go_sp [(0, .v (.int .u8 x)), (3, .p 0 0), (5, .v (.int .i64 1)), (13, .v (.bool false))] hW51 hE54 fun a55 hE56 => ?_
    clear hE54
    refine cond_false hE56 (b := false) (by kernel_rfl) rfl ?_
    refine wp_skip ?_
    refine then_normal ?_
    refine go_seq_region [0, 1, 2, 3, 4, 5, 6] (by kernel_rfl) ?_
    refine of_op (wpOp_call hE56 (f := 18) (vs := []) (d := 14) (by kernel_rfl) Tryz.call18 (sDescribeClientQuotasResponse _ (Imm F w w48 [⟨b21, 0, [.int .i64 n1, .slice A6 s2.length c7, .bool b3, .slice A8 l4.length c9, .slice A10 u5.length c11], true⟩] [])) ?_)
    rintro e_ w61 ⟨A59, c60, rfl, hr58, hs57⟩
    obtain ⟨xs62, h63, h64⟩ := hr58.move (Step.refl _ Nil) nilM (hW51.laid (G := F) hs57)
    refine ⟨_, rfl, fun a65 hE66 => ?_⟩
    have hW67 := hW51.next_nil hs57
    have hF68 := hW51.frN hs57
    clear hE56
    refine go_rn [1, 2] [3, 4, 5, 6] [(3, .p 0 0), (14, .v (.agg #[.slice A59 sDescribeClientQuotasResponseF.length c60, .int .i64 sDescribeClientQuotasResponseX])), (15, .v (.int .u8 x)), (16, .v (.int .i64 1))] hW67 hE66 fun a69 hE70 => ?_
    clear hE66
    refine of_op (wpOp_call hE70 (f := 11) (vs := [.int .u8 x, .int .i64 1]) (d := 17) (by kernel_rfl) Tryz.call11 (lVersion x 1 hx hx' (by decide) (by decide) _) ?_)
    rintro e_ w72 ⟨rfl, hs71⟩
    refine ⟨_, rfl, fun a73 hE74 => ?_⟩
    have hW75 := hW67.next_nil hs71
    have hF76 := hW67.frN hs71
    clear hE70 hW67
    refine of_op (wpOp_alloc hW75 hE74 (d := 6) (cs := [.slice none 0 0, .int .i64 0]) (by kernel_rfl) fun b77 a78 w79 hb80 hz81 hF82 hW83 hE84 => ?_)
    clear hE74 hW75
    refine of_op (wpOp_store hW83 hE84 (oi := 1) (cs := [.slice A59 sDescribeClientQuotasResponseF.length c60, .int .i64 sDescribeClientQuotasResponseX]) (by kernel_rfl) fun w85 hF86 hW87 hE88 => ?_)
    clear hE84 hW83
    refine go_rn [6] [] [(3, .p 0 0), (6, .p 1 0), (7, .v (.int .i64 (Int.tmod x (1 + 1))))] hW87 hE88 fun a89 hE90 => ?_
    clear hE88
    refine wpOps_nil ?_
    refine then_normal ?_
    refine go_seq_drawK 13 (by kernel_rfl) hW87 fun w91 hF92 hW93 hT94 => ?_
    clear hW87
    refine go_rnD [0, 1, 2, 3, 4, 8, 9, 10] [(18, .v (.int .i64 (Int.tmod x (1 + 1)))), (20, .v (.slice A59 sDescribeClientQuotasResponseF.length c60)), (21, .v (.int .i64 (Int.tmod x (1 + 1)))), (22, .v (.agg #[.int .i64 n1, .slice A6 s2.length c7, .bool b3, .slice A8 l4.length c9, .slice A10 u5.length c11])), (26, .v (.agg #[.slice A59 sDescribeClientQuotasResponseF.length c60, .int .i64 sDescribeClientQuotasResponseX])), (27, .v (.int .i64 (Int.tmod x (1 + 1)))), (28, .v (.agg #[.int .i64 n1, .slice A6 s2.length c7, .bool b3, .slice A8 l4.length c9, .slice A10 u5.length c11]))] 6 (panicFree_then panicFree_body) (fun _ h => h.cells) hT94 hE90 fun a95 hE96 => ?_
    clear hE90
    refine anyC_op (i := 5) (by kernel_rfl) (wpOp_call hE96 (f := 15) (vs := [.slice A59 sDescribeClientQuotasResponseF.length c60, .int .i64 (Int.tmod x (1 + 1)), .agg #[.int .i64 n1, .slice A6 s2.length c7, .bool b3, .slice A8 l4.length c9, .slice A10 u5.length c11]]) (d := 23) (by kernel_rfl) Tryz.call15 (sFitOK _ _ _ sDescribeClientQuotasResponseF (Int.tmod x (1 + 1)) _ (Tree.mk n1 s2 b3 l4 u5) _ _ ⟨xs62, (h63.move (Fr.trans (Fr.trans (Fr.trans hF76 hF82) hF86) hF92).step immM (Fr.trans (Fr.trans (Fr.trans hF76 hF82) hF86) hF92).to'), (fun i_ x_ h_ => ((h64 i_ x_ h_).move (Fr.trans (Fr.trans (Fr.trans hF76 hF82) hF86) hF92).step immM (Fr.trans (Fr.trans (Fr.trans hF76 hF82) hF86) hF92).to'))⟩ sDescribeClientQuotasResponse_plain sDescribeClientQuotasResponse_depth (ht.move hW93.step nilM hW93.imm)) ?_)
    rintro e_ w100 ⟨cs99, rfl, hr98, hs97⟩
    have hr101 := hr98.move (Step.refl _ Nil) nilM (hW93.laid (G := F) hs97)
    obtain ⟨n102, s103, b104, l105, u106, A107, c108, A109, c110, A111, c112, xs113, ht119, hcs114, h115, h116, h117, h118⟩ := hr101.open_
    rw [hcs114] at hr101
    have hsm120 := h115.small
    have hsm121 := h116.small
    rw [hcs114]
    refine ⟨_, rfl, fun a122 hE123 => ?_⟩
    have hW124 := hW93.next_nil hs97
    have hF125 := hW93.frN hs97
    clear hE96
    have hT126 := TT.ofW hF125 hW124
    refine ⟨fun _ => hT126, ?_⟩
    refine anyC_op (i := 6) (by kernel_rfl) (wpOp_call hE123 (f := 14) (vs := [.agg #[.int .i64 n102, .slice A107 s103.length c108, .bool b104, .slice A109 l105.length c110, .slice A111 u106.length c112]]) (d := 24) (by kernel_rfl) Tryz.call14 (lGiven _ _ _ _ _ hr101 (Nat.le_refl _)) ?_)
    rintro e_ w130 ⟨cs129, rfl, hr128, hs127⟩
    have hr131 := hr128.move (Step.refl _ Nil) nilM (hW124.laid (G := F) hs127)
    obtain ⟨n132, s133, b134, l135, u136, A137, c138, A139, c140, A141, c142, xs143, ht149, hcs144, h145, h146, h147, h148⟩ := hr131.open_
    rw [hcs144] at hr131
    have hsm150 := h145.small
    have hsm151 := h146.small
    rw [hcs144]
    refine ⟨_, rfl, fun a152 hE153 => ?_⟩
    have hW154 := hW124.next_nil hs127
    have hF155 := hW124.frN hs127
    clear hE123
    have hT156 := TT.ofW (Fr.trans hF125 hF155) hW154
    refine ⟨fun _ => hT156, ?_⟩
    refine anyC_op (i := 7) (by kernel_rfl) (wpOp_call hE153 (f := 19) (vs := [.int .i64 (Int.tmod x (1 + 1)), .agg #[.int .i64 n132, .slice A137 s133.length c138, .bool b134, .slice A139 l135.length c140, .slice A141 u136.length c142]]) (d := 25) (by kernel_rfl) Tryz.call19 (mDescribeClientQuotasResponse (Int.tmod x (1 + 1)) _ (fitT (Int.tmod x (1 + 1)) 8 sDescribeClientQuotasResponseF (Tree.mk n1 s2 b3 l4 u5)) _ _ hr131 hcan hmade) ?_)
    rintro e_ w161 ⟨A159, c160, rfl, ho158, hs157⟩
    refine ⟨_, rfl, fun a162 hE163 => ?_⟩
    obtain ⟨hW164, hF165⟩ := hW154.frFresh hs157 (brow A159 c160 5 (makeDescribeClientQuotasResponse (Int.tmod x (1 + 1)) (fitT (Int.tmod x (1 + 1)) 8 sDescribeClientQuotasResponseF (Tree.mk n1 s2 b3 l4 u5)))) (Nat.le_refl _) ho158
    clear hE153 hW154
    have hT166 := TT.ofW (Fr.trans (Fr.trans hF125 hF155) hF165) hW164
    refine ⟨fun _ => hT166, ?_⟩
    refine anyC_op (i := 11) (by kernel_rfl) (wpOp_call hE163 (f := 16) (vs := [.agg #[.slice A59 sDescribeClientQuotasResponseF.length c60, .int .i64 sDescribeClientQuotasResponseX], .int .i64 (Int.tmod x (1 + 1)), .agg #[.int .i64 n1, .slice A6 s2.length c7, .bool b3, .slice A8 l4.length c9, .slice A10 u5.length c11]]) (d := 29) (by kernel_rfl) Tryz.call16 (sWrite _ _ sDescribeClientQuotasResponseF sDescribeClientQuotasResponseX (Int.tmod x (1 + 1)) _ (Tree.mk n1 s2 b3 l4 u5) _ _ ⟨xs62, (h63.move (Fr.trans (Fr.trans (Fr.trans (Fr.trans (Fr.trans (Fr.trans hF76 hF82) hF86) hF92) hF125) hF155) hF165).step immM (Fr.trans (Fr.trans (Fr.trans (Fr.trans (Fr.trans (Fr.trans hF76 hF82) hF86) hF92) hF125) hF155) hF165).to'), (fun i_ x_ h_ => ((h64 i_ x_ h_).move (Fr.trans (Fr.trans (Fr.trans (Fr.trans (Fr.trans (Fr.trans hF76 hF82) hF86) hF92) hF125) hF155) hF165).step immM (Fr.trans (Fr.trans (Fr.trans (Fr.trans (Fr.trans (Fr.trans hF76 hF82) hF86) hF92) hF125) hF155) hF165).to'))⟩ sDescribeClientQuotasResponse_depth (ht.move hW164.step nilM hW164.imm) hroom) ?_)
    rintro e_ w171 ⟨A169, c170, rfl, ho168, hs167⟩
    refine ⟨_, rfl, fun a172 hE173 => ?_⟩
    obtain ⟨hW174, hF175⟩ := hW164.frFresh hs167 (brow A169 c170 5 (writeB 8 sDescribeClientQuotasResponseF sDescribeClientQuotasResponseX (Int.tmod x (1 + 1)) (Tree.mk n1 s2 b3 l4 u5))) (Nat.le_refl _) ho168
    clear hE163 hW164
    have hT176 := TT.ofW (Fr.trans (Fr.trans (Fr.trans hF125 hF155) hF165) hF175) hW174
    refine ⟨fun _ => hT176, ?_⟩
    refine anyC_op (i := 12) (by kernel_rfl) (wpOp_call hE173 (f := 12) (vs := [.slice A159 ((makeDescribeClientQuotasResponse (Int.tmod x (1 + 1)) (fitT (Int.tmod x (1 + 1)) 8 sDescribeClientQuotasResponseF (Tree.mk n1 s2 b3 l4 u5))).length) c160, .slice A169 ((writeB 8 sDescribeClientQuotasResponseF sDescribeClientQuotasResponseX (Int.tmod x (1 + 1)) (Tree.mk n1 s2 b3 l4 u5)).length) c170]) (d := 30) (by kernel_rfl) Tryz.call12 (sSame _ _ _ _ (makeDescribeClientQuotasResponse (Int.tmod x (1 + 1)) (fitT (Int.tmod x (1 + 1)) 8 sDescribeClientQuotasResponseF (Tree.mk n1 s2 b3 l4 u5))) (writeB 8 sDescribeClientQuotasResponseF sDescribeClientQuotasResponseX (Int.tmod x (1 + 1)) (Tree.mk n1 s2 b3 l4 u5)) _ _ (octs_own (hW174.own 0 _ rfl) (by first | omega | (simp only [be_length]; exact Nat.le_trans (widthI_le _) (by decide)) | (have := hroom; omega) | (have := hmade; omega)) (F := fun _ _ => True) (fun _ _ _ => trivial)) (octs_own (hW174.own 1 _ rfl) (by first | omega | (simp only [be_length]; exact Nat.le_trans (widthI_le _) (by decide)) | (have := hroom; omega) | (have := hmade; omega)) (F := fun _ _ => True) (fun _ _ _ => trivial))) ?_)
    rintro e_ w178 ⟨rfl, hs177⟩
    refine ⟨_, rfl, fun a179 hE180 => ?_⟩
    have hW181 := hW174.next_nil hs177
    have hF182 := hW174.frN hs177
    clear hE173 hW174
    have hT183 := TT.ofW (Fr.trans (Fr.trans (Fr.trans (Fr.trans hF125 hF155) hF165) hF175) hF182) hW181
    refine ⟨fun _ => hT183, ?_⟩
    refine anyC_op (i := 13) (by kernel_rfl) (wpOp_pure [4] hW181.cells hE180 (env' := [(4, .v (.bool (decide (makeDescribeClientQuotasResponse (Int.tmod x (1 + 1)) (fitT (Int.tmod x (1 + 1)) 8 sDescribeClientQuotasResponseF (Tree.mk n1 s2 b3 l4 u5)) = writeB 8 sDescribeClientQuotasResponseF sDescribeClientQuotasResponseX (Int.tmod x (1 + 1)) (Tree.mk n1 s2 b3 l4 u5)))))]) (by kernel_rfl) fun a184 hE185 => ?_)
    clear hE180
    refine ⟨fun h => absurd rfl h, ?_⟩
    refine anyC_done (by kernel_rfl) ?_ _
    refine then_normal ?_
    refine wp_ret ?_
    refine leave hE185 hW181.cells (v := .bool (decide (makeDescribeClientQuotasResponse (Int.tmod x (1 + 1)) (fitT (Int.tmod x (1 + 1)) 8 sDescribeClientQuotasResponseF (Tree.mk n1 s2 b3 l4 u5)) = writeB 8 sDescribeClientQuotasResponseF sDescribeClientQuotasResponseX (Int.tmod x (1 + 1)) (Tree.mk n1 s2 b3 l4 u5)))) (by kernel_rfl) ?_
    exact ⟨by rw [hpure]; simp, hW181.step⟩

theorem closeDescribeClientQuotasResponse (x : Int) (hx : 0 ≤ x ∧ x ≤ 255) (ct : List Value) (t : Tree) (w : World) (F : Nat → Nat → Prop) (ht : TreeR w F ct t) (hsz : t.size ≤ 8388608) : Calls Tryz.prog 4 #[.int .u8 x, .agg ct.toArray] w (Gives w (.bool true)) := by
  obtain ⟨g0, g1⟩ := ver_ok (m := 1 + 1) hx.1 hx.2 (by decide) (by decide)
  have hp : makeDescribeClientQuotasResponse (Int.tmod x (1 + 1)) (fitT (Int.tmod x (1 + 1)) 8 sDescribeClientQuotasResponseF t) = writeB 8 sDescribeClientQuotasResponseF sDescribeClientQuotasResponseX (Int.tmod x (1 + 1)) t := by unfold makeDescribeClientQuotasResponse; rw [i16_small g0 g1]; exact pureDescribeClientQuotasResponse (Int.tmod x (1 + 1)) g0 g1 t
  have h1 := writeB_le 8 sDescribeClientQuotasResponseF sDescribeClientQuotasResponseX (Int.tmod x (1 + 1)) t
  have h2 : costL sDescribeClientQuotasResponseF ≤ 131000 := by decide +kernel
  have h3 := Nat.mul_le_mul h2 hsz
  exact lawDescribeClientQuotasResponse x hx.1 (by omega) ct t w F ht (by omega) (canfitDescribeClientQuotasResponse (Int.tmod x (1 + 1)) t) (by rw [hp]; omega) hp

end Go.Proofs.YtbjopfcbpobnpaaGreat.ME

/- FnMakeDescribeClientQuotasResponse: the statement: of every version and every tree of the bulk that the statement speaks of the law returns true, and leaves its arguments as they are. Own work. -/
namespace Go.Proofs.YtbjopfcbpobnpaaGreat.ME
open Go
open Go.ChangeShapes Go.WideShapes Go.ChangeAt Go.RowKit
set_option linter.unusedVariables false
set_option linter.unusedSimpArgs false

theorem ownKnob_ : ownKnob Tryz.prog.godebug = none := by kernel_rfl
theorem laidOut_ : laidOutB Tryz.prog = true := by kernel_rfl
theorem treeTys : TreeTys Tryz.prog 26 23 24 63 22 2 4 61 5 := ⟨by kernel_rfl, by kernel_rfl, by kernel_rfl, by kernel_rfl, by kernel_rfl, by kernel_rfl, by kernel_rfl, by kernel_rfl, by kernel_rfl, by kernel_rfl⟩
theorem open_two {H : Type} {enc : TypeId × Value → H} {P : Program} {W : World} {base b' : Nat} {sp : Nat → Bool} {hd : Bool} {t0 t1 : TypeId} {v0 v1 : Value} {d0 : DataW H} {p0 : List MemPlace} (hu : P.underlying t0 = some (.int .u8))
    (hval : ∀ (j : Nat) (t : TypeId) (v : Value), #[t0, t1][j]? = some t → #[v0, v1][j]? = some v → Value.okWide P W .any base t v) (h : DataW.Trod enc P W b' sp hd t0 v0 d0 p0) : ∃ x, v0 = .int .u8 x ∧ d0 = .lit (.int .u8 x) ∧ p0 = [] ∧ (Lit.int .u8 x).wf = true :=
  open_int hu (hval 0 t0 v0 rfl rfl) h
theorem agg_of {v : Value} {cs : List Value} (h : v.cells.toList = cs) (h5 : cs.length = 5) : v = .agg cs.toArray := by
  subst h
  cases v <;> first | (simp [Value.cells] at h5; done) | simp [Value.cells]

theorem contract_ (H : Type) (enc : TypeId × Value → H) (W : World) (base : Nat) (args : Array Value) (ds gs : List (DataW H)) (before : List MemPlace)
    (hval : ∀ (j : Nat) t v, Tryz.f4.params[j]? = some t → args[j]? = some v → Value.okWide Tryz.prog W .any base t v)
    (hW : DataW.Whole enc Tryz.prog Tryz.f4.params.toList Rows.fnMakeDescribeClientQuotasResponseSpec.vars false W args.toList ds gs before) (hk : Rows.uptoSmall H (ds ++ gs) = true) :
    Calls Tryz.prog 4 args W fun e W' => ∃ v, e = .returned v ∧ Rows.fnMakeDescribeClientQuotasResponseSpec.post enc Tryz.prog Tryz.f4 false true false false W args v W' := by
  have hW' := hW
  obtain ⟨p, q, hA0, hV, rfl, hfz, hnd⟩ := hW
  have hA : DataW.TrodAll enc Tryz.prog W 0 (fun _ => true) true Tryz.f4.params.toList args.toList ds p := hA0
  rw [Tryz.params4] at hA hval
  obtain ⟨v0, v1, d0, d1, p0, p1, rfl, rfl, rfl, h0, h1⟩ := trodAll_two hA
  obtain ⟨rfl, rfl⟩ := trodVars_none hV
  obtain ⟨x, rfl, rfl, rfl, w0⟩ := open_two Tryz.underlying5 @hval h0
  have hx : 0 ≤ x ∧ x ≤ 255 := by simpa [Lit.wf, IntKind.min, IntKind.max, IntKind.signed, IntKind.bits] using w0
  have hb : Rows.uptoBulk d1 ≤ 1048576 := by
    have h : Rows.uptoBulkAll ([DataW.lit (H := H) (.int .u8 x), d1] ++ []) ≤ 1048576 := of_decide_eq_true hk
    simp only [List.append_nil, Rows.uptoBulkAll] at h
    omega
  obtain ⟨fuel, hf⟩ := h1
  obtain ⟨t, ht, hsz⟩ := trod_tree treeTys fuel _ _ hf hb
  replace hsz : t.size ≤ 8388608 := Nat.le_trans hsz (by show 8 * Rows.uptoBulk d1 ≤ 8388608; omega)
  have hagg := agg_of rfl ht.five
  generalize v1.cells.toList = ct at ht hagg
  subst hagg
  clear hf
  refine (closeDescribeClientQuotasResponse x hx _ t W (fun _ _ => True) ht hsz).mono fun e W' h => ?_
  obtain ⟨rfl, hs⟩ := h
  exact ⟨_, rfl, post_step hW' hs laidOut_ (by rw [Tryz.params4]; decide +kernel) rfl rfl rfl (fun _ _ _ => trodAll_cons_mk (shut_bool Tryz.underlying4 _) trodAll_mk0)⟩

set_option maxRecDepth 100000 in
theorem lifted_ (os : Os) (started : os.Started) (H : Type) (enc : TypeId × Value → H) (F : Stop.Interp) :
    ReturnsInHanded {} Tryz.checked os 4 .any ((Rows.OpenSpec.upto Rows.fnMakeDescribeClientQuotasResponseSpec).pre6 enc Tryz.prog Tryz.f4 Rows.fnMakeDescribeClientQuotasResponseUptoRow.domain false) (((Rows.OpenSpec.upto Rows.fnMakeDescribeClientQuotasResponseSpec).at F).post enc Tryz.prog Tryz.f4 false true false false) := by
  refine returnsInHanded_of_cond (C := Tryz.checked) (s := Rows.OpenSpec.upto Rows.fnMakeDescribeClientQuotasResponseSpec) (k := Rows.uptoSmall) rfl ownKnob_ started (by kernel_rfl) Tryz.func4
    (OpenSpec.witness (enc := enc) (C := Tryz.checked) (s := Rows.OpenSpec.upto Rows.fnMakeDescribeClientQuotasResponseSpec) (k := Rows.uptoSmall) rfl false ⟨#[], #[.int .u8 0, .agg #[.int .i64 0, .slice none 0 0, .bool false, .slice none 0 0, .slice none 0 0]], []⟩ 8 (by kernel_rfl) (by kernel_rfl) (by kernel_rfl)
      (x := ([.lit (.int .u8 0), .agg [.lit (.int .i64 0), .nil, .lit (.bool false), .nil, .nil]], [], [])) (by kernel_rfl) rfl (by kernel_rfl)) ?_
  intro W base args ds gs before hval hW _ hk _
  exact contract_ H enc W base args ds gs before @hval hW hk

theorem holds_ : Rows.FnMakeDescribeClientQuotasResponseUptoSaid :=
  OpenClaim.holds_of_cond 4 Tryz.f4 rfl rfl rfl rfl rfl rfl rfl ⟨rfl, rfl, rfl, rfl, rfl⟩ rfl rfl rfl rfl rfl (by kernel_rfl) Tryz.func4 (by kernel_rfl)
    (of_decide_eq_true (by kernel_rfl)) (by unfold Func.isWrapper; first | (rw [if_pos (by decide +kernel)]; kernel_rfl) | (rw [if_neg (by decide +kernel)]; exact ⟨rfl, rfl⟩))
    (fun os started H enc _ F => lifted_ os started H enc F)
end Go.Proofs.YtbjopfcbpobnpaaGreat.ME
namespace Go.Proofs.YtbjopfcbpobnpaaGreat
/-- the statement -/
theorem fnMakeDescribeClientQuotasResponse_holds : Rows.FnMakeDescribeClientQuotasResponseUptoSaid := ME.holds_
end Go.Proofs.YtbjopfcbpobnpaaGreat
