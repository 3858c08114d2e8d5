/- Plain facts: unknown tags stand in rising order; what is fitted; ids. Own work. -/
import Derived.Test.YtbjopfcbpobnpaaTh
import Derived.Test.YtbjopfcbpobnpaaPz
namespace Go.Proofs.Ytbjopfcbpobnpaa.ME
open Go
open Go.RowKit
set_option linter.unusedVariables false
set_option linter.unusedSimpArgs false

theorem tagPos_cons (y : Int × Bs) (r : List (Int × Bs)) (k : Int) : tagPos (y :: r) k = if y.1 < k then tagPos r k + 1 else 0 := by
  unfold tagPos
  rw [List.takeWhile_cons]
  by_cases h : y.1 < k
  · simp [h]
  · simp [h]
theorem tagPos_le (out : List (Int × Bs)) (k : Int) : tagPos out k ≤ out.length := by
  unfold tagPos
  exact (List.takeWhile_sublist _).length_le
theorem insTag_cons_lt {least : Int} {y t : Int × Bs} {r : List (Int × Bs)} (h : y.1 < t.1) : insTag least (y :: r) t = y :: insTag least r t := by
  unfold insTag
  rw [tagPos_cons, if_pos h]
  simp only [List.length_cons, Nat.add_lt_add_iff_right, List.getD_cons_succ, List.take_succ_cons, List.drop_succ_cons, List.cons_append]
  split <;> rfl
theorem insTag_cons_ge {least : Int} {y t : Int × Bs} {r : List (Int × Bs)} (h : ¬ y.1 < t.1) : insTag least (y :: r) t = if t.1 < least ∨ y.1 = t.1 then y :: r else t :: y :: r := by
  unfold insTag
  rw [tagPos_cons, if_neg h]
  simp only [List.length_cons, Nat.zero_lt_succ, List.getD_cons_zero, List.take_zero, List.drop_zero, List.nil_append, true_and]
theorem insTag_nil {least : Int} {t : Int × Bs} : insTag least [] t = if t.1 < least then [] else [t] := by
  unfold insTag
  simp [tagPos]
theorem insTag_mem {least : Int} {t : Int × Bs} : ∀ {out : List (Int × Bs)}, ∀ x ∈ insTag least out t, x = t ∨ x ∈ out
  | [], x, hx => by
    rw [insTag_nil] at hx
    split at hx
    · cases hx
    · exact .inl (List.mem_singleton.1 hx)
  | y :: r, x, hx => by
    by_cases h : y.1 < t.1
    · rw [insTag_cons_lt h] at hx
      rcases List.mem_cons.1 hx with rfl | hx
      · exact .inr (List.mem_cons_self ..)
      · rcases insTag_mem x hx with h1 | h1
        · exact .inl h1
        · exact .inr (List.mem_cons_of_mem _ h1)
    · rw [insTag_cons_ge h] at hx
      split at hx
      · exact .inr hx
      · rcases List.mem_cons.1 hx with rfl | hx
        · exact .inl rfl
        · exact .inr hx
theorem insTag_sorted {least : Int} {t : Int × Bs} : ∀ {out : List (Int × Bs)}, Sorted out → Sorted (insTag least out t)
  | [], _ => by
    rw [insTag_nil]
    split
    · exact List.Pairwise.nil
    · exact List.pairwise_singleton _ _
  | y :: r, h => by
    have h1 := @List.rel_of_pairwise_cons _ _ _ _ h
    have h2 := List.Pairwise.of_cons h
    by_cases hlt : y.1 < t.1
    · rw [insTag_cons_lt hlt]
      refine List.pairwise_cons.2 ⟨fun z hz => ?_, insTag_sorted h2⟩
      rcases insTag_mem z hz with rfl | hz
      · exact hlt
      · exact h1 hz
    · rw [insTag_cons_ge hlt]
      split
      · exact h
      · rename_i hn
        refine List.pairwise_cons.2 ⟨fun z hz => ?_, h⟩
        rcases List.mem_cons.1 hz with rfl | hz
        · omega
        · have := h1 hz; omega
theorem foldT_sorted {least : Int} : ∀ {l out : List (Int × Bs)}, Sorted out → Sorted (l.foldl (insTag least) out)
  | [], _, h => h
  | x :: r, _, h => foldT_sorted (l := r) (insTag_sorted h)
theorem foldT_len {least : Int} : ∀ {l out : List (Int × Bs)}, (l.foldl (insTag least) out).length ≤ out.length + l.length
  | [], _ => Nat.le_refl _
  | x :: r, out => by
    have h1 := foldT_len (least := least) (l := r) (out := insTag least out x)
    have h2 := insTag_len least out x
    rw [List.foldl_cons, List.length_cons]
    omega
theorem foldT_mem {least : Int} : ∀ {l out : List (Int × Bs)}, ∀ x ∈ l.foldl (insTag least) out, x ∈ out ∨ x ∈ l
  | [], _, x, hx => .inl hx
  | y :: r, out, x, hx => by
    rcases foldT_mem (l := r) x hx with h | h
    · rcases insTag_mem x h with rfl | h
      · exact .inr (List.mem_cons_self ..)
      · exact .inl h
    · exact .inr (List.mem_cons_of_mem _ h)
theorem unknownT_sorted (l : List Fld) (u : List (Int × Bs)) : Sorted (unknownT l u) := foldT_sorted List.Pairwise.nil
theorem unknownT_len (l : List Fld) (u : List (Int × Bs)) : (unknownT l u).length ≤ 32767 := by
  have h := foldT_len (least := knownI l) (l := u.take 32767) (out := [])
  rw [List.length_take, List.length_nil] at h
  unfold unknownT
  omega
theorem unknownT_mem {l : List Fld} {u : List (Int × Bs)} : ∀ x ∈ unknownT l u, x ∈ u := fun x hx => by
  rcases foldT_mem x hx with h | h
  · cases h
  · exact List.mem_of_mem_take h
theorem wholeU_sorted {u : List (Int × Bs)} (h : Sorted u) : Sorted (wholeU u) := List.pairwise_map.2 h
theorem tagsR_whole (u : List (Int × Bs)) : tagsR (wholeU u) = tagsB u := by
  unfold tagsR wholeU tagsB tagR
  rw [List.flatMap_map]
theorem fit_U (v : Int) (d : Nat) (l : List Fld) (t : Tree) : (fitT v d l t).U = wholeU (unknownT l t.U) := by cases d <;> rfl
theorem tagsR_bound : ∀ {u : List (Int × Bs)}, (∀ x ∈ u, (0 ≤ x.1 ∧ x.1 < 4294967296) ∧ x.2.length ≤ 32767) → (tagsR u).length ≤ 32800 * u.length
  | [], _ => Nat.le_refl _
  | x :: r, h => by
    have h1 := h x (List.mem_cons_self ..)
    have h2 := tagsR_bound (u := r) fun y hy => h y (List.mem_cons_of_mem _ hy)
    have e : tagsR (x :: r) = tagR x.1 x.2 ++ tagsR r := rfl
    have h3 := uv_len_le x.1.toNat 5 (by omega) (by omega)
    have h4 := uv_len_le x.2.length 5 (by omega) (by omega)
    rw [e, List.length_append, List.length_cons]
    unfold tagR
    simp only [List.length_append]
    omega
/-- what is fitted may be handed to the package -/
theorem fit_ok {w : World} {F : Nat → Nat → Prop} {ct : List Value} {t : Tree} (ht : TreeR w F ct t) (v : Int) (d : Nat) (l : List Fld) :
    Sorted (fitT v d l t).U ∧ (fitT v d l t).U.length ≤ 1000000 ∧ (∀ y ∈ (fitT v d l t).U, y.2.length < 4294967296) ∧ (tagsR (fitT v d l t).U).length ≤ 1100000000 := by
  obtain ⟨n, s, b, ll, u, A1, c1, A2, c2, A3, c3, xs, rfl, _, _, _, _, hu⟩ := ht.open_
  have hl := unknownT_len l u
  have hm : ∀ y ∈ wholeU (unknownT l u), (0 ≤ y.1 ∧ y.1 < 4294967296) ∧ y.2.length ≤ 32767 := fun y hy => by
    obtain ⟨x, hx, rfl⟩ := List.mem_map.1 hy
    exact ⟨tags_range hu x (unknownT_mem x hx), whole_le _⟩
  rw [fit_U]
  refine ⟨wholeU_sorted (unknownT_sorted _ _), ?_, fun y hy => ?_, ?_⟩
  · rw [wholeU_len]; exact Nat.le_trans hl (by decide)
  · have := (hm y hy).2; omega
  · have := tagsR_bound hm
    rw [wholeU_len] at this
    exact Nat.le_trans this (Nat.le_trans (Nat.mul_le_mul_left 32800 hl) (by decide))
theorem fit_at {v : Int} {d : Nat} {l : List Fld} {t : Tree} {i : Nat} {f : Fld} (h : l[i]? = some f) : (fitT v (d + 1) l t).at_ i = fittedW (fitT v d) v f (t.at_ i) := by
  have h1 := fits_get (W := fittedW (fitT v d) v) (t := t) h
  have e : (fitT v (d + 1) l t).L = fitsW (fittedW (fitT v d) v) l t 0 := rfl
  rw [Tree.at_, e, List.getD_eq_getElem?_getD, h1]
  rfl
theorem fit_N {v : Int} {d : Nat} {l : List Fld} {t : Tree} {i : Nat} {k x1 x2 x3 x4 x5 x6 : Int} {s : List Fld} (h : l[i]? = some (.mk k x1 x2 x3 x4 x5 x6 s)) (hk : k < 8) : ((fitT v (d + 1) l t).at_ i).N = (t.at_ i).N := by
  rw [fit_at h]
  have e1 : k ≠ 11 := by omega
  have e2 : ¬ (k = 8 ∨ k = 9) := by omega
  have e3 : k ≠ 10 := by omega
  simp [fittedW, fitted0, Fld.kind, e1, e2, e3, Tree.N]
theorem fit_S7 {v : Int} {d : Nat} {l : List Fld} {t : Tree} {i : Nat} {k x1 x2 x3 x4 x5 x6 : Int} {s : List Fld} (h : l[i]? = some (.mk k x1 x2 x3 x4 x5 x6 s)) (hk : k < 8) : ((fitT v (d + 1) l t).at_ i).S = (t.at_ i).S := by
  rw [fit_at h]
  have e1 : k ≠ 11 := by omega
  have e2 : ¬ (k = 8 ∨ k = 9) := by omega
  have e3 : k ≠ 10 := by omega
  simp [fittedW, fitted0, Fld.kind, e1, e2, e3, Tree.S]
theorem i16_small {v : Int} (h0 : 0 ≤ v) (h1 : v < 32768) : IntKind.i16.wrap v = v := by
  have : IntKind.i16.wrap v = (v + 32768) % 65536 - 32768 := by simp [IntKind.wrap, IntKind.signed, IntKind.bits]; omega
  omega
theorem be8_i64 (x : Int) : be 8 (IntKind.i64.wrap x) = be 8 x := by
  rw [IntKind.wrap_i64]
  simp only [be, List.cons.injEq, and_true]
  refine ⟨by8_congr ?_, by8_congr ?_, by8_congr ?_, by8_congr ?_, by8_congr ?_, by8_congr ?_, by8_congr ?_, by8_congr ?_⟩ <;> simp only [Int.reducePow] <;> omega
theorem be1_i8 (x : Int) : be 1 (IntKind.i8.wrap x) = be 1 x := by
  have : IntKind.i8.wrap x = (x + 128) % 256 - 128 := by simp [IntKind.wrap, IntKind.signed, IntKind.bits]; omega
  rw [this]
  simp only [be, List.cons.injEq, and_true]
  refine by8_congr ?_
  simp only [Int.reducePow]; omega
def sixteenB (s : Bs) : Bs := (List.range 16).map fun i => s.getD i 0
theorem sixteenB_len (s : Bs) : (sixteenB s).length = 16 := by simp [sixteenB]
theorem sixteenB_get (s : Bs) (i : Nat) (h : i < 16) : (sixteenB s).getD i 0 = s.getD i 0 := by
  rw [List.getD_eq_getElem?_getD, sixteenB, List.getElem?_map, List.getElem?_range h]; rfl
theorem sixteenB_uuid (s : Bs) : sixteenB s = uuidB s := by
  apply List.ext_getElem?
  intro i
  unfold sixteenB uuidB
  rw [List.getElem?_map, List.getElem?_append, List.length_take]
  by_cases h : i < 16
  · rw [List.getElem?_range h]
    by_cases hs : i < s.length
    · rw [if_pos (by omega), List.getElem?_take, if_pos h, Option.map_some, List.getD_eq_getElem?_getD, List.getElem?_eq_getElem hs]; rfl
    · rw [if_neg (by omega), List.getElem?_replicate, if_pos (by omega), Option.map_some, List.getD_eq_getElem?_getD, List.getElem?_eq_none (by omega)]; rfl
  · rw [List.getElem?_eq_none (by simp; omega)]
    by_cases hs : i < min 16 s.length
    · omega
    · rw [if_neg hs, List.getElem?_replicate, if_neg (by omega)]; rfl

theorem ver_ok {x m : Int} (h0 : 0 ≤ x) (h1 : x ≤ 255) (hm : 0 < m) (hm' : m ≤ 32768) : 0 ≤ Int.tmod x m ∧ Int.tmod x m < 32768 := by
  rw [Int.tmod_eq_emod_of_nonneg h0]
  have g1 := Int.emod_nonneg x (show m ≠ 0 by omega)
  have g2 := Int.emod_lt_of_pos x hm
  omega

end Go.Proofs.Ytbjopfcbpobnpaa.ME
