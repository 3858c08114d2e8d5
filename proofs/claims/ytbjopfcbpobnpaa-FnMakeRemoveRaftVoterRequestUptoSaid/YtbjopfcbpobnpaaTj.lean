/- Octets copied into an array of the call's own. Own work. -/
import Derived.Test.YtbjopfcbpobnpaaTi
namespace Go.Proofs.Ytbjopfcbpobnpaa.ME
open Go
open Go.RowKit
set_option linter.unusedVariables false
set_option linter.unusedSimpArgs false
set_option maxRecDepth 20000

section
variable {P : Program} {ops : Array Oper} {Q : Exit → Act → World → Prop} {n : Nat} {tb : Tb} {env : Env} {rs : List Rw} {w0 : World} {M : Nat → Nat → Prop} {a : Act} {w : World}
/-- a copy into a block of sixteen octets -/
theorem wpOp_copy16 {i d : Nat} {t u e e' : TypeId} {bytes b c : Nat} {A : Option Addr} {s : Bs} {F : Nat → Nat → Prop} {zs : Array Value} {N : Act → World → Prop} (hE : EnvOk n tb env a)
    (h : copyE tb env ops n i = some (t, u, .slice (some ⟨b, 0, none⟩) 16 16, .slice A s.length c, d)) (ht : rowTy P t = some (e, 1, bytes)) (hb : w.heap[b]? = some (.cells zs e' (0, 0))) (hz : zs = ((List.range 16).map fun _ => byteCell 0).toArray)
    (hs : Octs w F A c s)
    (K : ∀ a' w', Step w w' (fun b' _ => b' = b) → At w' b 0 ((List.range 16).map fun i => byteCell (s.getD i 0)) → (∀ j, w'.frozen? ⟨b, j, none⟩ = false) → (∃ v, EnvOk n tb ((d, .v v) :: env) a') → N a' w') : wpOp P ops Q i N a w := by
  obtain ⟨ht', inf, z, hi, hz', hzs, hs1, rfl, hsz, hbp⟩ := rowTy_ok ht
  obtain ⟨op, ho, hd, hrun⟩ := copyE_ok (P := P) (w := w) hE h
  have hsz' : (P.info? e).map (·.size) = some 1 := by rw [hi]; simp [hs1]
  have hb16 : zs.size = 16 := by rw [hz]; simp
  by_cases h0 : min s.length 16 = 0
  · have hr := fun ty => run_copy_none (P := P) w t u ty e (some ⟨b, 0, none⟩) A 16 16 s.length c ht' hsz' h0
    refine wpOp_value hE ho (v := .int .i64 0) (w' := w) (fun o hop => hrun o _ _ hop (hr o.type)) ?_
    have hs0 : s = [] := List.eq_nil_of_length_eq_zero (by omega)
    subst hs0
    refine K _ w (Step.refl _ _) (fun j v hj => ?_) (fun j => by simp [World.frozen?, hb]) ⟨_, hE.put hd (.v _) trivial⟩
    subst hz
    rw [Nat.zero_add]
    simp only [World.cell?, hb]
    simpa using hj
  · have hsrc := hs.src
    have hA : ∃ ad, A = some ad := by
      cases A with
      | none => have := hsrc.nil rfl; omega
      | some ad => exact ⟨ad, rfl⟩
    obtain ⟨ad, rfl⟩ := hA
    have hcl : ((bc s).take (min s.length 16)).length = min s.length 16 := by rw [List.length_take]; simp
    have hr := fun ty => run_copy_row P w t u ty e b 0 16 16 ad s.length c zs e' ((bc s).take (min s.length 16)) ht' hsz' hb hcl (fun j v hj => hsrc.cells ad rfl j v (by
      rw [List.getElem?_take] at hj
      split at hj
      · exact hj
      · cases hj)) (by rw [hcl]; omega) (fun v hv => bc_one s v (List.mem_of_mem_take hv))
    have hw := setRow_heap w b zs (zs.toList.take 0 ++ (bc s).take (min s.length 16) ++ zs.toList.drop (0 + ((bc s).take (min s.length 16)).length)).toArray e' _ hb
    refine wpOp_value hE ho (v := .int .i64 ((min s.length 16 : Nat) : Int)) (w' := w.setRow b (zs.toList.take 0 ++ (bc s).take (min s.length 16) ++ zs.toList.drop (0 + ((bc s).take (min s.length 16)).length)).toArray) (fun o hop => hrun o _ _ hop (by rw [hr o.type]; simp only [hcl]; rfl)) ?_
    refine K _ _ (Step.setRow w b _) (fun j v hj => ?_) (fun j => by unfold World.frozen?; rw [hw]; simp) ⟨_, hE.put hd (.v _) trivial⟩
    rw [Nat.zero_add j]
    unfold World.cell?
    rw [hw]
    simp only [Option.isSome_none, Bool.false_eq_true, if_false]
    have hj16 : j < 16 := by
      have := (List.getElem?_eq_some_iff.1 hj).1
      simpa using this
    rw [List.getElem?_map, List.getElem?_range hj16] at hj
    simp only [Option.map_some, Option.some.injEq] at hj
    subst hj
    simp only [List.take_zero, List.nil_append, Nat.zero_add]
    rw [← Array.getElem?_toList, List.toList_toArray, List.getElem?_append, hcl]
    by_cases hjs : j < min s.length 16
    · rw [if_pos hjs, List.getElem?_take, if_pos hjs, bc, List.getElem?_map, List.getElem?_eq_getElem (by omega), List.getD_eq_getElem?_getD, List.getElem?_eq_getElem (by omega)]
      rfl
    · rw [if_neg hjs, List.getElem?_drop, hz, List.toList_toArray, List.getElem?_map, List.getElem?_range (by omega), List.getD_eq_getElem?_getD, List.getElem?_eq_none (by omega)]
      rfl
theorem wpOp_alloc2 {i d : Nat} {cs : List Value} {N : Act → World → Prop} (hE : EnvOk n tb env a) (h : allocE P env ops n i = some (d, cs))
    (k : ∀ t a', EnvOk n tb ((d, .v (.pointer (some ⟨w.heap.size, 0, none⟩))) :: env) a' → N a' (w.alloc (.cells cs.toArray t))) : wpOp P ops Q i N a w := by
  unfold allocE at h
  split at h
  · rename_i t d' ho
    split at h
    · rename_i inf hi
      split at h
      · rename_i z hz
        simp only [Option.some.injEq, Prod.mk.injEq] at h
        obtain ⟨rfl, rfl⟩ := h
        have hd : d' < n := (opAt_ok hE ho).choose_spec.2.2.2.1
        refine wpOp_value hE ho (v := .pointer (some ⟨w.heap.size, 0, none⟩)) (w' := w.alloc (.cells z.cells t)) ?_ ?_
        · intro o hop
          unfold execOp
          rw [hop]
          simp only [Instr.alloc, Sem.run_bind, run_zeroValue' hi hz, Result.andThen_ok, newVar, newRow, run_newObj, Sem.run_pure]
          rfl
        · have := k t _ (hE.put hd (.v (.pointer (some ⟨w.heap.size, 0, none⟩))) trivial)
          rw [Array.toArray_toList] at this
          exact this
      · cases h
    · cases h
  · cases h
end
theorem At.wok {w0 w : World} {b : Nat} {cs : List Value} (hs : Step w0 w Nil) (h : At w b 0 cs) (hf : ∀ j, w.frozen? ⟨b, j, none⟩ = false) (hb : w0.heap.size ≤ b) (hn : Nat.blt 0 cs.length = true) : WOk w0 Nil w [⟨b, 0, cs, true⟩] [] := by
  have hn' : 0 < cs.length := by simpa [Nat.blt_eq] using hn
  have hl := World.lt_of_cell (h 0 _ (List.getElem?_eq_getElem hn'))
  exact ((WOk.start w0 Nil).next hs (fun _ _ _ f => f.elim) (fun i o hi => by simp at hi) (fun i r hi => by simp at hi)).add ⟨b, 0, cs, true⟩ hl (fun j v hj => h j v hj) (fun _ j hj => ⟨.inl hb, by simpa using hf j⟩) (fun i ob hi => by simp at hi) (fun i r hi => by simp at hi)

end Go.Proofs.Ytbjopfcbpobnpaa.ME
