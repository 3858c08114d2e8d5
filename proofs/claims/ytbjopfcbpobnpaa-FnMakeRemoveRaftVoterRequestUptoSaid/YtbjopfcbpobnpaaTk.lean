/- Texts and octets of the package's messages. Own work. -/
import Derived.Test.YtbjopfcbpobnpaaTj
import Derived.Laws.BytesArg
namespace Go.Proofs.Ytbjopfcbpobnpaa.ME
open Go
open Go.RowKit
set_option linter.unusedVariables false
set_option linter.unusedSimpArgs false
set_option maxRecDepth 20000

def bs (s : Bs) : ByteArray := ⟨s.toArray⟩
theorem sb_bs (s : Bs) : sb (bs s) = s := by simp [sb, bs]
theorem bs_size (s : Bs) : (bs s).size = s.length := by simp [bs, ByteArray.size]
/-- a field's octets, as the package is handed them -/
def octOf (t : Tree) : Bs := if t.null then [] else t.S

section
variable {P : Program} {n : Nat} {w0 : World} {A0 : Option Addr} {e8 d : Nat} {tb : Tb} {env e1 env' : Env} {c c1 c2 : Code} {x x1 x2 y : Bs}
theorem ch_if {o : Operand} {b : Bool} (hb : ∀ A m cp, opd ((d, .v (.slice A m cp)) :: env) o = some (.v (.bool b))) (h1 : b = true → Ch P n w0 A0 e8 d tb env env' c1 x1) (h2 : b = false → Ch P n w0 A0 e8 d tb env env' c2 x2) :
    Ch P n w0 A0 e8 d tb env env' (.cond o c1 c2) (if b = true then x1 else x2) :=
  ch_cond hb (fun h => ch_eq (h1 h) (by rw [if_pos h])) (fun h => ch_eq (h2 h) (by rw [if_neg (by rw [h]; decide)]))
end

section
variable {P : Program} {ops : Array Oper} {Q : Exit → Act → World → Prop} {n : Nat} {tb : Tb} {env : Env} {rs : List Rw} {w0 : World} {M : Nat → Nat → Prop} {a : Act} {w : World}
def convE (tb : Tb) (env : Env) (ops : Array Oper) (n i : Nat) : Option (TypeId × TypeId × Value × Nat) :=
  match opAt env ops n i with
  | some (.convert src dst x, d) => match opd env x with
    | some (.v v) => some (src, dst, v, d)
    | _ => none
  | _ => none
theorem wpOp_conv {i d : Nat} {src dst e c : Nat} {A : Option Addr} {s : Bs} {F : Nat → Nat → Prop} {N : Act → World → Prop} (hE : EnvOk n tb env a) (h : convE tb env ops n i = some (src, dst, .slice A s.length c, d)) (hs : P.underlying src = some (.slice e)) (he : P.underlying e = some (.int .u8)) (hd : P.underlying dst = some .string)
    (ho : Octs w F A c s) (K : ∀ a', EnvOk n tb ((d, .v (.string (bs s))) :: env) a' → N a' w) : wpOp P ops Q i N a w := by
  unfold convE at h
  split at h
  · rename_i src' dst' x d' hop
    split at h
    · rename_i v hx
      simp only [Option.some.injEq, Prod.mk.injEq] at h
      obtain ⟨rfl, rfl, rfl, rfl⟩ := h
      have hdn := (opAt_ok hE hop).choose_spec.2.2.2.1
      have hrun : (convert src' dst' (.slice A s.length c)).run P w = .ok (.string (bs s)) w := by
        have hsrc := ho.src
        cases A with
        | none =>
          have h0 : s = [] := List.eq_nil_of_length_eq_zero (ho.none_ rfl).1
          subst h0
          exact run_convert_bytes_nil w src' e hs he _ _ dst' hd
        | some ad =>
          have hl : (loadCells ad s.length).run P w = .ok ((s.map fun b => ((b.toNat : Nat) : Int)).map (Value.int .u8)).toArray w := by
            have := run_loadCells_list (P := P) w ad (bc s) (fun j v hj => hsrc.cells ad rfl j v hj)
            rw [show (bc s).length = s.length from by simp [bc]] at this
            rw [this]
            simp [bc]
          rw [run_convert_bytes_string w src' dst' e _ s.length c hs he hd, run_bytesToString w _ s.length c _ hl, foldl_push_bytes]
          congr 2
          simp only [bs, ByteArray.empty, ByteArray.emptyWithCapacity]
          have e3 : (s.map fun b => ((b.toNat : Nat) : Int)).map (fun n => UInt8.ofNat n.toNat) = s := by
            rw [List.map_map]
            conv => rhs; rw [← List.map_id s]
            exact List.map_congr_left fun b _ => by simp
          rw [e3]
          simp
          rfl
      refine wpOp_value hE hop (v := .string (bs s)) (w' := w) ?_ (K _ (hE.put hdn (.v _) trivial))
      intro o ho'
      unfold execOp
      rw [ho']
      simp only [(opd_ok hE hx).1, SV.val, Sem.run_bind, hrun, Result.andThen_ok, Sem.run_pure]
    · cases h
  · cases h

/-- append onto a slice that is not nil -/
theorem wpOp_append2 {i d k : Nat} {t e : TypeId} {bytes g c cs : Nat} {As : Option Addr} {s : Bs} {F : Nat → Nat → Prop} {N : Act → World → Prop} (hW : WOk w0 M w tb rs) (hE : EnvOk n tb env a)
    (h : appE tb env ops n i = some (t, t, .slice (some ⟨g, 0, none⟩) 0 c, .slice As s.length cs, d)) (ht : rowTy P t = some (e, 1, bytes)) (hk : rs[k]? = some ⟨some ⟨g, 0, none⟩, c, e, 1, 0, []⟩)
    (hs : Octs w F As cs s) (hb : (0 + s.length) * bytes ≤ 140737488355328)
    (K : ∀ A' c' a' w', A' ≠ none → Fr w tb rs w' tb (rs.set k (brow A' c' e s)) → WOk w0 M w' tb (rs.set k (brow A' c' e s)) →
      EnvOk n tb ((d, .v (.slice A' s.length c')) :: env) a' → N a' w') : wpOp P ops Q i N a w := by
  by_cases h0 : s.length = 0
  · have hs0 : s = [] := List.eq_nil_of_length_eq_zero h0
    subst hs0
    obtain ⟨ht', inf, z, hi, hz, hzs, hs1, rfl, hsz, hbp⟩ := rowTy_ok ht
    obtain ⟨op, ho, hd, hrun⟩ := appE_ok (P := P) (w := w) hE h
    have hown := hW.own k _ hk
    have key : ∀ ty, (Builtin.append_ #[t, t] ty #[.slice (some ⟨g, 0, none⟩) 0 c, .slice As 0 cs]).run P w = .ok (.slice (some ⟨g, 0, none⟩) 0 c) w := by
      intro ty
      cases As with
      | none =>
        have hc := hs.cap rfl
        subst hc
        have hown' : w.ownsRow 0 e inf.size (.slice (some ⟨g, 0, none⟩) 0 c) 0 [] := by rw [hs1]; exact hown
        exact run_append_owned_none (P := P) (w := w) 0 t ty e inf inf.size ht' hi _ 0 [] hown'
      | some ad =>
        rcases hown.2 with ⟨hv, _⟩ | ⟨g', cap, cur, hv, _, hg, hnc, _, hcs, htake⟩
        · cases hv
        · simp only [Rw.v, Value.slice.injEq, Option.some.injEq, Addr.mk.injEq, true_and, and_true] at hv
          obtain ⟨rfl, rfl⟩ := hv
          have hr' := run_append_room (P := P) w t ty e inf ht' hi g 0 c cur hg ad 0 cs [] (by simp) (fun j u hu => by simp at hu) (fun u hu => by cases hu) (by omega) (by simp)
          rw [hr']
          have hid : w.setRow g (cur.toList.take (0 * inf.size) ++ ([] : List Value) ++ cur.toList.drop (0 * inf.size + ([] : List Value).length)).toArray = w := by
            simp only [Nat.zero_mul, List.take_zero, List.nil_append, List.length_nil, Nat.add_zero, List.drop_zero, Array.toArray_toList]
            exact setRow_self w g cur _ _ hg
          simpa using hid
    refine wpOp_value hE ho (v := .slice (some ⟨g, 0, none⟩) 0 c) (w' := w) (fun o hop => hrun o _ _ hop (key o.type)) ?_
    have hset : rs.set k (brow (some ⟨g, 0, none⟩) c e []) = rs := by
      apply List.ext_getElem?
      intro j
      rw [List.getElem?_set]
      split
      · rename_i hj
        subst hj
        rw [hk, if_pos (List.getElem?_eq_some_iff.1 hk).1]
        rfl
      · rfl
    refine K (some ⟨g, 0, none⟩) c _ w (fun h => by cases h) ?_ ?_ (hE.put hd (.v _) trivial)
    · rw [hset]; exact Fr.refl _ _ _
    · rw [hset]; exact hW
  · refine wpOp_append hW hE h ht hk hs.src hs.cap hb fun A' c' a' w' hF hW' hE' => ?_
    have er : (⟨A', c', e, 1, 0 + s.length, [] ++ bc s⟩ : Rw) = brow A' c' e s := by rw [List.nil_append, Nat.zero_add]
    rw [er] at hF hW'
    rw [Nat.zero_add] at hE'
    have hlt : k < rs.length := (List.getElem?_eq_some_iff.1 hk).1
    refine K A' c' a' w' (fun e2 => ?_) hF hW' hE'
    subst e2
    have := hW'.own k (brow none c' e s) (by rw [List.getElem?_set, if_pos rfl, if_pos hlt])
    rcases this.2 with ⟨_, hn⟩ | ⟨_, _, _, hv, _⟩
    · exact h0 hn
    · cases hv
end

theorem uv0 : uv 0 = [0] := by rw [uv]; rfl
theorem fit_o {v : Int} {d : Nat} {l : List Fld} {t : Tree} {i : Nat} {k x1 x2 x3 x4 x5 x6 : Int} {s : List Fld} (h : l[i]? = some (.mk k x1 x2 x3 x4 x5 x6 s)) (hk : k = 8 ∨ k = 9) :
    octOf ((fitT v (d + 1) l t).at_ i) = (if Fld.nul (.mk k x1 x2 x3 x4 x5 x6 s) v (t.at_ i) = true then [] else whole (t.at_ i).S) ∧ ((fitT v (d + 1) l t).at_ i).null = Fld.nul (.mk k x1 x2 x3 x4 x5 x6 s) v (t.at_ i) := by
  rw [fit_at h]
  have e1 : k ≠ 11 := by omega
  have e : fittedW (fitT v d) v (.mk k x1 x2 x3 x4 x5 x6 s) (t.at_ i) = .mk 0 (whole (t.at_ i).S) (Fld.nul (.mk k x1 x2 x3 x4 x5 x6 s) v (t.at_ i)) [] [] := by
    simp [fittedW, fitted0, Fld.kind, e1, hk]
  rw [e]
  exact ⟨rfl, rfl⟩
theorem octs_le {v : Int} {d : Nat} {l : List Fld} {t : Tree} {i : Nat} {k x1 x2 x3 x4 x5 x6 : Int} {s : List Fld} (h : l[i]? = some (.mk k x1 x2 x3 x4 x5 x6 s)) (hk : k = 8 ∨ k = 9) : (octOf ((fitT v (d + 1) l t).at_ i)).length ≤ 1000000 := by
  rw [(fit_o h hk).1]
  split
  · exact Nat.zero_le _
  · exact Nat.le_trans (whole_le _) (by decide)

end Go.Proofs.Ytbjopfcbpobnpaa.ME
