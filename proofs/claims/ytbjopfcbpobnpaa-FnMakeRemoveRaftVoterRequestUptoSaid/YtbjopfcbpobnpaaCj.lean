/- Words for the contracts of kbin's appending functions. Own work. -/
import Derived.Test.YtbjopfcbpobnpaaCi
import Derived.Lib.Strings
import Derived.Lib.Slices
import Derived.Lib.Small
import Derived.Lib.Walk
import Derived.Lib.BitFns
namespace Go.Proofs.Ytbjopfcbpobnpaa.ME
open Go
open Go.RowKit
set_option linter.unusedVariables false
set_option linter.unusedSimpArgs false

theorem bc_sixteen {o : Bs} (h : o.length = 16) : (List.range 16).map (fun i => byteCell (o.getD i 0)) = bc o := by
  apply List.ext_getElem?
  intro i
  rw [List.getElem?_map, bc, List.getElem?_map]
  by_cases hi : i < 16
  · rw [List.getElem?_range hi, List.getElem?_eq_getElem (by omega)]
    simp only [Option.map_some, List.getD_eq_getElem?_getD, List.getElem?_eq_getElem (show i < o.length by omega)]
    rfl
  · rw [List.getElem?_eq_none (by simpa using hi), List.getElem?_eq_none (by omega)]; rfl
theorem be2_i16 (x : Int) : be 2 (IntKind.i16.wrap x) = be 2 x := by
  have : IntKind.i16.wrap x = (x + 32768) % 65536 - 32768 := by simp [IntKind.wrap, IntKind.signed, IntKind.bits]; omega
  rw [this]
  simp only [be, List.cons.injEq, and_true]
  exact ⟨by8_congr (by simp only [Int.reducePow]; omega), by8_congr (by simp only [Int.reducePow]; omega)⟩
theorem be4_i32' (x : Int) : be 4 (IntKind.i32.wrap x) = be 4 x := by
  rw [IntKind.wrap_i32]
  simp only [be, List.cons.injEq, and_true]
  refine ⟨by8_congr ?_, by8_congr ?_, by8_congr ?_, by8_congr ?_⟩ <;> simp only [Int.reducePow] <;> omega

section
variable {P : Program} {n : Nat} {w0 : World} {A0 : Option Addr} {e8 d tr : Nat} {tb : Tb} {env e1 env' : Env} {c c1 c2 : Code} {x x1 x2 y : Bs}
theorem chr_calls0 {f : FuncId} {fn : Func} {vs : List Value} {A : Option Addr} {cp : Nat} {s : Bs} {w : World} (hf : P.funcs[f]? = some fn) (hb : fn.body = some c) (hn : fn.ntmps = n) (hl : Nat.ble (vs.length + 1) n = true) (hr : fn.results = #[.tmp tr])
    (ho : w.ownsRow 0 e8 1 (.slice A s.length cp) s.length (bc s)) (hroom : s.length + x.length + 16 ≤ 1099511627776) (h : ChR P n w A e8 0 [] (envFrom 1 vs) tr c x) : Calls P f (.slice A s.length cp :: vs).toArray w (AppPost w e8 A (s ++ x)) := by
  refine enter hf hb hn hl fun a hE => ?_
  refine h _ A cp s a w hE (WOk.startRow w ho) hroom fun tb' A' cp' a' w' hE2 hW2 => ?_
  refine leave hE2 hW2.cells (v := .slice A' (s ++ x).length cp') ?_ (app_end hW2 0 rfl)
  rw [hr]
  simp [resE, resL, resV, lk, SV.val]
theorem chr_pick (keys : List Nat) (h : ∀ A m cp, pick ((d, .v (.slice A m cp)) :: env) (d :: keys) = some ((d, .v (.slice A m cp)) :: e1)) (hc : ChR P n w0 A0 e8 d tb e1 tr c x) : ChR P n w0 A0 e8 d tb env tr c x := fun Q A cp s a w hE hW hr k =>
  hc Q A cp s a w (hE.pick (h _ _ _)) hW hr k

/-! an octet of a string that stands in the text -/
variable {ops : Array Oper} {Q : Exit → Act → World → Prop} {a : Act} {w : World}
def idxSE (env : Env) (ops : Array Oper) (n i : Nat) : Option (TypeId × ByteArray × Int × Nat) :=
  match opAt env ops n i with
  | some (.index t x y, dd) => match opd env x, opd env y with
    | some (.v (.string s)), some (.v (.int _ q)) => some (t, s, q, dd)
    | _, _ => none
  | _ => none
theorem wpOp_indexS {i dd j : Nat} {N : Act → World → Prop} {t : TypeId} {s : ByteArray} {b : UInt8} (hE : EnvOk n tb env a) (h : idxSE env ops n i = some (t, s, ((j : Nat) : Int), dd)) (ht : P.underlying t = some .string) (hb : s[j]? = some b)
    (K : ∀ a', EnvOk n tb ((dd, .v (.int .u8 b.toNat)) :: env) a' → N a' w) : wpOp P ops Q i N a w := by
  unfold idxSE at h
  split at h
  · rename_i t' x y d' ho
    split at h
    · rename_i s' k q hs1 hs2
      simp only [Option.some.injEq, Prod.mk.injEq] at h
      obtain ⟨rfl, rfl, rfl, rfl⟩ := h
      have hd := (opAt_ok hE ho).choose_spec.2.2.2.1
      refine wpOp_value hE ho (v := .int .u8 b.toNat) (w' := w) ?_ (K _ (hE.put hd (.v _) trivial))
      intro o hop
      unfold execOp
      rw [hop]
      simp only [(opd_ok hE hs1).1, (opd_ok hE hs2).1, SV.val]
      unfold Instr.index
      simp only [asIntOf, Sem.run_bind, Sem.run_pure, Result.andThen_ok, run_underlying ht]
      have h0 : (0 : Int) ≤ ((j : Nat) : Int) := by omega
      simp only [if_pos h0, Int.toNat_natCast, hb, Sem.run_pure]
      rfl
    · cases h
  · cases h
end

theorem uv_len_pos (x : Nat) : 0 < (uv x).length := by
  by_cases h : x < 128
  · rw [uv_small h]; simp
  · rw [uv_big (by omega)]; simp
theorem uv_len_of {x : Nat} (hx : x < 4294967296) : (uv x).length = if x < 128 then 1 else if x < 16384 then 2 else if x < 2097152 then 3 else if x < 268435456 then 4 else 5 := by
  by_cases h1 : x < 128
  · rw [if_pos h1, uv_small h1]; rfl
  · rw [if_neg h1, uv_big (by omega), List.length_cons]
    by_cases h2 : x < 16384
    · rw [if_pos h2, uv_small (by omega)]; rfl
    · rw [if_neg h2, uv_big (by omega), List.length_cons]
      by_cases h3 : x < 2097152
      · rw [if_pos h3, uv_small (by omega)]; rfl
      · rw [if_neg h3, uv_big (by omega), List.length_cons]
        by_cases h4 : x < 268435456
        · rw [if_pos h4, uv_small (by omega)]; rfl
        · rw [if_neg h4, uv_big (by omega), List.length_cons, uv_small (by omega)]; rfl
/-- how many groups so many bits have -/
def lenOf (m : Nat) : Nat := if m ≤ 7 then 1 else if m ≤ 14 then 2 else if m ≤ 21 then 3 else if m ≤ 28 then 4 else 5
theorem bitLen_ge {k x : Nat} (h : 2 ^ k ≤ x) (hx : x < 2 ^ 64) : k + 1 ≤ Lib.bitLen x := by
  rw [Lib.bitLen_shift k x h hx]
  have hq : 0 < x / 2 ^ k := Nat.div_pos h (Nat.two_pow_pos k)
  rw [Lib.bitLen_half (x / 2 ^ k) (by omega) (Nat.lt_of_le_of_lt (Nat.div_le_self _ _) hx)]
  omega
theorem uv_lenOf {x : Nat} (hx : x < 4294967296) : (uv x).length = lenOf (Lib.bitLen x) := by
  rw [uv_len_of hx]
  unfold lenOf
  have g := fun k (h : 2 ^ k ≤ x) => bitLen_ge (k := k) h (by omega)
  have l := fun k (hk : k ≤ 64) (h : x < 2 ^ k) => Lib.bitLen_le x k hk h
  by_cases h1 : x < 128
  · rw [if_pos h1, if_pos (l 7 (by omega) (by omega))]
  · have b1 : ¬ Lib.bitLen x ≤ 7 := by have := g 7 (by omega); omega
    rw [if_neg h1, if_neg b1]
    by_cases h2 : x < 16384
    · rw [if_pos h2, if_pos (l 14 (by omega) (by omega))]
    · have b2 : ¬ Lib.bitLen x ≤ 14 := by have := g 14 (by omega); omega
      rw [if_neg h2, if_neg b2]
      by_cases h3 : x < 2097152
      · rw [if_pos h3, if_pos (l 21 (by omega) (by omega))]
      · have b3 : ¬ Lib.bitLen x ≤ 21 := by have := g 21 (by omega); omega
        rw [if_neg h3, if_neg b3]
        by_cases h4 : x < 268435456
        · rw [if_pos h4, if_pos (l 28 (by omega) (by omega))]
        · have b4 : ¬ Lib.bitLen x ≤ 28 := by have := g 28 (by omega); omega
          rw [if_neg h4, if_neg b4]
theorem lenOf_le (m : Nat) : lenOf m ≤ 5 := by unfold lenOf; repeat (split <;> try omega)


/-! the octets of a number in groups -/
theorem uvb (m : Nat) : IntKind.u8.wrap (IntKind.u32.wrap (BitVec.ofInt 32 (IntKind.u32.wrap (BitVec.ofInt 32 ((m : Nat) : Int) &&& BitVec.ofInt 32 127).toNat) ||| BitVec.ofInt 32 128).toNat) = ((by8 (IntKind.u32.wrap (BitVec.ofInt 32 (IntKind.u32.wrap (BitVec.ofInt 32 ((m : Nat) : Int) &&& BitVec.ofInt 32 127).toNat) ||| BitVec.ofInt 32 128).toNat)).toNat : Int) := by8_wrap _
theorem uvc (m : Nat) (h : m < 4294967296) : Value.int .u8 (IntKind.u8.wrap (IntKind.u32.wrap (BitVec.ofInt 32 (IntKind.u32.wrap (BitVec.ofInt 32 ((m : Nat) : Int) &&& BitVec.ofInt 32 127).toNat) ||| BitVec.ofInt 32 128).toNat)) = .int .u8 ((UInt8.ofNat (m % 128 + 128)).toNat : Int) := by rw [uvb, uv_oct32 m h]
theorem uvl (m : Nat) : Value.int .u8 (IntKind.u8.wrap ((m : Nat) : Int)) = .int .u8 ((UInt8.ofNat m).toNat : Int) := by rw [by8_wrap, by8_nat]
theorem fdivP (m k : Nat) : Int.fdiv ((m : Nat) : Int) ((k : Nat) : Int) = ((m / k : Nat) : Int) := by
  rw [Int.fdiv_eq_ediv_of_nonneg _ (by omega)]; rfl
theorem bc_cons (b : UInt8) (r : Bs) : bc (b :: r) = .int .u8 (b.toNat : Int) :: bc r := rfl

theorem uv_cells1 (x : Nat) (hx : x < 4294967296) (h : (uv x).length = 1) : [Value.int .u8 (IntKind.u8.wrap ((x : Nat) : Int))] = bc (uv x) := by
  rw [uv_len_of hx] at h
  by_cases h1 : x < 128
  · rw [uv_small h1, uvl]; rfl
  · rw [if_neg h1] at h; exfalso; repeat' (split at h)
    all_goals omega
abbrev gr (m : Nat) : Int := IntKind.u8.wrap (IntKind.u32.wrap (BitVec.ofInt 32 (IntKind.u32.wrap (BitVec.ofInt 32 ((m : Nat) : Int) &&& BitVec.ofInt 32 127).toNat) ||| BitVec.ofInt 32 128).toNat)
theorem uv_step {x : Nat} (hx : x < 4294967296) (hb : 128 ≤ x) {r : List Value} (h : r = bc (uv (x / 128))) : Value.int .u8 (gr x) :: r = bc (uv x) := by
  rw [uv_big hb, bc_cons, h]
  show Value.int .u8 (IntKind.u8.wrap _) :: _ = _
  rw [uvc x hx]
theorem div2 (x : Nat) : x / 16384 = x / 128 / 128 := by omega
theorem div3 (x : Nat) : x / 2097152 = x / 128 / 128 / 128 := by omega
theorem div4 (x : Nat) : x / 268435456 = x / 128 / 128 / 128 / 128 := by omega
theorem uv_cells2 (x : Nat) (hx : x < 4294967296) (h : (uv x).length = 2) : [Value.int .u8 (gr x), .int .u8 (IntKind.u8.wrap (Int.fdiv ((x : Nat) : Int) 128))] = bc (uv x) := by
  rw [uv_len_of hx] at h
  have hb : 128 ≤ x ∧ x < 16384 := by
    by_cases h1 : x < 128
    · rw [if_pos h1] at h; omega
    · rw [if_neg h1] at h
      by_cases h2 : x < 16384
      · omega
      · rw [if_neg h2] at h; exfalso; repeat' (split at h)
        all_goals omega
  refine uv_step hx hb.1 ?_
  rw [show Int.fdiv ((x : Nat) : Int) 128 = ((x / 128 : Nat) : Int) from fdivP x 128, uvl, uv_small (by omega)]; rfl
theorem uv_cells3 (x : Nat) (hx : x < 4294967296) (h : (uv x).length = 3) : [Value.int .u8 (gr x), .int .u8 (IntKind.u8.wrap (IntKind.u32.wrap (BitVec.ofInt 32 (IntKind.u32.wrap (BitVec.ofInt 32 (Int.fdiv ((x : Nat) : Int) 128) &&& BitVec.ofInt 32 127).toNat) ||| BitVec.ofInt 32 128).toNat)), .int .u8 (IntKind.u8.wrap (Int.fdiv ((x : Nat) : Int) 16384))] = bc (uv x) := by
  rw [uv_len_of hx] at h
  have hb : 16384 ≤ x ∧ x < 2097152 := by
    by_cases h1 : x < 128
    · rw [if_pos h1] at h; omega
    · rw [if_neg h1] at h
      by_cases h2 : x < 16384
      · rw [if_pos h2] at h; omega
      · rw [if_neg h2] at h
        by_cases h3 : x < 2097152
        · omega
        · rw [if_neg h3] at h; exfalso; repeat' (split at h)
          all_goals omega
  rw [show Int.fdiv ((x : Nat) : Int) 128 = ((x / 128 : Nat) : Int) from fdivP x 128, show Int.fdiv ((x : Nat) : Int) 16384 = ((x / 16384 : Nat) : Int) from fdivP x 16384, div2]
  refine uv_step hx (by omega) (uv_step (by omega) (by omega) ?_)
  rw [uvl, uv_small (by omega)]; rfl
theorem uv_cells4 (x : Nat) (hx : x < 4294967296) (h : (uv x).length = 4) : [Value.int .u8 (gr x), .int .u8 (IntKind.u8.wrap (IntKind.u32.wrap (BitVec.ofInt 32 (IntKind.u32.wrap (BitVec.ofInt 32 (Int.fdiv ((x : Nat) : Int) 128) &&& BitVec.ofInt 32 127).toNat) ||| BitVec.ofInt 32 128).toNat)),
    .int .u8 (IntKind.u8.wrap (IntKind.u32.wrap (BitVec.ofInt 32 (IntKind.u32.wrap (BitVec.ofInt 32 (Int.fdiv ((x : Nat) : Int) 16384) &&& BitVec.ofInt 32 127).toNat) ||| BitVec.ofInt 32 128).toNat)), .int .u8 (IntKind.u8.wrap (Int.fdiv ((x : Nat) : Int) 2097152))] = bc (uv x) := by
  rw [uv_len_of hx] at h
  have hb : 2097152 ≤ x ∧ x < 268435456 := by
    by_cases h1 : x < 128
    · rw [if_pos h1] at h; omega
    · rw [if_neg h1] at h
      by_cases h2 : x < 16384
      · rw [if_pos h2] at h; omega
      · rw [if_neg h2] at h
        by_cases h3 : x < 2097152
        · rw [if_pos h3] at h; omega
        · rw [if_neg h3] at h
          by_cases h4 : x < 268435456
          · omega
          · rw [if_neg h4] at h; omega
  rw [show Int.fdiv ((x : Nat) : Int) 128 = ((x / 128 : Nat) : Int) from fdivP x 128, show Int.fdiv ((x : Nat) : Int) 16384 = ((x / 16384 : Nat) : Int) from fdivP x 16384, show Int.fdiv ((x : Nat) : Int) 2097152 = ((x / 2097152 : Nat) : Int) from fdivP x 2097152, div2, div3]
  refine uv_step hx (by omega) (uv_step (by omega) (by omega) (uv_step (by omega) (by omega) ?_))
  rw [uvl, uv_small (by omega)]; rfl
theorem uv_cells5 (x : Nat) (hx : x < 4294967296) (h : (uv x).length = 5) : [Value.int .u8 (gr x), .int .u8 (IntKind.u8.wrap (IntKind.u32.wrap (BitVec.ofInt 32 (IntKind.u32.wrap (BitVec.ofInt 32 (Int.fdiv ((x : Nat) : Int) 128) &&& BitVec.ofInt 32 127).toNat) ||| BitVec.ofInt 32 128).toNat)),
    .int .u8 (IntKind.u8.wrap (IntKind.u32.wrap (BitVec.ofInt 32 (IntKind.u32.wrap (BitVec.ofInt 32 (Int.fdiv ((x : Nat) : Int) 16384) &&& BitVec.ofInt 32 127).toNat) ||| BitVec.ofInt 32 128).toNat)),
    .int .u8 (IntKind.u8.wrap (IntKind.u32.wrap (BitVec.ofInt 32 (IntKind.u32.wrap (BitVec.ofInt 32 (Int.fdiv ((x : Nat) : Int) 2097152) &&& BitVec.ofInt 32 127).toNat) ||| BitVec.ofInt 32 128).toNat)), .int .u8 (IntKind.u8.wrap (Int.fdiv ((x : Nat) : Int) 268435456))] = bc (uv x) := by
  rw [uv_len_of hx] at h
  have hb : 268435456 ≤ x := by
    by_cases h1 : x < 128
    · rw [if_pos h1] at h; omega
    · rw [if_neg h1] at h
      by_cases h2 : x < 16384
      · rw [if_pos h2] at h; omega
      · rw [if_neg h2] at h
        by_cases h3 : x < 2097152
        · rw [if_pos h3] at h; omega
        · rw [if_neg h3] at h
          by_cases h4 : x < 268435456
          · rw [if_pos h4] at h; omega
          · omega
  rw [show Int.fdiv ((x : Nat) : Int) 128 = ((x / 128 : Nat) : Int) from fdivP x 128, show Int.fdiv ((x : Nat) : Int) 16384 = ((x / 16384 : Nat) : Int) from fdivP x 16384, show Int.fdiv ((x : Nat) : Int) 2097152 = ((x / 2097152 : Nat) : Int) from fdivP x 2097152, show Int.fdiv ((x : Nat) : Int) 268435456 = ((x / 268435456 : Nat) : Int) from fdivP x 268435456, div2, div3, div4]
  refine uv_step hx (by omega) (uv_step (by omega) (by omega) (uv_step (by omega) (by omega) (uv_step (by omega) (by omega) ?_)))
  rw [uvl, uv_small (by omega)]; rfl

end Go.Proofs.Ytbjopfcbpobnpaa.ME
