/- Words about numbers in groups of seven bits, and about the reference's functions. Own work. -/
import Derived.Test.YtbjopfcbpobnpaaDb
import Derived.Test.YtbjopfcbpobnpaaMei
namespace Go.Proofs.Ytbjopfcbpobnpaa.ME
open Go
set_option linter.unusedVariables false
set_option linter.unusedSimpArgs false

theorem or128 (x : Nat) (h : x < 128) : x ||| 128 = x + 128 := by
  have : ∀ y : Fin 128, y.val ||| 128 = y.val + 128 := by decide
  exact this ⟨x, h⟩
theorem and127 (x : Nat) : x &&& 127 = x % 128 := Nat.and_two_pow_sub_one_eq_mod x 7
theorem ofInt_nat (k m : Nat) (h : m < 2 ^ k) : (BitVec.ofInt k (m : Int)).toNat = m := by
  rw [BitVec.toNat_ofInt]
  have h0 : ((m : Int) % ((2 ^ k : Nat) : Int)) = (m : Int) := Int.emod_eq_of_lt (by omega) (by exact_mod_cast h)
  rw [h0]; rfl
theorem by8_nat (m : Nat) : by8 (m : Int) = UInt8.ofNat m := by
  unfold by8
  apply UInt8.toNat.inj
  simp only [UInt8.toNat_ofNat']
  omega
theorem by8_ofNat {m n : Nat} (h : m = n) : by8 (m : Int) = UInt8.ofNat n := by rw [h, by8_nat]
theorem wrapu_nat {k : IntKind} {m : Nat} (hk : k.signed = false) (h : m < 2 ^ k.bits) : k.wrap (m : Int) = (m : Int) := by
  simp only [IntKind.wrap, hk, Bool.false_eq_true, if_false, false_and]
  exact Int.emod_eq_of_lt (by omega) (by exact_mod_cast h)
/-- an octet of a long number, but the last one: as the reference has it -/
theorem uv_oct64 (m : Nat) (h : m < 18446744073709551616) :
    by8 (BitVec.ofInt 8 (IntKind.u8.wrap (IntKind.u64.wrap (BitVec.ofInt 64 ((m : Nat) : Int) &&& BitVec.ofInt 64 127).toNat)) ||| BitVec.ofInt 8 128).toNat = UInt8.ofNat (m % 128 + 128) := by
  have h1 : (BitVec.ofInt 64 ((m : Nat) : Int) &&& BitVec.ofInt 64 127).toNat = m % 128 := by
    rw [BitVec.toNat_and, ofInt_nat 64 m h, show (BitVec.ofInt 64 127).toNat = 127 by decide, and127]
  have h2 : m % 128 < 128 := Nat.mod_lt _ (by decide)
  rw [h1, wrapu_nat rfl (by simp only [IntKind.bits]; omega), wrapu_nat rfl (by simp only [IntKind.bits]; omega)]
  apply by8_ofNat
  rw [BitVec.toNat_or, ofInt_nat 8 _ (by omega), show (BitVec.ofInt 8 128).toNat = 128 by decide, or128 _ h2]
/-- as the package has it -/
theorem uv_oct32 (m : Nat) (h : m < 4294967296) :
    by8 (IntKind.u32.wrap (BitVec.ofInt 32 (IntKind.u32.wrap (BitVec.ofInt 32 ((m : Nat) : Int) &&& BitVec.ofInt 32 127).toNat) ||| BitVec.ofInt 32 128).toNat) = UInt8.ofNat (m % 128 + 128) := by
  have h1 : (BitVec.ofInt 32 ((m : Nat) : Int) &&& BitVec.ofInt 32 127).toNat = m % 128 := by
    rw [BitVec.toNat_and, ofInt_nat 32 m h, show (BitVec.ofInt 32 127).toNat = 127 by decide, and127]
  have h2 : m % 128 < 128 := Nat.mod_lt _ (by decide)
  rw [h1]
  have h3 : (BitVec.ofInt 32 ((m % 128 : Nat) : Int) ||| BitVec.ofInt 32 128).toNat = m % 128 + 128 := by
    rw [BitVec.toNat_or, ofInt_nat 32 _ (by omega), show (BitVec.ofInt 32 128).toNat = 128 by decide, or128 _ h2]
  rw [wrapu_nat (k := .u32) rfl (show m % 128 < 2 ^ IntKind.u32.bits by simp only [IntKind.bits]; omega), h3, wrapu_nat rfl (by simp only [IntKind.bits]; omega), by8_nat]
theorem uv_small {n : Nat} (h : n < 128) : uv n = [UInt8.ofNat n] := by rw [uv, if_pos h]
theorem uv_big {n : Nat} (h : 128 ≤ n) : uv n = UInt8.ofNat (n % 128 + 128) :: uv (n / 128) := by rw [uv, if_neg (by omega)]
theorem fdiv128 (m : Nat) : Int.fdiv ((m : Nat) : Int) 128 = ((m / 128 : Nat) : Int) := by
  rw [Int.fdiv_eq_ediv_of_nonneg _ (by decide)]; rfl
theorem uv_len_le (n : Nat) : ∀ k, n < 128 ^ k → 0 < k → (uv n).length ≤ k := by
  intro k
  induction k generalizing n with
  | zero => intro _ h; omega
  | succ k ih =>
    intro h _
    by_cases hn : n < 128
    · rw [uv_small hn]; simp
    · rw [uv_big (by omega), List.length_cons]
      cases k with
      | zero => simp at h; omega
      | succ k =>
        have := ih (n / 128) (by rw [Nat.pow_succ] at h; omega) (by omega)
        omega
theorem uv_len10 (n : Nat) (h : n < 18446744073709551616) : (uv n).length ≤ 10 := uv_len_le n 10 (by omega) (by omega)

/-! sixteen octets -/
theorem uuidB_length (s : Bs) : (uuidB s).length = 16 := by
  simp only [uuidB, List.length_append, List.length_take, List.length_replicate]; omega
theorem uuid_row (A : Option Addr) (c e : Nat) {s : Bs} : (⟨A, c, e, 1, 16, splice (List.replicate 16 (.int .u8 0)) 0 ((bc s).take (min s.length 16))⟩ : Rw) = brow A c e (uuidB s) := by
  have h : splice (List.replicate 16 (.int .u8 0)) 0 ((bc s).take (min s.length 16)) = bc (uuidB s) := by
    unfold splice uuidB
    rw [bc_append]
    have e1 : (bc s).take (min s.length 16) = bc (s.take 16) := by
      simp only [bc, ← List.map_take]
      congr 1
      rw [Nat.min_comm, ← List.take_take, List.take_of_length_le (Nat.le_refl s.length)]
    rw [e1, List.take_zero, List.nil_append]
    congr 1
    rw [Nat.zero_add, bc_length, List.drop_replicate, List.length_take]
    simp only [bc, List.map_replicate]
    congr 1
    omega
  rw [brow, h, uuidB_length]
theorem and1 (x : Int) : IntKind.i64.wrap (BitVec.ofInt 64 x &&& BitVec.ofInt 64 1).toNat = x % 2 := by
  have h1 : (BitVec.ofInt 64 x &&& BitVec.ofInt 64 1).toNat = (x % 2).toNat := by
    rw [BitVec.toNat_and, show (BitVec.ofInt 64 1).toNat = 1 by decide, Nat.and_one_is_mod, BitVec.toNat_ofInt]
    omega
  rw [h1, wrap_i64 (by omega) (by omega)]
  omega

theorem countedB_le (f n : Bool) (m sz : Nat) (hm : m ≤ 1099511627776) (hs : sz ≤ 8) : (countedB f n m sz).length ≤ 16 := by
  unfold countedB
  split
  · simp
  · split
    · have := uv_len10 (m + 1) (by omega); omega
    · split <;> (rw [be_length]; omega)
theorem whole_le (s : Bs) : (whole s).length ≤ 32767 := by simp only [whole, List.length_take]; omega
theorem things_le (l : List Tree) : (things l).length ≤ 32767 := by simp only [things, List.length_take]; omega
theorem cw_room {f n : Bool} {m sz k : Nat} (hm : m ≤ 1099511627776) (hs : sz ≤ 8) (hk : k ≤ 1099511627776) : ((countedB f n m sz).length + k) * 1 ≤ 140737488355328 := by
  have := countedB_le f n m sz hm hs; omega
theorem flatMap_le {α : Type} {l : List α} {g : α → Bs} {k : Nat} {x : α} (h : l[k]? = some x) : (g x).length ≤ (l.flatMap g).length := by
  induction l generalizing k with
  | nil => simp at h
  | cons a r ih =>
    rw [List.flatMap_cons, List.length_append]
    cases k with
    | zero => simp at h; subst h; omega
    | succ k => have := ih (k := k) (by simpa using h); omega
theorem flatMap_take_le {α : Type} (l : List α) (g : α → Bs) (k : Nat) : ((l.take k).flatMap g).length ≤ (l.flatMap g).length := by
  have h : (l.take k ++ l.drop k).flatMap g = l.flatMap g := by rw [List.take_append_drop]
  rw [← h, List.flatMap_append, List.length_append]; omega
theorem flatMap_take_succ {α : Type} {l : List α} {g : α → Bs} {k : Nat} {x : α} (h : l[k]? = some x) : (l.take (k + 1)).flatMap g = (l.take k).flatMap g ++ g x := by
  rw [List.take_add_one, h, List.flatMap_append]; simp

section
variable {d : Nat} {k x1 x2 x3 x4 x5 x6 v : Int} {l : List Fld} {flex : Bool} {t : Tree}
theorem fieldD_11n (h : k = 11) (hn : Fld.nul (.mk k x1 x2 x3 x4 x5 x6 l) v t = true) : fieldD d (.mk k x1 x2 x3 x4 x5 x6 l) v flex t = countedB flex (Fld.nul (.mk k x1 x2 x3 x4 x5 x6 l) v t) 0 4 ++ ([] : List Tree).flatMap (valueB (partB d l v flex) x6 false flex) := by
  simp only [fieldD, fieldB, Fld.kind, Fld.sub, Fld.of, hn]
  rw [if_pos h]; rfl
theorem fieldD_11 (h : k = 11) (hn : Fld.nul (.mk k x1 x2 x3 x4 x5 x6 l) v t = false) : fieldD d (.mk k x1 x2 x3 x4 x5 x6 l) v flex t = countedB flex (Fld.nul (.mk k x1 x2 x3 x4 x5 x6 l) v t) (things t.L).length 4 ++ (things t.L).flatMap (valueB (partB d l v flex) x6 false flex) := by
  simp only [fieldD, fieldB, Fld.kind, Fld.sub, Fld.of, hn]
  rw [if_pos h]; rfl
theorem fieldD_10n (h : k ≠ 11) (h1 : k = 10) (h2 : x3 ≥ 0) (hn : Fld.nul (.mk k x1 x2 x3 x4 x5 x6 l) v t = true) : fieldD d (.mk k x1 x2 x3 x4 x5 x6 l) v flex t = be 1 (-1) := by
  simp only [fieldD, fieldB, Fld.kind, Fld.sub, Fld.of, Fld.null, hn]
  rw [if_neg h, if_pos ⟨h1, h2⟩]; rfl
theorem fieldD_10 (h : k ≠ 11) (h1 : k = 10) (h2 : x3 ≥ 0) (hn : Fld.nul (.mk k x1 x2 x3 x4 x5 x6 l) v t = false) : fieldD d (.mk k x1 x2 x3 x4 x5 x6 l) v flex t = be 1 1 ++ partB d l v flex t := by
  simp only [fieldD, fieldB, Fld.kind, Fld.sub, Fld.of, Fld.null, hn]
  rw [if_neg h, if_pos ⟨h1, h2⟩]; rfl
theorem fieldD_1 (h : k ≠ 11) (h1 : k = 10) (h2 : ¬ x3 ≥ 0) : fieldD d (.mk k x1 x2 x3 x4 x5 x6 l) v flex t = valueB (partB d l v flex) k (Fld.nul (.mk k x1 x2 x3 x4 x5 x6 l) v t) flex t := by
  unfold fieldD fieldB
  rw [if_neg (show ¬ (Fld.mk k x1 x2 x3 x4 x5 x6 l).kind = 11 from h), if_neg (show ¬ ((Fld.mk k x1 x2 x3 x4 x5 x6 l).kind = 10 ∧ (Fld.mk k x1 x2 x3 x4 x5 x6 l).null ≥ 0) from fun h3 => h2 h3.2)]
  rfl
theorem fieldD_0 (h : k ≠ 11) (h1 : k ≠ 10) : fieldD d (.mk k x1 x2 x3 x4 x5 x6 l) v flex t = valueB (partB d l v flex) k (Fld.nul (.mk k x1 x2 x3 x4 x5 x6 l) v t) flex t := by
  unfold fieldD fieldB
  rw [if_neg (show ¬ (Fld.mk k x1 x2 x3 x4 x5 x6 l).kind = 11 from h), if_neg (show ¬ ((Fld.mk k x1 x2 x3 x4 x5 x6 l).kind = 10 ∧ (Fld.mk k x1 x2 x3 x4 x5 x6 l).null ≥ 0) from fun h3 => h1 h3.1)]
  rfl
end

theorem known_step {l : List Fld} {k : Nat} {f : Fld} (h : l[k]? = some f) : knownI (l.take (k + 1)) = (if f.tag ≥ 0 then (if u32 (u32 f.tag + 1) > knownI (l.take k) then u32 (u32 f.tag + 1) else knownI (l.take k)) else knownI (l.take k)) := by
  unfold knownI
  rw [List.take_add_one, h, List.foldl_append]
  rfl
theorem known_pos {l : List Fld} {k : Nat} {a b c d t e g : Int} {s : List Fld} (h : l[k]? = some (.mk a b c d t e g s)) (ht : t ≥ 0) : (if IntKind.u32.wrap (IntKind.u32.wrap t + 1) > knownI (l.take k) then IntKind.u32.wrap (IntKind.u32.wrap t + 1) else knownI (l.take k)) = knownI (l.take (k + 1)) := by
  rw [known_step h]
  have wu : ∀ x, IntKind.u32.wrap x = u32 x := wrap_u32
  rw [if_pos (show (Fld.mk a b c d t e g s).tag ≥ 0 from ht), wu, wu]
  rfl
theorem known_neg {l : List Fld} {k : Nat} {a b c d t e g : Int} {s : List Fld} (h : l[k]? = some (.mk a b c d t e g s)) (ht : ¬ t ≥ 0) : knownI (l.take k) = knownI (l.take (k + 1)) := by
  rw [known_step h]
  rw [if_neg (show ¬ (Fld.mk a b c d t e g s).tag ≥ 0 from ht)]
theorem known_range (l : List Fld) : 0 ≤ knownI l ∧ knownI l < 4294967296 := by
  unfold knownI
  suffices h : ∀ (l : List Fld) (n : Int), 0 ≤ n ∧ n < 4294967296 → 0 ≤ l.foldl (fun n f => if f.tag ≥ 0 then (if u32 (u32 f.tag + 1) > n then u32 (u32 f.tag + 1) else n) else n) n ∧ l.foldl (fun n f => if f.tag ≥ 0 then (if u32 (u32 f.tag + 1) > n then u32 (u32 f.tag + 1) else n) else n) n < 4294967296 from h l 0 (by omega)
  intro l
  induction l with
  | nil => intro n h; exact h
  | cons f r ih =>
    intro n h
    rw [List.foldl_cons]
    refine ih _ ?_
    have : 0 ≤ u32 (u32 f.tag + 1) ∧ u32 (u32 f.tag + 1) < 4294967296 := by unfold u32; omega
    split
    · split
      · exact this
      · exact h
    · exact h

end Go.Proofs.Ytbjopfcbpobnpaa.ME
