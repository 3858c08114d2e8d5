/- Plain words for bytes: numbers by their octets, the highest one first; numbers in groups of seven bits. Own work. -/
import Derived.Test.YtbjopfcbpobnpaaMeg
namespace Go.Proofs.Ytbjopfcbpobnpaa.ME
open Go
set_option linter.unusedVariables false
set_option linter.unusedSimpArgs false

/-- the n lowest octets of a number, the highest one first -/
def be : Nat → Int → List UInt8
  | 0, _ => []
  | n + 1, x => by8 (x / 256 ^ n) :: be n x
@[simp] theorem be_length (n : Nat) (x : Int) : (be n x).length = n := by
  induction n with
  | zero => rfl
  | succ n ih => simp [be, ih]
theorem by8_congr {x y : Int} (h : x % 256 = y % 256) : by8 x = by8 y := by unfold by8; rw [h]
theorem wrap_u16 (x : Int) : IntKind.u16.wrap x = x % 65536 := by simp [IntKind.wrap, IntKind.signed, IntKind.bits]
theorem wrap_u32 (x : Int) : IntKind.u32.wrap x = x % 4294967296 := by simp [IntKind.wrap, IntKind.signed, IntKind.bits]
theorem wrap_u64 (x : Int) : IntKind.u64.wrap x = x % 18446744073709551616 := by simp [IntKind.wrap, IntKind.signed, IntKind.bits]
theorem be2_wrap (x : Int) : be 2 (IntKind.u16.wrap x) = be 2 x := by
  rw [wrap_u16]
  simp only [be, List.cons.injEq, and_true]
  exact ⟨by8_congr (by simp only [Int.reducePow]; omega), by8_congr (by simp only [Int.reducePow]; omega)⟩
theorem be4_wrap (x : Int) : be 4 (IntKind.u32.wrap x) = be 4 x := by
  rw [wrap_u32]
  simp only [be, List.cons.injEq, and_true]
  refine ⟨by8_congr ?_, by8_congr ?_, by8_congr ?_, by8_congr ?_⟩ <;> simp only [Int.reducePow] <;> omega
theorem be8_wrap (x : Int) : be 8 (IntKind.u64.wrap x) = be 8 x := by
  rw [wrap_u64]
  simp only [be, List.cons.injEq, and_true]
  refine ⟨by8_congr ?_, by8_congr ?_, by8_congr ?_, by8_congr ?_, by8_congr ?_, by8_congr ?_, by8_congr ?_, by8_congr ?_⟩ <;> simp only [Int.reducePow] <;> omega

theorem wrap_i64 {x : Int} (h : -9223372036854775808 ≤ x) (h' : x < 9223372036854775808) : IntKind.i64.wrap x = x := by
  rw [IntKind.wrap_i64]; omega
theorem wrap_succ {k : Nat} (h : k + 1 < 9223372036854775808) : IntKind.i64.wrap (((k : Nat) : Int) + 1) = ((k + 1 : Nat) : Int) := by
  rw [wrap_i64 (by omega) (by omega)]; omega

theorem min_nat (m n : Nat) : (if ((m : Nat) : Int) < ((n : Nat) : Int) then ((m : Nat) : Int) else ((n : Nat) : Int)) = ((min m n : Nat) : Int) := by
  split <;> omega
theorem min_lit (n : Nat) : (if (32767 : Int) < ((n : Nat) : Int) then (32767 : Int) else ((n : Nat) : Int)) = ((min 32767 n : Nat) : Int) := by
  split <;> omega

end Go.Proofs.Ytbjopfcbpobnpaa.ME
