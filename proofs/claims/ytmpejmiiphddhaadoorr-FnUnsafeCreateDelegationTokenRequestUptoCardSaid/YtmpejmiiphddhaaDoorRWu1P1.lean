/- The texts of a claim, put together: the engine, the contracts, the law. Own work. -/
import Derived.Test.YtmpejmiiphddhaaDoorRWu1P0
import Derived.Scope
import Derived.Lib.AppendZeros
import Derived.Deep.LoopGhost
import Derived.Test.YtmpejmiiphddhaaDoorRProg
import Derived.ScopeJumps
namespace Go.Proofs.YtmpejmiiphddhaaDoorR.ME
open Go
open Go.RowKit
set_option linter.unusedVariables false
set_option linter.unusedSimpArgs false
set_option maxRecDepth 20000
theorem qcK {Q:Exit → Act → World → Prop} {a:Act} {w:World} (h:Q .ret a w):Exit.noGoto Q .ret a w:=h
theorem qfg (k:IntKind) (n:Nat) (hn:n = k.bits) (hk:∀ z:Int,0 ≤ z → z < 2 ^ n → k.wrap z = z) (i:Nat) (y x:Int) (h0:0 ≤ y) (h1:y < 2 ^ i) (h2:y < 2 ^ n) (h3:0 ≤ x) (h4:x % 2 ^ i = 0) (h5:x < 2 ^ n) :
  k.wrap (BitVec.ofInt n y ||| BitVec.ofInt n x).toNat = y + x:=by
 subst hn
 exact bits_join_low k k.bits (Nat.le_refl _) hk i y x h0 h1 h2 h3 h4 h5
theorem or16 (i:Nat) (y x:Int) (h0:0 ≤ y) (h1:y < 2 ^ i) (h2:y < 2 ^ 16) (h3:0 ≤ x) (h4:x % 2 ^ i = 0) (h5:x < 2 ^ 16):IntKind.u16.wrap (BitVec.ofInt 16 y ||| BitVec.ofInt 16 x).toNat = y + x :=
 qfg .u16 16 rfl (fun z a b=>by rw [qcw]; omega) i y x h0 h1 h2 h3 h4 h5
theorem or32 (i:Nat) (y x:Int) (h0:0 ≤ y) (h1:y < 2 ^ i) (h2:y < 2 ^ 32) (h3:0 ≤ x) (h4:x % 2 ^ i = 0) (h5:x < 2 ^ 32):IntKind.u32.wrap (BitVec.ofInt 32 y ||| BitVec.ofInt 32 x).toNat = y + x :=
 qfg .u32 32 rfl (fun z a b=>by rw [qaq]; omega) i y x h0 h1 h2 h3 h4 h5
theorem or64 (i:Nat) (y x:Int) (h0:0 ≤ y) (h1:y < 2 ^ i) (h2:y < 2 ^ 64) (h3:0 ≤ x) (h4:x % 2 ^ i = 0) (h5:x < 2 ^ 64):IntKind.u64.wrap (BitVec.ofInt 64 y ||| BitVec.ofInt 64 x).toNat = y + x :=
 qfg .u64 64 rfl (fun z a b=>by rw [qaD]; omega) i y x h0 h1 h2 h3 h4 h5
theorem qbv (n:Nat) (h:n < 256):(IntKind.u8.wrap (BitVec.ofInt 8 ((n:Nat):Int) &&& BitVec.ofInt 8 128).toNat == 0) = decide (n < 128):=by
 have:∀ m:Fin 256,(IntKind.u8.wrap (BitVec.ofInt 8 ((m.val:Nat):Int) &&& BitVec.ofInt 8 128).toNat == 0) = decide (m.val < 128):=by decide +kernel
 exact this ⟨n,h⟩
theorem qb6 (n:Nat) (h:n < 256):IntKind.u8.wrap (BitVec.ofInt 8 ((n:Nat):Int) &&& BitVec.ofInt 8 127).toNat = ((n % 128:Nat):Int):=by
 have:∀ m:Fin 256,IntKind.u8.wrap (BitVec.ofInt 8 ((m.val:Nat):Int) &&& BitVec.ofInt 8 127).toNat = ((m.val % 128:Nat):Int):=by decide +kernel
 exact this ⟨n,h⟩
def oc (s:Bs) (i:Nat):Nat:=(s.getD i 0).toNat
theorem qa6 (s:Bs) (i:Nat):oc s i < 256:=(s.getD i 0).toNat_lt
def be16 (s:Bs):Int:=((oc s 0:Nat):Int) * 256 + oc s 1
def be32 (s:Bs):Int:=((oc s 0:Nat):Int) * 16777216 + oc s 1 * 65536 + oc s 2 * 256 + oc s 3
def be64 (s:Bs):Int:=((oc s 0:Nat):Int) * 72057594037927936 + oc s 1 * 281474976710656 + oc s 2 * 1099511627776 + oc s 3 * 4294967296 + oc s 4 * 16777216 + oc s 5 * 65536 + oc s 6 * 256 + oc s 7
theorem i16w (x:Int):IntKind.i16.wrap x = (x + 32768) % 65536 - 32768:=by simp [IntKind.wrap,IntKind.signed,IntKind.bits]; omega
theorem i32w (x:Int):IntKind.i32.wrap x = (x + 2147483648) % 4294967296 - 2147483648:=by simp [IntKind.wrap,IntKind.signed,IntKind.bits]; omega
theorem i64w (x:Int):IntKind.i64.wrap x = (x + 9223372036854775808) % 18446744073709551616 - 9223372036854775808:=by simp [IntKind.wrap,IntKind.signed,IntKind.bits]; omega
theorem qh6 (b0 b1:Nat) (h0:b0 < 256) (h1:b1 < 256):IntKind.u16.wrap (BitVec.ofInt 16 (IntKind.u16.wrap (((b1:Nat):Int))) ||| BitVec.ofInt 16 (IntKind.u16.wrap (IntKind.u16.wrap (((b0:Nat):Int)) * 256))).toNat = ((b0:Nat):Int) * 256 + ((b1:Nat):Int):=by
 have e1:IntKind.u16.wrap (BitVec.ofInt 16 (IntKind.u16.wrap (((b1:Nat):Int))) ||| BitVec.ofInt 16 (IntKind.u16.wrap (IntKind.u16.wrap (((b0:Nat):Int)) * 256))).toNat = ((b1:Nat):Int) + ((b0:Nat):Int) * 256:=by
  rw [or16 8 _ _ (by first | omega | (simp only [qcw]; omega)) (by first | omega | (simp only [qcw]; omega)) (by first | omega | (simp only [qcw]; omega)) (by first | omega | (simp only [qcw]; omega)) (by first | omega | (simp only [qcw]; omega)) (by first | omega | (simp only [qcw]; omega))]; first | omega | (simp only [qcw]; omega)
 rw [e1]
 omega
theorem qh7 (b0 b1 b2 b3:Nat) (h0:b0 < 256) (h1:b1 < 256) (h2:b2 < 256) (h3:b3 < 256):IntKind.u32.wrap (BitVec.ofInt 32 (IntKind.u32.wrap (BitVec.ofInt 32 (IntKind.u32.wrap (BitVec.ofInt 32 (IntKind.u32.wrap (((b3:Nat):Int))) ||| BitVec.ofInt 32 (IntKind.u32.wrap (IntKind.u32.wrap (((b2:Nat):Int)) * 256))).toNat) ||| BitVec.ofInt 32 (IntKind.u32.wrap (IntKind.u32.wrap (((b1:Nat):Int)) * 65536))).toNat) ||| BitVec.ofInt 32 (IntKind.u32.wrap (IntKind.u32.wrap (((b0:Nat):Int)) * 16777216))).toNat = ((b0:Nat):Int) * 16777216 + ((b1:Nat):Int) * 65536 + ((b2:Nat):Int) * 256 + ((b3:Nat):Int):=by
 have e1:IntKind.u32.wrap (BitVec.ofInt 32 (IntKind.u32.wrap (((b3:Nat):Int))) ||| BitVec.ofInt 32 (IntKind.u32.wrap (IntKind.u32.wrap (((b2:Nat):Int)) * 256))).toNat = ((b3:Nat):Int) + ((b2:Nat):Int) * 256:=by
  rw [or32 8 _ _ (by first | omega | (simp only [qaq]; omega)) (by first | omega | (simp only [qaq]; omega)) (by first | omega | (simp only [qaq]; omega)) (by first | omega | (simp only [qaq]; omega)) (by first | omega | (simp only [qaq]; omega)) (by first | omega | (simp only [qaq]; omega))]; first | omega | (simp only [qaq]; omega)
 have e2:IntKind.u32.wrap (BitVec.ofInt 32 (((b3:Nat):Int) + ((b2:Nat):Int) * 256) ||| BitVec.ofInt 32 (IntKind.u32.wrap (IntKind.u32.wrap (((b1:Nat):Int)) * 65536))).toNat = ((b3:Nat):Int) + ((b2:Nat):Int) * 256 + ((b1:Nat):Int) * 65536:=by
  rw [or32 16 _ _ (by first | omega | (simp only [qaq]; omega)) (by first | omega | (simp only [qaq]; omega)) (by first | omega | (simp only [qaq]; omega)) (by first | omega | (simp only [qaq]; omega)) (by first | omega | (simp only [qaq]; omega)) (by first | omega | (simp only [qaq]; omega))]; first | omega | (simp only [qaq]; omega)
 have e3:IntKind.u32.wrap (BitVec.ofInt 32 (((b3:Nat):Int) + ((b2:Nat):Int) * 256 + ((b1:Nat):Int) * 65536) ||| BitVec.ofInt 32 (IntKind.u32.wrap (IntKind.u32.wrap (((b0:Nat):Int)) * 16777216))).toNat = ((b3:Nat):Int) + ((b2:Nat):Int) * 256 + ((b1:Nat):Int) * 65536 + ((b0:Nat):Int) * 16777216:=by
  rw [or32 24 _ _ (by first | omega | (simp only [qaq]; omega)) (by first | omega | (simp only [qaq]; omega)) (by first | omega | (simp only [qaq]; omega)) (by first | omega | (simp only [qaq]; omega)) (by first | omega | (simp only [qaq]; omega)) (by first | omega | (simp only [qaq]; omega))]; first | omega | (simp only [qaq]; omega)
 rw [e1,e2,e3]
 omega
theorem qh8 (b0 b1 b2 b3 b4 b5 b6 b7:Nat) (h0:b0 < 256) (h1:b1 < 256) (h2:b2 < 256) (h3:b3 < 256) (h4:b4 < 256) (h5:b5 < 256) (h6:b6 < 256) (h7:b7 < 256):IntKind.u64.wrap (BitVec.ofInt 64 (IntKind.u64.wrap (BitVec.ofInt 64 (IntKind.u64.wrap (BitVec.ofInt 64 (IntKind.u64.wrap (BitVec.ofInt 64 (IntKind.u64.wrap (BitVec.ofInt 64 (IntKind.u64.wrap (BitVec.ofInt 64 (IntKind.u64.wrap (BitVec.ofInt 64 (IntKind.u64.wrap (((b7:Nat):Int))) ||| BitVec.ofInt 64 (IntKind.u64.wrap (IntKind.u64.wrap (((b6:Nat):Int)) * 256))).toNat) ||| BitVec.ofInt 64 (IntKind.u64.wrap (IntKind.u64.wrap (((b5:Nat):Int)) * 65536))).toNat) ||| BitVec.ofInt 64 (IntKind.u64.wrap (IntKind.u64.wrap (((b4:Nat):Int)) * 16777216))).toNat) ||| BitVec.ofInt 64 (IntKind.u64.wrap (IntKind.u64.wrap (((b3:Nat):Int)) * 4294967296))).toNat) ||| BitVec.ofInt 64 (IntKind.u64.wrap (IntKind.u64.wrap (((b2:Nat):Int)) * 1099511627776))).toNat) ||| BitVec.ofInt 64 (IntKind.u64.wrap (IntKind.u64.wrap (((b1:Nat):Int)) * 281474976710656))).toNat) ||| BitVec.ofInt 64 (IntKind.u64.wrap (IntKind.u64.wrap (((b0:Nat):Int)) * 72057594037927936))).toNat = ((b0:Nat):Int) * 72057594037927936 + ((b1:Nat):Int) * 281474976710656 + ((b2:Nat):Int) * 1099511627776 + ((b3:Nat):Int) * 4294967296 + ((b4:Nat):Int) * 16777216 + ((b5:Nat):Int) * 65536 + ((b6:Nat):Int) * 256 + ((b7:Nat):Int):=by
 have e1:IntKind.u64.wrap (BitVec.ofInt 64 (IntKind.u64.wrap (((b7:Nat):Int))) ||| BitVec.ofInt 64 (IntKind.u64.wrap (IntKind.u64.wrap (((b6:Nat):Int)) * 256))).toNat = ((b7:Nat):Int) + ((b6:Nat):Int) * 256:=by
  rw [or64 8 _ _ (by first | omega | (simp only [qaD]; omega)) (by first | omega | (simp only [qaD]; omega)) (by first | omega | (simp only [qaD]; omega)) (by first | omega | (simp only [qaD]; omega)) (by first | omega | (simp only [qaD]; omega)) (by first | omega | (simp only [qaD]; omega))]; first | omega | (simp only [qaD]; omega)
 have e2:IntKind.u64.wrap (BitVec.ofInt 64 (((b7:Nat):Int) + ((b6:Nat):Int) * 256) ||| BitVec.ofInt 64 (IntKind.u64.wrap (IntKind.u64.wrap (((b5:Nat):Int)) * 65536))).toNat = ((b7:Nat):Int) + ((b6:Nat):Int) * 256 + ((b5:Nat):Int) * 65536:=by
  rw [or64 16 _ _ (by first | omega | (simp only [qaD]; omega)) (by first | omega | (simp only [qaD]; omega)) (by first | omega | (simp only [qaD]; omega)) (by first | omega | (simp only [qaD]; omega)) (by first | omega | (simp only [qaD]; omega)) (by first | omega | (simp only [qaD]; omega))]; first | omega | (simp only [qaD]; omega)
 have e3:IntKind.u64.wrap (BitVec.ofInt 64 (((b7:Nat):Int) + ((b6:Nat):Int) * 256 + ((b5:Nat):Int) * 65536) ||| BitVec.ofInt 64 (IntKind.u64.wrap (IntKind.u64.wrap (((b4:Nat):Int)) * 16777216))).toNat = ((b7:Nat):Int) + ((b6:Nat):Int) * 256 + ((b5:Nat):Int) * 65536 + ((b4:Nat):Int) * 16777216:=by
  rw [or64 24 _ _ (by first | omega | (simp only [qaD]; omega)) (by first | omega | (simp only [qaD]; omega)) (by first | omega | (simp only [qaD]; omega)) (by first | omega | (simp only [qaD]; omega)) (by first | omega | (simp only [qaD]; omega)) (by first | omega | (simp only [qaD]; omega))]; first | omega | (simp only [qaD]; omega)
 have e4:IntKind.u64.wrap (BitVec.ofInt 64 (((b7:Nat):Int) + ((b6:Nat):Int) * 256 + ((b5:Nat):Int) * 65536 + ((b4:Nat):Int) * 16777216) ||| BitVec.ofInt 64 (IntKind.u64.wrap (IntKind.u64.wrap (((b3:Nat):Int)) * 4294967296))).toNat = ((b7:Nat):Int) + ((b6:Nat):Int) * 256 + ((b5:Nat):Int) * 65536 + ((b4:Nat):Int) * 16777216 + ((b3:Nat):Int) * 4294967296:=by
  rw [or64 32 _ _ (by first | omega | (simp only [qaD]; omega)) (by first | omega | (simp only [qaD]; omega)) (by first | omega | (simp only [qaD]; omega)) (by first | omega | (simp only [qaD]; omega)) (by first | omega | (simp only [qaD]; omega)) (by first | omega | (simp only [qaD]; omega))]; first | omega | (simp only [qaD]; omega)
 have e5:IntKind.u64.wrap (BitVec.ofInt 64 (((b7:Nat):Int) + ((b6:Nat):Int) * 256 + ((b5:Nat):Int) * 65536 + ((b4:Nat):Int) * 16777216 + ((b3:Nat):Int) * 4294967296) ||| BitVec.ofInt 64 (IntKind.u64.wrap (IntKind.u64.wrap (((b2:Nat):Int)) * 1099511627776))).toNat = ((b7:Nat):Int) + ((b6:Nat):Int) * 256 + ((b5:Nat):Int) * 65536 + ((b4:Nat):Int) * 16777216 + ((b3:Nat):Int) * 4294967296 + ((b2:Nat):Int) * 1099511627776:=by
  rw [or64 40 _ _ (by first | omega | (simp only [qaD]; omega)) (by first | omega | (simp only [qaD]; omega)) (by first | omega | (simp only [qaD]; omega)) (by first | omega | (simp only [qaD]; omega)) (by first | omega | (simp only [qaD]; omega)) (by first | omega | (simp only [qaD]; omega))]; first | omega | (simp only [qaD]; omega)
 have e6:IntKind.u64.wrap (BitVec.ofInt 64 (((b7:Nat):Int) + ((b6:Nat):Int) * 256 + ((b5:Nat):Int) * 65536 + ((b4:Nat):Int) * 16777216 + ((b3:Nat):Int) * 4294967296 + ((b2:Nat):Int) * 1099511627776) ||| BitVec.ofInt 64 (IntKind.u64.wrap (IntKind.u64.wrap (((b1:Nat):Int)) * 281474976710656))).toNat = ((b7:Nat):Int) + ((b6:Nat):Int) * 256 + ((b5:Nat):Int) * 65536 + ((b4:Nat):Int) * 16777216 + ((b3:Nat):Int) * 4294967296 + ((b2:Nat):Int) * 1099511627776 + ((b1:Nat):Int) * 281474976710656:=by
  rw [or64 48 _ _ (by first | omega | (simp only [qaD]; omega)) (by first | omega | (simp only [qaD]; omega)) (by first | omega | (simp only [qaD]; omega)) (by first | omega | (simp only [qaD]; omega)) (by first | omega | (simp only [qaD]; omega)) (by first | omega | (simp only [qaD]; omega))]; first | omega | (simp only [qaD]; omega)
 have e7:IntKind.u64.wrap (BitVec.ofInt 64 (((b7:Nat):Int) + ((b6:Nat):Int) * 256 + ((b5:Nat):Int) * 65536 + ((b4:Nat):Int) * 16777216 + ((b3:Nat):Int) * 4294967296 + ((b2:Nat):Int) * 1099511627776 + ((b1:Nat):Int) * 281474976710656) ||| BitVec.ofInt 64 (IntKind.u64.wrap (IntKind.u64.wrap (((b0:Nat):Int)) * 72057594037927936))).toNat = ((b7:Nat):Int) + ((b6:Nat):Int) * 256 + ((b5:Nat):Int) * 65536 + ((b4:Nat):Int) * 16777216 + ((b3:Nat):Int) * 4294967296 + ((b2:Nat):Int) * 1099511627776 + ((b1:Nat):Int) * 281474976710656 + ((b0:Nat):Int) * 72057594037927936:=by
  rw [or64 56 _ _ (by first | omega | (simp only [qaD]; omega)) (by first | omega | (simp only [qaD]; omega)) (by first | omega | (simp only [qaD]; omega)) (by first | omega | (simp only [qaD]; omega)) (by first | omega | (simp only [qaD]; omega)) (by first | omega | (simp only [qaD]; omega))]; first | omega | (simp only [qaD]; omega)
 rw [e1,e2,e3,e4,e5,e6,e7]
 omega
theorem uv_1 (b0:Nat) (h0:b0 < 256):IntKind.u32.wrap (IntKind.u8.wrap (BitVec.ofInt 8 ((b0:Nat):Int) &&& BitVec.ofInt 8 127).toNat) = ((b0 % 128:Nat):Int):=by
 rw [qb6 b0 h0,qaq]; omega
theorem uv_2 (b0 b1:Nat) (h0:b0 < 256) (h1:b1 < 256):IntKind.u32.wrap (BitVec.ofInt 32 (IntKind.u32.wrap (IntKind.u8.wrap (BitVec.ofInt 8 ((b0:Nat):Int) &&& BitVec.ofInt 8 127).toNat)) ||| BitVec.ofInt 32 (IntKind.u32.wrap (IntKind.u32.wrap (IntKind.u8.wrap (BitVec.ofInt 8 ((b1:Nat):Int) &&& BitVec.ofInt 8 127).toNat) * 128))).toNat = ((b0 % 128:Nat):Int) + ((b1 % 128:Nat):Int) * 128:=by
 have e1:IntKind.u32.wrap (BitVec.ofInt 32 (IntKind.u32.wrap (IntKind.u8.wrap (BitVec.ofInt 8 ((b0:Nat):Int) &&& BitVec.ofInt 8 127).toNat)) ||| BitVec.ofInt 32 (IntKind.u32.wrap (IntKind.u32.wrap (IntKind.u8.wrap (BitVec.ofInt 8 ((b1:Nat):Int) &&& BitVec.ofInt 8 127).toNat) * 128))).toNat = ((b0 % 128:Nat):Int) + ((b1 % 128:Nat):Int) * 128:=by
  rw [qb6 b1 h1,qb6 b0 h0]; rw [or32 7 _ _ (by first | omega | (simp only [qaq]; omega)) (by first | omega | (simp only [qaq]; omega)) (by first | omega | (simp only [qaq]; omega)) (by first | omega | (simp only [qaq]; omega)) (by first | omega | (simp only [qaq]; omega)) (by first | omega | (simp only [qaq]; omega))]; first | omega | (simp only [qaq]; omega)
 rw [e1]
theorem uv_3 (b0 b1 b2:Nat) (h0:b0 < 256) (h1:b1 < 256) (h2:b2 < 256):IntKind.u32.wrap (BitVec.ofInt 32 (IntKind.u32.wrap (BitVec.ofInt 32 (IntKind.u32.wrap (IntKind.u8.wrap (BitVec.ofInt 8 ((b0:Nat):Int) &&& BitVec.ofInt 8 127).toNat)) ||| BitVec.ofInt 32 (IntKind.u32.wrap (IntKind.u32.wrap (IntKind.u8.wrap (BitVec.ofInt 8 ((b1:Nat):Int) &&& BitVec.ofInt 8 127).toNat) * 128))).toNat) ||| BitVec.ofInt 32 (IntKind.u32.wrap (IntKind.u32.wrap (IntKind.u8.wrap (BitVec.ofInt 8 ((b2:Nat):Int) &&& BitVec.ofInt 8 127).toNat) * 16384))).toNat = ((b0 % 128:Nat):Int) + ((b1 % 128:Nat):Int) * 128 + ((b2 % 128:Nat):Int) * 16384:=by
 have e1:IntKind.u32.wrap (BitVec.ofInt 32 (IntKind.u32.wrap (IntKind.u8.wrap (BitVec.ofInt 8 ((b0:Nat):Int) &&& BitVec.ofInt 8 127).toNat)) ||| BitVec.ofInt 32 (IntKind.u32.wrap (IntKind.u32.wrap (IntKind.u8.wrap (BitVec.ofInt 8 ((b1:Nat):Int) &&& BitVec.ofInt 8 127).toNat) * 128))).toNat = ((b0 % 128:Nat):Int) + ((b1 % 128:Nat):Int) * 128:=by
  rw [qb6 b1 h1,qb6 b0 h0]; rw [or32 7 _ _ (by first | omega | (simp only [qaq]; omega)) (by first | omega | (simp only [qaq]; omega)) (by first | omega | (simp only [qaq]; omega)) (by first | omega | (simp only [qaq]; omega)) (by first | omega | (simp only [qaq]; omega)) (by first | omega | (simp only [qaq]; omega))]; first | omega | (simp only [qaq]; omega)
 have e2:IntKind.u32.wrap (BitVec.ofInt 32 (((b0 % 128:Nat):Int) + ((b1 % 128:Nat):Int) * 128) ||| BitVec.ofInt 32 (IntKind.u32.wrap (IntKind.u32.wrap (IntKind.u8.wrap (BitVec.ofInt 8 ((b2:Nat):Int) &&& BitVec.ofInt 8 127).toNat) * 16384))).toNat = ((b0 % 128:Nat):Int) + ((b1 % 128:Nat):Int) * 128 + ((b2 % 128:Nat):Int) * 16384:=by
  rw [qb6 b2 h2]; rw [or32 14 _ _ (by first | omega | (simp only [qaq]; omega)) (by first | omega | (simp only [qaq]; omega)) (by first | omega | (simp only [qaq]; omega)) (by first | omega | (simp only [qaq]; omega)) (by first | omega | (simp only [qaq]; omega)) (by first | omega | (simp only [qaq]; omega))]; first | omega | (simp only [qaq]; omega)
 rw [e1,e2]
theorem uv_4 (b0 b1 b2 b3:Nat) (h0:b0 < 256) (h1:b1 < 256) (h2:b2 < 256) (h3:b3 < 256):IntKind.u32.wrap (BitVec.ofInt 32 (IntKind.u32.wrap (BitVec.ofInt 32 (IntKind.u32.wrap (BitVec.ofInt 32 (IntKind.u32.wrap (IntKind.u8.wrap (BitVec.ofInt 8 ((b0:Nat):Int) &&& BitVec.ofInt 8 127).toNat)) ||| BitVec.ofInt 32 (IntKind.u32.wrap (IntKind.u32.wrap (IntKind.u8.wrap (BitVec.ofInt 8 ((b1:Nat):Int) &&& BitVec.ofInt 8 127).toNat) * 128))).toNat) ||| BitVec.ofInt 32 (IntKind.u32.wrap (IntKind.u32.wrap (IntKind.u8.wrap (BitVec.ofInt 8 ((b2:Nat):Int) &&& BitVec.ofInt 8 127).toNat) * 16384))).toNat) ||| BitVec.ofInt 32 (IntKind.u32.wrap (IntKind.u32.wrap (IntKind.u8.wrap (BitVec.ofInt 8 ((b3:Nat):Int) &&& BitVec.ofInt 8 127).toNat) * 2097152))).toNat = ((b0 % 128:Nat):Int) + ((b1 % 128:Nat):Int) * 128 + ((b2 % 128:Nat):Int) * 16384 + ((b3 % 128:Nat):Int) * 2097152:=by
 have e1:IntKind.u32.wrap (BitVec.ofInt 32 (IntKind.u32.wrap (IntKind.u8.wrap (BitVec.ofInt 8 ((b0:Nat):Int) &&& BitVec.ofInt 8 127).toNat)) ||| BitVec.ofInt 32 (IntKind.u32.wrap (IntKind.u32.wrap (IntKind.u8.wrap (BitVec.ofInt 8 ((b1:Nat):Int) &&& BitVec.ofInt 8 127).toNat) * 128))).toNat = ((b0 % 128:Nat):Int) + ((b1 % 128:Nat):Int) * 128:=by
  rw [qb6 b1 h1,qb6 b0 h0]; rw [or32 7 _ _ (by first | omega | (simp only [qaq]; omega)) (by first | omega | (simp only [qaq]; omega)) (by first | omega | (simp only [qaq]; omega)) (by first | omega | (simp only [qaq]; omega)) (by first | omega | (simp only [qaq]; omega)) (by first | omega | (simp only [qaq]; omega))]; first | omega | (simp only [qaq]; omega)
 have e2:IntKind.u32.wrap (BitVec.ofInt 32 (((b0 % 128:Nat):Int) + ((b1 % 128:Nat):Int) * 128) ||| BitVec.ofInt 32 (IntKind.u32.wrap (IntKind.u32.wrap (IntKind.u8.wrap (BitVec.ofInt 8 ((b2:Nat):Int) &&& BitVec.ofInt 8 127).toNat) * 16384))).toNat = ((b0 % 128:Nat):Int) + ((b1 % 128:Nat):Int) * 128 + ((b2 % 128:Nat):Int) * 16384:=by
  rw [qb6 b2 h2]; rw [or32 14 _ _ (by first | omega | (simp only [qaq]; omega)) (by first | omega | (simp only [qaq]; omega)) (by first | omega | (simp only [qaq]; omega)) (by first | omega | (simp only [qaq]; omega)) (by first | omega | (simp only [qaq]; omega)) (by first | omega | (simp only [qaq]; omega))]; first | omega | (simp only [qaq]; omega)
 have e3:IntKind.u32.wrap (BitVec.ofInt 32 (((b0 % 128:Nat):Int) + ((b1 % 128:Nat):Int) * 128 + ((b2 % 128:Nat):Int) * 16384) ||| BitVec.ofInt 32 (IntKind.u32.wrap (IntKind.u32.wrap (IntKind.u8.wrap (BitVec.ofInt 8 ((b3:Nat):Int) &&& BitVec.ofInt 8 127).toNat) * 2097152))).toNat = ((b0 % 128:Nat):Int) + ((b1 % 128:Nat):Int) * 128 + ((b2 % 128:Nat):Int) * 16384 + ((b3 % 128:Nat):Int) * 2097152:=by
  rw [qb6 b3 h3]; rw [or32 21 _ _ (by first | omega | (simp only [qaq]; omega)) (by first | omega | (simp only [qaq]; omega)) (by first | omega | (simp only [qaq]; omega)) (by first | omega | (simp only [qaq]; omega)) (by first | omega | (simp only [qaq]; omega)) (by first | omega | (simp only [qaq]; omega))]; first | omega | (simp only [qaq]; omega)
 rw [e1,e2,e3]
theorem uv_5 (b0 b1 b2 b3 b4:Nat) (h0:b0 < 256) (h1:b1 < 256) (h2:b2 < 256) (h3:b3 < 256) (h4:b4 < 16):IntKind.u32.wrap (BitVec.ofInt 32 (IntKind.u32.wrap (BitVec.ofInt 32 (IntKind.u32.wrap (BitVec.ofInt 32 (IntKind.u32.wrap (BitVec.ofInt 32 (IntKind.u32.wrap (IntKind.u8.wrap (BitVec.ofInt 8 ((b0:Nat):Int) &&& BitVec.ofInt 8 127).toNat)) ||| BitVec.ofInt 32 (IntKind.u32.wrap (IntKind.u32.wrap (IntKind.u8.wrap (BitVec.ofInt 8 ((b1:Nat):Int) &&& BitVec.ofInt 8 127).toNat) * 128))).toNat) ||| BitVec.ofInt 32 (IntKind.u32.wrap (IntKind.u32.wrap (IntKind.u8.wrap (BitVec.ofInt 8 ((b2:Nat):Int) &&& BitVec.ofInt 8 127).toNat) * 16384))).toNat) ||| BitVec.ofInt 32 (IntKind.u32.wrap (IntKind.u32.wrap (IntKind.u8.wrap (BitVec.ofInt 8 ((b3:Nat):Int) &&& BitVec.ofInt 8 127).toNat) * 2097152))).toNat) ||| BitVec.ofInt 32 (IntKind.u32.wrap (IntKind.u32.wrap (((b4:Nat):Int)) * 268435456))).toNat = ((b0 % 128:Nat):Int) + ((b1 % 128:Nat):Int) * 128 + ((b2 % 128:Nat):Int) * 16384 + ((b3 % 128:Nat):Int) * 2097152 + ((b4:Nat):Int) * 268435456:=by
 have e1:IntKind.u32.wrap (BitVec.ofInt 32 (IntKind.u32.wrap (IntKind.u8.wrap (BitVec.ofInt 8 ((b0:Nat):Int) &&& BitVec.ofInt 8 127).toNat)) ||| BitVec.ofInt 32 (IntKind.u32.wrap (IntKind.u32.wrap (IntKind.u8.wrap (BitVec.ofInt 8 ((b1:Nat):Int) &&& BitVec.ofInt 8 127).toNat) * 128))).toNat = ((b0 % 128:Nat):Int) + ((b1 % 128:Nat):Int) * 128:=by
  rw [qb6 b1 h1,qb6 b0 h0]; rw [or32 7 _ _ (by first | omega | (simp only [qaq]; omega)) (by first | omega | (simp only [qaq]; omega)) (by first | omega | (simp only [qaq]; omega)) (by first | omega | (simp only [qaq]; omega)) (by first | omega | (simp only [qaq]; omega)) (by first | omega | (simp only [qaq]; omega))]; first | omega | (simp only [qaq]; omega)
 have e2:IntKind.u32.wrap (BitVec.ofInt 32 (((b0 % 128:Nat):Int) + ((b1 % 128:Nat):Int) * 128) ||| BitVec.ofInt 32 (IntKind.u32.wrap (IntKind.u32.wrap (IntKind.u8.wrap (BitVec.ofInt 8 ((b2:Nat):Int) &&& BitVec.ofInt 8 127).toNat) * 16384))).toNat = ((b0 % 128:Nat):Int) + ((b1 % 128:Nat):Int) * 128 + ((b2 % 128:Nat):Int) * 16384:=by
  rw [qb6 b2 h2]; rw [or32 14 _ _ (by first | omega | (simp only [qaq]; omega)) (by first | omega | (simp only [qaq]; omega)) (by first | omega | (simp only [qaq]; omega)) (by first | omega | (simp only [qaq]; omega)) (by first | omega | (simp only [qaq]; omega)) (by first | omega | (simp only [qaq]; omega))]; first | omega | (simp only [qaq]; omega)
 have e3:IntKind.u32.wrap (BitVec.ofInt 32 (((b0 % 128:Nat):Int) + ((b1 % 128:Nat):Int) * 128 + ((b2 % 128:Nat):Int) * 16384) ||| BitVec.ofInt 32 (IntKind.u32.wrap (IntKind.u32.wrap (IntKind.u8.wrap (BitVec.ofInt 8 ((b3:Nat):Int) &&& BitVec.ofInt 8 127).toNat) * 2097152))).toNat = ((b0 % 128:Nat):Int) + ((b1 % 128:Nat):Int) * 128 + ((b2 % 128:Nat):Int) * 16384 + ((b3 % 128:Nat):Int) * 2097152:=by
  rw [qb6 b3 h3]; rw [or32 21 _ _ (by first | omega | (simp only [qaq]; omega)) (by first | omega | (simp only [qaq]; omega)) (by first | omega | (simp only [qaq]; omega)) (by first | omega | (simp only [qaq]; omega)) (by first | omega | (simp only [qaq]; omega)) (by first | omega | (simp only [qaq]; omega))]; first | omega | (simp only [qaq]; omega)
 have e4:IntKind.u32.wrap (BitVec.ofInt 32 (((b0 % 128:Nat):Int) + ((b1 % 128:Nat):Int) * 128 + ((b2 % 128:Nat):Int) * 16384 + ((b3 % 128:Nat):Int) * 2097152) ||| BitVec.ofInt 32 (IntKind.u32.wrap (IntKind.u32.wrap (((b4:Nat):Int)) * 268435456))).toNat = ((b0 % 128:Nat):Int) + ((b1 % 128:Nat):Int) * 128 + ((b2 % 128:Nat):Int) * 16384 + ((b3 % 128:Nat):Int) * 2097152 + ((b4:Nat):Int) * 268435456:=by
  rw [or32 28 _ _ (by first | omega | (simp only [qaq]; omega)) (by first | omega | (simp only [qaq]; omega)) (by first | omega | (simp only [qaq]; omega)) (by first | omega | (simp only [qaq]; omega)) (by first | omega | (simp only [qaq]; omega)) (by first | omega | (simp only [qaq]; omega))]; first | omega | (simp only [qaq]; omega)
 rw [e1,e2,e3,e4]
theorem qf0 {G:Nat → Nat → Prop} {w0 w:World} {tb:Tb} {rs:List Rw} {p n:Nat} {cs:List Value} (i:Nat) (hi:tb[i]? = some ⟨p,0,cs,true⟩) (hn:cs.length = n:=by rfl):∀ b o,Imm G w0 w tb rs b o → ¬ (b = p ∧ o < n):=by
 subst hn
 exact qgr i hi
theorem qbw {G:Nat → Nat → Prop} {w0 w:World} {tb:Tb} {rs:List Rw} {p:Nat} {x y:Value} (i:Nat) (hi:tb[i]? = some ⟨p,0,[x,y],true⟩):∀ b o,Imm G w0 w tb rs b o → ¬ RdM p b o:=qgr i hi
theorem WOk.immM {G:Nat → Nat → Prop} {w0 w:World} {M:Nat → Nat → Prop} {tb:Tb} {rs:List Rw} (h:WOk w0 M w tb rs) (hd:∀ b o,G b o → ¬ M b o):∀ b o,G b o → b < w0.heap.size → Imm G w0 w tb rs b o:=by
 refine fun b o hg hb=>⟨.inl hg,Nat.lt_of_lt_of_le hb h.step.size,fun ha=>hd b o hg ?_⟩
 rcases ha with ⟨i,ob,hi,hr,rfl,h1,h2⟩ | ⟨i,r,hi,hr⟩
 ·have:=(h.rw_ i ob hi hr (o - ob.off) (by omega)).1
  rw [show ob.off + (o - ob.off) = o by omega] at this
  rcases this with h3 | h3
  ·omega
  exact h3
 rcases h.ownM i r hi b hr with h3 | h3
 ·omega
 exact h3 o
section
variable {w0 w:World} {M:Nat → Nat → Prop} {tb:Tb} {rs:List Rw}
theorem WOk.layRowM {g c e size n k:Nat} {xs:List Value} (hW:WOk w0 M w tb rs) (hk:rs[k]? = some ⟨some ⟨g,0,none⟩,c,e,size,n,xs⟩) (hl:k + 1 = rs.length) (hm:w0.heap.size ≤ g) (rs':List Rw) (tb':Tb) (hr:rs.take k = rs':=by rfl) (ht:tb ++ [⟨g,0,xs,true⟩] = tb':=by rfl):WOk w0 M w tb' rs' ∧ Fr w tb rs w tb' rs':=by
 subst hr ht
 have ho:=hW.own k _ hk
 have hlive:=qbF ho (g:=g) rfl
 have hfz:∀ j,w.frozen? ⟨g,j,none⟩ = false:=fun j=>by
  rcases ho.2 with ⟨hv,_⟩ | ⟨g',cap,cur,hv,_,hg,_⟩
  ·cases hv
  simp only [Rw.v,Value.slice.injEq,Option.some.injEq,Addr.mk.injEq,and_true] at hv
  obtain ⟨rfl,_⟩:=hv
  unfold World.frozen?
  rw [hg]
  simp
 have hlt:∀ (j:Nat) (r:Rw),(rs.take k)[j]? = some r → j ≠ k ∧ rs[j]? = some r:=fun j r hj=>by
  rw [List.getElem?_take] at hj
  split at hj
  ·exact ⟨by omega,hj⟩
  cases hj
 refine ⟨(hW.rows k).add ⟨g,0,xs,true⟩ hlive (fun j v hj=>?_) (fun _ j _=>⟨.inl hm,by dsimp only; rw [Nat.zero_add]; exact hfz j⟩) (fun i q hi _=>.inl (hW.rtb k _ hk g rfl i q hi)) (fun i r hi he=>?_),⟨fun x y _ hn ha=>hn ?_,Step.refl _ _⟩⟩
 ·have:=ho.cells (g:=g) rfl j v hj
  rw [qbE] at this
  dsimp only
  exact this
 ·obtain ⟨h1,h2⟩:=hlt i r hi
  exact hW.rr k i _ r (fun e=>h1 e.symm) hk h2 g rfl he
 rcases ha with ⟨j,q,hj,h1,h2,h3,h4⟩ | ⟨j,r,hj,h1⟩
 ·by_cases hjt:j < tb.length
  ·rw [List.getElem?_append_left hjt] at hj
   exact .inl ⟨j,q,hj,h1,h2,h3,h4⟩
  rw [List.getElem?_append_right (Nat.not_lt.1 hjt)] at hj
  have hq:q = ⟨g,0,xs,true⟩:=by
   rcases Nat.eq_zero_or_pos (j - tb.length) with h | h
   ·rw [h] at hj; exact (Option.some.inj hj).symm
   rw [List.getElem?_eq_none (by simp only [List.length_cons,List.length_nil]; omega)] at hj; cases hj
  subst hq
  exact .inr ⟨k,_,hk,by rw [← h2]; rfl⟩
 exact .inr ⟨j,r,(hlt j r hj).2,h1⟩
def qb7 (z:Value) (j:Nat):List Value:=(Builtin.zeroCells z.cells j).toList
variable {P:Program} {ops:Array Oper} {Q:Exit → Act → World → Prop} {n:Nat} {env:Env} {a:Act}
theorem qdk {w:World} (size len cap:Nat) (A:Option Addr):(Builtin.firstCells size 0 (.slice A len cap)).run P w = .ok #[] w:=by
 cases A with
 | none=>exact run_firstCells_none w size 0 len cap
 | some b=>exact run_firstCells_some w size 0 b len cap [] (by simp) (fun j v h=>by simp at h)
theorem qdJ (w:World) (t tn ty e:TypeId) (A0:Option Addr) (i:TypeInfo) (z:Value) (k kn:IntKind) (ht:P.underlying t = some (.slice e)) (htn:P.underlying tn = some (.int kn)) (hi:P.info? e = some i) (hz:i.zero = some z)
  (n:Nat) (h0:0 < n) (hs:0 < i.size) (h63:(n:Int) ≤ 9223372036854775807) (h48:n * i.bytes ≤ 281474976710656) :
  (Builtin.append_ #[t,tn] ty #[.slice A0 0 0,.int k n]).run P w =
   .ok (.slice (some ⟨w.heap.size,0,none⟩) n (grownCap w n 0 e)) (w.drew.alloc (.cells (Builtin.zeroCells z.cells n ++ Builtin.zeroCells z.cells (grownCap w n 0 e - n)) e)):=by
 cases A0 with
 | none=>exact Lib.run_append_nil_zeros w t tn ty e i z k kn ht htn hi hz n h0 hs h63 h48
 | some b =>
  have hn:n ≠ 0:=by omega
  have hw:IntKind.i64.wrap (n:Int) = n:=by rw [IntKind.wrap_i64]; omega
  have h63':¬ (9223372036854775807 < (n:Int)):=by omega
  have h48':¬ (281474976710656 < Builtin.nextslicecap n 0 * i.bytes):=by rw [nextslicecap_zero h0]; omega
  have h48i:¬ (281474976710656 < (n:Int) * (i.bytes:Int)):=by
   rw [← Int.natCast_mul]
   omega
  have hneg:¬ ((n:Int) < 0):=by omega
  have hns:¬ (n * i.size = 0):=Nat.mul_ne_zero hn (by omega)
  simp [Builtin.append_,run_underlying ht,run_underlying htn,sizeOf,typeInfo,zeroValue,hi,hz,asInt,asIntOf,hw,hn,hneg,hns,h63',h48',h48i,Question.forced,qdk,newRow,grownCap]
theorem qe1 {i d j:Nat} {A0:Option Addr} {t tn e:TypeId} {size bytes:Nat} {k kn:IntKind} {q:Int} {z:Value} {N:Act → World → Prop} (hW:WOk w0 M w tb rs) (hE:EnvOk n tb env a)
  (h:appE tb env ops n i = some (t,tn,.slice A0 0 0,.int k q,d)) (ht:qcC P t = some (e,size,bytes)) (htn:P.underlying tn = some (.int kn)) (hz:(P.info? e).bind (·.zero) = some z)
  (hq:q = (j:Int)) (hj:0 < j) (hb:j * bytes ≤ 140737488355328)
  (K:∀ b c a' w',b = w.heap.size → w0.heap.size ≤ b → Fr w tb rs w' tb (rs ++ [⟨some ⟨b,0,none⟩,c,e,size,j,qb7 z j⟩]) → WOk w0 M w' tb (rs ++ [⟨some ⟨b,0,none⟩,c,e,size,j,qb7 z j⟩]) →
   EnvOk n tb ((d,.v (.slice (some ⟨b,0,none⟩) j c)) :: env) a' → N a' w'):wpOp P ops Q i N a w:=by
 subst hq
 obtain ⟨ht',inf,z',hi,hz',hzs,hs1,rfl,hsz,hbp⟩:=qcv ht
 have hzz:z' = z:=by rw [hi] at hz; simpa [hz'] using hz
 subst hzz
 obtain ⟨op,ho,hd,hrun⟩:=qf9 (P:=P) (w:=w) hE h
 obtain ⟨o,h1,h2,h3,h4,h5⟩:=qbj hE ho
 have hjm:j ≤ maxLen:=by
  have:=Nat.le_mul_of_pos_right j hbp
  simp only [maxLen]; omega
 have hr:=qdJ (P:=P) w t tn o.type e A0 inf z' k kn ht' htn hi hz' j hj (by omega) (by simp only [maxLen] at hjm; omega) (by omega)
 have hge:=grownCap_ge w j 0 e
 have hcm:=grownCap_le_maxLen w j 0 e hjm
 have hst:Step w (w.drew.alloc (.cells (Builtin.zeroCells z'.cells j ++ Builtin.zeroCells z'.cells (grownCap w j 0 e - j)) e)) Nil:=(Step.drew w).trans (Step.alloc _ _) fun _ _ _ h=>h
 have hown:(w.drew.alloc (.cells (Builtin.zeroCells z'.cells j ++ Builtin.zeroCells z'.cells (grownCap w j 0 e - j)) e)).ownsRow w.heap.size e size (.slice (some ⟨w.heap.size,0,none⟩) j (grownCap w j 0 e)) j (qb7 z' j):=by
  refine ⟨by unfold qb7; rw [Array.length_toList,size_zeroCells,hzs,hs1],.inr ⟨w.heap.size,grownCap w j 0 e,_,rfl,Nat.le_refl _,qc9 w.drew _,hge,hcm,?_,?_⟩⟩
  ·rw [Array.size_append,size_zeroCells,size_zeroCells,hzs,hs1,← Nat.add_mul]
   congr 1
   omega
  unfold qb7
  rw [Array.toList_append]
  exact List.take_left' (by rw [Array.length_toList,size_zeroCells,hzs,hs1])
 simp only [wpOp,h1]
 have:Region.wanted o (yielded ops a.tmps) = true:=by first | exact h2 | simp [Region.wanted,h2]
 rw [this]
 simp only [if_true]
 refine .inl ?_
 unfold Oper.wp
 rw [hrun o _ _ h5 hr,Oper.upon,h3]
 exact K w.heap.size _ _ _ rfl hW.step.size (Fr.fresh tb rs hst ⟨some ⟨w.heap.size,0,none⟩,grownCap w j 0 e,e,size,j,qb7 z' j⟩ (Nat.le_refl _) hown) (hW.fresh hst ⟨some ⟨w.heap.size,0,none⟩,grownCap w j 0 e,e,size,j,qb7 z' j⟩ (Nat.le_refl _) hown) (hE.put hd (.v _) trivial)
theorem qfh (z:Value) (j:Nat):qb7 z (j + 1) = z.cells.toList ++ qb7 z j:=by
 refine List.ext_getElem? fun i=>?_
 unfold qb7 Builtin.zeroCells
 rw [List.getElem?_append]
 simp only [Array.toList_map,Array.toList_range,List.getElem?_map,Array.length_toList,Array.getElem?_toList]
 by_cases h:i < z.cells.size
 ·have h2:i < (j + 1) * z.cells.size:=Nat.lt_of_lt_of_le h (Nat.le_mul_of_pos_left _ (Nat.succ_pos j))
  rw [if_pos h,List.getElem?_range h2,Option.map_some,Nat.mod_eq_of_lt h,getElem!_pos z.cells i h,Array.getElem?_eq_getElem h]
 rw [if_neg h]
 by_cases h2:i < (j + 1) * z.cells.size
 ·have h3:i - z.cells.size < j * z.cells.size:=by rw [Nat.succ_mul] at h2; omega
  rw [List.getElem?_range h2,List.getElem?_range h3,Option.map_some,Option.map_some,Nat.mod_eq_sub_mod (Nat.not_lt.1 h)]
 have h3:¬ i - z.cells.size < j * z.cells.size:=by rw [Nat.succ_mul] at h2; omega
 rw [List.getElem?_eq_none (by simpa using h2),List.getElem?_eq_none (by simpa using h3)]
end
abbrev qb2:=World → (Nat → Nat → Prop) → Prop
structure MvF (P:qb2):Prop where
 move:∀ {w w':World} {F F' M:Nat → Nat → Prop},Step w w' M → (∀ b o,F b o → b < w.heap.size → ¬ M b o) → (∀ b o,F b o → b < w.heap.size → F' b o) → P w F → P w' F'
def andF (P Q:qb2):qb2:=fun w F=>P w F ∧ Q w F
def isF (p:Prop):qb2:=fun _ _=>p
theorem MvF.and {P Q:qb2} (h:MvF P) (h':MvF Q):MvF (andF P Q):=⟨fun hs hM hF g=>⟨h.move hs hM hF g.1,h'.move hs hM hF g.2⟩⟩
theorem MvF.is (p:Prop):MvF (isF p):=⟨fun _ _ _ g=>g⟩
theorem MvF.mono {P:qb2} (h:MvF P) {w:World} {F F':Nat → Nat → Prop} (hF:∀ b o,F b o → b < w.heap.size → F' b o) (g:P w F):P w F':=h.move (Step.refl w Nil) nilM hF g
def qcR (A:Option Addr) (X:Bs):qb2:=fun w F=>∀ ad,A = some ad → ∃ b o,ad = ⟨b,o,none⟩ ∧ AtF w F b o [.string (bs X)]
theorem MvF.text (A:Option Addr) (X:Bs):MvF (qcR A X):=⟨fun hs hM hF g ad hA=>by
 obtain ⟨b,o,h1,h2⟩:=g ad hA
 exact ⟨b,o,h1,h2.move hs hM hF⟩⟩
def qh9 (m:Option Nat) (u:List (Int × Bs)):qb2:=fun w F=>MapR w F m u
theorem MvF.tags (m:Option Nat) (u:List (Int × Bs)):MvF (qh9 m u):=⟨fun hs hM hF g=>MapR.move g hs hM hF⟩
def atF (b o:Nat) (cs:List Value):qb2:=fun w F=>AtF w F b o cs
theorem MvF.at_ (b o:Nat) (cs:List Value):MvF (atF b o cs):=⟨fun hs hM hF g=>AtF.move g hs hM hF⟩
section
variable {Pr:Program} {ops opsA opsB opsC:Array Oper} {Q:Exit → Act → World → Prop} {w0:World} {M F:Nat → Nat → Prop} {n br:Nat} {tb:Tb} {env:Env} {P:qb2} {s:Bs} {a:Act} {w:World}
theorem qey {k:Nat} (h:Nat.blt 0 k = true):List.range k = [0] ++ (List.range k).drop 1:=by
 cases k with
 | zero=>cases h
 | succ k=>rw [List.range_succ_eq_map]; rfl
def stoE (P:Program) (ops:Array Oper) (n:Nat) (tb:Tb) (env:Env) (keys:List Nat):Option (Nat × List Value × Env) :=
 match runs P ops n tb (List.range (ops.size - 1)) env with
 | some e=>match qfv P tb e ops (ops.size - 1),pick e keys with
  | some (i,cs),some e'=>some (i,cs,e')
  | _,_=>none
 | none=>none
end
def qfi:Env → Env
 | []=>[]
 | (k,.v x) :: r=>(k,.v x) :: qfi r
 | (k,.p i j) :: r=>(k,.p (match i with | 0=>1 | 1=>0 | i=>i) j) :: qfi r
theorem qhS {n:Nat} {o1 o2:Ob} {env:Env} {a:Act} (h:EnvOk n [o1,o2] env a):EnvOk n [o2,o1] (qfi env) a:=by
 have key:∀ (env:Env) (k:Nat) (x:SV),lk (qfi env) k = some x → ∃ y,lk env k = some y ∧ (y.ok [o1,o2] → x.val [o2,o1] = y.val [o1,o2] ∧ x.ok [o2,o1]):=by
  intro env
  induction env with
  | nil=>intro k x hx; cases hx
  | cons e r ih =>
   obtain ⟨k',sv⟩:=e
   intro k x hx
   cases sv with
   | v y =>
    simp only [qfi,lk] at hx ⊢
    split at hx
    ·rename_i hb
     simp only [Option.some.injEq] at hx
     subst hx
     exact ⟨_,rfl,fun _=>⟨rfl,trivial⟩⟩
    exact ih k x hx
   | p i j =>
    simp only [qfi,lk] at hx ⊢
    split at hx
    ·rename_i hb
     simp only [Option.some.injEq] at hx
     subst hx
     refine ⟨_,rfl,fun hok=>?_⟩
     have hok':i < 2:=hok
     match i,hok' with
     | 0,_=>exact ⟨rfl,show 1 < 2 by omega⟩
     | 1,_=>exact ⟨rfl,show 0 < 2 by omega⟩
    exact ih k x hx
 refine ⟨h.defers,h.size,fun k x hx=>?_⟩
 obtain ⟨y,hy,hv⟩:=key env k x hx
 obtain ⟨h1,h2⟩:=h.at_ k y hy
 obtain ⟨h3,h4⟩:=hv h2
 exact ⟨by rw [h3]; exact h1,h4⟩
theorem qcF {α:Type} {x y o:α} {i:Nat} (h:[y,x][i]? = some o):[x,y][1 - i]? = some o ∧ i < 2:=by
 match i,h with
 | 0,h=>exact ⟨h,by omega⟩
 | 1,h=>exact ⟨h,by omega⟩
 | i + 2,h=>simp at h
theorem WOk.swap2 {w0 w:World} {M:Nat → Nat → Prop} {o1 o2:Ob} (h:WOk w0 M w [o1,o2] []):WOk w0 M w [o2,o1] [] :=
 ⟨h.step,fun i o hi=>h.cells _ o (qcF hi).1,fun i o hi=>h.live _ o (qcF hi).1,fun i o hi=>h.rw_ _ o (qcF hi).1,fun i j o o' hij hi hj hw=>h.apart _ _ o o' (by have:=(qcF hi).2; have:=(qcF hj).2; omega) (qcF hi).1 (qcF hj).1 hw,h.own,h.ownM,fun i r hi=>by simp at hi,h.rr⟩
theorem qfB {o1 o2:Ob} {b o:Nat} (h:Act_ [o2,o1] [] b o):Act_ [o1,o2] [] b o:=by
 rcases h with ⟨i,ob,hi,h1⟩ | ⟨i,r,hi,_⟩
 ·exact .inl ⟨_,ob,(qcF hi).1,h1⟩
 simp at hi
theorem qdl {α:Type} {l:List α} {x y o:α} {i:Nat} (h:(l ++ [x,y])[i]? = some o):(i < l.length ∧ l[i]? = some o) ∨ (i = l.length ∧ o = x) ∨ (i = l.length + 1 ∧ o = y):=by
 rcases Nat.lt_or_ge i l.length with hl | hl
 ·rw [List.getElem?_append_left hl] at h; exact .inl ⟨hl,h⟩
 rw [List.getElem?_append_right hl] at h
 rcases hk:i - l.length with _ | _ | k
 ·rw [hk] at h; exact .inr (.inl ⟨by omega,(Option.some.inj h).symm⟩)
 ·rw [hk] at h; exact .inr (.inr ⟨by omega,(Option.some.inj h).symm⟩)
 rw [hk] at h; simp at h
theorem qdY {α:Type} {l:List α} {x:α}:(l ++ [x])[l.length]? = some x:=by simp
section
variable {w0 w:World} {M:Nat → Nat → Prop} {tb:Tb} {rs:List Rw}
theorem WOk.splitL {b o o2:Nat} {cs1 cs2:List Value} (hW:WOk w0 M w (tb ++ [⟨b,o,cs1 ++ cs2,true⟩]) rs) (ho:o2 = o + cs1.length) :
  WOk w0 M w (tb ++ [⟨b,o2,cs2,true⟩,⟨b,o,cs1,true⟩]) rs ∧ Fr w (tb ++ [⟨b,o,cs1 ++ cs2,true⟩]) rs w (tb ++ [⟨b,o2,cs2,true⟩,⟨b,o,cs1,true⟩]) rs:=by
 subst ho
 have hi:(tb ++ [(⟨b,o,cs1 ++ cs2,true⟩:Ob)])[tb.length]? = some ⟨b,o,cs1 ++ cs2,true⟩:=qdY
 have old:∀ {j:Nat} {q:Ob},j < tb.length → tb[j]? = some q → (tb ++ [(⟨b,o,cs1 ++ cs2,true⟩:Ob)])[j]? = some q:=fun {j q} hj h=>by rw [List.getElem?_append_left hj]; exact h
 have hlen:(cs1 ++ cs2).length = cs1.length + cs2.length:=List.length_append
 have act:∀ x y,Act_ (tb ++ [⟨b,o + cs1.length,cs2,true⟩,⟨b,o,cs1,true⟩]) rs x y → Act_ (tb ++ [⟨b,o,cs1 ++ cs2,true⟩]) rs x y:=fun x y ha=>by
  rcases ha with ⟨j,q,hj,h1,h2,h3,h4⟩ | ha
  ·rcases qdl hj with ⟨hlt,hj⟩ | ⟨rfl,rfl⟩ | ⟨rfl,rfl⟩
   ·exact .inl ⟨j,q,old hlt hj,h1,h2,h3,h4⟩
   ·exact .inl ⟨_,_,hi,rfl,h2,by dsimp only at h3 ⊢; omega,by dsimp only at h4 ⊢; omega⟩
   exact .inl ⟨_,_,hi,rfl,h2,by dsimp only at h3 ⊢; omega,by dsimp only at h4 ⊢; omega⟩
  exact .inr ha
 refine ⟨⟨hW.step,?_,?_,?_,?_,hW.own,hW.ownM,?_,hW.rr⟩,⟨fun x y _ hn ha=>hn (act x y ha),Step.refl _ _⟩⟩
 ·intro j q hj p v hv
  rcases qdl hj with ⟨hlt,hj⟩ | ⟨rfl,rfl⟩ | ⟨rfl,rfl⟩
  ·exact hW.cells j q (old hlt hj) p v hv
  ·have:=hW.cells _ _ hi (cs1.length + p) v (by dsimp only at hv ⊢; rw [List.getElem?_append_right (by omega),Nat.add_sub_cancel_left]; exact hv)
   dsimp only at this ⊢
   rwa [Nat.add_assoc]
  exact hW.cells _ _ hi p v (by dsimp only at hv ⊢; rw [List.getElem?_append_left (List.getElem?_eq_some_iff.1 hv).1]; exact hv)
 ·intro j q hj
  rcases qdl hj with ⟨hlt,hj⟩ | ⟨rfl,rfl⟩ | ⟨rfl,rfl⟩
  ·exact hW.live j q (old hlt hj)
  ·have:=hW.live _ _ hi; exact this
  have:=hW.live _ _ hi; exact this
 ·intro j q hj hr p hp
  rcases qdl hj with ⟨hlt,hj⟩ | ⟨rfl,rfl⟩ | ⟨rfl,rfl⟩
  ·exact hW.rw_ j q (old hlt hj) hr p hp
  ·have:=hW.rw_ _ _ hi rfl (cs1.length + p) (by dsimp only at hp ⊢; omega)
   dsimp only at this ⊢
   rwa [Nat.add_assoc]
  exact hW.rw_ _ _ hi rfl p (by dsimp only at hp ⊢; omega)
 ·intro j k q q' hjk hj hk hw
  rcases qdl hj with ⟨hlj,hj⟩ | ⟨rfl,rfl⟩ | ⟨rfl,rfl⟩ <;> rcases qdl hk with ⟨hlk,hk⟩ | ⟨rfl,rfl⟩ | ⟨rfl,rfl⟩
  ·exact hW.apart j k q q' hjk (old hlj hj) (old hlk hk) hw
  ·have:=hW.apart j _ q _ (by omega) (old hlj hj) hi (.inr rfl)
   dsimp only at this ⊢; omega
  ·have:=hW.apart j _ q _ (by omega) (old hlj hj) hi (.inr rfl)
   dsimp only at this ⊢; omega
  ·have:=hW.apart _ k _ q' (by omega) hi (old hlk hk) (.inl rfl)
   dsimp only at this ⊢; omega
  ·exact absurd rfl hjk
  ·exact .inr (.inr (Nat.le_refl _))
  ·have:=hW.apart _ k _ q' (by omega) hi (old hlk hk) (.inl rfl)
   dsimp only at this ⊢; omega
  ·exact .inr (.inl (Nat.le_refl _))
  exact absurd rfl hjk
 intro j r hj g hg k q hk
 rcases qdl hk with ⟨hlk,hk⟩ | ⟨rfl,rfl⟩ | ⟨rfl,rfl⟩
 ·exact hW.rtb j r hj g hg k q (old hlk hk)
 ·have:=hW.rtb j r hj g hg _ _ hi; exact this
 have:=hW.rtb j r hj g hg _ _ hi; exact this
theorem WOk.atLast {G:Nat → Nat → Prop} {b o:Nat} {cs:List Value} (hW:WOk w0 M w (tb ++ [⟨b,o,cs,true⟩]) []) (hb:w0.heap.size ≤ b):AtF w (Imm G w0 w tb []) b o cs:=fun j v hj=>by
 have hlt:j < cs.length:=(List.getElem?_eq_some_iff.1 hj).1
 refine ⟨⟨.inr hb,?_,fun ha=>?_⟩,?_⟩
 ·have:=hW.live _ _ qdY; exact this
 ·rcases ha with ⟨i,q,hi,hr,h2,h3,h4⟩ | ⟨i,r,hi,_⟩
  ·have hil:i < tb.length:=(List.getElem?_eq_some_iff.1 hi).1
   have:=hW.apart i _ q _ (by omega) (by rw [List.getElem?_append_left hil]; exact hi) qdY (.inr rfl)
   dsimp only at this; omega
  simp at hi
 have:=hW.cells _ _ qdY j v hj; exact this
end
section
variable {Pr:Program} {ops:Array Oper} {Q:Exit → Act → World → Prop} {w0:World} {M F:Nat → Nat → Prop} {n br:Nat} {tb:Tb} {env:Env} {P:qb2} {s:Bs} {a:Act} {w:World}
 {g size:Nat} {cl:DV → List Value} {ok:World → (Nat → Nat → Prop) → DV → Prop} {rel:DV → Tree → Prop} {L:List Tree} {z:Value}
theorem qfC {c:Code} (h:c.wp Pr (Exit.then (fun _ _=>False) Q) a w):(Code.loop c).wp Pr Q a w:=by
 refine wp_loop_ghost (fun _ a_ w_=>a_ = a ∧ w_ = w) 0 ⟨rfl,rfl⟩ ?_
 rintro q _ _ ⟨rfl,rfl⟩
 refine wp_mono h fun e a' w' hq=>?_
 cases e <;> first | exact hq | exact hq.elim
theorem qg3 {x y z:Code} {Mid:Act → World → Prop} (h1:x.wp Pr (Exit.then (fun a w=>y.wp Pr (Exit.then Mid Q) a w) Q) a w) (h2:∀ a' w',Mid a' w' → z.wp Pr Q a' w'):(Code.seq x (.seq y z)).wp Pr Q a w :=
 wp_seq (qgo h1 fun a' w' hy=>wp_seq (qgo hy h2))
end
theorem qiq {A:Option Addr} {c:Nat} (s:Bs) {w:World} {F:Nat → Nat → Prop} (ho:Octs w F A c s) (hl:2 ≤ s.length) :
  Calls Tryd.prog 69 #[.agg #[],.slice A s.length c] w (qcn w (.int .u16 (be16 s))):=by
 refine enter (n:=18) Tryd.func69 rfl Tryd.ntmps69 kz fun a hE=>?_
 have hW:=WOk.start w Nil
 have ob0:=qa6 s 0
 have ob1:=qa6 s 1
 refine qad [0,1] kz ?_
 refine qak (qda hW hE (d:=2) (cs:=[]) kz fun b1 a2 w3 hb4 hz5 hF6 hW7 hE8=>?_)
 refine qal [1] [] [(1,.v (.slice A s.length c))] hW7 hE8 fun a9 af=>?_
 refine qaf (qab ?_)
 refine qad [0,1,2] kz ?_
 refine qal [0] [1,2] [(1,.v (.slice A s.length c)),(5,.v (.slice A s.length c))] hW7 af fun aC ag=>?_
 obtain ⟨av,aw,ac,ax,ab⟩:=Slots.get ho (i:=1) (by omega)
 refine qak (qan ag (t:=22) (A:=A) (m:=s.length) (q:=1) (d:=6) kz (e:=5) (size:=1) (bytes:=1) (j:=1) kz ac rfl (by omega) fun aD ah=>?_)
 refine qak (qat ah (t:=5) (b:=av) (o:=aw + 1 * 1) (d:=7) kz (cs:=[.int .u8 ((s.getD 1 0).toNat:Int)]) (v:=.int .u8 ((s.getD 1 0).toNat:Int)) kz (AtF.move ab hW7.step nilM qaI).at_ fun aE ai=>?_)
 refine qaf (qab ?_)
 refine qco kz hW7 fun aF ay aa=>?_
 refine qaK [0,4] [(8,.v (.slice A s.length c)),(12,.v (.slice A s.length c))] 9 (qac qag) (fun _ h=>h ▸ aa.cells) rfl ai fun aG aj=>?_
 refine qaA aj (i:=1) (t:=22) (A:=A) (m:=s.length) (q:=1) (d:=9) kz (e:=5) (size:=1) (bytes:=1) (j:=1) kz ac rfl (by omega) kz kz (qac qag) rfl fun aH ak=>?_
 refine qaM ak (i:=2) (t:=5) (b:=av) (o:=aw + 1 * 1) (d:=10) kz (cs:=[.int .u8 ((s.getD 1 0).toNat:Int)]) (v:=.int .u8 ((s.getD 1 0).toNat:Int)) kz (fun w' h'=>h' ▸ (AtF.move ab aa.step nilM qaI).at_) kz kz (qac qag) rfl fun aI al=>?_
 refine qaK [3] [(11,.v (.int .u16 (IntKind.u16.wrap ((s.getD 1 0).toNat:Int)))),(12,.v (.slice A s.length c))] 6 (qac qag) (fun _ h=>h ▸ aa.cells) rfl al fun aJ am=>?_
 obtain ⟨az,aA,ao,aB,ae⟩:=Slots.get ho (i:=0) (by omega)
 refine qaA am (i:=5) (t:=22) (A:=A) (m:=s.length) (q:=0) (d:=13) kz (e:=5) (size:=1) (bytes:=1) (j:=0) kz ao rfl (by omega) kz kz (qac qag) rfl fun aK ap=>?_
 refine qaM ap (i:=6) (t:=5) (b:=az) (o:=aA + 0 * 1) (d:=14) kz (cs:=[.int .u8 ((s.getD 0 0).toNat:Int)]) (v:=.int .u8 ((s.getD 0 0).toNat:Int)) kz (fun w' h'=>h' ▸ (AtF.move ae aa.step nilM qaI).at_) kz kz (qac qag) rfl fun aL ar=>?_
 refine qaK [7,8,9,10] [(4,.v (.int .u16 (IntKind.u16.wrap (BitVec.ofInt 16 (IntKind.u16.wrap ((s.getD 1 0).toNat:Int)) ||| BitVec.ofInt 16 (IntKind.u16.wrap ((IntKind.u16.wrap ((s.getD 0 0).toNat:Int)) * 256))).toNat)))] 0 (qac qag) (fun _ h=>h ▸ aa.cells) rfl ar fun aM au=>?_
 refine qaS kz ?_ _
 refine qab ?_
 refine wp_ret ?_
 refine qaV au aa.cells (v:=.int .u16 (IntKind.u16.wrap (BitVec.ofInt 16 (IntKind.u16.wrap ((s.getD 1 0).toNat:Int)) ||| BitVec.ofInt 16 (IntKind.u16.wrap ((IntKind.u16.wrap ((s.getD 0 0).toNat:Int)) * 256))).toNat)) kz ?_
 exact ⟨congrArg Ending.returned (congrArg (Value.int IntKind.u16) (qh6 (oc s 0) (oc s 1) ob0 ob1)),aa.step⟩
theorem qir {A:Option Addr} {c:Nat} (s:Bs) {w:World} {F:Nat → Nat → Prop} (ho:Octs w F A c s) (hl:4 ≤ s.length) :
  Calls Tryd.prog 67 #[.agg #[],.slice A s.length c] w (qcn w (.int .u32 (be32 s))):=by
 refine enter (n:=30) Tryd.func67 rfl Tryd.ntmps67 kz fun a hE=>?_
 have hW:=WOk.start w Nil
 have ob0:=qa6 s 0
 have ob1:=qa6 s 1
 have ob2:=qa6 s 2
 have ob3:=qa6 s 3
 refine qad [0,1] kz ?_
 refine qak (qda hW hE (d:=2) (cs:=[]) kz fun b1 a2 w3 hb4 hz5 hF6 hW7 hE8=>?_)
 refine qal [1] [] [(1,.v (.slice A s.length c))] hW7 hE8 fun a9 ah=>?_
 refine qaf (qab ?_)
 refine qad [0,1,2] kz ?_
 refine qal [0] [1,2] [(1,.v (.slice A s.length c)),(5,.v (.slice A s.length c))] hW7 ah fun aT ai=>?_
 obtain ⟨aF,aG,ac,aH,ab⟩:=Slots.get ho (i:=3) (by omega)
 refine qak (qan ai (t:=22) (A:=A) (m:=s.length) (q:=3) (d:=6) kz (e:=5) (size:=1) (bytes:=1) (j:=3) kz ac rfl (by omega) fun aU aj=>?_)
 refine qak (qat aj (t:=5) (b:=aF) (o:=aG + 3 * 1) (d:=7) kz (cs:=[.int .u8 ((s.getD 3 0).toNat:Int)]) (v:=.int .u8 ((s.getD 3 0).toNat:Int)) kz (AtF.move ab hW7.step nilM qaI).at_ fun aV ak=>?_)
 refine qaf (qab ?_)
 refine qco kz hW7 fun aW aI aa=>?_
 refine qaK [0,4,10,16] [(8,.v (.slice A s.length c)),(12,.v (.slice A s.length c)),(18,.v (.slice A s.length c)),(24,.v (.slice A s.length c))] 19 (qac qag) (fun _ h=>h ▸ aa.cells) rfl ak fun aX al=>?_
 refine qaA al (i:=1) (t:=22) (A:=A) (m:=s.length) (q:=3) (d:=9) kz (e:=5) (size:=1) (bytes:=1) (j:=3) kz ac rfl (by omega) kz kz (qac qag) rfl fun aY am=>?_
 refine qaM am (i:=2) (t:=5) (b:=aF) (o:=aG + 3 * 1) (d:=10) kz (cs:=[.int .u8 ((s.getD 3 0).toNat:Int)]) (v:=.int .u8 ((s.getD 3 0).toNat:Int)) kz (fun w' h'=>h' ▸ (AtF.move ab aa.step nilM qaI).at_) kz kz (qac qag) rfl fun aZ ao=>?_
 refine qaK [3] [(11,.v (.int .u32 (IntKind.u32.wrap ((s.getD 3 0).toNat:Int)))),(12,.v (.slice A s.length c)),(18,.v (.slice A s.length c)),(24,.v (.slice A s.length c))] 16 (qac qag) (fun _ h=>h ▸ aa.cells) rfl ao fun ba ap=>?_
 obtain ⟨aJ,aK,ar,aL,ae⟩:=Slots.get ho (i:=2) (by omega)
 refine qaA ap (i:=5) (t:=22) (A:=A) (m:=s.length) (q:=2) (d:=13) kz (e:=5) (size:=1) (bytes:=1) (j:=2) kz ar rfl (by omega) kz kz (qac qag) rfl fun bf au=>?_
 refine qaM au (i:=6) (t:=5) (b:=aJ) (o:=aK + 2 * 1) (d:=14) kz (cs:=[.int .u8 ((s.getD 2 0).toNat:Int)]) (v:=.int .u8 ((s.getD 2 0).toNat:Int)) kz (fun w' h'=>h' ▸ (AtF.move ae aa.step nilM qaI).at_) kz kz (qac qag) rfl fun bg av=>?_
 refine qaK [7,8,9] [(17,.v (.int .u32 (IntKind.u32.wrap (BitVec.ofInt 32 (IntKind.u32.wrap ((s.getD 3 0).toNat:Int)) ||| BitVec.ofInt 32 (IntKind.u32.wrap ((IntKind.u32.wrap ((s.getD 2 0).toNat:Int)) * 256))).toNat))),(18,.v (.slice A s.length c)),(24,.v (.slice A s.length c))] 11 (qac qag) (fun _ h=>h ▸ aa.cells) rfl av fun bh aw=>?_
 obtain ⟨aM,aO,ax,aP,af⟩:=Slots.get ho (i:=1) (by omega)
 refine qaA aw (i:=11) (t:=22) (A:=A) (m:=s.length) (q:=1) (d:=19) kz (e:=5) (size:=1) (bytes:=1) (j:=1) kz ax rfl (by omega) kz kz (qac qag) rfl fun bi ay=>?_
 refine qaM ay (i:=12) (t:=5) (b:=aM) (o:=aO + 1 * 1) (d:=20) kz (cs:=[.int .u8 ((s.getD 1 0).toNat:Int)]) (v:=.int .u8 ((s.getD 1 0).toNat:Int)) kz (fun w' h'=>h' ▸ (AtF.move af aa.step nilM qaI).at_) kz kz (qac qag) rfl fun bj az=>?_
 refine qaK [13,14,15] [(23,.v (.int .u32 (IntKind.u32.wrap (BitVec.ofInt 32 (IntKind.u32.wrap (BitVec.ofInt 32 (IntKind.u32.wrap ((s.getD 3 0).toNat:Int)) ||| BitVec.ofInt 32 (IntKind.u32.wrap ((IntKind.u32.wrap ((s.getD 2 0).toNat:Int)) * 256))).toNat) ||| BitVec.ofInt 32 (IntKind.u32.wrap ((IntKind.u32.wrap ((s.getD 1 0).toNat:Int)) * 65536))).toNat))),(24,.v (.slice A s.length c))] 6 (qac qag) (fun _ h=>h ▸ aa.cells) rfl az fun bk aA=>?_
 obtain ⟨aQ,aR,aB,aS,ag⟩:=Slots.get ho (i:=0) (by omega)
 refine qaA aA (i:=17) (t:=22) (A:=A) (m:=s.length) (q:=0) (d:=25) kz (e:=5) (size:=1) (bytes:=1) (j:=0) kz aB rfl (by omega) kz kz (qac qag) rfl fun bn aC=>?_
 refine qaM aC (i:=18) (t:=5) (b:=aQ) (o:=aR + 0 * 1) (d:=26) kz (cs:=[.int .u8 ((s.getD 0 0).toNat:Int)]) (v:=.int .u8 ((s.getD 0 0).toNat:Int)) kz (fun w' h'=>h' ▸ (AtF.move ag aa.step nilM qaI).at_) kz kz (qac qag) rfl fun bo aD=>?_
 refine qaK [19,20,21,22] [(4,.v (.int .u32 (IntKind.u32.wrap (BitVec.ofInt 32 (IntKind.u32.wrap (BitVec.ofInt 32 (IntKind.u32.wrap (BitVec.ofInt 32 (IntKind.u32.wrap ((s.getD 3 0).toNat:Int)) ||| BitVec.ofInt 32 (IntKind.u32.wrap ((IntKind.u32.wrap ((s.getD 2 0).toNat:Int)) * 256))).toNat) ||| BitVec.ofInt 32 (IntKind.u32.wrap ((IntKind.u32.wrap ((s.getD 1 0).toNat:Int)) * 65536))).toNat) ||| BitVec.ofInt 32 (IntKind.u32.wrap ((IntKind.u32.wrap ((s.getD 0 0).toNat:Int)) * 16777216))).toNat)))] 0 (qac qag) (fun _ h=>h ▸ aa.cells) rfl aD fun bp aE=>?_
 refine qaS kz ?_ _
 refine qab ?_
 refine wp_ret ?_
 refine qaV aE aa.cells (v:=.int .u32 (IntKind.u32.wrap (BitVec.ofInt 32 (IntKind.u32.wrap (BitVec.ofInt 32 (IntKind.u32.wrap (BitVec.ofInt 32 (IntKind.u32.wrap ((s.getD 3 0).toNat:Int)) ||| BitVec.ofInt 32 (IntKind.u32.wrap ((IntKind.u32.wrap ((s.getD 2 0).toNat:Int)) * 256))).toNat) ||| BitVec.ofInt 32 (IntKind.u32.wrap ((IntKind.u32.wrap ((s.getD 1 0).toNat:Int)) * 65536))).toNat) ||| BitVec.ofInt 32 (IntKind.u32.wrap ((IntKind.u32.wrap ((s.getD 0 0).toNat:Int)) * 16777216))).toNat)) kz ?_
 exact ⟨congrArg Ending.returned (congrArg (Value.int IntKind.u32) (qh7 (oc s 0) (oc s 1) (oc s 2) (oc s 3) ob0 ob1 ob2 ob3)),aa.step⟩
theorem qis {A:Option Addr} {c:Nat} (s:Bs) {w:World} {F:Nat → Nat → Prop} (ho:Octs w F A c s) (hl:8 ≤ s.length) :
  Calls Tryd.prog 70 #[.agg #[],.slice A s.length c] w (qcn w (.int .u64 (be64 s))):=by
 refine enter (n:=54) Tryd.func70 rfl Tryd.ntmps70 kz fun a hE=>?_
 have hW:=WOk.start w Nil
 have ob0:=qa6 s 0
 have ob1:=qa6 s 1
 have ob2:=qa6 s 2
 have ob3:=qa6 s 3
 have ob4:=qa6 s 4
 have ob5:=qa6 s 5
 have ob6:=qa6 s 6
 have ob7:=qa6 s 7
 refine qad [0,1] kz ?_
 refine qak (qda hW hE (d:=2) (cs:=[]) kz fun b1 a2 w3 hb4 hz5 hF6 hW7 hE8=>?_)
 refine qal [1] [] [(1,.v (.slice A s.length c))] hW7 hE8 fun a9 ar=>?_
 refine qaf (qab ?_)
 refine qad [0,1,2] kz ?_
 refine qal [0] [1,2] [(1,.v (.slice A s.length c)),(5,.v (.slice A s.length c))] hW7 ar fun bM au=>?_
 obtain ⟨bf,bg,ae,bi,ab⟩:=Slots.get ho (i:=7) (by omega)
 refine qak (qan au (t:=22) (A:=A) (m:=s.length) (q:=7) (d:=6) kz (e:=5) (size:=1) (bytes:=1) (j:=7) kz ae rfl (by omega) fun bN av=>?_)
 refine qak (qat av (t:=5) (b:=bf) (o:=bg + 7 * 1) (d:=7) kz (cs:=[.int .u8 ((s.getD 7 0).toNat:Int)]) (v:=.int .u8 ((s.getD 7 0).toNat:Int)) kz (AtF.move ab hW7.step nilM qaI).at_ fun bO aw=>?_)
 refine qaf (qab ?_)
 refine qco kz hW7 fun bP bj aa=>?_
 refine qaK [0,4,10,16,22,28,34,40] [(8,.v (.slice A s.length c)),(12,.v (.slice A s.length c)),(18,.v (.slice A s.length c)),(24,.v (.slice A s.length c)),(30,.v (.slice A s.length c)),(36,.v (.slice A s.length c)),(42,.v (.slice A s.length c)),(48,.v (.slice A s.length c))] 39 (qac qag) (fun _ h=>h ▸ aa.cells) rfl aw fun bQ ax=>?_
 refine qaA ax (i:=1) (t:=22) (A:=A) (m:=s.length) (q:=7) (d:=9) kz (e:=5) (size:=1) (bytes:=1) (j:=7) kz ae rfl (by omega) kz kz (qac qag) rfl fun bR ay=>?_
 refine qaM ay (i:=2) (t:=5) (b:=bf) (o:=bg + 7 * 1) (d:=10) kz (cs:=[.int .u8 ((s.getD 7 0).toNat:Int)]) (v:=.int .u8 ((s.getD 7 0).toNat:Int)) kz (fun w' h'=>h' ▸ (AtF.move ab aa.step nilM qaI).at_) kz kz (qac qag) rfl fun bS az=>?_
 refine qaK [3] [(11,.v (.int .u64 (IntKind.u64.wrap ((s.getD 7 0).toNat:Int)))),(12,.v (.slice A s.length c)),(18,.v (.slice A s.length c)),(24,.v (.slice A s.length c)),(30,.v (.slice A s.length c)),(36,.v (.slice A s.length c)),(42,.v (.slice A s.length c)),(48,.v (.slice A s.length c))] 36 (qac qag) (fun _ h=>h ▸ aa.cells) rfl az fun bT aA=>?_
 obtain ⟨bk,bn,aB,bo,af⟩:=Slots.get ho (i:=6) (by omega)
 refine qaA aA (i:=5) (t:=22) (A:=A) (m:=s.length) (q:=6) (d:=13) kz (e:=5) (size:=1) (bytes:=1) (j:=6) kz aB rfl (by omega) kz kz (qac qag) rfl fun bU aC=>?_
 refine qaM aC (i:=6) (t:=5) (b:=bk) (o:=bn + 6 * 1) (d:=14) kz (cs:=[.int .u8 ((s.getD 6 0).toNat:Int)]) (v:=.int .u8 ((s.getD 6 0).toNat:Int)) kz (fun w' h'=>h' ▸ (AtF.move af aa.step nilM qaI).at_) kz kz (qac qag) rfl fun bV aD=>?_
 refine qaK [7,8,9] [(17,.v (.int .u64 (IntKind.u64.wrap (BitVec.ofInt 64 (IntKind.u64.wrap ((s.getD 7 0).toNat:Int)) ||| BitVec.ofInt 64 (IntKind.u64.wrap ((IntKind.u64.wrap ((s.getD 6 0).toNat:Int)) * 256))).toNat))),(18,.v (.slice A s.length c)),(24,.v (.slice A s.length c)),(30,.v (.slice A s.length c)),(36,.v (.slice A s.length c)),(42,.v (.slice A s.length c)),(48,.v (.slice A s.length c))] 31 (qac qag) (fun _ h=>h ▸ aa.cells) rfl aD fun bW aE=>?_
 obtain ⟨bp,bq,aF,bt,ag⟩:=Slots.get ho (i:=5) (by omega)
 refine qaA aE (i:=11) (t:=22) (A:=A) (m:=s.length) (q:=5) (d:=19) kz (e:=5) (size:=1) (bytes:=1) (j:=5) kz aF rfl (by omega) kz kz (qac qag) rfl fun bX aG=>?_
 refine qaM aG (i:=12) (t:=5) (b:=bp) (o:=bq + 5 * 1) (d:=20) kz (cs:=[.int .u8 ((s.getD 5 0).toNat:Int)]) (v:=.int .u8 ((s.getD 5 0).toNat:Int)) kz (fun w' h'=>h' ▸ (AtF.move ag aa.step nilM qaI).at_) kz kz (qac qag) rfl fun bY aH=>?_
 refine qaK [13,14,15] [(23,.v (.int .u64 (IntKind.u64.wrap (BitVec.ofInt 64 (IntKind.u64.wrap (BitVec.ofInt 64 (IntKind.u64.wrap ((s.getD 7 0).toNat:Int)) ||| BitVec.ofInt 64 (IntKind.u64.wrap ((IntKind.u64.wrap ((s.getD 6 0).toNat:Int)) * 256))).toNat) ||| BitVec.ofInt 64 (IntKind.u64.wrap ((IntKind.u64.wrap ((s.getD 5 0).toNat:Int)) * 65536))).toNat))),(24,.v (.slice A s.length c)),(30,.v (.slice A s.length c)),(36,.v (.slice A s.length c)),(42,.v (.slice A s.length c)),(48,.v (.slice A s.length c))] 26 (qac qag) (fun _ h=>h ▸ aa.cells) rfl aH fun bZ aI=>?_
 obtain ⟨bu,bw,aJ,bx,ah⟩:=Slots.get ho (i:=4) (by omega)
 refine qaA aI (i:=17) (t:=22) (A:=A) (m:=s.length) (q:=4) (d:=25) kz (e:=5) (size:=1) (bytes:=1) (j:=4) kz aJ rfl (by omega) kz kz (qac qag) rfl fun b8 aK=>?_
 refine qaM aK (i:=18) (t:=5) (b:=bu) (o:=bw + 4 * 1) (d:=26) kz (cs:=[.int .u8 ((s.getD 4 0).toNat:Int)]) (v:=.int .u8 ((s.getD 4 0).toNat:Int)) kz (fun w' h'=>h' ▸ (AtF.move ah aa.step nilM qaI).at_) kz kz (qac qag) rfl fun b9 aL=>?_
 refine qaK [19,20,21] [(29,.v (.int .u64 (IntKind.u64.wrap (BitVec.ofInt 64 (IntKind.u64.wrap (BitVec.ofInt 64 (IntKind.u64.wrap (BitVec.ofInt 64 (IntKind.u64.wrap ((s.getD 7 0).toNat:Int)) ||| BitVec.ofInt 64 (IntKind.u64.wrap ((IntKind.u64.wrap ((s.getD 6 0).toNat:Int)) * 256))).toNat) ||| BitVec.ofInt 64 (IntKind.u64.wrap ((IntKind.u64.wrap ((s.getD 5 0).toNat:Int)) * 65536))).toNat) ||| BitVec.ofInt 64 (IntKind.u64.wrap ((IntKind.u64.wrap ((s.getD 4 0).toNat:Int)) * 16777216))).toNat))),(30,.v (.slice A s.length c)),(36,.v (.slice A s.length c)),(42,.v (.slice A s.length c)),(48,.v (.slice A s.length c))] 21 (qac qag) (fun _ h=>h ▸ aa.cells) rfl aL fun cd aM=>?_
 obtain ⟨bz,bA,aO,bB,ai⟩:=Slots.get ho (i:=3) (by omega)
 refine qaA aM (i:=23) (t:=22) (A:=A) (m:=s.length) (q:=3) (d:=31) kz (e:=5) (size:=1) (bytes:=1) (j:=3) kz aO rfl (by omega) kz kz (qac qag) rfl fun ce aP=>?_
 refine qaM aP (i:=24) (t:=5) (b:=bz) (o:=bA + 3 * 1) (d:=32) kz (cs:=[.int .u8 ((s.getD 3 0).toNat:Int)]) (v:=.int .u8 ((s.getD 3 0).toNat:Int)) kz (fun w' h'=>h' ▸ (AtF.move ai aa.step nilM qaI).at_) kz kz (qac qag) rfl fun cg aQ=>?_
 refine qaK [25,26,27] [(35,.v (.int .u64 (IntKind.u64.wrap (BitVec.ofInt 64 (IntKind.u64.wrap (BitVec.ofInt 64 (IntKind.u64.wrap (BitVec.ofInt 64 (IntKind.u64.wrap (BitVec.ofInt 64 (IntKind.u64.wrap ((s.getD 7 0).toNat:Int)) ||| BitVec.ofInt 64 (IntKind.u64.wrap ((IntKind.u64.wrap ((s.getD 6 0).toNat:Int)) * 256))).toNat) ||| BitVec.ofInt 64 (IntKind.u64.wrap ((IntKind.u64.wrap ((s.getD 5 0).toNat:Int)) * 65536))).toNat) ||| BitVec.ofInt 64 (IntKind.u64.wrap ((IntKind.u64.wrap ((s.getD 4 0).toNat:Int)) * 16777216))).toNat) ||| BitVec.ofInt 64 (IntKind.u64.wrap ((IntKind.u64.wrap ((s.getD 3 0).toNat:Int)) * 4294967296))).toNat))),(36,.v (.slice A s.length c)),(42,.v (.slice A s.length c)),(48,.v (.slice A s.length c))] 16 (qac qag) (fun _ h=>h ▸ aa.cells) rfl aQ fun cm aR=>?_
 obtain ⟨bC,bD,aS,bE,aj⟩:=Slots.get ho (i:=2) (by omega)
 refine qaA aR (i:=29) (t:=22) (A:=A) (m:=s.length) (q:=2) (d:=37) kz (e:=5) (size:=1) (bytes:=1) (j:=2) kz aS rfl (by omega) kz kz (qac qag) rfl fun cn aT=>?_
 refine qaM aT (i:=30) (t:=5) (b:=bC) (o:=bD + 2 * 1) (d:=38) kz (cs:=[.int .u8 ((s.getD 2 0).toNat:Int)]) (v:=.int .u8 ((s.getD 2 0).toNat:Int)) kz (fun w' h'=>h' ▸ (AtF.move aj aa.step nilM qaI).at_) kz kz (qac qag) rfl fun cq aU=>?_
 refine qaK [31,32,33] [(41,.v (.int .u64 (IntKind.u64.wrap (BitVec.ofInt 64 (IntKind.u64.wrap (BitVec.ofInt 64 (IntKind.u64.wrap (BitVec.ofInt 64 (IntKind.u64.wrap (BitVec.ofInt 64 (IntKind.u64.wrap (BitVec.ofInt 64 (IntKind.u64.wrap ((s.getD 7 0).toNat:Int)) ||| BitVec.ofInt 64 (IntKind.u64.wrap ((IntKind.u64.wrap ((s.getD 6 0).toNat:Int)) * 256))).toNat) ||| BitVec.ofInt 64 (IntKind.u64.wrap ((IntKind.u64.wrap ((s.getD 5 0).toNat:Int)) * 65536))).toNat) ||| BitVec.ofInt 64 (IntKind.u64.wrap ((IntKind.u64.wrap ((s.getD 4 0).toNat:Int)) * 16777216))).toNat) ||| BitVec.ofInt 64 (IntKind.u64.wrap ((IntKind.u64.wrap ((s.getD 3 0).toNat:Int)) * 4294967296))).toNat) ||| BitVec.ofInt 64 (IntKind.u64.wrap ((IntKind.u64.wrap ((s.getD 2 0).toNat:Int)) * 1099511627776))).toNat))),(42,.v (.slice A s.length c)),(48,.v (.slice A s.length c))] 11 (qac qag) (fun _ h=>h ▸ aa.cells) rfl aU fun cr aV=>?_
 obtain ⟨bF,bG,aW,bH,ak⟩:=Slots.get ho (i:=1) (by omega)
 refine qaA aV (i:=35) (t:=22) (A:=A) (m:=s.length) (q:=1) (d:=43) kz (e:=5) (size:=1) (bytes:=1) (j:=1) kz aW rfl (by omega) kz kz (qac qag) rfl fun cu aX=>?_
 refine qaM aX (i:=36) (t:=5) (b:=bF) (o:=bG + 1 * 1) (d:=44) kz (cs:=[.int .u8 ((s.getD 1 0).toNat:Int)]) (v:=.int .u8 ((s.getD 1 0).toNat:Int)) kz (fun w' h'=>h' ▸ (AtF.move ak aa.step nilM qaI).at_) kz kz (qac qag) rfl fun cw aY=>?_
 refine qaK [37,38,39] [(47,.v (.int .u64 (IntKind.u64.wrap (BitVec.ofInt 64 (IntKind.u64.wrap (BitVec.ofInt 64 (IntKind.u64.wrap (BitVec.ofInt 64 (IntKind.u64.wrap (BitVec.ofInt 64 (IntKind.u64.wrap (BitVec.ofInt 64 (IntKind.u64.wrap (BitVec.ofInt 64 (IntKind.u64.wrap ((s.getD 7 0).toNat:Int)) ||| BitVec.ofInt 64 (IntKind.u64.wrap ((IntKind.u64.wrap ((s.getD 6 0).toNat:Int)) * 256))).toNat) ||| BitVec.ofInt 64 (IntKind.u64.wrap ((IntKind.u64.wrap ((s.getD 5 0).toNat:Int)) * 65536))).toNat) ||| BitVec.ofInt 64 (IntKind.u64.wrap ((IntKind.u64.wrap ((s.getD 4 0).toNat:Int)) * 16777216))).toNat) ||| BitVec.ofInt 64 (IntKind.u64.wrap ((IntKind.u64.wrap ((s.getD 3 0).toNat:Int)) * 4294967296))).toNat) ||| BitVec.ofInt 64 (IntKind.u64.wrap ((IntKind.u64.wrap ((s.getD 2 0).toNat:Int)) * 1099511627776))).toNat) ||| BitVec.ofInt 64 (IntKind.u64.wrap ((IntKind.u64.wrap ((s.getD 1 0).toNat:Int)) * 281474976710656))).toNat))),(48,.v (.slice A s.length c))] 6 (qac qag) (fun _ h=>h ▸ aa.cells) rfl aY fun cz aZ=>?_
 obtain ⟨bI,ba,al,bh,ac⟩:=Slots.get ho (i:=0) (by omega)
 refine qaA aZ (i:=41) (t:=22) (A:=A) (m:=s.length) (q:=0) (d:=49) kz (e:=5) (size:=1) (bytes:=1) (j:=0) kz al rfl (by omega) kz kz (qac qag) rfl fun bJ am=>?_
 refine qaM am (i:=42) (t:=5) (b:=bI) (o:=ba + 0 * 1) (d:=50) kz (cs:=[.int .u8 ((s.getD 0 0).toNat:Int)]) (v:=.int .u8 ((s.getD 0 0).toNat:Int)) kz (fun w' h'=>h' ▸ (AtF.move ac aa.step nilM qaI).at_) kz kz (qac qag) rfl fun bK ao=>?_
 refine qaK [43,44,45,46] [(4,.v (.int .u64 (IntKind.u64.wrap (BitVec.ofInt 64 (IntKind.u64.wrap (BitVec.ofInt 64 (IntKind.u64.wrap (BitVec.ofInt 64 (IntKind.u64.wrap (BitVec.ofInt 64 (IntKind.u64.wrap (BitVec.ofInt 64 (IntKind.u64.wrap (BitVec.ofInt 64 (IntKind.u64.wrap (BitVec.ofInt 64 (IntKind.u64.wrap ((s.getD 7 0).toNat:Int)) ||| BitVec.ofInt 64 (IntKind.u64.wrap ((IntKind.u64.wrap ((s.getD 6 0).toNat:Int)) * 256))).toNat) ||| BitVec.ofInt 64 (IntKind.u64.wrap ((IntKind.u64.wrap ((s.getD 5 0).toNat:Int)) * 65536))).toNat) ||| BitVec.ofInt 64 (IntKind.u64.wrap ((IntKind.u64.wrap ((s.getD 4 0).toNat:Int)) * 16777216))).toNat) ||| BitVec.ofInt 64 (IntKind.u64.wrap ((IntKind.u64.wrap ((s.getD 3 0).toNat:Int)) * 4294967296))).toNat) ||| BitVec.ofInt 64 (IntKind.u64.wrap ((IntKind.u64.wrap ((s.getD 2 0).toNat:Int)) * 1099511627776))).toNat) ||| BitVec.ofInt 64 (IntKind.u64.wrap ((IntKind.u64.wrap ((s.getD 1 0).toNat:Int)) * 281474976710656))).toNat) ||| BitVec.ofInt 64 (IntKind.u64.wrap ((IntKind.u64.wrap ((s.getD 0 0).toNat:Int)) * 72057594037927936))).toNat)))] 0 (qac qag) (fun _ h=>h ▸ aa.cells) rfl ao fun bL ap=>?_
 refine qaS kz ?_ _
 refine qab ?_
 refine wp_ret ?_
 refine qaV ap aa.cells (v:=.int .u64 (IntKind.u64.wrap (BitVec.ofInt 64 (IntKind.u64.wrap (BitVec.ofInt 64 (IntKind.u64.wrap (BitVec.ofInt 64 (IntKind.u64.wrap (BitVec.ofInt 64 (IntKind.u64.wrap (BitVec.ofInt 64 (IntKind.u64.wrap (BitVec.ofInt 64 (IntKind.u64.wrap (BitVec.ofInt 64 (IntKind.u64.wrap ((s.getD 7 0).toNat:Int)) ||| BitVec.ofInt 64 (IntKind.u64.wrap ((IntKind.u64.wrap ((s.getD 6 0).toNat:Int)) * 256))).toNat) ||| BitVec.ofInt 64 (IntKind.u64.wrap ((IntKind.u64.wrap ((s.getD 5 0).toNat:Int)) * 65536))).toNat) ||| BitVec.ofInt 64 (IntKind.u64.wrap ((IntKind.u64.wrap ((s.getD 4 0).toNat:Int)) * 16777216))).toNat) ||| BitVec.ofInt 64 (IntKind.u64.wrap ((IntKind.u64.wrap ((s.getD 3 0).toNat:Int)) * 4294967296))).toNat) ||| BitVec.ofInt 64 (IntKind.u64.wrap ((IntKind.u64.wrap ((s.getD 2 0).toNat:Int)) * 1099511627776))).toNat) ||| BitVec.ofInt 64 (IntKind.u64.wrap ((IntKind.u64.wrap ((s.getD 1 0).toNat:Int)) * 281474976710656))).toNat) ||| BitVec.ofInt 64 (IntKind.u64.wrap ((IntKind.u64.wrap ((s.getD 0 0).toNat:Int)) * 72057594037927936))).toNat)) kz ?_
 exact ⟨congrArg Ending.returned (congrArg (Value.int IntKind.u64) (qh8 (oc s 0) (oc s 1) (oc s 2) (oc s 3) (oc s 4) (oc s 5) (oc s 6) (oc s 7) ob0 ob1 ob2 ob3 ob4 ob5 ob6 ob7)),aa.step⟩
theorem rUv1 {A:Option Addr} {c:Nat} (s:Bs) {w:World} {F:Nat → Nat → Prop} (ho:Octs w F A c s) (hl:1 ≤ s.length) (d0:Nat) (h0:oc s 0 = d0) (g0:d0 < 128) :
  Calls Tryd.prog 68 #[.slice A s.length c] w (qcn w (.tuple #[.int .u32 ((d0:Nat):Int),.int .i64 1])):=by
 refine enter (n:=87) Tryd.func68 rfl Tryd.ntmps68 kz fun a hE=>?_
 have hW:=WOk.start w Nil
 refine qas [(0,.v (.slice A s.length c))] hW hE fun a1 hE2=>?_
 refine wp_scope_straight ?_
 refine qas [(0,.v (.slice A s.length c))] hW hE2 fun a3 hE4=>?_
 refine qas [(0,.v (.slice A s.length c))] hW hE4 fun a5 hE6=>?_
 refine wp_seq ?_
 refine qas [(0,.v (.slice A s.length c)),(8,.v (.bool (decide (((s.length:Nat):Int) < 1))))] hW hE6 fun a7 hE8=>?_
 refine qam hE8 (b:=decide (((s.length:Nat):Int) < 1)) kz (decide_eq_false (by omega)) ?_
 refine wp_skip ?_
 refine qab ?_
 refine qad [0,1,2,3,4,5] kz ?_
 refine qal [0] [1,2,3,4,5] [(0,.v (.slice A s.length c)),(9,.v (.slice A s.length c))] hW hE8 fun a9 ae=>?_
 obtain ⟨am,ao,ab,ap,aa⟩:=Slots.get ho (i:=0) (by first | omega | (simp only [List.length_append,be_length,List.length_cons,List.length_nil] at *; omega))
 refine qak (qan ae (t:=22) (A:=A) (m:=s.length) (q:=0) (d:=10) kz (e:=5) (size:=1) (bytes:=1) (j:=0) kz ab rfl (by first | omega | (simp only [List.length_append,be_length,List.length_cons,List.length_nil] at *; omega)) fun ar af=>?_)
 refine qak (qat af (t:=5) (b:=am) (o:=ao + 0 * 1) (d:=11) kz (cs:=[.int .u8 ((s.getD 0 0).toNat:Int)]) (v:=.int .u8 ((s.getD 0 0).toNat:Int)) kz (AtF.move aa hW.step nilM qaI).at_ fun au ag=>?_)
 refine qal [3,4,5] [] [(0,.v (.slice A s.length c)),(4,.v (.int .u32 (IntKind.u32.wrap (IntKind.u8.wrap (BitVec.ofInt 8 ((s.getD 0 0).toNat:Int) &&& BitVec.ofInt 8 127).toNat))))] hW ag fun av ah=>?_
 refine qaf (qab ?_)
 refine wp_seq ?_
 refine qad [0,1,2,3,4] kz ?_
 refine qal [0] [1,2,3,4] [(0,.v (.slice A s.length c)),(4,.v (.int .u32 (IntKind.u32.wrap (IntKind.u8.wrap (BitVec.ofInt 8 ((s.getD 0 0).toNat:Int) &&& BitVec.ofInt 8 127).toNat)))),(14,.v (.slice A s.length c))] hW ah fun aw ai=>?_
 refine qak (qan ai (t:=22) (A:=A) (m:=s.length) (q:=0) (d:=15) kz (e:=5) (size:=1) (bytes:=1) (j:=0) kz ab rfl (by first | omega | (simp only [List.length_append,be_length,List.length_cons,List.length_nil] at *; omega)) fun ax aj=>?_)
 refine qak (qat aj (t:=5) (b:=am) (o:=ao + 0 * 1) (d:=16) kz (cs:=[.int .u8 ((s.getD 0 0).toNat:Int)]) (v:=.int .u8 ((s.getD 0 0).toNat:Int)) kz (AtF.move aa hW.step nilM qaI).at_ fun ay ak=>?_)
 refine qal [3,4] [] [(0,.v (.slice A s.length c)),(4,.v (.int .u32 (IntKind.u32.wrap (IntKind.u8.wrap (BitVec.ofInt 8 ((s.getD 0 0).toNat:Int) &&& BitVec.ofInt 8 127).toNat)))),(18,.v (.bool ((IntKind.u8.wrap (BitVec.ofInt 8 ((s.getD 0 0).toNat:Int) &&& BitVec.ofInt 8 128).toNat) == 0)))] hW ak fun az ac=>?_
 refine qaf (qab ?_)
 refine qaO ac (b:=(IntKind.u8.wrap (BitVec.ofInt 8 ((s.getD 0 0).toNat:Int) &&& BitVec.ofInt 8 128).toNat) == 0) kz ((qbv _ (qa6 s 0)).trans (decide_eq_true (by have:=h0; unfold oc at this; omega))) ?_
 refine qas [(2,.v (.int .u32 (IntKind.u32.wrap (IntKind.u8.wrap (BitVec.ofInt 8 ((s.getD 0 0).toNat:Int) &&& BitVec.ofInt 8 127).toNat)))),(3,.v (.int .i64 1))] hW ac fun aA al=>?_
 refine wp_ret ?_
 refine qaX ?_
 refine qcK ?_
 refine qaV al hW.cells (v:=.tuple #[.int .u32 (IntKind.u32.wrap (IntKind.u8.wrap (BitVec.ofInt 8 ((s.getD 0 0).toNat:Int) &&& BitVec.ofInt 8 127).toNat)),.int .i64 1]) kz ?_
 have e_:=uv_1 (oc s 0) (qa6 s 0)
 refine ⟨congrArg (fun z_:Int=>Ending.returned (.tuple #[.int .u32 z_,.int .i64 1])) (Eq.trans e_ ?_),hW.step⟩
 omega
theorem rUv2 {A:Option Addr} {c:Nat} (s:Bs) {w:World} {F:Nat → Nat → Prop} (ho:Octs w F A c s) (hl:2 ≤ s.length) (d0 d1:Nat) (h0:oc s 0 = d0 + 128) (h1:oc s 1 = d1) (g0:d0 < 128) (g1:d1 < 128) :
  Calls Tryd.prog 68 #[.slice A s.length c] w (qcn w (.tuple #[.int .u32 ((d0 + d1 * 128:Nat):Int),.int .i64 2])):=by
 refine enter (n:=87) Tryd.func68 rfl Tryd.ntmps68 kz fun a hE=>?_
 have hW:=WOk.start w Nil
 refine qas [(0,.v (.slice A s.length c))] hW hE fun a1 hE2=>?_
 refine wp_scope_straight ?_
 refine qas [(0,.v (.slice A s.length c))] hW hE2 fun a3 hE4=>?_
 refine qas [(0,.v (.slice A s.length c))] hW hE4 fun a5 hE6=>?_
 refine wp_seq ?_
 refine qas [(0,.v (.slice A s.length c)),(8,.v (.bool (decide (((s.length:Nat):Int) < 1))))] hW hE6 fun a7 hE8=>?_
 refine qam hE8 (b:=decide (((s.length:Nat):Int) < 1)) kz (decide_eq_false (by omega)) ?_
 refine wp_skip ?_
 refine qab ?_
 refine qad [0,1,2,3,4,5] kz ?_
 refine qal [0] [1,2,3,4,5] [(0,.v (.slice A s.length c)),(9,.v (.slice A s.length c))] hW hE8 fun a9 ai=>?_
 obtain ⟨aB,aC,ac,aF,aa⟩:=Slots.get ho (i:=0) (by first | omega | (simp only [List.length_append,be_length,List.length_cons,List.length_nil] at *; omega))
 refine qak (qan ai (t:=22) (A:=A) (m:=s.length) (q:=0) (d:=10) kz (e:=5) (size:=1) (bytes:=1) (j:=0) kz ac rfl (by first | omega | (simp only [List.length_append,be_length,List.length_cons,List.length_nil] at *; omega)) fun aH aj=>?_)
 refine qak (qat aj (t:=5) (b:=aB) (o:=aC + 0 * 1) (d:=11) kz (cs:=[.int .u8 ((s.getD 0 0).toNat:Int)]) (v:=.int .u8 ((s.getD 0 0).toNat:Int)) kz (AtF.move aa hW.step nilM qaI).at_ fun aI ak=>?_)
 refine qal [3,4,5] [] [(0,.v (.slice A s.length c)),(4,.v (.int .u32 (IntKind.u32.wrap (IntKind.u8.wrap (BitVec.ofInt 8 ((s.getD 0 0).toNat:Int) &&& BitVec.ofInt 8 127).toNat))))] hW ak fun aJ al=>?_
 refine qaf (qab ?_)
 refine wp_seq ?_
 refine qad [0,1,2,3,4] kz ?_
 refine qal [0] [1,2,3,4] [(0,.v (.slice A s.length c)),(4,.v (.int .u32 (IntKind.u32.wrap (IntKind.u8.wrap (BitVec.ofInt 8 ((s.getD 0 0).toNat:Int) &&& BitVec.ofInt 8 127).toNat)))),(14,.v (.slice A s.length c))] hW al fun aK am=>?_
 refine qak (qan am (t:=22) (A:=A) (m:=s.length) (q:=0) (d:=15) kz (e:=5) (size:=1) (bytes:=1) (j:=0) kz ac rfl (by first | omega | (simp only [List.length_append,be_length,List.length_cons,List.length_nil] at *; omega)) fun aL ao=>?_)
 refine qak (qat ao (t:=5) (b:=aB) (o:=aC + 0 * 1) (d:=16) kz (cs:=[.int .u8 ((s.getD 0 0).toNat:Int)]) (v:=.int .u8 ((s.getD 0 0).toNat:Int)) kz (AtF.move aa hW.step nilM qaI).at_ fun aM ap=>?_)
 refine qal [3,4] [] [(0,.v (.slice A s.length c)),(4,.v (.int .u32 (IntKind.u32.wrap (IntKind.u8.wrap (BitVec.ofInt 8 ((s.getD 0 0).toNat:Int) &&& BitVec.ofInt 8 127).toNat)))),(18,.v (.bool ((IntKind.u8.wrap (BitVec.ofInt 8 ((s.getD 0 0).toNat:Int) &&& BitVec.ofInt 8 128).toNat) == 0)))] hW ap fun aO ae=>?_
 refine qaf (qab ?_)
 refine qam ae (b:=(IntKind.u8.wrap (BitVec.ofInt 8 ((s.getD 0 0).toNat:Int) &&& BitVec.ofInt 8 128).toNat) == 0) kz ((qbv _ (qa6 s 0)).trans (decide_eq_false (by have:=h0; unfold oc at this; omega))) ?_
 refine qas [(0,.v (.slice A s.length c)),(4,.v (.int .u32 (IntKind.u32.wrap (IntKind.u8.wrap (BitVec.ofInt 8 ((s.getD 0 0).toNat:Int) &&& BitVec.ofInt 8 127).toNat)))),(22,.v (.bool (decide (((s.length:Nat):Int) < 2))))] hW ae fun aP af=>?_
 refine qam af (b:=decide (((s.length:Nat):Int) < 2)) kz (decide_eq_false (by omega)) ?_
 refine wp_skip ?_
 refine qab ?_
 refine qad [0,1,2,3,4,5,6,7,8] kz ?_
 refine qal [0,1] [2,3,4,5,6,7,8] [(0,.v (.slice A s.length c)),(23,.v (.int .u32 (IntKind.u32.wrap (IntKind.u8.wrap (BitVec.ofInt 8 ((s.getD 0 0).toNat:Int) &&& BitVec.ofInt 8 127).toNat)))),(24,.v (.slice A s.length c))] hW af fun aQ ar=>?_
 obtain ⟨aD,aE,ag,aG,ab⟩:=Slots.get ho (i:=1) (by first | omega | (simp only [List.length_append,be_length,List.length_cons,List.length_nil] at *; omega))
 refine qak (qan ar (t:=22) (A:=A) (m:=s.length) (q:=1) (d:=25) kz (e:=5) (size:=1) (bytes:=1) (j:=1) kz ag rfl (by first | omega | (simp only [List.length_append,be_length,List.length_cons,List.length_nil] at *; omega)) fun aR au=>?_)
 refine qak (qat au (t:=5) (b:=aD) (o:=aE + 1 * 1) (d:=26) kz (cs:=[.int .u8 ((s.getD 1 0).toNat:Int)]) (v:=.int .u8 ((s.getD 1 0).toNat:Int)) kz (AtF.move ab hW.step nilM qaI).at_ fun aS av=>?_)
 refine qal [4,5,6,7,8] [] [(0,.v (.slice A s.length c)),(4,.v (.int .u32 (IntKind.u32.wrap (BitVec.ofInt 32 (IntKind.u32.wrap (IntKind.u8.wrap (BitVec.ofInt 8 ((s.getD 0 0).toNat:Int) &&& BitVec.ofInt 8 127).toNat)) ||| BitVec.ofInt 32 (IntKind.u32.wrap ((IntKind.u32.wrap (IntKind.u8.wrap (BitVec.ofInt 8 ((s.getD 1 0).toNat:Int) &&& BitVec.ofInt 8 127).toNat)) * 128))).toNat)))] hW av fun aT aw=>?_
 refine qaf (qab ?_)
 refine wp_seq ?_
 refine qad [0,1,2,3,4] kz ?_
 refine qal [0] [1,2,3,4] [(0,.v (.slice A s.length c)),(4,.v (.int .u32 (IntKind.u32.wrap (BitVec.ofInt 32 (IntKind.u32.wrap (IntKind.u8.wrap (BitVec.ofInt 8 ((s.getD 0 0).toNat:Int) &&& BitVec.ofInt 8 127).toNat)) ||| BitVec.ofInt 32 (IntKind.u32.wrap ((IntKind.u32.wrap (IntKind.u8.wrap (BitVec.ofInt 8 ((s.getD 1 0).toNat:Int) &&& BitVec.ofInt 8 127).toNat)) * 128))).toNat))),(31,.v (.slice A s.length c))] hW aw fun aU ax=>?_
 refine qak (qan ax (t:=22) (A:=A) (m:=s.length) (q:=1) (d:=32) kz (e:=5) (size:=1) (bytes:=1) (j:=1) kz ag rfl (by first | omega | (simp only [List.length_append,be_length,List.length_cons,List.length_nil] at *; omega)) fun aV ay=>?_)
 refine qak (qat ay (t:=5) (b:=aD) (o:=aE + 1 * 1) (d:=33) kz (cs:=[.int .u8 ((s.getD 1 0).toNat:Int)]) (v:=.int .u8 ((s.getD 1 0).toNat:Int)) kz (AtF.move ab hW.step nilM qaI).at_ fun aW az=>?_)
 refine qal [3,4] [] [(0,.v (.slice A s.length c)),(4,.v (.int .u32 (IntKind.u32.wrap (BitVec.ofInt 32 (IntKind.u32.wrap (IntKind.u8.wrap (BitVec.ofInt 8 ((s.getD 0 0).toNat:Int) &&& BitVec.ofInt 8 127).toNat)) ||| BitVec.ofInt 32 (IntKind.u32.wrap ((IntKind.u32.wrap (IntKind.u8.wrap (BitVec.ofInt 8 ((s.getD 1 0).toNat:Int) &&& BitVec.ofInt 8 127).toNat)) * 128))).toNat))),(35,.v (.bool ((IntKind.u8.wrap (BitVec.ofInt 8 ((s.getD 1 0).toNat:Int) &&& BitVec.ofInt 8 128).toNat) == 0)))] hW az fun aX ah=>?_
 refine qaf (qab ?_)
 refine qaO ah (b:=(IntKind.u8.wrap (BitVec.ofInt 8 ((s.getD 1 0).toNat:Int) &&& BitVec.ofInt 8 128).toNat) == 0) kz ((qbv _ (qa6 s 1)).trans (decide_eq_true (by have:=h1; unfold oc at this; omega))) ?_
 refine qas [(2,.v (.int .u32 (IntKind.u32.wrap (BitVec.ofInt 32 (IntKind.u32.wrap (IntKind.u8.wrap (BitVec.ofInt 8 ((s.getD 0 0).toNat:Int) &&& BitVec.ofInt 8 127).toNat)) ||| BitVec.ofInt 32 (IntKind.u32.wrap ((IntKind.u32.wrap (IntKind.u8.wrap (BitVec.ofInt 8 ((s.getD 1 0).toNat:Int) &&& BitVec.ofInt 8 127).toNat)) * 128))).toNat))),(3,.v (.int .i64 2))] hW ah fun aY aA=>?_
 refine wp_ret ?_
 refine qaX ?_
 refine qcK ?_
 refine qaV aA hW.cells (v:=.tuple #[.int .u32 (IntKind.u32.wrap (BitVec.ofInt 32 (IntKind.u32.wrap (IntKind.u8.wrap (BitVec.ofInt 8 ((s.getD 0 0).toNat:Int) &&& BitVec.ofInt 8 127).toNat)) ||| BitVec.ofInt 32 (IntKind.u32.wrap ((IntKind.u32.wrap (IntKind.u8.wrap (BitVec.ofInt 8 ((s.getD 1 0).toNat:Int) &&& BitVec.ofInt 8 127).toNat)) * 128))).toNat),.int .i64 2]) kz ?_
 have e_:=uv_2 (oc s 0) (oc s 1) (qa6 s 0) (qa6 s 1)
 refine ⟨congrArg (fun z_:Int=>Ending.returned (.tuple #[.int .u32 z_,.int .i64 2])) (Eq.trans e_ ?_),hW.step⟩
 omega
theorem rUv3 {A:Option Addr} {c:Nat} (s:Bs) {w:World} {F:Nat → Nat → Prop} (ho:Octs w F A c s) (hl:3 ≤ s.length) (d0 d1 d2:Nat) (h0:oc s 0 = d0 + 128) (h1:oc s 1 = d1 + 128) (h2:oc s 2 = d2) (g0:d0 < 128) (g1:d1 < 128) (g2:d2 < 128) :
  Calls Tryd.prog 68 #[.slice A s.length c] w (qcn w (.tuple #[.int .u32 ((d0 + d1 * 128 + d2 * 16384:Nat):Int),.int .i64 3])):=by
 refine enter (n:=87) Tryd.func68 rfl Tryd.ntmps68 kz fun a hE=>?_
 have hW:=WOk.start w Nil
 refine qas [(0,.v (.slice A s.length c))] hW hE fun a1 hE2=>?_
 refine wp_scope_straight ?_
 refine qas [(0,.v (.slice A s.length c))] hW hE2 fun a3 hE4=>?_
 refine qas [(0,.v (.slice A s.length c))] hW hE4 fun a5 hE6=>?_
 refine wp_seq ?_
 refine qas [(0,.v (.slice A s.length c)),(8,.v (.bool (decide (((s.length:Nat):Int) < 1))))] hW hE6 fun a7 hE8=>?_
 refine qam hE8 (b:=decide (((s.length:Nat):Int) < 1)) kz (decide_eq_false (by omega)) ?_
 refine wp_skip ?_
 refine qab ?_
 refine qad [0,1,2,3,4,5] kz ?_
 refine qal [0] [1,2,3,4,5] [(0,.v (.slice A s.length c)),(9,.v (.slice A s.length c))] hW hE8 fun a9 am=>?_
 obtain ⟨aM,aO,ae,aT,aa⟩:=Slots.get ho (i:=0) (by first | omega | (simp only [List.length_append,be_length,List.length_cons,List.length_nil] at *; omega))
 refine qak (qan am (t:=22) (A:=A) (m:=s.length) (q:=0) (d:=10) kz (e:=5) (size:=1) (bytes:=1) (j:=0) kz ae rfl (by first | omega | (simp only [List.length_append,be_length,List.length_cons,List.length_nil] at *; omega)) fun aW ao=>?_)
 refine qak (qat ao (t:=5) (b:=aM) (o:=aO + 0 * 1) (d:=11) kz (cs:=[.int .u8 ((s.getD 0 0).toNat:Int)]) (v:=.int .u8 ((s.getD 0 0).toNat:Int)) kz (AtF.move aa hW.step nilM qaI).at_ fun aX ap=>?_)
 refine qal [3,4,5] [] [(0,.v (.slice A s.length c)),(4,.v (.int .u32 (IntKind.u32.wrap (IntKind.u8.wrap (BitVec.ofInt 8 ((s.getD 0 0).toNat:Int) &&& BitVec.ofInt 8 127).toNat))))] hW ap fun aY ar=>?_
 refine qaf (qab ?_)
 refine wp_seq ?_
 refine qad [0,1,2,3,4] kz ?_
 refine qal [0] [1,2,3,4] [(0,.v (.slice A s.length c)),(4,.v (.int .u32 (IntKind.u32.wrap (IntKind.u8.wrap (BitVec.ofInt 8 ((s.getD 0 0).toNat:Int) &&& BitVec.ofInt 8 127).toNat)))),(14,.v (.slice A s.length c))] hW ar fun aZ au=>?_
 refine qak (qan au (t:=22) (A:=A) (m:=s.length) (q:=0) (d:=15) kz (e:=5) (size:=1) (bytes:=1) (j:=0) kz ae rfl (by first | omega | (simp only [List.length_append,be_length,List.length_cons,List.length_nil] at *; omega)) fun ba av=>?_)
 refine qak (qat av (t:=5) (b:=aM) (o:=aO + 0 * 1) (d:=16) kz (cs:=[.int .u8 ((s.getD 0 0).toNat:Int)]) (v:=.int .u8 ((s.getD 0 0).toNat:Int)) kz (AtF.move aa hW.step nilM qaI).at_ fun bf aw=>?_)
 refine qal [3,4] [] [(0,.v (.slice A s.length c)),(4,.v (.int .u32 (IntKind.u32.wrap (IntKind.u8.wrap (BitVec.ofInt 8 ((s.getD 0 0).toNat:Int) &&& BitVec.ofInt 8 127).toNat)))),(18,.v (.bool ((IntKind.u8.wrap (BitVec.ofInt 8 ((s.getD 0 0).toNat:Int) &&& BitVec.ofInt 8 128).toNat) == 0)))] hW aw fun bg af=>?_
 refine qaf (qab ?_)
 refine qam af (b:=(IntKind.u8.wrap (BitVec.ofInt 8 ((s.getD 0 0).toNat:Int) &&& BitVec.ofInt 8 128).toNat) == 0) kz ((qbv _ (qa6 s 0)).trans (decide_eq_false (by have:=h0; unfold oc at this; omega))) ?_
 refine qas [(0,.v (.slice A s.length c)),(4,.v (.int .u32 (IntKind.u32.wrap (IntKind.u8.wrap (BitVec.ofInt 8 ((s.getD 0 0).toNat:Int) &&& BitVec.ofInt 8 127).toNat)))),(22,.v (.bool (decide (((s.length:Nat):Int) < 2))))] hW af fun bh ag=>?_
 refine qam ag (b:=decide (((s.length:Nat):Int) < 2)) kz (decide_eq_false (by omega)) ?_
 refine wp_skip ?_
 refine qab ?_
 refine qad [0,1,2,3,4,5,6,7,8] kz ?_
 refine qal [0,1] [2,3,4,5,6,7,8] [(0,.v (.slice A s.length c)),(23,.v (.int .u32 (IntKind.u32.wrap (IntKind.u8.wrap (BitVec.ofInt 8 ((s.getD 0 0).toNat:Int) &&& BitVec.ofInt 8 127).toNat)))),(24,.v (.slice A s.length c))] hW ag fun bi ax=>?_
 obtain ⟨aP,aQ,ah,aU,ab⟩:=Slots.get ho (i:=1) (by first | omega | (simp only [List.length_append,be_length,List.length_cons,List.length_nil] at *; omega))
 refine qak (qan ax (t:=22) (A:=A) (m:=s.length) (q:=1) (d:=25) kz (e:=5) (size:=1) (bytes:=1) (j:=1) kz ah rfl (by first | omega | (simp only [List.length_append,be_length,List.length_cons,List.length_nil] at *; omega)) fun bj ay=>?_)
 refine qak (qat ay (t:=5) (b:=aP) (o:=aQ + 1 * 1) (d:=26) kz (cs:=[.int .u8 ((s.getD 1 0).toNat:Int)]) (v:=.int .u8 ((s.getD 1 0).toNat:Int)) kz (AtF.move ab hW.step nilM qaI).at_ fun bk az=>?_)
 refine qal [4,5,6,7,8] [] [(0,.v (.slice A s.length c)),(4,.v (.int .u32 (IntKind.u32.wrap (BitVec.ofInt 32 (IntKind.u32.wrap (IntKind.u8.wrap (BitVec.ofInt 8 ((s.getD 0 0).toNat:Int) &&& BitVec.ofInt 8 127).toNat)) ||| BitVec.ofInt 32 (IntKind.u32.wrap ((IntKind.u32.wrap (IntKind.u8.wrap (BitVec.ofInt 8 ((s.getD 1 0).toNat:Int) &&& BitVec.ofInt 8 127).toNat)) * 128))).toNat)))] hW az fun bn aA=>?_
 refine qaf (qab ?_)
 refine wp_seq ?_
 refine qad [0,1,2,3,4] kz ?_
 refine qal [0] [1,2,3,4] [(0,.v (.slice A s.length c)),(4,.v (.int .u32 (IntKind.u32.wrap (BitVec.ofInt 32 (IntKind.u32.wrap (IntKind.u8.wrap (BitVec.ofInt 8 ((s.getD 0 0).toNat:Int) &&& BitVec.ofInt 8 127).toNat)) ||| BitVec.ofInt 32 (IntKind.u32.wrap ((IntKind.u32.wrap (IntKind.u8.wrap (BitVec.ofInt 8 ((s.getD 1 0).toNat:Int) &&& BitVec.ofInt 8 127).toNat)) * 128))).toNat))),(31,.v (.slice A s.length c))] hW aA fun bo aB=>?_
 refine qak (qan aB (t:=22) (A:=A) (m:=s.length) (q:=1) (d:=32) kz (e:=5) (size:=1) (bytes:=1) (j:=1) kz ah rfl (by first | omega | (simp only [List.length_append,be_length,List.length_cons,List.length_nil] at *; omega)) fun bp aC=>?_)
 refine qak (qat aC (t:=5) (b:=aP) (o:=aQ + 1 * 1) (d:=33) kz (cs:=[.int .u8 ((s.getD 1 0).toNat:Int)]) (v:=.int .u8 ((s.getD 1 0).toNat:Int)) kz (AtF.move ab hW.step nilM qaI).at_ fun bq aD=>?_)
 refine qal [3,4] [] [(0,.v (.slice A s.length c)),(4,.v (.int .u32 (IntKind.u32.wrap (BitVec.ofInt 32 (IntKind.u32.wrap (IntKind.u8.wrap (BitVec.ofInt 8 ((s.getD 0 0).toNat:Int) &&& BitVec.ofInt 8 127).toNat)) ||| BitVec.ofInt 32 (IntKind.u32.wrap ((IntKind.u32.wrap (IntKind.u8.wrap (BitVec.ofInt 8 ((s.getD 1 0).toNat:Int) &&& BitVec.ofInt 8 127).toNat)) * 128))).toNat))),(35,.v (.bool ((IntKind.u8.wrap (BitVec.ofInt 8 ((s.getD 1 0).toNat:Int) &&& BitVec.ofInt 8 128).toNat) == 0)))] hW aD fun bt ai=>?_
 refine qaf (qab ?_)
 refine qam ai (b:=(IntKind.u8.wrap (BitVec.ofInt 8 ((s.getD 1 0).toNat:Int) &&& BitVec.ofInt 8 128).toNat) == 0) kz ((qbv _ (qa6 s 1)).trans (decide_eq_false (by have:=h1; unfold oc at this; omega))) ?_
 refine qas [(0,.v (.slice A s.length c)),(4,.v (.int .u32 (IntKind.u32.wrap (BitVec.ofInt 32 (IntKind.u32.wrap (IntKind.u8.wrap (BitVec.ofInt 8 ((s.getD 0 0).toNat:Int) &&& BitVec.ofInt 8 127).toNat)) ||| BitVec.ofInt 32 (IntKind.u32.wrap ((IntKind.u32.wrap (IntKind.u8.wrap (BitVec.ofInt 8 ((s.getD 1 0).toNat:Int) &&& BitVec.ofInt 8 127).toNat)) * 128))).toNat))),(39,.v (.bool (decide (((s.length:Nat):Int) < 3))))] hW ai fun bu aj=>?_
 refine qam aj (b:=decide (((s.length:Nat):Int) < 3)) kz (decide_eq_false (by omega)) ?_
 refine wp_skip ?_
 refine qab ?_
 refine qad [0,1,2,3,4,5,6,7,8] kz ?_
 refine qal [0,1] [2,3,4,5,6,7,8] [(0,.v (.slice A s.length c)),(40,.v (.int .u32 (IntKind.u32.wrap (BitVec.ofInt 32 (IntKind.u32.wrap (IntKind.u8.wrap (BitVec.ofInt 8 ((s.getD 0 0).toNat:Int) &&& BitVec.ofInt 8 127).toNat)) ||| BitVec.ofInt 32 (IntKind.u32.wrap ((IntKind.u32.wrap (IntKind.u8.wrap (BitVec.ofInt 8 ((s.getD 1 0).toNat:Int) &&& BitVec.ofInt 8 127).toNat)) * 128))).toNat))),(41,.v (.slice A s.length c))] hW aj fun bw aE=>?_
 obtain ⟨aR,aS,ak,aV,ac⟩:=Slots.get ho (i:=2) (by first | omega | (simp only [List.length_append,be_length,List.length_cons,List.length_nil] at *; omega))
 refine qak (qan aE (t:=22) (A:=A) (m:=s.length) (q:=2) (d:=42) kz (e:=5) (size:=1) (bytes:=1) (j:=2) kz ak rfl (by first | omega | (simp only [List.length_append,be_length,List.length_cons,List.length_nil] at *; omega)) fun bx aF=>?_)
 refine qak (qat aF (t:=5) (b:=aR) (o:=aS + 2 * 1) (d:=43) kz (cs:=[.int .u8 ((s.getD 2 0).toNat:Int)]) (v:=.int .u8 ((s.getD 2 0).toNat:Int)) kz (AtF.move ac hW.step nilM qaI).at_ fun bz aG=>?_)
 refine qal [4,5,6,7,8] [] [(0,.v (.slice A s.length c)),(4,.v (.int .u32 (IntKind.u32.wrap (BitVec.ofInt 32 (IntKind.u32.wrap (BitVec.ofInt 32 (IntKind.u32.wrap (IntKind.u8.wrap (BitVec.ofInt 8 ((s.getD 0 0).toNat:Int) &&& BitVec.ofInt 8 127).toNat)) ||| BitVec.ofInt 32 (IntKind.u32.wrap ((IntKind.u32.wrap (IntKind.u8.wrap (BitVec.ofInt 8 ((s.getD 1 0).toNat:Int) &&& BitVec.ofInt 8 127).toNat)) * 128))).toNat) ||| BitVec.ofInt 32 (IntKind.u32.wrap ((IntKind.u32.wrap (IntKind.u8.wrap (BitVec.ofInt 8 ((s.getD 2 0).toNat:Int) &&& BitVec.ofInt 8 127).toNat)) * 16384))).toNat)))] hW aG fun bA aH=>?_
 refine qaf (qab ?_)
 refine wp_seq ?_
 refine qad [0,1,2,3,4] kz ?_
 refine qal [0] [1,2,3,4] [(0,.v (.slice A s.length c)),(4,.v (.int .u32 (IntKind.u32.wrap (BitVec.ofInt 32 (IntKind.u32.wrap (BitVec.ofInt 32 (IntKind.u32.wrap (IntKind.u8.wrap (BitVec.ofInt 8 ((s.getD 0 0).toNat:Int) &&& BitVec.ofInt 8 127).toNat)) ||| BitVec.ofInt 32 (IntKind.u32.wrap ((IntKind.u32.wrap (IntKind.u8.wrap (BitVec.ofInt 8 ((s.getD 1 0).toNat:Int) &&& BitVec.ofInt 8 127).toNat)) * 128))).toNat) ||| BitVec.ofInt 32 (IntKind.u32.wrap ((IntKind.u32.wrap (IntKind.u8.wrap (BitVec.ofInt 8 ((s.getD 2 0).toNat:Int) &&& BitVec.ofInt 8 127).toNat)) * 16384))).toNat))),(48,.v (.slice A s.length c))] hW aH fun bB aI=>?_
 refine qak (qan aI (t:=22) (A:=A) (m:=s.length) (q:=2) (d:=49) kz (e:=5) (size:=1) (bytes:=1) (j:=2) kz ak rfl (by first | omega | (simp only [List.length_append,be_length,List.length_cons,List.length_nil] at *; omega)) fun bC aJ=>?_)
 refine qak (qat aJ (t:=5) (b:=aR) (o:=aS + 2 * 1) (d:=50) kz (cs:=[.int .u8 ((s.getD 2 0).toNat:Int)]) (v:=.int .u8 ((s.getD 2 0).toNat:Int)) kz (AtF.move ac hW.step nilM qaI).at_ fun bD aK=>?_)
 refine qal [3,4] [] [(0,.v (.slice A s.length c)),(4,.v (.int .u32 (IntKind.u32.wrap (BitVec.ofInt 32 (IntKind.u32.wrap (BitVec.ofInt 32 (IntKind.u32.wrap (IntKind.u8.wrap (BitVec.ofInt 8 ((s.getD 0 0).toNat:Int) &&& BitVec.ofInt 8 127).toNat)) ||| BitVec.ofInt 32 (IntKind.u32.wrap ((IntKind.u32.wrap (IntKind.u8.wrap (BitVec.ofInt 8 ((s.getD 1 0).toNat:Int) &&& BitVec.ofInt 8 127).toNat)) * 128))).toNat) ||| BitVec.ofInt 32 (IntKind.u32.wrap ((IntKind.u32.wrap (IntKind.u8.wrap (BitVec.ofInt 8 ((s.getD 2 0).toNat:Int) &&& BitVec.ofInt 8 127).toNat)) * 16384))).toNat))),(52,.v (.bool ((IntKind.u8.wrap (BitVec.ofInt 8 ((s.getD 2 0).toNat:Int) &&& BitVec.ofInt 8 128).toNat) == 0)))] hW aK fun bE al=>?_
 refine qaf (qab ?_)
 refine qaO al (b:=(IntKind.u8.wrap (BitVec.ofInt 8 ((s.getD 2 0).toNat:Int) &&& BitVec.ofInt 8 128).toNat) == 0) kz ((qbv _ (qa6 s 2)).trans (decide_eq_true (by have:=h2; unfold oc at this; omega))) ?_
 refine qas [(2,.v (.int .u32 (IntKind.u32.wrap (BitVec.ofInt 32 (IntKind.u32.wrap (BitVec.ofInt 32 (IntKind.u32.wrap (IntKind.u8.wrap (BitVec.ofInt 8 ((s.getD 0 0).toNat:Int) &&& BitVec.ofInt 8 127).toNat)) ||| BitVec.ofInt 32 (IntKind.u32.wrap ((IntKind.u32.wrap (IntKind.u8.wrap (BitVec.ofInt 8 ((s.getD 1 0).toNat:Int) &&& BitVec.ofInt 8 127).toNat)) * 128))).toNat) ||| BitVec.ofInt 32 (IntKind.u32.wrap ((IntKind.u32.wrap (IntKind.u8.wrap (BitVec.ofInt 8 ((s.getD 2 0).toNat:Int) &&& BitVec.ofInt 8 127).toNat)) * 16384))).toNat))),(3,.v (.int .i64 3))] hW al fun bF aL=>?_
 refine wp_ret ?_
 refine qaX ?_
 refine qcK ?_
 refine qaV aL hW.cells (v:=.tuple #[.int .u32 (IntKind.u32.wrap (BitVec.ofInt 32 (IntKind.u32.wrap (BitVec.ofInt 32 (IntKind.u32.wrap (IntKind.u8.wrap (BitVec.ofInt 8 ((s.getD 0 0).toNat:Int) &&& BitVec.ofInt 8 127).toNat)) ||| BitVec.ofInt 32 (IntKind.u32.wrap ((IntKind.u32.wrap (IntKind.u8.wrap (BitVec.ofInt 8 ((s.getD 1 0).toNat:Int) &&& BitVec.ofInt 8 127).toNat)) * 128))).toNat) ||| BitVec.ofInt 32 (IntKind.u32.wrap ((IntKind.u32.wrap (IntKind.u8.wrap (BitVec.ofInt 8 ((s.getD 2 0).toNat:Int) &&& BitVec.ofInt 8 127).toNat)) * 16384))).toNat),.int .i64 3]) kz ?_
 have e_:=uv_3 (oc s 0) (oc s 1) (oc s 2) (qa6 s 0) (qa6 s 1) (qa6 s 2)
 refine ⟨congrArg (fun z_:Int=>Ending.returned (.tuple #[.int .u32 z_,.int .i64 3])) (Eq.trans e_ ?_),hW.step⟩
 omega
theorem rUv4 {A:Option Addr} {c:Nat} (s:Bs) {w:World} {F:Nat → Nat → Prop} (ho:Octs w F A c s) (hl:4 ≤ s.length) (d0 d1 d2 d3:Nat) (h0:oc s 0 = d0 + 128) (h1:oc s 1 = d1 + 128) (h2:oc s 2 = d2 + 128) (h3:oc s 3 = d3) (g0:d0 < 128) (g1:d1 < 128) (g2:d2 < 128) (g3:d3 < 128) :
  Calls Tryd.prog 68 #[.slice A s.length c] w (qcn w (.tuple #[.int .u32 ((d0 + d1 * 128 + d2 * 16384 + d3 * 2097152:Nat):Int),.int .i64 4])):=by
 refine enter (n:=87) Tryd.func68 rfl Tryd.ntmps68 kz fun a hE=>?_
 have hW:=WOk.start w Nil
 refine qas [(0,.v (.slice A s.length c))] hW hE fun a1 hE2=>?_
 refine wp_scope_straight ?_
 refine qas [(0,.v (.slice A s.length c))] hW hE2 fun a3 hE4=>?_
 refine qas [(0,.v (.slice A s.length c))] hW hE4 fun a5 hE6=>?_
 refine wp_seq ?_
 refine qas [(0,.v (.slice A s.length c)),(8,.v (.bool (decide (((s.length:Nat):Int) < 1))))] hW hE6 fun a7 hE8=>?_
 refine qam hE8 (b:=decide (((s.length:Nat):Int) < 1)) kz (decide_eq_false (by omega)) ?_
 refine wp_skip ?_
 refine qab ?_
 refine qad [0,1,2,3,4,5] kz ?_
 refine qal [0] [1,2,3,4,5] [(0,.v (.slice A s.length c)),(9,.v (.slice A s.length c))] hW hE8 fun a9 av=>?_
 obtain ⟨aY,aZ,af,bk,aa⟩:=Slots.get ho (i:=0) (by first | omega | (simp only [List.length_append,be_length,List.length_cons,List.length_nil] at *; omega))
 refine qak (qan av (t:=22) (A:=A) (m:=s.length) (q:=0) (d:=10) kz (e:=5) (size:=1) (bytes:=1) (j:=0) kz af rfl (by first | omega | (simp only [List.length_append,be_length,List.length_cons,List.length_nil] at *; omega)) fun bq aw=>?_)
 refine qak (qat aw (t:=5) (b:=aY) (o:=aZ + 0 * 1) (d:=11) kz (cs:=[.int .u8 ((s.getD 0 0).toNat:Int)]) (v:=.int .u8 ((s.getD 0 0).toNat:Int)) kz (AtF.move aa hW.step nilM qaI).at_ fun bt ax=>?_)
 refine qal [3,4,5] [] [(0,.v (.slice A s.length c)),(4,.v (.int .u32 (IntKind.u32.wrap (IntKind.u8.wrap (BitVec.ofInt 8 ((s.getD 0 0).toNat:Int) &&& BitVec.ofInt 8 127).toNat))))] hW ax fun bu ay=>?_
 refine qaf (qab ?_)
 refine wp_seq ?_
 refine qad [0,1,2,3,4] kz ?_
 refine qal [0] [1,2,3,4] [(0,.v (.slice A s.length c)),(4,.v (.int .u32 (IntKind.u32.wrap (IntKind.u8.wrap (BitVec.ofInt 8 ((s.getD 0 0).toNat:Int) &&& BitVec.ofInt 8 127).toNat)))),(14,.v (.slice A s.length c))] hW ay fun bw az=>?_
 refine qak (qan az (t:=22) (A:=A) (m:=s.length) (q:=0) (d:=15) kz (e:=5) (size:=1) (bytes:=1) (j:=0) kz af rfl (by first | omega | (simp only [List.length_append,be_length,List.length_cons,List.length_nil] at *; omega)) fun bx aA=>?_)
 refine qak (qat aA (t:=5) (b:=aY) (o:=aZ + 0 * 1) (d:=16) kz (cs:=[.int .u8 ((s.getD 0 0).toNat:Int)]) (v:=.int .u8 ((s.getD 0 0).toNat:Int)) kz (AtF.move aa hW.step nilM qaI).at_ fun bz aB=>?_)
 refine qal [3,4] [] [(0,.v (.slice A s.length c)),(4,.v (.int .u32 (IntKind.u32.wrap (IntKind.u8.wrap (BitVec.ofInt 8 ((s.getD 0 0).toNat:Int) &&& BitVec.ofInt 8 127).toNat)))),(18,.v (.bool ((IntKind.u8.wrap (BitVec.ofInt 8 ((s.getD 0 0).toNat:Int) &&& BitVec.ofInt 8 128).toNat) == 0)))] hW aB fun bA ag=>?_
 refine qaf (qab ?_)
 refine qam ag (b:=(IntKind.u8.wrap (BitVec.ofInt 8 ((s.getD 0 0).toNat:Int) &&& BitVec.ofInt 8 128).toNat) == 0) kz ((qbv _ (qa6 s 0)).trans (decide_eq_false (by have:=h0; unfold oc at this; omega))) ?_
 refine qas [(0,.v (.slice A s.length c)),(4,.v (.int .u32 (IntKind.u32.wrap (IntKind.u8.wrap (BitVec.ofInt 8 ((s.getD 0 0).toNat:Int) &&& BitVec.ofInt 8 127).toNat)))),(22,.v (.bool (decide (((s.length:Nat):Int) < 2))))] hW ag fun bB ah=>?_
 refine qam ah (b:=decide (((s.length:Nat):Int) < 2)) kz (decide_eq_false (by omega)) ?_
 refine wp_skip ?_
 refine qab ?_
 refine qad [0,1,2,3,4,5,6,7,8] kz ?_
 refine qal [0,1] [2,3,4,5,6,7,8] [(0,.v (.slice A s.length c)),(23,.v (.int .u32 (IntKind.u32.wrap (IntKind.u8.wrap (BitVec.ofInt 8 ((s.getD 0 0).toNat:Int) &&& BitVec.ofInt 8 127).toNat)))),(24,.v (.slice A s.length c))] hW ah fun bC aC=>?_
 obtain ⟨ba,bf,ai,bn,ab⟩:=Slots.get ho (i:=1) (by first | omega | (simp only [List.length_append,be_length,List.length_cons,List.length_nil] at *; omega))
 refine qak (qan aC (t:=22) (A:=A) (m:=s.length) (q:=1) (d:=25) kz (e:=5) (size:=1) (bytes:=1) (j:=1) kz ai rfl (by first | omega | (simp only [List.length_append,be_length,List.length_cons,List.length_nil] at *; omega)) fun bD aD=>?_)
 refine qak (qat aD (t:=5) (b:=ba) (o:=bf + 1 * 1) (d:=26) kz (cs:=[.int .u8 ((s.getD 1 0).toNat:Int)]) (v:=.int .u8 ((s.getD 1 0).toNat:Int)) kz (AtF.move ab hW.step nilM qaI).at_ fun bE aE=>?_)
 refine qal [4,5,6,7,8] [] [(0,.v (.slice A s.length c)),(4,.v (.int .u32 (IntKind.u32.wrap (BitVec.ofInt 32 (IntKind.u32.wrap (IntKind.u8.wrap (BitVec.ofInt 8 ((s.getD 0 0).toNat:Int) &&& BitVec.ofInt 8 127).toNat)) ||| BitVec.ofInt 32 (IntKind.u32.wrap ((IntKind.u32.wrap (IntKind.u8.wrap (BitVec.ofInt 8 ((s.getD 1 0).toNat:Int) &&& BitVec.ofInt 8 127).toNat)) * 128))).toNat)))] hW aE fun bF aF=>?_
 refine qaf (qab ?_)
 refine wp_seq ?_
 refine qad [0,1,2,3,4] kz ?_
 refine qal [0] [1,2,3,4] [(0,.v (.slice A s.length c)),(4,.v (.int .u32 (IntKind.u32.wrap (BitVec.ofInt 32 (IntKind.u32.wrap (IntKind.u8.wrap (BitVec.ofInt 8 ((s.getD 0 0).toNat:Int) &&& BitVec.ofInt 8 127).toNat)) ||| BitVec.ofInt 32 (IntKind.u32.wrap ((IntKind.u32.wrap (IntKind.u8.wrap (BitVec.ofInt 8 ((s.getD 1 0).toNat:Int) &&& BitVec.ofInt 8 127).toNat)) * 128))).toNat))),(31,.v (.slice A s.length c))] hW aF fun bG aG=>?_
 refine qak (qan aG (t:=22) (A:=A) (m:=s.length) (q:=1) (d:=32) kz (e:=5) (size:=1) (bytes:=1) (j:=1) kz ai rfl (by first | omega | (simp only [List.length_append,be_length,List.length_cons,List.length_nil] at *; omega)) fun bH aH=>?_)
 refine qak (qat aH (t:=5) (b:=ba) (o:=bf + 1 * 1) (d:=33) kz (cs:=[.int .u8 ((s.getD 1 0).toNat:Int)]) (v:=.int .u8 ((s.getD 1 0).toNat:Int)) kz (AtF.move ab hW.step nilM qaI).at_ fun bI aI=>?_)
 refine qal [3,4] [] [(0,.v (.slice A s.length c)),(4,.v (.int .u32 (IntKind.u32.wrap (BitVec.ofInt 32 (IntKind.u32.wrap (IntKind.u8.wrap (BitVec.ofInt 8 ((s.getD 0 0).toNat:Int) &&& BitVec.ofInt 8 127).toNat)) ||| BitVec.ofInt 32 (IntKind.u32.wrap ((IntKind.u32.wrap (IntKind.u8.wrap (BitVec.ofInt 8 ((s.getD 1 0).toNat:Int) &&& BitVec.ofInt 8 127).toNat)) * 128))).toNat))),(35,.v (.bool ((IntKind.u8.wrap (BitVec.ofInt 8 ((s.getD 1 0).toNat:Int) &&& BitVec.ofInt 8 128).toNat) == 0)))] hW aI fun bJ aj=>?_
 refine qaf (qab ?_)
 refine qam aj (b:=(IntKind.u8.wrap (BitVec.ofInt 8 ((s.getD 1 0).toNat:Int) &&& BitVec.ofInt 8 128).toNat) == 0) kz ((qbv _ (qa6 s 1)).trans (decide_eq_false (by have:=h1; unfold oc at this; omega))) ?_
 refine qas [(0,.v (.slice A s.length c)),(4,.v (.int .u32 (IntKind.u32.wrap (BitVec.ofInt 32 (IntKind.u32.wrap (IntKind.u8.wrap (BitVec.ofInt 8 ((s.getD 0 0).toNat:Int) &&& BitVec.ofInt 8 127).toNat)) ||| BitVec.ofInt 32 (IntKind.u32.wrap ((IntKind.u32.wrap (IntKind.u8.wrap (BitVec.ofInt 8 ((s.getD 1 0).toNat:Int) &&& BitVec.ofInt 8 127).toNat)) * 128))).toNat))),(39,.v (.bool (decide (((s.length:Nat):Int) < 3))))] hW aj fun bK ak=>?_
 refine qam ak (b:=decide (((s.length:Nat):Int) < 3)) kz (decide_eq_false (by omega)) ?_
 refine wp_skip ?_
 refine qab ?_
 refine qad [0,1,2,3,4,5,6,7,8] kz ?_
 refine qal [0,1] [2,3,4,5,6,7,8] [(0,.v (.slice A s.length c)),(40,.v (.int .u32 (IntKind.u32.wrap (BitVec.ofInt 32 (IntKind.u32.wrap (IntKind.u8.wrap (BitVec.ofInt 8 ((s.getD 0 0).toNat:Int) &&& BitVec.ofInt 8 127).toNat)) ||| BitVec.ofInt 32 (IntKind.u32.wrap ((IntKind.u32.wrap (IntKind.u8.wrap (BitVec.ofInt 8 ((s.getD 1 0).toNat:Int) &&& BitVec.ofInt 8 127).toNat)) * 128))).toNat))),(41,.v (.slice A s.length c))] hW ak fun bL aJ=>?_
 obtain ⟨bg,bh,al,bo,ac⟩:=Slots.get ho (i:=2) (by first | omega | (simp only [List.length_append,be_length,List.length_cons,List.length_nil] at *; omega))
 refine qak (qan aJ (t:=22) (A:=A) (m:=s.length) (q:=2) (d:=42) kz (e:=5) (size:=1) (bytes:=1) (j:=2) kz al rfl (by first | omega | (simp only [List.length_append,be_length,List.length_cons,List.length_nil] at *; omega)) fun bM aK=>?_)
 refine qak (qat aK (t:=5) (b:=bg) (o:=bh + 2 * 1) (d:=43) kz (cs:=[.int .u8 ((s.getD 2 0).toNat:Int)]) (v:=.int .u8 ((s.getD 2 0).toNat:Int)) kz (AtF.move ac hW.step nilM qaI).at_ fun bN aL=>?_)
 refine qal [4,5,6,7,8] [] [(0,.v (.slice A s.length c)),(4,.v (.int .u32 (IntKind.u32.wrap (BitVec.ofInt 32 (IntKind.u32.wrap (BitVec.ofInt 32 (IntKind.u32.wrap (IntKind.u8.wrap (BitVec.ofInt 8 ((s.getD 0 0).toNat:Int) &&& BitVec.ofInt 8 127).toNat)) ||| BitVec.ofInt 32 (IntKind.u32.wrap ((IntKind.u32.wrap (IntKind.u8.wrap (BitVec.ofInt 8 ((s.getD 1 0).toNat:Int) &&& BitVec.ofInt 8 127).toNat)) * 128))).toNat) ||| BitVec.ofInt 32 (IntKind.u32.wrap ((IntKind.u32.wrap (IntKind.u8.wrap (BitVec.ofInt 8 ((s.getD 2 0).toNat:Int) &&& BitVec.ofInt 8 127).toNat)) * 16384))).toNat)))] hW aL fun bO aM=>?_
 refine qaf (qab ?_)
 refine wp_seq ?_
 refine qad [0,1,2,3,4] kz ?_
 refine qal [0] [1,2,3,4] [(0,.v (.slice A s.length c)),(4,.v (.int .u32 (IntKind.u32.wrap (BitVec.ofInt 32 (IntKind.u32.wrap (BitVec.ofInt 32 (IntKind.u32.wrap (IntKind.u8.wrap (BitVec.ofInt 8 ((s.getD 0 0).toNat:Int) &&& BitVec.ofInt 8 127).toNat)) ||| BitVec.ofInt 32 (IntKind.u32.wrap ((IntKind.u32.wrap (IntKind.u8.wrap (BitVec.ofInt 8 ((s.getD 1 0).toNat:Int) &&& BitVec.ofInt 8 127).toNat)) * 128))).toNat) ||| BitVec.ofInt 32 (IntKind.u32.wrap ((IntKind.u32.wrap (IntKind.u8.wrap (BitVec.ofInt 8 ((s.getD 2 0).toNat:Int) &&& BitVec.ofInt 8 127).toNat)) * 16384))).toNat))),(48,.v (.slice A s.length c))] hW aM fun bP aO=>?_
 refine qak (qan aO (t:=22) (A:=A) (m:=s.length) (q:=2) (d:=49) kz (e:=5) (size:=1) (bytes:=1) (j:=2) kz al rfl (by first | omega | (simp only [List.length_append,be_length,List.length_cons,List.length_nil] at *; omega)) fun bQ aP=>?_)
 refine qak (qat aP (t:=5) (b:=bg) (o:=bh + 2 * 1) (d:=50) kz (cs:=[.int .u8 ((s.getD 2 0).toNat:Int)]) (v:=.int .u8 ((s.getD 2 0).toNat:Int)) kz (AtF.move ac hW.step nilM qaI).at_ fun bR aQ=>?_)
 refine qal [3,4] [] [(0,.v (.slice A s.length c)),(4,.v (.int .u32 (IntKind.u32.wrap (BitVec.ofInt 32 (IntKind.u32.wrap (BitVec.ofInt 32 (IntKind.u32.wrap (IntKind.u8.wrap (BitVec.ofInt 8 ((s.getD 0 0).toNat:Int) &&& BitVec.ofInt 8 127).toNat)) ||| BitVec.ofInt 32 (IntKind.u32.wrap ((IntKind.u32.wrap (IntKind.u8.wrap (BitVec.ofInt 8 ((s.getD 1 0).toNat:Int) &&& BitVec.ofInt 8 127).toNat)) * 128))).toNat) ||| BitVec.ofInt 32 (IntKind.u32.wrap ((IntKind.u32.wrap (IntKind.u8.wrap (BitVec.ofInt 8 ((s.getD 2 0).toNat:Int) &&& BitVec.ofInt 8 127).toNat)) * 16384))).toNat))),(52,.v (.bool ((IntKind.u8.wrap (BitVec.ofInt 8 ((s.getD 2 0).toNat:Int) &&& BitVec.ofInt 8 128).toNat) == 0)))] hW aQ fun bS am=>?_
 refine qaf (qab ?_)
 refine qam am (b:=(IntKind.u8.wrap (BitVec.ofInt 8 ((s.getD 2 0).toNat:Int) &&& BitVec.ofInt 8 128).toNat) == 0) kz ((qbv _ (qa6 s 2)).trans (decide_eq_false (by have:=h2; unfold oc at this; omega))) ?_
 refine qas [(0,.v (.slice A s.length c)),(4,.v (.int .u32 (IntKind.u32.wrap (BitVec.ofInt 32 (IntKind.u32.wrap (BitVec.ofInt 32 (IntKind.u32.wrap (IntKind.u8.wrap (BitVec.ofInt 8 ((s.getD 0 0).toNat:Int) &&& BitVec.ofInt 8 127).toNat)) ||| BitVec.ofInt 32 (IntKind.u32.wrap ((IntKind.u32.wrap (IntKind.u8.wrap (BitVec.ofInt 8 ((s.getD 1 0).toNat:Int) &&& BitVec.ofInt 8 127).toNat)) * 128))).toNat) ||| BitVec.ofInt 32 (IntKind.u32.wrap ((IntKind.u32.wrap (IntKind.u8.wrap (BitVec.ofInt 8 ((s.getD 2 0).toNat:Int) &&& BitVec.ofInt 8 127).toNat)) * 16384))).toNat))),(56,.v (.bool (decide (((s.length:Nat):Int) < 4))))] hW am fun bT ao=>?_
 refine qam ao (b:=decide (((s.length:Nat):Int) < 4)) kz (decide_eq_false (by omega)) ?_
 refine wp_skip ?_
 refine qab ?_
 refine qad [0,1,2,3,4,5,6,7,8] kz ?_
 refine qal [0,1] [2,3,4,5,6,7,8] [(0,.v (.slice A s.length c)),(57,.v (.int .u32 (IntKind.u32.wrap (BitVec.ofInt 32 (IntKind.u32.wrap (BitVec.ofInt 32 (IntKind.u32.wrap (IntKind.u8.wrap (BitVec.ofInt 8 ((s.getD 0 0).toNat:Int) &&& BitVec.ofInt 8 127).toNat)) ||| BitVec.ofInt 32 (IntKind.u32.wrap ((IntKind.u32.wrap (IntKind.u8.wrap (BitVec.ofInt 8 ((s.getD 1 0).toNat:Int) &&& BitVec.ofInt 8 127).toNat)) * 128))).toNat) ||| BitVec.ofInt 32 (IntKind.u32.wrap ((IntKind.u32.wrap (IntKind.u8.wrap (BitVec.ofInt 8 ((s.getD 2 0).toNat:Int) &&& BitVec.ofInt 8 127).toNat)) * 16384))).toNat))),(58,.v (.slice A s.length c))] hW ao fun bU aR=>?_
 obtain ⟨bi,bj,ap,bp,ae⟩:=Slots.get ho (i:=3) (by first | omega | (simp only [List.length_append,be_length,List.length_cons,List.length_nil] at *; omega))
 refine qak (qan aR (t:=22) (A:=A) (m:=s.length) (q:=3) (d:=59) kz (e:=5) (size:=1) (bytes:=1) (j:=3) kz ap rfl (by first | omega | (simp only [List.length_append,be_length,List.length_cons,List.length_nil] at *; omega)) fun bV aS=>?_)
 refine qak (qat aS (t:=5) (b:=bi) (o:=bj + 3 * 1) (d:=60) kz (cs:=[.int .u8 ((s.getD 3 0).toNat:Int)]) (v:=.int .u8 ((s.getD 3 0).toNat:Int)) kz (AtF.move ae hW.step nilM qaI).at_ fun bW aT=>?_)
 refine qal [4,5,6,7,8] [] [(0,.v (.slice A s.length c)),(4,.v (.int .u32 (IntKind.u32.wrap (BitVec.ofInt 32 (IntKind.u32.wrap (BitVec.ofInt 32 (IntKind.u32.wrap (BitVec.ofInt 32 (IntKind.u32.wrap (IntKind.u8.wrap (BitVec.ofInt 8 ((s.getD 0 0).toNat:Int) &&& BitVec.ofInt 8 127).toNat)) ||| BitVec.ofInt 32 (IntKind.u32.wrap ((IntKind.u32.wrap (IntKind.u8.wrap (BitVec.ofInt 8 ((s.getD 1 0).toNat:Int) &&& BitVec.ofInt 8 127).toNat)) * 128))).toNat) ||| BitVec.ofInt 32 (IntKind.u32.wrap ((IntKind.u32.wrap (IntKind.u8.wrap (BitVec.ofInt 8 ((s.getD 2 0).toNat:Int) &&& BitVec.ofInt 8 127).toNat)) * 16384))).toNat) ||| BitVec.ofInt 32 (IntKind.u32.wrap ((IntKind.u32.wrap (IntKind.u8.wrap (BitVec.ofInt 8 ((s.getD 3 0).toNat:Int) &&& BitVec.ofInt 8 127).toNat)) * 2097152))).toNat)))] hW aT fun bX aU=>?_
 refine qaf (qab ?_)
 refine wp_seq ?_
 refine qad [0,1,2,3,4] kz ?_
 refine qal [0] [1,2,3,4] [(0,.v (.slice A s.length c)),(4,.v (.int .u32 (IntKind.u32.wrap (BitVec.ofInt 32 (IntKind.u32.wrap (BitVec.ofInt 32 (IntKind.u32.wrap (BitVec.ofInt 32 (IntKind.u32.wrap (IntKind.u8.wrap (BitVec.ofInt 8 ((s.getD 0 0).toNat:Int) &&& BitVec.ofInt 8 127).toNat)) ||| BitVec.ofInt 32 (IntKind.u32.wrap ((IntKind.u32.wrap (IntKind.u8.wrap (BitVec.ofInt 8 ((s.getD 1 0).toNat:Int) &&& BitVec.ofInt 8 127).toNat)) * 128))).toNat) ||| BitVec.ofInt 32 (IntKind.u32.wrap ((IntKind.u32.wrap (IntKind.u8.wrap (BitVec.ofInt 8 ((s.getD 2 0).toNat:Int) &&& BitVec.ofInt 8 127).toNat)) * 16384))).toNat) ||| BitVec.ofInt 32 (IntKind.u32.wrap ((IntKind.u32.wrap (IntKind.u8.wrap (BitVec.ofInt 8 ((s.getD 3 0).toNat:Int) &&& BitVec.ofInt 8 127).toNat)) * 2097152))).toNat))),(65,.v (.slice A s.length c))] hW aU fun bY aV=>?_
 refine qak (qan aV (t:=22) (A:=A) (m:=s.length) (q:=3) (d:=66) kz (e:=5) (size:=1) (bytes:=1) (j:=3) kz ap rfl (by first | omega | (simp only [List.length_append,be_length,List.length_cons,List.length_nil] at *; omega)) fun bZ aW=>?_)
 refine qak (qat aW (t:=5) (b:=bi) (o:=bj + 3 * 1) (d:=67) kz (cs:=[.int .u8 ((s.getD 3 0).toNat:Int)]) (v:=.int .u8 ((s.getD 3 0).toNat:Int)) kz (AtF.move ae hW.step nilM qaI).at_ fun b8 aX=>?_)
 refine qal [3,4] [] [(0,.v (.slice A s.length c)),(4,.v (.int .u32 (IntKind.u32.wrap (BitVec.ofInt 32 (IntKind.u32.wrap (BitVec.ofInt 32 (IntKind.u32.wrap (BitVec.ofInt 32 (IntKind.u32.wrap (IntKind.u8.wrap (BitVec.ofInt 8 ((s.getD 0 0).toNat:Int) &&& BitVec.ofInt 8 127).toNat)) ||| BitVec.ofInt 32 (IntKind.u32.wrap ((IntKind.u32.wrap (IntKind.u8.wrap (BitVec.ofInt 8 ((s.getD 1 0).toNat:Int) &&& BitVec.ofInt 8 127).toNat)) * 128))).toNat) ||| BitVec.ofInt 32 (IntKind.u32.wrap ((IntKind.u32.wrap (IntKind.u8.wrap (BitVec.ofInt 8 ((s.getD 2 0).toNat:Int) &&& BitVec.ofInt 8 127).toNat)) * 16384))).toNat) ||| BitVec.ofInt 32 (IntKind.u32.wrap ((IntKind.u32.wrap (IntKind.u8.wrap (BitVec.ofInt 8 ((s.getD 3 0).toNat:Int) &&& BitVec.ofInt 8 127).toNat)) * 2097152))).toNat))),(69,.v (.bool ((IntKind.u8.wrap (BitVec.ofInt 8 ((s.getD 3 0).toNat:Int) &&& BitVec.ofInt 8 128).toNat) == 0)))] hW aX fun b9 ar=>?_
 refine qaf (qab ?_)
 refine qaO ar (b:=(IntKind.u8.wrap (BitVec.ofInt 8 ((s.getD 3 0).toNat:Int) &&& BitVec.ofInt 8 128).toNat) == 0) kz ((qbv _ (qa6 s 3)).trans (decide_eq_true (by have:=h3; unfold oc at this; omega))) ?_
 refine qas [(2,.v (.int .u32 (IntKind.u32.wrap (BitVec.ofInt 32 (IntKind.u32.wrap (BitVec.ofInt 32 (IntKind.u32.wrap (BitVec.ofInt 32 (IntKind.u32.wrap (IntKind.u8.wrap (BitVec.ofInt 8 ((s.getD 0 0).toNat:Int) &&& BitVec.ofInt 8 127).toNat)) ||| BitVec.ofInt 32 (IntKind.u32.wrap ((IntKind.u32.wrap (IntKind.u8.wrap (BitVec.ofInt 8 ((s.getD 1 0).toNat:Int) &&& BitVec.ofInt 8 127).toNat)) * 128))).toNat) ||| BitVec.ofInt 32 (IntKind.u32.wrap ((IntKind.u32.wrap (IntKind.u8.wrap (BitVec.ofInt 8 ((s.getD 2 0).toNat:Int) &&& BitVec.ofInt 8 127).toNat)) * 16384))).toNat) ||| BitVec.ofInt 32 (IntKind.u32.wrap ((IntKind.u32.wrap (IntKind.u8.wrap (BitVec.ofInt 8 ((s.getD 3 0).toNat:Int) &&& BitVec.ofInt 8 127).toNat)) * 2097152))).toNat))),(3,.v (.int .i64 4))] hW ar fun cd au=>?_
 refine wp_ret ?_
 refine qaX ?_
 refine qcK ?_
 refine qaV au hW.cells (v:=.tuple #[.int .u32 (IntKind.u32.wrap (BitVec.ofInt 32 (IntKind.u32.wrap (BitVec.ofInt 32 (IntKind.u32.wrap (BitVec.ofInt 32 (IntKind.u32.wrap (IntKind.u8.wrap (BitVec.ofInt 8 ((s.getD 0 0).toNat:Int) &&& BitVec.ofInt 8 127).toNat)) ||| BitVec.ofInt 32 (IntKind.u32.wrap ((IntKind.u32.wrap (IntKind.u8.wrap (BitVec.ofInt 8 ((s.getD 1 0).toNat:Int) &&& BitVec.ofInt 8 127).toNat)) * 128))).toNat) ||| BitVec.ofInt 32 (IntKind.u32.wrap ((IntKind.u32.wrap (IntKind.u8.wrap (BitVec.ofInt 8 ((s.getD 2 0).toNat:Int) &&& BitVec.ofInt 8 127).toNat)) * 16384))).toNat) ||| BitVec.ofInt 32 (IntKind.u32.wrap ((IntKind.u32.wrap (IntKind.u8.wrap (BitVec.ofInt 8 ((s.getD 3 0).toNat:Int) &&& BitVec.ofInt 8 127).toNat)) * 2097152))).toNat),.int .i64 4]) kz ?_
 have e_:=uv_4 (oc s 0) (oc s 1) (oc s 2) (oc s 3) (qa6 s 0) (qa6 s 1) (qa6 s 2) (qa6 s 3)
 refine ⟨congrArg (fun z_:Int=>Ending.returned (.tuple #[.int .u32 z_,.int .i64 4])) (Eq.trans e_ ?_),hW.step⟩
 omega
theorem rUv5 {A:Option Addr} {c:Nat} (s:Bs) {w:World} {F:Nat → Nat → Prop} (ho:Octs w F A c s) (hl:5 ≤ s.length) (d0 d1 d2 d3 d4:Nat) (h0:oc s 0 = d0 + 128) (h1:oc s 1 = d1 + 128) (h2:oc s 2 = d2 + 128) (h3:oc s 3 = d3 + 128) (h4:oc s 4 = d4) (g0:d0 < 128) (g1:d1 < 128) (g2:d2 < 128) (g3:d3 < 128) (g4:d4 < 16) :
  Calls Tryd.prog 68 #[.slice A s.length c] w (qcn w (.tuple #[.int .u32 ((d0 + d1 * 128 + d2 * 16384 + d3 * 2097152 + d4 * 268435456:Nat):Int),.int .i64 5])):=by
 refine enter (n:=87) Tryd.func68 rfl Tryd.ntmps68 kz fun a hE=>?_
 have hW:=WOk.start w Nil
 refine qas [(0,.v (.slice A s.length c))] hW hE fun a1 hE2=>?_
 refine wp_scope_straight ?_
 refine qas [(0,.v (.slice A s.length c))] hW hE2 fun a3 hE4=>?_
 refine qas [(0,.v (.slice A s.length c))] hW hE4 fun a5 hE6=>?_
 refine wp_seq ?_
 refine qas [(0,.v (.slice A s.length c)),(8,.v (.bool (decide (((s.length:Nat):Int) < 1))))] hW hE6 fun a7 hE8=>?_
 refine qam hE8 (b:=decide (((s.length:Nat):Int) < 1)) kz (decide_eq_false (by omega)) ?_
 refine wp_skip ?_
 refine qab ?_
 refine qad [0,1,2,3,4,5] kz ?_
 refine qal [0] [1,2,3,4,5] [(0,.v (.slice A s.length c)),(9,.v (.slice A s.length c))] hW hE8 fun a9 aI=>?_
 obtain ⟨bt,bu,aj,bE,ab⟩:=Slots.get ho (i:=0) (by first | omega | (simp only [List.length_append,be_length,List.length_cons,List.length_nil] at *; omega))
 refine qak (qan aI (t:=22) (A:=A) (m:=s.length) (q:=0) (d:=10) kz (e:=5) (size:=1) (bytes:=1) (j:=0) kz aj rfl (by first | omega | (simp only [List.length_append,be_length,List.length_cons,List.length_nil] at *; omega)) fun bR aJ=>?_)
 refine qak (qat aJ (t:=5) (b:=bt) (o:=bu + 0 * 1) (d:=11) kz (cs:=[.int .u8 ((s.getD 0 0).toNat:Int)]) (v:=.int .u8 ((s.getD 0 0).toNat:Int)) kz (AtF.move ab hW.step nilM qaI).at_ fun bS aK=>?_)
 refine qal [3,4,5] [] [(0,.v (.slice A s.length c)),(4,.v (.int .u32 (IntKind.u32.wrap (IntKind.u8.wrap (BitVec.ofInt 8 ((s.getD 0 0).toNat:Int) &&& BitVec.ofInt 8 127).toNat))))] hW aK fun bT aL=>?_
 refine qaf (qab ?_)
 refine wp_seq ?_
 refine qad [0,1,2,3,4] kz ?_
 refine qal [0] [1,2,3,4] [(0,.v (.slice A s.length c)),(4,.v (.int .u32 (IntKind.u32.wrap (IntKind.u8.wrap (BitVec.ofInt 8 ((s.getD 0 0).toNat:Int) &&& BitVec.ofInt 8 127).toNat)))),(14,.v (.slice A s.length c))] hW aL fun bU aM=>?_
 refine qak (qan aM (t:=22) (A:=A) (m:=s.length) (q:=0) (d:=15) kz (e:=5) (size:=1) (bytes:=1) (j:=0) kz aj rfl (by first | omega | (simp only [List.length_append,be_length,List.length_cons,List.length_nil] at *; omega)) fun bV aO=>?_)
 refine qak (qat aO (t:=5) (b:=bt) (o:=bu + 0 * 1) (d:=16) kz (cs:=[.int .u8 ((s.getD 0 0).toNat:Int)]) (v:=.int .u8 ((s.getD 0 0).toNat:Int)) kz (AtF.move ab hW.step nilM qaI).at_ fun bW aP=>?_)
 refine qal [3,4] [] [(0,.v (.slice A s.length c)),(4,.v (.int .u32 (IntKind.u32.wrap (IntKind.u8.wrap (BitVec.ofInt 8 ((s.getD 0 0).toNat:Int) &&& BitVec.ofInt 8 127).toNat)))),(18,.v (.bool ((IntKind.u8.wrap (BitVec.ofInt 8 ((s.getD 0 0).toNat:Int) &&& BitVec.ofInt 8 128).toNat) == 0)))] hW aP fun bX ak=>?_
 refine qaf (qab ?_)
 refine qam ak (b:=(IntKind.u8.wrap (BitVec.ofInt 8 ((s.getD 0 0).toNat:Int) &&& BitVec.ofInt 8 128).toNat) == 0) kz ((qbv _ (qa6 s 0)).trans (decide_eq_false (by have:=h0; unfold oc at this; omega))) ?_
 refine qas [(0,.v (.slice A s.length c)),(4,.v (.int .u32 (IntKind.u32.wrap (IntKind.u8.wrap (BitVec.ofInt 8 ((s.getD 0 0).toNat:Int) &&& BitVec.ofInt 8 127).toNat)))),(22,.v (.bool (decide (((s.length:Nat):Int) < 2))))] hW ak fun bY al=>?_
 refine qam al (b:=decide (((s.length:Nat):Int) < 2)) kz (decide_eq_false (by omega)) ?_
 refine wp_skip ?_
 refine qab ?_
 refine qad [0,1,2,3,4,5,6,7,8] kz ?_
 refine qal [0,1] [2,3,4,5,6,7,8] [(0,.v (.slice A s.length c)),(23,.v (.int .u32 (IntKind.u32.wrap (IntKind.u8.wrap (BitVec.ofInt 8 ((s.getD 0 0).toNat:Int) &&& BitVec.ofInt 8 127).toNat)))),(24,.v (.slice A s.length c))] hW al fun bZ aQ=>?_
 obtain ⟨bw,bx,am,bF,ac⟩:=Slots.get ho (i:=1) (by first | omega | (simp only [List.length_append,be_length,List.length_cons,List.length_nil] at *; omega))
 refine qak (qan aQ (t:=22) (A:=A) (m:=s.length) (q:=1) (d:=25) kz (e:=5) (size:=1) (bytes:=1) (j:=1) kz am rfl (by first | omega | (simp only [List.length_append,be_length,List.length_cons,List.length_nil] at *; omega)) fun b8 aR=>?_)
 refine qak (qat aR (t:=5) (b:=bw) (o:=bx + 1 * 1) (d:=26) kz (cs:=[.int .u8 ((s.getD 1 0).toNat:Int)]) (v:=.int .u8 ((s.getD 1 0).toNat:Int)) kz (AtF.move ac hW.step nilM qaI).at_ fun b9 aS=>?_)
 refine qal [4,5,6,7,8] [] [(0,.v (.slice A s.length c)),(4,.v (.int .u32 (IntKind.u32.wrap (BitVec.ofInt 32 (IntKind.u32.wrap (IntKind.u8.wrap (BitVec.ofInt 8 ((s.getD 0 0).toNat:Int) &&& BitVec.ofInt 8 127).toNat)) ||| BitVec.ofInt 32 (IntKind.u32.wrap ((IntKind.u32.wrap (IntKind.u8.wrap (BitVec.ofInt 8 ((s.getD 1 0).toNat:Int) &&& BitVec.ofInt 8 127).toNat)) * 128))).toNat)))] hW aS fun cd aT=>?_
 refine qaf (qab ?_)
 refine wp_seq ?_
 refine qad [0,1,2,3,4] kz ?_
 refine qal [0] [1,2,3,4] [(0,.v (.slice A s.length c)),(4,.v (.int .u32 (IntKind.u32.wrap (BitVec.ofInt 32 (IntKind.u32.wrap (IntKind.u8.wrap (BitVec.ofInt 8 ((s.getD 0 0).toNat:Int) &&& BitVec.ofInt 8 127).toNat)) ||| BitVec.ofInt 32 (IntKind.u32.wrap ((IntKind.u32.wrap (IntKind.u8.wrap (BitVec.ofInt 8 ((s.getD 1 0).toNat:Int) &&& BitVec.ofInt 8 127).toNat)) * 128))).toNat))),(31,.v (.slice A s.length c))] hW aT fun ce aU=>?_
 refine qak (qan aU (t:=22) (A:=A) (m:=s.length) (q:=1) (d:=32) kz (e:=5) (size:=1) (bytes:=1) (j:=1) kz am rfl (by first | omega | (simp only [List.length_append,be_length,List.length_cons,List.length_nil] at *; omega)) fun cg aV=>?_)
 refine qak (qat aV (t:=5) (b:=bw) (o:=bx + 1 * 1) (d:=33) kz (cs:=[.int .u8 ((s.getD 1 0).toNat:Int)]) (v:=.int .u8 ((s.getD 1 0).toNat:Int)) kz (AtF.move ac hW.step nilM qaI).at_ fun cm aW=>?_)
 refine qal [3,4] [] [(0,.v (.slice A s.length c)),(4,.v (.int .u32 (IntKind.u32.wrap (BitVec.ofInt 32 (IntKind.u32.wrap (IntKind.u8.wrap (BitVec.ofInt 8 ((s.getD 0 0).toNat:Int) &&& BitVec.ofInt 8 127).toNat)) ||| BitVec.ofInt 32 (IntKind.u32.wrap ((IntKind.u32.wrap (IntKind.u8.wrap (BitVec.ofInt 8 ((s.getD 1 0).toNat:Int) &&& BitVec.ofInt 8 127).toNat)) * 128))).toNat))),(35,.v (.bool ((IntKind.u8.wrap (BitVec.ofInt 8 ((s.getD 1 0).toNat:Int) &&& BitVec.ofInt 8 128).toNat) == 0)))] hW aW fun cn ao=>?_
 refine qaf (qab ?_)
 refine qam ao (b:=(IntKind.u8.wrap (BitVec.ofInt 8 ((s.getD 1 0).toNat:Int) &&& BitVec.ofInt 8 128).toNat) == 0) kz ((qbv _ (qa6 s 1)).trans (decide_eq_false (by have:=h1; unfold oc at this; omega))) ?_
 refine qas [(0,.v (.slice A s.length c)),(4,.v (.int .u32 (IntKind.u32.wrap (BitVec.ofInt 32 (IntKind.u32.wrap (IntKind.u8.wrap (BitVec.ofInt 8 ((s.getD 0 0).toNat:Int) &&& BitVec.ofInt 8 127).toNat)) ||| BitVec.ofInt 32 (IntKind.u32.wrap ((IntKind.u32.wrap (IntKind.u8.wrap (BitVec.ofInt 8 ((s.getD 1 0).toNat:Int) &&& BitVec.ofInt 8 127).toNat)) * 128))).toNat))),(39,.v (.bool (decide (((s.length:Nat):Int) < 3))))] hW ao fun cq ap=>?_
 refine qam ap (b:=decide (((s.length:Nat):Int) < 3)) kz (decide_eq_false (by omega)) ?_
 refine wp_skip ?_
 refine qab ?_
 refine qad [0,1,2,3,4,5,6,7,8] kz ?_
 refine qal [0,1] [2,3,4,5,6,7,8] [(0,.v (.slice A s.length c)),(40,.v (.int .u32 (IntKind.u32.wrap (BitVec.ofInt 32 (IntKind.u32.wrap (IntKind.u8.wrap (BitVec.ofInt 8 ((s.getD 0 0).toNat:Int) &&& BitVec.ofInt 8 127).toNat)) ||| BitVec.ofInt 32 (IntKind.u32.wrap ((IntKind.u32.wrap (IntKind.u8.wrap (BitVec.ofInt 8 ((s.getD 1 0).toNat:Int) &&& BitVec.ofInt 8 127).toNat)) * 128))).toNat))),(41,.v (.slice A s.length c))] hW ap fun cr aX=>?_
 obtain ⟨bz,bA,ar,bG,ae⟩:=Slots.get ho (i:=2) (by first | omega | (simp only [List.length_append,be_length,List.length_cons,List.length_nil] at *; omega))
 refine qak (qan aX (t:=22) (A:=A) (m:=s.length) (q:=2) (d:=42) kz (e:=5) (size:=1) (bytes:=1) (j:=2) kz ar rfl (by first | omega | (simp only [List.length_append,be_length,List.length_cons,List.length_nil] at *; omega)) fun cu aY=>?_)
 refine qak (qat aY (t:=5) (b:=bz) (o:=bA + 2 * 1) (d:=43) kz (cs:=[.int .u8 ((s.getD 2 0).toNat:Int)]) (v:=.int .u8 ((s.getD 2 0).toNat:Int)) kz (AtF.move ae hW.step nilM qaI).at_ fun cw aZ=>?_)
 refine qal [4,5,6,7,8] [] [(0,.v (.slice A s.length c)),(4,.v (.int .u32 (IntKind.u32.wrap (BitVec.ofInt 32 (IntKind.u32.wrap (BitVec.ofInt 32 (IntKind.u32.wrap (IntKind.u8.wrap (BitVec.ofInt 8 ((s.getD 0 0).toNat:Int) &&& BitVec.ofInt 8 127).toNat)) ||| BitVec.ofInt 32 (IntKind.u32.wrap ((IntKind.u32.wrap (IntKind.u8.wrap (BitVec.ofInt 8 ((s.getD 1 0).toNat:Int) &&& BitVec.ofInt 8 127).toNat)) * 128))).toNat) ||| BitVec.ofInt 32 (IntKind.u32.wrap ((IntKind.u32.wrap (IntKind.u8.wrap (BitVec.ofInt 8 ((s.getD 2 0).toNat:Int) &&& BitVec.ofInt 8 127).toNat)) * 16384))).toNat)))] hW aZ fun cz ba=>?_
 refine qaf (qab ?_)
 refine wp_seq ?_
 refine qad [0,1,2,3,4] kz ?_
 refine qal [0] [1,2,3,4] [(0,.v (.slice A s.length c)),(4,.v (.int .u32 (IntKind.u32.wrap (BitVec.ofInt 32 (IntKind.u32.wrap (BitVec.ofInt 32 (IntKind.u32.wrap (IntKind.u8.wrap (BitVec.ofInt 8 ((s.getD 0 0).toNat:Int) &&& BitVec.ofInt 8 127).toNat)) ||| BitVec.ofInt 32 (IntKind.u32.wrap ((IntKind.u32.wrap (IntKind.u8.wrap (BitVec.ofInt 8 ((s.getD 1 0).toNat:Int) &&& BitVec.ofInt 8 127).toNat)) * 128))).toNat) ||| BitVec.ofInt 32 (IntKind.u32.wrap ((IntKind.u32.wrap (IntKind.u8.wrap (BitVec.ofInt 8 ((s.getD 2 0).toNat:Int) &&& BitVec.ofInt 8 127).toNat)) * 16384))).toNat))),(48,.v (.slice A s.length c))] hW ba fun cA bf=>?_
 refine qak (qan bf (t:=22) (A:=A) (m:=s.length) (q:=2) (d:=49) kz (e:=5) (size:=1) (bytes:=1) (j:=2) kz ar rfl (by first | omega | (simp only [List.length_append,be_length,List.length_cons,List.length_nil] at *; omega)) fun cB bg=>?_)
 refine qak (qat bg (t:=5) (b:=bz) (o:=bA + 2 * 1) (d:=50) kz (cs:=[.int .u8 ((s.getD 2 0).toNat:Int)]) (v:=.int .u8 ((s.getD 2 0).toNat:Int)) kz (AtF.move ae hW.step nilM qaI).at_ fun cC bh=>?_)
 refine qal [3,4] [] [(0,.v (.slice A s.length c)),(4,.v (.int .u32 (IntKind.u32.wrap (BitVec.ofInt 32 (IntKind.u32.wrap (BitVec.ofInt 32 (IntKind.u32.wrap (IntKind.u8.wrap (BitVec.ofInt 8 ((s.getD 0 0).toNat:Int) &&& BitVec.ofInt 8 127).toNat)) ||| BitVec.ofInt 32 (IntKind.u32.wrap ((IntKind.u32.wrap (IntKind.u8.wrap (BitVec.ofInt 8 ((s.getD 1 0).toNat:Int) &&& BitVec.ofInt 8 127).toNat)) * 128))).toNat) ||| BitVec.ofInt 32 (IntKind.u32.wrap ((IntKind.u32.wrap (IntKind.u8.wrap (BitVec.ofInt 8 ((s.getD 2 0).toNat:Int) &&& BitVec.ofInt 8 127).toNat)) * 16384))).toNat))),(52,.v (.bool ((IntKind.u8.wrap (BitVec.ofInt 8 ((s.getD 2 0).toNat:Int) &&& BitVec.ofInt 8 128).toNat) == 0)))] hW bh fun cD au=>?_
 refine qaf (qab ?_)
 refine qam au (b:=(IntKind.u8.wrap (BitVec.ofInt 8 ((s.getD 2 0).toNat:Int) &&& BitVec.ofInt 8 128).toNat) == 0) kz ((qbv _ (qa6 s 2)).trans (decide_eq_false (by have:=h2; unfold oc at this; omega))) ?_
 refine qas [(0,.v (.slice A s.length c)),(4,.v (.int .u32 (IntKind.u32.wrap (BitVec.ofInt 32 (IntKind.u32.wrap (BitVec.ofInt 32 (IntKind.u32.wrap (IntKind.u8.wrap (BitVec.ofInt 8 ((s.getD 0 0).toNat:Int) &&& BitVec.ofInt 8 127).toNat)) ||| BitVec.ofInt 32 (IntKind.u32.wrap ((IntKind.u32.wrap (IntKind.u8.wrap (BitVec.ofInt 8 ((s.getD 1 0).toNat:Int) &&& BitVec.ofInt 8 127).toNat)) * 128))).toNat) ||| BitVec.ofInt 32 (IntKind.u32.wrap ((IntKind.u32.wrap (IntKind.u8.wrap (BitVec.ofInt 8 ((s.getD 2 0).toNat:Int) &&& BitVec.ofInt 8 127).toNat)) * 16384))).toNat))),(56,.v (.bool (decide (((s.length:Nat):Int) < 4))))] hW au fun cE av=>?_
 refine qam av (b:=decide (((s.length:Nat):Int) < 4)) kz (decide_eq_false (by omega)) ?_
 refine wp_skip ?_
 refine qab ?_
 refine qad [0,1,2,3,4,5,6,7,8] kz ?_
 refine qal [0,1] [2,3,4,5,6,7,8] [(0,.v (.slice A s.length c)),(57,.v (.int .u32 (IntKind.u32.wrap (BitVec.ofInt 32 (IntKind.u32.wrap (BitVec.ofInt 32 (IntKind.u32.wrap (IntKind.u8.wrap (BitVec.ofInt 8 ((s.getD 0 0).toNat:Int) &&& BitVec.ofInt 8 127).toNat)) ||| BitVec.ofInt 32 (IntKind.u32.wrap ((IntKind.u32.wrap (IntKind.u8.wrap (BitVec.ofInt 8 ((s.getD 1 0).toNat:Int) &&& BitVec.ofInt 8 127).toNat)) * 128))).toNat) ||| BitVec.ofInt 32 (IntKind.u32.wrap ((IntKind.u32.wrap (IntKind.u8.wrap (BitVec.ofInt 8 ((s.getD 2 0).toNat:Int) &&& BitVec.ofInt 8 127).toNat)) * 16384))).toNat))),(58,.v (.slice A s.length c))] hW av fun cF bi=>?_
 obtain ⟨bB,bC,aw,bH,af⟩:=Slots.get ho (i:=3) (by first | omega | (simp only [List.length_append,be_length,List.length_cons,List.length_nil] at *; omega))
 refine qak (qan bi (t:=22) (A:=A) (m:=s.length) (q:=3) (d:=59) kz (e:=5) (size:=1) (bytes:=1) (j:=3) kz aw rfl (by first | omega | (simp only [List.length_append,be_length,List.length_cons,List.length_nil] at *; omega)) fun cG bj=>?_)
 refine qak (qat bj (t:=5) (b:=bB) (o:=bC + 3 * 1) (d:=60) kz (cs:=[.int .u8 ((s.getD 3 0).toNat:Int)]) (v:=.int .u8 ((s.getD 3 0).toNat:Int)) kz (AtF.move af hW.step nilM qaI).at_ fun cH bk=>?_)
 refine qal [4,5,6,7,8] [] [(0,.v (.slice A s.length c)),(4,.v (.int .u32 (IntKind.u32.wrap (BitVec.ofInt 32 (IntKind.u32.wrap (BitVec.ofInt 32 (IntKind.u32.wrap (BitVec.ofInt 32 (IntKind.u32.wrap (IntKind.u8.wrap (BitVec.ofInt 8 ((s.getD 0 0).toNat:Int) &&& BitVec.ofInt 8 127).toNat)) ||| BitVec.ofInt 32 (IntKind.u32.wrap ((IntKind.u32.wrap (IntKind.u8.wrap (BitVec.ofInt 8 ((s.getD 1 0).toNat:Int) &&& BitVec.ofInt 8 127).toNat)) * 128))).toNat) ||| BitVec.ofInt 32 (IntKind.u32.wrap ((IntKind.u32.wrap (IntKind.u8.wrap (BitVec.ofInt 8 ((s.getD 2 0).toNat:Int) &&& BitVec.ofInt 8 127).toNat)) * 16384))).toNat) ||| BitVec.ofInt 32 (IntKind.u32.wrap ((IntKind.u32.wrap (IntKind.u8.wrap (BitVec.ofInt 8 ((s.getD 3 0).toNat:Int) &&& BitVec.ofInt 8 127).toNat)) * 2097152))).toNat)))] hW bk fun cI bn=>?_
 refine qaf (qab ?_)
 refine wp_seq ?_
 refine qad [0,1,2,3,4] kz ?_
 refine qal [0] [1,2,3,4] [(0,.v (.slice A s.length c)),(4,.v (.int .u32 (IntKind.u32.wrap (BitVec.ofInt 32 (IntKind.u32.wrap (BitVec.ofInt 32 (IntKind.u32.wrap (BitVec.ofInt 32 (IntKind.u32.wrap (IntKind.u8.wrap (BitVec.ofInt 8 ((s.getD 0 0).toNat:Int) &&& BitVec.ofInt 8 127).toNat)) ||| BitVec.ofInt 32 (IntKind.u32.wrap ((IntKind.u32.wrap (IntKind.u8.wrap (BitVec.ofInt 8 ((s.getD 1 0).toNat:Int) &&& BitVec.ofInt 8 127).toNat)) * 128))).toNat) ||| BitVec.ofInt 32 (IntKind.u32.wrap ((IntKind.u32.wrap (IntKind.u8.wrap (BitVec.ofInt 8 ((s.getD 2 0).toNat:Int) &&& BitVec.ofInt 8 127).toNat)) * 16384))).toNat) ||| BitVec.ofInt 32 (IntKind.u32.wrap ((IntKind.u32.wrap (IntKind.u8.wrap (BitVec.ofInt 8 ((s.getD 3 0).toNat:Int) &&& BitVec.ofInt 8 127).toNat)) * 2097152))).toNat))),(65,.v (.slice A s.length c))] hW bn fun cJ bo=>?_
 refine qak (qan bo (t:=22) (A:=A) (m:=s.length) (q:=3) (d:=66) kz (e:=5) (size:=1) (bytes:=1) (j:=3) kz aw rfl (by first | omega | (simp only [List.length_append,be_length,List.length_cons,List.length_nil] at *; omega)) fun cK bp=>?_)
 refine qak (qat bp (t:=5) (b:=bB) (o:=bC + 3 * 1) (d:=67) kz (cs:=[.int .u8 ((s.getD 3 0).toNat:Int)]) (v:=.int .u8 ((s.getD 3 0).toNat:Int)) kz (AtF.move af hW.step nilM qaI).at_ fun cL bq=>?_)
 refine qal [3,4] [] [(0,.v (.slice A s.length c)),(4,.v (.int .u32 (IntKind.u32.wrap (BitVec.ofInt 32 (IntKind.u32.wrap (BitVec.ofInt 32 (IntKind.u32.wrap (BitVec.ofInt 32 (IntKind.u32.wrap (IntKind.u8.wrap (BitVec.ofInt 8 ((s.getD 0 0).toNat:Int) &&& BitVec.ofInt 8 127).toNat)) ||| BitVec.ofInt 32 (IntKind.u32.wrap ((IntKind.u32.wrap (IntKind.u8.wrap (BitVec.ofInt 8 ((s.getD 1 0).toNat:Int) &&& BitVec.ofInt 8 127).toNat)) * 128))).toNat) ||| BitVec.ofInt 32 (IntKind.u32.wrap ((IntKind.u32.wrap (IntKind.u8.wrap (BitVec.ofInt 8 ((s.getD 2 0).toNat:Int) &&& BitVec.ofInt 8 127).toNat)) * 16384))).toNat) ||| BitVec.ofInt 32 (IntKind.u32.wrap ((IntKind.u32.wrap (IntKind.u8.wrap (BitVec.ofInt 8 ((s.getD 3 0).toNat:Int) &&& BitVec.ofInt 8 127).toNat)) * 2097152))).toNat))),(69,.v (.bool ((IntKind.u8.wrap (BitVec.ofInt 8 ((s.getD 3 0).toNat:Int) &&& BitVec.ofInt 8 128).toNat) == 0)))] hW bq fun cM ax=>?_
 refine qaf (qab ?_)
 refine qam ax (b:=(IntKind.u8.wrap (BitVec.ofInt 8 ((s.getD 3 0).toNat:Int) &&& BitVec.ofInt 8 128).toNat) == 0) kz ((qbv _ (qa6 s 3)).trans (decide_eq_false (by have:=h3; unfold oc at this; omega))) ?_
 refine qas [(0,.v (.slice A s.length c)),(4,.v (.int .u32 (IntKind.u32.wrap (BitVec.ofInt 32 (IntKind.u32.wrap (BitVec.ofInt 32 (IntKind.u32.wrap (BitVec.ofInt 32 (IntKind.u32.wrap (IntKind.u8.wrap (BitVec.ofInt 8 ((s.getD 0 0).toNat:Int) &&& BitVec.ofInt 8 127).toNat)) ||| BitVec.ofInt 32 (IntKind.u32.wrap ((IntKind.u32.wrap (IntKind.u8.wrap (BitVec.ofInt 8 ((s.getD 1 0).toNat:Int) &&& BitVec.ofInt 8 127).toNat)) * 128))).toNat) ||| BitVec.ofInt 32 (IntKind.u32.wrap ((IntKind.u32.wrap (IntKind.u8.wrap (BitVec.ofInt 8 ((s.getD 2 0).toNat:Int) &&& BitVec.ofInt 8 127).toNat)) * 16384))).toNat) ||| BitVec.ofInt 32 (IntKind.u32.wrap ((IntKind.u32.wrap (IntKind.u8.wrap (BitVec.ofInt 8 ((s.getD 3 0).toNat:Int) &&& BitVec.ofInt 8 127).toNat)) * 2097152))).toNat))),(73,.v (.bool (decide (((s.length:Nat):Int) < 5))))] hW ax fun cN ag=>?_
 refine qam ag (b:=decide (((s.length:Nat):Int) < 5)) kz (decide_eq_false (by omega)) ?_
 refine wp_skip ?_
 refine qab ?_
 refine qad [0,1,2,3,4,5,6,7] kz ?_
 refine qal [0,1] [2,3,4,5,6,7] [(0,.v (.slice A s.length c)),(74,.v (.int .u32 (IntKind.u32.wrap (BitVec.ofInt 32 (IntKind.u32.wrap (BitVec.ofInt 32 (IntKind.u32.wrap (BitVec.ofInt 32 (IntKind.u32.wrap (IntKind.u8.wrap (BitVec.ofInt 8 ((s.getD 0 0).toNat:Int) &&& BitVec.ofInt 8 127).toNat)) ||| BitVec.ofInt 32 (IntKind.u32.wrap ((IntKind.u32.wrap (IntKind.u8.wrap (BitVec.ofInt 8 ((s.getD 1 0).toNat:Int) &&& BitVec.ofInt 8 127).toNat)) * 128))).toNat) ||| BitVec.ofInt 32 (IntKind.u32.wrap ((IntKind.u32.wrap (IntKind.u8.wrap (BitVec.ofInt 8 ((s.getD 2 0).toNat:Int) &&& BitVec.ofInt 8 127).toNat)) * 16384))).toNat) ||| BitVec.ofInt 32 (IntKind.u32.wrap ((IntKind.u32.wrap (IntKind.u8.wrap (BitVec.ofInt 8 ((s.getD 3 0).toNat:Int) &&& BitVec.ofInt 8 127).toNat)) * 2097152))).toNat))),(75,.v (.slice A s.length c))] hW ag fun bI ay=>?_
 obtain ⟨az,aA,ah,bD,aa⟩:=Slots.get ho (i:=4) (by first | omega | (simp only [List.length_append,be_length,List.length_cons,List.length_nil] at *; omega))
 refine qak (qan ay (t:=22) (A:=A) (m:=s.length) (q:=4) (d:=76) kz (e:=5) (size:=1) (bytes:=1) (j:=4) kz ah rfl (by first | omega | (simp only [List.length_append,be_length,List.length_cons,List.length_nil] at *; omega)) fun bJ aB=>?_)
 refine qak (qat aB (t:=5) (b:=az) (o:=aA + 4 * 1) (d:=77) kz (cs:=[.int .u8 ((s.getD 4 0).toNat:Int)]) (v:=.int .u8 ((s.getD 4 0).toNat:Int)) kz (AtF.move aa hW.step nilM qaI).at_ fun bK aC=>?_)
 refine qal [4,5,6,7] [] [(0,.v (.slice A s.length c)),(4,.v (.int .u32 (IntKind.u32.wrap (BitVec.ofInt 32 (IntKind.u32.wrap (BitVec.ofInt 32 (IntKind.u32.wrap (BitVec.ofInt 32 (IntKind.u32.wrap (BitVec.ofInt 32 (IntKind.u32.wrap (IntKind.u8.wrap (BitVec.ofInt 8 ((s.getD 0 0).toNat:Int) &&& BitVec.ofInt 8 127).toNat)) ||| BitVec.ofInt 32 (IntKind.u32.wrap ((IntKind.u32.wrap (IntKind.u8.wrap (BitVec.ofInt 8 ((s.getD 1 0).toNat:Int) &&& BitVec.ofInt 8 127).toNat)) * 128))).toNat) ||| BitVec.ofInt 32 (IntKind.u32.wrap ((IntKind.u32.wrap (IntKind.u8.wrap (BitVec.ofInt 8 ((s.getD 2 0).toNat:Int) &&& BitVec.ofInt 8 127).toNat)) * 16384))).toNat) ||| BitVec.ofInt 32 (IntKind.u32.wrap ((IntKind.u32.wrap (IntKind.u8.wrap (BitVec.ofInt 8 ((s.getD 3 0).toNat:Int) &&& BitVec.ofInt 8 127).toNat)) * 2097152))).toNat) ||| BitVec.ofInt 32 (IntKind.u32.wrap ((IntKind.u32.wrap ((s.getD 4 0).toNat:Int)) * 268435456))).toNat)))] hW aC fun bL aD=>?_
 refine qaf (qab ?_)
 refine wp_seq ?_
 refine qad [0,1,2,3] kz ?_
 refine qal [0] [1,2,3] [(4,.v (.int .u32 (IntKind.u32.wrap (BitVec.ofInt 32 (IntKind.u32.wrap (BitVec.ofInt 32 (IntKind.u32.wrap (BitVec.ofInt 32 (IntKind.u32.wrap (BitVec.ofInt 32 (IntKind.u32.wrap (IntKind.u8.wrap (BitVec.ofInt 8 ((s.getD 0 0).toNat:Int) &&& BitVec.ofInt 8 127).toNat)) ||| BitVec.ofInt 32 (IntKind.u32.wrap ((IntKind.u32.wrap (IntKind.u8.wrap (BitVec.ofInt 8 ((s.getD 1 0).toNat:Int) &&& BitVec.ofInt 8 127).toNat)) * 128))).toNat) ||| BitVec.ofInt 32 (IntKind.u32.wrap ((IntKind.u32.wrap (IntKind.u8.wrap (BitVec.ofInt 8 ((s.getD 2 0).toNat:Int) &&& BitVec.ofInt 8 127).toNat)) * 16384))).toNat) ||| BitVec.ofInt 32 (IntKind.u32.wrap ((IntKind.u32.wrap (IntKind.u8.wrap (BitVec.ofInt 8 ((s.getD 3 0).toNat:Int) &&& BitVec.ofInt 8 127).toNat)) * 2097152))).toNat) ||| BitVec.ofInt 32 (IntKind.u32.wrap ((IntKind.u32.wrap ((s.getD 4 0).toNat:Int)) * 268435456))).toNat))),(81,.v (.slice A s.length c))] hW aD fun bM aE=>?_
 refine qak (qan aE (t:=22) (A:=A) (m:=s.length) (q:=4) (d:=82) kz (e:=5) (size:=1) (bytes:=1) (j:=4) kz ah rfl (by first | omega | (simp only [List.length_append,be_length,List.length_cons,List.length_nil] at *; omega)) fun bN aF=>?_)
 refine qak (qat aF (t:=5) (b:=az) (o:=aA + 4 * 1) (d:=83) kz (cs:=[.int .u8 ((s.getD 4 0).toNat:Int)]) (v:=.int .u8 ((s.getD 4 0).toNat:Int)) kz (AtF.move aa hW.step nilM qaI).at_ fun bO aG=>?_)
 refine qal [3] [] [(4,.v (.int .u32 (IntKind.u32.wrap (BitVec.ofInt 32 (IntKind.u32.wrap (BitVec.ofInt 32 (IntKind.u32.wrap (BitVec.ofInt 32 (IntKind.u32.wrap (BitVec.ofInt 32 (IntKind.u32.wrap (IntKind.u8.wrap (BitVec.ofInt 8 ((s.getD 0 0).toNat:Int) &&& BitVec.ofInt 8 127).toNat)) ||| BitVec.ofInt 32 (IntKind.u32.wrap ((IntKind.u32.wrap (IntKind.u8.wrap (BitVec.ofInt 8 ((s.getD 1 0).toNat:Int) &&& BitVec.ofInt 8 127).toNat)) * 128))).toNat) ||| BitVec.ofInt 32 (IntKind.u32.wrap ((IntKind.u32.wrap (IntKind.u8.wrap (BitVec.ofInt 8 ((s.getD 2 0).toNat:Int) &&& BitVec.ofInt 8 127).toNat)) * 16384))).toNat) ||| BitVec.ofInt 32 (IntKind.u32.wrap ((IntKind.u32.wrap (IntKind.u8.wrap (BitVec.ofInt 8 ((s.getD 3 0).toNat:Int) &&& BitVec.ofInt 8 127).toNat)) * 2097152))).toNat) ||| BitVec.ofInt 32 (IntKind.u32.wrap ((IntKind.u32.wrap ((s.getD 4 0).toNat:Int)) * 268435456))).toNat))),(84,.v (.bool (decide (((s.getD 4 0).toNat:Int) ≤ 15))))] hW aG fun bP ai=>?_
 refine qaf (qab ?_)
 refine qaO ai (b:=decide (((s.getD 4 0).toNat:Int) ≤ 15)) kz (decide_eq_true (by have:=h4; unfold oc at this; omega)) ?_
 refine qas [(2,.v (.int .u32 (IntKind.u32.wrap (BitVec.ofInt 32 (IntKind.u32.wrap (BitVec.ofInt 32 (IntKind.u32.wrap (BitVec.ofInt 32 (IntKind.u32.wrap (BitVec.ofInt 32 (IntKind.u32.wrap (IntKind.u8.wrap (BitVec.ofInt 8 ((s.getD 0 0).toNat:Int) &&& BitVec.ofInt 8 127).toNat)) ||| BitVec.ofInt 32 (IntKind.u32.wrap ((IntKind.u32.wrap (IntKind.u8.wrap (BitVec.ofInt 8 ((s.getD 1 0).toNat:Int) &&& BitVec.ofInt 8 127).toNat)) * 128))).toNat) ||| BitVec.ofInt 32 (IntKind.u32.wrap ((IntKind.u32.wrap (IntKind.u8.wrap (BitVec.ofInt 8 ((s.getD 2 0).toNat:Int) &&& BitVec.ofInt 8 127).toNat)) * 16384))).toNat) ||| BitVec.ofInt 32 (IntKind.u32.wrap ((IntKind.u32.wrap (IntKind.u8.wrap (BitVec.ofInt 8 ((s.getD 3 0).toNat:Int) &&& BitVec.ofInt 8 127).toNat)) * 2097152))).toNat) ||| BitVec.ofInt 32 (IntKind.u32.wrap ((IntKind.u32.wrap ((s.getD 4 0).toNat:Int)) * 268435456))).toNat))),(3,.v (.int .i64 5))] hW ai fun bQ aH=>?_
 refine wp_ret ?_
 refine qaX ?_
 refine qcK ?_
 refine qaV aH hW.cells (v:=.tuple #[.int .u32 (IntKind.u32.wrap (BitVec.ofInt 32 (IntKind.u32.wrap (BitVec.ofInt 32 (IntKind.u32.wrap (BitVec.ofInt 32 (IntKind.u32.wrap (BitVec.ofInt 32 (IntKind.u32.wrap (IntKind.u8.wrap (BitVec.ofInt 8 ((s.getD 0 0).toNat:Int) &&& BitVec.ofInt 8 127).toNat)) ||| BitVec.ofInt 32 (IntKind.u32.wrap ((IntKind.u32.wrap (IntKind.u8.wrap (BitVec.ofInt 8 ((s.getD 1 0).toNat:Int) &&& BitVec.ofInt 8 127).toNat)) * 128))).toNat) ||| BitVec.ofInt 32 (IntKind.u32.wrap ((IntKind.u32.wrap (IntKind.u8.wrap (BitVec.ofInt 8 ((s.getD 2 0).toNat:Int) &&& BitVec.ofInt 8 127).toNat)) * 16384))).toNat) ||| BitVec.ofInt 32 (IntKind.u32.wrap ((IntKind.u32.wrap (IntKind.u8.wrap (BitVec.ofInt 8 ((s.getD 3 0).toNat:Int) &&& BitVec.ofInt 8 127).toNat)) * 2097152))).toNat) ||| BitVec.ofInt 32 (IntKind.u32.wrap ((IntKind.u32.wrap ((s.getD 4 0).toNat:Int)) * 268435456))).toNat),.int .i64 5]) kz ?_
 have e_:=uv_5 (oc s 0) (oc s 1) (oc s 2) (oc s 3) (oc s 4) (qa6 s 0) (qa6 s 1) (qa6 s 2) (qa6 s 3) (by omega)
 refine ⟨congrArg (fun z_:Int=>Ending.returned (.tuple #[.int .u32 z_,.int .i64 5])) (Eq.trans e_ ?_),hW.step⟩
 omega
theorem qgs {br:Nat} {A:Option Addr} {m c:Nat} {w:World} (hst:Str w br [.slice A m c,.bool false]) :
  Calls Tryd.prog 44 #[.pointer (some ⟨br,0,none⟩)] w (fun e w'=>e = .returned .nilIface ∧ w' = w):=by
 refine enter (n:=8) Tryd.func44 rfl Tryd.ntmps44 kz fun a hE=>?_
 have hW:WOk w (RdM br) w [⟨br,0,[.slice A m c,.bool false],true⟩] []:=WOk.startStr hst
 have hE1:=(hE.grow ⟨br,0,[.slice A m c,.bool false],true⟩).recast 0 (.v (.pointer (some ⟨br,0,none⟩))) (.p 0 0) rfl rfl (Nat.le_of_ble_eq_true (n:=1) rfl)
 refine qas [(0,.p 0 0)] hW hE1 fun a1 hE2=>?_
 refine wp_seq ?_
 refine qas [(6,.v (.bool false))] hW hE2 fun a3 hE4=>?_
 refine qam hE4 (b:=false) kz rfl ?_
 refine wp_skip ?_
 refine qab ?_
 refine qas [(2,.v (.nilIface))] hW hE4 fun a5 hE6=>?_
 refine wp_ret ?_
 refine qaV hE6 hW.cells (v:=.nilIface) kz ?_
 exact ⟨rfl,rfl⟩
theorem qcG {P:Program} {c:Code} {Mid:Act → World → Prop} {Q:Exit → Act → World → Prop} {a:Act} {w:World} (h1:c.wp P (Exit.then Mid Q) a w) (h2:∀ a' w',Mid a' w' → Q .normal a' w'):c.wp P Q a w :=
 wp_mono h1 fun e a' w' h=>by
  cases e <;> first | exact h2 a' w' h | exact h
theorem qg4 {k:Nat} (h:k < 32768):IntKind.i32.wrap (((k:Nat):Int) + 1) = ((k + 1:Nat):Int):=by rw [i32w]; omega
abbrev Sg:=Bool × Bs
abbrev rdoU (br:Nat) (bd:Bool) (A:Option Addr) (m c:Nat):Ob:=⟨br,0,[.slice A m c,.bool bd],true⟩
theorem qg5 {br:Nat} {bd bd':Bool} {A A':Option Addr} {m c m' c':Nat} {tb:Tb} {rs:List Rw} {b o:Nat} (h:Act_ (rdoU br bd A m c :: tb) rs b o):Act_ (rdoU br bd' A' m' c' :: tb) rs b o:=by
 rcases h with ⟨i,ob,hi,h1⟩ | h
 ·cases i with
  | zero =>
   simp only [List.getElem?_cons_zero,Option.some.injEq] at hi
   subst hi
   exact .inl ⟨0,_,rfl,h1⟩
  | succ i=>exact .inl ⟨i + 1,ob,hi,h1⟩
 exact .inr h
theorem qdZ {G:Nat → Nat → Prop} {w0 w:World} {br:Nat} {bd bd':Bool} {A A':Option Addr} {m c m' c':Nat} {tb:Tb} {rs:List Rw} {b o:Nat} (h:Imm G w0 w (rdoU br bd A m c :: tb) rs b o):Imm G w0 w (rdoU br bd' A' m' c' :: tb) rs b o :=
 ⟨h.1,h.2.1,fun ha=>h.2.2 (qg5 ha)⟩
theorem qd0 {n br:Nat} {bd bd':Bool} {A A':Option Addr} {m c m' c':Nat} {tb:Tb} {env:Env} {a:Act} (h:EnvOk n (rdoU br bd A m c :: tb) env a):EnvOk n (rdoU br bd' A' m' c' :: tb) env a:=by
 refine h.table fun i hi=>?_
 cases i with
 | zero=>exact ⟨by simp,rfl,rfl⟩
 | succ i=>exact ⟨by simpa using hi,rfl,rfl⟩
structure RSU (w0:World) (M F:Nat → Nat → Prop) (n br:Nat) (tb:Tb) (env:Env) (P:qb2) (σ:Sg) (a:Act) (w:World):Prop where
 mv:MvF P
 ex:∃ A m c,WOk w0 M w (rdoU br σ.1 A m c :: tb) [] ∧ RdS w (Imm F w0 w (rdoU br false none 0 0 :: tb) []) A m c σ.2
 env_:EnvOk n (rdoU br false none 0 0 :: tb) env a
 fact:P w (Imm F w0 w (rdoU br false none 0 0 :: tb) [])
 lim:σ.2.length ≤ 1000
section
variable {Pr:Program} {ops opsA opsB opsC:Array Oper} {Q:Exit → Act → World → Prop} {w0:World} {M F:Nat → Nat → Prop} {n br:Nat} {tb:Tb} {env:Env} {P:qb2} {σ:Sg} {a:Act} {w:World}
theorem RSU.mk' {A:Option Addr} {m c:Nat} (hW:WOk w0 M w (rdoU br σ.1 A m c :: tb) []) (hr:RdS w (Imm F w0 w (rdoU br σ.1 A m c :: tb) []) A m c σ.2) (hE:EnvOk n (rdoU br σ.1 A m c :: tb) env a) (mv:MvF P) (hP:P w (Imm F w0 w (rdoU br σ.1 A m c :: tb) [])) (lim:σ.2.length ≤ 1000):RSU w0 M F n br tb env P σ a w :=
 ⟨mv,⟨A,m,c,hW,hr.move (Step.refl w Nil) nilM fun b o h _=>qdZ h⟩,(qd0 hE),mv.mono (fun b o h _=>qdZ h) hP,lim⟩
theorem RSU.open_ (h:RSU w0 M F n br tb env P σ a w):∃ A m c,WOk w0 M w (rdoU br σ.1 A m c :: tb) [] ∧ RdS w (Imm F w0 w (rdoU br σ.1 A m c :: tb) []) A m c σ.2 ∧ EnvOk n (rdoU br σ.1 A m c :: tb) env a ∧ P w (Imm F w0 w (rdoU br σ.1 A m c :: tb) []):=by
 obtain ⟨A,m,c,hW,hr⟩:=h.ex
 exact ⟨A,m,c,hW,hr.move (Step.refl w Nil) nilM fun b o h _=>qdZ h,(qd0 h.env_),h.mv.mono (fun b o h _=>qdZ h) h.fact⟩
theorem RSU.cast {σ':Sg} (h:RSU w0 M F n br tb env P σ a w) (e:σ = σ'):RSU w0 M F n br tb env P σ' a w:=e ▸ h
theorem RSU.weak {P':qb2} (h:RSU w0 M F n br tb env P σ a w) (mv:MvF P') (hP:∀ w F,P w F → P' w F):RSU w0 M F n br tb env P' σ a w:=⟨mv,h.ex,h.env_,hP _ _ h.fact,h.lim⟩
theorem RSU.pk {env':Env} (h:RSU w0 M F n br tb env P σ a w) (e:ME.pick env (qbB env') = some env':=by kernel_rfl):RSU w0 M F n br tb env' P σ a w:=⟨h.mv,h.ex,h.env_.pk e,h.fact,h.lim⟩
theorem RSU.envEq {env':Env} (h:RSU w0 M F n br tb env P σ a w) (e:env = env'):RSU w0 M F n br tb env' P σ a w:=e ▸ h
theorem RSU.tbEq {tb':Tb} (h:RSU w0 M F n br tb env P σ a w) (e:tb = tb'):RSU w0 M F n br tb' env P σ a w:=e ▸ h
theorem RSU.recast (h:RSU w0 M F n br tb env P σ a w) (k:Nat) (x y:SV) (hx:lk env k = some x) (hy:y.val (rdoU br false none 0 0 :: tb) = x.val (rdoU br false none 0 0 :: tb)) (ho:y.ok (rdoU br false none 0 0 :: tb)):RSU w0 M F n br tb ((k,y) :: env) P σ a w:=⟨h.mv,h.ex,h.env_.recast k x y hx hy ho,h.fact,h.lim⟩
theorem qcp {L:List Nat} (idxs rest:List Nat) (env':Env) (h:RSU w0 M F n br tb env P σ a w) (k:∀ a',RSU w0 M F n br tb env' P σ a' w → wpOps Pr ops Q rest a' w) (e:∀ bd A m c,qcI Pr ops n (rdoU br bd A m c :: tb) idxs (qbB env') env = some env':=by intro _ _ _ _; kernel_rfl) (hl:L = idxs ++ rest:=by rfl):wpOps Pr ops Q L a w:=by
 obtain ⟨A,m,c,hW,hr,hE,hP⟩:=h.open_
 exact qbu idxs rest (qbB env') hW hE (e _ A m c) hl fun a' hE'=>k a' (RSU.mk' hW hr hE' h.mv hP h.lim)
theorem qbd {id:Nat} (env':Env) (h:RSU w0 M F n br tb env P σ a w) (k:∀ a',RSU w0 M F n br tb env' P σ a' w → Q .normal a' w) (e:∀ bd A m c,qcI Pr ops n (rdoU br bd A m c :: tb) (List.range ops.size) (qbB env') env = some env':=by intro _ _ _ _; kernel_rfl):(Code.region id ops false).wp Pr Q a w :=
 qaF (List.range ops.size) rfl (qcp (List.range ops.size) [] env' h (fun a' h'=>qaf (k a' h')) e (List.append_nil _).symm)
theorem qia {id:Nat} {y:Code} (env':Env) (h:RSU w0 M F n br tb env P σ a w) (k:∀ a',RSU w0 M F n br tb env' P σ a' w → y.wp Pr Q a' w) (e:∀ bd A m c,qcI Pr ops n (rdoU br bd A m c :: tb) (List.range ops.size) (qbB env') env = some env':=by intro _ _ _ _; kernel_rfl):(Code.seq (.region id ops false) y).wp Pr Q a w :=
 wp_seq (qbd env' h (fun a' h'=>qab (k a' h')) e)
def RdPostT (w:World) (br:Nat) (F:Nat → Nat → Prop) (σ':Sg) (Q:Value → World → Prop):Ending → World → Prop:=fun e w' =>
 ∃ v A' n' c',e = .returned v ∧ Str w' br [.slice A' n' c',.bool σ'.1] ∧ RdS w' F A' n' c' σ'.2 ∧ Step w w' (RdM br) ∧ Q v w'
structure RPrimU (Pr:Program) (f:FuncId) {τ:Type} (σ σ':Sg) (val:τ → Value) (fact:τ → qb2):Prop where
 len:σ'.2.length ≤ σ.2.length
 go:∀ {br:Nat} {A:Option Addr} {m c:Nat} {w:World} {F:Nat → Nat → Prop},Str w br [.slice A m c,.bool σ.1] → RdS w F A m c σ.2 → (∀ b o,F b o → ¬ RdM br b o) →
  Calls Pr f #[.pointer (some ⟨br,0,none⟩)] w (RdPostT w br (Fp F w) σ' fun v w'=>∃ x,v = val x ∧ fact x w' (Fp F w))
structure RPrim0U (Pr:Program) (f:FuncId) (σ σ':Sg) (v0:Value):Prop where
 len:σ'.2.length ≤ σ.2.length
 go:∀ {br:Nat} {A:Option Addr} {m c:Nat} {w:World} {F:Nat → Nat → Prop},Str w br [.slice A m c,.bool σ.1] → RdS w F A m c σ.2 → (∀ b o,F b o → ¬ RdM br b o) →
  Calls Pr f #[.pointer (some ⟨br,0,none⟩)] w (RdPostT w br (Fp F w) σ' fun v w'=>v = v0)
theorem RdPostT.fp {w:World} {br:Nat} {F:Nat → Nat → Prop} {σ':Sg} {Q Q':Value → World → Prop} {e:Ending} {w':World} (hq:∀ v w',Q v w' → Q' v w') (h:RdPostT w br F σ' Q e w'):RdPostT w br (Fp F w) σ' Q' e w':=by
 obtain ⟨v,A',n',c',h1,h2,h3,h4,h5⟩:=h
 exact ⟨v,A',n',c',h1,h2,h3.move (Step.refl _ Nil) nilM fun b o g _=>.inl g,h4,hq _ _ h5⟩
theorem RdPostT.q {w:World} {br:Nat} {F:Nat → Nat → Prop} {σ':Sg} {Q Q':Value → World → Prop} {e:Ending} {w':World} (hq:∀ v w',Q v w' → Q' v w') (h:RdPostT w br F σ' Q e w'):RdPostT w br F σ' Q' e w':=by
 obtain ⟨v,A',n',c',h1,h2,h3,h4,h5⟩:=h
 exact ⟨v,A',n',c',h1,h2,h3,h4,hq _ _ h5⟩
theorem qeO {i d:Nat} {f:FuncId} {τ:Type} {σ':Sg} {val:τ → Value} {fact:τ → qb2} {N:Act → World → Prop} (h:RSU w0 M F n br tb env P σ a w) (hc:RPrimU Pr f σ σ' val fact) (hm:∀ x,MvF (fact x))
  (hf:∀ args w,(callFunc f args).run Pr w = .ok (.enter f args) w) (K:∀ x P' a' w',(∀ w F,P' w F → P w F ∧ fact x w F) → RSU w0 M F n br tb ((d,.v (val x)) :: env) P' σ' a' w' → N a' w')
  (he:∀ bd A m c,qdG (rdoU br bd A m c :: tb) env ops n i = some (f,[.pointer (some ⟨br,0,none⟩)],d):=by intro _ _ _ _; kernel_rfl):wpOp Pr ops Q i N a w:=by
 obtain ⟨A,m,c,hW,hr,hE,hP⟩:=h.open_
 refine qap hE (he _ A m c) hf (hc.go (Str.of hW 0 rfl) hr (qbw 0 rfl)) ?_
 rintro e_ w1 ⟨_,A1,n1,c1,rfl,hs,hr1,hst,x,rfl,hx⟩
 refine ⟨_,rfl,fun a1 hE1=>?_⟩
 obtain ⟨hW2,hF2,hL⟩:=hW.wrote 0 (rdoU br σ'.1 A1 n1 c1 :: tb) rfl hst hs
 exact K x (andF P (fact x)) a1 w1 (fun _ _ g=>g) (RSU.mk' hW2 (hr1.move (Step.refl _ Nil) nilM hL) (qd0 hE1) (h.mv.and (hm x)) ⟨h.mv.move hF2.step immM hF2.to' hP,(hm x).mono hL hx⟩ (Nat.le_trans hc.len h.lim))
theorem qgt {i d:Nat} {f:FuncId} {σ':Sg} {v0:Value} {N:Act → World → Prop} (h:RSU w0 M F n br tb env P σ a w) (hc:RPrim0U Pr f σ σ' v0)
  (hf:∀ args w,(callFunc f args).run Pr w = .ok (.enter f args) w) (K:∀ a' w',RSU w0 M F n br tb ((d,.v v0) :: env) P σ' a' w' → N a' w')
  (he:∀ bd A m c,qdG (rdoU br bd A m c :: tb) env ops n i = some (f,[.pointer (some ⟨br,0,none⟩)],d):=by intro _ _ _ _; kernel_rfl):wpOp Pr ops Q i N a w:=by
 obtain ⟨A,m,c,hW,hr,hE,hP⟩:=h.open_
 refine qap hE (he _ A m c) hf (hc.go (Str.of hW 0 rfl) hr (qbw 0 rfl)) ?_
 rintro e_ w1 ⟨_,A1,n1,c1,rfl,hs,hr1,hst,rfl⟩
 refine ⟨_,rfl,fun a1 hE1=>?_⟩
 obtain ⟨hW2,hF2,hL⟩:=hW.wrote 0 (rdoU br σ'.1 A1 n1 c1 :: tb) rfl hst hs
 exact K a1 w1 (RSU.mk' hW2 (hr1.move (Step.refl _ Nil) nilM hL) (qd0 hE1) h.mv (h.mv.move hF2.step immM hF2.to' hP) (Nat.le_trans hc.len h.lim))
theorem qe2 {i d:Nat} {f:FuncId} {v0:Value} {N:Act → World → Prop} (h:RSU w0 M F n br tb env P σ a w) (hc:∀ {br:Nat} {A:Option Addr} {m c:Nat} {w:World},Str w br [.slice A m c,.bool σ.1] → Calls Pr f #[.pointer (some ⟨br,0,none⟩)] w (fun e w'=>e = .returned v0 ∧ w' = w))
  (hf:∀ args w,(callFunc f args).run Pr w = .ok (.enter f args) w) (K:∀ a',RSU w0 M F n br tb ((d,.v v0) :: env) P σ a' w → N a' w)
  (he:∀ bd A m c,qdG (rdoU br bd A m c :: tb) env ops n i = some (f,[.pointer (some ⟨br,0,none⟩)],d):=by intro _ _ _ _; kernel_rfl):wpOp Pr ops Q i N a w:=by
 obtain ⟨A,m,c,hW,hr,hE,hP⟩:=h.open_
 refine qap hE (he _ A m c) hf (hc (Str.of hW 0 rfl)) ?_
 rintro e_ _ ⟨rfl,rfl⟩
 exact ⟨_,rfl,fun a1 hE1=>K a1 (RSU.mk' hW hr hE1 h.mv hP h.lim)⟩
theorem qe3 {i:Nat} (tb':Tb) (j:Nat) {N:Act → World → Prop} (h:RSU w0 M F n br tb env P σ a w) (K:∀ w',RSU w0 M F n br tb' env P σ a w' → N a w')
  (he:∀ bd A m c,qfv Pr (rdoU br bd A m c :: tb) env ops i = some (j + 1,(obAt tb' j).cells):=by intro _ _ _ _; kernel_rfl) (ht:Tb.put tb j (obAt tb' j).cells = tb':=by rfl):wpOp Pr ops Q i N a w:=by
 obtain ⟨A,m,c,hW,hr,hE,hP⟩:=h.open_
 refine qao hW hE (he _ A m c) fun w1 hF1 hW1 hE1=>K w1 ?_
 have e:Tb.put (rdoU br σ.1 A m c :: tb) (j + 1) (obAt tb' j).cells = rdoU br σ.1 A m c :: tb':=by
  show rdoU br σ.1 A m c :: Tb.put tb j (obAt tb' j).cells = _
  rw [ht]
 rw [e] at hF1 hW1 hE1
 exact RSU.mk' hW1 (hr.move hF1.step immM hF1.to') hE1 h.mv (h.mv.move hF1.step immM hF1.to' hP) h.lim
theorem qdR {id d:Nat} {f:FuncId} {τ:Type} {σ':Sg} {val:τ → Value} {fact:τ → qb2} (env':τ → Env) (h:RSU w0 M F n br tb env P σ a w) (hc:RPrimU Pr f σ σ' val fact) (hm:∀ x,MvF (fact x))
  (hf:∀ args w,(callFunc f args).run Pr w = .ok (.enter f args) w) (K:∀ x P' a' w',(∀ w F,P' w F → P w F ∧ fact x w F) → RSU w0 M F n br tb (env' x) P' σ' a' w' → Q .normal a' w')
  (he:∀ bd A m c,qdG (rdoU br bd A m c :: tb) env ops n 0 = some (f,[.pointer (some ⟨br,0,none⟩)],d):=by intro _ _ _ _; kernel_rfl)
  (e:∀ x bd A m c,qcI Pr ops n (rdoU br bd A m c :: tb) ((List.range ops.size).drop 1) (qbB (env' x)) ((d,.v (val x)) :: env) = some (env' x):=by intro _ _ _ _ _; kernel_rfl) (hs:Nat.blt 0 ops.size = true:=by kernel_rfl):(Code.region id ops false).wp Pr Q a w:=by
 refine qaF _ (qey hs) (qak (qeO h hc hm hf (fun x P' a' w' hP hS=>?_) he))
 exact qcp ((List.range ops.size).drop 1) [] (env' x) hS (fun a2 h2=>qaf (K x P' a2 w' hP h2)) (e x) (List.append_nil _).symm
theorem qct {id d:Nat} {f:FuncId} {σ':Sg} {v0:Value} (env':Env) (h:RSU w0 M F n br tb env P σ a w) (hc:RPrim0U Pr f σ σ' v0)
  (hf:∀ args w,(callFunc f args).run Pr w = .ok (.enter f args) w) (K:∀ a' w',RSU w0 M F n br tb env' P σ' a' w' → Q .normal a' w')
  (he:∀ bd A m c,qdG (rdoU br bd A m c :: tb) env ops n 0 = some (f,[.pointer (some ⟨br,0,none⟩)],d):=by intro _ _ _ _; kernel_rfl)
  (e:∀ bd A m c,qcI Pr ops n (rdoU br bd A m c :: tb) ((List.range ops.size).drop 1) (qbB env') ((d,.v v0) :: env) = some env':=by intro _ _ _ _; kernel_rfl) (hs:Nat.blt 0 ops.size = true:=by kernel_rfl):(Code.region id ops false).wp Pr Q a w:=by
 refine qaF _ (qey hs) (qak (qgt h hc hf (fun a' w' hS=>?_) he))
 exact qcp ((List.range ops.size).drop 1) [] env' hS (fun a2 h2=>qaf (K a2 w' h2)) e (List.append_nil _).symm
theorem qg6 {idA idB idC d1 d2:Nat} {o:Operand} {b:Bool} {f1 f2:FuncId} {σ':Sg} {v0:Value} (envA env':Env) (h:RSU w0 M F n br tb env P σ a w)
  (hc1:b = true → RPrim0U Pr f1 σ σ' v0) (hf1:∀ args w,(callFunc f1 args).run Pr w = .ok (.enter f1 args) w) (hc2:b = false → RPrim0U Pr f2 σ σ' v0) (hf2:∀ args w,(callFunc f2 args).run Pr w = .ok (.enter f2 args) w)
  (K:∀ a' w',RSU w0 M F n br tb env' P σ' a' w' → Q .normal a' w')
  (eA:∀ bd A m c,qcI Pr opsA n (rdoU br bd A m c :: tb) (List.range opsA.size) (qbB envA) env = some envA:=by intro _ _ _ _; kernel_rfl) (ho:opd envA o = some (.v (.bool b)):=by kernel_rfl)
  (he1:∀ bd A m c,qdG (rdoU br bd A m c :: tb) envA opsB n 0 = some (f1,[.pointer (some ⟨br,0,none⟩)],d1):=by intro _ _ _ _; kernel_rfl) (he2:∀ bd A m c,qdG (rdoU br bd A m c :: tb) envA opsC n 0 = some (f2,[.pointer (some ⟨br,0,none⟩)],d2):=by intro _ _ _ _; kernel_rfl)
  (e1:∀ bd A m c,qcI Pr opsB n (rdoU br bd A m c :: tb) ((List.range opsB.size).drop 1) (qbB env') ((d1,.v v0) :: envA) = some env':=by intro _ _ _ _; kernel_rfl) (e2:∀ bd A m c,qcI Pr opsC n (rdoU br bd A m c :: tb) ((List.range opsC.size).drop 1) (qbB env') ((d2,.v v0) :: envA) = some env':=by intro _ _ _ _; kernel_rfl)
  (hs1:Nat.blt 0 opsB.size = true:=by kernel_rfl) (hs2:Nat.blt 0 opsC.size = true:=by kernel_rfl):(Code.seq (.region idA opsA false) (.cond o (.region idB opsB false) (.region idC opsC false))).wp Pr Q a w :=
 qia envA h (fun a1 h1=>qaY h1.env_ ho (fun hb=>qct env' h1 (hc1 hb) hf1 K he1 e1 hs1) (fun hb=>qct env' h1 (hc2 hb) hf2 K he2 e2 hs2)) eA
theorem qdK {id:Nat} (tb':Tb) (j:Nat) (env':Env) (h:RSU w0 M F n br tb env P σ a w) (K:∀ a' w',RSU w0 M F n br tb' env' P σ a' w' → Q .normal a' w')
  (he:∀ bd A m c,stoE Pr ops n (rdoU br bd A m c :: tb) env (qbB env') = some (j + 1,(obAt tb' j).cells,env'):=by intro _ _ _ _; kernel_rfl) (ht:Tb.put tb j (obAt tb' j).cells = tb':=by rfl) (hs:Nat.blt 0 ops.size = true:=by kernel_rfl):(Code.region id ops false).wp Pr Q a w:=by
 obtain ⟨A,m,c,hW,hr,hE,hP⟩:=h.open_
 have h1:=he σ.1 A m c
 unfold stoE at h1
 split at h1
 ·rename_i e he'
  split at h1
  ·rename_i i cs e' g1 g2
   simp only [Option.some.injEq,Prod.mk.injEq] at h1
   obtain ⟨rfl,rfl,rfl⟩:=h1
   have hr0:List.range ops.size = List.range (ops.size - 1) ++ [ops.size - 1]:=by
    have:0 < ops.size:=by simpa [Nat.blt_eq] using hs
    rw [← List.range_succ]; congr 1; omega
   refine qaF _ hr0 (qc8 hW.cells hE he' fun a1 hE1=>qak (qao hW hE1 g1 fun w1 hF1 hW1 hE2=>qaf (K a1 w1 ?_)))
   have e:Tb.put (rdoU br σ.1 A m c :: tb) (j + 1) (obAt tb' j).cells = rdoU br σ.1 A m c :: tb':=by
    show rdoU br σ.1 A m c :: Tb.put tb j (obAt tb' j).cells = _
    rw [ht]
   rw [e] at hF1 hW1 hE2
   exact RSU.mk' hW1 (hr.move hF1.step immM hF1.to') (hE2.pick g2) h.mv (h.mv.move hF1.step immM hF1.to' hP) h.lim
  cases h1
 cases h1
theorem qfj {A0:Option Addr} {i d j:Nat} {t tn e:TypeId} {size bytes:Nat} {k kn:IntKind} {q:Int} (z:Value) {N:Act → World → Prop} (h:RSU w0 M F n br tb env P σ a w)
  (K:∀ g c a' w',w0.heap.size ≤ g → j ≤ c → RSU w0 M F n br (tb ++ [⟨g,0,qb7 z j,true⟩]) ((d,.v (.slice (some ⟨g,0,none⟩) j c)) :: env) P σ a' w' → N a' w')
  (hq:q = (j:Int)) (hj:0 < j) (hb:j * bytes ≤ 140737488355328)
  (he:∀ bd A m c,appE (rdoU br bd A m c :: tb) env ops n i = some (t,tn,.slice A0 0 0,.int k q,d):=by intro _ _ _ _; kernel_rfl) (ht:qcC Pr t = some (e,size,bytes):=by kernel_rfl) (htn:Pr.underlying tn = some (.int kn):=by kernel_rfl) (hz:(Pr.info? e).bind (·.zero) = some z:=by kernel_rfl):wpOp Pr ops Q i N a w:=by
 obtain ⟨A,m,c,hW,hr,hE,hP⟩:=h.open_
 refine qe1 hW hE (he _ A m c) ht htn hz hq hj hb fun g c1 a1 w1 hg hg0 hF1 hW1 hE1=>?_
 have hP1:=h.mv.move hF1.step immM hF1.to' hP
 have hr1:=hr.move hF1.step immM hF1.to'
 have hcap:j ≤ c1:=by
  obtain ⟨A',c',hv,_,_,h4⟩:=qdX (hW1.own 0 _ rfl)
  simp only [Rw.v,Value.slice.injEq,true_and] at hv
  rw [hv.2]; exact h4
 obtain ⟨hW2,hF2⟩:=hW1.layRowM (k:=0) rfl rfl hg0 [] (rdoU br σ.1 A m c :: (tb ++ [⟨g,0,qb7 z j,true⟩])) rfl rfl
 exact K g c1 a1 w1 hg0 hcap (RSU.mk' hW2 (hr1.move hF2.step immM hF2.to') (hE1.grow ⟨g,0,qb7 z j,true⟩) h.mv (h.mv.move hF2.step immM hF2.to' hP1) h.lim)
end
def qdy (g size:Nat) (cl:DV → List Value) (ok:World → (Nat → Nat → Prop) → DV → Prop) (rel:Nat → DV → Prop) (k:Nat):qb2:=fun w F=>∃ ds:Nat → DV,∀ i,i < k → (cl (ds i)).length = size ∧ AtF w F g (0 + i * size) (cl (ds i)) ∧ ok w F (ds i) ∧ rel i (ds i)
theorem MvF.doneU {g size:Nat} {cl:DV → List Value} {ok:World → (Nat → Nat → Prop) → DV → Prop} {rel:Nat → DV → Prop} {k:Nat} (mv:qff ok):MvF (qdy g size cl ok rel k):=⟨fun hs hM hF h=>by
 obtain ⟨ds,h⟩:=h
 refine ⟨ds,fun i hi=>?_⟩
 obtain ⟨h1,h2,h3,h4⟩:=h i hi
 exact ⟨h1,h2.move hs hM hF,mv _ hs hM hF h3,h4⟩⟩
abbrev qbo (g size:Nat) (z:Value) (l k:Nat):Ob:=⟨g,k * size,qb7 z (l - k),true⟩
def qg7 (size:Nat) (cl:DV → List Value) (ok:World → (Nat → Nat → Prop) → DV → Prop) (rel:Nat → DV → Prop) (A:Option Addr) (c N:Nat) (f:Nat → DV):qb2:=fun w F=>Slots w F size A c N (fun i=>cl (f i)) ∧ (∀ i,i < N → ok w F (f i)) ∧ ∀ i,i < N → rel i (f i)
theorem MvF.lstU {size:Nat} {cl:DV → List Value} {ok:World → (Nat → Nat → Prop) → DV → Prop} {rel:Nat → DV → Prop} {A:Option Addr} {c N:Nat} {f:Nat → DV} (mv:qff ok):MvF (qg7 size cl ok rel A c N f):=⟨fun hs hM hF h =>
 ⟨h.1.move hs hM hF,fun i hi=>mv _ hs hM hF (h.2.1 i hi),h.2.2⟩⟩
section
variable {Pr:Program} {ops:Array Oper} {Q:Exit → Act → World → Prop} {w0:World} {M F:Nat → Nat → Prop} {n br:Nat} {tb:Tb} {env:Env} {P:qb2} {σ:Sg} {a:Act} {w:World}
 {g size:Nat} {cl:DV → List Value} {ok:World → (Nat → Nat → Prop) → DV → Prop} {rel:Nat → DV → Prop} {N:Nat} {z:Value}
theorem RSU.pull {ι:Type} {Qf:ι → qb2} (h:RSU w0 M F n br tb env (andF P (fun w F=>∃ x,Qf x w F)) σ a w) (mP:MvF P) (mv:∀ x,MvF (Qf x)):∃ x,RSU w0 M F n br tb env (andF P (Qf x)) σ a w:=by
 obtain ⟨h1,x,hx⟩:=h.fact
 exact ⟨x,mP.and (mv x),h.ex,h.env_,⟨h1,hx⟩,h.lim⟩
theorem RSU.drop {b o:Nat} {cs:List Value} (h:RSU w0 M F n br (tb ++ [⟨b,o,cs,true⟩]) env P σ a w) (hb:w0.heap.size ≤ b) (hl:qdH (tb.length + 1) env = true):RSU w0 M F n br tb env (andF P (atF b o cs)) σ a w:=by
 obtain ⟨A,m,c,hW,hr,hE,hP⟩:=h.open_
 have hW':WOk w0 M w ((rdoU br σ.1 A m c :: tb) ++ [⟨b,o,cs,true⟩]) []:=hW
 have h1:=hW'.cutTb (tb.length + 1)
 have hF:=Fr.cutTb w ((rdoU br σ.1 A m c :: tb) ++ [⟨b,o,cs,true⟩]) [] (tb.length + 1)
 have e:((rdoU br σ.1 A m c :: tb) ++ [(⟨b,o,cs,true⟩:Ob)]).take (tb.length + 1) = rdoU br σ.1 A m c :: tb:=by
  show List.take ((rdoU br σ.1 A m c :: tb).length) _ = _
  exact List.take_left
 have hE1:=hE.cutTb (tb.length + 1) hl
 have e2:(rdoU br σ.1 A m c :: (tb ++ [(⟨b,o,cs,true⟩:Ob)])).take (tb.length + 1) = rdoU br σ.1 A m c :: tb:=e
 rw [e] at h1 hF
 rw [e2] at hE1
 exact RSU.mk' h1 (hr.move hF.step immM hF.to') hE1 (h.mv.and (MvF.at_ _ _ _)) ⟨h.mv.move hF.step immM hF.to' hP,hW'.atLast hb⟩ h.lim
theorem RSU.next {l k:Nat} (h:RSU w0 M F n br (tb ++ [qbo g size z l k]) env P σ a w) (hk:k < l) (hz:z.cells.size = size) (hl:qdH (tb.length + 1) env = true):RSU w0 M F n br (tb ++ [qbo g size z l (k + 1),⟨g,k * size,z.cells.toList,true⟩]) env P σ a w:=by
 obtain ⟨A,m,c,hW,hr,hE,hP⟩:=h.open_
 have e:qb7 z (l - k) = z.cells.toList ++ qb7 z (l - (k + 1)):=by rw [show l - k = (l - (k + 1)) + 1 by omega,qfh]
 have hW':WOk w0 M w ((rdoU br σ.1 A m c :: tb) ++ [⟨g,k * size,z.cells.toList ++ qb7 z (l - (k + 1)),true⟩]) []:=by rw [← e]; exact hW
 obtain ⟨h1,hF⟩:=hW'.splitL (o2:=(k + 1) * size) (by rw [Array.length_toList,hz,Nat.add_mul,Nat.one_mul])
 rw [← e] at hF
 have hE1:=hE.cutTb (tb.length + 1) hl
 have e2:(rdoU br σ.1 A m c :: (tb ++ [qbo g size z l k])).take (tb.length + 1) = rdoU br σ.1 A m c :: tb:=by
  show List.take ((rdoU br σ.1 A m c :: tb).length) ((rdoU br σ.1 A m c :: tb) ++ _) = _
  exact List.take_left
 rw [e2] at hE1
 have hE2:=(hE1.grow (qbo g size z l (k + 1))).grow ⟨g,k * size,z.cells.toList,true⟩
 have e3:((rdoU br σ.1 A m c :: tb) ++ [qbo g size z l (k + 1)]) ++ [(⟨g,k * size,z.cells.toList,true⟩:Ob)] = rdoU br σ.1 A m c :: (tb ++ [qbo g size z l (k + 1),⟨g,k * size,z.cells.toList,true⟩]):=by simp
 rw [e3] at hE2
 exact RSU.mk' h1 (hr.move hF.step immM hF.to') hE2 h.mv (h.mv.move hF.step immM hF.to' hP) h.lim
theorem RSU.thing {k:Nat} {D:DV} {X:qb2} (h:RSU w0 M F n br (tb ++ [qbo g size z N (k + 1),⟨g,k * size,cl D,true⟩]) env X σ a w) (hg:w0.heap.size ≤ g) (mv:qff ok) (mP:MvF P) (hcl:(cl D).length = size)
  (hx:∀ w F,X w F → P w F ∧ qdy g size cl ok rel k w F ∧ ok w F D ∧ rel k D) (hl:qdH (tb.length + 2) env = true):RSU w0 M F n br (tb ++ [qbo g size z N (k + 1)]) env (andF P (qdy g size cl ok rel (k + 1))) σ a w:=by
 have h':RSU w0 M F n br ((tb ++ [qbo g size z N (k + 1)]) ++ [⟨g,k * size,cl D,true⟩]) env X σ a w:=by
  rw [List.append_assoc]; exact h
 refine (h'.drop hg (by simpa using hl)).weak (mP.and (MvF.doneU mv)) fun w F hf=>?_
 obtain ⟨hf,hat⟩:=hf
 obtain ⟨h1,⟨ds,h2⟩,h3,h4⟩:=hx w F hf
 refine ⟨h1,fun i=>if i = k then D else ds i,fun i hi=>?_⟩
 by_cases hik:i = k
 ·subst hik
  simp only [if_true]
  exact ⟨hcl,by rw [Nat.zero_add]; exact hat,h3,h4⟩
 simp only [if_neg hik]
 exact h2 i (by omega)
theorem RSU.listEnd {c:Nat} (h:RSU w0 M F n br (tb ++ [qbo g size z N N]) env (andF P (qdy g size cl ok rel N)) σ a w) (hg:w0.heap.size ≤ g) (mv:qff ok) (mP:MvF P) (hc:N ≤ c) (hsm:N ≤ 1099511627776) (h0:0 < N)
  (hl:qdH (tb.length + 1) env = true):∃ f:Nat → DV,RSU w0 M F n br tb env (andF P (qg7 size cl ok rel (some ⟨g,0,none⟩) c N f)) σ a w:=by
 have mE:MvF (fun w F=>∃ f:Nat → DV,qg7 size cl ok rel (some ⟨g,0,none⟩) c N f w F):=⟨fun hs hM hF hx=>by
  obtain ⟨f,hx⟩:=hx
  exact ⟨f,(MvF.lstU mv).move hs hM hF hx⟩⟩
 refine RSU.pull (Qf:=fun f=>qg7 size cl ok rel (some ⟨g,0,none⟩) c N f) ((h.drop hg hl).weak (mP.and mE) fun w F hf=>?_) mP fun f=>MvF.lstU mv
 obtain ⟨⟨h1,ds,h2⟩,_⟩:=hf
 refine ⟨h1,ds,⟨hc,hsm,fun h=>by (cases h),fun ad hA _=>?_⟩,fun i hi=>(h2 i hi).2.2.1,fun i hi=>(h2 i hi).2.2.2⟩
 obtain rfl:=Option.some.inj hA
 exact ⟨g,0,rfl,fun i hi=>⟨(h2 i hi).1,(h2 i hi).2.1⟩⟩
theorem qg8 {c:Code} (S:Nat → Sg) (envk:Nat → Env) (h:RSU w0 M F n br (tb ++ [⟨g,0,qb7 z N,true⟩]) (envk 0) P (S 0) a w) (mv:qff ok)
  (body:∀ k a w,k < N → RSU w0 M F n br (tb ++ [qbo g size z N k]) (envk k) (andF P (qdy g size cl ok rel k)) (S k) a w →
   c.wp Pr (Exit.then (fun a' w'=>RSU w0 M F n br (tb ++ [qbo g size z N (k + 1)]) (envk (k + 1)) (andF P (qdy g size cl ok rel (k + 1))) (S (k + 1)) a' w') Q) a w)
  (fin:∀ a w,RSU w0 M F n br (tb ++ [qbo g size z N N]) (envk N) (andF P (qdy g size cl ok rel N)) (S N) a w → c.wp Pr (Exit.then (fun _ _=>False) Q) a w):(Code.loop c).wp Pr Q a w:=by
 refine wp_loop_ghost (fun q a_ w_=>∃ k,q = N - k ∧ k ≤ N ∧ RSU w0 M F n br (tb ++ [qbo g size z N k]) (envk k) (andF P (qdy g size cl ok rel k)) (S k) a_ w_) N
  ⟨0,by omega,Nat.zero_le _,?_⟩ ?_
 ·have e:qbo g size z N 0 = ⟨g,0,qb7 z N,true⟩:=by simp only [qbo,Nat.zero_mul,Nat.sub_zero]
  rw [e]
  exact h.weak (h.mv.and (MvF.doneU mv)) fun w F hP=>⟨hP,fun _=>dv0,fun i hi=>absurd hi (Nat.not_lt_zero i)⟩
 rintro q aq wq ⟨k,rfl,hk,hS⟩
 rcases Nat.lt_or_ge k N with hlt | hge
 ·refine wp_mono (body k aq wq hlt hS) fun e a' w' hq=>?_
  cases e <;> first | exact hq | exact ⟨N - (k + 1),by omega,k + 1,rfl,hlt,hq⟩
 obtain rfl:k = N:=by omega
 refine wp_mono (fin aq wq hS) fun e a' w' hq=>?_
 cases e <;> first | exact hq | exact hq.elim
end
section
variable {Pr:Program} {ops:Array Oper} {Q:Exit → Act → World → Prop} {w0:World} {M F:Nat → Nat → Prop} {n br:Nat} {tb:Tb} {env:Env} {P:qb2} {σ:Sg} {a:Act} {w:World}
theorem qg9 {id d:Nat} {t e:TypeId} {size bytes m cp:Nat} {A0:Option Addr} (env1 env':Env) (i:Nat) (h:RSU w0 M F n br tb env P σ a w) (K:∀ a',RSU w0 M F n br tb env' P σ a' w → Q .normal a' w)
  (hr:List.range ops.size = List.range i ++ (i :: (List.range ops.size).drop (i + 1)):=by kernel_rfl) (e1:∀ bd A m c,qcI Pr ops n (rdoU br bd A m c :: tb) (List.range i) (qbB env1) env = some env1:=by intro _ _ _ _; kernel_rfl)
  (hc:∀ bd A m_ c,cutE (rdoU br bd A m_ c :: tb) env1 ops n i = some (t,.slice A0 m cp,none,some 0,d):=by intro _ _ _ _; kernel_rfl) (ht:qcC Pr t = some (e,size,bytes):=by kernel_rfl)
  (e2:∀ bd A m_ c,qcI Pr ops n (rdoU br bd A m_ c :: tb) ((List.range ops.size).drop (i + 1)) (qbB env') ((d,.v (.slice A0 0 cp)) :: env1) = some env':=by intro _ _ _ _; kernel_rfl):(Code.region id ops false).wp Pr Q a w:=by
 refine qaF _ hr (qcp (List.range i) _ env1 h (fun a1 h1=>?_) e1 rfl)
 obtain ⟨A,m1,c,hW,hrd,hE,hP⟩:=h1.open_
 refine qak (qfb hE (hc _ A m1 c) ht (j:=0) rfl (Nat.zero_le _) fun a2 hE2=>?_)
 exact qcp _ [] env' (RSU.mk' hW hrd hE2 h1.mv hP h1.lim) (fun a3 h3=>qaf (K a3 h3)) e2 (List.append_nil _).symm
theorem qhT {i d:Nat} {f:FuncId} {vs:List Value} {v0:Value} {N:Act → World → Prop} (h:RSU w0 M F n br tb env P σ a w) (hc:∀ w,Calls Pr f vs.toArray w (fun e w'=>e = .returned v0 ∧ w' = w))
  (hf:∀ args w,(callFunc f args).run Pr w = .ok (.enter f args) w) (K:∀ a',RSU w0 M F n br tb ((d,.v v0) :: env) P σ a' w → N a' w)
  (he:∀ bd A m c,qdG (rdoU br bd A m c :: tb) env ops n i = some (f,vs,d):=by intro _ _ _ _; kernel_rfl):wpOp Pr ops Q i N a w:=by
 obtain ⟨A,m,c,hW,hr,hE,hP⟩:=h.open_
 refine qap hE (he _ A m c) hf (hc w) ?_
 rintro e_ _ ⟨rfl,rfl⟩
 exact ⟨_,rfl,fun a1 hE1=>K a1 (RSU.mk' hW hr hE1 h.mv hP h.lim)⟩
theorem qib {id d:Nat} {f:FuncId} {v0:Value} (env':Env) (h:RSU w0 M F n br tb env P σ a w) (hc:RPrim0U Pr f σ σ v0)
  (hf:∀ args w,(callFunc f args).run Pr w = .ok (.enter f args) w) (K:∀ a' w',RSU w0 M F n br tb env' P σ a' w' → Q .normal a' w')
  (he:∀ bd A m c,qdG (rdoU br bd A m c :: tb) env ops n 0 = some (f,[.pointer (some ⟨br,0,none⟩)],d):=by intro _ _ _ _; kernel_rfl)
  (e:∀ bd A m c,qcI Pr ops n (rdoU br bd A m c :: tb) ((List.range ops.size).drop 1) (qbB env') ((d,.v v0) :: env) = some env':=by intro _ _ _ _; kernel_rfl) (hs:Nat.blt 0 ops.size = true:=by kernel_rfl):(Code.region id ops false).wp Pr Q a w :=
 qct env' h hc hf K he e hs
theorem qgu {i d k l g size bytes:Nat} {t e:TypeId} {z:Value} {N:Act → World → Prop} (h:RSU w0 M F n br (tb ++ [qbo g size z l k]) env P σ a w) (hk:k < l) (hz:z.cells.size = size) (hl:qdH (tb.length + 1) env = true)
  (K:∀ a',RSU w0 M F n br (tb ++ [qbo g size z l (k + 1),⟨g,k * size,z.cells.toList,true⟩]) ((d,.p (tb.length + 2) 0) :: env) P σ a' w → N a' w)
  (he:∀ bd A m c,idxE (rdoU br bd A m c :: (tb ++ [qbo g size z l k])) env ops n i = some (t,some ⟨g,0,none⟩,l,((k:Nat):Int),d):=by intro _ _ _ _; kernel_rfl) (ht:qcC Pr t = some (e,size,bytes):=by kernel_rfl):wpOp Pr ops Q i N a w:=by
 obtain ⟨A,m,c,hW,hr,hE,hP⟩:=h.open_
 refine qan hE (he _ A m c) ht rfl rfl hk fun a1 hE1=>K a1 ?_
 have h1:RSU w0 M F n br (tb ++ [qbo g size z l k]) ((d,.v (.pointer (some ⟨g,0 + k * size,none⟩))) :: env) P σ a1 w:=RSU.mk' hW hr hE1 h.mv hP h.lim
 have h2:=h1.next hk hz (by simpa only [qdH] using hl)
 have h3:=h2.recast d (.v (.pointer (some ⟨g,0 + k * size,none⟩))) (.p (tb.length + 2) 0) (by simp [lk]) ?_ (by show tb.length + 2 < _; simp)
 ·refine ⟨h3.mv,h3.ex,?_,h3.fact,h3.lim⟩
  refine ⟨h3.env_.defers,h3.env_.size,fun q x hx=>h3.env_.at_ q x ?_⟩
  simp only [lk] at hx ⊢
  split at hx
  ·exact hx
  exact hx
 have:obAt (rdoU br false none 0 0 :: (tb ++ [qbo g size z l (k + 1),⟨g,k * size,z.cells.toList,true⟩])) (tb.length + 2) = ⟨g,k * size,z.cells.toList,true⟩:=by
  simp only [obAt,List.getD_eq_getElem?_getD]
  rw [show tb.length + 2 = (tb.length + 1) + 1 from rfl,List.getElem?_cons_succ,List.getElem?_append_right (by omega)]
  simp
 simp only [SV.val,this]
 simp
theorem qha {id d k l g size bytes:Nat} {t e:TypeId} {z:Value} (env1 env':Env) (i:Nat) (h:RSU w0 M F n br (tb ++ [qbo g size z l k]) env P σ a w) (hk:k < l) (hz:z.cells.size = size) (hl:qdH (tb.length + 1) env1 = true)
  (K:∀ a',RSU w0 M F n br (tb ++ [qbo g size z l (k + 1),⟨g,k * size,z.cells.toList,true⟩]) env' P σ a' w → Q .normal a' w)
  (hr:List.range ops.size = List.range i ++ (i :: (List.range ops.size).drop (i + 1)):=by kernel_rfl) (e1:∀ bd A m c,qcI Pr ops n (rdoU br bd A m c :: (tb ++ [qbo g size z l k])) (List.range i) (qbB env1) env = some env1:=by intro _ _ _ _; kernel_rfl)
  (he:∀ bd A m c,idxE (rdoU br bd A m c :: (tb ++ [qbo g size z l k])) env1 ops n i = some (t,some ⟨g,0,none⟩,l,((k:Nat):Int),d):=by intro _ _ _ _; kernel_rfl) (ht:qcC Pr t = some (e,size,bytes):=by kernel_rfl)
  (e2:∀ bd A m c,qcI Pr ops n (rdoU br bd A m c :: (tb ++ [qbo g size z l (k + 1),⟨g,k * size,z.cells.toList,true⟩])) ((List.range ops.size).drop (i + 1)) (qbB env') ((d,.p (tb.length + 2) 0) :: env1) = some env':=by intro _ _ _ _; kernel_rfl):(Code.region id ops false).wp Pr Q a w:=by
 refine qaF _ hr (qcp (List.range i) _ env1 h (fun a1 h1=>qak (qgu h1 hk hz hl (fun a2 h2=>?_) he ht)) e1 rfl)
 exact qcp _ [] env' h2 (fun a3 h3=>qaf (K a3 h3)) e2 (List.append_nil _).symm
end
theorem RdS.dropT {w:World} {F:Nat → Nat → Prop} {A:Option Addr} {n c j:Nat} {s:Bs} (h:RdS w F A n c s) (hj:j ≤ s.length):RdS w F (cutA A c j) (n - j) (c - j) (s.drop j) :=
 ⟨by rw [h.len,List.length_drop],h.oct.drop hj⟩
theorem RdS.nil_ (w:World) (F:Nat → Nat → Prop):RdS w F none 0 0 []:=⟨rfl,Octs.nil _ _⟩
theorem qdz {l:Nat} {J:Act → World → Prop} {Q:Exit → Act → World → Prop} {a:Act} {w:World} (h:Q .ret a w):Exit.jump l J Q .ret a w:=h
def badS:Sg:=(true,[])
def aN (k:Nat) (σ:Sg):Sg:=if σ.2.length < k then badS else (σ.1,σ.2.drop k)
def uI16 (σ:Sg):Int:=if σ.2.length < 2 then 0 else IntKind.i16.wrap (be16 σ.2)
def uI32 (σ:Sg):Int:=if σ.2.length < 4 then 0 else IntKind.i32.wrap (be32 σ.2)
def uI64 (σ:Sg):Int:=if σ.2.length < 8 then 0 else IntKind.i64.wrap (be64 σ.2)
def uvG (s:Bs):Nat × Int :=
 if s.length < 1 then (0,0) else if oc s 0 < 128 then (oc s 0,1) else
 if s.length < 2 then (0,0) else if oc s 1 < 128 then (oc s 0 - 128 + oc s 1 * 128,2) else
 if s.length < 3 then (0,0) else if oc s 2 < 128 then (oc s 0 - 128 + (oc s 1 - 128) * 128 + oc s 2 * 16384,3) else
 if s.length < 4 then (0,0) else if oc s 3 < 128 then (oc s 0 - 128 + (oc s 1 - 128) * 128 + (oc s 2 - 128) * 16384 + oc s 3 * 2097152,4) else
 if s.length < 5 then (0,0) else if oc s 4 < 16 then (oc s 0 - 128 + (oc s 1 - 128) * 128 + (oc s 2 - 128) * 16384 + (oc s 3 - 128) * 2097152 + oc s 4 * 268435456,5) else (0,-5)
theorem qeP (s:Bs):(uvG s).2 ≤ (s.length:Int) ∧ (uvG s).1 < 4294967296:=by
 have h0:=qa6 s 0
 have h1:=qa6 s 1
 have h2:=qa6 s 2
 have h3:=qa6 s 3
 unfold uvG
 repeat' split
 all_goals (refine ⟨?_,?_⟩ <;> dsimp only <;> omega)
def uUv (σ:Sg):Nat:=if (uvG σ.2).2 ≤ 0 then 0 else (uvG σ.2).1
def aUv (σ:Sg):Sg:=if (uvG σ.2).2 ≤ 0 then badS else (σ.1,σ.2.drop (uvG σ.2).2.toNat)
def uSp (l:Int) (σ:Sg):Bs:=if (σ.2.length:Int) < l ∨ l < 0 then [] else σ.2.take l.toNat
def aSp (l:Int) (σ:Sg):Sg:=if (σ.2.length:Int) < l ∨ l < 0 then badS else (σ.1,σ.2.drop l.toNat)
def uStr (σ:Sg):Bs:=uSp (uI16 σ) (aN 2 σ)
def aStr (σ:Sg):Sg:=aSp (uI16 σ) (aN 2 σ)
def qfk (σ:Sg):Bs:=uSp ((uUv σ:Int) - 1) (aUv σ)
def qfl (σ:Sg):Sg:=aSp ((uUv σ:Int) - 1) (aUv σ)
def qeQ (σ:Sg):Option Bs:=if uI16 σ < 0 then none else some (uSp (uI16 σ) (aN 2 σ))
def qfm (σ:Sg):Sg:=if uI16 σ < 0 then aN 2 σ else aSp (uI16 σ) (aN 2 σ)
def qdA (σ:Sg):Option Bs:=if (uUv σ:Int) - 1 < 0 then none else some (uSp ((uUv σ:Int) - 1) (aUv σ))
def qeg (σ:Sg):Sg:=if (uUv σ:Int) - 1 < 0 then aUv σ else aSp ((uUv σ:Int) - 1) (aUv σ)
def uAL (σ:Sg):Int:=if ((aN 4 σ).2.length:Int) < uI32 σ then 0 else uI32 σ
def aAL (σ:Sg):Sg:=if ((aN 4 σ).2.length:Int) < uI32 σ then badS else aN 4 σ
def cAL (σ:Sg):Int:=IntKind.i32.wrap (IntKind.i32.wrap (uUv σ:Int) - 1)
def uCAL (σ:Sg):Int:=if ((aUv σ).2.length:Int) < cAL σ then 0 else cAL σ
def aCAL (σ:Sg):Sg:=if ((aUv σ).2.length:Int) < cAL σ then badS else aUv σ
def tag1 (u:List (Int × Bs)) (σ:Sg):List (Int × Bs):=setT u (uUv σ:Int) (uSp (uUv (aUv σ):Int) (aUv (aUv σ)))
def aTag (σ:Sg):Sg:=aSp (uUv (aUv σ):Int) (aUv (aUv σ))
def qen:Nat → List (Int × Bs) → Sg → List (Int × Bs) × Sg
 | 0,u,σ=>(u,σ)
 | n + 1,u,σ=>qen n (tag1 u σ) (aTag σ)
def qdL (σ:Sg):List (Int × Bs):=(qen (uUv σ) [] (aUv σ)).1
def qfn (σ:Sg):Sg:=(qen (uUv σ) [] (aUv σ)).2
def uTxt (f:Bool) (σ:Sg):Bs:=if f = true then qfk σ else uStr σ
def aTxt (f:Bool) (σ:Sg):Sg:=if f = true then qfl σ else aStr σ
def qcD (f:Bool) (σ:Sg):Option Bs:=if f = true then qdA σ else qeQ σ
def qdT (f:Bool) (σ:Sg):Sg:=if f = true then qeg σ else qfm σ
def uLen (f:Bool) (σ:Sg):Int:=if f = true then uCAL σ else uAL σ
def aLen (f:Bool) (σ:Sg):Sg:=if f = true then aCAL σ else aAL σ
def itS (f:Sg → Sg):Nat → Sg → Sg
 | 0,σ=>σ
 | n + 1,σ=>f (itS f n σ)
structure Mn (f:Sg → Sg):Prop where
 len:∀ σ,(f σ).2.length ≤ σ.2.length
 bad:∀ σ,σ.1 = true → (f σ).1 = true
theorem Mn.id_:Mn (fun σ=>σ):=⟨fun _=>Nat.le_refl _,fun _ h=>h⟩
theorem Mn.comp {f g:Sg → Sg} (h:Mn f) (h':Mn g):Mn (fun σ=>g (f σ)):=⟨fun σ=>Nat.le_trans (h'.len _) (h.len σ),fun σ hb=>h'.bad _ (h.bad σ hb)⟩
theorem Mn.ite {f g:Sg → Sg} {p:Sg → Prop} [∀ σ,Decidable (p σ)] (h:Mn f) (h':Mn g):Mn (fun σ=>if p σ then f σ else g σ):=⟨fun σ=>by
 split
 ·exact h.len σ
 ·exact h'.len σ,fun σ hb=>by
 split
 ·exact h.bad σ hb
 exact h'.bad σ hb⟩
theorem Mn.badS_:Mn (fun _=>badS):=⟨fun _=>Nat.zero_le _,fun _ _=>rfl⟩
theorem Mn.drop_ (k:Sg → Nat):Mn (fun σ=>(σ.1,σ.2.drop (k σ))):=⟨fun σ=>by dsimp only; rw [List.length_drop]; omega,fun _ h=>h⟩
theorem mn_N (k:Nat):Mn (aN k):=Mn.ite (p:=fun σ=>σ.2.length < k) Mn.badS_ (Mn.drop_ fun _=>k)
theorem mn_Uv:Mn aUv:=Mn.ite (p:=fun σ=>(uvG σ.2).2 ≤ 0) Mn.badS_ (Mn.drop_ fun σ=>(uvG σ.2).2.toNat)
theorem qfo (l:Int):Mn (aSp l):=Mn.ite (p:=fun σ=>(σ.2.length:Int) < l ∨ l < 0) Mn.badS_ (Mn.drop_ fun _=>l.toNat)
theorem mn_Str:Mn aStr:=⟨fun σ=>Nat.le_trans ((qfo _).len _) ((mn_N 2).len σ),fun σ h=>(qfo _).bad _ ((mn_N 2).bad σ h)⟩
theorem mn_CStr:Mn qfl:=⟨fun σ=>Nat.le_trans ((qfo _).len _) (mn_Uv.len σ),fun σ h=>(qfo _).bad _ (mn_Uv.bad σ h)⟩
theorem mn_NStr:Mn qfm:=Mn.ite (p:=fun σ=>uI16 σ < 0) (mn_N 2) mn_Str
theorem mn_CNStr:Mn qeg:=Mn.ite (p:=fun σ=>(uUv σ:Int) - 1 < 0) mn_Uv mn_CStr
theorem mn_AL:Mn aAL:=Mn.ite (p:=fun σ=>((aN 4 σ).2.length:Int) < uI32 σ) Mn.badS_ (mn_N 4)
theorem mn_CAL:Mn aCAL:=Mn.ite (p:=fun σ=>((aUv σ).2.length:Int) < cAL σ) Mn.badS_ mn_Uv
theorem mn_Tag:Mn aTag:=⟨fun σ=>Nat.le_trans ((qfo _).len _) (Nat.le_trans (mn_Uv.len _) (mn_Uv.len σ)),fun σ h=>(qfo _).bad _ (mn_Uv.bad _ (mn_Uv.bad σ h))⟩
theorem qd1:∀ n u,Mn (fun σ=>(qen n u σ).2)
 | 0,_=>Mn.id_
 | n + 1,u=>⟨fun σ=>Nat.le_trans ((qd1 n _).len _) (mn_Tag.len σ),fun σ h=>(qd1 n _).bad _ (mn_Tag.bad σ h)⟩
theorem mn_Tags:Mn qfn:=⟨fun σ=>Nat.le_trans ((qd1 _ _).len _) (mn_Uv.len σ),fun σ h=>(qd1 _ _).bad _ (mn_Uv.bad σ h)⟩
theorem qhA (f:Bool):Mn (aTxt f):=Mn.ite (p:=fun _=>f = true) mn_CStr mn_Str
theorem qic {f:Sg → Sg} (h:Mn f):∀ n,Mn (itS f n)
 | 0=>Mn.id_
 | n + 1=>(qic h n).comp h
theorem qeh (l:Int) (σ:Sg):(uSp l σ).length ≤ σ.2.length:=by
 unfold uSp
 split
 ·exact Nat.zero_le _
 rw [List.length_take]; omega
theorem qfD (f:Bool) (σ:Sg):(uTxt f σ).length ≤ σ.2.length:=by
 unfold uTxt qfk uStr
 split
 ·exact Nat.le_trans (qeh _ _) (mn_Uv.len σ)
 exact Nat.le_trans (qeh _ _) ((mn_N 2).len σ)
theorem qhU (f:Bool) (σ:Sg):uLen f σ ≤ (σ.2.length:Int):=by
 have h1:=(mn_N 4).len σ
 have h2:=mn_Uv.len σ
 unfold uLen uCAL uAL
 repeat' split
 all_goals omega
end Go.Proofs.YtmpejmiiphddhaaDoorR.ME