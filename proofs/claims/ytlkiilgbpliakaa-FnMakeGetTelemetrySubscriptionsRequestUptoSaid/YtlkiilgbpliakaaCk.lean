/- The contracts of kbin's other appending functions: printed by tools/ck.py. Own work. -/
import Derived.Test.YtlkiilgbpliakaaCj
import Derived.Test.YtlkiilgbpliakaaKb
import Derived.Test.YtlkiilgbpliakaaKl
namespace Go.Proofs.Ytlkiilgbpliakaa.ME
open Go
open Go.RowKit
set_option linter.unusedVariables false
set_option linter.unusedSimpArgs false
set_option maxRecDepth 20000

def uvTable : ByteArray := ⟨#[1,1,1,1,1,1,1,1,2,2,2,2,2,2,2,3,3,3,3,3,3,3,4,4,4,4,4,4,4,5,5,5,5,5,5,5,6,6,6,6,6,6,6,7,7,7,7,7,7,7,8,8,8,8,8,8,8,9,9,9,9,9,9,9,10,0,0,0,0,0,0,0,0,0,0,0,0,0,0,0,0,0,0,0,0,0,0,0,0,0,0,0,0,0,0,0,0,0,0,0,0,0,0,0,0,0,0,0,0,0,0,0,0,0,0,0,0,0,0,0,0,0,0,0,0,0,0,0,0,0,0,0,0,0,0,0,0,0,0,0,0,0,0,0,0,0,0,0,0,0,0,0,0,0,0,0,0,0,0,0,0,0,0,0,0,0,0,0,0,0,0,0,0,0,0,0,0,0,0,0,0,0,0,0,0,0,0,0,0,0,0,0,0,0,0,0,0,0,0,0,0,0,0,0,0,0,0,0,0,0,0,0,0,0,0,0,0,0,0,0,0,0,0,0,0,0,0,0,0,0,0,0,0,0,0,0,0,0,0,0,0,0,0,0,0,0,0,0,0,0,0,0,0,0,0,0]⟩
theorem uvTable_get : ∀ m : Fin 33, uvTable[m.val]? = some (UInt8.ofNat (lenOf m.val)) := by decide +kernel
theorem uvLen_table (x : Nat) (hx : x < 4294967296) (hl : Lib.bitLen x ≤ 32) : ∃ b : UInt8, uvTable[Lib.bitLen x]? = some b ∧ b.toNat = (uv x).length := by
  refine ⟨_, uvTable_get ⟨Lib.bitLen x, by omega⟩, ?_⟩
  have := lenOf_le (Lib.bitLen x)
  rw [uv_lenOf hx, UInt8.toNat_ofNat']
  dsimp only
  omega

theorem kUvarintLen (x : Nat) (hx : x < 4294967296) (w : World) : Calls Try.prog 82 [.int .u32 ((x : Nat) : Int)].toArray w (Gives w (.int .i64 (((uv x).length : Nat) : Int))) := by
  refine enter (n := 8) Try.func82 rfl Try.ntmps82 (by kernel_rfl) fun a hE => ?_
  have hW := WOk.start w Nil
  refine go_seq_region [0] (by kernel_rfl) (go_runs [0] [] [0] hW hE (env' := [(0, .v (.int .u32 ((x : Nat) : Int)))]) (by kernel_rfl) rfl fun a1 hE1 => wpOps_nil (then_normal ?_))
  refine go_seq_region [0, 1, 2, 3, 4, 5] (by kernel_rfl) ?_
  refine go_runs [0] [1, 2, 3, 4, 5] [3] hW hE1 (env' := [(3, .v (.int .u32 ((x : Nat) : Int)))]) (by kernel_rfl) rfl fun a2 hE2 => ?_
  refine of_op (wpOp_call hE2 (f := 89) (vs := [.int .u32 ((x : Nat) : Int)]) (d := 4) (by kernel_rfl) Try.call89 (kLen32 _ w (by omega) (by omega)) ?_)
  rintro e_ w' ⟨rfl, rfl⟩
  refine ⟨_, rfl, fun a3 hE3 => ?_⟩
  rw [Int.toNat_natCast] at hE3
  have hl := Lib.bitLen_le x 32 (by omega) (by omega)
  refine go_runs [2] [3, 4, 5] [5] hW hE3 (env' := [(5, .v (.int .u8 (IntKind.u8.wrap ((Lib.bitLen x : Nat) : Int))))]) (by kernel_rfl) rfl fun a4 hE4 => ?_
  have e1 : IntKind.u8.wrap ((Lib.bitLen x : Nat) : Int) = ((Lib.bitLen x : Nat) : Int) := by rw [wrap_u8]; omega
  rw [e1] at hE4
  obtain ⟨b, hb1, hb2⟩ := uvLen_table x hx hl
  refine of_op (wpOp_indexS hE4 (s := uvTable) (t := 9) (dd := 6) (by kernel_rfl) (by kernel_rfl) hb1 fun a5 hE5 => ?_)
  refine go_runs [4, 5] [] [2] hW hE5 (env' := [(2, .v (.int .i64 (IntKind.i64.wrap (b.toNat : Int))))]) (by kernel_rfl) rfl fun a6 hE6 => wpOps_nil (then_normal (wp_ret ?_))
  rw [hb2, wrap_i64 (by omega) (by have := uv_len_le x 5 (by omega) (by omega); omega)] at hE6
  exact leave hE6 hW.cells (v := .int .i64 (((uv x).length : Nat) : Int)) (by kernel_rfl) ⟨rfl, Step.refl _ _⟩

theorem kAppendUvarint (x : Nat) (hx : x < 4294967296) (A : Option Addr) (cp : Nat) (s : Bs) (w : World) (ho : w.ownsRow 0 5 1 (.slice A s.length cp) s.length (bc s)) (hroom : s.length + (uv x).length + 16 ≤ 1099511627776) :
    Calls Try.prog 67 (.slice A s.length cp :: [.int .u32 ((x : Nat) : Int)]).toArray w (AppPost w 5 A (s ++ (uv x))) := by
  refine chr_calls0 (n := 93) Try.func67 rfl Try.ntmps67 (by kernel_rfl) rfl ho hroom ?_
  refine chr_seq0 (ch_pure (env' := [(1, .v (.int .u32 ((x : Nat) : Int)))]) [1] (fun _ _ _ => by kernel_rfl)) ?_
  refine chr_left ?_
  refine chr_seq0 (ch_quiet (env' := [(1, .v (.int .u32 ((x : Nat) : Int))), (6, .v (.int .i64 (((uv x).length : Nat) : Int)))]) (f := 82) (vs := [.int .u32 ((x : Nat) : Int)]) 1 [1, 6] (fun _ _ _ => by kernel_rfl) (by kernel_rfl) Try.call82 (fun w _ => kUvarintLen x hx w)) ?_
  refine chr_block ?_
  have hl := uv_len_le x 5 (by omega) (by omega)
  have hl1 := uv_len_pos x
  refine chr_seq0 (ch_pure (env' := [(1, .v (.int .u32 ((x : Nat) : Int))), (6, .v (.int .i64 (((uv x).length : Nat) : Int))), (7, .v (.bool ((((uv x).length : Nat) : Int) == 5)))]) [1, 6, 7] (fun _ _ _ => by kernel_rfl)) ?_
  refine chr_cond (b := ((((uv x).length : Nat) : Int) == 5)) (fun _ _ _ => by kernel_rfl) (fun hb => ?_) (fun hb => ?_)
  · exact chr_push (t := 22) (d1 := 32) (dd := 33) (len := 5) (cs := [.int .u8 (IntKind.u8.wrap (IntKind.u32.wrap (BitVec.ofInt 32 (IntKind.u32.wrap (BitVec.ofInt 32 ((x : Nat) : Int) &&& BitVec.ofInt 32 127).toNat) ||| BitVec.ofInt 32 128).toNat)), .int .u8 (IntKind.u8.wrap (IntKind.u32.wrap (BitVec.ofInt 32 (IntKind.u32.wrap (BitVec.ofInt 32 (Int.fdiv ((x : Nat) : Int) 128) &&& BitVec.ofInt 32 127).toNat) ||| BitVec.ofInt 32 128).toNat)), .int .u8 (IntKind.u8.wrap (IntKind.u32.wrap (BitVec.ofInt 32 (IntKind.u32.wrap (BitVec.ofInt 32 (Int.fdiv ((x : Nat) : Int) 16384) &&& BitVec.ofInt 32 127).toNat) ||| BitVec.ofInt 32 128).toNat)), .int .u8 (IntKind.u8.wrap (IntKind.u32.wrap (BitVec.ofInt 32 (IntKind.u32.wrap (BitVec.ofInt 32 (Int.fdiv ((x : Nat) : Int) 2097152) &&& BitVec.ofInt 32 127).toNat) ||| BitVec.ofInt 32 128).toNat)), .int .u8 (IntKind.u8.wrap (Int.fdiv ((x : Nat) : Int) 268435456))]) 23 (fun _ _ _ _ _ _ _ => by kernel_rfl) (by kernel_rfl) (by kernel_rfl) (uv_cells5 x hx (by have := eq_of_beq hb; omega)) (by kernel_rfl)
  ·
    have g5 := ne_of_beq_false hb
    refine chr_seq0 (ch_pure (env' := [(1, .v (.int .u32 ((x : Nat) : Int))), (6, .v (.int .i64 (((uv x).length : Nat) : Int))), (34, .v (.bool ((((uv x).length : Nat) : Int) == 4)))]) [1, 6, 34] (fun _ _ _ => by kernel_rfl)) ?_
    refine chr_cond (b := ((((uv x).length : Nat) : Int) == 4)) (fun _ _ _ => by kernel_rfl) (fun hb => ?_) (fun hb => ?_)
    · exact chr_push (t := 22) (d1 := 54) (dd := 55) (len := 4) (cs := [.int .u8 (IntKind.u8.wrap (IntKind.u32.wrap (BitVec.ofInt 32 (IntKind.u32.wrap (BitVec.ofInt 32 ((x : Nat) : Int) &&& BitVec.ofInt 32 127).toNat) ||| BitVec.ofInt 32 128).toNat)), .int .u8 (IntKind.u8.wrap (IntKind.u32.wrap (BitVec.ofInt 32 (IntKind.u32.wrap (BitVec.ofInt 32 (Int.fdiv ((x : Nat) : Int) 128) &&& BitVec.ofInt 32 127).toNat) ||| BitVec.ofInt 32 128).toNat)), .int .u8 (IntKind.u8.wrap (IntKind.u32.wrap (BitVec.ofInt 32 (IntKind.u32.wrap (BitVec.ofInt 32 (Int.fdiv ((x : Nat) : Int) 16384) &&& BitVec.ofInt 32 127).toNat) ||| BitVec.ofInt 32 128).toNat)), .int .u8 (IntKind.u8.wrap (Int.fdiv ((x : Nat) : Int) 2097152))]) 18 (fun _ _ _ _ _ _ _ => by kernel_rfl) (by kernel_rfl) (by kernel_rfl) (uv_cells4 x hx (by have := eq_of_beq hb; omega)) (by kernel_rfl)
    ·
      have g4 := ne_of_beq_false hb
      refine chr_seq0 (ch_pure (env' := [(1, .v (.int .u32 ((x : Nat) : Int))), (6, .v (.int .i64 (((uv x).length : Nat) : Int))), (56, .v (.bool ((((uv x).length : Nat) : Int) == 3)))]) [1, 6, 56] (fun _ _ _ => by kernel_rfl)) ?_
      refine chr_cond (b := ((((uv x).length : Nat) : Int) == 3)) (fun _ _ _ => by kernel_rfl) (fun hb => ?_) (fun hb => ?_)
      · exact chr_push (t := 22) (d1 := 71) (dd := 72) (len := 3) (cs := [.int .u8 (IntKind.u8.wrap (IntKind.u32.wrap (BitVec.ofInt 32 (IntKind.u32.wrap (BitVec.ofInt 32 ((x : Nat) : Int) &&& BitVec.ofInt 32 127).toNat) ||| BitVec.ofInt 32 128).toNat)), .int .u8 (IntKind.u8.wrap (IntKind.u32.wrap (BitVec.ofInt 32 (IntKind.u32.wrap (BitVec.ofInt 32 (Int.fdiv ((x : Nat) : Int) 128) &&& BitVec.ofInt 32 127).toNat) ||| BitVec.ofInt 32 128).toNat)), .int .u8 (IntKind.u8.wrap (Int.fdiv ((x : Nat) : Int) 16384))]) 13 (fun _ _ _ _ _ _ _ => by kernel_rfl) (by kernel_rfl) (by kernel_rfl) (uv_cells3 x hx (by have := eq_of_beq hb; omega)) (by kernel_rfl)
      ·
        have g3 := ne_of_beq_false hb
        refine chr_seq0 (ch_pure (env' := [(1, .v (.int .u32 ((x : Nat) : Int))), (6, .v (.int .i64 (((uv x).length : Nat) : Int))), (73, .v (.bool ((((uv x).length : Nat) : Int) == 2)))]) [1, 6, 73] (fun _ _ _ => by kernel_rfl)) ?_
        refine chr_cond (b := ((((uv x).length : Nat) : Int) == 2)) (fun _ _ _ => by kernel_rfl) (fun hb => ?_) (fun hb => ?_)
        · exact chr_push (t := 22) (d1 := 83) (dd := 84) (len := 2) (cs := [.int .u8 (IntKind.u8.wrap (IntKind.u32.wrap (BitVec.ofInt 32 (IntKind.u32.wrap (BitVec.ofInt 32 ((x : Nat) : Int) &&& BitVec.ofInt 32 127).toNat) ||| BitVec.ofInt 32 128).toNat)), .int .u8 (IntKind.u8.wrap (Int.fdiv ((x : Nat) : Int) 128))]) 8 (fun _ _ _ _ _ _ _ => by kernel_rfl) (by kernel_rfl) (by kernel_rfl) (uv_cells2 x hx (by have := eq_of_beq hb; omega)) (by kernel_rfl)
        ·
          have g2 := ne_of_beq_false hb
          refine chr_seq0 (ch_pure (env' := [(1, .v (.int .u32 ((x : Nat) : Int))), (6, .v (.int .i64 (((uv x).length : Nat) : Int))), (85, .v (.bool ((((uv x).length : Nat) : Int) == 1)))]) [1, 6, 85] (fun _ _ _ => by kernel_rfl)) ?_
          refine chr_cond (b := ((((uv x).length : Nat) : Int) == 1)) (fun _ _ _ => by kernel_rfl) (fun hb => ?_) (fun hb => ?_)
          · exact chr_push (t := 22) (d1 := 90) (dd := 91) (len := 1) (cs := [.int .u8 (IntKind.u8.wrap ((x : Nat) : Int))]) 3 (fun _ _ _ _ _ _ _ => by kernel_rfl) (by kernel_rfl) (by kernel_rfl) (uv_cells1 x hx (by have := eq_of_beq hb; omega)) (by kernel_rfl)
          ·
            have g1 := ne_of_beq_false hb
            exfalso; omega

theorem kAppendUuid (o : Bs) (hl : o.length = 16) (A : Option Addr) (cp : Nat) (s : Bs) (w : World) (ho : w.ownsRow 0 5 1 (.slice A s.length cp) s.length (bc s)) (hroom : s.length + o.length + 16 ≤ 1099511627776) :
    Calls Try.prog 76 (.slice A s.length cp :: [.agg ((List.range 16).map fun i => byteCell (o.getD i 0)).toArray]).toArray w (AppPost w 5 A (s ++ o)) := by
  refine chr_calls0 (n := 8) Try.func76 rfl Try.ntmps76 (by kernel_rfl) rfl ho hroom ?_
  refine chr_bx (cs := (List.range 16).map fun i => byteCell (o.getD i 0)) (e2 := fun blk => [(3, .p 0 0)]) 0 [3] (fun _ _ _ _ => by kernel_rfl) (by kernel_rfl) fun blk => ?_
  exact chr_appB (t := 22) (num := 16) 2 0 (fun _ _ _ _ _ _ => by kernel_rfl) (by kernel_rfl) (by kernel_rfl) (by rw [← bc_sixteen hl]; rfl) hl

end Go.Proofs.Ytlkiilgbpliakaa.ME
