/- The contracts of kbin's other appending functions: printed by tools/ck.py. Own work. -/
import Derived.Test.YtbjopfcbpobnpaaCj
import Derived.Test.YtbjopfcbpobnpaaKb
import Derived.Test.YtbjopfcbpobnpaaKl
namespace Go.Proofs.Ytbjopfcbpobnpaa.ME
open Go
open Go.RowKit
set_option linter.unusedVariables false
set_option linter.unusedSimpArgs false
set_option maxRecDepth 20000

def uvTable : ByteArray := ⟨#[1,1,1,1,1,1,1,1,2,2,2,2,2,2,2,3,3,3,3,3,3,3,4,4,4,4,4,4,4,5,5,5,5,5,5,5,6,6,6,6,6,6,6,7,7,7,7,7,7,7,8,8,8,8,8,8,8,9,9,9,9,9,9,9,10,0,0,0,0,0,0,0,0,0,0,0,0,0,0,0,0,0,0,0,0,0,0,0,0,0,0,0,0,0,0,0,0,0,0,0,0,0,0,0,0,0,0,0,0,0,0,0,0,0,0,0,0,0,0,0,0,0,0,0,0,0,0,0,0,0,0,0,0,0,0,0,0,0,0,0,0,0,0,0,0,0,0,0,0,0,0,0,0,0,0,0,0,0,0,0,0,0,0,0,0,0,0,0,0,0,0,0,0,0,0,0,0,0,0,0,0,0,0,0,0,0,0,0,0,0,0,0,0,0,0,0,0,0,0,0,0,0,0,0,0,0,0,0,0,0,0,0,0,0,0,0,0,0,0,0,0,0,0,0,0,0,0,0,0,0,0,0,0,0,0,0,0,0,0,0,0,0,0,0,0,0,0,0,0,0,0,0,0,0,0,0]⟩
theorem uvTable_get : ∀ m : Fin 33, uvTable[m.val]? = some (UInt8.ofNat (lenOf m.val)) := by decide +kernel
theorem uvLen_table (x : Nat) (hx : x < 4294967296) (hl : Lib.bitLen x ≤ 32) : ∃ b : UInt8, uvTable[Lib.bitLen x]? = some b ∧ b.toNat = (uv x).length := by
  refine ⟨_, uvTable_get ⟨Lib.bitLen x, by omega⟩, ?_⟩
  have := lenOf_le (Lib.bitLen x)
  rw [uv_lenOf hx, UInt8.toNat_ofNat']
  dsimp only
  omega

theorem kUvarintLen (x : Nat) (hx : x < 4294967296) (w : World) : Calls Try.prog 141 [.int .u32 ((x : Nat) : Int)].toArray w (Gives w (.int .i64 (((uv x).length : Nat) : Int))) := by
  refine enter (n := 8) Try.func141 rfl Try.ntmps141 (by kernel_rfl) fun a hE => ?_
  have hW := WOk.start w Nil
  refine go_seq_region [0] (by kernel_rfl) (go_runs [0] [] [0] hW hE (env' := [(0, .v (.int .u32 ((x : Nat) : Int)))]) (by kernel_rfl) rfl fun a1 hE1 => wpOps_nil (then_normal ?_))
  refine go_seq_region [0, 1, 2, 3, 4, 5] (by kernel_rfl) ?_
  refine go_runs [0] [1, 2, 3, 4, 5] [3] hW hE1 (env' := [(3, .v (.int .u32 ((x : Nat) : Int)))]) (by kernel_rfl) rfl fun a2 hE2 => ?_
  refine of_op (wpOp_call hE2 (f := 153) (vs := [.int .u32 ((x : Nat) : Int)]) (d := 4) (by kernel_rfl) Try.call153 (kLen32 _ w (by omega) (by omega)) ?_)
  rintro e_ w' ⟨rfl, rfl⟩
  refine ⟨_, rfl, fun a3 hE3 => ?_⟩
  rw [Int.toNat_natCast] at hE3
  have hl := Lib.bitLen_le x 32 (by omega) (by omega)
  refine go_runs [2] [3, 4, 5] [5] hW hE3 (env' := [(5, .v (.int .u8 (IntKind.u8.wrap ((Lib.bitLen x : Nat) : Int))))]) (by kernel_rfl) rfl fun a4 hE4 => ?_
  have e1 : IntKind.u8.wrap ((Lib.bitLen x : Nat) : Int) = ((Lib.bitLen x : Nat) : Int) := by rw [wrap_u8]; omega
  rw [e1] at hE4
  obtain ⟨b, hb1, hb2⟩ := uvLen_table x hx hl
  refine of_op (wpOp_indexS hE4 (s := uvTable) (t := 9) (dd := 6) (by kernel_rfl) (by kernel_rfl) hb1 fun a5 hE5 => ?_)
  refine go_runs [4, 5] [] [2] hW hE5 (env' := [(2, .v (.int .i64 (IntKind.i64.wrap (b.toNat : Int))))]) (by kernel_rfl) rfl fun a6 hE6 => wpOps_nil (then_normal (wp_ret ?_))
  rw [hb2, wrap_i64 (by omega) (by have := uv_len_le x 5 (by omega) (by omega); omega)] at hE6
  exact leave hE6 hW.cells (v := .int .i64 (((uv x).length : Nat) : Int)) (by kernel_rfl) ⟨rfl, Step.refl _ _⟩

theorem kAppendUvarint (x : Nat) (hx : x < 4294967296) (A : Option Addr) (cp : Nat) (s : Bs) (w : World) (ho : w.ownsRow 0 5 1 (.slice A s.length cp) s.length (bc s)) (hroom : s.length + (uv x).length + 16 ≤ 1099511627776) :
    Calls Try.prog 100 (.slice A s.length cp :: [.int .u32 ((x : Nat) : Int)]).toArray w (AppPost w 5 A (s ++ (uv x))) := by
  refine chr_calls0 (n := 93) Try.func100 rfl Try.ntmps100 (by kernel_rfl) rfl ho hroom ?_
  refine chr_seq0 (ch_pure (env' := [(1, .v (.int .u32 ((x : Nat) : Int)))]) [1] (fun _ _ _ => by kernel_rfl)) ?_
  refine chr_left ?_
  refine chr_seq0 (ch_quiet (env' := [(1, .v (.int .u32 ((x : Nat) : Int))), (6, .v (.int .i64 (((uv x).length : Nat) : Int)))]) (f := 141) (vs := [.int .u32 ((x : Nat) : Int)]) 1 [1, 6] (fun _ _ _ => by kernel_rfl) (by kernel_rfl) Try.call141 (fun w _ => kUvarintLen x hx w)) ?_
  refine chr_block ?_
  have hl := uv_len_le x 5 (by omega) (by omega)
  have hl1 := uv_len_pos x
  refine chr_seq0 (ch_pure (env' := [(1, .v (.int .u32 ((x : Nat) : Int))), (6, .v (.int .i64 (((uv x).length : Nat) : Int))), (7, .v (.bool ((((uv x).length : Nat) : Int) == 5)))]) [1, 6, 7] (fun _ _ _ => by kernel_rfl)) ?_
  refine chr_cond (b := ((((uv x).length : Nat) : Int) == 5)) (fun _ _ _ => by kernel_rfl) (fun hb => ?_) (fun hb => ?_)
  · exact chr_push (t := 22) (d1 := 32) (dd := 33) (len := 5) (cs := [.int .u8 (IntKind.u8.wrap (IntKind.u32.wrap (BitVec.ofInt 32 (IntKind.u32.wrap (BitVec.ofInt 32 ((x : Nat) : Int) &&& BitVec.ofInt 32 127).toNat) ||| BitVec.ofInt 32 128).toNat)), .int .u8 (IntKind.u8.wrap (IntKind.u32.wrap (BitVec.ofInt 32 (IntKind.u32.wrap (BitVec.ofInt 32 (Int.fdiv ((x : Nat) : Int) 128) &&& BitVec.ofInt 32 127).toNat) ||| BitVec.ofInt 32 128).toNat)), .int .u8 (IntKind.u8.wrap (IntKind.u32.wrap (BitVec.ofInt 32 (IntKind.u32.wrap (BitVec.ofInt 32 (Int.fdiv ((x : Nat) : Int) 16384) &&& BitVec.ofInt 32 127).toNat) ||| BitVec.ofInt 32 128).toNat)), .int .u8 (IntKind.u8.wrap (IntKind.u32.wrap (BitVec.ofInt 32 (IntKind.u32.wrap (BitVec.ofInt 32 (Int.fdiv ((x : Nat) : Int) 2097152) &&& BitVec.ofInt 32 127).toNat) ||| BitVec.ofInt 32 128).toNat)), .int .u8 (IntKind.u8.wrap (Int.fdiv ((x : Nat) : Int) 268435456))]) 23 (fun _ _ _ _ _ _ _ => by kernel_rfl) (by kernel_rfl) (by kernel_rfl) (uv_cells5 x hx (by have := eq_of_beq hb; omega)) (by kernel_rfl)
  ·
    have g5 := ne_of_beq_false hb
    refine chr_seq0 (ch_pure (env' := [(1, .v (.int .u32 ((x : Nat) : Int))), (6, .v (.int .i64 (((uv x).length : Nat) : Int))), (34, .v (.bool ((((uv x).length : Nat) : Int) == 4)))]) [1, 6, 34] (fun _ _ _ => by kernel_rfl)) ?_
    refine chr_cond (b := ((((uv x).length : Nat) : Int) == 4)) (fun _ _ _ => by kernel_rfl) (fun hb => ?_) (fun hb => ?_)
    · exact chr_push (t := 22) (d1 := 54) (dd := 55) (len := 4) (cs := [.int .u8 (IntKind.u8.wrap (IntKind.u32.wrap (BitVec.ofInt 32 (IntKind.u32.wrap (BitVec.ofInt 32 ((x : Nat) : Int) &&& BitVec.ofInt 32 127).toNat) ||| BitVec.ofInt 32 128).toNat)), .int .u8 (IntKind.u8.wrap (IntKind.u32.wrap (BitVec.ofInt 32 (IntKind.u32.wrap (BitVec.ofInt 32 (Int.fdiv ((x : Nat) : Int) 128) &&& BitVec.ofInt 32 127).toNat) ||| BitVec.ofInt 32 128).toNat)), .int .u8 (IntKind.u8.wrap (IntKind.u32.wrap (BitVec.ofInt 32 (IntKind.u32.wrap (BitVec.ofInt 32 (Int.fdiv ((x : Nat) : Int) 16384) &&& BitVec.ofInt 32 127).toNat) ||| BitVec.ofInt 32 128).toNat)), .int .u8 (IntKind.u8.wrap (Int.fdiv ((x : Nat) : Int) 2097152))]) 18 (fun _ _ _ _ _ _ _ => by kernel_rfl) (by kernel_rfl) (by kernel_rfl) (uv_cells4 x hx (by have := eq_of_beq hb; omega)) (by kernel_rfl)
    ·
      have g4 := ne_of_beq_false hb
      refine chr_seq0 (ch_pure (env' := [(1, .v (.int .u32 ((x : Nat) : Int))), (6, .v (.int .i64 (((uv x).length : Nat) : Int))), (56, .v (.bool ((((uv x).length : Nat) : Int) == 3)))]) [1, 6, 56] (fun _ _ _ => by kernel_rfl)) ?_
      refine chr_cond (b := ((((uv x).length : Nat) : Int) == 3)) (fun _ _ _ => by kernel_rfl) (fun hb => ?_) (fun hb => ?_)
      · exact chr_push (t := 22) (d1 := 71) (dd := 72) (len := 3) (cs := [.int .u8 (IntKind.u8.wrap (IntKind.u32.wrap (BitVec.ofInt 32 (IntKind.u32.wrap (BitVec.ofInt 32 ((x : Nat) : Int) &&& BitVec.ofInt 32 127).toNat) ||| BitVec.ofInt 32 128).toNat)), .int .u8 (IntKind.u8.wrap (IntKind.u32.wrap (BitVec.ofInt 32 (IntKind.u32.wrap (BitVec.ofInt 32 (Int.fdiv ((x : Nat) : Int) 128) &&& BitVec.ofInt 32 127).toNat) ||| BitVec.ofInt 32 128).toNat)), .int .u8 (IntKind.u8.wrap (Int.fdiv ((x : Nat) : Int) 16384))]) 13 (fun _ _ _ _ _ _ _ => by kernel_rfl) (by kernel_rfl) (by kernel_rfl) (uv_cells3 x hx (by have := eq_of_beq hb; omega)) (by kernel_rfl)
      ·
        have g3 := ne_of_beq_false hb
        refine chr_seq0 (ch_pure (env' := [(1, .v (.int .u32 ((x : Nat) : Int))), (6, .v (.int .i64 (((uv x).length : Nat) : Int))), (73, .v (.bool ((((uv x).length : Nat) : Int) == 2)))]) [1, 6, 73] (fun _ _ _ => by kernel_rfl)) ?_
        refine chr_cond (b := ((((uv x).length : Nat) : Int) == 2)) (fun _ _ _ => by kernel_rfl) (fun hb => ?_) (fun hb => ?_)
        · exact chr_push (t := 22) (d1 := 83) (dd := 84) (len := 2) (cs := [.int .u8 (IntKind.u8.wrap (IntKind.u32.wrap (BitVec.ofInt 32 (IntKind.u32.wrap (BitVec.ofInt 32 ((x : Nat) : Int) &&& BitVec.ofInt 32 127).toNat) ||| BitVec.ofInt 32 128).toNat)), .int .u8 (IntKind.u8.wrap (Int.fdiv ((x : Nat) : Int) 128))]) 8 (fun _ _ _ _ _ _ _ => by kernel_rfl) (by kernel_rfl) (by kernel_rfl) (uv_cells2 x hx (by have := eq_of_beq hb; omega)) (by kernel_rfl)
        ·
          have g2 := ne_of_beq_false hb
          refine chr_seq0 (ch_pure (env' := [(1, .v (.int .u32 ((x : Nat) : Int))), (6, .v (.int .i64 (((uv x).length : Nat) : Int))), (85, .v (.bool ((((uv x).length : Nat) : Int) == 1)))]) [1, 6, 85] (fun _ _ _ => by kernel_rfl)) ?_
          refine chr_cond (b := ((((uv x).length : Nat) : Int) == 1)) (fun _ _ _ => by kernel_rfl) (fun hb => ?_) (fun hb => ?_)
          · exact chr_push (t := 22) (d1 := 90) (dd := 91) (len := 1) (cs := [.int .u8 (IntKind.u8.wrap ((x : Nat) : Int))]) 3 (fun _ _ _ _ _ _ _ => by kernel_rfl) (by kernel_rfl) (by kernel_rfl) (uv_cells1 x hx (by have := eq_of_beq hb; omega)) (by kernel_rfl)
          ·
            have g1 := ne_of_beq_false hb
            exfalso; omega

theorem kAppendString (s' : ByteArray) (A : Option Addr) (cp : Nat) (s : Bs) (w : World) (ho : w.ownsRow 0 5 1 (.slice A s.length cp) s.length (bc s)) (hroom : s.length + (be 2 s'.size ++ sb s').length + 16 ≤ 1099511627776) :
    Calls Try.prog 123 (.slice A s.length cp :: [.string s']).toArray w (AppPost w 5 A (s ++ (be 2 s'.size ++ sb s'))) := by
  refine chr_calls0 (n := 13) Try.func123 rfl Try.ntmps123 (by kernel_rfl) rfl ho hroom ?_
  refine chr_seq0 (ch_pure (env' := [(1, .v (.string s'))]) [1] (fun _ _ _ => by kernel_rfl)) ?_
  refine chr_seq (ch_call (env' := [(1, .v (.string s'))]) (f := 99) (vs := [.int .i16 (IntKind.i16.wrap ((s'.size : Nat) : Int))]) 4 [1] (fun _ _ _ _ _ _ => by kernel_rfl) (by kernel_rfl) Try.call99 (fun A cp s w _ _ ho hr => by have h := kAppendInt16 A cp s (IntKind.i16.wrap ((s'.size : Nat) : Int)) w ho (by omega); rwa [be2_i16] at h)) ?_
  exact chr_appS (t := 22) (u := 9) 2 (fun _ _ _ _ _ _ => by kernel_rfl) (by kernel_rfl) (by kernel_rfl) (by kernel_rfl) (by kernel_rfl)

theorem kAppendCompactString (s' : ByteArray) (A : Option Addr) (cp : Nat) (s : Bs) (w : World) (ho : w.ownsRow 0 5 1 (.slice A s.length cp) s.length (bc s)) (hsm : s'.size ≤ 1000000) (hroom : s.length + (uv (s'.size + 1) ++ sb s').length + 16 ≤ 1099511627776) :
    Calls Try.prog 122 (.slice A s.length cp :: [.string s']).toArray w (AppPost w 5 A (s ++ (uv (s'.size + 1) ++ sb s'))) := by
  refine chr_calls0 (n := 14) Try.func122 rfl Try.ntmps122 (by kernel_rfl) rfl ho hroom ?_
  refine chr_seq0 (ch_pure (env' := [(1, .v (.string s'))]) [1] (fun _ _ _ => by kernel_rfl)) ?_
  refine chr_seq (ch_call (env' := [(1, .v (.string s'))]) (f := 100) (vs := [.int .u32 (IntKind.u32.wrap (1 + IntKind.u32.wrap ((s'.size : Nat) : Int)))]) 5 [1] (fun _ _ _ _ _ _ => by kernel_rfl) (by kernel_rfl) Try.call100 (fun A cp s w _ _ ho hr => by rw [show (IntKind.u32.wrap (1 + IntKind.u32.wrap ((s'.size : Nat) : Int)) : Int) = ((s'.size + 1 : Nat) : Int) from by simp only [wrap_u32]; omega]; exact kAppendUvarint (s'.size + 1) (by omega) A cp s w ho hr)) ?_
  exact chr_appS (t := 22) (u := 9) 2 (fun _ _ _ _ _ _ => by kernel_rfl) (by kernel_rfl) (by kernel_rfl) (by kernel_rfl) (by kernel_rfl)

theorem kAppendBytes (o : Bs) (Ao : Option Addr) (co : Nat) (F : Nat → Nat → Prop) (A : Option Addr) (cp : Nat) (s : Bs) (w : World) (ho : w.ownsRow 0 5 1 (.slice A s.length cp) s.length (bc s)) (hF : ∀ b o, F b o → ¬ Blk A b o) (hO : Octs w F Ao co o) (hroom : s.length + (be 4 o.length ++ o).length + 16 ≤ 1099511627776) :
    Calls Try.prog 135 (.slice A s.length cp :: [.slice Ao o.length co]).toArray w (AppPost w 5 A (s ++ (be 4 o.length ++ o))) := by
  refine chr_calls0 (n := 13) Try.func135 rfl Try.ntmps135 (by kernel_rfl) rfl ho hroom ?_
  refine chr_seq0 (ch_pure (env' := [(1, .v (.slice Ao o.length co))]) [1] (fun _ _ _ => by kernel_rfl)) ?_
  refine chr_seq (ch_call (env' := [(1, .v (.slice Ao o.length co))]) (f := 112) (vs := [.int .i32 (IntKind.i32.wrap ((o.length : Nat) : Int))]) 4 [1] (fun _ _ _ _ _ _ => by kernel_rfl) (by kernel_rfl) Try.call112 (fun A cp s w _ _ ho hr => by have h := kAppendInt32 A cp s (IntKind.i32.wrap ((o.length : Nat) : Int)) w ho (by omega); rwa [be4_i32'] at h)) ?_
  exact chr_appO (t := 22) 2 (fun _ _ _ _ _ _ => by kernel_rfl) (by kernel_rfl) (by kernel_rfl) hO hF

theorem kAppendCompactBytes (o : Bs) (Ao : Option Addr) (co : Nat) (F : Nat → Nat → Prop) (A : Option Addr) (cp : Nat) (s : Bs) (w : World) (ho : w.ownsRow 0 5 1 (.slice A s.length cp) s.length (bc s)) (hF : ∀ b o, F b o → ¬ Blk A b o) (hO : Octs w F Ao co o) (hsm : o.length ≤ 1000000) (hroom : s.length + (uv (o.length + 1) ++ o).length + 16 ≤ 1099511627776) :
    Calls Try.prog 134 (.slice A s.length cp :: [.slice Ao o.length co]).toArray w (AppPost w 5 A (s ++ (uv (o.length + 1) ++ o))) := by
  refine chr_calls0 (n := 14) Try.func134 rfl Try.ntmps134 (by kernel_rfl) rfl ho hroom ?_
  refine chr_seq0 (ch_pure (env' := [(1, .v (.slice Ao o.length co))]) [1] (fun _ _ _ => by kernel_rfl)) ?_
  refine chr_seq (ch_call (env' := [(1, .v (.slice Ao o.length co))]) (f := 100) (vs := [.int .u32 (IntKind.u32.wrap (1 + IntKind.u32.wrap ((o.length : Nat) : Int)))]) 5 [1] (fun _ _ _ _ _ _ => by kernel_rfl) (by kernel_rfl) Try.call100 (fun A cp s w _ _ ho hr => by rw [show (IntKind.u32.wrap (1 + IntKind.u32.wrap ((o.length : Nat) : Int)) : Int) = ((o.length + 1 : Nat) : Int) from by simp only [wrap_u32]; omega]; exact kAppendUvarint (o.length + 1) (by omega) A cp s w ho hr)) ?_
  exact chr_appO (t := 22) 2 (fun _ _ _ _ _ _ => by kernel_rfl) (by kernel_rfl) (by kernel_rfl) hO hF

theorem kAppendNullableString (Ap : Option Addr) (s' : ByteArray) (A : Option Addr) (cp : Nat) (s : Bs) (w : World) (ho : w.ownsRow 0 5 1 (.slice A s.length cp) s.length (bc s)) (F : Nat → Nat → Prop) (hF : ∀ b o, F b o → ¬ Blk A b o) (hO : ∀ ad, Ap = some ad → ∃ b o, ad = ⟨b, o, none⟩ ∧ AtF w F b o [.string s']) (hsm : s'.size ≤ 1000000) (hroom : s.length + (match Ap with | none => be 2 (-1) | some _ => be 2 s'.size ++ sb s').length + 16 ≤ 1099511627776) :
    Calls Try.prog 114 (.slice A s.length cp :: [.pointer Ap]).toArray w (AppPost w 5 A (s ++ (match Ap with | none => be 2 (-1) | some _ => be 2 s'.size ++ sb s'))) := by
  refine chr_calls0 (n := 14) Try.func114 rfl Try.ntmps114 (by kernel_rfl) rfl ho hroom ?_
  refine chr_seq0 (ch_pure (env' := [(1, .v (.pointer Ap))]) [1] (fun _ _ _ => by kernel_rfl)) ?_
  refine chr_iff (b := Ap.isNone) (ch_pure (env' := [(1, .v (.pointer Ap)), (6, .v (.bool Ap.isNone))]) [1, 6] (fun _ _ _ => by kernel_rfl)) (fun _ _ _ => by kernel_rfl) (fun hb => ?_) (fun hb => ?_)
  · obtain rfl : Ap = none := by simpa using hb
    exact chr_call (f := 99) (vs := [.int .i16 (-1)]) 1 (fun _ _ _ _ _ _ => by kernel_rfl) (by kernel_rfl) Try.call99 (fun A cp s w _ _ ho hr => kAppendInt16 A cp s (-1) w ho (by omega))
  · cases Ap with
    | none => cases hb
    | some ad =>
      obtain ⟨b, o, rfl, hat⟩ := hO _ rfl
      refine chr_ob b o [.string s'] hat hF (by kernel_rfl) (by kernel_rfl) ?_
      refine chr_pick (e1 := [(1, .v (.pointer (some ⟨b, o, none⟩)))]) [1] (fun _ _ _ => by kernel_rfl) ?_
      refine chr_ptr 1 0 0 b o (by simp) rfl rfl rfl ?_
      exact chr_call (f := 123) (vs := [.string s']) 4 (fun _ _ _ _ _ _ => by kernel_rfl) (by kernel_rfl) Try.call123 (fun A cp s w _ _ ho hr => kAppendString s' A cp s w ho hr)

theorem kAppendNullableBytes (o : Bs) (Ao : Option Addr) (co : Nat) (F : Nat → Nat → Prop) (A : Option Addr) (cp : Nat) (s : Bs) (w : World) (ho : w.ownsRow 0 5 1 (.slice A s.length cp) s.length (bc s)) (hF : ∀ b o, F b o → ¬ Blk A b o) (hO : Octs w F Ao co o) (hsm : o.length ≤ 1000000) (hroom : s.length + (match Ao with | none => be 4 (-1) | some _ => be 4 o.length ++ o).length + 16 ≤ 1099511627776) :
    Calls Try.prog 98 (.slice A s.length cp :: [.slice Ao o.length co]).toArray w (AppPost w 5 A (s ++ (match Ao with | none => be 4 (-1) | some _ => be 4 o.length ++ o))) := by
  refine chr_calls0 (n := 12) Try.func98 rfl Try.ntmps98 (by kernel_rfl) rfl ho hroom ?_
  refine chr_seq0 (ch_pure (env' := [(1, .v (.slice Ao o.length co))]) [1] (fun _ _ _ => by kernel_rfl)) ?_
  refine chr_iff (b := Ao.isNone) (ch_pure (env' := [(1, .v (.slice Ao o.length co)), (6, .v (.bool Ao.isNone))]) [1, 6] (fun _ _ _ => by kernel_rfl)) (fun _ _ _ => by kernel_rfl) (fun hb => ?_) (fun hb => ?_)
  · obtain rfl : Ao = none := by simpa using hb
    exact chr_call (f := 112) (vs := [.int .i32 (-1)]) 1 (fun _ _ _ _ _ _ => by kernel_rfl) (by kernel_rfl) Try.call112 (fun A cp s w _ _ ho hr => kAppendInt32 A cp s (-1) w ho (by omega))
  · cases Ao with
    | none => cases hb
    | some ad =>
      exact chr_call (f := 135) (vs := [.slice (some ad) o.length co]) 2 (fun _ _ _ _ _ _ => by kernel_rfl) (by kernel_rfl) Try.call135 (fun A cp s w hs hA ho hr => kAppendBytes o (some ad) co (Lo F _) A cp s w ho (lo_dis hF hA) (hO.move hs (lo_M hF) lo_F) hr)

theorem kAppendCompactNullableString (Ap : Option Addr) (s' : ByteArray) (A : Option Addr) (cp : Nat) (s : Bs) (w : World) (ho : w.ownsRow 0 5 1 (.slice A s.length cp) s.length (bc s)) (F : Nat → Nat → Prop) (hF : ∀ b o, F b o → ¬ Blk A b o) (hO : ∀ ad, Ap = some ad → ∃ b o, ad = ⟨b, o, none⟩ ∧ AtF w F b o [.string s']) (hsm : s'.size ≤ 1000000) (hroom : s.length + (match Ap with | none => uv 0 | some _ => uv (s'.size + 1) ++ sb s').length + 16 ≤ 1099511627776) :
    Calls Try.prog 113 (.slice A s.length cp :: [.pointer Ap]).toArray w (AppPost w 5 A (s ++ (match Ap with | none => uv 0 | some _ => uv (s'.size + 1) ++ sb s'))) := by
  refine chr_calls0 (n := 14) Try.func113 rfl Try.ntmps113 (by kernel_rfl) rfl ho hroom ?_
  refine chr_seq0 (ch_pure (env' := [(1, .v (.pointer Ap))]) [1] (fun _ _ _ => by kernel_rfl)) ?_
  refine chr_iff (b := Ap.isNone) (ch_pure (env' := [(1, .v (.pointer Ap)), (6, .v (.bool Ap.isNone))]) [1, 6] (fun _ _ _ => by kernel_rfl)) (fun _ _ _ => by kernel_rfl) (fun hb => ?_) (fun hb => ?_)
  · obtain rfl : Ap = none := by simpa using hb
    exact chr_call (f := 100) (vs := [.int .u32 0]) 1 (fun _ _ _ _ _ _ => by kernel_rfl) (by kernel_rfl) Try.call100 (fun A cp s w _ _ ho hr => kAppendUvarint 0 (by omega) A cp s w ho hr)
  · cases Ap with
    | none => cases hb
    | some ad =>
      obtain ⟨b, o, rfl, hat⟩ := hO _ rfl
      refine chr_ob b o [.string s'] hat hF (by kernel_rfl) (by kernel_rfl) ?_
      refine chr_pick (e1 := [(1, .v (.pointer (some ⟨b, o, none⟩)))]) [1] (fun _ _ _ => by kernel_rfl) ?_
      refine chr_ptr 1 0 0 b o (by simp) rfl rfl rfl ?_
      exact chr_call (f := 122) (vs := [.string s']) 4 (fun _ _ _ _ _ _ => by kernel_rfl) (by kernel_rfl) Try.call122 (fun A cp s w _ _ ho hr => kAppendCompactString s' A cp s w ho hsm hr)

theorem kAppendCompactNullableBytes (o : Bs) (Ao : Option Addr) (co : Nat) (F : Nat → Nat → Prop) (A : Option Addr) (cp : Nat) (s : Bs) (w : World) (ho : w.ownsRow 0 5 1 (.slice A s.length cp) s.length (bc s)) (hF : ∀ b o, F b o → ¬ Blk A b o) (hO : Octs w F Ao co o) (hsm : o.length ≤ 1000000) (hroom : s.length + (match Ao with | none => uv 0 | some _ => uv (o.length + 1) ++ o).length + 16 ≤ 1099511627776) :
    Calls Try.prog 97 (.slice A s.length cp :: [.slice Ao o.length co]).toArray w (AppPost w 5 A (s ++ (match Ao with | none => uv 0 | some _ => uv (o.length + 1) ++ o))) := by
  refine chr_calls0 (n := 12) Try.func97 rfl Try.ntmps97 (by kernel_rfl) rfl ho hroom ?_
  refine chr_seq0 (ch_pure (env' := [(1, .v (.slice Ao o.length co))]) [1] (fun _ _ _ => by kernel_rfl)) ?_
  refine chr_iff (b := Ao.isNone) (ch_pure (env' := [(1, .v (.slice Ao o.length co)), (6, .v (.bool Ao.isNone))]) [1, 6] (fun _ _ _ => by kernel_rfl)) (fun _ _ _ => by kernel_rfl) (fun hb => ?_) (fun hb => ?_)
  · obtain rfl : Ao = none := by simpa using hb
    exact chr_call (f := 100) (vs := [.int .u32 0]) 1 (fun _ _ _ _ _ _ => by kernel_rfl) (by kernel_rfl) Try.call100 (fun A cp s w _ _ ho hr => kAppendUvarint 0 (by omega) A cp s w ho hr)
  · cases Ao with
    | none => cases hb
    | some ad =>
      exact chr_call (f := 134) (vs := [.slice (some ad) o.length co]) 2 (fun _ _ _ _ _ _ => by kernel_rfl) (by kernel_rfl) Try.call134 (fun A cp s w hs hA ho hr => kAppendCompactBytes o (some ad) co (Lo F _) A cp s w ho (lo_dis hF hA) (hO.move hs (lo_M hF) lo_F) hsm hr)

theorem kAppendArrayLen (m : Nat) (A : Option Addr) (cp : Nat) (s : Bs) (w : World) (ho : w.ownsRow 0 5 1 (.slice A s.length cp) s.length (bc s)) (hroom : s.length + (be 4 m).length + 16 ≤ 1099511627776) :
    Calls Try.prog 125 (.slice A s.length cp :: [.int .i64 ((m : Nat) : Int)]).toArray w (AppPost w 5 A (s ++ (be 4 m))) := by
  refine chr_calls0 (n := 9) Try.func125 rfl Try.ntmps125 (by kernel_rfl) rfl ho hroom ?_
  refine chr_seq0 (ch_pure (env' := [(1, .v (.int .i64 ((m : Nat) : Int)))]) [1] (fun _ _ _ => by kernel_rfl)) ?_
  exact chr_call (f := 112) (vs := [.int .i32 (IntKind.i32.wrap ((m : Nat) : Int))]) 3 (fun _ _ _ _ _ _ => by kernel_rfl) (by kernel_rfl) Try.call112 (fun A cp s w _ _ ho hr => by have h := kAppendInt32 A cp s (IntKind.i32.wrap ((m : Nat) : Int)) w ho (by omega); rwa [be4_i32'] at h)

theorem kAppendNullableArrayLen (m : Nat) (hm : m ≤ 1000000) (b : Bool) (A : Option Addr) (cp : Nat) (s : Bs) (w : World) (ho : w.ownsRow 0 5 1 (.slice A s.length cp) s.length (bc s)) (hroom : s.length + (if b = true then be 4 (-1) else be 4 m).length + 16 ≤ 1099511627776) :
    Calls Try.prog 121 (.slice A s.length cp :: [.int .i64 ((m : Nat) : Int), .bool b]).toArray w (AppPost w 5 A (s ++ (if b = true then be 4 (-1) else be 4 m))) := by
  refine chr_calls0 (n := 14) Try.func121 rfl Try.ntmps121 (by kernel_rfl) rfl ho hroom ?_
  refine chr_seq0 (ch_pure (env' := [(1, .v (.int .i64 ((m : Nat) : Int))), (2, .v (.bool b))]) [1, 2] (fun _ _ _ => by kernel_rfl)) ?_
  refine chr_iff (b := b) (ch_pure (env' := [(1, .v (.int .i64 ((m : Nat) : Int))), (2, .v (.bool b)), (7, .v (.bool b))]) [1, 2, 7] (fun _ _ _ => by kernel_rfl)) (fun _ _ _ => by kernel_rfl) (fun hb => ?_) (fun hb => ?_)
  · subst hb
    exact chr_call (f := 112) (vs := [.int .i32 (-1)]) 1 (fun _ _ _ _ _ _ => by kernel_rfl) (by kernel_rfl) Try.call112 (fun A cp s w _ _ ho hr => kAppendInt32 A cp s (-1) w ho (by omega))
  · subst hb
    exact chr_call (f := 112) (vs := [.int .i32 (IntKind.i32.wrap ((m : Nat) : Int))]) 3 (fun _ _ _ _ _ _ => by kernel_rfl) (by kernel_rfl) Try.call112 (fun A cp s w _ _ ho hr => by have h := kAppendInt32 A cp s (IntKind.i32.wrap ((m : Nat) : Int)) w ho (by omega); rwa [be4_i32'] at h)

theorem kAppendCompactArrayLen (m : Nat) (hm : m ≤ 1000000) (A : Option Addr) (cp : Nat) (s : Bs) (w : World) (ho : w.ownsRow 0 5 1 (.slice A s.length cp) s.length (bc s)) (hroom : s.length + (uv (m + 1)).length + 16 ≤ 1099511627776) :
    Calls Try.prog 124 (.slice A s.length cp :: [.int .i64 ((m : Nat) : Int)]).toArray w (AppPost w 5 A (s ++ (uv (m + 1)))) := by
  refine chr_calls0 (n := 10) Try.func124 rfl Try.ntmps124 (by kernel_rfl) rfl ho hroom ?_
  refine chr_seq0 (ch_pure (env' := [(1, .v (.int .i64 ((m : Nat) : Int)))]) [1] (fun _ _ _ => by kernel_rfl)) ?_
  exact chr_call (f := 100) (vs := [.int .u32 (IntKind.u32.wrap (1 + IntKind.u32.wrap ((m : Nat) : Int)))]) 4 (fun _ _ _ _ _ _ => by kernel_rfl) (by kernel_rfl) Try.call100 (fun A cp s w _ _ ho hr => by rw [show (IntKind.u32.wrap (1 + IntKind.u32.wrap ((m : Nat) : Int)) : Int) = ((m + 1 : Nat) : Int) from by simp only [wrap_u32]; omega]; exact kAppendUvarint (m + 1) (by omega) A cp s w ho hr)

theorem kAppendCompactNullableArrayLen (m : Nat) (hm : m ≤ 1000000) (b : Bool) (A : Option Addr) (cp : Nat) (s : Bs) (w : World) (ho : w.ownsRow 0 5 1 (.slice A s.length cp) s.length (bc s)) (hroom : s.length + (if b = true then uv 0 else uv (m + 1)).length + 16 ≤ 1099511627776) :
    Calls Try.prog 120 (.slice A s.length cp :: [.int .i64 ((m : Nat) : Int), .bool b]).toArray w (AppPost w 5 A (s ++ (if b = true then uv 0 else uv (m + 1)))) := by
  refine chr_calls0 (n := 15) Try.func120 rfl Try.ntmps120 (by kernel_rfl) rfl ho hroom ?_
  refine chr_seq0 (ch_pure (env' := [(1, .v (.int .i64 ((m : Nat) : Int))), (2, .v (.bool b))]) [1, 2] (fun _ _ _ => by kernel_rfl)) ?_
  refine chr_iff (b := b) (ch_pure (env' := [(1, .v (.int .i64 ((m : Nat) : Int))), (2, .v (.bool b)), (7, .v (.bool b))]) [1, 2, 7] (fun _ _ _ => by kernel_rfl)) (fun _ _ _ => by kernel_rfl) (fun hb => ?_) (fun hb => ?_)
  · subst hb
    exact chr_call (f := 100) (vs := [.int .u32 0]) 1 (fun _ _ _ _ _ _ => by kernel_rfl) (by kernel_rfl) Try.call100 (fun A cp s w _ _ ho hr => kAppendUvarint 0 (by omega) A cp s w ho hr)
  · subst hb
    exact chr_call (f := 100) (vs := [.int .u32 (IntKind.u32.wrap (1 + IntKind.u32.wrap ((m : Nat) : Int)))]) 4 (fun _ _ _ _ _ _ => by kernel_rfl) (by kernel_rfl) Try.call100 (fun A cp s w _ _ ho hr => by rw [show (IntKind.u32.wrap (1 + IntKind.u32.wrap ((m : Nat) : Int)) : Int) = ((m + 1 : Nat) : Int) from by simp only [wrap_u32]; omega]; exact kAppendUvarint (m + 1) (by omega) A cp s w ho hr)

theorem kAppendUuid (o : Bs) (hl : o.length = 16) (A : Option Addr) (cp : Nat) (s : Bs) (w : World) (ho : w.ownsRow 0 5 1 (.slice A s.length cp) s.length (bc s)) (hroom : s.length + o.length + 16 ≤ 1099511627776) :
    Calls Try.prog 117 (.slice A s.length cp :: [.agg ((List.range 16).map fun i => byteCell (o.getD i 0)).toArray]).toArray w (AppPost w 5 A (s ++ o)) := by
  refine chr_calls0 (n := 8) Try.func117 rfl Try.ntmps117 (by kernel_rfl) rfl ho hroom ?_
  refine chr_bx (cs := (List.range 16).map fun i => byteCell (o.getD i 0)) (e2 := fun blk => [(3, .p 0 0)]) 0 [3] (fun _ _ _ _ => by kernel_rfl) (by kernel_rfl) fun blk => ?_
  exact chr_appB (t := 22) (num := 16) 2 0 (fun _ _ _ _ _ _ => by kernel_rfl) (by kernel_rfl) (by kernel_rfl) (by rw [← bc_sixteen hl]; rfl) hl

end Go.Proofs.Ytbjopfcbpobnpaa.ME
