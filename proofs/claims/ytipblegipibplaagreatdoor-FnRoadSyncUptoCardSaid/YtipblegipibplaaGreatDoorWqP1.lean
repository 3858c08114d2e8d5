/- Packed. Own work. -/
import Derived.Test.YtipblegipibplaaGreatDoorWqP0
import Derived.Test.YtipblegipibplaaGreatDoorProg
import Derived.Test.YtipblegipibplaaGreatDoorKl
import Derived.Test.YtipblegipibplaaGreatDoorTs
import Derived.Test.YtipblegipibplaaGreatDoorRows
import Derived.WalkKit
import Derived.ProofKit
import Derived.OpenShut
import Derived.JoinedCond
import Derived.WideKeyArgs
import Derived.ChangeSame
import Derived.Laws.BytesArg
import Derived.Lib.EndianBits
import Derived.Scope
import Derived.Lib.AppendZeros
import Derived.Lib.ConvBytes
namespace Go.Proofs.YtipblegipibplaaGreatDoor.ME
open Go
open Go.RowKit
set_option linter.unusedVariables false
set_option linter.unusedSimpArgs false
set_option maxRecDepth 20000
theorem KT (A:Option Addr) (c:Nat) (s:List UInt8) (x:Int) (w:World) (ho:w.ownsRow 0 5 1 (.slice A s.length c) s.length (bc s)) (hroom:s.length + 16 ≤ 1099511627776) :
  Calls Tryz.prog 118 #[.slice A s.length c,.int .u16 x] w (K9 w 5 A (s ++ be 2 x)):=by
 refine enter (n:=13) Tryz.func118 rfl Tryz.ntmps118 kz fun a hE=>?_
 have hW:=WOk.startRow w ho
 refine C1 [(0,.v (.slice A s.length c)),(1,.v (.int .u16 x))] hW hE fun a1 hE2=>?_
 refine B8 [0,1,2,3,4,5,6,7,8] kz ?_
 refine B3 [0,1,2,3,4,5] [6,7,8] [(5,.v (.slice A s.length c)),(8,.v (.int .u8 (IntKind.u8.wrap (Int.fdiv x 256)))),(10,.v (.int .u8 (IntKind.u8.wrap x)))] hW hE2 fun a3 hE4=>?_
 refine W5 hW hE4 (k:=0) (e:=5) (size:=1) (len:=2) (cs:=[.int .u8 (IntKind.u8.wrap (Int.fdiv x 256)),.int .u8 (IntKind.u8.wrap x)]) (d1:=11) (d:=12) kz (t:=30) (bytes:=1) kz (fun _=>by kernel_rfl) rfl kz (by first | (have:=hroom; omega) | (simp; done) | (simp; omega)) fun A5 c6 a7 w8 hF9 ac ⟨_,ae⟩=>?_
 have af:(⟨A5,c6,5,1,s.length + 2,bc s ++ [.int .u8 (IntKind.u8.wrap (Int.fdiv x 256)),.int .u8 (IntKind.u8.wrap x)]⟩:Rw) = B6 A5 c6 5 (s ++ [B7 (Int.fdiv x 256),B7 x]):=BR (by simp only [bc,List.map,N4]; try rfl) rfl
 obtain ⟨ab,aj⟩:=ac.rowEq 0 [B6 A5 c6 5 (s ++ [B7 (Int.fdiv x 256),B7 x])] af
 have ag:=EnvOk.pick ae (ks:=[5,8,10,12]) (env':=[(5,.v (.slice A s.length c)),(8,.v (.int .u8 (IntKind.u8.wrap (Int.fdiv x 256)))),(10,.v (.int .u8 (IntKind.u8.wrap x))),(12,.v (.slice A5 (s.length + 2) c6))]) kz
 have ah:=ag.cast (env':=[(5,.v (.slice A s.length c)),(8,.v (.int .u8 (IntKind.u8.wrap (Int.fdiv x 256)))),(10,.v (.int .u8 (IntKind.u8.wrap x))),(12,.v (.slice A5 ((s ++ [B7 (Int.fdiv x 256),B7 x]).length) c6))]) (by simp only [List.length_append,List.length_cons,List.length_nil,Nat.zero_add])
 refine B3 [8] [] [(4,.v (.slice A5 ((s ++ [B7 (Int.fdiv x 256),B7 x]).length) c6))] ab ah fun ak ai=>?_
 refine B4 (A7 ?_)
 refine wp_ret (D5 ai ab.cells (v:=.slice A5 ((s ++ [B7 (Int.fdiv x 256),B7 x]).length) c6) kz ?_)
 have e0:(s ++ [B7 (Int.fdiv x 256),B7 x]) = (s ++ be 2 x):=by simp [bc,be,N4,Int.fdiv_eq_ediv_of_nonneg]
 have h0:=BS ab 0 rfl
 rw [e0] at h0
 have e1:(s ++ [B7 (Int.fdiv x 256),B7 x]).length = (s ++ be 2 x).length:=by rw [← e0]
 rw [e1]; exact h0
theorem KU (A:Option Addr) (c:Nat) (s:List UInt8) (x:Int) (w:World) (ho:w.ownsRow 0 5 1 (.slice A s.length c) s.length (bc s)) (hroom:s.length + 16 ≤ 1099511627776) :
  Calls Tryz.prog 111 #[.slice A s.length c,.int .u32 x] w (K9 w 5 A (s ++ be 4 x)):=by
 refine enter (n:=19) Tryz.func111 rfl Tryz.ntmps111 kz fun a hE=>?_
 have hW:=WOk.startRow w ho
 refine C1 [(0,.v (.slice A s.length c)),(1,.v (.int .u32 x))] hW hE fun a1 hE2=>?_
 refine B8 [0,1,2,3,4,5,6,7,8,9,10,11,12,13,14] kz ?_
 let ab:Nat × SV:=(5,.v (.slice A s.length c))
 refine B3 [0,1,2,3,4,5,6,7,8,9,10,11] [12,13,14] [ab,(8,.v (.int .u8 (IntKind.u8.wrap (Int.fdiv x 16777216)))),(11,.v (.int .u8 (IntKind.u8.wrap (Int.fdiv x 65536)))),(14,.v (.int .u8 (IntKind.u8.wrap (Int.fdiv x 256)))),(16,.v (.int .u8 (IntKind.u8.wrap x)))] hW hE2 fun a3 hE4=>?_
 refine W5 hW hE4 (k:=0) (e:=5) (size:=1) (len:=4) (cs:=[.int .u8 (IntKind.u8.wrap (Int.fdiv x 16777216)),.int .u8 (IntKind.u8.wrap (Int.fdiv x 65536)),.int .u8 (IntKind.u8.wrap (Int.fdiv x 256)),.int .u8 (IntKind.u8.wrap x)]) (d1:=17) (d:=18) kz (t:=30) (bytes:=1) kz (fun _=>by kernel_rfl) rfl kz (by first | (have:=hroom; omega) | (simp; done) | (simp; omega)) fun A5 c6 a7 w8 hF9 ae ⟨_,af⟩=>?_
 have ag:(⟨A5,c6,5,1,s.length + 4,bc s ++ [.int .u8 (IntKind.u8.wrap (Int.fdiv x 16777216)),.int .u8 (IntKind.u8.wrap (Int.fdiv x 65536)),.int .u8 (IntKind.u8.wrap (Int.fdiv x 256)),.int .u8 (IntKind.u8.wrap x)]⟩:Rw) = B6 A5 c6 5 (s ++ [B7 (Int.fdiv x 16777216),B7 (Int.fdiv x 65536),B7 (Int.fdiv x 256),B7 x]):=BR (by simp only [bc,List.map,N4]; try rfl) rfl
 obtain ⟨ac,ak⟩:=ae.rowEq 0 [B6 A5 c6 5 (s ++ [B7 (Int.fdiv x 16777216),B7 (Int.fdiv x 65536),B7 (Int.fdiv x 256),B7 x])] ag
 have ah:=EnvOk.pick af (ks:=[5,8,11,14,16,18]) (env':=[ab,(8,.v (.int .u8 (IntKind.u8.wrap (Int.fdiv x 16777216)))),(11,.v (.int .u8 (IntKind.u8.wrap (Int.fdiv x 65536)))),(14,.v (.int .u8 (IntKind.u8.wrap (Int.fdiv x 256)))),(16,.v (.int .u8 (IntKind.u8.wrap x))),(18,.v (.slice A5 (s.length + 4) c6))]) kz
 have ai:=ah.cast (env':=[ab,(8,.v (.int .u8 (IntKind.u8.wrap (Int.fdiv x 16777216)))),(11,.v (.int .u8 (IntKind.u8.wrap (Int.fdiv x 65536)))),(14,.v (.int .u8 (IntKind.u8.wrap (Int.fdiv x 256)))),(16,.v (.int .u8 (IntKind.u8.wrap x))),(18,.v (.slice A5 ((s ++ [B7 (Int.fdiv x 16777216),B7 (Int.fdiv x 65536),B7 (Int.fdiv x 256),B7 x]).length) c6))]) (by simp only [List.length_append,List.length_cons,List.length_nil,Nat.zero_add])
 refine B3 [14] [] [(4,.v (.slice A5 ((s ++ [B7 (Int.fdiv x 16777216),B7 (Int.fdiv x 65536),B7 (Int.fdiv x 256),B7 x]).length) c6))] ac ai fun al aj=>?_
 refine B4 (A7 ?_)
 refine wp_ret (D5 aj ac.cells (v:=.slice A5 ((s ++ [B7 (Int.fdiv x 16777216),B7 (Int.fdiv x 65536),B7 (Int.fdiv x 256),B7 x]).length) c6) kz ?_)
 have e0:(s ++ [B7 (Int.fdiv x 16777216),B7 (Int.fdiv x 65536),B7 (Int.fdiv x 256),B7 x]) = (s ++ be 4 x):=by simp [bc,be,N4,Int.fdiv_eq_ediv_of_nonneg]
 have h0:=BS ac 0 rfl
 rw [e0] at h0
 have e1:(s ++ [B7 (Int.fdiv x 16777216),B7 (Int.fdiv x 65536),B7 (Int.fdiv x 256),B7 x]).length = (s ++ be 4 x).length:=by rw [← e0]
 rw [e1]; exact h0
theorem DR (A:Option Addr) (c:Nat) (s:List UInt8) (x:Int) (w:World) (ho:w.ownsRow 0 5 1 (.slice A s.length c) s.length (bc s)) (hroom:s.length + 16 ≤ 1099511627776) :
  Calls Tryz.prog 87 #[.slice A s.length c,.int .i16 x] w (K9 w 5 A (s ++ be 2 x)):=by
 refine enter (n:=9) Tryz.func87 rfl Tryz.ntmps87 kz fun a hE=>?_
 have hW:=WOk.startRow w ho
 refine C1 [(0,.v (.slice A s.length c)),(1,.v (.int .i16 x))] hW hE fun a1 hE2=>?_
 refine B8 [0,1,2,3,4] kz ?_
 refine B3 [0,1,2] [3,4] [(5,.v (.slice A s.length c)),(7,.v (.int .u16 (IntKind.u16.wrap x)))] hW hE2 fun a3 hE4=>?_
 refine B1 (C3 hE4 (f:=118) (vs:=[.slice A s.length c,.int .u16 (IntKind.u16.wrap x)]) (d:=8) kz Tryz.call118 (KT A c s (IntKind.u16.wrap x) _ (hW.own 0 _ rfl) (by first | (have:=hroom; omega) | (simp; done) | (simp; omega))) ?_)
 rintro e_ w7 ⟨A5,c6,rfl,ho9,ac,ae⟩
 refine ⟨_,rfl,fun a8 af=>?_⟩
 have ab:WOk _ _ _ _ [B6 A5 c6 5 (s ++ be 2 (IntKind.u16.wrap x))]:=hW.grow (k:=0) rfl ac ho9 ae
 have ah:Fr _ [] [B6 A c 5 s] _ [] [B6 A5 c6 5 (s ++ be 2 (IntKind.u16.wrap x))]:=Fr.grow _ (k:=0) (r':=(B6 A5 c6 5 (s ++ be 2 (IntKind.u16.wrap x)))) rfl ac ae
 refine B3 [4] [] [(4,.v (.slice A5 ((s ++ be 2 (IntKind.u16.wrap x)).length) c6))] ab af fun ai ag=>?_
 refine B4 (A7 ?_)
 refine wp_ret (D5 ag ab.cells (v:=.slice A5 ((s ++ be 2 (IntKind.u16.wrap x)).length) c6) kz ?_)
 have e0:(s ++ be 2 (IntKind.u16.wrap x)) = (s ++ be 2 x):=by rw [Kj]
 have h0:=BS ab 0 rfl
 rw [e0] at h0
 have e1:(s ++ be 2 (IntKind.u16.wrap x)).length = (s ++ be 2 x).length:=by rw [← e0]
 rw [e1]; exact h0
theorem BX (A:Option Addr) (c:Nat) (s:List UInt8) (x:Int) (w:World) (ho:w.ownsRow 0 5 1 (.slice A s.length c) s.length (bc s)) (hroom:s.length + 16 ≤ 1099511627776) :
  Calls Tryz.prog 67 #[.slice A s.length c,.int .i32 x] w (K9 w 5 A (s ++ be 4 x)):=by
 refine enter (n:=9) Tryz.func67 rfl Tryz.ntmps67 kz fun a hE=>?_
 have hW:=WOk.startRow w ho
 refine C1 [(0,.v (.slice A s.length c)),(1,.v (.int .i32 x))] hW hE fun a1 hE2=>?_
 refine B8 [0,1,2,3,4] kz ?_
 refine B3 [0,1,2] [3,4] [(5,.v (.slice A s.length c)),(7,.v (.int .u32 (IntKind.u32.wrap x)))] hW hE2 fun a3 hE4=>?_
 refine B1 (C3 hE4 (f:=111) (vs:=[.slice A s.length c,.int .u32 (IntKind.u32.wrap x)]) (d:=8) kz Tryz.call111 (KU A c s (IntKind.u32.wrap x) _ (hW.own 0 _ rfl) (by first | (have:=hroom; omega) | (simp; done) | (simp; omega))) ?_)
 rintro e_ w7 ⟨A5,c6,rfl,ho9,ac,ae⟩
 refine ⟨_,rfl,fun a8 af=>?_⟩
 have ab:WOk _ _ _ _ [B6 A5 c6 5 (s ++ be 4 (IntKind.u32.wrap x))]:=hW.grow (k:=0) rfl ac ho9 ae
 have ah:Fr _ [] [B6 A c 5 s] _ [] [B6 A5 c6 5 (s ++ be 4 (IntKind.u32.wrap x))]:=Fr.grow _ (k:=0) (r':=(B6 A5 c6 5 (s ++ be 4 (IntKind.u32.wrap x)))) rfl ac ae
 refine B3 [4] [] [(4,.v (.slice A5 ((s ++ be 4 (IntKind.u32.wrap x)).length) c6))] ab af fun ai ag=>?_
 refine B4 (A7 ?_)
 refine wp_ret (D5 ag ab.cells (v:=.slice A5 ((s ++ be 4 (IntKind.u32.wrap x)).length) c6) kz ?_)
 have e0:(s ++ be 4 (IntKind.u32.wrap x)) = (s ++ be 4 x):=by rw [Kk]
 have h0:=BS ab 0 rfl
 rw [e0] at h0
 have e1:(s ++ be 4 (IntKind.u32.wrap x)).length = (s ++ be 4 x).length:=by rw [← e0]
 rw [e1]; exact h0
def Fk:ByteArray:=⟨#[1,1,1,1,1,1,1,1,2,2,2,2,2,2,2,3,3,3,3,3,3,3,4,4,4,4,4,4,4,5,5,5,5,5,5,5,6,6,6,6,6,6,6,7,7,7,7,7,7,7,8,8,8,8,8,8,8,9,9,9,9,9,9,9,10,0,0,0,0,0,0,0,0,0,0,0,0,0,0,0,0,0,0,0,0,0,0,0,0,0,0,0,0,0,0,0,0,0,0,0,0,0,0,0,0,0,0,0,0,0,0,0,0,0,0,0,0,0,0,0,0,0,0,0,0,0,0,0,0,0,0,0,0,0,0,0,0,0,0,0,0,0,0,0,0,0,0,0,0,0,0,0,0,0,0,0,0,0,0,0,0,0,0,0,0,0,0,0,0,0,0,0,0,0,0,0,0,0,0,0,0,0,0,0,0,0,0,0,0,0,0,0,0,0,0,0,0,0,0,0,0,0,0,0,0,0,0,0,0,0,0,0,0,0,0,0,0,0,0,0,0,0,0,0,0,0,0,0,0,0,0,0,0,0,0,0,0,0,0,0,0,0,0,0,0,0,0,0,0,0,0,0,0,0,0,0]⟩
theorem KV:∀ m:Fin 33,Fk[m.val]? = some (UInt8.ofNat (CI m.val)):=by decide +kernel
theorem KW (x:Nat) (hx:x < 4294967296) (hl:Lib.bitLen x ≤ 32):∃ b:UInt8,Fk[Lib.bitLen x]? = some b ∧ b.toNat = (uv x).length:=by
 refine ⟨_,KV ⟨Lib.bitLen x,by omega⟩,?_⟩
 have:=KH (Lib.bitLen x)
 rw [KG hx,UInt8.toNat_ofNat']
 dsimp only
 omega
theorem KX (x:Nat) (hx:x < 4294967296) (w:World):Calls Tryz.prog 112 [.int .u32 ((x:Nat):Int)].toArray w (N5 w (.int .i64 (((uv x).length:Nat):Int))):=by
 refine enter (n:=8) Tryz.func112 rfl Tryz.ntmps112 kz fun a hE=>?_
 have hW:=WOk.start w B5
 refine B8 [0] kz (F0 [0] [] [0] hW hE (env':=[(0,.v (.int .u32 ((x:Nat):Int)))]) kz rfl fun a1 hE1=>B4 (A7 ?_))
 refine B8 [0,1,2,3,4,5] kz ?_
 refine F0 [0] [1,2,3,4,5] [3] hW hE1 (env':=[(3,.v (.int .u32 ((x:Nat):Int)))]) kz rfl fun a2 hE2=>?_
 refine B1 (C3 hE2 (f:=128) (vs:=[.int .u32 ((x:Nat):Int)]) (d:=4) kz Tryz.call128 (kLen32 _ w (by omega) (by omega)) ?_)
 rintro e_ w' ⟨rfl,rfl⟩
 refine ⟨_,rfl,fun a3 hE3=>?_⟩
 rw [Int.toNat_natCast] at hE3
 have hl:=Lib.bitLen_le x 32 (by omega) (by omega)
 refine F0 [2] [3,4,5] [5] hW hE3 (env':=[(5,.v (.int .u8 (IntKind.u8.wrap ((Lib.bitLen x:Nat):Int))))]) kz rfl fun a4 hE4=>?_
 have e1:IntKind.u8.wrap ((Lib.bitLen x:Nat):Int) = ((Lib.bitLen x:Nat):Int):=by rw [Hr]; omega
 rw [e1] at hE4
 obtain ⟨b,hb1,hb2⟩:=KW x hx hl
 refine B1 (KE hE4 (s:=Fk) (t:=9) (dd:=6) kz kz hb1 fun a5 hE5=>?_)
 refine F0 [4,5] [] [2] hW hE5 (env':=[(2,.v (.int .i64 (IntKind.i64.wrap (b.toNat:Int))))]) kz rfl fun a6 hE6=>B4 (A7 (wp_ret ?_))
 rw [hb2,wrap_i64 (by omega) (by have:=HF x 5 (by omega) (by omega); omega)] at hE6
 exact D5 hE6 hW.cells (v:=.int .i64 (((uv x).length:Nat):Int)) kz ⟨rfl,Step.refl _ _⟩
theorem X6 (x:Nat) (hx:x < 4294967296) (A:Option Addr) (cp:Nat) (s:Bs) (w:World) (ho:w.ownsRow 0 5 1 (.slice A s.length cp) s.length (bc s)) (hroom:s.length + (uv x).length + 16 ≤ 1099511627776) :
  Calls Tryz.prog 74 (.slice A s.length cp :: [.int .u32 ((x:Nat):Int)]).toArray w (K9 w 5 A (s ++ (uv x))):=by
 refine U7 (n:=93) Tryz.func74 rfl Tryz.ntmps74 kz rfl ho hroom ?_
 let ab:Nat × SV:=(1,.v (.int .u32 ((x:Nat):Int)))
 refine L1 (E7 (env':=[ab]) [1] (fun _ _ _=>by kernel_rfl)) ?_
 refine KB ?_
 let ac:Nat × SV:=(6,.v (.int .i64 (((uv x).length:Nat):Int)))
 refine L1 (KC (env':=[ab,ac]) (f:=112) (vs:=[.int .u32 ((x:Nat):Int)]) 1 [1,6] (fun _ _ _=>by kernel_rfl) kz Tryz.call112 (fun w _=>KX x hx w)) ?_
 refine KA ?_
 have hl:=HF x 5 (by omega) (by omega)
 have hl1:=DO x
 refine L1 (E7 (env':=[ab,ac,(7,.v (.bool ((((uv x).length:Nat):Int) == 5)))]) [1,6,7] (fun _ _ _=>by kernel_rfl)) ?_
 refine CG (b:=((((uv x).length:Nat):Int) == 5)) (fun _ _ _=>by kernel_rfl) (fun hb=>?_) (fun hb=>?_)
 ·exact CH (t:=30) (d1:=32) (dd:=33) (len:=5) (cs:=[.int .u8 (IntKind.u8.wrap (IntKind.u32.wrap (BitVec.ofInt 32 (IntKind.u32.wrap (BitVec.ofInt 32 ((x:Nat):Int) &&& BitVec.ofInt 32 127).toNat) ||| BitVec.ofInt 32 128).toNat)),.int .u8 (IntKind.u8.wrap (IntKind.u32.wrap (BitVec.ofInt 32 (IntKind.u32.wrap (BitVec.ofInt 32 (Int.fdiv ((x:Nat):Int) 128) &&& BitVec.ofInt 32 127).toNat) ||| BitVec.ofInt 32 128).toNat)),.int .u8 (IntKind.u8.wrap (IntKind.u32.wrap (BitVec.ofInt 32 (IntKind.u32.wrap (BitVec.ofInt 32 (Int.fdiv ((x:Nat):Int) 16384) &&& BitVec.ofInt 32 127).toNat) ||| BitVec.ofInt 32 128).toNat)),.int .u8 (IntKind.u8.wrap (IntKind.u32.wrap (BitVec.ofInt 32 (IntKind.u32.wrap (BitVec.ofInt 32 (Int.fdiv ((x:Nat):Int) 2097152) &&& BitVec.ofInt 32 127).toNat) ||| BitVec.ofInt 32 128).toNat)),.int .u8 (IntKind.u8.wrap (Int.fdiv ((x:Nat):Int) 268435456))]) 23 (fun _ _ _ _ _ _ _=>by kernel_rfl) kz kz (KP x hx (by have:=eq_of_beq hb; omega)) kz
 have g5:=ne_of_beq_false hb
 refine L1 (E7 (env':=[ab,ac,(34,.v (.bool ((((uv x).length:Nat):Int) == 4)))]) [1,6,34] (fun _ _ _=>by kernel_rfl)) ?_
 refine CG (b:=((((uv x).length:Nat):Int) == 4)) (fun _ _ _=>by kernel_rfl) (fun hb=>?_) (fun hb=>?_)
 ·exact CH (t:=30) (d1:=54) (dd:=55) (len:=4) (cs:=[.int .u8 (IntKind.u8.wrap (IntKind.u32.wrap (BitVec.ofInt 32 (IntKind.u32.wrap (BitVec.ofInt 32 ((x:Nat):Int) &&& BitVec.ofInt 32 127).toNat) ||| BitVec.ofInt 32 128).toNat)),.int .u8 (IntKind.u8.wrap (IntKind.u32.wrap (BitVec.ofInt 32 (IntKind.u32.wrap (BitVec.ofInt 32 (Int.fdiv ((x:Nat):Int) 128) &&& BitVec.ofInt 32 127).toNat) ||| BitVec.ofInt 32 128).toNat)),.int .u8 (IntKind.u8.wrap (IntKind.u32.wrap (BitVec.ofInt 32 (IntKind.u32.wrap (BitVec.ofInt 32 (Int.fdiv ((x:Nat):Int) 16384) &&& BitVec.ofInt 32 127).toNat) ||| BitVec.ofInt 32 128).toNat)),.int .u8 (IntKind.u8.wrap (Int.fdiv ((x:Nat):Int) 2097152))]) 18 (fun _ _ _ _ _ _ _=>by kernel_rfl) kz kz (KO x hx (by have:=eq_of_beq hb; omega)) kz
 have g4:=ne_of_beq_false hb
 refine L1 (E7 (env':=[ab,ac,(56,.v (.bool ((((uv x).length:Nat):Int) == 3)))]) [1,6,56] (fun _ _ _=>by kernel_rfl)) ?_
 refine CG (b:=((((uv x).length:Nat):Int) == 3)) (fun _ _ _=>by kernel_rfl) (fun hb=>?_) (fun hb=>?_)
 ·exact CH (t:=30) (d1:=71) (dd:=72) (len:=3) (cs:=[.int .u8 (IntKind.u8.wrap (IntKind.u32.wrap (BitVec.ofInt 32 (IntKind.u32.wrap (BitVec.ofInt 32 ((x:Nat):Int) &&& BitVec.ofInt 32 127).toNat) ||| BitVec.ofInt 32 128).toNat)),.int .u8 (IntKind.u8.wrap (IntKind.u32.wrap (BitVec.ofInt 32 (IntKind.u32.wrap (BitVec.ofInt 32 (Int.fdiv ((x:Nat):Int) 128) &&& BitVec.ofInt 32 127).toNat) ||| BitVec.ofInt 32 128).toNat)),.int .u8 (IntKind.u8.wrap (Int.fdiv ((x:Nat):Int) 16384))]) 13 (fun _ _ _ _ _ _ _=>by kernel_rfl) kz kz (KN x hx (by have:=eq_of_beq hb; omega)) kz
 have g3:=ne_of_beq_false hb
 refine L1 (E7 (env':=[ab,ac,(73,.v (.bool ((((uv x).length:Nat):Int) == 2)))]) [1,6,73] (fun _ _ _=>by kernel_rfl)) ?_
 refine CG (b:=((((uv x).length:Nat):Int) == 2)) (fun _ _ _=>by kernel_rfl) (fun hb=>?_) (fun hb=>?_)
 ·exact CH (t:=30) (d1:=83) (dd:=84) (len:=2) (cs:=[.int .u8 (IntKind.u8.wrap (IntKind.u32.wrap (BitVec.ofInt 32 (IntKind.u32.wrap (BitVec.ofInt 32 ((x:Nat):Int) &&& BitVec.ofInt 32 127).toNat) ||| BitVec.ofInt 32 128).toNat)),.int .u8 (IntKind.u8.wrap (Int.fdiv ((x:Nat):Int) 128))]) 8 (fun _ _ _ _ _ _ _=>by kernel_rfl) kz kz (KM x hx (by have:=eq_of_beq hb; omega)) kz
 have g2:=ne_of_beq_false hb
 refine L1 (E7 (env':=[ab,ac,(85,.v (.bool ((((uv x).length:Nat):Int) == 1)))]) [1,6,85] (fun _ _ _=>by kernel_rfl)) ?_
 refine CG (b:=((((uv x).length:Nat):Int) == 1)) (fun _ _ _=>by kernel_rfl) (fun hb=>?_) (fun hb=>?_)
 ·exact CH (t:=30) (d1:=90) (dd:=91) (len:=1) (cs:=[.int .u8 (IntKind.u8.wrap ((x:Nat):Int))]) 3 (fun _ _ _ _ _ _ _=>by kernel_rfl) kz kz (KL x hx (by have:=eq_of_beq hb; omega)) kz
 have g1:=ne_of_beq_false hb
 exfalso; omega
theorem CN (s':ByteArray) (A:Option Addr) (cp:Nat) (s:Bs) (w:World) (ho:w.ownsRow 0 5 1 (.slice A s.length cp) s.length (bc s)) (hroom:s.length + (be 2 s'.size ++ sb s').length + 16 ≤ 1099511627776) :
  Calls Tryz.prog 66 (.slice A s.length cp :: [.string s']).toArray w (K9 w 5 A (s ++ (be 2 s'.size ++ sb s'))):=by
 refine U7 (n:=13) Tryz.func66 rfl Tryz.ntmps66 kz rfl ho hroom ?_
 refine L1 (E7 (env':=[(1,.v (.string s'))]) [1] (fun _ _ _=>by kernel_rfl)) ?_
 refine N6 (I8 (env':=[(1,.v (.string s'))]) (f:=87) (vs:=[.int .i16 (IntKind.i16.wrap ((s'.size:Nat):Int))]) 4 [1] (fun _ _ _ _ _ _=>by kernel_rfl) kz Tryz.call87 (fun A cp s w _ _ ho hr=>by have h:=DR A cp s (IntKind.i16.wrap ((s'.size:Nat):Int)) w ho (by omega); rwa [KD] at h)) ?_
 exact HI (t:=30) (u:=9) 2 (fun _ _ _ _ _ _=>by kernel_rfl) kz kz kz kz
theorem DS (s':ByteArray) (A:Option Addr) (cp:Nat) (s:Bs) (w:World) (ho:w.ownsRow 0 5 1 (.slice A s.length cp) s.length (bc s)) (hsm:s'.size ≤ 1000000) (hroom:s.length + (uv (s'.size + 1) ++ sb s').length + 16 ≤ 1099511627776) :
  Calls Tryz.prog 65 (.slice A s.length cp :: [.string s']).toArray w (K9 w 5 A (s ++ (uv (s'.size + 1) ++ sb s'))):=by
 refine U7 (n:=14) Tryz.func65 rfl Tryz.ntmps65 kz rfl ho hroom ?_
 refine L1 (E7 (env':=[(1,.v (.string s'))]) [1] (fun _ _ _=>by kernel_rfl)) ?_
 refine N6 (I8 (env':=[(1,.v (.string s'))]) (f:=74) (vs:=[.int .u32 (IntKind.u32.wrap (1 + IntKind.u32.wrap ((s'.size:Nat):Int)))]) 5 [1] (fun _ _ _ _ _ _=>by kernel_rfl) kz Tryz.call74 (fun A cp s w _ _ ho hr=>by rw [show (IntKind.u32.wrap (1 + IntKind.u32.wrap ((s'.size:Nat):Int)):Int) = ((s'.size + 1:Nat):Int) from by simp only [E1]; omega]; exact X6 (s'.size + 1) (by omega) A cp s w ho hr)) ?_
 exact HI (t:=30) (u:=9) 2 (fun _ _ _ _ _ _=>by kernel_rfl) kz kz kz kz
theorem Fl (o:Bs) (Ao:Option Addr) (co:Nat) (F:Nat → Nat → Prop) (A:Option Addr) (cp:Nat) (s:Bs) (w:World) (ho:w.ownsRow 0 5 1 (.slice A s.length cp) s.length (bc s)) (hF:∀ b o,F b o → ¬ G1 A b o) (hO:Octs w F Ao co o) (hroom:s.length + (be 4 o.length ++ o).length + 16 ≤ 1099511627776) :
  Calls Tryz.prog 73 (.slice A s.length cp :: [.slice Ao o.length co]).toArray w (K9 w 5 A (s ++ (be 4 o.length ++ o))):=by
 refine U7 (n:=13) Tryz.func73 rfl Tryz.ntmps73 kz rfl ho hroom ?_
 refine L1 (E7 (env':=[(1,.v (.slice Ao o.length co))]) [1] (fun _ _ _=>by kernel_rfl)) ?_
 refine N6 (I8 (env':=[(1,.v (.slice Ao o.length co))]) (f:=67) (vs:=[.int .i32 (IntKind.i32.wrap ((o.length:Nat):Int))]) 4 [1] (fun _ _ _ _ _ _=>by kernel_rfl) kz Tryz.call67 (fun A cp s w _ _ ho hr=>by have h:=BX A cp s (IntKind.i32.wrap ((o.length:Nat):Int)) w ho (by omega); rwa [be4_i32'] at h)) ?_
 exact HJ (t:=30) 2 (fun _ _ _ _ _ _=>by kernel_rfl) kz kz hO hF
theorem HV (o:Bs) (Ao:Option Addr) (co:Nat) (F:Nat → Nat → Prop) (A:Option Addr) (cp:Nat) (s:Bs) (w:World) (ho:w.ownsRow 0 5 1 (.slice A s.length cp) s.length (bc s)) (hF:∀ b o,F b o → ¬ G1 A b o) (hO:Octs w F Ao co o) (hsm:o.length ≤ 1000000) (hroom:s.length + (uv (o.length + 1) ++ o).length + 16 ≤ 1099511627776) :
  Calls Tryz.prog 72 (.slice A s.length cp :: [.slice Ao o.length co]).toArray w (K9 w 5 A (s ++ (uv (o.length + 1) ++ o))):=by
 refine U7 (n:=14) Tryz.func72 rfl Tryz.ntmps72 kz rfl ho hroom ?_
 refine L1 (E7 (env':=[(1,.v (.slice Ao o.length co))]) [1] (fun _ _ _=>by kernel_rfl)) ?_
 refine N6 (I8 (env':=[(1,.v (.slice Ao o.length co))]) (f:=74) (vs:=[.int .u32 (IntKind.u32.wrap (1 + IntKind.u32.wrap ((o.length:Nat):Int)))]) 5 [1] (fun _ _ _ _ _ _=>by kernel_rfl) kz Tryz.call74 (fun A cp s w _ _ ho hr=>by rw [show (IntKind.u32.wrap (1 + IntKind.u32.wrap ((o.length:Nat):Int)):Int) = ((o.length + 1:Nat):Int) from by simp only [E1]; omega]; exact X6 (o.length + 1) (by omega) A cp s w ho hr)) ?_
 exact HJ (t:=30) 2 (fun _ _ _ _ _ _=>by kernel_rfl) kz kz hO hF
theorem KY (Ap:Option Addr) (s':ByteArray) (A:Option Addr) (cp:Nat) (s:Bs) (w:World) (ho:w.ownsRow 0 5 1 (.slice A s.length cp) s.length (bc s)) (F:Nat → Nat → Prop) (hF:∀ b o,F b o → ¬ G1 A b o) (hO:∀ ad,Ap = some ad → ∃ b o,ad = ⟨b,o,none⟩ ∧ AtF w F b o [.string s']) (hsm:s'.size ≤ 1000000) (hroom:s.length + (match Ap with | none=>be 2 (-1) | some _=>be 2 s'.size ++ sb s').length + 16 ≤ 1099511627776) :
  Calls Tryz.prog 69 (.slice A s.length cp :: [.pointer Ap]).toArray w (K9 w 5 A (s ++ (match Ap with | none=>be 2 (-1) | some _=>be 2 s'.size ++ sb s'))):=by
 refine U7 (n:=14) Tryz.func69 rfl Tryz.ntmps69 kz rfl ho hroom ?_
 refine L1 (E7 (env':=[(1,.v (.pointer Ap))]) [1] (fun _ _ _=>by kernel_rfl)) ?_
 refine Fb (b:=Ap.isNone) (E7 (env':=[(1,.v (.pointer Ap)),(6,.v (.bool Ap.isNone))]) [1,6] (fun _ _ _=>by kernel_rfl)) (fun _ _ _=>by kernel_rfl) (fun hb=>?_) (fun hb=>?_)
 ·obtain rfl:Ap = none:=by simpa using hb
  exact Z4 (f:=87) (vs:=[.int .i16 (-1)]) 1 (fun _ _ _ _ _ _=>by kernel_rfl) kz Tryz.call87 (fun A cp s w _ _ ho hr=>DR A cp s (-1) w ho (by omega))
 cases Ap with
 | none=>cases hb
 | some ad =>
  obtain ⟨b,o,rfl,hat⟩:=hO _ rfl
  refine CC b o [.string s'] hat hF kz kz ?_
  refine HL (e1:=[(1,.v (.pointer (some ⟨b,o,none⟩)))]) [1] (fun _ _ _=>by kernel_rfl) ?_
  refine CD 1 0 0 b o (by simp) rfl rfl rfl ?_
  exact Z4 (f:=66) (vs:=[.string s']) 4 (fun _ _ _ _ _ _=>by kernel_rfl) kz Tryz.call66 (fun A cp s w _ _ ho hr=>CN s' A cp s w ho hr)
theorem KZ (o:Bs) (Ao:Option Addr) (co:Nat) (F:Nat → Nat → Prop) (A:Option Addr) (cp:Nat) (s:Bs) (w:World) (ho:w.ownsRow 0 5 1 (.slice A s.length cp) s.length (bc s)) (hF:∀ b o,F b o → ¬ G1 A b o) (hO:Octs w F Ao co o) (hsm:o.length ≤ 1000000) (hroom:s.length + (match Ao with | none=>be 4 (-1) | some _=>be 4 o.length ++ o).length + 16 ≤ 1099511627776) :
  Calls Tryz.prog 90 (.slice A s.length cp :: [.slice Ao o.length co]).toArray w (K9 w 5 A (s ++ (match Ao with | none=>be 4 (-1) | some _=>be 4 o.length ++ o))):=by
 refine U7 (n:=12) Tryz.func90 rfl Tryz.ntmps90 kz rfl ho hroom ?_
 refine L1 (E7 (env':=[(1,.v (.slice Ao o.length co))]) [1] (fun _ _ _=>by kernel_rfl)) ?_
 refine Fb (b:=Ao.isNone) (E7 (env':=[(1,.v (.slice Ao o.length co)),(6,.v (.bool Ao.isNone))]) [1,6] (fun _ _ _=>by kernel_rfl)) (fun _ _ _=>by kernel_rfl) (fun hb=>?_) (fun hb=>?_)
 ·obtain rfl:Ao = none:=by simpa using hb
  exact Z4 (f:=67) (vs:=[.int .i32 (-1)]) 1 (fun _ _ _ _ _ _=>by kernel_rfl) kz Tryz.call67 (fun A cp s w _ _ ho hr=>BX A cp s (-1) w ho (by omega))
 cases Ao with
 | none=>cases hb
 | some ad =>
  exact Z4 (f:=73) (vs:=[.slice (some ad) o.length co]) 2 (fun _ _ _ _ _ _=>by kernel_rfl) kz Tryz.call73 (fun A cp s w hs hA ho hr=>Fl o (some ad) co (Lo F _) A cp s w ho (P0 hF hA) (hO.move hs (F8 hF) F9) hr)
theorem La (Ap:Option Addr) (s':ByteArray) (A:Option Addr) (cp:Nat) (s:Bs) (w:World) (ho:w.ownsRow 0 5 1 (.slice A s.length cp) s.length (bc s)) (F:Nat → Nat → Prop) (hF:∀ b o,F b o → ¬ G1 A b o) (hO:∀ ad,Ap = some ad → ∃ b o,ad = ⟨b,o,none⟩ ∧ AtF w F b o [.string s']) (hsm:s'.size ≤ 1000000) (hroom:s.length + (match Ap with | none=>uv 0 | some _=>uv (s'.size + 1) ++ sb s').length + 16 ≤ 1099511627776) :
  Calls Tryz.prog 68 (.slice A s.length cp :: [.pointer Ap]).toArray w (K9 w 5 A (s ++ (match Ap with | none=>uv 0 | some _=>uv (s'.size + 1) ++ sb s'))):=by
 refine U7 (n:=14) Tryz.func68 rfl Tryz.ntmps68 kz rfl ho hroom ?_
 refine L1 (E7 (env':=[(1,.v (.pointer Ap))]) [1] (fun _ _ _=>by kernel_rfl)) ?_
 refine Fb (b:=Ap.isNone) (E7 (env':=[(1,.v (.pointer Ap)),(6,.v (.bool Ap.isNone))]) [1,6] (fun _ _ _=>by kernel_rfl)) (fun _ _ _=>by kernel_rfl) (fun hb=>?_) (fun hb=>?_)
 ·obtain rfl:Ap = none:=by simpa using hb
  exact Z4 (f:=74) (vs:=[.int .u32 0]) 1 (fun _ _ _ _ _ _=>by kernel_rfl) kz Tryz.call74 (fun A cp s w _ _ ho hr=>X6 0 (by omega) A cp s w ho hr)
 cases Ap with
 | none=>cases hb
 | some ad =>
  obtain ⟨b,o,rfl,hat⟩:=hO _ rfl
  refine CC b o [.string s'] hat hF kz kz ?_
  refine HL (e1:=[(1,.v (.pointer (some ⟨b,o,none⟩)))]) [1] (fun _ _ _=>by kernel_rfl) ?_
  refine CD 1 0 0 b o (by simp) rfl rfl rfl ?_
  exact Z4 (f:=65) (vs:=[.string s']) 4 (fun _ _ _ _ _ _=>by kernel_rfl) kz Tryz.call65 (fun A cp s w _ _ ho hr=>DS s' A cp s w ho hsm hr)
theorem Fm (m:Nat) (A:Option Addr) (cp:Nat) (s:Bs) (w:World) (ho:w.ownsRow 0 5 1 (.slice A s.length cp) s.length (bc s)) (hroom:s.length + (be 4 m).length + 16 ≤ 1099511627776) :
  Calls Tryz.prog 71 (.slice A s.length cp :: [.int .i64 ((m:Nat):Int)]).toArray w (K9 w 5 A (s ++ (be 4 m))):=by
 refine U7 (n:=9) Tryz.func71 rfl Tryz.ntmps71 kz rfl ho hroom ?_
 refine L1 (E7 (env':=[(1,.v (.int .i64 ((m:Nat):Int)))]) [1] (fun _ _ _=>by kernel_rfl)) ?_
 exact Z4 (f:=67) (vs:=[.int .i32 (IntKind.i32.wrap ((m:Nat):Int))]) 3 (fun _ _ _ _ _ _=>by kernel_rfl) kz Tryz.call67 (fun A cp s w _ _ ho hr=>by have h:=BX A cp s (IntKind.i32.wrap ((m:Nat):Int)) w ho (by omega); rwa [be4_i32'] at h)
theorem Lb (m:Nat) (hm:m ≤ 1000000) (A:Option Addr) (cp:Nat) (s:Bs) (w:World) (ho:w.ownsRow 0 5 1 (.slice A s.length cp) s.length (bc s)) (hroom:s.length + (uv (m + 1)).length + 16 ≤ 1099511627776) :
  Calls Tryz.prog 70 (.slice A s.length cp :: [.int .i64 ((m:Nat):Int)]).toArray w (K9 w 5 A (s ++ (uv (m + 1)))):=by
 refine U7 (n:=10) Tryz.func70 rfl Tryz.ntmps70 kz rfl ho hroom ?_
 refine L1 (E7 (env':=[(1,.v (.int .i64 ((m:Nat):Int)))]) [1] (fun _ _ _=>by kernel_rfl)) ?_
 exact Z4 (f:=74) (vs:=[.int .u32 (IntKind.u32.wrap (1 + IntKind.u32.wrap ((m:Nat):Int)))]) 4 (fun _ _ _ _ _ _=>by kernel_rfl) kz Tryz.call74 (fun A cp s w _ _ ho hr=>by rw [show (IntKind.u32.wrap (1 + IntKind.u32.wrap ((m:Nat):Int)):Int) = ((m + 1:Nat):Int) from by simp only [E1]; omega]; exact X6 (m + 1) (by omega) A cp s w ho hr)
end Go.Proofs.YtipblegipibplaaGreatDoor.ME
namespace Go.Proofs.YtipblegipibplaaGreatDoor.ME
open Go
open Go.RowKit
open Go.ChangeMaps (setBlock)
set_option linter.unusedVariables false
set_option linter.unusedSimpArgs false
set_option maxRecDepth 20000
structure Dst (w:World) (B e8:Nat) (A:Option Addr) (cp:Nat) (s:Bs):Prop where
 cell:w.cell? ⟨B,0,none⟩ = some (.slice A s.length cp)
 frz:w.frozen? ⟨B,0,none⟩ = false
 own:w.ownsRow 0 e8 1 (.slice A s.length cp) s.length (bc s)
 ne:A.map (·.block) ≠ some B
def BM (B:Nat) (A:Option Addr):Nat → Nat → Prop:=fun b o=>(b = B ∧ o = 0) ∨ G1 A b o
def HW (w:World) (B e8:Nat) (A:Option Addr) (s:Bs):Ending → World → Prop:=fun en w' =>
 en = .returned (.tuple #[]) ∧ ∃ A' cp',Dst w' B e8 A' cp' s ∧ N3 w A A' ∧ Step w w' (BM B A)
theorem Dst.wok {w:World} {B e8 cp:Nat} {A:Option Addr} {s:Bs} (h:Dst w B e8 A cp s):WOk w (BM B A) w [⟨B,0,[.slice A s.length cp],true⟩] [B6 A cp e8 s]:=by
 have h1:WOk w (BM B A) w [⟨B,0,[.slice A s.length cp],true⟩] []:=by
  refine (WOk.start w _).add ⟨B,0,[.slice A s.length cp],true⟩ (World.lt_of_cell h.cell) (fun j v hj=>?_) (fun _ j hj=>?_) (fun i ob hi=>by simp at hi) (fun i r hi=>by simp at hi)
  ·have hj0:j = 0:=by
    have:=(List.getElem?_eq_some_iff.1 hj).1
    simp at this; omega
   subst hj0
   simp only [List.getElem?_cons_zero,Option.some.injEq] at hj
   subst hj
   exact h.cell
  have hj0:j = 0:=by simp at hj; omega
  subst hj0
  exact ⟨.inr (.inl ⟨rfl,rfl⟩),h.frz⟩
 refine h1.addRow (B6 A cp e8 s) h.own (fun g hg=>.inr fun o=>.inr hg) (fun i ob hi=>?_) (fun i r hi=>by simp at hi)
 cases i with
 | zero =>
  simp only [List.getElem?_cons_zero,Option.some.injEq] at hi; subst hi
  exact h.ne
 | succ i=>simp at hi
theorem Lc {w0 w:World} {B e8 cp:Nat} {A0 A:Option Addr} {s:Bs} {v:Value} (hW:WOk w0 (BM B A0) w [⟨B,0,[v],true⟩] [B6 A cp e8 s]) (hv:v = .slice A s.length cp) (hB:B < w0.heap.size):Dst w B e8 A cp s ∧ N3 w0 A0 A ∧ Step w0 w (BM B A0):=by
 subst hv
 refine ⟨⟨?_,?_,hW.own 0 _ rfl,fun e=>hW.rtb 0 _ rfl B e 0 _ rfl rfl⟩,fun g hg=>?_,hW.step⟩
 ·exact hW.cells 0 _ rfl 0 _ rfl
 ·exact (hW.rw_ 0 _ rfl rfl 0 (by simp)).2
 rcases hW.ownM 0 _ rfl g hg with h | h
 ·exact .inr h
 rcases h 0 with ⟨rfl,_⟩ | h
 ·exact absurd rfl (hW.rtb 0 _ rfl _ hg 0 _ rfl)
 exact .inl h
def N9 (k:Int) (x:Bs):Bs:=uv k.toNat ++ uv x.length ++ x
theorem Ld {w:World} {B cp c:Nat} {k:Int} {A Av:Option Addr} {s x:Bs} {G:Nat → Nat → Prop} (hd:Dst w B 5 A cp s) (hk:0 ≤ k ∧ k < 4294967296) (hx:Octs w G Av c x) (hG:∀ b o,G b o → ¬ BM B A b o)
  (hxl:x.length < 4294967296) (hroom:s.length + (N9 k x).length + 16 ≤ 1099511627776) :
  Calls Tryz.prog 113 [.int .u32 k,.slice Av x.length c,.pointer (some ⟨B,0,none⟩)].toArray w (HW w B 5 A (s ++ N9 k x)):=by
 obtain ⟨m,rfl⟩:∃ m:Nat,k = (m:Int):=⟨k.toNat,by omega⟩
 have hB:=World.lt_of_cell hd.cell
 unfold N9 at hroom ⊢
 rw [Int.toNat_natCast] at hroom ⊢
 simp only [List.length_append] at hroom
 refine enter (n:=16) Tryz.func113 rfl Tryz.ntmps113 kz fun a hE=>?_
 have hW:=hd.wok
 have hE0:=(hE.grow ⟨B,0,[.slice A s.length cp],true⟩).recast 2 (.v (.pointer (some ⟨B,0,none⟩))) (.p 0 0) rfl rfl (by simp [SV.ok])
 refine B8 [0,1,2,3] kz ?_
 refine F0 [0,1] [2,3] [0,1,2,5,6] hW hE0 (env':=[(0,.v (.int .u32 (m:Int))),(1,.v (.slice Av x.length c)),(2,.p 0 0),(5,.v (.slice A s.length cp)),(6,.v (.int .u32 (m:Int)))]) kz rfl fun a1 hE1=>?_
 refine B1 (C3 hE1 (f:=74) (vs:=[.slice A s.length cp,.int .u32 (m:Int)]) (d:=7) kz Tryz.call74 (X6 m (by omega) A cp s _ (hW.own 0 _ rfl) (by omega)) ?_)
 rintro e_ w1 ⟨A1,c1,rfl,ho1,hs1,hn1⟩
 refine ⟨_,rfl,fun a2 hE2=>?_⟩
 have hW1:WOk _ _ _ _ [B6 A1 c1 5 (s ++ uv m)]:=hW.grow (k:=0) rfl hs1 ho1 hn1
 refine B1 (C7 hW1 hE2 (oi:=0) (cs:=[.slice A1 (s ++ uv m).length c1]) kz fun w2 hF2 hW2 hE2'=>B4 (A7 ?_))
 refine B8 [0,1,2,3,4,5] kz ?_
 refine F0 [0,1,2,3] [4,5] [1,2,8,11] hW2 hE2' (env':=[(1,.v (.slice Av x.length c)),(2,.p 0 0),(8,.v (.slice A1 (s ++ uv m).length c1)),(11,.v (.int .u32 (IntKind.u32.wrap ((x.length:Nat):Int))))]) kz rfl fun a3 hE3=>?_
 rw [E1,Int.emod_eq_of_lt (by omega) (by omega)] at hE3
 refine B1 (C3 hE3 (f:=74) (vs:=[.slice A1 (s ++ uv m).length c1,.int .u32 ((x.length:Nat):Int)]) (d:=12) kz Tryz.call74 (X6 x.length hxl A1 c1 (s ++ uv m) _ (hW2.own 0 _ rfl) (by rw [List.length_append]; omega)) ?_)
 rintro e_ w3 ⟨A2,c2,rfl,ho2,hs2,hn2⟩
 refine ⟨_,rfl,fun a4 hE4=>?_⟩
 have hW3:WOk _ _ _ _ [B6 A2 c2 5 (s ++ uv m ++ uv x.length)]:=hW2.grow (k:=0) rfl hs2 ho2 hn2
 refine B1 (C7 hW3 hE4 (oi:=0) (cs:=[.slice A2 (s ++ uv m ++ uv x.length).length c2]) kz fun w4 hF4 hW4 hE4'=>B4 (A7 ?_))
 refine D9 [0,1,2,3] kz ?_
 refine F0 [0,1] [2,3] [2,13,14] hW4 hE4' (env':=[(2,.p 0 0),(13,.v (.slice A2 (s ++ uv m ++ uv x.length).length c2)),(14,.v (.slice Av x.length c))]) kz rfl fun a5 hE5=>?_
 have hx4:Octs w4 G Av c x:=hx.move hW4.step (fun b o hg _=>hG b o hg) E6
 refine B1 (I7 hW4 hE5 (k:=0) (t:=30) (e:=5) (bytes:=1) (d:=15) (m:=x.length) kz kz rfl hx4.src hx4.cap (by rw [List.length_append,List.length_append]; omega) fun A3 c3 a6 w5 hF5 hW5 hE6=>?_)
 have er:(⟨A3,c3,5,1,(s ++ uv m ++ uv x.length).length + x.length,bc (s ++ uv m ++ uv x.length) ++ bc x⟩:Rw) = B6 A3 c3 5 (s ++ (uv m ++ uv x.length ++ x)):=by
  rw [BR rfl rfl]; congr 1; simp
 have hW5':WOk w (BM B A) w5 [⟨B,0,[.slice A2 (s ++ uv m ++ uv x.length).length c2],true⟩] [B6 A3 c3 5 (s ++ (uv m ++ uv x.length ++ x))]:=er ▸ hW5
 refine B1 (C7 hW5' hE6 (oi:=0) (cs:=[.slice A3 ((s ++ uv m ++ uv x.length).length + x.length) c3]) kz fun w6 hF6 hW6 hE6'=>B4 ?_)
 obtain ⟨h1,h2,h3⟩:=Lc hW6 (by congr 1; simp; omega) hB
 exact M3 hE6' hW6.cells (v:=.tuple #[]) kz ⟨rfl,A3,c3,h1,h2,h3⟩
section
variable {P:Program} {ops:Array Oper} {Q:Exit → Act → World → Prop} {n:Nat} {tb:Tb} {env:C8} {rs:List Rw} {w0:World} {M:Nat → Nat → Prop} {a:Act} {w:World} {F:Nat → Nat → Prop}
def HX (env:C8) (ops:Array Oper) (n i:Nat):Option (TypeId × Option Nat × Nat) :=
 match F7 env ops n i with
 | some (.range t x,d)=>match E8 env x with
  | some (.v (.map m))=>some (t,m,d)
  | _=>none
 | _=>none
theorem HY {i d r:Nat} {t kt et:TypeId} {es:Array MapEntry} {clk:Nat} {N:Act → World → Prop} (hE:EnvOk n tb env a) (h:HX env ops n i = some (t,some r,d)) (ht:Bu P t = some (kt,et)) (hr:w.heap[r]? = some (.map es clk))
  (K:∀ a',EnvOk n tb ((d,.v (.pointer (some ⟨w.heap.size,0,none⟩))) :: env) a' → N a' (w.alloc (.mapIter (some r) clk #[] clk))):wpOp P ops Q i N a w:=by
 unfold HX at h
 split at h
 ·rename_i t' x d' ho
  split at h
  ·rename_i m' hs
   simp only [Option.some.injEq,Prod.mk.injEq] at h
   obtain ⟨rfl,rfl,rfl⟩:=h
   have hd:=(K8 hE ho).choose_spec.2.2.2.1
   refine N0 hE ho (v:=.pointer (some ⟨w.heap.size,0,none⟩)) (w':=w.alloc (.mapIter (some r) clk #[] clk)) ?_ (K _ (hE.put hd (.v _) trivial))
   intro o hop
   unfold execOp
   rw [hop]
   simp only [(F4 hE hs).1,SV.val,Sem.run_bind,run_range_map (P:=P) w _ _ _ r es clk (BW ht) hr,Result.andThen_ok,Sem.run_pure]
  cases h
 cases h
def HZ (env:C8) (ops:Array Oper) (n i:Nat):Option (Nat × Nat) :=
 match F7 env ops n i with
 | some (.next x false,d)=>match E8 env x with
  | some (.v (.pointer (some ⟨r,0,none⟩)))=>some (r,d)
  | _=>none
 | _=>none
theorem Ia {i d r bm since c0:Nat} {seen:Array Nat} {es:Array MapEntry} {clk:Nat} {N:Act → World → Prop} (hE:EnvOk n tb env a) (h:HZ env ops n i = some (r,d)) (hr:w.heap[r]? = some (.mapIter (some bm) since seen c0)) (hb:w.heap[bm]? = some (.map es clk)) (hold:∀ x ∈ es.toList,x.born < since) (hsc:since ≤ c0)
  (K0:(leftOf es seen).size = 0 → ∀ a',EnvOk n tb ((d,.v (.tuple #[.bool false])) :: env) a' → N a' w)
  (K1:∀ e ∈ (leftOf es seen).toList,∀ w1:World,(w1 = w ∨ w1 = w.drew) → ∀ a',EnvOk n tb ((d,.v (.tuple #[.bool true,e.key,e.val])) :: env) a' → N a' (setBlock w1 r (.mapIter (some bm) since (seen.push e.born) clk))):wpOp P ops Q i N a w:=by
 unfold HZ at h
 split at h
 ·rename_i x d' ho
  split at h
  ·rename_i r' hs
   simp only [Option.some.injEq,Prod.mk.injEq] at h
   obtain ⟨rfl,rfl⟩:=h
   obtain ⟨o,h1,h2,h3,h4,h5⟩:=K8 hE ho
   have key:∀ (v:Value) (w':World),(Instr.next (.pointer (some ⟨r',0,none⟩)) false o.type).run P w = .ok v w' → N (a.put (some d') v) w' → wpOp P ops Q i N a w:=by
    intro v w' hrun hN
    simp only [wpOp,h1]
    have:Region.wanted o (yielded ops a.tmps) = true:=by first | exact h2 | simp [Region.wanted,h2]
    rw [this]
    simp only [if_true]
    refine .inl ?_
    unfold Oper.wp
    have hr':(execOp a.eval o).run P w = .ok (.value v) w':=by
     unfold execOp
     rw [h5]
     simp only [(F4 hE hs).1,SV.val,Sem.run_bind,hrun,Result.andThen_ok,Sem.run_pure]
    rw [hr',Oper.upon,h3]
    exact hN
   rcases run_next_at (P:=P) w o.type r' bm since c0 seen es clk hr hb hold hsc with ⟨g1,g2⟩ | ⟨e,g1,w1,g2,g3⟩
   ·exact key _ _ g2 (K0 g1 _ (hE.put h4 (.v _) trivial))
   exact key _ _ g3 (K1 e g1 w1 g2 _ (hE.put h4 (.v _) trivial))
  cases h
 cases h
def Ib (env:C8) (ops:Array Oper) (n i:Nat):Option (Nat × Nat) :=
 match F7 env ops n i with
 | some (.entry x,d)=>match E8 env x with
  | some (.v (.pointer (some ⟨r,0,none⟩)))=>some (r,d)
  | _=>none
 | _=>none
theorem Ic {i d r bm since:Nat} {seen:Array Nat} {es:Array MapEntry} {clk:Nat} {e:MapEntry} {N:Act → World → Prop} (hE:EnvOk n tb env a) (h:Ib env ops n i = some (r,d)) (hr:w.heap[r]? = some (.mapIter (some bm) since (seen.push e.born) clk)) (hb:w.heap[bm]? = some (.map es clk)) (he:e ∈ es.toList) (hn:(es.toList.map (·.born)).Nodup)
  (K:∀ a',EnvOk n tb ((d,.v (.tuple #[e.key,e.val])) :: env) a' → N a' w):wpOp P ops Q i N a w:=by
 unfold Ib at h
 split at h
 ·rename_i x d' ho
  split at h
  ·rename_i r' hs
   simp only [Option.some.injEq,Prod.mk.injEq] at h
   obtain ⟨rfl,rfl⟩:=h
   have hd:=(K8 hE ho).choose_spec.2.2.2.1
   refine N0 hE ho (v:=.tuple #[e.key,e.val]) (w':=w) ?_ (K _ (hE.put hd (.v _) trivial))
   intro o hop
   unfold execOp
   rw [hop]
   simp only [(F4 hE hs).1,SV.val,Sem.run_bind,run_entry_at (P:=P) w r' bm since seen es clk e hr hb he hn,Result.andThen_ok,Sem.run_pure]
  cases h
 cases h
def CO (tb:Tb) (env:C8) (ops:Array Oper) (n i:Nat):Option (Value × Nat) :=
 match F7 env ops n i with
 | some (.makeFunc fn first cap,d)=>match first.toList,BP tb env cap.toList with
  | [],some vs=>some (.func fn #[] vs.toArray,d)
  | _,_=>none
 | _=>none
theorem BY {i d:Nat} {v:Value} {N:Act → World → Prop} (hE:EnvOk n tb env a) (h:CO tb env ops n i = some (v,d)) (K:∀ a',EnvOk n tb ((d,.v v) :: env) a' → N a' w):wpOp P ops Q i N a w:=by
 unfold CO at h
 split at h
 ·rename_i fn first cap d' ho
  split at h
  ·rename_i vs hf hv
   simp only [Option.some.injEq,Prod.mk.injEq] at h
   obtain ⟨rfl,rfl⟩:=h
   have hd:=(K8 hE ho).choose_spec.2.2.2.1
   refine N0 hE ho (v:=.func fn #[] vs.toArray) (w':=w) ?_ (K _ (hE.put hd (.v _) trivial))
   intro o hop
   unfold execOp
   rw [hop]
   have e1:first = #[]:=Array.ext' hf
   have e2:cap.map a.eval = vs.toArray:=Array.ext' (by simpa using EG hE hv)
   subst e1
   simp [Instr.makeFunc,e2]
  cases h
 cases h
end
def Q4:Value → Int
 | .int _ k=>k
 | _=>0
structure Vis (es vis:List MapEntry) (seen:Array Nat):Prop where
 seen:seen.toList = vis.map (·.born)
 sub:∀ e ∈ vis,e ∈ es
 nodup:(vis.map (·.born)).Nodup
theorem Vis.nil (es:List MapEntry):Vis es [] #[]:=⟨rfl,(fun _ h=>by cases h),List.nodup_nil⟩
theorem Vis.push {es:Array MapEntry} {vis:List MapEntry} {seen:Array Nat} {e:MapEntry} (h:Vis es.toList vis seen) (he:e ∈ (leftOf es seen).toList):Vis es.toList (vis ++ [e]) (seen.push e.born):=by
 obtain ⟨h1,h2⟩:=mem_left he
 have hn:e.born ∉ vis.map (·.born):=by
  rw [← h.seen]
  intro hm
  have:seen.contains e.born = true:=by simpa using Array.mem_toList_iff.1 hm
  rw [this] at h2; cases h2
 refine ⟨by simp [h.seen],fun x hx=>?_,?_⟩
 ·rcases List.mem_append.1 hx with hx | hx
  ·exact h.sub x hx
  rw [List.mem_singleton.1 hx]; exact h1
 rw [List.map_append,List.map_cons,List.map_nil]
 refine List.nodup_append.2 ⟨h.nodup,by simp,fun x hx y hy=>?_⟩
 rw [List.mem_singleton.1 hy]
 rintro rfl
 exact hn hx
theorem Ie {α β:Type} {l:List α} {f:α → β} (h:(l.map f).Nodup):l.Nodup:=List.Pairwise.of_map f (fun a b hab e=>hab (by rw [e])) h
theorem Vis.all {es:Array MapEntry} {vis:List MapEntry} {seen:Array Nat} (h:Vis es.toList vis seen) (h0:(leftOf es seen).size = 0) (hn:(es.toList.map (·.born)).Nodup):vis.Perm es.toList:=by
 refine (List.perm_ext_iff_of_nodup (Ie h.nodup) (Ie hn)).2 fun e=>⟨h.sub e,fun he=>?_⟩
 have hc:seen.contains e.born = true:=by
  cases hc:seen.contains e.born with
  | true=>rfl
  | false =>
   exfalso
   have hm:e ∈ leftOf es seen:=Array.mem_filter.2 ⟨Array.mem_toList_iff.1 he,by simp [hc] at hc ⊢; exact hc⟩
   have:=Array.size_pos_of_mem hm
   omega
 have hm:e.born ∈ seen.toList:=by simpa using hc
 rw [h.seen] at hm
 obtain ⟨e',h1,h2⟩:=List.mem_map.1 hm
 have h3:=h.sub e' h1
 obtain ⟨i1,g1⟩:=List.getElem?_of_mem h3
 obtain ⟨i2,g2⟩:=List.getElem?_of_mem he
 have k1:(es.toList.map (·.born))[i1]? = some e'.born:=by rw [List.getElem?_map,g1]; rfl
 have k2:(es.toList.map (·.born))[i2]? = some e.born:=by rw [List.getElem?_map,g2]; rfl
 have hi:i1 = i2:=by
  obtain ⟨l1,q1⟩:=List.getElem?_eq_some_iff.1 k1
  obtain ⟨l2,q2⟩:=List.getElem?_eq_some_iff.1 k2
  rcases Nat.lt_trichotomy i1 i2 with hlt | h | hlt
  ·exact absurd (by rw [q1,q2,h2]) (List.pairwise_iff_getElem.1 hn i1 i2 l1 l2 hlt)
  ·exact h
  exact absurd (by rw [q1,q2,h2]) (List.pairwise_iff_getElem.1 hn i2 i1 l2 l1 hlt)
 subst hi
 rw [g1] at g2
 rw [← Option.some.inj g2]; exact h1
theorem If {w:World} {e g c nn:Nat} {ks:List Int} {d':Array Int} {n:Nat} {os:Array Obj} (hnn:ks.length = nn) (ho:w.ownsRow 0 e 1 (.slice (some ⟨g,0,none⟩) nn c) nn (ks.map (Value.int .u32))) (hd:d'.size = ks.length) :
  Step w (Sort.grow (Sort.putRow (Value.int .u32) (Sort.ahead w n) g 0 d') os) (fun b _=>b = g) ∧ (Sort.grow (Sort.putRow (Value.int .u32) (Sort.ahead w n) g 0 d') os).ownsRow 0 e 1 (.slice (some ⟨g,0,none⟩) nn c) nn (d'.toList.map (Value.int .u32)):=by
 subst hnn
 have hold:∀ b,b < w.heap.size → (Sort.grow (Sort.putRow (Value.int .u32) (Sort.ahead w n) g 0 d') os).heap[b]? = (Sort.putRow (Value.int .u32) (Sort.ahead w n) g 0 d').heap[b]?:=fun b hb=>by
  show ((Sort.putRow (Value.int .u32) (Sort.ahead w n) g 0 d').heap ++ os)[b]? = _
  rw [Array.getElem?_append_left]
  simpa [Sort.putRow,Sort.mapBlock,Sort.ahead] using hb
 have hput:∀ b,(Sort.putRow (Value.int .u32) (Sort.ahead w n) g 0 d').heap[b]? = if g = b then (w.heap[b]?).map (Sort.onCells (Sort.putCells (Value.int .u32) 0 d')) else w.heap[b]?:=fun b=>by
  show (w.heap.modify g _)[b]? = _
  rw [Array.getElem?_modify]
 refine ⟨⟨rfl,rfl,?_,fun b hb=>?_⟩,?_⟩
 ·show w.heap.size ≤ ((Sort.putRow (Value.int .u32) (Sort.ahead w n) g 0 d').heap ++ os).size
  simp [Sort.putRow,Sort.mapBlock,Sort.ahead]
 ·rw [hold b hb,hput b]
  by_cases h:g = b
  ·exact ⟨fun hm=>absurd h.symm (hm 0),fun ⟨o,ho⟩=>absurd h.symm ho⟩
  rw [if_neg h]; exact Keeps.refl _ _
 rcases ho.2 with ⟨hv,_⟩ | ⟨g',cap,cur,hv,_,hg,hnc,hmx,hcs,htake⟩
 ·cases hv
 simp only [Value.slice.injEq,Option.some.injEq,Addr.mk.injEq,true_and,and_true] at hv
 obtain ⟨rfl,rfl⟩:=hv
 have hlt:g < w.heap.size:=(Array.getElem?_eq_some_iff.1 hg).1
 refine ⟨by simp [hd],.inr ⟨g,c,Sort.putCells (Value.int .u32) 0 d' cur,rfl,Nat.zero_le _,?_,hnc,hmx,by simpa [Sort.putCells] using hcs,?_⟩⟩
 ·rw [hold g hlt,hput g,if_pos rfl,hg]; rfl
 apply List.ext_getElem?
 intro k
 rw [List.getElem?_take,List.getElem?_map]
 by_cases hk:k < ks.length
 ·rw [if_pos (by omega)]
  have hkc:k < cur.size:=by omega
  have hkd:k < d'.size:=by omega
  simp only [Sort.putCells,Array.getElem?_toList,Array.getElem?_mapIdx,Array.getElem?_eq_getElem hkc,Array.getElem?_eq_getElem hkd,Option.map_some]
  rw [if_pos ⟨by omega,by omega⟩,Nat.sub_zero,getElem!_pos d' k hkd]
 rw [if_neg (by omega),Array.getElem?_toList,Array.getElem?_eq_none (by omega)]; rfl
theorem DT {w:World} {e g c nn:Nat} {ks:List Int} (hnn:ks.length = nn) (ho:w.ownsRow 0 e 1 (.slice (some ⟨g,0,none⟩) nn c) nn (ks.map (Value.int .u32))):Sort.Holds (Value.int .u32) w g 0 ks.toArray:=by
 subst hnn
 rcases ho.2 with ⟨hv,_⟩ | ⟨g',cap,cur,hv,_,hg,hnc,hmx,hcs,htake⟩
 ·cases hv
 simp only [Value.slice.injEq,Option.some.injEq,Addr.mk.injEq,true_and,and_true] at hv
 obtain ⟨rfl,rfl⟩:=hv
 intro j hj
 have hj':j < ks.length:=by simpa using hj
 refine ⟨?_,by simp [World.frozen?,hg]⟩
 have h1:(cur.toList.take (ks.length * 1))[j]? = (ks.map (Value.int .u32))[j]?:=by rw [htake]
 rw [List.getElem?_take,if_pos (by omega),List.getElem?_map,List.getElem?_eq_getElem hj',Array.getElem?_toList] at h1
 rw [getElem!_pos ks.toArray j hj]
 simp [World.cell?,hg,h1]
theorem Ig {d':Array Int} {ks us:List Int} (hp:d'.toList.Perm ks) (hs:Sort.SortedIn Sort.ltInt 0 d'.size d') (hk:ks.Perm us) (hu:us.Pairwise (· < ·)):d'.toList = us:=by
 refine List.Perm.eq_of_pairwise (le:=(· ≤ ·)) (fun a b _ _ h1 h2=>by omega) ?_ (hu.imp fun h=>by omega) (hp.trans hk)
 refine List.pairwise_iff_getElem.2 fun i j hi hj hij=>?_
 have h:=hs i j (Nat.zero_le _) hij (by simpa using hj)
 have hi':i < d'.size:=by simpa using hi
 have hj':j < d'.size:=by simpa using hj
 rw [getElem!_pos d' i hi',getElem!_pos d' j hj'] at h
 have h2:¬ (d'[j] < d'[i]):=of_decide_eq_false h
 simp only [Array.getElem_toList]
 omega
theorem Dst.move {w w':World} {B e8 cp:Nat} {A:Option Addr} {s:Bs} {M:Nat → Nat → Prop} (h:Dst w B e8 A cp s) (hs:Step w w' M) (hM:∀ b o,BM B A b o → ¬ M b o):Dst w' B e8 A cp s :=
 ⟨hs.cell (hM B 0 (.inl ⟨rfl,rfl⟩)) h.cell,hs.frozen (hM B 0 (.inl ⟨rfl,rfl⟩)) h.cell h.frz,Bo (r:=B6 A cp e8 s) h.own fun g hg=>(hs.keeps g (M0 (r:=B6 A cp e8 s) h.own hg)).1 fun o=>hM g o (.inr hg),h.ne⟩
def H0 (u:List (Int × Bs)):Bs:=u.flatMap fun x=>N9 x.1 x.2
theorem Le (u:List (Int × Bs)):2 * u.length ≤ (H0 u).length:=by
 induction u with
 | nil=>exact Nat.le_refl _
 | cons x r ih =>
  have e:H0 (x :: r) = N9 x.1 x.2 ++ H0 r:=rfl
  rw [e,List.length_append,List.length_cons]
  have h1:=DO x.1.toNat
  have h2:=DO x.2.length
  unfold N9
  simp only [List.length_append]
  omega
def O0 (B:Nat):Value:=.func (.func 113) #[] #[.pointer (some ⟨B,0,none⟩)]
abbrev z9 (x0) (x1) (x2) (x3) (x4) (x5) (x6):=([⟨x0,x1,[.map (some x2)],false⟩,⟨x3,0,[.slice x4 x5 x6],true⟩]:Tb)
theorem Lf {m:Option Nat} {u:List (Int × Bs)} {b o B cp:Nat} {A:Option Addr} {s:Bs} {w:World} {F:Nat → Nat → Prop} (hat:AtF w F b o [.map m]) (hm:MapR w F m u) (hd:Dst w B 5 A cp s) (hF:∀ b o,F b o → ¬ BM B A b o)
  (hx:∀ x ∈ u,x.2.length < 4294967296) (hroom:s.length + (H0 u).length + 16 ≤ 1099511627776) :
  Calls Tryz.prog 58 [.pointer (some ⟨b,o,none⟩),O0 B].toArray w (HW w B 5 A (s ++ H0 u)):=by
 have hul:=Le u
 have hB:=World.lt_of_cell hd.cell
 refine enter (n:=53) Tryz.func58 rfl Tryz.ntmps58 kz fun a hE=>?_
 have hW:WOk w B5 w [⟨b,o,[.map m],false⟩] []:=(WOk.start w B5).start1 hat rfl rfl
 refine wp_seq (wp_seq ?_)
 refine D9 [0,1,2,3,4,5] kz ?_
 refine F0 [0,1,2,3] [4,5] [0,1,11] hW (EnvOk.ptr0 (cs:=[.map m]) (r:=false) hE) (env':=[(0,.p 0 0),(1,.v (O0 B)),(11,.v (.map m))]) kz rfl fun a1 hE1=>?_
 refine B1 (CL (t:=78) (kt:=85) (et:=30) hE1 (m:=m) (d:=12) kz kz hm fun a2 hE2=>?_)
 refine F0 [5] [] [0,1,13] hW hE2 (env':=[(0,.p 0 0),(1,.v (O0 B)),(13,.v (.bool (((u.length:Nat):Int) == 0)))]) kz rfl fun a3 hE3=>B4 (A7 ?_)
 refine D8 hE3 (b:=((u.length:Nat):Int) == 0) kz (fun hb=>?_) (fun hb=>?_)
 ·-- none
  have hu:u = []:=List.eq_nil_of_length_eq_zero (by have:=eq_of_beq hb; omega)
  subst hu
  refine wp_ret (F5 ?_)
  refine D5 hE3 hW.cells (v:=.tuple #[]) kz ⟨rfl,A,cp,?_,fun g hg=>.inl hg,Step.refl _ _⟩
  rw [show s ++ H0 [] = s from List.append_nil s]
  exact hd
 have hu0:0 < u.length:=by have:=ne_of_beq_false hb; omega
 cases m with
 | none=>rw [hm.none_ rfl] at hu0; cases hu0
 | some mb =>
 obtain ⟨hFm,es,clk,hes,hperm,hborn,hnod,hcont⟩:=hm.some_ mb rfl
 have hmlt:mb < w.heap.size:=(Array.getElem?_eq_some_iff.1 hes).1
 have hesz:es.size = u.length:=MapR.size (w:=w) (F:=F) hperm
 refine wp_skip (A7 ?_)
 refine B8 [0,1,2,3,4,5,6,7] kz ?_
 refine F0 [0,1,2,3] [4,5,6,7] [0,1,17] hW hE3 (env':=[(0,.p 0 0),(1,.v (O0 B)),(17,.v (.map (some mb)))]) kz rfl fun a4 hE4=>?_
 refine B1 (CL (t:=78) (kt:=85) (et:=30) hE4 (m:=some mb) (d:=18) kz kz hm fun a5 hE5=>?_)
 refine B1 (CE (e:=85) (size:=1) (bytes:=4) (j:=u.length) (t:=146) (d:=19) hW hE5 (p:=0) (q:=((u.length:Nat):Int)) kz kz rfl rfl (by omega) fun kr a6 w1 hkr hkr0 hF1 hW1 hE6=>?_)
 refine B1 (D7 hW1 hE6 (d:=4) (cs:=[.slice none 0 0]) kz fun kb a7 w2 hkb hkb0 hF2 hW2 hE7=>?_)
 refine B1 (C7 hW2 hE7 (oi:=1) (cs:=[.slice (some ⟨kr,0,none⟩) 0 u.length]) kz fun w3 hF3 hW3 hE8=>B4 (A7 ?_))
 refine wp_seq (B8 [0,1,2,3,4] kz ?_)
 refine F0 [0,1,2,3] [4] [0,1,4,23] hW3 hE8 (env':=[(0,.p 0 0),(1,.v (O0 B)),(4,.p 1 0),(23,.v (.map (some mb)))]) kz rfl fun a8 hE9=>?_
 have hes3:=hW3.step.heap (fun o h=>h) hes
 refine B1 (HY (t:=78) (kt:=85) (et:=30) (d:=24) (r:=mb) hE9 kz kz hes3 fun a9 hE10=>B4 (A7 ?_))
 have hW4:=hW3.next_nil (Step.alloc w3 (.mapIter (some mb) clk #[] clk))
 have hr4:(w3.alloc (.mapIter (some mb) clk #[] clk)).heap[w3.heap.size]? = some (.mapIter (some mb) clk #[] clk):=Bn _ _
 have hE11:=hE10.pick (ks:=[0,1,4,24]) (env':=[(0,.p 0 0),(1,.v (O0 B)),(4,.p 1 0),(24,.v (.pointer (some ⟨w3.heap.size,0,none⟩)))]) kz
 have hrlt:w3.heap.size < (w3.alloc (.mapIter (some mb) clk #[] clk)).heap.size:=by rw [DA]; omega
 have hr0:w.heap.size ≤ w3.heap.size:=hW3.step.size
 have hkbr:kb ≠ w3.heap.size:=by have:=hW3.live 1 _ rfl; show ¬ _; intro e; rw [← e] at this; exact absurd this (Nat.lt_irrefl _)
 have hkrr:kr ≠ w3.heap.size:=by have:=M0 (hW3.own 0 _ rfl) (g:=kr) rfl; omega
 generalize hR:w3.heap.size = R at hr4 hE11 hrlt hkbr hkrr
 generalize hw4:w3.alloc (.mapIter (some mb) clk #[] clk) = w4 at hW4 hr4 hrlt
 refine wp_block ?_
 refine wp_loop_ghost (fun q a_ w_=>∃ (vis:List MapEntry) (seen:Array Nat) (K:Option Addr) (kc c0:Nat),q = (leftOf es seen).size ∧ Vis es.toList vis seen ∧ vis.length + (leftOf es seen).size ≤ es.size ∧
   EnvOk 53 (z9 b o mb kb K vis.length kc) [(0,.p 0 0),(1,.v (O0 B)),(4,.p 1 0),(24,.v (.pointer (some ⟨R,0,none⟩)))] a_ ∧
   WOk w B5 w_ (z9 b o mb kb K vis.length kc) [⟨K,kc,85,1,vis.length,(vis.map fun e=>Q4 e.key).map (Value.int .u32)⟩] ∧
   w_.heap[R]? = some (.mapIter (some mb) clk seen c0) ∧ clk ≤ c0 ∧ K.map (·.block) ≠ some R) (leftOf es #[]).size
  ⟨[],#[],some ⟨kr,0,none⟩,u.length,clk,rfl,Vis.nil _,by rw [List.length_nil,Nat.zero_add]; exact Array.size_filter_le,by rw [← hw4] at *; exact hE11,hW4,hr4,Nat.le_refl _,by simpa using hkrr⟩ ?_
 rintro q a10 w5 ⟨vis,seen,K,kc,c0,rfl,hv,hvl,hE12,hW5,hr5,hc0,hKR⟩
 have hes5:=hW5.step.heap (fun o h=>h) hes
 refine B8 [0,1] kz ?_
 refine B1 (Ia hE12 (d:=25) (r:=R) kz hr5 hes5 hborn hc0 (fun h0 a11 hE13=>?_) (fun e he w6 hw6 a11 hE13=>?_))
 ·-- behind it
  refine F0 [1] [] [0,1,4,26] hW5 hE13 (env':=[(0,.p 0 0),(1,.v (O0 B)),(4,.p 1 0),(26,.v (.bool false))]) kz rfl fun a12 hE14=>B4 (A7 (wp_seq ?_))
  refine D8 hE14 (b:=false) kz (fun hb=>by cases hb) (fun _=>?_)
  refine wp_exit (E2 (E2 (G3 (A7 ?_))))
  have hpe:=hv.all h0 hnod
  have hvu:vis.length = u.length:=by rw [hpe.length_eq,Array.length_toList,hesz]
  have hkp:(vis.map fun e=>Q4 e.key).Perm (u.map Prod.fst):=by
   have h1:=(hpe.map fun e=>Q4 e.key)
   have h2:=hperm.map Q4
   rw [List.map_map,List.map_map] at h2
   exact h1.trans h2
  have hkl:(vis.map fun e=>Q4 e.key).length = vis.length:=by simp
  generalize (vis.map fun e=>Q4 e.key) = ks at hkp hkl hW5
  have hown4:w5.ownsRow 0 85 1 (.slice K vis.length kc) vis.length (ks.map (Value.int .u32)):=hW5.own 0 _ rfl
  obtain ⟨g,rfl⟩:=Q9 hown4 (by omega)
  have hown5:w5.ownsRow 0 85 1 (.slice (some ⟨g,0,none⟩) vis.length kc) vis.length (ks.map (Value.int .u32)):=hown4
  have hg0:w.heap.size ≤ g:=by
   rcases hW5.ownM 0 _ rfl g rfl with h | h
   ·exact h
   exact (h 0).elim
  refine B8 [0,1,2,3] kz ?_
  refine F0 [0,1] [2,3] [0,1,4,34] hW5 hE14 (env':=[(0,.p 0 0),(1,.v (O0 B)),(4,.p 1 0),(34,.v (.iface 146 (.slice (some ⟨g,0,none⟩) vis.length kc)))]) kz rfl fun a13 hE15=>?_
  refine B1 (BY hE15 (v:=.func (.func 110) #[] #[.pointer (some ⟨kb,0,none⟩)]) (d:=35) kz fun a14 hE16=>?_)
  have hS:=Tryz.sortKeys g kc kb ks.toArray (by simp; omega) (by simp; omega) w5 (by simp only [List.size_toArray,hkl]; exact hW5.cells 1 _ rfl 0 _ rfl) (fun e=>hW5.rtb 0 _ rfl g rfl 1 _ rfl e) (DT hkl hown5) (M0 (hW5.own 0 _ rfl) (g:=g) rfl) (hW5.live 1 _ rfl)
  rw [List.size_toArray,hkl] at hS
  refine B1 (C3 hE16 (f:=109) (vs:=[.iface 146 (.slice (some ⟨g,0,none⟩) vis.length kc),.func (.func 110) #[] #[.pointer (some ⟨kb,0,none⟩)]]) (d:=36) kz Tryz.call109 hS ?_)
  rintro e_ w7 ⟨rfl,d',nd,os,hd1,hd2,hd3,rfl⟩
  refine ⟨_,rfl,fun a15 hE17=>B4 (A7 ?_)⟩
  have hus:d'.toList = u.map Prod.fst:=Ig hd2 (by rw [hd1]; exact hd3) hkp (List.pairwise_map.2 hm.sorted)
  obtain ⟨hst7,hown7⟩:=If (n:=nd) (os:=os) hkl hown5 (by rw [hd1,hkl])
  rw [hus] at hown7
  generalize Sort.grow (Sort.putRow (Value.int .u32) (Sort.ahead w5 nd) g 0 d') os = w7 at hst7 hown7
  have hW7:WOk w B5 w7 [⟨b,o,[.map (some mb)],false⟩,⟨kb,0,[.slice (some ⟨g,0,none⟩) vis.length kc],true⟩] [⟨some ⟨g,0,none⟩,kc,85,1,vis.length,(u.map Prod.fst).map (Value.int .u32)⟩] :=
   hW5.grow (k:=0) (r':=⟨some ⟨g,0,none⟩,kc,85,1,vis.length,(u.map Prod.fst).map (Value.int .u32)⟩) rfl (hst7.mono fun b' _ _ hb'=>by rw [hb']; rfl) hown7 (fun g' h=>.inl h)
  refine B8 [0,1,2] kz ?_
  refine F0 [0,1,2] [] [0,1,37,38,39] hW7 hE17 (env':=[(0,.p 0 0),(1,.v (O0 B)),(37,.v (.slice (some ⟨g,0,none⟩) vis.length kc)),(38,.v (.int .i64 ((vis.length:Nat):Int))),(39,.v (.int .i64 0))]) kz rfl fun a16 hE18=>B4 (A7 ?_)
  have hE19:=EnvOk.cutTb 1 hE18 kz
  have hat7:=hat.move hW7.step B0 E6
  have hm7:=hm.move hW7.step B0 E6
  have hd7:=hd.move hW7.step (fun _ _ _ h=>h)
  have hg7:g < w7.heap.size:=M0 (hW7.own 0 _ rfl) (g:=g) rfl
  have hkeys:=DT (by simpa using hvu.symm) hown7
  have hBMlt:∀ b' o',BM B A b' o' → b' < w.heap.size:=fun b' o' hbm=>by
   rcases hbm with ⟨rfl,_⟩ | h
   ·exact hB
   exact M0 (r:=B6 A cp 5 s) hd.own h
  rw [hvu] at hE19
  refine wp_block ?_
  refine wp_loop_ghost (fun q a_ w_=>∃ (j:Nat) (A_:Option Addr) (cp_:Nat),q = u.length - j ∧ j ≤ u.length ∧ EnvOk 53 [⟨b,o,[.map (some mb)],false⟩] [(0,.p 0 0),(1,.v (O0 B)),(37,.v (.slice (some ⟨g,0,none⟩) u.length kc)),(38,.v (.int .i64 ((u.length:Nat):Int))),(39,.v (.int .i64 ((j:Nat):Int)))] a_ ∧
   Dst w_ B 5 A_ cp_ (s ++ H0 (u.take j)) ∧ N3 w7 A A_ ∧ Step w7 w_ (BM B A)) u.length
   ⟨0,A,cp,by omega,by omega,hE19,by simpa [H0] using hd7,fun g hg=>.inl hg,Step.refl _ _⟩ ?_
  rintro q a17 w8 ⟨j,A1,cp1,rfl,hj,hE20,hD,hN,hS8⟩
  have hat8:=hat7.move hS8 (fun b o hf _=>hF b o hf) E6
  have hm8:MapR w8 (fun b' o'=>F b' o' ∧ b' < w7.heap.size) (some mb) u:=hm7.move hS8 (fun b o hf _=>hF b o hf) (fun b' o' hf hl=>⟨hf,hl⟩)
  have hW8:WOk w8 B5 w8 [⟨b,o,[.map (some mb)],false⟩] []:=(WOk.start w8 B5).start1 hat8 rfl rfl
  refine B8 [0] kz (F0 [0] [] [0,1,37,38,39,40] hW8 hE20 (env':=[(0,.p 0 0),(1,.v (O0 B)),(37,.v (.slice (some ⟨g,0,none⟩) u.length kc)),(38,.v (.int .i64 ((u.length:Nat):Int))),(39,.v (.int .i64 ((j:Nat):Int))),(40,.v (.bool (decide (((j:Nat):Int) < ((u.length:Nat):Int)))))]) kz rfl fun a18 hE21=>B4 (A7 (wp_seq ?_)))
  refine D8 hE21 (b:=decide (((j:Nat):Int) < ((u.length:Nat):Int))) kz (fun hc=>?_) (fun hc=>?_)
  ·have hlt:j < u.length:=by have:=of_decide_eq_true hc; omega
   refine wp_skip (A7 (wp_seq (wp_block ?_)))
   obtain ⟨⟨k,x⟩,hu⟩:∃ y,u[j]? = some y:=⟨_,List.getElem?_eq_getElem hlt⟩
   have hmem:=List.mem_of_getElem? hu
   have hkr:=hm.range _ hmem
   have hcell:At w8 g (0 + j * 1) [.int .u32 k]:=by
    intro i v hi
    have hi0:i = 0:=by
     have:=(List.getElem?_eq_some_iff.1 hi).1
     simp at this; omega
    subst hi0
    simp only [List.getElem?_cons_zero,Option.some.injEq] at hi
    subst hi
    refine hS8.cell (fun hbm=>?_) ?_
    ·have:=hBMlt _ _ hbm; omega
    have h1:=(hkeys j (by simpa using hlt)).1
    have h2:(u.map Prod.fst).toArray[j]! = k:=by
     rw [getElem!_pos _ j (by simpa using hlt)]
     have:(u.map Prod.fst)[j]? = some k:=by rw [List.getElem?_map,hu]; rfl
     simpa using (List.getElem?_eq_some_iff.1 this).2
    rw [h2] at h1
    simpa using h1
   refine B8 [0,1,2] kz ?_
   refine B1 (F2 hE21 (t:=146) (e:=85) (size:=1) (bytes:=4) (d:=41) (b:=g) (o:=0) (m:=u.length) (j:=j) kz kz rfl rfl hlt fun a19 hE22=>?_)
   refine B1 (G7 hE22 (t:=85) (d:=42) (cs:=[.int .u32 k]) (v:=.int .u32 k) kz kz hcell fun a20 hE23=>?_)
   refine F0 [2] [] [0,1,37,38,39,7] hW8 hE23 (env':=[(0,.p 0 0),(1,.v (O0 B)),(37,.v (.slice (some ⟨g,0,none⟩) u.length kc)),(38,.v (.int .i64 ((u.length:Nat):Int))),(39,.v (.int .i64 ((j:Nat):Int))),(7,.v (.int .u32 k))]) kz rfl fun a21 hE24=>B4 (A7 ?_)
   refine D9 [0,1,2,3,4,5,6,7,8] kz ?_
   refine F0 [0,1,2,3,4,5,6] [7,8] [0,1,37,38,39,43,44,48,49] hW8 hE24 (env':=[(0,.p 0 0),(1,.v (O0 B)),(37,.v (.slice (some ⟨g,0,none⟩) u.length kc)),(38,.v (.int .i64 ((u.length:Nat):Int))),(39,.v (.int .i64 ((j:Nat):Int))),(43,.v (O0 B)),(44,.v (.int .u32 k)),(48,.v (.map (some mb))),(49,.v (.int .u32 k))]) kz rfl fun a22 hE25=>?_
   refine B1 (HP hE25 (t:=78) (kt:=85) (et:=30) (m:=some mb) (k:=k) (s:=x) (d:=50) kz kz kz hm8 hmem fun a23 Ax cx hox hE26=>?_)
   have htake:H0 (u.take (j + 1)) = H0 (u.take j) ++ N9 k x:=Kx (g:=fun x:Int × Bs=>N9 x.1 x.2) hu
   have htl:(H0 (u.take (j + 1))).length ≤ (H0 u).length:=Kw u _ _
   have hG8:∀ b' o',F b' o' → b' < w7.heap.size → ¬ BM B A1 b' o':=fun b' o' hf hl hbm=>by
    rcases hbm with h | h
    ·exact hF b' o' hf (.inl h)
    rcases hN b' h with h1 | h1
    ·exact hF b' o' hf (.inr h1)
    omega
   refine B1 (C3 hE26 (f:=113) (vs:=[.int .u32 k,.slice Ax x.length cx,.pointer (some ⟨B,0,none⟩)]) (d:=51) kz Tryz.call113 (Ld hD hkr hox (fun b' o' h=>hG8 b' o' h.1 h.2) (hx _ hmem) (by rw [htake] at htl; rw [List.length_append] at htl ⊢; omega)) ?_)
   rintro e_ w9 ⟨rfl,A2,cp2,hD2,hN2,hS2⟩
   refine ⟨_,rfl,fun a24 hE27=>B4 (G2 (A7 ?_))⟩
   have hS9:Step w7 w9 (BM B A):=hS8.trans hS2 fun b' o' hl hbm=>by
    rcases hbm with h | h
    ·exact .inl h
    rcases hN b' h with h1 | h1
    ·exact .inr h1
    omega
   have hat9:=hat7.move hS9 (fun b o hf _=>hF b o hf) E6
   have hW9:WOk w9 B5 w9 [⟨b,o,[.map (some mb)],false⟩] []:=(WOk.start w9 B5).start1 hat9 rfl rfl
   refine D9 [0,1] kz (F0 [0,1] [] [0,1,37,38,39] hW9 hE27 (env':=[(0,.p 0 0),(1,.v (O0 B)),(37,.v (.slice (some ⟨g,0,none⟩) u.length kc)),(38,.v (.int .i64 ((u.length:Nat):Int))),(39,.v (.int .i64 (IntKind.i64.wrap (((j:Nat):Int) + 1))))]) kz rfl fun a25 hE28=>B4 (A7 ?_))
   rw [H1 (by omega)] at hE28
   refine ⟨u.length - (j + 1),by omega,j + 1,A2,cp2,rfl,by omega,hE28,?_,?_,hS9⟩
   ·rw [htake,← List.append_assoc]; exact hD2
   intro g' hg'
   rcases hN2 g' hg' with h | h
   ·exact hN g' h
   exact .inr (Nat.le_trans hS8.size h)
  obtain rfl:j = u.length:=by have:=of_decide_eq_false hc; omega
  refine wp_exit (E2 (E2 (G3 ?_)))
  rw [List.take_length] at hD
  refine M3 hE21 hW8.cells (v:=.tuple #[]) kz ⟨rfl,A1,cp1,hD,fun g' hg'=>?_,?_⟩
  ·rcases hN g' hg' with h | h
   ·exact .inl h
   exact .inr (Nat.le_trans hW7.step.size h)
  exact (hW7.step.mono fun _ _ _ f=>f.elim).trans hS8 fun _ _ _ h=>h
 -- one more
 have hst6:Step w5 w6 B5:=by
  rcases hw6 with rfl | rfl
  ·exact Step.refl _ _
  exact Step.drew _
 have hr6:w6.heap[R]? = some (.mapIter (some mb) clk seen c0):=hst6.heap (fun o h=>h) hr5
 have hW6:=hW5.next_nil hst6
 obtain ⟨hml,_⟩:=mem_left he
 obtain ⟨k,sx,Ax,cx,hk1,hk2,hk3,hk4⟩:=hcont e hml
 have hR6:R < w6.heap.size:=(Array.getElem?_eq_some_iff.1 hr6).1
 have hW7:WOk w B5 (setBlock w6 R (.mapIter (some mb) clk (seen.push e.born) clk)) (z9 b o mb kb K vis.length kc) [⟨K,kc,85,1,vis.length,(vis.map fun e=>Q4 e.key).map (Value.int .u32)⟩]:=by
  refine hW6.next (Step.setBlock w6 R _) (fun b' o' hb' hN=>by omega) (fun i ob hi j hj hN=>?_) (fun i q hi g' hg' o' hN=>?_)
  ·match i,hi with
   | 0,hi =>
    simp only [List.getElem?_cons_zero,Option.some.injEq] at hi; subst hi
    have:=World.lt_of_cell (hat 0 _ rfl).2
    simp only at hN; omega
   | 1,hi =>
    simp only [List.getElem?_cons_succ,List.getElem?_cons_zero,Option.some.injEq] at hi; subst hi
    exact hkbr hN
   | i + 2,hi=>simp at hi
  match i,hi with
  | 0,hi =>
   simp only [List.getElem?_cons_zero,Option.some.injEq] at hi; subst hi
   exact hKR (by rw [← hN]; exact hg')
  | i + 1,hi=>simp at hi
 have hr7:(setBlock w6 R (.mapIter (some mb) clk (seen.push e.born) clk)).heap[R]? = some (.mapIter (some mb) clk (seen.push e.born) clk):=Fi hr6
 generalize hw7:setBlock w6 R (.mapIter (some mb) clk (seen.push e.born) clk) = w7 at hW7 hr7
 refine F0 [1] [] [0,1,4,24,26] hW7 hE13 (env':=[(0,.p 0 0),(1,.v (O0 B)),(4,.p 1 0),(24,.v (.pointer (some ⟨R,0,none⟩))),(26,.v (.bool true))]) kz rfl fun a12 hE14=>B4 (A7 (wp_seq ?_))
 refine D8 hE14 (b:=true) kz (fun _=>?_) (fun hb=>by cases hb)
 refine wp_skip (A7 (wp_block ?_))
 have hes7:=hW7.step.heap (fun o h=>h) hes
 refine B8 [0,1,2] kz ?_
 refine B1 (Ic hE14 (d:=27) (r:=R) kz hr7 hes7 hml hnod fun a13 hE15=>?_)
 rw [hk1] at hE15
 refine F0 [1,2] [] [0,1,4,24,5] hW7 hE15 (env':=[(0,.p 0 0),(1,.v (O0 B)),(4,.p 1 0),(24,.v (.pointer (some ⟨R,0,none⟩))),(5,.v (.int .u32 k))]) kz rfl fun a14 hE16=>B4 (A7 ?_)
 refine D9 [0,1,2,3,4] kz ?_
 refine F0 [0,1] [2,3,4] [0,1,4,24,29,30] hW7 hE16 (env':=[(0,.p 0 0),(1,.v (O0 B)),(4,.p 1 0),(24,.v (.pointer (some ⟨R,0,none⟩))),(29,.v (.slice K vis.length kc)),(30,.v (.int .u32 k))]) kz rfl fun a15 hE17=>?_
 have hsh:=left_shrinks es seen e he
 refine W5 (t:=146) (e:=85) (size:=1) (bytes:=4) (len:=1) (cs:=[.int .u32 k]) (d1:=31) (d:=32) (k:=0) hW7 hE17 kz kz (fun _=>by kernel_rfl) rfl kz (by omega) fun K2 kc2 a16 w8 hF8 hW8 hE18=>?_
 obtain ⟨bl,hE18⟩:=hE18
 have hR7:R < w7.heap.size:=(Array.getElem?_eq_some_iff.1 hr7).1
 have hna:∀ {o'},¬ G9 [⟨b,o,[.map (some mb)],false⟩,⟨kb,0,[.slice K vis.length kc],true⟩] [⟨K,kc,85,1,vis.length,(vis.map fun e=>Q4 e.key).map (Value.int .u32)⟩] R o':=by
  rintro o' (⟨i,ob,hi,hrw,hb,_⟩ | ⟨i,q,hi,hq⟩)
  ·match i,hi with
   | 0,hi =>
    simp only [List.getElem?_cons_zero,Option.some.injEq] at hi; subst hi
    cases hrw
   | 1,hi =>
    simp only [List.getElem?_cons_succ,List.getElem?_cons_zero,Option.some.injEq] at hi; subst hi
    exact hkbr hb
   | i + 2,hi=>simp at hi
  match i,hi with
  | 0,hi =>
   simp only [List.getElem?_cons_zero,Option.some.injEq] at hi; subst hi
   exact hKR hq
  | i + 1,hi=>simp at hi
 have hK2:K2.map (·.block) ≠ some R:=fun hk=>by
  exact hF8.imm R 0 hR7 hna (.inr ⟨0,_,rfl,hk⟩)
 refine B1 (C7 hW8 hE18 (oi:=1) (cs:=[.slice K2 (vis.length + 1) kc2]) kz fun w9 hF9 hW9 hE19=>B4 (G2 (A7 ?_)))
 have hr8:w9.heap[R]? = some (.mapIter (some mb) clk (seen.push e.born) clk) :=
  hF9.step.heap (fun o'=>hF8.imm R o' hR7 hna) (hF8.step.heap (fun o'=>hna) hr7)
 refine ⟨(leftOf es (seen.push e.born)).size,hsh,vis ++ [e],seen.push e.born,K2,kc2,clk,rfl,hv.push he,by rw [List.length_append,List.length_singleton]; omega,?_,?_,hr8,Nat.le_refl _,hK2⟩
 ·rw [List.length_append,List.length_singleton]
  exact hE19.pick (ks:=[0,1,4,24]) kz
 rw [List.length_append,List.length_singleton,List.map_append,List.map_append,List.map_cons,List.map_cons,hk1]
 exact hW9
theorem Fn {m:Option Nat} {u:List (Int × Bs)} {b o cp:Nat} {A:Option Addr} {s:Bs} {w:World} {F:Nat → Nat → Prop} (hat:AtF w F b o [.map m]) (hm:MapR w F m u) (ho:w.ownsRow 0 5 1 (.slice A s.length cp) s.length (bc s)) (hF:∀ b o,F b o → ¬ G1 A b o)
  (hx:∀ x ∈ u,x.2.length < 4294967296) (hroom:s.length + (H0 u).length + 16 ≤ 1099511627776) :
  Calls Tryz.prog 76 [.pointer (some ⟨b,o,none⟩),.slice A s.length cp].toArray w (K9 w 5 A (s ++ H0 u)):=by
 refine enter (n:=9) Tryz.func76 rfl Tryz.ntmps76 kz fun a hE=>?_
 have hW:=WOk.start w B5
 refine B8 [0,1] kz ?_
 refine B1 (J1 hW hE (d:=3) (cs:=[.slice A s.length cp]) kz fun B a1 w1 hB hB0 hF1 hW1 hE1=>?_)
 refine F0 [1] [] [0,3] hW1 hE1 (env':=[(0,.v (.pointer (some ⟨b,o,none⟩))),(3,.p 0 0)]) kz rfl fun a2 hE2=>B4 (A7 ?_)
 have hst1:Step w w1 B5:=hW1.step
 have hd1:Dst w1 B 5 A cp s:=⟨hW1.cells 0 _ rfl 0 _ rfl,(hW1.rw_ 0 _ rfl rfl 0 (by simp)).2,Bo (r:=B6 A cp 5 s) ho fun g hg=>(hst1.keeps g (M0 (r:=B6 A cp 5 s) ho hg)).1 fun _ h=>h,
  fun e=>by have:=M0 (r:=B6 A cp 5 s) ho e; omega⟩
 refine B8 [0,1,2] kz ?_
 refine F0 [0] [1,2] [3,5] hW1 hE2 (env':=[(3,.p 0 0),(5,.v (.pointer (some ⟨b,o,none⟩)))]) kz rfl fun a3 hE3=>?_
 refine B1 (BY hE3 (v:=O0 B) (d:=6) kz fun a4 hE4=>?_)
 refine B1 (C3 hE4 (f:=58) (vs:=[.pointer (some ⟨b,o,none⟩),O0 B]) (d:=7) kz Tryz.call58
  (Lf (F:=fun b o=>F b o ∧ b < w.heap.size) (hat.move hst1 B0 fun b o h hl=>⟨h,hl⟩) (hm.move hst1 B0 fun b o h hl=>⟨h,hl⟩) hd1 (fun b' o' h hbm=>by
   rcases hbm with ⟨h1,_⟩ | h1
   ·omega
   exact hF b' o' h.1 h1) hx hroom) ?_)
 rintro e_ w2 ⟨rfl,A2,c2,hD,hN,hS⟩
 refine ⟨_,rfl,fun a5 hE5=>B4 (A7 ?_)⟩
 have hW2:WOk w2 B5 w2 [⟨B,0,[.slice A2 (s ++ H0 u).length c2],false⟩] []:=by
  have:=hD.wok
  refine (WOk.start w2 B5).add ⟨B,0,[.slice A2 (s ++ H0 u).length c2],false⟩ (World.lt_of_cell hD.cell) (fun j v hj=>?_) (fun h=>by cases h) (fun i ob hi=>by simp at hi) (fun i r hi=>by simp at hi)
  exact this.cells 0 _ rfl j v hj
 have hE6:EnvOk 9 [⟨B,0,[.slice A2 (s ++ H0 u).length c2],false⟩] [(3,.p 0 0)] a5:=(hE5.pick (ks:=[3]) (env':=[(3,.p 0 0)]) kz).places ⟨rfl,rfl,trivial⟩
 refine B8 [0,1] kz ?_
 refine F0 [0,1] [] [4] hW2 hE6 (env':=[(4,.v (.slice A2 (s ++ H0 u).length c2))]) kz rfl fun a6 hE7=>B4 (A7 (wp_ret ?_))
 refine D5 hE7 hW2.cells (v:=.slice A2 (s ++ H0 u).length c2) kz ⟨A2,c2,rfl,hD.own,?_,fun g hg=>?_⟩
 ·exact (hst1.mono fun _ _ _ f=>f.elim).trans hS fun b' o' hl hbm=>by
   rcases hbm with ⟨h1,_⟩ | h1
   ·omega
   exact h1
 rcases hN g hg with h | h
 ·exact .inl h
 exact .inr (Nat.le_trans hst1.size h)
end Go.Proofs.YtipblegipibplaaGreatDoor.ME
namespace Go.Proofs.YtipblegipibplaaGreatDoor.ME
open Go
open Go.RowKit
set_option linter.unusedVariables false
set_option linter.unusedSimpArgs false
set_option maxRecDepth 20000
theorem AtF.one {w:World} {F:Nat → Nat → Prop} {b o:Nat} {cs:List Value} (h:AtF w F b o cs) (k:Nat) {v:Value} (hk:cs[k]? = some v):AtF w F b (o + k) [v]:=fun j x hj=>by
 have hj0:j = 0:=by
  have:=(List.getElem?_eq_some_iff.1 hj).1
  simp at this; omega
 subst hj0
 simp only [List.getElem?_cons_zero,Option.some.injEq] at hj
 subst hj
 exact h k _ hk
section
variable {P:Program} {n:Nat} {w0:World} {A0:Option Addr} {e8 d:Nat} {tb:Tb} {env e1 env':C8} {c c1 c2:Code} {x x1 x2 y:Bs}
theorem Fo {id:Nat} {ops:Array Oper} (i:Nat) (keys:List Nat) {f:FuncId} (args:Value → List Value)
  (h:∀ A m cp A' m' cp',BV P ops n tb i (d :: keys) ((d,.v (.slice A m cp)) :: env) (.slice A' m' cp') = some ((f,args (.slice A m cp)),(d,.v (.slice A' m' cp')) :: env'))
  (hi:Nat.blt i ops.size = true) (hf:∀ args w,(callFunc f args).run P w = .ok (.enter f args) w)
  (hc:∀ (A:Option Addr) (cp:Nat) (s:Bs) (w:World),Step w0 w (G1 A0) → N3 w0 A0 A → w.ownsRow 0 e8 1 (.slice A s.length cp) s.length (bc s) → s.length + x.length + 16 ≤ 1099511627776 → Calls P f (args (.slice A s.length cp)).toArray w (K9 w e8 A (s ++ x))) :
  Ch P n w0 A0 e8 d tb env env' (.region id ops false) x:=fun Q A cp s a w hE hW hr k=>by
 have hi':i < ops.size:=by simpa [Nat.blt_eq] using hi
 obtain ⟨e,t,h1,h2,_⟩:=Bq (h A s.length cp none 0 0)
 refine D9 (List.range i ++ i :: upto (i + 1) ops.size) (by rw [← U6 hi']; rfl) ?_
 refine R2 hW.cells hE h1 fun a1 hE1=>B1 (C3 hE1 h2 hf (hc A cp s w hW.step (DJ hW) (hW.own 0 _ rfl) hr) ?_)
 rintro e_ w' ⟨A',c',rfl,ho,hs,hn⟩
 refine ⟨_,rfl,fun a2 hE2=>?_⟩
 obtain ⟨e',t',g1,g2,g3⟩:=Bq (h A s.length cp A' (s ++ x).length c')
 rw [h1] at g1
 obtain rfl:=Option.some.inj g1
 rw [h2] at g2
 simp only [Option.some.injEq,Prod.mk.injEq,true_and] at g2
 subst g2
 have hW':WOk w0 (G1 A0) w' tb [B6 A' c' e8 (s ++ x)]:=hW.grow (k:=0) rfl hs ho hn
 refine F0 (upto (i + 1) ops.size) [] (d :: keys) hW' hE2 g3 (List.append_nil _).symm fun a3 hE3=>B4 ?_
 exact k A' c' a3 w' hE3 hW'
theorem X7 {o:Operand} {b:Bool} (hb:∀ A m cp,E8 ((d,.v (.slice A m cp)) :: env) o = some (.v (.bool b))) (h1:b = true → Ch P n w0 A0 e8 d tb env env' c1 x) (h2:b = false → Ch P n w0 A0 e8 d tb env env' c2 []) :
  Ch P n w0 A0 e8 d tb env env' (.cond o c1 c2) (if b = true then x else []) :=
 Hy hb (fun h=>DK (h1 h) (by rw [if_pos h])) (fun h=>DK (h2 h) (by rw [if_neg (by rw [h]; decide)]))
theorem X8 (keys:List Nat) (h:∀ A m cp,pick ((d,.v (.slice A m cp)) :: env) (d :: keys) = some ((d,.v (.slice A m cp)) :: e1)) (hc:Ch P n w0 A0 e8 d tb e1 env' c x):Ch P n w0 A0 e8 d tb env env' c x:=fun Q A cp s a w hE hW hr k =>
 hc Q A cp s a w (hE.pick (h _ _ _)) hW hr k
theorem Fq (keys:List Nat) (h:∀ A m cp,pick ((d,.v (.slice A m cp)) :: e1) (d :: keys) = some ((d,.v (.slice A m cp)) :: env')) (hc:Ch P n w0 A0 e8 d tb env e1 c x):Ch P n w0 A0 e8 d tb env env' c x:=fun Q A cp s a w hE hW hr k =>
 hc Q A cp s a w hE hW hr fun A' cp' a' w' hE' hW'=>k A' cp' a' w' (hE'.pick (h _ _ _)) hW'
end
def P7 (u:List (Int × Bs)):Prop:=u.Pairwise fun x y=>x.1 < y.1
theorem Ih {u:List (Int × Bs)} {j:Nat} {k:Int} {s:Bs} (h:P7 u) (hj:u[j]? = some (k,s)):J7 (u.take j) k s = u.take (j + 1):=by
 obtain ⟨hlt,he⟩:=List.getElem?_eq_some_iff.1 hj
 rw [HR,List.take_add_one,hj]
 ·rfl
 intro x hx
 obtain ⟨i,hi⟩:=List.getElem?_of_mem hx
 rw [List.getElem?_take] at hi
 split at hi
 ·rename_i hij
  obtain ⟨hi1,hi2⟩:=List.getElem?_eq_some_iff.1 hi
  have:=List.pairwise_iff_getElem.1 h i j hi1 hlt hij
  rw [hi2,he] at this
  exact this
 cases hi
theorem Fs {w w':World} {e:Nat} {s:Bs} {en:Ending} {w2:World} (hs:Step w w' B5) (h:K9 w' e none s en w2):BU w e s en w2:=by
 obtain ⟨A',c',h1,h2,h3,h4⟩:=h
 refine ⟨A',c',h1,?_,hs.trans h3 fun b o _ h=>by cases h⟩
 refine ⟨h2.1,?_⟩
 rcases h2.2 with h5 | ⟨g,cap,cur,hv,_,hg,hr⟩
 ·exact .inl h5
 refine .inr ⟨g,cap,cur,hv,?_,hg,hr⟩
 have:A' = some ⟨g,0,none⟩:=by injection hv
 rcases h4 g (by rw [this]; rfl) with h6 | h6
 ·cases h6
 exact Nat.le_trans hs.size h6
theorem Ft (m:Nat) (h:m ≤ 1000000):IntKind.u32.wrap (0 + IntKind.u32.wrap ((m:Nat):Int)) = ((m:Nat):Int):=by simp only [E1]; omega
structure Str (w:World) (p:Nat) (cs:List Value):Prop where
 at_:∀ j v,cs[j]? = some v → w.cell? ⟨p,j,none⟩ = some v
 frz:∀ j,j < cs.length → w.frozen? ⟨p,j,none⟩ = false
theorem Str.move {w w':World} {p:Nat} {cs:List Value} {M:Nat → Nat → Prop} (h:Str w p cs) (hs:Step w w' M) (hM:∀ o,¬ M p o):Str w' p cs :=
 ⟨fun j v hj=>hs.cell (hM j) (h.at_ j v hj),fun j hj=>hs.frozen (hM j) (h.at_ j _ (List.getElem?_eq_getElem hj)) (h.frz j hj)⟩
theorem Str.of {w0 w:World} {M:Nat → Nat → Prop} {tb:Tb} {rs:List Rw} (hW:WOk w0 M w tb rs) (i:Nat) {p:Nat} {cs:List Value} (hi:tb[i]? = some ⟨p,0,cs,true⟩):Str w p cs:=by
 refine ⟨fun j v hj=>?_,fun j hj=>?_⟩
 ·have:=hW.cells i _ hi j v hj
  simpa using this
 have:=(hW.rw_ i _ hi rfl j hj).2
 simpa using this
structure TL (w wL w':World) (F:Nat → Nat → Prop) (p off:Nat) (cs0:List Value) (m:Option Nat) (u:List (Int × Bs)):Prop where
 step:Step w w' B5
 big:w.heap.size ≤ wL.heap.size
 keep:Step wL w' (fun b o=>b = p ∧ o = off)
 str:Str w' p (cs0.set off (.map m))
 own:OwnM w' (fun b o=>F b o ∧ b < w.heap.size) m u
 new:∀ r,m = some r → wL.heap.size ≤ r
theorem TL.move {w wL w1 w2:World} {F:Nat → Nat → Prop} {p off:Nat} {cs0:List Value} {m:Option Nat} {u:List (Int × Bs)} (h:TL w wL w1 F p off cs0 m u) (hs:Step w1 w2 B5):TL w wL w2 F p off cs0 m u :=
 ⟨h.step.trans' hs,h.big,h.keep.trans' hs,h.str.move hs fun _ h=>h,h.own.move hs B0 E6 (fun _ _ _ h=>h),h.new⟩
theorem DU {w:World} {F:Nat → Nat → Prop} {A:Option Addr} {c j:Nat} {u:List (Int × Bs)} {k:Int} {s:Bs} (h:TagsR w F A c u) (hj:u[j]? = some (k,s)) :
  ∃ b o A' c',A = some ⟨b,o,none⟩ ∧ At w b (o + j * 2) [.int .u32 k,.slice A' s.length c'] ∧ Octs w F A' c' s ∧ 0 ≤ k ∧ k < 4294967296:=by
 obtain ⟨cs,h1,h2⟩:=h.ex
 obtain ⟨hlt,_⟩:=List.getElem?_eq_some_iff.1 hj
 obtain ⟨⟨A',c',g1,g2⟩,g3⟩:=h2 j k s hj
 cases hA:A with
 | none=>have:=(h1.none_ hA).1; omega
 | some ad =>
  obtain ⟨b,o,rfl,h4⟩:=h1.some_ ad hA (by omega)
  have h5:=(h4 j hlt).2
  rw [g1] at h5
  exact ⟨b,o,A',c',rfl,h5.at_,g2,g3⟩
theorem Fu {w:World} {F:Nat → Nat → Prop} {A:Option Addr} {c:Nat} {u:List (Int × Bs)} (h:TagsR w F A c u):∀ x ∈ u,0 ≤ x.1 ∧ x.1 < 4294967296:=by
 rintro ⟨k,s⟩ hx
 obtain ⟨j,hj⟩:=List.getElem?_of_mem hx
 obtain ⟨_,_,_,_,_,_,_,h⟩:=DU h hj
 exact h
theorem At.step_nil {w w':World} {b o:Nat} {cs:List Value} (h:At w b o cs) (hs:Step w w' B5):At w' b o cs:=h.step hs fun _ _ h=>h
theorem TL.set {w wL w1:World} {F:Nat → Nat → Prop} {p off c j:Nat} {cs0:List Value} {m:Option Nat} {u:List (Int × Bs)} {k:Int} {A:Option Addr} {s:Bs} (h:TL w wL w1 F p off cs0 m (u.take j)) (hp:w.heap.size ≤ p) (hoff:Nat.blt off cs0.length = true) (hsort:P7 u) (hj:u[j]? = some (k,s)) (hs:Octs w F A c s) (hk:0 ≤ k ∧ k < 4294967296) :
  Calls Tryz.prog 64 [.pointer (some ⟨p,off,none⟩),.int .u32 k,.slice A s.length c].toArray w1 (fun e w'=>e = .returned (.tuple #[]) ∧ Step w1 w' (fun b' _=>b' = p ∨ m = some b') ∧ ∃ r,TL w wL w' F p off cs0 (some r) (u.take (j + 1))):=by
 have hbig:=h.big
 have hoff':off < cs0.length:=by simpa [Nat.blt_eq] using hoff
 have hcell:w1.cell? ⟨p,off,none⟩ = some (.map m):=h.str.at_ off _ (by simp [hoff'])
 have hfz:w1.frozen? ⟨p,off,none⟩ = false:=h.str.frz off (by simpa using hoff')
 have hs1:Octs w1 (fun b o=>F b o ∧ b < w.heap.size) A c s:=hs.move h.step B0 fun b o hf hb=>⟨hf,hb⟩
 have hmp:m ≠ some p:=fun e=>by
  obtain ⟨es,clk,h1,_⟩:=h.own.some_ p e
  exact DQ hcell h1 rfl
 refine (HU hcell hfz h.own hs1 hk (fun b' o' hg=>⟨fun e=>?_,fun e=>?_⟩) (fun b' o' hg=>Nat.lt_of_lt_of_le hg.2 h.step.size)).mono ?_
 ·have:=hg.2; omega
 ·have:=h.new b' e; have:=hg.2; omega
 rintro e w' ⟨rfl,r,h1,h2,h3,h4,h5⟩
 rw [Ih hsort hj] at h3
 refine ⟨rfl,h5.mono fun b' o' _ hN=>hN.imp And.left id,r,?_,h.big,?_,⟨fun i v hi=>?_,fun i hi=>?_⟩,h3,fun r' hr'=>?_⟩
 ·exact h.step.trans h5 fun b' o' hl hN=>by
   rcases hN with ⟨h6,_⟩ | h6
   ·omega
   have:=h.new b' h6; omega
 ·exact h.keep.trans h5 fun b' o' hl hN=>by
   rcases hN with h6 | h6
   ·exact h6
   have:=h.new b' h6; omega
 ·rw [List.getElem?_set] at hi
  by_cases e:off = i
  ·subst e
   rw [if_pos rfl,if_pos hoff'] at hi
   rw [← Option.some.inj hi]; exact h1
  rw [if_neg e] at hi
  refine h5.cell (fun hN=>?_) (h.str.at_ i v (by rw [List.getElem?_set,if_neg e]; exact hi))
  rcases hN with ⟨_,h6⟩ | h6
  ·exact e h6.symm
  exact hmp h6
 ·by_cases e:off = i
  ·subst e; exact h2
  rw [List.length_set] at hi
  refine h5.frozen (fun hN=>?_) (h.str.at_ i _ (List.getElem?_eq_getElem (by simpa using hi))) (h.str.frz i (by simpa using hi))
  rcases hN with ⟨_,h6⟩ | h6
  ·exact e h6.symm
  exact hmp h6
 obtain rfl:=Option.some.inj hr'
 rcases h4 with h4 | h4
 ·exact h.new _ h4
 exact Nat.le_trans h.keep.size h4
theorem TL.keeps {w wL w1 w2 w':World} {F:Nat → Nat → Prop} {p off:Nat} {cs0:List Value} {m:Option Nat} {u:List (Int × Bs)} {tb:Tb} (h:TL w wL w1 F p off cs0 m u) (hoff:Nat.blt off cs0.length = true) (hs:Step w2 w' (fun b' _=>b' = p ∨ m = some b')) (hc:CellsOk w2 tb) (hb:∀ ob ∈ tb,w1.heap.size ≤ ob.blk):CellsOk w' tb:=fun i ob hi j v hj=>by
 have hoff':off < cs0.length:=by simpa [Nat.blt_eq] using hoff
 have h1:=hb ob (List.mem_of_getElem? hi)
 have h2:p < w1.heap.size:=World.lt_of_cell (h.str.at_ off (.map m) (by simp [hoff']))
 refine hs.cell (fun hN=>?_) (hc i ob hi j v hj)
 rcases hN with h3 | h3
 ·omega
 obtain ⟨es,clk,h4,_⟩:=h.own.some_ _ h3
 have:=(Array.getElem?_eq_some_iff.1 h4).1
 omega
theorem TL.start {w w1:World} {tb:Tb} {rs:List Rw} {F:Nat → Nat → Prop} {p off:Nat} {cs0:List Value} (hW:WOk w B5 w1 tb rs) (i:Nat) (hi:tb[i]? = some ⟨p,0,cs0,true⟩) (ho:cs0.set off (.map none) = cs0):TL w w1 w1 F p off cs0 none [] :=
 ⟨hW.step,hW.step.size,Step.refl _ _,by rw [ho]; exact Str.of hW i hi,OwnM.nil _ _,fun _ h=>by cases h⟩
theorem Fv {w w1:World} {tb:Tb} {rs:List Rw} {p:Nat} {cs:List Value} (hW:WOk w B5 w1 tb rs) (i:Nat) (hi:tb[i]? = some ⟨p,0,cs,true⟩) (hn:Nat.blt 0 cs.length = true):w.heap.size ≤ p:=by
 rcases (hW.rw_ i _ hi rfl 0 (by simpa [Nat.blt_eq] using hn)).1 with h | h
 ·exact h
 exact h.elim
theorem Fw {F:Nat → Nat → Prop}:∀ b o,F b o → ¬ G1 none b o:=fun _ _ _ h=>by cases h
structure TagsE (w:World) (F:Nat → Nat → Prop) (out:List (Int × Bs)) (css:List (List Value)):Prop where
 len:css.length = out.length
 each:∀ (i:Nat) (c:List Value) (x:Int × Bs),css[i]? = some c → out[i]? = some x → TagR w F c x
theorem TagsE.move {w w':World} {F F' N:Nat → Nat → Prop} {l:List (Int × Bs)} {css:List (List Value)} (h:TagsE w F l css) (hs:Step w w' N) (hM:∀ b o,F b o → b < w.heap.size → ¬ N b o) (hF:∀ b o,F b o → b < w.heap.size → F' b o):TagsE w' F' l css :=
 ⟨h.len,fun i c x hc hx=>(h.each i c x hc hx).move hs hM hF⟩
theorem TagsE.nil (w:World) (F:Nat → Nat → Prop):TagsE w F [] []:=⟨rfl,fun i c x h=>by simp at h⟩
theorem TagsE.get {w:World} {F:Nat → Nat → Prop} {l:List (Int × Bs)} {css:List (List Value)} (h:TagsE w F l css) {i:Nat} {x:Int × Bs} (hx:l[i]? = some x):∃ c,css[i]? = some c ∧ TagR w F c x:=by
 have hi:=(List.getElem?_eq_some_iff.1 hx).1
 have hc:=List.getElem?_eq_getElem (show i < css.length by rw [h.len]; exact hi)
 exact ⟨_,hc,h.each i _ x hc hx⟩
theorem TagsE.two {w:World} {F:Nat → Nat → Prop} {l:List (Int × Bs)} {css:List (List Value)} (h:TagsE w F l css):∀ c ∈ css,c.length = 2:=by
 intro c hc
 obtain ⟨i,hi,rfl⟩:=List.getElem_of_mem hc
 have hl:=h.len
 exact (h.each i _ _ (List.getElem?_eq_getElem hi) (List.getElem?_eq_getElem (show i < l.length by omega))).two
theorem TagsE.tags {w:World} {F:Nat → Nat → Prop} {l:List (Int × Bs)} {css:List (List Value)} (h:TagsE w F l css):Tags w F css.flatten l css:=⟨⟨rfl,h.two⟩,h.len,h.each⟩
theorem TagsE.ins {w:World} {F:Nat → Nat → Prop} {l:List (Int × Bs)} {css:List (List Value)} (h:TagsE w F l css) {c:List Value} {x:Int × Bs} (hx:TagR w F c x) {i:Nat} (hi:i ≤ l.length):TagsE w F (l.take i ++ x :: l.drop i) (css.take i ++ c :: css.drop i):=by
 have hl:=h.len
 refine ⟨by simp; omega,fun j d y hd hy=>?_⟩
 have hc1:(css.take i).length = i:=by rw [List.length_take]; omega
 have hl1:(l.take i).length = i:=by rw [List.length_take]; omega
 rcases Nat.lt_trichotomy j i with hj | hj | hj
 ·rw [List.getElem?_append_left (by omega),List.getElem?_take,if_pos hj] at hd hy
  exact h.each j d y hd hy
 ·subst hj
  rw [List.getElem?_append_right (by omega),hc1,Nat.sub_self] at hd
  rw [List.getElem?_append_right (by omega),hl1,Nat.sub_self] at hy
  simp only [List.getElem?_cons_zero,Option.some.injEq] at hd hy
  subst hd; subst hy; exact hx
 rw [List.getElem?_append_right (by omega),hc1,show j - i = (j - i - 1) + 1 by omega,List.getElem?_cons_succ,List.getElem?_drop] at hd
 rw [List.getElem?_append_right (by omega),hl1,show j - i = (j - i - 1) + 1 by omega,List.getElem?_cons_succ,List.getElem?_drop] at hy
 exact h.each _ d y hd hy
theorem DW {m:Nat} {css:List (List Value)} (h:∀ c ∈ css,c.length = m) {i:Nat} {c:List Value} (hc:css[i]? = some c):∀ (j:Nat) (v:Value),c[j]? = some v → css.flatten[i * m + j]? = some v:=by
 intro j v hj
 have hi:=(List.getElem?_eq_some_iff.1 hc).1
 have hcl:c.length = m:=h c (List.mem_of_getElem? hc)
 have:=CB h i j hi (by rw [← hcl]; exact (List.getElem?_eq_some_iff.1 hj).1)
 rw [← this,List.getD_eq_getElem?_getD,hc]
 exact hj
theorem Fx {m:Nat}:∀ {L:List (List Value)},(∀ c ∈ L,c.length = m) → ∀ {j:Nat} {c:List Value},j < L.length → c.length = m → K5 L.flatten (j * m) c = (L.set j c).flatten
 | [],_,j,c,hj,_=>by simp at hj
 | d :: r,h,0,c,_,hc=>by
  have hd:d.length = m:=h d (List.mem_cons_self ..)
  unfold K5
  rw [Nat.zero_mul,List.take_zero,List.nil_append,Nat.zero_add,List.set_cons_zero,List.flatten_cons,List.flatten_cons,List.drop_append,hc]
  have e1:d.drop m = []:=List.drop_eq_nil_of_le (by omega)
  rw [e1,hd,Nat.sub_self,List.drop_zero,List.nil_append]
 | d :: r,h,j + 1,c,hj,hc=>by
  have hd:d.length = m:=h d (List.mem_cons_self ..)
  have ih:=Fx (L:=r) (fun c hc=>h c (List.mem_cons_of_mem _ hc)) (j:=j) (c:=c) (by simpa using hj) hc
  unfold K5 at ih ⊢
  rw [List.set_cons_succ,List.flatten_cons,List.flatten_cons,← ih,List.take_append,List.drop_append,hd]
  have e1:d.take ((j + 1) * m) = d:=List.take_of_length_le (by rw [hd,Nat.add_mul]; omega)
  have e2:d.drop ((j + 1) * m + c.length) = []:=List.drop_eq_nil_of_le (by rw [hd,Nat.add_mul]; omega)
  have e3:(j + 1) * m - m = j * m:=by rw [Nat.add_mul]; omega
  have e4:(j + 1) * m + c.length - m = j * m + c.length:=by rw [Nat.add_mul]; omega
  rw [e1,e2,e3,e4,List.nil_append,List.append_assoc]
def I2 (css:List (List Value)) (z:List Value) (j:Nat):List (List Value):=(css ++ [z]).take (j + 1) ++ css.drop j
theorem Lg (css:List (List Value)) (z:List Value):I2 css z css.length = css ++ [z]:=by
 unfold I2
 rw [List.take_of_length_le (by simp),List.drop_length,List.append_nil]
theorem Ii (css:List (List Value)) (z:List Value) {j:Nat} (h:j ≤ css.length):(I2 css z j).length = css.length + 1:=by
 simp only [I2,List.length_append,List.length_take,List.length_drop,List.length_cons,List.length_nil]; omega
theorem DX {css:List (List Value)} {z:List Value} {m:Nat} (h:∀ c ∈ css,c.length = m) (hz:z.length = m) (j:Nat):∀ c ∈ I2 css z j,c.length = m:=by
 intro c hc
 rcases List.mem_append.1 hc with hc | hc
 ·rcases List.mem_append.1 (List.mem_of_mem_take hc) with hc | hc
  ·exact h c hc
  rw [List.mem_singleton.1 hc]; exact hz
 exact h c (List.mem_of_mem_drop hc)
theorem Ij {css:List (List Value)} {z:List Value} {j i:Nat} {c:List Value} (hi:i < j) (hc:css[i]? = some c):(I2 css z j)[i]? = some c:=by
 have h:=(List.getElem?_eq_some_iff.1 hc).1
 unfold I2
 rw [List.getElem?_append_left (by simp; omega),List.getElem?_take,if_pos (by omega),List.getElem?_append_left h]
 exact hc
theorem Lh {css:List (List Value)} {z:List Value} {j:Nat} {c:List Value} (hj:j < css.length) (hc:css[j]? = some c):(I2 css z (j + 1)).set (j + 1) c = I2 css z j:=by
 apply List.ext_getElem?
 intro i
 unfold I2
 have hl1:((css ++ [z]).take (j + 1 + 1)).length = j + 2:=by simp; omega
 have hl2:((css ++ [z]).take (j + 1)).length = j + 1:=by simp; omega
 have hL:((css ++ [z]).take (j + 1 + 1) ++ css.drop (j + 1)).length = css.length + 1:=by simp; omega
 rw [List.getElem?_set]
 by_cases h1:j + 1 = i
 ·subst h1
  rw [if_pos rfl,if_pos (by omega),List.getElem?_append_right (by omega),hl2,Nat.sub_self,List.getElem?_drop,Nat.add_zero,hc]
 rw [if_neg h1]
 rcases Nat.lt_or_ge i (j + 1) with h2 | h2
 ·rw [List.getElem?_append_left (by omega),List.getElem?_append_left (by omega),List.getElem?_take,List.getElem?_take,if_pos (by omega),if_pos (by omega)]
 rw [List.getElem?_append_right (by omega),List.getElem?_append_right (by omega),hl1,hl2,List.getElem?_drop,List.getElem?_drop]
 congr 1
 omega
theorem Li {css:List (List Value)} {z:List Value} {i:Nat} {c:List Value} (hi:i ≤ css.length):(I2 css z i).set i c = css.take i ++ c :: css.drop i:=by
 unfold I2
 have e:(css ++ [z]).take (i + 1) = css.take i ++ [((css ++ [z]).getD i [])]:=by
  rw [List.take_add_one]
  have hlt:i < (css ++ [z]).length:=by simp; omega
  rw [List.getElem?_eq_getElem hlt,List.getD_eq_getElem?_getD,List.getElem?_eq_getElem hlt,List.take_append,show i - css.length = 0 by omega]
  simp
 have hl:(css.take i).length = i:=by rw [List.length_take]; omega
 rw [e,List.append_assoc,List.set_append_right _ _ (by omega),hl,Nat.sub_self]
 rfl
theorem Ik {css:List (List Value)} {z c:List Value} (h2:∀ c ∈ css,c.length = 2) (hz:z.length = 2) {j:Nat} (h0:0 < j) (hj:j ≤ css.length) (hc:css[j - 1]? = some c):K5 (I2 css z j).flatten (j * 2) c = (I2 css z (j - 1)).flatten:=by
 obtain ⟨q,rfl⟩:∃ q,j = q + 1:=⟨j - 1,by omega⟩
 rw [Fx (DX h2 hz _) (by rw [Ii _ _ hj]; omega) (h2 c (List.mem_of_getElem? hc)),Nat.add_sub_cancel,Lh (by omega) (by simpa using hc)]
theorem Il {css:List (List Value)} {z c:List Value} (h2:∀ c ∈ css,c.length = 2) (hz:z.length = 2) {i:Nat} (hi:i ≤ css.length) (hc:c.length = 2):K5 (I2 css z i).flatten (i * 2) c = (css.take i ++ c :: css.drop i).flatten:=by
 rw [Fx (DX h2 hz _) (by rw [Ii _ _ hi]; omega) hc,Li hi]
theorem Im {css:List (List Value)} {z:List Value} {n:Nat} (hn:css.length = n):css.flatten ++ z = (I2 css z n).flatten:=by
 subst hn; rw [Lg]; simp
theorem BZ {out:List (Int × Bs)} {i:Nat} (x:Int × Bs) (hi:i ≤ out.length):out.length + 1 = (out.take i ++ x :: out.drop i).length:=by simp; omega
theorem TagsE.get2 {w:World} {F:Nat → Nat → Prop} {l:List (Int × Bs)} {css:List (List Value)} (h:TagsE w F l css) {i:Nat} {k:Int} {s:Bs} (hx:l[i]? = some (k,s)):∃ A c,css[i]? = some [.int .u32 k,.slice A s.length c] ∧ Octs w F A c s ∧ 0 ≤ k ∧ k < 4294967296:=by
 obtain ⟨cs,hc,⟨A,c,hcs,hO⟩,h0,h1⟩:=h.get hx
 exact ⟨A,c,by rw [hc,hcs],hO,h0,h1⟩
theorem Fy {out:List (Int × Bs)} {k:Int}:∀ {i:Nat},i ≤ out.length → (∀ j,j < i → (out.getD j (0,[])).1 < k) → (i < out.length → ¬ (out.getD i (0,[])).1 < k) → U4 out k = i:=by
 induction out with
 | nil=>intro i hi _ _; simp at hi; subst hi; rfl
 | cons a r ih =>
  intro i hi h1 h2
  cases i with
  | zero =>
   have:=h2 (by simp)
   simp at this
   unfold U4
   rw [List.takeWhile_cons,if_neg (by simpa using this)]; rfl
  | succ i =>
   have ha:=h1 0 (by omega)
   simp at ha
   have:=ih (i:=i) (by simpa using hi) (fun j hj=>by simpa using h1 (j + 1) (by omega)) (fun hj=>by simpa using h2 (by simpa using hj))
   unfold U4 at this ⊢
   rw [List.takeWhile_cons,if_pos (by simpa using ha),List.length_cons,this]
theorem In {out:List (Int × Bs)} {i:Nat} {x:Int × Bs} (h:out[i]? = some x):out.getD i (0,[]) = x:=by rw [List.getD_eq_getElem?_getD,h]; rfl
theorem Ca {out:List (Int × Bs)} {i:Nat} {k:Int} {s:Bs} (h:out[i]? = some (k,s)):(out.getD i (0,[])).1 = k:=by rw [In h]
theorem Io {least:Int} {out:List (Int × Bs)} {k:Int} {s:Bs} (h:k < least):N2 least out (k,s) = out:=by
 unfold N2
 rw [if_pos (.inl h)]
theorem Lj {least:Int} {out:List (Int × Bs)} {k:Int} {s:Bs} {i:Nat} (hp:U4 out k = i) (hi:i < out.length) (he:(out.getD i (0,[])).1 = k):N2 least out (k,s) = out:=by
 unfold N2
 dsimp only
 rw [hp,if_pos (.inr ⟨hi,he⟩)]
theorem Ip {least:Int} {out:List (Int × Bs)} {k:Int} {s:Bs} {i:Nat} (hp:U4 out k = i) (hl:¬ k < least) (hn:i < out.length → (out.getD i (0,[])).1 ≠ k):N2 least out (k,s) = out.take i ++ (k,s) :: out.drop i:=by
 unfold N2
 dsimp only
 rw [hp,if_neg (fun h=>h.elim hl fun h3=>hn h3.1 h3.2)]
theorem CP {α β:Type} {f:β → α → β} {b:β} {l:List α} {k:Nat} {x:α} (h:l[k]? = some x):(l.take (k + 1)).foldl f b = f ((l.take k).foldl f b) x:=by
 rw [List.take_add_one,h,List.foldl_append]; rfl
theorem Lk (least:Int) (out:List (Int × Bs)) (t:Int × Bs):(N2 least out t).length ≤ out.length + 1:=by
 unfold N2
 dsimp only
 split
 ·omega
 simp; omega
theorem Ll {w:World} {F:Nat → Nat → Prop} {A:Option Addr} {c:Nat} {l:List (Int × Bs)} {xs:Nat → List Value} (h:Slots w F 2 A c l.length xs) (m:Nat):Slots w F 2 A c (l.take m).length xs:=h.take (by rw [List.length_take]; omega)
theorem Lm {w:World} {F:Nat → Nat → Prop} {l:List (Int × Bs)} {xs:Nat → List Value} (h:∀ i k s,l[i]? = some (k,s) → (∃ A' c',xs i = [.int .u32 k,.slice A' s.length c'] ∧ Octs w F A' c' s) ∧ 0 ≤ k ∧ k < 4294967296) (m:Nat):∀ (i:Nat) (k:Int) (s:Bs),(l.take m)[i]? = some (k,s) → (∃ A' c',xs i = [.int .u32 k,.slice A' s.length c'] ∧ Octs w F A' c' s) ∧ 0 ≤ k ∧ k < 4294967296:=fun i k s hx=>by
 rw [List.getElem?_take] at hx
 split at hx
 ·exact h i k s hx
 cases hx
theorem Ln {w0 w:World} {F:Nat → Nat → Prop} {tb:Tb} {rs:List Rw} {r A c e n} {out:List (Int × Bs)} {css:List (List Value)} (hW:WOk w0 B5 w tb rs) {k:Nat} (hk:rs[k]? = some r) (hr:r = ⟨A,c,e,2,n,css.flatten⟩) (hn:n = out.length)
  (hT:TagsE w (D4 F w0 w tb rs) out css) (hsm:out.length ≤ 1099511627776) {u:List (Int × Bs)} (hu:out = u):Hv w0 F u (.returned (.slice A n c)) w:=by
 subst hr; subst hu; subst hn
 refine ⟨A,c,rfl,?_,hW.step⟩
 refine (hT.move (Step.refl w B5) B0 G0).tags.slots (hW.own k _ hk) rfl hsm fun g hg o=>?_
 rcases hW.ownM k _ hk g hg with h | h
 ·exact .inr h
 exact (h 0).elim
theorem Fz:∀ {l:List Fld} {i:Nat} {f:Fld},l[i]? = some f → f.depth ≤ depths l
 | [],i,f,h=>by simp at h
 | a :: r,0,f,h=>by
  simp only [List.getElem?_cons_zero,Option.some.injEq] at h
  subst h
  exact Nat.le_max_left _ _
 | a :: r,i + 1,f,h=>by
  have:=Fz (l:=r) (i:=i) (f:=f) (by simpa using h)
  exact Nat.le_trans this (Nat.le_max_right _ _)
theorem Iq (k x1 x2 x3 x4 x5 x6:Int) (l:List Fld):(Fld.mk k x1 x2 x3 x4 x5 x6 l).depth = depths l + 1:=by rw [Fld.depth]
theorem Lp {α:Type} {l:List α} {k:Nat} {x:α} (h:l[k]? = some x):l.drop k = x :: l.drop (k + 1):=by
 obtain ⟨hk,rfl⟩:=List.getElem?_eq_some_iff.1 h
 exact List.drop_eq_getElem_cons hk
section
variable {W:Fld → Tree → Bs} {l:List Fld} {k:Nat} {a x1 x2 x3 x4 x5 x6 v:Int} {s:List Fld} {t:Tree} {m:Nat}
theorem Lq (n:Nat):0 < (uv n).length:=by
 rw [uv]; split <;> simp
end
theorem Ir:∀ {l:List Tree} {i:Nat} {x:Tree},l[i]? = some x → x.depth ≤ deep l
 | [],i,x,h=>by simp at h
 | a :: r,0,x,h=>by
  simp only [List.getElem?_cons_zero,Option.some.injEq] at h
  subst h
  exact Nat.le_max_left _ _
 | a :: r,i + 1,x,h=>Nat.le_trans (Ir (l:=r) (i:=i) (by simpa using h)) (Nat.le_max_right _ _)
theorem Is (n:Int) (s:Bs) (b:Bool) (l:List Tree) (u:List (Int × Bs)):(Tree.mk n s b l u).depth = deep l + 1:=by rw [Tree.depth]
theorem V0 {α:Type} {l:List α} {k:Nat} {x:α} (h:l[k]? = some x):l.take (k + 1) = l.take k ++ [x]:=by rw [List.take_add_one,h]; rfl
section
variable {F:Nat → Nat → Prop} {w0 w:World} {tb:Tb} {rs:List Rw}
theorem DY (hW:WOk w0 B5 w tb rs) {k:Nat} {r:Rw} (hk:rs[k]? = some r):∀ g,r.A.map (·.block) = some g → ∀ o,Fp F w0 g o:=by
 intro g hg o
 rcases hW.ownM k r hk g hg with h | h
 ·exact .inr h
 exact (h 0).elim
theorem Cb (hW:WOk w0 B5 w tb rs) {k:Nat} {A:Option Addr} {c e n:Nat} {xs:List Value} {l:List Tree} {css:List (List Value)} (hk:rs[k]? = some ⟨A,c,e,5,n,xs⟩) (hT:Trees w (D4 F w0 w tb rs) xs l css) (hn:n = l.length) (hsm:l.length ≤ 1099511627776) :
  Slots w (Fp F w0) 5 A c l.length (fun i=>css.getD i []) ∧ ∀ (i:Nat) (x:Tree),l[i]? = some x → TreeR w (Fp F w0) (css.getD i []) x :=
 (hT.move (Step.refl w B5) B0 G0).slots (hW.own k _ hk) hn hsm (DY hW hk)
theorem It (hW:WOk w0 B5 w tb rs) {k:Nat} {A:Option Addr} {c e n:Nat} {xs:List Value} {l:List (Int × Bs)} {css:List (List Value)} (hk:rs[k]? = some ⟨A,c,e,2,n,xs⟩) (hT:Tags w (D4 F w0 w tb rs) xs l css) (hn:n = l.length) (hsm:l.length ≤ 1099511627776):TagsR w (Fp F w0) A c l :=
 (hT.move (Step.refl w B5) B0 G0).slots (hW.own k _ hk) hn hsm (DY hW hk)
theorem X9 (hW:WOk w0 B5 w tb rs) {A1 A2 A3:Option Addr} {c1 c2 c3 n2 n3:Nat} {n:Int} {s:Bs} {b:Bool} {l:List Tree} {u:List (Int × Bs)} {xs:Nat → List Value} {m:Nat} (hm:m = s.length) (hS:Octs w (Fp F w0) A1 c1 s) (hn2:n2 = l.length) (hL:Slots w (Fp F w0) 5 A2 c2 l.length xs ∧ ∀ (i:Nat) (x:Tree),l[i]? = some x → TreeR w (Fp F w0) (xs i) x)
  (hn3:n3 = u.length) (hU:TagsR w (Fp F w0) A3 c3 u) {t:Tree} (ht:t = .mk n s b l u):O9 w0 F t (.returned (.agg #[.int .i64 n,.slice A1 m c1,.bool b,.slice A2 n2 c2,.slice A3 n3 c3])) w:=by
 subst hm; subst hn2; subst hn3; subst ht
 exact ⟨_,rfl,TreeR.mk xs hS hL.1 hL.2 hU,hW.step⟩
theorem Lr {G:Nat → Nat → Prop}:∀ b o,G b o → b < w0.heap.size → Fp G w0 b o:=fun _ _ h _=>.inl h
theorem FA (w:World) (F:Nat → Nat → Prop):Slots w F 5 none 0 ([]:List Tree).length (fun _=>[]) ∧ ∀ (i:Nat) (x:Tree),([]:List Tree)[i]? = some x → TreeR w F [] x :=
 ⟨Slots.nil w F 5 _,fun i x h=>by simp at h⟩
end
theorem FB (W:Fld → Tree → Tree) (t:Tree):∀ (l:List Fld) (i:Nat),(R8 W l t i).length = l.length
 | [],i=>rfl
 | f :: r,i=>by rw [R8,List.length_cons,List.length_cons,FB W t r (i + 1)]
theorem Iu (W:Fld → Tree → Tree) (t:Tree):∀ {l:List Fld} {i k:Nat} {f:Fld},l[k]? = some f → (R8 W l t i)[k]? = some (W f (t.at_ (i + k)))
 | [],i,k,f,h=>by simp at h
 | a :: r,i,0,f,h=>by
  simp only [List.getElem?_cons_zero,Option.some.injEq] at h
  subst h; rfl
 | a :: r,i,k + 1,f,h=>by
  rw [R8,List.getElem?_cons_succ,Iu W t (l:=r) (i:=i + 1) (by simpa using h),show i + 1 + k = i + (k + 1) by omega]
theorem Iv {W:Fld → Tree → Tree} {t:Tree} {l:List Fld} {k:Nat} {f:Fld} (h:l[k]? = some f):(R8 W l t 0)[k]? = some (W f (t.at_ k)):=by
 have:=Iu W t (i:=0) h
 rwa [Nat.zero_add] at this
def V1 (u:List (Int × Bs)):List (Int × Bs):=u.map fun x=>(x.1,J6 x.2)
theorem Ls {u:List (Int × Bs)} {k:Nat} {i:Int} {s:Bs} (h:u[k]? = some (i,s)):(V1 u)[k]? = some (i,J6 s):=by
 rw [V1,List.getElem?_map,h]; rfl
theorem FC (u:List (Int × Bs)):(V1 u).length = u.length:=by rw [V1,List.length_map]
section
variable {p:List Fld → Tree → Tree} {k x1 x2 x3 x4 x5 x6 v n:Int} {l:List Fld} {s:Bs} {b null:Bool} {ll:List Tree} {u:List (Int × Bs)}
theorem Iw (h:k = 8 ∨ k = 9):M1 p (.mk k x1 x2 x3 x4 x5 x6 l) null (.mk n s b ll u) = .mk 0 (J6 s) null [] []:=by
 unfold M1
 rw [if_pos (show (Fld.mk k x1 x2 x3 x4 x5 x6 l).kind = 8 ∨ (Fld.mk k x1 x2 x3 x4 x5 x6 l).kind = 9 from h)]; rfl
theorem Lt (h8:k ≠ 8) (h9:k ≠ 9) (h:k = 10) {t:Tree} {n':Int} {s':Bs} {b':Bool} {l':List Tree} {u':List (Int × Bs)} (he:p l t = .mk n' s' b' l' u'):M1 p (.mk k x1 x2 x3 x4 x5 x6 l) null t = .mk n' s' null l' u':=by
 unfold M1
 rw [if_neg (show ¬ ((Fld.mk k x1 x2 x3 x4 x5 x6 l).kind = 8 ∨ (Fld.mk k x1 x2 x3 x4 x5 x6 l).kind = 9) from fun h=>h.elim h8 h9),if_pos (show (Fld.mk k x1 x2 x3 x4 x5 x6 l).kind = 10 from h)]
 show (match p l t with | .mk n s _ l u=>Tree.mk n s null l u) = _
 rw [he]
theorem Lu (h8:k ≠ 8) (h9:k ≠ 9) (h:k ≠ 10):M1 p (.mk k x1 x2 x3 x4 x5 x6 l) null (.mk n s b ll u) = .mk n s false [] []:=by
 unfold M1
 rw [if_neg (show ¬ ((Fld.mk k x1 x2 x3 x4 x5 x6 l).kind = 8 ∨ (Fld.mk k x1 x2 x3 x4 x5 x6 l).kind = 9) from fun h=>h.elim h8 h9),if_neg (show ¬ (Fld.mk k x1 x2 x3 x4 x5 x6 l).kind = 10 from h)]; rfl
theorem Lv {t:Tree} (h:k ≠ 11):P6 p v (.mk k x1 x2 x3 x4 x5 x6 l) t = M1 p (.mk k x1 x2 x3 x4 x5 x6 l) (Fld.nul (.mk k x1 x2 x3 x4 x5 x6 l) v t) t:=by
 unfold P6
 rw [if_neg (show ¬ (Fld.mk k x1 x2 x3 x4 x5 x6 l).kind = 11 from h)]
def I9 (p:List Fld → Tree → Tree) (v:Int) (f:Fld) (ll:List Tree):List Tree:=(E3 ll).map fun x=>M1 p f (f.nul v x) x
theorem Cc (f:Fld):(I9 p v f ll).length = (E3 ll).length:=by rw [I9,List.length_map]
theorem FD {f:Fld} {i:Nat} {x:Tree} (h:(E3 ll)[i]? = some x):(I9 p v f ll)[i]? = some (M1 p f (f.nul v x) x):=by
 rw [I9,List.getElem?_map,h]; rfl
theorem FE (h:k = 11) {c:Bool} (hc:(Fld.nul (.mk k x1 x2 x3 x4 x5 x6 l) v (.mk n s b ll u) || (decide (x4 ≥ 0) && ((((ll.length:Nat):Int)) == 0))) = c):P6 p v (.mk k x1 x2 x3 x4 x5 x6 l) (.mk n s b ll u) = .mk 0 [] c (I9 p v (.mk x6 x1 x2 (-1) (-1) x5 x6 l) ll) []:=by
 unfold P6
 rw [if_pos (show (Fld.mk k x1 x2 x3 x4 x5 x6 l).kind = 11 from h),← hc]
 have e:decide ((Tree.mk n s b ll u).L.length = 0) = (((((ll.length:Nat):Int)) == 0)):=by
  rw [Bool.eq_iff_iff,decide_eq_true_iff,beq_iff_eq]
  show ll.length = 0 ↔ _
  omega
 rw [e]; rfl
end
theorem Ix:∀ {l:List Fld} {f:Fld},plains l → f ∈ l → f.plain
 | [],f,_,h=>by cases h
 | a :: r,f,hp,h=>by
  rcases List.mem_cons.1 h with rfl | h
  ·exact hp.1
  exact Ix (l:=r) hp.2 h
structure Flds (w:World) (F:Nat → Nat → Prop) (xs:List Value) (l:List Fld) (css:List (List Value)):Prop where
 flat:Flat 8 xs css
 len:css.length = l.length
 each:∀ (i:Nat) (c:List Value) (x:Fld),css[i]? = some c → l[i]? = some x → FldR w F c x
theorem Flds.nil (w:World) (F:Nat → Nat → Prop):Flds w F [] [] []:=⟨Flat.nil 8,rfl,fun i c x h=>by simp at h⟩
theorem FldR.eight {w:World} {F:Nat → Nat → Prop} {cs:List Value} {t:Fld} (h:FldR w F cs t):cs.length = 8:=by
 obtain ⟨k,x1,x2,x3,x4,x5,x6,l,A,c,xs,rfl,rfl,_⟩:=h.open_; rfl
theorem FldR.one {w:World} {F:Nat → Nat → Prop} {cs:List Value} {t:Fld} (h:FldR w F cs t):∀ u ∈ cs,u.oneCell' = true:=by
 obtain ⟨k,x1,x2,x3,x4,x5,x6,l,A,c,xs,rfl,rfl,_⟩:=h.open_
 intro v hv
 simp only [List.mem_cons,List.not_mem_nil,or_false] at hv
 rcases hv with rfl | rfl | rfl | rfl | rfl | rfl | rfl | rfl <;> rfl
theorem Flds.snoc {w:World} {F:Nat → Nat → Prop} {xs:List Value} {l:List Fld} {css:List (List Value)} (h:Flds w F xs l css) {c:List Value} {x:Fld} (hx:FldR w F c x):Flds w F (xs ++ c) (l ++ [x]) (css ++ [c]):=by
 refine ⟨h.flat.snoc hx.eight,by simp [h.len],fun i d y hd hy=>?_⟩
 rcases W8 hd with ⟨h1,h2⟩ | ⟨h1,rfl⟩
 ·rcases W8 hy with ⟨_,h3⟩ | ⟨h3,_⟩
  ·exact h.each i d y h2 h3
  have:=h.len; omega
 rcases W8 hy with ⟨h3,_⟩ | ⟨_,rfl⟩
 ·have:=h.len; omega
 exact hx
theorem Flds.slots {w0 w:World} {tb:Tb} {rs:List Rw} {F:Nat → Nat → Prop} (hW:WOk w0 B5 w tb rs) {k e n:Nat} {A:Option Addr} {c:Nat} {xs:List Value} {l:List Fld} {css:List (List Value)} (hk:rs[k]? = some ⟨A,c,e,8,n,xs⟩) (h:Flds w (Fp F w0) xs l css) (hn:n = l.length) (hsm:l.length ≤ 1099511627776) :
  Slots w (Fp F w0) 8 A c l.length (fun i=>css.getD i []) ∧ ∀ (i:Nat) (x:Fld),l[i]? = some x → FldR w (Fp F w0) (css.getD i []) x:=by
 subst hn
 have ho:=hW.own k _ hk
 have h1:∀ u ∈ xs,u.oneCell' = true:=by
  intro v hv
  rw [h.flat.eq] at hv
  obtain ⟨c,hc,hv⟩:=List.mem_flatten.1 hv
  obtain ⟨i,hi,rfl⟩:=List.getElem_of_mem hc
  have hl:=h.len
  exact (h.each i _ _ (List.getElem?_eq_getElem hi) (List.getElem?_eq_getElem (show i < l.length by omega))).one v hv
 refine ⟨?_,fun i x hx=>?_⟩
 ·have hx:=h.flat
  simp only [Rw.v] at ho
  rw [← h.len] at ho ⊢
  exact hx.slots ho h1 (by rw [h.len]; exact hsm) (DY hW hk)
 have hi:i < css.length:=by rw [h.len]; exact (List.getElem?_eq_some_iff.1 hx).1
 have:css.getD i [] = css[i]:=by rw [List.getD_eq_getElem?_getD,List.getElem?_eq_getElem hi]; rfl
 rw [this]
 exact h.each i _ x (List.getElem?_eq_getElem hi) hx
theorem J3 (w:World) (F:Nat → Nat → Prop):Slots w F 8 none 0 ([]:List Fld).length (fun _=>[]) ∧ ∀ (i:Nat) (x:Fld),([]:List Fld)[i]? = some x → FldR w F [] x :=
 ⟨Slots.nil w F 8 _,fun i x h=>by simp at h⟩
def FF (w:World) (F:Nat → Nat → Prop) (l:List Fld) (x:Int):Ending → World → Prop:=fun en w'=>∃ A c,en = .returned (.agg #[.slice A l.length c,.int .i64 x]) ∧ FldsR w' (Fp F w) A c l ∧ Step w w' B5
theorem Iy (y:Int × Bs) (r:List (Int × Bs)) (k:Int):U4 (y :: r) k = if y.1 < k then U4 r k + 1 else 0:=by
 unfold U4
 rw [List.takeWhile_cons]
 by_cases h:y.1 < k
 ·simp [h]
 simp [h]
theorem Iz {least:Int} {y t:Int × Bs} {r:List (Int × Bs)} (h:y.1 < t.1):N2 least (y :: r) t = y :: N2 least r t:=by
 unfold N2
 rw [Iy,if_pos h]
 simp only [List.length_cons,Nat.add_lt_add_iff_right,List.getD_cons_succ,List.take_succ_cons,List.drop_succ_cons,List.cons_append]
 split <;> rfl
theorem IA {least:Int} {y t:Int × Bs} {r:List (Int × Bs)} (h:¬ y.1 < t.1):N2 least (y :: r) t = if t.1 < least ∨ y.1 = t.1 then y :: r else t :: y :: r:=by
 unfold N2
 rw [Iy,if_neg h]
 simp only [List.length_cons,Nat.zero_lt_succ,List.getD_cons_zero,List.take_zero,List.drop_zero,List.nil_append,true_and]
theorem IB {least:Int} {t:Int × Bs}:N2 least [] t = if t.1 < least then [] else [t]:=by
 unfold N2
 simp [U4]
theorem FG {least:Int} {t:Int × Bs}:∀ {out:List (Int × Bs)},∀ x ∈ N2 least out t,x = t ∨ x ∈ out
 | [],x,hx=>by
  rw [IB] at hx
  split at hx
  ·cases hx
  exact .inl (List.mem_singleton.1 hx)
 | y :: r,x,hx=>by
  by_cases h:y.1 < t.1
  ·rw [Iz h] at hx
   rcases List.mem_cons.1 hx with rfl | hx
   ·exact .inr (List.mem_cons_self ..)
   rcases FG x hx with h1 | h1
   ·exact .inl h1
   exact .inr (List.mem_cons_of_mem _ h1)
  rw [IA h] at hx
  split at hx
  ·exact .inr hx
  rcases List.mem_cons.1 hx with rfl | hx
  ·exact .inl rfl
  exact .inr hx
theorem IC {least:Int} {t:Int × Bs}:∀ {out:List (Int × Bs)},P7 out → P7 (N2 least out t)
 | [],_=>by
  rw [IB]
  split
  ·exact List.Pairwise.nil
  exact List.pairwise_singleton _ _
 | y :: r,h=>by
  have h1:=@List.rel_of_pairwise_cons _ _ _ _ h
  have h2:=List.Pairwise.of_cons h
  by_cases hlt:y.1 < t.1
  ·rw [Iz hlt]
   refine List.pairwise_cons.2 ⟨fun z hz=>?_,IC h2⟩
   rcases FG z hz with rfl | hz
   ·exact hlt
   exact h1 hz
  rw [IA hlt]
  split
  ·exact h
  rename_i hn
  refine List.pairwise_cons.2 ⟨fun z hz=>?_,h⟩
  rcases List.mem_cons.1 hz with rfl | hz
  ·omega
  have:=h1 hz; omega
theorem ID {least:Int}:∀ {l out:List (Int × Bs)},P7 out → P7 (l.foldl (N2 least) out)
 | [],_,h=>h
 | x :: r,_,h=>ID (l:=r) (IC h)
theorem IE {least:Int}:∀ {l out:List (Int × Bs)},(l.foldl (N2 least) out).length ≤ out.length + l.length
 | [],_=>Nat.le_refl _
 | x :: r,out=>by
  have h1:=IE (least:=least) (l:=r) (out:=N2 least out x)
  have h2:=Lk least out x
  rw [List.foldl_cons,List.length_cons]
  omega
theorem IF {least:Int}:∀ {l out:List (Int × Bs)},∀ x ∈ l.foldl (N2 least) out,x ∈ out ∨ x ∈ l
 | [],_,x,hx=>.inl hx
 | y :: r,out,x,hx=>by
  rcases IF (l:=r) x hx with h | h
  ·rcases FG x h with rfl | h
   ·exact .inr (List.mem_cons_self ..)
   exact .inl h
  exact .inr (List.mem_cons_of_mem _ h)
theorem Lw (l:List Fld) (u:List (Int × Bs)):P7 (I6 l u):=ID List.Pairwise.nil
theorem Lx (l:List Fld) (u:List (Int × Bs)):(I6 l u).length ≤ 32767:=by
 have h:=IE (least:=E4 l) (l:=u.take 32767) (out:=[])
 rw [List.length_take,List.length_nil] at h
 unfold I6
 omega
theorem Ly {l:List Fld} {u:List (Int × Bs)}:∀ x ∈ I6 l u,x ∈ u:=fun x hx=>by
 rcases IF x hx with h | h
 ·cases h
 exact List.mem_of_mem_take h
theorem Lz {u:List (Int × Bs)} (h:P7 u):P7 (V1 u):=List.pairwise_map.2 h
theorem IG (v:Int) (d:Nat) (l:List Fld) (t:Tree):(C2 v d l t).U = V1 (I6 l t.U):=by cases d <;> rfl
theorem FH {v:Int} {d:Nat} {l:List Fld} {t:Tree} {i:Nat} {f:Fld} (h:l[i]? = some f):(C2 v (d + 1) l t).at_ i = P6 (C2 v d) v f (t.at_ i):=by
 have h1:=Iv (W:=P6 (C2 v d) v) (t:=t) h
 have e:(C2 v (d + 1) l t).L = R8 (P6 (C2 v d) v) l t 0:=rfl
 rw [Tree.at_,e,List.getD_eq_getElem?_getD,h1]
 rfl
theorem DZ {v:Int} (h0:0 ≤ v) (h1:v < 32768):IntKind.i16.wrap v = v:=by
 have:IntKind.i16.wrap v = (v + 32768) % 65536 - 32768:=by simp [IntKind.wrap,IntKind.signed,IntKind.bits]; omega
 omega
theorem IH {x m:Int} (h0:0 ≤ x) (h1:x ≤ 255) (hm:0 < m) (hm':m ≤ 32768):0 ≤ Int.tmod x m ∧ Int.tmod x m < 32768:=by
 rw [Int.tmod_eq_emod_of_nonneg h0]
 have g1:=Int.emod_nonneg x (show m ≠ 0 by omega)
 have g2:=Int.emod_lt_of_pos x hm
 omega
end Go.Proofs.YtipblegipibplaaGreatDoor.ME
namespace Go.Proofs.YtipblegipibplaaGreatDoor.ME
open Go
open Go.Proofs.YtipblegipibplaaGreatDoor.Rows (uptoBulk uptoBulkAll)
set_option linter.unusedVariables false
set_option linter.unusedSimpArgs false
theorem LA {H:Type} (d:DataW H):1 ≤ uptoBulk d:=by cases d <;> first | (unfold uptoBulk; omega) | (rename_i l; cases l <;> (unfold uptoBulk; omega))
theorem FI {H:Type}:∀ (l:List (DataW H)),l.length ≤ uptoBulkAll l
 | []=>Nat.zero_le _
 | d :: r=>by
  have h1:=LA d
  have h2:=FI r
  unfold uptoBulkAll
  rw [List.length_cons]; omega
theorem FJ {H:Type}:∀ {l:List (DataW H)} {d:DataW H},d ∈ l → uptoBulk d ≤ uptoBulkAll l
 | [],d,h=>by cases h
 | a :: r,d,h=>by
  unfold uptoBulkAll
  rcases List.mem_cons.1 h with rfl | h
  ·omega
  have:=FJ h; omega
theorem II {α β:Type} {f:α → Option β}:∀ {l:List α} {r:List β},l.mapM f = some r → r.length = l.length ∧ ∀ (i:Nat) (a:α),l[i]? = some a → ∃ b,f a = some b ∧ r[i]? = some b
 | [],r,h=>by
  simp only [List.mapM_nil,Option.pure_def,Option.some.injEq] at h
  subst h
  exact ⟨rfl,fun i a h=>by simp at h⟩
 | x :: l,r,h=>by
  rw [List.mapM_cons] at h
  cases hx:f x with
  | none=>rw [hx] at h; cases h
  | some y =>
   rw [hx] at h
   cases hl:l.mapM f with
   | none=>rw [hl] at h; cases h
   | some ys =>
    rw [hl] at h
    obtain rfl:y :: ys = r:=Option.some.inj h
    obtain ⟨h1,h2⟩:=II hl
    refine ⟨by simp [h1],fun i a ha=>?_⟩
    cases i with
    | zero =>
     simp only [List.getElem?_cons_zero,Option.some.injEq] at ha
     subst ha
     exact ⟨y,hx,rfl⟩
    | succ i=>simpa using h2 i a (by simpa using ha)
theorem IJ {w:World} {a:Addr} {n:Nat} {cs:List Value} (h:w.cells? 0 a n = some cs):cs.length = n ∧ ∀ (j:Nat) (v:Value),cs[j]? = some v → w.cell? (a.add j) = some v:=by
 unfold World.cells? at h
 rw [if_pos (Nat.zero_le _)] at h
 obtain ⟨h1,h2⟩:=II h
 rw [List.length_range] at h1
 refine ⟨h1,fun j v hj=>?_⟩
 have hjn:j < n:=by rw [← h1]; exact (List.getElem?_eq_some_iff.1 hj).1
 obtain ⟨b,hb,hc⟩:=h2 j j (by rw [List.getElem?_range hjn])
 rw [hj] at hc
 rw [hb,Option.some.inj hc]
theorem LB {w:World} {a:Addr} {v:Value} (h:w.cell? a = some v):a.spot = none:=by
 unfold World.cell? at h
 split at h
 ·split at h
  ·cases h
  rename_i hs; simpa using hs
 cases h
theorem LC {w:World} {size n c:Nat} {ad:Addr} {cs:Nat → List Value} (hle:n ≤ c) (hsm:n ≤ 1099511627776) (hsz:0 < size) (h:∀ i,i < n → (cs i).length = size ∧ ∀ (j:Nat) (v:Value),(cs i)[j]? = some v → w.cell? ((ad.add (i * size)).add j) = some v):Slots w (fun _ _=>True) size (some ad) c n cs:=by
 refine ⟨hle,hsm,(fun hA=>by cases hA),fun ad' hA hn=>?_⟩
 obtain rfl:=Option.some.inj hA
 have h0:=h 0 hn
 have hp:ad.spot = none:=by
  have h1:=LB (h0.2 0 _ (List.getElem?_eq_getElem (by omega)))
  unfold Addr.add at h1
  split at h1
  ·split at h1 <;> simp_all
  simp_all
 obtain ⟨b,o,sp⟩:=ad
 simp only at hp
 subst hp
 refine ⟨b,o,rfl,fun i hi=>⟨(h i hi).1,fun j v hj=>⟨trivial,?_⟩⟩⟩
 have:=(h i hi).2 j v hj
 rwa [Q2,Q2] at this
theorem IK {α:Type} {R:Nat → α → Prop}:∀ (n:Nat),(∀ i,i < n → ∃ x,R i x) → ∃ l:List α,l.length = n ∧ ∀ i x,l[i]? = some x → R i x
 | 0,_=>⟨[],rfl,fun i x h=>by simp at h⟩
 | n + 1,h=>by
  obtain ⟨l,h1,h2⟩:=IK n fun i hi=>h i (by omega)
  obtain ⟨x,hx⟩:=h n (by omega)
  refine ⟨l ++ [x],by simp [h1],fun i y hy=>?_⟩
  rcases L9 hy with hy | ⟨rfl,rfl⟩
  ·exact h2 i y hy
  rw [h1]; exact hx
theorem IL {α:Type} {w:World} {a:Addr} {len cap size:Nat} (R:Nat → List Value → α → Prop) (hle:len ≤ cap) (hsm:len ≤ 1099511627776) (hsz:0 < size)
  (hex:∀ i,i < len → ∃ ci:List Value,ci.length = size ∧ (∀ (j:Nat) (v:Value),ci[j]? = some v → w.cell? ((a.add (i * size)).add j) = some v) ∧ ∃ x,R i ci x) :
  ∃ l:List α,l.length = len ∧ ∃ xs:Nat → List Value,Slots w (fun _ _=>True) size (some a) cap len xs ∧ ∀ i x,l[i]? = some x → R i (xs i) x:=by
 obtain ⟨l,h1,h2⟩:=IK (R:=fun i (z:List Value × α)=>z.1.length = size ∧ (∀ (j:Nat) (v:Value),z.1[j]? = some v → w.cell? ((a.add (i * size)).add j) = some v) ∧ R i z.1 z.2) len (fun i hi=>by
  obtain ⟨ci,g1,g2,x,g3⟩:=hex i hi
  exact ⟨(ci,x),g1,g2,g3⟩)
 have hget:∀ i,i < len → ∃ z,l[i]? = some z:=fun i hi=>⟨_,List.getElem?_eq_getElem (by omega)⟩
 have hxs:∀ i z,l[i]? = some z → ((l.map (·.1)).getD i []) = z.1:=fun i z hz=>by
  rw [List.getD_eq_getElem?_getD,List.getElem?_map,hz]; rfl
 refine ⟨l.map (·.2),by simp [h1],fun i=>(l.map (·.1)).getD i [],LC hle hsm hsz (fun i hi=>?_),fun i x hx=>?_⟩
 ·obtain ⟨z,hz⟩:=hget i hi
  rw [hxs i z hz]
  exact ⟨(h2 i z hz).1,(h2 i z hz).2.1⟩
 rw [List.getElem?_map] at hx
 cases hz:l[i]? with
 | none=>rw [hz] at hx; cases hx
 | some z =>
  rw [hz] at hx
  simp only [Option.map_some,Option.some.injEq] at hx
  subst hx
  dsimp only
  rw [hxs i z hz]
  exact (h2 i z hz).2.2
def Bv (P:Program) (t:TypeId):Option (List (TypeId × Nat)) :=
 match P.underlying t with
 | some (.struct fs)=>some (fs.toList.map fun f=>(f.type,f.offset))
 | _=>none
theorem FK {P:Program} {t:TypeId} {l:List (TypeId × Nat)} (h:Bv P t = some l):∃ fs:Array Field,P.underlying t = some (.struct fs) ∧ fs.size = l.length ∧ ∀ (i:Nat) ty off,l[i]? = some (ty,off) → ∃ f,fs[i]? = some f ∧ f.type = ty ∧ f.offset = off:=by
 unfold Bv at h
 split at h
 ·rename_i fs hfs
  simp only [Option.some.injEq] at h
  subst h
  refine ⟨fs,hfs,by simp,fun i ty off hi=>?_⟩
  rw [List.getElem?_map] at hi
  cases hf:fs.toList[i]? with
  | none=>rw [hf] at hi; cases hi
  | some f =>
   rw [hf] at hi
   simp only [Option.map_some,Option.some.injEq,Prod.mk.injEq] at hi
   exact ⟨f,by simpa using hf,hi.1,hi.2⟩
 cases h
structure TreeTys (P:Program) (T TL TU TG TB TI TO TK T8:TypeId):Prop where
 tree:Bv P T = some [(TI,0),(TB,1),(TO,2),(TL,3),(TU,4)]
 tag:Bv P TG = some [(TK,0),(TB,1)]
 trees:P.underlying TL = some (.slice T)
 tags:P.underlying TU = some (.slice TG)
 bytes:P.underlying TB = some (.slice T8)
 int:P.underlying TI = some (.int .i64)
 bool:P.underlying TO = some .bool
 key:P.underlying TK = some (.int .u32)
 byte:P.underlying T8 = some (.int .u8)
 cells:(P.cellsOf T,P.cellsOf TL,P.cellsOf TU,P.cellsOf TG,P.cellsOf TB,P.cellsOf TI,P.cellsOf TO,P.cellsOf TK,P.cellsOf T8) = (5,1,1,2,1,1,1,1,1)
section
variable {H:Type} {enc:TypeId × Value → H} {P:Program} {W:World} {sp:Nat → Bool} {hd:Bool} {T TL TU TG TB TI TO TK T8:TypeId}
theorem IM {α β:Type} {x:Option α} {f:α → Option β} {l:List β} {i:Nat} (h:x.bind f = l[i]?) (hi:i < l.length):∃ a b,x = some a ∧ f a = some b ∧ l[i]? = some b:=by
 rw [List.getElem?_eq_getElem hi] at h
 obtain ⟨a,ha,hb⟩:=Option.bind_eq_some_iff.1 h
 exact ⟨a,_,ha,hb,List.getElem?_eq_getElem hi⟩
theorem IN {elems spare:List (DataW H)} {n:Nat} (h:uptoBulk (.slice elems spare) ≤ n):elems.length ≤ n ∧ ∀ d ∈ elems,uptoBulk d ≤ n:=by
 unfold uptoBulk at h
 have h1:=FI elems
 exact ⟨by omega,fun d hd=>by have:=FJ hd; omega⟩
theorem FL {parts:List (DataW H)} {n:Nat} (h:uptoBulk (.agg parts) ≤ n):∀ d ∈ parts,uptoBulk d ≤ n:=by
 unfold uptoBulk at h
 exact fun d hd=>by have:=FJ hd; omega
theorem FM {fuel:Nat} {cs:List Value} {x:DataW H × List MemPlace} (hT:TreeTys P T TL TU TG TB TI TO TK T8) (h:DataW.trod enc P W 0 sp hd fuel TB cs = some x) (hb:uptoBulk x.1 ≤ 1048576) :
  ∃ A c s,cs = [.slice A (s:Bs).length c] ∧ Octs W (fun _ _=>True) A c s ∧ s.length ≤ uptoBulk x.1:=by
 have hc:=hT.cells
 simp only [Prod.mk.injEq] at hc
 rcases DataW.trod_slice hT.bytes h with ⟨rfl,rfl⟩ | ⟨a,len,cap,elems,rest,n,_,rfl,rfl,_,hle,_,hlen,he,_⟩
 ·exact ⟨none,0,[],rfl,Octs.nil _ _,Nat.zero_le _⟩
 have hlb:=FI (elems.map (·.1))
 rw [List.length_map] at hlb
 have hbl:=IN hb
 simp only [List.length_map] at hbl
 obtain ⟨l,hl,xs,h1,h2⟩:=IL (w:=W) (a:=a) (len:=len) (cap:=cap) (size:=1) (fun _ ci (q:UInt8)=>ci = [Z3 q]) hle (by omega) (by omega) (fun i hi=>by
  obtain ⟨ci,y,g1,g2,g3⟩:=IM (he i hi) (by omega)
  obtain ⟨g4,g5⟩:=IJ g1
  rw [hc.2.2.2.2.2.2.2.2] at g4 g5
  refine ⟨ci,g4,g5,?_⟩
  obtain ⟨v,rfl,_,hw⟩:=DataW.trod_int hT.byte g2
  have hx:0 ≤ v ∧ v ≤ 255:=by simpa [Lit.wf,IntKind.min,IntKind.max,IntKind.signed,IntKind.bits] using hw
  refine ⟨UInt8.ofNat v.toNat,?_⟩
  unfold Z3
  rw [UInt8.toNat_ofNat']
  congr 2
  omega)
 refine ⟨some a,cap,l,by rw [hl],?_,by rw [hl,← hlen]; dsimp only; unfold uptoBulk; omega⟩
 unfold Octs
 rw [hl]
 refine ⟨h1.le,h1.small,h1.none_,fun ad hA hn=>?_⟩
 obtain ⟨b,o,e1,e2⟩:=h1.some_ ad hA hn
 refine ⟨b,o,e1,fun i hi=>?_⟩
 have hli:l[i]? = some (l.getD i 0):=by
  rw [List.getD_eq_getElem?_getD,List.getElem?_eq_getElem (by omega)]; rfl
 have:=h2 i _ hli
 rw [← this]
 exact e2 i hi
theorem Z6 {n:Nat} {fs:Array Field} {xs:List (DataW H × List MemPlace)} {cs:List Value} {l:List (TypeId × Nat)} (hx:∀ (i:Nat) (f:Field),fs[i]? = some f → DataW.trod enc P W 0 sp hd n f.type ((cs.drop f.offset).take (P.cellsOf f.type)) = xs[i]?)
  (hl:∀ (i:Nat) ty off,l[i]? = some (ty,off) → ∃ f,fs[i]? = some f ∧ f.type = ty ∧ f.offset = off) {i:Nat} {ty off:Nat} (hi:l[i]? = some (ty,off)) (h1:P.cellsOf ty = 1) (hxl:i < xs.length) {c:Value} (hc:cs[off]? = some c) :
  ∃ y,xs[i]? = some y ∧ DataW.trod enc P W 0 sp hd n ty [c] = some y:=by
 obtain ⟨f,hf,rfl,rfl⟩:=hl i _ _ hi
 have:=hx i f hf
 rw [h1] at this
 refine ⟨xs[i],List.getElem?_eq_getElem hxl,?_⟩
 rw [List.getElem?_eq_getElem hxl] at this
 have e:(cs.drop f.offset).take 1 = [c]:=by
  rw [List.take_one,List.head?_drop,hc]; rfl
 rw [e] at this
 exact this
end
section
variable {H:Type} {enc:TypeId × Value → H} {P:Program}
open Go.ChangeShapes Go.WideShapes Go.ChangeAt Go.RowKit
theorem Step.same {W W':World} (h:Step W W' B5) {b:Nat} (hb:b < W.heap.size):W'.heap[b]? = W.heap[b]?:=(h.keeps b hb).1 fun _ hn=>hn
theorem Step.sameAt {W W':World} (h:Step W W' B5) {p:MemPlace} (hp:p.block < W.heap.size):W.sameAt W' p:=by
 cases p with
 | cell b o=>exact World.cell_of_heap (h.same hp)
 | map b=>exact h.same hp
theorem Step.keptBut {W W':World} (h:Step W W' B5) (may:MemPlace → Prop):W.keptBut W' may:=by
 refine ⟨h.os,h.output,fun i hi=>?_⟩
 rw [h.same hi]
 cases hx:W.heap[i]? with
 | none=>rfl
 | some x =>
  cases x with
  | cells c t f=>exact ⟨rfl,rfl,rfl,fun _ _=>rfl⟩
  | map es clock=>exact .inr ⟨rfl,rfl⟩
  | _=>rfl
theorem IP (hl:laidOutB P = true) {W W':World} (hs:Step W W' B5):∀ {ts:List TypeId} {vs:List Value} {ds:List (DataW H)} {ps:List MemPlace},(∀ t ∈ ts,P.readableRec t = true ∧ t < P.types.size) → DataW.TrodAll enc P W 0 (fun _=>true) true ts vs ds ps → (∀ p ∈ ps,p.block < W.heap.size) →
  DataW.TrodAll enc P W' 0 (fun b=>decide (b < W.heap.size)) true ts vs ds ps
 | [],vs,ds,ps,_,h,_=>by
  obtain ⟨rfl,rfl,rfl⟩:=trodAll_nil h
  exact rfl
 | t :: ts,vs,ds,ps,ht,h,hp=>by
  obtain ⟨v,vs',d,ds',p,q,rfl,rfl,rfl,h1,h2⟩:=trodAll_cons h
  have h0:=ht t (List.mem_cons_self ..)
  refine ⟨p,q,?_,IP hl hs (fun t' h'=>ht t' (List.mem_cons_of_mem _ h')) h2 (fun x hx=>hp x (List.mem_append_right _ hx)),rfl⟩
  exact Go.WideElems.Trod_stays hl h0.1 h0.2 h1 (fun x hx=>hs.sameAt (hp x (List.mem_append_left _ hx))) (fun x hx=>decide_eq_true (hp x (List.mem_append_left _ hx)))
theorem LD {f:Func} {s:ChangeSpec} {W W':World} {args:Array Value} {v:Value} {ds gs:List (DataW H)} {before:List MemPlace} {handsOn:Bool}
  (hW:DataW.Whole enc P f.params.toList s.vars false W args.toList ds gs before) (hs:Step W W' B5) (hl:laidOutB P = true) (hpar:∀ t ∈ f.params.toList,P.readableRec t = true ∧ t < P.types.size)
  (hv:s.vars = []) (hargs:(s.fn H (ds ++ gs)).args = ds) (hvars:(s.fn H (ds ++ gs)).vars = [])
  (hres:∀ (b:Nat) (sp:Nat → Bool) (hd:Bool),DataW.TrodAll enc P W' b sp hd f.resultTypes.toList (v.resultList f.resultTypes.size) (s.fn H (ds ++ gs)).results []) :
  s.post enc P f false true handsOn false W args v W':=by
 have hlt:∀ p ∈ before,p.block < W.heap.size:=fun p hp=>hW.lt p hp
 obtain ⟨p,q,hA,hV,rfl,_,_⟩:=id hW
 rw [hv] at hV
 obtain ⟨rfl,rfl⟩:=trodVars_none hV
 refine ⟨ds,[],_,[],p,[],hW,hres _ _ _,?_,?_,hs.keptBut _,fun h=>by cases h⟩
 ·rw [hargs]
  exact IP hl hs hpar hA (fun x hx=>hlt x (List.mem_append_left _ hx))
 rw [hvars,hv]; exact rfl
end
end Go.Proofs.YtipblegipibplaaGreatDoor.ME
namespace Go.Proofs.YtipblegipibplaaGreatDoor.ME
open Go
open Go.RowKit
set_option linter.unusedVariables false
set_option linter.unusedSimpArgs false
set_option maxRecDepth 20000
theorem N8 {P:Program} {ops:Array Oper} {Q:Exit → Act → World → Prop} {a:Act} {w:World} {T:World → Prop} {c i j fuel:Nat} {listed:Array Bool} (hr:Region.ready .any ops listed = [i,j]) (h:wpOp P ops Q i (fun a' w'=>(i ≠ c → T w') ∧ I5 P ops Q T c fuel (listed.setIfInBounds i true) a' w') a w)
  (h':wpOp P ops Q j (fun a' w'=>(j ≠ c → T w') ∧ I5 P ops Q T c fuel (listed.setIfInBounds j true) a' w') a w):I5 P ops Q T c (fuel + 1) listed a w:=by
 refine ⟨fun h0=>(by rw [hr] at h0; cases h0),fun q hq=>?_⟩
 rw [hr] at hq
 simp only [List.mem_cons,List.not_mem_nil,or_false] at hq
 rcases hq with rfl | rfl
 ·exact h
 exact h'
def bs (s:Bs):ByteArray:=⟨s.toArray⟩
theorem Z7 (s:Bs):sb (bs s) = s:=by simp [sb,bs]
theorem M6 (s:Bs):(bs s).size = s.length:=by simp [bs,ByteArray.size]
def B9 (t:Tree):Bs:=if t.null then [] else t.S
section
variable {P:Program} {n:Nat} {w0:World} {A0:Option Addr} {e8 d:Nat} {tb:Tb} {env e1 env':C8} {c c1 c2:Code} {x x1 x2 y:Bs}
theorem T6 {o:Operand} {b:Bool} (hb:∀ A m cp,E8 ((d,.v (.slice A m cp)) :: env) o = some (.v (.bool b))) (h1:b = true → Ch P n w0 A0 e8 d tb env env' c1 x1) (h2:b = false → Ch P n w0 A0 e8 d tb env env' c2 x2) :
  Ch P n w0 A0 e8 d tb env env' (.cond o c1 c2) (if b = true then x1 else x2) :=
 Hy hb (fun h=>DK (h1 h) (by rw [if_pos h])) (fun h=>DK (h2 h) (by rw [if_neg (by rw [h]; decide)]))
end
section
variable {P:Program} {ops:Array Oper} {Q:Exit → Act → World → Prop} {n:Nat} {tb:Tb} {env:C8} {rs:List Rw} {w0:World} {M:Nat → Nat → Prop} {a:Act} {w:World}
def Cd (tb:Tb) (env:C8) (ops:Array Oper) (n i:Nat):Option (TypeId × TypeId × Value × Nat) :=
 match F7 env ops n i with
 | some (.convert src dst x,d)=>match E8 env x with
  | some (.v v)=>some (src,dst,v,d)
  | _=>none
 | _=>none
theorem V2 {i d:Nat} {src dst e c:Nat} {A:Option Addr} {s:Bs} {F:Nat → Nat → Prop} {N:Act → World → Prop} (hE:EnvOk n tb env a) (h:Cd tb env ops n i = some (src,dst,.slice A s.length c,d)) (hs:P.underlying src = some (.slice e)) (he:P.underlying e = some (.int .u8)) (hd:P.underlying dst = some .string)
  (ho:Octs w F A c s) (K:∀ a',EnvOk n tb ((d,.v (.string (bs s))) :: env) a' → N a' w):wpOp P ops Q i N a w:=by
 unfold Cd at h
 split at h
 ·rename_i src' dst' x d' hop
  split at h
  ·rename_i v hx
   simp only [Option.some.injEq,Prod.mk.injEq] at h
   obtain ⟨rfl,rfl,rfl,rfl⟩:=h
   have hdn:=(K8 hE hop).choose_spec.2.2.2.1
   have hrun:(convert src' dst' (.slice A s.length c)).run P w = .ok (.string (bs s)) w:=by
    have hsrc:=ho.src
    cases A with
    | none =>
     have h0:s = []:=List.eq_nil_of_length_eq_zero (ho.none_ rfl).1
     subst h0
     exact run_convert_bytes_nil w src' e hs he _ _ dst' hd
    | some ad =>
     have hl:(loadCells ad s.length).run P w = .ok ((s.map fun b=>((b.toNat:Nat):Int)).map (Value.int .u8)).toArray w:=by
      have:=run_loadCells_list (P:=P) w ad (bc s) (fun j v hj=>hsrc.cells ad rfl j v hj)
      rw [show (bc s).length = s.length from by simp [bc]] at this
      rw [this]
      simp [bc]
     rw [run_convert_bytes_string w src' dst' e _ s.length c hs he hd,run_bytesToString w _ s.length c _ hl,foldl_push_bytes]
     congr 2
     simp only [bs,ByteArray.empty,ByteArray.emptyWithCapacity]
     have e3:(s.map fun b=>((b.toNat:Nat):Int)).map (fun n=>UInt8.ofNat n.toNat) = s:=by
      rw [List.map_map]
      conv=>rhs; rw [← List.map_id s]
      exact List.map_congr_left fun b _=>by simp
     rw [e3]
     simp
     rfl
   refine N0 hE hop (v:=.string (bs s)) (w':=w) ?_ (K _ (hE.put hdn (.v _) trivial))
   intro o ho'
   unfold execOp
   rw [ho']
   simp only [(F4 hE hx).1,SV.val,Sem.run_bind,hrun,Result.andThen_ok,Sem.run_pure]
  cases h
 cases h
theorem LF {i d k:Nat} {t e:TypeId} {bytes g c cs:Nat} {As:Option Addr} {s:Bs} {F:Nat → Nat → Prop} {N:Act → World → Prop} (hW:WOk w0 M w tb rs) (hE:EnvOk n tb env a)
  (h:M4 tb env ops n i = some (t,t,.slice (some ⟨g,0,none⟩) 0 c,.slice As s.length cs,d)) (ht:L4 P t = some (e,1,bytes)) (hk:rs[k]? = some ⟨some ⟨g,0,none⟩,c,e,1,0,[]⟩)
  (hs:Octs w F As cs s) (hb:(0 + s.length) * bytes ≤ 140737488355328)
  (K:∀ A' c' a' w',A' ≠ none → Fr w tb rs w' tb (rs.set k (B6 A' c' e s)) → WOk w0 M w' tb (rs.set k (B6 A' c' e s)) →
   EnvOk n tb ((d,.v (.slice A' s.length c')) :: env) a' → N a' w'):wpOp P ops Q i N a w:=by
 by_cases h0:s.length = 0
 ·have hs0:s = []:=List.eq_nil_of_length_eq_zero h0
  subst hs0
  obtain ⟨ht',inf,z,hi,hz,hzs,hs1,rfl,hsz,hbp⟩:=T3 ht
  obtain ⟨op,ho,hd,hrun⟩:=DD (P:=P) (w:=w) hE h
  have hown:=hW.own k _ hk
  have key:∀ ty,(Builtin.append_ #[t,t] ty #[.slice (some ⟨g,0,none⟩) 0 c,.slice As 0 cs]).run P w = .ok (.slice (some ⟨g,0,none⟩) 0 c) w:=by
   intro ty
   cases As with
   | none =>
    have hc:=hs.cap rfl
    subst hc
    have hown':w.ownsRow 0 e inf.size (.slice (some ⟨g,0,none⟩) 0 c) 0 []:=by rw [hs1]; exact hown
    exact run_append_owned_none (P:=P) (w:=w) 0 t ty e inf inf.size ht' hi _ 0 [] hown'
   | some ad =>
    rcases hown.2 with ⟨hv,_⟩ | ⟨g',cap,cur,hv,_,hg,hnc,_,hcs,htake⟩
    ·cases hv
    simp only [Rw.v,Value.slice.injEq,Option.some.injEq,Addr.mk.injEq,true_and,and_true] at hv
    obtain ⟨rfl,rfl⟩:=hv
    have hr':=run_append_room (P:=P) w t ty e inf ht' hi g 0 c cur hg ad 0 cs [] (by simp) (fun j u hu=>by simp at hu) (fun u hu=>by cases hu) (by omega) (by simp)
    rw [hr']
    have hid:w.setRow g (cur.toList.take (0 * inf.size) ++ ([]:List Value) ++ cur.toList.drop (0 * inf.size + ([]:List Value).length)).toArray = w:=by
     simp only [Nat.zero_mul,List.take_zero,List.nil_append,List.length_nil,Nat.add_zero,List.drop_zero,Array.toArray_toList]
     exact setRow_self w g cur _ _ hg
    simpa using hid
  refine N0 hE ho (v:=.slice (some ⟨g,0,none⟩) 0 c) (w':=w) (fun o hop=>hrun o _ _ hop (key o.type)) ?_
  have hset:rs.set k (B6 (some ⟨g,0,none⟩) c e []) = rs:=by
   apply List.ext_getElem?
   intro j
   rw [List.getElem?_set]
   split
   ·rename_i hj
    subst hj
    rw [hk,if_pos (List.getElem?_eq_some_iff.1 hk).1]
    rfl
   rfl
  refine K (some ⟨g,0,none⟩) c _ w (fun h=>by cases h) ?_ ?_ (hE.put hd (.v _) trivial)
  ·rw [hset]; exact Fr.refl _ _ _
  rw [hset]; exact hW
 refine I7 hW hE h ht hk hs.src hs.cap hb fun A' c' a' w' hF hW' hE'=>?_
 have er:(⟨A',c',e,1,0 + s.length,[] ++ bc s⟩:Rw) = B6 A' c' e s:=by rw [List.nil_append,Nat.zero_add]
 rw [er] at hF hW'
 rw [Nat.zero_add] at hE'
 have hlt:k < rs.length:=(List.getElem?_eq_some_iff.1 hk).1
 refine K A' c' a' w' (fun e2=>?_) hF hW' hE'
 subst e2
 have:=hW'.own k (B6 none c' e s) (by rw [List.getElem?_set,if_pos rfl,if_pos hlt])
 rcases this.2 with ⟨_,hn⟩ | ⟨_,_,_,hv,_⟩
 ·exact h0 hn
 cases hv
end
theorem IQ {v:Int} {d:Nat} {l:List Fld} {t:Tree} {i:Nat} {k x1 x2 x3 x4 x5 x6:Int} {s:List Fld} (h:l[i]? = some (.mk k x1 x2 x3 x4 x5 x6 s)) (hk:k = 8 ∨ k = 9) :
  B9 ((C2 v (d + 1) l t).at_ i) = (if Fld.nul (.mk k x1 x2 x3 x4 x5 x6 s) v (t.at_ i) = true then [] else J6 (t.at_ i).S) ∧ ((C2 v (d + 1) l t).at_ i).null = Fld.nul (.mk k x1 x2 x3 x4 x5 x6 s) v (t.at_ i):=by
 rw [FH h]
 have e1:k ≠ 11:=by omega
 have e:P6 (C2 v d) v (.mk k x1 x2 x3 x4 x5 x6 s) (t.at_ i) = .mk 0 (J6 (t.at_ i).S) (Fld.nul (.mk k x1 x2 x3 x4 x5 x6 s) v (t.at_ i)) [] []:=by
  simp [P6,M1,Fld.kind,e1,hk]
 rw [e]
 exact ⟨rfl,rfl⟩
section
variable {P:Program} {n:Nat} {w0:World} {A0:Option Addr} {e8 d:Nat} {tb:Tb} {env e1 env':C8} {c c1 c2:Code} {x x1 x2 y:Bs}
def FN (P:Program) (ops:Array Oper) (n:Nat) (tb:Tb) (i:Nat) (keys:List Nat) (env:C8) (bb oo:Nat) (cs:List Value):Option ((TypeId × Option Addr × Nat × Int) × C8) :=
 match G8 P ops n tb (List.range i) env with
 | some e=>match Q3 tb e ops n i with
  | some (t,A,m,q,dd)=>match I3 P ops n (tb ++ [⟨bb,oo,cs,false⟩]) (upto (i + 1) ops.size) keys ((dd,.p tb.length 0) :: e) with
   | some e'=>some ((t,A,m,q),e')
   | none=>none
  | none=>none
 | none=>none
theorem LG {ops:Array Oper} {i:Nat} {keys:List Nat} {bb oo:Nat} {cs:List Value} {t:TypeId} {A:Option Addr} {m:Nat} {q:Int} (h:FN P ops n tb i keys env bb oo cs = some ((t,A,m,q),env')) :
  ∃ e dd,G8 P ops n tb (List.range i) env = some e ∧ Q3 tb e ops n i = some (t,A,m,q,dd) ∧ I3 P ops n (tb ++ [⟨bb,oo,cs,false⟩]) (upto (i + 1) ops.size) keys ((dd,.p tb.length 0) :: e) = some env':=by
 unfold FN at h
 split at h
 ·rename_i e he
  split at h
  ·rename_i t' A' m' q' dd ht
   split at h
   ·rename_i e' he'
    simp only [Option.some.injEq,Prod.mk.injEq] at h
    obtain ⟨⟨rfl,rfl,rfl,rfl⟩,rfl⟩:=h
    exact ⟨e,dd,he,ht,he'⟩
   cases h
  cases h
 cases h
theorem FO {id:Nat} {ops:Array Oper} {F:Nat → Nat → Prop} (i:Nat) (keys:List Nat) {t e:TypeId} {size bytes len j cp':Nat} {A:Option Addr} {cs:Nat → List Value}
  (h:∀ bb oo B m cp,FN P ops n tb i (d :: keys) ((d,.v (.slice B m cp)) :: env) bb oo (cs j) = some ((t,A,len,((j:Nat):Int)),(d,.v (.slice B m cp)) :: e1))
  (hi:Nat.blt i ops.size = true) (ht:L4 P t = some (e,size,bytes)) (hs:Slots w0 F size A cp' len cs) (hj:j < len) (hF:∀ b o,F b o → ¬ G1 A0 b o) (hn:Nat.blt 0 (cs j).length = true) (hne:tb.all (fun ob=>!ob.rw || Nat.blt 0 ob.cells.length) = true) (hp:Q8 tb.length env' = true)
  (hc:∀ bb oo,AtF w0 F bb oo (cs j) → Ch P n w0 A0 e8 d (tb ++ [⟨bb,oo,cs j,false⟩]) e1 env' c2 x):Ch P n w0 A0 e8 d tb env env' (.seq (.region id ops false) c2) x:=fun Q B cp s a w hE hW hr k=>by
 have hi':i < ops.size:=by simpa [Nat.blt_eq] using hi
 cases hA:A with
 | none=>have:=(hs.none_ hA).1; omega
 | some ad =>
  obtain ⟨bb,oo,rfl,h4⟩:=hs.some_ ad hA (by omega)
  obtain ⟨_,hat⟩:=h4 j hj
  obtain ⟨e0,dd,h1,h2,h3⟩:=LG (h bb (oo + j * size) B s.length cp)
  refine B8 (List.range i ++ i :: upto (i + 1) ops.size) (by rw [← U6 hi']; rfl) ?_
  refine R2 hW.cells hE h1 fun a1 hE1=>B1 (F2 hE1 h2 ht hA rfl hj fun a2 hE2=>?_)
  have hW2:=hW.addRead hat hF hn hne
  have hE3:EnvOk n (tb ++ [⟨bb,oo + j * size,cs j,false⟩]) ((dd,.p tb.length 0) :: (dd,.v (.pointer (some ⟨bb,oo + j * size,none⟩))) :: e0) a2 :=
   (hE2.grow ⟨bb,oo + j * size,cs j,false⟩).recast dd (.v (.pointer (some ⟨bb,oo + j * size,none⟩))) (.p tb.length 0) (by simp [lk]) (by simp [SV.val,D0,List.getD_eq_getElem?_getD]) (by simp [SV.ok])
  have hE4:EnvOk n (tb ++ [⟨bb,oo + j * size,cs j,false⟩]) ((dd,.p tb.length 0) :: e0) a2:=by
   refine ⟨hE3.defers,hE3.size,fun s' y hl=>hE3.at_ s' y ?_⟩
   revert hl
   simp only [lk]
   split <;> first | exact id | (intro hl; simp_all)
  refine F0 (upto (i + 1) ops.size) [] (d :: keys) hW2 hE4 h3 (List.append_nil _).symm fun a3 hE5=>B4 (A7 ?_)
  refine hc bb (oo + j * size) hat Q B cp s a3 w hE5 hW2 hr fun A' cp' a' w' hE' hW'=>?_
  have g1:=EnvOk.cutTb tb.length hE' (by simpa [Q8] using hp)
  have g2:=hW'.cutTb tb.length
  rw [List.take_left' rfl] at g1 g2
  exact k A' cp' a' w' g1 g2
end
def lst (t:Tree):List Tree:=if t.null then [] else t.L
theorem FP {l:Nat} {L:List Tree} {g:Nat → Bs} {h:Tree → Bs} (hl:l = L.length) (he:∀ i,i < l → g i = h (L.getD i .zero)):(List.range l).flatMap g = L.flatMap h:=by
 subst hl
 have e:L = (List.range L.length).map fun i=>L.getD i .zero:=by
  apply List.ext_getElem?
  intro i
  rw [List.getElem?_map]
  by_cases hi:i < L.length
  ·rw [List.getElem?_range hi,List.getElem?_eq_getElem hi,Option.map_some,List.getD_eq_getElem?_getD,List.getElem?_eq_getElem hi]; rfl
  rw [List.getElem?_eq_none (by omega),List.getElem?_eq_none (by simpa using hi)]; rfl
 conv=>rhs; rw [e]
 rw [List.flatMap_map]
 have hm:(List.range L.length).map g = (List.range L.length).map fun i=>h (L.getD i .zero):=List.map_congr_left fun i hi=>he i (List.mem_range.1 hi)
 rw [List.flatMap_def,List.flatMap_def,hm]
theorem FQ {v:Int} {d:Nat} {l:List Fld} {t:Tree} {i:Nat} {x1 x2 x3 x5 x6:Int} {s:List Fld} (h:l[i]? = some (.mk 11 x1 x2 x3 (-1) x5 x6 s)) :
  ((C2 v (d + 1) l t).at_ i).null = Fld.nul (.mk 11 x1 x2 x3 (-1) x5 x6 s) v (t.at_ i) ∧
  lst ((C2 v (d + 1) l t).at_ i) = (if Fld.nul (.mk 11 x1 x2 x3 (-1) x5 x6 s) v (t.at_ i) = true then [] else E3 (t.at_ i).L).map (fun x=>M1 (C2 v d) (.mk x6 x1 x2 (-1) (-1) x5 x6 s) (Fld.nul (.mk x6 x1 x2 (-1) (-1) x5 x6 s) v x) x):=by
 rw [FH h]
 have e:P6 (C2 v d) v (.mk 11 x1 x2 x3 (-1) x5 x6 s) (t.at_ i) = .mk 0 [] (Fld.nul (.mk 11 x1 x2 x3 (-1) x5 x6 s) v (t.at_ i)) ((E3 (t.at_ i).L).map (fun x=>M1 (C2 v d) (.mk x6 x1 x2 (-1) (-1) x5 x6 s) (Fld.nul (.mk x6 x1 x2 (-1) (-1) x5 x6 s) v x) x)) []:=by
  simp [P6,Fld.kind,Fld.tag,Fld.elem]
 rw [e]
 refine ⟨rfl,?_⟩
 unfold lst
 show (if Fld.nul _ v (t.at_ i) = true then [] else _) = _
 split
 ·rfl
 rfl
theorem fit_10 {v:Int} {d:Nat} {x1 x2 x5 x6:Int} {s:List Fld} {b:Bool} {x:Tree}:(∀ i,(M1 (C2 v d) (.mk 10 x1 x2 (-1) (-1) x5 x6 s) b x).at_ i = (C2 v d s x).at_ i) ∧ (M1 (C2 v d) (.mk 10 x1 x2 (-1) (-1) x5 x6 s) b x).U = (C2 v d s x).U:=by
 cases hT:C2 v d s x with
 | mk n s' b' l u =>
  have e:M1 (C2 v d) (.mk 10 x1 x2 (-1) (-1) x5 x6 s) b x = .mk n s' b l u:=by
   simp [M1,Fld.kind,Fld.sub,hT]
  rw [e]
  exact ⟨fun _=>rfl,rfl⟩
theorem CQ {v:Int} {d:Nat} {l:List Fld} {t:Tree} {i:Nat} {k x1 x2 x3 x4 x5 x6:Int} {s:List Fld} (h:l[i]? = some (.mk k x1 x2 x3 x4 x5 x6 s)) (hk:k = 8 ∨ k = 9) :
  ((C2 v (d + 1) l t).at_ i).S = J6 (t.at_ i).S:=by
 rw [FH h]
 have e1:k ≠ 11:=by omega
 have e:P6 (C2 v d) v (.mk k x1 x2 x3 x4 x5 x6 s) (t.at_ i) = .mk 0 (J6 (t.at_ i).S) (Fld.nul (.mk k x1 x2 x3 x4 x5 x6 s) v (t.at_ i)) [] []:=by
  simp [P6,M1,Fld.kind,e1,hk]
 rw [e]
 rfl
theorem IR {k x1 x2 x4 x5 x6:Int} {s:List Fld} {v:Int} {t:Tree}:Fld.nul (.mk k x1 x2 (-1) x4 x5 x6 s) v t = false:=by
 cases t
 simp [Fld.nul]
def T7 (u:List (Int × Bs)):Prop:=P7 u ∧ u.length ≤ 1000000 ∧ ∀ y ∈ u,y.2.length < 4294967296
theorem FR {v:Int} {d:Nat} {l:List Fld} {t:Tree}:T7 (C2 v d l t).U:=by
 rw [IG]
 refine ⟨Lz (Lw _ _),?_,fun y hy=>?_⟩
 ·rw [FC]; exact Nat.le_trans (Lx _ _) (by decide)
 obtain ⟨x,_,rfl⟩:=List.mem_map.1 hy
 exact Nat.lt_of_le_of_lt (X4 _) (by decide)
theorem IS {v:Int} {d:Nat} {l:List Fld} {t:Tree} {i:Nat} {x1 x2 x3 x5 x6:Int} {s:List Fld} {Q:Tree → Prop} (h:l[i]? = some (.mk 11 x1 x2 x3 (-1) x5 x6 s))
  (hq:∀ y,Q (M1 (C2 v d) (.mk x6 x1 x2 (-1) (-1) x5 x6 s) (Fld.nul (.mk x6 x1 x2 (-1) (-1) x5 x6 s) v y) y)):∀ x ∈ lst ((C2 v (d + 1) l t).at_ i),Q x:=by
 rw [(FQ h).2]
 intro x hx
 obtain ⟨y,_,rfl⟩:=List.mem_map.1 hx
 exact hq y
theorem Z8 {v:Int} {d:Nat} {l:List Fld} {t:Tree} {i:Nat} {k x1 x2 x3 x4 x5 x6:Int} {s:List Fld} (h:l[i]? = some (.mk k x1 x2 x3 x4 x5 x6 s)) (hk:k = 8 ∨ k = 9):(B9 ((C2 v (d + 1) l t).at_ i)).length ≤ 32767:=by
 rw [(IQ h hk).1]
 split
 ·exact Nat.zero_le _
 exact Nat.le_trans (X4 _) (by decide)
theorem FS {v:Int} {d:Nat} {l:List Fld} {t:Tree} {i:Nat} {x1 x2 x3 x5 x6:Int} {s:List Fld} (h:l[i]? = some (.mk 11 x1 x2 x3 (-1) x5 x6 s)):(lst ((C2 v (d + 1) l t).at_ i)).length ≤ 32767:=by
 rw [(FQ h).2,List.length_map]
 split
 ·exact Nat.zero_le _
 simp only [E3,List.length_take]; omega
def Tree.ranged:Tree → Prop
 | .mk _ _ _ l u=>(∀ x ∈ u,0 ≤ x.1 ∧ x.1 < 4294967296) ∧ rangeds l
where rangeds:List Tree → Prop
 | []=>True
 | t :: r=>t.ranged ∧ rangeds r
abbrev rangeds:=Tree.ranged.rangeds
theorem IT:∀ {l:List Tree},rangeds l → ∀ x ∈ l,x.ranged
 | [],_,x,h=>by cases h
 | t :: r,hr,x,h=>by
  rcases List.mem_cons.1 h with rfl | h
  ·exact hr.1
  exact IT (l:=r) hr.2 x h
theorem Ea:∀ {l:List Tree},(∀ x ∈ l,x.ranged) → rangeds l
 | [],_=>trivial
 | t :: r,h=>⟨h t (List.mem_cons_self ..),Ea (l:=r) fun x hx=>h x (List.mem_cons_of_mem _ hx)⟩
theorem IU:Tree.zero.ranged:=⟨fun x h=>(by cases h),trivial⟩
theorem Eb {t:Tree} (h:t.ranged):∀ x ∈ t.U,0 ≤ x.1 ∧ x.1 < 4294967296:=by cases t; exact h.1
theorem FT {t:Tree} (h:t.ranged):∀ x ∈ t.L,x.ranged:=by cases t; exact IT h.2
theorem FU {t:Tree} (h:t.ranged) (i:Nat):(t.at_ i).ranged:=by
 unfold Tree.at_
 rw [List.getD_eq_getElem?_getD]
 cases hx:t.L[i]? with
 | none=>exact IU
 | some x=>exact FT h x (List.mem_of_getElem? hx)
theorem IV {t:Tree} (h:t.ranged):∀ x ∈ lst t,x.ranged:=fun x hx=>by
 unfold lst at hx
 split at hx
 ·cases hx
 exact FT h x hx
theorem FV (v:Int):∀ (d:Nat) (l:List Fld) (t:Tree),t.ranged → (C2 v d l t).ranged:=by
 have core:∀ (W:Fld → Tree → Tree) (l:List Fld) (t:Tree),t.ranged → (∀ f x,x.ranged → (W f x).ranged) → (W7 W l t).ranged:=by
  intro W l t ht hW
  refine ⟨fun x hx=>?_,Ea ?_⟩
  ·obtain ⟨y,hy,rfl⟩:=List.mem_map.1 hx
   exact Eb ht y (Ly y hy)
  have:∀ (l:List Fld) (i:Nat),∀ x ∈ R8 W l t i,x.ranged:=by
   intro l
   induction l with
   | nil=>intro i x hx; cases hx
   | cons f r ih =>
    intro i x hx
    rcases List.mem_cons.1 hx with rfl | hx
    ·exact hW f _ (FU ht i)
    exact ih (i + 1) x hx
  exact this l 0
 have f0:∀ (p:List Fld → Tree → Tree),(∀ l x,x.ranged → (p l x).ranged) → ∀ (f:Fld) (b:Bool) (x:Tree),x.ranged → (M1 p f b x).ranged:=by
  intro p hp f b x hx
  unfold M1
  split
  ·exact ⟨fun x h=>(by cases h),trivial⟩
  split
  ·have:=hp f.sub x hx
   generalize p f.sub x = y at this
   cases y; exact this
  exact ⟨fun x h=>(by cases h),trivial⟩
 intro d
 induction d with
 | zero=>intro l t ht; exact core _ l t ht fun _ _ _=>IU
 | succ d ih =>
  intro l t ht
  refine core _ l t ht fun f x hx=>?_
  unfold P6
  split
  ·refine ⟨fun x h=>(by cases h),Ea fun y hy=>?_⟩
   obtain ⟨z,hz,rfl⟩:=List.mem_map.1 hy
   exact f0 _ ih _ _ _ (FT hx z (by unfold E3 at hz; exact List.mem_of_mem_take hz))
  exact f0 _ ih _ _ _ hx
end Go.Proofs.YtipblegipibplaaGreatDoor.ME
namespace Go.Proofs.YtipblegipibplaaGreatDoor.ME
open Go
open Go.RowKit
open Go.ChangeMaps (setBlock)
set_option linter.unusedVariables false
set_option linter.unusedSimpArgs false
set_option maxRecDepth 20000
abbrev I0 (fc:Nat) (cap:Value):Value:=.func (.func fc) #[] #[cap]
theorem LH {fc:Nat} {cap:Value} {m:Option Nat} {u:List (Int × Bs)} {b o:Nat} {w:World} {F M:Nat → Nat → Prop} (hcf:∀ args w,(callFunc fc args).run Tryz.prog w = .ok (.enter fc args) w) (I:World → Nat → World → Prop) (hat:AtF w F b o [.map m]) (hm:MapR w F m u) (hMF:∀ b o,F b o → ¬ M b o) (hMlt:∀ b o,M b o → b < w.heap.size)
  (hI0:∀ w7,Step w w7 B5 → I w7 0 w7) (hIs:∀ w7 j w8,I w7 j w8 → Step w7 w8 M)
  (hI1:∀ w7,Step w w7 B5 → ∀ j k x w8 Ax cx,I w7 j w8 → u[j]? = some (k,x) → (0 ≤ k ∧ k < 4294967296) → Octs w8 (fun b o=>F b o ∧ b < w7.heap.size) Ax cx x → Calls Tryz.prog fc [.int .u32 k,.slice Ax x.length cx,cap].toArray w8 (fun e w9=>e = .returned (.tuple #[]) ∧ I w7 (j + 1) w9)) (hul:u.length ≤ 1000000) :
  Calls Tryz.prog 58 [.pointer (some ⟨b,o,none⟩),I0 fc cap].toArray w (fun e w'=>e = .returned (.tuple #[]) ∧ ∃ w7,Step w w7 B5 ∧ I w7 u.length w'):=by
 refine enter (n:=53) Tryz.func58 rfl Tryz.ntmps58 kz fun a hE=>?_
 have hW:WOk w B5 w [⟨b,o,[.map m],false⟩] []:=(WOk.start w B5).start1 hat rfl rfl
 refine wp_seq (wp_seq ?_)
 refine D9 [0,1,2,3,4,5] kz ?_
 refine F0 [0,1,2,3] [4,5] [0,1,11] hW (EnvOk.ptr0 (cs:=[.map m]) (r:=false) hE) (env':=[(0,.p 0 0),(1,.v (I0 fc cap)),(11,.v (.map m))]) kz rfl fun a1 hE1=>?_
 refine B1 (CL (t:=78) (kt:=85) (et:=30) hE1 (m:=m) (d:=12) kz kz hm fun a2 hE2=>?_)
 refine F0 [5] [] [0,1,13] hW hE2 (env':=[(0,.p 0 0),(1,.v (I0 fc cap)),(13,.v (.bool (((u.length:Nat):Int) == 0)))]) kz rfl fun a3 hE3=>B4 (A7 ?_)
 refine D8 hE3 (b:=((u.length:Nat):Int) == 0) kz (fun hb=>?_) (fun hb=>?_)
 ·-- none
  have hu:u = []:=List.eq_nil_of_length_eq_zero (by have:=eq_of_beq hb; omega)
  subst hu
  refine wp_ret (F5 ?_)
  exact D5 hE3 hW.cells (v:=.tuple #[]) kz ⟨rfl,w,Step.refl _ _,hI0 w (Step.refl _ _)⟩
 have hu0:0 < u.length:=by have:=ne_of_beq_false hb; omega
 cases m with
 | none=>rw [hm.none_ rfl] at hu0; cases hu0
 | some mb =>
 obtain ⟨hFm,es,clk,hes,hperm,hborn,hnod,hcont⟩:=hm.some_ mb rfl
 have hmlt:mb < w.heap.size:=(Array.getElem?_eq_some_iff.1 hes).1
 have hesz:es.size = u.length:=MapR.size (w:=w) (F:=F) hperm
 refine wp_skip (A7 ?_)
 refine B8 [0,1,2,3,4,5,6,7] kz ?_
 refine F0 [0,1,2,3] [4,5,6,7] [0,1,17] hW hE3 (env':=[(0,.p 0 0),(1,.v (I0 fc cap)),(17,.v (.map (some mb)))]) kz rfl fun a4 hE4=>?_
 refine B1 (CL (t:=78) (kt:=85) (et:=30) hE4 (m:=some mb) (d:=18) kz kz hm fun a5 hE5=>?_)
 refine B1 (CE (e:=85) (size:=1) (bytes:=4) (j:=u.length) (t:=146) (d:=19) hW hE5 (p:=0) (q:=((u.length:Nat):Int)) kz kz rfl rfl (by omega) fun kr a6 w1 hkr hkr0 hF1 hW1 hE6=>?_)
 refine B1 (D7 hW1 hE6 (d:=4) (cs:=[.slice none 0 0]) kz fun kb a7 w2 hkb hkb0 hF2 hW2 hE7=>?_)
 refine B1 (C7 hW2 hE7 (oi:=1) (cs:=[.slice (some ⟨kr,0,none⟩) 0 u.length]) kz fun w3 hF3 hW3 hE8=>B4 (A7 ?_))
 refine wp_seq (B8 [0,1,2,3,4] kz ?_)
 refine F0 [0,1,2,3] [4] [0,1,4,23] hW3 hE8 (env':=[(0,.p 0 0),(1,.v (I0 fc cap)),(4,.p 1 0),(23,.v (.map (some mb)))]) kz rfl fun a8 hE9=>?_
 have hes3:=hW3.step.heap (fun o h=>h) hes
 refine B1 (HY (t:=78) (kt:=85) (et:=30) (d:=24) (r:=mb) hE9 kz kz hes3 fun a9 hE10=>B4 (A7 ?_))
 have hW4:=hW3.next_nil (Step.alloc w3 (.mapIter (some mb) clk #[] clk))
 have hr4:(w3.alloc (.mapIter (some mb) clk #[] clk)).heap[w3.heap.size]? = some (.mapIter (some mb) clk #[] clk):=Bn _ _
 have hE11:=hE10.pick (ks:=[0,1,4,24]) (env':=[(0,.p 0 0),(1,.v (I0 fc cap)),(4,.p 1 0),(24,.v (.pointer (some ⟨w3.heap.size,0,none⟩)))]) kz
 have hrlt:w3.heap.size < (w3.alloc (.mapIter (some mb) clk #[] clk)).heap.size:=by rw [DA]; omega
 have hr0:w.heap.size ≤ w3.heap.size:=hW3.step.size
 have hkbr:kb ≠ w3.heap.size:=by have:=hW3.live 1 _ rfl; show ¬ _; intro e; rw [← e] at this; exact absurd this (Nat.lt_irrefl _)
 have hkrr:kr ≠ w3.heap.size:=by have:=M0 (hW3.own 0 _ rfl) (g:=kr) rfl; omega
 generalize hR:w3.heap.size = R at hr4 hE11 hrlt hkbr hkrr
 generalize hw4:w3.alloc (.mapIter (some mb) clk #[] clk) = w4 at hW4 hr4 hrlt
 refine wp_block ?_
 refine wp_loop_ghost (fun q a_ w_=>∃ (vis:List MapEntry) (seen:Array Nat) (K:Option Addr) (kc c0:Nat),q = (leftOf es seen).size ∧ Vis es.toList vis seen ∧ vis.length + (leftOf es seen).size ≤ es.size ∧
   EnvOk 53 (z9 b o mb kb K vis.length kc) [(0,.p 0 0),(1,.v (I0 fc cap)),(4,.p 1 0),(24,.v (.pointer (some ⟨R,0,none⟩)))] a_ ∧
   WOk w B5 w_ (z9 b o mb kb K vis.length kc) [⟨K,kc,85,1,vis.length,(vis.map fun e=>Q4 e.key).map (Value.int .u32)⟩] ∧
   w_.heap[R]? = some (.mapIter (some mb) clk seen c0) ∧ clk ≤ c0 ∧ K.map (·.block) ≠ some R) (leftOf es #[]).size
  ⟨[],#[],some ⟨kr,0,none⟩,u.length,clk,rfl,Vis.nil _,by rw [List.length_nil,Nat.zero_add]; exact Array.size_filter_le,by rw [← hw4] at *; exact hE11,hW4,hr4,Nat.le_refl _,by simpa using hkrr⟩ ?_
 rintro q a10 w5 ⟨vis,seen,K,kc,c0,rfl,hv,hvl,hE12,hW5,hr5,hc0,hKR⟩
 have hes5:=hW5.step.heap (fun o h=>h) hes
 refine B8 [0,1] kz ?_
 refine B1 (Ia hE12 (d:=25) (r:=R) kz hr5 hes5 hborn hc0 (fun h0 a11 hE13=>?_) (fun e he w6 hw6 a11 hE13=>?_))
 ·-- behind it
  refine F0 [1] [] [0,1,4,26] hW5 hE13 (env':=[(0,.p 0 0),(1,.v (I0 fc cap)),(4,.p 1 0),(26,.v (.bool false))]) kz rfl fun a12 hE14=>B4 (A7 (wp_seq ?_))
  refine D8 hE14 (b:=false) kz (fun hb=>by cases hb) (fun _=>?_)
  refine wp_exit (E2 (E2 (G3 (A7 ?_))))
  have hpe:=hv.all h0 hnod
  have hvu:vis.length = u.length:=by rw [hpe.length_eq,Array.length_toList,hesz]
  have hkp:(vis.map fun e=>Q4 e.key).Perm (u.map Prod.fst):=by
   have h1:=(hpe.map fun e=>Q4 e.key)
   have h2:=hperm.map Q4
   rw [List.map_map,List.map_map] at h2
   exact h1.trans h2
  have hkl:(vis.map fun e=>Q4 e.key).length = vis.length:=by simp
  generalize (vis.map fun e=>Q4 e.key) = ks at hkp hkl hW5
  have hown4:w5.ownsRow 0 85 1 (.slice K vis.length kc) vis.length (ks.map (Value.int .u32)):=hW5.own 0 _ rfl
  obtain ⟨g,rfl⟩:=Q9 hown4 (by omega)
  have hown5:w5.ownsRow 0 85 1 (.slice (some ⟨g,0,none⟩) vis.length kc) vis.length (ks.map (Value.int .u32)):=hown4
  have hg0:w.heap.size ≤ g:=by
   rcases hW5.ownM 0 _ rfl g rfl with h | h
   ·exact h
   exact (h 0).elim
  refine B8 [0,1,2,3] kz ?_
  refine F0 [0,1] [2,3] [0,1,4,34] hW5 hE14 (env':=[(0,.p 0 0),(1,.v (I0 fc cap)),(4,.p 1 0),(34,.v (.iface 146 (.slice (some ⟨g,0,none⟩) vis.length kc)))]) kz rfl fun a13 hE15=>?_
  refine B1 (BY hE15 (v:=.func (.func 110) #[] #[.pointer (some ⟨kb,0,none⟩)]) (d:=35) kz fun a14 hE16=>?_)
  have hS:=Tryz.sortKeys g kc kb ks.toArray (by simp; omega) (by simp; omega) w5 (by simp only [List.size_toArray,hkl]; exact hW5.cells 1 _ rfl 0 _ rfl) (fun e=>hW5.rtb 0 _ rfl g rfl 1 _ rfl e) (DT hkl hown5) (M0 (hW5.own 0 _ rfl) (g:=g) rfl) (hW5.live 1 _ rfl)
  rw [List.size_toArray,hkl] at hS
  refine B1 (C3 hE16 (f:=109) (vs:=[.iface 146 (.slice (some ⟨g,0,none⟩) vis.length kc),.func (.func 110) #[] #[.pointer (some ⟨kb,0,none⟩)]]) (d:=36) kz Tryz.call109 hS ?_)
  rintro e_ w7 ⟨rfl,d',nd,os,hd1,hd2,hd3,rfl⟩
  refine ⟨_,rfl,fun a15 hE17=>B4 (A7 ?_)⟩
  have hus:d'.toList = u.map Prod.fst:=Ig hd2 (by rw [hd1]; exact hd3) hkp (List.pairwise_map.2 hm.sorted)
  obtain ⟨hst7,hown7⟩:=If (n:=nd) (os:=os) hkl hown5 (by rw [hd1,hkl])
  rw [hus] at hown7
  generalize Sort.grow (Sort.putRow (Value.int .u32) (Sort.ahead w5 nd) g 0 d') os = w7 at hst7 hown7
  have hW7:WOk w B5 w7 [⟨b,o,[.map (some mb)],false⟩,⟨kb,0,[.slice (some ⟨g,0,none⟩) vis.length kc],true⟩] [⟨some ⟨g,0,none⟩,kc,85,1,vis.length,(u.map Prod.fst).map (Value.int .u32)⟩] :=
   hW5.grow (k:=0) (r':=⟨some ⟨g,0,none⟩,kc,85,1,vis.length,(u.map Prod.fst).map (Value.int .u32)⟩) rfl (hst7.mono fun b' _ _ hb'=>by rw [hb']; rfl) hown7 (fun g' h=>.inl h)
  refine B8 [0,1,2] kz ?_
  refine F0 [0,1,2] [] [0,1,37,38,39] hW7 hE17 (env':=[(0,.p 0 0),(1,.v (I0 fc cap)),(37,.v (.slice (some ⟨g,0,none⟩) vis.length kc)),(38,.v (.int .i64 ((vis.length:Nat):Int))),(39,.v (.int .i64 0))]) kz rfl fun a16 hE18=>B4 (A7 ?_)
  have hE19:=EnvOk.cutTb 1 hE18 kz
  have hat7:=hat.move hW7.step B0 E6
  have hm7:=hm.move hW7.step B0 E6
  have hg7:g < w7.heap.size:=M0 (hW7.own 0 _ rfl) (g:=g) rfl
  have hkeys:=DT (by simpa using hvu.symm) hown7
  rw [hvu] at hE19
  refine wp_block ?_
  refine wp_loop_ghost (fun q a_ w_=>∃ (j:Nat),q = u.length - j ∧ j ≤ u.length ∧ EnvOk 53 [⟨b,o,[.map (some mb)],false⟩] [(0,.p 0 0),(1,.v (I0 fc cap)),(37,.v (.slice (some ⟨g,0,none⟩) u.length kc)),(38,.v (.int .i64 ((u.length:Nat):Int))),(39,.v (.int .i64 ((j:Nat):Int)))] a_ ∧
   I w7 j w_) u.length
   ⟨0,by omega,by omega,hE19,hI0 w7 hW7.step⟩ ?_
  rintro q a17 w8 ⟨j,rfl,hj,hE20,hD⟩
  have hS8:=hIs w7 j w8 hD
  have hat8:=hat7.move hS8 (fun b o hf _=>hMF b o hf) E6
  have hm8:MapR w8 (fun b' o'=>F b' o' ∧ b' < w7.heap.size) (some mb) u:=hm7.move hS8 (fun b o hf _=>hMF b o hf) (fun b' o' hf hl=>⟨hf,hl⟩)
  have hW8:WOk w8 B5 w8 [⟨b,o,[.map (some mb)],false⟩] []:=(WOk.start w8 B5).start1 hat8 rfl rfl
  refine B8 [0] kz (F0 [0] [] [0,1,37,38,39,40] hW8 hE20 (env':=[(0,.p 0 0),(1,.v (I0 fc cap)),(37,.v (.slice (some ⟨g,0,none⟩) u.length kc)),(38,.v (.int .i64 ((u.length:Nat):Int))),(39,.v (.int .i64 ((j:Nat):Int))),(40,.v (.bool (decide (((j:Nat):Int) < ((u.length:Nat):Int)))))]) kz rfl fun a18 hE21=>B4 (A7 (wp_seq ?_)))
  refine D8 hE21 (b:=decide (((j:Nat):Int) < ((u.length:Nat):Int))) kz (fun hc=>?_) (fun hc=>?_)
  ·have hlt:j < u.length:=by have:=of_decide_eq_true hc; omega
   refine wp_skip (A7 (wp_seq (wp_block ?_)))
   obtain ⟨⟨k,x⟩,hu⟩:∃ y,u[j]? = some y:=⟨_,List.getElem?_eq_getElem hlt⟩
   have hmem:=List.mem_of_getElem? hu
   have hkr:=hm.range _ hmem
   have hcell:At w8 g (0 + j * 1) [.int .u32 k]:=by
    intro i v hi
    have hi0:i = 0:=by
     have:=(List.getElem?_eq_some_iff.1 hi).1
     simp at this; omega
    subst hi0
    simp only [List.getElem?_cons_zero,Option.some.injEq] at hi
    subst hi
    refine hS8.cell (fun hbm=>?_) ?_
    ·have:=hMlt _ _ hbm; omega
    have h1:=(hkeys j (by simpa using hlt)).1
    have h2:(u.map Prod.fst).toArray[j]! = k:=by
     rw [getElem!_pos _ j (by simpa using hlt)]
     have:(u.map Prod.fst)[j]? = some k:=by rw [List.getElem?_map,hu]; rfl
     simpa using (List.getElem?_eq_some_iff.1 this).2
    rw [h2] at h1
    simpa using h1
   refine B8 [0,1,2] kz ?_
   refine B1 (F2 hE21 (t:=146) (e:=85) (size:=1) (bytes:=4) (d:=41) (b:=g) (o:=0) (m:=u.length) (j:=j) kz kz rfl rfl hlt fun a19 hE22=>?_)
   refine B1 (G7 hE22 (t:=85) (d:=42) (cs:=[.int .u32 k]) (v:=.int .u32 k) kz kz hcell fun a20 hE23=>?_)
   refine F0 [2] [] [0,1,37,38,39,7] hW8 hE23 (env':=[(0,.p 0 0),(1,.v (I0 fc cap)),(37,.v (.slice (some ⟨g,0,none⟩) u.length kc)),(38,.v (.int .i64 ((u.length:Nat):Int))),(39,.v (.int .i64 ((j:Nat):Int))),(7,.v (.int .u32 k))]) kz rfl fun a21 hE24=>B4 (A7 ?_)
   refine D9 [0,1,2,3,4,5,6,7,8] kz ?_
   refine F0 [0,1,2,3,4,5,6] [7,8] [0,1,37,38,39,43,44,48,49] hW8 hE24 (env':=[(0,.p 0 0),(1,.v (I0 fc cap)),(37,.v (.slice (some ⟨g,0,none⟩) u.length kc)),(38,.v (.int .i64 ((u.length:Nat):Int))),(39,.v (.int .i64 ((j:Nat):Int))),(43,.v (I0 fc cap)),(44,.v (.int .u32 k)),(48,.v (.map (some mb))),(49,.v (.int .u32 k))]) kz rfl fun a22 hE25=>?_
   refine B1 (HP hE25 (t:=78) (kt:=85) (et:=30) (m:=some mb) (k:=k) (s:=x) (d:=50) kz kz kz hm8 hmem fun a23 Ax cx hox hE26=>?_)
   refine B1 (C3 hE26 (f:=fc) (vs:=[.int .u32 k,.slice Ax x.length cx,cap]) (d:=51) kz hcf (hI1 w7 hW7.step j k x w8 Ax cx hD hu hkr hox) ?_)
   rintro e_ w9 ⟨rfl,hD2⟩
   refine ⟨_,rfl,fun a24 hE27=>B4 (G2 (A7 ?_))⟩
   have hS9:=hIs w7 (j + 1) w9 hD2
   have hat9:=hat7.move hS9 (fun b o hf _=>hMF b o hf) E6
   have hW9:WOk w9 B5 w9 [⟨b,o,[.map (some mb)],false⟩] []:=(WOk.start w9 B5).start1 hat9 rfl rfl
   refine D9 [0,1] kz (F0 [0,1] [] [0,1,37,38,39] hW9 hE27 (env':=[(0,.p 0 0),(1,.v (I0 fc cap)),(37,.v (.slice (some ⟨g,0,none⟩) u.length kc)),(38,.v (.int .i64 ((u.length:Nat):Int))),(39,.v (.int .i64 (IntKind.i64.wrap (((j:Nat):Int) + 1))))]) kz rfl fun a25 hE28=>B4 (A7 ?_))
   rw [H1 (by omega)] at hE28
   exact ⟨u.length - (j + 1),by omega,j + 1,rfl,by omega,hE28,hD2⟩
  obtain rfl:j = u.length:=by have:=of_decide_eq_false hc; omega
  refine wp_exit (E2 (E2 (G3 ?_)))
  exact M3 hE21 hW8.cells (v:=.tuple #[]) kz ⟨rfl,w7,hW7.step,hD⟩
 -- one more
 have hst6:Step w5 w6 B5:=by
  rcases hw6 with rfl | rfl
  ·exact Step.refl _ _
  exact Step.drew _
 have hr6:w6.heap[R]? = some (.mapIter (some mb) clk seen c0):=hst6.heap (fun o h=>h) hr5
 have hW6:=hW5.next_nil hst6
 obtain ⟨hml,_⟩:=mem_left he
 obtain ⟨k,sx,Ax,cx,hk1,hk2,hk3,hk4⟩:=hcont e hml
 have hR6:R < w6.heap.size:=(Array.getElem?_eq_some_iff.1 hr6).1
 have hW7:WOk w B5 (setBlock w6 R (.mapIter (some mb) clk (seen.push e.born) clk)) (z9 b o mb kb K vis.length kc) [⟨K,kc,85,1,vis.length,(vis.map fun e=>Q4 e.key).map (Value.int .u32)⟩]:=by
  refine hW6.next (Step.setBlock w6 R _) (fun b' o' hb' hN=>by omega) (fun i ob hi j hj hN=>?_) (fun i q hi g' hg' o' hN=>?_)
  ·match i,hi with
   | 0,hi =>
    simp only [List.getElem?_cons_zero,Option.some.injEq] at hi; subst hi
    have:=World.lt_of_cell (hat 0 _ rfl).2
    simp only at hN; omega
   | 1,hi =>
    simp only [List.getElem?_cons_succ,List.getElem?_cons_zero,Option.some.injEq] at hi; subst hi
    exact hkbr hN
   | i + 2,hi=>simp at hi
  match i,hi with
  | 0,hi =>
   simp only [List.getElem?_cons_zero,Option.some.injEq] at hi; subst hi
   exact hKR (by rw [← hN]; exact hg')
  | i + 1,hi=>simp at hi
 have hr7:(setBlock w6 R (.mapIter (some mb) clk (seen.push e.born) clk)).heap[R]? = some (.mapIter (some mb) clk (seen.push e.born) clk):=Fi hr6
 generalize hw7:setBlock w6 R (.mapIter (some mb) clk (seen.push e.born) clk) = w7 at hW7 hr7
 refine F0 [1] [] [0,1,4,24,26] hW7 hE13 (env':=[(0,.p 0 0),(1,.v (I0 fc cap)),(4,.p 1 0),(24,.v (.pointer (some ⟨R,0,none⟩))),(26,.v (.bool true))]) kz rfl fun a12 hE14=>B4 (A7 (wp_seq ?_))
 refine D8 hE14 (b:=true) kz (fun _=>?_) (fun hb=>by cases hb)
 refine wp_skip (A7 (wp_block ?_))
 have hes7:=hW7.step.heap (fun o h=>h) hes
 refine B8 [0,1,2] kz ?_
 refine B1 (Ic hE14 (d:=27) (r:=R) kz hr7 hes7 hml hnod fun a13 hE15=>?_)
 rw [hk1] at hE15
 refine F0 [1,2] [] [0,1,4,24,5] hW7 hE15 (env':=[(0,.p 0 0),(1,.v (I0 fc cap)),(4,.p 1 0),(24,.v (.pointer (some ⟨R,0,none⟩))),(5,.v (.int .u32 k))]) kz rfl fun a14 hE16=>B4 (A7 ?_)
 refine D9 [0,1,2,3,4] kz ?_
 refine F0 [0,1] [2,3,4] [0,1,4,24,29,30] hW7 hE16 (env':=[(0,.p 0 0),(1,.v (I0 fc cap)),(4,.p 1 0),(24,.v (.pointer (some ⟨R,0,none⟩))),(29,.v (.slice K vis.length kc)),(30,.v (.int .u32 k))]) kz rfl fun a15 hE17=>?_
 have hsh:=left_shrinks es seen e he
 refine W5 (t:=146) (e:=85) (size:=1) (bytes:=4) (len:=1) (cs:=[.int .u32 k]) (d1:=31) (d:=32) (k:=0) hW7 hE17 kz kz (fun _=>by kernel_rfl) rfl kz (by omega) fun K2 kc2 a16 w8 hF8 hW8 hE18=>?_
 obtain ⟨bl,hE18⟩:=hE18
 have hR7:R < w7.heap.size:=(Array.getElem?_eq_some_iff.1 hr7).1
 have hna:∀ {o'},¬ G9 [⟨b,o,[.map (some mb)],false⟩,⟨kb,0,[.slice K vis.length kc],true⟩] [⟨K,kc,85,1,vis.length,(vis.map fun e=>Q4 e.key).map (Value.int .u32)⟩] R o':=by
  rintro o' (⟨i,ob,hi,hrw,hb,_⟩ | ⟨i,q,hi,hq⟩)
  ·match i,hi with
   | 0,hi =>
    simp only [List.getElem?_cons_zero,Option.some.injEq] at hi; subst hi
    cases hrw
   | 1,hi =>
    simp only [List.getElem?_cons_succ,List.getElem?_cons_zero,Option.some.injEq] at hi; subst hi
    exact hkbr hb
   | i + 2,hi=>simp at hi
  match i,hi with
  | 0,hi =>
   simp only [List.getElem?_cons_zero,Option.some.injEq] at hi; subst hi
   exact hKR hq
  | i + 1,hi=>simp at hi
 have hK2:K2.map (·.block) ≠ some R:=fun hk=>by
  exact hF8.imm R 0 hR7 hna (.inr ⟨0,_,rfl,hk⟩)
 refine B1 (C7 hW8 hE18 (oi:=1) (cs:=[.slice K2 (vis.length + 1) kc2]) kz fun w9 hF9 hW9 hE19=>B4 (G2 (A7 ?_)))
 have hr8:w9.heap[R]? = some (.mapIter (some mb) clk (seen.push e.born) clk) :=
  hF9.step.heap (fun o'=>hF8.imm R o' hR7 hna) (hF8.step.heap (fun o'=>hna) hr7)
 refine ⟨(leftOf es (seen.push e.born)).size,hsh,vis ++ [e],seen.push e.born,K2,kc2,clk,rfl,hv.push he,by rw [List.length_append,List.length_singleton]; omega,?_,?_,hr8,Nat.le_refl _,hK2⟩
 ·rw [List.length_append,List.length_singleton]
  exact hE19.pick (ks:=[0,1,4,24]) kz
 rw [List.length_append,List.length_singleton,List.map_append,List.map_append,List.map_cons,List.map_cons,hk1]
 exact hW9
end Go.Proofs.YtipblegipibplaaGreatDoor.ME
namespace Go.Proofs.YtipblegipibplaaGreatDoor.ME
open Go
open Go.RowKit
set_option linter.unusedVariables false
set_option linter.unusedSimpArgs false
set_option maxRecDepth 20000
def S2:DV:=.leaf
structure Row_ (size:Nat) (cells:DV → List Value) (ok:DV → Prop) (rel:DV → Tree → Prop) (xs:List Value) (ds:List DV) (ts:List Tree):Prop where
 flat:Flat size xs (ds.map cells)
 each:∀ d ∈ ds,ok d
 len:ds.length = ts.length
 rel_:∀ (i:Nat) (d:DV) (t:Tree),ds[i]? = some d → ts[i]? = some t → rel d t
theorem Row_.nil {size:Nat} {cells:DV → List Value} {ok:DV → Prop} {rel:DV → Tree → Prop}:Row_ size cells ok rel [] [] [] :=
 ⟨Flat.nil size,(fun _ h=>by cases h),rfl,fun i d t h=>by simp at h⟩
theorem Row_.mono {size:Nat} {cells:DV → List Value} {ok ok':DV → Prop} {rel:DV → Tree → Prop} {xs:List Value} {ds:List DV} {ts:List Tree} (h:Row_ size cells ok rel xs ds ts) (hk:∀ d,ok d → ok' d):Row_ size cells ok' rel xs ds ts :=
 ⟨h.flat,fun d hd=>hk d (h.each d hd),h.len,h.rel_⟩
theorem Row_.snoc {size:Nat} {cells:DV → List Value} {ok:DV → Prop} {rel:DV → Tree → Prop} {xs:List Value} {ds:List DV} {ts:List Tree} (h:Row_ size cells ok rel xs ds ts) {d:DV} {t:Tree} (hc:(cells d).length = size) (ho:ok d) (hr:rel d t) :
  Row_ size cells ok rel (xs ++ cells d) (ds ++ [d]) (ts ++ [t]):=by
 refine ⟨?_,fun d' hd=>?_,by simp [h.len],fun i d' t' h1 h2=>?_⟩
 ·rw [List.map_append,List.map_cons,List.map_nil]
  exact h.flat.snoc hc
 ·rcases List.mem_append.1 hd with hd | hd
  ·exact h.each d' hd
  rw [List.mem_singleton.1 hd]; exact ho
 have hl:=h.len
 rcases L9 h1 with h1 | ⟨h1,rfl⟩
 ·rcases L9 h2 with h2 | ⟨h2,_⟩
  ·exact h.rel_ i d' t' h1 h2
  have:=(List.getElem?_eq_some_iff.1 h1).1; omega
 rcases L9 h2 with h2 | ⟨_,rfl⟩
 ·have:=(List.getElem?_eq_some_iff.1 h2).1; omega
 exact hr
theorem Row_.slots {w:World} {e size c n:Nat} {A:Option Addr} {cells:DV → List Value} {ok:DV → Prop} {rel:DV → Tree → Prop} {xs:List Value} {ds:List DV} {ts:List Tree} (h:Row_ size cells ok rel xs ds ts) (ho:w.ownsRow 0 e size (.slice A n c) n xs) (hn:n = ts.length) (h1:∀ d,∀ u ∈ cells d,u.oneCell' = true) (hsm:ts.length ≤ 1099511627776) {F:Nat → Nat → Prop} (hF:∀ g,A.map (·.block) = some g → ∀ o,F g o) :
  Slots w F size A c n (fun i=>cells (ds.getD i S2)) ∧ (∀ i,i < n → ok (ds.getD i S2)) ∧ ∀ i,i < n → rel (ds.getD i S2) (ts.getD i .zero):=by
 have hl:=h.len
 have hnd:n = ds.length:=by omega
 subst hnd
 have hcl:(ds.map cells).length = ds.length:=List.length_map ..
 have hs:=h.flat.slots (A:=A) (c:=c) (F:=F) (by rw [hcl]; exact ho) (fun u hu=>by
  rw [h.flat.eq] at hu
  obtain ⟨cs,hcs,hu⟩:=List.mem_flatten.1 hu
  obtain ⟨d,_,rfl⟩:=List.mem_map.1 hcs
  exact h1 d u hu) (by rw [hcl]; omega) hF
 rw [hcl] at hs
 have hg:∀ i,i < ds.length → (ds.map cells).getD i [] = cells (ds.getD i S2):=fun i hi=>by
  rw [List.getD_eq_getElem?_getD,List.getElem?_map,List.getD_eq_getElem?_getD,List.getElem?_eq_getElem hi]; rfl
 refine ⟨⟨hs.le,hs.small,hs.none_,fun ad hA h0=>?_⟩,fun i hi=>?_,fun i hi=>?_⟩
 ·obtain ⟨b,o,h2,h3⟩:=hs.some_ ad hA h0
  exact ⟨b,o,h2,fun i hi=>by have:=h3 i hi; rw [hg i hi] at this; exact this⟩
 ·rw [List.getD_eq_getElem?_getD,List.getElem?_eq_getElem hi]
  exact h.each _ (List.getElem_mem hi)
 have hi':i < ts.length:=by omega
 refine h.rel_ i _ _ ?_ ?_
 ·rw [List.getD_eq_getElem?_getD,List.getElem?_eq_getElem hi]; rfl
 rw [List.getD_eq_getElem?_getD,List.getElem?_eq_getElem hi']; rfl
def O1 (ok:World → (Nat → Nat → Prop) → DV → Prop):Prop:=∀ {w w':World} {F F' M:Nat → Nat → Prop} (d:DV),Step w w' M → (∀ b o,F b o → b < w.heap.size → ¬ M b o) → (∀ b o,F b o → b < w.heap.size → F' b o) → ok w F d → ok w' F' d
def CR (_:World) (_:Nat → Nat → Prop) (_:DV):Prop:=True
theorem CS:O1 CR:=fun _ _ _ _ _=>trivial
structure RowL (w:World) (F:Nat → Nat → Prop) (size:Nat) (cells:DV → List Value) (ok:World → (Nat → Nat → Prop) → DV → Prop) (rel:DV → Tree → Prop) (xs:List Value) (ds:List DV) (ts:List Tree):Prop where
 mv:O1 ok
 row:Row_ size cells (ok w F) rel xs ds ts
structure LstR (w:World) (F:Nat → Nat → Prop) (size:Nat) (cells:DV → List Value) (ok:World → (Nat → Nat → Prop) → DV → Prop) (rel:DV → Tree → Prop) (A:Option Addr) (c:Nat) (f:Nat → DV) (ts:List Tree):Prop where
 mv:O1 ok
 slots:Slots w F size A c ts.length (fun i=>cells (f i))
 each:∀ i,i < ts.length → ok w F (f i)
 rel_:∀ i,i < ts.length → rel (f i) (ts.getD i .zero)
section
variable {w w' w0:World} {F F' M:Nat → Nat → Prop} {size:Nat} {cells:DV → List Value} {ok:World → (Nat → Nat → Prop) → DV → Prop} {rel:DV → Tree → Prop} {xs:List Value} {ds:List DV} {ts:List Tree} {A:Option Addr} {c:Nat} {f:Nat → DV} {tb:Tb} {rs rs':List Rw}
theorem RowL.move (h:RowL w F size cells ok rel xs ds ts) (hs:Step w w' M) (hM:∀ b o,F b o → b < w.heap.size → ¬ M b o) (hF:∀ b o,F b o → b < w.heap.size → F' b o):RowL w' F' size cells ok rel xs ds ts :=
 ⟨h.mv,h.row.mono fun d hd=>h.mv d hs hM hF hd⟩
theorem RowL.nil (mv:O1 ok):RowL w F size cells ok rel [] [] []:=⟨mv,Row_.nil⟩
theorem RowL.snoc {l:List Tree} {k:Nat} {t:Tree} {d:DV} (h:RowL w F size cells ok rel xs ds (l.take k)) (hk:l[k]? = some t) (hc:(cells d).length = size) (ho:ok w F d) (hr:rel d t):RowL w F size cells ok rel (xs ++ cells d) (ds ++ [d]) (l.take (k + 1)):=by
 rw [V0 hk]
 exact ⟨h.mv,h.row.snoc hc ho hr⟩
theorem LstR.move (h:LstR w F size cells ok rel A c f ts) (hs:Step w w' M) (hM:∀ b o,F b o → b < w.heap.size → ¬ M b o) (hF:∀ b o,F b o → b < w.heap.size → F' b o):LstR w' F' size cells ok rel A c f ts :=
 ⟨h.mv,h.slots.move hs hM hF,fun i hi=>h.mv _ hs hM hF (h.each i hi),h.rel_⟩
theorem LstR.nil (mv:O1 ok):LstR w F size cells ok rel none 0 (fun _=>S2) [] :=
 ⟨mv,Slots.nil _ _ _ _,fun i hi=>by simp at hi,fun i hi=>by simp at hi⟩
theorem LstR.of {e n k:Nat} {G:Nat → Nat → Prop} (hW:WOk w0 B5 w tb rs) (hk:rs[k]? = some ⟨A,c,e,size,n,xs⟩) (h:RowL w (D4 G w0 w tb rs) size cells ok rel xs ds (ts.take n)) (hn:n = ts.length) (h1:∀ d,∀ u ∈ cells d,u.oneCell' = true) (hsm:ts.length ≤ 1099511627776) (hr:rs.take k = rs':=by rfl) :
  LstR w (D4 G w0 w tb rs') size cells ok rel A c (fun i=>ds.getD i S2) ts:=by
 subst hr
 rw [hn,List.take_length] at h
 have hI:∀ b o,D4 G w0 w tb rs b o → b < w.heap.size → D4 G w0 w tb (rs.take k) b o:=fun b o hi hb=>by
  refine ⟨hi.1,hi.2.1,fun ha=>hi.2.2 ?_⟩
  rcases ha with ha | ⟨i,r,h2,h3⟩
  ·exact .inl ha
  rw [List.getElem?_take] at h2
  split at h2
  ·exact .inr ⟨i,r,h2,h3⟩
  cases h2
 have h':=h.move (Step.refl w B5) B0 hI
 obtain ⟨g1,g2,g3⟩:=h'.row.slots (hW.own k _ hk) hn h1 hsm (F:=D4 G w0 w tb (rs.take k)) (fun g hg o=>by
  have hb:=M0 (hW.own k _ hk) (r:=⟨A,c,e,size,n,xs⟩) hg
  refine ⟨?_,hb,fun ha=>?_⟩
  ·rcases hW.ownM k _ hk g hg with h2 | h2
   ·exact .inr h2
   exact (h2 0).elim
  rcases ha with ⟨i,ob,h2,_,h3,_⟩ | ⟨i,r,h2,h3⟩
  ·exact hW.rtb k _ hk g hg i ob h2 h3
  rw [List.getElem?_take] at h2
  split at h2
  ·rename_i hlt
   exact hW.rr k i _ r (by omega) hk h2 g hg h3
  cases h2)
 rw [hn] at g1 g2 g3
 exact ⟨h'.mv,g1,g2,g3⟩
end
theorem Ce {t:Tree} (h:t.null = false):lst t = t.L:=by unfold lst; rw [h]; rfl
theorem FW {t:Tree} (h:t.null = true):lst t = []:=by unfold lst; rw [h]; rfl
theorem CT {P:Program} {c:Code} {Mid N:Act → World → Prop} {Q:Exit → Act → World → Prop} {a:Act} {w:World} (h1:c.wp P (Exit.then Mid Q) a w) (h2:∀ a' w',Mid a' w' → N a' w'):c.wp P (Exit.then N Q) a w :=
 wp_mono h1 fun e a' w' h=>by
  cases e <;> first | exact h2 a' w' h | exact h
def K7 (n:Int):DV:=.mk n false ByteArray.empty [] none 0 0 none [] (fun _=>.leaf)
def O2 (s:ByteArray):DV:=.mk 0 false s [] none 0 0 none [] (fun _=>.leaf)
def H4 (A:Option Addr) (s:ByteArray):DV:=.mk 0 false s [] A 0 0 none [] (fun _=>.leaf)
def O3 (A:Option Addr) (o:Bs) (c:Nat):DV:=.mk 0 false ByteArray.empty o A 0 c none [] (fun _=>.leaf)
def M7 (A:Option Addr) (l c:Nat) (f:Nat → DV):DV:=.mk 0 false ByteArray.empty [] A l c none [] f
def J8 (m:Option Nat) (u:List (Int × Bs)) (fs:List DV):DV:=.mk 0 false ByteArray.empty [] none 0 0 m u (fun i=>fs.getD i .leaf)
theorem TL.tab {w wL w1:World} {F:Nat → Nat → Prop} {p off:Nat} {cs0:List Value} {m:Option Nat} {u:List (Int × Bs)} {tb:Tb} {rs:List Rw} (h:TL w wL w1 F p off cs0 m u) (hW:WOk w B5 wL tb rs) (i:Nat) (tb':Tb) (hi:tb[i]? = some ⟨p,0,cs0,true⟩) (ht:tb.set i ⟨p,0,cs0.set off (.map m),true⟩ = tb':=by rfl) (ho:Nat.blt off cs0.length = true:=by kernel_rfl) :
  WOk w B5 w1 tb' rs ∧ Fr wL tb rs w1 tb' rs:=by
 subst ht
 have ho':off < cs0.length:=by simpa [Nat.blt_eq] using ho
 have hil:i < tb.length:=(List.getElem?_eq_some_iff.1 hi).1
 have key:∀ (j:Nat) (o:Ob),(tb.set i ⟨p,0,cs0.set off (.map m),true⟩)[j]? = some o → (j = i ∧ o = ⟨p,0,cs0.set off (.map m),true⟩) ∨ (j ≠ i ∧ tb[j]? = some o):=fun j o hj=>by
  rcases W4 hj with ⟨h1,h2,_⟩ | ⟨h1,h2⟩
  ·exact .inl ⟨h1,h2⟩
  exact .inr ⟨h1,h2⟩
 have far:∀ (j:Nat) (o:Ob),j ≠ i → tb[j]? = some o → ∀ q,q < o.cells.length → ¬ (o.blk = p ∧ o.off + q = off):=fun j o hne hj q hq e=>by
  rcases hW.apart j i o _ hne hj hi (.inr rfl) with h1 | h1 | h1
  ·exact h1 e.1
  ·simp only [Nat.le_zero] at h1; omega
  simp only [Nat.zero_add] at h1; omega
 have act:∀ b o,G9 (tb.set i ⟨p,0,cs0.set off (.map m),true⟩) rs b o → G9 tb rs b o:=fun b o ha=>by
  rcases ha with ⟨j,ob,hj,h1,h2,h3,h4⟩ | ha
  ·rcases key j ob hj with ⟨rfl,rfl⟩ | ⟨_,hj⟩
   ·exact .inl ⟨j,_,hi,rfl,h2,h3,by simpa using h4⟩
   exact .inl ⟨j,ob,hj,h1,h2,h3,h4⟩
  exact .inr ha
 refine ⟨⟨h.step,?_,?_,?_,?_,?_,hW.ownM,?_,hW.rr⟩,⟨fun b o _ hn ha=>hn (act b o ha),h.keep.mono fun b o _ e=>.inl ⟨i,_,hi,rfl,e.1.symm,Nat.zero_le _,by simpa [e.2] using ho'⟩⟩⟩
 ·intro j o hj q v hv
  rcases key j o hj with ⟨rfl,rfl⟩ | ⟨hne,hj⟩
  ·dsimp only
   rw [Nat.zero_add]
   exact h.str.at_ q v hv
  exact h.keep.cell (far j o hne hj q (List.getElem?_eq_some_iff.1 hv).1) (hW.cells j o hj q v hv)
 ·intro j o hj
  rcases key j o hj with ⟨rfl,rfl⟩ | ⟨_,hj⟩
  ·have h1:=hW.live j _ hi
   exact Nat.lt_of_lt_of_le h1 h.keep.size
  exact Nat.lt_of_lt_of_le (hW.live j o hj) h.keep.size
 ·intro j o hj hr q hq
  rcases key j o hj with ⟨rfl,rfl⟩ | ⟨hne,hj⟩
  ·dsimp only at hq ⊢
   refine ⟨(hW.rw_ j _ hi rfl q (by simpa using hq)).1,?_⟩
   rw [Nat.zero_add]
   exact h.str.frz q hq
  obtain ⟨h1,h2⟩:=hW.rw_ j o hj hr q hq
  exact ⟨h1,h.keep.frozen (far j o hne hj q hq) (hW.cells j o hj q _ (List.getElem?_eq_getElem hq)) h2⟩
 ·intro j k o o' hjk hj hk hw
  rcases key j o hj with ⟨rfl,rfl⟩ | ⟨hne,hj'⟩
  ·rcases key k o' hk with ⟨rfl,rfl⟩ | ⟨hne',hk'⟩
   ·exact absurd rfl hjk
   have:=hW.apart j k _ o' hjk hi hk' (.inl rfl)
   simpa using this
  rcases key k o' hk with ⟨rfl,rfl⟩ | ⟨hne',hk'⟩
  ·have:=hW.apart j k o _ hjk hj' hi (.inr rfl)
   simpa using this
  exact hW.apart j k o o' hjk hj' hk' hw
 ·intro j r hj
  refine Bo (hW.own j r hj) fun g hg=>(h.keep.keeps g (M0 (hW.own j r hj) hg)).1 fun o e=>?_
  exact hW.rtb j r hj g hg i _ hi e.1.symm
 intro j r hj g hg k o hk
 rcases key k o hk with ⟨rfl,rfl⟩ | ⟨_,hk⟩
 ·have h1:=hW.rtb j r hj g hg k _ hi
  exact h1
 exact hW.rtb j r hj g hg k o hk
theorem TL.mapImm {w wL w1:World} {F:Nat → Nat → Prop} {p off:Nat} {cs0:List Value} {m:Option Nat} {u:List (Int × Bs)} {tb tb':Tb} {rs:List Rw} (h:TL w wL w1 F p off cs0 m u) (hW:WOk w B5 wL tb rs) (hW':WOk w B5 w1 tb' rs) (hf:Fr wL tb rs w1 tb' rs) (hs:P7 u) (hr:∀ x ∈ u,0 ≤ x.1 ∧ x.1 < 4294967296) (hl:tb'.map (·.blk) = tb.map (·.blk):=by rfl):MapR w1 (D4 F w w1 tb' rs) m u:=by
 have blk:∀ b o,G9 tb' rs b o → w.heap.size ≤ b ∧ b < wL.heap.size:=fun b o ha=>by
  rcases ha with ⟨j,ob,hj,h1,rfl,h3,h4⟩ | ⟨j,r,hj,hb⟩
  ·have hm:(tb'.map (·.blk))[j]? = some ob.blk:=by rw [List.getElem?_map,hj]; rfl
   rw [hl,List.getElem?_map] at hm
   obtain ⟨ob',hk,e⟩:=Option.map_eq_some_iff.1 hm
   refine ⟨?_,by rw [← e]; exact hW.live j ob' hk⟩
   rcases (hW'.rw_ j ob hj h1 (o - ob.off) (by omega)).1 with h5 | h5
   ·exact h5
   exact h5.elim
  refine ⟨?_,M0 (hW.own j r hj) hb⟩
  rcases hW.ownM j r hj b hb with h5 | h5
  ·exact h5
  exact (h5 0).elim
 have hb:=h.big
 refine h.own.map (fun b o h1=>⟨.inl h1.1,Nat.lt_of_lt_of_le h1.2 h.step.size,fun ha=>?_⟩) (fun r o e=>?_) hs hr
 ·have:=blk b o ha; have:=h1.2; omega
 have h1:=h.new r e
 obtain ⟨es,clk,h2,_⟩:=h.own.some_ r e
 refine ⟨.inr (Nat.le_trans hb h1),(Array.getElem?_eq_some_iff.1 h2).1,fun ha=>?_⟩
 have:=blk r o ha; omega
theorem FX {w0 w:World} {M:Nat → Nat → Prop} {tb:Tb} {rs:List Rw} {k e size n c:Nat} {A:Option Addr} {xs:List Value} (hW:WOk w0 M w tb rs) (hk:rs[k]? = some ⟨A,c,e,size,n,xs⟩) (hn:0 < n):A.isNone = false:=by
 cases A with
 | some _=>rfl
 | none =>
  rcases (hW.own k _ hk).2 with ⟨_,h⟩ | ⟨_,_,_,hv,_⟩
  ·have h':n = 0:=h
   omega
  cases hv
theorem EnvOk.retable {n:Nat} {env:C8} {a:Act} (tb:Tb) (h:EnvOk n [] env a):EnvOk n tb env a:=h.table fun i hi=>absurd hi (Nat.not_lt_zero i)
def J9 (A:Option Addr) (cp j:Nat):Option Addr:=if cp = j then A else A.map (·.add j)
theorem LI (s:Bs) (j i:Nat):(s.drop j).getD i 0 = s.getD (j + i) 0:=by
 rw [List.getD_eq_getElem?_getD,List.getD_eq_getElem?_getD,List.getElem?_drop]
theorem Octs.drop {w:World} {F:Nat → Nat → Prop} {A:Option Addr} {c:Nat} {s:Bs} (h:Octs w F A c s) {j:Nat} (hj:j ≤ s.length):Octs w F (J9 A c j) (c - j) (s.drop j):=by
 have hle:=h.le
 have hsm:=h.small
 unfold Octs
 rw [List.length_drop]
 refine ⟨by omega,by omega,fun hA=>?_,fun ad hA hn=>?_⟩
 ·have hn:A = none:=by
   unfold J9 at hA
   split at hA
   ·exact hA
   cases A with
   | none=>rfl
   | some _=>cases hA
  have:=h.none_ hn
  omega
 have hA':A.map (·.add j) = some ad:=by
  unfold J9 at hA
  rwa [if_neg (by omega)] at hA
 cases hq:A with
 | none=>rw [hq] at hA'; cases hA'
 | some ad0 =>
  rw [hq] at hA'
  obtain ⟨b,o,rfl,h2⟩:=h.some_ ad0 hq (by omega)
  simp only [Option.map_some,Option.some.injEq,Q2] at hA'
  subst hA'
  refine ⟨b,o + j,rfl,fun i hi=>?_⟩
  rw [LI,show o + j + i * 1 = o + (j + i) * 1 by omega]
  exact h2 (j + i) (by omega)
theorem Octs.cutS {w:World} {F:Nat → Nat → Prop} {A:Option Addr} {c:Nat} {s:Bs} (h:Octs w F A c s) {j:Nat} (hj:j ≤ s.length):Octs w F A j (s.take j):=by
 have h1:=h.take j
 refine ⟨by rw [List.length_take]; omega,h1.small,fun hA=>?_,h1.some_⟩
 have:=h.none_ hA
 rw [List.length_take]; omega
section
variable {P:Program} {ops:Array Oper} {Q:Exit → Act → World → Prop} {n:Nat} {tb:Tb} {env:C8} {rs:List Rw} {w0:World} {M:Nat → Nat → Prop} {a:Act} {w:World}
theorem LJ {t e:TypeId} {bytes:Nat} (ht:L4 P t = some (e,1,bytes)) {A:Option Addr} {m cp:Nat} {k:IntKind} {q:Int} (h0:0 ≤ q) (h1:q ≤ m) :
  (Instr.sliceAt t (.slice A m cp) (some (.int k q)) none none).run P w = .ok (.slice (J9 A cp q.toNat) (m - q.toNat) (cp - q.toNat)) w:=by
 obtain ⟨ht',inf,z,hi,hz,hzs,hs1,rfl,hsz,hbp⟩:=T3 ht
 unfold Instr.sliceAt
 simp only [Sem.run_bind,run_underlying ht',Result.andThen_ok]
 unfold Instr.slice
 have hb:(0 ≤ q ∧ q ≤ (m:Int)):=⟨h0,h1⟩
 simp only [Sem.run_bind,run_underlying ht',Result.andThen_ok,Instr.sliceBounds,Instr.sliceBound,asIntOf,Sem.run_pure,if_pos hb,run_sizeOf' hi,hs1,Nat.mul_one]
 rfl
theorem LK {t e:TypeId} {bytes:Nat} (ht:L4 P t = some (e,1,bytes)) {A:Option Addr} {m cp:Nat} {k:IntKind} {q:Int} (h0:0 ≤ q) (h1:q ≤ cp) :
  (Instr.sliceAt t (.slice A m cp) none (some (.int k q)) (some (.int k q))).run P w = .ok (.slice A q.toNat q.toNat) w:=by
 obtain ⟨ht',inf,z,hi,hz,hzs,hs1,rfl,hsz,hbp⟩:=T3 ht
 unfold Instr.sliceAt
 simp only [Sem.run_bind,run_underlying ht',Result.andThen_ok]
 unfold Instr.slice
 have hb:(0 ≤ q ∧ q ≤ (cp:Int)):=⟨h0,h1⟩
 have hb2:(0 ≤ q ∧ q ≤ ((q.toNat:Nat):Int)):=⟨h0,by omega⟩
 simp only [Sem.run_bind,run_underlying ht',Result.andThen_ok,Instr.sliceBounds,Instr.sliceBound,asIntOf,Sem.run_pure,if_pos hb,if_pos hb2,run_sizeOf' hi]
 cases A with
 | none=>simp
 | some ad=>simp [Addr.add]
theorem Ec {i d j:Nat} {N:Act → World → Prop} {t e:TypeId} {bytes m cp:Nat} {A:Option Addr} {q:Int} (hE:EnvOk n tb env a) (h:T4 tb env ops n i = some (t,.slice A m cp,some q,none,d)) (ht:L4 P t = some (e,1,bytes)) (hq:q = (j:Int)) (hj:j ≤ m)
  (K:∀ a',EnvOk n tb ((d,.v (.slice (J9 A cp j) (m - j) (cp - j))) :: env) a' → N a' w):wpOp P ops Q i N a w:=by
 have h0:0 ≤ q:=by omega
 have h1:q ≤ m:=by omega
 obtain rfl:j = q.toNat:=by omega
 unfold T4 at h
 split at h
 ·rename_i t' x lo hi d' ho
  have hd:d' < n:=(K8 hE ho).choose_spec.2.2.2.1
  split at h
  ·simp at h
  ·rename_i s l hs
   split at h
   ·rename_i k q' hs2
    simp only [Option.some.injEq,Prod.mk.injEq,true_and] at h
    obtain ⟨rfl,hsv,rfl,rfl⟩:=h
    have e1:=(F4 hE hs).1
    have e2:=(F4 hE hs2).1
    refine N0 hE ho (v:=.slice (J9 A cp q'.toNat) (m - q'.toNat) (cp - q'.toNat)) (w':=w) (fun o' hop=>?_) (K _ (hE.put hd (.v _) trivial))
    unfold execOp
    rw [hop]
    rw [hsv] at e1
    simp only [SV.val] at e2
    simp only [e1,e2,Option.map_none,Option.map_some,Sem.run_bind,LJ ht h0 h1,Result.andThen_ok,Sem.run_pure]
   cases h
  ·split at h <;> simp at h
  ·split at h <;> simp at h
  cases h
 cases h
def IW (tb:Tb) (env:C8) (ops:Array Oper) (n i:Nat):Option (TypeId × Value × IntKind × Int × IntKind × Int × Nat) :=
 match F7 env ops n i with
 | some (.slice t x none (some h) (some m),d)=>match E8 env x,E8 env h,E8 env m with
  | some s,some (.v (.int k p)),some (.v (.int k' q))=>some (t,s.val tb,k,p,k',q,d)
  | _,_,_=>none
 | _=>none
theorem LL {i d j:Nat} {N:Act → World → Prop} {t e:TypeId} {bytes m cp:Nat} {A:Option Addr} {k:IntKind} {q:Int} (hE:EnvOk n tb env a) (h:IW tb env ops n i = some (t,.slice A m cp,k,q,k,q,d)) (ht:L4 P t = some (e,1,bytes)) (hq:q = (j:Int)) (hj:j ≤ cp)
  (K:∀ a',EnvOk n tb ((d,.v (.slice A j j)) :: env) a' → N a' w):wpOp P ops Q i N a w:=by
 have h0:0 ≤ q:=by omega
 have h1:q ≤ cp:=by omega
 obtain rfl:j = q.toNat:=by omega
 unfold IW at h
 split at h
 ·rename_i t' x hh mm d' ho
  have hd:d' < n:=(K8 hE ho).choose_spec.2.2.2.1
  split at h
  ·rename_i s k1 p1 k2 q2 g1 g2 g3
   simp only [Option.some.injEq,Prod.mk.injEq] at h
   obtain ⟨rfl,hsv,rfl,rfl,rfl,rfl,rfl⟩:=h
   have f1:=(F4 hE g1).1
   have f2:=(F4 hE g2).1
   have f3:=(F4 hE g3).1
   rw [hsv] at f1
   simp only [SV.val] at f2 f3
   refine N0 hE ho (v:=.slice A q2.toNat q2.toNat) (w':=w) (fun o' hop=>?_) (K _ (hE.put hd (.v _) trivial))
   unfold execOp
   rw [hop]
   simp only [f1,f2,f3,Option.map_none,Option.map_some,Sem.run_bind,LK ht h0 h1,Result.andThen_ok,Sem.run_pure]
  cases h
 cases h
end
structure RdS (w:World) (F:Nat → Nat → Prop) (A:Option Addr) (n c:Nat) (s:Bs):Prop where
 len:n = s.length
 oct:Octs w F A c s
theorem RdS.move {w w':World} {F F' M:Nat → Nat → Prop} {A:Option Addr} {n c:Nat} {s:Bs} (h:RdS w F A n c s) (hs:Step w w' M) (hM:∀ b o,F b o → b < w.heap.size → ¬ M b o) (hF:∀ b o,F b o → b < w.heap.size → F' b o):RdS w' F' A n c s:=⟨h.len,Octs.move h.oct hs hM hF⟩
theorem RdS.cast {w:World} {F:Nat → Nat → Prop} {A:Option Addr} {n c:Nat} {s t:Bs} (h:RdS w F A n c s) (e:s = t):RdS w F A n c t:=e ▸ h
theorem RdS.drop {w:World} {F:Nat → Nat → Prop} {A:Option Addr} {n c j:Nat} {s t:Bs} (h:RdS w F A n c (s ++ t)) (hj:j = s.length):RdS w F (J9 A c j) (n - j) (c - j) t:=by
 subst hj
 have h1:=h.oct.drop (j:=s.length) (by rw [List.length_append]; omega)
 rw [List.drop_left] at h1
 exact ⟨by rw [h.len,List.length_append]; omega,h1⟩
theorem RdS.front {w:World} {F:Nat → Nat → Prop} {A:Option Addr} {n c j:Nat} {s t:Bs} (h:RdS w F A n c (s ++ t)) (hj:j = s.length):Octs w F A j s:=by
 subst hj
 have h1:=h.oct.cutS (j:=s.length) (by rw [List.length_append]; omega)
 rwa [List.take_left] at h1
def H2 (br:Nat):Nat → Nat → Prop:=fun b o=>b = br ∧ o < 2
def RdPost (w:World) (br:Nat) (F:Nat → Nat → Prop) (rest:Bs) (Q:Value → World → Prop):Ending → World → Prop:=fun e w' =>
 ∃ v A' n' c',e = .returned v ∧ Str w' br [.slice A' n' c',.bool false] ∧ RdS w' F A' n' c' rest ∧ Step w w' (H2 br) ∧ Q v w'
theorem WOk.startStr {w:World} {p:Nat} {cs:List Value} (h:Str w p cs) (hn:Nat.blt 0 cs.length = true:=by kernel_rfl):WOk w (fun b o=>b = p ∧ o < cs.length) w [⟨p,0,cs,true⟩] []:=by
 have hn':0 < cs.length:=by simpa [Nat.blt_eq] using hn
 exact (WOk.start w _).add ⟨p,0,cs,true⟩ (World.lt_of_cell (h.at_ 0 _ (List.getElem?_eq_getElem hn'))) (fun j v hj=>by rw [Nat.zero_add]; exact h.at_ j v hj) (fun _ j hj=>⟨.inr ⟨rfl,by rw [Nat.zero_add]; exact hj⟩,by rw [Nat.zero_add]; exact h.frz j hj⟩) (fun i o hi=>by simp at hi) (fun i r hi=>by simp at hi)
theorem WOk.wrote {w0 w w':World} {M:Nat → Nat → Prop} {tb:Tb} {rs:List Rw} {p:Nat} {cs cs':List Value} (hW:WOk w0 M w tb rs) (i:Nat) (tb':Tb) (hi:tb[i]? = some ⟨p,0,cs,true⟩) (hst:Step w w' (fun b o=>b = p ∧ o < cs.length)) (hs:Str w' p cs') (ht:tb.set i ⟨p,0,cs',true⟩ = tb':=by rfl) (hl:cs'.length = cs.length:=by rfl) :
  WOk w0 M w' tb' rs ∧ Fr w tb rs w' tb' rs ∧ ∀ {G:Nat → Nat → Prop} (b o:Nat),Fp (D4 G w0 w tb rs) w b o → b < w'.heap.size → D4 G w0 w' tb' rs b o:=by
 subst ht
 have key:∀ (j:Nat) (o:Ob),(tb.set i ⟨p,0,cs',true⟩)[j]? = some o → (j = i ∧ o = ⟨p,0,cs',true⟩) ∨ (j ≠ i ∧ tb[j]? = some o):=fun j o hj=>by
  rcases W4 hj with ⟨h1,h2,_⟩ | ⟨h1,h2⟩
  ·exact .inl ⟨h1,h2⟩
  exact .inr ⟨h1,h2⟩
 have far:∀ (j:Nat) (o:Ob),j ≠ i → tb[j]? = some o → ∀ q,q < o.cells.length → ¬ (o.blk = p ∧ o.off + q < cs.length):=fun j o hne hj q hq e=>by
  rcases hW.apart j i o _ hne hj hi (.inr rfl) with h1 | h1 | h1
  ·exact h1 e.1
  ·simp only [Nat.le_zero] at h1; omega
  simp only [Nat.zero_add] at h1; omega
 have act:∀ b o,G9 (tb.set i ⟨p,0,cs',true⟩) rs b o → G9 tb rs b o:=fun b o ha=>by
  rcases ha with ⟨j,ob,hj,h1,h2,h3,h4⟩ | ha
  ·rcases key j ob hj with ⟨rfl,rfl⟩ | ⟨_,hj⟩
   ·exact .inl ⟨j,_,hi,rfl,h2,h3,by simpa [hl] using h4⟩
   exact .inl ⟨j,ob,hj,h1,h2,h3,h4⟩
  exact .inr ha
 refine ⟨⟨hW.step.trans hst fun b o hb e=>?_,?_,?_,?_,?_,?_,hW.ownM,?_,hW.rr⟩,⟨fun b o _ hn ha=>hn (act b o ha),hst.mono fun b o _ e=>.inl ⟨i,_,hi,rfl,e.1.symm,Nat.zero_le _,by simpa using e.2⟩⟩,fun b o hf hb=>?_⟩
 rotate_right
 ·rcases hf with hf | hf
  ·exact ⟨hf.1,hb,fun ha=>hf.2.2 (act b o ha)⟩
  exact ⟨.inr (Nat.le_trans hW.step.size hf),hb,fun ha=>by have:=hW.act_live (act b o ha); omega⟩
 ·have h1:=(hW.rw_ i _ hi rfl o e.2).1
  simp only [Nat.zero_add] at h1
  rcases h1 with h1 | h1
  ·have:=e.1; omega
  rw [e.1]; exact h1
 ·intro j o hj q v hv
  rcases key j o hj with ⟨rfl,rfl⟩ | ⟨hne,hj⟩
  ·dsimp only
   rw [Nat.zero_add]
   exact hs.at_ q v hv
  exact hst.cell (far j o hne hj q (List.getElem?_eq_some_iff.1 hv).1) (hW.cells j o hj q v hv)
 ·intro j o hj
  rcases key j o hj with ⟨rfl,rfl⟩ | ⟨_,hj⟩
  ·have h1:=hW.live j _ hi
   exact Nat.lt_of_lt_of_le h1 hst.size
  exact Nat.lt_of_lt_of_le (hW.live j o hj) hst.size
 ·intro j o hj hr q hq
  rcases key j o hj with ⟨rfl,rfl⟩ | ⟨hne,hj⟩
  ·dsimp only at hq ⊢
   refine ⟨(hW.rw_ j _ hi rfl q (by simpa [hl] using hq)).1,?_⟩
   rw [Nat.zero_add]
   exact hs.frz q hq
  obtain ⟨h1,h2⟩:=hW.rw_ j o hj hr q hq
  exact ⟨h1,hst.frozen (far j o hne hj q hq) (hW.cells j o hj q _ (List.getElem?_eq_getElem hq)) h2⟩
 ·intro j k o o' hjk hj hk hw
  rcases key j o hj with ⟨rfl,rfl⟩ | ⟨hne,hj'⟩
  ·rcases key k o' hk with ⟨rfl,rfl⟩ | ⟨hne',hk'⟩
   ·exact absurd rfl hjk
   have:=hW.apart j k _ o' hjk hi hk' (.inl rfl)
   simpa [hl] using this
  rcases key k o' hk with ⟨rfl,rfl⟩ | ⟨hne',hk'⟩
  ·have:=hW.apart j k o _ hjk hj' hi (.inr rfl)
   simpa [hl] using this
  exact hW.apart j k o o' hjk hj' hk' hw
 ·intro j r hj
  refine Bo (hW.own j r hj) fun g hg=>(hst.keeps g (M0 (hW.own j r hj) hg)).1 fun o e=>?_
  exact hW.rtb j r hj g hg i _ hi e.1.symm
 intro j r hj g hg k o hk
 rcases key k o hk with ⟨rfl,rfl⟩ | ⟨_,hk⟩
 ·have h1:=hW.rtb j r hj g hg k _ hi
  exact h1
 exact hW.rtb j r hj g hg k o hk
theorem WOk.giveUp {G:Nat → Nat → Prop} {w0 w:World} {tb:Tb} {rs:List Rw} {A:Option Addr} {c e:Nat} {s:Bs} (hW:WOk w0 B5 w tb rs) (k:Nat) (rs':List Rw) (hk:rs[k]? = some (B6 A c e s)) (hsm:s.length ≤ 1099511627776) (hr:rs.take k = rs':=by rfl):Octs w (D4 G w0 w tb rs') A c s:=by
 subst hr
 refine BT (hW.own k _ hk) hsm fun g hg o=>?_
 have hb:=M0 (hW.own k _ hk) (r:=B6 A c e s) hg
 refine ⟨?_,hb,fun ha=>?_⟩
 ·rcases hW.ownM k _ hk g hg with h2 | h2
  ·exact .inr h2
  exact (h2 0).elim
 rcases ha with ⟨i,ob,h2,_,h3,_⟩ | ⟨i,r,h2,h3⟩
 ·exact hW.rtb k _ hk g hg i ob h2 h3
 rw [List.getElem?_take] at h2
 split at h2
 ·rename_i hlt
  exact hW.rr k i _ r (by omega) hk h2 g hg h3
 cases h2
theorem IX {G:Nat → Nat → Prop} {w0 w:World} {tb:Tb} {rs:List Rw} {p:Nat} {cs:List Value} (i:Nat) (hi:tb[i]? = some ⟨p,0,cs,true⟩):∀ b o,D4 G w0 w tb rs b o → ¬ (b = p ∧ o < cs.length):=fun b o h e=>by
 obtain ⟨rfl,h2⟩:=e
 exact h.2.2 (.inl ⟨i,_,hi,rfl,rfl,Nat.zero_le _,by simpa using h2⟩)
theorem CU {Q:Exit → Act → World → Prop} {a:Act} {w:World} (h:Q .ret a w):Exit.noGoto Q .ret a w:=h
theorem IY (k:IntKind) (n:Nat) (hn:n = k.bits) (hk:∀ z:Int,0 ≤ z → z < 2 ^ n → k.wrap z = z) (i:Nat) (y x:Int) (h0:0 ≤ y) (h1:y < 2 ^ i) (h2:y < 2 ^ n) (h3:0 ≤ x) (h4:x % 2 ^ i = 0) (h5:x < 2 ^ n) :
  k.wrap (BitVec.ofInt n y ||| BitVec.ofInt n x).toNat = y + x:=by
 subst hn
 exact bits_join_low k k.bits (Nat.le_refl _) hk i y x h0 h1 h2 h3 h4 h5
theorem FY (i:Nat) (y x:Int) (h0:0 ≤ y) (h1:y < 2 ^ i) (h2:y < 2 ^ 16) (h3:0 ≤ x) (h4:x % 2 ^ i = 0) (h5:x < 2 ^ 16):IntKind.u16.wrap (BitVec.ofInt 16 y ||| BitVec.ofInt 16 x).toNat = y + x :=
 IY .u16 16 rfl (fun z a b=>by rw [S9]; omega) i y x h0 h1 h2 h3 h4 h5
theorem L7 (i:Nat) (y x:Int) (h0:0 ≤ y) (h1:y < 2 ^ i) (h2:y < 2 ^ 32) (h3:0 ≤ x) (h4:x % 2 ^ i = 0) (h5:x < 2 ^ 32):IntKind.u32.wrap (BitVec.ofInt 32 y ||| BitVec.ofInt 32 x).toNat = y + x :=
 IY .u32 32 rfl (fun z a b=>by rw [E1]; omega) i y x h0 h1 h2 h3 h4 h5
theorem Z9 (n:Nat) (h:n < 256):(IntKind.u8.wrap (BitVec.ofInt 8 ((n:Nat):Int) &&& BitVec.ofInt 8 128).toNat == 0) = decide (n < 128):=by
 have:∀ m:Fin 256,(IntKind.u8.wrap (BitVec.ofInt 8 ((m.val:Nat):Int) &&& BitVec.ofInt 8 128).toNat == 0) = decide (m.val < 128):=by decide +kernel
 exact this ⟨n,h⟩
theorem R3 (n:Nat) (h:n < 256):IntKind.u8.wrap (BitVec.ofInt 8 ((n:Nat):Int) &&& BitVec.ofInt 8 127).toNat = ((n % 128:Nat):Int):=by
 have:∀ m:Fin 256,IntKind.u8.wrap (BitVec.ofInt 8 ((m.val:Nat):Int) &&& BitVec.ofInt 8 127).toNat = ((m.val % 128:Nat):Int):=by decide +kernel
 exact this ⟨n,h⟩
def oc (s:Bs) (i:Nat):Nat:=(s.getD i 0).toNat
theorem H6 (s:Bs) (i:Nat):oc s i < 256:=(s.getD i 0).toNat_lt
theorem IZ (b:UInt8) (s:Bs) (i:Nat):oc (b :: s) (i + 1) = oc s i:=rfl
theorem LM (b:UInt8) (s:Bs):oc (b :: s) 0 = b.toNat:=rfl
theorem Ja (x:Int) (s:Bs):((oc (B7 x :: s) 0:Nat):Int) = x % 256:=by rw [LM,Hq]
def P1 (s:Bs):Int:=((oc s 0:Nat):Int) * 256 + oc s 1
def P2 (s:Bs):Int:=((oc s 0:Nat):Int) * 16777216 + oc s 1 * 65536 + oc s 2 * 256 + oc s 3
theorem LN (x:Int) (s:Bs):P1 (be 2 x ++ s) = IntKind.u16.wrap x:=by
 rw [S9]
 simp only [be,List.cons_append,List.nil_append,P1,IZ,Ja,Int.reducePow]
 omega
theorem LO (x:Int) (s:Bs):P2 (be 4 x ++ s) = IntKind.u32.wrap x:=by
 rw [E1]
 simp only [be,List.cons_append,List.nil_append,P2,IZ,Ja,Int.reducePow]
 omega
theorem K3 (x:Int):IntKind.i16.wrap x = (x + 32768) % 65536 - 32768:=by simp [IntKind.wrap,IntKind.signed,IntKind.bits]; omega
theorem G5 (x:Int):IntKind.i32.wrap x = (x + 2147483648) % 4294967296 - 2147483648:=by simp [IntKind.wrap,IntKind.signed,IntKind.bits]; omega
theorem J0 (x:Int):IntKind.i64.wrap x = (x + 9223372036854775808) % 18446744073709551616 - 9223372036854775808:=by simp [IntKind.wrap,IntKind.signed,IntKind.bits]; omega
theorem LP (x:Int):IntKind.i16.wrap (IntKind.u16.wrap x) = IntKind.i16.wrap x:=by rw [K3,K3,S9]; omega
theorem LQ (x:Int):IntKind.i32.wrap (IntKind.u32.wrap x) = IntKind.i32.wrap x:=by rw [G5,G5,E1]; omega
theorem FZ (x:Int):IntKind.i16.wrap (IntKind.i16.wrap x) = IntKind.i16.wrap x:=by rw [K3,K3]; omega
theorem Ga (x:Int):IntKind.i32.wrap (IntKind.i32.wrap x) = IntKind.i32.wrap x:=by rw [G5,G5]; omega
theorem Y0 {x:Nat} (s:Bs):oc (uv x ++ s) 0 = if x < 128 then x else x % 128 + 128:=by
 by_cases h:x < 128
 ·rw [S0 h,if_pos h]
  show (UInt8.ofNat x).toNat = x
  rw [UInt8.toNat_ofNat']; omega
 rw [X3 (by omega),if_neg h]
 show (UInt8.ofNat (x % 128 + 128)).toNat = _
 rw [UInt8.toNat_ofNat']; omega
theorem V3 {x:Nat} (h:128 ≤ x) (s:Bs) (i:Nat):oc (uv x ++ s) (i + 1) = oc (uv (x / 128) ++ s) i:=by
 rw [X3 h]; rfl
theorem LR (b0 b1:Nat) (h0:b0 < 256) (h1:b1 < 256):IntKind.u16.wrap (BitVec.ofInt 16 (IntKind.u16.wrap (((b1:Nat):Int))) ||| BitVec.ofInt 16 (IntKind.u16.wrap (IntKind.u16.wrap (((b0:Nat):Int)) * 256))).toNat = ((b0:Nat):Int) * 256 + ((b1:Nat):Int):=by
 have e1:IntKind.u16.wrap (BitVec.ofInt 16 (IntKind.u16.wrap (((b1:Nat):Int))) ||| BitVec.ofInt 16 (IntKind.u16.wrap (IntKind.u16.wrap (((b0:Nat):Int)) * 256))).toNat = ((b1:Nat):Int) + ((b0:Nat):Int) * 256:=by
  rw [FY 8 _ _ (by first | omega | (simp only [S9]; omega)) (by first | omega | (simp only [S9]; omega)) (by first | omega | (simp only [S9]; omega)) (by first | omega | (simp only [S9]; omega)) (by first | omega | (simp only [S9]; omega)) (by first | omega | (simp only [S9]; omega))]; first | omega | (simp only [S9]; omega)
 rw [e1]
 omega
theorem LT (b0 b1 b2 b3:Nat) (h0:b0 < 256) (h1:b1 < 256) (h2:b2 < 256) (h3:b3 < 256):IntKind.u32.wrap (BitVec.ofInt 32 (IntKind.u32.wrap (BitVec.ofInt 32 (IntKind.u32.wrap (BitVec.ofInt 32 (IntKind.u32.wrap (((b3:Nat):Int))) ||| BitVec.ofInt 32 (IntKind.u32.wrap (IntKind.u32.wrap (((b2:Nat):Int)) * 256))).toNat) ||| BitVec.ofInt 32 (IntKind.u32.wrap (IntKind.u32.wrap (((b1:Nat):Int)) * 65536))).toNat) ||| BitVec.ofInt 32 (IntKind.u32.wrap (IntKind.u32.wrap (((b0:Nat):Int)) * 16777216))).toNat = ((b0:Nat):Int) * 16777216 + ((b1:Nat):Int) * 65536 + ((b2:Nat):Int) * 256 + ((b3:Nat):Int):=by
 have e1:IntKind.u32.wrap (BitVec.ofInt 32 (IntKind.u32.wrap (((b3:Nat):Int))) ||| BitVec.ofInt 32 (IntKind.u32.wrap (IntKind.u32.wrap (((b2:Nat):Int)) * 256))).toNat = ((b3:Nat):Int) + ((b2:Nat):Int) * 256:=by
  rw [L7 8 _ _ (by first | omega | (simp only [E1]; omega)) (by first | omega | (simp only [E1]; omega)) (by first | omega | (simp only [E1]; omega)) (by first | omega | (simp only [E1]; omega)) (by first | omega | (simp only [E1]; omega)) (by first | omega | (simp only [E1]; omega))]; first | omega | (simp only [E1]; omega)
 have e2:IntKind.u32.wrap (BitVec.ofInt 32 (((b3:Nat):Int) + ((b2:Nat):Int) * 256) ||| BitVec.ofInt 32 (IntKind.u32.wrap (IntKind.u32.wrap (((b1:Nat):Int)) * 65536))).toNat = ((b3:Nat):Int) + ((b2:Nat):Int) * 256 + ((b1:Nat):Int) * 65536:=by
  rw [L7 16 _ _ (by first | omega | (simp only [E1]; omega)) (by first | omega | (simp only [E1]; omega)) (by first | omega | (simp only [E1]; omega)) (by first | omega | (simp only [E1]; omega)) (by first | omega | (simp only [E1]; omega)) (by first | omega | (simp only [E1]; omega))]; first | omega | (simp only [E1]; omega)
 have e3:IntKind.u32.wrap (BitVec.ofInt 32 (((b3:Nat):Int) + ((b2:Nat):Int) * 256 + ((b1:Nat):Int) * 65536) ||| BitVec.ofInt 32 (IntKind.u32.wrap (IntKind.u32.wrap (((b0:Nat):Int)) * 16777216))).toNat = ((b3:Nat):Int) + ((b2:Nat):Int) * 256 + ((b1:Nat):Int) * 65536 + ((b0:Nat):Int) * 16777216:=by
  rw [L7 24 _ _ (by first | omega | (simp only [E1]; omega)) (by first | omega | (simp only [E1]; omega)) (by first | omega | (simp only [E1]; omega)) (by first | omega | (simp only [E1]; omega)) (by first | omega | (simp only [E1]; omega)) (by first | omega | (simp only [E1]; omega))]; first | omega | (simp only [E1]; omega)
 rw [e1,e2,e3]
 omega
theorem Gb (b0:Nat) (h0:b0 < 256):IntKind.u32.wrap (IntKind.u8.wrap (BitVec.ofInt 8 ((b0:Nat):Int) &&& BitVec.ofInt 8 127).toNat) = ((b0 % 128:Nat):Int):=by
 rw [R3 b0 h0,E1]; omega
theorem Gc (b0 b1:Nat) (h0:b0 < 256) (h1:b1 < 256):IntKind.u32.wrap (BitVec.ofInt 32 (IntKind.u32.wrap (IntKind.u8.wrap (BitVec.ofInt 8 ((b0:Nat):Int) &&& BitVec.ofInt 8 127).toNat)) ||| BitVec.ofInt 32 (IntKind.u32.wrap (IntKind.u32.wrap (IntKind.u8.wrap (BitVec.ofInt 8 ((b1:Nat):Int) &&& BitVec.ofInt 8 127).toNat) * 128))).toNat = ((b0 % 128:Nat):Int) + ((b1 % 128:Nat):Int) * 128:=by
 have e1:IntKind.u32.wrap (BitVec.ofInt 32 (IntKind.u32.wrap (IntKind.u8.wrap (BitVec.ofInt 8 ((b0:Nat):Int) &&& BitVec.ofInt 8 127).toNat)) ||| BitVec.ofInt 32 (IntKind.u32.wrap (IntKind.u32.wrap (IntKind.u8.wrap (BitVec.ofInt 8 ((b1:Nat):Int) &&& BitVec.ofInt 8 127).toNat) * 128))).toNat = ((b0 % 128:Nat):Int) + ((b1 % 128:Nat):Int) * 128:=by
  rw [R3 b1 h1,R3 b0 h0]; rw [L7 7 _ _ (by first | omega | (simp only [E1]; omega)) (by first | omega | (simp only [E1]; omega)) (by first | omega | (simp only [E1]; omega)) (by first | omega | (simp only [E1]; omega)) (by first | omega | (simp only [E1]; omega)) (by first | omega | (simp only [E1]; omega))]; first | omega | (simp only [E1]; omega)
 rw [e1]
theorem Gd (b0 b1 b2:Nat) (h0:b0 < 256) (h1:b1 < 256) (h2:b2 < 256):IntKind.u32.wrap (BitVec.ofInt 32 (IntKind.u32.wrap (BitVec.ofInt 32 (IntKind.u32.wrap (IntKind.u8.wrap (BitVec.ofInt 8 ((b0:Nat):Int) &&& BitVec.ofInt 8 127).toNat)) ||| BitVec.ofInt 32 (IntKind.u32.wrap (IntKind.u32.wrap (IntKind.u8.wrap (BitVec.ofInt 8 ((b1:Nat):Int) &&& BitVec.ofInt 8 127).toNat) * 128))).toNat) ||| BitVec.ofInt 32 (IntKind.u32.wrap (IntKind.u32.wrap (IntKind.u8.wrap (BitVec.ofInt 8 ((b2:Nat):Int) &&& BitVec.ofInt 8 127).toNat) * 16384))).toNat = ((b0 % 128:Nat):Int) + ((b1 % 128:Nat):Int) * 128 + ((b2 % 128:Nat):Int) * 16384:=by
 have e1:IntKind.u32.wrap (BitVec.ofInt 32 (IntKind.u32.wrap (IntKind.u8.wrap (BitVec.ofInt 8 ((b0:Nat):Int) &&& BitVec.ofInt 8 127).toNat)) ||| BitVec.ofInt 32 (IntKind.u32.wrap (IntKind.u32.wrap (IntKind.u8.wrap (BitVec.ofInt 8 ((b1:Nat):Int) &&& BitVec.ofInt 8 127).toNat) * 128))).toNat = ((b0 % 128:Nat):Int) + ((b1 % 128:Nat):Int) * 128:=by
  rw [R3 b1 h1,R3 b0 h0]; rw [L7 7 _ _ (by first | omega | (simp only [E1]; omega)) (by first | omega | (simp only [E1]; omega)) (by first | omega | (simp only [E1]; omega)) (by first | omega | (simp only [E1]; omega)) (by first | omega | (simp only [E1]; omega)) (by first | omega | (simp only [E1]; omega))]; first | omega | (simp only [E1]; omega)
 have e2:IntKind.u32.wrap (BitVec.ofInt 32 (((b0 % 128:Nat):Int) + ((b1 % 128:Nat):Int) * 128) ||| BitVec.ofInt 32 (IntKind.u32.wrap (IntKind.u32.wrap (IntKind.u8.wrap (BitVec.ofInt 8 ((b2:Nat):Int) &&& BitVec.ofInt 8 127).toNat) * 16384))).toNat = ((b0 % 128:Nat):Int) + ((b1 % 128:Nat):Int) * 128 + ((b2 % 128:Nat):Int) * 16384:=by
  rw [R3 b2 h2]; rw [L7 14 _ _ (by first | omega | (simp only [E1]; omega)) (by first | omega | (simp only [E1]; omega)) (by first | omega | (simp only [E1]; omega)) (by first | omega | (simp only [E1]; omega)) (by first | omega | (simp only [E1]; omega)) (by first | omega | (simp only [E1]; omega))]; first | omega | (simp only [E1]; omega)
 rw [e1,e2]
theorem Ge (b0 b1 b2 b3:Nat) (h0:b0 < 256) (h1:b1 < 256) (h2:b2 < 256) (h3:b3 < 256):IntKind.u32.wrap (BitVec.ofInt 32 (IntKind.u32.wrap (BitVec.ofInt 32 (IntKind.u32.wrap (BitVec.ofInt 32 (IntKind.u32.wrap (IntKind.u8.wrap (BitVec.ofInt 8 ((b0:Nat):Int) &&& BitVec.ofInt 8 127).toNat)) ||| BitVec.ofInt 32 (IntKind.u32.wrap (IntKind.u32.wrap (IntKind.u8.wrap (BitVec.ofInt 8 ((b1:Nat):Int) &&& BitVec.ofInt 8 127).toNat) * 128))).toNat) ||| BitVec.ofInt 32 (IntKind.u32.wrap (IntKind.u32.wrap (IntKind.u8.wrap (BitVec.ofInt 8 ((b2:Nat):Int) &&& BitVec.ofInt 8 127).toNat) * 16384))).toNat) ||| BitVec.ofInt 32 (IntKind.u32.wrap (IntKind.u32.wrap (IntKind.u8.wrap (BitVec.ofInt 8 ((b3:Nat):Int) &&& BitVec.ofInt 8 127).toNat) * 2097152))).toNat = ((b0 % 128:Nat):Int) + ((b1 % 128:Nat):Int) * 128 + ((b2 % 128:Nat):Int) * 16384 + ((b3 % 128:Nat):Int) * 2097152:=by
 have e1:IntKind.u32.wrap (BitVec.ofInt 32 (IntKind.u32.wrap (IntKind.u8.wrap (BitVec.ofInt 8 ((b0:Nat):Int) &&& BitVec.ofInt 8 127).toNat)) ||| BitVec.ofInt 32 (IntKind.u32.wrap (IntKind.u32.wrap (IntKind.u8.wrap (BitVec.ofInt 8 ((b1:Nat):Int) &&& BitVec.ofInt 8 127).toNat) * 128))).toNat = ((b0 % 128:Nat):Int) + ((b1 % 128:Nat):Int) * 128:=by
  rw [R3 b1 h1,R3 b0 h0]; rw [L7 7 _ _ (by first | omega | (simp only [E1]; omega)) (by first | omega | (simp only [E1]; omega)) (by first | omega | (simp only [E1]; omega)) (by first | omega | (simp only [E1]; omega)) (by first | omega | (simp only [E1]; omega)) (by first | omega | (simp only [E1]; omega))]; first | omega | (simp only [E1]; omega)
 have e2:IntKind.u32.wrap (BitVec.ofInt 32 (((b0 % 128:Nat):Int) + ((b1 % 128:Nat):Int) * 128) ||| BitVec.ofInt 32 (IntKind.u32.wrap (IntKind.u32.wrap (IntKind.u8.wrap (BitVec.ofInt 8 ((b2:Nat):Int) &&& BitVec.ofInt 8 127).toNat) * 16384))).toNat = ((b0 % 128:Nat):Int) + ((b1 % 128:Nat):Int) * 128 + ((b2 % 128:Nat):Int) * 16384:=by
  rw [R3 b2 h2]; rw [L7 14 _ _ (by first | omega | (simp only [E1]; omega)) (by first | omega | (simp only [E1]; omega)) (by first | omega | (simp only [E1]; omega)) (by first | omega | (simp only [E1]; omega)) (by first | omega | (simp only [E1]; omega)) (by first | omega | (simp only [E1]; omega))]; first | omega | (simp only [E1]; omega)
 have e3:IntKind.u32.wrap (BitVec.ofInt 32 (((b0 % 128:Nat):Int) + ((b1 % 128:Nat):Int) * 128 + ((b2 % 128:Nat):Int) * 16384) ||| BitVec.ofInt 32 (IntKind.u32.wrap (IntKind.u32.wrap (IntKind.u8.wrap (BitVec.ofInt 8 ((b3:Nat):Int) &&& BitVec.ofInt 8 127).toNat) * 2097152))).toNat = ((b0 % 128:Nat):Int) + ((b1 % 128:Nat):Int) * 128 + ((b2 % 128:Nat):Int) * 16384 + ((b3 % 128:Nat):Int) * 2097152:=by
  rw [R3 b3 h3]; rw [L7 21 _ _ (by first | omega | (simp only [E1]; omega)) (by first | omega | (simp only [E1]; omega)) (by first | omega | (simp only [E1]; omega)) (by first | omega | (simp only [E1]; omega)) (by first | omega | (simp only [E1]; omega)) (by first | omega | (simp only [E1]; omega))]; first | omega | (simp only [E1]; omega)
 rw [e1,e2,e3]
theorem Gf (b0 b1 b2 b3 b4:Nat) (h0:b0 < 256) (h1:b1 < 256) (h2:b2 < 256) (h3:b3 < 256) (h4:b4 < 16):IntKind.u32.wrap (BitVec.ofInt 32 (IntKind.u32.wrap (BitVec.ofInt 32 (IntKind.u32.wrap (BitVec.ofInt 32 (IntKind.u32.wrap (BitVec.ofInt 32 (IntKind.u32.wrap (IntKind.u8.wrap (BitVec.ofInt 8 ((b0:Nat):Int) &&& BitVec.ofInt 8 127).toNat)) ||| BitVec.ofInt 32 (IntKind.u32.wrap (IntKind.u32.wrap (IntKind.u8.wrap (BitVec.ofInt 8 ((b1:Nat):Int) &&& BitVec.ofInt 8 127).toNat) * 128))).toNat) ||| BitVec.ofInt 32 (IntKind.u32.wrap (IntKind.u32.wrap (IntKind.u8.wrap (BitVec.ofInt 8 ((b2:Nat):Int) &&& BitVec.ofInt 8 127).toNat) * 16384))).toNat) ||| BitVec.ofInt 32 (IntKind.u32.wrap (IntKind.u32.wrap (IntKind.u8.wrap (BitVec.ofInt 8 ((b3:Nat):Int) &&& BitVec.ofInt 8 127).toNat) * 2097152))).toNat) ||| BitVec.ofInt 32 (IntKind.u32.wrap (IntKind.u32.wrap (((b4:Nat):Int)) * 268435456))).toNat = ((b0 % 128:Nat):Int) + ((b1 % 128:Nat):Int) * 128 + ((b2 % 128:Nat):Int) * 16384 + ((b3 % 128:Nat):Int) * 2097152 + ((b4:Nat):Int) * 268435456:=by
 have e1:IntKind.u32.wrap (BitVec.ofInt 32 (IntKind.u32.wrap (IntKind.u8.wrap (BitVec.ofInt 8 ((b0:Nat):Int) &&& BitVec.ofInt 8 127).toNat)) ||| BitVec.ofInt 32 (IntKind.u32.wrap (IntKind.u32.wrap (IntKind.u8.wrap (BitVec.ofInt 8 ((b1:Nat):Int) &&& BitVec.ofInt 8 127).toNat) * 128))).toNat = ((b0 % 128:Nat):Int) + ((b1 % 128:Nat):Int) * 128:=by
  rw [R3 b1 h1,R3 b0 h0]; rw [L7 7 _ _ (by first | omega | (simp only [E1]; omega)) (by first | omega | (simp only [E1]; omega)) (by first | omega | (simp only [E1]; omega)) (by first | omega | (simp only [E1]; omega)) (by first | omega | (simp only [E1]; omega)) (by first | omega | (simp only [E1]; omega))]; first | omega | (simp only [E1]; omega)
 have e2:IntKind.u32.wrap (BitVec.ofInt 32 (((b0 % 128:Nat):Int) + ((b1 % 128:Nat):Int) * 128) ||| BitVec.ofInt 32 (IntKind.u32.wrap (IntKind.u32.wrap (IntKind.u8.wrap (BitVec.ofInt 8 ((b2:Nat):Int) &&& BitVec.ofInt 8 127).toNat) * 16384))).toNat = ((b0 % 128:Nat):Int) + ((b1 % 128:Nat):Int) * 128 + ((b2 % 128:Nat):Int) * 16384:=by
  rw [R3 b2 h2]; rw [L7 14 _ _ (by first | omega | (simp only [E1]; omega)) (by first | omega | (simp only [E1]; omega)) (by first | omega | (simp only [E1]; omega)) (by first | omega | (simp only [E1]; omega)) (by first | omega | (simp only [E1]; omega)) (by first | omega | (simp only [E1]; omega))]; first | omega | (simp only [E1]; omega)
 have e3:IntKind.u32.wrap (BitVec.ofInt 32 (((b0 % 128:Nat):Int) + ((b1 % 128:Nat):Int) * 128 + ((b2 % 128:Nat):Int) * 16384) ||| BitVec.ofInt 32 (IntKind.u32.wrap (IntKind.u32.wrap (IntKind.u8.wrap (BitVec.ofInt 8 ((b3:Nat):Int) &&& BitVec.ofInt 8 127).toNat) * 2097152))).toNat = ((b0 % 128:Nat):Int) + ((b1 % 128:Nat):Int) * 128 + ((b2 % 128:Nat):Int) * 16384 + ((b3 % 128:Nat):Int) * 2097152:=by
  rw [R3 b3 h3]; rw [L7 21 _ _ (by first | omega | (simp only [E1]; omega)) (by first | omega | (simp only [E1]; omega)) (by first | omega | (simp only [E1]; omega)) (by first | omega | (simp only [E1]; omega)) (by first | omega | (simp only [E1]; omega)) (by first | omega | (simp only [E1]; omega))]; first | omega | (simp only [E1]; omega)
 have e4:IntKind.u32.wrap (BitVec.ofInt 32 (((b0 % 128:Nat):Int) + ((b1 % 128:Nat):Int) * 128 + ((b2 % 128:Nat):Int) * 16384 + ((b3 % 128:Nat):Int) * 2097152) ||| BitVec.ofInt 32 (IntKind.u32.wrap (IntKind.u32.wrap (((b4:Nat):Int)) * 268435456))).toNat = ((b0 % 128:Nat):Int) + ((b1 % 128:Nat):Int) * 128 + ((b2 % 128:Nat):Int) * 16384 + ((b3 % 128:Nat):Int) * 2097152 + ((b4:Nat):Int) * 268435456:=by
  rw [L7 28 _ _ (by first | omega | (simp only [E1]; omega)) (by first | omega | (simp only [E1]; omega)) (by first | omega | (simp only [E1]; omega)) (by first | omega | (simp only [E1]; omega)) (by first | omega | (simp only [E1]; omega)) (by first | omega | (simp only [E1]; omega))]; first | omega | (simp only [E1]; omega)
 rw [e1,e2,e3,e4]
theorem Cf {G:Nat → Nat → Prop} {w0 w:World} {tb:Tb} {rs:List Rw} {p n:Nat} {cs:List Value} (i:Nat) (hi:tb[i]? = some ⟨p,0,cs,true⟩) (hn:cs.length = n:=by rfl):∀ b o,D4 G w0 w tb rs b o → ¬ (b = p ∧ o < n):=by
 subst hn
 exact IX i hi
theorem O7 {G:Nat → Nat → Prop} {w0 w:World} {tb:Tb} {rs:List Rw} {p:Nat} {x y:Value} (i:Nat) (hi:tb[i]? = some ⟨p,0,[x,y],true⟩):∀ b o,D4 G w0 w tb rs b o → ¬ H2 p b o:=IX i hi
theorem WOk.immM {G:Nat → Nat → Prop} {w0 w:World} {M:Nat → Nat → Prop} {tb:Tb} {rs:List Rw} (h:WOk w0 M w tb rs) (hd:∀ b o,G b o → ¬ M b o):∀ b o,G b o → b < w0.heap.size → D4 G w0 w tb rs b o:=by
 refine fun b o hg hb=>⟨.inl hg,Nat.lt_of_lt_of_le hb h.step.size,fun ha=>hd b o hg ?_⟩
 rcases ha with ⟨i,ob,hi,hr,rfl,h1,h2⟩ | ⟨i,r,hi,hr⟩
 ·have:=(h.rw_ i ob hi hr (o - ob.off) (by omega)).1
  rw [show ob.off + (o - ob.off) = o by omega] at this
  rcases this with h3 | h3
  ·omega
  exact h3
 rcases h.ownM i r hi b hr with h3 | h3
 ·omega
 exact h3 o
section
variable {w0 w:World} {M:Nat → Nat → Prop} {tb:Tb} {rs:List Rw}
theorem WOk.layRowM {g c e size n k:Nat} {xs:List Value} (hW:WOk w0 M w tb rs) (hk:rs[k]? = some ⟨some ⟨g,0,none⟩,c,e,size,n,xs⟩) (hl:k + 1 = rs.length) (hm:w0.heap.size ≤ g) (rs':List Rw) (tb':Tb) (hr:rs.take k = rs':=by rfl) (ht:tb ++ [⟨g,0,xs,true⟩] = tb':=by rfl):WOk w0 M w tb' rs' ∧ Fr w tb rs w tb' rs':=by
 subst hr ht
 have ho:=hW.own k _ hk
 have hlive:=M0 ho (g:=g) rfl
 have hfz:∀ j,w.frozen? ⟨g,j,none⟩ = false:=fun j=>by
  rcases ho.2 with ⟨hv,_⟩ | ⟨g',cap,cur,hv,_,hg,_⟩
  ·cases hv
  simp only [Rw.v,Value.slice.injEq,Option.some.injEq,Addr.mk.injEq,and_true] at hv
  obtain ⟨rfl,_⟩:=hv
  unfold World.frozen?
  rw [hg]
  simp
 have hlt:∀ (j:Nat) (r:Rw),(rs.take k)[j]? = some r → j ≠ k ∧ rs[j]? = some r:=fun j r hj=>by
  rw [List.getElem?_take] at hj
  split at hj
  ·exact ⟨by omega,hj⟩
  cases hj
 refine ⟨(hW.rows k).add ⟨g,0,xs,true⟩ hlive (fun j v hj=>?_) (fun _ j _=>⟨.inl hm,by dsimp only; rw [Nat.zero_add]; exact hfz j⟩) (fun i q hi _=>.inl (hW.rtb k _ hk g rfl i q hi)) (fun i r hi he=>?_),⟨fun x y _ hn ha=>hn ?_,Step.refl _ _⟩⟩
 ·have:=ho.cells (g:=g) rfl j v hj
  rw [Q2] at this
  dsimp only
  exact this
 ·obtain ⟨h1,h2⟩:=hlt i r hi
  exact hW.rr k i _ r (fun e=>h1 e.symm) hk h2 g rfl he
 rcases ha with ⟨j,q,hj,h1,h2,h3,h4⟩ | ⟨j,r,hj,h1⟩
 ·by_cases hjt:j < tb.length
  ·rw [List.getElem?_append_left hjt] at hj
   exact .inl ⟨j,q,hj,h1,h2,h3,h4⟩
  rw [List.getElem?_append_right (Nat.not_lt.1 hjt)] at hj
  have hq:q = ⟨g,0,xs,true⟩:=by
   rcases Nat.eq_zero_or_pos (j - tb.length) with h | h
   ·rw [h] at hj; exact (Option.some.inj hj).symm
   rw [List.getElem?_eq_none (by simp only [List.length_cons,List.length_nil]; omega)] at hj; cases hj
  subst hq
  exact .inr ⟨k,_,hk,by rw [← h2]; rfl⟩
 exact .inr ⟨j,r,(hlt j r hj).2,h1⟩
def P3 (z:Value) (j:Nat):List Value:=(Builtin.zeroCells z.cells j).toList
variable {P:Program} {ops:Array Oper} {Q:Exit → Act → World → Prop} {n:Nat} {env:C8} {a:Act}
theorem LU {w:World} (size len cap:Nat) (A:Option Addr):(Builtin.firstCells size 0 (.slice A len cap)).run P w = .ok #[] w:=by
 cases A with
 | none=>exact run_firstCells_none w size 0 len cap
 | some b=>exact run_firstCells_some w size 0 b len cap [] (by simp) (fun j v h=>by simp at h)
theorem LV (w:World) (t tn ty e:TypeId) (A0:Option Addr) (i:TypeInfo) (z:Value) (k kn:IntKind) (ht:P.underlying t = some (.slice e)) (htn:P.underlying tn = some (.int kn)) (hi:P.info? e = some i) (hz:i.zero = some z)
  (n:Nat) (h0:0 < n) (hs:0 < i.size) (h63:(n:Int) ≤ 9223372036854775807) (h48:n * i.bytes ≤ 281474976710656) :
  (Builtin.append_ #[t,tn] ty #[.slice A0 0 0,.int k n]).run P w =
   .ok (.slice (some ⟨w.heap.size,0,none⟩) n (grownCap w n 0 e)) (w.drew.alloc (.cells (Builtin.zeroCells z.cells n ++ Builtin.zeroCells z.cells (grownCap w n 0 e - n)) e)):=by
 cases A0 with
 | none=>exact Lib.run_append_nil_zeros w t tn ty e i z k kn ht htn hi hz n h0 hs h63 h48
 | some b =>
  have hn:n ≠ 0:=by omega
  have hw:IntKind.i64.wrap (n:Int) = n:=by rw [IntKind.wrap_i64]; omega
  have h63':¬ (9223372036854775807 < (n:Int)):=by omega
  have h48':¬ (281474976710656 < Builtin.nextslicecap n 0 * i.bytes):=by rw [nextslicecap_zero h0]; omega
  have h48i:¬ (281474976710656 < (n:Int) * (i.bytes:Int)):=by
   rw [← Int.natCast_mul]
   omega
  have hneg:¬ ((n:Int) < 0):=by omega
  have hns:¬ (n * i.size = 0):=Nat.mul_ne_zero hn (by omega)
  simp [Builtin.append_,run_underlying ht,run_underlying htn,sizeOf,typeInfo,zeroValue,hi,hz,asInt,asIntOf,hw,hn,hneg,hns,h63',h48',h48i,Question.forced,LU,newRow,grownCap]
theorem LW {i d j:Nat} {A0:Option Addr} {t tn e:TypeId} {size bytes:Nat} {k kn:IntKind} {q:Int} {z:Value} {N:Act → World → Prop} (hW:WOk w0 M w tb rs) (hE:EnvOk n tb env a)
  (h:M4 tb env ops n i = some (t,tn,.slice A0 0 0,.int k q,d)) (ht:L4 P t = some (e,size,bytes)) (htn:P.underlying tn = some (.int kn)) (hz:(P.info? e).bind (·.zero) = some z)
  (hq:q = (j:Int)) (hj:0 < j) (hb:j * bytes ≤ 140737488355328)
  (K:∀ b c a' w',b = w.heap.size → w0.heap.size ≤ b → Fr w tb rs w' tb (rs ++ [⟨some ⟨b,0,none⟩,c,e,size,j,P3 z j⟩]) → WOk w0 M w' tb (rs ++ [⟨some ⟨b,0,none⟩,c,e,size,j,P3 z j⟩]) →
   EnvOk n tb ((d,.v (.slice (some ⟨b,0,none⟩) j c)) :: env) a' → N a' w'):wpOp P ops Q i N a w:=by
 subst hq
 obtain ⟨ht',inf,z',hi,hz',hzs,hs1,rfl,hsz,hbp⟩:=T3 ht
 have hzz:z' = z:=by rw [hi] at hz; simpa [hz'] using hz
 subst hzz
 obtain ⟨op,ho,hd,hrun⟩:=DD (P:=P) (w:=w) hE h
 obtain ⟨o,h1,h2,h3,h4,h5⟩:=K8 hE ho
 have hjm:j ≤ maxLen:=by
  have:=Nat.le_mul_of_pos_right j hbp
  simp only [maxLen]; omega
 have hr:=LV (P:=P) w t tn o.type e A0 inf z' k kn ht' htn hi hz' j hj (by omega) (by simp only [maxLen] at hjm; omega) (by omega)
 have hge:=grownCap_ge w j 0 e
 have hcm:=grownCap_le_maxLen w j 0 e hjm
 have hst:Step w (w.drew.alloc (.cells (Builtin.zeroCells z'.cells j ++ Builtin.zeroCells z'.cells (grownCap w j 0 e - j)) e)) B5:=(Step.drew w).trans (Step.alloc _ _) fun _ _ _ h=>h
 have hown:(w.drew.alloc (.cells (Builtin.zeroCells z'.cells j ++ Builtin.zeroCells z'.cells (grownCap w j 0 e - j)) e)).ownsRow w.heap.size e size (.slice (some ⟨w.heap.size,0,none⟩) j (grownCap w j 0 e)) j (P3 z' j):=by
  refine ⟨by unfold P3; rw [Array.length_toList,size_zeroCells,hzs,hs1],.inr ⟨w.heap.size,grownCap w j 0 e,_,rfl,Nat.le_refl _,Bn w.drew _,hge,hcm,?_,?_⟩⟩
  ·rw [Array.size_append,size_zeroCells,size_zeroCells,hzs,hs1,← Nat.add_mul]
   congr 1
   omega
  unfold P3
  rw [Array.toList_append]
  exact List.take_left' (by rw [Array.length_toList,size_zeroCells,hzs,hs1])
 simp only [wpOp,h1]
 have:Region.wanted o (yielded ops a.tmps) = true:=by first | exact h2 | simp [Region.wanted,h2]
 rw [this]
 simp only [if_true]
 refine .inl ?_
 unfold Oper.wp
 rw [hrun o _ _ h5 hr,Oper.upon,h3]
 exact K w.heap.size _ _ _ rfl hW.step.size (Fr.fresh tb rs hst ⟨some ⟨w.heap.size,0,none⟩,grownCap w j 0 e,e,size,j,P3 z' j⟩ (Nat.le_refl _) hown) (hW.fresh hst ⟨some ⟨w.heap.size,0,none⟩,grownCap w j 0 e,e,size,j,P3 z' j⟩ (Nat.le_refl _) hown) (hE.put hd (.v _) trivial)
theorem LX (z:Value) (j:Nat):P3 z (j + 1) = z.cells.toList ++ P3 z j:=by
 refine List.ext_getElem? fun i=>?_
 unfold P3 Builtin.zeroCells
 rw [List.getElem?_append]
 simp only [Array.toList_map,Array.toList_range,List.getElem?_map,Array.length_toList,Array.getElem?_toList]
 by_cases h:i < z.cells.size
 ·have h2:i < (j + 1) * z.cells.size:=Nat.lt_of_lt_of_le h (Nat.le_mul_of_pos_left _ (Nat.succ_pos j))
  rw [if_pos h,List.getElem?_range h2,Option.map_some,Nat.mod_eq_of_lt h,getElem!_pos z.cells i h,Array.getElem?_eq_getElem h]
 rw [if_neg h]
 by_cases h2:i < (j + 1) * z.cells.size
 ·have h3:i - z.cells.size < j * z.cells.size:=by rw [Nat.succ_mul] at h2; omega
  rw [List.getElem?_range h2,List.getElem?_range h3,Option.map_some,Option.map_some,Nat.mod_eq_sub_mod (Nat.not_lt.1 h)]
 have h3:¬ i - z.cells.size < j * z.cells.size:=by rw [Nat.succ_mul] at h2; omega
 rw [List.getElem?_eq_none (by simpa using h2),List.getElem?_eq_none (by simpa using h3)]
end
section
variable {P:Program} {ops:Array Oper} {Q:Exit → Act → World → Prop} {n:Nat} {tb:Tb} {env:C8} {rs:List Rw} {w0:World} {M:Nat → Nat → Prop} {a:Act} {w:World}
theorem CV {i d j:Nat} {t e:TypeId} {size bytes:Nat} (z:Value) (cs:List Value) {N:Act → World → Prop} (hW:WOk w0 M w tb rs) (hE:EnvOk n tb env a)
  (K:∀ b a' w',b = w.heap.size → w0.heap.size ≤ b → Fr w tb rs w' (tb ++ [⟨b,0,cs,true⟩]) rs → WOk w0 M w' (tb ++ [⟨b,0,cs,true⟩]) rs → EnvOk n (tb ++ [⟨b,0,cs,true⟩]) ((d,.v (.slice (some ⟨b,0,none⟩) j j)) :: env) a' → N a' w')
  (h:DL env ops n i = some (t,((j:Nat):Int),((j:Nat):Int),d):=by kernel_rfl) (ht:L4 P t = some (e,size,bytes):=by kernel_rfl) (hz:(P.info? e).bind (·.zero) = some z:=by kernel_rfl) (hcs:(madeCells z.cells (j * size)).toList = cs:=by kernel_rfl) (hb:Nat.ble (bytes * j) 1000000 = true:=by kernel_rfl):wpOp P ops Q i N a w:=by
 obtain ⟨ht',inf,z',hi,hz',hzs,hs1,rfl,hsz,hbp⟩:=T3 ht
 obtain ⟨op,ho,hd,kl,kc,hrun⟩:=HB (P:=P) (w:=w) hE h
 have hzz:z' = z:=by rw [hi] at hz; simp only [Option.bind_some,hz',Option.some.injEq] at hz; exact hz
 subst hzz
 have hb':=Nat.le_of_ble_eq_true hb
 have hjm:j ≤ 1000000:=by
  have:=Nat.le_mul_of_pos_left j hbp
  omega
 have hr:=run_make (P:=P) w t e inf z' ht' hi hz' kl kc (j:Int) (j:Int) (by omega) (Int.le_refl _) (by
  have:((inf.bytes * j:Nat):Int) ≤ 281474976710656:=by omega
  rwa [Int.natCast_mul] at this) (by omega)
 simp only [Int.toNat_natCast,hs1] at hr
 have hca:madeCells z'.cells (j * size) = cs.toArray:=by rw [← hcs]
 rw [hca] at hr
 refine N0 hE ho (fun o hop=>hrun o _ _ hop hr) ?_
 refine K w.heap.size _ _ rfl hW.step.size (Fr.alloc w tb rs _ cs true) (hW.alloc cs e) ?_
 exact (hE.put hd (.v (.slice (some ⟨w.heap.size,0,none⟩) j j)) trivial).grow _
theorem Cg {i d:Nat} {src dst e:TypeId} {s:ByteArray} {N:Act → World → Prop} (hW:WOk w0 M w tb rs) (hE:EnvOk n tb env a) (hsm:s.size ≤ 1099511627776)
  (K:∀ b c a' w',Fr w tb rs w' tb rs → WOk w0 M w' tb rs → (∀ G,Octs w' (D4 G w0 w' tb rs) (some ⟨b,0,none⟩) c (sb s)) → EnvOk n tb ((d,.v (.slice (some ⟨b,0,none⟩) (sb s).length c)) :: env) a' → N a' w')
  (h:Cd tb env ops n i = some (src,dst,.string s,d):=by kernel_rfl) (hs:P.underlying src = some .string:=by kernel_rfl) (hd:P.underlying dst = some (.slice e):=by kernel_rfl) (he:P.underlying e = some (.int .u8):=by kernel_rfl):wpOp P ops Q i N a w:=by
 unfold Cd at h
 split at h
 ·rename_i src' dst' x d' hop
  split at h
  ·rename_i v hx
   simp only [Option.some.injEq,Prod.mk.injEq] at h
   obtain ⟨rfl,rfl,rfl,rfl⟩:=h
   have hdn:=(K8 hE hop).choose_spec.2.2.2.1
   have hrun:=Lib.run_convert_string_bytes (P:=P) w src' dst' e s hs hd he
   have hst:Step w (Lib.bytesWorld w e s) B5:=⟨rfl,rfl,by rw [Lib.bytesWorld_size]; omega,fun b hb=>by rw [Lib.bytesWorld_at_old w e s b hb]; exact Keeps.refl _ _⟩
   have hlen:(sb s).length = s.size:=Bp s
   have e1:=(F4 hE hx).1
   refine N0 hE hop (v:=.slice (some ⟨w.heap.size,0,none⟩) (sb s).length (grownCap w s.size 0 e)) (w':=Lib.bytesWorld w e s) (fun o' ho'=>?_) (K w.heap.size _ _ _ (Fr.nil tb rs hst) (hW.next_nil hst) (fun G=>?_) (hE.put hdn (.v _) trivial))
   ·unfold execOp
    rw [ho']
    simp only [SV.val] at e1
    simp only [e1,Sem.run_bind,hrun,Result.andThen_ok,Sem.run_pure,hlen]
   refine ⟨by rw [hlen]; exact grownCap_ge w s.size 0 e,by rw [hlen]; exact hsm,fun h=>(by cases h),fun ad hA _=>?_⟩
   obtain rfl:=Option.some.inj hA
   refine ⟨w.heap.size,0,rfl,fun q hq=>⟨rfl,fun j v hj=>?_⟩⟩
   have hj0:j = 0:=by
    cases j with
    | zero=>rfl
    | succ j=>simp at hj
   subst hj0
   simp only [List.getElem?_cons_zero,Option.some.injEq] at hj
   subst hj
   have h2:(Lib.bytesWorld w e s).heap.size = w.heap.size + 1:=Lib.bytesWorld_size w e s
   refine ⟨⟨.inr hW.step.size,by rw [h2]; exact Nat.lt_succ_self _,fun ha=>?_⟩,?_⟩
   ·have:=hW.act_live ha
    exact absurd this (Nat.lt_irrefl _)
   rw [Nat.zero_add,Nat.mul_one,Nat.add_zero,Lib.bytesWorld_cell w e s q (by rw [← hlen]; exact hq)]
   rfl
  cases h
 cases h
end
structure TBox (w:World) (B eT:Nat) (A:Option Addr) (cp n:Nat) (x0 x1 x2 x3:Value) (xs:List Value):Prop where
 str:Str w B [x0,x1,x2,x3,.slice A n cp]
 own:w.ownsRow 0 eT 2 (.slice A n cp) n xs
 ne:A.map (·.block) ≠ some B
def TM (B:Nat) (A:Option Addr):Nat → Nat → Prop:=fun b o=>(b = B ∧ o < 5) ∨ G1 A b o
def LY (w:World) (B eT:Nat) (A:Option Addr) (n:Nat) (x0 x1 x2 x3:Value) (xs:List Value) (k:Int) (x:Bs):Ending → World → Prop:=fun en w' =>
 en = .returned (.tuple #[]) ∧ ∃ A' cp' Av cv,TBox w' B eT A' cp' (n + 1) x0 x1 x2 x3 (xs ++ [.int .u32 k,.slice Av x.length cv]) ∧ Octs w' (fun b o=>(w.heap.size ≤ b ∨ A.map (·.block) = some b) ∧ ¬ TM B A' b o) Av cv x ∧ N3 w A A' ∧ Step w w' (TM B A)
def Ed (P:Program) (fc eT:Nat):Prop:=∀ (w:World) (B cp c n:Nat) (k:Int) (A Av:Option Addr) (x:Bs) (x0 x1 x2 x3:Value) (xs:List Value) (G:Nat → Nat → Prop),TBox w B eT A cp n x0 x1 x2 x3 xs → Octs w G Av c x → (∀ b o,G b o → ¬ TM B A b o) → n ≤ 1000000 →
 Calls P fc [.int .u32 k,.slice Av x.length c,.pointer (some ⟨B,0,none⟩)].toArray w (LY w B eT A n x0 x1 x2 x3 xs k x)
theorem TBox.wok {w:World} {B eT cp n:Nat} {A:Option Addr} {x0 x1 x2 x3:Value} {xs:List Value} (h:TBox w B eT A cp n x0 x1 x2 x3 xs):WOk w (TM B A) w [⟨B,0,[x0,x1,x2,x3,.slice A n cp],true⟩] [⟨A,cp,eT,2,n,xs⟩]:=by
 have h1:WOk w (TM B A) w [⟨B,0,[x0,x1,x2,x3,.slice A n cp],true⟩] [] :=
  (WOk.start w _).add ⟨B,0,[x0,x1,x2,x3,.slice A n cp],true⟩ (World.lt_of_cell (h.str.at_ 0 _ rfl)) (fun j v hj=>by rw [Nat.zero_add]; exact h.str.at_ j v hj) (fun _ j hj=>⟨.inr (.inl ⟨rfl,by rw [Nat.zero_add]; exact hj⟩),by rw [Nat.zero_add]; exact h.str.frz j hj⟩) (fun i ob hi=>by simp at hi) (fun i r hi=>by simp at hi)
 refine h1.addRow ⟨A,cp,eT,2,n,xs⟩ h.own (fun g hg=>.inr fun o=>.inr hg) (fun i ob hi=>?_) (fun i r hi=>by simp at hi)
 cases i with
 | zero =>
  simp only [List.getElem?_cons_zero,Option.some.injEq] at hi; subst hi
  exact h.ne
 | succ i=>simp at hi
theorem Gg {w0 w:World} {B eT cp n:Nat} {A0 A:Option Addr} {x0 x1 x2 x3:Value} {xs:List Value} {rs:List Rw} (hW:WOk w0 (TM B A0) w [⟨B,0,[x0,x1,x2,x3,.slice A n cp],true⟩] (⟨A,cp,eT,2,n,xs⟩ :: rs)) (hB:B < w0.heap.size):TBox w B eT A cp n x0 x1 x2 x3 xs ∧ N3 w0 A0 A ∧ Step w0 w (TM B A0):=by
 refine ⟨⟨Str.of hW 0 rfl,hW.own 0 _ rfl,fun e=>hW.rtb 0 _ rfl B e 0 _ rfl rfl⟩,fun g hg=>?_,hW.step⟩
 rcases hW.ownM 0 _ rfl g hg with h | h
 ·exact .inr h
 rcases h 5 with ⟨_,h⟩ | h
 ·omega
 exact .inl h
theorem Gh {w0 w:World} {B eT cp n c e8:Nat} {A0 A Av:Option Addr} {cs:List Value} {xs:List Value} {s:Bs} (hl:cs.length = 5) (hW:WOk w0 (TM B A0) w [⟨B,0,cs,true⟩] [⟨A,cp,eT,2,n,xs⟩,B6 Av c e8 s]) (hsm:s.length ≤ 1099511627776):Octs w (fun b o=>(w0.heap.size ≤ b ∨ A0.map (·.block) = some b) ∧ ¬ TM B A b o) Av c s:=by
 refine BT (hW.own 1 _ rfl) hsm fun g hg o=>⟨?_,?_⟩
 ·rcases hW.ownM 1 _ rfl g hg with h | h
  ·exact .inl h
  rcases h 5 with ⟨_,h⟩ | h
  ·omega
  exact .inr h
 rintro (⟨rfl,_⟩ | h)
 ·exact hW.rtb 1 _ rfl g hg 0 _ rfl rfl
 exact hW.rr 1 0 _ _ (by decide) rfl rfl g hg h
theorem Gi {fc eT B b o:Nat} {m:Option Nat} {u:List (Int × Bs)} {w:World} {F:Nat → Nat → Prop} {x0 x1 x2 x3:Value} (hcf:∀ args w,(callFunc fc args).run Tryz.prog w = .ok (.enter fc args) w) (hone:Ed Tryz.prog fc eT) (hat:AtF w F b o [.map m]) (hm:MapR w F m u) (hB:Str w B [x0,x1,x2,x3,.slice none 0 0]) (hF:∀ b o,F b o → ¬ (b = B ∧ o < 5)) (hul:u.length ≤ 1000000) :
  Calls Tryz.prog 58 [.pointer (some ⟨b,o,none⟩),I0 fc (.pointer (some ⟨B,0,none⟩))].toArray w (fun e w'=>e = .returned (.tuple #[]) ∧ ∃ A c,Str w' B [x0,x1,x2,x3,.slice A u.length c] ∧ TagsR w' (fun b o=>w.heap.size ≤ b) A c u ∧ Step w w' (fun b o=>b = B ∧ o < 5)):=by
 have hBl:B < w.heap.size:=World.lt_of_cell (hB.at_ 0 _ rfl)
 refine (LH (M:=fun b o=>b = B ∧ o < 5) hcf (fun w7 j w8=>∃ A cp xs css,TBox w8 B eT A cp j x0 x1 x2 x3 xs ∧ Tags w8 (fun b o=>w7.heap.size ≤ b ∧ ¬ TM B A b o) xs (u.take j) css ∧ (∀ g,A.map (·.block) = some g → w7.heap.size ≤ g) ∧ Step w7 w8 (fun b o=>b = B ∧ o < 5)) hat hm hF (fun b o h=>by rw [h.1]; exact hBl) (fun w7 hs=>?_) (fun w7 j w8 h=>by obtain ⟨_,_,_,_,_,_,_,h⟩:=h; exact h) (fun w7 hs j k x w8 Ax cx hI hu hk hox=>?_) hul).mono ?_
 ·exact ⟨none,0,[],[],⟨hB.move hs fun _ h=>h,World.ownsRow_nil _ 0 eT 2,fun h=>by cases h⟩,Tags.nil _ _,fun g h=>(by cases h),Step.refl _ _⟩
 ·obtain ⟨A,cp,xs,css,hbx,hT,hA,hs8⟩:=hI
  have hj:j < u.length:=(List.getElem?_eq_some_iff.1 hu).1
  refine (hone w8 B cp cx j k A Ax x x0 x1 x2 x3 xs _ hbx hox (fun b o hf=>?_) (by omega)).mono ?_
  ·rintro (h | h)
   ·exact hF _ _ hf.1 h
   have:=hA b h; have:=hf.2; omega
  rintro e w9 ⟨rfl,A',cp',Av,cv,hbx',ho',hn,hs9⟩
  refine ⟨rfl,A',cp',_,css ++ [[.int .u32 k,.slice Av x.length cv]],hbx',?_,fun g hg=>?_,hs8.trans hs9 fun b o hb h=>?_⟩
  ·rw [V0 hu]
   have e1:Tags w9 (fun b o=>w7.heap.size ≤ b ∧ ¬ TM B A' b o) xs (u.take j) css:=hT.move hs9 (fun b o h _=>h.2) (fun b o h hb=>⟨h.1,fun h'=>by
    rcases h' with h' | h'
    ·exact h.2 (.inl h')
    rcases hn b h' with h' | h'
    ·exact h.2 (.inr h')
    omega⟩)
   have e2:Octs w9 (fun b o=>w7.heap.size ≤ b ∧ ¬ TM B A' b o) Av cv x:=ho'.move (Step.refl _ B5) B0 fun b o h _=>⟨by
    rcases h.1 with h' | h'
    ·exact Nat.le_trans hs8.size h'
    exact hA b h',h.2⟩
   exact e1.snoc (c:=[.int .u32 k,.slice Av x.length cv]) (x:=(k,x)) ⟨⟨_,_,rfl,e2⟩,hk.1,hk.2⟩
  ·rcases hn g hg with h | h
   ·exact hA g h
   exact Nat.le_trans hs8.size h
  rcases h with h | h
  ·exact h
  have:=hA b h; omega
 rintro e w' ⟨rfl,w7,hs,A,cp,xs,css,hbx,hT,hA,hs8⟩
 rw [List.take_length] at hT
 refine ⟨rfl,A,cp,hbx.str,?_,(hs.mono (N:=fun b o=>b = B ∧ o < 5) fun _ _ _ f=>f.elim).trans hs8 fun b o _ h=>h⟩
 exact ((hT.move (Step.refl _ B5) B0 fun b o h _=>Nat.le_trans hs.size h.1).slots (F:=fun b o=>w.heap.size ≤ b) hbx.own rfl (by omega) fun g hg o=>Nat.le_trans hs.size (hA g hg))
def T9 (A:Option Addr) (s:ByteArray):Tree:=.mk 0 (if A.isNone = true then [] else sb s) A.isNone [] []
abbrev P8:Nat → Nat → Prop:=fun _ _=>False
theorem WOk.strOut {G:Nat → Nat → Prop} {w0 w:World} {tb:Tb} {rs:List Rw} {p:Nat} {cs:List Value} (tb':Tb) (hW:WOk w0 B5 w tb rs) (ht:tb' ++ [⟨p,0,cs,true⟩] = tb:=by rfl):AtF w (D4 G w0 w tb' rs) p 0 cs:=fun j v hj=>by
 subst ht
 have hi:(tb' ++ [(⟨p,0,cs,true⟩:Ob)])[tb'.length]? = some ⟨p,0,cs,true⟩:=by rw [List.getElem?_append_right (Nat.le_refl _),Nat.sub_self]; rfl
 have h1:=hW.cells _ _ hi j v hj
 have hlt:j < cs.length:=(List.getElem?_eq_some_iff.1 hj).1
 refine ⟨⟨?_,hW.live _ _ hi,fun ha=>?_⟩,h1⟩
 ·rcases (hW.rw_ _ _ hi rfl j hlt).1 with h2 | h2
  ·exact .inr h2
  exact h2.elim
 rcases ha with ⟨k,ob,h2,h3,h4,h5,h6⟩ | ⟨k,r,h2,h3⟩
 ·have hk:k < tb'.length:=(List.getElem?_eq_some_iff.1 h2).1
  have h7:(tb' ++ [(⟨p,0,cs,true⟩:Ob)])[k]? = some ob:=by rw [List.getElem?_append_left hk]; exact h2
  rcases hW.apart k _ ob _ (by omega) h7 hi (.inr rfl) with h8 | h8 | h8
  ·exact h8 h4
  ·simp only [Nat.zero_add] at h5 h6; simp only [Nat.le_zero] at h8; omega
  simp only [Nat.zero_add] at h5 h6 h8; omega
 exact hW.rtb k r h2 p h3 _ _ hi rfl
theorem LZ {u:List (Int × Bs)} (h:P7 u) {i j:Nat} {k k':Int} {s s':Bs} (hi:u[i]? = some (k,s)) (hj:u[j]? = some (k',s')) (hij:j < i):¬ k < k':=by
 obtain ⟨h1,h2⟩:=List.getElem?_eq_some_iff.1 hi
 obtain ⟨h3,h4⟩:=List.getElem?_eq_some_iff.1 hj
 have:=List.pairwise_iff_getElem.1 h j i h3 h1 hij
 rw [h2,h4] at this
 simp only at this
 omega
section
variable {w0 w:World} {tb:Tb} {rs:List Rw} {F:Nat → Nat → Prop}
theorem WOk.objFp (hW:WOk w0 B5 w tb rs) (i:Nat) {b:Nat} {cs:List Value} (hi:tb[i]? = some ⟨b,0,cs,true⟩):AtF w (Fp F w0) b 0 cs:=fun j v hj=>by
 have hlt:=(List.getElem?_eq_some_iff.1 hj).1
 refine ⟨?_,hW.cells i _ hi j v hj⟩
 rcases (hW.rw_ i _ hi rfl j hlt).1 with h | h
 ·exact .inr h
 exact h.elim
def TrL (w:World) (F:Nat → Nat → Prop):List (List Value) → List Tree → Prop
 | [],[]=>True
 | c :: cs,x :: xs=>TreeR w F c x ∧ TrL w F cs xs
 | _,_=>False
theorem TrL.move {w w':World} {F F' M:Nat → Nat → Prop} (hs:Step w w' M) (hM:∀ b o,F b o → b < w.heap.size → ¬ M b o) (hF:∀ b o,F b o → b < w.heap.size → F' b o):∀ {cs:List (List Value)} {l:List Tree},TrL w F cs l → TrL w' F' cs l
 | [],[],_=>trivial
 | _ :: _,_ :: _,h=>⟨h.1.move hs hM hF,TrL.move hs hM hF h.2⟩
 | [],_ :: _,h=>h.elim
 | _ :: _,[],h=>h.elim
theorem TrL.len:∀ {cs:List (List Value)} {l:List Tree},TrL w F cs l → cs.length = l.length
 | [],[],_=>rfl
 | _ :: _,_ :: _,h=>congrArg (· + 1) (TrL.len h.2)
 | [],_ :: _,h=>h.elim
 | _ :: _,[],h=>h.elim
theorem TrL.five:∀ {cs:List (List Value)} {l:List Tree},TrL w F cs l → ∀ c ∈ cs,c.length = 5
 | [],[],_=>fun c hc=>by cases hc
 | _ :: _,_ :: _,h=>fun c hc=>by
  rcases List.mem_cons.1 hc with rfl | hc
  ·exact h.1.five
  exact TrL.five h.2 c hc
 | [],_ :: _,h=>h.elim
 | _ :: _,[],h=>h.elim
theorem TrL.get:∀ {cs:List (List Value)} {l:List Tree},TrL w F cs l → ∀ (i:Nat) (x:Tree),l[i]? = some x → TreeR w F (cs.getD i []) x
 | [],[],_,i,x,hx=>by simp at hx
 | _ :: _,_ :: _,h,0,x,hx=>by
  simp only [List.getElem?_cons_zero,Option.some.injEq] at hx
  subst hx
  exact h.1
 | _ :: _,_ :: _,h,i + 1,x,hx=>TrL.get h.2 i x hx
 | [],_ :: _,h,_,_,_=>h.elim
 | _ :: _,[],h,_,_,_=>h.elim
theorem Jb {b:Nat}:∀ (css:List (List Value)) (o:Nat),AtF w F b o css.flatten → (∀ c ∈ css,c.length = 5) → ∀ i,i < css.length → (css.getD i []).length = 5 ∧ AtF w F b (o + i * 5) (css.getD i [])
 | [],o,h,hl,i,hi=>absurd hi (Nat.not_lt_zero _)
 | c :: r,o,h,hl,0,_=>⟨hl c List.mem_cons_self,fun j v hj=>by
   have hj':c[j]? = some v:=hj
   have:=h j v (by rw [List.flatten_cons,List.getElem?_append_left (List.getElem?_eq_some_iff.1 hj').1]; exact hj')
   rw [show o + 0 * 5 + j = o + j by omega]
   exact this⟩
 | c :: r,o,h,hl,i + 1,hi=>by
  have hc:=hl c List.mem_cons_self
  have:=Jb r (o + 5) (fun j v hj=>by
   have:=h (5 + j) v (by rw [List.flatten_cons,List.getElem?_append_right (by omega),show 5 + j - c.length = j by omega]; exact hj)
   rw [show o + 5 + j = o + (5 + j) by omega]
   exact this) (fun d hd=>hl d (List.mem_cons_of_mem _ hd)) i (by simpa using hi)
  rw [show o + (i + 1) * 5 = o + 5 + i * 5 by omega]
  exact this
theorem Ma {b:Nat} {css:List (List Value)} {l:List Tree} (h:AtF w F b 0 css.flatten) (hT:TrL w F css l) (hsm:l.length ≤ 1099511627776):Slots w F 5 (some ⟨b,0,none⟩) l.length l.length (fun i=>css.getD i []) :=
 ⟨Nat.le_refl _,hsm,fun h=>(by cases h),fun ad hA _=>⟨b,0,(Option.some.inj hA).symm,fun i hi=>Jb css 0 h hT.five i (by rw [hT.len]; exact hi)⟩⟩
theorem Trees.xslen {w:World} {xs:List Value} {l:List Tree} {css:List (List Value)} (h:Trees w F xs l css):xs.length = l.length * 5:=by
 have h1:∀ css:List (List Value),(∀ c ∈ css,c.length = 5) → css.flatten.length = css.length * 5:=fun css hc=>by
  induction css with
  | nil=>rfl
  | cons c r ih =>
   rw [List.flatten_cons,List.length_append,hc c List.mem_cons_self,ih fun d hd=>hc d (List.mem_cons_of_mem _ hd),List.length_cons]
   omega
 rw [h.flat.eq,h1 css,h.len]
 intro c hc
 obtain ⟨i,hi,rfl⟩:=List.getElem_of_mem hc
 have hl:=h.len
 exact (h.each i _ _ (List.getElem?_eq_getElem hi) (List.getElem?_eq_getElem (show i < l.length by omega))).five
theorem CW {xs zs cs:List Value} {k:Nat} (hx:xs.length = k * 5) (hz:zs.length = cs.length:=by rfl):K5 (xs ++ zs) (k * 5) cs = xs ++ cs:=by
 unfold K5
 rw [List.take_left' hx,List.drop_of_length_le (by rw [List.length_append]; omega),List.append_nil]
theorem Gj (hW:WOk w0 B5 w tb rs) {k:Nat} {A:Option Addr} {c e n:Nat} {xs:List Value} {l:List Tree} {css:List (List Value)} {b:Bool} (hk:rs[k]? = some ⟨A,c,e,5,n,xs⟩) (hT:Trees w (D4 F w0 w tb rs) xs l css) (hn:n = l.length) (hsm:l.length ≤ 1099511627776):TreeR w (Fp F w0) [.int .i64 0,.slice none 0 0,.bool b,.slice A n c,.slice none 0 0] (.mk 0 [] b l []):=by
 have h:=Cb hW hk hT hn hsm
 subst hn
 exact TreeR.mk (s:=[]) (u:=[]) _ (Octs.nil _ _) h.1 h.2 (TagsR.nil _ _)
theorem take_range {L k:Nat} {f:Nat → Tree} (h:k < L):((List.range L).map f).take (k + 1) = ((List.range L).map f).take k ++ [f k] :=
 V0 (by rw [List.getElem?_map,List.getElem?_range h]; rfl)
theorem Ci {L k:Nat} {f:Nat → Tree} (h:L ≤ k):((List.range L).map f).take k = (List.range L).map f:=List.take_of_length_le (by rw [List.length_map,List.length_range]; exact h)
theorem J4 {L:Nat} {f:Nat → Tree}:((List.range L).map f).length = L:=by rw [List.length_map,List.length_range]
theorem CX (hW:WOk w0 B5 w tb rs) (i:Nat) {b n2 c3:Nat} {A3:Option Addr} {u:List (Int × Bs)} {css:List (List Value)} {cs:List Value} {l:List Tree} (hi:tb[i]? = some ⟨b,0,cs,true⟩) (hT':TrL w (Fp F w0) css l) (hU:TagsR w (Fp F w0) A3 c3 u) (hf:css.flatten = cs:=by rfl) (hl:l.length = n2:=by rfl) (hn:Nat.ble n2 1000000 = true:=by kernel_rfl) :
  O9 w0 F (.mk 0 [] false l u) (.returned (.agg #[.int .i64 0,.slice none 0 0,.bool false,.slice (some ⟨b,0,none⟩) n2 n2,.slice A3 u.length c3])) w:=by
 subst hf
 subst hl
 have hn':=Nat.le_of_ble_eq_true hn
 exact ⟨_,rfl,TreeR.mk (s:=[]) _ (Octs.nil _ _) (Ma (hW.objFp i hi) hT' (by omega)) hT'.get hU,hW.step⟩
end
theorem Jc {size:Nat}:∀ {css:List (List Value)},(∀ c ∈ css,c.length = size) → css.flatten.length = css.length * size
 | [],_=>by simp
 | c :: r,h=>by
  have h1:=Jc (css:=r) fun x hx=>h x (List.mem_cons_of_mem _ hx)
  have h2:=h c (List.mem_cons_self ..)
  rw [List.flatten_cons,List.length_append,h1,h2,List.length_cons,Nat.add_mul]; omega
theorem Gk {n size:Nat} {cs:Nat → List Value} (h:∀ i,i < n → (cs i).length = size):∀ c ∈ (List.range n).map cs,c.length = size:=fun c hc=>by
 obtain ⟨i,hi,rfl⟩:=List.mem_map.1 hc
 exact h i (List.mem_range.1 hi)
theorem Mb {n:Nat} {cs:Nat → List Value} {i:Nat} (hi:i < n):((List.range n).map cs).getD i [] = cs i:=by
 rw [List.getD_eq_getElem?_getD,List.getElem?_map,List.getElem?_range hi]; rfl
theorem Slots.src {w:World} {F:Nat → Nat → Prop} {size:Nat} {A:Option Addr} {c n:Nat} {cs:Nat → List Value} (h:Slots w F size A c n cs) (hz:0 < size) (hl:∀ i,i < n → (cs i).length = size) (one:∀ i,i < n → ∀ u ∈ cs i,u.oneCell' = true) :
  Src w A n size ((List.range n).map cs).flatten:=by
 have he:=Gk hl
 have hlen:((List.range n).map cs).flatten.length = n * size:=by rw [Jc he]; simp
 refine ⟨hlen,fun hA=>(h.none_ hA).1,fun ad hA j u hu=>?_,fun u hu=>?_⟩
 ·have hj:j < n * size:=by rw [← hlen]; exact (List.getElem?_eq_some_iff.1 hu).1
  have hn:0 < n:=by
   rcases Nat.eq_zero_or_pos n with rfl | h0
   ·simp at hj
   exact h0
  have hi:j / size < n:=Nat.div_lt_of_lt_mul (by rw [Nat.mul_comm]; exact hj)
  have hr:j % size < size:=Nat.mod_lt _ hz
  have hg:=CB he (j / size) (j % size) (by simpa using hi) hr
  rw [Mb hi,show j / size * size + j % size = j by rw [Nat.mul_comm]; exact Nat.div_add_mod j size,hu] at hg
  obtain ⟨b,o,rfl,h2⟩:=h.some_ ad hA hn
  have:=((h2 (j / size) hi).2 (j % size) u hg).2
  rw [show o + j / size * size + j % size = o + j by rw [Nat.add_assoc,Nat.mul_comm (j / size),Nat.div_add_mod]] at this
  rw [Q2]
  exact this
 obtain ⟨l,hl',hu'⟩:=List.mem_flatten.1 hu
 obtain ⟨i,hi,rfl⟩:=List.mem_map.1 hl'
 exact one i (List.mem_range.1 hi) u hu'
theorem Mc {w:World} {e size l1 l2:Nat} {A:Option Addr} {c:Nat} {c1 c2:Nat → List Value} (ho:w.ownsRow 0 e size (.slice A (l1 + l2) c) (l1 + l2) (((List.range l1).map c1).flatten ++ ((List.range l2).map c2).flatten)) (hsm:l1 + l2 ≤ 1099511627776)
  (h1:∀ i,i < l1 → (c1 i).length = size ∧ ∀ u ∈ c1 i,u.oneCell' = true) (h2:∀ i,i < l2 → (c2 i).length = size ∧ ∀ u ∈ c2 i,u.oneCell' = true) {F:Nat → Nat → Prop} (hF:∀ g,A.map (·.block) = some g → ∀ o,F g o) :
  Slots w F size A c (l1 + l2) (fun i=>if i < l1 then c1 i else c2 (i - l1)):=by
 rw [← List.flatten_append] at ho
 have he:∀ x ∈ (List.range l1).map c1 ++ (List.range l2).map c2,x.length = size:=fun x hx=>by
  rcases List.mem_append.1 hx with hx | hx
  ·exact Gk (fun i hi=>(h1 i hi).1) x hx
  exact Gk (fun i hi=>(h2 i hi).1) x hx
 refine Hu ho (fun u hu=>?_) hsm hF (fun i hi=>?_) fun i hi j hj=>?_
 ·obtain ⟨l,hl',hu'⟩:=List.mem_flatten.1 hu
  rcases List.mem_append.1 hl' with hx | hx
  ·obtain ⟨i,hi,rfl⟩:=List.mem_map.1 hx; exact (h1 i (List.mem_range.1 hi)).2 u hu'
  obtain ⟨i,hi,rfl⟩:=List.mem_map.1 hx; exact (h2 i (List.mem_range.1 hi)).2 u hu'
 ·split
  ·exact (h1 i ‹_›).1
  exact (h2 (i - l1) (by omega)).1
 rw [← CB he i j (by simpa using hi) hj]
 rw [List.getD_eq_getElem?_getD,List.getElem?_append]
 simp only [List.length_map,List.length_range]
 split
 ·rw [List.getElem?_map,List.getElem?_range ‹_›]; rfl
 rw [List.getElem?_map,List.getElem?_range (by omega)]; rfl
theorem WOk.giveF {G:Nat → Nat → Prop} {w0 w:World} {tb:Tb} {rs:List Rw} {r:Rw} (hW:WOk w0 B5 w tb rs) (k:Nat) (rs':List Rw) (hk:rs[k]? = some r) (hr:rs.take k = rs':=by rfl):∀ g,r.A.map (·.block) = some g → ∀ o,D4 G w0 w tb rs' g o:=fun g hg o=>by
 subst hr
 have hb:=M0 (hW.own k _ hk) (r:=r) hg
 refine ⟨?_,hb,fun ha=>?_⟩
 ·rcases hW.ownM k _ hk g hg with h2 | h2
  ·exact .inr h2
  exact (h2 0).elim
 rcases ha with ⟨i,ob,h2,_,h3,_⟩ | ⟨i,r',h2,h3⟩
 ·exact hW.rtb k _ hk g hg i ob h2 h3
 rw [List.getElem?_take] at h2
 split at h2
 ·rename_i hlt
  exact hW.rr k i _ r' (by omega) hk h2 g hg h3
 cases h2
theorem Y1 {w:World} {F:Nat → Nat → Prop} {e n c:Nat} {A:Option Addr} {xs:List Value} {l:List Tree} {css:List (List Value)} (hT:Trees w F xs l css) (ho:w.ownsRow 0 e 5 (.slice A n c) n xs) (hn:n = l.length) (hsm:l.length ≤ 1099511627776) (hF:∀ g,A.map (·.block) = some g → ∀ o,F g o) :
  TreeR w F [.int .i64 0,.slice none 0 0,.bool false,.slice A n c,.slice none 0 0] (.mk 0 [] false l []):=by
 have h:=hT.slots ho hn hsm hF
 subst hn
 exact TreeR.mk (s:=[]) (u:=[]) _ (Octs.nil _ _) h.1 h.2 (TagsR.nil _ _)
def P9 (D1 D2:DV):DV:=M7 none (D1.l + D2.l) 0 (fun i=>if i < D1.l then D1.f i else D2.f (i - D1.l))
theorem Md {D1 D2:DV} (i:Nat):(P9 D1 D2).f (D1.l + i) = D2.f i:=by
 show (if D1.l + i < D1.l then _ else _) = _
 rw [if_neg (by omega),Nat.add_sub_cancel_left]
theorem Me {w:World} {e size c:Nat} {A:Option Addr} {D1 D2:DV} {cl:DV → List Value} (ho:w.ownsRow 0 e size (.slice A (0 + D1.l + D2.l) c) (0 + D1.l + D2.l) ([] ++ ((List.range D1.l).map fun i=>cl (D1.f i)).flatten ++ ((List.range D2.l).map fun i=>cl (D2.f i)).flatten)) (hsm:D1.l + D2.l ≤ 1099511627776)
  (hl:∀ d,(cl d).length = size) (h1:∀ d,∀ u ∈ cl d,u.oneCell' = true) {F:Nat → Nat → Prop} (hF:∀ g,A.map (·.block) = some g → ∀ o,F g o):Slots w F size A c (0 + D1.l + D2.l) (fun i=>cl ((P9 D1 D2).f i)):=by
 rw [Nat.zero_add,List.nil_append] at ho
 rw [Nat.zero_add]
 have h:=Mc ho hsm (fun i _=>⟨hl _,h1 _⟩) (fun i _=>⟨hl _,h1 _⟩) hF
 have e:(fun i=>if i < D1.l then cl (D1.f i) else cl (D2.f (i - D1.l))) = fun i=>cl ((P9 D1 D2).f i):=by
  funext i
  show _ = cl (if i < D1.l then _ else _)
  split <;> rfl
 rw [e] at h
 exact h
theorem Jd (k x1 x2 x3 x4 x5 x6:Int) (fs:List Fld) (AF:Option Addr) (cF:Nat) (v:Int) (n:Int) (s:Bs) (b:Bool) (l:List Tree) (u:List (Int × Bs)) (A1:Option Addr) (c1:Nat) (A2:Option Addr) (c2:Nat) (A3:Option Addr) (c3:Nat) (w:World) :
  Calls Tryz.prog 77 #[.agg #[.int .i64 k,.int .i64 x1,.int .i64 x2,.int .i64 x3,.int .i64 x4,.int .i64 x5,.int .i64 x6,.slice AF fs.length cF],.int .i64 v,.agg #[.int .i64 n,.slice A1 s.length c1,.bool b,.slice A2 l.length c2,.slice A3 u.length c3]] w (N5 w (.bool (Fld.nul (Fld.mk k x1 x2 x3 x4 x5 x6 fs) v (Tree.mk n s b l u)))):=by
 refine enter (n:=20) Tryz.func77 rfl Tryz.ntmps77 kz fun a hE=>?_
 have hW:=WOk.start w B5
 refine B8 [0,1,2] kz ?_
 refine B1 (J1 hW hE (d:=3) (cs:=[.int .i64 k,.int .i64 x1,.int .i64 x2,.int .i64 x3,.int .i64 x4,.int .i64 x5,.int .i64 x6,.slice AF fs.length cF]) kz fun b1 a2 w3 hb4 hz5 hF6 hW7 hE8=>?_)
 refine B1 (J1 hW7 hE8 (d:=5) (cs:=[.int .i64 n,.slice A1 s.length c1,.bool b,.slice A2 l.length c2,.slice A3 u.length c3]) kz fun b9 aC aD aw ax ay ab aj=>?_)
 let ac:Nat × SV:=(1,.v (.int .i64 v))
 let ae:Nat × SV:=(3,.p 0 0)
 refine B3 [2] [] [ac,ae,(5,.p 1 0)] ab aj fun aE ak=>?_
 refine B4 (A7 ?_)
 refine B8 [0,1,2,3,4,5,6,7,8,9,10,11,12,13] kz ?_
 refine B3 [0,1,2] [3,4,5,6,7,8,9,10,11,12,13] [ac,ae,(9,.v (.bool b))] ab ak fun aF ah=>?_
 refine (Bool.eq_false_or_eq_true (b)).elim (fun ag=>?_) (fun ag=>?_)
 ·
  have al:=ah.cast (env':=[ac,ae,(9,.v (.bool true))]) (by rw [ag])
  refine B3 [3,4,5,6,7] [8,9,10,11,12,13] [ac,ae,(14,.v (.bool (decide (x3 ≥ 0))))] ab al fun aG ai=>?_
  refine (Bool.eq_false_or_eq_true (decide (x3 ≥ 0))).elim (fun af=>?_) (fun af=>?_)
  ·
   have aA:=of_decide_eq_true af
   have am:=ai
   rw [af] at am
   refine B3 [8,9,10,11,12,13] [] [(6,.v (.bool (decide (v ≥ x3))))] ab am fun aH ao=>?_
   refine B4 (A7 ?_)
   refine wp_ret (D5 ao ab.cells (v:=.bool (decide (v ≥ x3))) kz ?_)
   exact ⟨by simp only [Fld.nul,ag,af,Bool.true_and,Bool.and_true,Bool.false_and,Bool.and_false,Bool.true_or,Bool.false_or,Bool.or_true,Bool.or_false],ab.step⟩
  have aB:=of_decide_eq_false af
  have ap:=ai
  rw [af] at ap
  refine B3 [8,9,10,11,12,13] [] [(6,.v (.bool false))] ab ap fun aI ar=>?_
  refine B4 (A7 ?_)
  refine wp_ret (D5 ar ab.cells (v:=.bool false) kz ?_)
  exact ⟨by simp only [Fld.nul,ag,af,Bool.true_and,Bool.and_true,Bool.false_and,Bool.and_false,Bool.true_or,Bool.false_or,Bool.or_true,Bool.or_false],ab.step⟩
 have au:=ah.cast (env':=[ac,ae,(9,.v (.bool false))]) (by rw [ag])
 refine B3 [3,4,5,6,7,8,9,10,11,12,13] [] [(6,.v (.bool false))] ab au fun aJ av=>?_
 refine B4 (A7 ?_)
 refine wp_ret (D5 av ab.cells (v:=.bool false) kz ?_)
 exact ⟨by simp only [Fld.nul,ag,Bool.true_and,Bool.and_true,Bool.false_and,Bool.and_false,Bool.true_or,Bool.false_or,Bool.or_true,Bool.or_false],ab.step⟩
theorem Gl (A:Option Addr) (c:Nat) (s:Bs) (hc:s.length ≤ c) (w:World) :
  Calls Tryz.prog 40 #[.slice A s.length c] w (N5 w (.slice A (J6 s).length c)):=by
 refine enter (n:=8) Tryz.func40 rfl Tryz.ntmps40 kz fun a hE=>?_
 have hW:=WOk.start w B5
 refine C1 [(0,.v (.slice A s.length c))] hW hE fun a1 hE2=>?_
 refine B8 [0,1,2,3,4,5] kz ?_
 refine B3 [0,1,2,3] [4,5] [(3,.v (.slice A s.length c)),(6,.v (.int .i64 (if 32767 < ((s.length:Nat):Int) then 32767 else ((s.length:Nat):Int))))] hW hE2 fun a3 hE4=>?_
 refine B1 (DH hE4 (t:=30) (A:=A) (m:=s.length) (cp:=c) (q:=(if 32767 < ((s.length:Nat):Int) then 32767 else ((s.length:Nat):Int))) (d:=7) (j:=(J6 s).length) kz (e:=5) (size:=1) (bytes:=1) kz (by simpa [J6] using EK s.length) (by simp only [J6,List.length_take]; omega) fun a5 hE6=>?_)
 refine B3 [5] [] [(2,.v (.slice A ((J6 s).length) c))] hW hE6 fun a7 hE8=>?_
 refine B4 (A7 ?_)
 refine wp_ret (D5 hE8 hW.cells (v:=.slice A ((J6 s).length) c) kz ?_)
 exact ⟨rfl,hW.step⟩
theorem Gm (A:Option Addr) (c:Nat) (s:List Tree) (hc:s.length ≤ c) (w:World) :
  Calls Tryz.prog 78 #[.slice A s.length c] w (N5 w (.slice A (E3 s).length c)):=by
 refine enter (n:=8) Tryz.func78 rfl Tryz.ntmps78 kz fun a hE=>?_
 have hW:=WOk.start w B5
 refine C1 [(0,.v (.slice A s.length c))] hW hE fun a1 hE2=>?_
 refine B8 [0,1,2,3,4,5] kz ?_
 refine B3 [0,1,2,3] [4,5] [(3,.v (.slice A s.length c)),(6,.v (.int .i64 (if 32767 < ((s.length:Nat):Int) then 32767 else ((s.length:Nat):Int))))] hW hE2 fun a3 hE4=>?_
 refine B1 (DH hE4 (t:=31) (A:=A) (m:=s.length) (cp:=c) (q:=(if 32767 < ((s.length:Nat):Int) then 32767 else ((s.length:Nat):Int))) (d:=7) (j:=(E3 s).length) kz (e:=34) (size:=5) (bytes:=88) kz (by simpa [E3] using EK s.length) (by simp only [E3,List.length_take]; omega) fun a5 hE6=>?_)
 refine B3 [5] [] [(2,.v (.slice A ((E3 s).length) c))] hW hE6 fun a7 hE8=>?_
 refine B4 (A7 ?_)
 refine wp_ret (D5 hE8 hW.cells (v:=.slice A ((E3 s).length) c) kz ?_)
 exact ⟨rfl,hW.step⟩
theorem Je (A A':Option Addr) (c c':Nat) (s t:Bs) (w:World) (F:Nat → Nat → Prop) (hs:Octs w F A c s) (ht:Octs w F A' c' t) :
  Calls Tryz.prog 20 #[.slice A s.length c,.slice A' t.length c'] w (N5 w (.bool (decide (s = t)))):=by
 refine enter (n:=26) Tryz.func20 rfl Tryz.ntmps20 kz fun a hE=>?_
 have hW:=WOk.start w B5
 have hl:=Slots.small hs
 let ab:Nat × SV:=(0,.v (.slice A s.length c))
 let ac:Nat × SV:=(1,.v (.slice A' t.length c'))
 refine C1 [ab,ac] hW hE fun a1 hE2=>?_
 refine wp_seq (C1 [ab,ac,(10,.v (.bool (((s.length:Nat):Int) != ((t.length:Nat):Int))))] hW hE2 fun a3 hE4=>?_)
 refine D8 hE4 (b:=((s.length:Nat):Int) != ((t.length:Nat):Int)) kz (fun hc5=>?_) (fun hc5=>?_)
 ·
  have hf6:((s.length:Nat):Int) ≠ ((t.length:Nat):Int):=by simpa using hc5
  refine C1 [(4,.v (.bool false))] hW hE4 fun a7 hE8=>?_
  refine wp_ret (F5 (D5 hE8 hW.cells (v:=.bool false) kz ?_))
  exact ⟨by first | rw [← EN hq (by omega) hlen] | rw [← EM ‹_›] | rw [← EL ‹_›],hW.step⟩
 have hf9:((s.length:Nat):Int) = ((t.length:Nat):Int):=by simpa using hc5
 refine wp_skip (A7 (wp_seq ?_))
 let ae:Nat × SV:=(12,.v (.int .i64 ((s.length:Nat):Int)))
 refine C1 [ab,ac,ae,(13,.v (.int .i64 0))] hW hE4 fun aV ar=>?_
 refine wp_block ?_
 have hlen:s.length = t.length:=by omega
 refine wp_loop_ghost (fun n_ a_ w_=>∃ (k:Nat),n_ = s.length - k ∧ k ≤ s.length ∧ (s.take k = t.take k) ∧ F1 hW 26 [] [] [ab,ac,ae,(13,.v (.int .i64 ((k:Nat):Int)))] a_ w_) (s.length) ⟨0,by omega,by omega,rfl,ar.pk,hW,Fr.refl _ _ _⟩ ?_
 rintro aW aX aY ⟨k,aJ,aK,hq,au,ah,av⟩
 let ag:Nat × SV:=(13,.v (.int .i64 ((k:Nat):Int)))
 refine C1 [ab,ac,ae,ag,(14,.v (.bool (decide (((k:Nat):Int) < ((s.length:Nat):Int)))))] ah au fun aZ ai=>?_
 refine wp_seq (D8 ai (b:=decide (((k:Nat):Int) < ((s.length:Nat):Int))) kz (fun aj=>?_) (fun aj=>?_))
 ·
  have aL:=of_decide_eq_true aj
  refine wp_skip (A7 (wp_seq (wp_block (C1 [ab,ac,(5,.v (.int .i64 ((k:Nat):Int))),ae,ag] ah ai fun ba aw=>?_))))
  refine Br kz ah fun bd ax af=>?_
  refine D6 [0,1,4,5] [ab,ac,ae,ag,(16,.v (.slice A s.length c)),(17,.v (.int .i64 ((k:Nat):Int))),(20,.v (.slice A' t.length c')),(21,.v (.int .i64 ((k:Nat):Int)))] 5 (B2 (C0 (B2 (B2 (C0 (B2 C6)))))) (fun _ h=>h ▸ af.cells) rfl aw fun bf ay=>?_
  obtain ⟨aM,aN,aA,aO,am⟩:=Slots.get hs (i:=k) (by omega)
  refine H9 ay (i:=2) (t:=30) (A:=A) (m:=s.length) (q:=((k:Nat):Int)) (d:=18) kz (e:=5) (size:=1) (bytes:=1) kz aA rfl (by omega) kz kz (B2 (C0 (B2 (B2 (C0 (B2 C6)))))) rfl fun bg aB=>?_
  refine P4 aB (i:=3) (t:=5) (b:=aM) (o:=aN + k * 1) (d:=19) kz (cs:=[.int .u8 ((s.getD k 0).toNat:Int)]) (v:=.int .u8 ((s.getD k 0).toNat:Int)) kz (fun w' h'=>h' ▸ (AtF.move am af.step B0 E6).at_) kz kz (B2 (C0 (B2 (B2 (C0 (B2 C6)))))) rfl fun bh aC=>?_
  obtain ⟨aP,aQ,aD,aR,ao⟩:=Slots.get ht (i:=k) (by omega)
  refine H9 aC (i:=6) (t:=30) (A:=A') (m:=t.length) (q:=((k:Nat):Int)) (d:=22) kz (e:=5) (size:=1) (bytes:=1) kz aD rfl (by omega) kz kz (B2 (C0 (B2 (B2 (C0 (B2 C6)))))) rfl fun bi aE=>?_
  refine P4 aE (i:=7) (t:=5) (b:=aP) (o:=aQ + k * 1) (d:=23) kz (cs:=[.int .u8 ((t.getD k 0).toNat:Int)]) (v:=.int .u8 ((t.getD k 0).toNat:Int)) kz (fun w' h'=>h' ▸ (AtF.move ao af.step B0 E6).at_) kz kz (B2 (C0 (B2 (B2 (C0 (B2 C6)))))) rfl fun bj aF=>?_
  refine D6 [8] [ab,ac,ae,ag,(24,.v (.bool (((s.getD k 0).toNat:Int) != ((t.getD k 0).toNat:Int))))] 0 (B2 (C0 (B2 (B2 (C0 (B2 C6)))))) (fun _ h=>h ▸ af.cells) rfl aF fun bk ak=>?_
  refine F3 kz ?_ _
  refine A7 (D8 ak (b:=((s.getD k 0).toNat:Int) != ((t.getD k 0).toNat:Int)) kz (fun al=>?_) (fun al=>?_))
  ·
   have aS:((s.getD k 0).toNat:Int) ≠ ((t.getD k 0).toNat:Int):=by simpa using al
   refine C1 [(4,.v (.bool false))] af ak fun bn aG=>?_
   refine wp_ret (N1 (F5 (F5 (N1 (F5 (D5 aG af.cells (v:=.bool false) kz ?_))))))
   exact ⟨by first | rw [← EN hq (by omega) hlen] | rw [← EM ‹_›] | rw [← EL ‹_›],af.step⟩
  have aT:((s.getD k 0).toNat:Int) = ((t.getD k 0).toNat:Int):=by simpa using al
  refine wp_skip (G2 (A7 (D9 [0,1] kz ?_)))
  refine B3 [0,1] [] [ab,ac,ae,(13,.v (.int .i64 (IntKind.i64.wrap (((k:Nat):Int) + 1))))] af ak fun bp ap=>?_
  refine B4 (A7 ?_)
  have aH:IntKind.i64.wrap (((k:Nat):Int) + 1) = ((k + 1:Nat):Int):=H1 (by omega)
  rw [aH] at ap
  exact ⟨s.length - (k + 1),by omega,k + 1,rfl,by omega,Km hq (by omega) hlen ‹_›,ap.pk,af,(av.trans ax)⟩
 have aU:=of_decide_eq_false aj
 refine wp_exit (E2 (E2 (G3 (A7 (C1 [(4,.v (.bool true))] ah ai fun bq aI=>?_)))))
 refine wp_ret (D5 aI ah.cells (v:=.bool true) kz ?_)
 exact ⟨by first | rw [← EN hq (by omega) hlen] | rw [← EM ‹_›] | rw [← EL ‹_›],ah.step⟩
theorem Mf (ct:List Value) (t:Tree) (i:Nat) (w:World) (F:Nat → Nat → Prop) (ht:TreeR w F ct t) :
  Calls Tryz.prog 38 #[.agg ct.toArray,.int .i64 (i:Int)] w (EO w F (t.at_ i)):=by
 obtain ⟨n1,s2,b3,l4,u5,A6,c7,A8,c9,aV,aW,aX,rfl,rfl,aY,aG,aZ,bF⟩:=ht.open_
 have aH:=aY.small
 have aI:=aG.small
 refine enter (n:=16) Tryz.func38 rfl Tryz.ntmps38 kz fun a hE=>?_
 have hW:=WOk.start w B5
 refine B8 [0,1] kz ?_
 refine B1 (J1 hW hE (d:=2) (cs:=[.int .i64 n1,.slice A6 s2.length c7,.bool b3,.slice A8 l4.length c9,.slice aV u5.length aW]) kz fun bG bH bI ba bd bf av aw=>?_)
 let ab:Value:=.slice none 0 0
 refine B1 (D7 av aw (d:=4) (cs:=[.int .i64 0,ab,.bool false,ab,ab]) kz fun bJ bK bM bg bh bi ag ax=>?_)
 refine B4 (A7 ?_)
 refine wp_seq (C1 [(1,.v (.int .i64 ((i:Nat):Int))),(2,.p 0 0),(4,.p 1 0),(9,.v (.bool (decide (((i:Nat):Int) < ((l4.length:Nat):Int)))))] ag ax fun bN aj=>?_)
 refine D8 aj (b:=decide (((i:Nat):Int) < ((l4.length:Nat):Int))) kz (fun ak=>?_) (fun ak=>?_)
 ·
  have bj:=of_decide_eq_true ak
  refine B8 [0,1,2,3,4,5] kz ?_
  refine B3 [0,1,2] [3,4,5] [(4,.p 1 0),(11,.v (.slice A8 l4.length c9)),(12,.v (.int .i64 ((i:Nat):Int)))] ag aj fun bO ay=>?_
  obtain ⟨bk,bn,aA,bp,ah⟩:=Slots.get aG (i:=i) (by omega)
  obtain ⟨bq,am⟩:∃ x,l4[i]? = some x:=⟨_,List.getElem?_eq_getElem (by omega)⟩
  have al:=aZ i bq am
  obtain ⟨ao,aJ,ap,aK,aL,aM,aN,aO,aP,aQ,aR,bt,rfl,ai,bu,bw,bP,bQ⟩:=al.open_
  rw [ai] at al
  have aS:=bu.small
  have aT:=bw.small
  rw [ai] at ah
  refine B1 (F2 ay (t:=31) (A:=A8) (m:=l4.length) (q:=((i:Nat):Int)) (d:=13) kz (e:=34) (size:=5) (bytes:=88) kz aA rfl (by omega) fun bR aB=>?_)
  let ac:Value:=.slice aM aJ.length aN
  let ae:Value:=.slice aO aK.length aP
  let af:Value:=.slice aQ aL.length aR
  let aU:Value:=.agg #[.int .i64 ao,.slice aM aJ.length aN,.bool ap,.slice aO aK.length aP,.slice aQ aL.length aR]
  refine B1 (G7 aB (t:=34) (b:=bk) (o:=bn + i * 5) (d:=14) kz (cs:=[.int .i64 ao,ac,.bool ap,ae,af]) (v:=.agg #[.int .i64 ao,ac,.bool ap,ae,af]) kz (AtF.move ah ag.step B0 E6).at_ fun bS aC=>?_)
  refine B1 (C7 ag aC (oi:=1) (cs:=[.int .i64 ao,ac,.bool ap,ae,af]) kz fun bT bz ar aD=>?_)
  refine B4 (A7 ?_)
  refine wp_ret (F5 (D5 aD ar.cells (v:=.agg #[.int .i64 ao,ac,.bool ap,ae,af]) kz ?_))
  exact ⟨_,rfl,by rw [EP am]; exact al,ar.step⟩
 have bD:=of_decide_eq_false ak
 refine wp_skip (A7 (B8 [0,1] kz ?_))
 refine B3 [0] [1] [(4,.p 1 0),(15,.v (.agg #[.int .i64 0,ab,.bool false,ab,ab]))] ag aj fun bU aE=>?_
 refine B1 (C7 ag aE (oi:=1) (cs:=[.int .i64 0,ab,.bool false,ab,ab]) kz fun bV bE au aF=>?_)
 refine B4 (A7 ?_)
 refine wp_ret (D5 aF au.cells (v:=.agg #[.int .i64 0,ab,.bool false,ab,ab]) kz ?_)
 exact ⟨_,rfl,by rw [EQ (by omega)]; exact TreeR.zero _ _,au.step⟩
theorem M8 (ct:List Value) (t:Tree) (i:Nat) (w:World) (F:Nat → Nat → Prop) (ht:TreeR w F ct t) :
  Calls Tryz.prog 61 #[.agg ct.toArray,.int .i64 (i:Int)] w (EO w F (t.at_ i)):=by
 obtain ⟨n1,s2,b3,l4,u5,A6,c7,A8,c9,aV,aW,aX,rfl,rfl,aY,aG,aZ,bF⟩:=ht.open_
 have aH:=aY.small
 have aI:=aG.small
 refine enter (n:=16) Tryz.func61 rfl Tryz.ntmps61 kz fun a hE=>?_
 have hW:=WOk.start w B5
 refine B8 [0,1] kz ?_
 refine B1 (J1 hW hE (d:=2) (cs:=[.int .i64 n1,.slice A6 s2.length c7,.bool b3,.slice A8 l4.length c9,.slice aV u5.length aW]) kz fun bG bH bI ba bd bf av aw=>?_)
 let ab:Value:=.slice none 0 0
 refine B1 (D7 av aw (d:=4) (cs:=[.int .i64 0,ab,.bool false,ab,ab]) kz fun bJ bK bM bg bh bi ag ax=>?_)
 refine B4 (A7 ?_)
 refine wp_seq (C1 [(1,.v (.int .i64 ((i:Nat):Int))),(2,.p 0 0),(4,.p 1 0),(9,.v (.bool (decide (((i:Nat):Int) < ((l4.length:Nat):Int)))))] ag ax fun bN aj=>?_)
 refine D8 aj (b:=decide (((i:Nat):Int) < ((l4.length:Nat):Int))) kz (fun ak=>?_) (fun ak=>?_)
 ·
  have bj:=of_decide_eq_true ak
  refine B8 [0,1,2,3,4,5] kz ?_
  refine B3 [0,1,2] [3,4,5] [(4,.p 1 0),(11,.v (.slice A8 l4.length c9)),(12,.v (.int .i64 ((i:Nat):Int)))] ag aj fun bO ay=>?_
  obtain ⟨bk,bn,aA,bp,ah⟩:=Slots.get aG (i:=i) (by omega)
  obtain ⟨bq,am⟩:∃ x,l4[i]? = some x:=⟨_,List.getElem?_eq_getElem (by omega)⟩
  have al:=aZ i bq am
  obtain ⟨ao,aJ,ap,aK,aL,aM,aN,aO,aP,aQ,aR,bt,rfl,ai,bu,bw,bP,bQ⟩:=al.open_
  rw [ai] at al
  have aS:=bu.small
  have aT:=bw.small
  rw [ai] at ah
  refine B1 (F2 ay (t:=46) (A:=A8) (m:=l4.length) (q:=((i:Nat):Int)) (d:=13) kz (e:=49) (size:=5) (bytes:=88) kz aA rfl (by omega) fun bR aB=>?_)
  let ac:Value:=.slice aM aJ.length aN
  let ae:Value:=.slice aO aK.length aP
  let af:Value:=.slice aQ aL.length aR
  let aU:Value:=.agg #[.int .i64 ao,.slice aM aJ.length aN,.bool ap,.slice aO aK.length aP,.slice aQ aL.length aR]
  refine B1 (G7 aB (t:=49) (b:=bk) (o:=bn + i * 5) (d:=14) kz (cs:=[.int .i64 ao,ac,.bool ap,ae,af]) (v:=.agg #[.int .i64 ao,ac,.bool ap,ae,af]) kz (AtF.move ah ag.step B0 E6).at_ fun bS aC=>?_)
  refine B1 (C7 ag aC (oi:=1) (cs:=[.int .i64 ao,ac,.bool ap,ae,af]) kz fun bT bz ar aD=>?_)
  refine B4 (A7 ?_)
  refine wp_ret (F5 (D5 aD ar.cells (v:=.agg #[.int .i64 ao,ac,.bool ap,ae,af]) kz ?_))
  exact ⟨_,rfl,by rw [EP am]; exact al,ar.step⟩
 have bD:=of_decide_eq_false ak
 refine wp_skip (A7 (B8 [0,1] kz ?_))
 refine B3 [0] [1] [(4,.p 1 0),(15,.v (.agg #[.int .i64 0,ab,.bool false,ab,ab]))] ag aj fun bU aE=>?_
 refine B1 (C7 ag aE (oi:=1) (cs:=[.int .i64 0,ab,.bool false,ab,ab]) kz fun bV bE au aF=>?_)
 refine B4 (A7 ?_)
 refine wp_ret (D5 aF au.cells (v:=.agg #[.int .i64 0,ab,.bool false,ab,ab]) kz ?_)
 exact ⟨_,rfl,by rw [EQ (by omega)]; exact TreeR.zero _ _,au.step⟩
theorem Mg (A:Option Addr) (c:Nat) (l:List Fld) (w:World) (F:Nat → Nat → Prop) (hl:FldsR w F A c l) :
  Calls Tryz.prog 79 #[.slice A l.length c] w (N5 w (.int .u32 (E4 l))):=by
 obtain ⟨xfs,h1,h2⟩:=hl.ex
 have hsm:=h1.small
 refine enter (n:=23) Tryz.func79 rfl Tryz.ntmps79 kz fun a hE=>?_
 have hW:=WOk.start w B5
 refine C1 [(0,.v (.slice A l.length c))] hW hE fun a1 hE2=>?_
 refine C1 [(0,.v (.slice A l.length c)),(3,.v (.int .u32 0))] hW hE2 fun a3 hE4=>?_
 refine wp_seq ?_
 let ab:Nat × SV:=(6,.v (.slice A l.length c))
 let ac:Nat × SV:=(7,.v (.int .i64 ((l.length:Nat):Int)))
 refine C1 [(3,.v (.int .u32 0)),ab,ac,(8,.v (.int .i64 0))] hW hE4 fun a5 hE6=>?_
 refine wp_block (wp_loop_ghost (fun n_ a_ w_=>∃ (k:Nat),n_ = l.length - k ∧ k ≤ l.length ∧ F1 hW 23 [] [] [(3,.v (.int .u32 (E4 (l.take k)))),ab,ac,(8,.v (.int .i64 ((k:Nat):Int)))] a_ w_) (l.length) ⟨0,by omega,by omega,hE6.pk,hW,Fr.refl _ _ _⟩ ?_)
 rintro n7 a8 w9 ⟨k,bh,bi,aC,af,ax⟩
 let ai:Nat × SV:=(8,.v (.int .i64 ((k:Nat):Int)))
 refine C1 [(3,.v (.int .u32 (E4 (l.take k)))),ab,ac,ai,(9,.v (.bool (decide (((k:Nat):Int) < ((l.length:Nat):Int)))))] af aC fun bH am=>?_
 refine wp_seq (D8 am (b:=decide (((k:Nat):Int) < ((l.length:Nat):Int))) kz (fun ao=>?_) (fun ao=>?_))
 ·
  have bj:=of_decide_eq_true ao
  refine wp_skip (A7 (wp_seq (wp_block (B8 [0,1,2,3] kz ?_))))
  obtain ⟨bk,bn,aD,bp,ak⟩:=Slots.get h1 (i:=k) (by omega)
  obtain ⟨bq,ap⟩:∃ x,l[k]? = some x:=⟨_,List.getElem?_eq_getElem (by omega)⟩
  have ay:=h2 k bq ap
  obtain ⟨aE,aF,aG,aH,ag,aI,aJ,bt,bu,bw,bz,rfl,al,bD,bI⟩:=ay.open_
  rw [al] at ay
  have bg:=bD.small
  rw [al] at ak
  refine B1 (F2 am (t:=25) (A:=A) (m:=l.length) (q:=((k:Nat):Int)) (d:=10) kz (e:=66) (size:=8) (bytes:=80) kz aD rfl (by omega) fun bJ aK=>?_)
  let aj:Value:=.slice bu bt.length bw
  refine B1 (G7 aK (t:=66) (b:=bk) (o:=bn + k * 8) (d:=11) kz (cs:=[.int .i64 aE,.int .i64 aF,.int .i64 aG,.int .i64 aH,.int .i64 ag,.int .i64 aI,.int .i64 aJ,aj]) (v:=.agg #[.int .i64 aE,.int .i64 aF,.int .i64 aG,.int .i64 aH,.int .i64 ag,.int .i64 aI,.int .i64 aJ,aj]) kz (AtF.move ak af.step B0 E6).at_ fun bK aL=>?_)
  let ae:Value:=.int .i64 0
  refine B1 (D7 af aL (d:=5) (cs:=[ae,ae,ae,ae,ae,ae,ae,.slice none 0 0]) kz fun bM bN bO bE bF aA aM aN=>?_)
  refine B1 (C7 aM aN (oi:=0) (cs:=[.int .i64 aE,.int .i64 aF,.int .i64 aG,.int .i64 aH,.int .i64 ag,.int .i64 aI,.int .i64 aJ,aj]) kz fun bP aB ah aO=>?_)
  refine B4 (A7 ?_)
  refine C1 [(3,.v (.int .u32 (E4 (l.take k)))),(5,.p 0 0),ab,ac,ai,(14,.v (.bool (decide (ag ≥ 0))))] ah aO fun bQ ar=>?_
  refine D8 ar (b:=decide (ag ≥ 0)) kz (fun au=>?_) (fun au=>?_)
  ·
   have aP:=of_decide_eq_true au
   refine D9 [0,1,2,3,4,5,6] kz ?_
   refine B3 [0,1,2,3,4,5,6] [] [(3,.v (.int .u32 (if IntKind.u32.wrap ((IntKind.u32.wrap ag) + 1) > E4 (l.take k) then IntKind.u32.wrap ((IntKind.u32.wrap ag) + 1) else E4 (l.take k)))),ab,ac,ai] ah ar fun bR aQ=>?_
   refine B4 (G2 (A7 (D9 [0,1] kz ?_)))
   refine B3 [0,1] [] [(3,.v (.int .u32 (if IntKind.u32.wrap ((IntKind.u32.wrap ag) + 1) > E4 (l.take k) then IntKind.u32.wrap ((IntKind.u32.wrap ag) + 1) else E4 (l.take k)))),ab,ac,(8,.v (.int .i64 (IntKind.i64.wrap (((k:Nat):Int) + 1))))] ah aQ fun bS aR=>?_
   refine B4 (A7 ?_)
   obtain ⟨av,aS,aT⟩:=ah.cutB aR 0 [] [(3,.v (.int .u32 (if IntKind.u32.wrap ((IntKind.u32.wrap ag) + 1) > E4 (l.take k) then IntKind.u32.wrap ((IntKind.u32.wrap ag) + 1) else E4 (l.take k)))),ab,ac,(8,.v (.int .i64 (IntKind.i64.wrap (((k:Nat):Int) + 1))))]
   have aU:IntKind.i64.wrap (((k:Nat):Int) + 1) = ((k + 1:Nat):Int):=H1 (by omega)
   rw [aU] at av
   have aV:(if IntKind.u32.wrap ((IntKind.u32.wrap ag) + 1) > E4 (l.take k) then IntKind.u32.wrap ((IntKind.u32.wrap ag) + 1) else E4 (l.take k)) = E4 (l.take (k + 1)):=Ky ap aP
   rw [aV] at av
   exact ⟨l.length - (k + 1),by omega,k + 1,rfl,by omega,av.pk,aS,(((ax.trans aA).trans aB).trans aT)⟩
  have aW:=of_decide_eq_false au
  refine wp_skip (G2 (A7 (D9 [0,1] kz ?_)))
  refine B3 [0,1] [] [(3,.v (.int .u32 (E4 (l.take k)))),ab,ac,(8,.v (.int .i64 (IntKind.i64.wrap (((k:Nat):Int) + 1))))] ah ar fun bT aX=>?_
  refine B4 (A7 ?_)
  obtain ⟨aw,aY,aZ⟩:=ah.cutB aX 0 [] [(3,.v (.int .u32 (E4 (l.take k)))),ab,ac,(8,.v (.int .i64 (IntKind.i64.wrap (((k:Nat):Int) + 1))))]
  have ba:IntKind.i64.wrap (((k:Nat):Int) + 1) = ((k + 1:Nat):Int):=H1 (by omega)
  rw [ba] at aw
  have bd:E4 (l.take k) = E4 (l.take (k + 1)):=Kz ap aW
  rw [bd] at aw
  exact ⟨l.length - (k + 1),by omega,k + 1,rfl,by omega,aw.pk,aY,(((ax.trans aA).trans aB).trans aZ)⟩
 have bG:=of_decide_eq_false ao
 refine wp_exit (E2 (E2 (G3 (A7 (C1 [(2,.v (.int .u32 (E4 (l.take k))))] af am fun bU bf=>?_)))))
 refine wp_ret (D5 bf af.cells (v:=.int .u32 (E4 (l.take k))) kz ?_)
 exact ⟨by rw [List.take_of_length_le (by omega)],af.step⟩
end Go.Proofs.YtipblegipibplaaGreatDoor.ME