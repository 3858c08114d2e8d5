/- Packed. Own work. -/
import Derived.Test.YtoclgihkbmaolaaGreatDoorWt0P3
import Derived.Lib.ConvBytes
namespace Go.Proofs.YtoclgihkbmaolaaGreatDoor.ME
open Go
open Go.RowKit
set_option linter.unusedVariables false
set_option linter.unusedSimpArgs false
set_option maxRecDepth 20000
def L7 (v:Int) (T:Tree):Bs:=(be 4 ((IntKind.i32.wrap (T.at_ 0).N))) ++ ((be 8 ((T.at_ 1).N)) ++ (if (decide (v ≥ 12)) = true then (uv T.U.length) ++ (I1 T.U) else []))
abbrev F0 (T:Tree):Bool:=(!((decide (be 4 ((T.at_ 2).at_ 0).N = be 4 (-1))) && (decide (be 8 ((T.at_ 2).at_ 1).N = be 8 (-1))) && decide ((T.at_ 2).U.length = 0)))
abbrev G7 (T:Tree):Bool:=(!((T.at_ 6).S.take 16).all (fun b_=>b_ == 0))
abbrev F5 (T:Tree):Bool:=(!decide (be 8 (T.at_ 7).N = be 8 9223372036854775807))
def X4 (v:Int) (T:Tree):Bs:=(be 4 ((IntKind.i32.wrap (T.at_ 0).N))) ++ ((if (decide (v ≥ 9)) = true then be 4 ((IntKind.i32.wrap (T.at_ 1).N)) else []) ++ ((be 8 ((T.at_ 2).N)) ++ ((if (decide (v ≥ 12)) = true then be 4 ((IntKind.i32.wrap (T.at_ 3).N)) else []) ++ ((if (decide (v ≥ 5)) = true then be 8 ((T.at_ 4).N) else []) ++ ((be 4 ((IntKind.i32.wrap (T.at_ 5).N))) ++ (if (decide (v ≥ 12)) = true then (uv (B3 (G7 T) + (B3 (F5 T) + T.U.length))) ++ ((G4 (G7 T) 0 (C3 (T.at_ 6).S)) ++ ((G4 (F5 T) 1 (be 8 ((T.at_ 7).N))) ++ (I1 T.U))) else []))))))
theorem JI (v:Int) (T:Tree):0 < (X4 v T).length:=Dt (Du (by decide))
def X5 (v:Int) (T:Tree):Bs:=(if ((if (decide (v ≥ 0)) = true then decide (v ≤ 12) else false)) = true then if (decide (v ≥ 12)) = true then (uv ((T.at_ 0).S.length + 1) ++ (T.at_ 0).S) else (be 2 (T.at_ 0).S.length ++ (T.at_ 0).S) else []) ++ ((if (decide (v ≥ 13)) = true then (C3 (T.at_ 1).S) else []) ++ (((if (decide (v ≥ 12)) = true then (uv ((lst (T.at_ 2)).length + 1)) else (be 4 (lst (T.at_ 2)).length)) ++ ((lst (T.at_ 2)).flatMap (X4 v))) ++ (if (decide (v ≥ 12)) = true then (uv T.U.length) ++ (I1 T.U) else [])))
theorem JJ (v:Int) (T:Tree):0 < (X5 v T).length:=EP (EP (Dt (Dt (Jw (FU _) (Du (by decide))))))
def V6 (v:Int) (T:Tree):Bs:=(if ((if (decide (v ≥ 7)) = true then decide (v ≤ 12) else false)) = true then if (decide (v ≥ 12)) = true then (uv ((T.at_ 0).S.length + 1) ++ (T.at_ 0).S) else (be 2 (T.at_ 0).S.length ++ (T.at_ 0).S) else []) ++ ((if (decide (v ≥ 13)) = true then (C3 (T.at_ 1).S) else []) ++ (((if (decide (v ≥ 12)) = true then (uv ((lst (T.at_ 2)).length + 1)) else (be 4 (lst (T.at_ 2)).length)) ++ ((lst (T.at_ 2)).flatMap (fun E=>be 4 (IntKind.i32.wrap E.N)))) ++ (if (decide (v ≥ 12)) = true then (uv T.U.length) ++ (I1 T.U) else [])))
theorem JK (v:Int) (T:Tree):0 < (V6 v T).length:=EP (EP (Dt (Dt (Jw (FU _) (Du (by decide))))))
def JL (v:Int) (T:Tree):Bs:=(if ((if (decide (v ≥ 0)) = true then decide (v ≤ 14) else false)) = true then be 4 ((IntKind.i32.wrap (T.at_ 1).N)) else []) ++ ((be 4 ((IntKind.i32.wrap (T.at_ 3).N))) ++ ((be 4 ((IntKind.i32.wrap (T.at_ 4).N))) ++ ((if (decide (v ≥ 3)) = true then be 4 ((IntKind.i32.wrap (T.at_ 5).N)) else []) ++ ((if (decide (v ≥ 4)) = true then be 1 ((IntKind.i8.wrap (T.at_ 6).N)) else []) ++ ((if (decide (v ≥ 7)) = true then be 4 ((IntKind.i32.wrap (T.at_ 7).N)) else []) ++ ((if (decide (v ≥ 7)) = true then be 4 ((IntKind.i32.wrap (T.at_ 8).N)) else []) ++ (((if (decide (v ≥ 12)) = true then (uv ((lst (T.at_ 9)).length + 1)) else (be 4 (lst (T.at_ 9)).length)) ++ ((lst (T.at_ 9)).flatMap (X5 v))) ++ ((if (decide (v ≥ 7)) = true then (if (decide (v ≥ 12)) = true then (uv ((lst (T.at_ 10)).length + 1)) else (be 4 (lst (T.at_ 10)).length)) ++ ((lst (T.at_ 10)).flatMap (V6 v)) else []) ++ ((if (decide (v ≥ 11)) = true then if (decide (v ≥ 12)) = true then (uv ((T.at_ 11).S.length + 1) ++ (T.at_ 11).S) else (be 2 (T.at_ 11).S.length ++ (T.at_ 11).S) else []) ++ ((if (decide (v ≥ 12)) = true then (uv (B3 (!(T.at_ 0).null) + (B3 (F0 T) + T.U.length))) ++ ((G4 (!(T.at_ 0).null) 0 (if (decide (v ≥ 12)) = true then (if (T.at_ 0).null = true then uv 0 else uv ((E1 (T.at_ 0)).length + 1) ++ (E1 (T.at_ 0))) else (if (T.at_ 0).null = true then be 2 (-1) else be 2 (E1 (T.at_ 0)).length ++ (E1 (T.at_ 0))))) ++ ((G4 (F0 T) 1 ((L7 v (T.at_ 2)))) ++ (I1 T.U))) else []) ++ (([]:Bs))))))))))))
theorem Nw (v:Int) (T:Tree):I6 v T = JL v T:=rfl
theorem JM:V3 Y4:=by
 intro w w' F F' M d hs hM hF h
 unfold Y4 at h ⊢
 obtain ⟨g0,g1,t1,t2,t3,_⟩:=h
 exact ⟨g0,g1,t1.move hs hM hF,t2,t3,trivial⟩
def JN (d:DV):List Value:=[.int .i32 ((d.f 0).n),.int .i32 ((d.f 1).n),.int .i64 ((d.f 2).n),.int .i32 ((d.f 3).n),.int .i64 ((d.f 4).n),.int .i32 ((d.f 5).n),B0 ((d.f 6).o.getD 0 0),B0 ((d.f 6).o.getD 1 0),B0 ((d.f 6).o.getD 2 0),B0 ((d.f 6).o.getD 3 0),B0 ((d.f 6).o.getD 4 0),B0 ((d.f 6).o.getD 5 0),B0 ((d.f 6).o.getD 6 0),B0 ((d.f 6).o.getD 7 0),B0 ((d.f 6).o.getD 8 0),B0 ((d.f 6).o.getD 9 0),B0 ((d.f 6).o.getD 10 0),B0 ((d.f 6).o.getD 11 0),B0 ((d.f 6).o.getD 12 0),B0 ((d.f 6).o.getD 13 0),B0 ((d.f 6).o.getD 14 0),B0 ((d.f 6).o.getD 15 0),.int .i64 ((d.f 7).n),.map d.m]
theorem BR:V3 Bg:=by
 intro w w' F F' M d hs hM hF h
 unfold Bg at h ⊢
 obtain ⟨g0,g1,g2,g3,g4,g5,g6,g7,t1,t2,t3,_⟩:=h
 exact ⟨g0,g1,g2,g3,g4,g5,g6,g7,t1.move hs hM hF,t2,t3,trivial⟩
def JO (d:DV):List Value:=[.string ((d.f 0).s),B0 ((d.f 1).o.getD 0 0),B0 ((d.f 1).o.getD 1 0),B0 ((d.f 1).o.getD 2 0),B0 ((d.f 1).o.getD 3 0),B0 ((d.f 1).o.getD 4 0),B0 ((d.f 1).o.getD 5 0),B0 ((d.f 1).o.getD 6 0),B0 ((d.f 1).o.getD 7 0),B0 ((d.f 1).o.getD 8 0),B0 ((d.f 1).o.getD 9 0),B0 ((d.f 1).o.getD 10 0),B0 ((d.f 1).o.getD 11 0),B0 ((d.f 1).o.getD 12 0),B0 ((d.f 1).o.getD 13 0),B0 ((d.f 1).o.getD 14 0),B0 ((d.f 1).o.getD 15 0),.slice ((d.f 2).A) ((d.f 2).l) ((d.f 2).c),.map d.m]
theorem BS:V3 Bh:=by
 intro w w' F F' M d hs hM hF h
 unfold Bh at h ⊢
 obtain ⟨g0,g1,⟨g2,g2l,g2e⟩,t1,t2,t3,_⟩:=h
 exact ⟨g0,g1,⟨g2.move hs hM hF,g2l,fun i hi=>BR _ hs hM hF (g2e i hi)⟩,t1.move hs hM hF,t2,t3,trivial⟩
def JP (d:DV):List Value:=[.string ((d.f 0).s),B0 ((d.f 1).o.getD 0 0),B0 ((d.f 1).o.getD 1 0),B0 ((d.f 1).o.getD 2 0),B0 ((d.f 1).o.getD 3 0),B0 ((d.f 1).o.getD 4 0),B0 ((d.f 1).o.getD 5 0),B0 ((d.f 1).o.getD 6 0),B0 ((d.f 1).o.getD 7 0),B0 ((d.f 1).o.getD 8 0),B0 ((d.f 1).o.getD 9 0),B0 ((d.f 1).o.getD 10 0),B0 ((d.f 1).o.getD 11 0),B0 ((d.f 1).o.getD 12 0),B0 ((d.f 1).o.getD 13 0),B0 ((d.f 1).o.getD 14 0),B0 ((d.f 1).o.getD 15 0),.slice ((d.f 2).A) ((d.f 2).l) ((d.f 2).c),.map d.m]
theorem BT:V3 Y5:=by
 intro w w' F F' M d hs hM hF h
 unfold Y5 at h ⊢
 obtain ⟨g0,g1,⟨g2,g2l,g2e⟩,t1,t2,t3,_⟩:=h
 exact ⟨g0,g1,⟨g2.move hs hM hF,g2l,g2e⟩,t1.move hs hM hF,t2,t3,trivial⟩
def CE (v:Int) (D:DV) (T:Tree):Prop:=((D.f 0).n = IntKind.i32.wrap (T.at_ 0).N) ∧ ((D.f 1).n = IntKind.i64.wrap (T.at_ 1).N) ∧ (((decide (v ≥ 12)) = true → D.u = T.U) ∧ ((decide (v ≥ 12)) = false → D.u = [])) ∧ True
def CF (v:Int) (D:DV) (T:Tree):Prop:=((D.f 0).n = IntKind.i32.wrap (T.at_ 0).N) ∧ (((decide (v ≥ 9)) = true → (D.f 1).n = IntKind.i32.wrap (T.at_ 1).N) ∧ ((decide (v ≥ 9)) = false → (D.f 1).n = -1)) ∧ ((D.f 2).n = IntKind.i64.wrap (T.at_ 2).N) ∧ (((decide (v ≥ 12)) = true → (D.f 3).n = IntKind.i32.wrap (T.at_ 3).N) ∧ ((decide (v ≥ 12)) = false → (D.f 3).n = -1)) ∧ (((decide (v ≥ 5)) = true → (D.f 4).n = IntKind.i64.wrap (T.at_ 4).N) ∧ ((decide (v ≥ 5)) = false → (D.f 4).n = -1)) ∧ ((D.f 5).n = IntKind.i32.wrap (T.at_ 5).N) ∧ ((((if (decide (v ≥ 12)) = true then (G7 T) else false)) = true → (D.f 6).o = C3 (T.at_ 6).S) ∧ (((if (decide (v ≥ 12)) = true then (G7 T) else false)) = false → (D.f 6).o = List.replicate 16 0)) ∧ ((((if (decide (v ≥ 12)) = true then (F5 T) else false)) = true → (D.f 7).n = IntKind.i64.wrap (T.at_ 7).N) ∧ (((if (decide (v ≥ 12)) = true then (F5 T) else false)) = false → (D.f 7).n = 9223372036854775807)) ∧ (((decide (v ≥ 12)) = true → D.u = T.U) ∧ ((decide (v ≥ 12)) = false → D.u = [])) ∧ True
def CG (v:Int) (D:DV) (T:Tree):Prop:=(((if (decide (v ≥ 0)) = true then decide (v ≤ 12) else false) = true → (D.f 0).s = bs (T.at_ 0).S) ∧ ((if (decide (v ≥ 0)) = true then decide (v ≤ 12) else false) = false → (D.f 0).s = ByteArray.empty)) ∧ (((decide (v ≥ 13)) = true → (D.f 1).o = C3 (T.at_ 1).S) ∧ ((decide (v ≥ 13)) = false → (D.f 1).o = List.replicate 16 0)) ∧ (((D.f 2).l = (lst (T.at_ 2)).length ∧ ∀ i,i < (D.f 2).l → CF v ((D.f 2).f i) ((lst (T.at_ 2)).getD i .zero))) ∧ (((decide (v ≥ 12)) = true → D.u = T.U) ∧ ((decide (v ≥ 12)) = false → D.u = [])) ∧ True
def BU (v:Int) (D:DV) (T:Tree):Prop:=(((if (decide (v ≥ 7)) = true then decide (v ≤ 12) else false) = true → (D.f 0).s = bs (T.at_ 0).S) ∧ ((if (decide (v ≥ 7)) = true then decide (v ≤ 12) else false) = false → (D.f 0).s = ByteArray.empty)) ∧ (((decide (v ≥ 13)) = true → (D.f 1).o = C3 (T.at_ 1).S) ∧ ((decide (v ≥ 13)) = false → (D.f 1).o = List.replicate 16 0)) ∧ (((D.f 2).l = (lst (T.at_ 2)).length ∧ ∀ i,i < (D.f 2).l → ((D.f 2).f i).n = IntKind.i32.wrap ((lst (T.at_ 2)).getD i .zero).N)) ∧ (((decide (v ≥ 12)) = true → D.u = T.U) ∧ ((decide (v ≥ 12)) = false → D.u = [])) ∧ True
def BV (v:Int) (D:DV) (T:Tree):Prop:=((((if (decide (v ≥ 12)) = true then (!(T.at_ 0).null) else false)) = true → ((D.f 0).s = bs (E1 (T.at_ 0)) ∧ (D.f 0).A.isNone = (T.at_ 0).null)) ∧ (((if (decide (v ≥ 12)) = true then (!(T.at_ 0).null) else false)) = false → ((D.f 0).s = ByteArray.empty ∧ (D.f 0).A = none))) ∧ (((if (decide (v ≥ 0)) = true then decide (v ≤ 14) else false) = true → (D.f 1).n = IntKind.i32.wrap (T.at_ 1).N) ∧ ((if (decide (v ≥ 0)) = true then decide (v ≤ 14) else false) = false → (D.f 1).n = -1)) ∧ ((((if (decide (v ≥ 12)) = true then (F0 T) else false)) = true → CE v (D.f 2) (T.at_ 2)) ∧ (((if (decide (v ≥ 12)) = true then (F0 T) else false)) = false → (((D.f 2).f 0).n = -1 ∧ ((D.f 2).f 1).n = -1 ∧ (D.f 2).u = []))) ∧ ((D.f 3).n = IntKind.i32.wrap (T.at_ 3).N) ∧ ((D.f 4).n = IntKind.i32.wrap (T.at_ 4).N) ∧ (((decide (v ≥ 3)) = true → (D.f 5).n = IntKind.i32.wrap (T.at_ 5).N) ∧ ((decide (v ≥ 3)) = false → (D.f 5).n = 2147483647)) ∧ (((decide (v ≥ 4)) = true → (D.f 6).n = IntKind.i8.wrap (T.at_ 6).N) ∧ ((decide (v ≥ 4)) = false → (D.f 6).n = 0)) ∧ (((decide (v ≥ 7)) = true → (D.f 7).n = IntKind.i32.wrap (T.at_ 7).N) ∧ ((decide (v ≥ 7)) = false → (D.f 7).n = 0)) ∧ (((decide (v ≥ 7)) = true → (D.f 8).n = IntKind.i32.wrap (T.at_ 8).N) ∧ ((decide (v ≥ 7)) = false → (D.f 8).n = -1)) ∧ (((D.f 9).l = (lst (T.at_ 9)).length ∧ ∀ i,i < (D.f 9).l → CG v ((D.f 9).f i) ((lst (T.at_ 9)).getD i .zero))) ∧ (((decide (v ≥ 7)) = true → ((D.f 10).l = (lst (T.at_ 10)).length ∧ ∀ i,i < (D.f 10).l → BU v ((D.f 10).f i) ((lst (T.at_ 10)).getD i .zero))) ∧ ((decide (v ≥ 7)) = false → ((D.f 10).A = none ∧ (D.f 10).l = 0))) ∧ (((decide (v ≥ 11)) = true → (D.f 11).s = bs (T.at_ 11).S) ∧ ((decide (v ≥ 11)) = false → (D.f 11).s = ByteArray.empty)) ∧ (((decide (v ≥ 12)) = true → D.u = T.U) ∧ ((decide (v ≥ 12)) = false → D.u = [])) ∧ True
theorem Nx (b o:Nat) (w:World):Calls Tryz.prog 56 #[.pointer (some ⟨b,o,none⟩)] w (fun e w'=>e = .returned (.tuple #[]) ∧ w' = w):=by
 refine enter (n:=2) (vs:=[.pointer (some ⟨b,o,none⟩)]) Tryz.func56 rfl Tryz.ntmps56 kz fun a hE=>?_
 refine wp_skip ?_
 exact R6 hE (WOk.start w C1).cells (v:=.tuple #[]) kz ⟨rfl,rfl⟩
theorem Ny (b o:Nat) (w:World):Calls Tryz.prog 68 #[.pointer (some ⟨b,o,none⟩)] w (fun e w'=>e = .returned (.tuple #[]) ∧ w' = w):=by
 refine enter (n:=2) (vs:=[.pointer (some ⟨b,o,none⟩)]) Tryz.func68 rfl Tryz.ntmps68 kz fun a hE=>?_
 refine wp_skip ?_
 exact R6 hE (WOk.start w C1).cells (v:=.tuple #[]) kz ⟨rfl,rfl⟩
set_option maxHeartbeats 4000000 in
theorem Nz (v:Int) (T:Tree) {bv:Nat} {A:Option Addr} {c:Nat} {w:World} {F:Nat → Nat → Prop} (hst:Str w bv [.int .i16 v,.pointer none,.int .i32 (-1),.int .i32 (-1),.int .i64 (-1),.map none,.int .i32 0,.int .i32 0,.int .i32 2147483647,.int .i8 0,.int .i32 0,.int .i32 (-1),.slice none 0 0,.slice none 0 0,.string ByteArray.empty,.map none]) (ho:Octs w F A c (I6 v T)) (hFd:∀ b o,F b o → ¬ (b = bv ∧ o < 16)) (hc:BK T) (hR:T.ranged) :
  Calls Tryz.prog 34 #[.pointer (some ⟨bv,0,none⟩),.slice A (I6 v T).length c,.bool false] w (fun e w'=>∃ D:DV,e = .returned .nilIface ∧ Str w' bv [.int .i16 v,.pointer ((D.f 0).A),.int .i32 ((D.f 1).n),.int .i32 (((D.f 2).f 0).n),.int .i64 (((D.f 2).f 1).n),.map ((D.f 2).m),.int .i32 ((D.f 3).n),.int .i32 ((D.f 4).n),.int .i32 ((D.f 5).n),.int .i8 ((D.f 6).n),.int .i32 ((D.f 7).n),.int .i32 ((D.f 8).n),.slice ((D.f 9).A) ((D.f 9).l) ((D.f 9).c),.slice ((D.f 10).A) ((D.f 10).l) ((D.f 10).c),.string ((D.f 11).s),.map D.m] ∧ Cw w' (Fp F w) D ∧ BV v D T ∧ Step w w' (fun b o=>b = bv ∧ o < 16)):=by
 refine enter (n:=492) Tryz.func34 rfl Tryz.ntmps34 kz fun a hE=>?_
 have hW:=WOk.startStr hst
 let aL:Value:=.int .i16 v
 let aX:Value:=.pointer none
 let az:Value:=.int .i32 (-1)
 let aI:Value:=.int .i64 (-1)
 let aj:Value:=.map none
 let ar:Value:=.int .i32 0
 let bS:Value:=.int .i32 2147483647
 let bJ:Value:=.int .i8 0
 let av:Value:=.slice none 0 0
 let aJ:Value:=.string ByteArray.empty
 have hE1:=(hE.grow ⟨bv,0,[aL,aX,az,az,aI,aj,ar,ar,bS,bJ,ar,az,av,av,aJ,aj],true⟩).recast 0 (.v (.pointer (some ⟨bv,0,none⟩))) (.p 0 0) rfl rfl (Nat.le_of_ble_eq_true (n:=1) rfl)
 let cd:Nat × SV:=(0,.p 0 0)
 let ab:Nat × SV:=(2,.v (.bool false))
 refine B7 [cd,(1,.v (.slice A ((I6 v T).length) c)),ab] hW hE1 fun a1 hE2=>?_
 refine C0 [0,1] kz ?_
 refine B1 [0] [1] [cd,(1,.v (.slice A ((I6 v T).length) c)),ab,(71,.p 0 0)] hW hE2 fun a3 hE4=>?_
 refine B2 (S3 hE4 (f:=32) (vs:=[.pointer (some ⟨bv,0,none⟩)]) (d:=72) (n':=25) kz Tryz.call32 Tryz.func32 rfl Tryz.ntmps32 kz fun a5 hE6=>?_)
 have hE7:=hE6.recast 0 (.v (.pointer (some ⟨bv,0,none⟩))) (.p 0 0) rfl rfl (Nat.le_of_ble_eq_true (n:=1) rfl)
 refine C0 [0,1,2,3] kz ?_
 refine B1 [0,1,2] [3] [cd,(5,.p 0 1)] hW hE7 fun a8 hE9=>?_
 refine B2 (D5 hW hE9 (oi:=0) (cs:=[aL,aX,az,az,aI,aj,ar,ar,bS,bJ,ar,az,av,av,aJ,aj]) kz fun wx vN lp uC=>?_)
 refine B5 (A4 ?_)
 refine C0 [0,1,2,3] kz ?_
 refine B1 [0,1,2] [3] [cd,(8,.p 0 2)] lp uC fun wy uD=>?_
 refine B2 (D5 lp uD (oi:=0) (cs:=[aL,aX,az,az,aI,aj,ar,ar,bS,bJ,ar,az,av,av,aJ,aj]) kz fun wA vO ib uE=>?_)
 refine B5 (A4 ?_)
 refine wp_seq (B7 [cd,(2,.p 0 3)] ib uE fun wB uF=>?_)
 refine B7 [cd,(2,.p 0 3)] ib uF fun wC uG=>?_
 refine C0 [0,1,2,3] kz ?_
 refine B1 [0,1,2] [3] [cd,(2,.p 0 3),(15,.p 0 3)] ib uG fun wD uH=>?_
 refine B2 (D5 ib uH (oi:=0) (cs:=[aL,aX,az,az,aI,aj,ar,ar,bS,bJ,ar,az,av,av,aJ,aj]) kz fun wE vP lq uI=>?_)
 refine B5 (A4 ?_)
 refine D7 [0,1,2,3] kz ?_
 refine B1 [0,1,2] [3] [cd,(18,.p 0 4)] lq uI fun wF uJ=>?_
 refine B2 (D5 lq uJ (oi:=0) (cs:=[aL,aX,az,az,aI,aj,ar,ar,bS,bJ,ar,az,av,av,aJ,aj]) kz fun wG vQ lr uK=>?_)
 refine B5 (A4 ?_)
 refine C0 [0,1,2,3] kz ?_
 refine B1 [0,1,2] [3] [cd,(21,.p 0 8)] lr uK fun wH uL=>?_
 refine B2 (D5 lr uL (oi:=0) (cs:=[aL,aX,az,az,aI,aj,ar,ar,bS,bJ,ar,az,av,av,aJ,aj]) kz fun wI vR ls uM=>?_)
 refine B5 (A4 ?_)
 refine D7 [0,1,2,3] kz ?_
 refine B1 [0,1,2] [3] [(24,.p 0 11)] ls uM fun wJ uN=>?_
 refine B2 (D5 ls uN (oi:=0) (cs:=[aL,aX,az,az,aI,aj,ar,ar,bS,bJ,ar,az,av,av,aJ,aj]) kz fun wK vS kZ uO=>?_)
 refine B5 (R6 uO kZ.cells (v:=.tuple #[]) kz ?_)
 refine ⟨_,rfl,fun wM uP=>?_⟩
 have uQ:EnvOk 492 [⟨bv,0,[aL,aX,az,az,aI,aj,ar,ar,bS,bJ,ar,az,av,av,aJ,aj],true⟩] [(72,.v (.tuple #[])),cd,(1,.v (.slice A ((I6 v T).length) c)),ab,(71,.p 0 0)] _:=uP.places (⟨rfl,rfl,trivial⟩)
 refine B5 (A4 ?_)
 refine C0 [0,1,2,3] kz ?_
 let bd:Value:=.bool false
 refine B1 [0,1] [2,3] [cd,ab,(74,.v (.agg #[.slice A ((I6 v T).length) c,bd]))] kZ uQ fun wN uR=>?_
 refine B2 (H4 kZ uR (d:=7) (cs:=[av,bd]) kz fun bz wO wP vT vU vV uS uT=>?_)
 refine B2 (D5 uS uT (oi:=1) (cs:=[.slice A ((I6 v T).length) c,bd]) kz fun wQ vW k5 uU=>?_)
 refine B5 (A4 ?_)
 let ag:Nat × SV:=(7,.p 0 0)
 have uV:=RS.start (F:=F) (s:=I6 v T) k5 uU (ho.move k5.step (fun b_ o_ h_ _=>hFd b_ o_ h_) (k5.immM hFd)) [(0,.p 1 0),ab,ag]
 have vI:=hc
 have e66r:=hR
 unfold BK at vI
 obtain ⟨e66_0,e66_1,⟨e66_2,e66_2V⟩,e66_3,e66_4,e66_5,e66_6,e66_7,e66_8,⟨e66_9,e66_9e⟩,⟨e66_10,e66_10e⟩,e66_11,e66_U,e66_K,_⟩:=vI
 obtain ⟨lu,lv⟩:∃ R,R = (if (decide (v ≥ 12)) = true then (uv (B3 (!(T.at_ 0).null) + (B3 (F0 T) + T.U.length))) ++ ((G4 (!(T.at_ 0).null) 0 (if (decide (v ≥ 12)) = true then (if (T.at_ 0).null = true then uv 0 else uv ((E1 (T.at_ 0)).length + 1) ++ (E1 (T.at_ 0))) else (if (T.at_ 0).null = true then be 2 (-1) else be 2 (E1 (T.at_ 0)).length ++ (E1 (T.at_ 0))))) ++ ((G4 (F0 T) 1 ((L7 v (T.at_ 2)))) ++ (I1 T.U))) else []) ++ ([]:Bs):=⟨_,rfl⟩
 obtain ⟨fI,lw⟩:∃ R,R = (if (decide (v ≥ 11)) = true then if (decide (v ≥ 12)) = true then (uv ((T.at_ 11).S.length + 1) ++ (T.at_ 11).S) else (be 2 (T.at_ 11).S.length ++ (T.at_ 11).S) else []) ++ lu:=⟨_,rfl⟩
 obtain ⟨iu,lx⟩:∃ R,R = (if (decide (v ≥ 7)) = true then (if (decide (v ≥ 12)) = true then (uv ((lst (T.at_ 10)).length + 1)) else (be 4 (lst (T.at_ 10)).length)) ++ ((lst (T.at_ 10)).flatMap (V6 v)) else []) ++ fI:=⟨_,rfl⟩
 obtain ⟨ly,lz⟩:∃ R,R = ((if (decide (v ≥ 12)) = true then (uv ((lst (T.at_ 9)).length + 1)) else (be 4 (lst (T.at_ 9)).length)) ++ ((lst (T.at_ 9)).flatMap (X5 v))) ++ iu:=⟨_,rfl⟩
 obtain ⟨lA,lB⟩:∃ R,R = (if (decide (v ≥ 7)) = true then be 4 ((IntKind.i32.wrap (T.at_ 8).N)) else []) ++ ly:=⟨_,rfl⟩
 obtain ⟨lC,lD⟩:∃ R,R = (if (decide (v ≥ 7)) = true then be 4 ((IntKind.i32.wrap (T.at_ 7).N)) else []) ++ lA:=⟨_,rfl⟩
 obtain ⟨lE,lF⟩:∃ R,R = (if (decide (v ≥ 4)) = true then be 1 ((IntKind.i8.wrap (T.at_ 6).N)) else []) ++ lC:=⟨_,rfl⟩
 obtain ⟨vX,lG⟩:∃ R,R = (if (decide (v ≥ 3)) = true then be 4 ((IntKind.i32.wrap (T.at_ 5).N)) else []) ++ lE:=⟨_,rfl⟩
 obtain ⟨vY,lH⟩:∃ R,R = (be 4 ((IntKind.i32.wrap (T.at_ 4).N))) ++ vX:=⟨_,rfl⟩
 obtain ⟨k6,lI⟩:∃ R,R = (be 4 ((IntKind.i32.wrap (T.at_ 3).N))) ++ vY:=⟨_,rfl⟩
 obtain ⟨vZ,lJ⟩:∃ R,R = (if ((if (decide (v ≥ 0)) = true then decide (v ≤ 14) else false)) = true then be 4 ((IntKind.i32.wrap (T.at_ 1).N)) else []) ++ k6:=⟨_,rfl⟩
 have uW:=uV.cast (t:=vZ) (by rw [Nw,lJ,lI,lH,lG,lF,lD,lB,lz,lx,lw,lv]; unfold JL; simp only [List.append_assoc])
 refine wp_seq ?_
 let ah:Nat × SV:=(8,.v (.int .i16 v))
 let iv:C6:=[(0,.p 1 0),ab,ag,ah]
 refine E4 iv uW fun _ uX=>?_
 refine A4 (wp_seq (E4 iv uX fun _ uY=>?_))
 refine A4 (wp_seq ?_)
 let ae:Nat × SV:=(9,.v (.bool (decide (v ≥ 12))))
 let iw:C6:=[(0,.p 1 0),ab,ag,ah,ae]
 refine E4 iw uY fun _ uZ=>?_
 refine A4 (wp_seq (E4 iw uZ fun _ u0=>?_))
 refine A4 (wp_seq ?_)
 let ac:Nat × SV:=(10,.p 1 0)
 let aS:C6:=[ab,ag,ah,ae,ac]
 refine E4 aS u0 fun _ u1=>?_
 refine A4 (wp_seq ?_)
 have u2:=u1.cast lJ
 refine P0 (Mid:=fun a_ w_=>∃ (fJ:DV) (P':G5),(∀ w F,P' w F → GI w F ∧ (True) ∧ ((if (decide (v ≥ 0)) = true then decide (v ≤ 14) else false) = true → fJ.n = IntKind.i32.wrap (T.at_ 1).N) ∧ ((if (decide (v ≥ 0)) = true then decide (v ≤ 14) else false) = false → fJ.n = -1)) ∧ RS w (fun b o=>b = bv ∧ o < 16) F 492 bz [⟨bv,0,[aL,aX,.int .i32 fJ.n,az,aI,aj,ar,ar,bS,bJ,ar,az,av,av,aJ,aj],true⟩] aS P' k6 a_ w_) ?_ ?_
 ·
  refine wp_seq (D7 [0,1,2,3,4,5] kz ?_)
  refine H7 [0,1,2] [3,4,5] [ab,ag,ah,ae,ac,(86,.v (.bool (decide (v ≥ 0))))] u2 fun _ ix=>?_
  refine (Bool.eq_false_or_eq_true (decide (v ≥ 0))).elim (fun cz=>?_) (fun cz=>?_)
  ·
   have lK:=ix.envEq (env':=[ab,ag,ah,ae,ac,(86,.v (.bool true))]) (by rw [cz])
   refine H7 [3,4,5] [] [ab,ag,ah,ae,ac,(89,.v (.bool (decide (v ≤ 14))))] lK fun _ fK=>B5 (A4 ?_)
   refine D4 fK.env_ (b:=decide (v ≤ 14)) kz (fun dG=>?_) (fun dG=>?_)
   ·
    have lL:=fK.cast (t:=(be 4 ((IntKind.i32.wrap (T.at_ 1).N))) ++ k6) (by rw [if_pos (by simp only [cz,dG,if_true])])
    refine wp_seq (M3 (d:=90) [ab,ag,ah,ae,ac,(11,.v (.int .i32 (IntKind.i32.wrap (T.at_ 1).N)))] lL (T7 _ _) Tryz.call50 fun _ _ lM=>?_)
    refine A4 (J9 [⟨bv,0,[aL,aX,.int .i32 (IntKind.i32.wrap (T.at_ 1).N),az,aI,aj,ar,ar,bS,bJ,ar,az,av,av,aJ,aj],true⟩] 0 aS lM fun _ _ lN=>?_)
    refine A4 ?_
    exact ⟨K4 (IntKind.i32.wrap (T.at_ 1).N),_,fun w F h_=>⟨h_,trivial,⟨fun _=>rfl,(fun e_=>by simp [cz,dG] at e_)⟩⟩,lN.pk (env':=aS)⟩
   have lO:=fK.cast (t:=[] ++ k6) (by rw [if_neg (by simp only [cz,dG,if_true,if_false,Bool.false_eq_true]; try decide)])
   have lP:=lO.cast (t:=k6) rfl
   refine wp_skip (A4 ?_)
   exact ⟨K4 (-1),_,fun w F h_=>⟨h_,trivial,⟨(fun e_=>by simp [cz,dG] at e_),fun _=>rfl⟩⟩,lP.pk (env':=aS)⟩
  have lQ:=ix.envEq (env':=[ab,ag,ah,ae,ac,(86,.v (.bool false))]) (by rw [cz])
  refine H7 [3,4,5] [] [ab,ag,ah,ae,ac,(89,.v (.bool false))] lQ fun _ iy=>B5 (A4 ?_)
  refine E6 iy.env_ (b:=false) kz rfl ?_
  have lR:=iy.cast (t:=[] ++ k6) (by rw [if_neg (by simp only [cz,if_true,if_false,Bool.false_eq_true]; try decide)])
  have lS:=lR.cast (t:=k6) rfl
  refine wp_skip (A4 ?_)
  exact ⟨K4 (-1),_,fun w F h_=>⟨h_,trivial,⟨(fun e_=>by simp [cz] at e_),fun _=>rfl⟩⟩,lS.pk (env':=aS)⟩
 rintro _ _ ⟨fJ,v2,lT,u3⟩
 refine A4 (wp_seq (wp_seq ?_))
 have lU:=u3.cast lI
 refine M3 (d:=95) [ab,ag,ah,ae,ac,(12,.v (.int .i32 (IntKind.i32.wrap (T.at_ 3).N)))] lU (T7 _ _) Tryz.call50 fun _ _ lV=>?_
 refine A4 ?_
 let aT:Value:=.int .i32 fJ.n
 let aU:Value:=.int .i32 (IntKind.i32.wrap (T.at_ 3).N)
 refine J9 [⟨bv,0,[aL,aX,aT,az,aI,aj,aU,ar,bS,bJ,ar,az,av,av,aJ,aj],true⟩] 0 aS lV fun _ _ lW=>?_
 refine A4 (wp_seq (wp_seq ?_))
 have lX:=lW.cast lH
 refine M3 (d:=100) [ab,ag,ah,ae,ac,(13,.v (.int .i32 (IntKind.i32.wrap (T.at_ 4).N)))] lX (T7 _ _) Tryz.call50 fun _ _ lY=>?_
 refine A4 ?_
 let aY:Value:=.int .i32 (IntKind.i32.wrap (T.at_ 4).N)
 refine J9 [⟨bv,0,[aL,aX,aT,az,aI,aj,aU,aY,bS,bJ,ar,az,av,av,aJ,aj],true⟩] 0 aS lY fun _ _ lZ=>?_
 refine A4 (wp_seq ?_)
 have l0:=lZ.cast lG
 refine P0 (Mid:=fun a_ w_=>∃ (cI:DV) (P':G5),(∀ w F,P' w F → v2 w F ∧ (True) ∧ ((decide (v ≥ 3)) = true → cI.n = IntKind.i32.wrap (T.at_ 5).N) ∧ ((decide (v ≥ 3)) = false → cI.n = 2147483647)) ∧ RS w (fun b o=>b = bv ∧ o < 16) F 492 bz [⟨bv,0,[aL,aX,aT,az,aI,aj,aU,aY,.int .i32 cI.n,bJ,ar,az,av,av,aJ,aj],true⟩] aS P' lE a_ w_) ?_ ?_
 ·
  refine wp_seq (E4 [ab,ag,ah,ae,ac,(106,.v (.bool (decide (v ≥ 3))))] l0 fun _ fL=>A4 ?_)
  refine D4 fL.env_ (b:=decide (v ≥ 3)) kz (fun dH=>?_) (fun dH=>?_)
  ·
   have l3:=fL.cast (t:=(be 4 ((IntKind.i32.wrap (T.at_ 5).N))) ++ lE) (by rw [if_pos dH])
   refine wp_seq (M3 (d:=107) [ab,ag,ah,ae,ac,(14,.v (.int .i32 (IntKind.i32.wrap (T.at_ 5).N)))] l3 (T7 _ _) Tryz.call50 fun _ _ l5=>?_)
   refine A4 (J9 [⟨bv,0,[aL,aX,aT,az,aI,aj,aU,aY,.int .i32 (IntKind.i32.wrap (T.at_ 5).N),bJ,ar,az,av,av,aJ,aj],true⟩] 0 aS l5 fun _ _ l6=>?_)
   refine A4 ?_
   exact ⟨K4 (IntKind.i32.wrap (T.at_ 5).N),_,fun w F h_=>⟨h_,trivial,⟨fun _=>rfl,(fun e_=>by rw [dH] at e_; cases e_)⟩⟩,l6.pk (env':=aS)⟩
  have l7:=fL.cast (t:=[] ++ lE) (by rw [if_neg (by rw [dH]; decide)])
  have l9:=l7.cast (t:=lE) rfl
  refine wp_skip (A4 ?_)
  exact ⟨K4 (2147483647),_,fun w F h_=>⟨h_,trivial,⟨(fun e_=>by rw [dH] at e_; cases e_),fun _=>rfl⟩⟩,l9.pk (env':=aS)⟩
 rintro _ _ ⟨cI,u4,ez,ma⟩
 refine A4 (wp_seq ?_)
 have mc:=ma.cast lF
 let bf:Value:=.int .i32 cI.n
 refine P0 (Mid:=fun a_ w_=>∃ (cJ:DV) (P':G5),(∀ w F,P' w F → u4 w F ∧ (True) ∧ ((decide (v ≥ 4)) = true → cJ.n = IntKind.i8.wrap (T.at_ 6).N) ∧ ((decide (v ≥ 4)) = false → cJ.n = 0)) ∧ RS w (fun b o=>b = bv ∧ o < 16) F 492 bz [⟨bv,0,[aL,aX,aT,az,aI,aj,aU,aY,bf,.int .i8 cJ.n,ar,az,av,av,aJ,aj],true⟩] aS P' lC a_ w_) ?_ ?_
 ·
  refine wp_seq (E4 [ab,ag,ah,ae,ac,(113,.v (.bool (decide (v ≥ 4))))] mc fun _ fM=>A4 ?_)
  refine D4 fM.env_ (b:=decide (v ≥ 4)) kz (fun dI=>?_) (fun dI=>?_)
  ·
   have md:=fM.cast (t:=(be 1 ((IntKind.i8.wrap (T.at_ 6).N))) ++ lC) (by rw [if_pos dI])
   refine wp_seq (M3 (d:=114) [ab,ag,ah,ae,ac,(15,.v (.int .i8 (IntKind.i8.wrap (T.at_ 6).N)))] md (No _ _) Tryz.call51 fun _ _ me=>?_)
   refine A4 (J9 [⟨bv,0,[aL,aX,aT,az,aI,aj,aU,aY,bf,.int .i8 (IntKind.i8.wrap (T.at_ 6).N),ar,az,av,av,aJ,aj],true⟩] 0 aS me fun _ _ mf=>?_)
   refine A4 ?_
   exact ⟨K4 (IntKind.i8.wrap (T.at_ 6).N),_,fun w F h_=>⟨h_,trivial,⟨fun _=>rfl,(fun e_=>by rw [dI] at e_; cases e_)⟩⟩,mf.pk (env':=aS)⟩
  have mg:=fM.cast (t:=[] ++ lC) (by rw [if_neg (by rw [dI]; decide)])
  have mh:=mg.cast (t:=lC) rfl
  refine wp_skip (A4 ?_)
  exact ⟨K4 (0),_,fun w F h_=>⟨h_,trivial,⟨(fun e_=>by rw [dI] at e_; cases e_),fun _=>rfl⟩⟩,mh.pk (env':=aS)⟩
 rintro _ _ ⟨cJ,u6,dj,mj⟩
 refine A4 (wp_seq ?_)
 have ml:=mj.cast lD
 let bk:Value:=.int .i8 cJ.n
 refine P0 (Mid:=fun a_ w_=>∃ (cK:DV) (P':G5),(∀ w F,P' w F → u6 w F ∧ (True) ∧ ((decide (v ≥ 7)) = true → cK.n = IntKind.i32.wrap (T.at_ 7).N) ∧ ((decide (v ≥ 7)) = false → cK.n = 0)) ∧ RS w (fun b o=>b = bv ∧ o < 16) F 492 bz [⟨bv,0,[aL,aX,aT,az,aI,aj,aU,aY,bf,bk,.int .i32 cK.n,az,av,av,aJ,aj],true⟩] aS P' lA a_ w_) ?_ ?_
 ·
  refine wp_seq (E4 [ab,ag,ah,ae,ac,(120,.v (.bool (decide (v ≥ 7))))] ml fun _ fN=>A4 ?_)
  refine D4 fN.env_ (b:=decide (v ≥ 7)) kz (fun dJ=>?_) (fun dJ=>?_)
  ·
   have mn:=fN.cast (t:=(be 4 ((IntKind.i32.wrap (T.at_ 7).N))) ++ lA) (by rw [if_pos dJ])
   refine wp_seq (M3 (d:=121) [ab,ag,ah,ae,ac,(16,.v (.int .i32 (IntKind.i32.wrap (T.at_ 7).N)))] mn (T7 _ _) Tryz.call50 fun _ _ mo=>?_)
   refine A4 (J9 [⟨bv,0,[aL,aX,aT,az,aI,aj,aU,aY,bf,bk,.int .i32 (IntKind.i32.wrap (T.at_ 7).N),az,av,av,aJ,aj],true⟩] 0 aS mo fun _ _ mp=>?_)
   refine A4 ?_
   exact ⟨K4 (IntKind.i32.wrap (T.at_ 7).N),_,fun w F h_=>⟨h_,trivial,⟨fun _=>rfl,(fun e_=>by rw [dJ] at e_; cases e_)⟩⟩,mp.pk (env':=aS)⟩
  have mq:=fN.cast (t:=[] ++ lA) (by rw [if_neg (by rw [dJ]; decide)])
  have mr:=mq.cast (t:=lA) rfl
  refine wp_skip (A4 ?_)
  exact ⟨K4 (0),_,fun w F h_=>⟨h_,trivial,⟨(fun e_=>by rw [dJ] at e_; cases e_),fun _=>rfl⟩⟩,mr.pk (env':=aS)⟩
 rintro _ _ ⟨cK,u7,cD,mt⟩
 refine A4 (wp_seq ?_)
 have mu:=mt.cast lB
 let bo:Value:=.int .i32 cK.n
 refine P0 (Mid:=fun a_ w_=>∃ (cL:DV) (P':G5),(∀ w F,P' w F → u7 w F ∧ (True) ∧ ((decide (v ≥ 7)) = true → cL.n = IntKind.i32.wrap (T.at_ 8).N) ∧ ((decide (v ≥ 7)) = false → cL.n = -1)) ∧ RS w (fun b o=>b = bv ∧ o < 16) F 492 bz [⟨bv,0,[aL,aX,aT,az,aI,aj,aU,aY,bf,bk,bo,.int .i32 cL.n,av,av,aJ,aj],true⟩] aS P' ly a_ w_) ?_ ?_
 ·
  refine wp_seq (E4 [ab,ag,ah,ae,ac,(127,.v (.bool (decide (v ≥ 7))))] mu fun _ fO=>A4 ?_)
  refine D4 fO.env_ (b:=decide (v ≥ 7)) kz (fun dK=>?_) (fun dK=>?_)
  ·
   have mw:=fO.cast (t:=(be 4 ((IntKind.i32.wrap (T.at_ 8).N))) ++ ly) (by rw [if_pos dK])
   refine wp_seq (M3 (d:=128) [ab,ag,ah,ae,ac,(17,.v (.int .i32 (IntKind.i32.wrap (T.at_ 8).N)))] mw (T7 _ _) Tryz.call50 fun _ _ mx=>?_)
   refine A4 (J9 [⟨bv,0,[aL,aX,aT,az,aI,aj,aU,aY,bf,bk,bo,.int .i32 (IntKind.i32.wrap (T.at_ 8).N),av,av,aJ,aj],true⟩] 0 aS mx fun _ _ my=>?_)
   refine A4 ?_
   exact ⟨K4 (IntKind.i32.wrap (T.at_ 8).N),_,fun w F h_=>⟨h_,trivial,⟨fun _=>rfl,(fun e_=>by rw [dK] at e_; cases e_)⟩⟩,my.pk (env':=aS)⟩
  have mz:=fO.cast (t:=[] ++ ly) (by rw [if_neg (by rw [dK]; decide)])
  have mA:=mz.cast (t:=ly) rfl
  refine wp_skip (A4 ?_)
  exact ⟨K4 (-1),_,fun w F h_=>⟨h_,trivial,⟨(fun e_=>by rw [dK] at e_; cases e_),fun _=>rfl⟩⟩,mA.pk (env':=aS)⟩
 rintro _ _ ⟨cL,mB,cq,mC⟩
 refine A4 (wp_seq (wp_seq (E4 [ab,ag,ah,ae,ac,(18,.v (.slice none 0 0))] mC fun _ mD=>?_)))
 refine A4 (wp_seq ?_)
 let cP:Nat × SV:=(19,.v (.slice none 0 0))
 let fP:C6:=[ab,ag,ah,ae,ac,cP]
 refine E4 fP mD fun _ mF=>?_
 refine A4 (wp_seq (E4 fP mF fun _ mG=>?_))
 refine A4 (wp_seq ?_)
 have mH:=mG.cast lz
 have mI:=mH.cast (t:=(if (decide (v ≥ 12)) = true then (uv ((lst (T.at_ 9)).length + 1)) else (be 4 (lst (T.at_ 9)).length)) ++ (((lst (T.at_ 9)).flatMap (X5 v)) ++ iu)) (by rw [List.append_assoc])
 let ai:Nat × SV:=(20,.v (.int .i32 (((lst (T.at_ 9)).length:Nat):Int)))
 let iz:C6:=[ab,ag,ah,ae,ac,cP,ai]
 refine BO (d1:=139) (d2:=140) [ab,ag,ah,ae,ac,cP,(138,.v (.bool (decide (v ≥ 12))))] iz mI (EU ((lst (T.at_ 9)).length) e66_9 _ (flat_ge' (JJ v) _)) Tryz.call52 (ET ((lst (T.at_ 9)).length) e66_9 _ (flat_ge' (JJ v) _)) Tryz.call53 fun _ _ mJ=>?_
 refine A4 (wp_seq (wp_seq (ER (d:=141) [ab,ag,ah,ae,ac,cP,ai,(142,.v (.bool false))] mJ (EV _) Tryz.call54 fun _ _ iA=>?_)))
 refine A4 (E6 iA.env_ (b:=false) kz (rfl) ?_)
 refine wp_skip (A4 (wp_seq (EQ (t:=78) (e:=91) (size:=19) (bytes:=64) (d:=145) (A0:=none) (m:=0) (cp:=0) [ab,ag,ah,ae,ac,ai,(144,.v (.slice none 0 0))] iz 1 iA fun _ mK=>?_)))
 refine A4 ?_
 let bq:Value:=.int .i32 cL.n
 let aB:Ob:=⟨bv,0,[aL,aX,aT,az,aI,aj,aU,aY,bf,bk,bo,bq,av,av,aJ,aj],true⟩
 let dl:Nat × SV:=(7,.v (.pointer (some ⟨bz,0,none⟩)))
 let dp:Nat × SV:=(10,.v (.pointer (some ⟨bv,0,none⟩)))
 let aa:Value:=.int .u8 0
 let vJ:Value:=.agg #[.string ByteArray.empty,.int .u8 0,.int .u8 0,.int .u8 0,.int .u8 0,.int .u8 0,.int .u8 0,.int .u8 0,.int .u8 0,.int .u8 0,.int .u8 0,.int .u8 0,.int .u8 0,.int .u8 0,.int .u8 0,.int .u8 0,.int .u8 0,.slice none 0 0,.map none]
 let vK:Value:=(.agg #[.string ByteArray.empty,.int .u8 0,.int .u8 0,.int .u8 0,.int .u8 0,.int .u8 0,.int .u8 0,.int .u8 0,.int .u8 0,.int .u8 0,.int .u8 0,.int .u8 0,.int .u8 0,.int .u8 0,.int .u8 0,.int .u8 0,.int .u8 0,.slice none 0 0,.map none])
 refine EN (Mid:=fun a_ w_=>∃ (aO:DV) (P':G5),(∀ w F,P' w F → mB w F ∧ (Slots w F 19 aO.A aO.c aO.l (fun i=>[.string (((aO.f i).f 0).s),B0 (((aO.f i).f 1).o.getD 0 0),B0 (((aO.f i).f 1).o.getD 1 0),B0 (((aO.f i).f 1).o.getD 2 0),B0 (((aO.f i).f 1).o.getD 3 0),B0 (((aO.f i).f 1).o.getD 4 0),B0 (((aO.f i).f 1).o.getD 5 0),B0 (((aO.f i).f 1).o.getD 6 0),B0 (((aO.f i).f 1).o.getD 7 0),B0 (((aO.f i).f 1).o.getD 8 0),B0 (((aO.f i).f 1).o.getD 9 0),B0 (((aO.f i).f 1).o.getD 10 0),B0 (((aO.f i).f 1).o.getD 11 0),B0 (((aO.f i).f 1).o.getD 12 0),B0 (((aO.f i).f 1).o.getD 13 0),B0 (((aO.f i).f 1).o.getD 14 0),B0 (((aO.f i).f 1).o.getD 15 0),.slice (((aO.f i).f 2).A) (((aO.f i).f 2).l) (((aO.f i).f 2).c),.map ((aO.f i).m)]) ∧ aO.l ≤ 1000000 ∧ ∀ i,i < aO.l → Bh w F (aO.f i)) ∧ (aO.l = (lst (T.at_ 9)).length ∧ ∀ i,i < aO.l → CG v (aO.f i) ((lst (T.at_ 9)).getD i .zero))) ∧ RS w (fun b o=>b = bv ∧ o < 16) F 492 bz [aB] [ab,ag,ah,ae,ac,(19,.v (.slice aO.A aO.l aO.c))] P' iu a_ w_) ?_ ?_
 ·
  refine wp_seq (E4 [ab,ag,ah,ae,ac,cP,ai,(147,.v (.bool (decide ((((lst (T.at_ 9)).length:Nat):Int) > 0))))] mK fun _ fQ=>A4 ?_)
  let fR:Nat × SV:=(21,.v (.int .i32 0))
  refine D4 fQ.env_ (b:=decide ((((lst (T.at_ 9)).length:Nat):Int) > 0)) kz (fun eB=>?_) (fun eB=>?_)
  ·
   have hn_g191:0 < (lst (T.at_ 9)).length:=by have h_:=of_decide_eq_true eB; omega
   refine D7 [0,1,2,3] kz ?_
   refine H7 [0,1] [2,3] [ab,ag,ah,ae,ac,ai,(148,.v (.slice none 0 0)),(149,.v (.int .i32 (((lst (T.at_ 9)).length:Nat):Int)))] fQ fun _ mL=>?_
   refine B2 (EK (A0:=none) (d:=150) (t:=78) (tn:=21) (e:=91) (size:=19) (bytes:=64) (k:=.i32) (kn:=.i32) (q:=(((lst (T.at_ 9)).length:Nat):Int)) (j:=(lst (T.at_ 9)).length) (.agg #[aJ,aa,aa,aa,aa,aa,aa,aa,aa,aa,aa,aa,aa,aa,aa,aa,aa,av,aj]) mL (fun bt eh _ _ hg_g191 hcap_g191 mM=>?_) rfl hn_g191 (by have:=e66_9; omega))
   let ak:Nat × SV:=(19,.v (.slice (some ⟨bt,0,none⟩) ((lst (T.at_ 9)).length) eh))
   refine H7 [3] [] [ab,ag,ah,ae,ac,ak,ai] mM fun _ mN=>B5 ?_
   refine A4 (wp_seq (E4 [ab,ag,ah,ae,ac,ak,ai,fR] mN fun _ iB=>?_))
   refine A4 (wp_block ?_)
   have fS:=iB.mv
   have mO:=(iB.cast (t:=(lst (T.at_ 9)).flatMap (X5 v) ++ iu) rfl).pk (env':=[ab,ag,ah,ae,ac,ak,ai,(21,.v (.int .i32 ((0:Nat):Int)))])
   refine EM (tb:=[aB]) (z:=.agg #[aJ,aa,aa,aa,aa,aa,aa,aa,aa,aa,aa,aa,aa,aa,aa,aa,aa,av,aj]) (cl:=JO) (ok:=Bh) (rel:=(CG v)) (L:=lst (T.at_ 9)) (size:=19) (X5 v) iu (fun k=>[ab,ag,ah,ae,ac,ak,ai,(21,.v (.int .i32 ((k:Nat):Int)))]) mO BS (fun bn au _ _ fT mQ mR=>?_) (fun _ _ mS=>?_)
   ·
    let am:Nat × SV:=(21,.v (.int .i32 ((bn:Nat):Int)))
    let dL:C6:=[ab,ag,ah,ae,ac,ak,ai,am]
    obtain ⟨u9,iC,mT⟩:∃ P',(∀ w F,P' w F → (mB w F ∧ T5 bt 19 JO Bh (CG v) (lst (T.at_ 9)) bn w F)) ∧ RS w (fun b o=>b = bv ∧ o < 16) F 492 bz [aB,J1 bt 19 (.agg #[aJ,aa,aa,aa,aa,aa,aa,aa,aa,aa,aa,aa,aa,aa,aa,aa,aa,av,aj]) ((lst (T.at_ 9)).length) bn] dL P' ((X5 v) au ++ (((lst (T.at_ 9)).drop (bn + 1)).flatMap (X5 v) ++ iu)) _ _:=⟨_,fun _ _ h=>h,mR⟩
    obtain ⟨fU,iD⟩:∃ R,R = ((lst (T.at_ 9)).drop (bn + 1)).flatMap (X5 v) ++ iu:=⟨_,rfl⟩
    have mU:=(e66_9e au (List.mem_of_getElem? fT))
    have e210r:=(Gm (BI e66r 9) au (List.mem_of_getElem? fT))
    unfold ED at mU
    obtain ⟨e210_0,e210_1,⟨e210_2,e210_2e⟩,e210_U,_⟩:=mU
    obtain ⟨dM,iE⟩:∃ R,R = (if (decide (v ≥ 12)) = true then (uv au.U.length) ++ (I1 au.U) else []) ++ fU:=⟨_,rfl⟩
    obtain ⟨fV,iF⟩:∃ R,R = ((if (decide (v ≥ 12)) = true then (uv ((lst (au.at_ 2)).length + 1)) else (be 4 (lst (au.at_ 2)).length)) ++ ((lst (au.at_ 2)).flatMap (X4 v))) ++ dM:=⟨_,rfl⟩
    obtain ⟨ei,iG⟩:∃ R,R = (if (decide (v ≥ 13)) = true then (C3 (au.at_ 1).S) else []) ++ fV:=⟨_,rfl⟩
    obtain ⟨va,iH⟩:∃ R,R = (if ((if (decide (v ≥ 0)) = true then decide (v ≤ 12) else false)) = true then if (decide (v ≥ 12)) = true then (uv ((au.at_ 0).S.length + 1) ++ (au.at_ 0).S) else (be 2 (au.at_ 0).S.length ++ (au.at_ 0).S) else []) ++ ei:=⟨_,rfl⟩
    have mV:=mT.cast (t:=va) (by rw [iH,iG,iF,iE,← iD]; unfold X5; simp only [List.append_assoc])
    refine wp_seq (wp_seq (E4 [ab,ag,ah,ae,ac,ak,ai,am,(153,.v (.bool (decide (((bn:Nat):Int) < (((lst (T.at_ 9)).length:Nat):Int)))))] mV fun _ iI=>A4 ?_))
    refine I7 iI.env_ (b:=decide (((bn:Nat):Int) < (((lst (T.at_ 9)).length:Nat):Int))) kz (decide_eq_true (by omega)) ?_
    refine wp_skip (A4 (wp_seq (wp_block (wp_seq ?_))))
    let iJ:C6:=[ab,ag,ah,ae,ac,ak,ai,am,(22,.p 3 0)]
    refine GM (t:=78) (e:=91) (size:=19) (bytes:=64) (d:=158) (tb:=[aB]) (z:=.agg #[aJ,aa,aa,aa,aa,aa,aa,aa,aa,aa,aa,aa,aa,aa,aa,aa,aa,av,aj]) [ab,ag,ah,ae,ac,ak,ai,am,(156,.v (.slice (some ⟨bt,0,none⟩) ((lst (T.at_ 9)).length) eh)),(157,.v (.int .i32 ((bn:Nat):Int)))] iJ 2 iI mQ rfl kz fun _ mW=>?_
    let aE:Ob:=J1 bt 19 (.agg #[aJ,aa,aa,aa,aa,aa,aa,aa,aa,aa,aa,aa,aa,aa,aa,aa,aa,av,aj]) ((lst (T.at_ 9)).length) (bn + 1)
    have mX:=mW.tbEq (tb':=[aB,aE,⟨bt,bn * 19,[aJ,aa,aa,aa,aa,aa,aa,aa,aa,aa,aa,aa,aa,aa,aa,aa,aa,av,aj],true⟩]) rfl
    refine A4 (wp_seq (D7 [0,1] kz ?_))
    refine H7 [0] [1] [ab,ag,ah,ae,ac,ak,ai,am,(22,.p 3 0),(159,.p 3 0)] mX fun _ mY=>?_
    refine B2 (Jx (d:=160) (vs:=[.pointer (some ⟨bt,bn * 19,none⟩)]) mY (fun _=>Nx _ _ _) Tryz.call56 fun _ mZ=>?_)
    refine B5 ?_
    have m4:=mZ.pk (env':=iJ)
    refine A4 (wp_seq ?_)
    let ao:Nat × SV:=(23,.p 3 0)
    let bT:C6:=[ab,ag,ah,ae,ac,ak,ai,am,ao]
    refine E4 bT m4 fun _ m5=>?_
    refine A4 (wp_seq ?_)
    have m6:=m5.cast iH
    refine P0 (Mid:=fun a_ w_=>∃ (db:DV) (P':G5),(∀ w F,P' w F → u9 w F ∧ (db.s.size ≤ 1000000) ∧ ((if (decide (v ≥ 0)) = true then decide (v ≤ 12) else false) = true → db.s = bs (au.at_ 0).S) ∧ ((if (decide (v ≥ 0)) = true then decide (v ≤ 12) else false) = false → db.s = ByteArray.empty)) ∧ RS w (fun b o=>b = bv ∧ o < 16) F 492 bz [aB,aE,⟨bt,bn * 19,[.string db.s,aa,aa,aa,aa,aa,aa,aa,aa,aa,aa,aa,aa,aa,aa,aa,aa,av,aj],true⟩] bT P' ei a_ w_) ?_ ?_
    ·
     refine wp_seq (D7 [0,1,2,3,4,5] kz ?_)
     refine H7 [0,1,2] [3,4,5] [ab,ag,ah,ae,ac,ak,ai,am,ao,(164,.v (.bool (decide (v ≥ 0))))] m6 fun _ iK=>?_
     refine (Bool.eq_false_or_eq_true (decide (v ≥ 0))).elim (fun cA=>?_) (fun cA=>?_)
     ·
      have m7:=iK.envEq (env':=[ab,ag,ah,ae,ac,ak,ai,am,ao,(164,.v (.bool true))]) (by rw [cA])
      refine H7 [3,4,5] [] [ab,ag,ah,ae,ac,ak,ai,am,ao,(167,.v (.bool (decide (v ≤ 12))))] m7 fun _ fW=>B5 (A4 ?_)
      refine D4 fW.env_ (b:=decide (v ≤ 12)) kz (fun dN=>?_) (fun dN=>?_)
      ·
       have m8:=fW.cast (t:=(if (decide (v ≥ 12)) = true then (uv ((au.at_ 0).S.length + 1) ++ (au.at_ 0).S) else (be 2 (au.at_ 0).S.length ++ (au.at_ 0).S)) ++ ei) (by rw [if_pos (by simp only [cA,dN,if_true])])
       refine wp_seq (E4 bT m8 fun _ m9=>?_)
       refine A4 (wp_seq (wp_seq (E4 [ab,ag,ah,ae,ac,ak,ai,am,ao,(168,.v (.bool false))] m9 fun _ iL=>A4 ?_)))
       refine E6 iL.env_ (b:=false) kz (rfl) ?_
       refine BO (d1:=173) (d2:=174) [ab,ag,ah,ae,ac,ak,ai,am,ao,(172,.v (.bool (decide (v ≥ 12))))] [ab,ag,ah,ae,ac,ak,ai,am,ao,(24,.v (.string (bs (au.at_ 0).S)))] iL (GO (au.at_ 0).S e210_0 _) Tryz.call59 (GN (au.at_ 0).S e210_0 _) Tryz.call60 fun _ _ nf=>?_
       refine A4 (J9 [aB,aE,⟨bt,bn * 19,[.string (bs (au.at_ 0).S),aa,aa,aa,aa,aa,aa,aa,aa,aa,aa,aa,aa,aa,aa,aa,aa,av,aj],true⟩] 2 bT nf fun _ _ ng=>?_)
       refine A4 ?_
       exact ⟨Bi (bs (au.at_ 0).S),_,fun w F h_=>⟨h_,by show ByteArray.size (bs _) ≤ 1000000; rw [Eo]; exact Nat.le_trans e210_0 (by decide),⟨fun _=>rfl,(fun e_=>by simp [cA,dN] at e_)⟩⟩,ng.pk (env':=bT)⟩
      have nh:=fW.cast (t:=[] ++ ei) (by rw [if_neg (by simp only [cA,dN,if_true,if_false,Bool.false_eq_true]; try decide)])
      have ni:=nh.cast (t:=ei) rfl
      refine wp_skip (A4 ?_)
      exact ⟨Bi ByteArray.empty,_,fun w F h_=>⟨h_,Nat.zero_le _,⟨(fun e_=>by simp [cA,dN] at e_),fun _=>rfl⟩⟩,ni.pk (env':=bT)⟩
     have nj:=iK.envEq (env':=[ab,ag,ah,ae,ac,ak,ai,am,ao,(164,.v (.bool false))]) (by rw [cA])
     refine H7 [3,4,5] [] [ab,ag,ah,ae,ac,ak,ai,am,ao,(167,.v (.bool false))] nj fun _ iM=>B5 (A4 ?_)
     refine E6 iM.env_ (b:=false) kz rfl ?_
     have nk:=iM.cast (t:=[] ++ ei) (by rw [if_neg (by simp only [cA,if_true,if_false,Bool.false_eq_true]; try decide)])
     have nl:=nk.cast (t:=ei) rfl
     refine wp_skip (A4 ?_)
     exact ⟨Bi ByteArray.empty,_,fun w F h_=>⟨h_,Nat.zero_le _,⟨(fun e_=>by simp [cA] at e_),fun _=>rfl⟩⟩,nl.pk (env':=bT)⟩
    rintro _ _ ⟨db,vb,eC,nm⟩
    refine A4 (wp_seq ?_)
    have np:=nm.cast iG
    let cQ:Value:=.string db.s
    refine P0 (Mid:=fun a_ w_=>∃ (aD:DV) (P':G5),(∀ w F,P' w F → vb w F ∧ (aD.o.length = 16) ∧ ((decide (v ≥ 13)) = true → aD.o = C3 (au.at_ 1).S) ∧ ((decide (v ≥ 13)) = false → aD.o = List.replicate 16 0)) ∧ RS w (fun b o=>b = bv ∧ o < 16) F 492 bz [aB,aE,⟨bt,bn * 19,[cQ,B0 (aD.o.getD 0 0),B0 (aD.o.getD 1 0),B0 (aD.o.getD 2 0),B0 (aD.o.getD 3 0),B0 (aD.o.getD 4 0),B0 (aD.o.getD 5 0),B0 (aD.o.getD 6 0),B0 (aD.o.getD 7 0),B0 (aD.o.getD 8 0),B0 (aD.o.getD 9 0),B0 (aD.o.getD 10 0),B0 (aD.o.getD 11 0),B0 (aD.o.getD 12 0),B0 (aD.o.getD 13 0),B0 (aD.o.getD 14 0),B0 (aD.o.getD 15 0),av,aj],true⟩] bT P' fV a_ w_) ?_ ?_
    ·
     refine wp_seq (E4 [ab,ag,ah,ae,ac,ak,ai,am,ao,(180,.v (.bool (decide (v ≥ 13))))] np fun _ fX=>A4 ?_)
     refine D4 fX.env_ (b:=decide (v ≥ 13)) kz (fun dO=>?_) (fun dO=>?_)
     ·
      have nr:=fX.cast (t:=(C3 (au.at_ 1).S) ++ fV) (by rw [if_pos dO])
      refine wp_seq (D7 [0,1,2] kz ?_)
      refine B2 (Bk (d:=181) nr (GP (au.at_ 1).S _) Tryz.call61 fun _ _ ns=>?_)
      refine B2 (BN (d:=25) [aa,aa,aa,aa,aa,aa,aa,aa,aa,aa,aa,aa,aa,aa,aa,aa] ns fun nt _ _ hb_b259 nu=>?_)
      let iN:Ob:=⟨bt,bn * 19,[cQ,aa,aa,aa,aa,aa,aa,aa,aa,aa,aa,aa,aa,aa,aa,aa,aa,av,aj],true⟩
      have nv:=(nu.tbEq (tb':=[aB,aE,iN,⟨nt,0,[aa,aa,aa,aa,aa,aa,aa,aa,aa,aa,aa,aa,aa,aa,aa,aa],true⟩]) rfl).pk (env':=[ab,ag,ah,ae,ac,ak,ai,am,ao,(180,.v (.bool (decide (v ≥ 13)))),(181,.v (.agg #[B0 ((C3 (au.at_ 1).S).getD 0 0),B0 ((C3 (au.at_ 1).S).getD 1 0),B0 ((C3 (au.at_ 1).S).getD 2 0),B0 ((C3 (au.at_ 1).S).getD 3 0),B0 ((C3 (au.at_ 1).S).getD 4 0),B0 ((C3 (au.at_ 1).S).getD 5 0),B0 ((C3 (au.at_ 1).S).getD 6 0),B0 ((C3 (au.at_ 1).S).getD 7 0),B0 ((C3 (au.at_ 1).S).getD 8 0),B0 ((C3 (au.at_ 1).S).getD 9 0),B0 ((C3 (au.at_ 1).S).getD 10 0),B0 ((C3 (au.at_ 1).S).getD 11 0),B0 ((C3 (au.at_ 1).S).getD 12 0),B0 ((C3 (au.at_ 1).S).getD 13 0),B0 ((C3 (au.at_ 1).S).getD 14 0),B0 ((C3 (au.at_ 1).S).getD 15 0)])),(25,.p 4 0)])
      let iO:Ob:=⟨nt,0,[B0 ((C3 (au.at_ 1).S).getD 0 0),B0 ((C3 (au.at_ 1).S).getD 1 0),B0 ((C3 (au.at_ 1).S).getD 2 0),B0 ((C3 (au.at_ 1).S).getD 3 0),B0 ((C3 (au.at_ 1).S).getD 4 0),B0 ((C3 (au.at_ 1).S).getD 5 0),B0 ((C3 (au.at_ 1).S).getD 6 0),B0 ((C3 (au.at_ 1).S).getD 7 0),B0 ((C3 (au.at_ 1).S).getD 8 0),B0 ((C3 (au.at_ 1).S).getD 9 0),B0 ((C3 (au.at_ 1).S).getD 10 0),B0 ((C3 (au.at_ 1).S).getD 11 0),B0 ((C3 (au.at_ 1).S).getD 12 0),B0 ((C3 (au.at_ 1).S).getD 13 0),B0 ((C3 (au.at_ 1).S).getD 14 0),B0 ((C3 (au.at_ 1).S).getD 15 0)],true⟩
      refine B2 (V4 [aB,aE,iN,iO] 3 nv fun _ nw=>?_)
      refine B5 ?_
      have nx:=nw.pk (env':=[ab,ag,ah,ae,ac,ak,ai,am,ao,(25,.p 4 0)])
      refine A4 ?_
      let iP:Ob:=⟨bt,bn * 19,[cQ,B0 ((C3 (au.at_ 1).S).getD 0 0),B0 ((C3 (au.at_ 1).S).getD 1 0),B0 ((C3 (au.at_ 1).S).getD 2 0),B0 ((C3 (au.at_ 1).S).getD 3 0),B0 ((C3 (au.at_ 1).S).getD 4 0),B0 ((C3 (au.at_ 1).S).getD 5 0),B0 ((C3 (au.at_ 1).S).getD 6 0),B0 ((C3 (au.at_ 1).S).getD 7 0),B0 ((C3 (au.at_ 1).S).getD 8 0),B0 ((C3 (au.at_ 1).S).getD 9 0),B0 ((C3 (au.at_ 1).S).getD 10 0),B0 ((C3 (au.at_ 1).S).getD 11 0),B0 ((C3 (au.at_ 1).S).getD 12 0),B0 ((C3 (au.at_ 1).S).getD 13 0),B0 ((C3 (au.at_ 1).S).getD 14 0),B0 ((C3 (au.at_ 1).S).getD 15 0),av,aj],true⟩
      refine J9 [aB,aE,iP,iO] 2 bT nx fun _ _ ny=>?_
      have nz:=RS.dropT (tb:=[aB,aE,iP]) ny hb_b259 kz
      refine A4 ?_
      exact ⟨BL none (C3 (au.at_ 1).S) 0,_,fun w F h_=>⟨h_,Di _,⟨fun _=>rfl,(fun e_=>by rw [dO] at e_; cases e_)⟩⟩,nz.pk (env':=bT)⟩
     have nA:=fX.cast (t:=[] ++ fV) (by rw [if_neg (by rw [dO]; decide)])
     have nB:=nA.cast (t:=fV) rfl
     refine wp_skip (A4 ?_)
     exact ⟨BL none (List.replicate 16 0) 0,_,fun w F h_=>⟨h_,rfl,⟨(fun e_=>by rw [dO] at e_; cases e_),fun _=>rfl⟩⟩,nB.pk (env':=bT)⟩
    rintro _ _ ⟨aD,nC,dq,nD⟩
    refine A4 (wp_seq (wp_seq (E4 [ab,ag,ah,ae,ac,ak,ai,am,ao,(26,.v (.slice none 0 0))] nD fun _ nE=>?_)))
    refine A4 (wp_seq ?_)
    let cR:Nat × SV:=(27,.v (.slice none 0 0))
    let fY:C6:=[ab,ag,ah,ae,ac,ak,ai,am,ao,cR]
    refine E4 fY nE fun _ nF=>?_
    refine A4 (wp_seq (E4 fY nF fun _ nG=>?_))
    refine A4 (wp_seq ?_)
    have nH:=nG.cast iF
    have nI:=nH.cast (t:=(if (decide (v ≥ 12)) = true then (uv ((lst (au.at_ 2)).length + 1)) else (be 4 (lst (au.at_ 2)).length)) ++ (((lst (au.at_ 2)).flatMap (X4 v)) ++ dM)) (by rw [List.append_assoc])
    let ap:Nat × SV:=(28,.v (.int .i32 (((lst (au.at_ 2)).length:Nat):Int)))
    let iQ:C6:=[ab,ag,ah,ae,ac,ak,ai,am,ao,cR,ap]
    refine BO (d1:=192) (d2:=193) [ab,ag,ah,ae,ac,ak,ai,am,ao,cR,(191,.v (.bool (decide (v ≥ 12))))] iQ nI (EU ((lst (au.at_ 2)).length) e210_2 _ (flat_ge' (JI v) _)) Tryz.call52 (ET ((lst (au.at_ 2)).length) e210_2 _ (flat_ge' (JI v) _)) Tryz.call53 fun _ _ nJ=>?_
    refine A4 (wp_seq (wp_seq (ER (d:=194) [ab,ag,ah,ae,ac,ak,ai,am,ao,cR,ap,(195,.v (.bool false))] nJ (EV _) Tryz.call54 fun _ _ iR=>?_)))
    refine A4 (E6 iR.env_ (b:=false) kz (rfl) ?_)
    refine wp_skip (A4 (wp_seq (EQ (t:=89) (e:=119) (size:=24) (bytes:=72) (d:=198) (A0:=none) (m:=0) (cp:=0) [ab,ag,ah,ae,ac,ak,ai,am,ao,ap,(197,.v (.slice none 0 0))] iQ 1 iR fun _ nK=>?_)))
    refine A4 ?_
    let eD:Value:=B0 (aD.o.getD 0 0)
    let eE:Value:=B0 (aD.o.getD 1 0)
    let eF:Value:=B0 (aD.o.getD 2 0)
    let eG:Value:=B0 (aD.o.getD 3 0)
    let eH:Value:=B0 (aD.o.getD 4 0)
    let eI:Value:=B0 (aD.o.getD 5 0)
    let eJ:Value:=B0 (aD.o.getD 6 0)
    let eK:Value:=B0 (aD.o.getD 7 0)
    let eL:Value:=B0 (aD.o.getD 8 0)
    let eM:Value:=B0 (aD.o.getD 9 0)
    let eN:Value:=B0 (aD.o.getD 10 0)
    let eO:Value:=B0 (aD.o.getD 11 0)
    let eP:Value:=B0 (aD.o.getD 12 0)
    let eQ:Value:=B0 (aD.o.getD 13 0)
    let eR:Value:=B0 (aD.o.getD 14 0)
    let eS:Value:=B0 (aD.o.getD 15 0)
    let aG:Ob:=⟨bt,bn * 19,[cQ,eD,eE,eF,eG,eH,eI,eJ,eK,eL,eM,eN,eO,eP,eQ,eR,eS,av,aj],true⟩
    refine EN (Mid:=fun a_ w_=>∃ (aV:DV) (P':G5),(∀ w F,P' w F → nC w F ∧ (Slots w F 24 aV.A aV.c aV.l (fun i=>[.int .i32 (((aV.f i).f 0).n),.int .i32 (((aV.f i).f 1).n),.int .i64 (((aV.f i).f 2).n),.int .i32 (((aV.f i).f 3).n),.int .i64 (((aV.f i).f 4).n),.int .i32 (((aV.f i).f 5).n),B0 (((aV.f i).f 6).o.getD 0 0),B0 (((aV.f i).f 6).o.getD 1 0),B0 (((aV.f i).f 6).o.getD 2 0),B0 (((aV.f i).f 6).o.getD 3 0),B0 (((aV.f i).f 6).o.getD 4 0),B0 (((aV.f i).f 6).o.getD 5 0),B0 (((aV.f i).f 6).o.getD 6 0),B0 (((aV.f i).f 6).o.getD 7 0),B0 (((aV.f i).f 6).o.getD 8 0),B0 (((aV.f i).f 6).o.getD 9 0),B0 (((aV.f i).f 6).o.getD 10 0),B0 (((aV.f i).f 6).o.getD 11 0),B0 (((aV.f i).f 6).o.getD 12 0),B0 (((aV.f i).f 6).o.getD 13 0),B0 (((aV.f i).f 6).o.getD 14 0),B0 (((aV.f i).f 6).o.getD 15 0),.int .i64 (((aV.f i).f 7).n),.map ((aV.f i).m)]) ∧ aV.l ≤ 1000000 ∧ ∀ i,i < aV.l → Bg w F (aV.f i)) ∧ (aV.l = (lst (au.at_ 2)).length ∧ ∀ i,i < aV.l → CF v (aV.f i) ((lst (au.at_ 2)).getD i .zero))) ∧ RS w (fun b o=>b = bv ∧ o < 16) F 492 bz [aB,aE,aG] [ab,ag,ah,ae,ac,ak,ai,am,ao,(27,.v (.slice aV.A aV.l aV.c))] P' dM a_ w_) ?_ ?_
    ·
     refine wp_seq (E4 [ab,ag,ah,ae,ac,ak,ai,am,ao,cR,ap,(200,.v (.bool (decide ((((lst (au.at_ 2)).length:Nat):Int) > 0))))] nK fun _ fZ=>A4 ?_)
     let f5:Nat × SV:=(29,.v (.int .i32 0))
     refine D4 fZ.env_ (b:=decide ((((lst (au.at_ 2)).length:Nat):Int) > 0)) kz (fun eU=>?_) (fun eU=>?_)
     ·
      have hn_g284:0 < (lst (au.at_ 2)).length:=by have h_:=of_decide_eq_true eU; omega
      refine D7 [0,1,2,3] kz ?_
      refine H7 [0,1] [2,3] [ab,ag,ah,ae,ac,ak,ai,am,ao,ap,(201,.v (.slice none 0 0)),(202,.v (.int .i32 (((lst (au.at_ 2)).length:Nat):Int)))] fZ fun _ nL=>?_
      let aP:Value:=.int .i64 0
      refine B2 (EK (A0:=none) (d:=203) (t:=89) (tn:=21) (e:=119) (size:=24) (bytes:=72) (k:=.i32) (kn:=.i32) (q:=(((lst (au.at_ 2)).length:Nat):Int)) (j:=(lst (au.at_ 2)).length) (.agg #[ar,ar,aP,ar,aP,ar,aa,aa,aa,aa,aa,aa,aa,aa,aa,aa,aa,aa,aa,aa,aa,aa,aP,aj]) nL (fun aW ej _ _ hg_g284 hcap_g284 nM=>?_) rfl hn_g284 (by have:=e210_2; omega))
      let aw:Nat × SV:=(27,.v (.slice (some ⟨aW,0,none⟩) ((lst (au.at_ 2)).length) ej))
      refine H7 [3] [] [ab,ag,ah,ae,ac,ak,ai,am,ao,aw,ap] nM fun _ nN=>B5 ?_
      refine A4 (wp_seq (E4 [ab,ag,ah,ae,ac,ak,ai,am,ao,aw,ap,f5] nN fun _ iS=>?_))
      refine A4 (wp_block ?_)
      have f7:=iS.mv
      have nO:=(iS.cast (t:=(lst (au.at_ 2)).flatMap (X4 v) ++ dM) rfl).pk (env':=[ab,ag,ah,ae,ac,ak,ai,am,ao,aw,ap,(29,.v (.int .i32 ((0:Nat):Int)))])
      let vL:Value:=.agg #[.int .i32 0,.int .i32 0,.int .i64 0,.int .i32 0,.int .i64 0,.int .i32 0,.int .u8 0,.int .u8 0,.int .u8 0,.int .u8 0,.int .u8 0,.int .u8 0,.int .u8 0,.int .u8 0,.int .u8 0,.int .u8 0,.int .u8 0,.int .u8 0,.int .u8 0,.int .u8 0,.int .u8 0,.int .u8 0,.int .i64 0,.map none]
      refine EM (tb:=[aB,aE,aG]) (z:=.agg #[ar,ar,aP,ar,aP,ar,aa,aa,aa,aa,aa,aa,aa,aa,aa,aa,aa,aa,aa,aa,aa,aa,aP,aj]) (cl:=JN) (ok:=Bg) (rel:=(CF v)) (L:=lst (au.at_ 2)) (size:=24) (X4 v) dM (fun k=>[ab,ag,ah,ae,ac,ak,ai,am,ao,aw,ap,(29,.v (.int .i32 ((k:Nat):Int)))]) nO BR (fun aQ af _ _ f8 nP nQ=>?_) (fun _ _ nR=>?_)
      ·
       let ay:Nat × SV:=(29,.v (.int .i32 ((aQ:Nat):Int)))
       let eV:C6:=[ab,ag,ah,ae,ac,ak,ai,am,ao,aw,ap,ay]
       let vM:Value:=(.agg #[.int .i32 0,.int .i32 0,.int .i64 0,.int .i32 0,.int .i64 0,.int .i32 0,.int .u8 0,.int .u8 0,.int .u8 0,.int .u8 0,.int .u8 0,.int .u8 0,.int .u8 0,.int .u8 0,.int .u8 0,.int .u8 0,.int .u8 0,.int .u8 0,.int .u8 0,.int .u8 0,.int .u8 0,.int .u8 0,.int .i64 0,.map none])
       obtain ⟨vc,iT,nS⟩:∃ P',(∀ w F,P' w F → (nC w F ∧ T5 aW 24 JN Bg (CF v) (lst (au.at_ 2)) aQ w F)) ∧ RS w (fun b o=>b = bv ∧ o < 16) F 492 bz [aB,aE,aG,J1 aW 24 (.agg #[ar,ar,aP,ar,aP,ar,aa,aa,aa,aa,aa,aa,aa,aa,aa,aa,aa,aa,aa,aa,aa,aa,aP,aj]) ((lst (au.at_ 2)).length) aQ] eV P' ((X4 v) af ++ (((lst (au.at_ 2)).drop (aQ + 1)).flatMap (X4 v) ++ dM)) _ _:=⟨_,fun _ _ h=>h,nQ⟩
       obtain ⟨dc,iU⟩:∃ R,R = ((lst (au.at_ 2)).drop (aQ + 1)).flatMap (X4 v) ++ dM:=⟨_,rfl⟩
       have nT:=(e210_2e af (List.mem_of_getElem? f8))
       have e303r:=(Gm (BI e210r 2) af (List.mem_of_getElem? f8))
       unfold EC at nT
       obtain ⟨e303_0,e303_1,e303_2,e303_3,e303_4,e303_5,e303_6,e303_7,e303_U,e303_K,_⟩:=nT
       obtain ⟨vd,iV⟩:∃ R,R = (if (decide (v ≥ 12)) = true then (uv (B3 (G7 af) + (B3 (F5 af) + af.U.length))) ++ ((G4 (G7 af) 0 (C3 (af.at_ 6).S)) ++ ((G4 (F5 af) 1 (be 8 ((af.at_ 7).N))) ++ (I1 af.U))) else []) ++ dc:=⟨_,rfl⟩
       obtain ⟨f9,iW⟩:∃ R,R = (be 4 ((IntKind.i32.wrap (af.at_ 5).N))) ++ vd:=⟨_,rfl⟩
       obtain ⟨ga,iX⟩:∃ R,R = (if (decide (v ≥ 5)) = true then be 8 ((af.at_ 4).N) else []) ++ f9:=⟨_,rfl⟩
       obtain ⟨ve,iY⟩:∃ R,R = (if (decide (v ≥ 12)) = true then be 4 ((IntKind.i32.wrap (af.at_ 3).N)) else []) ++ ga:=⟨_,rfl⟩
       obtain ⟨gb,iZ⟩:∃ R,R = (be 8 ((af.at_ 2).N)) ++ ve:=⟨_,rfl⟩
       obtain ⟨vf,i6⟩:∃ R,R = (if (decide (v ≥ 9)) = true then be 4 ((IntKind.i32.wrap (af.at_ 1).N)) else []) ++ gb:=⟨_,rfl⟩
       obtain ⟨vg,i7⟩:∃ R,R = (be 4 ((IntKind.i32.wrap (af.at_ 0).N))) ++ vf:=⟨_,rfl⟩
       have nU:=nS.cast (t:=vg) (by rw [i7,i6,iZ,iY,iX,iW,iV,← iU]; unfold X4; simp only [List.append_assoc])
       refine wp_seq (wp_seq (E4 [ab,ag,ah,ae,ac,ak,ai,am,ao,aw,ap,ay,(206,.v (.bool (decide (((aQ:Nat):Int) < (((lst (au.at_ 2)).length:Nat):Int)))))] nU fun _ ja=>A4 ?_))
       refine I7 ja.env_ (b:=decide (((aQ:Nat):Int) < (((lst (au.at_ 2)).length:Nat):Int))) kz (decide_eq_true (by omega)) ?_
       refine wp_skip (A4 (wp_seq (wp_block (wp_seq ?_))))
       let jb:C6:=[ab,ag,ah,ae,ac,ak,ai,am,ao,aw,ap,ay,(30,.p 5 0)]
       refine GM (t:=89) (e:=119) (size:=24) (bytes:=72) (d:=211) (tb:=[aB,aE,aG]) (z:=.agg #[ar,ar,aP,ar,aP,ar,aa,aa,aa,aa,aa,aa,aa,aa,aa,aa,aa,aa,aa,aa,aa,aa,aP,aj]) [ab,ag,ah,ae,ac,ak,ai,am,ao,aw,ap,ay,(209,.v (.slice (some ⟨aW,0,none⟩) ((lst (au.at_ 2)).length) ej)),(210,.v (.int .i32 ((aQ:Nat):Int)))] jb 2 ja nP rfl kz fun _ nV=>?_
       let aK:Ob:=J1 aW 24 (.agg #[ar,ar,aP,ar,aP,ar,aa,aa,aa,aa,aa,aa,aa,aa,aa,aa,aa,aa,aa,aa,aa,aa,aP,aj]) ((lst (au.at_ 2)).length) (aQ + 1)
       have nW:=nV.tbEq (tb':=[aB,aE,aG,aK,⟨aW,aQ * 24,[ar,ar,aP,ar,aP,ar,aa,aa,aa,aa,aa,aa,aa,aa,aa,aa,aa,aa,aa,aa,aa,aa,aP,aj],true⟩]) rfl
       refine A4 (wp_seq (D7 [0,1] kz ?_))
       refine H7 [0] [1] [ab,ag,ah,ae,ac,ak,ai,am,ao,aw,ap,ay,(30,.p 5 0),(212,.p 5 0)] nW fun _ nX=>?_
       refine B2 (Jr (d:=213) (vs:=[.pointer (some ⟨aW,aQ * 24,none⟩)]) nX Tryz.call62 Tryz.func62 rfl Tryz.ntmps62 (fun _ nY=>?_))
       have nZ:=(nY.recast 0 (.v (.pointer (some ⟨aW,aQ * 24,none⟩))) (.p 5 0) rfl rfl (Nat.le_of_ble_eq_true (n:=6) rfl)).pk (env':=[(0,.p 5 0)])
       refine wp_seq (J9 [aB,aE,aG,aK,⟨aW,aQ * 24,[ar,az,aP,ar,aP,ar,aa,aa,aa,aa,aa,aa,aa,aa,aa,aa,aa,aa,aa,aa,aa,aa,aP,aj],true⟩] 4 [(0,.p 5 0)] nZ fun _ _ n0=>?_)
       refine A4 (wp_seq (J9 [aB,aE,aG,aK,⟨aW,aQ * 24,[ar,az,aP,az,aP,ar,aa,aa,aa,aa,aa,aa,aa,aa,aa,aa,aa,aa,aa,aa,aa,aa,aP,aj],true⟩] 4 [(0,.p 5 0)] n0 fun _ _ n4=>?_))
       refine A4 (wp_seq (J9 [aB,aE,aG,aK,⟨aW,aQ * 24,[ar,az,aP,az,aI,ar,aa,aa,aa,aa,aa,aa,aa,aa,aa,aa,aa,aa,aa,aa,aa,aa,aP,aj],true⟩] 4 [(0,.p 5 0)] n4 fun _ _ n5=>?_))
       refine A4 ?_
       let bO:Value:=.int .i64 9223372036854775807
       refine J9 [aB,aE,aG,aK,⟨aW,aQ * 24,[ar,az,aP,az,aI,ar,aa,aa,aa,aa,aa,aa,aa,aa,aa,aa,aa,aa,aa,aa,aa,aa,bO,aj],true⟩] 4 [] n5 fun _ _ n8=>?_
       refine Js (v:=.tuple #[]) n8 (fun _ oa=>?_) (⟨rfl,rfl,⟨rfl,rfl,⟨rfl,rfl,⟨rfl,rfl,⟨rfl,rfl,⟨rfl,rfl,trivial⟩⟩⟩⟩⟩⟩)
       refine B5 ?_
       have od:=oa.pk (env':=jb)
       refine A4 (wp_seq ?_)
       let aA:Nat × SV:=(31,.p 5 0)
       let bB:C6:=[ab,ag,ah,ae,ac,ak,ai,am,ao,aw,ap,ay,aA]
       refine E4 bB od fun _ oe=>?_
       refine A4 (wp_seq (wp_seq ?_))
       have og:=oe.cast i7
       refine M3 (d:=215) [ab,ag,ah,ae,ac,ak,ai,am,ao,aw,ap,ay,aA,(32,.v (.int .i32 (IntKind.i32.wrap (af.at_ 0).N)))] og (T7 _ _) Tryz.call50 fun _ _ oh=>?_
       refine A4 ?_
       let bu:Value:=.int .i32 (IntKind.i32.wrap (af.at_ 0).N)
       refine J9 [aB,aE,aG,aK,⟨aW,aQ * 24,[bu,az,aP,az,aI,ar,aa,aa,aa,aa,aa,aa,aa,aa,aa,aa,aa,aa,aa,aa,aa,aa,bO,aj],true⟩] 4 bB oh fun _ _ ol=>?_
       refine A4 (wp_seq ?_)
       have om:=ol.cast i6
       refine P0 (Mid:=fun a_ w_=>∃ (dB:DV) (P':G5),(∀ w F,P' w F → vc w F ∧ (True) ∧ ((decide (v ≥ 9)) = true → dB.n = IntKind.i32.wrap (af.at_ 1).N) ∧ ((decide (v ≥ 9)) = false → dB.n = -1)) ∧ RS w (fun b o=>b = bv ∧ o < 16) F 492 bz [aB,aE,aG,aK,⟨aW,aQ * 24,[bu,.int .i32 dB.n,aP,az,aI,ar,aa,aa,aa,aa,aa,aa,aa,aa,aa,aa,aa,aa,aa,aa,aa,aa,bO,aj],true⟩] bB P' gb a_ w_) ?_ ?_
       ·
        refine wp_seq (E4 [ab,ag,ah,ae,ac,ak,ai,am,ao,aw,ap,ay,aA,(221,.v (.bool (decide (v ≥ 9))))] om fun _ gc=>A4 ?_)
        refine D4 gc.env_ (b:=decide (v ≥ 9)) kz (fun dP=>?_) (fun dP=>?_)
        ·
         have oq:=gc.cast (t:=(be 4 ((IntKind.i32.wrap (af.at_ 1).N))) ++ gb) (by rw [if_pos dP])
         refine wp_seq (M3 (d:=222) [ab,ag,ah,ae,ac,ak,ai,am,ao,aw,ap,ay,aA,(33,.v (.int .i32 (IntKind.i32.wrap (af.at_ 1).N)))] oq (T7 _ _) Tryz.call50 fun _ _ ot=>?_)
         refine A4 (J9 [aB,aE,aG,aK,⟨aW,aQ * 24,[bu,.int .i32 (IntKind.i32.wrap (af.at_ 1).N),aP,az,aI,ar,aa,aa,aa,aa,aa,aa,aa,aa,aa,aa,aa,aa,aa,aa,aa,aa,bO,aj],true⟩] 4 bB ot fun _ _ ou=>?_)
         refine A4 ?_
         exact ⟨K4 (IntKind.i32.wrap (af.at_ 1).N),_,fun w F h_=>⟨h_,trivial,⟨fun _=>rfl,(fun e_=>by rw [dP] at e_; cases e_)⟩⟩,ou.pk (env':=bB)⟩
        have ov:=gc.cast (t:=[] ++ gb) (by rw [if_neg (by rw [dP]; decide)])
        have ow:=ov.cast (t:=gb) rfl
        refine wp_skip (A4 ?_)
        exact ⟨K4 (-1),_,fun w F h_=>⟨h_,trivial,⟨(fun e_=>by rw [dP] at e_; cases e_),fun _=>rfl⟩⟩,ow.pk (env':=bB)⟩
       rintro _ _ ⟨dB,vh,eW,ox⟩
       refine A4 (wp_seq (wp_seq ?_))
       have oy:=ox.cast iZ
       refine M3 (d:=227) [ab,ag,ah,ae,ac,ak,ai,am,ao,aw,ap,ay,aA,(34,.v (.int .i64 (IntKind.i64.wrap (af.at_ 2).N)))] oy (ES _ _) Tryz.call63 fun _ _ oz=>?_
       refine A4 ?_
       let bF:Value:=.int .i32 dB.n
       let bG:Value:=.int .i64 (IntKind.i64.wrap (af.at_ 2).N)
       refine J9 [aB,aE,aG,aK,⟨aW,aQ * 24,[bu,bF,bG,az,aI,ar,aa,aa,aa,aa,aa,aa,aa,aa,aa,aa,aa,aa,aa,aa,aa,aa,bO,aj],true⟩] 4 bB oz fun _ _ oA=>?_
       refine A4 (wp_seq ?_)
       have oB:=oA.cast iY
       refine P0 (Mid:=fun a_ w_=>∃ (dC:DV) (P':G5),(∀ w F,P' w F → vh w F ∧ (True) ∧ ((decide (v ≥ 12)) = true → dC.n = IntKind.i32.wrap (af.at_ 3).N) ∧ ((decide (v ≥ 12)) = false → dC.n = -1)) ∧ RS w (fun b o=>b = bv ∧ o < 16) F 492 bz [aB,aE,aG,aK,⟨aW,aQ * 24,[bu,bF,bG,.int .i32 dC.n,aI,ar,aa,aa,aa,aa,aa,aa,aa,aa,aa,aa,aa,aa,aa,aa,aa,aa,bO,aj],true⟩] bB P' ga a_ w_) ?_ ?_
       ·
        refine wp_seq (E4 [ab,ag,ah,ae,ac,ak,ai,am,ao,aw,ap,ay,aA,(233,.v (.bool (decide (v ≥ 12))))] oB fun _ gd=>A4 ?_)
        refine D4 gd.env_ (b:=decide (v ≥ 12)) kz (fun dQ=>?_) (fun dQ=>?_)
        ·
         have oC:=gd.cast (t:=(be 4 ((IntKind.i32.wrap (af.at_ 3).N))) ++ ga) (by rw [if_pos dQ])
         refine wp_seq (M3 (d:=234) [ab,ag,ah,ae,ac,ak,ai,am,ao,aw,ap,ay,aA,(35,.v (.int .i32 (IntKind.i32.wrap (af.at_ 3).N)))] oC (T7 _ _) Tryz.call50 fun _ _ oD=>?_)
         refine A4 (J9 [aB,aE,aG,aK,⟨aW,aQ * 24,[bu,bF,bG,.int .i32 (IntKind.i32.wrap (af.at_ 3).N),aI,ar,aa,aa,aa,aa,aa,aa,aa,aa,aa,aa,aa,aa,aa,aa,aa,aa,bO,aj],true⟩] 4 bB oD fun _ _ oE=>?_)
         refine A4 ?_
         exact ⟨K4 (IntKind.i32.wrap (af.at_ 3).N),_,fun w F h_=>⟨h_,trivial,⟨fun _=>rfl,(fun e_=>by rw [dQ] at e_; cases e_)⟩⟩,oE.pk (env':=bB)⟩
        have oF:=gd.cast (t:=[] ++ ga) (by rw [if_neg (by rw [dQ]; decide)])
        have oG:=oF.cast (t:=ga) rfl
        refine wp_skip (A4 ?_)
        exact ⟨K4 (-1),_,fun w F h_=>⟨h_,trivial,⟨(fun e_=>by rw [dQ] at e_; cases e_),fun _=>rfl⟩⟩,oG.pk (env':=bB)⟩
       rintro _ _ ⟨dC,vj,dr,oH⟩
       refine A4 (wp_seq ?_)
       have oI:=oH.cast iX
       let bU:Value:=.int .i32 dC.n
       refine P0 (Mid:=fun a_ w_=>∃ (dD:DV) (P':G5),(∀ w F,P' w F → vj w F ∧ (True) ∧ ((decide (v ≥ 5)) = true → dD.n = IntKind.i64.wrap (af.at_ 4).N) ∧ ((decide (v ≥ 5)) = false → dD.n = -1)) ∧ RS w (fun b o=>b = bv ∧ o < 16) F 492 bz [aB,aE,aG,aK,⟨aW,aQ * 24,[bu,bF,bG,bU,.int .i64 dD.n,ar,aa,aa,aa,aa,aa,aa,aa,aa,aa,aa,aa,aa,aa,aa,aa,aa,bO,aj],true⟩] bB P' f9 a_ w_) ?_ ?_
       ·
        refine wp_seq (E4 [ab,ag,ah,ae,ac,ak,ai,am,ao,aw,ap,ay,aA,(240,.v (.bool (decide (v ≥ 5))))] oI fun _ ge=>A4 ?_)
        refine D4 ge.env_ (b:=decide (v ≥ 5)) kz (fun dR=>?_) (fun dR=>?_)
        ·
         have oJ:=ge.cast (t:=(be 8 ((af.at_ 4).N)) ++ f9) (by rw [if_pos dR])
         refine wp_seq (M3 (d:=241) [ab,ag,ah,ae,ac,ak,ai,am,ao,aw,ap,ay,aA,(36,.v (.int .i64 (IntKind.i64.wrap (af.at_ 4).N)))] oJ (ES _ _) Tryz.call63 fun _ _ oK=>?_)
         refine A4 (J9 [aB,aE,aG,aK,⟨aW,aQ * 24,[bu,bF,bG,bU,.int .i64 (IntKind.i64.wrap (af.at_ 4).N),ar,aa,aa,aa,aa,aa,aa,aa,aa,aa,aa,aa,aa,aa,aa,aa,aa,bO,aj],true⟩] 4 bB oK fun _ _ oL=>?_)
         refine A4 ?_
         exact ⟨K4 (IntKind.i64.wrap (af.at_ 4).N),_,fun w F h_=>⟨h_,trivial,⟨fun _=>rfl,(fun e_=>by rw [dR] at e_; cases e_)⟩⟩,oL.pk (env':=bB)⟩
        have oM:=ge.cast (t:=[] ++ f9) (by rw [if_neg (by rw [dR]; decide)])
        have oN:=oM.cast (t:=f9) rfl
        refine wp_skip (A4 ?_)
        exact ⟨K4 (-1),_,fun w F h_=>⟨h_,trivial,⟨(fun e_=>by rw [dR] at e_; cases e_),fun _=>rfl⟩⟩,oN.pk (env':=bB)⟩
       rintro _ _ ⟨dD,dE,cE,oO⟩
       refine A4 (wp_seq (wp_seq ?_))
       have oP:=oO.cast iW
       refine M3 (d:=246) [ab,ag,ah,ae,ac,ak,ai,am,ao,aw,ap,ay,aA,(37,.v (.int .i32 (IntKind.i32.wrap (af.at_ 5).N)))] oP (T7 _ _) Tryz.call50 fun _ _ oQ=>?_
       refine A4 ?_
       let cr:Value:=.int .i64 dD.n
       let cu:Value:=.int .i32 (IntKind.i32.wrap (af.at_ 5).N)
       let cB:Ob:=⟨aW,aQ * 24,[bu,bF,bG,bU,cr,cu,aa,aa,aa,aa,aa,aa,aa,aa,aa,aa,aa,aa,aa,aa,aa,aa,bO,aj],true⟩
       refine J9 [aB,aE,aG,aK,cB] 4 bB oQ fun _ _ oR=>?_
       refine A4 ?_
       have oS:=oR.cast iV
       refine P0 (Mid:=fun a_ w_=>∃ (bN gg:DV) (ic:Option Nat) (ek:List (Int × Bs)) (P':G5),(∀ w F,P' w F → dE w F ∧ ((bN.o.length = 16) ∧ ((((if (decide (v ≥ 12)) = true then (G7 af) else false)) = true → bN.o = C3 (af.at_ 6).S) ∧ (((if (decide (v ≥ 12)) = true then (G7 af) else false)) = false → bN.o = List.replicate 16 0))) ∧ ((True) ∧ ((((if (decide (v ≥ 12)) = true then (F5 af) else false)) = true → gg.n = IntKind.i64.wrap (af.at_ 7).N) ∧ (((if (decide (v ≥ 12)) = true then (F5 af) else false)) = false → gg.n = 9223372036854775807))) ∧ (MapR w F ic ek ∧ ek.length ≤ 1000000 ∧ ∀ x ∈ ek,x.2.length < 4294967296) ∧ ((decide (v ≥ 12)) = true → ek = af.U) ∧ ((decide (v ≥ 12)) = false → ek = [])) ∧ RS w (fun b o=>b = bv ∧ o < 16) F 492 bz [aB,aE,aG,aK,⟨aW,aQ * 24,[bu,bF,bG,bU,cr,cu,B0 (bN.o.getD 0 0),B0 (bN.o.getD 1 0),B0 (bN.o.getD 2 0),B0 (bN.o.getD 3 0),B0 (bN.o.getD 4 0),B0 (bN.o.getD 5 0),B0 (bN.o.getD 6 0),B0 (bN.o.getD 7 0),B0 (bN.o.getD 8 0),B0 (bN.o.getD 9 0),B0 (bN.o.getD 10 0),B0 (bN.o.getD 11 0),B0 (bN.o.getD 12 0),B0 (bN.o.getD 13 0),B0 (bN.o.getD 14 0),B0 (bN.o.getD 15 0),.int .i64 gg.n,.map ic],true⟩] eV P' dc a_ w_) ?_ ?_
       ·
        refine wp_seq (E4 [ab,ag,ah,ae,ac,ak,ai,am,ao,aw,ap,ay,aA,(251,.v (.bool (decide (v ≥ 12))))] oS fun _ gh=>A4 ?_)
        refine D4 gh.env_ (b:=decide (v ≥ 12)) kz (fun ce=>?_) (fun ce=>?_)
        ·
         have oT:=gh.cast (t:=((uv (B3 (G7 af) + (B3 (F5 af) + af.U.length))) ++ ((G4 (G7 af) 0 (C3 (af.at_ 6).S)) ++ ((G4 (F5 af) 1 (be 8 ((af.at_ 7).N))) ++ (I1 af.U)))) ++ dc) (by rw [if_pos ce])
         obtain ⟨de,jc⟩:∃ R,R = I1 af.U ++ dc:=⟨_,rfl⟩
         obtain ⟨cM,gi⟩:∃ R,R = G4 (F5 af) 1 (be 8 ((af.at_ 7).N)) ++ de:=⟨_,rfl⟩
         obtain ⟨ig,gj⟩:∃ R,R = G4 (G7 af) 0 (C3 (af.at_ 6).S) ++ cM:=⟨_,rfl⟩
         have oU:=oT.cast (t:=uv (B3 (G7 af) + (B3 (F5 af) + af.U.length)) ++ ig) (by rw [gj,gi,jc]; simp only [List.append_assoc])
         refine wp_seq (M3 (d:=252) [ab,ag,ah,ae,ac,ak,ai,am,ao,aw,ap,ay,aA,(38,.v (.int .u32 (((B3 (G7 af) + (B3 (F5 af) + af.U.length)):Nat):Int)))] oU (X3 (B3 (G7 af) + (B3 (F5 af) + af.U.length)) (by have t0_:=T3 (G7 af); have t1_:=T3 (F5 af); have hu_:=e303_U.2.1; omega) _) Tryz.call64 fun _ _ oV=>?_)
         refine A4 (wp_block ?_)
         obtain ⟨ii,dS⟩:∃ I:Nat → Act → World → Prop,I = (fun q_ a_ w_=>((G7 af) = true ∧ q_ = (B3 (G7 af) + (B3 (F5 af) + af.U.length)) ∧ ∃ (P':G5),(∀ w F,P' w F → dE w F) ∧ RS w (fun b o=>b = bv ∧ o < 16) F 492 bz [aB,aE,aG,aK,cB] [ab,ag,ah,ae,ac,ak,ai,am,ao,aw,ap,ay,aA,(38,.v (.int .u32 (((B3 (G7 af) + (B3 (F5 af) + af.U.length)):Nat):Int)))] P' ig a_ w_) ∨ ((F5 af) = true ∧ q_ = (B3 (F5 af) + af.U.length) ∧ ∃ (al:DV) (P':G5),(∀ w F,P' w F → dE w F ∧ ((al.o.length = 16) ∧ ((((if (decide (v ≥ 12)) = true then (G7 af) else false)) = true → al.o = C3 (af.at_ 6).S) ∧ (((if (decide (v ≥ 12)) = true then (G7 af) else false)) = false → al.o = List.replicate 16 0)))) ∧ RS w (fun b o=>b = bv ∧ o < 16) F 492 bz [aB,aE,aG,aK,⟨aW,aQ * 24,[bu,bF,bG,bU,cr,cu,B0 (al.o.getD 0 0),B0 (al.o.getD 1 0),B0 (al.o.getD 2 0),B0 (al.o.getD 3 0),B0 (al.o.getD 4 0),B0 (al.o.getD 5 0),B0 (al.o.getD 6 0),B0 (al.o.getD 7 0),B0 (al.o.getD 8 0),B0 (al.o.getD 9 0),B0 (al.o.getD 10 0),B0 (al.o.getD 11 0),B0 (al.o.getD 12 0),B0 (al.o.getD 13 0),B0 (al.o.getD 14 0),B0 (al.o.getD 15 0),bO,aj],true⟩] [ab,ag,ah,ae,ac,ak,ai,am,ao,aw,ap,ay,aA,(38,.v (.int .u32 (((B3 (F5 af) + af.U.length):Nat):Int)))] P' cM a_ w_) ∨ (∃ (al cw:DV) (P':G5) (w1_:World) (m_:Option Nat) (j_:Nat),q_ = af.U.length - j_ ∧ j_ ≤ af.U.length ∧ (∀ w F,P' w F → dE w F ∧ ((al.o.length = 16) ∧ ((((if (decide (v ≥ 12)) = true then (G7 af) else false)) = true → al.o = C3 (af.at_ 6).S) ∧ (((if (decide (v ≥ 12)) = true then (G7 af) else false)) = false → al.o = List.replicate 16 0))) ∧ ((True) ∧ ((((if (decide (v ≥ 12)) = true then (F5 af) else false)) = true → cw.n = IntKind.i64.wrap (af.at_ 7).N) ∧ (((if (decide (v ≥ 12)) = true then (F5 af) else false)) = false → cw.n = 9223372036854775807)))) ∧ TU w w1_ (fun b o=>b = bv ∧ o < 16) F 492 bz [aB,aE,aG,aK,⟨aW,aQ * 24,[bu,bF,bG,bU,cr,cu,B0 (al.o.getD 0 0),B0 (al.o.getD 1 0),B0 (al.o.getD 2 0),B0 (al.o.getD 3 0),B0 (al.o.getD 4 0),B0 (al.o.getD 5 0),B0 (al.o.getD 6 0),B0 (al.o.getD 7 0),B0 (al.o.getD 8 0),B0 (al.o.getD 9 0),B0 (al.o.getD 10 0),B0 (al.o.getD 11 0),B0 (al.o.getD 12 0),B0 (al.o.getD 13 0),B0 (al.o.getD 14 0),B0 (al.o.getD 15 0),.int .i64 cw.n,aj],true⟩] [aB,aE,aG,aK,⟨aW,aQ * 24,[bu,bF,bG,bU,cr,cu,B0 (al.o.getD 0 0),B0 (al.o.getD 1 0),B0 (al.o.getD 2 0),B0 (al.o.getD 3 0),B0 (al.o.getD 4 0),B0 (al.o.getD 5 0),B0 (al.o.getD 6 0),B0 (al.o.getD 7 0),B0 (al.o.getD 8 0),B0 (al.o.getD 9 0),B0 (al.o.getD 10 0),B0 (al.o.getD 11 0),B0 (al.o.getD 12 0),B0 (al.o.getD 13 0),B0 (al.o.getD 14 0),B0 (al.o.getD 15 0),.int .i64 cw.n,.map m_],true⟩] [ab,ag,ah,ae,ac,ak,ai,am,ao,aw,ap,ay,aA,(38,.v (.int .u32 ((af.U.length - j_:Nat):Int)))] P' (I1 (af.U.drop j_) ++ dc) m_ (af.U.take j_) a_ w_)):=⟨_,rfl⟩
         have gk:∀ (al cw:DV) (P':G5) (a_:Act) (w_:World),(∀ w F,P' w F → dE w F ∧ ((al.o.length = 16) ∧ ((((if (decide (v ≥ 12)) = true then (G7 af) else false)) = true → al.o = C3 (af.at_ 6).S) ∧ (((if (decide (v ≥ 12)) = true then (G7 af) else false)) = false → al.o = List.replicate 16 0))) ∧ ((True) ∧ ((((if (decide (v ≥ 12)) = true then (F5 af) else false)) = true → cw.n = IntKind.i64.wrap (af.at_ 7).N) ∧ (((if (decide (v ≥ 12)) = true then (F5 af) else false)) = false → cw.n = 9223372036854775807)))) → RS w (fun b o=>b = bv ∧ o < 16) F 492 bz [⟨bv,0,[.int .i16 v,.pointer none,.int .i32 fJ.n,.int .i32 (-1),.int .i64 (-1),.map none,.int .i32 (IntKind.i32.wrap (T.at_ 3).N),.int .i32 (IntKind.i32.wrap (T.at_ 4).N),.int .i32 cI.n,.int .i8 cJ.n,.int .i32 cK.n,.int .i32 cL.n,.slice none 0 0,.slice none 0 0,.string ByteArray.empty,.map none],true⟩,J1 bt 19 (.agg #[.string ByteArray.empty,.int .u8 0,.int .u8 0,.int .u8 0,.int .u8 0,.int .u8 0,.int .u8 0,.int .u8 0,.int .u8 0,.int .u8 0,.int .u8 0,.int .u8 0,.int .u8 0,.int .u8 0,.int .u8 0,.int .u8 0,.int .u8 0,.slice none 0 0,.map none]) ((lst (T.at_ 9)).length) (bn + 1),⟨bt,bn * 19,[.string db.s,B0 (aD.o.getD 0 0),B0 (aD.o.getD 1 0),B0 (aD.o.getD 2 0),B0 (aD.o.getD 3 0),B0 (aD.o.getD 4 0),B0 (aD.o.getD 5 0),B0 (aD.o.getD 6 0),B0 (aD.o.getD 7 0),B0 (aD.o.getD 8 0),B0 (aD.o.getD 9 0),B0 (aD.o.getD 10 0),B0 (aD.o.getD 11 0),B0 (aD.o.getD 12 0),B0 (aD.o.getD 13 0),B0 (aD.o.getD 14 0),B0 (aD.o.getD 15 0),.slice none 0 0,.map none],true⟩,J1 aW 24 (.agg #[.int .i32 0,.int .i32 0,.int .i64 0,.int .i32 0,.int .i64 0,.int .i32 0,.int .u8 0,.int .u8 0,.int .u8 0,.int .u8 0,.int .u8 0,.int .u8 0,.int .u8 0,.int .u8 0,.int .u8 0,.int .u8 0,.int .u8 0,.int .u8 0,.int .u8 0,.int .u8 0,.int .u8 0,.int .u8 0,.int .i64 0,.map none]) ((lst (au.at_ 2)).length) (aQ + 1),⟨aW,aQ * 24,[.int .i32 (IntKind.i32.wrap (af.at_ 0).N),.int .i32 dB.n,.int .i64 (IntKind.i64.wrap (af.at_ 2).N),.int .i32 dC.n,.int .i64 dD.n,.int .i32 (IntKind.i32.wrap (af.at_ 5).N),B0 (al.o.getD 0 0),B0 (al.o.getD 1 0),B0 (al.o.getD 2 0),B0 (al.o.getD 3 0),B0 (al.o.getD 4 0),B0 (al.o.getD 5 0),B0 (al.o.getD 6 0),B0 (al.o.getD 7 0),B0 (al.o.getD 8 0),B0 (al.o.getD 9 0),B0 (al.o.getD 10 0),B0 (al.o.getD 11 0),B0 (al.o.getD 12 0),B0 (al.o.getD 13 0),B0 (al.o.getD 14 0),B0 (al.o.getD 15 0),.int .i64 cw.n,.map none],true⟩] [(2,.v (.bool false)),(7,.p 0 0),(8,.v (.int .i16 v)),(9,.v (.bool (decide (v ≥ 12)))),(10,.p 1 0),(19,.v (.slice (some ⟨bt,0,none⟩) ((lst (T.at_ 9)).length) eh)),(20,.v (.int .i32 (((lst (T.at_ 9)).length:Nat):Int))),(21,.v (.int .i32 ((bn:Nat):Int))),(23,.p 3 0),(27,.v (.slice (some ⟨aW,0,none⟩) ((lst (au.at_ 2)).length) ej)),(28,.v (.int .i32 (((lst (au.at_ 2)).length:Nat):Int))),(29,.v (.int .i32 ((aQ:Nat):Int))),(31,.p 5 0),(38,.v (.int .u32 ((af.U.length:Nat):Int)))] P' de a_ w_ → ii af.U.length a_ w_:=by
          intro al cw P' a_ w_ hp_ hs_
          have h_:=(TU.start hs_).cast jc
          rw [dS]
          exact .inr (.inr (⟨al,cw,P',w_,none,0,rfl,Nat.zero_le _,hp_,h_⟩))
         have gl:∀ (al:DV) (P':G5) (a_:Act) (w_:World),(∀ w F,P' w F → dE w F ∧ ((al.o.length = 16) ∧ ((((if (decide (v ≥ 12)) = true then (G7 af) else false)) = true → al.o = C3 (af.at_ 6).S) ∧ (((if (decide (v ≥ 12)) = true then (G7 af) else false)) = false → al.o = List.replicate 16 0)))) → RS w (fun b o=>b = bv ∧ o < 16) F 492 bz [⟨bv,0,[.int .i16 v,.pointer none,.int .i32 fJ.n,.int .i32 (-1),.int .i64 (-1),.map none,.int .i32 (IntKind.i32.wrap (T.at_ 3).N),.int .i32 (IntKind.i32.wrap (T.at_ 4).N),.int .i32 cI.n,.int .i8 cJ.n,.int .i32 cK.n,.int .i32 cL.n,.slice none 0 0,.slice none 0 0,.string ByteArray.empty,.map none],true⟩,J1 bt 19 (.agg #[.string ByteArray.empty,.int .u8 0,.int .u8 0,.int .u8 0,.int .u8 0,.int .u8 0,.int .u8 0,.int .u8 0,.int .u8 0,.int .u8 0,.int .u8 0,.int .u8 0,.int .u8 0,.int .u8 0,.int .u8 0,.int .u8 0,.int .u8 0,.slice none 0 0,.map none]) ((lst (T.at_ 9)).length) (bn + 1),⟨bt,bn * 19,[.string db.s,B0 (aD.o.getD 0 0),B0 (aD.o.getD 1 0),B0 (aD.o.getD 2 0),B0 (aD.o.getD 3 0),B0 (aD.o.getD 4 0),B0 (aD.o.getD 5 0),B0 (aD.o.getD 6 0),B0 (aD.o.getD 7 0),B0 (aD.o.getD 8 0),B0 (aD.o.getD 9 0),B0 (aD.o.getD 10 0),B0 (aD.o.getD 11 0),B0 (aD.o.getD 12 0),B0 (aD.o.getD 13 0),B0 (aD.o.getD 14 0),B0 (aD.o.getD 15 0),.slice none 0 0,.map none],true⟩,J1 aW 24 (.agg #[.int .i32 0,.int .i32 0,.int .i64 0,.int .i32 0,.int .i64 0,.int .i32 0,.int .u8 0,.int .u8 0,.int .u8 0,.int .u8 0,.int .u8 0,.int .u8 0,.int .u8 0,.int .u8 0,.int .u8 0,.int .u8 0,.int .u8 0,.int .u8 0,.int .u8 0,.int .u8 0,.int .u8 0,.int .u8 0,.int .i64 0,.map none]) ((lst (au.at_ 2)).length) (aQ + 1),⟨aW,aQ * 24,[.int .i32 (IntKind.i32.wrap (af.at_ 0).N),.int .i32 dB.n,.int .i64 (IntKind.i64.wrap (af.at_ 2).N),.int .i32 dC.n,.int .i64 dD.n,.int .i32 (IntKind.i32.wrap (af.at_ 5).N),B0 (al.o.getD 0 0),B0 (al.o.getD 1 0),B0 (al.o.getD 2 0),B0 (al.o.getD 3 0),B0 (al.o.getD 4 0),B0 (al.o.getD 5 0),B0 (al.o.getD 6 0),B0 (al.o.getD 7 0),B0 (al.o.getD 8 0),B0 (al.o.getD 9 0),B0 (al.o.getD 10 0),B0 (al.o.getD 11 0),B0 (al.o.getD 12 0),B0 (al.o.getD 13 0),B0 (al.o.getD 14 0),B0 (al.o.getD 15 0),.int .i64 9223372036854775807,.map none],true⟩] [(2,.v (.bool false)),(7,.p 0 0),(8,.v (.int .i16 v)),(9,.v (.bool (decide (v ≥ 12)))),(10,.p 1 0),(19,.v (.slice (some ⟨bt,0,none⟩) ((lst (T.at_ 9)).length) eh)),(20,.v (.int .i32 (((lst (T.at_ 9)).length:Nat):Int))),(21,.v (.int .i32 ((bn:Nat):Int))),(23,.p 3 0),(27,.v (.slice (some ⟨aW,0,none⟩) ((lst (au.at_ 2)).length) ej)),(28,.v (.int .i32 (((lst (au.at_ 2)).length:Nat):Int))),(29,.v (.int .i32 ((aQ:Nat):Int))),(31,.p 5 0),(38,.v (.int .u32 (((B3 (F5 af) + af.U.length):Nat):Int)))] P' cM a_ w_ → ii (B3 (F5 af) + af.U.length) a_ w_:=by
          intro al P' a_ w_ hp_ hs_
          rcases Bool.eq_false_or_eq_true (F5 af) with dT | dT
          ·
           rw [dS]
           exact .inr (.inl ⟨dT,rfl,al,P',hp_,hs_⟩)
          have e_:(B3 (F5 af) + af.U.length) = af.U.length:=by rw [Eu dT,Nat.zero_add]
          have f_:cM = de:=by rw [gi,Es dT]; rfl
          have g_:=gk al (K4 (9223372036854775807)) P' a_ w_ (fun w F h_=>⟨(hp_ w F h_).1,(hp_ w F h_).2,⟨trivial,⟨(fun e2_=>by rw [if_pos (by exact ce),dT] at e2_; cases e2_),fun _=>rfl⟩⟩⟩) ((hs_.cast f_).envEq (env':=[ab,ag,ah,ae,ac,ak,ai,am,ao,aw,ap,ay,aA,(38,.v (.int .u32 ((af.U.length:Nat):Int)))]) (by rw [e_]))
          rw [e_]
          exact g_
         have k7:∀ (P':G5) (a_:Act) (w_:World),(∀ w F,P' w F → dE w F) → RS w (fun b o=>b = bv ∧ o < 16) F 492 bz [⟨bv,0,[.int .i16 v,.pointer none,.int .i32 fJ.n,.int .i32 (-1),.int .i64 (-1),.map none,.int .i32 (IntKind.i32.wrap (T.at_ 3).N),.int .i32 (IntKind.i32.wrap (T.at_ 4).N),.int .i32 cI.n,.int .i8 cJ.n,.int .i32 cK.n,.int .i32 cL.n,.slice none 0 0,.slice none 0 0,.string ByteArray.empty,.map none],true⟩,J1 bt 19 (.agg #[.string ByteArray.empty,.int .u8 0,.int .u8 0,.int .u8 0,.int .u8 0,.int .u8 0,.int .u8 0,.int .u8 0,.int .u8 0,.int .u8 0,.int .u8 0,.int .u8 0,.int .u8 0,.int .u8 0,.int .u8 0,.int .u8 0,.int .u8 0,.slice none 0 0,.map none]) ((lst (T.at_ 9)).length) (bn + 1),⟨bt,bn * 19,[.string db.s,B0 (aD.o.getD 0 0),B0 (aD.o.getD 1 0),B0 (aD.o.getD 2 0),B0 (aD.o.getD 3 0),B0 (aD.o.getD 4 0),B0 (aD.o.getD 5 0),B0 (aD.o.getD 6 0),B0 (aD.o.getD 7 0),B0 (aD.o.getD 8 0),B0 (aD.o.getD 9 0),B0 (aD.o.getD 10 0),B0 (aD.o.getD 11 0),B0 (aD.o.getD 12 0),B0 (aD.o.getD 13 0),B0 (aD.o.getD 14 0),B0 (aD.o.getD 15 0),.slice none 0 0,.map none],true⟩,J1 aW 24 (.agg #[.int .i32 0,.int .i32 0,.int .i64 0,.int .i32 0,.int .i64 0,.int .i32 0,.int .u8 0,.int .u8 0,.int .u8 0,.int .u8 0,.int .u8 0,.int .u8 0,.int .u8 0,.int .u8 0,.int .u8 0,.int .u8 0,.int .u8 0,.int .u8 0,.int .u8 0,.int .u8 0,.int .u8 0,.int .u8 0,.int .i64 0,.map none]) ((lst (au.at_ 2)).length) (aQ + 1),⟨aW,aQ * 24,[.int .i32 (IntKind.i32.wrap (af.at_ 0).N),.int .i32 dB.n,.int .i64 (IntKind.i64.wrap (af.at_ 2).N),.int .i32 dC.n,.int .i64 dD.n,.int .i32 (IntKind.i32.wrap (af.at_ 5).N),.int .u8 0,.int .u8 0,.int .u8 0,.int .u8 0,.int .u8 0,.int .u8 0,.int .u8 0,.int .u8 0,.int .u8 0,.int .u8 0,.int .u8 0,.int .u8 0,.int .u8 0,.int .u8 0,.int .u8 0,.int .u8 0,.int .i64 9223372036854775807,.map none],true⟩] [(2,.v (.bool false)),(7,.p 0 0),(8,.v (.int .i16 v)),(9,.v (.bool (decide (v ≥ 12)))),(10,.p 1 0),(19,.v (.slice (some ⟨bt,0,none⟩) ((lst (T.at_ 9)).length) eh)),(20,.v (.int .i32 (((lst (T.at_ 9)).length:Nat):Int))),(21,.v (.int .i32 ((bn:Nat):Int))),(23,.p 3 0),(27,.v (.slice (some ⟨aW,0,none⟩) ((lst (au.at_ 2)).length) ej)),(28,.v (.int .i32 (((lst (au.at_ 2)).length:Nat):Int))),(29,.v (.int .i32 ((aQ:Nat):Int))),(31,.p 5 0),(38,.v (.int .u32 (((B3 (G7 af) + (B3 (F5 af) + af.U.length)):Nat):Int)))] P' ig a_ w_ → ii (B3 (G7 af) + (B3 (F5 af) + af.U.length)) a_ w_:=by
          intro P' a_ w_ hp_ hs_
          rcases Bool.eq_false_or_eq_true (G7 af) with dU | dU
          ·
           rw [dS]
           exact .inl ⟨dU,rfl,P',hp_,hs_⟩
          have e_:(B3 (G7 af) + (B3 (F5 af) + af.U.length)) = (B3 (F5 af) + af.U.length):=by rw [Eu dU,Nat.zero_add]
          have f_:ig = cM:=by rw [gj,Es dU]; rfl
          have g_:=gl (BL none (List.replicate 16 0) 0) P' a_ w_ (fun w F h_=>⟨(hp_ w F h_),⟨rfl,⟨(fun e2_=>by rw [if_pos (by exact ce),dU] at e2_; cases e2_),fun _=>rfl⟩⟩⟩) ((hs_.cast f_).envEq (env':=[ab,ag,ah,ae,ac,ak,ai,am,ao,aw,ap,ay,aA,(38,.v (.int .u32 (((B3 (F5 af) + af.U.length):Nat):Int)))]) (by rw [e_]))
          rw [e_]
          exact g_
         have oW:=oV.pk (env':=[ab,ag,ah,ae,ac,ak,ai,am,ao,aw,ap,ay,aA,(38,.v (.int .u32 (((B3 (G7 af) + (B3 (F5 af) + af.U.length)):Nat):Int)))])
         refine wp_loop_ghost ii (B3 (G7 af) + (B3 (F5 af) + af.U.length)) (k7 dE _ _ (fun w F h_=>h_) oW) ?_
         rintro q_ aq wq jd
         rw [dS] at jd
         let bH:Nat × SV:=(7,.p 6 0)
         rcases jd with ⟨dV,rfl,vk,gm,oX⟩ | ⟨dW,rfl,al,v6,je,oY⟩ | ⟨al,cw,oZ,vl,k8,bP,rfl,hj_,eX,o5⟩
         ·
          replace gm:∀ w F,vk w F → dE w F ∧ True:=fun w F h_=>⟨gm w F h_,trivial⟩
          have o6:=oX.cast (t:=uv 0 ++ (uv (C3 (af.at_ 6).S).length ++ ((C3 (af.at_ 6).S) ++ cM))) (by rw [gj,Et dV]; simp only [List.append_assoc])
          refine wp_seq (wp_seq (E4 [ab,ag,ah,ae,ac,ak,ai,am,ao,aw,ap,ay,aA,(38,.v (.int .u32 (((B3 (G7 af) + (B3 (F5 af) + af.U.length)):Nat):Int))),(254,.v (.bool (decide ((((B3 (G7 af) + (B3 (F5 af) + af.U.length)):Nat):Int) > 0))))] o6 fun _ jf=>A4 ?_))
          refine I7 jf.env_ (b:=decide ((((B3 (G7 af) + (B3 (F5 af) + af.U.length)):Nat):Int) > 0)) kz (decide_eq_true (by rw [T4 dV]; omega)) ?_
          refine wp_skip (A4 (wp_seq (wp_block (wp_seq (M3 (d:=257) [ab,ag,ah,ae,ac,ak,ai,am,ao,aw,ap,ay,aA,(38,.v (.int .u32 (((B3 (G7 af) + (B3 (F5 af) + af.U.length)):Nat):Int))),(39,.v (.int .u32 0))] jf ((show O3 _ _ _ (uv (C3 (af.at_ 6).S).length ++ ((C3 (af.at_ 6).S) ++ cM)) (.int .u32 0) from @X3 0 (by decide) (uv (C3 (af.at_ 6).S).length ++ ((C3 (af.at_ 6).S) ++ cM)))) Tryz.call64 fun _ _ o7=>?_)))))
          refine A4 (wp_seq (E4 [ab,ag,ah,ae,ac,ak,ai,am,ao,aw,ap,ay,aA,(38,.v (.int .u32 (((B3 (G7 af) + (B3 (F5 af) + af.U.length)):Nat):Int))),(39,.v (.int .u32 0)),(258,.v (.int .u32 0))] o7 fun _ o9=>?_))
          refine A4 (wp_block (wp_seq (E4 [ab,ag,ah,ae,ac,ak,ai,am,ao,aw,ap,ay,aA,(38,.v (.int .u32 (((B3 (G7 af) + (B3 (F5 af) + af.U.length)):Nat):Int))),(39,.v (.int .u32 0)),(258,.v (.int .u32 0)),(267,.v (.bool true))] o9 fun _ jg=>A4 ?_)))
          refine I7 jg.env_ (b:=true) kz (rfl) ?_
          refine wp_seq (D7 [0,1,2,3,4,5] kz ?_)
          refine B2 (Bk (d:=269) jg (X3 ((C3 (af.at_ 6).S).length) (JE _) ((C3 (af.at_ 6).S) ++ cM)) Tryz.call64 fun _ _ pa=>?_)
          refine H7 [1] [2,3,4,5] [ab,ag,ah,ae,ac,ak,ai,am,ao,aw,ap,ay,aA,(38,.v (.int .u32 (((B3 (G7 af) + (B3 (F5 af) + af.U.length)):Nat):Int))),(270,.v (.int .i64 (IntKind.i64.wrap (((C3 (af.at_ 6).S).length:Nat):Int))))] pa fun _ pb=>?_
          refine B2 (EX (d:=271) (q:=(IntKind.i64.wrap (((C3 (af.at_ 6).S).length:Nat):Int))) (X:=C3 (af.at_ 6).S) (rest:=cM) pb (by have h_:(C3 (af.at_ 6).S).length < 4294967296:=(JE _); first | exact wrap_i64 (by omega) (by omega) | rfl) (V5 _ _) Tryz.call66 fun vm vn _ _ jh pc=>?_)
          let ji:Value:=.slice vm ((C3 (af.at_ 6).S).length) ((C3 (af.at_ 6).S).length)
          let jj:Nat × SV:=(272,.v (.agg #[ji,bd]))
          refine H7 [3] [4,5] [ab,ag,ah,ae,ac,ak,ai,am,ao,aw,ap,ay,aA,(38,.v (.int .u32 (((B3 (G7 af) + (B3 (F5 af) + af.U.length)):Nat):Int))),jj] pc fun _ pd=>?_
          refine B2 (BN (d:=40) [av,bd] pd fun k9 _ _ hb_b442 pe=>?_)
          have pf:=(pe.tbEq (tb':=[aB,aE,aG,aK,cB,⟨k9,0,[av,bd],true⟩]) rfl).pk (env':=[ab,ag,ah,ae,ac,ak,ai,am,ao,aw,ap,ay,aA,(38,.v (.int .u32 (((B3 (G7 af) + (B3 (F5 af) + af.U.length)):Nat):Int))),jj,(40,.p 6 0)])
          refine B2 (V4 [aB,aE,aG,aK,cB,⟨k9,0,[ji,bd],true⟩] 5 pf fun _ pg=>?_)
          refine B5 ?_
          have jk:=pg.pk (env':=[ab,ag,ah,ae,ac,ak,ai,am,ao,aw,ap,ay,aA,(38,.v (.int .u32 (((B3 (G7 af) + (B3 (F5 af) + af.U.length)):Nat):Int))),(40,.p 6 0)])
          obtain ⟨ph,pi,pj,jl⟩:=RS.nest (tb:=[aB,aE,aG,aK,cB]) (si:=C3 (af.at_ 6).S) jk (fun w F h_=>(jh _ _ h_).2)
          let dt:Ob:=⟨bz,0,[.slice ph pi pj,bd],true⟩
          have jm:=((jl.tbEq (tb':=[aB,aE,aG,aK,cB,dt]) rfl).envEq (env':=[ab,bH,ah,ae,ac,ak,ai,am,ao,aw,ap,ay,aA,(38,.v (.int .u32 (((B3 (G7 af) + (B3 (F5 af) + af.U.length)):Nat):Int))),(40,.p 0 0)]) kz).cast (t:=(C3 (af.at_ 6).S) ++ ([]:Bs)) (List.append_nil _).symm
          obtain ⟨v7,jn,pl⟩:∃ P',(∀ w F,P' w F → (vn w F ∧ RdS w F ph pi pj cM)) ∧ RS w (fun b o=>b = bv ∧ o < 16) F 492 k9 [aB,aE,aG,aK,cB,dt] [ab,bH,ah,ae,ac,ak,ai,am,ao,aw,ap,ay,aA,(38,.v (.int .u32 (((B3 (G7 af) + (B3 (F5 af) + af.U.length)):Nat):Int))),(40,.p 0 0)] P' ((C3 (af.at_ 6).S) ++ ([]:Bs)) _ _:=⟨_,fun _ _ h=>h,jm⟩
          clear jk jl jm
          refine A4 (wp_seq (D7 [0,1,2] kz ?_))
          refine B2 (Bk (d:=273) pl (GP (af.at_ 6).S _) Tryz.call61 fun _ _ pm=>?_)
          refine B2 (BN (d:=41) [aa,aa,aa,aa,aa,aa,aa,aa,aa,aa,aa,aa,aa,aa,aa,aa] pm fun pn _ _ hb_b457 po=>?_)
          have pp:=(po.tbEq (tb':=[aB,aE,aG,aK,cB,dt,⟨pn,0,[aa,aa,aa,aa,aa,aa,aa,aa,aa,aa,aa,aa,aa,aa,aa,aa],true⟩]) rfl).pk (env':=[ab,bH,ah,ae,ac,ak,ai,am,ao,aw,ap,ay,aA,(38,.v (.int .u32 (((B3 (G7 af) + (B3 (F5 af) + af.U.length)):Nat):Int))),(40,.p 0 0),(273,.v (.agg #[B0 ((C3 (af.at_ 6).S).getD 0 0),B0 ((C3 (af.at_ 6).S).getD 1 0),B0 ((C3 (af.at_ 6).S).getD 2 0),B0 ((C3 (af.at_ 6).S).getD 3 0),B0 ((C3 (af.at_ 6).S).getD 4 0),B0 ((C3 (af.at_ 6).S).getD 5 0),B0 ((C3 (af.at_ 6).S).getD 6 0),B0 ((C3 (af.at_ 6).S).getD 7 0),B0 ((C3 (af.at_ 6).S).getD 8 0),B0 ((C3 (af.at_ 6).S).getD 9 0),B0 ((C3 (af.at_ 6).S).getD 10 0),B0 ((C3 (af.at_ 6).S).getD 11 0),B0 ((C3 (af.at_ 6).S).getD 12 0),B0 ((C3 (af.at_ 6).S).getD 13 0),B0 ((C3 (af.at_ 6).S).getD 14 0),B0 ((C3 (af.at_ 6).S).getD 15 0)])),(41,.p 7 0)])
          let jo:Ob:=⟨pn,0,[B0 ((C3 (af.at_ 6).S).getD 0 0),B0 ((C3 (af.at_ 6).S).getD 1 0),B0 ((C3 (af.at_ 6).S).getD 2 0),B0 ((C3 (af.at_ 6).S).getD 3 0),B0 ((C3 (af.at_ 6).S).getD 4 0),B0 ((C3 (af.at_ 6).S).getD 5 0),B0 ((C3 (af.at_ 6).S).getD 6 0),B0 ((C3 (af.at_ 6).S).getD 7 0),B0 ((C3 (af.at_ 6).S).getD 8 0),B0 ((C3 (af.at_ 6).S).getD 9 0),B0 ((C3 (af.at_ 6).S).getD 10 0),B0 ((C3 (af.at_ 6).S).getD 11 0),B0 ((C3 (af.at_ 6).S).getD 12 0),B0 ((C3 (af.at_ 6).S).getD 13 0),B0 ((C3 (af.at_ 6).S).getD 14 0),B0 ((C3 (af.at_ 6).S).getD 15 0)],true⟩
          refine B2 (V4 [aB,aE,aG,aK,cB,dt,jo] 6 pp fun _ pq=>?_)
          refine B5 ?_
          have pr:=pq.pk (env':=[ab,bH,ah,ae,ac,ak,ai,am,ao,aw,ap,ay,aA,(38,.v (.int .u32 (((B3 (G7 af) + (B3 (F5 af) + af.U.length)):Nat):Int))),(40,.p 0 0),(41,.p 7 0)])
          refine A4 (wp_seq ?_)
          let gn:Ob:=⟨aW,aQ * 24,[bu,bF,bG,bU,cr,cu,B0 ((C3 (af.at_ 6).S).getD 0 0),B0 ((C3 (af.at_ 6).S).getD 1 0),B0 ((C3 (af.at_ 6).S).getD 2 0),B0 ((C3 (af.at_ 6).S).getD 3 0),B0 ((C3 (af.at_ 6).S).getD 4 0),B0 ((C3 (af.at_ 6).S).getD 5 0),B0 ((C3 (af.at_ 6).S).getD 6 0),B0 ((C3 (af.at_ 6).S).getD 7 0),B0 ((C3 (af.at_ 6).S).getD 8 0),B0 ((C3 (af.at_ 6).S).getD 9 0),B0 ((C3 (af.at_ 6).S).getD 10 0),B0 ((C3 (af.at_ 6).S).getD 11 0),B0 ((C3 (af.at_ 6).S).getD 12 0),B0 ((C3 (af.at_ 6).S).getD 13 0),B0 ((C3 (af.at_ 6).S).getD 14 0),B0 ((C3 (af.at_ 6).S).getD 15 0),bO,aj],true⟩
          refine J9 [aB,aE,aG,aK,gn,dt,jo] 4 [ab,bH,ah,ae,ac,ak,ai,am,ao,aw,ap,ay,aA,(38,.v (.int .u32 (((B3 (G7 af) + (B3 (F5 af) + af.U.length)):Nat):Int))),(40,.p 0 0)] pr fun _ _ pt=>?_
          have pu:=RS.dropT (tb:=[aB,aE,aG,aK,gn,dt]) pt hb_b457 kz
          refine A4 (wp_seq (D7 [0,1] kz (B2 (Dp (d:=278) pu Ds Tryz.call55 fun _ pv=>?_))))
          refine H7 [1] [] [ab,bH,ah,ae,ac,ak,ai,am,ao,aw,ap,ay,aA,(38,.v (.int .u32 (((B3 (G7 af) + (B3 (F5 af) + af.U.length)):Nat):Int))),(42,.v (.nilIface))] pv fun _ pw=>B5 ?_
          refine A4 (wp_seq (E4 [ab,bH,ah,ae,ac,ak,ai,am,ao,aw,ap,ay,aA,(38,.v (.int .u32 (((B3 (G7 af) + (B3 (F5 af) + af.U.length)):Nat):Int))),(42,.v (.nilIface)),(280,.v (.bool false))] pw fun _ jp=>A4 ?_))
          refine E6 jp.env_ (b:=false) kz (rfl) ?_
          refine wp_skip (F2 (F2 (A4 (E4 [ab,bH,ah,ae,ac,ak,ai,am,ao,aw,ap,ay,aA,(38,.v (.int .u32 (IntKind.u32.wrap ((((B3 (G7 af) + (B3 (F5 af) + af.U.length)):Nat):Int) - 1))))] jp fun _ px=>?_))))
          refine A4 ?_
          have pz:=RS.unnest (tb:=[aB,aE,aG,aK,gn]) (so:=cM) px (fun w F h_=>(jn _ _ h_).2) hb_b442 kz
          have d_:IntKind.u32.wrap ((((B3 (G7 af) + (B3 (F5 af) + af.U.length)):Nat):Int) - 1) = (((B3 (F5 af) + af.U.length):Nat):Int):=CD (by rw [T4 dV]) (by have t0_:=T3 (G7 af); have t1_:=T3 (F5 af); have hu_:=e303_U.2.1; omega)
          have pA:=(pz.envEq (env':=[ab,ag,ah,ae,ac,ak,ai,am,ao,aw,ap,ay,aA,(38,.v (.int .u32 (((B3 (F5 af) + af.U.length):Nat):Int)))]) (by first | rfl | (rw [d_]; rfl))).pk (env':=[ab,ag,ah,ae,ac,ak,ai,am,ao,aw,ap,ay,aA,(38,.v (.int .u32 (((B3 (F5 af) + af.U.length):Nat):Int)))])
          exact ⟨(B3 (F5 af) + af.U.length),by rw [T4 dV]; omega,gl (BL none (C3 (af.at_ 6).S) 0) _ _ _ (fun w F h_=>⟨(gm _ _ (jh _ _ (jn _ _ h_).1).1).1,⟨Di _,⟨(fun _=>rfl),(fun e2_=>by rw [if_pos (by exact ce),dV] at e2_; cases e2_)⟩⟩⟩) pA⟩
         ·
          have pB:=oY.cast (t:=uv 1 ++ (uv (be 8 ((af.at_ 7).N)).length ++ ((be 8 ((af.at_ 7).N)) ++ de))) (by rw [gi,Et dW]; simp only [List.append_assoc])
          refine wp_seq (wp_seq (E4 [ab,ag,ah,ae,ac,ak,ai,am,ao,aw,ap,ay,aA,(38,.v (.int .u32 (((B3 (F5 af) + af.U.length):Nat):Int))),(254,.v (.bool (decide ((((B3 (F5 af) + af.U.length):Nat):Int) > 0))))] pB fun _ jq=>A4 ?_))
          refine I7 jq.env_ (b:=decide ((((B3 (F5 af) + af.U.length):Nat):Int) > 0)) kz (decide_eq_true (by rw [T4 dW]; omega)) ?_
          refine wp_skip (A4 (wp_seq (wp_block (wp_seq ?_))))
          let eY:Nat × SV:=(39,.v (.int .u32 1))
          refine M3 (d:=257) [ab,ag,ah,ae,ac,ak,ai,am,ao,aw,ap,ay,aA,(38,.v (.int .u32 (((B3 (F5 af) + af.U.length):Nat):Int))),eY] jq ((show O3 _ _ _ (uv (be 8 ((af.at_ 7).N)).length ++ ((be 8 ((af.at_ 7).N)) ++ de)) (.int .u32 1) from @X3 1 (by decide) (uv (be 8 ((af.at_ 7).N)).length ++ ((be 8 ((af.at_ 7).N)) ++ de)))) Tryz.call64 fun _ _ pC=>?_
          refine A4 (wp_seq (E4 [ab,ag,ah,ae,ac,ak,ai,am,ao,aw,ap,ay,aA,(38,.v (.int .u32 (((B3 (F5 af) + af.U.length):Nat):Int))),eY,(258,.v (.int .u32 1))] pC fun _ pD=>?_))
          refine A4 (wp_block (wp_seq (E4 [ab,ag,ah,ae,ac,ak,ai,am,ao,aw,ap,ay,aA,(38,.v (.int .u32 (((B3 (F5 af) + af.U.length):Nat):Int))),eY,(258,.v (.int .u32 1)),(267,.v (.bool false))] pD fun _ jr=>A4 ?_)))
          refine E6 jr.env_ (b:=false) kz (rfl) ?_
          refine wp_seq (E4 [ab,ag,ah,ae,ac,ak,ai,am,ao,aw,ap,ay,aA,(38,.v (.int .u32 (((B3 (F5 af) + af.U.length):Nat):Int))),eY,(282,.v (.bool true))] jr fun _ js=>A4 ?_)
          refine I7 js.env_ (b:=true) kz (rfl) ?_
          refine wp_seq (D7 [0,1,2,3,4,5] kz ?_)
          refine B2 (Bk (d:=284) js (X3 ((be 8 ((af.at_ 7).N)).length) (JF _ _) ((be 8 ((af.at_ 7).N)) ++ de)) Tryz.call64 fun _ _ pE=>?_)
          refine H7 [1] [2,3,4,5] [ab,ag,ah,ae,ac,ak,ai,am,ao,aw,ap,ay,aA,(38,.v (.int .u32 (((B3 (F5 af) + af.U.length):Nat):Int))),(285,.v (.int .i64 (IntKind.i64.wrap (((be 8 ((af.at_ 7).N)).length:Nat):Int))))] pE fun _ pF=>?_
          refine B2 (EX (d:=286) (q:=(IntKind.i64.wrap (((be 8 ((af.at_ 7).N)).length:Nat):Int))) (X:=be 8 ((af.at_ 7).N)) (rest:=de) pF (by have h_:(be 8 ((af.at_ 7).N)).length < 4294967296:=(JF _ _); first | exact wrap_i64 (by omega) (by omega) | rfl) (V5 _ _) Tryz.call66 fun vo vp _ _ gp pG=>?_)
          let jt:Value:=.slice vo ((be 8 ((af.at_ 7).N)).length) ((be 8 ((af.at_ 7).N)).length)
          let ju:Nat × SV:=(287,.v (.agg #[jt,bd]))
          refine H7 [3] [4,5] [ab,ag,ah,ae,ac,ak,ai,am,ao,aw,ap,ay,aA,(38,.v (.int .u32 (((B3 (F5 af) + af.U.length):Nat):Int))),ju] pG fun _ pH=>?_
          refine B2 (BN (d:=43) [av,bd] pH fun la _ _ hb_b485 pI=>?_)
          let dX:Ob:=⟨aW,aQ * 24,[bu,bF,bG,bU,cr,cu,B0 (al.o.getD 0 0),B0 (al.o.getD 1 0),B0 (al.o.getD 2 0),B0 (al.o.getD 3 0),B0 (al.o.getD 4 0),B0 (al.o.getD 5 0),B0 (al.o.getD 6 0),B0 (al.o.getD 7 0),B0 (al.o.getD 8 0),B0 (al.o.getD 9 0),B0 (al.o.getD 10 0),B0 (al.o.getD 11 0),B0 (al.o.getD 12 0),B0 (al.o.getD 13 0),B0 (al.o.getD 14 0),B0 (al.o.getD 15 0),bO,aj],true⟩
          have pJ:=(pI.tbEq (tb':=[aB,aE,aG,aK,dX,⟨la,0,[av,bd],true⟩]) rfl).pk (env':=[ab,ag,ah,ae,ac,ak,ai,am,ao,aw,ap,ay,aA,(38,.v (.int .u32 (((B3 (F5 af) + af.U.length):Nat):Int))),ju,(43,.p 6 0)])
          refine B2 (V4 [aB,aE,aG,aK,dX,⟨la,0,[jt,bd],true⟩] 5 pJ fun _ pK=>?_)
          refine B5 ?_
          have jv:=pK.pk (env':=[ab,ag,ah,ae,ac,ak,ai,am,ao,aw,ap,ay,aA,(38,.v (.int .u32 (((B3 (F5 af) + af.U.length):Nat):Int))),(43,.p 6 0)])
          obtain ⟨pL,pM,pN,jw⟩:=RS.nest (tb:=[aB,aE,aG,aK,dX]) (si:=be 8 ((af.at_ 7).N)) jv (fun w F h_=>(gp _ _ h_).2)
          let gq:Ob:=⟨bz,0,[.slice pL pM pN,bd],true⟩
          have jx:=((jw.tbEq (tb':=[aB,aE,aG,aK,dX,gq]) rfl).envEq (env':=[ab,bH,ah,ae,ac,ak,ai,am,ao,aw,ap,ay,aA,(38,.v (.int .u32 (((B3 (F5 af) + af.U.length):Nat):Int))),(43,.p 0 0)]) kz).cast (t:=(be 8 ((af.at_ 7).N)) ++ ([]:Bs)) (List.append_nil _).symm
          obtain ⟨v8,gt,pO⟩:∃ P',(∀ w F,P' w F → (vp w F ∧ RdS w F pL pM pN de)) ∧ RS w (fun b o=>b = bv ∧ o < 16) F 492 la [aB,aE,aG,aK,dX,gq] [ab,bH,ah,ae,ac,ak,ai,am,ao,aw,ap,ay,aA,(38,.v (.int .u32 (((B3 (F5 af) + af.U.length):Nat):Int))),(43,.p 0 0)] P' ((be 8 ((af.at_ 7).N)) ++ ([]:Bs)) _ _:=⟨_,fun _ _ h=>h,jx⟩
          clear jv jw jx
          refine A4 (wp_seq (M3 (d:=288) [ab,bH,ah,ae,ac,ak,ai,am,ao,aw,ap,ay,aA,(38,.v (.int .u32 (((B3 (F5 af) + af.U.length):Nat):Int))),(43,.p 0 0),(44,.v (.int .i64 (IntKind.i64.wrap (af.at_ 7).N)))] pO (ES _ _) Tryz.call63 fun _ _ pP=>?_))
          refine A4 (wp_seq ?_)
          let jy:Ob:=⟨aW,aQ * 24,[bu,bF,bG,bU,cr,cu,B0 (al.o.getD 0 0),B0 (al.o.getD 1 0),B0 (al.o.getD 2 0),B0 (al.o.getD 3 0),B0 (al.o.getD 4 0),B0 (al.o.getD 5 0),B0 (al.o.getD 6 0),B0 (al.o.getD 7 0),B0 (al.o.getD 8 0),B0 (al.o.getD 9 0),B0 (al.o.getD 10 0),B0 (al.o.getD 11 0),B0 (al.o.getD 12 0),B0 (al.o.getD 13 0),B0 (al.o.getD 14 0),B0 (al.o.getD 15 0),.int .i64 (IntKind.i64.wrap (af.at_ 7).N),aj],true⟩
          refine J9 [aB,aE,aG,aK,jy,gq] 4 [ab,bH,ah,ae,ac,ak,ai,am,ao,aw,ap,ay,aA,(38,.v (.int .u32 (((B3 (F5 af) + af.U.length):Nat):Int))),(43,.p 0 0)] pP fun _ _ pQ=>?_
          refine A4 (wp_seq (D7 [0,1] kz (B2 (Dp (d:=293) pQ Ds Tryz.call55 fun _ pR=>?_))))
          refine H7 [1] [] [ab,bH,ah,ae,ac,ak,ai,am,ao,aw,ap,ay,aA,(38,.v (.int .u32 (((B3 (F5 af) + af.U.length):Nat):Int))),(45,.v (.nilIface))] pR fun _ pS=>B5 ?_
          refine A4 (wp_seq (E4 [ab,bH,ah,ae,ac,ak,ai,am,ao,aw,ap,ay,aA,(38,.v (.int .u32 (((B3 (F5 af) + af.U.length):Nat):Int))),(45,.v (.nilIface)),(295,.v (.bool false))] pS fun _ jz=>A4 ?_))
          refine E6 jz.env_ (b:=false) kz (rfl) ?_
          refine wp_skip (F2 (F2 (A4 (E4 [ab,bH,ah,ae,ac,ak,ai,am,ao,aw,ap,ay,aA,(38,.v (.int .u32 (IntKind.u32.wrap ((((B3 (F5 af) + af.U.length):Nat):Int) - 1))))] jz fun _ pT=>?_))))
          refine A4 ?_
          have pU:=RS.unnest (tb:=[aB,aE,aG,aK,jy]) (so:=de) pT (fun w F h_=>(gt _ _ h_).2) hb_b485 kz
          have d_:IntKind.u32.wrap ((((B3 (F5 af) + af.U.length):Nat):Int) - 1) = ((af.U.length:Nat):Int):=CD (by rw [T4 dW]) (by have t0_:=T3 (G7 af); have t1_:=T3 (F5 af); have hu_:=e303_U.2.1; omega)
          have pV:=(pU.envEq (env':=[ab,ag,ah,ae,ac,ak,ai,am,ao,aw,ap,ay,aA,(38,.v (.int .u32 ((af.U.length:Nat):Int)))]) (by first | rfl | (rw [d_]; rfl))).pk (env':=[ab,ag,ah,ae,ac,ak,ai,am,ao,aw,ap,ay,aA,(38,.v (.int .u32 ((af.U.length:Nat):Int)))])
          exact ⟨af.U.length,by rw [T4 dW]; omega,gk al (K4 (IntKind.i64.wrap (af.at_ 7).N)) _ _ _ (fun w F h_=>⟨(je _ _ (gp _ _ (gt _ _ h_).1).1).1,(je _ _ (gp _ _ (gt _ _ h_).1).1).2,⟨trivial,⟨(fun _=>rfl),(fun e2_=>by rw [if_pos (by exact ce),dW] at e2_; cases e2_)⟩⟩⟩) pV⟩
         refine wp_seq (wp_seq (X0 [ab,ag,ah,ae,ac,ak,ai,am,ao,aw,ap,ay,aA,(38,.v (.int .u32 ((af.U.length - bP:Nat):Int))),(254,.v (.bool (decide (((af.U.length - bP:Nat):Int) > 0))))] o5 fun _ eZ=>A4 ?_))
         refine D4 eZ.env_ (b:=decide (((af.U.length - bP:Nat):Int) > 0)) kz (fun gv=>?_) (fun gv=>?_)
         ·
          have hlt_:bP < af.U.length:=by have:=of_decide_eq_true gv; omega
          obtain ⟨⟨k_,x_⟩,hu_⟩:∃ y,af.U[bP]? = some y:=⟨_,List.getElem?_eq_getElem hlt_⟩
          have hk_:=(W7 e303r) _ (List.mem_of_getElem? hu_)
          have hx_:=e303_U.2.2 _ (List.mem_of_getElem? hu_)
          have hn_:=e303_K _ (List.mem_of_getElem? hu_)
          dsimp only at hk_ hx_ hn_
          obtain ⟨kk_,rfl⟩:∃ kk:Nat,k_ = (kk:Int):=⟨k_.toNat,(Int.toNat_of_nonneg hk_.1).symm⟩
          refine wp_skip (A4 (wp_seq (wp_block (wp_seq ?_))))
          have pW:=eZ.cast (t:=uv kk_ ++ (uv x_.length ++ (x_ ++ (I1 (af.U.drop (bP + 1)) ++ dc)))) (GL hu_ dc)
          refine D7 [0,1] kz ?_
          refine B2 (JC (d:=257) (vs:=[]) (Qv:=fun v _ _=>v = .int .u32 ((kk_:Nat):Int)) pW (T6 kk_ (by omega) _) rfl Tryz.call64 fun v_ _ _ hv_ pX=>?_)
          subst hv_
          let du:Nat × SV:=(8,.v (.int .i16 v))
          let dv:Nat × SV:=(9,.v (.bool (decide (v ≥ 12))))
          let cS:Nat × SV:=(39,.v (.int .u32 ((kk_:Nat):Int)))
          refine GR [1] [] [ab,ag,du,dv,ac,ak,ai,am,ao,aw,ap,ay,aA,(38,.v (.int .u32 ((af.U.length - bP:Nat):Int))),cS] pX fun _ pY=>B5 (A4 ?_)
          refine wp_seq (X0 [ab,ag,du,dv,ac,ak,ai,am,ao,aw,ap,ay,aA,(38,.v (.int .u32 ((af.U.length - bP:Nat):Int))),cS,(258,.v (.int .u32 ((kk_:Nat):Int)))] pY fun _ pZ=>A4 (wp_block ?_))
          refine wp_seq (X0 [ab,ag,du,dv,ac,ak,ai,am,ao,aw,ap,ay,aA,(38,.v (.int .u32 ((af.U.length - bP:Nat):Int))),cS,(258,.v (.int .u32 ((kk_:Nat):Int))),(267,.v (.bool (((kk_:Nat):Int) == 0)))] pZ fun _ jA=>A4 ?_)
          refine E6 jA.env_ (b:=((kk_:Nat):Int) == 0) kz (by simp only [beq_eq_false_iff_ne,ne_eq]; omega) ?_
          refine wp_seq (X0 [ab,ag,du,dv,ac,ak,ai,am,ao,aw,ap,ay,aA,(38,.v (.int .u32 ((af.U.length - bP:Nat):Int))),cS,(282,.v (.bool (((kk_:Nat):Int) == 1)))] jA fun _ gw=>A4 ?_)
          refine E6 gw.env_ (b:=((kk_:Nat):Int) == 1) kz (by simp only [beq_eq_false_iff_ne,ne_eq]; omega) ?_
          let gx:Nat × SV:=(23,.v (.pointer (some ⟨bt,bn * 19,none⟩)))
          let gy:Nat × SV:=(31,.v (.pointer (some ⟨aW,aQ * 24,none⟩)))
          have hE_:=(((((gw.env_.recast 7 (.p 0 0) (.v (.pointer (some ⟨bz,0,none⟩))) rfl rfl trivial).recast 10 (.p 1 0) (.v (.pointer (some ⟨bv,0,none⟩))) rfl rfl trivial).recast 23 (.p 3 0) (.v (.pointer (some ⟨bt,bn * 19,none⟩))) rfl rfl trivial).recast 31 (.p 5 0) (.v (.pointer (some ⟨aW,aQ * 24,none⟩))) rfl rfl trivial).pick (ks:=[2,7,8,9,10,19,20,21,23,27,28,29,31,38,39]) (env':=[ab,dl,du,dv,dp,ak,ai,am,gx,aw,ap,ay,gy,(38,.v (.int .u32 ((af.U.length - bP:Nat):Int))),cS]) kz).cutTb 0 kz
          refine DS (fun _=>True) 8 kz ?_
          let jB:Nat × SV:=(261,.v (.pointer (some ⟨aW,aQ * 24 + 23,none⟩)))
          refine C7 [0,1,2,3] [ab,dl,du,dv,dp,ak,ai,am,gx,aw,ap,ay,gy,(38,.v (.int .u32 ((af.U.length - bP:Nat):Int))),cS,jB,(262,.v (.int .u32 ((kk_:Nat):Int)))] 4 (B6 (B6 (A5 (A5 (B6 (A5 (B6 (A5 (A5 (B6 (A5 (A5 (B6 (A5 (A5 (B6 (A5 (A5 B8)))))))))))))))))) (fun w_ _=>EZ w_) trivial hE_ fun _ hE1_=>?_
          refine C2 (i:=4) kz (EY (d:=263) (vs:=[]) (Qv:=fun v _ _=>v = .int .u32 ((x_.length:Nat):Int)) gw.drew hE1_ (T6 x_.length hx_ _) rfl Tryz.call64 (fun v_ _ _ hv_ p4 hE2_=>⟨fun _=>trivial,?_⟩) kz)
          subst hv_
          refine C7 [5] [ab,dl,(8,.v (.int .i16 v)),(9,.v (.bool (decide (v ≥ 12)))),dp,ak,ai,am,gx,aw,ap,ay,gy,(38,.v (.int .u32 ((af.U.length - bP:Nat):Int))),cS,jB,(262,.v (.int .u32 ((kk_:Nat):Int))),(264,.v (.int .i64 (IntKind.i64.wrap ((x_.length:Nat):Int))))] 2 (B6 (B6 (A5 (A5 (B6 (A5 (B6 (A5 (A5 (B6 (A5 (A5 (B6 (A5 (A5 (B6 (A5 (A5 B8)))))))))))))))))) (fun w_ _=>EZ w_) trivial hE2_ fun _ hE3_=>?_
          refine C2 (i:=6) kz (EY (d:=265) (vs':=[.int .i64 (IntKind.i64.wrap ((x_.length:Nat):Int))]) (X:=x_) (vs:=[.int .i64 ((x_.length:Nat):Int)]) (Qv:=fun v w' F'=>∃ A2,v = .slice A2 x_.length x_.length ∧ Octs w' F' A2 x_.length x_) p4 hE3_ (V5 x_ _) (by rw [wrap_i64 (by omega) (by omega)]) Tryz.call66 (fun v_ _ _ hv_ p5 hE4_=>⟨fun _=>trivial,?_⟩) kz)
          obtain ⟨A2_,rfl,hx2_⟩:=hv_
          refine C2 (i:=7) kz (JD (d:=266) (k:=4) (off:=23) p5 hE4_ e303_U.1 hu_ hx2_ hk_ (fun r_ _ _ p6 hE6_=>⟨fun _=>trivial,?_⟩) Tryz.call65 rfl rfl rfl kz)
          refine E5 kz (F2 (F2 (A4 ?_))) _
          let jC:Ob:=⟨bv,0,[.int .i16 v,aX,aT,az,aI,aj,aU,aY,bf,bk,bo,bq,av,av,aJ,aj],true⟩
          let jD:Ob:=⟨aW,aQ * 24,[bu,bF,bG,bU,cr,cu,B0 (al.o.getD 0 0),B0 (al.o.getD 1 0),B0 (al.o.getD 2 0),B0 (al.o.getD 3 0),B0 (al.o.getD 4 0),B0 (al.o.getD 5 0),B0 (al.o.getD 6 0),B0 (al.o.getD 7 0),B0 (al.o.getD 8 0),B0 (al.o.getD 9 0),B0 (al.o.getD 10 0),B0 (al.o.getD 11 0),B0 (al.o.getD 12 0),B0 (al.o.getD 13 0),B0 (al.o.getD 14 0),B0 (al.o.getD 15 0),.int .i64 cw.n,.map (some r_)],true⟩
          have hE7_:EnvOk 492 (rdo bz none 0 0 :: [jC,aE,aG,aK,jD]) [ab,ag,(8,.v (.int .i16 v)),(9,.v (.bool (decide (v ≥ 12)))),ac,ak,ai,am,ao,aw,ap,ay,aA,(38,.v (.int .u32 ((af.U.length - bP:Nat):Int)))] _:=(((((hE6_.retable (rdo bz none 0 0 :: [jC,aE,aG,aK,jD])).recast 7 (.v (.pointer (some ⟨bz,0,none⟩))) (.p 0 0) rfl rfl (Nat.le_of_ble_eq_true (n:=1) rfl)).recast 10 (.v (.pointer (some ⟨bv,0,none⟩))) (.p 1 0) rfl rfl (Nat.le_of_ble_eq_true (n:=2) rfl)).recast 23 (.v (.pointer (some ⟨bt,bn * 19,none⟩))) (.p 3 0) rfl rfl (Nat.le_of_ble_eq_true (n:=4) rfl)).recast 31 (.v (.pointer (some ⟨aW,aQ * 24,none⟩))) (.p 5 0) rfl rfl (Nat.le_of_ble_eq_true (n:=6) rfl)).pk
          have p7:=p6.env0 hE7_
          refine X0 [ab,ag,(8,.v (.int .i16 v)),(9,.v (.bool (decide (v ≥ 12)))),ac,ak,ai,am,ao,aw,ap,ay,aA,(38,.v (.int .u32 (IntKind.u32.wrap (((af.U.length - bP:Nat):Int) - 1))))] p7 fun _ jE=>A4 ?_
          rw [show IntKind.u32.wrap (((af.U.length - bP:Nat):Int) - 1) = ((af.U.length - (bP + 1):Nat):Int) from CD (by omega) (by have hu2_:=e303_U.2.1; omega)] at jE
          refine ⟨af.U.length - (bP + 1),by omega,?_⟩
          rw [dS]
          exact .inr (.inr (⟨al,cw,oZ,vl,some r_,bP + 1,rfl,by omega,eX,jE⟩))
         obtain rfl:bP = af.U.length:=by have:=of_decide_eq_false gv; omega
         rw [List.take_length,List.drop_length] at eZ
         obtain ⟨we,e9,p8⟩:∃ P',(∀ w F,P' w F → (oZ w F ∧ MapR w F k8 af.U)) ∧ RS w (fun b o=>b = bv ∧ o < 16) F 492 bz [aB,aE,aG,aK,⟨aW,aQ * 24,[bu,bF,bG,bU,cr,cu,B0 (al.o.getD 0 0),B0 (al.o.getD 1 0),B0 (al.o.getD 2 0),B0 (al.o.getD 3 0),B0 (al.o.getD 4 0),B0 (al.o.getD 5 0),B0 (al.o.getD 6 0),B0 (al.o.getD 7 0),B0 (al.o.getD 8 0),B0 (al.o.getD 9 0),B0 (al.o.getD 10 0),B0 (al.o.getD 11 0),B0 (al.o.getD 12 0),B0 (al.o.getD 13 0),B0 (al.o.getD 14 0),B0 (al.o.getD 15 0),.int .i64 cw.n,.map k8],true⟩] [ab,ag,ah,ae,ac,ak,ai,am,ao,aw,ap,ay,aA,(38,.v (.int .u32 ((af.U.length - af.U.length:Nat):Int))),(254,.v (.bool (decide (((af.U.length - af.U.length:Nat):Int) > 0))))] P' dc _ _:=⟨_,fun _ _ h=>h,(eZ.finish e303_U.1 (W7 e303r)).cast rfl⟩
         refine wp_exit (E7 (E7 (G9 (A4 ?_))))
         exact ⟨al,cw,k8,af.U,_,fun w F h_=>⟨(eX _ _ (e9 _ _ h_).1).1,(eX _ _ (e9 _ _ h_).1).2.1,(eX _ _ (e9 _ _ h_).1).2.2,⟨⟨(e9 _ _ h_).2,e303_U.2.1,e303_U.2.2⟩,⟨(fun _=>rfl),(fun e_=>by rw [ce] at e_; cases e_)⟩⟩⟩,p8.pk (env':=eV)⟩
        have p9:=gh.cast (t:=[] ++ dc) (by rw [if_neg (by rw [ce]; decide)])
        have qa:=p9.cast (t:=dc) rfl
        refine wp_skip (A4 ?_)
        exact ⟨(BL none (List.replicate 16 0) 0),(K4 (9223372036854775807)),none,[],_,fun w F h_=>⟨h_,⟨rfl,⟨(fun e_=>by rw [if_neg (by rw [ce]; decide)] at e_; cases e_),fun _=>rfl⟩⟩,⟨trivial,⟨(fun e_=>by rw [if_neg (by rw [ce]; decide)] at e_; cases e_),fun _=>rfl⟩⟩,⟨⟨MapR.nil _ _,Nat.zero_le _,fun _ h=>by cases h⟩,⟨(fun e_=>by rw [ce] at e_; cases e_),fun _=>rfl⟩⟩⟩,qa.pk (env':=eV)⟩
       rintro _ _ ⟨bN,gg,ic,ek,wg,bC,qb⟩
       refine F2 (A4 (E4 [ab,ag,ah,ae,ac,ak,ai,am,ao,aw,ap,(29,.v (.int .i32 (IntKind.i32.wrap (((aQ:Nat):Int) + 1))))] qb fun _ qc=>?_))
       refine A4 ?_
       let jF:C6:=[ab,ag,ah,ae,ac,ak,ai,am,ao,aw,ap,(29,.v (.int .i32 ((aQ + 1:Nat):Int)))]
       have qd:=(qc.envEq (env':=jF) (by rw [EO (by have:=e210_2; omega)])).pk (env':=jF)
       exact (RS.thing (tb:=[aB,aE,aG]) (z:=.agg #[ar,ar,aP,ar,aP,ar,aa,aa,aa,aa,aa,aa,aa,aa,aa,aa,aa,aa,aa,aa,aa,aa,aP,aj]) (D:=(BM ic ek [K4 (IntKind.i32.wrap (af.at_ 0).N),dB,K4 (IntKind.i64.wrap (af.at_ 2).N),dC,dD,K4 (IntKind.i32.wrap (af.at_ 5).N),bN,gg])) (qd.cast iU) hg_g284 f8 BR f7 rfl (fun w F h_=>⟨(iT _ _ (eW _ _ (dr _ _ (cE _ _ (bC _ _ h_).1).1).1).1).1,(iT _ _ (eW _ _ (dr _ _ (cE _ _ (bC _ _ h_).1).1).1).1).2,⟨(trivial),((eW _ _ (dr _ _ (cE _ _ (bC _ _ h_).1).1).1).2.1),(trivial),((dr _ _ (cE _ _ (bC _ _ h_).1).1).2.1),((cE _ _ (bC _ _ h_).1).2.1),(trivial),((bC _ _ h_).2.1.1),((bC _ _ h_).2.2.1.1),(bC _ _ h_).2.2.2.1.1,(bC _ _ h_).2.2.2.1.2.1,(bC _ _ h_).2.2.2.1.2.2,trivial⟩,⟨(rfl),((eW _ _ (dr _ _ (cE _ _ (bC _ _ h_).1).1).1).2.2),(rfl),((dr _ _ (cE _ _ (bC _ _ h_).1).1).2.2),((cE _ _ (bC _ _ h_).1).2.2),(rfl),((bC _ _ h_).2.1.2),((bC _ _ h_).2.2.1.2),(bC _ _ h_).2.2.2.2,trivial⟩⟩) kz)
      refine wp_seq (wp_seq (E4 [ab,ag,ah,ae,ac,ak,ai,am,ao,aw,ap,(29,.v (.int .i32 (((lst (au.at_ 2)).length:Nat):Int))),(206,.v (.bool (decide ((((lst (au.at_ 2)).length:Nat):Int) < (((lst (au.at_ 2)).length:Nat):Int)))))] nR fun _ jG=>A4 ?_))
      refine E6 jG.env_ (b:=decide ((((lst (au.at_ 2)).length:Nat):Int) < (((lst (au.at_ 2)).length:Nat):Int))) kz (decide_eq_false (by omega)) ?_
      refine wp_exit (E7 (E7 (G9 (A4 ?_))))
      obtain ⟨vq,qe⟩:=RS.listEnd (tb:=[aB,aE,aG]) (c:=ej) (jG.pk (env':=[ab,ag,ah,ae,ac,ak,ai,am,ao,aw])) hg_g284 BR f7 hcap_g284 (by have:=e210_2; omega) hn_g284 kz
      exact ⟨Y8 (some ⟨aW,0,none⟩) (lst (au.at_ 2)).length ej vq,_,fun w F h_=>⟨h_.1,⟨h_.2.1,Nat.le_trans e210_2 (by decide),h_.2.2.1⟩,⟨rfl,h_.2.2.2⟩⟩,qe⟩
     refine wp_skip (A4 (wp_seq (E4 [ab,ag,ah,ae,ac,ak,ai,am,ao,cR,ap,f5] fZ fun _ qf=>?_)))
     refine A4 (wp_block (Dr (wp_seq (wp_seq (E4 [ab,ag,ah,ae,ac,ak,ai,am,ao,cR,ap,f5,(206,.v (.bool (decide (0 < (((lst (au.at_ 2)).length:Nat):Int)))))] qf fun _ jH=>A4 ?_)))))
     refine E6 jH.env_ (b:=decide (0 < (((lst (au.at_ 2)).length:Nat):Int))) kz (decide_eq_false (by have h_:=of_decide_eq_false eU; omega)) ?_
     refine wp_exit (E7 (E7 (G9 (A4 ?_))))
     have hz_:(lst (au.at_ 2)).length = 0:=by have h_:=of_decide_eq_false eU; omega
     exact ⟨Y8 none 0 0 (fun _=>CA),_,fun w F h_=>⟨h_,⟨Slots.nil _ _ _ _,Nat.zero_le _,fun _ h=>absurd h (Nat.not_lt_zero _)⟩,⟨hz_.symm,fun _ h=>absurd h (Nat.not_lt_zero _)⟩⟩,(jH.cast (t:=dM) (by rw [List.eq_nil_of_length_eq_zero hz_]; rfl)).pk (env':=fY)⟩
    rintro _ _ ⟨aV,vr,cG,qg⟩
    refine wp_seq (E4 [ab,ag,ah,ae,ac,ak,ai,am,ao,(26,.v (.slice aV.A aV.l aV.c))] qg fun _ qh=>?_)
    refine A4 ?_
    let gz:Value:=.slice aV.A aV.l aV.c
    refine J9 [aB,aE,⟨bt,bn * 19,[cQ,eD,eE,eF,eG,eH,eI,eJ,eK,eL,eM,eN,eO,eP,eQ,eR,eS,gz,aj],true⟩] 2 bT qh fun _ _ qi=>?_
    refine A4 ?_
    have qj:=qi.cast iE
    refine P0 (Mid:=fun a_ w_=>∃ (ij:Option Nat) (em:List (Int × Bs)) (P':G5),(∀ w F,P' w F → vr w F ∧ (MapR w F ij em ∧ em.length ≤ 1000000 ∧ ∀ x ∈ em,x.2.length < 4294967296) ∧ ((decide (v ≥ 12)) = true → em = au.U) ∧ ((decide (v ≥ 12)) = false → em = [])) ∧ RS w (fun b o=>b = bv ∧ o < 16) F 492 bz [aB,aE,⟨bt,bn * 19,[cQ,eD,eE,eF,eG,eH,eI,eJ,eK,eL,eM,eN,eO,eP,eQ,eR,eS,gz,.map ij],true⟩] dL P' fU a_ w_) ?_ ?_
    ·
     refine wp_seq (E4 [ab,ag,ah,ae,ac,ak,ai,am,ao,(302,.v (.bool (decide (v ≥ 12))))] qj fun _ gA=>A4 ?_)
     refine D4 gA.env_ (b:=decide (v ≥ 12)) kz (fun dY=>?_) (fun dY=>?_)
     ·
      have qk:=gA.cast (t:=((uv au.U.length) ++ (I1 au.U)) ++ fU) (by rw [if_pos dY])
      refine D7 [0,1,2,3,4] kz ?_
      refine H7 [0] [1,2,3,4] [ab,ag,ah,ae,ac,ak,ai,am,(303,.p 3 0)] qk fun _ ql=>?_
      refine B2 (EJ (d:=304) ql (GQ au.U e210_U (W7 e210r) _) (fun _=>MvF.tags _ _) Tryz.call67 fun lb wh _ _ jI qm=>?_)
      refine H7 [2,3] [4] [ab,ag,ah,ae,ac,ak,ai,am,(304,.v (.agg #[.map lb])),(306,.p 3 18)] qm fun _ qn=>?_
      refine B2 (V4 [aB,aE,⟨bt,bn * 19,[cQ,eD,eE,eF,eG,eH,eI,eJ,eK,eL,eM,eN,eO,eP,eQ,eR,eS,gz,.map lb],true⟩] 2 qn fun _ qo=>?_)
      refine B5 ?_
      have qp:=qo.pk (env':=dL)
      refine A4 ?_
      exact ⟨lb,au.U,_,fun w F h_=>⟨(jI _ _ h_).1,⟨(jI _ _ h_).2,e210_U.2.1,e210_U.2.2⟩,⟨fun _=>rfl,(fun e_=>by rw [dY] at e_; cases e_)⟩⟩,qp.pk (env':=dL)⟩
     have qq:=gA.cast (t:=[] ++ fU) (by rw [if_neg (by rw [dY]; decide)])
     have qr:=qq.cast (t:=fU) rfl
     refine wp_skip (A4 ?_)
     exact ⟨none,[],_,fun w F h_=>⟨h_,⟨MapR.nil _ _,Nat.zero_le _,fun _ h=>by cases h⟩,⟨(fun e_=>by rw [dY] at e_; cases e_),fun _=>rfl⟩⟩,qr.pk (env':=dL)⟩
    rintro _ _ ⟨ij,em,wi,bV,qs⟩
    refine F2 (A4 (E4 [ab,ag,ah,ae,ac,ak,ai,(21,.v (.int .i32 (IntKind.i32.wrap (((bn:Nat):Int) + 1))))] qs fun _ qt=>?_))
    refine A4 ?_
    let jJ:C6:=[ab,ag,ah,ae,ac,ak,ai,(21,.v (.int .i32 ((bn + 1:Nat):Int)))]
    have qu:=(qt.envEq (env':=jJ) (by rw [EO (by have:=e66_9; omega)])).pk (env':=jJ)
    exact (RS.thing (tb:=[aB]) (z:=.agg #[aJ,aa,aa,aa,aa,aa,aa,aa,aa,aa,aa,aa,aa,aa,aa,aa,aa,av,aj]) (D:=(BM ij em [db,aD,aV])) (qu.cast iD) hg_g191 fT BS fS rfl (fun w F h_=>⟨(iC _ _ (eC _ _ (dq _ _ (cG _ _ (bV _ _ h_).1).1).1).1).1,(iC _ _ (eC _ _ (dq _ _ (cG _ _ (bV _ _ h_).1).1).1).1).2,⟨((eC _ _ (dq _ _ (cG _ _ (bV _ _ h_).1).1).1).2.1),((dq _ _ (cG _ _ (bV _ _ h_).1).1).2.1),((cG _ _ (bV _ _ h_).1).2.1),(bV _ _ h_).2.1.1,(bV _ _ h_).2.1.2.1,(bV _ _ h_).2.1.2.2,trivial⟩,⟨((eC _ _ (dq _ _ (cG _ _ (bV _ _ h_).1).1).1).2.2),((dq _ _ (cG _ _ (bV _ _ h_).1).1).2.2),((cG _ _ (bV _ _ h_).1).2.2),(bV _ _ h_).2.2,trivial⟩⟩) kz)
   refine wp_seq (wp_seq (E4 [ab,ag,ah,ae,ac,ak,ai,(21,.v (.int .i32 (((lst (T.at_ 9)).length:Nat):Int))),(153,.v (.bool (decide ((((lst (T.at_ 9)).length:Nat):Int) < (((lst (T.at_ 9)).length:Nat):Int)))))] mS fun _ jK=>A4 ?_))
   refine E6 jK.env_ (b:=decide ((((lst (T.at_ 9)).length:Nat):Int) < (((lst (T.at_ 9)).length:Nat):Int))) kz (decide_eq_false (by omega)) ?_
   refine wp_exit (E7 (E7 (G9 (A4 ?_))))
   obtain ⟨vt,qv⟩:=RS.listEnd (tb:=[aB]) (c:=eh) (jK.pk (env':=[ab,ag,ah,ae,ac,ak])) hg_g191 BS fS hcap_g191 (by have:=e66_9; omega) hn_g191 kz
   exact ⟨Y8 (some ⟨bt,0,none⟩) (lst (T.at_ 9)).length eh vt,_,fun w F h_=>⟨h_.1,⟨h_.2.1,Nat.le_trans e66_9 (by decide),h_.2.2.1⟩,⟨rfl,h_.2.2.2⟩⟩,qv⟩
  refine wp_skip (A4 (wp_seq (E4 [ab,ag,ah,ae,ac,cP,ai,fR] fQ fun _ qw=>?_)))
  refine A4 (wp_block (Dr (wp_seq (wp_seq (E4 [ab,ag,ah,ae,ac,cP,ai,fR,(153,.v (.bool (decide (0 < (((lst (T.at_ 9)).length:Nat):Int)))))] qw fun _ jL=>A4 ?_)))))
  refine E6 jL.env_ (b:=decide (0 < (((lst (T.at_ 9)).length:Nat):Int))) kz (decide_eq_false (by have h_:=of_decide_eq_false eB; omega)) ?_
  refine wp_exit (E7 (E7 (G9 (A4 ?_))))
  have hz_:(lst (T.at_ 9)).length = 0:=by have h_:=of_decide_eq_false eB; omega
  exact ⟨Y8 none 0 0 (fun _=>CA),_,fun w F h_=>⟨h_,⟨Slots.nil _ _ _ _,Nat.zero_le _,fun _ h=>absurd h (Nat.not_lt_zero _)⟩,⟨hz_.symm,fun _ h=>absurd h (Nat.not_lt_zero _)⟩⟩,(jL.cast (t:=iu) (by rw [List.eq_nil_of_length_eq_zero hz_]; rfl)).pk (env':=fP)⟩
 rintro _ _ ⟨aO,lc,bW,qx⟩
 refine wp_seq (E4 [ab,ag,ah,ae,ac,(18,.v (.slice aO.A aO.l aO.c))] qx fun _ qy=>?_)
 refine A4 ?_
 let bA:Value:=.slice aO.A aO.l aO.c
 let bg:Ob:=⟨bv,0,[aL,aX,aT,az,aI,aj,aU,aY,bf,bk,bo,bq,bA,av,aJ,aj],true⟩
 refine J9 [bg] 0 aS qy fun _ _ qz=>?_
 refine A4 (wp_seq ?_)
 have qA:=qz.cast lx
 refine P0 (Mid:=fun a_ w_=>∃ (aR:DV) (P':G5),(∀ w F,P' w F → lc w F ∧ (Slots w F 19 aR.A aR.c aR.l (fun i=>[.string (((aR.f i).f 0).s),B0 (((aR.f i).f 1).o.getD 0 0),B0 (((aR.f i).f 1).o.getD 1 0),B0 (((aR.f i).f 1).o.getD 2 0),B0 (((aR.f i).f 1).o.getD 3 0),B0 (((aR.f i).f 1).o.getD 4 0),B0 (((aR.f i).f 1).o.getD 5 0),B0 (((aR.f i).f 1).o.getD 6 0),B0 (((aR.f i).f 1).o.getD 7 0),B0 (((aR.f i).f 1).o.getD 8 0),B0 (((aR.f i).f 1).o.getD 9 0),B0 (((aR.f i).f 1).o.getD 10 0),B0 (((aR.f i).f 1).o.getD 11 0),B0 (((aR.f i).f 1).o.getD 12 0),B0 (((aR.f i).f 1).o.getD 13 0),B0 (((aR.f i).f 1).o.getD 14 0),B0 (((aR.f i).f 1).o.getD 15 0),.slice (((aR.f i).f 2).A) (((aR.f i).f 2).l) (((aR.f i).f 2).c),.map ((aR.f i).m)]) ∧ aR.l ≤ 1000000 ∧ ∀ i,i < aR.l → Y5 w F (aR.f i)) ∧ ((decide (v ≥ 7)) = true → (aR.l = (lst (T.at_ 10)).length ∧ ∀ i,i < aR.l → BU v (aR.f i) ((lst (T.at_ 10)).getD i .zero))) ∧ ((decide (v ≥ 7)) = false → (aR.A = none ∧ aR.l = 0))) ∧ RS w (fun b o=>b = bv ∧ o < 16) F 492 bz [⟨bv,0,[aL,aX,aT,az,aI,aj,aU,aY,bf,bk,bo,bq,bA,.slice aR.A aR.l aR.c,aJ,aj],true⟩] aS P' fI a_ w_) ?_ ?_
 ·
  refine wp_seq (E4 [ab,ag,ah,ae,ac,(313,.v (.bool (decide (v ≥ 7))))] qA fun _ gB=>A4 ?_)
  refine D4 gB.env_ (b:=decide (v ≥ 7)) kz (fun dZ=>?_) (fun dZ=>?_)
  ·
   have qB:=gB.cast (t:=((if (decide (v ≥ 12)) = true then (uv ((lst (T.at_ 10)).length + 1)) else (be 4 (lst (T.at_ 10)).length)) ++ ((lst (T.at_ 10)).flatMap (V6 v))) ++ fI) (by rw [if_pos dZ])
   refine wp_seq (E4 [ab,ag,ah,ae,ac,(46,.v (.slice none 0 0))] qB fun _ qC=>?_)
   refine A4 (wp_seq ?_)
   let cT:Nat × SV:=(47,.v (.slice none 0 0))
   let gC:C6:=[ab,ag,ah,ae,ac,cT]
   refine E4 gC qC fun _ qD=>?_
   refine A4 (wp_seq (E4 gC qD fun _ qE=>?_))
   refine A4 (wp_seq ?_)
   have qF:=qE.cast (t:=(if (decide (v ≥ 12)) = true then (uv ((lst (T.at_ 10)).length + 1)) else (be 4 (lst (T.at_ 10)).length)) ++ (((lst (T.at_ 10)).flatMap (V6 v)) ++ fI)) (by rw [List.append_assoc])
   let aC:Nat × SV:=(48,.v (.int .i32 (((lst (T.at_ 10)).length:Nat):Int)))
   let jM:C6:=[ab,ag,ah,ae,ac,cT,aC]
   refine BO (d1:=320) (d2:=321) [ab,ag,ah,ae,ac,cT,(319,.v (.bool (decide (v ≥ 12))))] jM qF (EU ((lst (T.at_ 10)).length) e66_10 _ (flat_ge' (JK v) _)) Tryz.call52 (ET ((lst (T.at_ 10)).length) e66_10 _ (flat_ge' (JK v) _)) Tryz.call53 fun _ _ qG=>?_
   refine A4 (wp_seq (wp_seq (ER (d:=322) [ab,ag,ah,ae,ac,cT,aC,(323,.v (.bool false))] qG (EV _) Tryz.call54 fun _ _ jN=>?_)))
   refine A4 (E6 jN.env_ (b:=false) kz (rfl) ?_)
   refine wp_skip (A4 (wp_seq (EQ (t:=79) (e:=96) (size:=19) (bytes:=64) (d:=326) (A0:=none) (m:=0) (cp:=0) [ab,ag,ah,ae,ac,aC,(325,.v (.slice none 0 0))] jM 1 jN fun _ qH=>?_)))
   refine A4 (EN (Mid:=fun a_ w_=>∃ (aZ:DV) (P':G5),(∀ w F,P' w F → lc w F ∧ (Slots w F 19 aZ.A aZ.c aZ.l (fun i=>[.string (((aZ.f i).f 0).s),B0 (((aZ.f i).f 1).o.getD 0 0),B0 (((aZ.f i).f 1).o.getD 1 0),B0 (((aZ.f i).f 1).o.getD 2 0),B0 (((aZ.f i).f 1).o.getD 3 0),B0 (((aZ.f i).f 1).o.getD 4 0),B0 (((aZ.f i).f 1).o.getD 5 0),B0 (((aZ.f i).f 1).o.getD 6 0),B0 (((aZ.f i).f 1).o.getD 7 0),B0 (((aZ.f i).f 1).o.getD 8 0),B0 (((aZ.f i).f 1).o.getD 9 0),B0 (((aZ.f i).f 1).o.getD 10 0),B0 (((aZ.f i).f 1).o.getD 11 0),B0 (((aZ.f i).f 1).o.getD 12 0),B0 (((aZ.f i).f 1).o.getD 13 0),B0 (((aZ.f i).f 1).o.getD 14 0),B0 (((aZ.f i).f 1).o.getD 15 0),.slice (((aZ.f i).f 2).A) (((aZ.f i).f 2).l) (((aZ.f i).f 2).c),.map ((aZ.f i).m)]) ∧ aZ.l ≤ 1000000 ∧ ∀ i,i < aZ.l → Y5 w F (aZ.f i)) ∧ (aZ.l = (lst (T.at_ 10)).length ∧ ∀ i,i < aZ.l → BU v (aZ.f i) ((lst (T.at_ 10)).getD i .zero))) ∧ RS w (fun b o=>b = bv ∧ o < 16) F 492 bz [bg] [ab,ag,ah,ae,ac,(47,.v (.slice aZ.A aZ.l aZ.c))] P' fI a_ w_) ?_ ?_)
   ·
    refine wp_seq (E4 [ab,ag,ah,ae,ac,cT,aC,(328,.v (.bool (decide ((((lst (T.at_ 10)).length:Nat):Int) > 0))))] qH fun _ gD=>A4 ?_)
    let gE:Nat × SV:=(49,.v (.int .i32 0))
    refine D4 gD.env_ (b:=decide ((((lst (T.at_ 10)).length:Nat):Int) > 0)) kz (fun fb=>?_) (fun fb=>?_)
    ·
     have hn_g588:0 < (lst (T.at_ 10)).length:=by have h_:=of_decide_eq_true fb; omega
     refine D7 [0,1,2,3] kz ?_
     refine H7 [0,1] [2,3] [ab,ag,ah,ae,ac,aC,(329,.v (.slice none 0 0)),(330,.v (.int .i32 (((lst (T.at_ 10)).length:Nat):Int)))] gD fun _ qI=>?_
     refine B2 (EK (A0:=none) (d:=331) (t:=79) (tn:=21) (e:=96) (size:=19) (bytes:=64) (k:=.i32) (kn:=.i32) (q:=(((lst (T.at_ 10)).length:Nat):Int)) (j:=(lst (T.at_ 10)).length) (.agg #[aJ,aa,aa,aa,aa,aa,aa,aa,aa,aa,aa,aa,aa,aa,aa,aa,aa,av,aj]) qI (fun cm ik _ _ hg_g588 hcap_g588 qJ=>?_) rfl hn_g588 (by have:=e66_10; omega))
     let aF:Nat × SV:=(47,.v (.slice (some ⟨cm,0,none⟩) ((lst (T.at_ 10)).length) ik))
     refine H7 [3] [] [ab,ag,ah,ae,ac,aF,aC] qJ fun _ qK=>B5 ?_
     refine A4 (wp_seq (E4 [ab,ag,ah,ae,ac,aF,aC,gE] qK fun _ jO=>?_))
     refine A4 (wp_block ?_)
     have gF:=jO.mv
     have qL:=(jO.cast (t:=(lst (T.at_ 10)).flatMap (V6 v) ++ fI) rfl).pk (env':=[ab,ag,ah,ae,ac,aF,aC,(49,.v (.int .i32 ((0:Nat):Int)))])
     refine EM (tb:=[bg]) (z:=.agg #[aJ,aa,aa,aa,aa,aa,aa,aa,aa,aa,aa,aa,aa,aa,aa,aa,aa,av,aj]) (cl:=JP) (ok:=Y5) (rel:=(BU v)) (L:=lst (T.at_ 10)) (size:=19) (V6 v) fI (fun k=>[ab,ag,ah,ae,ac,aF,aC,(49,.v (.int .i32 ((k:Nat):Int)))]) qL BT (fun bI ax _ _ gG qM qN=>?_) (fun _ _ qO=>?_)
     ·
      let aH:Nat × SV:=(49,.v (.int .i32 ((bI:Nat):Int)))
      let d4:C6:=[ab,ag,ah,ae,ac,aF,aC,aH]
      obtain ⟨vu,jP,qP⟩:∃ P',(∀ w F,P' w F → (lc w F ∧ T5 cm 19 JP Y5 (BU v) (lst (T.at_ 10)) bI w F)) ∧ RS w (fun b o=>b = bv ∧ o < 16) F 492 bz [bg,J1 cm 19 (.agg #[aJ,aa,aa,aa,aa,aa,aa,aa,aa,aa,aa,aa,aa,aa,aa,aa,aa,av,aj]) ((lst (T.at_ 10)).length) bI] d4 P' ((V6 v) ax ++ (((lst (T.at_ 10)).drop (bI + 1)).flatMap (V6 v) ++ fI)) _ _:=⟨_,fun _ _ h=>h,qN⟩
      obtain ⟨gH,jQ⟩:∃ R,R = ((lst (T.at_ 10)).drop (bI + 1)).flatMap (V6 v) ++ fI:=⟨_,rfl⟩
      have qQ:=(e66_10e ax (List.mem_of_getElem? gG))
      have e607r:=(Gm (BI e66r 10) ax (List.mem_of_getElem? gG))
      unfold EE at qQ
      obtain ⟨e607_0,e607_1,e607_2,e607_U,_⟩:=qQ
      obtain ⟨d5,jR⟩:∃ R,R = (if (decide (v ≥ 12)) = true then (uv ax.U.length) ++ (I1 ax.U) else []) ++ gH:=⟨_,rfl⟩
      obtain ⟨gI,jS⟩:∃ R,R = ((if (decide (v ≥ 12)) = true then (uv ((lst (ax.at_ 2)).length + 1)) else (be 4 (lst (ax.at_ 2)).length)) ++ ((lst (ax.at_ 2)).flatMap (fun E=>be 4 (IntKind.i32.wrap E.N)))) ++ d5:=⟨_,rfl⟩
      obtain ⟨eo,jT⟩:∃ R,R = (if (decide (v ≥ 13)) = true then (C3 (ax.at_ 1).S) else []) ++ gI:=⟨_,rfl⟩
      obtain ⟨vv,jU⟩:∃ R,R = (if ((if (decide (v ≥ 7)) = true then decide (v ≤ 12) else false)) = true then if (decide (v ≥ 12)) = true then (uv ((ax.at_ 0).S.length + 1) ++ (ax.at_ 0).S) else (be 2 (ax.at_ 0).S.length ++ (ax.at_ 0).S) else []) ++ eo:=⟨_,rfl⟩
      have qR:=qP.cast (t:=vv) (by rw [jU,jT,jS,jR,← jQ]; unfold V6; simp only [List.append_assoc])
      refine wp_seq (wp_seq (E4 [ab,ag,ah,ae,ac,aF,aC,aH,(334,.v (.bool (decide (((bI:Nat):Int) < (((lst (T.at_ 10)).length:Nat):Int)))))] qR fun _ jV=>A4 ?_))
      refine I7 jV.env_ (b:=decide (((bI:Nat):Int) < (((lst (T.at_ 10)).length:Nat):Int))) kz (decide_eq_true (by omega)) ?_
      refine wp_skip (A4 (wp_seq (wp_block (wp_seq ?_))))
      let jW:C6:=[ab,ag,ah,ae,ac,aF,aC,aH,(50,.p 3 0)]
      refine GM (t:=79) (e:=96) (size:=19) (bytes:=64) (d:=339) (tb:=[bg]) (z:=.agg #[aJ,aa,aa,aa,aa,aa,aa,aa,aa,aa,aa,aa,aa,aa,aa,aa,aa,av,aj]) [ab,ag,ah,ae,ac,aF,aC,aH,(337,.v (.slice (some ⟨cm,0,none⟩) ((lst (T.at_ 10)).length) ik)),(338,.v (.int .i32 ((bI:Nat):Int)))] jW 2 jV qM rfl kz fun _ qS=>?_
      let bw:Ob:=J1 cm 19 (.agg #[aJ,aa,aa,aa,aa,aa,aa,aa,aa,aa,aa,aa,aa,aa,aa,aa,aa,av,aj]) ((lst (T.at_ 10)).length) (bI + 1)
      have qT:=qS.tbEq (tb':=[bg,bw,⟨cm,bI * 19,[aJ,aa,aa,aa,aa,aa,aa,aa,aa,aa,aa,aa,aa,aa,aa,aa,aa,av,aj],true⟩]) rfl
      refine A4 (wp_seq (D7 [0,1] kz ?_))
      refine H7 [0] [1] [ab,ag,ah,ae,ac,aF,aC,aH,(50,.p 3 0),(340,.p 3 0)] qT fun _ qU=>?_
      refine B2 (Jx (d:=341) (vs:=[.pointer (some ⟨cm,bI * 19,none⟩)]) qU (fun _=>Ny _ _ _) Tryz.call68 fun _ qV=>?_)
      refine B5 ?_
      have qW:=qV.pk (env':=jW)
      refine A4 (wp_seq ?_)
      let aM:Nat × SV:=(51,.p 3 0)
      let bX:C6:=[ab,ag,ah,ae,ac,aF,aC,aH,aM]
      refine E4 bX qW fun _ qX=>?_
      refine A4 (wp_seq ?_)
      have qY:=qX.cast jU
      refine P0 (Mid:=fun a_ w_=>∃ (ep:DV) (P':G5),(∀ w F,P' w F → vu w F ∧ (ep.s.size ≤ 1000000) ∧ ((if (decide (v ≥ 7)) = true then decide (v ≤ 12) else false) = true → ep.s = bs (ax.at_ 0).S) ∧ ((if (decide (v ≥ 7)) = true then decide (v ≤ 12) else false) = false → ep.s = ByteArray.empty)) ∧ RS w (fun b o=>b = bv ∧ o < 16) F 492 bz [bg,bw,⟨cm,bI * 19,[.string ep.s,aa,aa,aa,aa,aa,aa,aa,aa,aa,aa,aa,aa,aa,aa,aa,aa,av,aj],true⟩] bX P' eo a_ w_) ?_ ?_
      ·
       refine wp_seq (D7 [0,1,2,3,4,5] kz ?_)
       refine H7 [0,1,2] [3,4,5] [ab,ag,ah,ae,ac,aF,aC,aH,aM,(345,.v (.bool (decide (v ≥ 7))))] qY fun _ jX=>?_
       refine (Bool.eq_false_or_eq_true (decide (v ≥ 7))).elim (fun cC=>?_) (fun cC=>?_)
       ·
        have qZ:=jX.envEq (env':=[ab,ag,ah,ae,ac,aF,aC,aH,aM,(345,.v (.bool true))]) (by rw [cC])
        refine H7 [3,4,5] [] [ab,ag,ah,ae,ac,aF,aC,aH,aM,(348,.v (.bool (decide (v ≤ 12))))] qZ fun _ gJ=>B5 (A4 ?_)
        refine D4 gJ.env_ (b:=decide (v ≤ 12)) kz (fun d6=>?_) (fun d6=>?_)
        ·
         have q4:=gJ.cast (t:=(if (decide (v ≥ 12)) = true then (uv ((ax.at_ 0).S.length + 1) ++ (ax.at_ 0).S) else (be 2 (ax.at_ 0).S.length ++ (ax.at_ 0).S)) ++ eo) (by rw [if_pos (by simp only [cC,d6,if_true])])
         refine wp_seq (E4 bX q4 fun _ q5=>?_)
         refine A4 (wp_seq (wp_seq (E4 [ab,ag,ah,ae,ac,aF,aC,aH,aM,(349,.v (.bool false))] q5 fun _ jY=>A4 ?_)))
         refine E6 jY.env_ (b:=false) kz (rfl) ?_
         refine BO (d1:=354) (d2:=355) [ab,ag,ah,ae,ac,aF,aC,aH,aM,(353,.v (.bool (decide (v ≥ 12))))] [ab,ag,ah,ae,ac,aF,aC,aH,aM,(52,.v (.string (bs (ax.at_ 0).S)))] jY (GO (ax.at_ 0).S e607_0 _) Tryz.call59 (GN (ax.at_ 0).S e607_0 _) Tryz.call60 fun _ _ q6=>?_
         refine A4 (J9 [bg,bw,⟨cm,bI * 19,[.string (bs (ax.at_ 0).S),aa,aa,aa,aa,aa,aa,aa,aa,aa,aa,aa,aa,aa,aa,aa,aa,av,aj],true⟩] 2 bX q6 fun _ _ q7=>?_)
         refine A4 ?_
         exact ⟨Bi (bs (ax.at_ 0).S),_,fun w F h_=>⟨h_,by show ByteArray.size (bs _) ≤ 1000000; rw [Eo]; exact Nat.le_trans e607_0 (by decide),⟨fun _=>rfl,(fun e_=>by simp [cC,d6] at e_)⟩⟩,q7.pk (env':=bX)⟩
        have q8:=gJ.cast (t:=[] ++ eo) (by rw [if_neg (by simp only [cC,d6,if_true,if_false,Bool.false_eq_true]; try decide)])
        have q9:=q8.cast (t:=eo) rfl
        refine wp_skip (A4 ?_)
        exact ⟨Bi ByteArray.empty,_,fun w F h_=>⟨h_,Nat.zero_le _,⟨(fun e_=>by simp [cC,d6] at e_),fun _=>rfl⟩⟩,q9.pk (env':=bX)⟩
       have ra:=jX.envEq (env':=[ab,ag,ah,ae,ac,aF,aC,aH,aM,(345,.v (.bool false))]) (by rw [cC])
       refine H7 [3,4,5] [] [ab,ag,ah,ae,ac,aF,aC,aH,aM,(348,.v (.bool false))] ra fun _ jZ=>B5 (A4 ?_)
       refine E6 jZ.env_ (b:=false) kz rfl ?_
       have rb:=jZ.cast (t:=[] ++ eo) (by rw [if_neg (by simp only [cC,if_true,if_false,Bool.false_eq_true]; try decide)])
       have rc:=rb.cast (t:=eo) rfl
       refine wp_skip (A4 ?_)
       exact ⟨Bi ByteArray.empty,_,fun w F h_=>⟨h_,Nat.zero_le _,⟨(fun e_=>by simp [cC] at e_),fun _=>rfl⟩⟩,rc.pk (env':=bX)⟩
      rintro _ _ ⟨ep,vw,fe,re⟩
      refine A4 (wp_seq ?_)
      have rf:=re.cast jT
      let cU:Value:=.string ep.s
      refine P0 (Mid:=fun a_ w_=>∃ (bh:DV) (P':G5),(∀ w F,P' w F → vw w F ∧ (bh.o.length = 16) ∧ ((decide (v ≥ 13)) = true → bh.o = C3 (ax.at_ 1).S) ∧ ((decide (v ≥ 13)) = false → bh.o = List.replicate 16 0)) ∧ RS w (fun b o=>b = bv ∧ o < 16) F 492 bz [bg,bw,⟨cm,bI * 19,[cU,B0 (bh.o.getD 0 0),B0 (bh.o.getD 1 0),B0 (bh.o.getD 2 0),B0 (bh.o.getD 3 0),B0 (bh.o.getD 4 0),B0 (bh.o.getD 5 0),B0 (bh.o.getD 6 0),B0 (bh.o.getD 7 0),B0 (bh.o.getD 8 0),B0 (bh.o.getD 9 0),B0 (bh.o.getD 10 0),B0 (bh.o.getD 11 0),B0 (bh.o.getD 12 0),B0 (bh.o.getD 13 0),B0 (bh.o.getD 14 0),B0 (bh.o.getD 15 0),av,aj],true⟩] bX P' gI a_ w_) ?_ ?_
      ·
       refine wp_seq (E4 [ab,ag,ah,ae,ac,aF,aC,aH,aM,(361,.v (.bool (decide (v ≥ 13))))] rf fun _ gK=>A4 ?_)
       refine D4 gK.env_ (b:=decide (v ≥ 13)) kz (fun d7=>?_) (fun d7=>?_)
       ·
        have rg:=gK.cast (t:=(C3 (ax.at_ 1).S) ++ gI) (by rw [if_pos d7])
        refine wp_seq (D7 [0,1,2] kz ?_)
        refine B2 (Bk (d:=362) rg (GP (ax.at_ 1).S _) Tryz.call61 fun _ _ rh=>?_)
        refine B2 (BN (d:=53) [aa,aa,aa,aa,aa,aa,aa,aa,aa,aa,aa,aa,aa,aa,aa,aa] rh fun ri _ _ hb_b656 rj=>?_)
        let j0:Ob:=⟨cm,bI * 19,[cU,aa,aa,aa,aa,aa,aa,aa,aa,aa,aa,aa,aa,aa,aa,aa,aa,av,aj],true⟩
        have rl:=(rj.tbEq (tb':=[bg,bw,j0,⟨ri,0,[aa,aa,aa,aa,aa,aa,aa,aa,aa,aa,aa,aa,aa,aa,aa,aa],true⟩]) rfl).pk (env':=[ab,ag,ah,ae,ac,aF,aC,aH,aM,(361,.v (.bool (decide (v ≥ 13)))),(362,.v (.agg #[B0 ((C3 (ax.at_ 1).S).getD 0 0),B0 ((C3 (ax.at_ 1).S).getD 1 0),B0 ((C3 (ax.at_ 1).S).getD 2 0),B0 ((C3 (ax.at_ 1).S).getD 3 0),B0 ((C3 (ax.at_ 1).S).getD 4 0),B0 ((C3 (ax.at_ 1).S).getD 5 0),B0 ((C3 (ax.at_ 1).S).getD 6 0),B0 ((C3 (ax.at_ 1).S).getD 7 0),B0 ((C3 (ax.at_ 1).S).getD 8 0),B0 ((C3 (ax.at_ 1).S).getD 9 0),B0 ((C3 (ax.at_ 1).S).getD 10 0),B0 ((C3 (ax.at_ 1).S).getD 11 0),B0 ((C3 (ax.at_ 1).S).getD 12 0),B0 ((C3 (ax.at_ 1).S).getD 13 0),B0 ((C3 (ax.at_ 1).S).getD 14 0),B0 ((C3 (ax.at_ 1).S).getD 15 0)])),(53,.p 4 0)])
        let j1:Ob:=⟨ri,0,[B0 ((C3 (ax.at_ 1).S).getD 0 0),B0 ((C3 (ax.at_ 1).S).getD 1 0),B0 ((C3 (ax.at_ 1).S).getD 2 0),B0 ((C3 (ax.at_ 1).S).getD 3 0),B0 ((C3 (ax.at_ 1).S).getD 4 0),B0 ((C3 (ax.at_ 1).S).getD 5 0),B0 ((C3 (ax.at_ 1).S).getD 6 0),B0 ((C3 (ax.at_ 1).S).getD 7 0),B0 ((C3 (ax.at_ 1).S).getD 8 0),B0 ((C3 (ax.at_ 1).S).getD 9 0),B0 ((C3 (ax.at_ 1).S).getD 10 0),B0 ((C3 (ax.at_ 1).S).getD 11 0),B0 ((C3 (ax.at_ 1).S).getD 12 0),B0 ((C3 (ax.at_ 1).S).getD 13 0),B0 ((C3 (ax.at_ 1).S).getD 14 0),B0 ((C3 (ax.at_ 1).S).getD 15 0)],true⟩
        refine B2 (V4 [bg,bw,j0,j1] 3 rl fun _ rm=>?_)
        refine B5 ?_
        have rn:=rm.pk (env':=[ab,ag,ah,ae,ac,aF,aC,aH,aM,(53,.p 4 0)])
        refine A4 ?_
        let j2:Ob:=⟨cm,bI * 19,[cU,B0 ((C3 (ax.at_ 1).S).getD 0 0),B0 ((C3 (ax.at_ 1).S).getD 1 0),B0 ((C3 (ax.at_ 1).S).getD 2 0),B0 ((C3 (ax.at_ 1).S).getD 3 0),B0 ((C3 (ax.at_ 1).S).getD 4 0),B0 ((C3 (ax.at_ 1).S).getD 5 0),B0 ((C3 (ax.at_ 1).S).getD 6 0),B0 ((C3 (ax.at_ 1).S).getD 7 0),B0 ((C3 (ax.at_ 1).S).getD 8 0),B0 ((C3 (ax.at_ 1).S).getD 9 0),B0 ((C3 (ax.at_ 1).S).getD 10 0),B0 ((C3 (ax.at_ 1).S).getD 11 0),B0 ((C3 (ax.at_ 1).S).getD 12 0),B0 ((C3 (ax.at_ 1).S).getD 13 0),B0 ((C3 (ax.at_ 1).S).getD 14 0),B0 ((C3 (ax.at_ 1).S).getD 15 0),av,aj],true⟩
        refine J9 [bg,bw,j2,j1] 2 bX rn fun _ _ ro=>?_
        have rp:=RS.dropT (tb:=[bg,bw,j2]) ro hb_b656 kz
        refine A4 ?_
        exact ⟨BL none (C3 (ax.at_ 1).S) 0,_,fun w F h_=>⟨h_,Di _,⟨fun _=>rfl,(fun e_=>by rw [d7] at e_; cases e_)⟩⟩,rp.pk (env':=bX)⟩
       have rq:=gK.cast (t:=[] ++ gI) (by rw [if_neg (by rw [d7]; decide)])
       have rt:=rq.cast (t:=gI) rfl
       refine wp_skip (A4 ?_)
       exact ⟨BL none (List.replicate 16 0) 0,_,fun w F h_=>⟨h_,rfl,⟨(fun e_=>by rw [d7] at e_; cases e_),fun _=>rfl⟩⟩,rt.pk (env':=bX)⟩
      rintro _ _ ⟨bh,ru,dw,rv⟩
      refine A4 (wp_seq (wp_seq (E4 [ab,ag,ah,ae,ac,aF,aC,aH,aM,(54,.v (.slice none 0 0))] rv fun _ rx=>?_)))
      refine A4 (wp_seq ?_)
      let cV:Nat × SV:=(55,.v (.slice none 0 0))
      let gL:C6:=[ab,ag,ah,ae,ac,aF,aC,aH,aM,cV]
      refine E4 gL rx fun _ ry=>?_
      refine A4 (wp_seq (E4 gL ry fun _ rz=>?_))
      refine A4 (wp_seq ?_)
      have rA:=rz.cast jS
      have rB:=rA.cast (t:=(if (decide (v ≥ 12)) = true then (uv ((lst (ax.at_ 2)).length + 1)) else (be 4 (lst (ax.at_ 2)).length)) ++ (((lst (ax.at_ 2)).flatMap (fun E=>be 4 (IntKind.i32.wrap E.N))) ++ d5)) (by rw [List.append_assoc])
      let bx:Nat × SV:=(56,.v (.int .i32 (((lst (ax.at_ 2)).length:Nat):Int)))
      let j3:C6:=[ab,ag,ah,ae,ac,aF,aC,aH,aM,cV,bx]
      refine BO (d1:=373) (d2:=374) [ab,ag,ah,ae,ac,aF,aC,aH,aM,cV,(372,.v (.bool (decide (v ≥ 12))))] j3 rB (EU ((lst (ax.at_ 2)).length) e607_2 _ (flat_ge' (fun E=>Du (by decide)) _)) Tryz.call52 (ET ((lst (ax.at_ 2)).length) e607_2 _ (flat_ge' (fun E=>Du (by decide)) _)) Tryz.call53 fun _ _ rC=>?_
      refine A4 (wp_seq (wp_seq (ER (d:=375) [ab,ag,ah,ae,ac,aF,aC,aH,aM,cV,bx,(376,.v (.bool false))] rC (EV _) Tryz.call54 fun _ _ j4=>?_)))
      refine A4 (E6 j4.env_ (b:=false) kz (rfl) ?_)
      refine wp_skip (A4 (wp_seq (EQ (t:=94) (e:=21) (size:=1) (bytes:=4) (d:=379) (A0:=none) (m:=0) (cp:=0) [ab,ag,ah,ae,ac,aF,aC,aH,aM,bx,(378,.v (.slice none 0 0))] j3 1 j4 fun _ rD=>?_)))
      refine A4 ?_
      let ff:Value:=B0 (bh.o.getD 0 0)
      let fg:Value:=B0 (bh.o.getD 1 0)
      let fh:Value:=B0 (bh.o.getD 2 0)
      let fi:Value:=B0 (bh.o.getD 3 0)
      let fj:Value:=B0 (bh.o.getD 4 0)
      let fk:Value:=B0 (bh.o.getD 5 0)
      let fm:Value:=B0 (bh.o.getD 6 0)
      let fo:Value:=B0 (bh.o.getD 7 0)
      let fq:Value:=B0 (bh.o.getD 8 0)
      let fr:Value:=B0 (bh.o.getD 9 0)
      let ft:Value:=B0 (bh.o.getD 10 0)
      let fv:Value:=B0 (bh.o.getD 11 0)
      let fw:Value:=B0 (bh.o.getD 12 0)
      let fx:Value:=B0 (bh.o.getD 13 0)
      let fy:Value:=B0 (bh.o.getD 14 0)
      let fz:Value:=B0 (bh.o.getD 15 0)
      let cW:Ob:=⟨cm,bI * 19,[cU,ff,fg,fh,fi,fj,fk,fm,fo,fq,fr,ft,fv,fw,fx,fy,fz,av,aj],true⟩
      refine EN (Mid:=fun a_ w_=>∃ (bQ:DV) (P':G5),(∀ w F,P' w F → ru w F ∧ (Slots w F 1 bQ.A bQ.c bQ.l (fun i=>[.int .i32 ((bQ.f i).n)]) ∧ bQ.l ≤ 1000000 ∧ ∀ i,i < bQ.l → True) ∧ (bQ.l = (lst (ax.at_ 2)).length ∧ ∀ i,i < bQ.l → (bQ.f i).n = IntKind.i32.wrap ((lst (ax.at_ 2)).getD i .zero).N)) ∧ RS w (fun b o=>b = bv ∧ o < 16) F 492 bz [bg,bw,cW] [ab,ag,ah,ae,ac,aF,aC,aH,aM,(55,.v (.slice bQ.A bQ.l bQ.c))] P' d5 a_ w_) ?_ ?_
      ·
       refine wp_seq (E4 [ab,ag,ah,ae,ac,aF,aC,aH,aM,cV,bx,(381,.v (.bool (decide ((((lst (ax.at_ 2)).length:Nat):Int) > 0))))] rD fun _ gM=>A4 ?_)
       refine D4 gM.env_ (b:=decide ((((lst (ax.at_ 2)).length:Nat):Int) > 0)) kz (fun fA=>?_) (fun fA=>?_)
       ·
        have hn_g681:0 < (lst (ax.at_ 2)).length:=by have h_:=of_decide_eq_true fA; omega
        refine D7 [0,1,2,3] kz ?_
        refine H7 [0,1] [2,3] [ab,ag,ah,ae,ac,aF,aC,aH,aM,bx,(382,.v (.slice none 0 0)),(383,.v (.int .i32 (((lst (ax.at_ 2)).length:Nat):Int)))] gM fun _ rE=>?_
        refine B2 (EK (A0:=none) (d:=384) (t:=94) (tn:=21) (e:=21) (size:=1) (bytes:=4) (k:=.i32) (kn:=.i32) (q:=(((lst (ax.at_ 2)).length:Nat):Int)) (j:=(lst (ax.at_ 2)).length) (.int .i32 0) rE (fun eu il _ _ hg_g681 hcap_g681 rF=>?_) rfl hn_g681 (by have:=e607_2; omega))
        let bY:Nat × SV:=(55,.v (.slice (some ⟨eu,0,none⟩) ((lst (ax.at_ 2)).length) il))
        refine H7 [3] [] [ab,ag,ah,ae,ac,aF,aC,aH,aM,bY,bx] rF fun _ rG=>B5 ?_
        refine A4 (wp_seq (E4 [ab,ag,ah,ae,ac,aF,aC,aH,aM,bY,bx,(57,.v (.int .i32 0))] rG fun _ j5=>?_))
        refine A4 (wp_block ?_)
        have gN:=j5.mv
        have rH:=(j5.cast (t:=(lst (ax.at_ 2)).flatMap (fun E=>be 4 (IntKind.i32.wrap E.N)) ++ d5) rfl).pk (env':=[ab,ag,ah,ae,ac,aF,aC,aH,aM,bY,bx,(57,.v (.int .i32 ((0:Nat):Int)))])
        refine EM (tb:=[bg,bw,cW]) (z:=.int .i32 0) (cl:=(fun d=>[.int .i32 d.n])) (ok:=Gv) (rel:=(fun d t=>d.n = IntKind.i32.wrap t.N)) (L:=lst (ax.at_ 2)) (size:=1) (fun E=>be 4 (IntKind.i32.wrap E.N)) d5 (fun k=>[ab,ag,ah,ae,ac,aF,aC,aH,aM,bY,bx,(57,.v (.int .i32 ((k:Nat):Int)))]) rH Gw (fun cN ev _ _ rI rJ rK=>?_) (fun _ _ rL=>?_)
        ·
         let fB:Nat × SV:=(57,.v (.int .i32 ((cN:Nat):Int)))
         let j6:C6:=[ab,ag,ah,ae,ac,aF,aC,aH,aM,bY,bx,fB]
         obtain ⟨wj,j7,rM⟩:∃ P',(∀ w F,P' w F → (ru w F ∧ T5 eu 1 (fun d=>[.int .i32 d.n]) Gv (fun d t=>d.n = IntKind.i32.wrap t.N) (lst (ax.at_ 2)) cN w F)) ∧ RS w (fun b o=>b = bv ∧ o < 16) F 492 bz [bg,bw,cW,J1 eu 1 (.int .i32 0) ((lst (ax.at_ 2)).length) cN] j6 P' ((fun E=>be 4 (IntKind.i32.wrap E.N)) ev ++ (((lst (ax.at_ 2)).drop (cN + 1)).flatMap (fun E=>be 4 (IntKind.i32.wrap E.N)) ++ d5)) _ _:=⟨_,fun _ _ h=>h,rK⟩
         obtain ⟨rN,j8⟩:∃ R,R = ((lst (ax.at_ 2)).drop (cN + 1)).flatMap (fun E=>be 4 (IntKind.i32.wrap E.N)) ++ d5:=⟨_,rfl⟩
         have rO:=rM.cast (t:=(fun E=>be 4 (IntKind.i32.wrap E.N)) ev ++ rN) (by rw [j8])
         have rP:=rO.cast (t:=(be 4 (IntKind.i32.wrap ev.N)) ++ rN) rfl
         refine wp_seq (wp_seq (E4 [ab,ag,ah,ae,ac,aF,aC,aH,aM,bY,bx,fB,(387,.v (.bool (decide (((cN:Nat):Int) < (((lst (ax.at_ 2)).length:Nat):Int)))))] rP fun _ j9=>A4 ?_))
         refine I7 j9.env_ (b:=decide (((cN:Nat):Int) < (((lst (ax.at_ 2)).length:Nat):Int))) kz (decide_eq_true (by omega)) ?_
         refine wp_skip (A4 (wp_seq (wp_block (wp_seq (M3 (d:=390) [ab,ag,ah,ae,ac,aF,aC,aH,aM,bY,bx,fB,(58,.v (.int .i32 (IntKind.i32.wrap ev.N)))] j9 (T7 _ _) Tryz.call50 fun _ _ rQ=>?_)))))
         refine A4 (D7 [0,1,2,3,4] kz ?_)
         refine H7 [0,1,2] [3,4] [ab,ag,ah,ae,ac,aF,aC,aH,aM,bY,bx,fB,(391,.v (.slice (some ⟨eu,0,none⟩) ((lst (ax.at_ 2)).length) il)),(392,.v (.int .i32 ((cN:Nat):Int))),(393,.v (.int .i32 (IntKind.i32.wrap ev.N)))] rQ fun _ rR=>?_
         refine B2 (Jy (t:=94) (e:=21) (size:=1) (bytes:=4) (d:=394) (tb:=[bg,bw,cW]) (z:=.int .i32 0) rR rJ rfl kz fun _ rS=>?_)
         refine B2 (V4 [bg,bw,cW,J1 eu 1 (.int .i32 0) ((lst (ax.at_ 2)).length) (cN + 1),⟨eu,cN * 1,[.int .i32 (IntKind.i32.wrap ev.N)],true⟩] 4 rS fun _ rT=>B5 ?_)
         have rV:=rT.pk (env':=j6)
         refine F2 (A4 (E4 [ab,ag,ah,ae,ac,aF,aC,aH,aM,bY,bx,(57,.v (.int .i32 (IntKind.i32.wrap (((cN:Nat):Int) + 1))))] rV fun _ rW=>?_))
         refine A4 ?_
         let ka:C6:=[ab,ag,ah,ae,ac,aF,aC,aH,aM,bY,bx,(57,.v (.int .i32 ((cN + 1:Nat):Int)))]
         have rX:=(rW.envEq (env':=ka) (by rw [EO (by have:=e607_2; omega)])).pk (env':=ka)
         exact (RS.thing (tb:=[bg,bw,cW]) (z:=.int .i32 0) (D:=K4 (IntKind.i32.wrap ev.N)) (rX.cast j8) hg_g681 rI Gw gN rfl (fun w F h_=>⟨(j7 _ _ h_).1,(j7 _ _ h_).2,trivial,rfl⟩) kz)
        refine wp_seq (wp_seq (E4 [ab,ag,ah,ae,ac,aF,aC,aH,aM,bY,bx,(57,.v (.int .i32 (((lst (ax.at_ 2)).length:Nat):Int))),(387,.v (.bool (decide ((((lst (ax.at_ 2)).length:Nat):Int) < (((lst (ax.at_ 2)).length:Nat):Int)))))] rL fun _ kd=>A4 ?_))
        refine E6 kd.env_ (b:=decide ((((lst (ax.at_ 2)).length:Nat):Int) < (((lst (ax.at_ 2)).length:Nat):Int))) kz (decide_eq_false (by omega)) ?_
        refine wp_exit (E7 (E7 (G9 (A4 ?_))))
        obtain ⟨vx,rY⟩:=RS.listEnd (tb:=[bg,bw,cW]) (c:=il) (kd.pk (env':=[ab,ag,ah,ae,ac,aF,aC,aH,aM,bY])) hg_g681 Gw gN hcap_g681 (by have:=e607_2; omega) hn_g681 kz
        exact ⟨Y8 (some ⟨eu,0,none⟩) (lst (ax.at_ 2)).length il vx,_,fun w F h_=>⟨h_.1,⟨h_.2.1,Nat.le_trans e607_2 (by decide),h_.2.2.1⟩,⟨rfl,h_.2.2.2⟩⟩,rY⟩
       refine wp_skip (A4 (wp_seq (E4 [ab,ag,ah,ae,ac,aF,aC,aH,aM,cV,bx,(57,.v (.int .i32 0))] gM fun _ rZ=>?_)))
       refine A4 (wp_block (Dr (wp_seq (wp_seq (E4 [ab,ag,ah,ae,ac,aF,aC,aH,aM,cV,bx,(57,.v (.int .i32 0)),(387,.v (.bool (decide (0 < (((lst (ax.at_ 2)).length:Nat):Int)))))] rZ fun _ ke=>A4 ?_)))))
       refine E6 ke.env_ (b:=decide (0 < (((lst (ax.at_ 2)).length:Nat):Int))) kz (decide_eq_false (by have h_:=of_decide_eq_false fA; omega)) ?_
       refine wp_exit (E7 (E7 (G9 (A4 ?_))))
       have hz_:(lst (ax.at_ 2)).length = 0:=by have h_:=of_decide_eq_false fA; omega
       exact ⟨Y8 none 0 0 (fun _=>CA),_,fun w F h_=>⟨h_,⟨Slots.nil _ _ _ _,Nat.zero_le _,fun _ h=>absurd h (Nat.not_lt_zero _)⟩,⟨hz_.symm,fun _ h=>absurd h (Nat.not_lt_zero _)⟩⟩,(ke.cast (t:=d5) (by rw [List.eq_nil_of_length_eq_zero hz_]; rfl)).pk (env':=gL)⟩
      rintro _ _ ⟨bQ,vy,cH,sa⟩
      refine wp_seq (E4 [ab,ag,ah,ae,ac,aF,aC,aH,aM,(54,.v (.slice bQ.A bQ.l bQ.c))] sa fun _ sc=>?_)
      refine A4 ?_
      let gO:Value:=.slice bQ.A bQ.l bQ.c
      refine J9 [bg,bw,⟨cm,bI * 19,[cU,ff,fg,fh,fi,fj,fk,fm,fo,fq,fr,ft,fv,fw,fx,fy,fz,gO,aj],true⟩] 2 bX sc fun _ _ sd=>?_
      refine A4 ?_
      have se:=sd.cast jR
      refine P0 (Mid:=fun a_ w_=>∃ (im:Option Nat) (ew:List (Int × Bs)) (P':G5),(∀ w F,P' w F → vy w F ∧ (MapR w F im ew ∧ ew.length ≤ 1000000 ∧ ∀ x ∈ ew,x.2.length < 4294967296) ∧ ((decide (v ≥ 12)) = true → ew = ax.U) ∧ ((decide (v ≥ 12)) = false → ew = [])) ∧ RS w (fun b o=>b = bv ∧ o < 16) F 492 bz [bg,bw,⟨cm,bI * 19,[cU,ff,fg,fh,fi,fj,fk,fm,fo,fq,fr,ft,fv,fw,fx,fy,fz,gO,.map im],true⟩] d4 P' gH a_ w_) ?_ ?_
      ·
       refine wp_seq (E4 [ab,ag,ah,ae,ac,aF,aC,aH,aM,(400,.v (.bool (decide (v ≥ 12))))] se fun _ gP=>A4 ?_)
       refine D4 gP.env_ (b:=decide (v ≥ 12)) kz (fun d8=>?_) (fun d8=>?_)
       ·
        have sf:=gP.cast (t:=((uv ax.U.length) ++ (I1 ax.U)) ++ gH) (by rw [if_pos d8])
        refine D7 [0,1,2,3,4] kz ?_
        refine H7 [0] [1,2,3,4] [ab,ag,ah,ae,ac,aF,aC,aH,(401,.p 3 0)] sf fun _ sg=>?_
        refine B2 (EJ (d:=402) sg (GQ ax.U e607_U (W7 e607r) _) (fun _=>MvF.tags _ _) Tryz.call67 fun ld wk _ _ kf sh=>?_)
        refine H7 [2,3] [4] [ab,ag,ah,ae,ac,aF,aC,aH,(402,.v (.agg #[.map ld])),(404,.p 3 18)] sh fun _ sj=>?_
        refine B2 (V4 [bg,bw,⟨cm,bI * 19,[cU,ff,fg,fh,fi,fj,fk,fm,fo,fq,fr,ft,fv,fw,fx,fy,fz,gO,.map ld],true⟩] 2 sj fun _ sk=>?_)
        refine B5 ?_
        have sl:=sk.pk (env':=d4)
        refine A4 ?_
        exact ⟨ld,ax.U,_,fun w F h_=>⟨(kf _ _ h_).1,⟨(kf _ _ h_).2,e607_U.2.1,e607_U.2.2⟩,⟨fun _=>rfl,(fun e_=>by rw [d8] at e_; cases e_)⟩⟩,sl.pk (env':=d4)⟩
       have sm:=gP.cast (t:=[] ++ gH) (by rw [if_neg (by rw [d8]; decide)])
       have sn:=sm.cast (t:=gH) rfl
       refine wp_skip (A4 ?_)
       exact ⟨none,[],_,fun w F h_=>⟨h_,⟨MapR.nil _ _,Nat.zero_le _,fun _ h=>by cases h⟩,⟨(fun e_=>by rw [d8] at e_; cases e_),fun _=>rfl⟩⟩,sn.pk (env':=d4)⟩
      rintro _ _ ⟨im,ew,wl,bZ,sq⟩
      refine F2 (A4 (E4 [ab,ag,ah,ae,ac,aF,aC,(49,.v (.int .i32 (IntKind.i32.wrap (((bI:Nat):Int) + 1))))] sq fun _ sr=>?_))
      refine A4 ?_
      let kg:C6:=[ab,ag,ah,ae,ac,aF,aC,(49,.v (.int .i32 ((bI + 1:Nat):Int)))]
      have ss:=(sr.envEq (env':=kg) (by rw [EO (by have:=e66_10; omega)])).pk (env':=kg)
      exact (RS.thing (tb:=[bg]) (z:=.agg #[aJ,aa,aa,aa,aa,aa,aa,aa,aa,aa,aa,aa,aa,aa,aa,aa,aa,av,aj]) (D:=(BM im ew [ep,bh,bQ])) (ss.cast jQ) hg_g588 gG BT gF rfl (fun w F h_=>⟨(jP _ _ (fe _ _ (dw _ _ (cH _ _ (bZ _ _ h_).1).1).1).1).1,(jP _ _ (fe _ _ (dw _ _ (cH _ _ (bZ _ _ h_).1).1).1).1).2,⟨((fe _ _ (dw _ _ (cH _ _ (bZ _ _ h_).1).1).1).2.1),((dw _ _ (cH _ _ (bZ _ _ h_).1).1).2.1),((cH _ _ (bZ _ _ h_).1).2.1),(bZ _ _ h_).2.1.1,(bZ _ _ h_).2.1.2.1,(bZ _ _ h_).2.1.2.2,trivial⟩,⟨((fe _ _ (dw _ _ (cH _ _ (bZ _ _ h_).1).1).1).2.2),((dw _ _ (cH _ _ (bZ _ _ h_).1).1).2.2),((cH _ _ (bZ _ _ h_).1).2.2),(bZ _ _ h_).2.2,trivial⟩⟩) kz)
     refine wp_seq (wp_seq (E4 [ab,ag,ah,ae,ac,aF,aC,(49,.v (.int .i32 (((lst (T.at_ 10)).length:Nat):Int))),(334,.v (.bool (decide ((((lst (T.at_ 10)).length:Nat):Int) < (((lst (T.at_ 10)).length:Nat):Int)))))] qO fun _ kh=>A4 ?_))
     refine E6 kh.env_ (b:=decide ((((lst (T.at_ 10)).length:Nat):Int) < (((lst (T.at_ 10)).length:Nat):Int))) kz (decide_eq_false (by omega)) ?_
     refine wp_exit (E7 (E7 (G9 (A4 ?_))))
     obtain ⟨vz,su⟩:=RS.listEnd (tb:=[bg]) (c:=ik) (kh.pk (env':=[ab,ag,ah,ae,ac,aF])) hg_g588 BT gF hcap_g588 (by have:=e66_10; omega) hn_g588 kz
     exact ⟨Y8 (some ⟨cm,0,none⟩) (lst (T.at_ 10)).length ik vz,_,fun w F h_=>⟨h_.1,⟨h_.2.1,Nat.le_trans e66_10 (by decide),h_.2.2.1⟩,⟨rfl,h_.2.2.2⟩⟩,su⟩
    refine wp_skip (A4 (wp_seq (E4 [ab,ag,ah,ae,ac,cT,aC,gE] gD fun _ sw=>?_)))
    refine A4 (wp_block (Dr (wp_seq (wp_seq (E4 [ab,ag,ah,ae,ac,cT,aC,gE,(334,.v (.bool (decide (0 < (((lst (T.at_ 10)).length:Nat):Int)))))] sw fun _ ki=>A4 ?_)))))
    refine E6 ki.env_ (b:=decide (0 < (((lst (T.at_ 10)).length:Nat):Int))) kz (decide_eq_false (by have h_:=of_decide_eq_false fb; omega)) ?_
    refine wp_exit (E7 (E7 (G9 (A4 ?_))))
    have hz_:(lst (T.at_ 10)).length = 0:=by have h_:=of_decide_eq_false fb; omega
    exact ⟨Y8 none 0 0 (fun _=>CA),_,fun w F h_=>⟨h_,⟨Slots.nil _ _ _ _,Nat.zero_le _,fun _ h=>absurd h (Nat.not_lt_zero _)⟩,⟨hz_.symm,fun _ h=>absurd h (Nat.not_lt_zero _)⟩⟩,(ki.cast (t:=fI) (by rw [List.eq_nil_of_length_eq_zero hz_]; rfl)).pk (env':=gC)⟩
   rintro _ _ ⟨aZ,wm,gQ,sy⟩
   refine wp_seq (E4 [ab,ag,ah,ae,ac,(46,.v (.slice aZ.A aZ.l aZ.c))] sy fun _ sA=>?_)
   refine A4 (J9 [⟨bv,0,[aL,aX,aT,az,aI,aj,aU,aY,bf,bk,bo,bq,bA,.slice aZ.A aZ.l aZ.c,aJ,aj],true⟩] 0 aS sA fun _ _ sB=>?_)
   refine A4 ?_
   exact ⟨aZ,_,fun w F h_=>⟨(gQ _ _ h_).1,(gQ _ _ h_).2.1,⟨fun _=>(gQ _ _ h_).2.2,(fun e_=>by rw [dZ] at e_; cases e_)⟩⟩,sB.pk (env':=aS)⟩
  have sC:=gB.cast (t:=[] ++ fI) (by rw [if_neg (by rw [dZ]; decide)])
  have sD:=sC.cast (t:=fI) rfl
  refine wp_skip (A4 ?_)
  exact ⟨Y8 none 0 0 (fun _=>CA),_,fun w F h_=>⟨h_,⟨Slots.nil _ _ _ _,Nat.zero_le _,fun _ h=>absurd h (Nat.not_lt_zero _)⟩,⟨(fun e_=>by rw [dZ] at e_; cases e_),fun _=>⟨rfl,rfl⟩⟩⟩,sD.pk (env':=aS)⟩
 rintro _ _ ⟨aR,vA,bK,sE⟩
 refine A4 (wp_seq ?_)
 have sF:=sE.cast lw
 let d9:C6:=[ab,ag,ae,ac]
 let bL:Value:=.slice aR.A aR.l aR.c
 refine P0 (Mid:=fun a_ w_=>∃ (df:DV) (P':G5),(∀ w F,P' w F → vA w F ∧ (df.s.size ≤ 1000000) ∧ ((decide (v ≥ 11)) = true → df.s = bs (T.at_ 11).S) ∧ ((decide (v ≥ 11)) = false → df.s = ByteArray.empty)) ∧ RS w (fun b o=>b = bv ∧ o < 16) F 492 bz [⟨bv,0,[aL,aX,aT,az,aI,aj,aU,aY,bf,bk,bo,bq,bA,bL,.string df.s,aj],true⟩] d9 P' lu a_ w_) ?_ ?_
 ·
  refine wp_seq (E4 [ab,ag,ae,ac,(411,.v (.bool (decide (v ≥ 11))))] sF fun _ gR=>A4 ?_)
  refine D4 gR.env_ (b:=decide (v ≥ 11)) kz (fun ea=>?_) (fun ea=>?_)
  ·
   have sG:=gR.cast (t:=(if (decide (v ≥ 12)) = true then (uv ((T.at_ 11).S.length + 1) ++ (T.at_ 11).S) else (be 2 (T.at_ 11).S.length ++ (T.at_ 11).S)) ++ lu) (by rw [if_pos ea])
   refine wp_seq (E4 d9 sG fun _ sH=>?_)
   refine A4 (wp_seq (wp_seq (E4 [ab,ag,ae,ac,(412,.v (.bool false))] sH fun _ kj=>A4 ?_)))
   refine E6 kj.env_ (b:=false) kz (rfl) ?_
   refine BO (d1:=417) (d2:=418) [ab,ag,ae,ac,(416,.v (.bool (decide (v ≥ 12))))] [ab,ag,ae,ac,(59,.v (.string (bs (T.at_ 11).S)))] kj (GO (T.at_ 11).S e66_11 _) Tryz.call59 (GN (T.at_ 11).S e66_11 _) Tryz.call60 fun _ _ sI=>?_
   refine A4 (J9 [⟨bv,0,[aL,aX,aT,az,aI,aj,aU,aY,bf,bk,bo,bq,bA,bL,.string (bs (T.at_ 11).S),aj],true⟩] 0 d9 sI fun _ _ sJ=>?_)
   refine A4 ?_
   exact ⟨Bi (bs (T.at_ 11).S),_,fun w F h_=>⟨h_,by show ByteArray.size (bs _) ≤ 1000000; rw [Eo]; exact Nat.le_trans e66_11 (by decide),⟨fun _=>rfl,(fun e_=>by rw [ea] at e_; cases e_)⟩⟩,sJ.pk (env':=d9)⟩
  have sK:=gR.cast (t:=[] ++ lu) (by rw [if_neg (by rw [ea]; decide)])
  have sL:=sK.cast (t:=lu) rfl
  refine wp_skip (A4 ?_)
  exact ⟨Bi ByteArray.empty,_,fun w F h_=>⟨h_,Nat.zero_le _,⟨(fun e_=>by rw [ea] at e_; cases e_),fun _=>rfl⟩⟩,sL.pk (env':=d9)⟩
 rintro _ _ ⟨df,dF,bD,sM⟩
 refine A4 (wp_seq ?_)
 have sN:=sM.cast lv
 let b8:Value:=.string df.s
 refine P0 (Mid:=fun a_ w_=>∃ (dg dh:DV) (io:Option Nat) (ey:List (Int × Bs)) (P':G5),(∀ w F,P' w F → dF w F ∧ (((∀ ad,dg.A = some ad → ∃ b o,ad = ⟨b,o,none⟩ ∧ AtF w F b o [.string dg.s]) ∧ dg.s.size ≤ 1000000) ∧ ((((if (decide (v ≥ 12)) = true then (!(T.at_ 0).null) else false)) = true → (dg.s = bs (E1 (T.at_ 0)) ∧ dg.A.isNone = (T.at_ 0).null)) ∧ (((if (decide (v ≥ 12)) = true then (!(T.at_ 0).null) else false)) = false → (dg.s = ByteArray.empty ∧ dg.A = none)))) ∧ ((Y4 w F dh) ∧ ((((if (decide (v ≥ 12)) = true then (F0 T) else false)) = true → CE v dh (T.at_ 2)) ∧ (((if (decide (v ≥ 12)) = true then (F0 T) else false)) = false → ((dh.f 0).n = -1 ∧ (dh.f 1).n = -1 ∧ dh.u = [])))) ∧ (MapR w F io ey ∧ ey.length ≤ 1000000 ∧ ∀ x ∈ ey,x.2.length < 4294967296) ∧ ((decide (v ≥ 12)) = true → ey = T.U) ∧ ((decide (v ≥ 12)) = false → ey = [])) ∧ RS w (fun b o=>b = bv ∧ o < 16) F 492 bz [⟨bv,0,[aL,.pointer dg.A,aT,.int .i32 ((dh.f 0).n),.int .i64 ((dh.f 1).n),.map dh.m,aU,aY,bf,bk,bo,bq,bA,bL,b8,.map io],true⟩] [ag] P' ([]:Bs) a_ w_) ?_ ?_
 ·
  refine wp_seq (E4 [ab,ag,ae,ac,(423,.v (.bool (decide (v ≥ 12))))] sN fun _ gS=>A4 ?_)
  refine D4 gS.env_ (b:=decide (v ≥ 12)) kz (fun bE=>?_) (fun bE=>?_)
  ·
   have sO:=gS.cast (t:=((uv (B3 (!(T.at_ 0).null) + (B3 (F0 T) + T.U.length))) ++ ((G4 (!(T.at_ 0).null) 0 (if (decide (v ≥ 12)) = true then (if (T.at_ 0).null = true then uv 0 else uv ((E1 (T.at_ 0)).length + 1) ++ (E1 (T.at_ 0))) else (if (T.at_ 0).null = true then be 2 (-1) else be 2 (E1 (T.at_ 0)).length ++ (E1 (T.at_ 0))))) ++ ((G4 (F0 T) 1 ((L7 v (T.at_ 2)))) ++ (I1 T.U)))) ++ ([]:Bs)) (by rw [if_pos bE])
   obtain ⟨di,km⟩:∃ R,R = I1 T.U ++ ([]:Bs):=⟨_,rfl⟩
   obtain ⟨cO,gT⟩:∃ R,R = G4 (F0 T) 1 ((L7 v (T.at_ 2))) ++ di:=⟨_,rfl⟩
   obtain ⟨ip,gU⟩:∃ R,R = G4 (!(T.at_ 0).null) 0 (if (decide (v ≥ 12)) = true then (if (T.at_ 0).null = true then uv 0 else uv ((E1 (T.at_ 0)).length + 1) ++ (E1 (T.at_ 0))) else (if (T.at_ 0).null = true then be 2 (-1) else be 2 (E1 (T.at_ 0)).length ++ (E1 (T.at_ 0)))) ++ cO:=⟨_,rfl⟩
   have sP:=sO.cast (t:=uv (B3 (!(T.at_ 0).null) + (B3 (F0 T) + T.U.length)) ++ ip) (by rw [gU,gT,km]; simp only [List.append_assoc])
   refine wp_seq (M3 (d:=424) [ab,ag,ae,ac,(60,.v (.int .u32 (((B3 (!(T.at_ 0).null) + (B3 (F0 T) + T.U.length)):Nat):Int)))] sP (X3 (B3 (!(T.at_ 0).null) + (B3 (F0 T) + T.U.length)) (by have t0_:=T3 (!(T.at_ 0).null); have t1_:=T3 (F0 T); have hu_:=e66_U.2.1; omega) _) Tryz.call64 fun _ _ sQ=>?_)
   refine A4 (wp_block ?_)
   let dx:Ob:=⟨bv,0,[aL,aX,aT,az,aI,aj,aU,aY,bf,bk,bo,bq,bA,bL,b8,aj],true⟩
   obtain ⟨iq,eb⟩:∃ I:Nat → Act → World → Prop,I = (fun q_ a_ w_=>((!(T.at_ 0).null) = true ∧ q_ = (B3 (!(T.at_ 0).null) + (B3 (F0 T) + T.U.length)) ∧ ∃ (P':G5),(∀ w F,P' w F → dF w F) ∧ RS w (fun b o=>b = bv ∧ o < 16) F 492 bz [dx] [ab,ag,ae,ac,(60,.v (.int .u32 (((B3 (!(T.at_ 0).null) + (B3 (F0 T) + T.U.length)):Nat):Int)))] P' ip a_ w_) ∨ ((F0 T) = true ∧ q_ = (B3 (F0 T) + T.U.length) ∧ ∃ (aN:DV) (P':G5),(∀ w F,P' w F → dF w F ∧ (((∀ ad,aN.A = some ad → ∃ b o,ad = ⟨b,o,none⟩ ∧ AtF w F b o [.string aN.s]) ∧ aN.s.size ≤ 1000000) ∧ ((((if (decide (v ≥ 12)) = true then (!(T.at_ 0).null) else false)) = true → (aN.s = bs (E1 (T.at_ 0)) ∧ aN.A.isNone = (T.at_ 0).null)) ∧ (((if (decide (v ≥ 12)) = true then (!(T.at_ 0).null) else false)) = false → (aN.s = ByteArray.empty ∧ aN.A = none))))) ∧ RS w (fun b o=>b = bv ∧ o < 16) F 492 bz [⟨bv,0,[aL,.pointer aN.A,aT,az,aI,aj,aU,aY,bf,bk,bo,bq,bA,bL,b8,aj],true⟩] [ab,ag,ae,ac,(60,.v (.int .u32 (((B3 (F0 T) + T.U.length):Nat):Int)))] P' cO a_ w_) ∨ (∃ (aN bp:DV) (P':G5) (w1_:World) (m_:Option Nat) (j_:Nat),q_ = T.U.length - j_ ∧ j_ ≤ T.U.length ∧ (∀ w F,P' w F → dF w F ∧ (((∀ ad,aN.A = some ad → ∃ b o,ad = ⟨b,o,none⟩ ∧ AtF w F b o [.string aN.s]) ∧ aN.s.size ≤ 1000000) ∧ ((((if (decide (v ≥ 12)) = true then (!(T.at_ 0).null) else false)) = true → (aN.s = bs (E1 (T.at_ 0)) ∧ aN.A.isNone = (T.at_ 0).null)) ∧ (((if (decide (v ≥ 12)) = true then (!(T.at_ 0).null) else false)) = false → (aN.s = ByteArray.empty ∧ aN.A = none)))) ∧ ((Y4 w F bp) ∧ ((((if (decide (v ≥ 12)) = true then (F0 T) else false)) = true → CE v bp (T.at_ 2)) ∧ (((if (decide (v ≥ 12)) = true then (F0 T) else false)) = false → ((bp.f 0).n = -1 ∧ (bp.f 1).n = -1 ∧ bp.u = []))))) ∧ TU w w1_ (fun b o=>b = bv ∧ o < 16) F 492 bz [⟨bv,0,[aL,.pointer aN.A,aT,.int .i32 ((bp.f 0).n),.int .i64 ((bp.f 1).n),.map bp.m,aU,aY,bf,bk,bo,bq,bA,bL,b8,aj],true⟩] [⟨bv,0,[aL,.pointer aN.A,aT,.int .i32 ((bp.f 0).n),.int .i64 ((bp.f 1).n),.map bp.m,aU,aY,bf,bk,bo,bq,bA,bL,b8,.map m_],true⟩] [ab,ag,ae,ac,(60,.v (.int .u32 ((T.U.length - j_:Nat):Int)))] P' (I1 (T.U.drop j_) ++ ([]:Bs)) m_ (T.U.take j_) a_ w_)):=⟨_,rfl⟩
   have gV:∀ (aN bp:DV) (P':G5) (a_:Act) (w_:World),(∀ w F,P' w F → dF w F ∧ (((∀ ad,aN.A = some ad → ∃ b o,ad = ⟨b,o,none⟩ ∧ AtF w F b o [.string aN.s]) ∧ aN.s.size ≤ 1000000) ∧ ((((if (decide (v ≥ 12)) = true then (!(T.at_ 0).null) else false)) = true → (aN.s = bs (E1 (T.at_ 0)) ∧ aN.A.isNone = (T.at_ 0).null)) ∧ (((if (decide (v ≥ 12)) = true then (!(T.at_ 0).null) else false)) = false → (aN.s = ByteArray.empty ∧ aN.A = none)))) ∧ ((Y4 w F bp) ∧ ((((if (decide (v ≥ 12)) = true then (F0 T) else false)) = true → CE v bp (T.at_ 2)) ∧ (((if (decide (v ≥ 12)) = true then (F0 T) else false)) = false → ((bp.f 0).n = -1 ∧ (bp.f 1).n = -1 ∧ bp.u = []))))) → RS w (fun b o=>b = bv ∧ o < 16) F 492 bz [⟨bv,0,[.int .i16 v,.pointer aN.A,.int .i32 fJ.n,.int .i32 ((bp.f 0).n),.int .i64 ((bp.f 1).n),.map bp.m,.int .i32 (IntKind.i32.wrap (T.at_ 3).N),.int .i32 (IntKind.i32.wrap (T.at_ 4).N),.int .i32 cI.n,.int .i8 cJ.n,.int .i32 cK.n,.int .i32 cL.n,.slice aO.A aO.l aO.c,.slice aR.A aR.l aR.c,.string df.s,.map none],true⟩] [(2,.v (.bool false)),(7,.p 0 0),(9,.v (.bool (decide (v ≥ 12)))),(10,.p 1 0),(60,.v (.int .u32 ((T.U.length:Nat):Int)))] P' di a_ w_ → iq T.U.length a_ w_:=by
    intro aN bp P' a_ w_ hp_ hs_
    have h_:=(TU.start hs_).cast km
    rw [eb]
    exact .inr (.inr (⟨aN,bp,P',w_,none,0,rfl,Nat.zero_le _,hp_,h_⟩))
   have gW:∀ (aN:DV) (P':G5) (a_:Act) (w_:World),(∀ w F,P' w F → dF w F ∧ (((∀ ad,aN.A = some ad → ∃ b o,ad = ⟨b,o,none⟩ ∧ AtF w F b o [.string aN.s]) ∧ aN.s.size ≤ 1000000) ∧ ((((if (decide (v ≥ 12)) = true then (!(T.at_ 0).null) else false)) = true → (aN.s = bs (E1 (T.at_ 0)) ∧ aN.A.isNone = (T.at_ 0).null)) ∧ (((if (decide (v ≥ 12)) = true then (!(T.at_ 0).null) else false)) = false → (aN.s = ByteArray.empty ∧ aN.A = none))))) → RS w (fun b o=>b = bv ∧ o < 16) F 492 bz [⟨bv,0,[.int .i16 v,.pointer aN.A,.int .i32 fJ.n,.int .i32 (-1),.int .i64 (-1),.map none,.int .i32 (IntKind.i32.wrap (T.at_ 3).N),.int .i32 (IntKind.i32.wrap (T.at_ 4).N),.int .i32 cI.n,.int .i8 cJ.n,.int .i32 cK.n,.int .i32 cL.n,.slice aO.A aO.l aO.c,.slice aR.A aR.l aR.c,.string df.s,.map none],true⟩] [(2,.v (.bool false)),(7,.p 0 0),(9,.v (.bool (decide (v ≥ 12)))),(10,.p 1 0),(60,.v (.int .u32 (((B3 (F0 T) + T.U.length):Nat):Int)))] P' cO a_ w_ → iq (B3 (F0 T) + T.U.length) a_ w_:=by
    intro aN P' a_ w_ hp_ hs_
    rcases Bool.eq_false_or_eq_true (F0 T) with ec | ec
    ·
     rw [eb]
     exact .inr (.inl ⟨ec,rfl,aN,P',hp_,hs_⟩)
    have e_:(B3 (F0 T) + T.U.length) = T.U.length:=by rw [Eu ec,Nat.zero_add]
    have f_:cO = di:=by rw [gT,Es ec]; rfl
    have g_:=gV aN (BM none [] [K4 (-1),K4 (-1)]) P' a_ w_ (fun w F h_=>⟨(hp_ w F h_).1,(hp_ w F h_).2,⟨⟨trivial,trivial,MapR.nil _ _,Nat.zero_le _,(fun _ h=>by cases h),trivial⟩,⟨(fun e2_=>by rw [if_pos (by exact bE),ec] at e2_; cases e2_),fun _=>⟨rfl,rfl,rfl⟩⟩⟩⟩) ((hs_.cast f_).envEq (env':=[ab,ag,ae,ac,(60,.v (.int .u32 ((T.U.length:Nat):Int)))]) (by rw [e_]))
    rw [e_]
    exact g_
   have lf:∀ (P':G5) (a_:Act) (w_:World),(∀ w F,P' w F → dF w F) → RS w (fun b o=>b = bv ∧ o < 16) F 492 bz [⟨bv,0,[.int .i16 v,.pointer none,.int .i32 fJ.n,.int .i32 (-1),.int .i64 (-1),.map none,.int .i32 (IntKind.i32.wrap (T.at_ 3).N),.int .i32 (IntKind.i32.wrap (T.at_ 4).N),.int .i32 cI.n,.int .i8 cJ.n,.int .i32 cK.n,.int .i32 cL.n,.slice aO.A aO.l aO.c,.slice aR.A aR.l aR.c,.string df.s,.map none],true⟩] [(2,.v (.bool false)),(7,.p 0 0),(9,.v (.bool (decide (v ≥ 12)))),(10,.p 1 0),(60,.v (.int .u32 (((B3 (!(T.at_ 0).null) + (B3 (F0 T) + T.U.length)):Nat):Int)))] P' ip a_ w_ → iq (B3 (!(T.at_ 0).null) + (B3 (F0 T) + T.U.length)) a_ w_:=by
    intro P' a_ w_ hp_ hs_
    rcases Bool.eq_false_or_eq_true (!(T.at_ 0).null) with ee | ee
    ·
     rw [eb]
     exact .inl ⟨ee,rfl,P',hp_,hs_⟩
    have e_:(B3 (!(T.at_ 0).null) + (B3 (F0 T) + T.U.length)) = (B3 (F0 T) + T.U.length):=by rw [Eu ee,Nat.zero_add]
    have f_:ip = cO:=by rw [gU,Es ee]; rfl
    have g_:=gW (Gy none ByteArray.empty) P' a_ w_ (fun w F h_=>⟨(hp_ w F h_),⟨⟨(fun _ h=>(by cases h)),Nat.zero_le _⟩,⟨(fun e2_=>by rw [if_pos (by exact bE),ee] at e2_; cases e2_),fun _=>⟨rfl,rfl⟩⟩⟩⟩) ((hs_.cast f_).envEq (env':=[ab,ag,ae,ac,(60,.v (.int .u32 (((B3 (F0 T) + T.U.length):Nat):Int)))]) (by rw [e_]))
    rw [e_]
    exact g_
   have sR:=sQ.pk (env':=[ab,ag,ae,ac,(60,.v (.int .u32 (((B3 (!(T.at_ 0).null) + (B3 (F0 T) + T.U.length)):Nat):Int)))])
   refine wp_loop_ghost iq (B3 (!(T.at_ 0).null) + (B3 (F0 T) + T.U.length)) (lf dF _ _ (fun w F h_=>h_) sR) ?_
   rintro q_ aq wq ko
   rw [eb] at ko
   let ba:Nat × SV:=(7,.p 2 0)
   rcases ko with ⟨ef,rfl,vB,gX,sS⟩ | ⟨eg,rfl,aN,wn,kp,sT⟩ | ⟨aN,bp,sU,vC,lg,bR,rfl,hj_,fC,sV⟩
   ·
    replace gX:∀ w F,vB w F → dF w F ∧ True:=fun w F h_=>⟨gX w F h_,trivial⟩
    have sW:=sS.cast (t:=uv 0 ++ (uv (if (decide (v ≥ 12)) = true then (if (T.at_ 0).null = true then uv 0 else uv ((E1 (T.at_ 0)).length + 1) ++ (E1 (T.at_ 0))) else (if (T.at_ 0).null = true then be 2 (-1) else be 2 (E1 (T.at_ 0)).length ++ (E1 (T.at_ 0)))).length ++ ((if (decide (v ≥ 12)) = true then (if (T.at_ 0).null = true then uv 0 else uv ((E1 (T.at_ 0)).length + 1) ++ (E1 (T.at_ 0))) else (if (T.at_ 0).null = true then be 2 (-1) else be 2 (E1 (T.at_ 0)).length ++ (E1 (T.at_ 0)))) ++ cO))) (by rw [gU,Et ef]; simp only [List.append_assoc])
    refine wp_seq (wp_seq (E4 [ab,ag,ae,ac,(60,.v (.int .u32 (((B3 (!(T.at_ 0).null) + (B3 (F0 T) + T.U.length)):Nat):Int))),(426,.v (.bool (decide ((((B3 (!(T.at_ 0).null) + (B3 (F0 T) + T.U.length)):Nat):Int) > 0))))] sW fun _ kq=>A4 ?_))
    refine I7 kq.env_ (b:=decide ((((B3 (!(T.at_ 0).null) + (B3 (F0 T) + T.U.length)):Nat):Int) > 0)) kz (decide_eq_true (by rw [T4 ef]; omega)) ?_
    refine wp_skip (A4 (wp_seq (wp_block (wp_seq ?_))))
    let gY:Nat × SV:=(61,.v (.int .u32 0))
    refine M3 (d:=429) [ab,ag,ae,ac,(60,.v (.int .u32 (((B3 (!(T.at_ 0).null) + (B3 (F0 T) + T.U.length)):Nat):Int))),gY] kq ((show O3 _ _ _ (uv (if (decide (v ≥ 12)) = true then (if (T.at_ 0).null = true then uv 0 else uv ((E1 (T.at_ 0)).length + 1) ++ (E1 (T.at_ 0))) else (if (T.at_ 0).null = true then be 2 (-1) else be 2 (E1 (T.at_ 0)).length ++ (E1 (T.at_ 0)))).length ++ ((if (decide (v ≥ 12)) = true then (if (T.at_ 0).null = true then uv 0 else uv ((E1 (T.at_ 0)).length + 1) ++ (E1 (T.at_ 0))) else (if (T.at_ 0).null = true then be 2 (-1) else be 2 (E1 (T.at_ 0)).length ++ (E1 (T.at_ 0)))) ++ cO)) (.int .u32 0) from @X3 0 (by decide) (uv (if (decide (v ≥ 12)) = true then (if (T.at_ 0).null = true then uv 0 else uv ((E1 (T.at_ 0)).length + 1) ++ (E1 (T.at_ 0))) else (if (T.at_ 0).null = true then be 2 (-1) else be 2 (E1 (T.at_ 0)).length ++ (E1 (T.at_ 0)))).length ++ ((if (decide (v ≥ 12)) = true then (if (T.at_ 0).null = true then uv 0 else uv ((E1 (T.at_ 0)).length + 1) ++ (E1 (T.at_ 0))) else (if (T.at_ 0).null = true then be 2 (-1) else be 2 (E1 (T.at_ 0)).length ++ (E1 (T.at_ 0)))) ++ cO)))) Tryz.call64 fun _ _ sX=>?_
    refine A4 (wp_seq (E4 [ab,ag,ae,ac,(60,.v (.int .u32 (((B3 (!(T.at_ 0).null) + (B3 (F0 T) + T.U.length)):Nat):Int))),gY,(430,.v (.int .u32 0))] sX fun _ sY=>?_))
    refine A4 (wp_block (wp_seq (E4 [ab,ag,ae,ac,(60,.v (.int .u32 (((B3 (!(T.at_ 0).null) + (B3 (F0 T) + T.U.length)):Nat):Int))),gY,(430,.v (.int .u32 0)),(439,.v (.bool true))] sY fun _ ku=>A4 ?_)))
    refine I7 ku.env_ (b:=true) kz (rfl) ?_
    refine wp_seq (D7 [0,1,2,3,4,5] kz ?_)
    refine B2 (Bk (d:=441) ku (X3 ((if (decide (v ≥ 12)) = true then (if (T.at_ 0).null = true then uv 0 else uv ((E1 (T.at_ 0)).length + 1) ++ (E1 (T.at_ 0))) else (if (T.at_ 0).null = true then be 2 (-1) else be 2 (E1 (T.at_ 0)).length ++ (E1 (T.at_ 0)))).length) (JG e66_0) ((if (decide (v ≥ 12)) = true then (if (T.at_ 0).null = true then uv 0 else uv ((E1 (T.at_ 0)).length + 1) ++ (E1 (T.at_ 0))) else (if (T.at_ 0).null = true then be 2 (-1) else be 2 (E1 (T.at_ 0)).length ++ (E1 (T.at_ 0)))) ++ cO)) Tryz.call64 fun _ _ sZ=>?_)
    refine H7 [1] [2,3,4,5] [ab,ag,ae,ac,(60,.v (.int .u32 (((B3 (!(T.at_ 0).null) + (B3 (F0 T) + T.U.length)):Nat):Int))),(442,.v (.int .i64 (IntKind.i64.wrap (((if (decide (v ≥ 12)) = true then (if (T.at_ 0).null = true then uv 0 else uv ((E1 (T.at_ 0)).length + 1) ++ (E1 (T.at_ 0))) else (if (T.at_ 0).null = true then be 2 (-1) else be 2 (E1 (T.at_ 0)).length ++ (E1 (T.at_ 0)))).length:Nat):Int))))] sZ fun _ s0=>?_
    refine B2 (EX (d:=443) (q:=(IntKind.i64.wrap (((if (decide (v ≥ 12)) = true then (if (T.at_ 0).null = true then uv 0 else uv ((E1 (T.at_ 0)).length + 1) ++ (E1 (T.at_ 0))) else (if (T.at_ 0).null = true then be 2 (-1) else be 2 (E1 (T.at_ 0)).length ++ (E1 (T.at_ 0)))).length:Nat):Int))) (X:=if (decide (v ≥ 12)) = true then (if (T.at_ 0).null = true then uv 0 else uv ((E1 (T.at_ 0)).length + 1) ++ (E1 (T.at_ 0))) else (if (T.at_ 0).null = true then be 2 (-1) else be 2 (E1 (T.at_ 0)).length ++ (E1 (T.at_ 0)))) (rest:=cO) s0 (by have h_:(if (decide (v ≥ 12)) = true then (if (T.at_ 0).null = true then uv 0 else uv ((E1 (T.at_ 0)).length + 1) ++ (E1 (T.at_ 0))) else (if (T.at_ 0).null = true then be 2 (-1) else be 2 (E1 (T.at_ 0)).length ++ (E1 (T.at_ 0)))).length < 4294967296:=(JG e66_0); first | exact wrap_i64 (by omega) (by omega) | rfl) (V5 _ _) Tryz.call66 fun lh vD _ _ kv s4=>?_)
    refine H7 [3] [4,5] [ab,ag,ae,ac,(60,.v (.int .u32 (((B3 (!(T.at_ 0).null) + (B3 (F0 T) + T.U.length)):Nat):Int))),(444,.v (.agg #[.slice lh ((if (decide (v ≥ 12)) = true then (if (T.at_ 0).null = true then uv 0 else uv ((E1 (T.at_ 0)).length + 1) ++ (E1 (T.at_ 0))) else (if (T.at_ 0).null = true then be 2 (-1) else be 2 (E1 (T.at_ 0)).length ++ (E1 (T.at_ 0)))).length) ((if (decide (v ≥ 12)) = true then (if (T.at_ 0).null = true then uv 0 else uv ((E1 (T.at_ 0)).length + 1) ++ (E1 (T.at_ 0))) else (if (T.at_ 0).null = true then be 2 (-1) else be 2 (E1 (T.at_ 0)).length ++ (E1 (T.at_ 0)))).length),bd]))] s4 fun _ s5=>?_
    refine B2 (BN (d:=62) [av,bd] s5 fun li _ _ hb_b823 s6=>?_)
    have s7:=(s6.tbEq (tb':=[dx,⟨li,0,[av,bd],true⟩]) rfl).pk (env':=[ab,ag,ae,ac,(60,.v (.int .u32 (((B3 (!(T.at_ 0).null) + (B3 (F0 T) + T.U.length)):Nat):Int))),(444,.v (.agg #[.slice lh ((if (decide (v ≥ 12)) = true then (if (T.at_ 0).null = true then uv 0 else uv ((E1 (T.at_ 0)).length + 1) ++ (E1 (T.at_ 0))) else (if (T.at_ 0).null = true then be 2 (-1) else be 2 (E1 (T.at_ 0)).length ++ (E1 (T.at_ 0)))).length) ((if (decide (v ≥ 12)) = true then (if (T.at_ 0).null = true then uv 0 else uv ((E1 (T.at_ 0)).length + 1) ++ (E1 (T.at_ 0))) else (if (T.at_ 0).null = true then be 2 (-1) else be 2 (E1 (T.at_ 0)).length ++ (E1 (T.at_ 0)))).length),bd])),(62,.p 2 0)])
    refine B2 (V4 [dx,⟨li,0,[.slice lh ((if (decide (v ≥ 12)) = true then (if (T.at_ 0).null = true then uv 0 else uv ((E1 (T.at_ 0)).length + 1) ++ (E1 (T.at_ 0))) else (if (T.at_ 0).null = true then be 2 (-1) else be 2 (E1 (T.at_ 0)).length ++ (E1 (T.at_ 0)))).length) ((if (decide (v ≥ 12)) = true then (if (T.at_ 0).null = true then uv 0 else uv ((E1 (T.at_ 0)).length + 1) ++ (E1 (T.at_ 0))) else (if (T.at_ 0).null = true then be 2 (-1) else be 2 (E1 (T.at_ 0)).length ++ (E1 (T.at_ 0)))).length),bd],true⟩] 1 s7 fun _ s8=>?_)
    refine B5 ?_
    have kw:=s8.pk (env':=[ab,ag,ae,ac,(60,.v (.int .u32 (((B3 (!(T.at_ 0).null) + (B3 (F0 T) + T.U.length)):Nat):Int))),(62,.p 2 0)])
    obtain ⟨s9,ta,td,kx⟩:=RS.nest (tb:=[dx]) (si:=if (decide (v ≥ 12)) = true then (if (T.at_ 0).null = true then uv 0 else uv ((E1 (T.at_ 0)).length + 1) ++ (E1 (T.at_ 0))) else (if (T.at_ 0).null = true then be 2 (-1) else be 2 (E1 (T.at_ 0)).length ++ (E1 (T.at_ 0)))) kw (fun w F h_=>(kv _ _ h_).2)
    let gZ:Ob:=⟨bz,0,[.slice s9 ta td,bd],true⟩
    let cX:Nat × SV:=(62,.p 0 0)
    have ky:=((kx.tbEq (tb':=[dx,gZ]) rfl).envEq (env':=[ab,ba,ae,ac,(60,.v (.int .u32 (((B3 (!(T.at_ 0).null) + (B3 (F0 T) + T.U.length)):Nat):Int))),cX]) kz).cast (t:=(if (decide (v ≥ 12)) = true then (if (T.at_ 0).null = true then uv 0 else uv ((E1 (T.at_ 0)).length + 1) ++ (E1 (T.at_ 0))) else (if (T.at_ 0).null = true then be 2 (-1) else be 2 (E1 (T.at_ 0)).length ++ (E1 (T.at_ 0)))) ++ ([]:Bs)) (List.append_nil _).symm
    obtain ⟨wo,kA,te⟩:∃ P',(∀ w F,P' w F → (vD w F ∧ RdS w F s9 ta td cO)) ∧ RS w (fun b o=>b = bv ∧ o < 16) F 492 li [dx,gZ] [ab,ba,ae,ac,(60,.v (.int .u32 (((B3 (!(T.at_ 0).null) + (B3 (F0 T) + T.U.length)):Nat):Int))),cX] P' ((if (decide (v ≥ 12)) = true then (if (T.at_ 0).null = true then uv 0 else uv ((E1 (T.at_ 0)).length + 1) ++ (E1 (T.at_ 0))) else (if (T.at_ 0).null = true then be 2 (-1) else be 2 (E1 (T.at_ 0)).length ++ (E1 (T.at_ 0)))) ++ ([]:Bs)) _ _:=⟨_,fun _ _ h=>h,ky⟩
    clear kw kx ky
    have tf:=te.cast (t:=(if (T.at_ 0).null = true then uv 0 else uv ((E1 (T.at_ 0)).length + 1) ++ (E1 (T.at_ 0))) ++ ([]:Bs)) (by rw [if_pos (by exact bE)])
    refine A4 (wp_seq (E4 [ab,ba,ae,ac,(60,.v (.int .u32 (((B3 (!(T.at_ 0).null) + (B3 (F0 T) + T.U.length)):Nat):Int))),cX] tf fun _ tg=>?_))
    refine A4 (wp_seq (wp_seq (E4 [ab,ba,ae,ac,(60,.v (.int .u32 (((B3 (!(T.at_ 0).null) + (B3 (F0 T) + T.U.length)):Nat):Int))),cX,(445,.v (.bool (decide (v ≥ 12))))] tg fun _ kB=>A4 ?_)))
    refine I7 kB.env_ (b:=decide (v ≥ 12)) kz (bE) ?_
    refine wp_seq (E4 [ab,ba,ae,ac,(60,.v (.int .u32 (((B3 (!(T.at_ 0).null) + (B3 (F0 T) + T.U.length)):Nat):Int))),cX,(446,.v (.bool false))] kB fun _ kC=>A4 ?_)
    refine E6 kC.env_ (b:=false) kz (rfl) ?_
    refine ML (d:=448) (fun ir=>[ab,ba,ae,ac,(60,.v (.int .u32 (((B3 (!(T.at_ 0).null) + (B3 (F0 T) + T.U.length)):Nat):Int))),cX,(63,.v (.pointer ir))]) kC (Np (T.at_ 0).null (E1 (T.at_ 0)) e66_0 _) (fun _=>(MvF.text _ _).and (MvF.is _)) Tryz.call70 fun ir wr _ _ fD th=>?_
    refine A4 (wp_seq ?_)
    let kD:Ob:=⟨bv,0,[aL,.pointer ir,aT,az,aI,aj,aU,aY,bf,bk,bo,bq,bA,bL,b8,aj],true⟩
    refine J9 [kD,gZ] 0 [ab,ba,ae,ac,(60,.v (.int .u32 (((B3 (!(T.at_ 0).null) + (B3 (F0 T) + T.U.length)):Nat):Int))),cX] th fun _ _ tj=>?_
    refine A4 (wp_seq (D7 [0,1] kz (B2 (Dp (d:=456) tj Ds Tryz.call55 fun _ tm=>?_))))
    refine H7 [1] [] [ab,ba,ae,ac,(60,.v (.int .u32 (((B3 (!(T.at_ 0).null) + (B3 (F0 T) + T.U.length)):Nat):Int))),(64,.v (.nilIface))] tm fun _ tp=>B5 ?_
    refine A4 (wp_seq (E4 [ab,ba,ae,ac,(60,.v (.int .u32 (((B3 (!(T.at_ 0).null) + (B3 (F0 T) + T.U.length)):Nat):Int))),(64,.v (.nilIface)),(458,.v (.bool false))] tp fun _ kE=>A4 ?_))
    refine E6 kE.env_ (b:=false) kz (rfl) ?_
    refine wp_skip (F2 (F2 (A4 (E4 [ab,ba,ae,ac,(60,.v (.int .u32 (IntKind.u32.wrap ((((B3 (!(T.at_ 0).null) + (B3 (F0 T) + T.U.length)):Nat):Int) - 1))))] kE fun _ tq=>?_))))
    refine A4 ?_
    have tv:=RS.unnest (tb:=[kD]) (so:=cO) tq (fun w F h_=>(kA _ _ (fD _ _ h_).1).2) hb_b823 kz
    have d_:IntKind.u32.wrap ((((B3 (!(T.at_ 0).null) + (B3 (F0 T) + T.U.length)):Nat):Int) - 1) = (((B3 (F0 T) + T.U.length):Nat):Int):=CD (by rw [T4 ef]) (by have t0_:=T3 (!(T.at_ 0).null); have t1_:=T3 (F0 T); have hu_:=e66_U.2.1; omega)
    have tw:=(tv.envEq (env':=[ab,ag,ae,ac,(60,.v (.int .u32 (((B3 (F0 T) + T.U.length):Nat):Int)))]) (by first | rfl | (rw [d_]; rfl))).pk (env':=[ab,ag,ae,ac,(60,.v (.int .u32 (((B3 (F0 T) + T.U.length):Nat):Int)))])
    exact ⟨(B3 (F0 T) + T.U.length),by rw [T4 ef]; omega,gW (Gy ir (bs (E1 (T.at_ 0)))) _ _ _ (fun w F h_=>⟨(gX _ _ (kv _ _ (kA _ _ (fD _ _ h_).1).1).1).1,⟨⟨(fD _ _ h_).2.1,by show ByteArray.size (bs _) ≤ 1000000; rw [Eo]; exact Nat.le_trans e66_0 (by decide)⟩,⟨(fun _=>⟨rfl,(fD _ _ h_).2.2⟩),(fun e2_=>by rw [if_pos (by exact bE),ef] at e2_; cases e2_)⟩⟩⟩) tw⟩
   ·
    have tx:=sT.cast (t:=uv 1 ++ (uv ((L7 v (T.at_ 2))).length ++ ((L7 v (T.at_ 2)) ++ di))) (by rw [gT,Et eg]; simp only [List.append_assoc])
    refine wp_seq (wp_seq (E4 [ab,ag,ae,ac,(60,.v (.int .u32 (((B3 (F0 T) + T.U.length):Nat):Int))),(426,.v (.bool (decide ((((B3 (F0 T) + T.U.length):Nat):Int) > 0))))] tx fun _ kF=>A4 ?_))
    refine I7 kF.env_ (b:=decide ((((B3 (F0 T) + T.U.length):Nat):Int) > 0)) kz (decide_eq_true (by rw [T4 eg]; omega)) ?_
    refine wp_skip (A4 (wp_seq (wp_block (wp_seq ?_))))
    let fE:Nat × SV:=(61,.v (.int .u32 1))
    refine M3 (d:=429) [ab,ag,ae,ac,(60,.v (.int .u32 (((B3 (F0 T) + T.U.length):Nat):Int))),fE] kF ((show O3 _ _ _ (uv ((L7 v (T.at_ 2))).length ++ ((L7 v (T.at_ 2)) ++ di)) (.int .u32 1) from @X3 1 (by decide) (uv ((L7 v (T.at_ 2))).length ++ ((L7 v (T.at_ 2)) ++ di)))) Tryz.call64 fun _ _ tz=>?_
    refine A4 (wp_seq (E4 [ab,ag,ae,ac,(60,.v (.int .u32 (((B3 (F0 T) + T.U.length):Nat):Int))),fE,(430,.v (.int .u32 1))] tz fun _ tA=>?_))
    refine A4 (wp_block (wp_seq (E4 [ab,ag,ae,ac,(60,.v (.int .u32 (((B3 (F0 T) + T.U.length):Nat):Int))),fE,(430,.v (.int .u32 1)),(439,.v (.bool false))] tA fun _ kG=>A4 ?_)))
    refine E6 kG.env_ (b:=false) kz (rfl) ?_
    refine wp_seq (E4 [ab,ag,ae,ac,(60,.v (.int .u32 (((B3 (F0 T) + T.U.length):Nat):Int))),fE,(460,.v (.bool true))] kG fun _ kH=>A4 ?_)
    refine I7 kH.env_ (b:=true) kz (rfl) ?_
    refine wp_seq (D7 [0,1,2,3,4,5] kz ?_)
    refine B2 (Bk (d:=462) kH (X3 (((L7 v (T.at_ 2))).length) (by unfold L7; simp only [List.length_append,be_length]; have h_:=JH (b:=decide (v ≥ 12)) e66_2V (W7 (BI e66r 2)); omega) ((L7 v (T.at_ 2)) ++ di)) Tryz.call64 fun _ _ tB=>?_)
    refine H7 [1] [2,3,4,5] [ab,ag,ae,ac,(60,.v (.int .u32 (((B3 (F0 T) + T.U.length):Nat):Int))),(463,.v (.int .i64 (IntKind.i64.wrap ((((L7 v (T.at_ 2))).length:Nat):Int))))] tB fun _ tC=>?_
    refine B2 (EX (d:=464) (q:=(IntKind.i64.wrap ((((L7 v (T.at_ 2))).length:Nat):Int))) (X:=(L7 v (T.at_ 2))) (rest:=di) tC (by have h_:((L7 v (T.at_ 2))).length < 4294967296:=(by unfold L7; simp only [List.length_append,be_length]; have h_:=JH (b:=decide (v ≥ 12)) e66_2V (W7 (BI e66r 2)); omega); first | exact wrap_i64 (by omega) (by omega) | rfl) (V5 _ _) Tryz.call66 fun lj vE _ _ hC tD=>?_)
    refine H7 [3] [4,5] [ab,ag,ae,ac,(60,.v (.int .u32 (((B3 (F0 T) + T.U.length):Nat):Int))),(465,.v (.agg #[.slice lj (((L7 v (T.at_ 2))).length) (((L7 v (T.at_ 2))).length),bd]))] tD fun _ tE=>?_
    refine B2 (BN (d:=65) [av,bd] tE fun lm _ _ hb_b866 tF=>?_)
    let cY:Ob:=⟨bv,0,[aL,.pointer aN.A,aT,az,aI,aj,aU,aY,bf,bk,bo,bq,bA,bL,b8,aj],true⟩
    have tG:=(tF.tbEq (tb':=[cY,⟨lm,0,[av,bd],true⟩]) rfl).pk (env':=[ab,ag,ae,ac,(60,.v (.int .u32 (((B3 (F0 T) + T.U.length):Nat):Int))),(465,.v (.agg #[.slice lj (((L7 v (T.at_ 2))).length) (((L7 v (T.at_ 2))).length),bd])),(65,.p 2 0)])
    refine B2 (V4 [cY,⟨lm,0,[.slice lj (((L7 v (T.at_ 2))).length) (((L7 v (T.at_ 2))).length),bd],true⟩] 1 tG fun _ tH=>?_)
    refine B5 ?_
    have kI:=tH.pk (env':=[ab,ag,ae,ac,(60,.v (.int .u32 (((B3 (F0 T) + T.U.length):Nat):Int))),(65,.p 2 0)])
    obtain ⟨tI,tJ,tK,kJ⟩:=RS.nest (tb:=[cY]) (si:=(L7 v (T.at_ 2))) kI (fun w F h_=>(hC _ _ h_).2)
    let cZ:Ob:=⟨bz,0,[.slice tI tJ tK,bd],true⟩
    let bM:Nat × SV:=(65,.p 0 0)
    have kK:=((kJ.tbEq (tb':=[cY,cZ]) rfl).envEq (env':=[ab,ba,ae,ac,(60,.v (.int .u32 (((B3 (F0 T) + T.U.length):Nat):Int))),bM]) kz).cast (t:=(L7 v (T.at_ 2)) ++ ([]:Bs)) (List.append_nil _).symm
    obtain ⟨ws,hJ,tL⟩:∃ P',(∀ w F,P' w F → (vE w F ∧ RdS w F tI tJ tK di)) ∧ RS w (fun b o=>b = bv ∧ o < 16) F 492 lm [cY,cZ] [ab,ba,ae,ac,(60,.v (.int .u32 (((B3 (F0 T) + T.U.length):Nat):Int))),bM] P' ((L7 v (T.at_ 2)) ++ ([]:Bs)) _ _:=⟨_,fun _ _ h=>h,kK⟩
    clear kI kJ kK
    refine A4 ?_
    have tM:=e66_2
    have e879r:=(BI e66r 2)
    unfold Gu at tM
    obtain ⟨e879_0,e879_1,e879_U,_⟩:=tM
    obtain ⟨vF,kL⟩:∃ R,R = (if (decide (v ≥ 12)) = true then (uv (T.at_ 2).U.length) ++ (I1 (T.at_ 2).U) else []) ++ ([]:Bs):=⟨_,rfl⟩
    obtain ⟨vG,kM⟩:∃ R,R = (be 8 (((T.at_ 2).at_ 1).N)) ++ vF:=⟨_,rfl⟩
    obtain ⟨vH,kN⟩:∃ R,R = (be 4 ((IntKind.i32.wrap ((T.at_ 2).at_ 0).N))) ++ vG:=⟨_,rfl⟩
    have tN:=tL.cast (t:=vH) (by rw [kN,kM,kL]; unfold L7; simp only [List.append_assoc])
    refine wp_seq (E4 [ab,ba,ae,ac,(60,.v (.int .u32 (((B3 (F0 T) + T.U.length):Nat):Int))),bM,(66,.p 1 3)] tN fun _ tO=>?_)
    refine A4 (wp_seq (D7 [0,1] kz ?_))
    refine H7 [0] [1] [ab,ba,ae,ac,(60,.v (.int .u32 (((B3 (F0 T) + T.U.length):Nat):Int))),bM,(66,.p 1 3),(469,.p 1 3)] tO fun _ tP=>?_
    refine B2 (Jr (d:=470) (vs:=[.pointer (some ⟨bv,3,none⟩)]) tP Tryz.call73 Tryz.func73 rfl Tryz.ntmps73 (fun _ tQ=>?_))
    have tR:=(tQ.recast 0 (.v (.pointer (some ⟨bv,3,none⟩))) (.p 1 3) rfl rfl (Nat.le_of_ble_eq_true (n:=2) rfl)).pk (env':=[(0,.p 1 3)])
    refine wp_seq (J9 [cY,cZ] 0 [(0,.p 1 3)] tR fun _ _ tS=>?_)
    refine A4 (J9 [cY,cZ] 0 [] tS fun _ _ tT=>?_)
    refine Js (v:=.tuple #[]) tT (fun _ tU=>?_) (⟨rfl,rfl,⟨rfl,rfl,⟨rfl,rfl,trivial⟩⟩⟩)
    refine B5 ?_
    have tV:=tU.pk (env':=[ab,ba,ae,ac,(60,.v (.int .u32 (((B3 (F0 T) + T.U.length):Nat):Int))),bM,(66,.p 1 3)])
    refine A4 (wp_seq ?_)
    let dy:Nat × SV:=(67,.p 1 3)
    refine E4 [ab,ba,ae,ac,(60,.v (.int .u32 (((B3 (F0 T) + T.U.length):Nat):Int))),bM,dy] tV fun _ tW=>?_
    refine A4 (wp_seq (wp_seq ?_))
    have tX:=tW.cast kN
    refine M3 (d:=472) [ab,ba,ae,ac,(60,.v (.int .u32 (((B3 (F0 T) + T.U.length):Nat):Int))),bM,dy,(68,.v (.int .i32 (IntKind.i32.wrap ((T.at_ 2).at_ 0).N)))] tX (T7 _ _) Tryz.call50 fun _ _ tY=>?_
    refine A4 ?_
    let hK:Value:=.int .i32 (IntKind.i32.wrap ((T.at_ 2).at_ 0).N)
    refine J9 [⟨bv,0,[aL,.pointer aN.A,aT,hK,aI,aj,aU,aY,bf,bk,bo,bq,bA,bL,b8,aj],true⟩,cZ] 0 [ab,ba,ae,ac,(60,.v (.int .u32 (((B3 (F0 T) + T.U.length):Nat):Int))),bM,dy] tY fun _ _ tZ=>?_
    refine A4 (wp_seq (wp_seq ?_))
    have t6:=tZ.cast kM
    refine M3 (d:=477) [ab,ba,ae,ac,(60,.v (.int .u32 (((B3 (F0 T) + T.U.length):Nat):Int))),bM,dy,(69,.v (.int .i64 (IntKind.i64.wrap ((T.at_ 2).at_ 1).N)))] t6 (ES _ _) Tryz.call63 fun _ _ t7=>?_
    refine A4 ?_
    let kO:Value:=.int .i64 (IntKind.i64.wrap ((T.at_ 2).at_ 1).N)
    refine J9 [⟨bv,0,[aL,.pointer aN.A,aT,hK,kO,aj,aU,aY,bf,bk,bo,bq,bA,bL,b8,aj],true⟩,cZ] 0 [ab,ba,ae,ac,(60,.v (.int .u32 (((B3 (F0 T) + T.U.length):Nat):Int))),bM,dy] t7 fun _ _ t8=>?_
    refine A4 (wp_seq (wp_seq (E4 [ab,ba,ae,ac,(60,.v (.int .u32 (((B3 (F0 T) + T.U.length):Nat):Int))),bM,dy,(482,.v (.bool (decide (v ≥ 12))))] t8 fun _ kP=>A4 ?_)))
    refine I7 kP.env_ (b:=decide (v ≥ 12)) kz (bE) ?_
    have ua:=kP.cast kL
    have ub:=ua.cast (t:=((uv (T.at_ 2).U.length) ++ (I1 (T.at_ 2).U)) ++ ([]:Bs)) (by rw [if_pos (bE)])
    refine D7 [0,1,2,3,4] kz ?_
    refine H7 [0] [1,2,3,4] [ab,ba,ae,ac,(60,.v (.int .u32 (((B3 (F0 T) + T.U.length):Nat):Int))),bM,(483,.p 1 3)] ub fun _ uc=>?_
    refine B2 (EJ (d:=484) uc (GQ (T.at_ 2).U e879_U (W7 e879r) _) (fun _=>MvF.tags _ _) Tryz.call67 fun ln wt _ _ fF ud=>?_)
    refine H7 [2,3] [4] [ab,ba,ae,ac,(60,.v (.int .u32 (((B3 (F0 T) + T.U.length):Nat):Int))),bM,(484,.v (.agg #[.map ln])),(486,.p 1 5)] ud fun _ ue=>?_
    let kQ:Ob:=⟨bv,0,[aL,.pointer aN.A,aT,hK,kO,.map ln,aU,aY,bf,bk,bo,bq,bA,bL,b8,aj],true⟩
    refine B2 (V4 [kQ,cZ] 0 ue fun _ uf=>?_)
    refine B5 ?_
    have ug:=uf.pk (env':=[ab,ba,ae,ac,(60,.v (.int .u32 (((B3 (F0 T) + T.U.length):Nat):Int))),bM])
    refine A4 (wp_seq (D7 [0,1] kz (B2 (Dp (d:=487) ug Ds Tryz.call55 fun _ uh=>?_))))
    refine H7 [1] [] [ab,ba,ae,ac,(60,.v (.int .u32 (((B3 (F0 T) + T.U.length):Nat):Int))),(70,.v (.nilIface))] uh fun _ ui=>B5 ?_
    refine A4 (wp_seq (E4 [ab,ba,ae,ac,(60,.v (.int .u32 (((B3 (F0 T) + T.U.length):Nat):Int))),(70,.v (.nilIface)),(489,.v (.bool false))] ui fun _ kR=>A4 ?_))
    refine E6 kR.env_ (b:=false) kz (rfl) ?_
    refine wp_skip (F2 (F2 (A4 (E4 [ab,ba,ae,ac,(60,.v (.int .u32 (IntKind.u32.wrap ((((B3 (F0 T) + T.U.length):Nat):Int) - 1))))] kR fun _ uj=>?_))))
    refine A4 ?_
    have uk:=RS.unnest (tb:=[kQ]) (so:=di) uj (fun w F h_=>(hJ _ _ (fF _ _ h_).1).2) hb_b866 kz
    have d_:IntKind.u32.wrap ((((B3 (F0 T) + T.U.length):Nat):Int) - 1) = ((T.U.length:Nat):Int):=CD (by rw [T4 eg]) (by have t0_:=T3 (!(T.at_ 0).null); have t1_:=T3 (F0 T); have hu_:=e66_U.2.1; omega)
    have ul:=(uk.envEq (env':=[ab,ag,ae,ac,(60,.v (.int .u32 ((T.U.length:Nat):Int)))]) (by first | rfl | (rw [d_]; rfl))).pk (env':=[ab,ag,ae,ac,(60,.v (.int .u32 ((T.U.length:Nat):Int)))])
    exact ⟨T.U.length,by rw [T4 eg]; omega,gV aN (BM ln (T.at_ 2).U [K4 (IntKind.i32.wrap ((T.at_ 2).at_ 0).N),K4 (IntKind.i64.wrap ((T.at_ 2).at_ 1).N)]) _ _ _ (fun w F h_=>⟨(kp _ _ (hC _ _ (hJ _ _ (fF _ _ h_).1).1).1).1,(kp _ _ (hC _ _ (hJ _ _ (fF _ _ h_).1).1).1).2,⟨⟨(trivial),(trivial),(fF _ _ h_).2,e879_U.2.1,e879_U.2.2,trivial⟩,⟨(fun _=>⟨(rfl),(rfl),⟨(fun _=>rfl),(fun e_=>by rw [bE] at e_; cases e_)⟩,trivial⟩),(fun e2_=>by rw [if_pos (by exact bE),eg] at e2_; cases e2_)⟩⟩⟩) ul⟩
   refine wp_seq (wp_seq (X0 [ab,ag,ae,ac,(60,.v (.int .u32 ((T.U.length - bR:Nat):Int))),(426,.v (.bool (decide (((T.U.length - bR:Nat):Int) > 0))))] sV fun _ fG=>A4 ?_))
   refine D4 fG.env_ (b:=decide (((T.U.length - bR:Nat):Int) > 0)) kz (fun hZ=>?_) (fun hZ=>?_)
   ·
    have hlt_:bR < T.U.length:=by have:=of_decide_eq_true hZ; omega
    obtain ⟨⟨k_,x_⟩,hu_⟩:∃ y,T.U[bR]? = some y:=⟨_,List.getElem?_eq_getElem hlt_⟩
    have hk_:=(W7 e66r) _ (List.mem_of_getElem? hu_)
    have hx_:=e66_U.2.2 _ (List.mem_of_getElem? hu_)
    have hn_:=e66_K _ (List.mem_of_getElem? hu_)
    dsimp only at hk_ hx_ hn_
    obtain ⟨kk_,rfl⟩:∃ kk:Nat,k_ = (kk:Int):=⟨k_.toNat,(Int.toNat_of_nonneg hk_.1).symm⟩
    refine wp_skip (A4 (wp_seq (wp_block (wp_seq ?_))))
    have um:=fG.cast (t:=uv kk_ ++ (uv x_.length ++ (x_ ++ (I1 (T.U.drop (bR + 1)) ++ ([]:Bs))))) (GL hu_ ([]:Bs))
    refine D7 [0,1] kz ?_
    refine B2 (JC (d:=429) (vs:=[]) (Qv:=fun v _ _=>v = .int .u32 ((kk_:Nat):Int)) um (T6 kk_ (by omega) _) rfl Tryz.call64 fun v_ _ _ hv_ un=>?_)
    subst hv_
    let dA:Nat × SV:=(9,.v (.bool (decide (v ≥ 12))))
    let da:Nat × SV:=(61,.v (.int .u32 ((kk_:Nat):Int)))
    refine GR [1] [] [ab,ag,dA,ac,(60,.v (.int .u32 ((T.U.length - bR:Nat):Int))),da] un fun _ uo=>B5 (A4 ?_)
    let kS:Nat × SV:=(430,.v (.int .u32 ((kk_:Nat):Int)))
    refine wp_seq (X0 [ab,ag,dA,ac,(60,.v (.int .u32 ((T.U.length - bR:Nat):Int))),da,kS] uo fun _ uq=>A4 (wp_block ?_))
    refine wp_seq (X0 [ab,ag,dA,ac,(60,.v (.int .u32 ((T.U.length - bR:Nat):Int))),da,kS,(439,.v (.bool (((kk_:Nat):Int) == 0)))] uq fun _ kT=>A4 ?_)
    refine E6 kT.env_ (b:=((kk_:Nat):Int) == 0) kz (by simp only [beq_eq_false_iff_ne,ne_eq]; omega) ?_
    refine wp_seq (X0 [ab,ag,dA,ac,(60,.v (.int .u32 ((T.U.length - bR:Nat):Int))),da,(460,.v (.bool (((kk_:Nat):Int) == 1)))] kT fun _ ia=>A4 ?_)
    refine E6 ia.env_ (b:=((kk_:Nat):Int) == 1) kz (by simp only [beq_eq_false_iff_ne,ne_eq]; omega) ?_
    have hE_:=(((ia.env_.recast 7 (.p 0 0) (.v (.pointer (some ⟨bz,0,none⟩))) rfl rfl trivial).recast 10 (.p 1 0) (.v (.pointer (some ⟨bv,0,none⟩))) rfl rfl trivial).pick (ks:=[2,7,9,10,60,61]) (env':=[ab,dl,dA,dp,(60,.v (.int .u32 ((T.U.length - bR:Nat):Int))),da]) kz).cutTb 0 kz
    refine DS (fun _=>True) 8 kz ?_
    let kU:Nat × SV:=(433,.v (.pointer (some ⟨bv,15,none⟩)))
    let kV:Nat × SV:=(434,.v (.int .u32 ((kk_:Nat):Int)))
    refine C7 [0,1,2,3] [ab,dl,dA,dp,(60,.v (.int .u32 ((T.U.length - bR:Nat):Int))),da,kU,kV] 4 (B6 (B6 (A5 (A5 (B6 (A5 (A5 B8))))))) (fun w_ _=>EZ w_) trivial hE_ fun _ hE1_=>?_
    refine C2 (i:=4) kz (EY (d:=435) (vs:=[]) (Qv:=fun v _ _=>v = .int .u32 ((x_.length:Nat):Int)) ia.drew hE1_ (T6 x_.length hx_ _) rfl Tryz.call64 (fun v_ _ _ hv_ ur hE2_=>⟨fun _=>trivial,?_⟩) kz)
    subst hv_
    refine C7 [5] [ab,dl,(9,.v (.bool (decide (v ≥ 12)))),dp,(60,.v (.int .u32 ((T.U.length - bR:Nat):Int))),da,kU,kV,(436,.v (.int .i64 (IntKind.i64.wrap ((x_.length:Nat):Int))))] 2 (B6 (B6 (A5 (A5 (B6 (A5 (A5 B8))))))) (fun w_ _=>EZ w_) trivial hE2_ fun _ hE3_=>?_
    refine C2 (i:=6) kz (EY (d:=437) (vs':=[.int .i64 (IntKind.i64.wrap ((x_.length:Nat):Int))]) (X:=x_) (vs:=[.int .i64 ((x_.length:Nat):Int)]) (Qv:=fun v w' F'=>∃ A2,v = .slice A2 x_.length x_.length ∧ Octs w' F' A2 x_.length x_) ur hE3_ (V5 x_ _) (by rw [wrap_i64 (by omega) (by omega)]) Tryz.call66 (fun v_ _ _ hv_ ut hE4_=>⟨fun _=>trivial,?_⟩) kz)
    obtain ⟨A2_,rfl,hx2_⟩:=hv_
    refine C2 (i:=7) kz (JD (d:=438) (k:=0) (off:=15) ut hE4_ e66_U.1 hu_ hx2_ hk_ (fun r_ _ _ uu hE6_=>⟨fun _=>trivial,?_⟩) Tryz.call65 rfl rfl rfl kz)
    refine E5 kz (F2 (F2 (A4 ?_))) _
    let kW:Ob:=⟨bv,0,[.int .i16 v,.pointer aN.A,aT,.int .i32 ((bp.f 0).n),.int .i64 ((bp.f 1).n),.map bp.m,aU,aY,bf,bk,bo,bq,bA,bL,b8,.map (some r_)],true⟩
    have hE7_:EnvOk 492 (rdo bz none 0 0 :: [kW]) [ab,ag,(9,.v (.bool (decide (v ≥ 12)))),ac,(60,.v (.int .u32 ((T.U.length - bR:Nat):Int)))] _:=(((hE6_.retable (rdo bz none 0 0 :: [kW])).recast 7 (.v (.pointer (some ⟨bz,0,none⟩))) (.p 0 0) rfl rfl (Nat.le_of_ble_eq_true (n:=1) rfl)).recast 10 (.v (.pointer (some ⟨bv,0,none⟩))) (.p 1 0) rfl rfl (Nat.le_of_ble_eq_true (n:=2) rfl)).pk
    have uw:=uu.env0 hE7_
    refine X0 [ab,ag,(9,.v (.bool (decide (v ≥ 12)))),ac,(60,.v (.int .u32 (IntKind.u32.wrap (((T.U.length - bR:Nat):Int) - 1))))] uw fun _ kX=>A4 ?_
    rw [show IntKind.u32.wrap (((T.U.length - bR:Nat):Int) - 1) = ((T.U.length - (bR + 1):Nat):Int) from CD (by omega) (by have hu2_:=e66_U.2.1; omega)] at kX
    refine ⟨T.U.length - (bR + 1),by omega,?_⟩
    rw [eb]
    exact .inr (.inr (⟨aN,bp,sU,vC,some r_,bR + 1,rfl,by omega,fC,kX⟩))
   obtain rfl:bR = T.U.length:=by have:=of_decide_eq_false hZ; omega
   rw [List.take_length,List.drop_length] at fG
   obtain ⟨wv,fH,ux⟩:∃ P',(∀ w F,P' w F → (sU w F ∧ MapR w F lg T.U)) ∧ RS w (fun b o=>b = bv ∧ o < 16) F 492 bz [⟨bv,0,[aL,.pointer aN.A,aT,.int .i32 ((bp.f 0).n),.int .i64 ((bp.f 1).n),.map bp.m,aU,aY,bf,bk,bo,bq,bA,bL,b8,.map lg],true⟩] [ab,ag,ae,ac,(60,.v (.int .u32 ((T.U.length - T.U.length:Nat):Int))),(426,.v (.bool (decide (((T.U.length - T.U.length:Nat):Int) > 0))))] P' ([]:Bs) _ _:=⟨_,fun _ _ h=>h,(fG.finish e66_U.1 (W7 e66r)).cast rfl⟩
   refine wp_exit (E7 (E7 (G9 (A4 ?_))))
   exact ⟨aN,bp,lg,T.U,_,fun w F h_=>⟨(fC _ _ (fH _ _ h_).1).1,(fC _ _ (fH _ _ h_).1).2.1,(fC _ _ (fH _ _ h_).1).2.2,⟨⟨(fH _ _ h_).2,e66_U.2.1,e66_U.2.2⟩,⟨(fun _=>rfl),(fun e_=>by rw [bE] at e_; cases e_)⟩⟩⟩,ux.pk (env':=[ag])⟩
  have uy:=gS.cast (t:=[] ++ ([]:Bs)) (by rw [if_neg (by rw [bE]; decide)])
  have uz:=uy.cast (t:=([]:Bs)) rfl
  refine wp_skip (A4 ?_)
  exact ⟨(Gy none ByteArray.empty),(BM none [] [K4 (-1),K4 (-1)]),none,[],_,fun w F h_=>⟨h_,⟨⟨(fun _ h=>(by cases h)),Nat.zero_le _⟩,⟨(fun e_=>by rw [if_neg (by rw [bE]; decide)] at e_; cases e_),fun _=>⟨rfl,rfl⟩⟩⟩,⟨⟨trivial,trivial,MapR.nil _ _,Nat.zero_le _,(fun _ h=>by cases h),trivial⟩,⟨(fun e_=>by rw [if_neg (by rw [bE]; decide)] at e_; cases e_),fun _=>⟨rfl,rfl,rfl⟩⟩⟩,⟨⟨MapR.nil _ _,Nat.zero_le _,fun _ h=>by cases h⟩,⟨(fun e_=>by rw [bE] at e_; cases e_),fun _=>rfl⟩⟩⟩,uz.pk (env':=[ag])⟩
 rintro _ _ ⟨dg,dh,io,ey,ww,bj,uA⟩
 refine A4 (wp_seq (D7 [0,1] kz (B2 (Dp (d:=491) uA Ds Tryz.call55 fun _ uB=>?_))))
 refine H7 [1] [] [(6,.v (.nilIface))] uB fun _ kY=>B5 ?_
 refine A4 (wp_ret ?_)
 obtain ⟨A_,m_,c_,hW_,hr_,hE_,hP_⟩:=kY.open_
 refine C8 hE_ hW_.cells (v:=.nilIface) kz ?_
 have h_:=kY.mv.mono I8 hP_
 refine ⟨(BM io ey [dg,fJ,dh,K4 (IntKind.i32.wrap (T.at_ 3).N),K4 (IntKind.i32.wrap (T.at_ 4).N),cI,cJ,cK,cL,aO,aR,df]),rfl,Str.of hW_ 1 rfl,?_,?_,hW_.step⟩
 ·unfold Cw
  exact ⟨((bj _ _ h_).2.1.1),((lT _ _ (ez _ _ (dj _ _ (cD _ _ (cq _ _ (bW _ _ (bK _ _ (bD _ _ (bj _ _ h_).1).1).1).1).1).1).1).1).2.1),((bj _ _ h_).2.2.1.1),(trivial),(trivial),((ez _ _ (dj _ _ (cD _ _ (cq _ _ (bW _ _ (bK _ _ (bD _ _ (bj _ _ h_).1).1).1).1).1).1).1).2.1),((dj _ _ (cD _ _ (cq _ _ (bW _ _ (bK _ _ (bD _ _ (bj _ _ h_).1).1).1).1).1).1).2.1),((cD _ _ (cq _ _ (bW _ _ (bK _ _ (bD _ _ (bj _ _ h_).1).1).1).1).1).2.1),((cq _ _ (bW _ _ (bK _ _ (bD _ _ (bj _ _ h_).1).1).1).1).2.1),((bW _ _ (bK _ _ (bD _ _ (bj _ _ h_).1).1).1).2.1),((bK _ _ (bD _ _ (bj _ _ h_).1).1).2.1),((bD _ _ (bj _ _ h_).1).2.1),(bj _ _ h_).2.2.2.1.1,(bj _ _ h_).2.2.2.1.2.1,(bj _ _ h_).2.2.2.1.2.2,trivial⟩
 unfold BV
 exact ⟨((bj _ _ h_).2.1.2),((lT _ _ (ez _ _ (dj _ _ (cD _ _ (cq _ _ (bW _ _ (bK _ _ (bD _ _ (bj _ _ h_).1).1).1).1).1).1).1).1).2.2),((bj _ _ h_).2.2.1.2),(rfl),(rfl),((ez _ _ (dj _ _ (cD _ _ (cq _ _ (bW _ _ (bK _ _ (bD _ _ (bj _ _ h_).1).1).1).1).1).1).1).2.2),((dj _ _ (cD _ _ (cq _ _ (bW _ _ (bK _ _ (bD _ _ (bj _ _ h_).1).1).1).1).1).1).2.2),((cD _ _ (cq _ _ (bW _ _ (bK _ _ (bD _ _ (bj _ _ h_).1).1).1).1).1).2.2),((cq _ _ (bW _ _ (bK _ _ (bD _ _ (bj _ _ h_).1).1).1).1).2.2),((bW _ _ (bK _ _ (bD _ _ (bj _ _ h_).1).1).1).2.2),((bK _ _ (bD _ _ (bj _ _ h_).1).1).2.2),((bD _ _ (bj _ _ h_).1).2.2),(bj _ _ h_).2.2.2.2,trivial⟩
theorem JQ:V3 Cw:=by
 intro w w' F F' M d hs hM hF h
 unfold Cw at h ⊢
 obtain ⟨⟨g0,g0l⟩,g1,g2,g3,g4,g5,g6,g7,g8,⟨g9,g9l,g9e⟩,⟨aa,g10l,g10e⟩,ab,t1,t2,t3,_⟩:=h
 exact ⟨⟨fun ad hA=>by
  obtain ⟨b,o,h1,h2⟩:=g0 ad hA
  exact ⟨b,o,h1,h2.move hs hM hF⟩,g0l⟩,g1,JM _ hs hM hF g2,g3,g4,g5,g6,g7,g8,⟨g9.move hs hM hF,g9l,fun i hi=>BS _ hs hM hF (g9e i hi)⟩,⟨aa.move hs hM hF,g10l,fun i hi=>BT _ hs hM hF (g10e i hi)⟩,ab,t1.move hs hM hF,t2,t3,trivial⟩
end Go.Proofs.YtoclgihkbmaolaaGreatDoor.ME
namespace Go.Proofs.YtoclgihkbmaolaaGreatDoor.ME
open Go
open Go.RowKit
open Go.ChangeMaps (setBlock)
set_option linter.unusedVariables false
set_option linter.unusedSimpArgs false
set_option maxRecDepth 20000
abbrev I9 (fc:Nat) (cap:Value):Value:=.func (.func fc) #[] #[cap]
theorem NA {fc:Nat} {cap:Value} {m:Option Nat} {u:List (Int × Bs)} {b o:Nat} {w:World} {F M:Nat → Nat → Prop} (hcf:∀ args w,(callFunc fc args).run Tryz.prog w = .ok (.enter fc args) w) (I:World → Nat → World → Prop) (hat:AtF w F b o [.map m]) (hm:MapR w F m u) (hMF:∀ b o,F b o → ¬ M b o) (hMlt:∀ b o,M b o → b < w.heap.size)
  (hI0:∀ w7,Step w w7 C1 → I w7 0 w7) (hIs:∀ w7 j w8,I w7 j w8 → Step w7 w8 M)
  (hI1:∀ w7,Step w w7 C1 → ∀ j k x w8 Ax cx,I w7 j w8 → u[j]? = some (k,x) → (0 ≤ k ∧ k < 4294967296) → Octs w8 (fun b o=>F b o ∧ b < w7.heap.size) Ax cx x → Calls Tryz.prog fc [.int .u32 k,.slice Ax x.length cx,cap].toArray w8 (fun e w9=>e = .returned (.tuple #[]) ∧ I w7 (j + 1) w9)) (hul:u.length ≤ 1000000) :
  Calls Tryz.prog 39 [.pointer (some ⟨b,o,none⟩),I9 fc cap].toArray w (fun e w'=>e = .returned (.tuple #[]) ∧ ∃ w7,Step w w7 C1 ∧ I w7 u.length w'):=by
 refine enter (n:=53) Tryz.func39 rfl Tryz.ntmps39 kz fun a hE=>?_
 have hW:WOk w C1 w [⟨b,o,[.map m],false⟩] []:=(WOk.start w C1).start1 hat rfl rfl
 refine wp_seq (wp_seq ?_)
 refine D7 [0,1,2,3,4,5] kz ?_
 refine N1 [0,1,2,3] [4,5] [0,1,11] hW (EnvOk.ptr0 (cs:=[.map m]) (r:=false) hE) (env':=[(0,.p 0 0),(1,.v (I9 fc cap)),(11,.v (.map m))]) kz rfl fun a1 hE1=>?_
 refine B2 (HM (t:=72) (kt:=64) (et:=22) hE1 (m:=m) (d:=12) kz kz hm fun a2 hE2=>?_)
 refine N1 [5] [] [0,1,13] hW hE2 (env':=[(0,.p 0 0),(1,.v (I9 fc cap)),(13,.v (.bool (((u.length:Nat):Int) == 0)))]) kz rfl fun a3 hE3=>B5 (A4 ?_)
 refine D4 hE3 (b:=((u.length:Nat):Int) == 0) kz (fun hb=>?_) (fun hb=>?_)
 ·-- none
  have hu:u = []:=List.eq_nil_of_length_eq_zero (by have:=eq_of_beq hb; omega)
  subst hu
  refine wp_ret (D6 ?_)
  exact C8 hE3 hW.cells (v:=.tuple #[]) kz ⟨rfl,w,Step.refl _ _,hI0 w (Step.refl _ _)⟩
 have hu0:0 < u.length:=by have:=ne_of_beq_false hb; omega
 cases m with
 | none=>rw [hm.none_ rfl] at hu0; cases hu0
 | some mb =>
 obtain ⟨hFm,es,clk,hes,hperm,hborn,hnod,hcont⟩:=hm.some_ mb rfl
 have hmlt:mb < w.heap.size:=(Array.getElem?_eq_some_iff.1 hes).1
 have hesz:es.size = u.length:=MapR.size (w:=w) (F:=F) hperm
 refine wp_skip (A4 ?_)
 refine C0 [0,1,2,3,4,5,6,7] kz ?_
 refine N1 [0,1,2,3] [4,5,6,7] [0,1,17] hW hE3 (env':=[(0,.p 0 0),(1,.v (I9 fc cap)),(17,.v (.map (some mb)))]) kz rfl fun a4 hE4=>?_
 refine B2 (HM (t:=72) (kt:=64) (et:=22) hE4 (m:=some mb) (d:=18) kz kz hm fun a5 hE5=>?_)
 refine B2 (KM (e:=64) (size:=1) (bytes:=4) (j:=u.length) (t:=128) (d:=19) hW hE5 (p:=0) (q:=((u.length:Nat):Int)) kz kz rfl rfl (by omega) fun kr a6 w1 hkr hkr0 hF1 hW1 hE6=>?_)
 refine B2 (H4 hW1 hE6 (d:=4) (cs:=[.slice none 0 0]) kz fun kb a7 w2 hkb hkb0 hF2 hW2 hE7=>?_)
 refine B2 (D5 hW2 hE7 (oi:=1) (cs:=[.slice (some ⟨kr,0,none⟩) 0 u.length]) kz fun w3 hF3 hW3 hE8=>B5 (A4 ?_))
 refine wp_seq (C0 [0,1,2,3,4] kz ?_)
 refine N1 [0,1,2,3] [4] [0,1,4,23] hW3 hE8 (env':=[(0,.p 0 0),(1,.v (I9 fc cap)),(4,.p 1 0),(23,.v (.map (some mb)))]) kz rfl fun a8 hE9=>?_
 have hes3:=hW3.step.heap (fun o h=>h) hes
 refine B2 (Lb (t:=72) (kt:=64) (et:=22) (d:=24) (r:=mb) hE9 kz kz hes3 fun a9 hE10=>B5 (A4 ?_))
 have hW4:=hW3.next_nil (Step.alloc w3 (.mapIter (some mb) clk #[] clk))
 have hr4:(w3.alloc (.mapIter (some mb) clk #[] clk)).heap[w3.heap.size]? = some (.mapIter (some mb) clk #[] clk):=X8 _ _
 have hE11:=hE10.pick (ks:=[0,1,4,24]) (env':=[(0,.p 0 0),(1,.v (I9 fc cap)),(4,.p 1 0),(24,.v (.pointer (some ⟨w3.heap.size,0,none⟩)))]) kz
 have hrlt:w3.heap.size < (w3.alloc (.mapIter (some mb) clk #[] clk)).heap.size:=by rw [CQ]; omega
 have hr0:w.heap.size ≤ w3.heap.size:=hW3.step.size
 have hkbr:kb ≠ w3.heap.size:=by have:=hW3.live 1 _ rfl; show ¬ _; intro e; rw [← e] at this; exact absurd this (Nat.lt_irrefl _)
 have hkrr:kr ≠ w3.heap.size:=by have:=Q2 (hW3.own 0 _ rfl) (g:=kr) rfl; omega
 generalize hR:w3.heap.size = R at hr4 hE11 hrlt hkbr hkrr
 generalize hw4:w3.alloc (.mapIter (some mb) clk #[] clk) = w4 at hW4 hr4 hrlt
 refine wp_block ?_
 refine wp_loop_ghost (fun q a_ w_=>∃ (vis:List MapEntry) (seen:Array Nat) (K:Option Addr) (kc c0:Nat),q = (leftOf es seen).size ∧ Vis es.toList vis seen ∧ vis.length + (leftOf es seen).size ≤ es.size ∧
   EnvOk 53 [⟨b,o,[.map (some mb)],false⟩,⟨kb,0,[.slice K vis.length kc],true⟩] [(0,.p 0 0),(1,.v (I9 fc cap)),(4,.p 1 0),(24,.v (.pointer (some ⟨R,0,none⟩)))] a_ ∧
   WOk w C1 w_ [⟨b,o,[.map (some mb)],false⟩,⟨kb,0,[.slice K vis.length kc],true⟩] [⟨K,kc,64,1,vis.length,(vis.map fun e=>Be e.key).map (Value.int .u32)⟩] ∧
   w_.heap[R]? = some (.mapIter (some mb) clk seen c0) ∧ clk ≤ c0 ∧ K.map (·.block) ≠ some R) (leftOf es #[]).size
  ⟨[],#[],some ⟨kr,0,none⟩,u.length,clk,rfl,Vis.nil _,by rw [List.length_nil,Nat.zero_add]; exact Array.size_filter_le,by rw [← hw4] at *; exact hE11,hW4,hr4,Nat.le_refl _,by simpa using hkrr⟩ ?_
 rintro q a10 w5 ⟨vis,seen,K,kc,c0,rfl,hv,hvl,hE12,hW5,hr5,hc0,hKR⟩
 have hes5:=hW5.step.heap (fun o h=>h) hes
 refine C0 [0,1] kz ?_
 refine B2 (Lc hE12 (d:=25) (r:=R) kz hr5 hes5 hborn hc0 (fun h0 a11 hE13=>?_) (fun e he w6 hw6 a11 hE13=>?_))
 ·-- behind it
  refine N1 [1] [] [0,1,4,26] hW5 hE13 (env':=[(0,.p 0 0),(1,.v (I9 fc cap)),(4,.p 1 0),(26,.v (.bool false))]) kz rfl fun a12 hE14=>B5 (A4 (wp_seq ?_))
  refine D4 hE14 (b:=false) kz (fun hb=>by cases hb) (fun _=>?_)
  refine wp_exit (E7 (E7 (G9 (A4 ?_))))
  have hpe:=hv.all h0 hnod
  have hvu:vis.length = u.length:=by rw [hpe.length_eq,Array.length_toList,hesz]
  have hkp:(vis.map fun e=>Be e.key).Perm (u.map Prod.fst):=by
   have h1:=(hpe.map fun e=>Be e.key)
   have h2:=hperm.map Be
   rw [List.map_map,List.map_map] at h2
   exact h1.trans h2
  have hkl:(vis.map fun e=>Be e.key).length = vis.length:=by simp
  generalize (vis.map fun e=>Be e.key) = ks at hkp hkl hW5
  have hown4:w5.ownsRow 0 64 1 (.slice K vis.length kc) vis.length (ks.map (Value.int .u32)):=hW5.own 0 _ rfl
  obtain ⟨g,rfl⟩:=P8 hown4 (by omega)
  have hown5:w5.ownsRow 0 64 1 (.slice (some ⟨g,0,none⟩) vis.length kc) vis.length (ks.map (Value.int .u32)):=hown4
  have hg0:w.heap.size ≤ g:=by
   rcases hW5.ownM 0 _ rfl g rfl with h | h
   ·exact h
   exact (h 0).elim
  refine C0 [0,1,2,3] kz ?_
  refine N1 [0,1] [2,3] [0,1,4,34] hW5 hE14 (env':=[(0,.p 0 0),(1,.v (I9 fc cap)),(4,.p 1 0),(34,.v (.iface 128 (.slice (some ⟨g,0,none⟩) vis.length kc)))]) kz rfl fun a13 hE15=>?_
  refine B2 (Cq hE15 (v:=.func (.func 79) #[] #[.pointer (some ⟨kb,0,none⟩)]) (d:=35) kz fun a14 hE16=>?_)
  have hS:=Tryz.sortKeys g kc kb ks.toArray (by simp; omega) (by simp; omega) w5 (by simp only [List.size_toArray,hkl]; exact hW5.cells 1 _ rfl 0 _ rfl) (fun e=>hW5.rtb 0 _ rfl g rfl 1 _ rfl e) (HX hkl hown5) (Q2 (hW5.own 0 _ rfl) (g:=g) rfl) (hW5.live 1 _ rfl)
  rw [List.size_toArray,hkl] at hS
  refine B2 (D3 hE16 (f:=78) (vs:=[.iface 128 (.slice (some ⟨g,0,none⟩) vis.length kc),.func (.func 79) #[] #[.pointer (some ⟨kb,0,none⟩)]]) (d:=36) kz Tryz.call78 hS ?_)
  rintro e_ w7 ⟨rfl,d',nd,os,hd1,hd2,hd3,rfl⟩
  refine ⟨_,rfl,fun a15 hE17=>B5 (A4 ?_)⟩
  have hus:d'.toList = u.map Prod.fst:=Lf hd2 (by rw [hd1]; exact hd3) hkp (List.pairwise_map.2 hm.sorted)
  obtain ⟨hst7,hown7⟩:=Le (n:=nd) (os:=os) hkl hown5 (by rw [hd1,hkl])
  rw [hus] at hown7
  generalize Sort.grow (Sort.putRow (Value.int .u32) (Sort.ahead w5 nd) g 0 d') os = w7 at hst7 hown7
  have hW7:WOk w C1 w7 [⟨b,o,[.map (some mb)],false⟩,⟨kb,0,[.slice (some ⟨g,0,none⟩) vis.length kc],true⟩] [⟨some ⟨g,0,none⟩,kc,64,1,vis.length,(u.map Prod.fst).map (Value.int .u32)⟩] :=
   hW5.grow (k:=0) (r':=⟨some ⟨g,0,none⟩,kc,64,1,vis.length,(u.map Prod.fst).map (Value.int .u32)⟩) rfl (hst7.mono fun b' _ _ hb'=>by rw [hb']; rfl) hown7 (fun g' h=>.inl h)
  refine C0 [0,1,2] kz ?_
  refine N1 [0,1,2] [] [0,1,37,38,39] hW7 hE17 (env':=[(0,.p 0 0),(1,.v (I9 fc cap)),(37,.v (.slice (some ⟨g,0,none⟩) vis.length kc)),(38,.v (.int .i64 ((vis.length:Nat):Int))),(39,.v (.int .i64 0))]) kz rfl fun a16 hE18=>B5 (A4 ?_)
  have hE19:=EnvOk.cutTb 1 hE18 kz
  have hat7:=hat.move hW7.step A7 E8
  have hm7:=hm.move hW7.step A7 E8
  have hg7:g < w7.heap.size:=Q2 (hW7.own 0 _ rfl) (g:=g) rfl
  have hkeys:=HX (by simpa using hvu.symm) hown7
  rw [hvu] at hE19
  refine wp_block ?_
  refine wp_loop_ghost (fun q a_ w_=>∃ (j:Nat),q = u.length - j ∧ j ≤ u.length ∧ EnvOk 53 [⟨b,o,[.map (some mb)],false⟩] [(0,.p 0 0),(1,.v (I9 fc cap)),(37,.v (.slice (some ⟨g,0,none⟩) u.length kc)),(38,.v (.int .i64 ((u.length:Nat):Int))),(39,.v (.int .i64 ((j:Nat):Int)))] a_ ∧
   I w7 j w_) u.length
   ⟨0,by omega,by omega,hE19,hI0 w7 hW7.step⟩ ?_
  rintro q a17 w8 ⟨j,rfl,hj,hE20,hD⟩
  have hS8:=hIs w7 j w8 hD
  have hat8:=hat7.move hS8 (fun b o hf _=>hMF b o hf) E8
  have hm8:MapR w8 (fun b' o'=>F b' o' ∧ b' < w7.heap.size) (some mb) u:=hm7.move hS8 (fun b o hf _=>hMF b o hf) (fun b' o' hf hl=>⟨hf,hl⟩)
  have hW8:WOk w8 C1 w8 [⟨b,o,[.map (some mb)],false⟩] []:=(WOk.start w8 C1).start1 hat8 rfl rfl
  refine C0 [0] kz (N1 [0] [] [0,1,37,38,39,40] hW8 hE20 (env':=[(0,.p 0 0),(1,.v (I9 fc cap)),(37,.v (.slice (some ⟨g,0,none⟩) u.length kc)),(38,.v (.int .i64 ((u.length:Nat):Int))),(39,.v (.int .i64 ((j:Nat):Int))),(40,.v (.bool (decide (((j:Nat):Int) < ((u.length:Nat):Int)))))]) kz rfl fun a18 hE21=>B5 (A4 (wp_seq ?_)))
  refine D4 hE21 (b:=decide (((j:Nat):Int) < ((u.length:Nat):Int))) kz (fun hc=>?_) (fun hc=>?_)
  ·have hlt:j < u.length:=by have:=of_decide_eq_true hc; omega
   refine wp_skip (A4 (wp_seq (wp_block ?_)))
   obtain ⟨⟨k,x⟩,hu⟩:∃ y,u[j]? = some y:=⟨_,List.getElem?_eq_getElem hlt⟩
   have hmem:=List.mem_of_getElem? hu
   have hkr:=hm.range _ hmem
   have hcell:At w8 g (0 + j * 1) [.int .u32 k]:=by
    intro i v hi
    have hi0:i = 0:=by
     have:=(List.getElem?_eq_some_iff.1 hi).1
     simp at this; omega
    subst hi0
    simp only [List.getElem?_cons_zero,Option.some.injEq] at hi
    subst hi
    refine hS8.cell (fun hbm=>?_) ?_
    ·have:=hMlt _ _ hbm; omega
    have h1:=(hkeys j (by simpa using hlt)).1
    have h2:(u.map Prod.fst).toArray[j]! = k:=by
     rw [getElem!_pos _ j (by simpa using hlt)]
     have:(u.map Prod.fst)[j]? = some k:=by rw [List.getElem?_map,hu]; rfl
     simpa using (List.getElem?_eq_some_iff.1 this).2
    rw [h2] at h1
    simpa using h1
   refine C0 [0,1,2] kz ?_
   refine B2 (G6 hE21 (t:=128) (e:=64) (size:=1) (bytes:=4) (d:=41) (b:=g) (o:=0) (m:=u.length) (j:=j) kz kz rfl rfl hlt fun a19 hE22=>?_)
   refine B2 (K3 hE22 (t:=64) (d:=42) (cs:=[.int .u32 k]) (v:=.int .u32 k) kz kz hcell fun a20 hE23=>?_)
   refine N1 [2] [] [0,1,37,38,39,7] hW8 hE23 (env':=[(0,.p 0 0),(1,.v (I9 fc cap)),(37,.v (.slice (some ⟨g,0,none⟩) u.length kc)),(38,.v (.int .i64 ((u.length:Nat):Int))),(39,.v (.int .i64 ((j:Nat):Int))),(7,.v (.int .u32 k))]) kz rfl fun a21 hE24=>B5 (A4 ?_)
   refine D7 [0,1,2,3,4,5,6,7,8] kz ?_
   refine N1 [0,1,2,3,4,5,6] [7,8] [0,1,37,38,39,43,44,48,49] hW8 hE24 (env':=[(0,.p 0 0),(1,.v (I9 fc cap)),(37,.v (.slice (some ⟨g,0,none⟩) u.length kc)),(38,.v (.int .i64 ((u.length:Nat):Int))),(39,.v (.int .i64 ((j:Nat):Int))),(43,.v (I9 fc cap)),(44,.v (.int .u32 k)),(48,.v (.map (some mb))),(49,.v (.int .u32 k))]) kz rfl fun a22 hE25=>?_
   refine B2 (KX hE25 (t:=72) (kt:=64) (et:=22) (m:=some mb) (k:=k) (s:=x) (d:=50) kz kz kz hm8 hmem fun a23 Ax cx hox hE26=>?_)
   refine B2 (D3 hE26 (f:=fc) (vs:=[.int .u32 k,.slice Ax x.length cx,cap]) (d:=51) kz hcf (hI1 w7 hW7.step j k x w8 Ax cx hD hu hkr hox) ?_)
   rintro e_ w9 ⟨rfl,hD2⟩
   refine ⟨_,rfl,fun a24 hE27=>B5 (F2 (A4 ?_))⟩
   have hS9:=hIs w7 (j + 1) w9 hD2
   have hat9:=hat7.move hS9 (fun b o hf _=>hMF b o hf) E8
   have hW9:WOk w9 C1 w9 [⟨b,o,[.map (some mb)],false⟩] []:=(WOk.start w9 C1).start1 hat9 rfl rfl
   refine D7 [0,1] kz (N1 [0,1] [] [0,1,37,38,39] hW9 hE27 (env':=[(0,.p 0 0),(1,.v (I9 fc cap)),(37,.v (.slice (some ⟨g,0,none⟩) u.length kc)),(38,.v (.int .i64 ((u.length:Nat):Int))),(39,.v (.int .i64 (IntKind.i64.wrap (((j:Nat):Int) + 1))))]) kz rfl fun a25 hE28=>B5 (A4 ?_))
   rw [G8 (by omega)] at hE28
   exact ⟨u.length - (j + 1),by omega,j + 1,rfl,by omega,hE28,hD2⟩
  obtain rfl:j = u.length:=by have:=of_decide_eq_false hc; omega
  refine wp_exit (E7 (E7 (G9 ?_)))
  exact R6 hE21 hW8.cells (v:=.tuple #[]) kz ⟨rfl,w7,hW7.step,hD⟩
 -- one more
 have hst6:Step w5 w6 C1:=by
  rcases hw6 with rfl | rfl
  ·exact Step.refl _ _
  exact Step.drew _
 have hr6:w6.heap[R]? = some (.mapIter (some mb) clk seen c0):=hst6.heap (fun o h=>h) hr5
 have hW6:=hW5.next_nil hst6
 obtain ⟨hml,_⟩:=mem_left he
 obtain ⟨k,sx,Ax,cx,hk1,hk2,hk3,hk4⟩:=hcont e hml
 have hR6:R < w6.heap.size:=(Array.getElem?_eq_some_iff.1 hr6).1
 have hW7:WOk w C1 (setBlock w6 R (.mapIter (some mb) clk (seen.push e.born) clk)) [⟨b,o,[.map (some mb)],false⟩,⟨kb,0,[.slice K vis.length kc],true⟩] [⟨K,kc,64,1,vis.length,(vis.map fun e=>Be e.key).map (Value.int .u32)⟩]:=by
  refine hW6.next (Step.setBlock w6 R _) (fun b' o' hb' hN=>by omega) (fun i ob hi j hj hN=>?_) (fun i q hi g' hg' o' hN=>?_)
  ·match i,hi with
   | 0,hi =>
    simp only [List.getElem?_cons_zero,Option.some.injEq] at hi; subst hi
    have:=World.lt_of_cell (hat 0 _ rfl).2
    simp only at hN; omega
   | 1,hi =>
    simp only [List.getElem?_cons_succ,List.getElem?_cons_zero,Option.some.injEq] at hi; subst hi
    exact hkbr hN
   | i + 2,hi=>simp at hi
  match i,hi with
  | 0,hi =>
   simp only [List.getElem?_cons_zero,Option.some.injEq] at hi; subst hi
   exact hKR (by rw [← hN]; exact hg')
  | i + 1,hi=>simp at hi
 have hr7:(setBlock w6 R (.mapIter (some mb) clk (seen.push e.born) clk)).heap[R]? = some (.mapIter (some mb) clk (seen.push e.born) clk):=HQ hr6
 generalize hw7:setBlock w6 R (.mapIter (some mb) clk (seen.push e.born) clk) = w7 at hW7 hr7
 refine N1 [1] [] [0,1,4,24,26] hW7 hE13 (env':=[(0,.p 0 0),(1,.v (I9 fc cap)),(4,.p 1 0),(24,.v (.pointer (some ⟨R,0,none⟩))),(26,.v (.bool true))]) kz rfl fun a12 hE14=>B5 (A4 (wp_seq ?_))
 refine D4 hE14 (b:=true) kz (fun _=>?_) (fun hb=>by cases hb)
 refine wp_skip (A4 (wp_block ?_))
 have hes7:=hW7.step.heap (fun o h=>h) hes
 refine C0 [0,1,2] kz ?_
 refine B2 (Ld hE14 (d:=27) (r:=R) kz hr7 hes7 hml hnod fun a13 hE15=>?_)
 rw [hk1] at hE15
 refine N1 [1,2] [] [0,1,4,24,5] hW7 hE15 (env':=[(0,.p 0 0),(1,.v (I9 fc cap)),(4,.p 1 0),(24,.v (.pointer (some ⟨R,0,none⟩))),(5,.v (.int .u32 k))]) kz rfl fun a14 hE16=>B5 (A4 ?_)
 refine D7 [0,1,2,3,4] kz ?_
 refine N1 [0,1] [2,3,4] [0,1,4,24,29,30] hW7 hE16 (env':=[(0,.p 0 0),(1,.v (I9 fc cap)),(4,.p 1 0),(24,.v (.pointer (some ⟨R,0,none⟩))),(29,.v (.slice K vis.length kc)),(30,.v (.int .u32 k))]) kz rfl fun a15 hE17=>?_
 have hsh:=left_shrinks es seen e he
 refine Bz (t:=128) (e:=64) (size:=1) (bytes:=4) (len:=1) (cs:=[.int .u32 k]) (d1:=31) (d:=32) (k:=0) hW7 hE17 kz kz (fun _=>by kernel_rfl) rfl kz (by omega) fun K2 kc2 a16 w8 hF8 hW8 hE18=>?_
 obtain ⟨bl,hE18⟩:=hE18
 have hR7:R < w7.heap.size:=(Array.getElem?_eq_some_iff.1 hr7).1
 have hna:∀ {o'},¬ H3 [⟨b,o,[.map (some mb)],false⟩,⟨kb,0,[.slice K vis.length kc],true⟩] [⟨K,kc,64,1,vis.length,(vis.map fun e=>Be e.key).map (Value.int .u32)⟩] R o':=by
  rintro o' (⟨i,ob,hi,hrw,hb,_⟩ | ⟨i,q,hi,hq⟩)
  ·match i,hi with
   | 0,hi =>
    simp only [List.getElem?_cons_zero,Option.some.injEq] at hi; subst hi
    cases hrw
   | 1,hi =>
    simp only [List.getElem?_cons_succ,List.getElem?_cons_zero,Option.some.injEq] at hi; subst hi
    exact hkbr hb
   | i + 2,hi=>simp at hi
  match i,hi with
  | 0,hi =>
   simp only [List.getElem?_cons_zero,Option.some.injEq] at hi; subst hi
   exact hKR hq
  | i + 1,hi=>simp at hi
 have hK2:K2.map (·.block) ≠ some R:=fun hk=>by
  exact hF8.imm R 0 hR7 hna (.inr ⟨0,_,rfl,hk⟩)
 refine B2 (D5 hW8 hE18 (oi:=1) (cs:=[.slice K2 (vis.length + 1) kc2]) kz fun w9 hF9 hW9 hE19=>B5 (F2 (A4 ?_)))
 have hr8:w9.heap[R]? = some (.mapIter (some mb) clk (seen.push e.born) clk) :=
  hF9.step.heap (fun o'=>hF8.imm R o' hR7 hna) (hF8.step.heap (fun o'=>hna) hr7)
 refine ⟨(leftOf es (seen.push e.born)).size,hsh,vis ++ [e],seen.push e.born,K2,kc2,clk,rfl,hv.push he,by rw [List.length_append,List.length_singleton]; omega,?_,?_,hr8,Nat.le_refl _,hK2⟩
 ·rw [List.length_append,List.length_singleton]
  exact hE19.pick (ks:=[0,1,4,24]) kz
 rw [List.length_append,List.length_singleton,List.map_append,List.map_append,List.map_cons,List.map_cons,hk1]
 exact hW9
end Go.Proofs.YtoclgihkbmaolaaGreatDoor.ME
namespace Go.Proofs.YtoclgihkbmaolaaGreatDoor.ME
open Go
open Go.RowKit
set_option linter.unusedVariables false
set_option linter.unusedSimpArgs false
set_option maxRecDepth 20000
section
variable {P:Program} {ops:Array Oper} {Q:Exit → Act → World → Prop} {n:Nat} {tb:Tb} {env:C6} {rs:List Rw} {w0:World} {M:Nat → Nat → Prop} {a:Act} {w:World}
theorem Dv {i d j:Nat} {t e:TypeId} {size bytes:Nat} (z:Value) (cs:List Value) {N:Act → World → Prop} (hW:WOk w0 M w tb rs) (hE:EnvOk n tb env a)
  (K:∀ b a' w',b = w.heap.size → w0.heap.size ≤ b → Fr w tb rs w' (tb ++ [⟨b,0,cs,true⟩]) rs → WOk w0 M w' (tb ++ [⟨b,0,cs,true⟩]) rs → EnvOk n (tb ++ [⟨b,0,cs,true⟩]) ((d,.v (.slice (some ⟨b,0,none⟩) j j)) :: env) a' → N a' w')
  (h:CZ env ops n i = some (t,((j:Nat):Int),((j:Nat):Int),d):=by kernel_rfl) (ht:M6 P t = some (e,size,bytes):=by kernel_rfl) (hz:(P.info? e).bind (·.zero) = some z:=by kernel_rfl) (hcs:(madeCells z.cells (j * size)).toList = cs:=by kernel_rfl) (hb:Nat.ble (bytes * j) 1000000 = true:=by kernel_rfl):wpOp P ops Q i N a w:=by
 obtain ⟨ht',inf,z',hi,hz',hzs,hs1,rfl,hsz,hbp⟩:=S7 ht
 obtain ⟨op,ho,hd,kl,kc,hrun⟩:=FJ (P:=P) (w:=w) hE h
 have hzz:z' = z:=by rw [hi] at hz; simp only [Option.bind_some,hz',Option.some.injEq] at hz; exact hz
 subst hzz
 have hb':=Nat.le_of_ble_eq_true hb
 have hjm:j ≤ 1000000:=by
  have:=Nat.le_mul_of_pos_left j hbp
  omega
 have hr:=run_make (P:=P) w t e inf z' ht' hi hz' kl kc (j:Int) (j:Int) (by omega) (Int.le_refl _) (by
  have:((inf.bytes * j:Nat):Int) ≤ 281474976710656:=by omega
  rwa [Int.natCast_mul] at this) (by omega)
 simp only [Int.toNat_natCast,hs1] at hr
 have hca:madeCells z'.cells (j * size) = cs.toArray:=by rw [← hcs]
 rw [hca] at hr
 refine L9 hE ho (fun o hop=>hrun o _ _ hop hr) ?_
 refine K w.heap.size _ _ rfl hW.step.size (Fr.alloc w tb rs _ cs true) (hW.alloc cs e) ?_
 exact (hE.put hd (.v (.slice (some ⟨w.heap.size,0,none⟩) j j)) trivial).grow _
theorem Fa {i d:Nat} {src dst e:TypeId} {s:ByteArray} {N:Act → World → Prop} (hW:WOk w0 M w tb rs) (hE:EnvOk n tb env a) (hsm:s.size ≤ 1099511627776)
  (K:∀ b c a' w',Fr w tb rs w' tb rs → WOk w0 M w' tb rs → (∀ G,Octs w' (E9 G w0 w' tb rs) (some ⟨b,0,none⟩) c (sb s)) → EnvOk n tb ((d,.v (.slice (some ⟨b,0,none⟩) (sb s).length c)) :: env) a' → N a' w')
  (h:Ep tb env ops n i = some (src,dst,.string s,d):=by kernel_rfl) (hs:P.underlying src = some .string:=by kernel_rfl) (hd:P.underlying dst = some (.slice e):=by kernel_rfl) (he:P.underlying e = some (.int .u8):=by kernel_rfl):wpOp P ops Q i N a w:=by
 unfold Ep at h
 split at h
 ·rename_i src' dst' x d' hop
  split at h
  ·rename_i v hx
   simp only [Option.some.injEq,Prod.mk.injEq] at h
   obtain ⟨rfl,rfl,rfl,rfl⟩:=h
   have hdn:=(K8 hE hop).choose_spec.2.2.2.1
   have hrun:=Lib.run_convert_string_bytes (P:=P) w src' dst' e s hs hd he
   have hst:Step w (Lib.bytesWorld w e s) C1:=⟨rfl,rfl,by rw [Lib.bytesWorld_size]; omega,fun b hb=>by rw [Lib.bytesWorld_at_old w e s b hb]; exact Keeps.refl _ _⟩
   have hlen:(sb s).length = s.size:=KK s
   have e1:=(F8 hE hx).1
   refine L9 hE hop (v:=.slice (some ⟨w.heap.size,0,none⟩) (sb s).length (grownCap w s.size 0 e)) (w':=Lib.bytesWorld w e s) (fun o' ho'=>?_) (K w.heap.size _ _ _ (Fr.nil tb rs hst) (hW.next_nil hst) (fun G=>?_) (hE.put hdn (.v _) trivial))
   ·unfold execOp
    rw [ho']
    simp only [SV.val] at e1
    simp only [e1,Sem.run_bind,hrun,Result.andThen_ok,Sem.run_pure,hlen]
   refine ⟨by rw [hlen]; exact grownCap_ge w s.size 0 e,by rw [hlen]; exact hsm,fun h=>(by cases h),fun ad hA _=>?_⟩
   obtain rfl:=Option.some.inj hA
   refine ⟨w.heap.size,0,rfl,fun q hq=>⟨rfl,fun j v hj=>?_⟩⟩
   have hj0:j = 0:=by
    cases j with
    | zero=>rfl
    | succ j=>simp at hj
   subst hj0
   simp only [List.getElem?_cons_zero,Option.some.injEq] at hj
   subst hj
   have h2:(Lib.bytesWorld w e s).heap.size = w.heap.size + 1:=Lib.bytesWorld_size w e s
   refine ⟨⟨.inr hW.step.size,by rw [h2]; exact Nat.lt_succ_self _,fun ha=>?_⟩,?_⟩
   ·have:=hW.act_live ha
    exact absurd this (Nat.lt_irrefl _)
   rw [Nat.zero_add,Nat.mul_one,Nat.add_zero,Lib.bytesWorld_cell w e s q (by rw [← hlen]; exact hq)]
   rfl
  cases h
 cases h
end
theorem AtF.part {w:World} {F:Nat → Nat → Prop} {b o:Nat} {cs cs':List Value} (k m:Nat) (h:AtF w F b o cs) (he:(cs.drop k).take m = cs'):AtF w F b (o + k) cs':=fun j v hj=>by
 subst he
 rw [List.getElem?_take] at hj
 split at hj
 ·rw [List.getElem?_drop] at hj
  have:=h (k + j) v hj
  rwa [← Nat.add_assoc] at this
 cases hj
structure TBox (w:World) (B eT:Nat) (A:Option Addr) (cp n:Nat) (x0 x1 x2 x3:Value) (xs:List Value):Prop where
 str:Str w B [x0,x1,x2,x3,.slice A n cp]
 own:w.ownsRow 0 eT 2 (.slice A n cp) n xs
 ne:A.map (·.block) ≠ some B
def TM (B:Nat) (A:Option Addr):Nat → Nat → Prop:=fun b o=>(b = B ∧ o < 5) ∨ Ba A b o
def NB (w:World) (B eT:Nat) (A:Option Addr) (n:Nat) (x0 x1 x2 x3:Value) (xs:List Value) (k:Int) (x:Bs):Ending → World → Prop:=fun en w' =>
 en = .returned (.tuple #[]) ∧ ∃ A' cp' Av cv,TBox w' B eT A' cp' (n + 1) x0 x1 x2 x3 (xs ++ [.int .u32 k,.slice Av x.length cv]) ∧ Octs w' (fun b o=>(w.heap.size ≤ b ∨ A.map (·.block) = some b) ∧ ¬ TM B A' b o) Av cv x ∧ CY w A A' ∧ Step w w' (TM B A)
def CH (P:Program) (fc eT:Nat):Prop:=∀ (w:World) (B cp c n:Nat) (k:Int) (A Av:Option Addr) (x:Bs) (x0 x1 x2 x3:Value) (xs:List Value) (G:Nat → Nat → Prop),TBox w B eT A cp n x0 x1 x2 x3 xs → Octs w G Av c x → (∀ b o,G b o → ¬ TM B A b o) → n ≤ 1000000 →
 Calls P fc [.int .u32 k,.slice Av x.length c,.pointer (some ⟨B,0,none⟩)].toArray w (NB w B eT A n x0 x1 x2 x3 xs k x)
theorem TBox.wok {w:World} {B eT cp n:Nat} {A:Option Addr} {x0 x1 x2 x3:Value} {xs:List Value} (h:TBox w B eT A cp n x0 x1 x2 x3 xs):WOk w (TM B A) w [⟨B,0,[x0,x1,x2,x3,.slice A n cp],true⟩] [⟨A,cp,eT,2,n,xs⟩]:=by
 have h1:WOk w (TM B A) w [⟨B,0,[x0,x1,x2,x3,.slice A n cp],true⟩] [] :=
  (WOk.start w _).add ⟨B,0,[x0,x1,x2,x3,.slice A n cp],true⟩ (World.lt_of_cell (h.str.at_ 0 _ rfl)) (fun j v hj=>by rw [Nat.zero_add]; exact h.str.at_ j v hj) (fun _ j hj=>⟨.inr (.inl ⟨rfl,by rw [Nat.zero_add]; exact hj⟩),by rw [Nat.zero_add]; exact h.str.frz j hj⟩) (fun i ob hi=>by simp at hi) (fun i r hi=>by simp at hi)
 refine h1.addRow ⟨A,cp,eT,2,n,xs⟩ h.own (fun g hg=>.inr fun o=>.inr hg) (fun i ob hi=>?_) (fun i r hi=>by simp at hi)
 cases i with
 | zero =>
  simp only [List.getElem?_cons_zero,Option.some.injEq] at hi; subst hi
  exact h.ne
 | succ i=>simp at hi
theorem Dw {w0 w:World} {B eT cp n:Nat} {A0 A:Option Addr} {x0 x1 x2 x3:Value} {xs:List Value} {rs:List Rw} (hW:WOk w0 (TM B A0) w [⟨B,0,[x0,x1,x2,x3,.slice A n cp],true⟩] (⟨A,cp,eT,2,n,xs⟩ :: rs)) (hB:B < w0.heap.size):TBox w B eT A cp n x0 x1 x2 x3 xs ∧ CY w0 A0 A ∧ Step w0 w (TM B A0):=by
 refine ⟨⟨Str.of hW 0 rfl,hW.own 0 _ rfl,fun e=>hW.rtb 0 _ rfl B e 0 _ rfl rfl⟩,fun g hg=>?_,hW.step⟩
 rcases hW.ownM 0 _ rfl g hg with h | h
 ·exact .inr h
 rcases h 5 with ⟨_,h⟩ | h
 ·omega
 exact .inl h
theorem Dx {w0 w:World} {B eT cp n c e8:Nat} {A0 A Av:Option Addr} {cs:List Value} {xs:List Value} {s:Bs} (hl:cs.length = 5) (hW:WOk w0 (TM B A0) w [⟨B,0,cs,true⟩] [⟨A,cp,eT,2,n,xs⟩,B4 Av c e8 s]) (hsm:s.length ≤ 1099511627776):Octs w (fun b o=>(w0.heap.size ≤ b ∨ A0.map (·.block) = some b) ∧ ¬ TM B A b o) Av c s:=by
 refine R7 (hW.own 1 _ rfl) hsm fun g hg o=>⟨?_,?_⟩
 ·rcases hW.ownM 1 _ rfl g hg with h | h
  ·exact .inl h
  rcases h 5 with ⟨_,h⟩ | h
  ·omega
  exact .inr h
 rintro (⟨rfl,_⟩ | h)
 ·exact hW.rtb 1 _ rfl g hg 0 _ rfl rfl
 exact hW.rr 1 0 _ _ (by decide) rfl rfl g hg h
theorem Dy {fc eT B b o:Nat} {m:Option Nat} {u:List (Int × Bs)} {w:World} {F:Nat → Nat → Prop} {x0 x1 x2 x3:Value} (hcf:∀ args w,(callFunc fc args).run Tryz.prog w = .ok (.enter fc args) w) (hone:CH Tryz.prog fc eT) (hat:AtF w F b o [.map m]) (hm:MapR w F m u) (hB:Str w B [x0,x1,x2,x3,.slice none 0 0]) (hF:∀ b o,F b o → ¬ (b = B ∧ o < 5)) (hul:u.length ≤ 1000000) :
  Calls Tryz.prog 39 [.pointer (some ⟨b,o,none⟩),I9 fc (.pointer (some ⟨B,0,none⟩))].toArray w (fun e w'=>e = .returned (.tuple #[]) ∧ ∃ A c,Str w' B [x0,x1,x2,x3,.slice A u.length c] ∧ TagsR w' (fun b o=>w.heap.size ≤ b) A c u ∧ Step w w' (fun b o=>b = B ∧ o < 5)):=by
 have hBl:B < w.heap.size:=World.lt_of_cell (hB.at_ 0 _ rfl)
 refine (NA (M:=fun b o=>b = B ∧ o < 5) hcf (fun w7 j w8=>∃ A cp xs css,TBox w8 B eT A cp j x0 x1 x2 x3 xs ∧ Tags w8 (fun b o=>w7.heap.size ≤ b ∧ ¬ TM B A b o) xs (u.take j) css ∧ (∀ g,A.map (·.block) = some g → w7.heap.size ≤ g) ∧ Step w7 w8 (fun b o=>b = B ∧ o < 5)) hat hm hF (fun b o h=>by rw [h.1]; exact hBl) (fun w7 hs=>?_) (fun w7 j w8 h=>by obtain ⟨_,_,_,_,_,_,_,h⟩:=h; exact h) (fun w7 hs j k x w8 Ax cx hI hu hk hox=>?_) hul).mono ?_
 ·exact ⟨none,0,[],[],⟨hB.move hs fun _ h=>h,World.ownsRow_nil _ 0 eT 2,fun h=>by cases h⟩,Tags.nil _ _,fun g h=>(by cases h),Step.refl _ _⟩
 ·obtain ⟨A,cp,xs,css,hbx,hT,hA,hs8⟩:=hI
  have hj:j < u.length:=(List.getElem?_eq_some_iff.1 hu).1
  refine (hone w8 B cp cx j k A Ax x x0 x1 x2 x3 xs _ hbx hox (fun b o hf=>?_) (by omega)).mono ?_
  ·rintro (h | h)
   ·exact hF _ _ hf.1 h
   have:=hA b h; have:=hf.2; omega
  rintro e w9 ⟨rfl,A',cp',Av,cv,hbx',ho',hn,hs9⟩
  refine ⟨rfl,A',cp',_,css ++ [[.int .u32 k,.slice Av x.length cv]],hbx',?_,fun g hg=>?_,hs8.trans hs9 fun b o hb h=>?_⟩
  ·rw [Ek hu]
   have e1:Tags w9 (fun b o=>w7.heap.size ≤ b ∧ ¬ TM B A' b o) xs (u.take j) css:=hT.move hs9 (fun b o h _=>h.2) (fun b o h hb=>⟨h.1,fun h'=>by
    rcases h' with h' | h'
    ·exact h.2 (.inl h')
    rcases hn b h' with h' | h'
    ·exact h.2 (.inr h')
    omega⟩)
   have e2:Octs w9 (fun b o=>w7.heap.size ≤ b ∧ ¬ TM B A' b o) Av cv x:=ho'.move (Step.refl _ C1) A7 fun b o h _=>⟨by
    rcases h.1 with h' | h'
    ·exact Nat.le_trans hs8.size h'
    exact hA b h',h.2⟩
   exact e1.snoc (c:=[.int .u32 k,.slice Av x.length cv]) (x:=(k,x)) ⟨⟨_,_,rfl,e2⟩,hk.1,hk.2⟩
  ·rcases hn g hg with h | h
   ·exact hA g h
   exact Nat.le_trans hs8.size h
  rcases h with h | h
  ·exact h
  have:=hA b h; omega
 rintro e w' ⟨rfl,w7,hs,A,cp,xs,css,hbx,hT,hA,hs8⟩
 rw [List.take_length] at hT
 refine ⟨rfl,A,cp,hbx.str,?_,(hs.mono (N:=fun b o=>b = B ∧ o < 5) fun _ _ _ f=>f.elim).trans hs8 fun b o _ h=>h⟩
 exact ((hT.move (Step.refl _ C1) A7 fun b o h _=>Nat.le_trans hs.size h.1).slots (F:=fun b o=>w.heap.size ≤ b) hbx.own rfl (by omega) fun g hg o=>Nat.le_trans hs.size (hA g hg))
def BW (A:Option Addr) (s:ByteArray):Tree:=.mk 0 (if A.isNone = true then [] else sb s) A.isNone [] []
abbrev CI:Nat → Nat → Prop:=fun _ _=>False
theorem WOk.strOut {G:Nat → Nat → Prop} {w0 w:World} {tb:Tb} {rs:List Rw} {p:Nat} {cs:List Value} (tb':Tb) (hW:WOk w0 C1 w tb rs) (ht:tb' ++ [⟨p,0,cs,true⟩] = tb:=by rfl):AtF w (E9 G w0 w tb' rs) p 0 cs:=fun j v hj=>by
 subst ht
 have hi:(tb' ++ [(⟨p,0,cs,true⟩:Ob)])[tb'.length]? = some ⟨p,0,cs,true⟩:=by rw [List.getElem?_append_right (Nat.le_refl _),Nat.sub_self]; rfl
 have h1:=hW.cells _ _ hi j v hj
 have hlt:j < cs.length:=(List.getElem?_eq_some_iff.1 hj).1
 refine ⟨⟨?_,hW.live _ _ hi,fun ha=>?_⟩,h1⟩
 ·rcases (hW.rw_ _ _ hi rfl j hlt).1 with h2 | h2
  ·exact .inr h2
  exact h2.elim
 rcases ha with ⟨k,ob,h2,h3,h4,h5,h6⟩ | ⟨k,r,h2,h3⟩
 ·have hk:k < tb'.length:=(List.getElem?_eq_some_iff.1 h2).1
  have h7:(tb' ++ [(⟨p,0,cs,true⟩:Ob)])[k]? = some ob:=by rw [List.getElem?_append_left hk]; exact h2
  rcases hW.apart k _ ob _ (by omega) h7 hi (.inr rfl) with h8 | h8 | h8
  ·exact h8 h4
  ·simp only [Nat.zero_add] at h5 h6; simp only [Nat.le_zero] at h8; omega
  simp only [Nat.zero_add] at h5 h6 h8; omega
 exact hW.rtb k r h2 p h3 _ _ hi rfl
theorem NC {u:List (Int × Bs)} (h:Q0 u) {i j:Nat} {k k':Int} {s s':Bs} (hi:u[i]? = some (k,s)) (hj:u[j]? = some (k',s')) (hij:j < i):¬ k < k':=by
 obtain ⟨h1,h2⟩:=List.getElem?_eq_some_iff.1 hi
 obtain ⟨h3,h4⟩:=List.getElem?_eq_some_iff.1 hj
 have:=List.pairwise_iff_getElem.1 h j i h3 h1 hij
 rw [h2,h4] at this
 simp only at this
 omega
section
variable {w0 w:World} {tb:Tb} {rs:List Rw} {F:Nat → Nat → Prop}
theorem WOk.objFp (hW:WOk w0 C1 w tb rs) (i:Nat) {b:Nat} {cs:List Value} (hi:tb[i]? = some ⟨b,0,cs,true⟩):AtF w (Fp F w0) b 0 cs:=fun j v hj=>by
 have hlt:=(List.getElem?_eq_some_iff.1 hj).1
 refine ⟨?_,hW.cells i _ hi j v hj⟩
 rcases (hW.rw_ i _ hi rfl j hlt).1 with h | h
 ·exact .inr h
 exact h.elim
def TrL (w:World) (F:Nat → Nat → Prop):List (List Value) → List Tree → Prop
 | [],[]=>True
 | c :: cs,x :: xs=>TreeR w F c x ∧ TrL w F cs xs
 | _,_=>False
theorem TrL.move {w w':World} {F F' M:Nat → Nat → Prop} (hs:Step w w' M) (hM:∀ b o,F b o → b < w.heap.size → ¬ M b o) (hF:∀ b o,F b o → b < w.heap.size → F' b o):∀ {cs:List (List Value)} {l:List Tree},TrL w F cs l → TrL w' F' cs l
 | [],[],_=>trivial
 | _ :: _,_ :: _,h=>⟨h.1.move hs hM hF,TrL.move hs hM hF h.2⟩
 | [],_ :: _,h=>h.elim
 | _ :: _,[],h=>h.elim
theorem TrL.len:∀ {cs:List (List Value)} {l:List Tree},TrL w F cs l → cs.length = l.length
 | [],[],_=>rfl
 | _ :: _,_ :: _,h=>congrArg (· + 1) (TrL.len h.2)
 | [],_ :: _,h=>h.elim
 | _ :: _,[],h=>h.elim
theorem TrL.five:∀ {cs:List (List Value)} {l:List Tree},TrL w F cs l → ∀ c ∈ cs,c.length = 5
 | [],[],_=>fun c hc=>by cases hc
 | _ :: _,_ :: _,h=>fun c hc=>by
  rcases List.mem_cons.1 hc with rfl | hc
  ·exact h.1.five
  exact TrL.five h.2 c hc
 | [],_ :: _,h=>h.elim
 | _ :: _,[],h=>h.elim
theorem TrL.get:∀ {cs:List (List Value)} {l:List Tree},TrL w F cs l → ∀ (i:Nat) (x:Tree),l[i]? = some x → TreeR w F (cs.getD i []) x
 | [],[],_,i,x,hx=>by simp at hx
 | _ :: _,_ :: _,h,0,x,hx=>by
  simp only [List.getElem?_cons_zero,Option.some.injEq] at hx
  subst hx
  exact h.1
 | _ :: _,_ :: _,h,i + 1,x,hx=>TrL.get h.2 i x hx
 | [],_ :: _,h,_,_,_=>h.elim
 | _ :: _,[],h,_,_,_=>h.elim
theorem JR {b:Nat}:∀ (css:List (List Value)) (o:Nat),AtF w F b o css.flatten → (∀ c ∈ css,c.length = 5) → ∀ i,i < css.length → (css.getD i []).length = 5 ∧ AtF w F b (o + i * 5) (css.getD i [])
 | [],o,h,hl,i,hi=>absurd hi (Nat.not_lt_zero _)
 | c :: r,o,h,hl,0,_=>⟨hl c List.mem_cons_self,fun j v hj=>by
   have hj':c[j]? = some v:=hj
   have:=h j v (by rw [List.flatten_cons,List.getElem?_append_left (List.getElem?_eq_some_iff.1 hj').1]; exact hj')
   rw [show o + 0 * 5 + j = o + j by omega]
   exact this⟩
 | c :: r,o,h,hl,i + 1,hi=>by
  have hc:=hl c List.mem_cons_self
  have:=JR r (o + 5) (fun j v hj=>by
   have:=h (5 + j) v (by rw [List.flatten_cons,List.getElem?_append_right (by omega),show 5 + j - c.length = j by omega]; exact hj)
   rw [show o + 5 + j = o + (5 + j) by omega]
   exact this) (fun d hd=>hl d (List.mem_cons_of_mem _ hd)) i (by simpa using hi)
  rw [show o + (i + 1) * 5 = o + 5 + i * 5 by omega]
  exact this
theorem ND {b:Nat} {css:List (List Value)} {l:List Tree} (h:AtF w F b 0 css.flatten) (hT:TrL w F css l) (hsm:l.length ≤ 1099511627776):Slots w F 5 (some ⟨b,0,none⟩) l.length l.length (fun i=>css.getD i []) :=
 ⟨Nat.le_refl _,hsm,fun h=>(by cases h),fun ad hA _=>⟨b,0,(Option.some.inj hA).symm,fun i hi=>JR css 0 h hT.five i (by rw [hT.len]; exact hi)⟩⟩
theorem Trees.xslen {w:World} {xs:List Value} {l:List Tree} {css:List (List Value)} (h:Trees w F xs l css):xs.length = l.length * 5:=by
 have h1:∀ css:List (List Value),(∀ c ∈ css,c.length = 5) → css.flatten.length = css.length * 5:=fun css hc=>by
  induction css with
  | nil=>rfl
  | cons c r ih =>
   rw [List.flatten_cons,List.length_append,hc c List.mem_cons_self,ih fun d hd=>hc d (List.mem_cons_of_mem _ hd),List.length_cons]
   omega
 rw [h.flat.eq,h1 css,h.len]
 intro c hc
 obtain ⟨i,hi,rfl⟩:=List.getElem_of_mem hc
 have hl:=h.len
 exact (h.each i _ _ (List.getElem?_eq_getElem hi) (List.getElem?_eq_getElem (show i < l.length by omega))).five
theorem BX {xs zs cs:List Value} {k:Nat} (hx:xs.length = k * 5) (hz:zs.length = cs.length:=by rfl):H8 (xs ++ zs) (k * 5) cs = xs ++ cs:=by
 unfold H8
 rw [List.take_left' hx,List.drop_of_length_le (by rw [List.length_append]; omega),List.append_nil]
structure O16 (w:World) (F:Nat → Nat → Prop) (A:Option Addr) (c:Nat) (s:Bs):Prop where
 o:Octs w F A c s
 l:s.length = 16
theorem O16.move {w w':World} {F F' M:Nat → Nat → Prop} {A:Option Addr} {c:Nat} {s:Bs} (h:O16 w F A c s) (hs:Step w w' M) (hM:∀ b o,F b o → b < w.heap.size → ¬ M b o) (hF:∀ b o,F b o → b < w.heap.size → F' b o):O16 w' F' A c s:=⟨h.o.move hs hM hF,h.l⟩
theorem O16.src {w:World} {F:Nat → Nat → Prop} {A:Option Addr} {c:Nat} {s:Bs} (h:O16 w F A c s):Src w A 16 1 (bc s):=by
 have:=h.o.src
 rwa [h.l] at this
theorem O16.cap {w:World} {F:Nat → Nat → Prop} {A:Option Addr} {c:Nat} {s:Bs} (h:O16 w F A c s):A = none → c = 0:=h.o.cap
theorem GS {w:World} {F:Nat → Nat → Prop} {b o k:Nat} {cs:List Value} {s:Bs} (h:AtF w F b o cs) (hl:s.length = 16) (hc:∀ j,j < 16 → cs[k + j]? = some (B0 (s.getD j 0))):O16 w F (some ⟨b,o + k,none⟩) 16 s:=by
 refine ⟨⟨by omega,by omega,fun h=>(by cases h),fun ad hA _=>⟨b,o + k,(Option.some.inj hA).symm,fun i hi=>⟨rfl,fun j v hj=>?_⟩⟩⟩,hl⟩
 have hj0:j = 0:=by
  cases j with
  | zero=>rfl
  | succ j=>simp at hj
 subst hj0
 simp only [List.getElem?_cons_zero,Option.some.injEq] at hj
 subst hj
 have:=h (k + i) _ (hc i (by omega))
 rw [show o + k + i * 1 + 0 = o + (k + i) by omega]
 exact this
theorem Fb (hW:WOk w0 C1 w tb rs) {k:Nat} {A:Option Addr} {c e n:Nat} {xs:List Value} {l:List Tree} {css:List (List Value)} {b:Bool} (hk:rs[k]? = some ⟨A,c,e,5,n,xs⟩) (hT:Trees w (E9 F w0 w tb rs) xs l css) (hn:n = l.length) (hsm:l.length ≤ 1099511627776):TreeR w (Fp F w0) [.int .i64 0,.slice none 0 0,.bool b,.slice A n c,.slice none 0 0] (.mk 0 [] b l []):=by
 have h:=Im hW hk hT hn hsm
 subst hn
 exact TreeR.mk (s:=[]) (u:=[]) _ (Octs.nil _ _) h.1 h.2 (TagsR.nil _ _)
theorem V7 {L k:Nat} {f:Nat → Tree} (h:k < L):((List.range L).map f).take (k + 1) = ((List.range L).map f).take k ++ [f k] :=
 Ek (by rw [List.getElem?_map,List.getElem?_range h]; rfl)
theorem Fc {L k:Nat} {f:Nat → Tree} (h:L ≤ k):((List.range L).map f).take k = (List.range L).map f:=List.take_of_length_le (by rw [List.length_map,List.length_range]; exact h)
theorem R3 {L:Nat} {f:Nat → Tree}:((List.range L).map f).length = L:=by rw [List.length_map,List.length_range]
theorem Dz (hW:WOk w0 C1 w tb rs) (i:Nat) {b n2 c3:Nat} {A3:Option Addr} {u:List (Int × Bs)} {css:List (List Value)} {cs:List Value} {l:List Tree} (hi:tb[i]? = some ⟨b,0,cs,true⟩) (hT':TrL w (Fp F w0) css l) (hU:TagsR w (Fp F w0) A3 c3 u) (hf:css.flatten = cs:=by rfl) (hl:l.length = n2:=by rfl) (hn:Nat.ble n2 1000000 = true:=by kernel_rfl) :
  T0 w0 F (.mk 0 [] false l u) (.returned (.agg #[.int .i64 0,.slice none 0 0,.bool false,.slice (some ⟨b,0,none⟩) n2 n2,.slice A3 u.length c3])) w:=by
 subst hf
 subst hl
 have hn':=Nat.le_of_ble_eq_true hn
 exact ⟨_,rfl,TreeR.mk (s:=[]) _ (Octs.nil _ _) (ND (hW.objFp i hi) hT' (by omega)) hT'.get hU,hW.step⟩
end
end Go.Proofs.YtoclgihkbmaolaaGreatDoor.ME