/- FnBehindProduceResponse: the statement: of every version, every slice of octets and every tree of the bulk that the statement speaks of the law returns true, and leaves its arguments as they are; and the card. Own work. -/
import Derived.Test.YtoclgihkbmaolacGreatDoorWb0P4
import Derived.Test.YtoclgihkbmaolacGreatDoorTie
import Derived.Test.YtoclgihkbmaolacGreatDoorCards
import Derived.LaidMore
import Derived.SevenTiedAt
namespace Go.Proofs.YtoclgihkbmaolacGreatDoor.ME
open Go
open Go.RowKit
set_option linter.unusedVariables false
set_option linter.unusedSimpArgs false
set_option maxRecDepth 20000
def H9 (v:Int) (T:Tree):Bs:=(be 4 ((IntKind.i32.wrap (T.at_ 0).N))) ++ ((if (decide (v ≥ 9)) = true then (uv ((T.at_ 1).S.length + 1) ++ (T.at_ 1).S) else (be 2 (T.at_ 1).S.length ++ (T.at_ 1).S)) ++ ((be 4 ((IntKind.i32.wrap (T.at_ 2).N))) ++ ((if (decide (v ≥ 9)) = true then (if (T.at_ 3).null = true then uv 0 else uv ((D9 (T.at_ 3)).length + 1) ++ (D9 (T.at_ 3))) else (if (T.at_ 3).null = true then be 2 (-1) else be 2 (D9 (T.at_ 3)).length ++ (D9 (T.at_ 3)))) ++ (if (decide (v ≥ 9)) = true then (uv T.U.length) ++ (D7 T.U) else []))))
theorem PI (v:Int) (T:Tree):0 < (H9 v T).length:=Dq (EK (by decide))
def K6 (v:Int) (T:Tree):Bs:=(be 4 ((IntKind.i32.wrap (T.at_ 0).N))) ++ ((be 4 ((IntKind.i32.wrap (T.at_ 1).N))) ++ (if (decide (v ≥ 9)) = true then (uv T.U.length) ++ (D7 T.U) else []))
abbrev G3 (T:Tree):Bool:=(!((decide (be 4 ((T.at_ 7).at_ 0).N = be 4 (-1))) && (decide (be 4 ((T.at_ 7).at_ 1).N = be 4 (-1))) && decide ((T.at_ 7).U.length = 0)))
def T0 (v:Int) (T:Tree):Bs:=(be 4 ((IntKind.i32.wrap (T.at_ 0).N))) ++ ((if (decide (v ≥ 9)) = true then (if (T.at_ 1).null = true then uv 0 else uv ((D9 (T.at_ 1)).length + 1) ++ (D9 (T.at_ 1))) else (if (T.at_ 1).null = true then be 2 (-1) else be 2 (D9 (T.at_ 1)).length ++ (D9 (T.at_ 1)))) ++ (if (decide (v ≥ 9)) = true then (uv T.U.length) ++ (D7 T.U) else []))
theorem JX (v:Int) (T:Tree):0 < (T0 v T).length:=Dq (EK (by decide))
def U0 (v:Int) (T:Tree):Bs:=(be 4 ((IntKind.i32.wrap (T.at_ 0).N))) ++ ((be 2 ((IntKind.i16.wrap (T.at_ 1).N))) ++ ((be 8 ((T.at_ 2).N)) ++ ((if (decide (v ≥ 2)) = true then be 8 ((T.at_ 3).N) else []) ++ ((if (decide (v ≥ 5)) = true then be 8 ((T.at_ 4).N) else []) ++ ((if (decide (v ≥ 8)) = true then (if (decide (v ≥ 9)) = true then (uv ((lst (T.at_ 5)).length + 1)) else (be 4 (lst (T.at_ 5)).length)) ++ ((lst (T.at_ 5)).flatMap (T0 v)) else []) ++ ((if (decide (v ≥ 8)) = true then if (decide (v ≥ 9)) = true then (if (T.at_ 6).null = true then uv 0 else uv ((D9 (T.at_ 6)).length + 1) ++ (D9 (T.at_ 6))) else (if (T.at_ 6).null = true then be 2 (-1) else be 2 (D9 (T.at_ 6)).length ++ (D9 (T.at_ 6))) else []) ++ (if (decide (v ≥ 9)) = true then (uv (B5 (G3 T) + T.U.length)) ++ ((G8 (G3 T) 0 ((K6 v (T.at_ 7)))) ++ (D7 T.U)) else [])))))))
theorem JY (v:Int) (T:Tree):0 < (U0 v T).length:=Dq (EK (by decide))
def U1 (v:Int) (T:Tree):Bs:=(if ((if (decide (v ≥ 0)) = true then decide (v ≤ 12) else false)) = true then if (decide (v ≥ 9)) = true then (uv ((T.at_ 0).S.length + 1) ++ (T.at_ 0).S) else (be 2 (T.at_ 0).S.length ++ (T.at_ 0).S) else []) ++ ((if (decide (v ≥ 13)) = true then (E8 (T.at_ 1).S) else []) ++ (((if (decide (v ≥ 9)) = true then (uv ((lst (T.at_ 2)).length + 1)) else (be 4 (lst (T.at_ 2)).length)) ++ ((lst (T.at_ 2)).flatMap (U0 v))) ++ (if (decide (v ≥ 9)) = true then (uv T.U.length) ++ (D7 T.U) else [])))
theorem JZ (v:Int) (T:Tree):0 < (U1 v T).length:=JN (JN (Dq (Dq (Pw (Io _) (EK (by decide))))))
def Hb (v:Int) (T:Tree):Bs:=((if (decide (v ≥ 9)) = true then (uv ((lst (T.at_ 0)).length + 1)) else (be 4 (lst (T.at_ 0)).length)) ++ ((lst (T.at_ 0)).flatMap (U1 v))) ++ ((if (decide (v ≥ 1)) = true then be 4 ((IntKind.i32.wrap (T.at_ 1).N)) else []) ++ ((if (decide (v ≥ 9)) = true then (uv (B5 (decide (0 < (lst (T.at_ 2)).length)) + T.U.length)) ++ ((G8 (decide (0 < (lst (T.at_ 2)).length)) 0 ((if (decide (v ≥ 9)) = true then (uv ((lst (T.at_ 2)).length + 1)) else (be 4 (lst (T.at_ 2)).length)) ++ ((lst (T.at_ 2)).flatMap (H9 v)))) ++ (D7 T.U)) else []) ++ (([]:Bs))))
theorem Ka (v:Int) (T:Tree):H5 v T = Hb v T:=rfl
def Kb (d:DV):List Value:=[.int .i32 ((d.f 0).n),.string ((d.f 1).s),.int .i32 ((d.f 2).n),.pointer ((d.f 3).A),.map d.m]
theorem EW:V8 W8:=by
 intro w w' F F' M d hs hM hF h
 unfold W8 at h ⊢
 obtain ⟨g0,g1,g2,⟨g3,g3l⟩,t1,t2,t3,_⟩:=h
 exact ⟨g0,g1,g2,⟨fun ad hA=>by
  obtain ⟨b,o,h1,h2⟩:=g3 ad hA
  exact ⟨b,o,h1,h2.move hs hM hF⟩,g3l⟩,t1.move hs hM hF,t2,t3,trivial⟩
theorem PJ:V8 BJ:=by
 intro w w' F F' M d hs hM hF h
 unfold BJ at h ⊢
 obtain ⟨g0,g1,t1,t2,t3,t4,_⟩:=h
 exact ⟨g0,g1,t1.move hs hM hF,t2,t3,t4,trivial⟩
def Kc (d:DV):List Value:=[.int .i32 ((d.f 0).n),.pointer ((d.f 1).A),.map d.m]
theorem EX:V8 Bk:=by
 intro w w' F F' M d hs hM hF h
 unfold Bk at h ⊢
 obtain ⟨g0,⟨g1,g1l⟩,t1,t2,t3,_⟩:=h
 exact ⟨g0,⟨fun ad hA=>by
  obtain ⟨b,o,h1,h2⟩:=g1 ad hA
  exact ⟨b,o,h1,h2.move hs hM hF⟩,g1l⟩,t1.move hs hM hF,t2,t3,trivial⟩
def Kd (d:DV):List Value:=[.int .i32 ((d.f 0).n),.int .i16 ((d.f 1).n),.int .i64 ((d.f 2).n),.int .i64 ((d.f 3).n),.int .i64 ((d.f 4).n),.slice ((d.f 5).A) ((d.f 5).l) ((d.f 5).c),.pointer ((d.f 6).A),.int .i32 (((d.f 7).f 0).n),.int .i32 (((d.f 7).f 1).n),.map ((d.f 7).m),.map d.m]
theorem EY:V8 BK:=by
 intro w w' F F' M d hs hM hF h
 unfold BK at h ⊢
 obtain ⟨g0,g1,g2,g3,g4,⟨g5,g5l,g5e⟩,⟨g6,g6l⟩,g7,t1,t2,t3,_⟩:=h
 exact ⟨g0,g1,g2,g3,g4,⟨g5.move hs hM hF,g5l,fun i hi=>EX _ hs hM hF (g5e i hi)⟩,⟨fun ad hA=>by
  obtain ⟨b,o,h1,h2⟩:=g6 ad hA
  exact ⟨b,o,h1,h2.move hs hM hF⟩,g6l⟩,PJ _ hs hM hF g7,t1.move hs hM hF,t2,t3,trivial⟩
def Ke (d:DV):List Value:=[.string ((d.f 0).s),B7 ((d.f 1).o.getD 0 0),B7 ((d.f 1).o.getD 1 0),B7 ((d.f 1).o.getD 2 0),B7 ((d.f 1).o.getD 3 0),B7 ((d.f 1).o.getD 4 0),B7 ((d.f 1).o.getD 5 0),B7 ((d.f 1).o.getD 6 0),B7 ((d.f 1).o.getD 7 0),B7 ((d.f 1).o.getD 8 0),B7 ((d.f 1).o.getD 9 0),B7 ((d.f 1).o.getD 10 0),B7 ((d.f 1).o.getD 11 0),B7 ((d.f 1).o.getD 12 0),B7 ((d.f 1).o.getD 13 0),B7 ((d.f 1).o.getD 14 0),B7 ((d.f 1).o.getD 15 0),.slice ((d.f 2).A) ((d.f 2).l) ((d.f 2).c),.map d.m]
theorem EZ:V8 BL:=by
 intro w w' F F' M d hs hM hF h
 unfold BL at h ⊢
 obtain ⟨g0,g1,⟨g2,g2l,g2e⟩,t1,t2,t3,_⟩:=h
 exact ⟨g0,g1,⟨g2.move hs hM hF,g2l,fun i hi=>EY _ hs hM hF (g2e i hi)⟩,t1.move hs hM hF,t2,t3,trivial⟩
def Y9 (v:Int) (D:DV) (T:Tree):Prop:=((D.f 0).n = IntKind.i32.wrap (T.at_ 0).N) ∧ ((D.f 1).s = bs (T.at_ 1).S) ∧ ((D.f 2).n = IntKind.i32.wrap (T.at_ 2).N) ∧ (((D.f 3).s = bs (D9 (T.at_ 3)) ∧ (D.f 3).A.isNone = (T.at_ 3).null)) ∧ (((decide (v ≥ 9)) = true → D.u = T.U) ∧ ((decide (v ≥ 9)) = false → D.u = [])) ∧ True
def BT (v:Int) (D:DV) (T:Tree):Prop:=((D.f 0).n = IntKind.i32.wrap (T.at_ 0).N) ∧ ((D.f 1).n = IntKind.i32.wrap (T.at_ 1).N) ∧ (((decide (v ≥ 9)) = true → (D.u = T.U ∧ D.m.isNone = T.U.isEmpty)) ∧ ((decide (v ≥ 9)) = false → D.u = [])) ∧ True
def BU (v:Int) (D:DV) (T:Tree):Prop:=((D.f 0).n = IntKind.i32.wrap (T.at_ 0).N) ∧ (((D.f 1).s = bs (D9 (T.at_ 1)) ∧ (D.f 1).A.isNone = (T.at_ 1).null)) ∧ (((decide (v ≥ 9)) = true → D.u = T.U) ∧ ((decide (v ≥ 9)) = false → D.u = [])) ∧ True
def CG (v:Int) (D:DV) (T:Tree):Prop:=((D.f 0).n = IntKind.i32.wrap (T.at_ 0).N) ∧ ((D.f 1).n = IntKind.i16.wrap (T.at_ 1).N) ∧ ((D.f 2).n = IntKind.i64.wrap (T.at_ 2).N) ∧ (((decide (v ≥ 2)) = true → (D.f 3).n = IntKind.i64.wrap (T.at_ 3).N) ∧ ((decide (v ≥ 2)) = false → (D.f 3).n = -1)) ∧ (((decide (v ≥ 5)) = true → (D.f 4).n = IntKind.i64.wrap (T.at_ 4).N) ∧ ((decide (v ≥ 5)) = false → (D.f 4).n = -1)) ∧ (((decide (v ≥ 8)) = true → ((D.f 5).l = (lst (T.at_ 5)).length ∧ ∀ i,i < (D.f 5).l → BU v ((D.f 5).f i) ((lst (T.at_ 5)).getD i .zero))) ∧ ((decide (v ≥ 8)) = false → ((D.f 5).A = none ∧ (D.f 5).l = 0))) ∧ (((decide (v ≥ 8)) = true → ((D.f 6).s = bs (D9 (T.at_ 6)) ∧ (D.f 6).A.isNone = (T.at_ 6).null)) ∧ ((decide (v ≥ 8)) = false → ((D.f 6).s = ByteArray.empty ∧ (D.f 6).A = none))) ∧ ((((if (decide (v ≥ 9)) = true then (G3 T) else false)) = true → BT v (D.f 7) (T.at_ 7)) ∧ (((if (decide (v ≥ 9)) = true then (G3 T) else false)) = false → (((D.f 7).f 0).n = -1 ∧ ((D.f 7).f 1).n = -1 ∧ (D.f 7).u = [] ∧ (D.f 7).m = none))) ∧ (((decide (v ≥ 9)) = true → D.u = T.U) ∧ ((decide (v ≥ 9)) = false → D.u = [])) ∧ True
def CH (v:Int) (D:DV) (T:Tree):Prop:=(((if (decide (v ≥ 0)) = true then decide (v ≤ 12) else false) = true → (D.f 0).s = bs (T.at_ 0).S) ∧ ((if (decide (v ≥ 0)) = true then decide (v ≤ 12) else false) = false → (D.f 0).s = ByteArray.empty)) ∧ (((decide (v ≥ 13)) = true → (D.f 1).o = E8 (T.at_ 1).S) ∧ ((decide (v ≥ 13)) = false → (D.f 1).o = List.replicate 16 0)) ∧ (((D.f 2).l = (lst (T.at_ 2)).length ∧ ∀ i,i < (D.f 2).l → CG v ((D.f 2).f i) ((lst (T.at_ 2)).getD i .zero))) ∧ (((decide (v ≥ 9)) = true → D.u = T.U) ∧ ((decide (v ≥ 9)) = false → D.u = [])) ∧ True
def CI (v:Int) (D:DV) (T:Tree):Prop:=(((D.f 0).l = (lst (T.at_ 0)).length ∧ ∀ i,i < (D.f 0).l → CH v ((D.f 0).f i) ((lst (T.at_ 0)).getD i .zero))) ∧ (((decide (v ≥ 1)) = true → (D.f 1).n = IntKind.i32.wrap (T.at_ 1).N) ∧ ((decide (v ≥ 1)) = false → (D.f 1).n = 0)) ∧ ((((if (decide (v ≥ 9)) = true then (decide (0 < (lst (T.at_ 2)).length)) else false)) = true → ((D.f 2).l = (lst (T.at_ 2)).length ∧ ∀ i,i < (D.f 2).l → Y9 v ((D.f 2).f i) ((lst (T.at_ 2)).getD i .zero))) ∧ (((if (decide (v ≥ 9)) = true then (decide (0 < (lst (T.at_ 2)).length)) else false)) = false → ((D.f 2).A = none ∧ (D.f 2).l = 0))) ∧ (((decide (v ≥ 9)) = true → D.u = T.U) ∧ ((decide (v ≥ 9)) = false → D.u = [])) ∧ True
theorem PK (b o:Nat) (w:World):Calls Tryz.prog 60 #[.pointer (some ⟨b,o,none⟩)] w (fun e w'=>e = .returned (.tuple #[]) ∧ w' = w):=by
 refine enter (n:=2) (vs:=[.pointer (some ⟨b,o,none⟩)]) Tryz.func60 rfl Tryz.ntmps60 kz fun a hE=>?_
 refine wp_skip ?_
 exact U3 hE (WOk.start w C7).cells (v:=.tuple #[]) kz ⟨rfl,rfl⟩
theorem PL (b o:Nat) (w:World):Calls Tryz.prog 70 #[.pointer (some ⟨b,o,none⟩)] w (fun e w'=>e = .returned (.tuple #[]) ∧ w' = w):=by
 refine enter (n:=2) (vs:=[.pointer (some ⟨b,o,none⟩)]) Tryz.func70 rfl Tryz.ntmps70 kz fun a hE=>?_
 refine wp_skip ?_
 exact U3 hE (WOk.start w C7).cells (v:=.tuple #[]) kz ⟨rfl,rfl⟩
theorem PM (b o:Nat) (w:World):Calls Tryz.prog 79 #[.pointer (some ⟨b,o,none⟩)] w (fun e w'=>e = .returned (.tuple #[]) ∧ w' = w):=by
 refine enter (n:=2) (vs:=[.pointer (some ⟨b,o,none⟩)]) Tryz.func79 rfl Tryz.ntmps79 kz fun a hE=>?_
 refine wp_skip ?_
 exact U3 hE (WOk.start w C7).cells (v:=.tuple #[]) kz ⟨rfl,rfl⟩
set_option maxHeartbeats 4000000 in
theorem PN (v:Int) (T:Tree) {bv:Nat} {A:Option Addr} {c:Nat} {w:World} {F:Nat → Nat → Prop} (hst:Str w bv [.int .i16 v,.slice none 0 0,.int .i32 0,.slice none 0 0,.map none]) (ho:Octs w F A c (H5 v T)) (hFd:∀ b o,F b o → ¬ (b = bv ∧ o < 5)) (hc:BO T) (hR:T.ranged) (hL:((if (decide (v ≥ 9)) = true then (uv ((lst (T.at_ 2)).length + 1)) else (be 4 (lst (T.at_ 2)).length)) ++ ((lst (T.at_ 2)).flatMap (H9 v))).length < 4294967296) :
  Calls Tryz.prog 31 #[.pointer (some ⟨bv,0,none⟩),.slice A (H5 v T).length c,.bool false] w (fun e w'=>∃ D:DV,e = .returned .nilIface ∧ Str w' bv [.int .i16 v,.slice ((D.f 0).A) ((D.f 0).l) ((D.f 0).c),.int .i32 ((D.f 1).n),.slice ((D.f 2).A) ((D.f 2).l) ((D.f 2).c),.map D.m] ∧ CC w' (Fp F w) D ∧ CI v D T ∧ Step w w' (fun b o=>b = bv ∧ o < 5)):=by
 refine enter (n:=423) Tryz.func31 rfl Tryz.ntmps31 kz fun a hE=>?_
 have hW:=WOk.startStr hst
 let bK:Value:=.int .i16 v
 let aC:Value:=.slice none 0 0
 let ay:Value:=.int .i32 0
 let au:Value:=.map none
 have hE1:=(hE.grow ⟨bv,0,[bK,aC,ay,aC,au],true⟩).recast 0 (.v (.pointer (some ⟨bv,0,none⟩))) (.p 0 0) rfl rfl (Nat.le_of_ble_eq_true (n:=1) rfl)
 let ab:Nat × SV:=(2,.v (.bool false))
 refine B9 [(0,.p 0 0),(1,.v (.slice A ((H5 v T).length) c)),ab] hW hE1 fun a1 hE2=>?_
 refine C1 [0,1] kz ?_
 refine B3 [0] [1] [(0,.p 0 0),(1,.v (.slice A ((H5 v T).length) c)),ab,(62,.p 0 0)] hW hE2 fun a3 hE4=>?_
 refine B1 (R1 hE4 (f:=21) (vs:=[.pointer (some ⟨bv,0,none⟩)]) (d:=63) (n':=2) kz Tryz.call21 Tryz.func21 rfl Tryz.ntmps21 kz fun a5 hE6=>?_)
 have hE7:=hE6.recast 0 (.v (.pointer (some ⟨bv,0,none⟩))) (.p 0 0) rfl rfl (Nat.le_of_ble_eq_true (n:=1) rfl)
 refine wp_skip (U3 hE7 hW.cells (v:=.tuple #[]) kz ?_)
 refine ⟨_,rfl,fun a8 hE9=>?_⟩
 let aw:Ob:=⟨bv,0,[bK,aC,ay,aC,au],true⟩
 have qo:EnvOk 423 [aw] [(63,.v (.tuple #[])),(0,.p 0 0),(1,.v (.slice A ((H5 v T).length) c)),ab,(62,.p 0 0)] _:=hE9.places (⟨rfl,rfl,trivial⟩)
 refine B4 (A4 ?_)
 refine C1 [0,1,2,3] kz ?_
 let bo:Value:=.bool false
 refine B3 [0,1] [2,3] [(0,.p 0 0),ab,(65,.v (.agg #[.slice A ((H5 v T).length) c,bo]))] hW qo fun sl qp=>?_
 refine B1 (N6 hW qp (d:=7) (cs:=[aC,bo]) kz fun bB sm sn rK rL rM qq qr=>?_)
 refine B1 (I9 qq qr (oi:=1) (cs:=[.slice A ((H5 v T).length) c,bo]) kz fun sq rN iY qs=>?_)
 refine B4 (A4 ?_)
 let ah:Nat × SV:=(7,.p 0 0)
 have qt:=RS.start (F:=F) (s:=H5 v T) iY qs (ho.move iY.step (fun b_ o_ h_ _=>hFd b_ o_ h_) (iY.immM hFd)) [(0,.p 1 0),ab,ah]
 have rA:=hc
 have e26r:=hR
 unfold BO at rA
 obtain ⟨⟨e26_0,e26_0e⟩,e26_1,⟨e26_2,e26_2e⟩,e26_U,e26_K,_⟩:=rA
 obtain ⟨jq,jr⟩:∃ R,R = (if (decide (v ≥ 9)) = true then (uv (B5 (decide (0 < (lst (T.at_ 2)).length)) + T.U.length)) ++ ((G8 (decide (0 < (lst (T.at_ 2)).length)) 0 ((if (decide (v ≥ 9)) = true then (uv ((lst (T.at_ 2)).length + 1)) else (be 4 (lst (T.at_ 2)).length)) ++ ((lst (T.at_ 2)).flatMap (H9 v)))) ++ (D7 T.U)) else []) ++ ([]:Bs):=⟨_,rfl⟩
 obtain ⟨fM,js⟩:∃ R,R = (if (decide (v ≥ 1)) = true then be 4 ((IntKind.i32.wrap (T.at_ 1).N)) else []) ++ jq:=⟨_,rfl⟩
 obtain ⟨rO,jt⟩:∃ R,R = ((if (decide (v ≥ 9)) = true then (uv ((lst (T.at_ 0)).length + 1)) else (be 4 (lst (T.at_ 0)).length)) ++ ((lst (T.at_ 0)).flatMap (U1 v))) ++ fM:=⟨_,rfl⟩
 have qu:=qt.cast (t:=rO) (by rw [Ka,jt,js,jr]; unfold Hb; simp only [List.append_assoc])
 refine wp_seq ?_
 let ai:Nat × SV:=(8,.v (.int .i16 v))
 let fN:B8:=[(0,.p 1 0),ab,ah,ai]
 refine E1 fN qu fun _ qv=>?_
 refine A4 (wp_seq (E1 fN qv fun _ qw=>?_))
 refine A4 (wp_seq ?_)
 let ae:Nat × SV:=(9,.v (.bool (decide (v ≥ 9))))
 let fO:B8:=[(0,.p 1 0),ab,ah,ai,ae]
 refine E1 fO qw fun _ qx=>?_
 refine A4 (wp_seq (E1 fO qx fun _ qy=>?_))
 refine A4 (wp_seq ?_)
 let ac:Nat × SV:=(10,.p 1 0)
 let fP:B8:=[ab,ah,ai,ae,ac]
 refine E1 fP qy fun _ qz=>?_
 refine A4 (wp_seq (wp_seq (E1 [ab,ah,ai,ae,ac,(11,.v (.slice none 0 0))] qz fun _ qA=>?_)))
 refine A4 (wp_seq ?_)
 let cg:Nat × SV:=(12,.v (.slice none 0 0))
 let ef:B8:=[ab,ah,ai,ae,ac,cg]
 refine E1 ef qA fun _ qB=>?_
 refine A4 (wp_seq (E1 ef qB fun _ qC=>?_))
 refine A4 (wp_seq ?_)
 have qD:=qC.cast jt
 have qE:=qD.cast (t:=(if (decide (v ≥ 9)) = true then (uv ((lst (T.at_ 0)).length + 1)) else (be 4 (lst (T.at_ 0)).length)) ++ (((lst (T.at_ 0)).flatMap (U1 v)) ++ fM)) (by rw [List.append_assoc])
 let aj:Nat × SV:=(13,.v (.int .i32 (((lst (T.at_ 0)).length:Nat):Int)))
 let fQ:B8:=[ab,ah,ai,ae,ac,cg,aj]
 refine EB (d1:=81) (d2:=82) [ab,ah,ai,ae,ac,cg,(80,.v (.bool (decide (v ≥ 9))))] fQ qE (EO ((lst (T.at_ 0)).length) e26_0 _ (flat_ge' (JZ v) _)) Tryz.call56 (GZ ((lst (T.at_ 0)).length) e26_0 _ (flat_ge' (JZ v) _)) Tryz.call57 fun _ _ qF=>?_
 refine A4 (wp_seq (wp_seq (EM (d:=83) [ab,ah,ai,ae,ac,cg,aj,(84,.v (.bool false))] qF (EP _) Tryz.call58 fun _ _ ju=>?_)))
 refine A4 (G6 ju.env_ (b:=false) kz (rfl) ?_)
 refine wp_skip (A4 (wp_seq (EL (t:=57) (e:=78) (size:=19) (bytes:=64) (d:=87) (A0:=none) (m:=0) (cp:=0) [ab,ah,ai,ae,ac,aj,(86,.v (.slice none 0 0))] fQ 1 ju fun _ qG=>?_)))
 refine A4 ?_
 let cB:Nat × SV:=(7,.v (.pointer (some ⟨bB,0,none⟩)))
 let cC:Nat × SV:=(10,.v (.pointer (some ⟨bv,0,none⟩)))
 let bp:Value:=.string ByteArray.empty
 let aG:Value:=.pointer none
 refine EH (Mid:=fun a_ w_=>∃ (bq:DV) (P':G9),(∀ w F,P' w F → Ey w F ∧ (Slots w F 19 bq.A bq.c bq.l (fun i=>[.string (((bq.f i).f 0).s),B7 (((bq.f i).f 1).o.getD 0 0),B7 (((bq.f i).f 1).o.getD 1 0),B7 (((bq.f i).f 1).o.getD 2 0),B7 (((bq.f i).f 1).o.getD 3 0),B7 (((bq.f i).f 1).o.getD 4 0),B7 (((bq.f i).f 1).o.getD 5 0),B7 (((bq.f i).f 1).o.getD 6 0),B7 (((bq.f i).f 1).o.getD 7 0),B7 (((bq.f i).f 1).o.getD 8 0),B7 (((bq.f i).f 1).o.getD 9 0),B7 (((bq.f i).f 1).o.getD 10 0),B7 (((bq.f i).f 1).o.getD 11 0),B7 (((bq.f i).f 1).o.getD 12 0),B7 (((bq.f i).f 1).o.getD 13 0),B7 (((bq.f i).f 1).o.getD 14 0),B7 (((bq.f i).f 1).o.getD 15 0),.slice (((bq.f i).f 2).A) (((bq.f i).f 2).l) (((bq.f i).f 2).c),.map ((bq.f i).m)]) ∧ bq.l ≤ 1000000 ∧ ∀ i,i < bq.l → BL w F (bq.f i)) ∧ (bq.l = (lst (T.at_ 0)).length ∧ ∀ i,i < bq.l → CH v (bq.f i) ((lst (T.at_ 0)).getD i .zero))) ∧ RS w (fun b o=>b = bv ∧ o < 5) F 423 bB [aw] [ab,ah,ai,ae,ac,(12,.v (.slice bq.A bq.l bq.c))] P' fM a_ w_) ?_ ?_
 ·
  refine wp_seq (E1 [ab,ah,ai,ae,ac,cg,aj,(89,.v (.bool (decide ((((lst (T.at_ 0)).length:Nat):Int) > 0))))] qG fun _ iZ=>A4 ?_)
  let eg:Nat × SV:=(14,.v (.int .i32 0))
  refine E2 iZ.env_ (b:=decide ((((lst (T.at_ 0)).length:Nat):Int) > 0)) kz (fun fw=>?_) (fun fw=>?_)
  ·
   have hn_g55:0 < (lst (T.at_ 0)).length:=by have h_:=of_decide_eq_true fw; omega
   refine E4 [0,1,2,3] kz ?_
   refine I4 [0,1] [2,3] [ab,ah,ai,ae,ac,aj,(90,.v (.slice none 0 0)),(91,.v (.int .i32 (((lst (T.at_ 0)).length:Nat):Int)))] iZ fun _ qH=>?_
   let af:Value:=.int .u8 0
   refine B1 (EC (A0:=none) (d:=92) (t:=57) (tn:=21) (e:=78) (size:=19) (bytes:=64) (k:=.i32) (kn:=.i32) (q:=(((lst (T.at_ 0)).length:Nat):Int)) (j:=(lst (T.at_ 0)).length) (.agg #[bp,af,af,af,af,af,af,af,af,af,af,af,af,af,af,af,af,aC,au]) qH (fun bW jp _ _ hg_g55 hcap_g55 qI=>?_) rfl hn_g55 (by have:=e26_0; omega))
   let ak:Nat × SV:=(12,.v (.slice (some ⟨bW,0,none⟩) ((lst (T.at_ 0)).length) jp))
   refine I4 [3] [] [ab,ah,ai,ae,ac,ak,aj] qI fun _ qJ=>B4 ?_
   refine A4 (wp_seq (E1 [ab,ah,ai,ae,ac,ak,aj,eg] qJ fun _ jv=>?_))
   refine A4 (wp_block ?_)
   have fR:=jv.mv
   have qK:=(jv.cast (t:=(lst (T.at_ 0)).flatMap (U1 v) ++ fM) rfl).pk (env':=[ab,ah,ai,ae,ac,ak,aj,(14,.v (.int .i32 ((0:Nat):Int)))])
   let rB:Value:=.agg #[.string ByteArray.empty,.int .u8 0,.int .u8 0,.int .u8 0,.int .u8 0,.int .u8 0,.int .u8 0,.int .u8 0,.int .u8 0,.int .u8 0,.int .u8 0,.int .u8 0,.int .u8 0,.int .u8 0,.int .u8 0,.int .u8 0,.int .u8 0,.slice none 0 0,.map none]
   refine EF (tb:=[aw]) (z:=.agg #[bp,af,af,af,af,af,af,af,af,af,af,af,af,af,af,af,af,aC,au]) (cl:=Ke) (ok:=BL) (rel:=(CH v)) (L:=lst (T.at_ 0)) (size:=19) (U1 v) fM (fun k=>[ab,ah,ai,ae,ac,ak,aj,(14,.v (.int .i32 ((k:Nat):Int)))]) qK EZ (fun bS aH _ _ i6 qL qM=>?_) (fun _ _ qN=>?_)
   ·
    let al:Nat × SV:=(14,.v (.int .i32 ((bS:Nat):Int)))
    let cN:B8:=[ab,ah,ai,ae,ac,ak,aj,al]
    let rC:Value:=(.agg #[.string ByteArray.empty,.int .u8 0,.int .u8 0,.int .u8 0,.int .u8 0,.int .u8 0,.int .u8 0,.int .u8 0,.int .u8 0,.int .u8 0,.int .u8 0,.int .u8 0,.int .u8 0,.int .u8 0,.int .u8 0,.int .u8 0,.int .u8 0,.slice none 0 0,.map none])
    obtain ⟨rP,jw,qO⟩:∃ P',(∀ w F,P' w F → (Ey w F ∧ T7 bW 19 Ke BL (CH v) (lst (T.at_ 0)) bS w F)) ∧ RS w (fun b o=>b = bv ∧ o < 5) F 423 bB [aw,I5 bW 19 (.agg #[bp,af,af,af,af,af,af,af,af,af,af,af,af,af,af,af,af,aC,au]) ((lst (T.at_ 0)).length) bS] cN P' ((U1 v) aH ++ (((lst (T.at_ 0)).drop (bS + 1)).flatMap (U1 v) ++ fM)) _ _:=⟨_,fun _ _ h=>h,qM⟩
    obtain ⟨jx,jy⟩:∃ R,R = ((lst (T.at_ 0)).drop (bS + 1)).flatMap (U1 v) ++ fM:=⟨_,rfl⟩
    have rD:=(e26_0e aH (List.mem_of_getElem? i6))
    have e74r:=(Er (Bl e26r 0) aH (List.mem_of_getElem? i6))
    unfold Ev at rD
    obtain ⟨e74_0,e74_1,⟨e74_2,e74_2e⟩,e74_U,_⟩:=rD
    obtain ⟨fS,jz⟩:∃ R,R = (if (decide (v ≥ 9)) = true then (uv aH.U.length) ++ (D7 aH.U) else []) ++ jx:=⟨_,rfl⟩
    obtain ⟨jA,jB⟩:∃ R,R = ((if (decide (v ≥ 9)) = true then (uv ((lst (aH.at_ 2)).length + 1)) else (be 4 (lst (aH.at_ 2)).length)) ++ ((lst (aH.at_ 2)).flatMap (U0 v))) ++ fS:=⟨_,rfl⟩
    obtain ⟨i7,jC⟩:∃ R,R = (if (decide (v ≥ 13)) = true then (E8 (aH.at_ 1).S) else []) ++ jA:=⟨_,rfl⟩
    obtain ⟨rQ,jD⟩:∃ R,R = (if ((if (decide (v ≥ 0)) = true then decide (v ≤ 12) else false)) = true then if (decide (v ≥ 9)) = true then (uv ((aH.at_ 0).S.length + 1) ++ (aH.at_ 0).S) else (be 2 (aH.at_ 0).S.length ++ (aH.at_ 0).S) else []) ++ i7:=⟨_,rfl⟩
    have qP:=qO.cast (t:=rQ) (by rw [jD,jC,jB,jz,← jy]; unfold U1; simp only [List.append_assoc])
    refine wp_seq (wp_seq (E1 [ab,ah,ai,ae,ac,ak,aj,al,(95,.v (.bool (decide (((bS:Nat):Int) < (((lst (T.at_ 0)).length:Nat):Int)))))] qP fun _ jE=>A4 ?_))
    refine N7 jE.env_ (b:=decide (((bS:Nat):Int) < (((lst (T.at_ 0)).length:Nat):Int))) kz (decide_eq_true (by omega)) ?_
    refine wp_skip (A4 (wp_seq (wp_block (wp_seq ?_))))
    let fT:B8:=[ab,ah,ai,ae,ac,ak,aj,al,(15,.p 3 0)]
    refine EN (t:=57) (e:=78) (size:=19) (bytes:=64) (d:=100) (tb:=[aw]) (z:=.agg #[bp,af,af,af,af,af,af,af,af,af,af,af,af,af,af,af,af,aC,au]) [ab,ah,ai,ae,ac,ak,aj,al,(98,.v (.slice (some ⟨bW,0,none⟩) ((lst (T.at_ 0)).length) jp)),(99,.v (.int .i32 ((bS:Nat):Int)))] fT 2 jE qL rfl kz fun _ qQ=>?_
    let ax:Ob:=I5 bW 19 (.agg #[bp,af,af,af,af,af,af,af,af,af,af,af,af,af,af,af,af,aC,au]) ((lst (T.at_ 0)).length) (bS + 1)
    have qR:=qQ.tbEq (tb':=[aw,ax,⟨bW,bS * 19,[bp,af,af,af,af,af,af,af,af,af,af,af,af,af,af,af,af,aC,au],true⟩]) rfl
    refine A4 (wp_seq (E4 [0,1] kz ?_))
    refine I4 [0] [1] [ab,ah,ai,ae,ac,ak,aj,al,(15,.p 3 0),(101,.p 3 0)] qR fun _ qS=>?_
    refine B1 (GW (d:=102) (vs:=[.pointer (some ⟨bW,bS * 19,none⟩)]) qS (fun _=>PK _ _ _) Tryz.call60 fun _ qT=>?_)
    refine B4 ?_
    have qU:=qT.pk (env':=fT)
    refine A4 (wp_seq ?_)
    let am:Nat × SV:=(16,.p 3 0)
    let bE:B8:=[ab,ah,ai,ae,ac,ak,aj,al,am]
    refine E1 bE qU fun _ qV=>?_
    refine A4 (wp_seq ?_)
    have qW:=qV.cast jD
    refine S9 (Mid:=fun a_ w_=>∃ (fx:DV) (P':G9),(∀ w F,P' w F → rP w F ∧ (fx.s.size ≤ 1000000) ∧ ((if (decide (v ≥ 0)) = true then decide (v ≤ 12) else false) = true → fx.s = bs (aH.at_ 0).S) ∧ ((if (decide (v ≥ 0)) = true then decide (v ≤ 12) else false) = false → fx.s = ByteArray.empty)) ∧ RS w (fun b o=>b = bv ∧ o < 5) F 423 bB [aw,ax,⟨bW,bS * 19,[.string fx.s,af,af,af,af,af,af,af,af,af,af,af,af,af,af,af,af,aC,au],true⟩] bE P' i7 a_ w_) ?_ ?_
    ·
     refine wp_seq (E4 [0,1,2,3,4,5] kz ?_)
     refine I4 [0,1,2] [3,4,5] [ab,ah,ai,ae,ac,ak,aj,al,am,(106,.v (.bool (decide (v ≥ 0))))] qW fun _ jF=>?_
     refine (Bool.eq_false_or_eq_true (decide (v ≥ 0))).elim (fun cM=>?_) (fun cM=>?_)
     ·
      have qX:=jF.envEq (env':=[ab,ah,ai,ae,ac,ak,aj,al,am,(106,.v (.bool true))]) (by rw [cM])
      refine I4 [3,4,5] [] [ab,ah,ai,ae,ac,ak,aj,al,am,(109,.v (.bool (decide (v ≤ 12))))] qX fun _ ja=>B4 (A4 ?_)
      refine E2 ja.env_ (b:=decide (v ≤ 12)) kz (fun cO=>?_) (fun cO=>?_)
      ·
       have jG:=ja.cast (t:=(if (decide (v ≥ 9)) = true then (uv ((aH.at_ 0).S.length + 1) ++ (aH.at_ 0).S) else (be 2 (aH.at_ 0).S.length ++ (aH.at_ 0).S)) ++ i7) (by rw [if_pos (by simp only [cM,cO,if_true])])
       refine wp_seq (E1 bE jG fun _ jH=>?_)
       refine A4 (wp_seq (wp_seq (E1 [ab,ah,ai,ae,ac,ak,aj,al,am,(110,.v (.bool false))] jH fun _ fV=>A4 ?_)))
       refine G6 fV.env_ (b:=false) kz (rfl) ?_
       refine EB (d1:=115) (d2:=116) [ab,ah,ai,ae,ac,ak,aj,al,am,(114,.v (.bool (decide (v ≥ 9))))] [ab,ah,ai,ae,ac,ak,aj,al,am,(17,.v (.string (bs (aH.at_ 0).S)))] fV (JO (aH.at_ 0).S e74_0 _) Tryz.call63 (PA (aH.at_ 0).S e74_0 _) Tryz.call64 fun _ _ jI=>?_
       refine A4 (M0 [aw,ax,⟨bW,bS * 19,[.string (bs (aH.at_ 0).S),af,af,af,af,af,af,af,af,af,af,af,af,af,af,af,af,aC,au],true⟩] 2 bE jI fun _ _ jJ=>?_)
       refine A4 ?_
       exact ⟨Em (bs (aH.at_ 0).S),_,fun w F h_=>⟨h_,by show ByteArray.size (bs _) ≤ 1000000; rw [W6]; exact Nat.le_trans e74_0 (by decide),⟨fun _=>rfl,(fun e_=>by simp [cM,cO] at e_)⟩⟩,jJ.pk (env':=bE)⟩
      have jK:=ja.cast (t:=[] ++ i7) (by rw [if_neg (by simp only [cM,cO,if_true,if_false,Bool.false_eq_true]; try decide)])
      have jL:=jK.cast (t:=i7) rfl
      refine wp_skip (A4 ?_)
      exact ⟨Em ByteArray.empty,_,fun w F h_=>⟨h_,Nat.zero_le _,⟨(fun e_=>by simp [cM,cO] at e_),fun _=>rfl⟩⟩,jL.pk (env':=bE)⟩
     have jM:=jF.envEq (env':=[ab,ah,ai,ae,ac,ak,aj,al,am,(106,.v (.bool false))]) (by rw [cM])
     refine I4 [3,4,5] [] [ab,ah,ai,ae,ac,ak,aj,al,am,(109,.v (.bool false))] jM fun _ fW=>B4 (A4 ?_)
     refine G6 fW.env_ (b:=false) kz rfl ?_
     have jN:=fW.cast (t:=[] ++ i7) (by rw [if_neg (by simp only [cM,if_true,if_false,Bool.false_eq_true]; try decide)])
     have jO:=jN.cast (t:=i7) rfl
     refine wp_skip (A4 ?_)
     exact ⟨Em ByteArray.empty,_,fun w F h_=>⟨h_,Nat.zero_le _,⟨(fun e_=>by simp [cM] at e_),fun _=>rfl⟩⟩,jO.pk (env':=bE)⟩
    rintro _ _ ⟨fx,rR,fy,qY⟩
    refine A4 (wp_seq ?_)
    have jP:=qY.cast jC
    let cm:Value:=.string fx.s
    refine S9 (Mid:=fun a_ w_=>∃ (aE:DV) (P':G9),(∀ w F,P' w F → rR w F ∧ (aE.o.length = 16) ∧ ((decide (v ≥ 13)) = true → aE.o = E8 (aH.at_ 1).S) ∧ ((decide (v ≥ 13)) = false → aE.o = List.replicate 16 0)) ∧ RS w (fun b o=>b = bv ∧ o < 5) F 423 bB [aw,ax,⟨bW,bS * 19,[cm,B7 (aE.o.getD 0 0),B7 (aE.o.getD 1 0),B7 (aE.o.getD 2 0),B7 (aE.o.getD 3 0),B7 (aE.o.getD 4 0),B7 (aE.o.getD 5 0),B7 (aE.o.getD 6 0),B7 (aE.o.getD 7 0),B7 (aE.o.getD 8 0),B7 (aE.o.getD 9 0),B7 (aE.o.getD 10 0),B7 (aE.o.getD 11 0),B7 (aE.o.getD 12 0),B7 (aE.o.getD 13 0),B7 (aE.o.getD 14 0),B7 (aE.o.getD 15 0),aC,au],true⟩] bE P' jA a_ w_) ?_ ?_
    ·
     refine wp_seq (E1 [ab,ah,ai,ae,ac,ak,aj,al,am,(122,.v (.bool (decide (v ≥ 13))))] jP fun _ eh=>A4 ?_)
     refine E2 eh.env_ (b:=decide (v ≥ 13)) kz (fun cP=>?_) (fun cP=>?_)
     ·
      have jQ:=eh.cast (t:=(E8 (aH.at_ 1).S) ++ jA) (by rw [if_pos cP])
      refine wp_seq (E4 [0,1,2] kz ?_)
      refine B1 (EA (d:=123) jQ (PB (aH.at_ 1).S _) Tryz.call65 fun _ _ jR=>?_)
      refine B1 (GS (d:=18) [af,af,af,af,af,af,af,af,af,af,af,af,af,af,af,af] jR fun jS _ _ hb_b123 jT=>?_)
      let fX:Ob:=⟨bW,bS * 19,[cm,af,af,af,af,af,af,af,af,af,af,af,af,af,af,af,af,aC,au],true⟩
      have jU:=(jT.tbEq (tb':=[aw,ax,fX,⟨jS,0,[af,af,af,af,af,af,af,af,af,af,af,af,af,af,af,af],true⟩]) rfl).pk (env':=[ab,ah,ai,ae,ac,ak,aj,al,am,(122,.v (.bool (decide (v ≥ 13)))),(123,.v (.agg #[B7 ((E8 (aH.at_ 1).S).getD 0 0),B7 ((E8 (aH.at_ 1).S).getD 1 0),B7 ((E8 (aH.at_ 1).S).getD 2 0),B7 ((E8 (aH.at_ 1).S).getD 3 0),B7 ((E8 (aH.at_ 1).S).getD 4 0),B7 ((E8 (aH.at_ 1).S).getD 5 0),B7 ((E8 (aH.at_ 1).S).getD 6 0),B7 ((E8 (aH.at_ 1).S).getD 7 0),B7 ((E8 (aH.at_ 1).S).getD 8 0),B7 ((E8 (aH.at_ 1).S).getD 9 0),B7 ((E8 (aH.at_ 1).S).getD 10 0),B7 ((E8 (aH.at_ 1).S).getD 11 0),B7 ((E8 (aH.at_ 1).S).getD 12 0),B7 ((E8 (aH.at_ 1).S).getD 13 0),B7 ((E8 (aH.at_ 1).S).getD 14 0),B7 ((E8 (aH.at_ 1).S).getD 15 0)])),(18,.p 4 0)])
      let fY:Ob:=⟨jS,0,[B7 ((E8 (aH.at_ 1).S).getD 0 0),B7 ((E8 (aH.at_ 1).S).getD 1 0),B7 ((E8 (aH.at_ 1).S).getD 2 0),B7 ((E8 (aH.at_ 1).S).getD 3 0),B7 ((E8 (aH.at_ 1).S).getD 4 0),B7 ((E8 (aH.at_ 1).S).getD 5 0),B7 ((E8 (aH.at_ 1).S).getD 6 0),B7 ((E8 (aH.at_ 1).S).getD 7 0),B7 ((E8 (aH.at_ 1).S).getD 8 0),B7 ((E8 (aH.at_ 1).S).getD 9 0),B7 ((E8 (aH.at_ 1).S).getD 10 0),B7 ((E8 (aH.at_ 1).S).getD 11 0),B7 ((E8 (aH.at_ 1).S).getD 12 0),B7 ((E8 (aH.at_ 1).S).getD 13 0),B7 ((E8 (aH.at_ 1).S).getD 14 0),B7 ((E8 (aH.at_ 1).S).getD 15 0)],true⟩
      refine B1 (BP [aw,ax,fX,fY] 3 jU fun _ jV=>?_)
      refine B4 ?_
      have jW:=jV.pk (env':=[ab,ah,ai,ae,ac,ak,aj,al,am,(18,.p 4 0)])
      refine A4 ?_
      let fZ:Ob:=⟨bW,bS * 19,[cm,B7 ((E8 (aH.at_ 1).S).getD 0 0),B7 ((E8 (aH.at_ 1).S).getD 1 0),B7 ((E8 (aH.at_ 1).S).getD 2 0),B7 ((E8 (aH.at_ 1).S).getD 3 0),B7 ((E8 (aH.at_ 1).S).getD 4 0),B7 ((E8 (aH.at_ 1).S).getD 5 0),B7 ((E8 (aH.at_ 1).S).getD 6 0),B7 ((E8 (aH.at_ 1).S).getD 7 0),B7 ((E8 (aH.at_ 1).S).getD 8 0),B7 ((E8 (aH.at_ 1).S).getD 9 0),B7 ((E8 (aH.at_ 1).S).getD 10 0),B7 ((E8 (aH.at_ 1).S).getD 11 0),B7 ((E8 (aH.at_ 1).S).getD 12 0),B7 ((E8 (aH.at_ 1).S).getD 13 0),B7 ((E8 (aH.at_ 1).S).getD 14 0),B7 ((E8 (aH.at_ 1).S).getD 15 0),aC,au],true⟩
      refine M0 [aw,ax,fZ,fY] 2 bE jW fun _ _ jX=>?_
      have jY:=RS.dropT (tb:=[aw,ax,fZ]) jX hb_b123 kz
      refine A4 ?_
      exact ⟨Jf none (E8 (aH.at_ 1).S) 0,_,fun w F h_=>⟨h_,ID _,⟨fun _=>rfl,(fun e_=>by rw [cP] at e_; cases e_)⟩⟩,jY.pk (env':=bE)⟩
     have jZ:=eh.cast (t:=[] ++ jA) (by rw [if_neg (by rw [cP]; decide)])
     have j0:=jZ.cast (t:=jA) rfl
     refine wp_skip (A4 ?_)
     exact ⟨Jf none (List.replicate 16 0) 0,_,fun w F h_=>⟨h_,rfl,⟨(fun e_=>by rw [cP] at e_; cases e_),fun _=>rfl⟩⟩,j0.pk (env':=bE)⟩
    rintro _ _ ⟨aE,j1,cE,j2⟩
    refine A4 (wp_seq (wp_seq (E1 [ab,ah,ai,ae,ac,ak,aj,al,am,(19,.v (.slice none 0 0))] j2 fun _ j3=>?_)))
    refine A4 (wp_seq ?_)
    let cq:Nat × SV:=(20,.v (.slice none 0 0))
    let ei:B8:=[ab,ah,ai,ae,ac,ak,aj,al,am,cq]
    refine E1 ei j3 fun _ j4=>?_
    refine A4 (wp_seq (E1 ei j4 fun _ j5=>?_))
    refine A4 (wp_seq ?_)
    have j6:=j5.cast jB
    have j7:=j6.cast (t:=(if (decide (v ≥ 9)) = true then (uv ((lst (aH.at_ 2)).length + 1)) else (be 4 (lst (aH.at_ 2)).length)) ++ (((lst (aH.at_ 2)).flatMap (U0 v)) ++ fS)) (by rw [List.append_assoc])
    let ao:Nat × SV:=(21,.v (.int .i32 (((lst (aH.at_ 2)).length:Nat):Int)))
    let f5:B8:=[ab,ah,ai,ae,ac,ak,aj,al,am,cq,ao]
    refine EB (d1:=134) (d2:=135) [ab,ah,ai,ae,ac,ak,aj,al,am,cq,(133,.v (.bool (decide (v ≥ 9))))] f5 j7 (EO ((lst (aH.at_ 2)).length) e74_2 _ (flat_ge' (JY v) _)) Tryz.call56 (GZ ((lst (aH.at_ 2)).length) e74_2 _ (flat_ge' (JY v) _)) Tryz.call57 fun _ _ j8=>?_
    refine A4 (wp_seq (wp_seq (EM (d:=136) [ab,ah,ai,ae,ac,ak,aj,al,am,cq,ao,(137,.v (.bool false))] j8 (EP _) Tryz.call58 fun _ _ f7=>?_)))
    refine A4 (G6 f7.env_ (b:=false) kz (rfl) ?_)
    refine wp_skip (A4 (wp_seq (EL (t:=76) (e:=87) (size:=11) (bytes:=88) (d:=140) (A0:=none) (m:=0) (cp:=0) [ab,ah,ai,ae,ac,ak,aj,al,am,ao,(139,.v (.slice none 0 0))] f5 1 f7 fun _ j9=>?_)))
    refine A4 ?_
    let dA:Value:=B7 (aE.o.getD 0 0)
    let dB:Value:=B7 (aE.o.getD 1 0)
    let dC:Value:=B7 (aE.o.getD 2 0)
    let dD:Value:=B7 (aE.o.getD 3 0)
    let dE:Value:=B7 (aE.o.getD 4 0)
    let dF:Value:=B7 (aE.o.getD 5 0)
    let dG:Value:=B7 (aE.o.getD 6 0)
    let dH:Value:=B7 (aE.o.getD 7 0)
    let dI:Value:=B7 (aE.o.getD 8 0)
    let dJ:Value:=B7 (aE.o.getD 9 0)
    let dK:Value:=B7 (aE.o.getD 10 0)
    let dL:Value:=B7 (aE.o.getD 11 0)
    let dM:Value:=B7 (aE.o.getD 12 0)
    let dN:Value:=B7 (aE.o.getD 13 0)
    let dO:Value:=B7 (aE.o.getD 14 0)
    let dP:Value:=B7 (aE.o.getD 15 0)
    let aA:Ob:=⟨bW,bS * 19,[cm,dA,dB,dC,dD,dE,dF,dG,dH,dI,dJ,dK,dL,dM,dN,dO,dP,aC,au],true⟩
    refine EH (Mid:=fun a_ w_=>∃ (aT:DV) (P':G9),(∀ w F,P' w F → j1 w F ∧ (Slots w F 11 aT.A aT.c aT.l (fun i=>[.int .i32 (((aT.f i).f 0).n),.int .i16 (((aT.f i).f 1).n),.int .i64 (((aT.f i).f 2).n),.int .i64 (((aT.f i).f 3).n),.int .i64 (((aT.f i).f 4).n),.slice (((aT.f i).f 5).A) (((aT.f i).f 5).l) (((aT.f i).f 5).c),.pointer (((aT.f i).f 6).A),.int .i32 ((((aT.f i).f 7).f 0).n),.int .i32 ((((aT.f i).f 7).f 1).n),.map (((aT.f i).f 7).m),.map ((aT.f i).m)]) ∧ aT.l ≤ 1000000 ∧ ∀ i,i < aT.l → BK w F (aT.f i)) ∧ (aT.l = (lst (aH.at_ 2)).length ∧ ∀ i,i < aT.l → CG v (aT.f i) ((lst (aH.at_ 2)).getD i .zero))) ∧ RS w (fun b o=>b = bv ∧ o < 5) F 423 bB [aw,ax,aA] [ab,ah,ai,ae,ac,ak,aj,al,am,(20,.v (.slice aT.A aT.l aT.c))] P' fS a_ w_) ?_ ?_
    ·
     refine wp_seq (E1 [ab,ah,ai,ae,ac,ak,aj,al,am,cq,ao,(142,.v (.bool (decide ((((lst (aH.at_ 2)).length:Nat):Int) > 0))))] j9 fun _ ej=>A4 ?_)
     let ek:Nat × SV:=(22,.v (.int .i32 0))
     refine E2 ej.env_ (b:=decide ((((lst (aH.at_ 2)).length:Nat):Int) > 0)) kz (fun dQ=>?_) (fun dQ=>?_)
     ·
      have hn_g148:0 < (lst (aH.at_ 2)).length:=by have h_:=of_decide_eq_true dQ; omega
      refine E4 [0,1,2,3] kz ?_
      refine I4 [0,1] [2,3] [ab,ah,ai,ae,ac,ak,aj,al,am,ao,(143,.v (.slice none 0 0)),(144,.v (.int .i32 (((lst (aH.at_ 2)).length:Nat):Int)))] ej fun _ ka=>?_
      let bF:Value:=.int .i16 0
      let aO:Value:=.int .i64 0
      refine B1 (EC (A0:=none) (d:=145) (t:=76) (tn:=21) (e:=87) (size:=11) (bytes:=88) (k:=.i32) (kn:=.i32) (q:=(((lst (aH.at_ 2)).length:Nat):Int)) (j:=(lst (aH.at_ 2)).length) (.agg #[ay,bF,aO,aO,aO,aC,aG,ay,ay,au,au]) ka (fun aN ec _ _ hg_g148 hcap_g148 kd=>?_) rfl hn_g148 (by have:=e74_2; omega))
      let ap:Nat × SV:=(20,.v (.slice (some ⟨aN,0,none⟩) ((lst (aH.at_ 2)).length) ec))
      refine I4 [3] [] [ab,ah,ai,ae,ac,ak,aj,al,am,ap,ao] kd fun _ ke=>B4 ?_
      refine A4 (wp_seq (E1 [ab,ah,ai,ae,ac,ak,aj,al,am,ap,ao,ek] ke fun _ f8=>?_))
      refine A4 (wp_block ?_)
      have em:=f8.mv
      have kf:=(f8.cast (t:=(lst (aH.at_ 2)).flatMap (U0 v) ++ fS) rfl).pk (env':=[ab,ah,ai,ae,ac,ak,aj,al,am,ap,ao,(22,.v (.int .i32 ((0:Nat):Int)))])
      let rE:Value:=.agg #[.int .i32 0,.int .i16 0,.int .i64 0,.int .i64 0,.int .i64 0,.slice none 0 0,.pointer none,.int .i32 0,.int .i32 0,.map none,.map none]
      refine EF (tb:=[aw,ax,aA]) (z:=.agg #[ay,bF,aO,aO,aO,aC,aG,ay,ay,au,au]) (cl:=Kd) (ok:=BK) (rel:=(CG v)) (L:=lst (aH.at_ 2)) (size:=11) (U0 v) fS (fun k=>[ab,ah,ai,ae,ac,ak,aj,al,am,ap,ao,(22,.v (.int .i32 ((k:Nat):Int)))]) kf EY (fun aJ ag _ _ eo kg kh=>?_) (fun _ _ ki=>?_)
      ·
       let ar:Nat × SV:=(22,.v (.int .i32 ((aJ:Nat):Int)))
       let dR:B8:=[ab,ah,ai,ae,ac,ak,aj,al,am,ap,ao,ar]
       let rF:Value:=(.agg #[.int .i32 0,.int .i16 0,.int .i64 0,.int .i64 0,.int .i64 0,.slice none 0 0,.pointer none,.int .i32 0,.int .i32 0,.map none,.map none])
       obtain ⟨qZ,f9,kj⟩:∃ P',(∀ w F,P' w F → (j1 w F ∧ T7 aN 11 Kd BK (CG v) (lst (aH.at_ 2)) aJ w F)) ∧ RS w (fun b o=>b = bv ∧ o < 5) F 423 bB [aw,ax,aA,I5 aN 11 (.agg #[ay,bF,aO,aO,aO,aC,aG,ay,ay,au,au]) ((lst (aH.at_ 2)).length) aJ] dR P' ((U0 v) ag ++ (((lst (aH.at_ 2)).drop (aJ + 1)).flatMap (U0 v) ++ fS)) _ _:=⟨_,fun _ _ h=>h,kh⟩
       obtain ⟨cy,ga⟩:∃ R,R = ((lst (aH.at_ 2)).drop (aJ + 1)).flatMap (U0 v) ++ fS:=⟨_,rfl⟩
       have km:=(e74_2e ag (List.mem_of_getElem? eo))
       have e167r:=(Er (Bl e74r 2) ag (List.mem_of_getElem? eo))
       unfold Eu at km
       obtain ⟨e167_0,e167_1,e167_2,e167_3,e167_4,⟨e167_5,e167_5e⟩,e167_6,⟨e167_7,e167_7V⟩,e167_U,e167_K,_⟩:=km
       obtain ⟨cQ,gb⟩:∃ R,R = (if (decide (v ≥ 9)) = true then (uv (B5 (G3 ag) + ag.U.length)) ++ ((G8 (G3 ag) 0 ((K6 v (ag.at_ 7)))) ++ (D7 ag.U)) else []) ++ cy:=⟨_,rfl⟩
       obtain ⟨cd,gc⟩:∃ R,R = (if (decide (v ≥ 8)) = true then if (decide (v ≥ 9)) = true then (if (ag.at_ 6).null = true then uv 0 else uv ((D9 (ag.at_ 6)).length + 1) ++ (D9 (ag.at_ 6))) else (if (ag.at_ 6).null = true then be 2 (-1) else be 2 (D9 (ag.at_ 6)).length ++ (D9 (ag.at_ 6))) else []) ++ cQ:=⟨_,rfl⟩
       obtain ⟨eu,gd⟩:∃ R,R = (if (decide (v ≥ 8)) = true then (if (decide (v ≥ 9)) = true then (uv ((lst (ag.at_ 5)).length + 1)) else (be 4 (lst (ag.at_ 5)).length)) ++ ((lst (ag.at_ 5)).flatMap (T0 v)) else []) ++ cd:=⟨_,rfl⟩
       obtain ⟨ev,ge⟩:∃ R,R = (if (decide (v ≥ 5)) = true then be 8 ((ag.at_ 4).N) else []) ++ eu:=⟨_,rfl⟩
       obtain ⟨q4,gg⟩:∃ R,R = (if (decide (v ≥ 2)) = true then be 8 ((ag.at_ 3).N) else []) ++ ev:=⟨_,rfl⟩
       obtain ⟨q5,gh⟩:∃ R,R = (be 8 ((ag.at_ 2).N)) ++ q4:=⟨_,rfl⟩
       obtain ⟨q6,gi⟩:∃ R,R = (be 2 ((IntKind.i16.wrap (ag.at_ 1).N))) ++ q5:=⟨_,rfl⟩
       obtain ⟨q7,gj⟩:∃ R,R = (be 4 ((IntKind.i32.wrap (ag.at_ 0).N))) ++ q6:=⟨_,rfl⟩
       have ko:=kj.cast (t:=q7) (by rw [gj,gi,gh,gg,ge,gd,gc,gb,← ga]; unfold U0; simp only [List.append_assoc])
       refine wp_seq (wp_seq (E1 [ab,ah,ai,ae,ac,ak,aj,al,am,ap,ao,ar,(148,.v (.bool (decide (((aJ:Nat):Int) < (((lst (aH.at_ 2)).length:Nat):Int)))))] ko fun _ gk=>A4 ?_))
       refine N7 gk.env_ (b:=decide (((aJ:Nat):Int) < (((lst (aH.at_ 2)).length:Nat):Int))) kz (decide_eq_true (by omega)) ?_
       refine wp_skip (A4 (wp_seq (wp_block (wp_seq ?_))))
       let gl:B8:=[ab,ah,ai,ae,ac,ak,aj,al,am,ap,ao,ar,(23,.p 5 0)]
       refine EN (t:=76) (e:=87) (size:=11) (bytes:=88) (d:=153) (tb:=[aw,ax,aA]) (z:=.agg #[ay,bF,aO,aO,aO,aC,aG,ay,ay,au,au]) [ab,ah,ai,ae,ac,ak,aj,al,am,ap,ao,ar,(151,.v (.slice (some ⟨aN,0,none⟩) ((lst (aH.at_ 2)).length) ec)),(152,.v (.int .i32 ((aJ:Nat):Int)))] gl 2 gk kg rfl kz fun _ kp=>?_
       let aD:Ob:=I5 aN 11 (.agg #[ay,bF,aO,aO,aO,aC,aG,ay,ay,au,au]) ((lst (aH.at_ 2)).length) (aJ + 1)
       have kq:=kp.tbEq (tb':=[aw,ax,aA,aD,⟨aN,aJ * 11,[ay,bF,aO,aO,aO,aC,aG,ay,ay,au,au],true⟩]) rfl
       refine A4 (wp_seq (E4 [0,1] kz ?_))
       refine I4 [0] [1] [ab,ah,ai,ae,ac,ak,aj,al,am,ap,ao,ar,(23,.p 5 0),(154,.p 5 0)] kq fun _ ku=>?_
       refine B1 (JI (d:=155) (vs:=[.pointer (some ⟨aN,aJ * 11,none⟩)]) ku Tryz.call66 Tryz.func66 rfl Tryz.ntmps66 (fun _ kv=>?_))
       have kw:=(kv.recast 0 (.v (.pointer (some ⟨aN,aJ * 11,none⟩))) (.p 5 0) rfl rfl (Nat.le_of_ble_eq_true (n:=6) rfl)).pk (env':=[(0,.p 5 0)])
       refine wp_seq ?_
       let bt:Value:=.int .i64 (-1)
       refine M0 [aw,ax,aA,aD,⟨aN,aJ * 11,[ay,bF,aO,bt,aO,aC,aG,ay,ay,au,au],true⟩] 4 [(0,.p 5 0)] kw fun _ _ ky=>?_
       refine A4 (wp_seq (M0 [aw,ax,aA,aD,⟨aN,aJ * 11,[ay,bF,aO,bt,bt,aC,aG,ay,ay,au,au],true⟩] 4 [(0,.p 5 0)] ky fun _ _ kA=>?_))
       refine A4 (wp_seq (E1 [(2,.p 5 7)] kA fun _ kB=>?_))
       refine A4 (wp_seq (E1 [(2,.p 5 7)] kB fun _ kC=>?_))
       refine A4 (wp_seq ?_)
       let aL:Value:=.int .i32 (-1)
       refine M0 [aw,ax,aA,aD,⟨aN,aJ * 11,[ay,bF,aO,bt,bt,aC,aG,aL,ay,au,au],true⟩] 4 [(2,.p 5 7)] kC fun _ _ kD=>?_
       refine A4 (M0 [aw,ax,aA,aD,⟨aN,aJ * 11,[ay,bF,aO,bt,bt,aC,aG,aL,aL,au,au],true⟩] 4 [] kD fun _ _ kE=>?_)
       refine JJ (v:=.tuple #[]) kE (fun _ kF=>?_) (⟨rfl,rfl,⟨rfl,rfl,⟨rfl,rfl,⟨rfl,rfl,⟨rfl,rfl,⟨rfl,rfl,trivial⟩⟩⟩⟩⟩⟩)
       refine B4 ?_
       have kG:=kF.pk (env':=gl)
       refine A4 (wp_seq ?_)
       let av:Nat × SV:=(24,.p 5 0)
       let aW:B8:=[ab,ah,ai,ae,ac,ak,aj,al,am,ap,ao,ar,av]
       refine E1 aW kG fun _ kH=>?_
       refine A4 (wp_seq (wp_seq ?_))
       have kI:=kH.cast gj
       refine O6 (d:=157) [ab,ah,ai,ae,ac,ak,aj,al,am,ap,ao,ar,av,(25,.v (.int .i32 (IntKind.i32.wrap (ag.at_ 0).N)))] kI (BS _ _) Tryz.call67 fun _ _ kJ=>?_
       refine A4 ?_
       let aS:Value:=.int .i32 (IntKind.i32.wrap (ag.at_ 0).N)
       refine M0 [aw,ax,aA,aD,⟨aN,aJ * 11,[aS,bF,aO,bt,bt,aC,aG,aL,aL,au,au],true⟩] 4 aW kJ fun _ _ kK=>?_
       refine A4 (wp_seq (wp_seq ?_))
       have kM:=kK.cast gi
       refine O6 (d:=162) [ab,ah,ai,ae,ac,ak,aj,al,am,ap,ao,ar,av,(26,.v (.int .i16 (IntKind.i16.wrap (ag.at_ 1).N)))] kM (Pz _ _) Tryz.call68 fun _ _ kN=>?_
       refine A4 ?_
       let aX:Value:=.int .i16 (IntKind.i16.wrap (ag.at_ 1).N)
       refine M0 [aw,ax,aA,aD,⟨aN,aJ * 11,[aS,aX,aO,bt,bt,aC,aG,aL,aL,au,au],true⟩] 4 aW kN fun _ _ kO=>?_
       refine A4 (wp_seq (wp_seq ?_))
       have kP:=kO.cast gh
       refine O6 (d:=167) [ab,ah,ai,ae,ac,ak,aj,al,am,ap,ao,ar,av,(27,.v (.int .i64 (IntKind.i64.wrap (ag.at_ 2).N)))] kP (GX _ _) Tryz.call69 fun _ _ kQ=>?_
       refine A4 ?_
       let aY:Value:=.int .i64 (IntKind.i64.wrap (ag.at_ 2).N)
       refine M0 [aw,ax,aA,aD,⟨aN,aJ * 11,[aS,aX,aY,bt,bt,aC,aG,aL,aL,au,au],true⟩] 4 aW kQ fun _ _ kR=>?_
       refine A4 (wp_seq ?_)
       have kS:=kR.cast gg
       refine S9 (Mid:=fun a_ w_=>∃ (cR:DV) (P':G9),(∀ w F,P' w F → qZ w F ∧ (True) ∧ ((decide (v ≥ 2)) = true → cR.n = IntKind.i64.wrap (ag.at_ 3).N) ∧ ((decide (v ≥ 2)) = false → cR.n = -1)) ∧ RS w (fun b o=>b = bv ∧ o < 5) F 423 bB [aw,ax,aA,aD,⟨aN,aJ * 11,[aS,aX,aY,.int .i64 cR.n,bt,aC,aG,aL,aL,au,au],true⟩] aW P' ev a_ w_) ?_ ?_
       ·
        refine wp_seq (E1 [ab,ah,ai,ae,ac,ak,aj,al,am,ap,ao,ar,av,(173,.v (.bool (decide (v ≥ 2))))] kS fun _ ew=>A4 ?_)
        refine E2 ew.env_ (b:=decide (v ≥ 2)) kz (fun cS=>?_) (fun cS=>?_)
        ·
         have kU:=ew.cast (t:=(be 8 ((ag.at_ 3).N)) ++ ev) (by rw [if_pos cS])
         refine wp_seq (O6 (d:=174) [ab,ah,ai,ae,ac,ak,aj,al,am,ap,ao,ar,av,(28,.v (.int .i64 (IntKind.i64.wrap (ag.at_ 3).N)))] kU (GX _ _) Tryz.call69 fun _ _ kV=>?_)
         refine A4 (M0 [aw,ax,aA,aD,⟨aN,aJ * 11,[aS,aX,aY,.int .i64 (IntKind.i64.wrap (ag.at_ 3).N),bt,aC,aG,aL,aL,au,au],true⟩] 4 aW kV fun _ _ kW=>?_)
         refine A4 ?_
         exact ⟨P7 (IntKind.i64.wrap (ag.at_ 3).N),_,fun w F h_=>⟨h_,trivial,⟨fun _=>rfl,(fun e_=>by rw [cS] at e_; cases e_)⟩⟩,kW.pk (env':=aW)⟩
        have kX:=ew.cast (t:=[] ++ ev) (by rw [if_neg (by rw [cS]; decide)])
        have kY:=kX.cast (t:=ev) rfl
        refine wp_skip (A4 ?_)
        exact ⟨P7 (-1),_,fun w F h_=>⟨h_,trivial,⟨(fun e_=>by rw [cS] at e_; cases e_),fun _=>rfl⟩⟩,kY.pk (env':=aW)⟩
       rintro _ _ ⟨cR,q8,dS,kZ⟩
       refine A4 (wp_seq ?_)
       have k7:=kZ.cast ge
       let bf:Value:=.int .i64 cR.n
       refine S9 (Mid:=fun a_ w_=>∃ (cU:DV) (P':G9),(∀ w F,P' w F → q8 w F ∧ (True) ∧ ((decide (v ≥ 5)) = true → cU.n = IntKind.i64.wrap (ag.at_ 4).N) ∧ ((decide (v ≥ 5)) = false → cU.n = -1)) ∧ RS w (fun b o=>b = bv ∧ o < 5) F 423 bB [aw,ax,aA,aD,⟨aN,aJ * 11,[aS,aX,aY,bf,.int .i64 cU.n,aC,aG,aL,aL,au,au],true⟩] aW P' eu a_ w_) ?_ ?_
       ·
        refine wp_seq (E1 [ab,ah,ai,ae,ac,ak,aj,al,am,ap,ao,ar,av,(180,.v (.bool (decide (v ≥ 5))))] k7 fun _ ey=>A4 ?_)
        refine E2 ey.env_ (b:=decide (v ≥ 5)) kz (fun cV=>?_) (fun cV=>?_)
        ·
         have la:=ey.cast (t:=(be 8 ((ag.at_ 4).N)) ++ eu) (by rw [if_pos cV])
         refine wp_seq (O6 (d:=181) [ab,ah,ai,ae,ac,ak,aj,al,am,ap,ao,ar,av,(29,.v (.int .i64 (IntKind.i64.wrap (ag.at_ 4).N)))] la (GX _ _) Tryz.call69 fun _ _ lb=>?_)
         refine A4 (M0 [aw,ax,aA,aD,⟨aN,aJ * 11,[aS,aX,aY,bf,.int .i64 (IntKind.i64.wrap (ag.at_ 4).N),aC,aG,aL,aL,au,au],true⟩] 4 aW lb fun _ _ lc=>?_)
         refine A4 ?_
         exact ⟨P7 (IntKind.i64.wrap (ag.at_ 4).N),_,fun w F h_=>⟨h_,trivial,⟨fun _=>rfl,(fun e_=>by rw [cV] at e_; cases e_)⟩⟩,lc.pk (env':=aW)⟩
        have ld:=ey.cast (t:=[] ++ eu) (by rw [if_neg (by rw [cV]; decide)])
        have lf:=ld.cast (t:=eu) rfl
        refine wp_skip (A4 ?_)
        exact ⟨P7 (-1),_,fun w F h_=>⟨h_,trivial,⟨(fun e_=>by rw [cV] at e_; cases e_),fun _=>rfl⟩⟩,lf.pk (env':=aW)⟩
       rintro _ _ ⟨cU,jb,cG,lg⟩
       refine A4 (wp_seq ?_)
       have lh:=lg.cast gd
       let bu:Value:=.int .i64 cU.n
       refine S9 (Mid:=fun a_ w_=>∃ (aZ:DV) (P':G9),(∀ w F,P' w F → jb w F ∧ (Slots w F 3 aZ.A aZ.c aZ.l (fun i=>[.int .i32 (((aZ.f i).f 0).n),.pointer (((aZ.f i).f 1).A),.map ((aZ.f i).m)]) ∧ aZ.l ≤ 1000000 ∧ ∀ i,i < aZ.l → Bk w F (aZ.f i)) ∧ ((decide (v ≥ 8)) = true → (aZ.l = (lst (ag.at_ 5)).length ∧ ∀ i,i < aZ.l → BU v (aZ.f i) ((lst (ag.at_ 5)).getD i .zero))) ∧ ((decide (v ≥ 8)) = false → (aZ.A = none ∧ aZ.l = 0))) ∧ RS w (fun b o=>b = bv ∧ o < 5) F 423 bB [aw,ax,aA,aD,⟨aN,aJ * 11,[aS,aX,aY,bf,bu,.slice aZ.A aZ.l aZ.c,aG,aL,aL,au,au],true⟩] aW P' cd a_ w_) ?_ ?_
       ·
        refine wp_seq (E1 [ab,ah,ai,ae,ac,ak,aj,al,am,ap,ao,ar,av,(187,.v (.bool (decide (v ≥ 8))))] lh fun _ ez=>A4 ?_)
        refine E2 ez.env_ (b:=decide (v ≥ 8)) kz (fun cW=>?_) (fun cW=>?_)
        ·
         have li:=ez.cast (t:=((if (decide (v ≥ 9)) = true then (uv ((lst (ag.at_ 5)).length + 1)) else (be 4 (lst (ag.at_ 5)).length)) ++ ((lst (ag.at_ 5)).flatMap (T0 v))) ++ cd) (by rw [if_pos cW])
         refine wp_seq (E1 [ab,ah,ai,ae,ac,ak,aj,al,am,ap,ao,ar,av,(30,.v (.slice none 0 0))] li fun _ lj=>?_)
         refine A4 (wp_seq ?_)
         let cr:Nat × SV:=(31,.v (.slice none 0 0))
         let eB:B8:=[ab,ah,ai,ae,ac,ak,aj,al,am,ap,ao,ar,av,cr]
         refine E1 eB lj fun _ lm=>?_
         refine A4 (wp_seq (E1 eB lm fun _ ln=>?_))
         refine A4 (wp_seq ?_)
         have lp:=ln.cast (t:=(if (decide (v ≥ 9)) = true then (uv ((lst (ag.at_ 5)).length + 1)) else (be 4 (lst (ag.at_ 5)).length)) ++ (((lst (ag.at_ 5)).flatMap (T0 v)) ++ cd)) (by rw [List.append_assoc])
         let aM:Nat × SV:=(32,.v (.int .i32 (((lst (ag.at_ 5)).length:Nat):Int)))
         let gm:B8:=[ab,ah,ai,ae,ac,ak,aj,al,am,ap,ao,ar,av,cr,aM]
         refine EB (d1:=194) (d2:=195) [ab,ah,ai,ae,ac,ak,aj,al,am,ap,ao,ar,av,cr,(193,.v (.bool (decide (v ≥ 9))))] gm lp (EO ((lst (ag.at_ 5)).length) e167_5 _ (flat_ge' (JX v) _)) Tryz.call56 (GZ ((lst (ag.at_ 5)).length) e167_5 _ (flat_ge' (JX v) _)) Tryz.call57 fun _ _ lq=>?_
         refine A4 (wp_seq (wp_seq (EM (d:=196) [ab,ah,ai,ae,ac,ak,aj,al,am,ap,ao,ar,av,cr,aM,(197,.v (.bool false))] lq (EP _) Tryz.call58 fun _ _ gn=>?_)))
         refine A4 (G6 gn.env_ (b:=false) kz (rfl) ?_)
         refine wp_skip (A4 (wp_seq (EL (t:=82) (e:=93) (size:=3) (bytes:=24) (d:=200) (A0:=none) (m:=0) (cp:=0) [ab,ah,ai,ae,ac,ak,aj,al,am,ap,ao,ar,av,aM,(199,.v (.slice none 0 0))] gm 1 gn fun _ lr=>?_)))
         refine A4 ?_
         let bG:Ob:=⟨aN,aJ * 11,[aS,aX,aY,bf,bu,aC,aG,aL,aL,au,au],true⟩
         refine EH (Mid:=fun a_ w_=>∃ (bw:DV) (P':G9),(∀ w F,P' w F → jb w F ∧ (Slots w F 3 bw.A bw.c bw.l (fun i=>[.int .i32 (((bw.f i).f 0).n),.pointer (((bw.f i).f 1).A),.map ((bw.f i).m)]) ∧ bw.l ≤ 1000000 ∧ ∀ i,i < bw.l → Bk w F (bw.f i)) ∧ (bw.l = (lst (ag.at_ 5)).length ∧ ∀ i,i < bw.l → BU v (bw.f i) ((lst (ag.at_ 5)).getD i .zero))) ∧ RS w (fun b o=>b = bv ∧ o < 5) F 423 bB [aw,ax,aA,aD,bG] [ab,ah,ai,ae,ac,ak,aj,al,am,ap,ao,ar,av,(31,.v (.slice bw.A bw.l bw.c))] P' cd a_ w_) ?_ ?_
         ·
          refine wp_seq (E1 [ab,ah,ai,ae,ac,ak,aj,al,am,ap,ao,ar,av,cr,aM,(202,.v (.bool (decide ((((lst (ag.at_ 5)).length:Nat):Int) > 0))))] lr fun _ eC=>A4 ?_)
          refine E2 eC.env_ (b:=decide ((((lst (ag.at_ 5)).length:Nat):Int) > 0)) kz (fun dT=>?_) (fun dT=>?_)
          ·
           have hn_g261:0 < (lst (ag.at_ 5)).length:=by have h_:=of_decide_eq_true dT; omega
           refine E4 [0,1,2,3] kz ?_
           refine I4 [0,1] [2,3] [ab,ah,ai,ae,ac,ak,aj,al,am,ap,ao,ar,av,aM,(203,.v (.slice none 0 0)),(204,.v (.int .i32 (((lst (ag.at_ 5)).length:Nat):Int)))] eC fun _ ls=>?_
           refine B1 (EC (A0:=none) (d:=205) (t:=82) (tn:=21) (e:=93) (size:=3) (bytes:=24) (k:=.i32) (kn:=.i32) (q:=(((lst (ag.at_ 5)).length:Nat):Int)) (j:=(lst (ag.at_ 5)).length) (.agg #[ay,aG,au]) ls (fun ce fz _ _ hg_g261 hcap_g261 lu=>?_) rfl hn_g261 (by have:=e167_5; omega))
           let aP:Nat × SV:=(31,.v (.slice (some ⟨ce,0,none⟩) ((lst (ag.at_ 5)).length) fz))
           refine I4 [3] [] [ab,ah,ai,ae,ac,ak,aj,al,am,ap,ao,ar,av,aP,aM] lu fun _ lv=>B4 ?_
           refine A4 (wp_seq (E1 [ab,ah,ai,ae,ac,ak,aj,al,am,ap,ao,ar,av,aP,aM,(33,.v (.int .i32 0))] lv fun _ gp=>?_))
           refine A4 (wp_block ?_)
           have eD:=gp.mv
           have lw:=(gp.cast (t:=(lst (ag.at_ 5)).flatMap (T0 v) ++ cd) rfl).pk (env':=[ab,ah,ai,ae,ac,ak,aj,al,am,ap,ao,ar,av,aP,aM,(33,.v (.int .i32 ((0:Nat):Int)))])
           let rG:Value:=.agg #[.int .i32 0,.pointer none,.map none]
           refine EF (tb:=[aw,ax,aA,aD,bG]) (z:=.agg #[ay,aG,au]) (cl:=Kc) (ok:=Bk) (rel:=(BU v)) (L:=lst (ag.at_ 5)) (size:=3) (T0 v) cd (fun k=>[ab,ah,ai,ae,ac,ak,aj,al,am,ap,ao,ar,av,aP,aM,(33,.v (.int .i32 ((k:Nat):Int)))]) lw EX (fun bL aU _ _ eE lx ly=>?_) (fun _ _ lz=>?_)
           ·
            let ba:Nat × SV:=(33,.v (.int .i32 ((bL:Nat):Int)))
            let cX:B8:=[ab,ah,ai,ae,ac,ak,aj,al,am,ap,ao,ar,av,aP,aM,ba]
            let rH:Value:=(.agg #[.int .i32 0,.pointer none,.map none])
            obtain ⟨q9,gq,lA⟩:∃ P',(∀ w F,P' w F → (jb w F ∧ T7 ce 3 Kc Bk (BU v) (lst (ag.at_ 5)) bL w F)) ∧ RS w (fun b o=>b = bv ∧ o < 5) F 423 bB [aw,ax,aA,aD,bG,I5 ce 3 (.agg #[ay,aG,au]) ((lst (ag.at_ 5)).length) bL] cX P' ((T0 v) aU ++ (((lst (ag.at_ 5)).drop (bL + 1)).flatMap (T0 v) ++ cd)) _ _:=⟨_,fun _ _ h=>h,ly⟩
            obtain ⟨eF,gt⟩:∃ R,R = ((lst (ag.at_ 5)).drop (bL + 1)).flatMap (T0 v) ++ cd:=⟨_,rfl⟩
            have lB:=(e167_5e aU (List.mem_of_getElem? eE))
            have e280r:=(Er (Bl e167r 5) aU (List.mem_of_getElem? eE))
            unfold Et at lB
            obtain ⟨e280_0,e280_1,e280_U,_⟩:=lB
            obtain ⟨fA,gu⟩:∃ R,R = (if (decide (v ≥ 9)) = true then (uv aU.U.length) ++ (D7 aU.U) else []) ++ eF:=⟨_,rfl⟩
            obtain ⟨ra,gv⟩:∃ R,R = (if (decide (v ≥ 9)) = true then (if (aU.at_ 1).null = true then uv 0 else uv ((D9 (aU.at_ 1)).length + 1) ++ (D9 (aU.at_ 1))) else (if (aU.at_ 1).null = true then be 2 (-1) else be 2 (D9 (aU.at_ 1)).length ++ (D9 (aU.at_ 1)))) ++ fA:=⟨_,rfl⟩
            obtain ⟨rb,gw⟩:∃ R,R = (be 4 ((IntKind.i32.wrap (aU.at_ 0).N))) ++ ra:=⟨_,rfl⟩
            have lC:=lA.cast (t:=rb) (by rw [gw,gv,gu,← gt]; unfold T0; simp only [List.append_assoc])
            refine wp_seq (wp_seq (E1 [ab,ah,ai,ae,ac,ak,aj,al,am,ap,ao,ar,av,aP,aM,ba,(208,.v (.bool (decide (((bL:Nat):Int) < (((lst (ag.at_ 5)).length:Nat):Int)))))] lC fun _ gx=>A4 ?_))
            refine N7 gx.env_ (b:=decide (((bL:Nat):Int) < (((lst (ag.at_ 5)).length:Nat):Int))) kz (decide_eq_true (by omega)) ?_
            refine wp_skip (A4 (wp_seq (wp_block (wp_seq ?_))))
            let gy:B8:=[ab,ah,ai,ae,ac,ak,aj,al,am,ap,ao,ar,av,aP,aM,ba,(34,.p 7 0)]
            refine EN (t:=82) (e:=93) (size:=3) (bytes:=24) (d:=213) (tb:=[aw,ax,aA,aD,bG]) (z:=.agg #[ay,aG,au]) [ab,ah,ai,ae,ac,ak,aj,al,am,ap,ao,ar,av,aP,aM,ba,(211,.v (.slice (some ⟨ce,0,none⟩) ((lst (ag.at_ 5)).length) fz)),(212,.v (.int .i32 ((bL:Nat):Int)))] gy 2 gx lx rfl kz fun _ lD=>?_
            let cH:Ob:=I5 ce 3 (.agg #[ay,aG,au]) ((lst (ag.at_ 5)).length) (bL + 1)
            have lE:=lD.tbEq (tb':=[aw,ax,aA,aD,bG,cH,⟨ce,bL * 3,[ay,aG,au],true⟩]) rfl
            refine A4 (wp_seq (E4 [0,1] kz ?_))
            refine I4 [0] [1] [ab,ah,ai,ae,ac,ak,aj,al,am,ap,ao,ar,av,aP,aM,ba,(34,.p 7 0),(214,.p 7 0)] lE fun _ lF=>?_
            refine B1 (GW (d:=215) (vs:=[.pointer (some ⟨ce,bL * 3,none⟩)]) lF (fun _=>PL _ _ _) Tryz.call70 fun _ lG=>?_)
            refine B4 ?_
            have lH:=lG.pk (env':=gy)
            refine A4 (wp_seq ?_)
            let bM:Nat × SV:=(35,.p 7 0)
            let dU:B8:=[ab,ah,ai,ae,ac,ak,aj,al,am,ap,ao,ar,av,aP,aM,ba,bM]
            refine E1 dU lH fun _ lI=>?_
            refine A4 (wp_seq (wp_seq ?_))
            have lJ:=lI.cast gw
            refine O6 (d:=217) [ab,ah,ai,ae,ac,ak,aj,al,am,ap,ao,ar,av,aP,aM,ba,bM,(36,.v (.int .i32 (IntKind.i32.wrap (aU.at_ 0).N)))] lJ (BS _ _) Tryz.call67 fun _ _ lK=>?_
            refine A4 ?_
            let dV:Value:=.int .i32 (IntKind.i32.wrap (aU.at_ 0).N)
            let gz:Ob:=⟨ce,bL * 3,[dV,aG,au],true⟩
            refine M0 [aw,ax,aA,aD,bG,cH,gz] 6 dU lK fun _ _ lL=>?_
            refine A4 (wp_seq (wp_seq (E1 dU lL fun _ lM=>?_)))
            refine A4 (wp_seq ?_)
            have lN:=lM.cast gv
            refine S9 (Mid:=fun a_ w_=>∃ (cY:Option Addr) (P':G9),(∀ w F,P' w F → q9 w F ∧ Dl cY (D9 (aU.at_ 1)) w F ∧ cY.isNone = (aU.at_ 1).null) ∧ RS w (fun b o=>b = bv ∧ o < 5) F 423 bB [aw,ax,aA,aD,bG,cH,gz] [ab,ah,ai,ae,ac,ak,aj,al,am,ap,ao,ar,av,aP,aM,ba,bM,(37,.v (.pointer cY))] P' fA a_ w_) ?_ ?_
            ·
             refine wp_seq (E1 [ab,ah,ai,ae,ac,ak,aj,al,am,ap,ao,ar,av,aP,aM,ba,bM,(222,.v (.bool (decide (v ≥ 9))))] lN fun _ eG=>A4 ?_)
             refine E2 eG.env_ (b:=decide (v ≥ 9)) kz (fun eH=>?_) (fun eH=>?_)
             ·
              have lO:=eG.cast (t:=(if (aU.at_ 1).null = true then uv 0 else uv ((D9 (aU.at_ 1)).length + 1) ++ (D9 (aU.at_ 1))) ++ fA) (by rw [if_pos eH])
              refine wp_seq (E1 [ab,ah,ai,ae,ac,ak,aj,al,am,ap,ao,ar,av,aP,aM,ba,bM,(223,.v (.bool false))] lO fun _ gA=>A4 ?_)
              refine G6 gA.env_ (b:=false) kz (rfl) ?_
              refine Do (d:=225) (fun fB=>[ab,ah,ai,ae,ac,ak,aj,al,am,ap,ao,ar,av,aP,aM,ba,bM,(37,.v (.pointer fB))]) gA (GY (aU.at_ 1).null (D9 (aU.at_ 1)) e280_1 _) (fun _=>(MvF.text _ _).and (MvF.is _)) Tryz.call72 fun fB rS _ _ gB lP=>?_
              refine A4 ?_
              exact ⟨fB,_,fun w F h_=>⟨(gB _ _ h_).1,(gB _ _ h_).2⟩,lP.pk (env':=[ab,ah,ai,ae,ac,ak,aj,al,am,ap,ao,ar,av,aP,aM,ba,bM,(37,.v (.pointer fB))])⟩
             have lQ:=eG.cast (t:=(if (aU.at_ 1).null = true then be 2 (-1) else be 2 (D9 (aU.at_ 1)).length ++ (D9 (aU.at_ 1))) ++ fA) (by rw [if_neg (by rw [eH]; decide)])
             refine wp_seq (E1 [ab,ah,ai,ae,ac,ak,aj,al,am,ap,ao,ar,av,aP,aM,ba,bM,(226,.v (.bool false))] lQ fun _ gC=>A4 ?_)
             refine G6 gC.env_ (b:=false) kz (rfl) ?_
             refine Do (d:=228) (fun fC=>[ab,ah,ai,ae,ac,ak,aj,al,am,ap,ao,ar,av,aP,aM,ba,bM,(37,.v (.pointer fC))]) gC (JP (aU.at_ 1).null (D9 (aU.at_ 1)) e280_1 _) (fun _=>(MvF.text _ _).and (MvF.is _)) Tryz.call74 fun fC rT _ _ gD lR=>?_
             refine A4 ?_
             exact ⟨fC,_,fun w F h_=>⟨(gD _ _ h_).1,(gD _ _ h_).2⟩,lR.pk (env':=[ab,ah,ai,ae,ac,ak,aj,al,am,ap,ao,ar,av,aP,aM,ba,bM,(37,.v (.pointer fC))])⟩
            rintro _ _ ⟨cY,rc,dW,lS⟩
            refine A4 (M0 [aw,ax,aA,aD,bG,cH,⟨ce,bL * 3,[dV,.pointer cY,au],true⟩] 6 dU lS fun _ _ lT=>?_)
            refine A4 ?_
            have lU:=lT.cast gu
            refine S9 (Mid:=fun a_ w_=>∃ (fD:Option Nat) (dt:List (Int × Bs)) (P':G9),(∀ w F,P' w F → rc w F ∧ (MapR w F fD dt ∧ dt.length ≤ 1000000 ∧ ∀ x ∈ dt,x.2.length < 4294967296) ∧ ((decide (v ≥ 9)) = true → dt = aU.U) ∧ ((decide (v ≥ 9)) = false → dt = [])) ∧ RS w (fun b o=>b = bv ∧ o < 5) F 423 bB [aw,ax,aA,aD,bG,cH,⟨ce,bL * 3,[dV,.pointer cY,.map fD],true⟩] cX P' eF a_ w_) ?_ ?_
            ·
             refine wp_seq (E1 [ab,ah,ai,ae,ac,ak,aj,al,am,ap,ao,ar,av,aP,aM,ba,bM,(233,.v (.bool (decide (v ≥ 9))))] lU fun _ eI=>A4 ?_)
             refine E2 eI.env_ (b:=decide (v ≥ 9)) kz (fun cZ=>?_) (fun cZ=>?_)
             ·
              have lV:=eI.cast (t:=((uv aU.U.length) ++ (D7 aU.U)) ++ eF) (by rw [if_pos cZ])
              refine E4 [0,1,2,3,4] kz ?_
              refine I4 [0] [1,2,3,4] [ab,ah,ai,ae,ac,ak,aj,al,am,ap,ao,ar,av,aP,aM,ba,(234,.p 7 0)] lV fun _ lW=>?_
              refine B1 (Dn (d:=235) lW (EQ aU.U e280_U (T6 e280r) _) (fun _=>MvF.tagsM _ _) Tryz.call75 fun jc rU _ _ gE lX=>?_)
              refine I4 [2,3] [4] [ab,ah,ai,ae,ac,ak,aj,al,am,ap,ao,ar,av,aP,aM,ba,(235,.v (.agg #[.map jc])),(237,.p 7 2)] lX fun _ lY=>?_
              refine B1 (BP [aw,ax,aA,aD,bG,cH,⟨ce,bL * 3,[dV,.pointer cY,.map jc],true⟩] 6 lY fun _ lZ=>?_)
              refine B4 ?_
              have l0:=lZ.pk (env':=cX)
              refine A4 ?_
              exact ⟨jc,aU.U,_,fun w F h_=>⟨(gE _ _ h_).1,⟨(gE _ _ h_).2.1,e280_U.2.1,e280_U.2.2⟩,⟨fun _=>rfl,(fun e_=>by rw [cZ] at e_; cases e_)⟩⟩,l0.pk (env':=cX)⟩
             have l3:=eI.cast (t:=[] ++ eF) (by rw [if_neg (by rw [cZ]; decide)])
             have l5:=l3.cast (t:=eF) rfl
             refine wp_skip (A4 ?_)
             exact ⟨none,[],_,fun w F h_=>⟨h_,⟨MapR.nil _ _,Nat.zero_le _,fun _ h=>by cases h⟩,⟨(fun e_=>by rw [cZ] at e_; cases e_),fun _=>rfl⟩⟩,l5.pk (env':=cX)⟩
            rintro _ _ ⟨fD,dt,rV,bX,l6⟩
            refine H7 (A4 (E1 [ab,ah,ai,ae,ac,ak,aj,al,am,ap,ao,ar,av,aP,aM,(33,.v (.int .i32 (IntKind.i32.wrap (((bL:Nat):Int) + 1))))] l6 fun _ l7=>?_))
            refine A4 ?_
            let gF:B8:=[ab,ah,ai,ae,ac,ak,aj,al,am,ap,ao,ar,av,aP,aM,(33,.v (.int .i32 ((bL + 1:Nat):Int)))]
            have l9:=(l7.envEq (env':=gF) (by rw [EJ (by have:=e167_5; omega)])).pk (env':=gF)
            exact (RS.thing (tb:=[aw,ax,aA,aD,bG]) (z:=.agg #[ay,aG,au]) (D:=(Bi fD dt [P7 (IntKind.i32.wrap (aU.at_ 0).N),En cY (bs (D9 (aU.at_ 1)))])) (l9.cast gt) hg_g261 eE EX eD rfl (fun w F h_=>⟨(gq _ _ (dW _ _ (bX _ _ h_).1).1).1,(gq _ _ (dW _ _ (bX _ _ h_).1).1).2,⟨(trivial),(⟨(dW _ _ (bX _ _ h_).1).2.1,by show ByteArray.size (bs _) ≤ 1000000; rw [W6]; exact Nat.le_trans e280_1 (by decide)⟩),(bX _ _ h_).2.1.1,(bX _ _ h_).2.1.2.1,(bX _ _ h_).2.1.2.2,trivial⟩,⟨(rfl),(⟨rfl,(dW _ _ (bX _ _ h_).1).2.2⟩),(bX _ _ h_).2.2,trivial⟩⟩) kz)
           refine wp_seq (wp_seq (E1 [ab,ah,ai,ae,ac,ak,aj,al,am,ap,ao,ar,av,aP,aM,(33,.v (.int .i32 (((lst (ag.at_ 5)).length:Nat):Int))),(208,.v (.bool (decide ((((lst (ag.at_ 5)).length:Nat):Int) < (((lst (ag.at_ 5)).length:Nat):Int)))))] lz fun _ gG=>A4 ?_))
           refine G6 gG.env_ (b:=decide ((((lst (ag.at_ 5)).length:Nat):Int) < (((lst (ag.at_ 5)).length:Nat):Int))) kz (decide_eq_false (by omega)) ?_
           refine wp_exit (F2 (F2 (I7 (A4 ?_))))
           obtain ⟨re,ma⟩:=RS.listEnd (tb:=[aw,ax,aA,aD,bG]) (c:=fz) (gG.pk (env':=[ab,ah,ai,ae,ac,ak,aj,al,am,ap,ao,ar,av,aP])) hg_g261 EX eD hcap_g261 (by have:=e167_5; omega) hn_g261 kz
           exact ⟨V9 (some ⟨ce,0,none⟩) (lst (ag.at_ 5)).length fz re,_,fun w F h_=>⟨h_.1,⟨h_.2.1,Nat.le_trans e167_5 (by decide),h_.2.2.1⟩,⟨rfl,h_.2.2.2⟩⟩,ma⟩
          refine wp_skip (A4 (wp_seq (E1 [ab,ah,ai,ae,ac,ak,aj,al,am,ap,ao,ar,av,cr,aM,(33,.v (.int .i32 0))] eC fun _ mc=>?_)))
          refine A4 (wp_block (EG (wp_seq (wp_seq (E1 [ab,ah,ai,ae,ac,ak,aj,al,am,ap,ao,ar,av,cr,aM,(33,.v (.int .i32 0)),(208,.v (.bool (decide (0 < (((lst (ag.at_ 5)).length:Nat):Int)))))] mc fun _ gH=>A4 ?_)))))
          refine G6 gH.env_ (b:=decide (0 < (((lst (ag.at_ 5)).length:Nat):Int))) kz (decide_eq_false (by have h_:=of_decide_eq_false dT; omega)) ?_
          refine wp_exit (F2 (F2 (I7 (A4 ?_))))
          have hz_:(lst (ag.at_ 5)).length = 0:=by have h_:=of_decide_eq_false dT; omega
          exact ⟨V9 none 0 0 (fun _=>Bh),_,fun w F h_=>⟨h_,⟨Slots.nil _ _ _ _,Nat.zero_le _,fun _ h=>absurd h (Nat.not_lt_zero _)⟩,⟨hz_.symm,fun _ h=>absurd h (Nat.not_lt_zero _)⟩⟩,(gH.cast (t:=cd) (by rw [List.eq_nil_of_length_eq_zero hz_]; rfl)).pk (env':=eB)⟩
         rintro _ _ ⟨bw,rW,eJ,md⟩
         refine wp_seq (E1 [ab,ah,ai,ae,ac,ak,aj,al,am,ap,ao,ar,av,(30,.v (.slice bw.A bw.l bw.c))] md fun _ me=>?_)
         refine A4 (M0 [aw,ax,aA,aD,⟨aN,aJ * 11,[aS,aX,aY,bf,bu,.slice bw.A bw.l bw.c,aG,aL,aL,au,au],true⟩] 4 aW me fun _ _ mf=>?_)
         refine A4 ?_
         exact ⟨bw,_,fun w F h_=>⟨(eJ _ _ h_).1,(eJ _ _ h_).2.1,⟨fun _=>(eJ _ _ h_).2.2,(fun e_=>by rw [cW] at e_; cases e_)⟩⟩,mf.pk (env':=aW)⟩
        have mg:=ez.cast (t:=[] ++ cd) (by rw [if_neg (by rw [cW]; decide)])
        have mh:=mg.cast (t:=cd) rfl
        refine wp_skip (A4 ?_)
        exact ⟨V9 none 0 0 (fun _=>Bh),_,fun w F h_=>⟨h_,⟨Slots.nil _ _ _ _,Nat.zero_le _,fun _ h=>absurd h (Nat.not_lt_zero _)⟩,⟨(fun e_=>by rw [cW] at e_; cases e_),fun _=>⟨rfl,rfl⟩⟩⟩,mh.pk (env':=aW)⟩
       rintro _ _ ⟨aZ,mj,bY,ml⟩
       refine A4 (wp_seq ?_)
       have mn:=ml.cast gc
       let bH:Value:=.slice aZ.A aZ.l aZ.c
       refine S9 (Mid:=fun a_ w_=>∃ (bU:DV) (P':G9),(∀ w F,P' w F → mj w F ∧ ((∀ ad,bU.A = some ad → ∃ b o,ad = ⟨b,o,none⟩ ∧ AtF w F b o [.string bU.s]) ∧ bU.s.size ≤ 1000000) ∧ ((decide (v ≥ 8)) = true → (bU.s = bs (D9 (ag.at_ 6)) ∧ bU.A.isNone = (ag.at_ 6).null)) ∧ ((decide (v ≥ 8)) = false → (bU.s = ByteArray.empty ∧ bU.A = none))) ∧ RS w (fun b o=>b = bv ∧ o < 5) F 423 bB [aw,ax,aA,aD,⟨aN,aJ * 11,[aS,aX,aY,bf,bu,bH,.pointer bU.A,aL,aL,au,au],true⟩] aW P' cQ a_ w_) ?_ ?_
       ·
        refine wp_seq (E1 [ab,ah,ai,ae,ac,ak,aj,al,am,ap,ao,ar,av,(244,.v (.bool (decide (v ≥ 8))))] mn fun _ eK=>A4 ?_)
        refine E2 eK.env_ (b:=decide (v ≥ 8)) kz (fun da=>?_) (fun da=>?_)
        ·
         have mo:=eK.cast (t:=(if (decide (v ≥ 9)) = true then (if (ag.at_ 6).null = true then uv 0 else uv ((D9 (ag.at_ 6)).length + 1) ++ (D9 (ag.at_ 6))) else (if (ag.at_ 6).null = true then be 2 (-1) else be 2 (D9 (ag.at_ 6)).length ++ (D9 (ag.at_ 6)))) ++ cQ) (by rw [if_pos da])
         refine wp_seq (E1 aW mo fun _ mp=>?_)
         refine A4 (wp_seq (S9 (Mid:=fun a_ w_=>∃ (ee:Option Addr) (P':G9),(∀ w F,P' w F → mj w F ∧ Dl ee (D9 (ag.at_ 6)) w F ∧ ee.isNone = (ag.at_ 6).null) ∧ RS w (fun b o=>b = bv ∧ o < 5) F 423 bB [aw,ax,aA,aD,⟨aN,aJ * 11,[aS,aX,aY,bf,bu,bH,aG,aL,aL,au,au],true⟩] [ab,ah,ai,ae,ac,ak,aj,al,am,ap,ao,ar,av,(38,.v (.pointer ee))] P' cQ a_ w_) ?_ ?_))
         ·
          refine wp_seq (E1 [ab,ah,ai,ae,ac,ak,aj,al,am,ap,ao,ar,av,(245,.v (.bool (decide (v ≥ 9))))] mp fun _ eM=>A4 ?_)
          refine E2 eM.env_ (b:=decide (v ≥ 9)) kz (fun eN=>?_) (fun eN=>?_)
          ·
           have mq:=eM.cast (t:=(if (ag.at_ 6).null = true then uv 0 else uv ((D9 (ag.at_ 6)).length + 1) ++ (D9 (ag.at_ 6))) ++ cQ) (by rw [if_pos eN])
           refine wp_seq (E1 [ab,ah,ai,ae,ac,ak,aj,al,am,ap,ao,ar,av,(246,.v (.bool false))] mq fun _ gI=>A4 ?_)
           refine G6 gI.env_ (b:=false) kz (rfl) ?_
           refine Do (d:=248) (fun fE=>[ab,ah,ai,ae,ac,ak,aj,al,am,ap,ao,ar,av,(38,.v (.pointer fE))]) gI (GY (ag.at_ 6).null (D9 (ag.at_ 6)) e167_6 _) (fun _=>(MvF.text _ _).and (MvF.is _)) Tryz.call72 fun fE rX _ _ gJ mr=>?_
           refine A4 ?_
           exact ⟨fE,_,fun w F h_=>⟨(gJ _ _ h_).1,(gJ _ _ h_).2⟩,mr.pk (env':=[ab,ah,ai,ae,ac,ak,aj,al,am,ap,ao,ar,av,(38,.v (.pointer fE))])⟩
          have mt:=eM.cast (t:=(if (ag.at_ 6).null = true then be 2 (-1) else be 2 (D9 (ag.at_ 6)).length ++ (D9 (ag.at_ 6))) ++ cQ) (by rw [if_neg (by rw [eN]; decide)])
          refine wp_seq (E1 [ab,ah,ai,ae,ac,ak,aj,al,am,ap,ao,ar,av,(249,.v (.bool false))] mt fun _ gK=>A4 ?_)
          refine G6 gK.env_ (b:=false) kz (rfl) ?_
          refine Do (d:=251) (fun fF=>[ab,ah,ai,ae,ac,ak,aj,al,am,ap,ao,ar,av,(38,.v (.pointer fF))]) gK (JP (ag.at_ 6).null (D9 (ag.at_ 6)) e167_6 _) (fun _=>(MvF.text _ _).and (MvF.is _)) Tryz.call74 fun fF rY _ _ gL mu=>?_
          refine A4 ?_
          exact ⟨fF,_,fun w F h_=>⟨(gL _ _ h_).1,(gL _ _ h_).2⟩,mu.pk (env':=[ab,ah,ai,ae,ac,ak,aj,al,am,ap,ao,ar,av,(38,.v (.pointer fF))])⟩
         rintro _ _ ⟨ee,rZ,eO,mw⟩
         refine A4 (M0 [aw,ax,aA,aD,⟨aN,aJ * 11,[aS,aX,aY,bf,bu,bH,.pointer ee,aL,aL,au,au],true⟩] 4 aW mw fun _ _ mx=>?_)
         refine A4 ?_
         exact ⟨En ee (bs (D9 (ag.at_ 6))),_,fun w F h_=>⟨(eO _ _ h_).1,⟨(eO _ _ h_).2.1,by show ByteArray.size (bs _) ≤ 1000000; rw [W6]; exact Nat.le_trans e167_6 (by decide)⟩,⟨fun _=>⟨rfl,(eO _ _ h_).2.2⟩,(fun e_=>by rw [da] at e_; cases e_)⟩⟩,mx.pk (env':=aW)⟩
        have my:=eK.cast (t:=[] ++ cQ) (by rw [if_neg (by rw [da]; decide)])
        have mz:=my.cast (t:=cQ) rfl
        refine wp_skip (A4 ?_)
        exact ⟨En none ByteArray.empty,_,fun w F h_=>⟨h_,⟨fun _ h=>(by cases h),Nat.zero_le _⟩,⟨(fun e_=>by rw [da] at e_; cases e_),fun _=>⟨rfl,rfl⟩⟩⟩,mz.pk (env':=aW)⟩
       rintro _ _ ⟨bU,du,bO,mA⟩
       refine A4 ?_
       have mB:=mA.cast gb
       let bT:Value:=.pointer bU.A
       refine S9 (Mid:=fun a_ w_=>∃ (cu:DV) (fG:Option Nat) (dv:List (Int × Bs)) (P':G9),(∀ w F,P' w F → du w F ∧ ((BJ w F cu) ∧ ((((if (decide (v ≥ 9)) = true then (G3 ag) else false)) = true → BT v cu (ag.at_ 7)) ∧ (((if (decide (v ≥ 9)) = true then (G3 ag) else false)) = false → ((cu.f 0).n = -1 ∧ (cu.f 1).n = -1 ∧ cu.u = [] ∧ cu.m = none)))) ∧ (MapR w F fG dv ∧ dv.length ≤ 1000000 ∧ ∀ x ∈ dv,x.2.length < 4294967296) ∧ ((decide (v ≥ 9)) = true → dv = ag.U) ∧ ((decide (v ≥ 9)) = false → dv = [])) ∧ RS w (fun b o=>b = bv ∧ o < 5) F 423 bB [aw,ax,aA,aD,⟨aN,aJ * 11,[aS,aX,aY,bf,bu,bH,bT,.int .i32 ((cu.f 0).n),.int .i32 ((cu.f 1).n),.map cu.m,.map fG],true⟩] dR P' cy a_ w_) ?_ ?_
       ·
        refine wp_seq (E1 [ab,ah,ai,ae,ac,ak,aj,al,am,ap,ao,ar,av,(256,.v (.bool (decide (v ≥ 9))))] mB fun _ eP=>A4 ?_)
        refine E2 eP.env_ (b:=decide (v ≥ 9)) kz (fun bN=>?_) (fun bN=>?_)
        ·
         have mC:=eP.cast (t:=((uv (B5 (G3 ag) + ag.U.length)) ++ ((G8 (G3 ag) 0 ((K6 v (ag.at_ 7)))) ++ (D7 ag.U))) ++ cy) (by rw [if_pos bN])
         obtain ⟨cz,gM⟩:∃ R,R = D7 ag.U ++ cy:=⟨_,rfl⟩
         obtain ⟨fH,eQ⟩:∃ R,R = G8 (G3 ag) 0 ((K6 v (ag.at_ 7))) ++ cz:=⟨_,rfl⟩
         have mD:=mC.cast (t:=uv (B5 (G3 ag) + ag.U.length) ++ fH) (by rw [eQ,gM]; simp only [List.append_assoc])
         refine wp_seq (O6 (d:=257) [ab,ah,ai,ae,ac,ak,aj,al,am,ap,ao,ar,av,(39,.v (.int .u32 (((B5 (G3 ag) + ag.U.length):Nat):Int)))] mD (CF (B5 (G3 ag) + ag.U.length) (by have t0_:=Ei (G3 ag); have hu_:=e167_U.2.1; omega) _) Tryz.call76 fun _ _ mF=>?_)
         refine A4 (wp_block ?_)
         let bZ:Ob:=⟨aN,aJ * 11,[aS,aX,aY,bf,bu,bH,bT,aL,aL,au,au],true⟩
         obtain ⟨jd,dX⟩:∃ I:Nat → Act → World → Prop,I = (fun q_ a_ w_=>((G3 ag) = true ∧ q_ = (B5 (G3 ag) + ag.U.length) ∧ ∃ (P':G9),(∀ w F,P' w F → du w F) ∧ RS w (fun b o=>b = bv ∧ o < 5) F 423 bB [aw,ax,aA,aD,bZ] [ab,ah,ai,ae,ac,ak,aj,al,am,ap,ao,ar,av,(39,.v (.int .u32 (((B5 (G3 ag) + ag.U.length):Nat):Int)))] P' fH a_ w_) ∨ (∃ (aV:DV) (P':G9) (w1_:World) (m_:Option Nat) (j_:Nat),q_ = ag.U.length - j_ ∧ j_ ≤ ag.U.length ∧ (∀ w F,P' w F → du w F ∧ ((BJ w F aV) ∧ ((((if (decide (v ≥ 9)) = true then (G3 ag) else false)) = true → BT v aV (ag.at_ 7)) ∧ (((if (decide (v ≥ 9)) = true then (G3 ag) else false)) = false → ((aV.f 0).n = -1 ∧ (aV.f 1).n = -1 ∧ aV.u = [] ∧ aV.m = none))))) ∧ TU w w1_ (fun b o=>b = bv ∧ o < 5) F 423 bB [aw,ax,aA,aD,⟨aN,aJ * 11,[aS,aX,aY,bf,bu,bH,bT,.int .i32 ((aV.f 0).n),.int .i32 ((aV.f 1).n),.map aV.m,au],true⟩] [aw,ax,aA,aD,⟨aN,aJ * 11,[aS,aX,aY,bf,bu,bH,bT,.int .i32 ((aV.f 0).n),.int .i32 ((aV.f 1).n),.map aV.m,.map m_],true⟩] [ab,ah,ai,ae,ac,ak,aj,al,am,ap,ao,ar,av,(39,.v (.int .u32 ((ag.U.length - j_:Nat):Int)))] P' (D7 (ag.U.drop j_) ++ cy) m_ (ag.U.take j_) a_ w_)):=⟨_,rfl⟩
         have eR:∀ (aV:DV) (P':G9) (a_:Act) (w_:World),(∀ w F,P' w F → du w F ∧ ((BJ w F aV) ∧ ((((if (decide (v ≥ 9)) = true then (G3 ag) else false)) = true → BT v aV (ag.at_ 7)) ∧ (((if (decide (v ≥ 9)) = true then (G3 ag) else false)) = false → ((aV.f 0).n = -1 ∧ (aV.f 1).n = -1 ∧ aV.u = [] ∧ aV.m = none))))) → RS w (fun b o=>b = bv ∧ o < 5) F 423 bB [⟨bv,0,[.int .i16 v,.slice none 0 0,.int .i32 0,.slice none 0 0,.map none],true⟩,I5 bW 19 (.agg #[.string ByteArray.empty,.int .u8 0,.int .u8 0,.int .u8 0,.int .u8 0,.int .u8 0,.int .u8 0,.int .u8 0,.int .u8 0,.int .u8 0,.int .u8 0,.int .u8 0,.int .u8 0,.int .u8 0,.int .u8 0,.int .u8 0,.int .u8 0,.slice none 0 0,.map none]) ((lst (T.at_ 0)).length) (bS + 1),⟨bW,bS * 19,[.string fx.s,B7 (aE.o.getD 0 0),B7 (aE.o.getD 1 0),B7 (aE.o.getD 2 0),B7 (aE.o.getD 3 0),B7 (aE.o.getD 4 0),B7 (aE.o.getD 5 0),B7 (aE.o.getD 6 0),B7 (aE.o.getD 7 0),B7 (aE.o.getD 8 0),B7 (aE.o.getD 9 0),B7 (aE.o.getD 10 0),B7 (aE.o.getD 11 0),B7 (aE.o.getD 12 0),B7 (aE.o.getD 13 0),B7 (aE.o.getD 14 0),B7 (aE.o.getD 15 0),.slice none 0 0,.map none],true⟩,I5 aN 11 (.agg #[.int .i32 0,.int .i16 0,.int .i64 0,.int .i64 0,.int .i64 0,.slice none 0 0,.pointer none,.int .i32 0,.int .i32 0,.map none,.map none]) ((lst (aH.at_ 2)).length) (aJ + 1),⟨aN,aJ * 11,[.int .i32 (IntKind.i32.wrap (ag.at_ 0).N),.int .i16 (IntKind.i16.wrap (ag.at_ 1).N),.int .i64 (IntKind.i64.wrap (ag.at_ 2).N),.int .i64 cR.n,.int .i64 cU.n,.slice aZ.A aZ.l aZ.c,.pointer bU.A,.int .i32 ((aV.f 0).n),.int .i32 ((aV.f 1).n),.map aV.m,.map none],true⟩] [(2,.v (.bool false)),(7,.p 0 0),(8,.v (.int .i16 v)),(9,.v (.bool (decide (v ≥ 9)))),(10,.p 1 0),(12,.v (.slice (some ⟨bW,0,none⟩) ((lst (T.at_ 0)).length) jp)),(13,.v (.int .i32 (((lst (T.at_ 0)).length:Nat):Int))),(14,.v (.int .i32 ((bS:Nat):Int))),(16,.p 3 0),(20,.v (.slice (some ⟨aN,0,none⟩) ((lst (aH.at_ 2)).length) ec)),(21,.v (.int .i32 (((lst (aH.at_ 2)).length:Nat):Int))),(22,.v (.int .i32 ((aJ:Nat):Int))),(24,.p 5 0),(39,.v (.int .u32 ((ag.U.length:Nat):Int)))] P' cz a_ w_ → jd ag.U.length a_ w_:=by
          intro aV P' a_ w_ hp_ hs_
          have h_:=(TU.start hs_).cast gM
          rw [dX]
          exact .inr (⟨aV,P',w_,none,0,rfl,Nat.zero_le _,hp_,h_⟩)
         have je:∀ (P':G9) (a_:Act) (w_:World),(∀ w F,P' w F → du w F) → RS w (fun b o=>b = bv ∧ o < 5) F 423 bB [⟨bv,0,[.int .i16 v,.slice none 0 0,.int .i32 0,.slice none 0 0,.map none],true⟩,I5 bW 19 (.agg #[.string ByteArray.empty,.int .u8 0,.int .u8 0,.int .u8 0,.int .u8 0,.int .u8 0,.int .u8 0,.int .u8 0,.int .u8 0,.int .u8 0,.int .u8 0,.int .u8 0,.int .u8 0,.int .u8 0,.int .u8 0,.int .u8 0,.int .u8 0,.slice none 0 0,.map none]) ((lst (T.at_ 0)).length) (bS + 1),⟨bW,bS * 19,[.string fx.s,B7 (aE.o.getD 0 0),B7 (aE.o.getD 1 0),B7 (aE.o.getD 2 0),B7 (aE.o.getD 3 0),B7 (aE.o.getD 4 0),B7 (aE.o.getD 5 0),B7 (aE.o.getD 6 0),B7 (aE.o.getD 7 0),B7 (aE.o.getD 8 0),B7 (aE.o.getD 9 0),B7 (aE.o.getD 10 0),B7 (aE.o.getD 11 0),B7 (aE.o.getD 12 0),B7 (aE.o.getD 13 0),B7 (aE.o.getD 14 0),B7 (aE.o.getD 15 0),.slice none 0 0,.map none],true⟩,I5 aN 11 (.agg #[.int .i32 0,.int .i16 0,.int .i64 0,.int .i64 0,.int .i64 0,.slice none 0 0,.pointer none,.int .i32 0,.int .i32 0,.map none,.map none]) ((lst (aH.at_ 2)).length) (aJ + 1),⟨aN,aJ * 11,[.int .i32 (IntKind.i32.wrap (ag.at_ 0).N),.int .i16 (IntKind.i16.wrap (ag.at_ 1).N),.int .i64 (IntKind.i64.wrap (ag.at_ 2).N),.int .i64 cR.n,.int .i64 cU.n,.slice aZ.A aZ.l aZ.c,.pointer bU.A,.int .i32 (-1),.int .i32 (-1),.map none,.map none],true⟩] [(2,.v (.bool false)),(7,.p 0 0),(8,.v (.int .i16 v)),(9,.v (.bool (decide (v ≥ 9)))),(10,.p 1 0),(12,.v (.slice (some ⟨bW,0,none⟩) ((lst (T.at_ 0)).length) jp)),(13,.v (.int .i32 (((lst (T.at_ 0)).length:Nat):Int))),(14,.v (.int .i32 ((bS:Nat):Int))),(16,.p 3 0),(20,.v (.slice (some ⟨aN,0,none⟩) ((lst (aH.at_ 2)).length) ec)),(21,.v (.int .i32 (((lst (aH.at_ 2)).length:Nat):Int))),(22,.v (.int .i32 ((aJ:Nat):Int))),(24,.p 5 0),(39,.v (.int .u32 (((B5 (G3 ag) + ag.U.length):Nat):Int)))] P' fH a_ w_ → jd (B5 (G3 ag) + ag.U.length) a_ w_:=by
          intro P' a_ w_ hp_ hs_
          rcases Bool.eq_false_or_eq_true (G3 ag) with db | db
          ·
           rw [dX]
           exact .inl ⟨db,rfl,P',hp_,hs_⟩
          have e_:(B5 (G3 ag) + ag.U.length) = ag.U.length:=by rw [Ek db,Nat.zero_add]
          have f_:fH = cz:=by rw [eQ,Cw db]; rfl
          have g_:=eR (Bi none [] [P7 (-1),P7 (-1)]) P' a_ w_ (fun w F h_=>⟨(hp_ w F h_),⟨⟨trivial,trivial,MapR.nil _ _,Nat.zero_le _,(fun _ h=>by cases h),Nat.zero_le _,trivial⟩,⟨(fun e2_=>by rw [if_pos (by exact bN),db] at e2_; cases e2_),fun _=>⟨rfl,rfl,rfl,rfl⟩⟩⟩⟩) ((hs_.cast f_).envEq (env':=[ab,ah,ai,ae,ac,ak,aj,al,am,ap,ao,ar,av,(39,.v (.int .u32 ((ag.U.length:Nat):Int)))]) (by rw [e_]))
          rw [e_]
          exact g_
         have mG:=mF.pk (env':=[ab,ah,ai,ae,ac,ak,aj,al,am,ap,ao,ar,av,(39,.v (.int .u32 (((B5 (G3 ag) + ag.U.length):Nat):Int)))])
         refine wp_loop_ghost jd (B5 (G3 ag) + ag.U.length) (je du _ _ (fun w F h_=>h_) mG) ?_
         rintro q_ aq wq gN
         rw [dX] at gN
         rcases gN with ⟨dc,rfl,rf,eS,mH⟩ | ⟨aV,mI,rg,jf,bC,rfl,hj_,eT,mJ⟩
         ·
          replace eS:∀ w F,rf w F → du w F ∧ True:=fun w F h_=>⟨eS w F h_,trivial⟩
          have mK:=mH.cast (t:=uv 0 ++ (uv ((K6 v (ag.at_ 7))).length ++ ((K6 v (ag.at_ 7)) ++ cz))) (by rw [eQ,Ej dc]; simp only [List.append_assoc])
          refine wp_seq (wp_seq (E1 [ab,ah,ai,ae,ac,ak,aj,al,am,ap,ao,ar,av,(39,.v (.int .u32 (((B5 (G3 ag) + ag.U.length):Nat):Int))),(259,.v (.bool (decide ((((B5 (G3 ag) + ag.U.length):Nat):Int) > 0))))] mK fun _ gO=>A4 ?_))
          refine N7 gO.env_ (b:=decide ((((B5 (G3 ag) + ag.U.length):Nat):Int) > 0)) kz (decide_eq_true (by rw [Bg dc]; omega)) ?_
          refine wp_skip (A4 (wp_seq (wp_block (wp_seq (O6 (d:=262) [ab,ah,ai,ae,ac,ak,aj,al,am,ap,ao,ar,av,(39,.v (.int .u32 (((B5 (G3 ag) + ag.U.length):Nat):Int))),(40,.v (.int .u32 0))] gO ((show Q4 _ _ _ (uv ((K6 v (ag.at_ 7))).length ++ ((K6 v (ag.at_ 7)) ++ cz)) (.int .u32 0) from @CF 0 (by decide) (uv ((K6 v (ag.at_ 7))).length ++ ((K6 v (ag.at_ 7)) ++ cz)))) Tryz.call76 fun _ _ mL=>?_)))))
          refine A4 (wp_seq (E1 [ab,ah,ai,ae,ac,ak,aj,al,am,ap,ao,ar,av,(39,.v (.int .u32 (((B5 (G3 ag) + ag.U.length):Nat):Int))),(40,.v (.int .u32 0)),(263,.v (.int .u32 0))] mL fun _ mM=>?_))
          refine A4 (wp_block (wp_seq (E1 [ab,ah,ai,ae,ac,ak,aj,al,am,ap,ao,ar,av,(39,.v (.int .u32 (((B5 (G3 ag) + ag.U.length):Nat):Int))),(40,.v (.int .u32 0)),(272,.v (.bool true))] mM fun _ gP=>A4 ?_)))
          refine N7 gP.env_ (b:=true) kz (rfl) ?_
          refine wp_seq (E4 [0,1,2,3,4,5] kz ?_)
          refine B1 (EA (d:=274) gP (CF (((K6 v (ag.at_ 7))).length) (by unfold K6; simp only [List.length_append,be_length]; have h_:=JW (b:=decide (v ≥ 9)) e167_7V (T6 (Bl e167r 7)); omega) ((K6 v (ag.at_ 7)) ++ cz)) Tryz.call76 fun _ _ mN=>?_)
          refine I4 [1] [2,3,4,5] [ab,ah,ai,ae,ac,ak,aj,al,am,ap,ao,ar,av,(39,.v (.int .u32 (((B5 (G3 ag) + ag.U.length):Nat):Int))),(275,.v (.int .i64 (IntKind.i64.wrap ((((K6 v (ag.at_ 7))).length:Nat):Int))))] mN fun _ mO=>?_
          refine B1 (JT (d:=276) (q:=(IntKind.i64.wrap ((((K6 v (ag.at_ 7))).length:Nat):Int))) (X:=(K6 v (ag.at_ 7))) (rest:=cz) mO (by have h_:((K6 v (ag.at_ 7))).length < 4294967296:=(by unfold K6; simp only [List.length_append,be_length]; have h_:=JW (b:=decide (v ≥ 9)) e167_7V (T6 (Bl e167r 7)); omega); first | exact wrap_i64 (by omega) (by omega) | rfl) (W9 _ _) Tryz.call78 fun jg rh _ _ gQ mQ=>?_)
          refine I4 [3] [4,5] [ab,ah,ai,ae,ac,ak,aj,al,am,ap,ao,ar,av,(39,.v (.int .u32 (((B5 (G3 ag) + ag.U.length):Nat):Int))),(277,.v (.agg #[.slice jg (((K6 v (ag.at_ 7))).length) (((K6 v (ag.at_ 7))).length),bo]))] mQ fun _ mR=>?_
          refine B1 (GS (d:=41) [aC,bo] mR fun jh _ _ hb_b430 mS=>?_)
          have mT:=(mS.tbEq (tb':=[aw,ax,aA,aD,bZ,⟨jh,0,[aC,bo],true⟩]) rfl).pk (env':=[ab,ah,ai,ae,ac,ak,aj,al,am,ap,ao,ar,av,(39,.v (.int .u32 (((B5 (G3 ag) + ag.U.length):Nat):Int))),(277,.v (.agg #[.slice jg (((K6 v (ag.at_ 7))).length) (((K6 v (ag.at_ 7))).length),bo])),(41,.p 6 0)])
          refine B1 (BP [aw,ax,aA,aD,bZ,⟨jh,0,[.slice jg (((K6 v (ag.at_ 7))).length) (((K6 v (ag.at_ 7))).length),bo],true⟩] 5 mT fun _ mU=>?_)
          refine B4 ?_
          have gR:=mU.pk (env':=[ab,ah,ai,ae,ac,ak,aj,al,am,ap,ao,ar,av,(39,.v (.int .u32 (((B5 (G3 ag) + ag.U.length):Nat):Int))),(41,.p 6 0)])
          obtain ⟨mV,mW,mX,gS⟩:=RS.nest (tb:=[aw,ax,aA,aD,bZ]) (si:=(K6 v (ag.at_ 7))) gR (fun w F h_=>(gQ _ _ h_).2)
          let cv:Ob:=⟨bB,0,[.slice mV mW mX,bo],true⟩
          let bg:Nat × SV:=(7,.p 6 0)
          let bz:Nat × SV:=(41,.p 0 0)
          have gT:=((gS.tbEq (tb':=[aw,ax,aA,aD,bZ,cv]) rfl).envEq (env':=[ab,bg,ai,ae,ac,ak,aj,al,am,ap,ao,ar,av,(39,.v (.int .u32 (((B5 (G3 ag) + ag.U.length):Nat):Int))),bz]) kz).cast (t:=(K6 v (ag.at_ 7)) ++ ([]:Bs)) (List.append_nil _).symm
          obtain ⟨r0,gU,mY⟩:∃ P',(∀ w F,P' w F → (rh w F ∧ RdS w F mV mW mX cz)) ∧ RS w (fun b o=>b = bv ∧ o < 5) F 423 jh [aw,ax,aA,aD,bZ,cv] [ab,bg,ai,ae,ac,ak,aj,al,am,ap,ao,ar,av,(39,.v (.int .u32 (((B5 (G3 ag) + ag.U.length):Nat):Int))),bz] P' ((K6 v (ag.at_ 7)) ++ ([]:Bs)) _ _:=⟨_,fun _ _ h=>h,gT⟩
          clear gR gS gT
          refine A4 ?_
          have mZ:=e167_7
          have e443r:=(Bl e167r 7)
          unfold GP at mZ
          obtain ⟨e443_0,e443_1,e443_U,_⟩:=mZ
          obtain ⟨ri,gV⟩:∃ R,R = (if (decide (v ≥ 9)) = true then (uv (ag.at_ 7).U.length) ++ (D7 (ag.at_ 7).U) else []) ++ ([]:Bs):=⟨_,rfl⟩
          obtain ⟨rj,gW⟩:∃ R,R = (be 4 ((IntKind.i32.wrap ((ag.at_ 7).at_ 1).N))) ++ ri:=⟨_,rfl⟩
          obtain ⟨rl,gX⟩:∃ R,R = (be 4 ((IntKind.i32.wrap ((ag.at_ 7).at_ 0).N))) ++ rj:=⟨_,rfl⟩
          have m4:=mY.cast (t:=rl) (by rw [gX,gW,gV]; unfold K6; simp only [List.append_assoc])
          refine wp_seq (E1 [ab,bg,ai,ae,ac,ak,aj,al,am,ap,ao,ar,av,(39,.v (.int .u32 (((B5 (G3 ag) + ag.U.length):Nat):Int))),bz,(42,.p 5 7)] m4 fun _ m5=>?_)
          refine A4 (wp_seq (E4 [0,1] kz ?_))
          refine I4 [0] [1] [ab,bg,ai,ae,ac,ak,aj,al,am,ap,ao,ar,av,(39,.v (.int .u32 (((B5 (G3 ag) + ag.U.length):Nat):Int))),bz,(42,.p 5 7),(281,.p 5 7)] m5 fun _ m6=>?_
          refine B1 (JI (d:=282) (vs:=[.pointer (some ⟨aN,aJ * 11 + 7,none⟩)]) m6 Tryz.call47 Tryz.func47 rfl Tryz.ntmps47 (fun _ m7=>?_))
          have m8:=(m7.recast 0 (.v (.pointer (some ⟨aN,aJ * 11 + 7,none⟩))) (.p 5 7) rfl rfl (Nat.le_of_ble_eq_true (n:=6) rfl)).pk (env':=[(0,.p 5 7)])
          refine wp_seq (M0 [aw,ax,aA,aD,bZ,cv] 4 [(0,.p 5 7)] m8 fun _ _ m9=>?_)
          refine A4 (M0 [aw,ax,aA,aD,bZ,cv] 4 [] m9 fun _ _ nf=>?_)
          refine JJ (v:=.tuple #[]) nf (fun _ ng=>?_) (⟨rfl,rfl,⟨rfl,rfl,⟨rfl,rfl,⟨rfl,rfl,⟨rfl,rfl,⟨rfl,rfl,⟨rfl,rfl,trivial⟩⟩⟩⟩⟩⟩⟩)
          refine B4 ?_
          have nh:=ng.pk (env':=[ab,bg,ai,ae,ac,ak,aj,al,am,ap,ao,ar,av,(39,.v (.int .u32 (((B5 (G3 ag) + ag.U.length):Nat):Int))),bz,(42,.p 5 7)])
          refine A4 (wp_seq ?_)
          let cI:Nat × SV:=(43,.p 5 7)
          refine E1 [ab,bg,ai,ae,ac,ak,aj,al,am,ap,ao,ar,av,(39,.v (.int .u32 (((B5 (G3 ag) + ag.U.length):Nat):Int))),bz,cI] nh fun _ ni=>?_
          refine A4 (wp_seq (wp_seq ?_))
          have nj:=ni.cast gX
          refine O6 (d:=284) [ab,bg,ai,ae,ac,ak,aj,al,am,ap,ao,ar,av,(39,.v (.int .u32 (((B5 (G3 ag) + ag.U.length):Nat):Int))),bz,cI,(44,.v (.int .i32 (IntKind.i32.wrap ((ag.at_ 7).at_ 0).N)))] nj (BS _ _) Tryz.call67 fun _ _ nk=>?_
          refine A4 ?_
          let eU:Value:=.int .i32 (IntKind.i32.wrap ((ag.at_ 7).at_ 0).N)
          refine M0 [aw,ax,aA,aD,⟨aN,aJ * 11,[aS,aX,aY,bf,bu,bH,bT,eU,aL,au,au],true⟩,cv] 4 [ab,bg,ai,ae,ac,ak,aj,al,am,ap,ao,ar,av,(39,.v (.int .u32 (((B5 (G3 ag) + ag.U.length):Nat):Int))),bz,cI] nk fun _ _ nl=>?_
          refine A4 (wp_seq (wp_seq ?_))
          have nm:=nl.cast gW
          refine O6 (d:=289) [ab,bg,ai,ae,ac,ak,aj,al,am,ap,ao,ar,av,(39,.v (.int .u32 (((B5 (G3 ag) + ag.U.length):Nat):Int))),bz,cI,(45,.v (.int .i32 (IntKind.i32.wrap ((ag.at_ 7).at_ 1).N)))] nm (BS _ _) Tryz.call67 fun _ _ np=>?_
          refine A4 ?_
          let gY:Value:=.int .i32 (IntKind.i32.wrap ((ag.at_ 7).at_ 1).N)
          refine M0 [aw,ax,aA,aD,⟨aN,aJ * 11,[aS,aX,aY,bf,bu,bH,bT,eU,gY,au,au],true⟩,cv] 4 [ab,bg,ai,ae,ac,ak,aj,al,am,ap,ao,ar,av,(39,.v (.int .u32 (((B5 (G3 ag) + ag.U.length):Nat):Int))),bz,cI] np fun _ _ nr=>?_
          refine A4 (wp_seq (wp_seq (E1 [ab,bg,ai,ae,ac,ak,aj,al,am,ap,ao,ar,av,(39,.v (.int .u32 (((B5 (G3 ag) + ag.U.length):Nat):Int))),bz,cI,(294,.v (.bool (decide (v ≥ 9))))] nr fun _ gZ=>A4 ?_)))
          refine N7 gZ.env_ (b:=decide (v ≥ 9)) kz (bN) ?_
          have ns:=gZ.cast gV
          have nt:=ns.cast (t:=((uv (ag.at_ 7).U.length) ++ (D7 (ag.at_ 7).U)) ++ ([]:Bs)) (by rw [if_pos (bN)])
          refine E4 [0,1,2,3,4] kz ?_
          refine I4 [0] [1,2,3,4] [ab,bg,ai,ae,ac,ak,aj,al,am,ap,ao,ar,av,(39,.v (.int .u32 (((B5 (G3 ag) + ag.U.length):Nat):Int))),bz,(295,.p 5 7)] nt fun _ nu=>?_
          refine B1 (Dn (d:=296) nu (EQ (ag.at_ 7).U e443_U (T6 e443r) _) (fun _=>MvF.tagsM _ _) Tryz.call75 fun ji r3 _ _ dY nv=>?_)
          refine I4 [2,3] [4] [ab,bg,ai,ae,ac,ak,aj,al,am,ap,ao,ar,av,(39,.v (.int .u32 (((B5 (G3 ag) + ag.U.length):Nat):Int))),bz,(296,.v (.agg #[.map ji])),(298,.p 5 9)] nv fun _ nw=>?_
          let hC:Ob:=⟨aN,aJ * 11,[aS,aX,aY,bf,bu,bH,bT,eU,gY,.map ji,au],true⟩
          refine B1 (BP [aw,ax,aA,aD,hC,cv] 4 nw fun _ nx=>?_)
          refine B4 ?_
          have ny:=nx.pk (env':=[ab,bg,ai,ae,ac,ak,aj,al,am,ap,ao,ar,av,(39,.v (.int .u32 (((B5 (G3 ag) + ag.U.length):Nat):Int))),bz])
          refine A4 (wp_seq (E4 [0,1] kz (B1 (GR (d:=299) ny GU Tryz.call59 fun _ nz=>?_))))
          refine I4 [1] [] [ab,bg,ai,ae,ac,ak,aj,al,am,ap,ao,ar,av,(39,.v (.int .u32 (((B5 (G3 ag) + ag.U.length):Nat):Int))),(46,.v (.nilIface))] nz fun _ nA=>B4 ?_
          refine A4 (wp_seq (E1 [ab,bg,ai,ae,ac,ak,aj,al,am,ap,ao,ar,av,(39,.v (.int .u32 (((B5 (G3 ag) + ag.U.length):Nat):Int))),(46,.v (.nilIface)),(301,.v (.bool false))] nA fun _ hJ=>A4 ?_))
          refine G6 hJ.env_ (b:=false) kz (rfl) ?_
          refine wp_skip (H7 (H7 (A4 (E1 [ab,bg,ai,ae,ac,ak,aj,al,am,ap,ao,ar,av,(39,.v (.int .u32 (IntKind.u32.wrap ((((B5 (G3 ag) + ag.U.length):Nat):Int) - 1))))] hJ fun _ nB=>?_))))
          refine A4 ?_
          have nC:=RS.unnest (tb:=[aw,ax,aA,aD,hC]) (so:=cz) nB (fun w F h_=>(gU _ _ (dY _ _ h_).1).2) hb_b430 kz
          have d_:IntKind.u32.wrap ((((B5 (G3 ag) + ag.U.length):Nat):Int) - 1) = ((ag.U.length:Nat):Int):=EV (by rw [Bg dc]) (by have t0_:=Ei (G3 ag); have hu_:=e167_U.2.1; omega)
          have nD:=(nC.envEq (env':=[ab,ah,ai,ae,ac,ak,aj,al,am,ap,ao,ar,av,(39,.v (.int .u32 ((ag.U.length:Nat):Int)))]) (by first | rfl | (rw [d_]; rfl))).pk (env':=[ab,ah,ai,ae,ac,ak,aj,al,am,ap,ao,ar,av,(39,.v (.int .u32 ((ag.U.length:Nat):Int)))])
          exact ⟨ag.U.length,by rw [Bg dc]; omega,eR (Bi ji (ag.at_ 7).U [P7 (IntKind.i32.wrap ((ag.at_ 7).at_ 0).N),P7 (IntKind.i32.wrap ((ag.at_ 7).at_ 1).N)]) _ _ _ (fun w F h_=>⟨(eS _ _ (gQ _ _ (gU _ _ (dY _ _ h_).1).1).1).1,⟨⟨(trivial),(trivial),(dY _ _ h_).2.1,e443_U.2.1,e443_U.2.2,Jt e167_7V (T6 e443r),trivial⟩,⟨(fun _=>⟨(rfl),(rfl),⟨(fun _=>⟨rfl,NQ ((dY _ _ h_).2)⟩),(fun e_=>by rw [bN] at e_; cases e_)⟩,trivial⟩),(fun e2_=>by rw [if_pos (by exact bN),dc] at e2_; cases e2_)⟩⟩⟩) nD⟩
         refine wp_seq (wp_seq (Bo [ab,ah,ai,ae,ac,ak,aj,al,am,ap,ao,ar,av,(39,.v (.int .u32 ((ag.U.length - bC:Nat):Int))),(259,.v (.bool (decide (((ag.U.length - bC:Nat):Int) > 0))))] mJ fun _ dZ=>A4 ?_))
         refine E2 dZ.env_ (b:=decide (((ag.U.length - bC:Nat):Int) > 0)) kz (fun eV=>?_) (fun eV=>?_)
         ·
          have hlt_:bC < ag.U.length:=by have:=of_decide_eq_true eV; omega
          obtain ⟨⟨k_,x_⟩,hu_⟩:∃ y,ag.U[bC]? = some y:=⟨_,List.getElem?_eq_getElem hlt_⟩
          have hk_:=(T6 e167r) _ (List.mem_of_getElem? hu_)
          have hx_:=e167_U.2.2 _ (List.mem_of_getElem? hu_)
          have hn_:=e167_K _ (List.mem_of_getElem? hu_)
          dsimp only at hk_ hx_ hn_
          obtain ⟨kk_,rfl⟩:∃ kk:Nat,k_ = (kk:Int):=⟨k_.toNat,(Int.toNat_of_nonneg hk_.1).symm⟩
          refine wp_skip (A4 (wp_seq (wp_block (wp_seq ?_))))
          have nE:=dZ.cast (t:=uv kk_ ++ (uv x_.length ++ (x_ ++ (D7 (ag.U.drop (bC + 1)) ++ cy)))) (GV hu_ cy)
          refine E4 [0,1] kz ?_
          refine B1 (JU (d:=262) (vs:=[]) (Qv:=fun v _ _=>v = .int .u32 ((kk_:Nat):Int)) nE (T9 kk_ (by omega) _) rfl Tryz.call76 fun v_ _ _ hv_ nF=>?_)
          subst hv_
          let de:Nat × SV:=(8,.v (.int .i16 v))
          let df:Nat × SV:=(9,.v (.bool (decide (v ≥ 9))))
          let cJ:Nat × SV:=(40,.v (.int .u32 ((kk_:Nat):Int)))
          refine Ha [1] [] [ab,ah,de,df,ac,ak,aj,al,am,ap,ao,ar,av,(39,.v (.int .u32 ((ag.U.length - bC:Nat):Int))),cJ] nF fun _ nG=>B4 (A4 ?_)
          refine wp_seq (Bo [ab,ah,de,df,ac,ak,aj,al,am,ap,ao,ar,av,(39,.v (.int .u32 ((ag.U.length - bC:Nat):Int))),cJ,(263,.v (.int .u32 ((kk_:Nat):Int)))] nG fun _ nH=>A4 (wp_block ?_))
          refine wp_seq (Bo [ab,ah,de,df,ac,ak,aj,al,am,ap,ao,ar,av,(39,.v (.int .u32 ((ag.U.length - bC:Nat):Int))),cJ,(272,.v (.bool (((kk_:Nat):Int) == 0)))] nH fun _ eW=>A4 ?_)
          refine G6 eW.env_ (b:=((kk_:Nat):Int) == 0) kz (by simp only [beq_eq_false_iff_ne,ne_eq]; omega) ?_
          let eX:Nat × SV:=(16,.v (.pointer (some ⟨bW,bS * 19,none⟩)))
          let eY:Nat × SV:=(24,.v (.pointer (some ⟨aN,aJ * 11,none⟩)))
          have hE_:=(((((eW.env_.recast 7 (.p 0 0) (.v (.pointer (some ⟨bB,0,none⟩))) rfl rfl trivial).recast 10 (.p 1 0) (.v (.pointer (some ⟨bv,0,none⟩))) rfl rfl trivial).recast 16 (.p 3 0) (.v (.pointer (some ⟨bW,bS * 19,none⟩))) rfl rfl trivial).recast 24 (.p 5 0) (.v (.pointer (some ⟨aN,aJ * 11,none⟩))) rfl rfl trivial).pick (ks:=[2,7,8,9,10,12,13,14,16,20,21,22,24,39,40]) (env':=[ab,cB,de,df,cC,ak,aj,al,eX,ap,ao,ar,eY,(39,.v (.int .u32 ((ag.U.length - bC:Nat):Int))),cJ]) kz).cutTb 0 kz
          refine Dy (fun _=>True) 8 kz ?_
          let hK:Nat × SV:=(266,.v (.pointer (some ⟨aN,aJ * 11 + 10,none⟩)))
          refine G4 [0,1,2,3] [ab,cB,de,df,cC,ak,aj,al,eX,ap,ao,ar,eY,(39,.v (.int .u32 ((ag.U.length - bC:Nat):Int))),cJ,hK,(267,.v (.int .u32 ((kk_:Nat):Int)))] 4 (D8 (D8 (B6 (B6 (D8 (B6 (D8 (B6 (B6 (D8 (B6 (B6 (D8 (B6 (B6 (D8 (B6 (B6 E0)))))))))))))))))) (fun w_ _=>EU w_) trivial hE_ fun _ hE1_=>?_
          refine H6 (i:=4) kz (ES (d:=268) (vs:=[]) (Qv:=fun v _ _=>v = .int .u32 ((x_.length:Nat):Int)) eW.drew hE1_ (T9 x_.length hx_ _) rfl Tryz.call76 (fun v_ _ _ hv_ nI hE2_=>⟨fun _=>trivial,?_⟩) kz)
          subst hv_
          refine G4 [5] [ab,cB,(8,.v (.int .i16 v)),(9,.v (.bool (decide (v ≥ 9)))),cC,ak,aj,al,eX,ap,ao,ar,eY,(39,.v (.int .u32 ((ag.U.length - bC:Nat):Int))),cJ,hK,(267,.v (.int .u32 ((kk_:Nat):Int))),(269,.v (.int .i64 (IntKind.i64.wrap ((x_.length:Nat):Int))))] 2 (D8 (D8 (B6 (B6 (D8 (B6 (D8 (B6 (B6 (D8 (B6 (B6 (D8 (B6 (B6 (D8 (B6 (B6 E0)))))))))))))))))) (fun w_ _=>EU w_) trivial hE2_ fun _ hE3_=>?_
          refine H6 (i:=6) kz (ES (d:=270) (vs':=[.int .i64 (IntKind.i64.wrap ((x_.length:Nat):Int))]) (X:=x_) (vs:=[.int .i64 ((x_.length:Nat):Int)]) (Qv:=fun v w' F'=>∃ A2,v = .slice A2 x_.length x_.length ∧ Octs w' F' A2 x_.length x_) nI hE3_ (W9 x_ _) (by rw [wrap_i64 (by omega) (by omega)]) Tryz.call78 (fun v_ _ _ hv_ nJ hE4_=>⟨fun _=>trivial,?_⟩) kz)
          obtain ⟨A2_,rfl,hx2_⟩:=hv_
          refine H6 (i:=7) kz (JV (d:=271) (k:=4) (off:=10) nJ hE4_ e167_U.1 hu_ hx2_ hk_ (fun r_ _ _ nK hE6_=>⟨fun _=>trivial,?_⟩) Tryz.call77 rfl rfl rfl kz)
          refine L6 kz (H7 (H7 (A4 ?_))) _
          let hY:Ob:=⟨bv,0,[.int .i16 v,aC,ay,aC,au],true⟩
          let hZ:Ob:=⟨aN,aJ * 11,[aS,aX,aY,bf,bu,bH,bT,.int .i32 ((aV.f 0).n),.int .i32 ((aV.f 1).n),.map aV.m,.map (some r_)],true⟩
          have hE7_:EnvOk 423 (rdo bB none 0 0 :: [hY,ax,aA,aD,hZ]) [ab,ah,(8,.v (.int .i16 v)),(9,.v (.bool (decide (v ≥ 9)))),ac,ak,aj,al,am,ap,ao,ar,av,(39,.v (.int .u32 ((ag.U.length - bC:Nat):Int)))] _:=(((((hE6_.retable (rdo bB none 0 0 :: [hY,ax,aA,aD,hZ])).recast 7 (.v (.pointer (some ⟨bB,0,none⟩))) (.p 0 0) rfl rfl (Nat.le_of_ble_eq_true (n:=1) rfl)).recast 10 (.v (.pointer (some ⟨bv,0,none⟩))) (.p 1 0) rfl rfl (Nat.le_of_ble_eq_true (n:=2) rfl)).recast 16 (.v (.pointer (some ⟨bW,bS * 19,none⟩))) (.p 3 0) rfl rfl (Nat.le_of_ble_eq_true (n:=4) rfl)).recast 24 (.v (.pointer (some ⟨aN,aJ * 11,none⟩))) (.p 5 0) rfl rfl (Nat.le_of_ble_eq_true (n:=6) rfl)).pk
          have nL:=nK.env0 hE7_
          refine Bo [ab,ah,(8,.v (.int .i16 v)),(9,.v (.bool (decide (v ≥ 9)))),ac,ak,aj,al,am,ap,ao,ar,av,(39,.v (.int .u32 (IntKind.u32.wrap (((ag.U.length - bC:Nat):Int) - 1))))] nL fun _ ia=>A4 ?_
          rw [show IntKind.u32.wrap (((ag.U.length - bC:Nat):Int) - 1) = ((ag.U.length - (bC + 1):Nat):Int) from EV (by omega) (by have hu2_:=e167_U.2.1; omega)] at ia
          refine ⟨ag.U.length - (bC + 1),by omega,?_⟩
          rw [dX]
          exact .inr (⟨aV,mI,rg,some r_,bC + 1,rfl,by omega,eT,ia⟩)
         obtain rfl:bC = ag.U.length:=by have:=of_decide_eq_false eV; omega
         rw [List.take_length,List.drop_length] at dZ
         obtain ⟨r4,eZ,nM⟩:∃ P',(∀ w F,P' w F → (mI w F ∧ MapR w F jf ag.U)) ∧ RS w (fun b o=>b = bv ∧ o < 5) F 423 bB [aw,ax,aA,aD,⟨aN,aJ * 11,[aS,aX,aY,bf,bu,bH,bT,.int .i32 ((aV.f 0).n),.int .i32 ((aV.f 1).n),.map aV.m,.map jf],true⟩] [ab,ah,ai,ae,ac,ak,aj,al,am,ap,ao,ar,av,(39,.v (.int .u32 ((ag.U.length - ag.U.length:Nat):Int))),(259,.v (.bool (decide (((ag.U.length - ag.U.length:Nat):Int) > 0))))] P' cy _ _:=⟨_,fun _ _ h=>h,(dZ.finish e167_U.1 (T6 e167r)).cast rfl⟩
         refine wp_exit (F2 (F2 (I7 (A4 ?_))))
         exact ⟨aV,jf,ag.U,_,fun w F h_=>⟨(eT _ _ (eZ _ _ h_).1).1,(eT _ _ (eZ _ _ h_).1).2,⟨⟨(eZ _ _ h_).2,e167_U.2.1,e167_U.2.2⟩,⟨(fun _=>rfl),(fun e_=>by rw [bN] at e_; cases e_)⟩⟩⟩,nM.pk (env':=dR)⟩
        have nN:=eP.cast (t:=[] ++ cy) (by rw [if_neg (by rw [bN]; decide)])
        have nO:=nN.cast (t:=cy) rfl
        refine wp_skip (A4 ?_)
        exact ⟨(Bi none [] [P7 (-1),P7 (-1)]),none,[],_,fun w F h_=>⟨h_,⟨⟨trivial,trivial,MapR.nil _ _,Nat.zero_le _,(fun _ h=>by cases h),Nat.zero_le _,trivial⟩,⟨(fun e_=>by rw [if_neg (by rw [bN]; decide)] at e_; cases e_),fun _=>⟨rfl,rfl,rfl,rfl⟩⟩⟩,⟨⟨MapR.nil _ _,Nat.zero_le _,fun _ h=>by cases h⟩,⟨(fun e_=>by rw [bN] at e_; cases e_),fun _=>rfl⟩⟩⟩,nO.pk (env':=dR)⟩
       rintro _ _ ⟨cu,fG,dv,r7,bk,nP⟩
       refine H7 (A4 (E1 [ab,ah,ai,ae,ac,ak,aj,al,am,ap,ao,(22,.v (.int .i32 (IntKind.i32.wrap (((aJ:Nat):Int) + 1))))] nP fun _ nQ=>?_))
       refine A4 ?_
       let ib:B8:=[ab,ah,ai,ae,ac,ak,aj,al,am,ap,ao,(22,.v (.int .i32 ((aJ + 1:Nat):Int)))]
       have nR:=(nQ.envEq (env':=ib) (by rw [EJ (by have:=e74_2; omega)])).pk (env':=ib)
       exact (RS.thing (tb:=[aw,ax,aA]) (z:=.agg #[ay,bF,aO,aO,aO,aC,aG,ay,ay,au,au]) (D:=(Bi fG dv [P7 (IntKind.i32.wrap (ag.at_ 0).N),P7 (IntKind.i16.wrap (ag.at_ 1).N),P7 (IntKind.i64.wrap (ag.at_ 2).N),cR,cU,aZ,bU,cu])) (nR.cast ga) hg_g148 eo EY em rfl (fun w F h_=>⟨(f9 _ _ (dS _ _ (cG _ _ (bY _ _ (bO _ _ (bk _ _ h_).1).1).1).1).1).1,(f9 _ _ (dS _ _ (cG _ _ (bY _ _ (bO _ _ (bk _ _ h_).1).1).1).1).1).2,⟨(trivial),(trivial),(trivial),((dS _ _ (cG _ _ (bY _ _ (bO _ _ (bk _ _ h_).1).1).1).1).2.1),((cG _ _ (bY _ _ (bO _ _ (bk _ _ h_).1).1).1).2.1),((bY _ _ (bO _ _ (bk _ _ h_).1).1).2.1),((bO _ _ (bk _ _ h_).1).2.1),((bk _ _ h_).2.1.1),(bk _ _ h_).2.2.1.1,(bk _ _ h_).2.2.1.2.1,(bk _ _ h_).2.2.1.2.2,trivial⟩,⟨(rfl),(rfl),(rfl),((dS _ _ (cG _ _ (bY _ _ (bO _ _ (bk _ _ h_).1).1).1).1).2.2),((cG _ _ (bY _ _ (bO _ _ (bk _ _ h_).1).1).1).2.2),((bY _ _ (bO _ _ (bk _ _ h_).1).1).2.2),((bO _ _ (bk _ _ h_).1).2.2),((bk _ _ h_).2.1.2),(bk _ _ h_).2.2.2,trivial⟩⟩) kz)
      refine wp_seq (wp_seq (E1 [ab,ah,ai,ae,ac,ak,aj,al,am,ap,ao,(22,.v (.int .i32 (((lst (aH.at_ 2)).length:Nat):Int))),(148,.v (.bool (decide ((((lst (aH.at_ 2)).length:Nat):Int) < (((lst (aH.at_ 2)).length:Nat):Int)))))] ki fun _ ic=>A4 ?_))
      refine G6 ic.env_ (b:=decide ((((lst (aH.at_ 2)).length:Nat):Int) < (((lst (aH.at_ 2)).length:Nat):Int))) kz (decide_eq_false (by omega)) ?_
      refine wp_exit (F2 (F2 (I7 (A4 ?_))))
      obtain ⟨rm,nS⟩:=RS.listEnd (tb:=[aw,ax,aA]) (c:=ec) (ic.pk (env':=[ab,ah,ai,ae,ac,ak,aj,al,am,ap])) hg_g148 EY em hcap_g148 (by have:=e74_2; omega) hn_g148 kz
      exact ⟨V9 (some ⟨aN,0,none⟩) (lst (aH.at_ 2)).length ec rm,_,fun w F h_=>⟨h_.1,⟨h_.2.1,Nat.le_trans e74_2 (by decide),h_.2.2.1⟩,⟨rfl,h_.2.2.2⟩⟩,nS⟩
     refine wp_skip (A4 (wp_seq (E1 [ab,ah,ai,ae,ac,ak,aj,al,am,cq,ao,ek] ej fun _ nT=>?_)))
     refine A4 (wp_block (EG (wp_seq (wp_seq (E1 [ab,ah,ai,ae,ac,ak,aj,al,am,cq,ao,ek,(148,.v (.bool (decide (0 < (((lst (aH.at_ 2)).length:Nat):Int)))))] nT fun _ ig=>A4 ?_)))))
     refine G6 ig.env_ (b:=decide (0 < (((lst (aH.at_ 2)).length:Nat):Int))) kz (decide_eq_false (by have h_:=of_decide_eq_false dQ; omega)) ?_
     refine wp_exit (F2 (F2 (I7 (A4 ?_))))
     have hz_:(lst (aH.at_ 2)).length = 0:=by have h_:=of_decide_eq_false dQ; omega
     exact ⟨V9 none 0 0 (fun _=>Bh),_,fun w F h_=>⟨h_,⟨Slots.nil _ _ _ _,Nat.zero_le _,fun _ h=>absurd h (Nat.not_lt_zero _)⟩,⟨hz_.symm,fun _ h=>absurd h (Nat.not_lt_zero _)⟩⟩,(ig.cast (t:=fS) (by rw [List.eq_nil_of_length_eq_zero hz_]; rfl)).pk (env':=ei)⟩
    rintro _ _ ⟨aT,rn,b8,nU⟩
    refine wp_seq (E1 [ab,ah,ai,ae,ac,ak,aj,al,am,(19,.v (.slice aT.A aT.l aT.c))] nU fun _ nV=>?_)
    refine A4 ?_
    let e9:Value:=.slice aT.A aT.l aT.c
    refine M0 [aw,ax,⟨bW,bS * 19,[cm,dA,dB,dC,dD,dE,dF,dG,dH,dI,dJ,dK,dL,dM,dN,dO,dP,e9,au],true⟩] 2 bE nV fun _ _ nW=>?_
    refine A4 ?_
    have nX:=nW.cast jz
    refine S9 (Mid:=fun a_ w_=>∃ (fI:Option Nat) (dw:List (Int × Bs)) (P':G9),(∀ w F,P' w F → rn w F ∧ (MapR w F fI dw ∧ dw.length ≤ 1000000 ∧ ∀ x ∈ dw,x.2.length < 4294967296) ∧ ((decide (v ≥ 9)) = true → dw = aH.U) ∧ ((decide (v ≥ 9)) = false → dw = [])) ∧ RS w (fun b o=>b = bv ∧ o < 5) F 423 bB [aw,ax,⟨bW,bS * 19,[cm,dA,dB,dC,dD,dE,dF,dG,dH,dI,dJ,dK,dL,dM,dN,dO,dP,e9,.map fI],true⟩] cN P' jx a_ w_) ?_ ?_
    ·
     refine wp_seq (E1 [ab,ah,ai,ae,ac,ak,aj,al,am,(308,.v (.bool (decide (v ≥ 9))))] nX fun _ fa=>A4 ?_)
     refine E2 fa.env_ (b:=decide (v ≥ 9)) kz (fun dg=>?_) (fun dg=>?_)
     ·
      have nY:=fa.cast (t:=((uv aH.U.length) ++ (D7 aH.U)) ++ jx) (by rw [if_pos dg])
      refine E4 [0,1,2,3,4] kz ?_
      refine I4 [0] [1,2,3,4] [ab,ah,ai,ae,ac,ak,aj,al,(309,.p 3 0)] nY fun _ nZ=>?_
      refine B1 (Dn (d:=310) nZ (EQ aH.U e74_U (T6 e74r) _) (fun _=>MvF.tagsM _ _) Tryz.call75 fun jj sa _ _ ii n4=>?_)
      refine I4 [2,3] [4] [ab,ah,ai,ae,ac,ak,aj,al,(310,.v (.agg #[.map jj])),(312,.p 3 18)] n4 fun _ n5=>?_
      refine B1 (BP [aw,ax,⟨bW,bS * 19,[cm,dA,dB,dC,dD,dE,dF,dG,dH,dI,dJ,dK,dL,dM,dN,dO,dP,e9,.map jj],true⟩] 2 n5 fun _ n8=>?_)
      refine B4 ?_
      have oa:=n8.pk (env':=cN)
      refine A4 ?_
      exact ⟨jj,aH.U,_,fun w F h_=>⟨(ii _ _ h_).1,⟨(ii _ _ h_).2.1,e74_U.2.1,e74_U.2.2⟩,⟨fun _=>rfl,(fun e_=>by rw [dg] at e_; cases e_)⟩⟩,oa.pk (env':=cN)⟩
     have od:=fa.cast (t:=[] ++ jx) (by rw [if_neg (by rw [dg]; decide)])
     have oe:=od.cast (t:=jx) rfl
     refine wp_skip (A4 ?_)
     exact ⟨none,[],_,fun w F h_=>⟨h_,⟨MapR.nil _ _,Nat.zero_le _,fun _ h=>by cases h⟩,⟨(fun e_=>by rw [dg] at e_; cases e_),fun _=>rfl⟩⟩,oe.pk (env':=cN)⟩
    rintro _ _ ⟨fI,dw,sc,bI,og⟩
    refine H7 (A4 (E1 [ab,ah,ai,ae,ac,ak,aj,(14,.v (.int .i32 (IntKind.i32.wrap (((bS:Nat):Int) + 1))))] og fun _ oh=>?_))
    refine A4 ?_
    let ij:B8:=[ab,ah,ai,ae,ac,ak,aj,(14,.v (.int .i32 ((bS + 1:Nat):Int)))]
    have ol:=(oh.envEq (env':=ij) (by rw [EJ (by have:=e26_0; omega)])).pk (env':=ij)
    exact (RS.thing (tb:=[aw]) (z:=.agg #[bp,af,af,af,af,af,af,af,af,af,af,af,af,af,af,af,af,aC,au]) (D:=(Bi fI dw [fx,aE,aT])) (ol.cast jy) hg_g55 i6 EZ fR rfl (fun w F h_=>⟨(jw _ _ (fy _ _ (cE _ _ (b8 _ _ (bI _ _ h_).1).1).1).1).1,(jw _ _ (fy _ _ (cE _ _ (b8 _ _ (bI _ _ h_).1).1).1).1).2,⟨((fy _ _ (cE _ _ (b8 _ _ (bI _ _ h_).1).1).1).2.1),((cE _ _ (b8 _ _ (bI _ _ h_).1).1).2.1),((b8 _ _ (bI _ _ h_).1).2.1),(bI _ _ h_).2.1.1,(bI _ _ h_).2.1.2.1,(bI _ _ h_).2.1.2.2,trivial⟩,⟨((fy _ _ (cE _ _ (b8 _ _ (bI _ _ h_).1).1).1).2.2),((cE _ _ (b8 _ _ (bI _ _ h_).1).1).2.2),((b8 _ _ (bI _ _ h_).1).2.2),(bI _ _ h_).2.2,trivial⟩⟩) kz)
   refine wp_seq (wp_seq (E1 [ab,ah,ai,ae,ac,ak,aj,(14,.v (.int .i32 (((lst (T.at_ 0)).length:Nat):Int))),(95,.v (.bool (decide ((((lst (T.at_ 0)).length:Nat):Int) < (((lst (T.at_ 0)).length:Nat):Int)))))] qN fun _ ik=>A4 ?_))
   refine G6 ik.env_ (b:=decide ((((lst (T.at_ 0)).length:Nat):Int) < (((lst (T.at_ 0)).length:Nat):Int))) kz (decide_eq_false (by omega)) ?_
   refine wp_exit (F2 (F2 (I7 (A4 ?_))))
   obtain ⟨ro,om⟩:=RS.listEnd (tb:=[aw]) (c:=jp) (ik.pk (env':=[ab,ah,ai,ae,ac,ak])) hg_g55 EZ fR hcap_g55 (by have:=e26_0; omega) hn_g55 kz
   exact ⟨V9 (some ⟨bW,0,none⟩) (lst (T.at_ 0)).length jp ro,_,fun w F h_=>⟨h_.1,⟨h_.2.1,Nat.le_trans e26_0 (by decide),h_.2.2.1⟩,⟨rfl,h_.2.2.2⟩⟩,om⟩
  refine wp_skip (A4 (wp_seq (E1 [ab,ah,ai,ae,ac,cg,aj,eg] iZ fun _ oq=>?_)))
  refine A4 (wp_block (EG (wp_seq (wp_seq (E1 [ab,ah,ai,ae,ac,cg,aj,eg,(95,.v (.bool (decide (0 < (((lst (T.at_ 0)).length:Nat):Int)))))] oq fun _ il=>A4 ?_)))))
  refine G6 il.env_ (b:=decide (0 < (((lst (T.at_ 0)).length:Nat):Int))) kz (decide_eq_false (by have h_:=of_decide_eq_false fw; omega)) ?_
  refine wp_exit (F2 (F2 (I7 (A4 ?_))))
  have hz_:(lst (T.at_ 0)).length = 0:=by have h_:=of_decide_eq_false fw; omega
  exact ⟨V9 none 0 0 (fun _=>Bh),_,fun w F h_=>⟨h_,⟨Slots.nil _ _ _ _,Nat.zero_le _,fun _ h=>absurd h (Nat.not_lt_zero _)⟩,⟨hz_.symm,fun _ h=>absurd h (Nat.not_lt_zero _)⟩⟩,(il.cast (t:=fM) (by rw [List.eq_nil_of_length_eq_zero hz_]; rfl)).pk (env':=ef)⟩
 rintro _ _ ⟨bq,sd,ot,rp⟩
 refine wp_seq (E1 [ab,ah,ai,ae,ac,(11,.v (.slice bq.A bq.l bq.c))] rp fun _ ou=>?_)
 refine A4 ?_
 let bP:Value:=.slice bq.A bq.l bq.c
 refine M0 [⟨bv,0,[bK,bP,ay,aC,au],true⟩] 0 fP ou fun _ _ ov=>?_
 refine A4 (wp_seq ?_)
 have ow:=ov.cast js
 let d4:B8:=[ab,ah,ae,ac]
 refine S9 (Mid:=fun a_ w_=>∃ (dh:DV) (P':G9),(∀ w F,P' w F → sd w F ∧ (True) ∧ ((decide (v ≥ 1)) = true → dh.n = IntKind.i32.wrap (T.at_ 1).N) ∧ ((decide (v ≥ 1)) = false → dh.n = 0)) ∧ RS w (fun b o=>b = bv ∧ o < 5) F 423 bB [⟨bv,0,[bK,bP,.int .i32 dh.n,aC,au],true⟩] d4 P' jq a_ w_) ?_ ?_
 ·
  refine wp_seq (E1 [ab,ah,ae,ac,(319,.v (.bool (decide (v ≥ 1))))] ow fun _ fb=>A4 ?_)
  refine E2 fb.env_ (b:=decide (v ≥ 1)) kz (fun di=>?_) (fun di=>?_)
  ·
   have ox:=fb.cast (t:=(be 4 ((IntKind.i32.wrap (T.at_ 1).N))) ++ jq) (by rw [if_pos di])
   refine wp_seq (O6 (d:=320) [ab,ah,ae,ac,(47,.v (.int .i32 (IntKind.i32.wrap (T.at_ 1).N)))] ox (BS _ _) Tryz.call67 fun _ _ oy=>?_)
   refine A4 (M0 [⟨bv,0,[bK,bP,.int .i32 (IntKind.i32.wrap (T.at_ 1).N),aC,au],true⟩] 0 d4 oy fun _ _ oz=>?_)
   refine A4 ?_
   exact ⟨P7 (IntKind.i32.wrap (T.at_ 1).N),_,fun w F h_=>⟨h_,trivial,⟨fun _=>rfl,(fun e_=>by rw [di] at e_; cases e_)⟩⟩,oz.pk (env':=d4)⟩
  have oA:=fb.cast (t:=[] ++ jq) (by rw [if_neg (by rw [di]; decide)])
  have oB:=oA.cast (t:=jq) rfl
  refine wp_skip (A4 ?_)
  exact ⟨P7 (0),_,fun w F h_=>⟨h_,trivial,⟨(fun e_=>by rw [di] at e_; cases e_),fun _=>rfl⟩⟩,oB.pk (env':=d4)⟩
 rintro _ _ ⟨dh,dx,d5,oC⟩
 refine A4 (wp_seq ?_)
 have oD:=oC.cast jr
 let cw:Value:=.int .i32 dh.n
 refine S9 (Mid:=fun a_ w_=>∃ (bA:DV) (fJ:Option Nat) (dy:List (Int × Bs)) (P':G9),(∀ w F,P' w F → dx w F ∧ ((Slots w F 5 bA.A bA.c bA.l (fun i=>[.int .i32 (((bA.f i).f 0).n),.string (((bA.f i).f 1).s),.int .i32 (((bA.f i).f 2).n),.pointer (((bA.f i).f 3).A),.map ((bA.f i).m)]) ∧ bA.l ≤ 1000000 ∧ ∀ i,i < bA.l → W8 w F (bA.f i)) ∧ ((((if (decide (v ≥ 9)) = true then (decide (0 < (lst (T.at_ 2)).length)) else false)) = true → (bA.l = (lst (T.at_ 2)).length ∧ ∀ i,i < bA.l → Y9 v (bA.f i) ((lst (T.at_ 2)).getD i .zero))) ∧ (((if (decide (v ≥ 9)) = true then (decide (0 < (lst (T.at_ 2)).length)) else false)) = false → (bA.A = none ∧ bA.l = 0)))) ∧ (MapR w F fJ dy ∧ dy.length ≤ 1000000 ∧ ∀ x ∈ dy,x.2.length < 4294967296) ∧ ((decide (v ≥ 9)) = true → dy = T.U) ∧ ((decide (v ≥ 9)) = false → dy = [])) ∧ RS w (fun b o=>b = bv ∧ o < 5) F 423 bB [⟨bv,0,[bK,bP,cw,.slice bA.A bA.l bA.c,.map fJ],true⟩] [ah] P' ([]:Bs) a_ w_) ?_ ?_
 ·
  refine wp_seq (E1 [ab,ah,ae,ac,(325,.v (.bool (decide (v ≥ 9))))] oD fun _ fc=>A4 ?_)
  refine E2 fc.env_ (b:=decide (v ≥ 9)) kz (fun bh=>?_) (fun bh=>?_)
  ·
   have oE:=fc.cast (t:=((uv (B5 (decide (0 < (lst (T.at_ 2)).length)) + T.U.length)) ++ ((G8 (decide (0 < (lst (T.at_ 2)).length)) 0 ((if (decide (v ≥ 9)) = true then (uv ((lst (T.at_ 2)).length + 1)) else (be 4 (lst (T.at_ 2)).length)) ++ ((lst (T.at_ 2)).flatMap (H9 v)))) ++ (D7 T.U))) ++ ([]:Bs)) (by rw [if_pos bh])
   obtain ⟨cA,im⟩:∃ R,R = D7 T.U ++ ([]:Bs):=⟨_,rfl⟩
   obtain ⟨fK,fe⟩:∃ R,R = G8 (decide (0 < (lst (T.at_ 2)).length)) 0 ((if (decide (v ≥ 9)) = true then (uv ((lst (T.at_ 2)).length + 1)) else (be 4 (lst (T.at_ 2)).length)) ++ ((lst (T.at_ 2)).flatMap (H9 v))) ++ cA:=⟨_,rfl⟩
   have oF:=oE.cast (t:=uv (B5 (decide (0 < (lst (T.at_ 2)).length)) + T.U.length) ++ fK) (by rw [fe,im]; simp only [List.append_assoc])
   refine wp_seq (O6 (d:=326) [ab,ah,ae,ac,(48,.v (.int .u32 (((B5 (decide (0 < (lst (T.at_ 2)).length)) + T.U.length):Nat):Int)))] oF (CF (B5 (decide (0 < (lst (T.at_ 2)).length)) + T.U.length) (by have t0_:=Ei (decide (0 < (lst (T.at_ 2)).length)); have hu_:=e26_U.2.1; omega) _) Tryz.call76 fun _ _ oG=>?_)
   refine A4 (wp_block ?_)
   let bd:Ob:=⟨bv,0,[bK,bP,cw,aC,au],true⟩
   obtain ⟨jk,d6⟩:∃ I:Nat → Act → World → Prop,I = (fun q_ a_ w_=>((decide (0 < (lst (T.at_ 2)).length)) = true ∧ q_ = (B5 (decide (0 < (lst (T.at_ 2)).length)) + T.U.length) ∧ ∃ (P':G9),(∀ w F,P' w F → dx w F) ∧ RS w (fun b o=>b = bv ∧ o < 5) F 423 bB [bd] [ab,ah,ae,ac,(48,.v (.int .u32 (((B5 (decide (0 < (lst (T.at_ 2)).length)) + T.U.length):Nat):Int)))] P' fK a_ w_) ∨ (∃ (aI:DV) (P':G9) (w1_:World) (m_:Option Nat) (j_:Nat),q_ = T.U.length - j_ ∧ j_ ≤ T.U.length ∧ (∀ w F,P' w F → dx w F ∧ ((Slots w F 5 aI.A aI.c aI.l (fun i=>[.int .i32 (((aI.f i).f 0).n),.string (((aI.f i).f 1).s),.int .i32 (((aI.f i).f 2).n),.pointer (((aI.f i).f 3).A),.map ((aI.f i).m)]) ∧ aI.l ≤ 1000000 ∧ ∀ i,i < aI.l → W8 w F (aI.f i)) ∧ ((((if (decide (v ≥ 9)) = true then (decide (0 < (lst (T.at_ 2)).length)) else false)) = true → (aI.l = (lst (T.at_ 2)).length ∧ ∀ i,i < aI.l → Y9 v (aI.f i) ((lst (T.at_ 2)).getD i .zero))) ∧ (((if (decide (v ≥ 9)) = true then (decide (0 < (lst (T.at_ 2)).length)) else false)) = false → (aI.A = none ∧ aI.l = 0))))) ∧ TU w w1_ (fun b o=>b = bv ∧ o < 5) F 423 bB [⟨bv,0,[bK,bP,cw,.slice aI.A aI.l aI.c,au],true⟩] [⟨bv,0,[bK,bP,cw,.slice aI.A aI.l aI.c,.map m_],true⟩] [ab,ah,ae,ac,(48,.v (.int .u32 ((T.U.length - j_:Nat):Int)))] P' (D7 (T.U.drop j_) ++ ([]:Bs)) m_ (T.U.take j_) a_ w_)):=⟨_,rfl⟩
   have ff:∀ (aI:DV) (P':G9) (a_:Act) (w_:World),(∀ w F,P' w F → dx w F ∧ ((Slots w F 5 aI.A aI.c aI.l (fun i=>[.int .i32 (((aI.f i).f 0).n),.string (((aI.f i).f 1).s),.int .i32 (((aI.f i).f 2).n),.pointer (((aI.f i).f 3).A),.map ((aI.f i).m)]) ∧ aI.l ≤ 1000000 ∧ ∀ i,i < aI.l → W8 w F (aI.f i)) ∧ ((((if (decide (v ≥ 9)) = true then (decide (0 < (lst (T.at_ 2)).length)) else false)) = true → (aI.l = (lst (T.at_ 2)).length ∧ ∀ i,i < aI.l → Y9 v (aI.f i) ((lst (T.at_ 2)).getD i .zero))) ∧ (((if (decide (v ≥ 9)) = true then (decide (0 < (lst (T.at_ 2)).length)) else false)) = false → (aI.A = none ∧ aI.l = 0))))) → RS w (fun b o=>b = bv ∧ o < 5) F 423 bB [⟨bv,0,[.int .i16 v,.slice bq.A bq.l bq.c,.int .i32 dh.n,.slice aI.A aI.l aI.c,.map none],true⟩] [(2,.v (.bool false)),(7,.p 0 0),(9,.v (.bool (decide (v ≥ 9)))),(10,.p 1 0),(48,.v (.int .u32 ((T.U.length:Nat):Int)))] P' cA a_ w_ → jk T.U.length a_ w_:=by
    intro aI P' a_ w_ hp_ hs_
    have h_:=(TU.start hs_).cast im
    rw [d6]
    exact .inr (⟨aI,P',w_,none,0,rfl,Nat.zero_le _,hp_,h_⟩)
   have jl:∀ (P':G9) (a_:Act) (w_:World),(∀ w F,P' w F → dx w F) → RS w (fun b o=>b = bv ∧ o < 5) F 423 bB [⟨bv,0,[.int .i16 v,.slice bq.A bq.l bq.c,.int .i32 dh.n,.slice none 0 0,.map none],true⟩] [(2,.v (.bool false)),(7,.p 0 0),(9,.v (.bool (decide (v ≥ 9)))),(10,.p 1 0),(48,.v (.int .u32 (((B5 (decide (0 < (lst (T.at_ 2)).length)) + T.U.length):Nat):Int)))] P' fK a_ w_ → jk (B5 (decide (0 < (lst (T.at_ 2)).length)) + T.U.length) a_ w_:=by
    intro P' a_ w_ hp_ hs_
    rcases Bool.eq_false_or_eq_true (decide (0 < (lst (T.at_ 2)).length)) with dj | dj
    ·
     rw [d6]
     exact .inl ⟨dj,rfl,P',hp_,hs_⟩
    have e_:(B5 (decide (0 < (lst (T.at_ 2)).length)) + T.U.length) = T.U.length:=by rw [Ek dj,Nat.zero_add]
    have f_:fK = cA:=by rw [fe,Cw dj]; rfl
    have g_:=ff (V9 none 0 0 (fun _=>Bh)) P' a_ w_ (fun w F h_=>⟨(hp_ w F h_),⟨⟨Slots.nil _ _ _ _,Nat.zero_le _,fun _ h=>absurd h (Nat.not_lt_zero _)⟩,⟨(fun e2_=>by rw [if_pos (by exact bh),dj] at e2_; cases e2_),fun _=>⟨rfl,rfl⟩⟩⟩⟩) ((hs_.cast f_).envEq (env':=[ab,ah,ae,ac,(48,.v (.int .u32 ((T.U.length:Nat):Int)))]) (by rw [e_]))
    rw [e_]
    exact g_
   have oH:=oG.pk (env':=[ab,ah,ae,ac,(48,.v (.int .u32 (((B5 (decide (0 < (lst (T.at_ 2)).length)) + T.U.length):Nat):Int)))])
   refine wp_loop_ghost jk (B5 (decide (0 < (lst (T.at_ 2)).length)) + T.U.length) (jl dx _ _ (fun w F h_=>h_) oH) ?_
   rintro q_ aq wq io
   rw [d6] at io
   rcases io with ⟨dl,rfl,rq,fg,oI⟩ | ⟨aI,oJ,rt,jm,bD,rfl,hj_,fh,oK⟩
   ·
    replace fg:∀ w F,rq w F → dx w F ∧ True:=fun w F h_=>⟨fg w F h_,trivial⟩
    have oL:=oI.cast (t:=uv 0 ++ (uv ((if (decide (v ≥ 9)) = true then (uv ((lst (T.at_ 2)).length + 1)) else (be 4 (lst (T.at_ 2)).length)) ++ ((lst (T.at_ 2)).flatMap (H9 v))).length ++ (((if (decide (v ≥ 9)) = true then (uv ((lst (T.at_ 2)).length + 1)) else (be 4 (lst (T.at_ 2)).length)) ++ ((lst (T.at_ 2)).flatMap (H9 v))) ++ cA))) (by rw [fe,Ej dl]; simp only [List.append_assoc])
    refine wp_seq (wp_seq (E1 [ab,ah,ae,ac,(48,.v (.int .u32 (((B5 (decide (0 < (lst (T.at_ 2)).length)) + T.U.length):Nat):Int))),(328,.v (.bool (decide ((((B5 (decide (0 < (lst (T.at_ 2)).length)) + T.U.length):Nat):Int) > 0))))] oL fun _ ip=>A4 ?_))
    refine N7 ip.env_ (b:=decide ((((B5 (decide (0 < (lst (T.at_ 2)).length)) + T.U.length):Nat):Int) > 0)) kz (decide_eq_true (by rw [Bg dl]; omega)) ?_
    refine wp_skip (A4 (wp_seq (wp_block (wp_seq ?_))))
    let fi:Nat × SV:=(49,.v (.int .u32 0))
    refine O6 (d:=331) [ab,ah,ae,ac,(48,.v (.int .u32 (((B5 (decide (0 < (lst (T.at_ 2)).length)) + T.U.length):Nat):Int))),fi] ip ((show Q4 _ _ _ (uv ((if (decide (v ≥ 9)) = true then (uv ((lst (T.at_ 2)).length + 1)) else (be 4 (lst (T.at_ 2)).length)) ++ ((lst (T.at_ 2)).flatMap (H9 v))).length ++ (((if (decide (v ≥ 9)) = true then (uv ((lst (T.at_ 2)).length + 1)) else (be 4 (lst (T.at_ 2)).length)) ++ ((lst (T.at_ 2)).flatMap (H9 v))) ++ cA)) (.int .u32 0) from @CF 0 (by decide) (uv ((if (decide (v ≥ 9)) = true then (uv ((lst (T.at_ 2)).length + 1)) else (be 4 (lst (T.at_ 2)).length)) ++ ((lst (T.at_ 2)).flatMap (H9 v))).length ++ (((if (decide (v ≥ 9)) = true then (uv ((lst (T.at_ 2)).length + 1)) else (be 4 (lst (T.at_ 2)).length)) ++ ((lst (T.at_ 2)).flatMap (H9 v))) ++ cA)))) Tryz.call76 fun _ _ oM=>?_
    refine A4 (wp_seq (E1 [ab,ah,ae,ac,(48,.v (.int .u32 (((B5 (decide (0 < (lst (T.at_ 2)).length)) + T.U.length):Nat):Int))),fi,(332,.v (.int .u32 0))] oM fun _ oN=>?_))
    refine A4 (wp_block (wp_seq (E1 [ab,ah,ae,ac,(48,.v (.int .u32 (((B5 (decide (0 < (lst (T.at_ 2)).length)) + T.U.length):Nat):Int))),fi,(341,.v (.bool true))] oN fun _ iq=>A4 ?_)))
    refine N7 iq.env_ (b:=true) kz (rfl) ?_
    refine wp_seq (E4 [0,1,2,3,4,5] kz ?_)
    refine B1 (EA (d:=343) iq (CF (((if (decide (v ≥ 9)) = true then (uv ((lst (T.at_ 2)).length + 1)) else (be 4 (lst (T.at_ 2)).length)) ++ ((lst (T.at_ 2)).flatMap (H9 v))).length) hL (((if (decide (v ≥ 9)) = true then (uv ((lst (T.at_ 2)).length + 1)) else (be 4 (lst (T.at_ 2)).length)) ++ ((lst (T.at_ 2)).flatMap (H9 v))) ++ cA)) Tryz.call76 fun _ _ oO=>?_)
    refine I4 [1] [2,3,4,5] [ab,ah,ae,ac,(48,.v (.int .u32 (((B5 (decide (0 < (lst (T.at_ 2)).length)) + T.U.length):Nat):Int))),(344,.v (.int .i64 (IntKind.i64.wrap ((((if (decide (v ≥ 9)) = true then (uv ((lst (T.at_ 2)).length + 1)) else (be 4 (lst (T.at_ 2)).length)) ++ ((lst (T.at_ 2)).flatMap (H9 v))).length:Nat):Int))))] oO fun _ oP=>?_
    refine B1 (JT (d:=345) (q:=(IntKind.i64.wrap ((((if (decide (v ≥ 9)) = true then (uv ((lst (T.at_ 2)).length + 1)) else (be 4 (lst (T.at_ 2)).length)) ++ ((lst (T.at_ 2)).flatMap (H9 v))).length:Nat):Int))) (X:=(if (decide (v ≥ 9)) = true then (uv ((lst (T.at_ 2)).length + 1)) else (be 4 (lst (T.at_ 2)).length)) ++ ((lst (T.at_ 2)).flatMap (H9 v))) (rest:=cA) oP (by have h_:((if (decide (v ≥ 9)) = true then (uv ((lst (T.at_ 2)).length + 1)) else (be 4 (lst (T.at_ 2)).length)) ++ ((lst (T.at_ 2)).flatMap (H9 v))).length < 4294967296:=hL; first | exact wrap_i64 (by omega) (by omega) | rfl) (W9 _ _) Tryz.call78 fun jn ru _ _ ir oQ=>?_)
    refine I4 [3] [4,5] [ab,ah,ae,ac,(48,.v (.int .u32 (((B5 (decide (0 < (lst (T.at_ 2)).length)) + T.U.length):Nat):Int))),(346,.v (.agg #[.slice jn (((if (decide (v ≥ 9)) = true then (uv ((lst (T.at_ 2)).length + 1)) else (be 4 (lst (T.at_ 2)).length)) ++ ((lst (T.at_ 2)).flatMap (H9 v))).length) (((if (decide (v ≥ 9)) = true then (uv ((lst (T.at_ 2)).length + 1)) else (be 4 (lst (T.at_ 2)).length)) ++ ((lst (T.at_ 2)).flatMap (H9 v))).length),bo]))] oQ fun _ oR=>?_
    refine B1 (GS (d:=50) [aC,bo] oR fun fj _ _ hb_b604 oS=>?_)
    have oT:=(oS.tbEq (tb':=[bd,⟨fj,0,[aC,bo],true⟩]) rfl).pk (env':=[ab,ah,ae,ac,(48,.v (.int .u32 (((B5 (decide (0 < (lst (T.at_ 2)).length)) + T.U.length):Nat):Int))),(346,.v (.agg #[.slice jn (((if (decide (v ≥ 9)) = true then (uv ((lst (T.at_ 2)).length + 1)) else (be 4 (lst (T.at_ 2)).length)) ++ ((lst (T.at_ 2)).flatMap (H9 v))).length) (((if (decide (v ≥ 9)) = true then (uv ((lst (T.at_ 2)).length + 1)) else (be 4 (lst (T.at_ 2)).length)) ++ ((lst (T.at_ 2)).flatMap (H9 v))).length),bo])),(50,.p 2 0)])
    refine B1 (BP [bd,⟨fj,0,[.slice jn (((if (decide (v ≥ 9)) = true then (uv ((lst (T.at_ 2)).length + 1)) else (be 4 (lst (T.at_ 2)).length)) ++ ((lst (T.at_ 2)).flatMap (H9 v))).length) (((if (decide (v ≥ 9)) = true then (uv ((lst (T.at_ 2)).length + 1)) else (be 4 (lst (T.at_ 2)).length)) ++ ((lst (T.at_ 2)).flatMap (H9 v))).length),bo],true⟩] 1 oT fun _ oU=>?_)
    refine B4 ?_
    have iu:=oU.pk (env':=[ab,ah,ae,ac,(48,.v (.int .u32 (((B5 (decide (0 < (lst (T.at_ 2)).length)) + T.U.length):Nat):Int))),(50,.p 2 0)])
    obtain ⟨oV,oW,oX,iv⟩:=RS.nest (tb:=[bd]) (si:=(if (decide (v ≥ 9)) = true then (uv ((lst (T.at_ 2)).length + 1)) else (be 4 (lst (T.at_ 2)).length)) ++ ((lst (T.at_ 2)).flatMap (H9 v))) iu (fun w F h_=>(ir _ _ h_).2)
    let bx:Ob:=⟨bB,0,[.slice oV oW oX,bo],true⟩
    let az:Nat × SV:=(7,.p 2 0)
    let aB:Nat × SV:=(50,.p 0 0)
    have iw:=((iv.tbEq (tb':=[bd,bx]) rfl).envEq (env':=[ab,az,ae,ac,(48,.v (.int .u32 (((B5 (decide (0 < (lst (T.at_ 2)).length)) + T.U.length):Nat):Int))),aB]) kz).cast (t:=((if (decide (v ≥ 9)) = true then (uv ((lst (T.at_ 2)).length + 1)) else (be 4 (lst (T.at_ 2)).length)) ++ ((lst (T.at_ 2)).flatMap (H9 v))) ++ ([]:Bs)) (List.append_nil _).symm
    obtain ⟨oY,ix,oZ⟩:∃ P',(∀ w F,P' w F → (ru w F ∧ RdS w F oV oW oX cA)) ∧ RS w (fun b o=>b = bv ∧ o < 5) F 423 fj [bd,bx] [ab,az,ae,ac,(48,.v (.int .u32 (((B5 (decide (0 < (lst (T.at_ 2)).length)) + T.U.length):Nat):Int))),aB] P' (((if (decide (v ≥ 9)) = true then (uv ((lst (T.at_ 2)).length + 1)) else (be 4 (lst (T.at_ 2)).length)) ++ ((lst (T.at_ 2)).flatMap (H9 v))) ++ ([]:Bs)) _ _:=⟨_,fun _ _ h=>h,iw⟩
    clear iu iv iw
    have o5:=oZ.cast (t:=(uv ((lst (T.at_ 2)).length + 1)) ++ (((lst (T.at_ 2)).flatMap (H9 v)) ++ ([]:Bs))) (by rw [if_pos (by exact bh)]; simp only [List.append_assoc])
    refine A4 (wp_seq (E1 [ab,az,ae,ac,(48,.v (.int .u32 (((B5 (decide (0 < (lst (T.at_ 2)).length)) + T.U.length):Nat):Int))),aB,(51,.v (.slice none 0 0))] o5 fun _ o6=>?_))
    refine A4 (wp_seq ?_)
    let bQ:Nat × SV:=(52,.v (.slice none 0 0))
    refine E1 [ab,az,ae,ac,(48,.v (.int .u32 (((B5 (decide (0 < (lst (T.at_ 2)).length)) + T.U.length):Nat):Int))),aB,bQ] o6 fun _ o7=>?_
    refine A4 (wp_seq (E1 [ab,az,ae,ac,(48,.v (.int .u32 (((B5 (decide (0 < (lst (T.at_ 2)).length)) + T.U.length):Nat):Int))),aB,bQ] o7 fun _ o8=>?_))
    refine A4 (wp_seq (wp_seq (E1 [ab,az,ae,ac,(48,.v (.int .u32 (((B5 (decide (0 < (lst (T.at_ 2)).length)) + T.U.length):Nat):Int))),aB,bQ,(352,.v (.bool (decide (v ≥ 9))))] o8 fun _ iy=>A4 ?_)))
    refine N7 iy.env_ (b:=decide (v ≥ 9)) kz (bh) ?_
    let aF:Nat × SV:=(53,.v (.int .i32 (((lst (T.at_ 2)).length:Nat):Int)))
    refine O6 (d:=353) [ab,az,ae,ac,(48,.v (.int .u32 (((B5 (decide (0 < (lst (T.at_ 2)).length)) + T.U.length):Nat):Int))),aB,bQ,aF] iy (EO ((lst (T.at_ 2)).length) e26_2 _ (flat_ge' (PI v) _)) Tryz.call56 fun _ _ o9=>?_
    refine A4 (wp_seq (wp_seq (EM (d:=355) [ab,az,ae,ac,(48,.v (.int .u32 (((B5 (decide (0 < (lst (T.at_ 2)).length)) + T.U.length):Nat):Int))),aB,bQ,aF,(356,.v (.bool false))] o9 (EP _) Tryz.call58 fun _ _ iz=>?_)))
    refine A4 (G6 iz.env_ (b:=false) kz (rfl) ?_)
    refine wp_skip (A4 (wp_seq (EL (t:=58) (e:=101) (size:=5) (bytes:=48) (d:=359) (A0:=none) (m:=0) (cp:=0) [ab,az,ae,ac,(48,.v (.int .u32 (((B5 (decide (0 < (lst (T.at_ 2)).length)) + T.U.length):Nat):Int))),aB,aF,(358,.v (.slice none 0 0))] [ab,az,ae,ac,(48,.v (.int .u32 (((B5 (decide (0 < (lst (T.at_ 2)).length)) + T.U.length):Nat):Int))),aB,bQ,aF] 1 iz fun _ pa=>?_)))
    refine A4 (EH (Mid:=fun a_ w_=>∃ (bj:DV) (P':G9),(∀ w F,P' w F → oY w F ∧ (Slots w F 5 bj.A bj.c bj.l (fun i=>[.int .i32 (((bj.f i).f 0).n),.string (((bj.f i).f 1).s),.int .i32 (((bj.f i).f 2).n),.pointer (((bj.f i).f 3).A),.map ((bj.f i).m)]) ∧ bj.l ≤ 1000000 ∧ ∀ i,i < bj.l → W8 w F (bj.f i)) ∧ (bj.l = (lst (T.at_ 2)).length ∧ ∀ i,i < bj.l → Y9 v (bj.f i) ((lst (T.at_ 2)).getD i .zero))) ∧ RS w (fun b o=>b = bv ∧ o < 5) F 423 fj [bd,bx] [ab,az,ae,ac,(48,.v (.int .u32 (((B5 (decide (0 < (lst (T.at_ 2)).length)) + T.U.length):Nat):Int))),aB,(52,.v (.slice bj.A bj.l bj.c))] P' ([]:Bs) a_ w_) ?_ ?_)
    ·
     refine wp_seq (E1 [ab,az,ae,ac,(48,.v (.int .u32 (((B5 (decide (0 < (lst (T.at_ 2)).length)) + T.U.length):Nat):Int))),aB,bQ,aF,(361,.v (.bool (decide ((((lst (T.at_ 2)).length:Nat):Int) > 0))))] pa fun _ fk=>A4 ?_)
     let fl:Nat × SV:=(54,.v (.int .i32 0))
     refine E2 fk.env_ (b:=decide ((((lst (T.at_ 2)).length:Nat):Int) > 0)) kz (fun d7=>?_) (fun d7=>?_)
     ·
      have hn_g633:0 < (lst (T.at_ 2)).length:=by have h_:=of_decide_eq_true d7; omega
      refine E4 [0,1,2,3] kz ?_
      refine I4 [0,1] [2,3] [ab,az,ae,ac,(48,.v (.int .u32 (((B5 (decide (0 < (lst (T.at_ 2)).length)) + T.U.length):Nat):Int))),aB,aF,(362,.v (.slice none 0 0)),(363,.v (.int .i32 (((lst (T.at_ 2)).length:Nat):Int)))] fk fun _ pb=>?_
      refine B1 (EC (A0:=none) (d:=364) (t:=58) (tn:=21) (e:=101) (size:=5) (bytes:=48) (k:=.i32) (kn:=.i32) (q:=(((lst (T.at_ 2)).length:Nat):Int)) (j:=(lst (T.at_ 2)).length) (.agg #[ay,bp,ay,aG,au]) pb (fun bV fL _ _ hg_g633 hcap_g633 pc=>?_) rfl hn_g633 (by have:=e26_2; omega))
      let aK:Nat × SV:=(52,.v (.slice (some ⟨bV,0,none⟩) ((lst (T.at_ 2)).length) fL))
      refine I4 [3] [] [ab,az,ae,ac,(48,.v (.int .u32 (((B5 (decide (0 < (lst (T.at_ 2)).length)) + T.U.length):Nat):Int))),aB,aK,aF] pc fun _ pd=>B4 ?_
      refine A4 (wp_seq (E1 [ab,az,ae,ac,(48,.v (.int .u32 (((B5 (decide (0 < (lst (T.at_ 2)).length)) + T.U.length):Nat):Int))),aB,aK,aF,fl] pd fun _ iA=>?_))
      refine A4 (wp_block ?_)
      have fm:=iA.mv
      have pe:=(iA.cast (t:=(lst (T.at_ 2)).flatMap (H9 v) ++ ([]:Bs)) rfl).pk (env':=[ab,az,ae,ac,(48,.v (.int .u32 (((B5 (decide (0 < (lst (T.at_ 2)).length)) + T.U.length):Nat):Int))),aB,aK,aF,(54,.v (.int .i32 ((0:Nat):Int)))])
      let rI:Value:=.agg #[.int .i32 0,.string ByteArray.empty,.int .i32 0,.pointer none,.map none]
      refine EF (tb:=[bd,bx]) (z:=.agg #[ay,bp,ay,aG,au]) (cl:=Kb) (ok:=W8) (rel:=(Y9 v)) (L:=lst (T.at_ 2)) (size:=5) (H9 v) ([]:Bs) (fun k=>[ab,az,ae,ac,(48,.v (.int .u32 (((B5 (decide (0 < (lst (T.at_ 2)).length)) + T.U.length):Nat):Int))),aB,aK,aF,(54,.v (.int .i32 ((k:Nat):Int)))]) pe EW (fun bJ aQ _ _ fo pf pg=>?_) (fun _ _ ph=>?_)
      ·
       let aR:Nat × SV:=(54,.v (.int .i32 ((bJ:Nat):Int)))
       let rJ:Value:=(.agg #[.int .i32 0,.string ByteArray.empty,.int .i32 0,.pointer none,.map none])
       obtain ⟨se,iB,pi⟩:∃ P',(∀ w F,P' w F → (oY w F ∧ T7 bV 5 Kb W8 (Y9 v) (lst (T.at_ 2)) bJ w F)) ∧ RS w (fun b o=>b = bv ∧ o < 5) F 423 fj [bd,bx,I5 bV 5 (.agg #[ay,bp,ay,aG,au]) ((lst (T.at_ 2)).length) bJ] [ab,az,ae,ac,(48,.v (.int .u32 (((B5 (decide (0 < (lst (T.at_ 2)).length)) + T.U.length):Nat):Int))),aB,aK,aF,aR] P' ((H9 v) aQ ++ (((lst (T.at_ 2)).drop (bJ + 1)).flatMap (H9 v) ++ ([]:Bs))) _ _:=⟨_,fun _ _ h=>h,pg⟩
       obtain ⟨pj,iC⟩:∃ R,R = ((lst (T.at_ 2)).drop (bJ + 1)).flatMap (H9 v) ++ ([]:Bs):=⟨_,rfl⟩
       have pl:=(e26_2e aQ (List.mem_of_getElem? fo))
       have e652r:=(Er (Bl e26r 2) aQ (List.mem_of_getElem? fo))
       unfold Ew at pl
       obtain ⟨e652_0,e652_1,e652_2,e652_3,e652_U,_⟩:=pl
       obtain ⟨pm,iD⟩:∃ R,R = (if (decide (v ≥ 9)) = true then (uv aQ.U.length) ++ (D7 aQ.U) else []) ++ pj:=⟨_,rfl⟩
       obtain ⟨rv,iE⟩:∃ R,R = (if (decide (v ≥ 9)) = true then (if (aQ.at_ 3).null = true then uv 0 else uv ((D9 (aQ.at_ 3)).length + 1) ++ (D9 (aQ.at_ 3))) else (if (aQ.at_ 3).null = true then be 2 (-1) else be 2 (D9 (aQ.at_ 3)).length ++ (D9 (aQ.at_ 3)))) ++ pm:=⟨_,rfl⟩
       obtain ⟨pn,iF⟩:∃ R,R = (be 4 ((IntKind.i32.wrap (aQ.at_ 2).N))) ++ rv:=⟨_,rfl⟩
       obtain ⟨rx,iG⟩:∃ R,R = (if (decide (v ≥ 9)) = true then (uv ((aQ.at_ 1).S.length + 1) ++ (aQ.at_ 1).S) else (be 2 (aQ.at_ 1).S.length ++ (aQ.at_ 1).S)) ++ pn:=⟨_,rfl⟩
       obtain ⟨ry,iH⟩:∃ R,R = (be 4 ((IntKind.i32.wrap (aQ.at_ 0).N))) ++ rx:=⟨_,rfl⟩
       have po:=pi.cast (t:=ry) (by rw [iH,iG,iF,iE,iD,← iC]; unfold H9; simp only [List.append_assoc])
       refine wp_seq (wp_seq (E1 [ab,az,ae,ac,(48,.v (.int .u32 (((B5 (decide (0 < (lst (T.at_ 2)).length)) + T.U.length):Nat):Int))),aB,aK,aF,aR,(367,.v (.bool (decide (((bJ:Nat):Int) < (((lst (T.at_ 2)).length:Nat):Int)))))] po fun _ iI=>A4 ?_))
       refine N7 iI.env_ (b:=decide (((bJ:Nat):Int) < (((lst (T.at_ 2)).length:Nat):Int))) kz (decide_eq_true (by omega)) ?_
       have pp:=iI.cast iH
       refine wp_skip (A4 (wp_seq (wp_block (wp_seq (EN (t:=58) (e:=101) (size:=5) (bytes:=48) (d:=372) (tb:=[bd,bx]) (z:=.agg #[ay,bp,ay,aG,au]) [ab,az,ae,ac,(48,.v (.int .u32 (((B5 (decide (0 < (lst (T.at_ 2)).length)) + T.U.length):Nat):Int))),aB,aK,aF,aR,(370,.v (.slice (some ⟨bV,0,none⟩) ((lst (T.at_ 2)).length) fL)),(371,.v (.int .i32 ((bJ:Nat):Int)))] [ab,az,ae,ac,(48,.v (.int .u32 (((B5 (decide (0 < (lst (T.at_ 2)).length)) + T.U.length):Nat):Int))),aB,aK,aF,aR,(55,.p 4 0)] 2 pp pf rfl kz fun _ pq=>?_)))))
       let cK:Ob:=I5 bV 5 (.agg #[ay,bp,ay,aG,au]) ((lst (T.at_ 2)).length) (bJ + 1)
       have pr:=pq.tbEq (tb':=[bd,bx,cK,⟨bV,bJ * 5,[ay,bp,ay,aG,au],true⟩]) rfl
       refine A4 (wp_seq (E4 [0,1] kz ?_))
       refine I4 [0] [1] [ab,az,ae,ac,(48,.v (.int .u32 (((B5 (decide (0 < (lst (T.at_ 2)).length)) + T.U.length):Nat):Int))),aB,aK,aF,aR,(55,.p 4 0),(373,.p 4 0)] pr fun _ pt=>?_
       refine B1 (GW (d:=374) (vs:=[.pointer (some ⟨bV,bJ * 5,none⟩)]) pt (fun _=>PM _ _ _) Tryz.call79 fun _ pu=>?_)
       refine B4 ?_
       have pv:=pu.pk (env':=[ab,az,ae,ac,(48,.v (.int .u32 (((B5 (decide (0 < (lst (T.at_ 2)).length)) + T.U.length):Nat):Int))),aB,aK,aF,aR,(55,.p 4 0)])
       refine A4 (wp_seq ?_)
       let bn:Nat × SV:=(56,.p 4 0)
       refine E1 [ab,az,ae,ac,(48,.v (.int .u32 (((B5 (decide (0 < (lst (T.at_ 2)).length)) + T.U.length):Nat):Int))),aB,aK,aF,aR,bn] pv fun _ pw=>?_
       refine A4 (wp_seq (wp_seq (O6 (d:=376) [ab,az,ae,ac,(48,.v (.int .u32 (((B5 (decide (0 < (lst (T.at_ 2)).length)) + T.U.length):Nat):Int))),aB,aK,aF,aR,bn,(57,.v (.int .i32 (IntKind.i32.wrap (aQ.at_ 0).N)))] pw (BS _ _) Tryz.call67 fun _ _ px=>?_)))
       refine A4 ?_
       let dp:Value:=.int .i32 (IntKind.i32.wrap (aQ.at_ 0).N)
       refine M0 [bd,bx,cK,⟨bV,bJ * 5,[dp,bp,ay,aG,au],true⟩] 3 [ab,az,ae,ac,(48,.v (.int .u32 (((B5 (decide (0 < (lst (T.at_ 2)).length)) + T.U.length):Nat):Int))),aB,aK,aF,aR,bn] px fun _ _ pz=>?_
       refine A4 (wp_seq (wp_seq (E1 [ab,az,ae,ac,(48,.v (.int .u32 (((B5 (decide (0 < (lst (T.at_ 2)).length)) + T.U.length):Nat):Int))),aB,aK,aF,aR,bn] pz fun _ pA=>?_)))
       refine A4 (wp_seq (wp_seq (E1 [ab,az,ae,ac,(48,.v (.int .u32 (((B5 (decide (0 < (lst (T.at_ 2)).length)) + T.U.length):Nat):Int))),aB,aK,aF,aR,bn,(381,.v (.bool false))] pA fun _ iJ=>A4 ?_)))
       refine G6 iJ.env_ (b:=false) kz (rfl) ?_
       refine wp_seq (E1 [ab,az,ae,ac,(48,.v (.int .u32 (((B5 (decide (0 < (lst (T.at_ 2)).length)) + T.U.length):Nat):Int))),aB,aK,aF,aR,bn,(385,.v (.bool (decide (v ≥ 9))))] iJ fun _ iK=>A4 ?_)
       refine N7 iK.env_ (b:=decide (v ≥ 9)) kz (bh) ?_
       have pB:=iK.cast iG
       have pC:=pB.cast (t:=(uv ((aQ.at_ 1).S.length + 1) ++ (aQ.at_ 1).S) ++ pn) (by rw [if_pos (bh)])
       refine O6 (d:=386) [ab,az,ae,ac,(48,.v (.int .u32 (((B5 (decide (0 < (lst (T.at_ 2)).length)) + T.U.length):Nat):Int))),aB,aK,aF,aR,bn,(58,.v (.string (bs (aQ.at_ 1).S)))] pC (JO (aQ.at_ 1).S e652_1 _) Tryz.call63 fun _ _ pD=>?_
       refine A4 ?_
       let d8:Value:=.string (bs (aQ.at_ 1).S)
       refine M0 [bd,bx,cK,⟨bV,bJ * 5,[dp,d8,ay,aG,au],true⟩] 3 [ab,az,ae,ac,(48,.v (.int .u32 (((B5 (decide (0 < (lst (T.at_ 2)).length)) + T.U.length):Nat):Int))),aB,aK,aF,aR,bn] pD fun _ _ pE=>?_
       refine A4 (wp_seq (wp_seq ?_))
       have pF:=pE.cast iF
       refine O6 (d:=392) [ab,az,ae,ac,(48,.v (.int .u32 (((B5 (decide (0 < (lst (T.at_ 2)).length)) + T.U.length):Nat):Int))),aB,aK,aF,aR,bn,(59,.v (.int .i32 (IntKind.i32.wrap (aQ.at_ 2).N)))] pF (BS _ _) Tryz.call67 fun _ _ pG=>?_
       refine A4 ?_
       let fq:Value:=.int .i32 (IntKind.i32.wrap (aQ.at_ 2).N)
       refine M0 [bd,bx,cK,⟨bV,bJ * 5,[dp,d8,fq,aG,au],true⟩] 3 [ab,az,ae,ac,(48,.v (.int .u32 (((B5 (decide (0 < (lst (T.at_ 2)).length)) + T.U.length):Nat):Int))),aB,aK,aF,aR,bn] pG fun _ _ pH=>?_
       refine A4 (wp_seq (wp_seq (E1 [ab,az,ae,ac,(48,.v (.int .u32 (((B5 (decide (0 < (lst (T.at_ 2)).length)) + T.U.length):Nat):Int))),aB,aK,aF,aR,bn] pH fun _ pI=>?_)))
       refine A4 (wp_seq (wp_seq (E1 [ab,az,ae,ac,(48,.v (.int .u32 (((B5 (decide (0 < (lst (T.at_ 2)).length)) + T.U.length):Nat):Int))),aB,aK,aF,aR,bn,(397,.v (.bool (decide (v ≥ 9))))] pI fun _ iL=>A4 ?_)))
       refine N7 iL.env_ (b:=decide (v ≥ 9)) kz (bh) ?_
       have pJ:=iL.cast iE
       have pK:=pJ.cast (t:=(if (aQ.at_ 3).null = true then uv 0 else uv ((D9 (aQ.at_ 3)).length + 1) ++ (D9 (aQ.at_ 3))) ++ pm) (by rw [if_pos (bh)])
       refine wp_seq (E1 [ab,az,ae,ac,(48,.v (.int .u32 (((B5 (decide (0 < (lst (T.at_ 2)).length)) + T.U.length):Nat):Int))),aB,aK,aF,aR,bn,(398,.v (.bool false))] pK fun _ iM=>A4 ?_)
       refine G6 iM.env_ (b:=false) kz (rfl) ?_
       refine Do (d:=400) (fun fr=>[ab,az,ae,ac,(48,.v (.int .u32 (((B5 (decide (0 < (lst (T.at_ 2)).length)) + T.U.length):Nat):Int))),aB,aK,aF,aR,bn,(60,.v (.pointer fr))]) iM (GY (aQ.at_ 3).null (D9 (aQ.at_ 3)) e652_3 _) (fun _=>(MvF.text _ _).and (MvF.is _)) Tryz.call72 fun fr sf _ _ d9 pL=>?_
       refine A4 (M0 [bd,bx,cK,⟨bV,bJ * 5,[dp,d8,fq,.pointer fr,au],true⟩] 3 [ab,az,ae,ac,(48,.v (.int .u32 (((B5 (decide (0 < (lst (T.at_ 2)).length)) + T.U.length):Nat):Int))),aB,aK,aF,aR,bn] pL fun _ _ pM=>?_)
       refine A4 (wp_seq (E1 [ab,az,ae,ac,(48,.v (.int .u32 (((B5 (decide (0 < (lst (T.at_ 2)).length)) + T.U.length):Nat):Int))),aB,aK,aF,aR,bn,(408,.v (.bool (decide (v ≥ 9))))] pM fun _ iN=>A4 ?_))
       refine N7 iN.env_ (b:=decide (v ≥ 9)) kz (bh) ?_
       have pN:=iN.cast iD
       have pO:=pN.cast (t:=((uv aQ.U.length) ++ (D7 aQ.U)) ++ pj) (by rw [if_pos (bh)])
       refine E4 [0,1,2,3,4] kz ?_
       refine I4 [0] [1,2,3,4] [ab,az,ae,ac,(48,.v (.int .u32 (((B5 (decide (0 < (lst (T.at_ 2)).length)) + T.U.length):Nat):Int))),aB,aK,aF,aR,(409,.p 4 0)] pO fun _ pP=>?_
       refine B1 (Dn (d:=410) pP (EQ aQ.U e652_U (T6 e652r) _) (fun _=>MvF.tagsM _ _) Tryz.call75 fun jo sg _ _ dq pQ=>?_)
       refine I4 [2,3] [4] [ab,az,ae,ac,(48,.v (.int .u32 (((B5 (decide (0 < (lst (T.at_ 2)).length)) + T.U.length):Nat):Int))),aB,aK,aF,aR,(410,.v (.agg #[.map jo])),(412,.p 4 4)] pQ fun _ pR=>?_
       refine B1 (BP [bd,bx,cK,⟨bV,bJ * 5,[dp,d8,fq,.pointer fr,.map jo],true⟩] 3 pR fun _ pS=>?_)
       refine B4 ?_
       have pT:=pS.pk (env':=[ab,az,ae,ac,(48,.v (.int .u32 (((B5 (decide (0 < (lst (T.at_ 2)).length)) + T.U.length):Nat):Int))),aB,aK,aF,aR])
       refine H7 (A4 (E1 [ab,az,ae,ac,(48,.v (.int .u32 (((B5 (decide (0 < (lst (T.at_ 2)).length)) + T.U.length):Nat):Int))),aB,aK,aF,(54,.v (.int .i32 (IntKind.i32.wrap (((bJ:Nat):Int) + 1))))] pT fun _ pU=>?_))
       refine A4 ?_
       let iO:Nat × SV:=(54,.v (.int .i32 ((bJ + 1:Nat):Int)))
       have pV:=(pU.envEq (env':=[ab,az,ae,ac,(48,.v (.int .u32 (((B5 (decide (0 < (lst (T.at_ 2)).length)) + T.U.length):Nat):Int))),aB,aK,aF,iO]) (by rw [EJ (by have:=e26_2; omega)])).pk (env':=[ab,az,ae,ac,(48,.v (.int .u32 (((B5 (decide (0 < (lst (T.at_ 2)).length)) + T.U.length):Nat):Int))),aB,aK,aF,iO])
       exact (RS.thing (tb:=[bd,bx]) (z:=.agg #[ay,bp,ay,aG,au]) (D:=(Bi jo aQ.U [P7 (IntKind.i32.wrap (aQ.at_ 0).N),Em (bs (aQ.at_ 1).S),P7 (IntKind.i32.wrap (aQ.at_ 2).N),En fr (bs (D9 (aQ.at_ 3)))])) (pV.cast iC) hg_g633 fo EW fm rfl (fun w F h_=>⟨(iB _ _ (d9 _ _ (dq _ _ h_).1).1).1,(iB _ _ (d9 _ _ (dq _ _ h_).1).1).2,⟨(trivial),(by show ByteArray.size (bs _) ≤ 1000000; rw [W6]; exact Nat.le_trans e652_1 (by decide)),(trivial),(⟨(d9 _ _ (dq _ _ h_).1).2.1,by show ByteArray.size (bs _) ≤ 1000000; rw [W6]; exact Nat.le_trans e652_3 (by decide)⟩),(dq _ _ h_).2.1,e652_U.2.1,e652_U.2.2,trivial⟩,⟨(rfl),(rfl),(rfl),(⟨rfl,(d9 _ _ (dq _ _ h_).1).2.2⟩),⟨(fun _=>rfl),(fun e_=>by rw [bh] at e_; cases e_)⟩,trivial⟩⟩) kz)
      refine wp_seq (wp_seq (E1 [ab,az,ae,ac,(48,.v (.int .u32 (((B5 (decide (0 < (lst (T.at_ 2)).length)) + T.U.length):Nat):Int))),aB,aK,aF,(54,.v (.int .i32 (((lst (T.at_ 2)).length:Nat):Int))),(367,.v (.bool (decide ((((lst (T.at_ 2)).length:Nat):Int) < (((lst (T.at_ 2)).length:Nat):Int)))))] ph fun _ iP=>A4 ?_))
      refine G6 iP.env_ (b:=decide ((((lst (T.at_ 2)).length:Nat):Int) < (((lst (T.at_ 2)).length:Nat):Int))) kz (decide_eq_false (by omega)) ?_
      refine wp_exit (F2 (F2 (I7 (A4 ?_))))
      obtain ⟨rz,pW⟩:=RS.listEnd (tb:=[bd,bx]) (c:=fL) (iP.pk (env':=[ab,az,ae,ac,(48,.v (.int .u32 (((B5 (decide (0 < (lst (T.at_ 2)).length)) + T.U.length):Nat):Int))),aB,aK])) hg_g633 EW fm hcap_g633 (by have:=e26_2; omega) hn_g633 kz
      exact ⟨V9 (some ⟨bV,0,none⟩) (lst (T.at_ 2)).length fL rz,_,fun w F h_=>⟨h_.1,⟨h_.2.1,Nat.le_trans e26_2 (by decide),h_.2.2.1⟩,⟨rfl,h_.2.2.2⟩⟩,pW⟩
     refine wp_skip (A4 (wp_seq (E1 [ab,az,ae,ac,(48,.v (.int .u32 (((B5 (decide (0 < (lst (T.at_ 2)).length)) + T.U.length):Nat):Int))),aB,bQ,aF,fl] fk fun _ pX=>?_)))
     refine A4 (wp_block (EG (wp_seq (wp_seq (E1 [ab,az,ae,ac,(48,.v (.int .u32 (((B5 (decide (0 < (lst (T.at_ 2)).length)) + T.U.length):Nat):Int))),aB,bQ,aF,fl,(367,.v (.bool (decide (0 < (((lst (T.at_ 2)).length:Nat):Int)))))] pX fun _ iQ=>A4 ?_)))))
     refine G6 iQ.env_ (b:=decide (0 < (((lst (T.at_ 2)).length:Nat):Int))) kz (decide_eq_false (by have h_:=of_decide_eq_false d7; omega)) ?_
     refine wp_exit (F2 (F2 (I7 (A4 ?_))))
     have hz_:(lst (T.at_ 2)).length = 0:=by have h_:=of_decide_eq_false d7; omega
     exact ⟨V9 none 0 0 (fun _=>Bh),_,fun w F h_=>⟨h_,⟨Slots.nil _ _ _ _,Nat.zero_le _,fun _ h=>absurd h (Nat.not_lt_zero _)⟩,⟨hz_.symm,fun _ h=>absurd h (Nat.not_lt_zero _)⟩⟩,(iQ.cast (t:=([]:Bs)) (by rw [List.eq_nil_of_length_eq_zero hz_]; rfl)).pk (env':=[ab,az,ae,ac,(48,.v (.int .u32 (((B5 (decide (0 < (lst (T.at_ 2)).length)) + T.U.length):Nat):Int))),aB,bQ])⟩
    rintro _ _ ⟨bj,sh,ea,pY⟩
    refine wp_seq (E1 [ab,az,ae,ac,(48,.v (.int .u32 (((B5 (decide (0 < (lst (T.at_ 2)).length)) + T.U.length):Nat):Int))),aB,(51,.v (.slice bj.A bj.l bj.c))] pY fun _ pZ=>?_)
    refine A4 (wp_seq ?_)
    let iR:Ob:=⟨bv,0,[bK,bP,cw,.slice bj.A bj.l bj.c,au],true⟩
    refine M0 [iR,bx] 0 [ab,az,ae,ac,(48,.v (.int .u32 (((B5 (decide (0 < (lst (T.at_ 2)).length)) + T.U.length):Nat):Int))),aB] pZ fun _ _ p5=>?_
    refine A4 (wp_seq (E4 [0,1] kz (B1 (GR (d:=418) p5 GU Tryz.call59 fun _ p6=>?_))))
    refine I4 [1] [] [ab,az,ae,ac,(48,.v (.int .u32 (((B5 (decide (0 < (lst (T.at_ 2)).length)) + T.U.length):Nat):Int))),(61,.v (.nilIface))] p6 fun _ p7=>B4 ?_
    refine A4 (wp_seq (E1 [ab,az,ae,ac,(48,.v (.int .u32 (((B5 (decide (0 < (lst (T.at_ 2)).length)) + T.U.length):Nat):Int))),(61,.v (.nilIface)),(420,.v (.bool false))] p7 fun _ iS=>A4 ?_))
    refine G6 iS.env_ (b:=false) kz (rfl) ?_
    refine wp_skip (H7 (H7 (A4 (E1 [ab,az,ae,ac,(48,.v (.int .u32 (IntKind.u32.wrap ((((B5 (decide (0 < (lst (T.at_ 2)).length)) + T.U.length):Nat):Int) - 1))))] iS fun _ p8=>?_))))
    refine A4 ?_
    have p9:=RS.unnest (tb:=[iR]) (so:=cA) p8 (fun w F h_=>(ix _ _ (ea _ _ h_).1).2) hb_b604 kz
    have d_:IntKind.u32.wrap ((((B5 (decide (0 < (lst (T.at_ 2)).length)) + T.U.length):Nat):Int) - 1) = ((T.U.length:Nat):Int):=EV (by rw [Bg dl]) (by have t0_:=Ei (decide (0 < (lst (T.at_ 2)).length)); have hu_:=e26_U.2.1; omega)
    have qa:=(p9.envEq (env':=[ab,ah,ae,ac,(48,.v (.int .u32 ((T.U.length:Nat):Int)))]) (by first | rfl | (rw [d_]; rfl))).pk (env':=[ab,ah,ae,ac,(48,.v (.int .u32 ((T.U.length:Nat):Int)))])
    exact ⟨T.U.length,by rw [Bg dl]; omega,ff bj _ _ _ (fun w F h_=>⟨(fg _ _ (ir _ _ (ix _ _ (ea _ _ h_).1).1).1).1,⟨(ea _ _ h_).2.1,⟨(fun _=>(ea _ _ h_).2.2),(fun e2_=>by rw [if_pos (by exact bh),dl] at e2_; cases e2_)⟩⟩⟩) qa⟩
   refine wp_seq (wp_seq (Bo [ab,ah,ae,ac,(48,.v (.int .u32 ((T.U.length - bD:Nat):Int))),(328,.v (.bool (decide (((T.U.length - bD:Nat):Int) > 0))))] oK fun _ eb=>A4 ?_))
   refine E2 eb.env_ (b:=decide (((T.U.length - bD:Nat):Int) > 0)) kz (fun ft=>?_) (fun ft=>?_)
   ·
    have hlt_:bD < T.U.length:=by have:=of_decide_eq_true ft; omega
    obtain ⟨⟨k_,x_⟩,hu_⟩:∃ y,T.U[bD]? = some y:=⟨_,List.getElem?_eq_getElem hlt_⟩
    have hk_:=(T6 e26r) _ (List.mem_of_getElem? hu_)
    have hx_:=e26_U.2.2 _ (List.mem_of_getElem? hu_)
    have hn_:=e26_K _ (List.mem_of_getElem? hu_)
    dsimp only at hk_ hx_ hn_
    obtain ⟨kk_,rfl⟩:∃ kk:Nat,k_ = (kk:Int):=⟨k_.toNat,(Int.toNat_of_nonneg hk_.1).symm⟩
    refine wp_skip (A4 (wp_seq (wp_block (wp_seq ?_))))
    have qb:=eb.cast (t:=uv kk_ ++ (uv x_.length ++ (x_ ++ (D7 (T.U.drop (bD + 1)) ++ ([]:Bs))))) (GV hu_ ([]:Bs))
    refine E4 [0,1] kz ?_
    refine B1 (JU (d:=331) (vs:=[]) (Qv:=fun v _ _=>v = .int .u32 ((kk_:Nat):Int)) qb (T9 kk_ (by omega) _) rfl Tryz.call76 fun v_ _ _ hv_ qc=>?_)
    subst hv_
    let dr:Nat × SV:=(9,.v (.bool (decide (v ≥ 9))))
    let cL:Nat × SV:=(49,.v (.int .u32 ((kk_:Nat):Int)))
    refine Ha [1] [] [ab,ah,dr,ac,(48,.v (.int .u32 ((T.U.length - bD:Nat):Int))),cL] qc fun _ qd=>B4 (A4 ?_)
    refine wp_seq (Bo [ab,ah,dr,ac,(48,.v (.int .u32 ((T.U.length - bD:Nat):Int))),cL,(332,.v (.int .u32 ((kk_:Nat):Int)))] qd fun _ qe=>A4 (wp_block ?_))
    refine wp_seq (Bo [ab,ah,dr,ac,(48,.v (.int .u32 ((T.U.length - bD:Nat):Int))),cL,(341,.v (.bool (((kk_:Nat):Int) == 0)))] qe fun _ fu=>A4 ?_)
    refine G6 fu.env_ (b:=((kk_:Nat):Int) == 0) kz (by simp only [beq_eq_false_iff_ne,ne_eq]; omega) ?_
    have hE_:=(((fu.env_.recast 7 (.p 0 0) (.v (.pointer (some ⟨bB,0,none⟩))) rfl rfl trivial).recast 10 (.p 1 0) (.v (.pointer (some ⟨bv,0,none⟩))) rfl rfl trivial).pick (ks:=[2,7,9,10,48,49]) (env':=[ab,cB,dr,cC,(48,.v (.int .u32 ((T.U.length - bD:Nat):Int))),cL]) kz).cutTb 0 kz
    refine Dy (fun _=>True) 8 kz ?_
    let iT:Nat × SV:=(335,.v (.pointer (some ⟨bv,4,none⟩)))
    let iU:Nat × SV:=(336,.v (.int .u32 ((kk_:Nat):Int)))
    refine G4 [0,1,2,3] [ab,cB,dr,cC,(48,.v (.int .u32 ((T.U.length - bD:Nat):Int))),cL,iT,iU] 4 (D8 (D8 (B6 (B6 (D8 (B6 (B6 E0))))))) (fun w_ _=>EU w_) trivial hE_ fun _ hE1_=>?_
    refine H6 (i:=4) kz (ES (d:=337) (vs:=[]) (Qv:=fun v _ _=>v = .int .u32 ((x_.length:Nat):Int)) fu.drew hE1_ (T9 x_.length hx_ _) rfl Tryz.call76 (fun v_ _ _ hv_ qf hE2_=>⟨fun _=>trivial,?_⟩) kz)
    subst hv_
    refine G4 [5] [ab,cB,(9,.v (.bool (decide (v ≥ 9)))),cC,(48,.v (.int .u32 ((T.U.length - bD:Nat):Int))),cL,iT,iU,(338,.v (.int .i64 (IntKind.i64.wrap ((x_.length:Nat):Int))))] 2 (D8 (D8 (B6 (B6 (D8 (B6 (B6 E0))))))) (fun w_ _=>EU w_) trivial hE2_ fun _ hE3_=>?_
    refine H6 (i:=6) kz (ES (d:=339) (vs':=[.int .i64 (IntKind.i64.wrap ((x_.length:Nat):Int))]) (X:=x_) (vs:=[.int .i64 ((x_.length:Nat):Int)]) (Qv:=fun v w' F'=>∃ A2,v = .slice A2 x_.length x_.length ∧ Octs w' F' A2 x_.length x_) qf hE3_ (W9 x_ _) (by rw [wrap_i64 (by omega) (by omega)]) Tryz.call78 (fun v_ _ _ hv_ qg hE4_=>⟨fun _=>trivial,?_⟩) kz)
    obtain ⟨A2_,rfl,hx2_⟩:=hv_
    refine H6 (i:=7) kz (JV (d:=340) (k:=0) (off:=4) qg hE4_ e26_U.1 hu_ hx2_ hk_ (fun r_ _ _ qh hE6_=>⟨fun _=>trivial,?_⟩) Tryz.call77 rfl rfl rfl kz)
    refine L6 kz (H7 (H7 (A4 ?_))) _
    let iV:Ob:=⟨bv,0,[.int .i16 v,bP,cw,.slice aI.A aI.l aI.c,.map (some r_)],true⟩
    have hE7_:EnvOk 423 (rdo bB none 0 0 :: [iV]) [ab,ah,(9,.v (.bool (decide (v ≥ 9)))),ac,(48,.v (.int .u32 ((T.U.length - bD:Nat):Int)))] _:=(((hE6_.retable (rdo bB none 0 0 :: [iV])).recast 7 (.v (.pointer (some ⟨bB,0,none⟩))) (.p 0 0) rfl rfl (Nat.le_of_ble_eq_true (n:=1) rfl)).recast 10 (.v (.pointer (some ⟨bv,0,none⟩))) (.p 1 0) rfl rfl (Nat.le_of_ble_eq_true (n:=2) rfl)).pk
    have qi:=qh.env0 hE7_
    refine Bo [ab,ah,(9,.v (.bool (decide (v ≥ 9)))),ac,(48,.v (.int .u32 (IntKind.u32.wrap (((T.U.length - bD:Nat):Int) - 1))))] qi fun _ iW=>A4 ?_
    rw [show IntKind.u32.wrap (((T.U.length - bD:Nat):Int) - 1) = ((T.U.length - (bD + 1):Nat):Int) from EV (by omega) (by have hu2_:=e26_U.2.1; omega)] at iW
    refine ⟨T.U.length - (bD + 1),by omega,?_⟩
    rw [d6]
    exact .inr (⟨aI,oJ,rt,some r_,bD + 1,rfl,by omega,fh,iW⟩)
   obtain rfl:bD = T.U.length:=by have:=of_decide_eq_false ft; omega
   rw [List.take_length,List.drop_length] at eb
   obtain ⟨sj,fv,qj⟩:∃ P',(∀ w F,P' w F → (oJ w F ∧ MapR w F jm T.U)) ∧ RS w (fun b o=>b = bv ∧ o < 5) F 423 bB [⟨bv,0,[bK,bP,cw,.slice aI.A aI.l aI.c,.map jm],true⟩] [ab,ah,ae,ac,(48,.v (.int .u32 ((T.U.length - T.U.length:Nat):Int))),(328,.v (.bool (decide (((T.U.length - T.U.length:Nat):Int) > 0))))] P' ([]:Bs) _ _:=⟨_,fun _ _ h=>h,(eb.finish e26_U.1 (T6 e26r)).cast rfl⟩
   refine wp_exit (F2 (F2 (I7 (A4 ?_))))
   exact ⟨aI,jm,T.U,_,fun w F h_=>⟨(fh _ _ (fv _ _ h_).1).1,(fh _ _ (fv _ _ h_).1).2,⟨⟨(fv _ _ h_).2,e26_U.2.1,e26_U.2.2⟩,⟨(fun _=>rfl),(fun e_=>by rw [bh] at e_; cases e_)⟩⟩⟩,qj.pk (env':=[ah])⟩
  have qk:=fc.cast (t:=[] ++ ([]:Bs)) (by rw [if_neg (by rw [bh]; decide)])
  have ql:=qk.cast (t:=([]:Bs)) rfl
  refine wp_skip (A4 ?_)
  exact ⟨(V9 none 0 0 (fun _=>Bh)),none,[],_,fun w F h_=>⟨h_,⟨⟨Slots.nil _ _ _ _,Nat.zero_le _,fun _ h=>absurd h (Nat.not_lt_zero _)⟩,⟨(fun e_=>by rw [if_neg (by rw [bh]; decide)] at e_; cases e_),fun _=>⟨rfl,rfl⟩⟩⟩,⟨⟨MapR.nil _ _,Nat.zero_le _,fun _ h=>by cases h⟩,⟨(fun e_=>by rw [bh] at e_; cases e_),fun _=>rfl⟩⟩⟩,ql.pk (env':=[ah])⟩
 rintro _ _ ⟨bA,fJ,dy,sk,bR,qm⟩
 refine A4 (wp_seq (E4 [0,1] kz (B1 (GR (d:=422) qm GU Tryz.call59 fun _ qn=>?_))))
 refine I4 [1] [] [(6,.v (.nilIface))] qn fun _ iX=>B4 ?_
 refine A4 (wp_ret ?_)
 obtain ⟨A_,m_,c_,hW_,hr_,hE_,hP_⟩:=iX.open_
 refine D1 hE_ hW_.cells (v:=.nilIface) kz ?_
 have h_:=iX.mv.mono T3 hP_
 refine ⟨(Bi fJ dy [bq,dh,bA]),rfl,Str.of hW_ 1 rfl,?_,?_,hW_.step⟩
 ·unfold CC
  exact ⟨((ot _ _ (d5 _ _ (bR _ _ h_).1).1).2.1),((d5 _ _ (bR _ _ h_).1).2.1),((bR _ _ h_).2.1.1),(bR _ _ h_).2.2.1.1,(bR _ _ h_).2.2.1.2.1,(bR _ _ h_).2.2.1.2.2,trivial⟩
 unfold CI
 exact ⟨((ot _ _ (d5 _ _ (bR _ _ h_).1).1).2.2),((d5 _ _ (bR _ _ h_).1).2.2),((bR _ _ h_).2.1.2),(bR _ _ h_).2.2.2,trivial⟩
theorem Hc:V8 CC:=by
 intro w w' F F' M d hs hM hF h
 unfold CC at h ⊢
 obtain ⟨⟨g0,g0l,g0e⟩,g1,⟨g2,g2l,g2e⟩,t1,t2,t3,_⟩:=h
 exact ⟨⟨g0.move hs hM hF,g0l,fun i hi=>EZ _ hs hM hF (g0e i hi)⟩,g1,⟨g2.move hs hM hF,g2l,fun i hi=>EW _ hs hM hF (g2e i hi)⟩,t1.move hs hM hF,t2,t3,trivial⟩
theorem PO (v:Int) (D:DV) (T:Tree) (h:BU v D T):(be 4 ((D.f 0).n)) ++ ((if (decide (v ≥ 9)) = true then (if (D.f 1).A.isNone = true then uv 0 else uv ((D.f 1).s.size + 1) ++ sb (D.f 1).s) else (if (D.f 1).A.isNone = true then be 2 (-1) else be 2 (D.f 1).s.size ++ sb (D.f 1).s)) ++ (if (decide (v ≥ 9)) = true then (uv D.u.length) ++ (D7 D.u) else [])) = T0 v T:=by
 unfold BU at h
 obtain ⟨r0_,r1_,rU_,_⟩:=h
 unfold T0
 exact M5 (by rw [r0_]) (M5 (by simp only [r1_.1,r1_.2,Dd,W6]) ((M1 (fun hc_=>by rw [(rU_.1 hc_)]))))
theorem PP (v:Int) (D:DV) (T:Tree) (h:BT v D T):(be 4 ((D.f 0).n)) ++ ((be 4 ((D.f 1).n)) ++ (if (decide (v ≥ 9)) = true then (uv D.u.length) ++ (D7 D.u) else [])) = K6 v T:=by
 unfold BT at h
 obtain ⟨r0_,r1_,rU_,_⟩:=h
 unfold K6
 exact M5 (by rw [r0_]) (M5 (by rw [r1_]) ((M1 (fun hc_=>by rw [(rU_.1 hc_).1]))))
theorem PQ (v:Int) (D:DV) (T:Tree) (h:CG v D T):(be 4 ((D.f 0).n)) ++ ((be 2 ((D.f 1).n)) ++ ((be 8 ((D.f 2).n)) ++ ((if (decide (v ≥ 2)) = true then be 8 ((D.f 3).n) else []) ++ ((if (decide (v ≥ 5)) = true then be 8 ((D.f 4).n) else []) ++ ((if (decide (v ≥ 8)) = true then (if (decide (v ≥ 9)) = true then (uv ((D.f 5).l + 1)) else (be 4 (D.f 5).l)) ++ ((List.range (D.f 5).l).flatMap fun ab=>(be 4 ((((D.f 5).f ab).f 0).n)) ++ ((if (decide (v ≥ 9)) = true then (if (((D.f 5).f ab).f 1).A.isNone = true then uv 0 else uv ((((D.f 5).f ab).f 1).s.size + 1) ++ sb (((D.f 5).f ab).f 1).s) else (if (((D.f 5).f ab).f 1).A.isNone = true then be 2 (-1) else be 2 (((D.f 5).f ab).f 1).s.size ++ sb (((D.f 5).f ab).f 1).s)) ++ (if (decide (v ≥ 9)) = true then (uv ((D.f 5).f ab).u.length) ++ (D7 ((D.f 5).f ab).u) else []))) else []) ++ ((if (decide (v ≥ 8)) = true then if (decide (v ≥ 9)) = true then (if (D.f 6).A.isNone = true then uv 0 else uv ((D.f 6).s.size + 1) ++ sb (D.f 6).s) else (if (D.f 6).A.isNone = true then be 2 (-1) else be 2 (D.f 6).s.size ++ sb (D.f 6).s) else []) ++ (if (decide (v ≥ 9)) = true then (uv (B5 (!((((D.f 7).f 0).n == (-1)) && ((((D.f 7).f 1).n == (-1)) && (D.f 7).m.isNone))) + D.u.length)) ++ ((G8 (!((((D.f 7).f 0).n == (-1)) && ((((D.f 7).f 1).n == (-1)) && (D.f 7).m.isNone))) 0 ((be 4 (((D.f 7).f 0).n)) ++ ((be 4 (((D.f 7).f 1).n)) ++ (if (decide (v ≥ 9)) = true then (uv (D.f 7).u.length) ++ (D7 (D.f 7).u) else [])))) ++ (D7 D.u)) else []))))))) = U0 v T:=by
 unfold CG at h
 obtain ⟨r0_,r1_,r2_,r3_,r4_,r5_,r6_,r7_,rU_,_⟩:=h
 unfold U0
 exact M5 (by rw [r0_]) (M5 (by rw [r1_]) (M5 (by rw [r2_]; exact Y2 _) (M5 (M1 (fun hc_=>by rw [(r3_.1 hc_)]; exact Y2 _)) (M5 (M1 (fun hc_=>by rw [(r4_.1 hc_)]; exact Y2 _)) (M5 (M1 (fun hc_=>M5 (by simp only [(r5_.1 hc_).1]) (Df (r5_.1 hc_).1 (fun i hi=>PO v _ _ ((r5_.1 hc_).2 i hi))))) (M5 (M1 (fun hc_=>by simp only [(r6_.1 hc_).1,(r6_.1 hc_).2,Dd,W6])) ((M1 (fun hc_=>Jm (rU_.1 hc_) (by
   cases h_:(G3 T) with
   | true=>have p_:=r7_.1 (by rw [if_pos hc_]; exact h_); exact ⟨by
    have p2_:=p_; unfold BT at p2_; obtain ⟨s0_,s1_,sU_,_⟩:=p2_
    rw [s0_,s1_,(sU_.1 hc_).2,JF (by decide),JF (by decide)]; simpa only [G3,Bool.and_assoc,NP] using h_,fun _=>PP v _ _ p_⟩
   | false=>have p_:=r7_.2 (by rw [if_pos hc_]; exact h_); exact ⟨by
    obtain ⟨s0_,s1_,sU_,sM_⟩:=p_
    rw [s0_,s1_,sM_]; rfl,fun h=>by cases h⟩))))))))))
theorem PR (v:Int) (D:DV) (T:Tree) (h:CH v D T):(if ((if (decide (v ≥ 0)) = true then decide (v ≤ 12) else false)) = true then if (decide (v ≥ 9)) = true then (uv ((D.f 0).s.size + 1) ++ sb (D.f 0).s) else (be 2 (D.f 0).s.size ++ sb (D.f 0).s) else []) ++ ((if (decide (v ≥ 13)) = true then (D.f 1).o else []) ++ (((if (decide (v ≥ 9)) = true then (uv ((D.f 2).l + 1)) else (be 4 (D.f 2).l)) ++ ((List.range (D.f 2).l).flatMap fun ab=>(be 4 ((((D.f 2).f ab).f 0).n)) ++ ((be 2 ((((D.f 2).f ab).f 1).n)) ++ ((be 8 ((((D.f 2).f ab).f 2).n)) ++ ((if (decide (v ≥ 2)) = true then be 8 ((((D.f 2).f ab).f 3).n) else []) ++ ((if (decide (v ≥ 5)) = true then be 8 ((((D.f 2).f ab).f 4).n) else []) ++ ((if (decide (v ≥ 8)) = true then (if (decide (v ≥ 9)) = true then (uv ((((D.f 2).f ab).f 5).l + 1)) else (be 4 (((D.f 2).f ab).f 5).l)) ++ ((List.range (((D.f 2).f ab).f 5).l).flatMap fun ac=>(be 4 ((((((D.f 2).f ab).f 5).f ac).f 0).n)) ++ ((if (decide (v ≥ 9)) = true then (if (((((D.f 2).f ab).f 5).f ac).f 1).A.isNone = true then uv 0 else uv ((((((D.f 2).f ab).f 5).f ac).f 1).s.size + 1) ++ sb (((((D.f 2).f ab).f 5).f ac).f 1).s) else (if (((((D.f 2).f ab).f 5).f ac).f 1).A.isNone = true then be 2 (-1) else be 2 (((((D.f 2).f ab).f 5).f ac).f 1).s.size ++ sb (((((D.f 2).f ab).f 5).f ac).f 1).s)) ++ (if (decide (v ≥ 9)) = true then (uv ((((D.f 2).f ab).f 5).f ac).u.length) ++ (D7 ((((D.f 2).f ab).f 5).f ac).u) else []))) else []) ++ ((if (decide (v ≥ 8)) = true then if (decide (v ≥ 9)) = true then (if (((D.f 2).f ab).f 6).A.isNone = true then uv 0 else uv ((((D.f 2).f ab).f 6).s.size + 1) ++ sb (((D.f 2).f ab).f 6).s) else (if (((D.f 2).f ab).f 6).A.isNone = true then be 2 (-1) else be 2 (((D.f 2).f ab).f 6).s.size ++ sb (((D.f 2).f ab).f 6).s) else []) ++ (if (decide (v ≥ 9)) = true then (uv (B5 (!((((((D.f 2).f ab).f 7).f 0).n == (-1)) && ((((((D.f 2).f ab).f 7).f 1).n == (-1)) && (((D.f 2).f ab).f 7).m.isNone))) + ((D.f 2).f ab).u.length)) ++ ((G8 (!((((((D.f 2).f ab).f 7).f 0).n == (-1)) && ((((((D.f 2).f ab).f 7).f 1).n == (-1)) && (((D.f 2).f ab).f 7).m.isNone))) 0 ((be 4 (((((D.f 2).f ab).f 7).f 0).n)) ++ ((be 4 (((((D.f 2).f ab).f 7).f 1).n)) ++ (if (decide (v ≥ 9)) = true then (uv (((D.f 2).f ab).f 7).u.length) ++ (D7 (((D.f 2).f ab).f 7).u) else [])))) ++ (D7 ((D.f 2).f ab).u)) else []))))))))) ++ (if (decide (v ≥ 9)) = true then (uv D.u.length) ++ (D7 D.u) else []))) = U1 v T:=by
 unfold CH at h
 obtain ⟨r0_,r1_,r2_,rU_,_⟩:=h
 unfold U1
 exact M5 (M1 (fun hc_=>by simp only [(r0_.1 hc_),Dd,W6])) (M5 (M1 (fun hc_=>by rw [(r1_.1 hc_)])) (M5 (M5 (by simp only [r2_.1]) (Df r2_.1 (fun i hi=>PQ v _ _ (r2_.2 i hi)))) ((M1 (fun hc_=>by rw [(rU_.1 hc_)])))))
theorem Kf (v:Int) (D:DV) (T:Tree) (h:Y9 v D T):(be 4 ((D.f 0).n)) ++ ((if (decide (v ≥ 9)) = true then (uv ((D.f 1).s.size + 1) ++ sb (D.f 1).s) else (be 2 (D.f 1).s.size ++ sb (D.f 1).s)) ++ ((be 4 ((D.f 2).n)) ++ ((if (decide (v ≥ 9)) = true then (if (D.f 3).A.isNone = true then uv 0 else uv ((D.f 3).s.size + 1) ++ sb (D.f 3).s) else (if (D.f 3).A.isNone = true then be 2 (-1) else be 2 (D.f 3).s.size ++ sb (D.f 3).s)) ++ (if (decide (v ≥ 9)) = true then (uv D.u.length) ++ (D7 D.u) else [])))) = H9 v T:=by
 unfold Y9 at h
 obtain ⟨r0_,r1_,r2_,r3_,rU_,_⟩:=h
 unfold H9
 exact M5 (by rw [r0_]) (M5 (by simp only [r1_,Dd,W6]) (M5 (by rw [r2_]) (M5 (by simp only [r3_.1,r3_.2,Dd,W6]) ((M1 (fun hc_=>by rw [(rU_.1 hc_)]))))))
theorem PS (v:Int) (D:DV) (T:Tree) (h:CI v D T) (hL:((if (decide (v ≥ 9)) = true then (uv ((lst (T.at_ 2)).length + 1)) else (be 4 (lst (T.at_ 2)).length)) ++ ((lst (T.at_ 2)).flatMap (H9 v))).length < 4294967296):((if (decide (v ≥ 9)) = true then (uv ((D.f 2).l + 1)) else (be 4 (D.f 2).l)) ++ ((List.range (D.f 2).l).flatMap fun ab=>(be 4 ((((D.f 2).f ab).f 0).n)) ++ ((if (decide (v ≥ 9)) = true then (uv ((((D.f 2).f ab).f 1).s.size + 1) ++ sb (((D.f 2).f ab).f 1).s) else (be 2 (((D.f 2).f ab).f 1).s.size ++ sb (((D.f 2).f ab).f 1).s)) ++ ((be 4 ((((D.f 2).f ab).f 2).n)) ++ ((if (decide (v ≥ 9)) = true then (if (((D.f 2).f ab).f 3).A.isNone = true then uv 0 else uv ((((D.f 2).f ab).f 3).s.size + 1) ++ sb (((D.f 2).f ab).f 3).s) else (if (((D.f 2).f ab).f 3).A.isNone = true then be 2 (-1) else be 2 (((D.f 2).f ab).f 3).s.size ++ sb (((D.f 2).f ab).f 3).s)) ++ (if (decide (v ≥ 9)) = true then (uv ((D.f 2).f ab).u.length) ++ (D7 ((D.f 2).f ab).u) else [])))))).length < 4294967296:=by
 unfold CI at h
 obtain ⟨_,_,r_,_,_⟩:=h
 cases h_:(if (decide (v ≥ 9)) = true then (decide (0 < (lst (T.at_ 2)).length)) else false) with
 | true=>have p_:=r_.1 h_; rw [show (if (decide (v ≥ 9)) = true then (uv ((D.f 2).l + 1)) else (be 4 (D.f 2).l)) ++ ((List.range (D.f 2).l).flatMap fun ab=>(be 4 ((((D.f 2).f ab).f 0).n)) ++ ((if (decide (v ≥ 9)) = true then (uv ((((D.f 2).f ab).f 1).s.size + 1) ++ sb (((D.f 2).f ab).f 1).s) else (be 2 (((D.f 2).f ab).f 1).s.size ++ sb (((D.f 2).f ab).f 1).s)) ++ ((be 4 ((((D.f 2).f ab).f 2).n)) ++ ((if (decide (v ≥ 9)) = true then (if (((D.f 2).f ab).f 3).A.isNone = true then uv 0 else uv ((((D.f 2).f ab).f 3).s.size + 1) ++ sb (((D.f 2).f ab).f 3).s) else (if (((D.f 2).f ab).f 3).A.isNone = true then be 2 (-1) else be 2 (((D.f 2).f ab).f 3).s.size ++ sb (((D.f 2).f ab).f 3).s)) ++ (if (decide (v ≥ 9)) = true then (uv ((D.f 2).f ab).u.length) ++ (D7 ((D.f 2).f ab).u) else []))))) = (if (decide (v ≥ 9)) = true then (uv ((lst (T.at_ 2)).length + 1)) else (be 4 (lst (T.at_ 2)).length)) ++ ((lst (T.at_ 2)).flatMap (H9 v)) from M5 (by simp only [p_.1]) (Df p_.1 (fun i hi=>Kf v _ _ (p_.2 i hi)))]; exact hL
 | false =>
  have p_:=(r_.2 h_).2
  rw [p_,List.length_append]
  have h1:=Z4 (0 + 1) (by decide)
  split <;> simp only [List.range_zero,List.flatMap_nil,List.length_nil,be_length] <;> omega
theorem PT (v:Int) (D:DV) (T:Tree) (h:CI v D T):Y6 v D = H5 v T:=by
 unfold CI at h
 obtain ⟨r0_,r1_,r2_,rU_,_⟩:=h
 rw [Ka]
 unfold Y6 Hb
 exact M5 (M5 (by simp only [r0_.1]) (Df r0_.1 (fun i hi=>PR v _ _ (r0_.2 i hi)))) (M5 (M1 (fun hc_=>by rw [(r1_.1 hc_)])) (M5 (M1 (fun hc_=>Jm (rU_.1 hc_) (by
   cases h_:(decide (0 < (lst (T.at_ 2)).length)) with
   | true=>have p_:=r2_.1 (by rw [if_pos hc_]; exact h_); exact ⟨decide_eq_true (by have e1_:=p_.1; have e2_:=of_decide_eq_true h_; omega),fun _=>M5 (by simp only [p_.1]) (Df p_.1 (fun i hi=>Kf v _ _ (p_.2 i hi)))⟩
   | false=>have p_:=r2_.2 (by rw [if_pos hc_]; exact h_); exact ⟨by rw [p_.2]; rfl,fun h=>by cases h⟩))) (rfl)))
theorem PU (v:Int) (T:Tree) (dst:Bs) {A1 A2:Option Addr} {c1 c2:Nat} {w:World} {F:Nat → Nat → Prop} (hd:Octs w F A1 c1 dst) (hs_:Octs w F A2 c2 (H5 (IntKind.i16.wrap v) T)) (hc:BO T) (hkey:T.ranged) (hL:((if (decide ((IntKind.i16.wrap v) ≥ 9)) = true then (uv ((lst (T.at_ 2)).length + 1)) else (be 4 (lst (T.at_ 2)).length)) ++ ((lst (T.at_ 2)).flatMap (H9 (IntKind.i16.wrap v)))).length < 4294967296) (hroom:dst.length + (H5 (IntKind.i16.wrap v) T).length + 16 ≤ 1099511627776) :
  Calls Tryz.prog 9 #[.int .i64 v,.slice A1 dst.length c1,.slice A2 (H5 (IntKind.i16.wrap v) T).length c2] w (fun e w'=>∃ A c,e = .returned (.tuple #[.slice A (dst ++ (H5 (IntKind.i16.wrap v) T)).length c,.bool true]) ∧ w'.ownsRow w.heap.size 5 1 (.slice A (dst ++ (H5 (IntKind.i16.wrap v) T)).length c) (dst ++ (H5 (IntKind.i16.wrap v) T)).length (bc (dst ++ (H5 (IntKind.i16.wrap v) T))) ∧ Step w w' C7):=by
 refine enter (n:=23) Tryz.func9 rfl Tryz.ntmps9 kz fun a hE=>?_
 have hW:=WOk.start w C7
 have hsm1:=Slots.small hd
 have hsm2:=Slots.small hs_
 let ai:Nat × SV:=(0,.v (.int .i64 v))
 let ab:Nat × SV:=(1,.v (.slice A1 dst.length c1))
 refine B9 [ai,ab,(2,.v (.slice A2 ((H5 (IntKind.i16.wrap v) T).length) c2))] hW hE fun a1 hE2=>?_
 refine C1 [0,1] kz ?_
 refine B1 (R1 hE2 (f:=12) (vs:=[]) (d:=9) (n':=3) kz Tryz.call12 Tryz.func12 rfl Tryz.ntmps12 kz fun a3 hE4=>?_)
 refine B9 [] hW hE4 fun a5 hE6=>?_
 refine C1 [0] kz ?_
 let ac:Value:=.slice none 0 0
 refine B1 (N6 hW hE6 (d:=1) (cs:=[.int .i16 0,ac,.int .i32 0,ac,.map none]) kz fun b7 a8 w9 bV bW bX ah aW=>?_)
 refine B4 (A4 ?_)
 refine C1 [0] kz ?_
 let af:Value:=.pointer (some ⟨b7,0,none⟩)
 refine B1 (R1 aW (f:=21) (vs:=[af]) (d:=2) (n':=2) kz Tryz.call21 Tryz.func21 rfl Tryz.ntmps21 kz fun cu aX=>?_)
 have aY:=aX.recast 0 (.v (.pointer (some ⟨b7,0,none⟩))) (.p 0 0) rfl rfl (Nat.le_of_ble_eq_true (n:=1) rfl)
 refine wp_skip (U3 aY ah.cells (v:=.tuple #[]) kz ?_)
 refine ⟨_,rfl,fun cv aZ=>?_⟩
 let aC:Ob:=⟨b7,0,[.int .i16 0,ac,.int .i32 0,ac,.map none],true⟩
 have ba:EnvOk 3 [aC] [(2,.v (.tuple #[])),(1,.p 0 0)] _:=aZ.places (⟨rfl,rfl,trivial⟩)
 refine B4 (A4 ?_)
 refine B9 [(0,.p 0 0)] ah ba fun cw bd=>?_
 refine wp_ret (D1 bd ah.cells (v:=.pointer (some ⟨b7,0,none⟩)) kz ?_)
 refine ⟨_,rfl,fun cy bf=>?_⟩
 have bg:EnvOk 23 [aC] [(9,.v (.pointer (some ⟨b7,0,none⟩))),ai,ab,(2,.v (.slice A2 ((H5 (IntKind.i16.wrap v) T).length) c2))] _:=bf.places (trivial)
 have bh:=bg.recast 9 (.v (.pointer (some ⟨b7,0,none⟩))) (.p 0 0) rfl rfl (Nat.le_of_ble_eq_true (n:=1) rfl)
 have bj:=bh.pick (ks:=[0,1,2,9]) (env':=[ai,ab,(2,.v (.slice A2 ((H5 (IntKind.i16.wrap v) T).length) c2)),(9,.p 0 0)]) kz
 let ae:Nat × SV:=(8,.p 0 0)
 refine B3 [1] [] [ai,ab,(2,.v (.slice A2 ((H5 (IntKind.i16.wrap v) T).length) c2)),ae] ah bj fun cz bk=>?_
 refine B4 (A4 ?_)
 refine C1 [0,1,2,3] kz ?_
 refine B3 [0,1,2] [3] [ab,(2,.v (.slice A2 ((H5 (IntKind.i16.wrap v) T).length) c2)),ae,(10,.p 0 0),(12,.v (.int .i16 (IntKind.i16.wrap v)))] ah bk fun cA bn=>?_
 let aj:Value:=.int .i16 (IntKind.i16.wrap v)
 refine B1 (R1 bn (f:=17) (vs:=[af,aj]) (d:=13) (n':=8) kz Tryz.call17 Tryz.func17 rfl Tryz.ntmps17 kz fun cB bo=>?_)
 have bp:=bo.recast 0 (.v (.pointer (some ⟨b7,0,none⟩))) (.p 0 0) rfl rfl (Nat.le_of_ble_eq_true (n:=1) rfl)
 refine E4 [0,1,2,3,4] kz ?_
 refine B3 [0,1,2,3] [4] [(5,.v (.int .i16 (IntKind.i16.wrap v))),(7,.p 0 0)] ah bp fun cC bq=>?_
 refine B1 (I9 ah bq (oi:=0) (cs:=[aj,ac,.int .i32 0,ac,.map none]) kz fun cE bY az bt=>?_)
 refine B4 (U3 bt az.cells (v:=.tuple #[]) kz ?_)
 refine ⟨_,rfl,fun cG bu=>?_⟩
 have bw:EnvOk 23 [⟨b7,0,[aj,ac,.int .i32 0,ac,.map none],true⟩] [(13,.v (.tuple #[])),ab,(2,.v (.slice A2 ((H5 (IntKind.i16.wrap v) T).length) c2)),ae,(10,.p 0 0),(12,.v (.int .i16 (IntKind.i16.wrap v)))] _:=bu.places (⟨rfl,rfl,trivial⟩)
 refine B4 (A4 ?_)
 refine wp_seq (C1 [0,1,2,3,4] kz ?_)
 refine B3 [0,1] [2,3,4] [ab,ae,(14,.p 0 0),(15,.v (.slice A2 ((H5 (IntKind.i16.wrap v) T).length) c2))] az bw fun cH bx=>?_
 have ar:=az.addNil 5 1
 have bZ:=az.frNil 5 1
 refine B1 (N8 ar bx (k:=0) (d:=16) (t:=22) (e:=5) (size:=1) (bytes:=1) (A:=none) (As:=A2) (m0:=0) (c:=0) (m:=((H5 (IntKind.i16.wrap v) T).length)) (cs:=c2) (xs:=[]) (news:=bc (H5 (IntKind.i16.wrap v) T)) kz kz rfl (hs_.move ar.step B2 ar.imm).src (hs_.move ar.step B2 ar.imm).cap (by first | omega | (simp only [List.length_nil]; omega) | (simp; omega)) fun ao ap cI cJ b8 bz bA=>?_)
 have bB:(⟨ao,ap,5,1,0 + (H5 (IntKind.i16.wrap v) T).length,[] ++ bc (H5 (IntKind.i16.wrap v) T)⟩:Rw) = B0 ao ap 5 (H5 (IntKind.i16.wrap v) T):=by rw [List.nil_append,Nat.zero_add]
 obtain ⟨aA,cd⟩:=bz.rowEq 0 [B0 ao ap 5 (H5 (IntKind.i16.wrap v) T)] bB
 have bC:=EnvOk.pick bA (ks:=[1,8,14,15,16]) (env':=[ab,ae,(14,.p 0 0),(15,.v (.slice A2 ((H5 (IntKind.i16.wrap v) T).length) c2)),(16,.v (.slice ao (0 + (H5 (IntKind.i16.wrap v) T).length) ap))]) kz
 have bD:=bC.cast (env':=[ab,ae,(14,.p 0 0),(15,.v (.slice A2 ((H5 (IntKind.i16.wrap v) T).length) c2)),(16,.v (.slice ao ((H5 (IntKind.i16.wrap v) T).length) ap))]) (by simp only [List.length_append,List.length_cons,List.length_nil,Nat.zero_add])
 refine B1 (R1 bD (f:=18) (vs:=[af,.slice ao ((H5 (IntKind.i16.wrap v) T).length) ap]) (d:=17) (n':=8) kz Tryz.call18 Tryz.func18 rfl Tryz.ntmps18 kz fun cK bE=>?_)
 have bF:=bE.recast 0 (.v (.pointer (some ⟨b7,0,none⟩))) (.p 0 0) rfl rfl (Nat.le_of_ble_eq_true (n:=1) rfl)
 refine B9 [(0,.p 0 0),(1,.v (.slice ao ((H5 (IntKind.i16.wrap v) T).length) ap))] aA bF fun cL bG=>?_
 refine C1 [0,1,2,3] kz ?_
 refine B3 [0,1] [2,3] [(5,.p 0 0),(6,.v (.slice ao ((H5 (IntKind.i16.wrap v) T).length) ap))] aA bG fun cM bH=>?_
 have bI:=aA.giveUp (G:=F) 0 [] (show _ = some (B0 ao ap 5 (H5 (IntKind.i16.wrap v) T)) from rfl) (by omega)
 obtain ⟨aJ,ce⟩:=aA.cutR 0 []
 refine B1 (D6 bH (f:=31) (vs:=[af,.slice ao ((H5 (IntKind.i16.wrap v) T).length) ap,.bool false]) (d:=7) kz Tryz.call31 (PN (IntKind.i16.wrap v) T (Str.of aJ 0 rfl) bI (Nd 0 rfl) hc hkey hL) ?_)
 rintro e_ cN ⟨al,rfl,bJ,bK,aB,aK⟩
 have hbl_:=PS _ _ _ aB hL
 replace aB:=PT _ _ _ aB
 let ak:Ob:=⟨b7,0,[aj,.slice ((al.f 0).A) ((al.f 0).l) ((al.f 0).c),.int .i32 ((al.f 1).n),.slice ((al.f 2).A) ((al.f 2).l) ((al.f 2).c),.map al.m],true⟩
 obtain ⟨am,cg,bL⟩:=aJ.wrote 0 [ak] rfl aK bJ
 have bM:=Hc _ (Step.refl _ C7) B2 bL bK
 refine ⟨_,rfl,fun cO bN=>?_⟩
 have bO:EnvOk 8 [ak] [(7,.v (.nilIface)),(5,.p 0 0),(6,.v (.slice ao ((H5 (IntKind.i16.wrap v) T).length) ap))] _:=bN.places (⟨rfl,rfl,trivial⟩)
 refine B3 [3] [] [(4,.v (.nilIface))] am bO fun cP bP=>?_
 refine B4 (A4 ?_)
 refine wp_ret (D1 bP am.cells (v:=.nilIface) kz ?_)
 refine ⟨_,rfl,fun cQ bQ=>?_⟩
 have bR:EnvOk 23 [ak] [(17,.v (.nilIface)),ab,ae,(14,.p 0 0),(15,.v (.slice A2 ((H5 (IntKind.i16.wrap v) T).length) c2)),(16,.v (.slice ao ((H5 (IntKind.i16.wrap v) T).length) ap))] _:=bQ.places (⟨rfl,rfl,trivial⟩)
 refine B3 [4] [] [ab,ae,(18,.v (.bool false))] am bR fun cR aL=>?_
 refine B4 (A4 ?_)
 refine G6 aL (b:=false) kz rfl ?_
 refine wp_skip (A4 (C1 [0,1,2,3,4,5] kz ?_))
 let au:Nat × SV:=(20,.v (.slice A1 dst.length c1))
 refine B3 [0,1] [2,3,4,5] [(19,.p 0 0),au] am aL fun cS bS=>?_
 have av:=am.addNil 5 1
 have aM:=am.frNil 5 1
 refine B1 (N8 av bS (k:=0) (d:=21) (t:=22) (e:=5) (size:=1) (bytes:=1) (A:=none) (As:=A1) (m0:=0) (c:=0) (m:=dst.length) (cs:=c1) (xs:=[]) (news:=bc dst) kz kz rfl (hd.move av.step B2 av.imm).src (hd.move av.step B2 av.imm).cap (by first | omega | (simp only [List.length_nil]; omega) | (simp; omega)) fun aD aE cU cV aN bT aO=>?_)
 have aP:(⟨aD,aE,5,1,0 + dst.length,[] ++ bc dst⟩:Rw) = B0 aD aE 5 dst:=by rw [List.nil_append,Nat.zero_add]
 obtain ⟨aw,aF⟩:=bT.rowEq 0 [B0 aD aE 5 dst] aP
 have aQ:=EnvOk.pick aO (ks:=[19,20,21]) (env':=[(19,.p 0 0),au,(21,.v (.slice aD (0 + dst.length) aE))]) kz
 have aR:=aQ.cast (env':=[(19,.p 0 0),au,(21,.v (.slice aD dst.length aE))]) (by simp only [List.length_append,List.length_cons,List.length_nil,Nat.zero_add])
 have aS:=(Hc _ ((aM.trans aN).trans aF).step immM ((aM.trans aN).trans aF).to' bM)
 have aI:=aw.strImm (G:=F) 0 rfl
 have hk_:=Hc _ (Step.refl _ C7) B2 (fun b o h_ _=>Nf h_) aS
 rw [← aB] at hroom ⊢
 refine B1 (D6 aR (f:=19) (vs:=[af,.slice aD dst.length aE]) (d:=22) kz Tryz.call19 (Nx (IntKind.i16.wrap v) al b7 0 aD aE dst _ _ aI hk_ hbl_ (MT 0 rfl) (aw.own 0 _ rfl) (by omega)) ?_)
 rintro e_ cm ⟨ax,ay,rfl,aT,aG,aH⟩
 refine ⟨_,rfl,fun cq aU=>?_⟩
 have ag:WOk _ _ _ _ [B0 ax ay 5 (dst ++ Y6 (IntKind.i16.wrap v) al)]:=aw.grow (k:=0) rfl aG aT aH
 have bU:=Fr.grow [ak] (k:=0) (rs:=[B0 aD aE 5 dst]) (r':=(B0 ax ay 5 (dst ++ Y6 (IntKind.i16.wrap v) al))) rfl aG aH
 refine B3 [4,5] [] [(6,.v (.slice ax ((dst ++ Y6 (IntKind.i16.wrap v) al).length) ay)),(7,.v (.bool true))] ag aU fun cr aV=>?_
 refine B4 (A4 ?_)
 refine wp_ret (D1 aV ag.cells (v:=.tuple #[.slice ax ((dst ++ Y6 (IntKind.i16.wrap v) al).length) ay,.bool true]) kz ?_)
 exact ⟨ax,ay,rfl,Hz ag (k:=0) rfl rfl (ag.own 0 _ rfl),ag.step⟩
theorem PV (v:Int) (T:Tree) (dst B:Bs) {A1 A2:Option Addr} {c1 c2:Nat} {w:World} {F:Nat → Nat → Prop} (hB:H5 (IntKind.i16.wrap v) T = B) (hd:Octs w F A1 c1 dst) (hs_:Octs w F A2 c2 B) (hc:BO T) (hkey:T.ranged) (hL:((if (decide ((IntKind.i16.wrap v) ≥ 9)) = true then (uv ((lst (T.at_ 2)).length + 1)) else (be 4 (lst (T.at_ 2)).length)) ++ ((lst (T.at_ 2)).flatMap (H9 (IntKind.i16.wrap v)))).length < 4294967296) (hroom:dst.length + B.length + 16 ≤ 1099511627776) :
  Calls Tryz.prog 9 #[.int .i64 v,.slice A1 dst.length c1,.slice A2 B.length c2] w (fun e w'=>∃ A c,e = .returned (.tuple #[.slice A (dst ++ B).length c,.bool true]) ∧ w'.ownsRow w.heap.size 5 1 (.slice A (dst ++ B).length c) (dst ++ B).length (bc (dst ++ B)) ∧ Step w w' C7):=by
 subst hB
 exact PU v T dst hd hs_ hc hkey hL hroom
abbrev z3 :=([.int .i16 0,.slice none 0 0,.int .i32 0,.slice none 0 0,.map none]:List Value)
theorem PW (w:World):Calls Tryz.prog 5 #[] w (J9 w (.int .i64 13)):=by
 refine enter (n:=4) Tryz.func5 rfl Tryz.ntmps5 kz fun a hE=>?_
 have hW:=WOk.start w C7
 refine B9 [] hW hE fun a1 hE2=>?_
 refine C1 [0,1,2,3] kz ?_
 refine B1 (R1 hE2 (f:=12) (vs:=[]) (d:=1) (n':=3) kz Tryz.call12 Tryz.func12 rfl Tryz.ntmps12 kz fun a3 hE4=>?_)
 refine B9 [] hW hE4 fun a5 hE6=>?_
 refine C1 [0] kz ?_
 refine B1 (N6 hW hE6 (d:=1) (cs:=z3) kz fun b7 a8 w9 ay az aA ab ac=>?_)
 refine B4 (A4 ?_)
 refine C1 [0] kz ?_
 refine B1 (R1 ac (f:=21) (vs:=[.pointer (some ⟨b7,0,none⟩)]) (d:=2) (n':=2) kz Tryz.call21 Tryz.func21 rfl Tryz.ntmps21 kz fun aB ae=>?_)
 have af:=ae.recast 0 (.v (.pointer (some ⟨b7,0,none⟩))) (.p 0 0) rfl rfl (Nat.le_of_ble_eq_true (n:=1) rfl)
 refine wp_skip (U3 af ab.cells (v:=.tuple #[]) kz ?_)
 refine ⟨_,rfl,fun aC ag=>?_⟩
 have ah:EnvOk 3 [⟨b7,0,z3,true⟩] [(2,.v (.tuple #[])),(1,.p 0 0)] _:=ag.places (⟨rfl,rfl,trivial⟩)
 refine B4 (A4 ?_)
 refine B9 [(0,.p 0 0)] ab ah fun aD ai=>?_
 refine wp_ret (D1 ai ab.cells (v:=.pointer (some ⟨b7,0,none⟩)) kz ?_)
 refine ⟨_,rfl,fun aE aj=>?_⟩
 have ak:EnvOk 4 [⟨b7,0,z3,true⟩] [(1,.v (.pointer (some ⟨b7,0,none⟩)))] _:=aj.places (trivial)
 have al:=ak.recast 1 (.v (.pointer (some ⟨b7,0,none⟩))) (.p 0 0) rfl rfl (Nat.le_of_ble_eq_true (n:=1) rfl)
 have am:=al.pick (ks:=[1]) (env':=[(1,.p 0 0)]) kz
 refine B1 (R1 am (f:=13) (vs:=[.pointer (some ⟨b7,0,none⟩)]) (d:=2) (n':=3) kz Tryz.call13 Tryz.func13 rfl Tryz.ntmps13 kz fun aF ao=>?_)
 have ap:=ao.recast 0 (.v (.pointer (some ⟨b7,0,none⟩))) (.p 0 0) rfl rfl (Nat.le_of_ble_eq_true (n:=1) rfl)
 refine B9 [] ab ap fun aG ar=>?_
 refine B9 [(2,.v (.int .i16 13))] ab ar fun aH au=>?_
 refine wp_ret (D1 au ab.cells (v:=.int .i16 13) kz ?_)
 refine ⟨_,rfl,fun aI av=>?_⟩
 have aw:EnvOk 4 [⟨b7,0,z3,true⟩] [(2,.v (.int .i16 13)),(1,.p 0 0)] _:=av.places (⟨rfl,rfl,trivial⟩)
 refine B3 [2,3] [] [(0,.v (.int .i64 13))] ab aw fun aJ ax=>?_
 refine B4 (A4 ?_)
 refine wp_ret (D1 ax ab.cells (v:=.int .i64 13) kz ?_)
 exact ⟨rfl,ab.step⟩
theorem PX:depths sProduceResponseF ≤ 8:=by simp [sProduceResponseF,Fld.depth.depths,Fld.depth]
theorem PY (x:Int) (hx:0 ≤ x) (hx':x < 256) (dst:Bs) {A1:Option Addr} {c1:Nat} (ct:List Value) (t:Tree) (w:World) (F:Nat → Nat → Prop) (hd:Octs w F A1 c1 dst) (hdl:dst.length ≤ 1048576) (ht:TreeR w F ct t) (hroom1:(F7 8 sProduceResponseF F8 (Int.tmod x (13 + 1)) t).length ≤ 1099511627776) (hroom:dst.length + (F7 8 sProduceResponseF F8 (Int.tmod x (13 + 1)) t).length + 16 ≤ 1099511627776) (hcan:BO (C5 (Int.tmod x (13 + 1)) 8 sProduceResponseF t)) (hkey:Tree.ranged (C5 (Int.tmod x (13 + 1)) 8 sProduceResponseF t)) (hL:((if (decide ((IntKind.i16.wrap (Int.tmod x (13 + 1))) ≥ 9)) = true then (uv ((lst ((C5 (Int.tmod x (13 + 1)) 8 sProduceResponseF t).at_ 2)).length + 1)) else (be 4 (lst ((C5 (Int.tmod x (13 + 1)) 8 sProduceResponseF t).at_ 2)).length)) ++ ((lst ((C5 (Int.tmod x (13 + 1)) 8 sProduceResponseF t).at_ 2)).flatMap (H9 (IntKind.i16.wrap (Int.tmod x (13 + 1)))))).length < 4294967296) (hpure:H5 (IntKind.i16.wrap (Int.tmod x (13 + 1))) (C5 (Int.tmod x (13 + 1)) 8 sProduceResponseF t) = F7 8 sProduceResponseF F8 (Int.tmod x (13 + 1)) t) :
  Calls Tryz.prog 3 #[.int .u8 x,.slice A1 dst.length c1,.agg ct.toArray] w (J9 w (.bool true)):=by
 obtain ⟨n1,s2,b3,l4,u5,A6,c7,A8,c9,bN,bO,cR,rfl,rfl,cS,cU,dJ,dK⟩:=ht.open_
 have cy:=cS.small
 have cz:=cU.small
 refine enter (n:=52) Tryz.func3 rfl Tryz.ntmps3 kz fun a hE=>?_
 have hW:=WOk.start w C7
 have hsm1:=Slots.small hd
 refine C1 [0,1] kz ?_
 let ak:Value:=.int .i64 n1
 let al:Value:=.slice A6 s2.length c7
 let am:Value:=.slice A8 l4.length c9
 let ao:Value:=.slice bN u5.length bO
 refine B1 (M2 hW hE (d:=5) (cs:=[ak,al,.bool b3,am,ao]) kz fun cV dL dM cW cX cY ay bP=>?_)
 let aj:Nat × SV:=(0,.v (.int .u8 x))
 let ab:Nat × SV:=(1,.v (.slice A1 dst.length c1))
 let af:Nat × SV:=(5,.p 0 0)
 refine B3 [1] [] [aj,ab,af] ay bP fun dN bQ=>?_
 refine B4 (A4 ?_)
 refine wp_seq (C1 [0,1,2,3,4,5,6,7] kz ?_)
 refine B3 [0,1,2,3] [4,5,6,7] [aj,ab,af,(16,.v (.bool (decide (((dst.length:Nat):Int) > 2147483647))))] ay bQ fun dO bR=>?_
 have bS:(decide (((dst.length:Nat):Int) > 2147483647)) = false:=decide_eq_false (by omega)
 have bT:=bR
 rw [bS] at bT
 let cA:Value:=(.agg #[.int .i64 n1,.slice A6 s2.length c7,.bool b3,.slice A8 l4.length c9,.slice bN u5.length bO])
 refine B3 [4] [5,6,7] [aj,ab,af,(16,.v (.bool false)),(17,.v (.agg #[ak,al,.bool b3,am,ao]))] ay bT fun dP bU=>?_
 let cB:Value:=.agg #[.int .i64 n1,.slice A6 s2.length c7,.bool b3,.slice A8 l4.length c9,.slice bN u5.length bO]
 refine B1 (D6 bU (f:=4) (vs:=[.agg #[ak,al,.bool b3,am,ao]]) (d:=18) kz Tryz.call4 (PE _ _ _ _ (ht.move ay.step B2 ay.imm)) ?_)
 rintro e_ dQ ⟨cC,rfl,aS⟩
 refine ⟨_,rfl,fun dR bV=>?_⟩
 have aC:=ay.next_nil aS
 have cZ:=ay.frN aS
 refine B3 [6,7] [] [aj,ab,af,(20,.v (.bool (!cC)))] aC bV fun dS aN=>?_
 refine B4 (A4 ?_)
 refine E2 aN (b:=!cC) kz (fun bW=>?_) (fun bW=>?_)
 ·
  refine B9 [(6,.v (.bool true))] aC aN fun dT bX=>?_
  refine wp_ret (F5 (D1 bX aC.cells (v:=.bool true) kz ?_))
  exact ⟨rfl,aC.step⟩
 refine wp_skip (A4 (C1 [0,1] kz ?_))
 refine B1 (D6 aN (f:=5) (vs:=[]) (d:=21) kz Tryz.call5 (PW _) ?_)
 rintro e_ da ⟨rfl,aT⟩
 refine ⟨_,rfl,fun dU bY=>?_⟩
 have aF:=aC.next_nil aT
 have db:=aC.frN aT
 refine B3 [1] [] [aj,ab,af,(7,.v (.int .i64 13))] aF bY fun dV bZ=>?_
 refine B4 (A4 ?_)
 refine wp_seq (B9 [aj,ab,af,(7,.v (.int .i64 13)),(23,.v (.bool false))] aF bZ fun dW aU=>?_)
 refine G6 aU (b:=false) kz rfl ?_
 refine wp_skip (A4 (C1 [0,1,2,3,4,5,6] kz ?_))
 refine B1 (D6 aU (f:=6) (vs:=[]) (d:=24) kz Tryz.call6 (NL _ (H1 F w da [⟨cV,0,[ak,al,.bool b3,am,ao],true⟩] [])) ?_)
 rintro e_ dX ⟨bL,bM,rfl,b8,aO⟩
 obtain ⟨cd,dc,de⟩:=b8.move (Step.refl _ C7) B2 (aF.laid (G:=F) aO)
 refine ⟨_,rfl,fun dY ce=>?_⟩
 have aP:=aF.next_nil aO
 have df:=aF.frN aO
 refine B3 [1,2] [3,4,5,6] [ab,af,(24,.v (.agg #[.slice bL sProduceResponseF.length bM,.int .i64 F8])),(25,.v (.int .u8 x)),(26,.v (.int .i64 13))] aP ce fun dZ cg=>?_
 refine B1 (D6 cg (f:=7) (vs:=[.int .u8 x,.int .i64 13]) (d:=27) kz Tryz.call7 (PF x 13 hx hx' (by decide) (by decide) _) ?_)
 rintro e_ d4 ⟨rfl,aV⟩
 refine ⟨_,rfl,fun d5 cm=>?_⟩
 have cq:=aP.next_nil aV
 have aJ:=aP.frN aV
 refine B1 (N6 cq cm (d:=8) (cs:=[.slice none 0 0,.int .i64 0]) kz fun d6 d7 d8 dg dh aK cr cu=>?_)
 refine B1 (I9 cr cu (oi:=1) (cs:=[.slice bL sProduceResponseF.length bM,.int .i64 F8]) kz fun d9 aL au cv=>?_)
 let az:Nat × SV:=(9,.v (.int .i64 (Int.tmod x (13 + 1))))
 refine B3 [6] [] [ab,af,(8,.p 1 0),az] au cv fun ea cw=>?_
 refine B4 (A4 ?_)
 refine wp_seq (B9 [ab,af,(8,.p 1 0),az,(30,.v (.bool (decide (((dst.length:Nat):Int) > 1000))))] au cw fun eb aQ=>?_)
 refine E2 aQ (b:=decide (((dst.length:Nat):Int) > 1000)) kz (fun aR=>?_) (fun aR=>?_)
 ·
  have di:=of_decide_eq_true aR
  refine B9 [(6,.v (.bool true))] au aQ fun ec aW=>?_
  refine wp_ret (F5 (D1 aW au.cells (v:=.bool true) kz ?_))
  exact ⟨rfl,au.step⟩
 have cE:=of_decide_eq_false aR
 refine wp_skip (A4 (C1 [0,1,2,3,4] kz ?_))
 refine B3 [0,1,2] [3,4] [ab,az,(31,.v (.agg #[.slice bL sProduceResponseF.length bM,.int .i64 F8])),(32,.v (.int .i64 (Int.tmod x (13 + 1)))),(33,.v (.agg #[ak,al,.bool b3,am,ao]))] au aQ fun dj aX=>?_
 refine B1 (D6 aX (f:=8) (vs:=[.agg #[.slice bL sProduceResponseF.length bM,.int .i64 F8],.int .i64 (Int.tmod x (13 + 1)),.agg #[ak,al,.bool b3,am,ao]]) (d:=34) kz Tryz.call8 (NK _ _ sProduceResponseF F8 (Int.tmod x (13 + 1)) _ (Tree.mk n1 s2 b3 l4 u5) _ _ ⟨cd,(dc.move ((aJ.trans aK).trans aL).step immM ((aJ.trans aK).trans aL).to'),(fun i_ x_ h_=>((de i_ x_ h_).move ((aJ.trans aK).trans aL).step immM ((aJ.trans aK).trans aL).to'))⟩ PX (ht.move au.step B2 au.imm) hroom1) ?_)
 rintro e_ dl ⟨ac,ae,rfl,aY,aZ⟩
 refine ⟨_,rfl,fun dp ba=>?_⟩
 obtain ⟨ap,cG⟩:=au.frFresh aZ (B0 ac ae 5 (F7 8 sProduceResponseF F8 (Int.tmod x (13 + 1)) (Tree.mk n1 s2 b3 l4 u5))) (Nat.le_refl _) aY
 refine B3 [4] [] [ab,az,(10,.v (.slice ac ((F7 8 sProduceResponseF F8 (Int.tmod x (13 + 1)) (Tree.mk n1 s2 b3 l4 u5)).length) ae))] ap ba fun dq bd=>?_
 refine B4 (A4 ?_)
 refine C1 [0,1,2,3,4,5,6,7,8] kz ?_
 refine B3 [0,1,2] [3,4,5,6,7,8] [ab,(10,.v (.slice ac ((F7 8 sProduceResponseF F8 (Int.tmod x (13 + 1)) (Tree.mk n1 s2 b3 l4 u5)).length) ae)),(36,.v (.int .i64 (Int.tmod x (13 + 1)))),(37,.v (.slice A1 dst.length c1)),(38,.v (.slice ac ((F7 8 sProduceResponseF F8 (Int.tmod x (13 + 1)) (Tree.mk n1 s2 b3 l4 u5)).length) ae))] ap bd fun dr bf=>?_
 refine B1 (D6 bf (f:=9) (vs:=[.int .i64 (Int.tmod x (13 + 1)),.slice A1 dst.length c1,.slice ac ((F7 8 sProduceResponseF F8 (Int.tmod x (13 + 1)) (Tree.mk n1 s2 b3 l4 u5)).length) ae]) (d:=39) kz Tryz.call9 (PV (Int.tmod x (13 + 1)) _ dst (F7 8 sProduceResponseF F8 (Int.tmod x (13 + 1)) (Tree.mk n1 s2 b3 l4 u5)) hpure ((hd.move ap.step B2 ap.imm).move (Step.refl _ C7) B2 Ft) (Ce (ap.own 0 _ rfl) (by first | omega | (rw [Z5]; decide) | (simp only [be_length]; exact Nat.le_trans (S4 _) (by decide)) | (have:=hroom; omega) | (have:=hmade; omega) | (simp only [List.length_append,List.length_nil]; omega)) (F:=fun _ _=>True) (fun _ _ _=>trivial)) hcan hkey hL (by first | omega | (have:=hroom1; omega))) ?_)
 rintro e_ dt ⟨ag,ah,rfl,bg,bh⟩
 refine ⟨_,rfl,fun du bj=>?_⟩
 obtain ⟨aG,cH⟩:=ap.frFresh bh (B0 ag ah 5 (dst ++ (F7 8 sProduceResponseF F8 (Int.tmod x (13 + 1)) (Tree.mk n1 s2 b3 l4 u5)))) (Nat.le_refl _) bg
 refine B3 [4,5,6,7,8] [] [ab,(10,.v (.slice ac ((F7 8 sProduceResponseF F8 (Int.tmod x (13 + 1)) (Tree.mk n1 s2 b3 l4 u5)).length) ae)),(11,.v (.slice ag ((dst ++ (F7 8 sProduceResponseF F8 (Int.tmod x (13 + 1)) (Tree.mk n1 s2 b3 l4 u5))).length) ah)),(12,.v (.bool true))] aG bj fun dv bk=>?_
 refine B4 (A4 ?_)
 refine C1 [0,1,2,3,4,5,6,7,8,9,10] kz ?_
 let ai:Nat × SV:=(43,.v (.bool true))
 refine B3 [0,1,2] [3,4,5,6,7,8,9,10] [ab,(10,.v (.slice ac ((F7 8 sProduceResponseF F8 (Int.tmod x (13 + 1)) (Tree.mk n1 s2 b3 l4 u5)).length) ae)),ai,(44,.v (.slice ag ((dst ++ (F7 8 sProduceResponseF F8 (Int.tmod x (13 + 1)) (Tree.mk n1 s2 b3 l4 u5))).length) ah))] aG bk fun dw bn=>?_
 refine B1 (X7 aG bn (e:=5) (size:=1) (len:=0) (cs:=[]) (d:=45) kz kz fun av dx dy cI cJ cK bo bp=>?_)
 have bq:(⟨some ⟨av,0,none⟩,0,5,1,0,[]⟩:Rw) = B0 (some ⟨av,0,none⟩) 0 5 ([]:Bs):=by first | rfl | (simp only [B0,bc,List.map,R6]; try rfl)
 obtain ⟨ar,cL⟩:=bo.rowEq 2 [B0 ac ae 5 (F7 8 sProduceResponseF F8 (Int.tmod x (13 + 1)) (Tree.mk n1 s2 b3 l4 u5)),B0 ag ah 5 (dst ++ (F7 8 sProduceResponseF F8 (Int.tmod x (13 + 1)) (Tree.mk n1 s2 b3 l4 u5))),B0 (some ⟨av,0,none⟩) 0 5 ([]:Bs)] bq
 have bt:=EnvOk.pick bp (ks:=[1,10,43,44,45]) (env':=[ab,(10,.v (.slice ac ((F7 8 sProduceResponseF F8 (Int.tmod x (13 + 1)) (Tree.mk n1 s2 b3 l4 u5)).length) ae)),ai,(44,.v (.slice ag ((dst ++ (F7 8 sProduceResponseF F8 (Int.tmod x (13 + 1)) (Tree.mk n1 s2 b3 l4 u5))).length) ah)),(45,.v (.slice (some ⟨av,0,none⟩) 0 0))]) kz
 have bu:=bt.cast (env':=[ab,(10,.v (.slice ac ((F7 8 sProduceResponseF F8 (Int.tmod x (13 + 1)) (Tree.mk n1 s2 b3 l4 u5)).length) ae)),ai,(44,.v (.slice ag ((dst ++ (F7 8 sProduceResponseF F8 (Int.tmod x (13 + 1)) (Tree.mk n1 s2 b3 l4 u5))).length) ah)),(45,.v (.slice (some ⟨av,0,none⟩) (([]:Bs).length) 0))]) rfl
 let aH:Nat × SV:=(46,.v (.slice A1 dst.length c1))
 refine B3 [4] [5,6,7,8,9,10] [(10,.v (.slice ac ((F7 8 sProduceResponseF F8 (Int.tmod x (13 + 1)) (Tree.mk n1 s2 b3 l4 u5)).length) ae)),ai,(44,.v (.slice ag ((dst ++ (F7 8 sProduceResponseF F8 (Int.tmod x (13 + 1)) (Tree.mk n1 s2 b3 l4 u5))).length) ah)),(45,.v (.slice (some ⟨av,0,none⟩) (([]:Bs).length) 0)),aH] ar bu fun dA bw=>?_
 refine B1 (N8 ar bw (k:=2) (d:=47) (t:=22) (e:=5) (size:=1) (bytes:=1) (A:=some ⟨av,0,none⟩) (As:=A1) (m0:=(([]:Bs).length)) (c:=0) (m:=dst.length) (cs:=c1) (xs:=(bc ([]:Bs))) (news:=bc dst) kz kz rfl (hd.move ar.step B2 ar.imm).src (hd.move ar.step B2 ar.imm).cap (by first | omega | (simp only [List.length_nil,List.length_append]; omega) | (simp; omega)) fun aw ax dB dC cM bx bz=>?_)
 have bA:(⟨aw,ax,5,1,([]:Bs).length + dst.length,bc ([]:Bs) ++ bc dst⟩:Rw) = B0 aw ax 5 (([]:Bs) ++ dst):=K9 (rfl) rfl
 obtain ⟨aA,cN⟩:=bx.rowEq 2 [B0 ac ae 5 (F7 8 sProduceResponseF F8 (Int.tmod x (13 + 1)) (Tree.mk n1 s2 b3 l4 u5)),B0 ag ah 5 (dst ++ (F7 8 sProduceResponseF F8 (Int.tmod x (13 + 1)) (Tree.mk n1 s2 b3 l4 u5))),B0 aw ax 5 (([]:Bs) ++ dst)] bA
 have bB:=EnvOk.pick bz (ks:=[10,43,44,45,46,47]) (env':=[(10,.v (.slice ac ((F7 8 sProduceResponseF F8 (Int.tmod x (13 + 1)) (Tree.mk n1 s2 b3 l4 u5)).length) ae)),ai,(44,.v (.slice ag ((dst ++ (F7 8 sProduceResponseF F8 (Int.tmod x (13 + 1)) (Tree.mk n1 s2 b3 l4 u5))).length) ah)),(45,.v (.slice (some ⟨av,0,none⟩) (([]:Bs).length) 0)),aH,(47,.v (.slice aw (([]:Bs).length + dst.length) ax))]) kz
 have bC:=bB.cast (env':=[(10,.v (.slice ac ((F7 8 sProduceResponseF F8 (Int.tmod x (13 + 1)) (Tree.mk n1 s2 b3 l4 u5)).length) ae)),ai,(44,.v (.slice ag ((dst ++ (F7 8 sProduceResponseF F8 (Int.tmod x (13 + 1)) (Tree.mk n1 s2 b3 l4 u5))).length) ah)),(45,.v (.slice (some ⟨av,0,none⟩) (([]:Bs).length) 0)),aH,(47,.v (.slice aw ((([]:Bs) ++ dst).length) ax))]) (by simp only [List.length_append,List.length_cons,List.length_nil,Nat.zero_add])
 refine B3 [6] [7,8,9,10] [ai,(44,.v (.slice ag ((dst ++ (F7 8 sProduceResponseF F8 (Int.tmod x (13 + 1)) (Tree.mk n1 s2 b3 l4 u5))).length) ah)),(47,.v (.slice aw ((([]:Bs) ++ dst).length) ax)),(48,.v (.slice ac ((F7 8 sProduceResponseF F8 (Int.tmod x (13 + 1)) (Tree.mk n1 s2 b3 l4 u5)).length) ae))] aA bC fun dD bD=>?_
 refine B1 (N8 aA bD (k:=2) (d:=49) (t:=22) (e:=5) (size:=1) (bytes:=1) (A:=aw) (As:=ac) (m0:=((([]:Bs) ++ dst).length)) (c:=ax) (m:=((F7 8 sProduceResponseF F8 (Int.tmod x (13 + 1)) (Tree.mk n1 s2 b3 l4 u5)).length)) (cs:=ae) (xs:=(bc (([]:Bs) ++ dst))) (news:=bc (F7 8 sProduceResponseF F8 (Int.tmod x (13 + 1)) (Tree.mk n1 s2 b3 l4 u5))) kz kz rfl (S3 (aA.own 0 _ rfl) (Q8 _)) (U5 (aA.own 0 _ rfl)) (by first | omega | (simp only [List.length_nil,List.length_append]; omega) | (simp; omega)) fun aD aE dE dF cO bE bF=>?_)
 have bG:(⟨aD,aE,5,1,(([]:Bs) ++ dst).length + (F7 8 sProduceResponseF F8 (Int.tmod x (13 + 1)) (Tree.mk n1 s2 b3 l4 u5)).length,bc (([]:Bs) ++ dst) ++ bc (F7 8 sProduceResponseF F8 (Int.tmod x (13 + 1)) (Tree.mk n1 s2 b3 l4 u5))⟩:Rw) = B0 aD aE 5 (([]:Bs) ++ dst ++ (F7 8 sProduceResponseF F8 (Int.tmod x (13 + 1)) (Tree.mk n1 s2 b3 l4 u5))):=K9 (rfl) rfl
 obtain ⟨aB,cP⟩:=bE.rowEq 2 [B0 ac ae 5 (F7 8 sProduceResponseF F8 (Int.tmod x (13 + 1)) (Tree.mk n1 s2 b3 l4 u5)),B0 ag ah 5 (dst ++ (F7 8 sProduceResponseF F8 (Int.tmod x (13 + 1)) (Tree.mk n1 s2 b3 l4 u5))),B0 aD aE 5 (([]:Bs) ++ dst ++ (F7 8 sProduceResponseF F8 (Int.tmod x (13 + 1)) (Tree.mk n1 s2 b3 l4 u5)))] bG
 have bH:=EnvOk.pick bF (ks:=[43,44,47,48,49]) (env':=[ai,(44,.v (.slice ag ((dst ++ (F7 8 sProduceResponseF F8 (Int.tmod x (13 + 1)) (Tree.mk n1 s2 b3 l4 u5))).length) ah)),(47,.v (.slice aw ((([]:Bs) ++ dst).length) ax)),(48,.v (.slice ac ((F7 8 sProduceResponseF F8 (Int.tmod x (13 + 1)) (Tree.mk n1 s2 b3 l4 u5)).length) ae)),(49,.v (.slice aD ((([]:Bs) ++ dst).length + (F7 8 sProduceResponseF F8 (Int.tmod x (13 + 1)) (Tree.mk n1 s2 b3 l4 u5)).length) aE))]) kz
 have bI:=bH.cast (env':=[ai,(44,.v (.slice ag ((dst ++ (F7 8 sProduceResponseF F8 (Int.tmod x (13 + 1)) (Tree.mk n1 s2 b3 l4 u5))).length) ah)),(47,.v (.slice aw ((([]:Bs) ++ dst).length) ax)),(48,.v (.slice ac ((F7 8 sProduceResponseF F8 (Int.tmod x (13 + 1)) (Tree.mk n1 s2 b3 l4 u5)).length) ae)),(49,.v (.slice aD ((([]:Bs) ++ dst ++ (F7 8 sProduceResponseF F8 (Int.tmod x (13 + 1)) (Tree.mk n1 s2 b3 l4 u5))).length) aE))]) (by simp only [List.length_append,List.length_cons,List.length_nil,Nat.zero_add])
 refine B1 (D6 bI (f:=10) (vs:=[.slice ag ((dst ++ (F7 8 sProduceResponseF F8 (Int.tmod x (13 + 1)) (Tree.mk n1 s2 b3 l4 u5))).length) ah,.slice aD ((([]:Bs) ++ dst ++ (F7 8 sProduceResponseF F8 (Int.tmod x (13 + 1)) (Tree.mk n1 s2 b3 l4 u5))).length) aE]) (d:=50) kz Tryz.call10 (Jx _ _ _ _ (dst ++ (F7 8 sProduceResponseF F8 (Int.tmod x (13 + 1)) (Tree.mk n1 s2 b3 l4 u5))) (([]:Bs) ++ dst ++ (F7 8 sProduceResponseF F8 (Int.tmod x (13 + 1)) (Tree.mk n1 s2 b3 l4 u5))) _ _ (Ce (aB.own 1 _ rfl) (by first | omega | (rw [Z5]; decide) | (simp only [be_length]; exact Nat.le_trans (S4 _) (by decide)) | (have:=hroom; omega) | (have:=hmade; omega) | (simp only [List.length_append,List.length_nil]; omega)) (F:=fun _ _=>True) (fun _ _ _=>trivial)) (Ce (aB.own 2 _ rfl) (by first | omega | (rw [Z5]; decide) | (simp only [be_length]; exact Nat.le_trans (S4 _) (by decide)) | (have:=hroom; omega) | (have:=hmade; omega) | (simp only [List.length_append,List.length_nil]; omega)) (F:=fun _ _=>True) (fun _ _ _=>trivial))) ?_)
 rintro e_ dG ⟨rfl,aM⟩
 refine ⟨_,rfl,fun dH bJ=>?_⟩
 have aI:=aB.next_nil aM
 have cQ:=aB.frN aM
 refine B3 [9,10] [] [(6,.v (.bool (decide (dst ++ (F7 8 sProduceResponseF F8 (Int.tmod x (13 + 1)) (Tree.mk n1 s2 b3 l4 u5)) = ([]:Bs) ++ dst ++ (F7 8 sProduceResponseF F8 (Int.tmod x (13 + 1)) (Tree.mk n1 s2 b3 l4 u5))))))] aI bJ fun dI bK=>?_
 refine B4 (A4 ?_)
 refine wp_ret (D1 bK aI.cells (v:=.bool (decide (dst ++ (F7 8 sProduceResponseF F8 (Int.tmod x (13 + 1)) (Tree.mk n1 s2 b3 l4 u5)) = ([]:Bs) ++ dst ++ (F7 8 sProduceResponseF F8 (Int.tmod x (13 + 1)) (Tree.mk n1 s2 b3 l4 u5))))) kz ?_)
 exact ⟨by simp,aI.step⟩
theorem PZ (x:Int) (hx:0 ≤ x ∧ x ≤ 255) (dst:Bs) {A1:Option Addr} {c1:Nat} (ct:List Value) (t:Tree) (w:World) (F:Nat → Nat → Prop) (hd:Octs w F A1 c1 dst) (hdl:dst.length ≤ 1048576) (ht:TreeR w F ct t) (hsz:t.size ≤ 8388608):Calls Tryz.prog 3 #[.int .u8 x,.slice A1 dst.length c1,.agg ct.toArray] w (J9 w (.bool true)):=by
 obtain ⟨g0,g1⟩:=Mv (m:=13 + 1) hx.1 hx.2 (by decide) (by decide)
 have hp:H5 (IntKind.i16.wrap (Int.tmod x (13 + 1))) (C5 (Int.tmod x (13 + 1)) 8 sProduceResponseF t) = F7 8 sProduceResponseF F8 (Int.tmod x (13 + 1)) t:=by rw [IC g0 g1]; exact NN (Int.tmod x (13 + 1)) g0 g1 t
 have h1:=Mz 8 sProduceResponseF F8 (Int.tmod x (13 + 1)) t
 have h2:BH sProduceResponseF ≤ 131000:=by decide +kernel
 have h3:=Nat.mul_le_mul h2 hsz
 exact PY x hx.1 (by omega) dst ct t w F hd hdl ht (by omega) (by omega) (NM (Int.tmod x (13 + 1)) t) (NC _ _ _ _ ht.ranged) (by rw [IC g0 g1]; exact NO _ g0 g1 t hsz) hp
end Go.Proofs.YtoclgihkbmaolacGreatDoor.ME
namespace Go.Proofs.YtoclgihkbmaolacGreatDoor.ME
open Go
open Go.ChangeShapes Go.WideShapes Go.ChangeAt Go.RowKit
set_option linter.unusedVariables false
set_option linter.unusedSimpArgs false
theorem Qa:ownKnob Tryz.prog.godebug = none:=by kernel_rfl
theorem Qb:laidOutB Tryz.prog = true:=by kernel_rfl
theorem Kg:TreeTys Tryz.prog 26 23 24 55 22 2 4 53 5:=⟨kz,kz,kz,kz,kz,kz,kz,kz,kz,kz⟩
theorem Qc {H:Type} {enc:TypeId × Value → H} {P:Program} {W:World} {base b':Nat} {sp:Nat → Bool} {hd:Bool} {t0 t1 t2:TypeId} {v0 v1 v2:Value} {d0:DataW H} {p0:List MemPlace} (hu:P.underlying t0 = some (.int .u8))
  (hval:∀ (j:Nat) (t:TypeId) (v:Value),#[t0,t1,t2][j]? = some t → #[v0,v1,v2][j]? = some v → Value.okWide P W .any base t v) (h:DataW.Trod enc P W b' sp hd t0 v0 d0 p0):∃ x,v0 = .int .u8 x ∧ d0 = .lit (.int .u8 x) ∧ p0 = [] ∧ (Lit.int .u8 x).wf = true :=
 open_int hu (hval 0 t0 v0 rfl rfl) h
theorem Qd {v:Value} {cs:List Value} (h:v.cells.toList = cs) (h5:cs.length = 5):v = .agg cs.toArray:=by
 subst h
 cases v <;> first | (simp [Value.cells] at h5; done) | simp [Value.cells]
theorem Qe {A:Option Addr} {n c:Nat} {a:Option Addr} {l k:Nat} (h:(Value.slice a l k).cells.toList = [.slice A n c]):Value.slice a l k = .slice A n c:=by
 simpa [Value.cells] using h
set_option maxRecDepth 100000 in
theorem Qg (H:Type) (enc:TypeId × Value → H) (W:World) (base:Nat) (args:Array Value) (ds gs:List (DataW H)) (before:List MemPlace)
  (hval:∀ (j:Nat) t v,Tryz.f3.params[j]? = some t → args[j]? = some v → Value.okWide Tryz.prog W .any base t v)
  (hW:DataW.Whole enc Tryz.prog Tryz.f3.params.toList Rows.fnBehindProduceResponseSpec.vars false W args.toList ds gs before) (hk:Rows.uptoSmall H (ds ++ gs) = true) :
  Calls Tryz.prog 3 args W fun e W'=>∃ v,e = .returned v ∧ Rows.fnBehindProduceResponseSpec.post enc Tryz.prog Tryz.f3 false true false false W args v W':=by
 have hW':=hW
 obtain ⟨p,q,hA0,hV,rfl,hfz,hnd⟩:=hW
 have hA:DataW.TrodAll enc Tryz.prog W 0 (fun _=>true) true Tryz.f3.params.toList args.toList ds p:=hA0
 rw [Tryz.params3] at hA hval
 obtain ⟨v0,v1,v2,d0,d1,d2,p0,p1,p2,rfl,rfl,rfl,h0,h1,h2⟩:=trodAll_three hA
 obtain ⟨rfl,rfl⟩:=trodVars_none hV
 obtain ⟨x,rfl,rfl,rfl,w0⟩:=Qc Tryz.underlying5 @hval h0
 have hx:0 ≤ x ∧ x ≤ 255:=by simpa [Lit.wf,IntKind.min,IntKind.max,IntKind.signed,IntKind.bits] using w0
 have hb:Rows.uptoBulk d1 ≤ 1048576 ∧ Rows.uptoBulk d2 ≤ 1048576:=by
  have h:Rows.uptoBulkAll ([DataW.lit (H:=H) (.int .u8 x),d1,d2] ++ []) ≤ 1048576:=of_decide_eq_true hk
  simp only [List.append_nil,Rows.uptoBulkAll] at h
  omega
 obtain ⟨fuel1,hf1⟩:=h1
 obtain ⟨A1,c1,dst,hcs1,hd,hdl⟩:=Gk Kg hf1 hb.1
 obtain ⟨a1_,l1_,k1_,rfl⟩:=okWide_slice Tryz.underlying22 (hval 1 22 v1 rfl rfl)
 have hv1:=Qe hcs1
 rw [hv1] at hW' hval ⊢
 obtain ⟨fuel,hf⟩:=h2
 obtain ⟨t,ht,hsz⟩:=MG Kg fuel _ _ hf hb.2
 have hdl':dst.length ≤ 1048576:=Nat.le_trans hdl hb.1
 replace hsz:t.size ≤ 8388608:=Nat.le_trans hsz (by show 8 * Rows.uptoBulk d2 ≤ 8388608; omega)
 have hagg:=Qd rfl (TreeR.five ht)
 generalize v2.cells.toList = ct at ht hagg
 subst hagg
 clear hf hf1
 refine (PZ x hx dst _ t W (fun _ _=>True) hd hdl' ht hsz).mono fun e W' h=>?_
 obtain ⟨rfl,hs⟩:=h
 exact ⟨_,rfl,MH hW' hs Qb (by rw [Tryz.params3]; decide +kernel) rfl rfl rfl (fun _ _ _=>trodAll_cons_mk (shut_bool Tryz.underlying4 _) trodAll_mk0)⟩
theorem Qh (os:Os) (args:Array Value):laidMetH Tryz.prog Rows.fnBehindProduceResponseUptoRow.laid ((World.doorLaid Tryz.prog 400 os).forCall (fun _ _=>0) ⟨#[],args,[]⟩).memory :=
 laidMetH_of_parts3 (fuel:=8) (laidMet_of_run' 8 kz kz) kz kz
set_option maxRecDepth 100000 in
theorem Qi (os:Os) (H:Type) (enc:TypeId × Value → H):∃ (w:World) (tape:Tape) (i:Input),w.os = os ∧ (w.forCall tape i).Shaped Tryz.prog ∧ i.vars = [] ∧ Input.okWide Tryz.prog (w.forCall tape i) .any w.heap.size 3 i ∧
      (((Rows.OpenSpec.upto Rows.fnBehindProduceResponseSpec).pre enc Tryz.prog Tryz.f3 Rows.fnBehindProduceResponseUptoRow.domain false (w.forCall tape i).memory i.args ∧ laidMetH Tryz.prog Rows.fnBehindProduceResponseUptoRow.laid (w.forCall tape i).memory) ∧ sizedMet enc Tryz.prog Tryz.f3 (Rows.OpenSpec.upto Rows.fnBehindProduceResponseSpec) false (w.forCall tape i).memory i.args) ∧
      ({}:Assume).holds Tryz.prog (lone (Frame.enter Tryz.prog 3 i.args .normal) [] (w.forCall tape i)):=by
  have hok:Input.okWideB Tryz.prog ((World.doorLaid Tryz.prog 400 os).forCall (fun _ _=>0) ⟨#[],#[.int .u8 0,.slice none 0 0,.agg #[.int .i64 0,.slice none 0 0,.bool false,.slice none 0 0,.slice none 0 0]],[]⟩) 3 ⟨#[],#[.int .u8 0,.slice none 0 0,.agg #[.int .i64 0,.slice none 0 0,.bool false,.slice none 0 0,.slice none 0 0]],[]⟩ = true:=by kernel_rfl
  refine ⟨World.doorLaid Tryz.prog 400 os,fun _ _=>0,⟨#[],#[.int .u8 0,.slice none 0 0,.agg #[.int .i64 0,.slice none 0 0,.bool false,.slice none 0 0,.slice none 0 0]],[]⟩,rfl,World.shaped_of_RefB kz kz,(Input.okWide_of_okWideB (base:=0) hok).1,(Input.okWide_of_okWideB hok).2,
    ⟨⟨(OpenSpec.pre_some (k:=Rows.uptoSmall) rfl _ _ _ _).2 ⟨[.lit (.int .u8 0),.nil,.agg [.lit (.int .i64 0),.nil,.lit (.bool false),.nil,.nil]],[],[],DataW.Whole_of_whole (fuel:=8) (x:=([.lit (.int .u8 0),.nil,.agg [.lit (.int .i64 0),.nil,.lit (.bool false),.nil,.nil]],[],[])) kz,rfl,kz⟩,Qh os _⟩,sizedMet_of_sizedB (s:=(Rows.OpenSpec.upto Rows.fnBehindProduceResponseSpec).bare) (fuel:=8) kz⟩,?_⟩
  simp only [Assume.holds]
  exact ⟨by simp,by simp,by simp,by simp,by simp⟩
set_option maxRecDepth 100000 in
theorem Qj (os:Os) (started:os.Started) (H:Type) (enc:TypeId × Value → H) (F:Stop.Interp) :
  ReturnsInHanded {} Tryz.checked os 3 .any (fun w args=>((Rows.OpenSpec.upto Rows.fnBehindProduceResponseSpec).pre enc Tryz.prog Tryz.f3 Rows.fnBehindProduceResponseUptoRow.domain false w args ∧ laidMetH Tryz.prog Rows.fnBehindProduceResponseUptoRow.laid w) ∧ sizedMet enc Tryz.prog Tryz.f3 (Rows.OpenSpec.upto Rows.fnBehindProduceResponseSpec) false w args) (((Rows.OpenSpec.upto Rows.fnBehindProduceResponseSpec).at F).post enc Tryz.prog Tryz.f3 false true false false):=by
 refine returnsInHanded_of_calls Qa started kz (Qi os H enc) ?_
 intro w tape i _ _ _ hok hpre hholds
 obtain ⟨_,_,_,fn',hfn',_,_,_,_,hval⟩:=hok
 have e:fn' = Tryz.f3:=Option.some.inj (hfn'.symm.trans Tryz.func3)
 subst e
 obtain ⟨ds,gs,before,hw,hc,hkk⟩:=(OpenSpec.pre_some (k:=Rows.uptoSmall) rfl _ _ _ _).1 hpre.1.1
 have hw':=DataW.Whole.of_heap (w':=w.forCall tape i) (by rfl) hw
 refine (Qg H enc (w.forCall tape i) w.heap.size i.args ds gs before hval hw' hkk).mono fun e W' ⟨v,he,hp⟩=>?_
 subst he
 exact ChangeSpec.post_blind hp
theorem holds_:Rows.FnBehindProduceResponseUptoSaid :=
 OpenClaim.holds_of_cond 3 Tryz.f3 rfl rfl rfl rfl rfl rfl rfl ⟨rfl,rfl,rfl,rfl,rfl⟩ rfl rfl rfl rfl rfl kz Tryz.func3 kz
  (of_decide_eq_true kz) (by unfold Func.isWrapper; first | (rw [if_pos (by decide +kernel)]; kernel_rfl) | (rw [if_neg (by decide +kernel)]; exact ⟨rfl,rfl⟩))
  (fun os started H enc _ F=>Qj os started H enc F)
end Go.Proofs.YtoclgihkbmaolacGreatDoor.ME
namespace Go.Proofs.YtoclgihkbmaolacGreatDoor
open Go
theorem fnBehindProduceResponse_holds:Rows.FnBehindProduceResponseUptoCardSaid :=
 Claim7.holds_tied_plain_at .later [] [.sentinel] true (true, "60900ae0ed245ded6717eded6f7e724d05ab399e101188c66ddc210ef6042327") false ME.holds_ (fun _ h => by cases h) (by kernel_rfl) (fun _ h => by cases h) fnBehindProduceResponseUpto_row_tie rfl ⟨rfl, rfl⟩ (by kernel_rfl) rfl
  (fun f fn hf hfn=>by
   obtain rfl : f = 3 := Option.some.inj ((show Tryz.prog.funcNamed "pub-mailsack/laws.FnBehindProduceResponse" = some 3 by kernel_rfl).symm.trans hf) |>.symm
   obtain rfl:fn = Tryz.f3:=(Option.some.inj (Tryz.func3.symm.trans hfn)).symm
   exact ⟨by kernel_rfl,fun j t ht=>by
    rw [Tryz.params3] at ht
    have hm:t ∈ [5,22,26]:=by simpa using Array.mem_of_getElem? ht
    have hall:([5,22,26].all fun u=>!Tryz.prog.wantsStandIn u) = true:=by kernel_rfl
    exact (show Tryz.prog.wantsStandIn t = false by simpa using List.all_eq_true.1 hall t hm)⟩)
  (by kernel_rfl)
end Go.Proofs.YtoclgihkbmaolacGreatDoor