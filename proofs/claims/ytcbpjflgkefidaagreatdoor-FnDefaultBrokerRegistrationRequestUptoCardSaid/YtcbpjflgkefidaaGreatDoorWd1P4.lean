/- The texts of a claim, put together: the engine, the contracts, the law. Own work. -/
import Derived.Test.YtcbpjflgkefidaaGreatDoorWd1P3
import Derived.Lib.ConvBytes
namespace Go.Proofs.YtcbpjflgkefidaaGreatDoor.ME
open Go
open Go.RowKit
set_option linter.unusedVariables false
set_option linter.unusedSimpArgs false
set_option maxRecDepth 20000
def qaF (v:Int) (T:Tree):Bs:=(if (decide (v ≥ 0)) = true then (uv ((T.at_ 0).S.length + 1) ++ (T.at_ 0).S) else (be 2 (T.at_ 0).S.length ++ (T.at_ 0).S)) ++ ((if (decide (v ≥ 0)) = true then (uv ((T.at_ 1).S.length + 1) ++ (T.at_ 1).S) else (be 2 (T.at_ 1).S.length ++ (T.at_ 1).S)) ++ ((be 2 ((IntKind.u16.wrap (T.at_ 2).N))) ++ ((be 2 ((IntKind.i16.wrap (T.at_ 3).N))) ++ (if (decide (v ≥ 0)) = true then (uv T.U.length) ++ (qcv T.U) else []))))
theorem qbA (v:Int) (T:Tree):0 < (qaF v T).length:=qhZ (qj0 (qhZ (qkd _)) (qhZ (qj1 (by decide))))
def qaG (v:Int) (T:Tree):Bs:=(if (decide (v ≥ 0)) = true then (uv ((T.at_ 0).S.length + 1) ++ (T.at_ 0).S) else (be 2 (T.at_ 0).S.length ++ (T.at_ 0).S)) ++ ((be 2 ((IntKind.i16.wrap (T.at_ 1).N))) ++ ((be 2 ((IntKind.i16.wrap (T.at_ 2).N))) ++ (if (decide (v ≥ 0)) = true then (uv T.U.length) ++ (qcv T.U) else [])))
theorem qbD (v:Int) (T:Tree):0 < (qaG v T).length:=qhZ (qj0 (qhZ (qkd _)) (qhZ (qj1 (by decide))))
def qb1 (v:Int) (T:Tree):Bs:=(be 4 ((IntKind.i32.wrap (T.at_ 0).N))) ++ ((if (decide (v ≥ 0)) = true then (uv ((T.at_ 1).S.length + 1) ++ (T.at_ 1).S) else (be 2 (T.at_ 1).S.length ++ (T.at_ 1).S)) ++ ((qad (T.at_ 2).S) ++ (((if (decide (v ≥ 0)) = true then (uv ((lst (T.at_ 3)).length + 1)) else (be 4 (lst (T.at_ 3)).length)) ++ ((lst (T.at_ 3)).flatMap (qaF v))) ++ (((if (decide (v ≥ 0)) = true then (uv ((lst (T.at_ 4)).length + 1)) else (be 4 (lst (T.at_ 4)).length)) ++ ((lst (T.at_ 4)).flatMap (qaG v))) ++ ((if (decide (v ≥ 0)) = true then (if (T.at_ 5).null = true then uv 0 else uv ((qcG (T.at_ 5)).length + 1) ++ (qcG (T.at_ 5))) else (if (T.at_ 5).null = true then be 2 (-1) else be 2 (qcG (T.at_ 5)).length ++ (qcG (T.at_ 5)))) ++ ((if (decide (v ≥ 1)) = true then [by8 (if (decide ((T.at_ 6).N % 2 = 1)) then 1 else 0)] else []) ++ ((if (decide (v ≥ 2)) = true then (if (decide (v ≥ 0)) = true then (uv ((lst (T.at_ 7)).length + 1)) else (be 4 (lst (T.at_ 7)).length)) ++ ((lst (T.at_ 7)).flatMap (fun E=>qad E.S)) else []) ++ ((if (decide (v ≥ 3)) = true then be 8 ((T.at_ 8).N) else []) ++ ((if (decide (v ≥ 0)) = true then (uv T.U.length) ++ (qcv T.U) else []) ++ (([]:Bs)))))))))))
theorem qcW (v:Int) (T:Tree):qai v T = qb1 v T:=rfl
def qbE (d:DV):List Value:=[.string ((d.f 0).s),.string ((d.f 1).s),.int .u16 ((d.f 2).n),.int .i16 ((d.f 3).n),.map d.m]
theorem qaT:qgA qaN:=by
 intro w w' F F' M d hs hM hF h
 unfold qaN at h ⊢
 obtain ⟨g0,g1,g2,g3,t1,t2,t3,_⟩:=h
 exact ⟨g0,g1,g2,g3,t1.move hs hM hF,t2,t3,trivial⟩
def qbG (d:DV):List Value:=[.string ((d.f 0).s),.int .i16 ((d.f 1).n),.int .i16 ((d.f 2).n),.map d.m]
theorem qaW:qgA qaQ:=by
 intro w w' F F' M d hs hM hF h
 unfold qaQ at h ⊢
 obtain ⟨g0,g1,g2,t1,t2,t3,_⟩:=h
 exact ⟨g0,g1,g2,t1.move hs hM hF,t2,t3,trivial⟩
def qbd (v:Int) (D:DV) (T:Tree):Prop:=((D.f 0).s = bs (T.at_ 0).S) ∧ ((D.f 1).s = bs (T.at_ 1).S) ∧ ((D.f 2).n = IntKind.u16.wrap (T.at_ 2).N) ∧ ((D.f 3).n = IntKind.i16.wrap (T.at_ 3).N) ∧ (((decide (v ≥ 0)) = true → D.u = T.U) ∧ ((decide (v ≥ 0)) = false → D.u = [])) ∧ True
def qbf (v:Int) (D:DV) (T:Tree):Prop:=((D.f 0).s = bs (T.at_ 0).S) ∧ ((D.f 1).n = IntKind.i16.wrap (T.at_ 1).N) ∧ ((D.f 2).n = IntKind.i16.wrap (T.at_ 2).N) ∧ (((decide (v ≥ 0)) = true → D.u = T.U) ∧ ((decide (v ≥ 0)) = false → D.u = [])) ∧ True
def qb6 (v:Int) (D:DV) (T:Tree):Prop:=((D.f 0).n = IntKind.i32.wrap (T.at_ 0).N) ∧ ((D.f 1).s = bs (T.at_ 1).S) ∧ ((D.f 2).o = qad (T.at_ 2).S) ∧ (((D.f 3).l = (lst (T.at_ 3)).length ∧ ∀ i,i < (D.f 3).l → qbd v ((D.f 3).f i) ((lst (T.at_ 3)).getD i .zero))) ∧ (((D.f 4).l = (lst (T.at_ 4)).length ∧ ∀ i,i < (D.f 4).l → qbf v ((D.f 4).f i) ((lst (T.at_ 4)).getD i .zero))) ∧ (((D.f 5).s = bs (qcG (T.at_ 5)) ∧ (D.f 5).A.isNone = (T.at_ 5).null)) ∧ (((decide (v ≥ 1)) = true → (D.f 6).b = decide ((T.at_ 6).N % 2 = 1)) ∧ ((decide (v ≥ 1)) = false → (D.f 6).b = false)) ∧ (((decide (v ≥ 2)) = true → ((D.f 7).l = (lst (T.at_ 7)).length ∧ ∀ i,i < (D.f 7).l → ((D.f 7).f i).o = qad ((lst (T.at_ 7)).getD i .zero).S)) ∧ ((decide (v ≥ 2)) = false → ((D.f 7).A = none ∧ (D.f 7).l = 0))) ∧ (((decide (v ≥ 3)) = true → (D.f 8).n = IntKind.i64.wrap (T.at_ 8).N) ∧ ((decide (v ≥ 3)) = false → (D.f 8).n = -1)) ∧ (((decide (v ≥ 0)) = true → D.u = T.U) ∧ ((decide (v ≥ 0)) = false → D.u = [])) ∧ True
theorem qk8 (b o:Nat) (w:World):Calls Tryz.prog 172 #[.pointer (some ⟨b,o,none⟩)] w (fun e w'=>e = .returned (.tuple #[]) ∧ w' = w):=by
 refine enter (n:=2) (vs:=[.pointer (some ⟨b,o,none⟩)]) Tryz.func172 rfl Tryz.ntmps172 kz fun a hE=>?_
 refine wp_skip ?_
 exact qbI hE (WOk.start w Nil).cells (v:=.tuple #[]) kz ⟨rfl,rfl⟩
theorem qk9 (b o:Nat) (w:World):Calls Tryz.prog 174 #[.pointer (some ⟨b,o,none⟩)] w (fun e w'=>e = .returned (.tuple #[]) ∧ w' = w):=by
 refine enter (n:=2) (vs:=[.pointer (some ⟨b,o,none⟩)]) Tryz.func174 rfl Tryz.ntmps174 kz fun a hE=>?_
 refine wp_skip ?_
 exact qbI hE (WOk.start w Nil).cells (v:=.tuple #[]) kz ⟨rfl,rfl⟩
set_option maxHeartbeats 4000000 in
theorem qcX (v:Int) (T:Tree) {bv:Nat} {A:Option Addr} {c:Nat} {w:World} {F:Nat → Nat → Prop} (hst:Str w bv [.int .i16 v,.int .i32 0,.string ByteArray.empty,.int .u8 0,.int .u8 0,.int .u8 0,.int .u8 0,.int .u8 0,.int .u8 0,.int .u8 0,.int .u8 0,.int .u8 0,.int .u8 0,.int .u8 0,.int .u8 0,.int .u8 0,.int .u8 0,.int .u8 0,.int .u8 0,.slice none 0 0,.slice none 0 0,.pointer none,.bool false,.slice none 0 0,.int .i64 (-1),.map none]) (ho:Octs w F A c (qai v T)) (hFd:∀ b o,F b o → ¬ (b = bv ∧ o < 26)) (hc:qa4 T) (hR:T.ranged) :
  Calls Tryz.prog 116 #[.pointer (some ⟨bv,0,none⟩),.slice A (qai v T).length c,.bool false] w (fun e w'=>∃ D:DV,e = .returned .nilIface ∧ Str w' bv [.int .i16 v,.int .i32 ((D.f 0).n),.string ((D.f 1).s),qaa ((D.f 2).o.getD 0 0),qaa ((D.f 2).o.getD 1 0),qaa ((D.f 2).o.getD 2 0),qaa ((D.f 2).o.getD 3 0),qaa ((D.f 2).o.getD 4 0),qaa ((D.f 2).o.getD 5 0),qaa ((D.f 2).o.getD 6 0),qaa ((D.f 2).o.getD 7 0),qaa ((D.f 2).o.getD 8 0),qaa ((D.f 2).o.getD 9 0),qaa ((D.f 2).o.getD 10 0),qaa ((D.f 2).o.getD 11 0),qaa ((D.f 2).o.getD 12 0),qaa ((D.f 2).o.getD 13 0),qaa ((D.f 2).o.getD 14 0),qaa ((D.f 2).o.getD 15 0),.slice ((D.f 3).A) ((D.f 3).l) ((D.f 3).c),.slice ((D.f 4).A) ((D.f 4).l) ((D.f 4).c),.pointer ((D.f 5).A),.bool ((D.f 6).b),.slice ((D.f 7).A) ((D.f 7).l) ((D.f 7).c),.int .i64 ((D.f 8).n),.map D.m] ∧ qaZ w' (Fp F w) D ∧ qb6 v D T ∧ Step w w' (fun b o=>b = bv ∧ o < 26)):=by
 refine enter (n:=272) Tryz.func116 rfl Tryz.ntmps116 kz fun a hE=>?_
 have hW:=WOk.startStr hst
 have hE1:=(hE.grow ⟨bv,0,[.int .i16 v,.int .i32 0,.string ByteArray.empty,.int .u8 0,.int .u8 0,.int .u8 0,.int .u8 0,.int .u8 0,.int .u8 0,.int .u8 0,.int .u8 0,.int .u8 0,.int .u8 0,.int .u8 0,.int .u8 0,.int .u8 0,.int .u8 0,.int .u8 0,.int .u8 0,.slice none 0 0,.slice none 0 0,.pointer none,.bool false,.slice none 0 0,.int .i64 (-1),.map none],true⟩).recast 0 (.v (.pointer (some ⟨bv,0,none⟩))) (.p 0 0) rfl rfl (Nat.le_of_ble_eq_true (n:=1) rfl)
 refine qav [(0,.p 0 0),(1,.v (.slice A ((qai v T).length) c)),(2,.v (.bool false))] hW hE1 fun a1 hE2=>?_
 refine qag [0,1] kz ?_
 refine qal [0] [1] [(0,.p 0 0),(1,.v (.slice A ((qai v T).length) c)),(2,.v (.bool false)),(41,.p 0 0)] hW hE2 fun a3 hE4=>?_
 refine qak (qbB hE4 (f:=69) (vs:=[.pointer (some ⟨bv,0,none⟩)]) (d:=42) (n':=5) kz Tryz.call69 Tryz.func69 rfl Tryz.ntmps69 kz fun a5 hE6=>?_)
 have hE7:=hE6.recast 0 (.v (.pointer (some ⟨bv,0,none⟩))) (.p 0 0) rfl rfl (Nat.le_of_ble_eq_true (n:=1) rfl)
 refine qaq [0,1,2,3] kz ?_
 refine qal [0,1,2] [3] [(4,.p 0 24)] hW hE7 fun a8 hE9=>?_
 refine qak (qam hW hE9 (oi:=0) (cs:=[.int .i16 v,.int .i32 0,.string ByteArray.empty,.int .u8 0,.int .u8 0,.int .u8 0,.int .u8 0,.int .u8 0,.int .u8 0,.int .u8 0,.int .u8 0,.int .u8 0,.int .u8 0,.int .u8 0,.int .u8 0,.int .u8 0,.int .u8 0,.int .u8 0,.int .u8 0,.slice none 0 0,.slice none 0 0,.pointer none,.bool false,.slice none 0 0,.int .i64 (-1),.map none]) kz fun jg iP fC ik=>?_)
 refine qah ?_
 refine qbI ik fC.cells (v:=.tuple #[]) kz ?_
 refine ⟨_,rfl,fun jh il=>?_⟩
 have im:EnvOk 272 [⟨bv,0,[.int .i16 v,.int .i32 0,.string ByteArray.empty,.int .u8 0,.int .u8 0,.int .u8 0,.int .u8 0,.int .u8 0,.int .u8 0,.int .u8 0,.int .u8 0,.int .u8 0,.int .u8 0,.int .u8 0,.int .u8 0,.int .u8 0,.int .u8 0,.int .u8 0,.int .u8 0,.slice none 0 0,.slice none 0 0,.pointer none,.bool false,.slice none 0 0,.int .i64 (-1),.map none],true⟩] [(42,.v (.tuple #[])),(0,.p 0 0),(1,.v (.slice A ((qai v T).length) c)),(2,.v (.bool false)),(41,.p 0 0)] _:=il.places (⟨rfl,rfl,trivial⟩)
 refine qah (qac ?_)
 refine qag [0,1,2,3] kz ?_
 refine qal [0,1] [2,3] [(0,.p 0 0),(2,.v (.bool false)),(44,.v (.agg #[.slice A ((qai v T).length) c,.bool false]))] fC im fun ji io=>?_
 refine qak (qaO fC io (d:=7) (cs:=[.slice none 0 0,.bool false]) kz fun ba jj jk iQ iR iS ip iq=>?_)
 refine qak (qam ip iq (oi:=1) (cs:=[.slice A ((qai v T).length) c,.bool false]) kz fun jl iT fD ir=>?_)
 refine qah (qac ?_)
 have fK:=RS.start (F:=F) (s:=qai v T) fD ir (ho.move fD.step (fun b_ o_ h_ _=>hFd b_ o_ h_) (fD.immM hFd)) [(0,.p 1 0),(2,.v (.bool false)),(7,.p 0 0)]
 have iN:=hc
 have e32r:=hR
 unfold qa4 at iN
 obtain ⟨e32_0,e32_1,e32_2,⟨e32_3,e32_3e⟩,⟨e32_4,e32_4e⟩,e32_5,e32_6,e32_7,e32_8,e32_U,_⟩:=iN
 obtain ⟨fL,fM⟩:∃ R,R = (if (decide (v ≥ 0)) = true then (uv T.U.length) ++ (qcv T.U) else []) ++ ([]:Bs):=⟨_,rfl⟩
 obtain ⟨bd,fN⟩:∃ R,R = (if (decide (v ≥ 3)) = true then be 8 ((T.at_ 8).N) else []) ++ fL:=⟨_,rfl⟩
 obtain ⟨fO,fP⟩:∃ R,R = (if (decide (v ≥ 2)) = true then (if (decide (v ≥ 0)) = true then (uv ((lst (T.at_ 7)).length + 1)) else (be 4 (lst (T.at_ 7)).length)) ++ ((lst (T.at_ 7)).flatMap (fun E=>qad E.S)) else []) ++ bd:=⟨_,rfl⟩
 obtain ⟨ij,fQ⟩:∃ R,R = (if (decide (v ≥ 1)) = true then [by8 (if (decide ((T.at_ 6).N % 2 = 1)) then 1 else 0)] else []) ++ fO:=⟨_,rfl⟩
 obtain ⟨bO,fR⟩:∃ R,R = (if (decide (v ≥ 0)) = true then (if (T.at_ 5).null = true then uv 0 else uv ((qcG (T.at_ 5)).length + 1) ++ (qcG (T.at_ 5))) else (if (T.at_ 5).null = true then be 2 (-1) else be 2 (qcG (T.at_ 5)).length ++ (qcG (T.at_ 5)))) ++ ij:=⟨_,rfl⟩
 obtain ⟨bP,fS⟩:∃ R,R = ((if (decide (v ≥ 0)) = true then (uv ((lst (T.at_ 4)).length + 1)) else (be 4 (lst (T.at_ 4)).length)) ++ ((lst (T.at_ 4)).flatMap (qaG v))) ++ bO:=⟨_,rfl⟩
 obtain ⟨iU,fT⟩:∃ R,R = ((if (decide (v ≥ 0)) = true then (uv ((lst (T.at_ 3)).length + 1)) else (be 4 (lst (T.at_ 3)).length)) ++ ((lst (T.at_ 3)).flatMap (qaF v))) ++ bP:=⟨_,rfl⟩
 obtain ⟨iV,fU⟩:∃ R,R = (qad (T.at_ 2).S) ++ iU:=⟨_,rfl⟩
 obtain ⟨iW,fV⟩:∃ R,R = (if (decide (v ≥ 0)) = true then (uv ((T.at_ 1).S.length + 1) ++ (T.at_ 1).S) else (be 2 (T.at_ 1).S.length ++ (T.at_ 1).S)) ++ iV:=⟨_,rfl⟩
 obtain ⟨iX,fW⟩:∃ R,R = (be 4 ((IntKind.i32.wrap (T.at_ 0).N))) ++ iW:=⟨_,rfl⟩
 have fX:=fK.cast (t:=iX) (by rw [qcW,fW,fV,fU,fT,fS,fR,fQ,fP,fN,fM]; unfold qb1; simp only [List.append_assoc])
 clear fK
 refine wp_seq ?_
 refine qbo [(0,.p 1 0),(2,.v (.bool false)),(7,.p 0 0),(8,.v (.int .i16 v))] fX fun _ fY=>?_
 clear fX
 refine qac ?_
 refine wp_seq ?_
 refine qbo [(0,.p 1 0),(2,.v (.bool false)),(7,.p 0 0),(8,.v (.int .i16 v))] fY fun _ fZ=>?_
 clear fY
 refine qac ?_
 refine wp_seq ?_
 refine qbo [(0,.p 1 0),(2,.v (.bool false)),(7,.p 0 0),(8,.v (.int .i16 v)),(9,.v (.bool (decide (v ≥ 0))))] fZ fun _ f5=>?_
 clear fZ
 refine qac ?_
 refine wp_seq ?_
 refine qbo [(0,.p 1 0),(2,.v (.bool false)),(7,.p 0 0),(8,.v (.int .i16 v)),(9,.v (.bool (decide (v ≥ 0))))] f5 fun _ f7=>?_
 clear f5
 refine qac ?_
 refine wp_seq ?_
 refine qbo [(2,.v (.bool false)),(7,.p 0 0),(8,.v (.int .i16 v)),(9,.v (.bool (decide (v ≥ 0)))),(10,.p 1 0)] f7 fun _ f8=>?_
 clear f7
 refine qac ?_
 refine wp_seq ?_
 refine wp_seq ?_
 have f9:=f8.cast fW
 clear f8
 refine qdY (d:=54) [(2,.v (.bool false)),(7,.p 0 0),(8,.v (.int .i16 v)),(9,.v (.bool (decide (v ≥ 0)))),(10,.p 1 0),(11,.v (.int .i32 (IntKind.i32.wrap (T.at_ 0).N)))] f9 (qk2 _ _) Tryz.call139 fun _ _ ga=>?_
 clear f9
 refine qac ?_
 refine qcD [⟨bv,0,[.int .i16 v,.int .i32 (IntKind.i32.wrap (T.at_ 0).N),.string ByteArray.empty,.int .u8 0,.int .u8 0,.int .u8 0,.int .u8 0,.int .u8 0,.int .u8 0,.int .u8 0,.int .u8 0,.int .u8 0,.int .u8 0,.int .u8 0,.int .u8 0,.int .u8 0,.int .u8 0,.int .u8 0,.int .u8 0,.slice none 0 0,.slice none 0 0,.pointer none,.bool false,.slice none 0 0,.int .i64 (-1),.map none],true⟩] 0 [(2,.v (.bool false)),(7,.p 0 0),(8,.v (.int .i16 v)),(9,.v (.bool (decide (v ≥ 0)))),(10,.p 1 0)] ga fun _ _ gb=>?_
 clear ga
 refine qac ?_
 refine wp_seq ?_
 refine wp_seq ?_
 refine qbo [(2,.v (.bool false)),(7,.p 0 0),(8,.v (.int .i16 v)),(9,.v (.bool (decide (v ≥ 0)))),(10,.p 1 0)] gb fun _ gc=>?_
 clear gb
 refine qac ?_
 refine wp_seq ?_
 refine wp_seq ?_
 refine qbo [(2,.v (.bool false)),(7,.p 0 0),(8,.v (.int .i16 v)),(9,.v (.bool (decide (v ≥ 0)))),(10,.p 1 0),(59,.v (.bool false))] gc fun _ fE=>qac ?_
 clear gc
 refine qau fE.env_ (b:=false) kz (rfl) ?_
 have gd:=fE.cast fV
 clear fE
 refine qd9 (d1:=64) (d2:=65) [(2,.v (.bool false)),(7,.p 0 0),(8,.v (.int .i16 v)),(9,.v (.bool (decide (v ≥ 0)))),(10,.p 1 0),(63,.v (.bool (decide (v ≥ 0))))] [(2,.v (.bool false)),(7,.p 0 0),(8,.v (.int .i16 v)),(9,.v (.bool (decide (v ≥ 0)))),(10,.p 1 0),(12,.v (.string (bs (T.at_ 1).S)))] gd (qcu (T.at_ 1).S e32_1 _) Tryz.call153 (qfY (T.at_ 1).S e32_1 _) Tryz.call154 fun _ _ ge=>?_
 clear gd
 refine qac ?_
 refine qcD [⟨bv,0,[.int .i16 v,.int .i32 (IntKind.i32.wrap (T.at_ 0).N),.string (bs (T.at_ 1).S),.int .u8 0,.int .u8 0,.int .u8 0,.int .u8 0,.int .u8 0,.int .u8 0,.int .u8 0,.int .u8 0,.int .u8 0,.int .u8 0,.int .u8 0,.int .u8 0,.int .u8 0,.int .u8 0,.int .u8 0,.int .u8 0,.slice none 0 0,.slice none 0 0,.pointer none,.bool false,.slice none 0 0,.int .i64 (-1),.map none],true⟩] 0 [(2,.v (.bool false)),(7,.p 0 0),(8,.v (.int .i16 v)),(9,.v (.bool (decide (v ≥ 0)))),(10,.p 1 0)] ge fun _ _ gg=>?_
 clear ge
 refine qac ?_
 refine wp_seq ?_
 refine wp_seq ?_
 refine qaq [0,1,2] kz ?_
 have gh:=gg.cast fU
 clear gg
 refine qak (qfV (d:=70) gh (qk4 (T.at_ 2).S _) Tryz.call168 fun _ _ gi=>?_)
 clear gh
 refine qak (qht (d:=13) [.int .u8 0,.int .u8 0,.int .u8 0,.int .u8 0,.int .u8 0,.int .u8 0,.int .u8 0,.int .u8 0,.int .u8 0,.int .u8 0,.int .u8 0,.int .u8 0,.int .u8 0,.int .u8 0,.int .u8 0,.int .u8 0] gi fun iu _ _ hb_b72 gj=>?_)
 clear gi
 have gk:=(gj.tbEq (tb':=[⟨bv,0,[.int .i16 v,.int .i32 (IntKind.i32.wrap (T.at_ 0).N),.string (bs (T.at_ 1).S),.int .u8 0,.int .u8 0,.int .u8 0,.int .u8 0,.int .u8 0,.int .u8 0,.int .u8 0,.int .u8 0,.int .u8 0,.int .u8 0,.int .u8 0,.int .u8 0,.int .u8 0,.int .u8 0,.int .u8 0,.int .u8 0,.slice none 0 0,.slice none 0 0,.pointer none,.bool false,.slice none 0 0,.int .i64 (-1),.map none],true⟩,⟨iu,0,[.int .u8 0,.int .u8 0,.int .u8 0,.int .u8 0,.int .u8 0,.int .u8 0,.int .u8 0,.int .u8 0,.int .u8 0,.int .u8 0,.int .u8 0,.int .u8 0,.int .u8 0,.int .u8 0,.int .u8 0,.int .u8 0],true⟩]) rfl).pk (env':=[(2,.v (.bool false)),(7,.p 0 0),(8,.v (.int .i16 v)),(9,.v (.bool (decide (v ≥ 0)))),(10,.p 1 0),(70,.v (.agg #[qaa ((qad (T.at_ 2).S).getD 0 0),qaa ((qad (T.at_ 2).S).getD 1 0),qaa ((qad (T.at_ 2).S).getD 2 0),qaa ((qad (T.at_ 2).S).getD 3 0),qaa ((qad (T.at_ 2).S).getD 4 0),qaa ((qad (T.at_ 2).S).getD 5 0),qaa ((qad (T.at_ 2).S).getD 6 0),qaa ((qad (T.at_ 2).S).getD 7 0),qaa ((qad (T.at_ 2).S).getD 8 0),qaa ((qad (T.at_ 2).S).getD 9 0),qaa ((qad (T.at_ 2).S).getD 10 0),qaa ((qad (T.at_ 2).S).getD 11 0),qaa ((qad (T.at_ 2).S).getD 12 0),qaa ((qad (T.at_ 2).S).getD 13 0),qaa ((qad (T.at_ 2).S).getD 14 0),qaa ((qad (T.at_ 2).S).getD 15 0)])),(13,.p 2 0)])
 clear gj
 refine qak (qdQ [⟨bv,0,[.int .i16 v,.int .i32 (IntKind.i32.wrap (T.at_ 0).N),.string (bs (T.at_ 1).S),.int .u8 0,.int .u8 0,.int .u8 0,.int .u8 0,.int .u8 0,.int .u8 0,.int .u8 0,.int .u8 0,.int .u8 0,.int .u8 0,.int .u8 0,.int .u8 0,.int .u8 0,.int .u8 0,.int .u8 0,.int .u8 0,.slice none 0 0,.slice none 0 0,.pointer none,.bool false,.slice none 0 0,.int .i64 (-1),.map none],true⟩,⟨iu,0,[qaa ((qad (T.at_ 2).S).getD 0 0),qaa ((qad (T.at_ 2).S).getD 1 0),qaa ((qad (T.at_ 2).S).getD 2 0),qaa ((qad (T.at_ 2).S).getD 3 0),qaa ((qad (T.at_ 2).S).getD 4 0),qaa ((qad (T.at_ 2).S).getD 5 0),qaa ((qad (T.at_ 2).S).getD 6 0),qaa ((qad (T.at_ 2).S).getD 7 0),qaa ((qad (T.at_ 2).S).getD 8 0),qaa ((qad (T.at_ 2).S).getD 9 0),qaa ((qad (T.at_ 2).S).getD 10 0),qaa ((qad (T.at_ 2).S).getD 11 0),qaa ((qad (T.at_ 2).S).getD 12 0),qaa ((qad (T.at_ 2).S).getD 13 0),qaa ((qad (T.at_ 2).S).getD 14 0),qaa ((qad (T.at_ 2).S).getD 15 0)],true⟩] 1 gk fun _ gl=>?_)
 clear gk
 refine qah ?_
 have gm:=gl.pk (env':=[(2,.v (.bool false)),(7,.p 0 0),(8,.v (.int .i16 v)),(9,.v (.bool (decide (v ≥ 0)))),(10,.p 1 0),(13,.p 2 0)])
 clear gl
 refine qac ?_
 refine qcD [⟨bv,0,[.int .i16 v,.int .i32 (IntKind.i32.wrap (T.at_ 0).N),.string (bs (T.at_ 1).S),qaa ((qad (T.at_ 2).S).getD 0 0),qaa ((qad (T.at_ 2).S).getD 1 0),qaa ((qad (T.at_ 2).S).getD 2 0),qaa ((qad (T.at_ 2).S).getD 3 0),qaa ((qad (T.at_ 2).S).getD 4 0),qaa ((qad (T.at_ 2).S).getD 5 0),qaa ((qad (T.at_ 2).S).getD 6 0),qaa ((qad (T.at_ 2).S).getD 7 0),qaa ((qad (T.at_ 2).S).getD 8 0),qaa ((qad (T.at_ 2).S).getD 9 0),qaa ((qad (T.at_ 2).S).getD 10 0),qaa ((qad (T.at_ 2).S).getD 11 0),qaa ((qad (T.at_ 2).S).getD 12 0),qaa ((qad (T.at_ 2).S).getD 13 0),qaa ((qad (T.at_ 2).S).getD 14 0),qaa ((qad (T.at_ 2).S).getD 15 0),.slice none 0 0,.slice none 0 0,.pointer none,.bool false,.slice none 0 0,.int .i64 (-1),.map none],true⟩,⟨iu,0,[qaa ((qad (T.at_ 2).S).getD 0 0),qaa ((qad (T.at_ 2).S).getD 1 0),qaa ((qad (T.at_ 2).S).getD 2 0),qaa ((qad (T.at_ 2).S).getD 3 0),qaa ((qad (T.at_ 2).S).getD 4 0),qaa ((qad (T.at_ 2).S).getD 5 0),qaa ((qad (T.at_ 2).S).getD 6 0),qaa ((qad (T.at_ 2).S).getD 7 0),qaa ((qad (T.at_ 2).S).getD 8 0),qaa ((qad (T.at_ 2).S).getD 9 0),qaa ((qad (T.at_ 2).S).getD 10 0),qaa ((qad (T.at_ 2).S).getD 11 0),qaa ((qad (T.at_ 2).S).getD 12 0),qaa ((qad (T.at_ 2).S).getD 13 0),qaa ((qad (T.at_ 2).S).getD 14 0),qaa ((qad (T.at_ 2).S).getD 15 0)],true⟩] 0 [(2,.v (.bool false)),(7,.p 0 0),(8,.v (.int .i16 v)),(9,.v (.bool (decide (v ≥ 0)))),(10,.p 1 0)] gm fun _ _ gn=>?_
 clear gm
 have gp:=RS.dropT (tb:=[⟨bv,0,[.int .i16 v,.int .i32 (IntKind.i32.wrap (T.at_ 0).N),.string (bs (T.at_ 1).S),qaa ((qad (T.at_ 2).S).getD 0 0),qaa ((qad (T.at_ 2).S).getD 1 0),qaa ((qad (T.at_ 2).S).getD 2 0),qaa ((qad (T.at_ 2).S).getD 3 0),qaa ((qad (T.at_ 2).S).getD 4 0),qaa ((qad (T.at_ 2).S).getD 5 0),qaa ((qad (T.at_ 2).S).getD 6 0),qaa ((qad (T.at_ 2).S).getD 7 0),qaa ((qad (T.at_ 2).S).getD 8 0),qaa ((qad (T.at_ 2).S).getD 9 0),qaa ((qad (T.at_ 2).S).getD 10 0),qaa ((qad (T.at_ 2).S).getD 11 0),qaa ((qad (T.at_ 2).S).getD 12 0),qaa ((qad (T.at_ 2).S).getD 13 0),qaa ((qad (T.at_ 2).S).getD 14 0),qaa ((qad (T.at_ 2).S).getD 15 0),.slice none 0 0,.slice none 0 0,.pointer none,.bool false,.slice none 0 0,.int .i64 (-1),.map none],true⟩]) gn hb_b72 kz
 clear gn
 refine qac ?_
 refine wp_seq ?_
 refine wp_seq ?_
 refine qbo [(2,.v (.bool false)),(7,.p 0 0),(8,.v (.int .i16 v)),(9,.v (.bool (decide (v ≥ 0)))),(10,.p 1 0),(14,.v (.slice none 0 0))] gp fun _ gq=>?_
 clear gp
 refine qac ?_
 refine wp_seq ?_
 refine qbo [(2,.v (.bool false)),(7,.p 0 0),(8,.v (.int .i16 v)),(9,.v (.bool (decide (v ≥ 0)))),(10,.p 1 0),(15,.v (.slice none 0 0))] gq fun _ gt=>?_
 clear gq
 refine qac ?_
 refine wp_seq ?_
 refine qbo [(2,.v (.bool false)),(7,.p 0 0),(8,.v (.int .i16 v)),(9,.v (.bool (decide (v ≥ 0)))),(10,.p 1 0),(15,.v (.slice none 0 0))] gt fun _ gv=>?_
 clear gt
 refine qac ?_
 refine wp_seq ?_
 have gw:=gv.cast fT
 clear gv
 have gx:=gw.cast (t:=(if (decide (v ≥ 0)) = true then (uv ((lst (T.at_ 3)).length + 1)) else (be 4 (lst (T.at_ 3)).length)) ++ (((lst (T.at_ 3)).flatMap (qaF v)) ++ bP)) (by rw [List.append_assoc])
 clear gw
 refine qd9 (d1:=81) (d2:=82) [(2,.v (.bool false)),(7,.p 0 0),(8,.v (.int .i16 v)),(9,.v (.bool (decide (v ≥ 0)))),(10,.p 1 0),(15,.v (.slice none 0 0)),(80,.v (.bool (decide (v ≥ 0))))] [(2,.v (.bool false)),(7,.p 0 0),(8,.v (.int .i16 v)),(9,.v (.bool (decide (v ≥ 0)))),(10,.p 1 0),(15,.v (.slice none 0 0)),(16,.v (.int .i32 (((lst (T.at_ 3)).length:Nat):Int)))] gx (qcB ((lst (T.at_ 3)).length) e32_3 _ (flat_ge' (qbA v) _)) Tryz.call146 (qfe ((lst (T.at_ 3)).length) e32_3 _ (flat_ge' (qbA v) _)) Tryz.call147 fun _ _ gy=>?_
 clear gx
 refine qac ?_
 refine wp_seq ?_
 refine wp_seq ?_
 refine qkv (d:=83) [(2,.v (.bool false)),(7,.p 0 0),(8,.v (.int .i16 v)),(9,.v (.bool (decide (v ≥ 0)))),(10,.p 1 0),(15,.v (.slice none 0 0)),(16,.v (.int .i32 (((lst (T.at_ 3)).length:Nat):Int))),(84,.v (.bool false))] gy (pOk _) Tryz.call148 fun _ _ fF=>?_
 clear gy
 refine qac ?_
 refine qau fF.env_ (b:=false) kz (rfl) ?_
 refine wp_skip ?_
 refine qac ?_
 refine wp_seq ?_
 refine qg5 (t:=130) (e:=138) (size:=5) (bytes:=48) (d:=87) (A0:=none) (m:=0) (cp:=0) [(2,.v (.bool false)),(7,.p 0 0),(8,.v (.int .i16 v)),(9,.v (.bool (decide (v ≥ 0)))),(10,.p 1 0),(16,.v (.int .i32 (((lst (T.at_ 3)).length:Nat):Int))),(86,.v (.slice none 0 0))] [(2,.v (.bool false)),(7,.p 0 0),(8,.v (.int .i16 v)),(9,.v (.bool (decide (v ≥ 0)))),(10,.p 1 0),(15,.v (.slice none 0 0)),(16,.v (.int .i32 (((lst (T.at_ 3)).length:Nat):Int)))] 1 fF fun _ gz=>?_
 clear fF
 refine qac ?_
 refine qfW (Mid:=fun a_ w_=>∃ (ac:DV) (P':qca),(∀ w F,P' w F → noF w F ∧ (Slots w F 5 ac.A ac.c ac.l (fun i=>[.string (((ac.f i).f 0).s),.string (((ac.f i).f 1).s),.int .u16 (((ac.f i).f 2).n),.int .i16 (((ac.f i).f 3).n),.map ((ac.f i).m)]) ∧ ac.l ≤ 1000000 ∧ ∀ i,i < ac.l → qaN w F (ac.f i)) ∧ (ac.l = (lst (T.at_ 3)).length ∧ ∀ i,i < ac.l → qbd v (ac.f i) ((lst (T.at_ 3)).getD i .zero))) ∧ RS w (fun b o=>b = bv ∧ o < 26) F 272 ba [⟨bv,0,[.int .i16 v,.int .i32 (IntKind.i32.wrap (T.at_ 0).N),.string (bs (T.at_ 1).S),qaa ((qad (T.at_ 2).S).getD 0 0),qaa ((qad (T.at_ 2).S).getD 1 0),qaa ((qad (T.at_ 2).S).getD 2 0),qaa ((qad (T.at_ 2).S).getD 3 0),qaa ((qad (T.at_ 2).S).getD 4 0),qaa ((qad (T.at_ 2).S).getD 5 0),qaa ((qad (T.at_ 2).S).getD 6 0),qaa ((qad (T.at_ 2).S).getD 7 0),qaa ((qad (T.at_ 2).S).getD 8 0),qaa ((qad (T.at_ 2).S).getD 9 0),qaa ((qad (T.at_ 2).S).getD 10 0),qaa ((qad (T.at_ 2).S).getD 11 0),qaa ((qad (T.at_ 2).S).getD 12 0),qaa ((qad (T.at_ 2).S).getD 13 0),qaa ((qad (T.at_ 2).S).getD 14 0),qaa ((qad (T.at_ 2).S).getD 15 0),.slice none 0 0,.slice none 0 0,.pointer none,.bool false,.slice none 0 0,.int .i64 (-1),.map none],true⟩] [(2,.v (.bool false)),(7,.p 0 0),(8,.v (.int .i16 v)),(9,.v (.bool (decide (v ≥ 0)))),(10,.p 1 0),(15,.v (.slice ac.A ac.l ac.c))] P' bP a_ w_) ?_ ?_
 ·
  refine wp_seq ?_
  refine qbo [(2,.v (.bool false)),(7,.p 0 0),(8,.v (.int .i16 v)),(9,.v (.bool (decide (v ≥ 0)))),(10,.p 1 0),(15,.v (.slice none 0 0)),(16,.v (.int .i32 (((lst (T.at_ 3)).length:Nat):Int))),(89,.v (.bool (decide ((((lst (T.at_ 3)).length:Nat):Int) > 0))))] gz fun _ bf=>qac ?_
  clear gz
  refine qaD bf.env_ (b:=decide ((((lst (T.at_ 3)).length:Nat):Int) > 0)) kz (fun bI=>?_) (fun bI=>?_)
  ·
   have hn_g95:0 < (lst (T.at_ 3)).length:=by have h_:=of_decide_eq_true bI; omega
   refine qaq [0,1,2,3] kz ?_
   refine qcV [0,1] [2,3] [(2,.v (.bool false)),(7,.p 0 0),(8,.v (.int .i16 v)),(9,.v (.bool (decide (v ≥ 0)))),(10,.p 1 0),(16,.v (.int .i32 (((lst (T.at_ 3)).length:Nat):Int))),(90,.v (.slice none 0 0)),(91,.v (.int .i32 (((lst (T.at_ 3)).length:Nat):Int)))] bf fun _ gA=>?_
   clear bf
   refine qak (qex (A0:=none) (d:=92) (t:=130) (tn:=21) (e:=138) (size:=5) (bytes:=48) (k:=.i32) (kn:=.i32) (q:=(((lst (T.at_ 3)).length:Nat):Int)) (j:=(lst (T.at_ 3)).length) (.agg #[.string ByteArray.empty,.string ByteArray.empty,.int .u16 0,.int .i16 0,.map none]) gA (fun am aw _ _ hg_g95 hcap_g95 gB=>?_) rfl hn_g95 (by have:=e32_3; omega))
   clear gA
   refine qcV [3] [] [(2,.v (.bool false)),(7,.p 0 0),(8,.v (.int .i16 v)),(9,.v (.bool (decide (v ≥ 0)))),(10,.p 1 0),(15,.v (.slice (some ⟨am,0,none⟩) ((lst (T.at_ 3)).length) aw)),(16,.v (.int .i32 (((lst (T.at_ 3)).length:Nat):Int)))] gB fun _ gC=>qah ?_
   clear gB
   refine qac ?_
   refine wp_seq ?_
   refine qbo [(2,.v (.bool false)),(7,.p 0 0),(8,.v (.int .i16 v)),(9,.v (.bool (decide (v ≥ 0)))),(10,.p 1 0),(15,.v (.slice (some ⟨am,0,none⟩) ((lst (T.at_ 3)).length) aw)),(16,.v (.int .i32 (((lst (T.at_ 3)).length:Nat):Int))),(17,.v (.int .i32 0))] gC fun _ bg=>?_
   clear gC
   refine qac ?_
   refine wp_block ?_
   have bh:=bg.mv
   have gD:=(bg.cast (t:=(lst (T.at_ 3)).flatMap (qaF v) ++ bP) rfl).pk (env':=[(2,.v (.bool false)),(7,.p 0 0),(8,.v (.int .i16 v)),(9,.v (.bool (decide (v ≥ 0)))),(10,.p 1 0),(15,.v (.slice (some ⟨am,0,none⟩) ((lst (T.at_ 3)).length) aw)),(16,.v (.int .i32 (((lst (T.at_ 3)).length:Nat):Int))),(17,.v (.int .i32 ((0:Nat):Int)))])
   clear bg
   refine qg4 (tb:=[⟨bv,0,[.int .i16 v,.int .i32 (IntKind.i32.wrap (T.at_ 0).N),.string (bs (T.at_ 1).S),qaa ((qad (T.at_ 2).S).getD 0 0),qaa ((qad (T.at_ 2).S).getD 1 0),qaa ((qad (T.at_ 2).S).getD 2 0),qaa ((qad (T.at_ 2).S).getD 3 0),qaa ((qad (T.at_ 2).S).getD 4 0),qaa ((qad (T.at_ 2).S).getD 5 0),qaa ((qad (T.at_ 2).S).getD 6 0),qaa ((qad (T.at_ 2).S).getD 7 0),qaa ((qad (T.at_ 2).S).getD 8 0),qaa ((qad (T.at_ 2).S).getD 9 0),qaa ((qad (T.at_ 2).S).getD 10 0),qaa ((qad (T.at_ 2).S).getD 11 0),qaa ((qad (T.at_ 2).S).getD 12 0),qaa ((qad (T.at_ 2).S).getD 13 0),qaa ((qad (T.at_ 2).S).getD 14 0),qaa ((qad (T.at_ 2).S).getD 15 0),.slice none 0 0,.slice none 0 0,.pointer none,.bool false,.slice none 0 0,.int .i64 (-1),.map none],true⟩]) (z:=.agg #[.string ByteArray.empty,.string ByteArray.empty,.int .u16 0,.int .i16 0,.map none]) (cl:=qbE) (ok:=qaN) (rel:=(qbd v)) (L:=lst (T.at_ 3)) (size:=5) (qaF v) bP (fun k=>[(2,.v (.bool false)),(7,.p 0 0),(8,.v (.int .i16 v)),(9,.v (.bool (decide (v ≥ 0)))),(10,.p 1 0),(15,.v (.slice (some ⟨am,0,none⟩) ((lst (T.at_ 3)).length) aw)),(16,.v (.int .i32 (((lst (T.at_ 3)).length:Nat):Int))),(17,.v (.int .i32 ((k:Nat):Int)))]) gD qaT (fun ae af _ _ bi gE bQ=>?_) (fun _ _ bR=>?_)
   ·
    obtain ⟨iv,bS,bT⟩:∃ P',(∀ w F,P' w F → (noF w F ∧ qfb am 5 qbE qaN (qbd v) (lst (T.at_ 3)) ae w F)) ∧ RS w (fun b o=>b = bv ∧ o < 26) F 272 ba [⟨bv,0,[.int .i16 v,.int .i32 (IntKind.i32.wrap (T.at_ 0).N),.string (bs (T.at_ 1).S),qaa ((qad (T.at_ 2).S).getD 0 0),qaa ((qad (T.at_ 2).S).getD 1 0),qaa ((qad (T.at_ 2).S).getD 2 0),qaa ((qad (T.at_ 2).S).getD 3 0),qaa ((qad (T.at_ 2).S).getD 4 0),qaa ((qad (T.at_ 2).S).getD 5 0),qaa ((qad (T.at_ 2).S).getD 6 0),qaa ((qad (T.at_ 2).S).getD 7 0),qaa ((qad (T.at_ 2).S).getD 8 0),qaa ((qad (T.at_ 2).S).getD 9 0),qaa ((qad (T.at_ 2).S).getD 10 0),qaa ((qad (T.at_ 2).S).getD 11 0),qaa ((qad (T.at_ 2).S).getD 12 0),qaa ((qad (T.at_ 2).S).getD 13 0),qaa ((qad (T.at_ 2).S).getD 14 0),qaa ((qad (T.at_ 2).S).getD 15 0),.slice none 0 0,.slice none 0 0,.pointer none,.bool false,.slice none 0 0,.int .i64 (-1),.map none],true⟩,qbF am 5 (.agg #[.string ByteArray.empty,.string ByteArray.empty,.int .u16 0,.int .i16 0,.map none]) ((lst (T.at_ 3)).length) ae] [(2,.v (.bool false)),(7,.p 0 0),(8,.v (.int .i16 v)),(9,.v (.bool (decide (v ≥ 0)))),(10,.p 1 0),(15,.v (.slice (some ⟨am,0,none⟩) ((lst (T.at_ 3)).length) aw)),(16,.v (.int .i32 (((lst (T.at_ 3)).length:Nat):Int))),(17,.v (.int .i32 ((ae:Nat):Int)))] P' ((qaF v) af ++ (((lst (T.at_ 3)).drop (ae + 1)).flatMap (qaF v) ++ bP)) _ _:=⟨_,fun _ _ h=>h,bQ⟩
    clear bQ
    obtain ⟨bj,bU⟩:∃ R,R = ((lst (T.at_ 3)).drop (ae + 1)).flatMap (qaF v) ++ bP:=⟨_,rfl⟩
    have gF:=(e32_3e af (List.mem_of_getElem? bi))
    have e114r:=(qfy (qe9 e32r 3) af (List.mem_of_getElem? bi))
    unfold qbb at gF
    obtain ⟨e114_0,e114_1,e114_2,e114_3,e114_U,_⟩:=gF
    obtain ⟨iw,bV⟩:∃ R,R = (if (decide (v ≥ 0)) = true then (uv af.U.length) ++ (qcv af.U) else []) ++ bj:=⟨_,rfl⟩
    obtain ⟨ix,bW⟩:∃ R,R = (be 2 ((IntKind.i16.wrap (af.at_ 3).N))) ++ iw:=⟨_,rfl⟩
    obtain ⟨iy,bX⟩:∃ R,R = (be 2 ((IntKind.u16.wrap (af.at_ 2).N))) ++ ix:=⟨_,rfl⟩
    obtain ⟨iz,bY⟩:∃ R,R = (if (decide (v ≥ 0)) = true then (uv ((af.at_ 1).S.length + 1) ++ (af.at_ 1).S) else (be 2 (af.at_ 1).S.length ++ (af.at_ 1).S)) ++ iy:=⟨_,rfl⟩
    obtain ⟨iA,bZ⟩:∃ R,R = (if (decide (v ≥ 0)) = true then (uv ((af.at_ 0).S.length + 1) ++ (af.at_ 0).S) else (be 2 (af.at_ 0).S.length ++ (af.at_ 0).S)) ++ iz:=⟨_,rfl⟩
    have b8:=bT.cast (t:=iA) (by rw [bZ,bY,bX,bW,bV,← bU]; unfold qaF; simp only [List.append_assoc])
    clear bT
    refine wp_seq ?_
    refine wp_seq ?_
    refine qbo [(2,.v (.bool false)),(7,.p 0 0),(8,.v (.int .i16 v)),(9,.v (.bool (decide (v ≥ 0)))),(10,.p 1 0),(15,.v (.slice (some ⟨am,0,none⟩) ((lst (T.at_ 3)).length) aw)),(16,.v (.int .i32 (((lst (T.at_ 3)).length:Nat):Int))),(17,.v (.int .i32 ((ae:Nat):Int))),(95,.v (.bool (decide (((ae:Nat):Int) < (((lst (T.at_ 3)).length:Nat):Int)))))] b8 fun _ bk=>qac ?_
    clear b8
    refine qbk bk.env_ (b:=decide (((ae:Nat):Int) < (((lst (T.at_ 3)).length:Nat):Int))) kz (decide_eq_true (by omega)) ?_
    refine wp_skip ?_
    refine qac ?_
    refine wp_seq ?_
    refine wp_block ?_
    refine wp_seq ?_
    refine qi9 (t:=130) (e:=138) (size:=5) (bytes:=48) (d:=100) (tb:=[⟨bv,0,[.int .i16 v,.int .i32 (IntKind.i32.wrap (T.at_ 0).N),.string (bs (T.at_ 1).S),qaa ((qad (T.at_ 2).S).getD 0 0),qaa ((qad (T.at_ 2).S).getD 1 0),qaa ((qad (T.at_ 2).S).getD 2 0),qaa ((qad (T.at_ 2).S).getD 3 0),qaa ((qad (T.at_ 2).S).getD 4 0),qaa ((qad (T.at_ 2).S).getD 5 0),qaa ((qad (T.at_ 2).S).getD 6 0),qaa ((qad (T.at_ 2).S).getD 7 0),qaa ((qad (T.at_ 2).S).getD 8 0),qaa ((qad (T.at_ 2).S).getD 9 0),qaa ((qad (T.at_ 2).S).getD 10 0),qaa ((qad (T.at_ 2).S).getD 11 0),qaa ((qad (T.at_ 2).S).getD 12 0),qaa ((qad (T.at_ 2).S).getD 13 0),qaa ((qad (T.at_ 2).S).getD 14 0),qaa ((qad (T.at_ 2).S).getD 15 0),.slice none 0 0,.slice none 0 0,.pointer none,.bool false,.slice none 0 0,.int .i64 (-1),.map none],true⟩]) (z:=.agg #[.string ByteArray.empty,.string ByteArray.empty,.int .u16 0,.int .i16 0,.map none]) [(2,.v (.bool false)),(7,.p 0 0),(8,.v (.int .i16 v)),(9,.v (.bool (decide (v ≥ 0)))),(10,.p 1 0),(15,.v (.slice (some ⟨am,0,none⟩) ((lst (T.at_ 3)).length) aw)),(16,.v (.int .i32 (((lst (T.at_ 3)).length:Nat):Int))),(17,.v (.int .i32 ((ae:Nat):Int))),(98,.v (.slice (some ⟨am,0,none⟩) ((lst (T.at_ 3)).length) aw)),(99,.v (.int .i32 ((ae:Nat):Int)))] [(2,.v (.bool false)),(7,.p 0 0),(8,.v (.int .i16 v)),(9,.v (.bool (decide (v ≥ 0)))),(10,.p 1 0),(15,.v (.slice (some ⟨am,0,none⟩) ((lst (T.at_ 3)).length) aw)),(16,.v (.int .i32 (((lst (T.at_ 3)).length:Nat):Int))),(17,.v (.int .i32 ((ae:Nat):Int))),(18,.p 3 0)] 2 bk gE rfl kz fun _ cd=>?_
    clear bk
    have ce:=cd.tbEq (tb':=[⟨bv,0,[.int .i16 v,.int .i32 (IntKind.i32.wrap (T.at_ 0).N),.string (bs (T.at_ 1).S),qaa ((qad (T.at_ 2).S).getD 0 0),qaa ((qad (T.at_ 2).S).getD 1 0),qaa ((qad (T.at_ 2).S).getD 2 0),qaa ((qad (T.at_ 2).S).getD 3 0),qaa ((qad (T.at_ 2).S).getD 4 0),qaa ((qad (T.at_ 2).S).getD 5 0),qaa ((qad (T.at_ 2).S).getD 6 0),qaa ((qad (T.at_ 2).S).getD 7 0),qaa ((qad (T.at_ 2).S).getD 8 0),qaa ((qad (T.at_ 2).S).getD 9 0),qaa ((qad (T.at_ 2).S).getD 10 0),qaa ((qad (T.at_ 2).S).getD 11 0),qaa ((qad (T.at_ 2).S).getD 12 0),qaa ((qad (T.at_ 2).S).getD 13 0),qaa ((qad (T.at_ 2).S).getD 14 0),qaa ((qad (T.at_ 2).S).getD 15 0),.slice none 0 0,.slice none 0 0,.pointer none,.bool false,.slice none 0 0,.int .i64 (-1),.map none],true⟩,qbF am 5 (.agg #[.string ByteArray.empty,.string ByteArray.empty,.int .u16 0,.int .i16 0,.map none]) ((lst (T.at_ 3)).length) (ae + 1),⟨am,ae * 5,[.string ByteArray.empty,.string ByteArray.empty,.int .u16 0,.int .i16 0,.map none],true⟩]) rfl
    clear cd
    refine qac ?_
    refine wp_seq ?_
    refine qaq [0,1] kz ?_
    refine qcV [0] [1] [(2,.v (.bool false)),(7,.p 0 0),(8,.v (.int .i16 v)),(9,.v (.bool (decide (v ≥ 0)))),(10,.p 1 0),(15,.v (.slice (some ⟨am,0,none⟩) ((lst (T.at_ 3)).length) aw)),(16,.v (.int .i32 (((lst (T.at_ 3)).length:Nat):Int))),(17,.v (.int .i32 ((ae:Nat):Int))),(18,.p 3 0),(101,.p 3 0)] ce fun _ cg=>?_
    clear ce
    refine qak (qj2 (d:=102) (vs:=[.pointer (some ⟨am,ae * 5,none⟩)]) cg (fun _=>qk8 _ _ _) Tryz.call172 fun _ cm=>?_)
    clear cg
    refine qah ?_
    have cq:=cm.pk (env':=[(2,.v (.bool false)),(7,.p 0 0),(8,.v (.int .i16 v)),(9,.v (.bool (decide (v ≥ 0)))),(10,.p 1 0),(15,.v (.slice (some ⟨am,0,none⟩) ((lst (T.at_ 3)).length) aw)),(16,.v (.int .i32 (((lst (T.at_ 3)).length:Nat):Int))),(17,.v (.int .i32 ((ae:Nat):Int))),(18,.p 3 0)])
    clear cm
    refine qac ?_
    refine wp_seq ?_
    refine qbo [(2,.v (.bool false)),(7,.p 0 0),(8,.v (.int .i16 v)),(9,.v (.bool (decide (v ≥ 0)))),(10,.p 1 0),(15,.v (.slice (some ⟨am,0,none⟩) ((lst (T.at_ 3)).length) aw)),(16,.v (.int .i32 (((lst (T.at_ 3)).length:Nat):Int))),(17,.v (.int .i32 ((ae:Nat):Int))),(19,.p 3 0)] cq fun _ cr=>?_
    clear cq
    refine qac ?_
    refine wp_seq ?_
    refine wp_seq ?_
    refine qbo [(2,.v (.bool false)),(7,.p 0 0),(8,.v (.int .i16 v)),(9,.v (.bool (decide (v ≥ 0)))),(10,.p 1 0),(15,.v (.slice (some ⟨am,0,none⟩) ((lst (T.at_ 3)).length) aw)),(16,.v (.int .i32 (((lst (T.at_ 3)).length:Nat):Int))),(17,.v (.int .i32 ((ae:Nat):Int))),(19,.p 3 0)] cr fun _ cu=>?_
    clear cr
    refine qac ?_
    refine wp_seq ?_
    refine wp_seq ?_
    refine qbo [(2,.v (.bool false)),(7,.p 0 0),(8,.v (.int .i16 v)),(9,.v (.bool (decide (v ≥ 0)))),(10,.p 1 0),(15,.v (.slice (some ⟨am,0,none⟩) ((lst (T.at_ 3)).length) aw)),(16,.v (.int .i32 (((lst (T.at_ 3)).length:Nat):Int))),(17,.v (.int .i32 ((ae:Nat):Int))),(19,.p 3 0),(104,.v (.bool false))] cu fun _ bn=>qac ?_
    clear cu
    refine qau bn.env_ (b:=false) kz (rfl) ?_
    have cw:=bn.cast bZ
    clear bn
    refine qd9 (d1:=109) (d2:=110) [(2,.v (.bool false)),(7,.p 0 0),(8,.v (.int .i16 v)),(9,.v (.bool (decide (v ≥ 0)))),(10,.p 1 0),(15,.v (.slice (some ⟨am,0,none⟩) ((lst (T.at_ 3)).length) aw)),(16,.v (.int .i32 (((lst (T.at_ 3)).length:Nat):Int))),(17,.v (.int .i32 ((ae:Nat):Int))),(19,.p 3 0),(108,.v (.bool (decide (v ≥ 0))))] [(2,.v (.bool false)),(7,.p 0 0),(8,.v (.int .i16 v)),(9,.v (.bool (decide (v ≥ 0)))),(10,.p 1 0),(15,.v (.slice (some ⟨am,0,none⟩) ((lst (T.at_ 3)).length) aw)),(16,.v (.int .i32 (((lst (T.at_ 3)).length:Nat):Int))),(17,.v (.int .i32 ((ae:Nat):Int))),(19,.p 3 0),(20,.v (.string (bs (af.at_ 0).S)))] cw (qcu (af.at_ 0).S e114_0 _) Tryz.call153 (qfY (af.at_ 0).S e114_0 _) Tryz.call154 fun _ _ cz=>?_
    clear cw
    refine qac ?_
    refine qcD [⟨bv,0,[.int .i16 v,.int .i32 (IntKind.i32.wrap (T.at_ 0).N),.string (bs (T.at_ 1).S),qaa ((qad (T.at_ 2).S).getD 0 0),qaa ((qad (T.at_ 2).S).getD 1 0),qaa ((qad (T.at_ 2).S).getD 2 0),qaa ((qad (T.at_ 2).S).getD 3 0),qaa ((qad (T.at_ 2).S).getD 4 0),qaa ((qad (T.at_ 2).S).getD 5 0),qaa ((qad (T.at_ 2).S).getD 6 0),qaa ((qad (T.at_ 2).S).getD 7 0),qaa ((qad (T.at_ 2).S).getD 8 0),qaa ((qad (T.at_ 2).S).getD 9 0),qaa ((qad (T.at_ 2).S).getD 10 0),qaa ((qad (T.at_ 2).S).getD 11 0),qaa ((qad (T.at_ 2).S).getD 12 0),qaa ((qad (T.at_ 2).S).getD 13 0),qaa ((qad (T.at_ 2).S).getD 14 0),qaa ((qad (T.at_ 2).S).getD 15 0),.slice none 0 0,.slice none 0 0,.pointer none,.bool false,.slice none 0 0,.int .i64 (-1),.map none],true⟩,qbF am 5 (.agg #[.string ByteArray.empty,.string ByteArray.empty,.int .u16 0,.int .i16 0,.map none]) ((lst (T.at_ 3)).length) (ae + 1),⟨am,ae * 5,[.string (bs (af.at_ 0).S),.string ByteArray.empty,.int .u16 0,.int .i16 0,.map none],true⟩] 2 [(2,.v (.bool false)),(7,.p 0 0),(8,.v (.int .i16 v)),(9,.v (.bool (decide (v ≥ 0)))),(10,.p 1 0),(15,.v (.slice (some ⟨am,0,none⟩) ((lst (T.at_ 3)).length) aw)),(16,.v (.int .i32 (((lst (T.at_ 3)).length:Nat):Int))),(17,.v (.int .i32 ((ae:Nat):Int))),(19,.p 3 0)] cz fun _ _ cA=>?_
    clear cz
    refine qac ?_
    refine wp_seq ?_
    refine wp_seq ?_
    refine qbo [(2,.v (.bool false)),(7,.p 0 0),(8,.v (.int .i16 v)),(9,.v (.bool (decide (v ≥ 0)))),(10,.p 1 0),(15,.v (.slice (some ⟨am,0,none⟩) ((lst (T.at_ 3)).length) aw)),(16,.v (.int .i32 (((lst (T.at_ 3)).length:Nat):Int))),(17,.v (.int .i32 ((ae:Nat):Int))),(19,.p 3 0)] cA fun _ cB=>?_
    clear cA
    refine qac ?_
    refine wp_seq ?_
    refine wp_seq ?_
    refine qbo [(2,.v (.bool false)),(7,.p 0 0),(8,.v (.int .i16 v)),(9,.v (.bool (decide (v ≥ 0)))),(10,.p 1 0),(15,.v (.slice (some ⟨am,0,none⟩) ((lst (T.at_ 3)).length) aw)),(16,.v (.int .i32 (((lst (T.at_ 3)).length:Nat):Int))),(17,.v (.int .i32 ((ae:Nat):Int))),(19,.p 3 0),(115,.v (.bool false))] cB fun _ bo=>qac ?_
    clear cB
    refine qau bo.env_ (b:=false) kz (rfl) ?_
    have cC:=bo.cast bY
    clear bo
    refine qd9 (d1:=120) (d2:=121) [(2,.v (.bool false)),(7,.p 0 0),(8,.v (.int .i16 v)),(9,.v (.bool (decide (v ≥ 0)))),(10,.p 1 0),(15,.v (.slice (some ⟨am,0,none⟩) ((lst (T.at_ 3)).length) aw)),(16,.v (.int .i32 (((lst (T.at_ 3)).length:Nat):Int))),(17,.v (.int .i32 ((ae:Nat):Int))),(19,.p 3 0),(119,.v (.bool (decide (v ≥ 0))))] [(2,.v (.bool false)),(7,.p 0 0),(8,.v (.int .i16 v)),(9,.v (.bool (decide (v ≥ 0)))),(10,.p 1 0),(15,.v (.slice (some ⟨am,0,none⟩) ((lst (T.at_ 3)).length) aw)),(16,.v (.int .i32 (((lst (T.at_ 3)).length:Nat):Int))),(17,.v (.int .i32 ((ae:Nat):Int))),(19,.p 3 0),(21,.v (.string (bs (af.at_ 1).S)))] cC (qcu (af.at_ 1).S e114_1 _) Tryz.call153 (qfY (af.at_ 1).S e114_1 _) Tryz.call154 fun _ _ cD=>?_
    clear cC
    refine qac ?_
    refine qcD [⟨bv,0,[.int .i16 v,.int .i32 (IntKind.i32.wrap (T.at_ 0).N),.string (bs (T.at_ 1).S),qaa ((qad (T.at_ 2).S).getD 0 0),qaa ((qad (T.at_ 2).S).getD 1 0),qaa ((qad (T.at_ 2).S).getD 2 0),qaa ((qad (T.at_ 2).S).getD 3 0),qaa ((qad (T.at_ 2).S).getD 4 0),qaa ((qad (T.at_ 2).S).getD 5 0),qaa ((qad (T.at_ 2).S).getD 6 0),qaa ((qad (T.at_ 2).S).getD 7 0),qaa ((qad (T.at_ 2).S).getD 8 0),qaa ((qad (T.at_ 2).S).getD 9 0),qaa ((qad (T.at_ 2).S).getD 10 0),qaa ((qad (T.at_ 2).S).getD 11 0),qaa ((qad (T.at_ 2).S).getD 12 0),qaa ((qad (T.at_ 2).S).getD 13 0),qaa ((qad (T.at_ 2).S).getD 14 0),qaa ((qad (T.at_ 2).S).getD 15 0),.slice none 0 0,.slice none 0 0,.pointer none,.bool false,.slice none 0 0,.int .i64 (-1),.map none],true⟩,qbF am 5 (.agg #[.string ByteArray.empty,.string ByteArray.empty,.int .u16 0,.int .i16 0,.map none]) ((lst (T.at_ 3)).length) (ae + 1),⟨am,ae * 5,[.string (bs (af.at_ 0).S),.string (bs (af.at_ 1).S),.int .u16 0,.int .i16 0,.map none],true⟩] 2 [(2,.v (.bool false)),(7,.p 0 0),(8,.v (.int .i16 v)),(9,.v (.bool (decide (v ≥ 0)))),(10,.p 1 0),(15,.v (.slice (some ⟨am,0,none⟩) ((lst (T.at_ 3)).length) aw)),(16,.v (.int .i32 (((lst (T.at_ 3)).length:Nat):Int))),(17,.v (.int .i32 ((ae:Nat):Int))),(19,.p 3 0)] cD fun _ _ cE=>?_
    clear cD
    refine qac ?_
    refine wp_seq ?_
    refine wp_seq ?_
    have cG:=cE.cast bX
    clear cE
    refine qdY (d:=126) [(2,.v (.bool false)),(7,.p 0 0),(8,.v (.int .i16 v)),(9,.v (.bool (decide (v ≥ 0)))),(10,.p 1 0),(15,.v (.slice (some ⟨am,0,none⟩) ((lst (T.at_ 3)).length) aw)),(16,.v (.int .i32 (((lst (T.at_ 3)).length:Nat):Int))),(17,.v (.int .i32 ((ae:Nat):Int))),(19,.p 3 0),(22,.v (.int .u16 (IntKind.u16.wrap (af.at_ 2).N)))] cG (qkw _ _) Tryz.call173 fun _ _ cH=>?_
    clear cG
    refine qac ?_
    refine qcD [⟨bv,0,[.int .i16 v,.int .i32 (IntKind.i32.wrap (T.at_ 0).N),.string (bs (T.at_ 1).S),qaa ((qad (T.at_ 2).S).getD 0 0),qaa ((qad (T.at_ 2).S).getD 1 0),qaa ((qad (T.at_ 2).S).getD 2 0),qaa ((qad (T.at_ 2).S).getD 3 0),qaa ((qad (T.at_ 2).S).getD 4 0),qaa ((qad (T.at_ 2).S).getD 5 0),qaa ((qad (T.at_ 2).S).getD 6 0),qaa ((qad (T.at_ 2).S).getD 7 0),qaa ((qad (T.at_ 2).S).getD 8 0),qaa ((qad (T.at_ 2).S).getD 9 0),qaa ((qad (T.at_ 2).S).getD 10 0),qaa ((qad (T.at_ 2).S).getD 11 0),qaa ((qad (T.at_ 2).S).getD 12 0),qaa ((qad (T.at_ 2).S).getD 13 0),qaa ((qad (T.at_ 2).S).getD 14 0),qaa ((qad (T.at_ 2).S).getD 15 0),.slice none 0 0,.slice none 0 0,.pointer none,.bool false,.slice none 0 0,.int .i64 (-1),.map none],true⟩,qbF am 5 (.agg #[.string ByteArray.empty,.string ByteArray.empty,.int .u16 0,.int .i16 0,.map none]) ((lst (T.at_ 3)).length) (ae + 1),⟨am,ae * 5,[.string (bs (af.at_ 0).S),.string (bs (af.at_ 1).S),.int .u16 (IntKind.u16.wrap (af.at_ 2).N),.int .i16 0,.map none],true⟩] 2 [(2,.v (.bool false)),(7,.p 0 0),(8,.v (.int .i16 v)),(9,.v (.bool (decide (v ≥ 0)))),(10,.p 1 0),(15,.v (.slice (some ⟨am,0,none⟩) ((lst (T.at_ 3)).length) aw)),(16,.v (.int .i32 (((lst (T.at_ 3)).length:Nat):Int))),(17,.v (.int .i32 ((ae:Nat):Int))),(19,.p 3 0)] cH fun _ _ cI=>?_
    clear cH
    refine qac ?_
    refine wp_seq ?_
    refine wp_seq ?_
    have cJ:=cI.cast bW
    clear cI
    refine qdY (d:=131) [(2,.v (.bool false)),(7,.p 0 0),(8,.v (.int .i16 v)),(9,.v (.bool (decide (v ≥ 0)))),(10,.p 1 0),(15,.v (.slice (some ⟨am,0,none⟩) ((lst (T.at_ 3)).length) aw)),(16,.v (.int .i32 (((lst (T.at_ 3)).length:Nat):Int))),(17,.v (.int .i32 ((ae:Nat):Int))),(19,.p 3 0),(23,.v (.int .i16 (IntKind.i16.wrap (af.at_ 3).N)))] cJ (qja _ _) Tryz.call141 fun _ _ cK=>?_
    clear cJ
    refine qac ?_
    refine qcD [⟨bv,0,[.int .i16 v,.int .i32 (IntKind.i32.wrap (T.at_ 0).N),.string (bs (T.at_ 1).S),qaa ((qad (T.at_ 2).S).getD 0 0),qaa ((qad (T.at_ 2).S).getD 1 0),qaa ((qad (T.at_ 2).S).getD 2 0),qaa ((qad (T.at_ 2).S).getD 3 0),qaa ((qad (T.at_ 2).S).getD 4 0),qaa ((qad (T.at_ 2).S).getD 5 0),qaa ((qad (T.at_ 2).S).getD 6 0),qaa ((qad (T.at_ 2).S).getD 7 0),qaa ((qad (T.at_ 2).S).getD 8 0),qaa ((qad (T.at_ 2).S).getD 9 0),qaa ((qad (T.at_ 2).S).getD 10 0),qaa ((qad (T.at_ 2).S).getD 11 0),qaa ((qad (T.at_ 2).S).getD 12 0),qaa ((qad (T.at_ 2).S).getD 13 0),qaa ((qad (T.at_ 2).S).getD 14 0),qaa ((qad (T.at_ 2).S).getD 15 0),.slice none 0 0,.slice none 0 0,.pointer none,.bool false,.slice none 0 0,.int .i64 (-1),.map none],true⟩,qbF am 5 (.agg #[.string ByteArray.empty,.string ByteArray.empty,.int .u16 0,.int .i16 0,.map none]) ((lst (T.at_ 3)).length) (ae + 1),⟨am,ae * 5,[.string (bs (af.at_ 0).S),.string (bs (af.at_ 1).S),.int .u16 (IntKind.u16.wrap (af.at_ 2).N),.int .i16 (IntKind.i16.wrap (af.at_ 3).N),.map none],true⟩] 2 [(2,.v (.bool false)),(7,.p 0 0),(8,.v (.int .i16 v)),(9,.v (.bool (decide (v ≥ 0)))),(10,.p 1 0),(15,.v (.slice (some ⟨am,0,none⟩) ((lst (T.at_ 3)).length) aw)),(16,.v (.int .i32 (((lst (T.at_ 3)).length:Nat):Int))),(17,.v (.int .i32 ((ae:Nat):Int))),(19,.p 3 0)] cK fun _ _ cL=>?_
    clear cK
    refine qac ?_
    have cM:=cL.cast bV
    clear cL
    refine qdm (Mid:=fun a_ w_=>∃ (bJ:Option Nat) (aT:List (Int × Bs)) (P':qca),(∀ w F,P' w F → iv w F ∧ (MapR w F bJ aT ∧ aT.length ≤ 1000000 ∧ ∀ x ∈ aT,x.2.length < 4294967296) ∧ ((decide (v ≥ 0)) = true → aT = af.U) ∧ ((decide (v ≥ 0)) = false → aT = [])) ∧ RS w (fun b o=>b = bv ∧ o < 26) F 272 ba [⟨bv,0,[.int .i16 v,.int .i32 (IntKind.i32.wrap (T.at_ 0).N),.string (bs (T.at_ 1).S),qaa ((qad (T.at_ 2).S).getD 0 0),qaa ((qad (T.at_ 2).S).getD 1 0),qaa ((qad (T.at_ 2).S).getD 2 0),qaa ((qad (T.at_ 2).S).getD 3 0),qaa ((qad (T.at_ 2).S).getD 4 0),qaa ((qad (T.at_ 2).S).getD 5 0),qaa ((qad (T.at_ 2).S).getD 6 0),qaa ((qad (T.at_ 2).S).getD 7 0),qaa ((qad (T.at_ 2).S).getD 8 0),qaa ((qad (T.at_ 2).S).getD 9 0),qaa ((qad (T.at_ 2).S).getD 10 0),qaa ((qad (T.at_ 2).S).getD 11 0),qaa ((qad (T.at_ 2).S).getD 12 0),qaa ((qad (T.at_ 2).S).getD 13 0),qaa ((qad (T.at_ 2).S).getD 14 0),qaa ((qad (T.at_ 2).S).getD 15 0),.slice none 0 0,.slice none 0 0,.pointer none,.bool false,.slice none 0 0,.int .i64 (-1),.map none],true⟩,qbF am 5 (.agg #[.string ByteArray.empty,.string ByteArray.empty,.int .u16 0,.int .i16 0,.map none]) ((lst (T.at_ 3)).length) (ae + 1),⟨am,ae * 5,[.string (bs (af.at_ 0).S),.string (bs (af.at_ 1).S),.int .u16 (IntKind.u16.wrap (af.at_ 2).N),.int .i16 (IntKind.i16.wrap (af.at_ 3).N),.map bJ],true⟩] [(2,.v (.bool false)),(7,.p 0 0),(8,.v (.int .i16 v)),(9,.v (.bool (decide (v ≥ 0)))),(10,.p 1 0),(15,.v (.slice (some ⟨am,0,none⟩) ((lst (T.at_ 3)).length) aw)),(16,.v (.int .i32 (((lst (T.at_ 3)).length:Nat):Int))),(17,.v (.int .i32 ((ae:Nat):Int)))] P' bj a_ w_) ?_ ?_
    ·
     refine wp_seq ?_
     refine qbo [(2,.v (.bool false)),(7,.p 0 0),(8,.v (.int .i16 v)),(9,.v (.bool (decide (v ≥ 0)))),(10,.p 1 0),(15,.v (.slice (some ⟨am,0,none⟩) ((lst (T.at_ 3)).length) aw)),(16,.v (.int .i32 (((lst (T.at_ 3)).length:Nat):Int))),(17,.v (.int .i32 ((ae:Nat):Int))),(19,.p 3 0),(136,.v (.bool (decide (v ≥ 0))))] cM fun _ aE=>qac ?_
     clear cM
     refine qaD aE.env_ (b:=decide (v ≥ 0)) kz (fun aF=>?_) (fun aF=>?_)
     ·
      have cN:=aE.cast (t:=((uv af.U.length) ++ (qcv af.U)) ++ bj) (by rw [if_pos aF])
      clear aE
      refine qaq [0,1,2,3,4] kz ?_
      refine qcV [0] [1,2,3,4] [(2,.v (.bool false)),(7,.p 0 0),(8,.v (.int .i16 v)),(9,.v (.bool (decide (v ≥ 0)))),(10,.p 1 0),(15,.v (.slice (some ⟨am,0,none⟩) ((lst (T.at_ 3)).length) aw)),(16,.v (.int .i32 (((lst (T.at_ 3)).length:Nat):Int))),(17,.v (.int .i32 ((ae:Nat):Int))),(137,.p 3 0)] cN fun _ cO=>?_
      clear cN
      refine qak (qfU (d:=138) cO (qkx af.U e114_U (qeN e114r) _) (fun _=>MvF.tags _ _) Tryz.call156 fun fG iY _ _ cP cQ=>?_)
      clear cO
      refine qcV [2,3] [4] [(2,.v (.bool false)),(7,.p 0 0),(8,.v (.int .i16 v)),(9,.v (.bool (decide (v ≥ 0)))),(10,.p 1 0),(15,.v (.slice (some ⟨am,0,none⟩) ((lst (T.at_ 3)).length) aw)),(16,.v (.int .i32 (((lst (T.at_ 3)).length:Nat):Int))),(17,.v (.int .i32 ((ae:Nat):Int))),(138,.v (.agg #[.map fG])),(140,.p 3 4)] cQ fun _ cR=>?_
      clear cQ
      refine qak (qdQ [⟨bv,0,[.int .i16 v,.int .i32 (IntKind.i32.wrap (T.at_ 0).N),.string (bs (T.at_ 1).S),qaa ((qad (T.at_ 2).S).getD 0 0),qaa ((qad (T.at_ 2).S).getD 1 0),qaa ((qad (T.at_ 2).S).getD 2 0),qaa ((qad (T.at_ 2).S).getD 3 0),qaa ((qad (T.at_ 2).S).getD 4 0),qaa ((qad (T.at_ 2).S).getD 5 0),qaa ((qad (T.at_ 2).S).getD 6 0),qaa ((qad (T.at_ 2).S).getD 7 0),qaa ((qad (T.at_ 2).S).getD 8 0),qaa ((qad (T.at_ 2).S).getD 9 0),qaa ((qad (T.at_ 2).S).getD 10 0),qaa ((qad (T.at_ 2).S).getD 11 0),qaa ((qad (T.at_ 2).S).getD 12 0),qaa ((qad (T.at_ 2).S).getD 13 0),qaa ((qad (T.at_ 2).S).getD 14 0),qaa ((qad (T.at_ 2).S).getD 15 0),.slice none 0 0,.slice none 0 0,.pointer none,.bool false,.slice none 0 0,.int .i64 (-1),.map none],true⟩,qbF am 5 (.agg #[.string ByteArray.empty,.string ByteArray.empty,.int .u16 0,.int .i16 0,.map none]) ((lst (T.at_ 3)).length) (ae + 1),⟨am,ae * 5,[.string (bs (af.at_ 0).S),.string (bs (af.at_ 1).S),.int .u16 (IntKind.u16.wrap (af.at_ 2).N),.int .i16 (IntKind.i16.wrap (af.at_ 3).N),.map fG],true⟩] 2 cR fun _ cS=>?_)
      clear cR
      refine qah ?_
      have gG:=cS.pk (env':=[(2,.v (.bool false)),(7,.p 0 0),(8,.v (.int .i16 v)),(9,.v (.bool (decide (v ≥ 0)))),(10,.p 1 0),(15,.v (.slice (some ⟨am,0,none⟩) ((lst (T.at_ 3)).length) aw)),(16,.v (.int .i32 (((lst (T.at_ 3)).length:Nat):Int))),(17,.v (.int .i32 ((ae:Nat):Int)))])
      clear cS
      refine qac ?_
      exact ⟨fG,af.U,_,fun w F h_=>⟨(cP _ _ h_).1,⟨(cP _ _ h_).2,e114_U.2.1,e114_U.2.2⟩,⟨fun _=>rfl,(fun e_=>by rw [aF] at e_; cases e_)⟩⟩,gG.pk (env':=[(2,.v (.bool false)),(7,.p 0 0),(8,.v (.int .i16 v)),(9,.v (.bool (decide (v ≥ 0)))),(10,.p 1 0),(15,.v (.slice (some ⟨am,0,none⟩) ((lst (T.at_ 3)).length) aw)),(16,.v (.int .i32 (((lst (T.at_ 3)).length:Nat):Int))),(17,.v (.int .i32 ((ae:Nat):Int)))])⟩
     have cT:=aE.cast (t:=[] ++ bj) (by rw [if_neg (by rw [aF]; decide)])
     clear aE
     have gH:=cT.cast (t:=bj) rfl
     clear cT
     refine wp_skip (qac ?_)
     exact ⟨none,[],_,fun w F h_=>⟨h_,⟨MapR.nil _ _,Nat.zero_le _,fun _ h=>by cases h⟩,⟨(fun e_=>by rw [aF] at e_; cases e_),fun _=>rfl⟩⟩,gH.pk (env':=[(2,.v (.bool false)),(7,.p 0 0),(8,.v (.int .i16 v)),(9,.v (.bool (decide (v ≥ 0)))),(10,.p 1 0),(15,.v (.slice (some ⟨am,0,none⟩) ((lst (T.at_ 3)).length) aw)),(16,.v (.int .i32 (((lst (T.at_ 3)).length:Nat):Int))),(17,.v (.int .i32 ((ae:Nat):Int)))])⟩
    rintro _ _ ⟨bJ,aT,iZ,aB,cU⟩
    refine qax ?_
    refine qac ?_
    refine qbo [(2,.v (.bool false)),(7,.p 0 0),(8,.v (.int .i16 v)),(9,.v (.bool (decide (v ≥ 0)))),(10,.p 1 0),(15,.v (.slice (some ⟨am,0,none⟩) ((lst (T.at_ 3)).length) aw)),(16,.v (.int .i32 (((lst (T.at_ 3)).length:Nat):Int))),(17,.v (.int .i32 (IntKind.i32.wrap (((ae:Nat):Int) + 1))))] cU fun _ cV=>?_
    clear cU
    refine qac ?_
    have gI:=(cV.envEq (env':=[(2,.v (.bool false)),(7,.p 0 0),(8,.v (.int .i16 v)),(9,.v (.bool (decide (v ≥ 0)))),(10,.p 1 0),(15,.v (.slice (some ⟨am,0,none⟩) ((lst (T.at_ 3)).length) aw)),(16,.v (.int .i32 (((lst (T.at_ 3)).length:Nat):Int))),(17,.v (.int .i32 ((ae + 1:Nat):Int)))]) (by rw [qfX (by have:=e32_3; omega)])).pk (env':=[(2,.v (.bool false)),(7,.p 0 0),(8,.v (.int .i16 v)),(9,.v (.bool (decide (v ≥ 0)))),(10,.p 1 0),(15,.v (.slice (some ⟨am,0,none⟩) ((lst (T.at_ 3)).length) aw)),(16,.v (.int .i32 (((lst (T.at_ 3)).length:Nat):Int))),(17,.v (.int .i32 ((ae + 1:Nat):Int)))])
    clear cV
    exact (RS.thing (tb:=[⟨bv,0,[.int .i16 v,.int .i32 (IntKind.i32.wrap (T.at_ 0).N),.string (bs (T.at_ 1).S),qaa ((qad (T.at_ 2).S).getD 0 0),qaa ((qad (T.at_ 2).S).getD 1 0),qaa ((qad (T.at_ 2).S).getD 2 0),qaa ((qad (T.at_ 2).S).getD 3 0),qaa ((qad (T.at_ 2).S).getD 4 0),qaa ((qad (T.at_ 2).S).getD 5 0),qaa ((qad (T.at_ 2).S).getD 6 0),qaa ((qad (T.at_ 2).S).getD 7 0),qaa ((qad (T.at_ 2).S).getD 8 0),qaa ((qad (T.at_ 2).S).getD 9 0),qaa ((qad (T.at_ 2).S).getD 10 0),qaa ((qad (T.at_ 2).S).getD 11 0),qaa ((qad (T.at_ 2).S).getD 12 0),qaa ((qad (T.at_ 2).S).getD 13 0),qaa ((qad (T.at_ 2).S).getD 14 0),qaa ((qad (T.at_ 2).S).getD 15 0),.slice none 0 0,.slice none 0 0,.pointer none,.bool false,.slice none 0 0,.int .i64 (-1),.map none],true⟩]) (z:=.agg #[.string ByteArray.empty,.string ByteArray.empty,.int .u16 0,.int .i16 0,.map none]) (D:=(dvP bJ aT [dvS (bs (af.at_ 0).S),dvS (bs (af.at_ 1).S),dvN (IntKind.u16.wrap (af.at_ 2).N),dvN (IntKind.i16.wrap (af.at_ 3).N)])) (gI.cast bU) hg_g95 bi qaT bh rfl (fun w F h_=>⟨(bS _ _ (aB _ _ h_).1).1,(bS _ _ (aB _ _ h_).1).2,⟨(by show ByteArray.size (bs _) ≤ 1000000; rw [qe6]; exact Nat.le_trans e114_0 (by decide)),(by show ByteArray.size (bs _) ≤ 1000000; rw [qe6]; exact Nat.le_trans e114_1 (by decide)),(trivial),(trivial),(aB _ _ h_).2.1.1,(aB _ _ h_).2.1.2.1,(aB _ _ h_).2.1.2.2,trivial⟩,⟨(rfl),(rfl),(rfl),(rfl),(aB _ _ h_).2.2,trivial⟩⟩) kz)
   refine wp_seq ?_
   refine wp_seq ?_
   refine qbo [(2,.v (.bool false)),(7,.p 0 0),(8,.v (.int .i16 v)),(9,.v (.bool (decide (v ≥ 0)))),(10,.p 1 0),(15,.v (.slice (some ⟨am,0,none⟩) ((lst (T.at_ 3)).length) aw)),(16,.v (.int .i32 (((lst (T.at_ 3)).length:Nat):Int))),(17,.v (.int .i32 (((lst (T.at_ 3)).length:Nat):Int))),(95,.v (.bool (decide ((((lst (T.at_ 3)).length:Nat):Int) < (((lst (T.at_ 3)).length:Nat):Int)))))] bR fun _ cW=>qac ?_
   clear bR
   refine qau cW.env_ (b:=decide ((((lst (T.at_ 3)).length:Nat):Int) < (((lst (T.at_ 3)).length:Nat):Int))) kz (decide_eq_false (by omega)) ?_
   refine wp_exit ?_
   refine qaw ?_
   refine qaw ?_
   refine qaP ?_
   refine qac ?_
   obtain ⟨iB,gJ⟩:=RS.listEnd (tb:=[⟨bv,0,[.int .i16 v,.int .i32 (IntKind.i32.wrap (T.at_ 0).N),.string (bs (T.at_ 1).S),qaa ((qad (T.at_ 2).S).getD 0 0),qaa ((qad (T.at_ 2).S).getD 1 0),qaa ((qad (T.at_ 2).S).getD 2 0),qaa ((qad (T.at_ 2).S).getD 3 0),qaa ((qad (T.at_ 2).S).getD 4 0),qaa ((qad (T.at_ 2).S).getD 5 0),qaa ((qad (T.at_ 2).S).getD 6 0),qaa ((qad (T.at_ 2).S).getD 7 0),qaa ((qad (T.at_ 2).S).getD 8 0),qaa ((qad (T.at_ 2).S).getD 9 0),qaa ((qad (T.at_ 2).S).getD 10 0),qaa ((qad (T.at_ 2).S).getD 11 0),qaa ((qad (T.at_ 2).S).getD 12 0),qaa ((qad (T.at_ 2).S).getD 13 0),qaa ((qad (T.at_ 2).S).getD 14 0),qaa ((qad (T.at_ 2).S).getD 15 0),.slice none 0 0,.slice none 0 0,.pointer none,.bool false,.slice none 0 0,.int .i64 (-1),.map none],true⟩]) (c:=aw) (cW.pk (env':=[(2,.v (.bool false)),(7,.p 0 0),(8,.v (.int .i16 v)),(9,.v (.bool (decide (v ≥ 0)))),(10,.p 1 0),(15,.v (.slice (some ⟨am,0,none⟩) ((lst (T.at_ 3)).length) aw))])) hg_g95 qaT bh hcap_g95 (by have:=e32_3; omega) hn_g95 kz
   exact ⟨dvL (some ⟨am,0,none⟩) (lst (T.at_ 3)).length aw iB,_,fun w F h_=>⟨h_.1,⟨h_.2.1,Nat.le_trans e32_3 (by decide),h_.2.2.1⟩,⟨rfl,h_.2.2.2⟩⟩,gJ⟩
  refine wp_skip ?_
  refine qac ?_
  refine wp_seq ?_
  refine qbo [(2,.v (.bool false)),(7,.p 0 0),(8,.v (.int .i16 v)),(9,.v (.bool (decide (v ≥ 0)))),(10,.p 1 0),(15,.v (.slice none 0 0)),(16,.v (.int .i32 (((lst (T.at_ 3)).length:Nat):Int))),(17,.v (.int .i32 0))] bf fun _ cX=>?_
  clear bf
  refine qac ?_
  refine wp_block ?_
  refine qeP ?_
  refine wp_seq ?_
  refine wp_seq ?_
  refine qbo [(2,.v (.bool false)),(7,.p 0 0),(8,.v (.int .i16 v)),(9,.v (.bool (decide (v ≥ 0)))),(10,.p 1 0),(15,.v (.slice none 0 0)),(16,.v (.int .i32 (((lst (T.at_ 3)).length:Nat):Int))),(17,.v (.int .i32 0)),(95,.v (.bool (decide (0 < (((lst (T.at_ 3)).length:Nat):Int)))))] cX fun _ cY=>qac ?_
  clear cX
  refine qau cY.env_ (b:=decide (0 < (((lst (T.at_ 3)).length:Nat):Int))) kz (decide_eq_false (by have h_:=of_decide_eq_false bI; omega)) ?_
  refine wp_exit ?_
  refine qaw ?_
  refine qaw ?_
  refine qaP ?_
  refine qac ?_
  have hz_:(lst (T.at_ 3)).length = 0:=by have h_:=of_decide_eq_false bI; omega
  exact ⟨dvL none 0 0 (fun _=>dv0),_,fun w F h_=>⟨h_,⟨Slots.nil _ _ _ _,Nat.zero_le _,fun _ h=>absurd h (Nat.not_lt_zero _)⟩,⟨hz_.symm,fun _ h=>absurd h (Nat.not_lt_zero _)⟩⟩,(cY.cast (t:=bP) (by rw [List.eq_nil_of_length_eq_zero hz_]; rfl)).pk (env':=[(2,.v (.bool false)),(7,.p 0 0),(8,.v (.int .i16 v)),(9,.v (.bool (decide (v ≥ 0)))),(10,.p 1 0),(15,.v (.slice none 0 0))])⟩
 rintro _ _ ⟨ac,iO,gK,gL⟩
 refine wp_seq ?_
 refine qbo [(2,.v (.bool false)),(7,.p 0 0),(8,.v (.int .i16 v)),(9,.v (.bool (decide (v ≥ 0)))),(10,.p 1 0),(14,.v (.slice ac.A ac.l ac.c))] gL fun _ cZ=>?_
 clear gL
 refine qac ?_
 refine qcD [⟨bv,0,[.int .i16 v,.int .i32 (IntKind.i32.wrap (T.at_ 0).N),.string (bs (T.at_ 1).S),qaa ((qad (T.at_ 2).S).getD 0 0),qaa ((qad (T.at_ 2).S).getD 1 0),qaa ((qad (T.at_ 2).S).getD 2 0),qaa ((qad (T.at_ 2).S).getD 3 0),qaa ((qad (T.at_ 2).S).getD 4 0),qaa ((qad (T.at_ 2).S).getD 5 0),qaa ((qad (T.at_ 2).S).getD 6 0),qaa ((qad (T.at_ 2).S).getD 7 0),qaa ((qad (T.at_ 2).S).getD 8 0),qaa ((qad (T.at_ 2).S).getD 9 0),qaa ((qad (T.at_ 2).S).getD 10 0),qaa ((qad (T.at_ 2).S).getD 11 0),qaa ((qad (T.at_ 2).S).getD 12 0),qaa ((qad (T.at_ 2).S).getD 13 0),qaa ((qad (T.at_ 2).S).getD 14 0),qaa ((qad (T.at_ 2).S).getD 15 0),.slice ac.A ac.l ac.c,.slice none 0 0,.pointer none,.bool false,.slice none 0 0,.int .i64 (-1),.map none],true⟩] 0 [(2,.v (.bool false)),(7,.p 0 0),(8,.v (.int .i16 v)),(9,.v (.bool (decide (v ≥ 0)))),(10,.p 1 0)] cZ fun _ _ c5=>?_
 clear cZ
 refine qac ?_
 refine wp_seq ?_
 refine wp_seq ?_
 refine qbo [(2,.v (.bool false)),(7,.p 0 0),(8,.v (.int .i16 v)),(9,.v (.bool (decide (v ≥ 0)))),(10,.p 1 0),(24,.v (.slice none 0 0))] c5 fun _ c6=>?_
 clear c5
 refine qac ?_
 refine wp_seq ?_
 refine qbo [(2,.v (.bool false)),(7,.p 0 0),(8,.v (.int .i16 v)),(9,.v (.bool (decide (v ≥ 0)))),(10,.p 1 0),(25,.v (.slice none 0 0))] c6 fun _ da=>?_
 clear c6
 refine qac ?_
 refine wp_seq ?_
 refine qbo [(2,.v (.bool false)),(7,.p 0 0),(8,.v (.int .i16 v)),(9,.v (.bool (decide (v ≥ 0)))),(10,.p 1 0),(25,.v (.slice none 0 0))] da fun _ db=>?_
 clear da
 refine qac ?_
 refine wp_seq ?_
 have dc:=db.cast fS
 clear db
 have de:=dc.cast (t:=(if (decide (v ≥ 0)) = true then (uv ((lst (T.at_ 4)).length + 1)) else (be 4 (lst (T.at_ 4)).length)) ++ (((lst (T.at_ 4)).flatMap (qaG v)) ++ bO)) (by rw [List.append_assoc])
 clear dc
 refine qd9 (d1:=152) (d2:=153) [(2,.v (.bool false)),(7,.p 0 0),(8,.v (.int .i16 v)),(9,.v (.bool (decide (v ≥ 0)))),(10,.p 1 0),(25,.v (.slice none 0 0)),(151,.v (.bool (decide (v ≥ 0))))] [(2,.v (.bool false)),(7,.p 0 0),(8,.v (.int .i16 v)),(9,.v (.bool (decide (v ≥ 0)))),(10,.p 1 0),(25,.v (.slice none 0 0)),(26,.v (.int .i32 (((lst (T.at_ 4)).length:Nat):Int)))] de (qcB ((lst (T.at_ 4)).length) e32_4 _ (flat_ge' (qbD v) _)) Tryz.call146 (qfe ((lst (T.at_ 4)).length) e32_4 _ (flat_ge' (qbD v) _)) Tryz.call147 fun _ _ dg=>?_
 clear de
 refine qac ?_
 refine wp_seq ?_
 refine wp_seq ?_
 refine qkv (d:=154) [(2,.v (.bool false)),(7,.p 0 0),(8,.v (.int .i16 v)),(9,.v (.bool (decide (v ≥ 0)))),(10,.p 1 0),(25,.v (.slice none 0 0)),(26,.v (.int .i32 (((lst (T.at_ 4)).length:Nat):Int))),(155,.v (.bool false))] dg (pOk _) Tryz.call148 fun _ _ bp=>?_
 clear dg
 refine qac ?_
 refine qau bp.env_ (b:=false) kz (rfl) ?_
 refine wp_skip ?_
 refine qac ?_
 refine wp_seq ?_
 refine qg5 (t:=131) (e:=142) (size:=4) (bytes:=32) (d:=158) (A0:=none) (m:=0) (cp:=0) [(2,.v (.bool false)),(7,.p 0 0),(8,.v (.int .i16 v)),(9,.v (.bool (decide (v ≥ 0)))),(10,.p 1 0),(26,.v (.int .i32 (((lst (T.at_ 4)).length:Nat):Int))),(157,.v (.slice none 0 0))] [(2,.v (.bool false)),(7,.p 0 0),(8,.v (.int .i16 v)),(9,.v (.bool (decide (v ≥ 0)))),(10,.p 1 0),(25,.v (.slice none 0 0)),(26,.v (.int .i32 (((lst (T.at_ 4)).length:Nat):Int)))] 1 bp fun _ dh=>?_
 clear bp
 refine qac ?_
 refine qfW (Mid:=fun a_ w_=>∃ (aa:DV) (P':qca),(∀ w F,P' w F → iO w F ∧ (Slots w F 4 aa.A aa.c aa.l (fun i=>[.string (((aa.f i).f 0).s),.int .i16 (((aa.f i).f 1).n),.int .i16 (((aa.f i).f 2).n),.map ((aa.f i).m)]) ∧ aa.l ≤ 1000000 ∧ ∀ i,i < aa.l → qaQ w F (aa.f i)) ∧ (aa.l = (lst (T.at_ 4)).length ∧ ∀ i,i < aa.l → qbf v (aa.f i) ((lst (T.at_ 4)).getD i .zero))) ∧ RS w (fun b o=>b = bv ∧ o < 26) F 272 ba [⟨bv,0,[.int .i16 v,.int .i32 (IntKind.i32.wrap (T.at_ 0).N),.string (bs (T.at_ 1).S),qaa ((qad (T.at_ 2).S).getD 0 0),qaa ((qad (T.at_ 2).S).getD 1 0),qaa ((qad (T.at_ 2).S).getD 2 0),qaa ((qad (T.at_ 2).S).getD 3 0),qaa ((qad (T.at_ 2).S).getD 4 0),qaa ((qad (T.at_ 2).S).getD 5 0),qaa ((qad (T.at_ 2).S).getD 6 0),qaa ((qad (T.at_ 2).S).getD 7 0),qaa ((qad (T.at_ 2).S).getD 8 0),qaa ((qad (T.at_ 2).S).getD 9 0),qaa ((qad (T.at_ 2).S).getD 10 0),qaa ((qad (T.at_ 2).S).getD 11 0),qaa ((qad (T.at_ 2).S).getD 12 0),qaa ((qad (T.at_ 2).S).getD 13 0),qaa ((qad (T.at_ 2).S).getD 14 0),qaa ((qad (T.at_ 2).S).getD 15 0),.slice ac.A ac.l ac.c,.slice none 0 0,.pointer none,.bool false,.slice none 0 0,.int .i64 (-1),.map none],true⟩] [(2,.v (.bool false)),(7,.p 0 0),(8,.v (.int .i16 v)),(9,.v (.bool (decide (v ≥ 0)))),(10,.p 1 0),(25,.v (.slice aa.A aa.l aa.c))] P' bO a_ w_) ?_ ?_
 ·
  refine wp_seq ?_
  refine qbo [(2,.v (.bool false)),(7,.p 0 0),(8,.v (.int .i16 v)),(9,.v (.bool (decide (v ≥ 0)))),(10,.p 1 0),(25,.v (.slice none 0 0)),(26,.v (.int .i32 (((lst (T.at_ 4)).length:Nat):Int))),(160,.v (.bool (decide ((((lst (T.at_ 4)).length:Nat):Int) > 0))))] dh fun _ aG=>qac ?_
  clear dh
  refine qaD aG.env_ (b:=decide ((((lst (T.at_ 4)).length:Nat):Int) > 0)) kz (fun aX=>?_) (fun aX=>?_)
  ·
   have hn_g198:0 < (lst (T.at_ 4)).length:=by have h_:=of_decide_eq_true aX; omega
   refine qaq [0,1,2,3] kz ?_
   refine qcV [0,1] [2,3] [(2,.v (.bool false)),(7,.p 0 0),(8,.v (.int .i16 v)),(9,.v (.bool (decide (v ≥ 0)))),(10,.p 1 0),(26,.v (.int .i32 (((lst (T.at_ 4)).length:Nat):Int))),(161,.v (.slice none 0 0)),(162,.v (.int .i32 (((lst (T.at_ 4)).length:Nat):Int)))] aG fun _ di=>?_
   clear aG
   refine qak (qex (A0:=none) (d:=163) (t:=131) (tn:=21) (e:=142) (size:=4) (bytes:=32) (k:=.i32) (kn:=.i32) (q:=(((lst (T.at_ 4)).length:Nat):Int)) (j:=(lst (T.at_ 4)).length) (.agg #[.string ByteArray.empty,.int .i16 0,.int .i16 0,.map none]) di (fun ag al _ _ hg_g198 hcap_g198 dj=>?_) rfl hn_g198 (by have:=e32_4; omega))
   clear di
   refine qcV [3] [] [(2,.v (.bool false)),(7,.p 0 0),(8,.v (.int .i16 v)),(9,.v (.bool (decide (v ≥ 0)))),(10,.p 1 0),(25,.v (.slice (some ⟨ag,0,none⟩) ((lst (T.at_ 4)).length) al)),(26,.v (.int .i32 (((lst (T.at_ 4)).length:Nat):Int)))] dj fun _ dl=>qah ?_
   clear dj
   refine qac ?_
   refine wp_seq ?_
   refine qbo [(2,.v (.bool false)),(7,.p 0 0),(8,.v (.int .i16 v)),(9,.v (.bool (decide (v ≥ 0)))),(10,.p 1 0),(25,.v (.slice (some ⟨ag,0,none⟩) ((lst (T.at_ 4)).length) al)),(26,.v (.int .i32 (((lst (T.at_ 4)).length:Nat):Int))),(27,.v (.int .i32 0))] dl fun _ bq=>?_
   clear dl
   refine qac ?_
   refine wp_block ?_
   have bt:=bq.mv
   have gM:=(bq.cast (t:=(lst (T.at_ 4)).flatMap (qaG v) ++ bO) rfl).pk (env':=[(2,.v (.bool false)),(7,.p 0 0),(8,.v (.int .i16 v)),(9,.v (.bool (decide (v ≥ 0)))),(10,.p 1 0),(25,.v (.slice (some ⟨ag,0,none⟩) ((lst (T.at_ 4)).length) al)),(26,.v (.int .i32 (((lst (T.at_ 4)).length:Nat):Int))),(27,.v (.int .i32 ((0:Nat):Int)))])
   clear bq
   refine qg4 (tb:=[⟨bv,0,[.int .i16 v,.int .i32 (IntKind.i32.wrap (T.at_ 0).N),.string (bs (T.at_ 1).S),qaa ((qad (T.at_ 2).S).getD 0 0),qaa ((qad (T.at_ 2).S).getD 1 0),qaa ((qad (T.at_ 2).S).getD 2 0),qaa ((qad (T.at_ 2).S).getD 3 0),qaa ((qad (T.at_ 2).S).getD 4 0),qaa ((qad (T.at_ 2).S).getD 5 0),qaa ((qad (T.at_ 2).S).getD 6 0),qaa ((qad (T.at_ 2).S).getD 7 0),qaa ((qad (T.at_ 2).S).getD 8 0),qaa ((qad (T.at_ 2).S).getD 9 0),qaa ((qad (T.at_ 2).S).getD 10 0),qaa ((qad (T.at_ 2).S).getD 11 0),qaa ((qad (T.at_ 2).S).getD 12 0),qaa ((qad (T.at_ 2).S).getD 13 0),qaa ((qad (T.at_ 2).S).getD 14 0),qaa ((qad (T.at_ 2).S).getD 15 0),.slice ac.A ac.l ac.c,.slice none 0 0,.pointer none,.bool false,.slice none 0 0,.int .i64 (-1),.map none],true⟩]) (z:=.agg #[.string ByteArray.empty,.int .i16 0,.int .i16 0,.map none]) (cl:=qbG) (ok:=qaQ) (rel:=(qbf v)) (L:=lst (T.at_ 4)) (size:=4) (qaG v) bO (fun k=>[(2,.v (.bool false)),(7,.p 0 0),(8,.v (.int .i16 v)),(9,.v (.bool (decide (v ≥ 0)))),(10,.p 1 0),(25,.v (.slice (some ⟨ag,0,none⟩) ((lst (T.at_ 4)).length) al)),(26,.v (.int .i32 (((lst (T.at_ 4)).length:Nat):Int))),(27,.v (.int .i32 ((k:Nat):Int)))]) gM qaW (fun ah aj _ _ bu gN dp=>?_) (fun _ _ dq=>?_)
   ·
    obtain ⟨iC,dr,dt⟩:∃ P',(∀ w F,P' w F → (iO w F ∧ qfb ag 4 qbG qaQ (qbf v) (lst (T.at_ 4)) ah w F)) ∧ RS w (fun b o=>b = bv ∧ o < 26) F 272 ba [⟨bv,0,[.int .i16 v,.int .i32 (IntKind.i32.wrap (T.at_ 0).N),.string (bs (T.at_ 1).S),qaa ((qad (T.at_ 2).S).getD 0 0),qaa ((qad (T.at_ 2).S).getD 1 0),qaa ((qad (T.at_ 2).S).getD 2 0),qaa ((qad (T.at_ 2).S).getD 3 0),qaa ((qad (T.at_ 2).S).getD 4 0),qaa ((qad (T.at_ 2).S).getD 5 0),qaa ((qad (T.at_ 2).S).getD 6 0),qaa ((qad (T.at_ 2).S).getD 7 0),qaa ((qad (T.at_ 2).S).getD 8 0),qaa ((qad (T.at_ 2).S).getD 9 0),qaa ((qad (T.at_ 2).S).getD 10 0),qaa ((qad (T.at_ 2).S).getD 11 0),qaa ((qad (T.at_ 2).S).getD 12 0),qaa ((qad (T.at_ 2).S).getD 13 0),qaa ((qad (T.at_ 2).S).getD 14 0),qaa ((qad (T.at_ 2).S).getD 15 0),.slice ac.A ac.l ac.c,.slice none 0 0,.pointer none,.bool false,.slice none 0 0,.int .i64 (-1),.map none],true⟩,qbF ag 4 (.agg #[.string ByteArray.empty,.int .i16 0,.int .i16 0,.map none]) ((lst (T.at_ 4)).length) ah] [(2,.v (.bool false)),(7,.p 0 0),(8,.v (.int .i16 v)),(9,.v (.bool (decide (v ≥ 0)))),(10,.p 1 0),(25,.v (.slice (some ⟨ag,0,none⟩) ((lst (T.at_ 4)).length) al)),(26,.v (.int .i32 (((lst (T.at_ 4)).length:Nat):Int))),(27,.v (.int .i32 ((ah:Nat):Int)))] P' ((qaG v) aj ++ (((lst (T.at_ 4)).drop (ah + 1)).flatMap (qaG v) ++ bO)) _ _:=⟨_,fun _ _ h=>h,dp⟩
    clear dp
    obtain ⟨bw,du⟩:∃ R,R = ((lst (T.at_ 4)).drop (ah + 1)).flatMap (qaG v) ++ bO:=⟨_,rfl⟩
    have gO:=(e32_4e aj (List.mem_of_getElem? bu))
    have e217r:=(qfy (qe9 e32r 4) aj (List.mem_of_getElem? bu))
    unfold qbc at gO
    obtain ⟨e217_0,e217_1,e217_2,e217_U,_⟩:=gO
    obtain ⟨iD,dv⟩:∃ R,R = (if (decide (v ≥ 0)) = true then (uv aj.U.length) ++ (qcv aj.U) else []) ++ bw:=⟨_,rfl⟩
    obtain ⟨iE,dw⟩:∃ R,R = (be 2 ((IntKind.i16.wrap (aj.at_ 2).N))) ++ iD:=⟨_,rfl⟩
    obtain ⟨iF,dx⟩:∃ R,R = (be 2 ((IntKind.i16.wrap (aj.at_ 1).N))) ++ iE:=⟨_,rfl⟩
    obtain ⟨iG,dy⟩:∃ R,R = (if (decide (v ≥ 0)) = true then (uv ((aj.at_ 0).S.length + 1) ++ (aj.at_ 0).S) else (be 2 (aj.at_ 0).S.length ++ (aj.at_ 0).S)) ++ iF:=⟨_,rfl⟩
    have dz:=dt.cast (t:=iG) (by rw [dy,dx,dw,dv,← du]; unfold qaG; simp only [List.append_assoc])
    clear dt
    refine wp_seq ?_
    refine wp_seq ?_
    refine qbo [(2,.v (.bool false)),(7,.p 0 0),(8,.v (.int .i16 v)),(9,.v (.bool (decide (v ≥ 0)))),(10,.p 1 0),(25,.v (.slice (some ⟨ag,0,none⟩) ((lst (T.at_ 4)).length) al)),(26,.v (.int .i32 (((lst (T.at_ 4)).length:Nat):Int))),(27,.v (.int .i32 ((ah:Nat):Int))),(166,.v (.bool (decide (((ah:Nat):Int) < (((lst (T.at_ 4)).length:Nat):Int)))))] dz fun _ bx=>qac ?_
    clear dz
    refine qbk bx.env_ (b:=decide (((ah:Nat):Int) < (((lst (T.at_ 4)).length:Nat):Int))) kz (decide_eq_true (by omega)) ?_
    refine wp_skip ?_
    refine qac ?_
    refine wp_seq ?_
    refine wp_block ?_
    refine wp_seq ?_
    refine qi9 (t:=131) (e:=142) (size:=4) (bytes:=32) (d:=171) (tb:=[⟨bv,0,[.int .i16 v,.int .i32 (IntKind.i32.wrap (T.at_ 0).N),.string (bs (T.at_ 1).S),qaa ((qad (T.at_ 2).S).getD 0 0),qaa ((qad (T.at_ 2).S).getD 1 0),qaa ((qad (T.at_ 2).S).getD 2 0),qaa ((qad (T.at_ 2).S).getD 3 0),qaa ((qad (T.at_ 2).S).getD 4 0),qaa ((qad (T.at_ 2).S).getD 5 0),qaa ((qad (T.at_ 2).S).getD 6 0),qaa ((qad (T.at_ 2).S).getD 7 0),qaa ((qad (T.at_ 2).S).getD 8 0),qaa ((qad (T.at_ 2).S).getD 9 0),qaa ((qad (T.at_ 2).S).getD 10 0),qaa ((qad (T.at_ 2).S).getD 11 0),qaa ((qad (T.at_ 2).S).getD 12 0),qaa ((qad (T.at_ 2).S).getD 13 0),qaa ((qad (T.at_ 2).S).getD 14 0),qaa ((qad (T.at_ 2).S).getD 15 0),.slice ac.A ac.l ac.c,.slice none 0 0,.pointer none,.bool false,.slice none 0 0,.int .i64 (-1),.map none],true⟩]) (z:=.agg #[.string ByteArray.empty,.int .i16 0,.int .i16 0,.map none]) [(2,.v (.bool false)),(7,.p 0 0),(8,.v (.int .i16 v)),(9,.v (.bool (decide (v ≥ 0)))),(10,.p 1 0),(25,.v (.slice (some ⟨ag,0,none⟩) ((lst (T.at_ 4)).length) al)),(26,.v (.int .i32 (((lst (T.at_ 4)).length:Nat):Int))),(27,.v (.int .i32 ((ah:Nat):Int))),(169,.v (.slice (some ⟨ag,0,none⟩) ((lst (T.at_ 4)).length) al)),(170,.v (.int .i32 ((ah:Nat):Int)))] [(2,.v (.bool false)),(7,.p 0 0),(8,.v (.int .i16 v)),(9,.v (.bool (decide (v ≥ 0)))),(10,.p 1 0),(25,.v (.slice (some ⟨ag,0,none⟩) ((lst (T.at_ 4)).length) al)),(26,.v (.int .i32 (((lst (T.at_ 4)).length:Nat):Int))),(27,.v (.int .i32 ((ah:Nat):Int))),(28,.p 3 0)] 2 bx gN rfl kz fun _ dA=>?_
    clear bx
    have dB:=dA.tbEq (tb':=[⟨bv,0,[.int .i16 v,.int .i32 (IntKind.i32.wrap (T.at_ 0).N),.string (bs (T.at_ 1).S),qaa ((qad (T.at_ 2).S).getD 0 0),qaa ((qad (T.at_ 2).S).getD 1 0),qaa ((qad (T.at_ 2).S).getD 2 0),qaa ((qad (T.at_ 2).S).getD 3 0),qaa ((qad (T.at_ 2).S).getD 4 0),qaa ((qad (T.at_ 2).S).getD 5 0),qaa ((qad (T.at_ 2).S).getD 6 0),qaa ((qad (T.at_ 2).S).getD 7 0),qaa ((qad (T.at_ 2).S).getD 8 0),qaa ((qad (T.at_ 2).S).getD 9 0),qaa ((qad (T.at_ 2).S).getD 10 0),qaa ((qad (T.at_ 2).S).getD 11 0),qaa ((qad (T.at_ 2).S).getD 12 0),qaa ((qad (T.at_ 2).S).getD 13 0),qaa ((qad (T.at_ 2).S).getD 14 0),qaa ((qad (T.at_ 2).S).getD 15 0),.slice ac.A ac.l ac.c,.slice none 0 0,.pointer none,.bool false,.slice none 0 0,.int .i64 (-1),.map none],true⟩,qbF ag 4 (.agg #[.string ByteArray.empty,.int .i16 0,.int .i16 0,.map none]) ((lst (T.at_ 4)).length) (ah + 1),⟨ag,ah * 4,[.string ByteArray.empty,.int .i16 0,.int .i16 0,.map none],true⟩]) rfl
    clear dA
    refine qac ?_
    refine wp_seq ?_
    refine qaq [0,1] kz ?_
    refine qcV [0] [1] [(2,.v (.bool false)),(7,.p 0 0),(8,.v (.int .i16 v)),(9,.v (.bool (decide (v ≥ 0)))),(10,.p 1 0),(25,.v (.slice (some ⟨ag,0,none⟩) ((lst (T.at_ 4)).length) al)),(26,.v (.int .i32 (((lst (T.at_ 4)).length:Nat):Int))),(27,.v (.int .i32 ((ah:Nat):Int))),(28,.p 3 0),(172,.p 3 0)] dB fun _ dC=>?_
    clear dB
    refine qak (qj2 (d:=173) (vs:=[.pointer (some ⟨ag,ah * 4,none⟩)]) dC (fun _=>qk9 _ _ _) Tryz.call174 fun _ dD=>?_)
    clear dC
    refine qah ?_
    have dE:=dD.pk (env':=[(2,.v (.bool false)),(7,.p 0 0),(8,.v (.int .i16 v)),(9,.v (.bool (decide (v ≥ 0)))),(10,.p 1 0),(25,.v (.slice (some ⟨ag,0,none⟩) ((lst (T.at_ 4)).length) al)),(26,.v (.int .i32 (((lst (T.at_ 4)).length:Nat):Int))),(27,.v (.int .i32 ((ah:Nat):Int))),(28,.p 3 0)])
    clear dD
    refine qac ?_
    refine wp_seq ?_
    refine qbo [(2,.v (.bool false)),(7,.p 0 0),(8,.v (.int .i16 v)),(9,.v (.bool (decide (v ≥ 0)))),(10,.p 1 0),(25,.v (.slice (some ⟨ag,0,none⟩) ((lst (T.at_ 4)).length) al)),(26,.v (.int .i32 (((lst (T.at_ 4)).length:Nat):Int))),(27,.v (.int .i32 ((ah:Nat):Int))),(29,.p 3 0)] dE fun _ dF=>?_
    clear dE
    refine qac ?_
    refine wp_seq ?_
    refine wp_seq ?_
    refine qbo [(2,.v (.bool false)),(7,.p 0 0),(8,.v (.int .i16 v)),(9,.v (.bool (decide (v ≥ 0)))),(10,.p 1 0),(25,.v (.slice (some ⟨ag,0,none⟩) ((lst (T.at_ 4)).length) al)),(26,.v (.int .i32 (((lst (T.at_ 4)).length:Nat):Int))),(27,.v (.int .i32 ((ah:Nat):Int))),(29,.p 3 0)] dF fun _ dG=>?_
    clear dF
    refine qac ?_
    refine wp_seq ?_
    refine wp_seq ?_
    refine qbo [(2,.v (.bool false)),(7,.p 0 0),(8,.v (.int .i16 v)),(9,.v (.bool (decide (v ≥ 0)))),(10,.p 1 0),(25,.v (.slice (some ⟨ag,0,none⟩) ((lst (T.at_ 4)).length) al)),(26,.v (.int .i32 (((lst (T.at_ 4)).length:Nat):Int))),(27,.v (.int .i32 ((ah:Nat):Int))),(29,.p 3 0),(175,.v (.bool false))] dG fun _ bz=>qac ?_
    clear dG
    refine qau bz.env_ (b:=false) kz (rfl) ?_
    have dH:=bz.cast dy
    clear bz
    refine qd9 (d1:=180) (d2:=181) [(2,.v (.bool false)),(7,.p 0 0),(8,.v (.int .i16 v)),(9,.v (.bool (decide (v ≥ 0)))),(10,.p 1 0),(25,.v (.slice (some ⟨ag,0,none⟩) ((lst (T.at_ 4)).length) al)),(26,.v (.int .i32 (((lst (T.at_ 4)).length:Nat):Int))),(27,.v (.int .i32 ((ah:Nat):Int))),(29,.p 3 0),(179,.v (.bool (decide (v ≥ 0))))] [(2,.v (.bool false)),(7,.p 0 0),(8,.v (.int .i16 v)),(9,.v (.bool (decide (v ≥ 0)))),(10,.p 1 0),(25,.v (.slice (some ⟨ag,0,none⟩) ((lst (T.at_ 4)).length) al)),(26,.v (.int .i32 (((lst (T.at_ 4)).length:Nat):Int))),(27,.v (.int .i32 ((ah:Nat):Int))),(29,.p 3 0),(30,.v (.string (bs (aj.at_ 0).S)))] dH (qcu (aj.at_ 0).S e217_0 _) Tryz.call153 (qfY (aj.at_ 0).S e217_0 _) Tryz.call154 fun _ _ dI=>?_
    clear dH
    refine qac ?_
    refine qcD [⟨bv,0,[.int .i16 v,.int .i32 (IntKind.i32.wrap (T.at_ 0).N),.string (bs (T.at_ 1).S),qaa ((qad (T.at_ 2).S).getD 0 0),qaa ((qad (T.at_ 2).S).getD 1 0),qaa ((qad (T.at_ 2).S).getD 2 0),qaa ((qad (T.at_ 2).S).getD 3 0),qaa ((qad (T.at_ 2).S).getD 4 0),qaa ((qad (T.at_ 2).S).getD 5 0),qaa ((qad (T.at_ 2).S).getD 6 0),qaa ((qad (T.at_ 2).S).getD 7 0),qaa ((qad (T.at_ 2).S).getD 8 0),qaa ((qad (T.at_ 2).S).getD 9 0),qaa ((qad (T.at_ 2).S).getD 10 0),qaa ((qad (T.at_ 2).S).getD 11 0),qaa ((qad (T.at_ 2).S).getD 12 0),qaa ((qad (T.at_ 2).S).getD 13 0),qaa ((qad (T.at_ 2).S).getD 14 0),qaa ((qad (T.at_ 2).S).getD 15 0),.slice ac.A ac.l ac.c,.slice none 0 0,.pointer none,.bool false,.slice none 0 0,.int .i64 (-1),.map none],true⟩,qbF ag 4 (.agg #[.string ByteArray.empty,.int .i16 0,.int .i16 0,.map none]) ((lst (T.at_ 4)).length) (ah + 1),⟨ag,ah * 4,[.string (bs (aj.at_ 0).S),.int .i16 0,.int .i16 0,.map none],true⟩] 2 [(2,.v (.bool false)),(7,.p 0 0),(8,.v (.int .i16 v)),(9,.v (.bool (decide (v ≥ 0)))),(10,.p 1 0),(25,.v (.slice (some ⟨ag,0,none⟩) ((lst (T.at_ 4)).length) al)),(26,.v (.int .i32 (((lst (T.at_ 4)).length:Nat):Int))),(27,.v (.int .i32 ((ah:Nat):Int))),(29,.p 3 0)] dI fun _ _ dJ=>?_
    clear dI
    refine qac ?_
    refine wp_seq ?_
    refine wp_seq ?_
    have dK:=dJ.cast dx
    clear dJ
    refine qdY (d:=186) [(2,.v (.bool false)),(7,.p 0 0),(8,.v (.int .i16 v)),(9,.v (.bool (decide (v ≥ 0)))),(10,.p 1 0),(25,.v (.slice (some ⟨ag,0,none⟩) ((lst (T.at_ 4)).length) al)),(26,.v (.int .i32 (((lst (T.at_ 4)).length:Nat):Int))),(27,.v (.int .i32 ((ah:Nat):Int))),(29,.p 3 0),(31,.v (.int .i16 (IntKind.i16.wrap (aj.at_ 1).N)))] dK (qja _ _) Tryz.call141 fun _ _ dL=>?_
    clear dK
    refine qac ?_
    refine qcD [⟨bv,0,[.int .i16 v,.int .i32 (IntKind.i32.wrap (T.at_ 0).N),.string (bs (T.at_ 1).S),qaa ((qad (T.at_ 2).S).getD 0 0),qaa ((qad (T.at_ 2).S).getD 1 0),qaa ((qad (T.at_ 2).S).getD 2 0),qaa ((qad (T.at_ 2).S).getD 3 0),qaa ((qad (T.at_ 2).S).getD 4 0),qaa ((qad (T.at_ 2).S).getD 5 0),qaa ((qad (T.at_ 2).S).getD 6 0),qaa ((qad (T.at_ 2).S).getD 7 0),qaa ((qad (T.at_ 2).S).getD 8 0),qaa ((qad (T.at_ 2).S).getD 9 0),qaa ((qad (T.at_ 2).S).getD 10 0),qaa ((qad (T.at_ 2).S).getD 11 0),qaa ((qad (T.at_ 2).S).getD 12 0),qaa ((qad (T.at_ 2).S).getD 13 0),qaa ((qad (T.at_ 2).S).getD 14 0),qaa ((qad (T.at_ 2).S).getD 15 0),.slice ac.A ac.l ac.c,.slice none 0 0,.pointer none,.bool false,.slice none 0 0,.int .i64 (-1),.map none],true⟩,qbF ag 4 (.agg #[.string ByteArray.empty,.int .i16 0,.int .i16 0,.map none]) ((lst (T.at_ 4)).length) (ah + 1),⟨ag,ah * 4,[.string (bs (aj.at_ 0).S),.int .i16 (IntKind.i16.wrap (aj.at_ 1).N),.int .i16 0,.map none],true⟩] 2 [(2,.v (.bool false)),(7,.p 0 0),(8,.v (.int .i16 v)),(9,.v (.bool (decide (v ≥ 0)))),(10,.p 1 0),(25,.v (.slice (some ⟨ag,0,none⟩) ((lst (T.at_ 4)).length) al)),(26,.v (.int .i32 (((lst (T.at_ 4)).length:Nat):Int))),(27,.v (.int .i32 ((ah:Nat):Int))),(29,.p 3 0)] dL fun _ _ dM=>?_
    clear dL
    refine qac ?_
    refine wp_seq ?_
    refine wp_seq ?_
    have dN:=dM.cast dw
    clear dM
    refine qdY (d:=191) [(2,.v (.bool false)),(7,.p 0 0),(8,.v (.int .i16 v)),(9,.v (.bool (decide (v ≥ 0)))),(10,.p 1 0),(25,.v (.slice (some ⟨ag,0,none⟩) ((lst (T.at_ 4)).length) al)),(26,.v (.int .i32 (((lst (T.at_ 4)).length:Nat):Int))),(27,.v (.int .i32 ((ah:Nat):Int))),(29,.p 3 0),(32,.v (.int .i16 (IntKind.i16.wrap (aj.at_ 2).N)))] dN (qja _ _) Tryz.call141 fun _ _ dO=>?_
    clear dN
    refine qac ?_
    refine qcD [⟨bv,0,[.int .i16 v,.int .i32 (IntKind.i32.wrap (T.at_ 0).N),.string (bs (T.at_ 1).S),qaa ((qad (T.at_ 2).S).getD 0 0),qaa ((qad (T.at_ 2).S).getD 1 0),qaa ((qad (T.at_ 2).S).getD 2 0),qaa ((qad (T.at_ 2).S).getD 3 0),qaa ((qad (T.at_ 2).S).getD 4 0),qaa ((qad (T.at_ 2).S).getD 5 0),qaa ((qad (T.at_ 2).S).getD 6 0),qaa ((qad (T.at_ 2).S).getD 7 0),qaa ((qad (T.at_ 2).S).getD 8 0),qaa ((qad (T.at_ 2).S).getD 9 0),qaa ((qad (T.at_ 2).S).getD 10 0),qaa ((qad (T.at_ 2).S).getD 11 0),qaa ((qad (T.at_ 2).S).getD 12 0),qaa ((qad (T.at_ 2).S).getD 13 0),qaa ((qad (T.at_ 2).S).getD 14 0),qaa ((qad (T.at_ 2).S).getD 15 0),.slice ac.A ac.l ac.c,.slice none 0 0,.pointer none,.bool false,.slice none 0 0,.int .i64 (-1),.map none],true⟩,qbF ag 4 (.agg #[.string ByteArray.empty,.int .i16 0,.int .i16 0,.map none]) ((lst (T.at_ 4)).length) (ah + 1),⟨ag,ah * 4,[.string (bs (aj.at_ 0).S),.int .i16 (IntKind.i16.wrap (aj.at_ 1).N),.int .i16 (IntKind.i16.wrap (aj.at_ 2).N),.map none],true⟩] 2 [(2,.v (.bool false)),(7,.p 0 0),(8,.v (.int .i16 v)),(9,.v (.bool (decide (v ≥ 0)))),(10,.p 1 0),(25,.v (.slice (some ⟨ag,0,none⟩) ((lst (T.at_ 4)).length) al)),(26,.v (.int .i32 (((lst (T.at_ 4)).length:Nat):Int))),(27,.v (.int .i32 ((ah:Nat):Int))),(29,.p 3 0)] dO fun _ _ dP=>?_
    clear dO
    refine qac ?_
    have dQ:=dP.cast dv
    clear dP
    refine qdm (Mid:=fun a_ w_=>∃ (bK:Option Nat) (aU:List (Int × Bs)) (P':qca),(∀ w F,P' w F → iC w F ∧ (MapR w F bK aU ∧ aU.length ≤ 1000000 ∧ ∀ x ∈ aU,x.2.length < 4294967296) ∧ ((decide (v ≥ 0)) = true → aU = aj.U) ∧ ((decide (v ≥ 0)) = false → aU = [])) ∧ RS w (fun b o=>b = bv ∧ o < 26) F 272 ba [⟨bv,0,[.int .i16 v,.int .i32 (IntKind.i32.wrap (T.at_ 0).N),.string (bs (T.at_ 1).S),qaa ((qad (T.at_ 2).S).getD 0 0),qaa ((qad (T.at_ 2).S).getD 1 0),qaa ((qad (T.at_ 2).S).getD 2 0),qaa ((qad (T.at_ 2).S).getD 3 0),qaa ((qad (T.at_ 2).S).getD 4 0),qaa ((qad (T.at_ 2).S).getD 5 0),qaa ((qad (T.at_ 2).S).getD 6 0),qaa ((qad (T.at_ 2).S).getD 7 0),qaa ((qad (T.at_ 2).S).getD 8 0),qaa ((qad (T.at_ 2).S).getD 9 0),qaa ((qad (T.at_ 2).S).getD 10 0),qaa ((qad (T.at_ 2).S).getD 11 0),qaa ((qad (T.at_ 2).S).getD 12 0),qaa ((qad (T.at_ 2).S).getD 13 0),qaa ((qad (T.at_ 2).S).getD 14 0),qaa ((qad (T.at_ 2).S).getD 15 0),.slice ac.A ac.l ac.c,.slice none 0 0,.pointer none,.bool false,.slice none 0 0,.int .i64 (-1),.map none],true⟩,qbF ag 4 (.agg #[.string ByteArray.empty,.int .i16 0,.int .i16 0,.map none]) ((lst (T.at_ 4)).length) (ah + 1),⟨ag,ah * 4,[.string (bs (aj.at_ 0).S),.int .i16 (IntKind.i16.wrap (aj.at_ 1).N),.int .i16 (IntKind.i16.wrap (aj.at_ 2).N),.map bK],true⟩] [(2,.v (.bool false)),(7,.p 0 0),(8,.v (.int .i16 v)),(9,.v (.bool (decide (v ≥ 0)))),(10,.p 1 0),(25,.v (.slice (some ⟨ag,0,none⟩) ((lst (T.at_ 4)).length) al)),(26,.v (.int .i32 (((lst (T.at_ 4)).length:Nat):Int))),(27,.v (.int .i32 ((ah:Nat):Int)))] P' bw a_ w_) ?_ ?_
    ·
     refine wp_seq ?_
     refine qbo [(2,.v (.bool false)),(7,.p 0 0),(8,.v (.int .i16 v)),(9,.v (.bool (decide (v ≥ 0)))),(10,.p 1 0),(25,.v (.slice (some ⟨ag,0,none⟩) ((lst (T.at_ 4)).length) al)),(26,.v (.int .i32 (((lst (T.at_ 4)).length:Nat):Int))),(27,.v (.int .i32 ((ah:Nat):Int))),(29,.p 3 0),(196,.v (.bool (decide (v ≥ 0))))] dQ fun _ aH=>qac ?_
     clear dQ
     refine qaD aH.env_ (b:=decide (v ≥ 0)) kz (fun aI=>?_) (fun aI=>?_)
     ·
      have dR:=aH.cast (t:=((uv aj.U.length) ++ (qcv aj.U)) ++ bw) (by rw [if_pos aI])
      clear aH
      refine qaq [0,1,2,3,4] kz ?_
      refine qcV [0] [1,2,3,4] [(2,.v (.bool false)),(7,.p 0 0),(8,.v (.int .i16 v)),(9,.v (.bool (decide (v ≥ 0)))),(10,.p 1 0),(25,.v (.slice (some ⟨ag,0,none⟩) ((lst (T.at_ 4)).length) al)),(26,.v (.int .i32 (((lst (T.at_ 4)).length:Nat):Int))),(27,.v (.int .i32 ((ah:Nat):Int))),(197,.p 3 0)] dR fun _ dS=>?_
      clear dR
      refine qak (qfU (d:=198) dS (qkx aj.U e217_U (qeN e217r) _) (fun _=>MvF.tags _ _) Tryz.call156 fun fH i6 _ _ dT dU=>?_)
      clear dS
      refine qcV [2,3] [4] [(2,.v (.bool false)),(7,.p 0 0),(8,.v (.int .i16 v)),(9,.v (.bool (decide (v ≥ 0)))),(10,.p 1 0),(25,.v (.slice (some ⟨ag,0,none⟩) ((lst (T.at_ 4)).length) al)),(26,.v (.int .i32 (((lst (T.at_ 4)).length:Nat):Int))),(27,.v (.int .i32 ((ah:Nat):Int))),(198,.v (.agg #[.map fH])),(200,.p 3 3)] dU fun _ dV=>?_
      clear dU
      refine qak (qdQ [⟨bv,0,[.int .i16 v,.int .i32 (IntKind.i32.wrap (T.at_ 0).N),.string (bs (T.at_ 1).S),qaa ((qad (T.at_ 2).S).getD 0 0),qaa ((qad (T.at_ 2).S).getD 1 0),qaa ((qad (T.at_ 2).S).getD 2 0),qaa ((qad (T.at_ 2).S).getD 3 0),qaa ((qad (T.at_ 2).S).getD 4 0),qaa ((qad (T.at_ 2).S).getD 5 0),qaa ((qad (T.at_ 2).S).getD 6 0),qaa ((qad (T.at_ 2).S).getD 7 0),qaa ((qad (T.at_ 2).S).getD 8 0),qaa ((qad (T.at_ 2).S).getD 9 0),qaa ((qad (T.at_ 2).S).getD 10 0),qaa ((qad (T.at_ 2).S).getD 11 0),qaa ((qad (T.at_ 2).S).getD 12 0),qaa ((qad (T.at_ 2).S).getD 13 0),qaa ((qad (T.at_ 2).S).getD 14 0),qaa ((qad (T.at_ 2).S).getD 15 0),.slice ac.A ac.l ac.c,.slice none 0 0,.pointer none,.bool false,.slice none 0 0,.int .i64 (-1),.map none],true⟩,qbF ag 4 (.agg #[.string ByteArray.empty,.int .i16 0,.int .i16 0,.map none]) ((lst (T.at_ 4)).length) (ah + 1),⟨ag,ah * 4,[.string (bs (aj.at_ 0).S),.int .i16 (IntKind.i16.wrap (aj.at_ 1).N),.int .i16 (IntKind.i16.wrap (aj.at_ 2).N),.map fH],true⟩] 2 dV fun _ dW=>?_)
      clear dV
      refine qah ?_
      have gP:=dW.pk (env':=[(2,.v (.bool false)),(7,.p 0 0),(8,.v (.int .i16 v)),(9,.v (.bool (decide (v ≥ 0)))),(10,.p 1 0),(25,.v (.slice (some ⟨ag,0,none⟩) ((lst (T.at_ 4)).length) al)),(26,.v (.int .i32 (((lst (T.at_ 4)).length:Nat):Int))),(27,.v (.int .i32 ((ah:Nat):Int)))])
      clear dW
      refine qac ?_
      exact ⟨fH,aj.U,_,fun w F h_=>⟨(dT _ _ h_).1,⟨(dT _ _ h_).2,e217_U.2.1,e217_U.2.2⟩,⟨fun _=>rfl,(fun e_=>by rw [aI] at e_; cases e_)⟩⟩,gP.pk (env':=[(2,.v (.bool false)),(7,.p 0 0),(8,.v (.int .i16 v)),(9,.v (.bool (decide (v ≥ 0)))),(10,.p 1 0),(25,.v (.slice (some ⟨ag,0,none⟩) ((lst (T.at_ 4)).length) al)),(26,.v (.int .i32 (((lst (T.at_ 4)).length:Nat):Int))),(27,.v (.int .i32 ((ah:Nat):Int)))])⟩
     have dX:=aH.cast (t:=[] ++ bw) (by rw [if_neg (by rw [aI]; decide)])
     clear aH
     have gQ:=dX.cast (t:=bw) rfl
     clear dX
     refine wp_skip (qac ?_)
     exact ⟨none,[],_,fun w F h_=>⟨h_,⟨MapR.nil _ _,Nat.zero_le _,fun _ h=>by cases h⟩,⟨(fun e_=>by rw [aI] at e_; cases e_),fun _=>rfl⟩⟩,gQ.pk (env':=[(2,.v (.bool false)),(7,.p 0 0),(8,.v (.int .i16 v)),(9,.v (.bool (decide (v ≥ 0)))),(10,.p 1 0),(25,.v (.slice (some ⟨ag,0,none⟩) ((lst (T.at_ 4)).length) al)),(26,.v (.int .i32 (((lst (T.at_ 4)).length:Nat):Int))),(27,.v (.int .i32 ((ah:Nat):Int)))])⟩
    rintro _ _ ⟨bK,aU,i7,aC,dY⟩
    refine qax ?_
    refine qac ?_
    refine qbo [(2,.v (.bool false)),(7,.p 0 0),(8,.v (.int .i16 v)),(9,.v (.bool (decide (v ≥ 0)))),(10,.p 1 0),(25,.v (.slice (some ⟨ag,0,none⟩) ((lst (T.at_ 4)).length) al)),(26,.v (.int .i32 (((lst (T.at_ 4)).length:Nat):Int))),(27,.v (.int .i32 (IntKind.i32.wrap (((ah:Nat):Int) + 1))))] dY fun _ dZ=>?_
    clear dY
    refine qac ?_
    have gR:=(dZ.envEq (env':=[(2,.v (.bool false)),(7,.p 0 0),(8,.v (.int .i16 v)),(9,.v (.bool (decide (v ≥ 0)))),(10,.p 1 0),(25,.v (.slice (some ⟨ag,0,none⟩) ((lst (T.at_ 4)).length) al)),(26,.v (.int .i32 (((lst (T.at_ 4)).length:Nat):Int))),(27,.v (.int .i32 ((ah + 1:Nat):Int)))]) (by rw [qfX (by have:=e32_4; omega)])).pk (env':=[(2,.v (.bool false)),(7,.p 0 0),(8,.v (.int .i16 v)),(9,.v (.bool (decide (v ≥ 0)))),(10,.p 1 0),(25,.v (.slice (some ⟨ag,0,none⟩) ((lst (T.at_ 4)).length) al)),(26,.v (.int .i32 (((lst (T.at_ 4)).length:Nat):Int))),(27,.v (.int .i32 ((ah + 1:Nat):Int)))])
    clear dZ
    exact (RS.thing (tb:=[⟨bv,0,[.int .i16 v,.int .i32 (IntKind.i32.wrap (T.at_ 0).N),.string (bs (T.at_ 1).S),qaa ((qad (T.at_ 2).S).getD 0 0),qaa ((qad (T.at_ 2).S).getD 1 0),qaa ((qad (T.at_ 2).S).getD 2 0),qaa ((qad (T.at_ 2).S).getD 3 0),qaa ((qad (T.at_ 2).S).getD 4 0),qaa ((qad (T.at_ 2).S).getD 5 0),qaa ((qad (T.at_ 2).S).getD 6 0),qaa ((qad (T.at_ 2).S).getD 7 0),qaa ((qad (T.at_ 2).S).getD 8 0),qaa ((qad (T.at_ 2).S).getD 9 0),qaa ((qad (T.at_ 2).S).getD 10 0),qaa ((qad (T.at_ 2).S).getD 11 0),qaa ((qad (T.at_ 2).S).getD 12 0),qaa ((qad (T.at_ 2).S).getD 13 0),qaa ((qad (T.at_ 2).S).getD 14 0),qaa ((qad (T.at_ 2).S).getD 15 0),.slice ac.A ac.l ac.c,.slice none 0 0,.pointer none,.bool false,.slice none 0 0,.int .i64 (-1),.map none],true⟩]) (z:=.agg #[.string ByteArray.empty,.int .i16 0,.int .i16 0,.map none]) (D:=(dvP bK aU [dvS (bs (aj.at_ 0).S),dvN (IntKind.i16.wrap (aj.at_ 1).N),dvN (IntKind.i16.wrap (aj.at_ 2).N)])) (gR.cast du) hg_g198 bu qaW bt rfl (fun w F h_=>⟨(dr _ _ (aC _ _ h_).1).1,(dr _ _ (aC _ _ h_).1).2,⟨(by show ByteArray.size (bs _) ≤ 1000000; rw [qe6]; exact Nat.le_trans e217_0 (by decide)),(trivial),(trivial),(aC _ _ h_).2.1.1,(aC _ _ h_).2.1.2.1,(aC _ _ h_).2.1.2.2,trivial⟩,⟨(rfl),(rfl),(rfl),(aC _ _ h_).2.2,trivial⟩⟩) kz)
   refine wp_seq ?_
   refine wp_seq ?_
   refine qbo [(2,.v (.bool false)),(7,.p 0 0),(8,.v (.int .i16 v)),(9,.v (.bool (decide (v ≥ 0)))),(10,.p 1 0),(25,.v (.slice (some ⟨ag,0,none⟩) ((lst (T.at_ 4)).length) al)),(26,.v (.int .i32 (((lst (T.at_ 4)).length:Nat):Int))),(27,.v (.int .i32 (((lst (T.at_ 4)).length:Nat):Int))),(166,.v (.bool (decide ((((lst (T.at_ 4)).length:Nat):Int) < (((lst (T.at_ 4)).length:Nat):Int)))))] dq fun _ d5=>qac ?_
   clear dq
   refine qau d5.env_ (b:=decide ((((lst (T.at_ 4)).length:Nat):Int) < (((lst (T.at_ 4)).length:Nat):Int))) kz (decide_eq_false (by omega)) ?_
   refine wp_exit ?_
   refine qaw ?_
   refine qaw ?_
   refine qaP ?_
   refine qac ?_
   obtain ⟨iH,gS⟩:=RS.listEnd (tb:=[⟨bv,0,[.int .i16 v,.int .i32 (IntKind.i32.wrap (T.at_ 0).N),.string (bs (T.at_ 1).S),qaa ((qad (T.at_ 2).S).getD 0 0),qaa ((qad (T.at_ 2).S).getD 1 0),qaa ((qad (T.at_ 2).S).getD 2 0),qaa ((qad (T.at_ 2).S).getD 3 0),qaa ((qad (T.at_ 2).S).getD 4 0),qaa ((qad (T.at_ 2).S).getD 5 0),qaa ((qad (T.at_ 2).S).getD 6 0),qaa ((qad (T.at_ 2).S).getD 7 0),qaa ((qad (T.at_ 2).S).getD 8 0),qaa ((qad (T.at_ 2).S).getD 9 0),qaa ((qad (T.at_ 2).S).getD 10 0),qaa ((qad (T.at_ 2).S).getD 11 0),qaa ((qad (T.at_ 2).S).getD 12 0),qaa ((qad (T.at_ 2).S).getD 13 0),qaa ((qad (T.at_ 2).S).getD 14 0),qaa ((qad (T.at_ 2).S).getD 15 0),.slice ac.A ac.l ac.c,.slice none 0 0,.pointer none,.bool false,.slice none 0 0,.int .i64 (-1),.map none],true⟩]) (c:=al) (d5.pk (env':=[(2,.v (.bool false)),(7,.p 0 0),(8,.v (.int .i16 v)),(9,.v (.bool (decide (v ≥ 0)))),(10,.p 1 0),(25,.v (.slice (some ⟨ag,0,none⟩) ((lst (T.at_ 4)).length) al))])) hg_g198 qaW bt hcap_g198 (by have:=e32_4; omega) hn_g198 kz
   exact ⟨dvL (some ⟨ag,0,none⟩) (lst (T.at_ 4)).length al iH,_,fun w F h_=>⟨h_.1,⟨h_.2.1,Nat.le_trans e32_4 (by decide),h_.2.2.1⟩,⟨rfl,h_.2.2.2⟩⟩,gS⟩
  refine wp_skip ?_
  refine qac ?_
  refine wp_seq ?_
  refine qbo [(2,.v (.bool false)),(7,.p 0 0),(8,.v (.int .i16 v)),(9,.v (.bool (decide (v ≥ 0)))),(10,.p 1 0),(25,.v (.slice none 0 0)),(26,.v (.int .i32 (((lst (T.at_ 4)).length:Nat):Int))),(27,.v (.int .i32 0))] aG fun _ d6=>?_
  clear aG
  refine qac ?_
  refine wp_block ?_
  refine qeP ?_
  refine wp_seq ?_
  refine wp_seq ?_
  refine qbo [(2,.v (.bool false)),(7,.p 0 0),(8,.v (.int .i16 v)),(9,.v (.bool (decide (v ≥ 0)))),(10,.p 1 0),(25,.v (.slice none 0 0)),(26,.v (.int .i32 (((lst (T.at_ 4)).length:Nat):Int))),(27,.v (.int .i32 0)),(166,.v (.bool (decide (0 < (((lst (T.at_ 4)).length:Nat):Int)))))] d6 fun _ d7=>qac ?_
  clear d6
  refine qau d7.env_ (b:=decide (0 < (((lst (T.at_ 4)).length:Nat):Int))) kz (decide_eq_false (by have h_:=of_decide_eq_false aX; omega)) ?_
  refine wp_exit ?_
  refine qaw ?_
  refine qaw ?_
  refine qaP ?_
  refine qac ?_
  have hz_:(lst (T.at_ 4)).length = 0:=by have h_:=of_decide_eq_false aX; omega
  exact ⟨dvL none 0 0 (fun _=>dv0),_,fun w F h_=>⟨h_,⟨Slots.nil _ _ _ _,Nat.zero_le _,fun _ h=>absurd h (Nat.not_lt_zero _)⟩,⟨hz_.symm,fun _ h=>absurd h (Nat.not_lt_zero _)⟩⟩,(d7.cast (t:=bO) (by rw [List.eq_nil_of_length_eq_zero hz_]; rfl)).pk (env':=[(2,.v (.bool false)),(7,.p 0 0),(8,.v (.int .i16 v)),(9,.v (.bool (decide (v ≥ 0)))),(10,.p 1 0),(25,.v (.slice none 0 0))])⟩
 rintro _ _ ⟨aa,iI,aY,d8⟩
 refine wp_seq ?_
 refine qbo [(2,.v (.bool false)),(7,.p 0 0),(8,.v (.int .i16 v)),(9,.v (.bool (decide (v ≥ 0)))),(10,.p 1 0),(24,.v (.slice aa.A aa.l aa.c))] d8 fun _ d9=>?_
 clear d8
 refine qac ?_
 refine qcD [⟨bv,0,[.int .i16 v,.int .i32 (IntKind.i32.wrap (T.at_ 0).N),.string (bs (T.at_ 1).S),qaa ((qad (T.at_ 2).S).getD 0 0),qaa ((qad (T.at_ 2).S).getD 1 0),qaa ((qad (T.at_ 2).S).getD 2 0),qaa ((qad (T.at_ 2).S).getD 3 0),qaa ((qad (T.at_ 2).S).getD 4 0),qaa ((qad (T.at_ 2).S).getD 5 0),qaa ((qad (T.at_ 2).S).getD 6 0),qaa ((qad (T.at_ 2).S).getD 7 0),qaa ((qad (T.at_ 2).S).getD 8 0),qaa ((qad (T.at_ 2).S).getD 9 0),qaa ((qad (T.at_ 2).S).getD 10 0),qaa ((qad (T.at_ 2).S).getD 11 0),qaa ((qad (T.at_ 2).S).getD 12 0),qaa ((qad (T.at_ 2).S).getD 13 0),qaa ((qad (T.at_ 2).S).getD 14 0),qaa ((qad (T.at_ 2).S).getD 15 0),.slice ac.A ac.l ac.c,.slice aa.A aa.l aa.c,.pointer none,.bool false,.slice none 0 0,.int .i64 (-1),.map none],true⟩] 0 [(2,.v (.bool false)),(7,.p 0 0),(8,.v (.int .i16 v)),(9,.v (.bool (decide (v ≥ 0)))),(10,.p 1 0)] d9 fun _ _ ea=>?_
 clear d9
 refine qac ?_
 refine wp_seq ?_
 refine wp_seq ?_
 refine qbo [(2,.v (.bool false)),(7,.p 0 0),(8,.v (.int .i16 v)),(9,.v (.bool (decide (v ≥ 0)))),(10,.p 1 0)] ea fun _ eb=>?_
 clear ea
 refine qac ?_
 refine wp_seq ?_
 have ec:=eb.cast fR
 clear eb
 refine qdm (Mid:=fun a_ w_=>∃ (ap:Option Addr) (P':qca),(∀ w F,P' w F → iI w F ∧ qjF ap (qcG (T.at_ 5)) w F ∧ ap.isNone = (T.at_ 5).null) ∧ RS w (fun b o=>b = bv ∧ o < 26) F 272 ba [⟨bv,0,[.int .i16 v,.int .i32 (IntKind.i32.wrap (T.at_ 0).N),.string (bs (T.at_ 1).S),qaa ((qad (T.at_ 2).S).getD 0 0),qaa ((qad (T.at_ 2).S).getD 1 0),qaa ((qad (T.at_ 2).S).getD 2 0),qaa ((qad (T.at_ 2).S).getD 3 0),qaa ((qad (T.at_ 2).S).getD 4 0),qaa ((qad (T.at_ 2).S).getD 5 0),qaa ((qad (T.at_ 2).S).getD 6 0),qaa ((qad (T.at_ 2).S).getD 7 0),qaa ((qad (T.at_ 2).S).getD 8 0),qaa ((qad (T.at_ 2).S).getD 9 0),qaa ((qad (T.at_ 2).S).getD 10 0),qaa ((qad (T.at_ 2).S).getD 11 0),qaa ((qad (T.at_ 2).S).getD 12 0),qaa ((qad (T.at_ 2).S).getD 13 0),qaa ((qad (T.at_ 2).S).getD 14 0),qaa ((qad (T.at_ 2).S).getD 15 0),.slice ac.A ac.l ac.c,.slice aa.A aa.l aa.c,.pointer none,.bool false,.slice none 0 0,.int .i64 (-1),.map none],true⟩] [(7,.p 0 0),(8,.v (.int .i16 v)),(9,.v (.bool (decide (v ≥ 0)))),(10,.p 1 0),(33,.v (.pointer ap))] P' ij a_ w_) ?_ ?_
 ·
  refine wp_seq ?_
  refine qbo [(2,.v (.bool false)),(7,.p 0 0),(8,.v (.int .i16 v)),(9,.v (.bool (decide (v ≥ 0)))),(10,.p 1 0),(206,.v (.bool (decide (v ≥ 0))))] ec fun _ aJ=>qac ?_
  clear ec
  refine qaD aJ.env_ (b:=decide (v ≥ 0)) kz (fun bA=>?_) (fun bA=>?_)
  ·
   have ee:=aJ.cast (t:=(if (T.at_ 5).null = true then uv 0 else uv ((qcG (T.at_ 5)).length + 1) ++ (qcG (T.at_ 5))) ++ ij) (by rw [if_pos bA])
   clear aJ
   refine wp_seq ?_
   refine qbo [(7,.p 0 0),(8,.v (.int .i16 v)),(9,.v (.bool (decide (v ≥ 0)))),(10,.p 1 0),(207,.v (.bool false))] ee fun _ bB=>qac ?_
   clear ee
   refine qau bB.env_ (b:=false) kz (rfl) ?_
   refine qkZ (d:=209) (fun bL=>[(7,.p 0 0),(8,.v (.int .i16 v)),(9,.v (.bool (decide (v ≥ 0)))),(10,.p 1 0),(33,.v (.pointer bL))]) bB (qdp (T.at_ 5).null (qcG (T.at_ 5)) e32_5 _) (fun _=>(MvF.text _ _).and (MvF.is _)) Tryz.call143 fun bL ja _ _ ef gT=>?_
   clear bB
   refine qac ?_
   exact ⟨bL,_,fun w F h_=>⟨(ef _ _ h_).1,(ef _ _ h_).2⟩,gT.pk (env':=[(7,.p 0 0),(8,.v (.int .i16 v)),(9,.v (.bool (decide (v ≥ 0)))),(10,.p 1 0),(33,.v (.pointer bL))])⟩
  have eg:=aJ.cast (t:=(if (T.at_ 5).null = true then be 2 (-1) else be 2 (qcG (T.at_ 5)).length ++ (qcG (T.at_ 5))) ++ ij) (by rw [if_neg (by rw [bA]; decide)])
  clear aJ
  refine wp_seq ?_
  refine qbo [(7,.p 0 0),(8,.v (.int .i16 v)),(9,.v (.bool (decide (v ≥ 0)))),(10,.p 1 0),(210,.v (.bool false))] eg fun _ bC=>qac ?_
  clear eg
  refine qau bC.env_ (b:=false) kz (rfl) ?_
  refine qkZ (d:=212) (fun bM=>[(7,.p 0 0),(8,.v (.int .i16 v)),(9,.v (.bool (decide (v ≥ 0)))),(10,.p 1 0),(33,.v (.pointer bM))]) bC (qfd (T.at_ 5).null (qcG (T.at_ 5)) e32_5 _) (fun _=>(MvF.text _ _).and (MvF.is _)) Tryz.call145 fun bM jb _ _ eh gU=>?_
  clear bC
  refine qac ?_
  exact ⟨bM,_,fun w F h_=>⟨(eh _ _ h_).1,(eh _ _ h_).2⟩,gU.pk (env':=[(7,.p 0 0),(8,.v (.int .i16 v)),(9,.v (.bool (decide (v ≥ 0)))),(10,.p 1 0),(33,.v (.pointer bM))])⟩
 rintro _ _ ⟨ap,iJ,aD,ei⟩
 refine qac ?_
 refine qcD [⟨bv,0,[.int .i16 v,.int .i32 (IntKind.i32.wrap (T.at_ 0).N),.string (bs (T.at_ 1).S),qaa ((qad (T.at_ 2).S).getD 0 0),qaa ((qad (T.at_ 2).S).getD 1 0),qaa ((qad (T.at_ 2).S).getD 2 0),qaa ((qad (T.at_ 2).S).getD 3 0),qaa ((qad (T.at_ 2).S).getD 4 0),qaa ((qad (T.at_ 2).S).getD 5 0),qaa ((qad (T.at_ 2).S).getD 6 0),qaa ((qad (T.at_ 2).S).getD 7 0),qaa ((qad (T.at_ 2).S).getD 8 0),qaa ((qad (T.at_ 2).S).getD 9 0),qaa ((qad (T.at_ 2).S).getD 10 0),qaa ((qad (T.at_ 2).S).getD 11 0),qaa ((qad (T.at_ 2).S).getD 12 0),qaa ((qad (T.at_ 2).S).getD 13 0),qaa ((qad (T.at_ 2).S).getD 14 0),qaa ((qad (T.at_ 2).S).getD 15 0),.slice ac.A ac.l ac.c,.slice aa.A aa.l aa.c,.pointer ap,.bool false,.slice none 0 0,.int .i64 (-1),.map none],true⟩] 0 [(7,.p 0 0),(8,.v (.int .i16 v)),(9,.v (.bool (decide (v ≥ 0)))),(10,.p 1 0)] ei fun _ _ ej=>?_
 clear ei
 refine qac ?_
 refine wp_seq ?_
 have ek:=ej.cast fQ
 clear ej
 refine qdm (Mid:=fun a_ w_=>∃ (av:DV) (P':qca),(∀ w F,P' w F → iJ w F ∧ (True) ∧ ((decide (v ≥ 1)) = true → av.b = decide ((T.at_ 6).N % 2 = 1)) ∧ ((decide (v ≥ 1)) = false → av.b = false)) ∧ RS w (fun b o=>b = bv ∧ o < 26) F 272 ba [⟨bv,0,[.int .i16 v,.int .i32 (IntKind.i32.wrap (T.at_ 0).N),.string (bs (T.at_ 1).S),qaa ((qad (T.at_ 2).S).getD 0 0),qaa ((qad (T.at_ 2).S).getD 1 0),qaa ((qad (T.at_ 2).S).getD 2 0),qaa ((qad (T.at_ 2).S).getD 3 0),qaa ((qad (T.at_ 2).S).getD 4 0),qaa ((qad (T.at_ 2).S).getD 5 0),qaa ((qad (T.at_ 2).S).getD 6 0),qaa ((qad (T.at_ 2).S).getD 7 0),qaa ((qad (T.at_ 2).S).getD 8 0),qaa ((qad (T.at_ 2).S).getD 9 0),qaa ((qad (T.at_ 2).S).getD 10 0),qaa ((qad (T.at_ 2).S).getD 11 0),qaa ((qad (T.at_ 2).S).getD 12 0),qaa ((qad (T.at_ 2).S).getD 13 0),qaa ((qad (T.at_ 2).S).getD 14 0),qaa ((qad (T.at_ 2).S).getD 15 0),.slice ac.A ac.l ac.c,.slice aa.A aa.l aa.c,.pointer ap,.bool av.b,.slice none 0 0,.int .i64 (-1),.map none],true⟩] [(7,.p 0 0),(8,.v (.int .i16 v)),(9,.v (.bool (decide (v ≥ 0)))),(10,.p 1 0)] P' fO a_ w_) ?_ ?_
 ·
  refine wp_seq ?_
  refine qbo [(7,.p 0 0),(8,.v (.int .i16 v)),(9,.v (.bool (decide (v ≥ 0)))),(10,.p 1 0),(218,.v (.bool (decide (v ≥ 1))))] ek fun _ aK=>qac ?_
  clear ek
  refine qaD aK.env_ (b:=decide (v ≥ 1)) kz (fun aL=>?_) (fun aL=>?_)
  ·
   have em:=aK.cast (t:=[by8 (if (decide ((T.at_ 6).N % 2 = 1)) then 1 else 0)] ++ fO) (by rw [if_pos aL])
   clear aK
   refine wp_seq ?_
   refine qdY (d:=219) [(7,.p 0 0),(8,.v (.int .i16 v)),(9,.v (.bool (decide (v ≥ 0)))),(10,.p 1 0),(34,.v (.bool (decide ((T.at_ 6).N % 2 = 1))))] em (qlr _ _) Tryz.call140 fun _ _ eo=>?_
   clear em
   refine qac ?_
   refine qcD [⟨bv,0,[.int .i16 v,.int .i32 (IntKind.i32.wrap (T.at_ 0).N),.string (bs (T.at_ 1).S),qaa ((qad (T.at_ 2).S).getD 0 0),qaa ((qad (T.at_ 2).S).getD 1 0),qaa ((qad (T.at_ 2).S).getD 2 0),qaa ((qad (T.at_ 2).S).getD 3 0),qaa ((qad (T.at_ 2).S).getD 4 0),qaa ((qad (T.at_ 2).S).getD 5 0),qaa ((qad (T.at_ 2).S).getD 6 0),qaa ((qad (T.at_ 2).S).getD 7 0),qaa ((qad (T.at_ 2).S).getD 8 0),qaa ((qad (T.at_ 2).S).getD 9 0),qaa ((qad (T.at_ 2).S).getD 10 0),qaa ((qad (T.at_ 2).S).getD 11 0),qaa ((qad (T.at_ 2).S).getD 12 0),qaa ((qad (T.at_ 2).S).getD 13 0),qaa ((qad (T.at_ 2).S).getD 14 0),qaa ((qad (T.at_ 2).S).getD 15 0),.slice ac.A ac.l ac.c,.slice aa.A aa.l aa.c,.pointer ap,.bool (decide ((T.at_ 6).N % 2 = 1)),.slice none 0 0,.int .i64 (-1),.map none],true⟩] 0 [(7,.p 0 0),(8,.v (.int .i16 v)),(9,.v (.bool (decide (v ≥ 0)))),(10,.p 1 0)] eo fun _ _ gV=>?_
   clear eo
   refine qac ?_
   exact ⟨dvB (decide ((T.at_ 6).N % 2 = 1)),_,fun w F h_=>⟨h_,trivial,⟨fun _=>rfl,(fun e_=>by rw [aL] at e_; cases e_)⟩⟩,gV.pk (env':=[(7,.p 0 0),(8,.v (.int .i16 v)),(9,.v (.bool (decide (v ≥ 0)))),(10,.p 1 0)])⟩
  have ep:=aK.cast (t:=[] ++ fO) (by rw [if_neg (by rw [aL]; decide)])
  clear aK
  have gW:=ep.cast (t:=fO) rfl
  clear ep
  refine wp_skip (qac ?_)
  exact ⟨dvB false,_,fun w F h_=>⟨h_,trivial,⟨(fun e_=>by rw [aL] at e_; cases e_),fun _=>rfl⟩⟩,gW.pk (env':=[(7,.p 0 0),(8,.v (.int .i16 v)),(9,.v (.bool (decide (v ≥ 0)))),(10,.p 1 0)])⟩
 rintro _ _ ⟨av,fI,aA,eu⟩
 refine qac ?_
 refine wp_seq ?_
 have ev:=eu.cast fP
 clear eu
 refine qdm (Mid:=fun a_ w_=>∃ (ai:DV) (P':qca),(∀ w F,P' w F → fI w F ∧ (Slots w F 16 ai.A ai.c ai.l (fun i=>[qaa ((ai.f i).o.getD 0 0),qaa ((ai.f i).o.getD 1 0),qaa ((ai.f i).o.getD 2 0),qaa ((ai.f i).o.getD 3 0),qaa ((ai.f i).o.getD 4 0),qaa ((ai.f i).o.getD 5 0),qaa ((ai.f i).o.getD 6 0),qaa ((ai.f i).o.getD 7 0),qaa ((ai.f i).o.getD 8 0),qaa ((ai.f i).o.getD 9 0),qaa ((ai.f i).o.getD 10 0),qaa ((ai.f i).o.getD 11 0),qaa ((ai.f i).o.getD 12 0),qaa ((ai.f i).o.getD 13 0),qaa ((ai.f i).o.getD 14 0),qaa ((ai.f i).o.getD 15 0)]) ∧ ai.l ≤ 1000000 ∧ ∀ i,i < ai.l → (ai.f i).o.length = 16) ∧ ((decide (v ≥ 2)) = true → (ai.l = (lst (T.at_ 7)).length ∧ ∀ i,i < ai.l → (ai.f i).o = qad ((lst (T.at_ 7)).getD i .zero).S)) ∧ ((decide (v ≥ 2)) = false → (ai.A = none ∧ ai.l = 0))) ∧ RS w (fun b o=>b = bv ∧ o < 26) F 272 ba [⟨bv,0,[.int .i16 v,.int .i32 (IntKind.i32.wrap (T.at_ 0).N),.string (bs (T.at_ 1).S),qaa ((qad (T.at_ 2).S).getD 0 0),qaa ((qad (T.at_ 2).S).getD 1 0),qaa ((qad (T.at_ 2).S).getD 2 0),qaa ((qad (T.at_ 2).S).getD 3 0),qaa ((qad (T.at_ 2).S).getD 4 0),qaa ((qad (T.at_ 2).S).getD 5 0),qaa ((qad (T.at_ 2).S).getD 6 0),qaa ((qad (T.at_ 2).S).getD 7 0),qaa ((qad (T.at_ 2).S).getD 8 0),qaa ((qad (T.at_ 2).S).getD 9 0),qaa ((qad (T.at_ 2).S).getD 10 0),qaa ((qad (T.at_ 2).S).getD 11 0),qaa ((qad (T.at_ 2).S).getD 12 0),qaa ((qad (T.at_ 2).S).getD 13 0),qaa ((qad (T.at_ 2).S).getD 14 0),qaa ((qad (T.at_ 2).S).getD 15 0),.slice ac.A ac.l ac.c,.slice aa.A aa.l aa.c,.pointer ap,.bool av.b,.slice ai.A ai.l ai.c,.int .i64 (-1),.map none],true⟩] [(7,.p 0 0),(8,.v (.int .i16 v)),(9,.v (.bool (decide (v ≥ 0)))),(10,.p 1 0)] P' bd a_ w_) ?_ ?_
 ·
  refine wp_seq ?_
  refine qbo [(7,.p 0 0),(8,.v (.int .i16 v)),(9,.v (.bool (decide (v ≥ 0)))),(10,.p 1 0),(225,.v (.bool (decide (v ≥ 2))))] ev fun _ aM=>qac ?_
  clear ev
  refine qaD aM.env_ (b:=decide (v ≥ 2)) kz (fun aN=>?_) (fun aN=>?_)
  ·
   have ew:=aM.cast (t:=((if (decide (v ≥ 0)) = true then (uv ((lst (T.at_ 7)).length + 1)) else (be 4 (lst (T.at_ 7)).length)) ++ ((lst (T.at_ 7)).flatMap (fun E=>qad E.S))) ++ bd) (by rw [if_pos aN])
   clear aM
   refine wp_seq ?_
   refine qbo [(7,.p 0 0),(8,.v (.int .i16 v)),(9,.v (.bool (decide (v ≥ 0)))),(10,.p 1 0),(35,.v (.slice none 0 0))] ew fun _ ey=>?_
   clear ew
   refine qac ?_
   refine wp_seq ?_
   refine qbo [(7,.p 0 0),(8,.v (.int .i16 v)),(9,.v (.bool (decide (v ≥ 0)))),(10,.p 1 0),(36,.v (.slice none 0 0))] ey fun _ ez=>?_
   clear ey
   refine qac ?_
   refine wp_seq ?_
   refine qbo [(7,.p 0 0),(8,.v (.int .i16 v)),(9,.v (.bool (decide (v ≥ 0)))),(10,.p 1 0),(36,.v (.slice none 0 0))] ez fun _ eB=>?_
   clear ez
   refine qac ?_
   refine wp_seq ?_
   have eC:=eB.cast (t:=(if (decide (v ≥ 0)) = true then (uv ((lst (T.at_ 7)).length + 1)) else (be 4 (lst (T.at_ 7)).length)) ++ (((lst (T.at_ 7)).flatMap (fun E=>qad E.S)) ++ bd)) (by rw [List.append_assoc])
   clear eB
   refine qd9 (d1:=232) (d2:=233) [(7,.p 0 0),(8,.v (.int .i16 v)),(9,.v (.bool (decide (v ≥ 0)))),(10,.p 1 0),(36,.v (.slice none 0 0)),(231,.v (.bool (decide (v ≥ 0))))] [(7,.p 0 0),(8,.v (.int .i16 v)),(9,.v (.bool (decide (v ≥ 0)))),(10,.p 1 0),(36,.v (.slice none 0 0)),(37,.v (.int .i32 (((lst (T.at_ 7)).length:Nat):Int)))] eC (qcB ((lst (T.at_ 7)).length) e32_7 _ (flat_ge' (fun E=>by rw [qcw]; decide) _)) Tryz.call146 (qfe ((lst (T.at_ 7)).length) e32_7 _ (flat_ge' (fun E=>by rw [qcw]; decide) _)) Tryz.call147 fun _ _ eD=>?_
   clear eC
   refine qac ?_
   refine wp_seq ?_
   refine wp_seq ?_
   refine qkv (d:=234) [(7,.p 0 0),(8,.v (.int .i16 v)),(9,.v (.bool (decide (v ≥ 0)))),(10,.p 1 0),(36,.v (.slice none 0 0)),(37,.v (.int .i32 (((lst (T.at_ 7)).length:Nat):Int))),(235,.v (.bool false))] eD (pOk _) Tryz.call148 fun _ _ bD=>?_
   clear eD
   refine qac ?_
   refine qau bD.env_ (b:=false) kz (rfl) ?_
   refine wp_skip ?_
   refine qac ?_
   refine wp_seq ?_
   refine qg5 (t:=132) (e:=129) (size:=16) (bytes:=16) (d:=238) (A0:=none) (m:=0) (cp:=0) [(7,.p 0 0),(8,.v (.int .i16 v)),(9,.v (.bool (decide (v ≥ 0)))),(10,.p 1 0),(37,.v (.int .i32 (((lst (T.at_ 7)).length:Nat):Int))),(237,.v (.slice none 0 0))] [(7,.p 0 0),(8,.v (.int .i16 v)),(9,.v (.bool (decide (v ≥ 0)))),(10,.p 1 0),(36,.v (.slice none 0 0)),(37,.v (.int .i32 (((lst (T.at_ 7)).length:Nat):Int)))] 1 bD fun _ eE=>?_
   clear bD
   refine qac ?_
   refine qfW (Mid:=fun a_ w_=>∃ (ak:DV) (P':qca),(∀ w F,P' w F → fI w F ∧ (Slots w F 16 ak.A ak.c ak.l (fun i=>[qaa ((ak.f i).o.getD 0 0),qaa ((ak.f i).o.getD 1 0),qaa ((ak.f i).o.getD 2 0),qaa ((ak.f i).o.getD 3 0),qaa ((ak.f i).o.getD 4 0),qaa ((ak.f i).o.getD 5 0),qaa ((ak.f i).o.getD 6 0),qaa ((ak.f i).o.getD 7 0),qaa ((ak.f i).o.getD 8 0),qaa ((ak.f i).o.getD 9 0),qaa ((ak.f i).o.getD 10 0),qaa ((ak.f i).o.getD 11 0),qaa ((ak.f i).o.getD 12 0),qaa ((ak.f i).o.getD 13 0),qaa ((ak.f i).o.getD 14 0),qaa ((ak.f i).o.getD 15 0)]) ∧ ak.l ≤ 1000000 ∧ ∀ i,i < ak.l → (ak.f i).o.length = 16) ∧ (ak.l = (lst (T.at_ 7)).length ∧ ∀ i,i < ak.l → (ak.f i).o = qad ((lst (T.at_ 7)).getD i .zero).S)) ∧ RS w (fun b o=>b = bv ∧ o < 26) F 272 ba [⟨bv,0,[.int .i16 v,.int .i32 (IntKind.i32.wrap (T.at_ 0).N),.string (bs (T.at_ 1).S),qaa ((qad (T.at_ 2).S).getD 0 0),qaa ((qad (T.at_ 2).S).getD 1 0),qaa ((qad (T.at_ 2).S).getD 2 0),qaa ((qad (T.at_ 2).S).getD 3 0),qaa ((qad (T.at_ 2).S).getD 4 0),qaa ((qad (T.at_ 2).S).getD 5 0),qaa ((qad (T.at_ 2).S).getD 6 0),qaa ((qad (T.at_ 2).S).getD 7 0),qaa ((qad (T.at_ 2).S).getD 8 0),qaa ((qad (T.at_ 2).S).getD 9 0),qaa ((qad (T.at_ 2).S).getD 10 0),qaa ((qad (T.at_ 2).S).getD 11 0),qaa ((qad (T.at_ 2).S).getD 12 0),qaa ((qad (T.at_ 2).S).getD 13 0),qaa ((qad (T.at_ 2).S).getD 14 0),qaa ((qad (T.at_ 2).S).getD 15 0),.slice ac.A ac.l ac.c,.slice aa.A aa.l aa.c,.pointer ap,.bool av.b,.slice none 0 0,.int .i64 (-1),.map none],true⟩] [(7,.p 0 0),(8,.v (.int .i16 v)),(9,.v (.bool (decide (v ≥ 0)))),(10,.p 1 0),(36,.v (.slice ak.A ak.l ak.c))] P' bd a_ w_) ?_ ?_
   ·
    refine wp_seq ?_
    refine qbo [(7,.p 0 0),(8,.v (.int .i16 v)),(9,.v (.bool (decide (v ≥ 0)))),(10,.p 1 0),(36,.v (.slice none 0 0)),(37,.v (.int .i32 (((lst (T.at_ 7)).length:Nat):Int))),(240,.v (.bool (decide ((((lst (T.at_ 7)).length:Nat):Int) > 0))))] eE fun _ aO=>qac ?_
    clear eE
    refine qaD aO.env_ (b:=decide ((((lst (T.at_ 7)).length:Nat):Int) > 0)) kz (fun aZ=>?_) (fun aZ=>?_)
    ·
     have hn_g334:0 < (lst (T.at_ 7)).length:=by have h_:=of_decide_eq_true aZ; omega
     refine qaq [0,1,2,3] kz ?_
     refine qcV [0,1] [2,3] [(7,.p 0 0),(8,.v (.int .i16 v)),(9,.v (.bool (decide (v ≥ 0)))),(10,.p 1 0),(37,.v (.int .i32 (((lst (T.at_ 7)).length:Nat):Int))),(241,.v (.slice none 0 0)),(242,.v (.int .i32 (((lst (T.at_ 7)).length:Nat):Int)))] aO fun _ eF=>?_
     clear aO
     refine qak (qex (A0:=none) (d:=243) (t:=132) (tn:=21) (e:=129) (size:=16) (bytes:=16) (k:=.i32) (kn:=.i32) (q:=(((lst (T.at_ 7)).length:Nat):Int)) (j:=(lst (T.at_ 7)).length) (.agg #[.int .u8 0,.int .u8 0,.int .u8 0,.int .u8 0,.int .u8 0,.int .u8 0,.int .u8 0,.int .u8 0,.int .u8 0,.int .u8 0,.int .u8 0,.int .u8 0,.int .u8 0,.int .u8 0,.int .u8 0,.int .u8 0]) eF (fun ar ay _ _ hg_g334 hcap_g334 eG=>?_) rfl hn_g334 (by have:=e32_7; omega))
     clear eF
     refine qcV [3] [] [(7,.p 0 0),(8,.v (.int .i16 v)),(9,.v (.bool (decide (v ≥ 0)))),(10,.p 1 0),(36,.v (.slice (some ⟨ar,0,none⟩) ((lst (T.at_ 7)).length) ay)),(37,.v (.int .i32 (((lst (T.at_ 7)).length:Nat):Int)))] eG fun _ eH=>qah ?_
     clear eG
     refine qac ?_
     refine wp_seq ?_
     refine qbo [(7,.p 0 0),(8,.v (.int .i16 v)),(9,.v (.bool (decide (v ≥ 0)))),(10,.p 1 0),(36,.v (.slice (some ⟨ar,0,none⟩) ((lst (T.at_ 7)).length) ay)),(37,.v (.int .i32 (((lst (T.at_ 7)).length:Nat):Int))),(38,.v (.int .i32 0))] eH fun _ bE=>?_
     clear eH
     refine qac ?_
     refine wp_block ?_
     have bF:=bE.mv
     have gX:=(bE.cast (t:=(lst (T.at_ 7)).flatMap (fun E=>qad E.S) ++ bd) rfl).pk (env':=[(7,.p 0 0),(8,.v (.int .i16 v)),(9,.v (.bool (decide (v ≥ 0)))),(10,.p 1 0),(36,.v (.slice (some ⟨ar,0,none⟩) ((lst (T.at_ 7)).length) ay)),(37,.v (.int .i32 (((lst (T.at_ 7)).length:Nat):Int))),(38,.v (.int .i32 ((0:Nat):Int)))])
     clear bE
     refine qg4 (tb:=[⟨bv,0,[.int .i16 v,.int .i32 (IntKind.i32.wrap (T.at_ 0).N),.string (bs (T.at_ 1).S),qaa ((qad (T.at_ 2).S).getD 0 0),qaa ((qad (T.at_ 2).S).getD 1 0),qaa ((qad (T.at_ 2).S).getD 2 0),qaa ((qad (T.at_ 2).S).getD 3 0),qaa ((qad (T.at_ 2).S).getD 4 0),qaa ((qad (T.at_ 2).S).getD 5 0),qaa ((qad (T.at_ 2).S).getD 6 0),qaa ((qad (T.at_ 2).S).getD 7 0),qaa ((qad (T.at_ 2).S).getD 8 0),qaa ((qad (T.at_ 2).S).getD 9 0),qaa ((qad (T.at_ 2).S).getD 10 0),qaa ((qad (T.at_ 2).S).getD 11 0),qaa ((qad (T.at_ 2).S).getD 12 0),qaa ((qad (T.at_ 2).S).getD 13 0),qaa ((qad (T.at_ 2).S).getD 14 0),qaa ((qad (T.at_ 2).S).getD 15 0),.slice ac.A ac.l ac.c,.slice aa.A aa.l aa.c,.pointer ap,.bool av.b,.slice none 0 0,.int .i64 (-1),.map none],true⟩]) (z:=.agg #[.int .u8 0,.int .u8 0,.int .u8 0,.int .u8 0,.int .u8 0,.int .u8 0,.int .u8 0,.int .u8 0,.int .u8 0,.int .u8 0,.int .u8 0,.int .u8 0,.int .u8 0,.int .u8 0,.int .u8 0,.int .u8 0]) (cl:=(fun d=>[qaa (d.o.getD 0 0),qaa (d.o.getD 1 0),qaa (d.o.getD 2 0),qaa (d.o.getD 3 0),qaa (d.o.getD 4 0),qaa (d.o.getD 5 0),qaa (d.o.getD 6 0),qaa (d.o.getD 7 0),qaa (d.o.getD 8 0),qaa (d.o.getD 9 0),qaa (d.o.getD 10 0),qaa (d.o.getD 11 0),qaa (d.o.getD 12 0),qaa (d.o.getD 13 0),qaa (d.o.getD 14 0),qaa (d.o.getD 15 0)])) (ok:=(fun _ _ d=>d.o.length = 16)) (rel:=(fun d t=>d.o = qad t.S)) (L:=lst (T.at_ 7)) (size:=16) (fun E=>qad E.S) bd (fun k=>[(7,.p 0 0),(8,.v (.int .i16 v)),(9,.v (.bool (decide (v ≥ 0)))),(10,.p 1 0),(36,.v (.slice (some ⟨ar,0,none⟩) ((lst (T.at_ 7)).length) ay)),(37,.v (.int .i32 (((lst (T.at_ 7)).length:Nat):Int))),(38,.v (.int .i32 ((k:Nat):Int)))]) gX (fun _ _ _ _ h=>h) (fun au ab _ _ gY gZ eI=>?_) (fun _ _ eJ=>?_)
     ·
      obtain ⟨jc,eK,eL⟩:∃ P',(∀ w F,P' w F → (fI w F ∧ qfb ar 16 (fun d=>[qaa (d.o.getD 0 0),qaa (d.o.getD 1 0),qaa (d.o.getD 2 0),qaa (d.o.getD 3 0),qaa (d.o.getD 4 0),qaa (d.o.getD 5 0),qaa (d.o.getD 6 0),qaa (d.o.getD 7 0),qaa (d.o.getD 8 0),qaa (d.o.getD 9 0),qaa (d.o.getD 10 0),qaa (d.o.getD 11 0),qaa (d.o.getD 12 0),qaa (d.o.getD 13 0),qaa (d.o.getD 14 0),qaa (d.o.getD 15 0)]) (fun _ _ d=>d.o.length = 16) (fun d t=>d.o = qad t.S) (lst (T.at_ 7)) au w F)) ∧ RS w (fun b o=>b = bv ∧ o < 26) F 272 ba [⟨bv,0,[.int .i16 v,.int .i32 (IntKind.i32.wrap (T.at_ 0).N),.string (bs (T.at_ 1).S),qaa ((qad (T.at_ 2).S).getD 0 0),qaa ((qad (T.at_ 2).S).getD 1 0),qaa ((qad (T.at_ 2).S).getD 2 0),qaa ((qad (T.at_ 2).S).getD 3 0),qaa ((qad (T.at_ 2).S).getD 4 0),qaa ((qad (T.at_ 2).S).getD 5 0),qaa ((qad (T.at_ 2).S).getD 6 0),qaa ((qad (T.at_ 2).S).getD 7 0),qaa ((qad (T.at_ 2).S).getD 8 0),qaa ((qad (T.at_ 2).S).getD 9 0),qaa ((qad (T.at_ 2).S).getD 10 0),qaa ((qad (T.at_ 2).S).getD 11 0),qaa ((qad (T.at_ 2).S).getD 12 0),qaa ((qad (T.at_ 2).S).getD 13 0),qaa ((qad (T.at_ 2).S).getD 14 0),qaa ((qad (T.at_ 2).S).getD 15 0),.slice ac.A ac.l ac.c,.slice aa.A aa.l aa.c,.pointer ap,.bool av.b,.slice none 0 0,.int .i64 (-1),.map none],true⟩,qbF ar 16 (.agg #[.int .u8 0,.int .u8 0,.int .u8 0,.int .u8 0,.int .u8 0,.int .u8 0,.int .u8 0,.int .u8 0,.int .u8 0,.int .u8 0,.int .u8 0,.int .u8 0,.int .u8 0,.int .u8 0,.int .u8 0,.int .u8 0]) ((lst (T.at_ 7)).length) au] [(7,.p 0 0),(8,.v (.int .i16 v)),(9,.v (.bool (decide (v ≥ 0)))),(10,.p 1 0),(36,.v (.slice (some ⟨ar,0,none⟩) ((lst (T.at_ 7)).length) ay)),(37,.v (.int .i32 (((lst (T.at_ 7)).length:Nat):Int))),(38,.v (.int .i32 ((au:Nat):Int)))] P' ((fun E=>qad E.S) ab ++ (((lst (T.at_ 7)).drop (au + 1)).flatMap (fun E=>qad E.S) ++ bd)) _ _:=⟨_,fun _ _ h=>h,eI⟩
      clear eI
      obtain ⟨hC,eM⟩:∃ R,R = ((lst (T.at_ 7)).drop (au + 1)).flatMap (fun E=>qad E.S) ++ bd:=⟨_,rfl⟩
      have eN:=eL.cast (t:=(fun E=>qad E.S) ab ++ hC) (by rw [eM])
      clear eL
      have eO:=eN.cast (t:=(qad ab.S) ++ hC) rfl
      clear eN
      refine wp_seq ?_
      refine wp_seq ?_
      refine qbo [(7,.p 0 0),(8,.v (.int .i16 v)),(9,.v (.bool (decide (v ≥ 0)))),(10,.p 1 0),(36,.v (.slice (some ⟨ar,0,none⟩) ((lst (T.at_ 7)).length) ay)),(37,.v (.int .i32 (((lst (T.at_ 7)).length:Nat):Int))),(38,.v (.int .i32 ((au:Nat):Int))),(246,.v (.bool (decide (((au:Nat):Int) < (((lst (T.at_ 7)).length:Nat):Int)))))] eO fun _ bG=>qac ?_
      clear eO
      refine qbk bG.env_ (b:=decide (((au:Nat):Int) < (((lst (T.at_ 7)).length:Nat):Int))) kz (decide_eq_true (by omega)) ?_
      refine wp_skip ?_
      refine qac ?_
      refine wp_seq ?_
      refine wp_block ?_
      refine wp_seq ?_
      refine qaq [0,1,2] kz ?_
      refine qak (qfV (d:=249) bG (qk4 ab.S _) Tryz.call168 fun _ _ eP=>?_)
      clear bG
      refine qak (qht (d:=39) [.int .u8 0,.int .u8 0,.int .u8 0,.int .u8 0,.int .u8 0,.int .u8 0,.int .u8 0,.int .u8 0,.int .u8 0,.int .u8 0,.int .u8 0,.int .u8 0,.int .u8 0,.int .u8 0,.int .u8 0,.int .u8 0] eP fun hJ _ _ hb_b358 eQ=>?_)
      clear eP
      have eR:=(eQ.tbEq (tb':=[⟨bv,0,[.int .i16 v,.int .i32 (IntKind.i32.wrap (T.at_ 0).N),.string (bs (T.at_ 1).S),qaa ((qad (T.at_ 2).S).getD 0 0),qaa ((qad (T.at_ 2).S).getD 1 0),qaa ((qad (T.at_ 2).S).getD 2 0),qaa ((qad (T.at_ 2).S).getD 3 0),qaa ((qad (T.at_ 2).S).getD 4 0),qaa ((qad (T.at_ 2).S).getD 5 0),qaa ((qad (T.at_ 2).S).getD 6 0),qaa ((qad (T.at_ 2).S).getD 7 0),qaa ((qad (T.at_ 2).S).getD 8 0),qaa ((qad (T.at_ 2).S).getD 9 0),qaa ((qad (T.at_ 2).S).getD 10 0),qaa ((qad (T.at_ 2).S).getD 11 0),qaa ((qad (T.at_ 2).S).getD 12 0),qaa ((qad (T.at_ 2).S).getD 13 0),qaa ((qad (T.at_ 2).S).getD 14 0),qaa ((qad (T.at_ 2).S).getD 15 0),.slice ac.A ac.l ac.c,.slice aa.A aa.l aa.c,.pointer ap,.bool av.b,.slice none 0 0,.int .i64 (-1),.map none],true⟩,qbF ar 16 (.agg #[.int .u8 0,.int .u8 0,.int .u8 0,.int .u8 0,.int .u8 0,.int .u8 0,.int .u8 0,.int .u8 0,.int .u8 0,.int .u8 0,.int .u8 0,.int .u8 0,.int .u8 0,.int .u8 0,.int .u8 0,.int .u8 0]) ((lst (T.at_ 7)).length) au,⟨hJ,0,[.int .u8 0,.int .u8 0,.int .u8 0,.int .u8 0,.int .u8 0,.int .u8 0,.int .u8 0,.int .u8 0,.int .u8 0,.int .u8 0,.int .u8 0,.int .u8 0,.int .u8 0,.int .u8 0,.int .u8 0,.int .u8 0],true⟩]) rfl).pk (env':=[(7,.p 0 0),(8,.v (.int .i16 v)),(9,.v (.bool (decide (v ≥ 0)))),(10,.p 1 0),(36,.v (.slice (some ⟨ar,0,none⟩) ((lst (T.at_ 7)).length) ay)),(37,.v (.int .i32 (((lst (T.at_ 7)).length:Nat):Int))),(38,.v (.int .i32 ((au:Nat):Int))),(246,.v (.bool (decide (((au:Nat):Int) < (((lst (T.at_ 7)).length:Nat):Int))))),(249,.v (.agg #[qaa ((qad ab.S).getD 0 0),qaa ((qad ab.S).getD 1 0),qaa ((qad ab.S).getD 2 0),qaa ((qad ab.S).getD 3 0),qaa ((qad ab.S).getD 4 0),qaa ((qad ab.S).getD 5 0),qaa ((qad ab.S).getD 6 0),qaa ((qad ab.S).getD 7 0),qaa ((qad ab.S).getD 8 0),qaa ((qad ab.S).getD 9 0),qaa ((qad ab.S).getD 10 0),qaa ((qad ab.S).getD 11 0),qaa ((qad ab.S).getD 12 0),qaa ((qad ab.S).getD 13 0),qaa ((qad ab.S).getD 14 0),qaa ((qad ab.S).getD 15 0)])),(39,.p 3 0)])
      clear eQ
      refine qak (qdQ [⟨bv,0,[.int .i16 v,.int .i32 (IntKind.i32.wrap (T.at_ 0).N),.string (bs (T.at_ 1).S),qaa ((qad (T.at_ 2).S).getD 0 0),qaa ((qad (T.at_ 2).S).getD 1 0),qaa ((qad (T.at_ 2).S).getD 2 0),qaa ((qad (T.at_ 2).S).getD 3 0),qaa ((qad (T.at_ 2).S).getD 4 0),qaa ((qad (T.at_ 2).S).getD 5 0),qaa ((qad (T.at_ 2).S).getD 6 0),qaa ((qad (T.at_ 2).S).getD 7 0),qaa ((qad (T.at_ 2).S).getD 8 0),qaa ((qad (T.at_ 2).S).getD 9 0),qaa ((qad (T.at_ 2).S).getD 10 0),qaa ((qad (T.at_ 2).S).getD 11 0),qaa ((qad (T.at_ 2).S).getD 12 0),qaa ((qad (T.at_ 2).S).getD 13 0),qaa ((qad (T.at_ 2).S).getD 14 0),qaa ((qad (T.at_ 2).S).getD 15 0),.slice ac.A ac.l ac.c,.slice aa.A aa.l aa.c,.pointer ap,.bool av.b,.slice none 0 0,.int .i64 (-1),.map none],true⟩,qbF ar 16 (.agg #[.int .u8 0,.int .u8 0,.int .u8 0,.int .u8 0,.int .u8 0,.int .u8 0,.int .u8 0,.int .u8 0,.int .u8 0,.int .u8 0,.int .u8 0,.int .u8 0,.int .u8 0,.int .u8 0,.int .u8 0,.int .u8 0]) ((lst (T.at_ 7)).length) au,⟨hJ,0,[qaa ((qad ab.S).getD 0 0),qaa ((qad ab.S).getD 1 0),qaa ((qad ab.S).getD 2 0),qaa ((qad ab.S).getD 3 0),qaa ((qad ab.S).getD 4 0),qaa ((qad ab.S).getD 5 0),qaa ((qad ab.S).getD 6 0),qaa ((qad ab.S).getD 7 0),qaa ((qad ab.S).getD 8 0),qaa ((qad ab.S).getD 9 0),qaa ((qad ab.S).getD 10 0),qaa ((qad ab.S).getD 11 0),qaa ((qad ab.S).getD 12 0),qaa ((qad ab.S).getD 13 0),qaa ((qad ab.S).getD 14 0),qaa ((qad ab.S).getD 15 0)],true⟩] 2 eR fun _ eS=>?_)
      clear eR
      refine qah ?_
      have eU:=eS.pk (env':=[(7,.p 0 0),(8,.v (.int .i16 v)),(9,.v (.bool (decide (v ≥ 0)))),(10,.p 1 0),(36,.v (.slice (some ⟨ar,0,none⟩) ((lst (T.at_ 7)).length) ay)),(37,.v (.int .i32 (((lst (T.at_ 7)).length:Nat):Int))),(38,.v (.int .i32 ((au:Nat):Int))),(39,.p 3 0)])
      clear eS
      refine qac ?_
      refine qaq [0,1,2,3,4] kz ?_
      refine qcV [0,1,2] [3,4] [(7,.p 0 0),(8,.v (.int .i16 v)),(9,.v (.bool (decide (v ≥ 0)))),(10,.p 1 0),(36,.v (.slice (some ⟨ar,0,none⟩) ((lst (T.at_ 7)).length) ay)),(37,.v (.int .i32 (((lst (T.at_ 7)).length:Nat):Int))),(38,.v (.int .i32 ((au:Nat):Int))),(250,.v (.slice (some ⟨ar,0,none⟩) ((lst (T.at_ 7)).length) ay)),(251,.v (.int .i32 ((au:Nat):Int))),(252,.v (.agg #[qaa ((qad ab.S).getD 0 0),qaa ((qad ab.S).getD 1 0),qaa ((qad ab.S).getD 2 0),qaa ((qad ab.S).getD 3 0),qaa ((qad ab.S).getD 4 0),qaa ((qad ab.S).getD 5 0),qaa ((qad ab.S).getD 6 0),qaa ((qad ab.S).getD 7 0),qaa ((qad ab.S).getD 8 0),qaa ((qad ab.S).getD 9 0),qaa ((qad ab.S).getD 10 0),qaa ((qad ab.S).getD 11 0),qaa ((qad ab.S).getD 12 0),qaa ((qad ab.S).getD 13 0),qaa ((qad ab.S).getD 14 0),qaa ((qad ab.S).getD 15 0)]))] eU fun _ eV=>?_
      clear eU
      have eW:=RS.dropT (tb:=[⟨bv,0,[.int .i16 v,.int .i32 (IntKind.i32.wrap (T.at_ 0).N),.string (bs (T.at_ 1).S),qaa ((qad (T.at_ 2).S).getD 0 0),qaa ((qad (T.at_ 2).S).getD 1 0),qaa ((qad (T.at_ 2).S).getD 2 0),qaa ((qad (T.at_ 2).S).getD 3 0),qaa ((qad (T.at_ 2).S).getD 4 0),qaa ((qad (T.at_ 2).S).getD 5 0),qaa ((qad (T.at_ 2).S).getD 6 0),qaa ((qad (T.at_ 2).S).getD 7 0),qaa ((qad (T.at_ 2).S).getD 8 0),qaa ((qad (T.at_ 2).S).getD 9 0),qaa ((qad (T.at_ 2).S).getD 10 0),qaa ((qad (T.at_ 2).S).getD 11 0),qaa ((qad (T.at_ 2).S).getD 12 0),qaa ((qad (T.at_ 2).S).getD 13 0),qaa ((qad (T.at_ 2).S).getD 14 0),qaa ((qad (T.at_ 2).S).getD 15 0),.slice ac.A ac.l ac.c,.slice aa.A aa.l aa.c,.pointer ap,.bool av.b,.slice none 0 0,.int .i64 (-1),.map none],true⟩,qbF ar 16 (.agg #[.int .u8 0,.int .u8 0,.int .u8 0,.int .u8 0,.int .u8 0,.int .u8 0,.int .u8 0,.int .u8 0,.int .u8 0,.int .u8 0,.int .u8 0,.int .u8 0,.int .u8 0,.int .u8 0,.int .u8 0,.int .u8 0]) ((lst (T.at_ 7)).length) au]) eV hb_b358 kz
      clear eV
      refine qak (qhv (t:=132) (e:=129) (size:=16) (bytes:=16) (d:=253) (tb:=[⟨bv,0,[.int .i16 v,.int .i32 (IntKind.i32.wrap (T.at_ 0).N),.string (bs (T.at_ 1).S),qaa ((qad (T.at_ 2).S).getD 0 0),qaa ((qad (T.at_ 2).S).getD 1 0),qaa ((qad (T.at_ 2).S).getD 2 0),qaa ((qad (T.at_ 2).S).getD 3 0),qaa ((qad (T.at_ 2).S).getD 4 0),qaa ((qad (T.at_ 2).S).getD 5 0),qaa ((qad (T.at_ 2).S).getD 6 0),qaa ((qad (T.at_ 2).S).getD 7 0),qaa ((qad (T.at_ 2).S).getD 8 0),qaa ((qad (T.at_ 2).S).getD 9 0),qaa ((qad (T.at_ 2).S).getD 10 0),qaa ((qad (T.at_ 2).S).getD 11 0),qaa ((qad (T.at_ 2).S).getD 12 0),qaa ((qad (T.at_ 2).S).getD 13 0),qaa ((qad (T.at_ 2).S).getD 14 0),qaa ((qad (T.at_ 2).S).getD 15 0),.slice ac.A ac.l ac.c,.slice aa.A aa.l aa.c,.pointer ap,.bool av.b,.slice none 0 0,.int .i64 (-1),.map none],true⟩]) (z:=.agg #[.int .u8 0,.int .u8 0,.int .u8 0,.int .u8 0,.int .u8 0,.int .u8 0,.int .u8 0,.int .u8 0,.int .u8 0,.int .u8 0,.int .u8 0,.int .u8 0,.int .u8 0,.int .u8 0,.int .u8 0,.int .u8 0]) eW gZ rfl kz fun _ eX=>?_)
      clear eW
      refine qak (qdQ [⟨bv,0,[.int .i16 v,.int .i32 (IntKind.i32.wrap (T.at_ 0).N),.string (bs (T.at_ 1).S),qaa ((qad (T.at_ 2).S).getD 0 0),qaa ((qad (T.at_ 2).S).getD 1 0),qaa ((qad (T.at_ 2).S).getD 2 0),qaa ((qad (T.at_ 2).S).getD 3 0),qaa ((qad (T.at_ 2).S).getD 4 0),qaa ((qad (T.at_ 2).S).getD 5 0),qaa ((qad (T.at_ 2).S).getD 6 0),qaa ((qad (T.at_ 2).S).getD 7 0),qaa ((qad (T.at_ 2).S).getD 8 0),qaa ((qad (T.at_ 2).S).getD 9 0),qaa ((qad (T.at_ 2).S).getD 10 0),qaa ((qad (T.at_ 2).S).getD 11 0),qaa ((qad (T.at_ 2).S).getD 12 0),qaa ((qad (T.at_ 2).S).getD 13 0),qaa ((qad (T.at_ 2).S).getD 14 0),qaa ((qad (T.at_ 2).S).getD 15 0),.slice ac.A ac.l ac.c,.slice aa.A aa.l aa.c,.pointer ap,.bool av.b,.slice none 0 0,.int .i64 (-1),.map none],true⟩,qbF ar 16 (.agg #[.int .u8 0,.int .u8 0,.int .u8 0,.int .u8 0,.int .u8 0,.int .u8 0,.int .u8 0,.int .u8 0,.int .u8 0,.int .u8 0,.int .u8 0,.int .u8 0,.int .u8 0,.int .u8 0,.int .u8 0,.int .u8 0]) ((lst (T.at_ 7)).length) (au + 1),⟨ar,au * 16,[qaa ((qad ab.S).getD 0 0),qaa ((qad ab.S).getD 1 0),qaa ((qad ab.S).getD 2 0),qaa ((qad ab.S).getD 3 0),qaa ((qad ab.S).getD 4 0),qaa ((qad ab.S).getD 5 0),qaa ((qad ab.S).getD 6 0),qaa ((qad ab.S).getD 7 0),qaa ((qad ab.S).getD 8 0),qaa ((qad ab.S).getD 9 0),qaa ((qad ab.S).getD 10 0),qaa ((qad ab.S).getD 11 0),qaa ((qad ab.S).getD 12 0),qaa ((qad ab.S).getD 13 0),qaa ((qad ab.S).getD 14 0),qaa ((qad ab.S).getD 15 0)],true⟩] 2 eX fun _ eY=>qah ?_)
      clear eX
      have eZ:=eY.pk (env':=[(7,.p 0 0),(8,.v (.int .i16 v)),(9,.v (.bool (decide (v ≥ 0)))),(10,.p 1 0),(36,.v (.slice (some ⟨ar,0,none⟩) ((lst (T.at_ 7)).length) ay)),(37,.v (.int .i32 (((lst (T.at_ 7)).length:Nat):Int))),(38,.v (.int .i32 ((au:Nat):Int)))])
      clear eY
      refine qax ?_
      refine qac ?_
      refine qbo [(7,.p 0 0),(8,.v (.int .i16 v)),(9,.v (.bool (decide (v ≥ 0)))),(10,.p 1 0),(36,.v (.slice (some ⟨ar,0,none⟩) ((lst (T.at_ 7)).length) ay)),(37,.v (.int .i32 (((lst (T.at_ 7)).length:Nat):Int))),(38,.v (.int .i32 (IntKind.i32.wrap (((au:Nat):Int) + 1))))] eZ fun _ e9=>?_
      clear eZ
      refine qac ?_
      have hK:=(e9.envEq (env':=[(7,.p 0 0),(8,.v (.int .i16 v)),(9,.v (.bool (decide (v ≥ 0)))),(10,.p 1 0),(36,.v (.slice (some ⟨ar,0,none⟩) ((lst (T.at_ 7)).length) ay)),(37,.v (.int .i32 (((lst (T.at_ 7)).length:Nat):Int))),(38,.v (.int .i32 ((au + 1:Nat):Int)))]) (by rw [qfX (by have:=e32_7; omega)])).pk (env':=[(7,.p 0 0),(8,.v (.int .i16 v)),(9,.v (.bool (decide (v ≥ 0)))),(10,.p 1 0),(36,.v (.slice (some ⟨ar,0,none⟩) ((lst (T.at_ 7)).length) ay)),(37,.v (.int .i32 (((lst (T.at_ 7)).length:Nat):Int))),(38,.v (.int .i32 ((au + 1:Nat):Int)))])
      clear e9
      exact (RS.thing (tb:=[⟨bv,0,[.int .i16 v,.int .i32 (IntKind.i32.wrap (T.at_ 0).N),.string (bs (T.at_ 1).S),qaa ((qad (T.at_ 2).S).getD 0 0),qaa ((qad (T.at_ 2).S).getD 1 0),qaa ((qad (T.at_ 2).S).getD 2 0),qaa ((qad (T.at_ 2).S).getD 3 0),qaa ((qad (T.at_ 2).S).getD 4 0),qaa ((qad (T.at_ 2).S).getD 5 0),qaa ((qad (T.at_ 2).S).getD 6 0),qaa ((qad (T.at_ 2).S).getD 7 0),qaa ((qad (T.at_ 2).S).getD 8 0),qaa ((qad (T.at_ 2).S).getD 9 0),qaa ((qad (T.at_ 2).S).getD 10 0),qaa ((qad (T.at_ 2).S).getD 11 0),qaa ((qad (T.at_ 2).S).getD 12 0),qaa ((qad (T.at_ 2).S).getD 13 0),qaa ((qad (T.at_ 2).S).getD 14 0),qaa ((qad (T.at_ 2).S).getD 15 0),.slice ac.A ac.l ac.c,.slice aa.A aa.l aa.c,.pointer ap,.bool av.b,.slice none 0 0,.int .i64 (-1),.map none],true⟩]) (z:=.agg #[.int .u8 0,.int .u8 0,.int .u8 0,.int .u8 0,.int .u8 0,.int .u8 0,.int .u8 0,.int .u8 0,.int .u8 0,.int .u8 0,.int .u8 0,.int .u8 0,.int .u8 0,.int .u8 0,.int .u8 0,.int .u8 0]) (D:=dvO none (qad ab.S) 0) (hK.cast eM) hg_g334 gY (fun _ _ _ _ h=>h) bF rfl (fun w F h_=>⟨(eK _ _ h_).1,(eK _ _ h_).2,qcw _,rfl⟩) kz)
     refine wp_seq ?_
     refine wp_seq ?_
     refine qbo [(7,.p 0 0),(8,.v (.int .i16 v)),(9,.v (.bool (decide (v ≥ 0)))),(10,.p 1 0),(36,.v (.slice (some ⟨ar,0,none⟩) ((lst (T.at_ 7)).length) ay)),(37,.v (.int .i32 (((lst (T.at_ 7)).length:Nat):Int))),(38,.v (.int .i32 (((lst (T.at_ 7)).length:Nat):Int))),(246,.v (.bool (decide ((((lst (T.at_ 7)).length:Nat):Int) < (((lst (T.at_ 7)).length:Nat):Int)))))] eJ fun _ fa=>qac ?_
     clear eJ
     refine qau fa.env_ (b:=decide ((((lst (T.at_ 7)).length:Nat):Int) < (((lst (T.at_ 7)).length:Nat):Int))) kz (decide_eq_false (by omega)) ?_
     refine wp_exit ?_
     refine qaw ?_
     refine qaw ?_
     refine qaP ?_
     refine qac ?_
     obtain ⟨iK,hY⟩:=RS.listEnd (tb:=[⟨bv,0,[.int .i16 v,.int .i32 (IntKind.i32.wrap (T.at_ 0).N),.string (bs (T.at_ 1).S),qaa ((qad (T.at_ 2).S).getD 0 0),qaa ((qad (T.at_ 2).S).getD 1 0),qaa ((qad (T.at_ 2).S).getD 2 0),qaa ((qad (T.at_ 2).S).getD 3 0),qaa ((qad (T.at_ 2).S).getD 4 0),qaa ((qad (T.at_ 2).S).getD 5 0),qaa ((qad (T.at_ 2).S).getD 6 0),qaa ((qad (T.at_ 2).S).getD 7 0),qaa ((qad (T.at_ 2).S).getD 8 0),qaa ((qad (T.at_ 2).S).getD 9 0),qaa ((qad (T.at_ 2).S).getD 10 0),qaa ((qad (T.at_ 2).S).getD 11 0),qaa ((qad (T.at_ 2).S).getD 12 0),qaa ((qad (T.at_ 2).S).getD 13 0),qaa ((qad (T.at_ 2).S).getD 14 0),qaa ((qad (T.at_ 2).S).getD 15 0),.slice ac.A ac.l ac.c,.slice aa.A aa.l aa.c,.pointer ap,.bool av.b,.slice none 0 0,.int .i64 (-1),.map none],true⟩]) (c:=ay) (fa.pk (env':=[(7,.p 0 0),(8,.v (.int .i16 v)),(9,.v (.bool (decide (v ≥ 0)))),(10,.p 1 0),(36,.v (.slice (some ⟨ar,0,none⟩) ((lst (T.at_ 7)).length) ay))])) hg_g334 (fun _ _ _ _ h=>h) bF hcap_g334 (by have:=e32_7; omega) hn_g334 kz
     exact ⟨dvL (some ⟨ar,0,none⟩) (lst (T.at_ 7)).length ay iK,_,fun w F h_=>⟨h_.1,⟨h_.2.1,Nat.le_trans e32_7 (by decide),h_.2.2.1⟩,⟨rfl,h_.2.2.2⟩⟩,hY⟩
    refine wp_skip ?_
    refine qac ?_
    refine wp_seq ?_
    refine qbo [(7,.p 0 0),(8,.v (.int .i16 v)),(9,.v (.bool (decide (v ≥ 0)))),(10,.p 1 0),(36,.v (.slice none 0 0)),(37,.v (.int .i32 (((lst (T.at_ 7)).length:Nat):Int))),(38,.v (.int .i32 0))] aO fun _ fb=>?_
    clear aO
    refine qac ?_
    refine wp_block ?_
    refine qeP ?_
    refine wp_seq ?_
    refine wp_seq ?_
    refine qbo [(7,.p 0 0),(8,.v (.int .i16 v)),(9,.v (.bool (decide (v ≥ 0)))),(10,.p 1 0),(36,.v (.slice none 0 0)),(37,.v (.int .i32 (((lst (T.at_ 7)).length:Nat):Int))),(38,.v (.int .i32 0)),(246,.v (.bool (decide (0 < (((lst (T.at_ 7)).length:Nat):Int)))))] fb fun _ fe=>qac ?_
    clear fb
    refine qau fe.env_ (b:=decide (0 < (((lst (T.at_ 7)).length:Nat):Int))) kz (decide_eq_false (by have h_:=of_decide_eq_false aZ; omega)) ?_
    refine wp_exit ?_
    refine qaw ?_
    refine qaw ?_
    refine qaP ?_
    refine qac ?_
    have hz_:(lst (T.at_ 7)).length = 0:=by have h_:=of_decide_eq_false aZ; omega
    exact ⟨dvL none 0 0 (fun _=>dv0),_,fun w F h_=>⟨h_,⟨Slots.nil _ _ _ _,Nat.zero_le _,fun _ h=>absurd h (Nat.not_lt_zero _)⟩,⟨hz_.symm,fun _ h=>absurd h (Nat.not_lt_zero _)⟩⟩,(fe.cast (t:=bd) (by rw [List.eq_nil_of_length_eq_zero hz_]; rfl)).pk (env':=[(7,.p 0 0),(8,.v (.int .i16 v)),(9,.v (.bool (decide (v ≥ 0)))),(10,.p 1 0),(36,.v (.slice none 0 0))])⟩
   rintro _ _ ⟨ak,jd,bH,ff⟩
   refine wp_seq ?_
   refine qbo [(7,.p 0 0),(8,.v (.int .i16 v)),(9,.v (.bool (decide (v ≥ 0)))),(10,.p 1 0),(35,.v (.slice ak.A ak.l ak.c))] ff fun _ fg=>?_
   clear ff
   refine qac ?_
   refine qcD [⟨bv,0,[.int .i16 v,.int .i32 (IntKind.i32.wrap (T.at_ 0).N),.string (bs (T.at_ 1).S),qaa ((qad (T.at_ 2).S).getD 0 0),qaa ((qad (T.at_ 2).S).getD 1 0),qaa ((qad (T.at_ 2).S).getD 2 0),qaa ((qad (T.at_ 2).S).getD 3 0),qaa ((qad (T.at_ 2).S).getD 4 0),qaa ((qad (T.at_ 2).S).getD 5 0),qaa ((qad (T.at_ 2).S).getD 6 0),qaa ((qad (T.at_ 2).S).getD 7 0),qaa ((qad (T.at_ 2).S).getD 8 0),qaa ((qad (T.at_ 2).S).getD 9 0),qaa ((qad (T.at_ 2).S).getD 10 0),qaa ((qad (T.at_ 2).S).getD 11 0),qaa ((qad (T.at_ 2).S).getD 12 0),qaa ((qad (T.at_ 2).S).getD 13 0),qaa ((qad (T.at_ 2).S).getD 14 0),qaa ((qad (T.at_ 2).S).getD 15 0),.slice ac.A ac.l ac.c,.slice aa.A aa.l aa.c,.pointer ap,.bool av.b,.slice ak.A ak.l ak.c,.int .i64 (-1),.map none],true⟩] 0 [(7,.p 0 0),(8,.v (.int .i16 v)),(9,.v (.bool (decide (v ≥ 0)))),(10,.p 1 0)] fg fun _ _ hZ=>?_
   clear fg
   refine qac ?_
   exact ⟨ak,_,fun w F h_=>⟨(bH _ _ h_).1,(bH _ _ h_).2.1,⟨fun _=>(bH _ _ h_).2.2,(fun e_=>by rw [aN] at e_; cases e_)⟩⟩,hZ.pk (env':=[(7,.p 0 0),(8,.v (.int .i16 v)),(9,.v (.bool (decide (v ≥ 0)))),(10,.p 1 0)])⟩
  have fh:=aM.cast (t:=[] ++ bd) (by rw [if_neg (by rw [aN]; decide)])
  clear aM
  have ia:=fh.cast (t:=bd) rfl
  clear fh
  refine wp_skip (qac ?_)
  exact ⟨dvL none 0 0 (fun _=>dv0),_,fun w F h_=>⟨h_,⟨Slots.nil _ _ _ _,Nat.zero_le _,fun _ h=>absurd h (Nat.not_lt_zero _)⟩,⟨(fun e_=>by rw [aN] at e_; cases e_),fun _=>⟨rfl,rfl⟩⟩⟩,ia.pk (env':=[(7,.p 0 0),(8,.v (.int .i16 v)),(9,.v (.bool (decide (v ≥ 0)))),(10,.p 1 0)])⟩
 rintro _ _ ⟨ai,iL,az,fi⟩
 refine qac ?_
 refine wp_seq ?_
 have fj:=fi.cast fN
 clear fi
 refine qdm (Mid:=fun a_ w_=>∃ (aV:DV) (P':qca),(∀ w F,P' w F → iL w F ∧ (True) ∧ ((decide (v ≥ 3)) = true → aV.n = IntKind.i64.wrap (T.at_ 8).N) ∧ ((decide (v ≥ 3)) = false → aV.n = -1)) ∧ RS w (fun b o=>b = bv ∧ o < 26) F 272 ba [⟨bv,0,[.int .i16 v,.int .i32 (IntKind.i32.wrap (T.at_ 0).N),.string (bs (T.at_ 1).S),qaa ((qad (T.at_ 2).S).getD 0 0),qaa ((qad (T.at_ 2).S).getD 1 0),qaa ((qad (T.at_ 2).S).getD 2 0),qaa ((qad (T.at_ 2).S).getD 3 0),qaa ((qad (T.at_ 2).S).getD 4 0),qaa ((qad (T.at_ 2).S).getD 5 0),qaa ((qad (T.at_ 2).S).getD 6 0),qaa ((qad (T.at_ 2).S).getD 7 0),qaa ((qad (T.at_ 2).S).getD 8 0),qaa ((qad (T.at_ 2).S).getD 9 0),qaa ((qad (T.at_ 2).S).getD 10 0),qaa ((qad (T.at_ 2).S).getD 11 0),qaa ((qad (T.at_ 2).S).getD 12 0),qaa ((qad (T.at_ 2).S).getD 13 0),qaa ((qad (T.at_ 2).S).getD 14 0),qaa ((qad (T.at_ 2).S).getD 15 0),.slice ac.A ac.l ac.c,.slice aa.A aa.l aa.c,.pointer ap,.bool av.b,.slice ai.A ai.l ai.c,.int .i64 aV.n,.map none],true⟩] [(7,.p 0 0),(9,.v (.bool (decide (v ≥ 0)))),(10,.p 1 0)] P' fL a_ w_) ?_ ?_
 ·
  refine wp_seq ?_
  refine qbo [(7,.p 0 0),(9,.v (.bool (decide (v ≥ 0)))),(10,.p 1 0),(260,.v (.bool (decide (v ≥ 3))))] fj fun _ aP=>qac ?_
  clear fj
  refine qaD aP.env_ (b:=decide (v ≥ 3)) kz (fun aQ=>?_) (fun aQ=>?_)
  ·
   have fk:=aP.cast (t:=(be 8 ((T.at_ 8).N)) ++ fL) (by rw [if_pos aQ])
   clear aP
   refine wp_seq ?_
   refine qdY (d:=261) [(7,.p 0 0),(9,.v (.bool (decide (v ≥ 0)))),(10,.p 1 0),(40,.v (.int .i64 (IntKind.i64.wrap (T.at_ 8).N)))] fk (qk3 _ _) Tryz.call169 fun _ _ fl=>?_
   clear fk
   refine qac ?_
   refine qcD [⟨bv,0,[.int .i16 v,.int .i32 (IntKind.i32.wrap (T.at_ 0).N),.string (bs (T.at_ 1).S),qaa ((qad (T.at_ 2).S).getD 0 0),qaa ((qad (T.at_ 2).S).getD 1 0),qaa ((qad (T.at_ 2).S).getD 2 0),qaa ((qad (T.at_ 2).S).getD 3 0),qaa ((qad (T.at_ 2).S).getD 4 0),qaa ((qad (T.at_ 2).S).getD 5 0),qaa ((qad (T.at_ 2).S).getD 6 0),qaa ((qad (T.at_ 2).S).getD 7 0),qaa ((qad (T.at_ 2).S).getD 8 0),qaa ((qad (T.at_ 2).S).getD 9 0),qaa ((qad (T.at_ 2).S).getD 10 0),qaa ((qad (T.at_ 2).S).getD 11 0),qaa ((qad (T.at_ 2).S).getD 12 0),qaa ((qad (T.at_ 2).S).getD 13 0),qaa ((qad (T.at_ 2).S).getD 14 0),qaa ((qad (T.at_ 2).S).getD 15 0),.slice ac.A ac.l ac.c,.slice aa.A aa.l aa.c,.pointer ap,.bool av.b,.slice ai.A ai.l ai.c,.int .i64 (IntKind.i64.wrap (T.at_ 8).N),.map none],true⟩] 0 [(7,.p 0 0),(9,.v (.bool (decide (v ≥ 0)))),(10,.p 1 0)] fl fun _ _ ib=>?_
   clear fl
   refine qac ?_
   exact ⟨dvN (IntKind.i64.wrap (T.at_ 8).N),_,fun w F h_=>⟨h_,trivial,⟨fun _=>rfl,(fun e_=>by rw [aQ] at e_; cases e_)⟩⟩,ib.pk (env':=[(7,.p 0 0),(9,.v (.bool (decide (v ≥ 0)))),(10,.p 1 0)])⟩
  have fm:=aP.cast (t:=[] ++ fL) (by rw [if_neg (by rw [aQ]; decide)])
  clear aP
  have ic:=fm.cast (t:=fL) rfl
  clear fm
  refine wp_skip (qac ?_)
  exact ⟨dvN (-1),_,fun w F h_=>⟨h_,trivial,⟨(fun e_=>by rw [aQ] at e_; cases e_),fun _=>rfl⟩⟩,ic.pk (env':=[(7,.p 0 0),(9,.v (.bool (decide (v ≥ 0)))),(10,.p 1 0)])⟩
 rintro _ _ ⟨aV,iM,ax,fo⟩
 refine qac ?_
 refine wp_seq ?_
 have fq:=fo.cast fM
 clear fo
 refine qdm (Mid:=fun a_ w_=>∃ (bN:Option Nat) (aW:List (Int × Bs)) (P':qca),(∀ w F,P' w F → iM w F ∧ (MapR w F bN aW ∧ aW.length ≤ 1000000 ∧ ∀ x ∈ aW,x.2.length < 4294967296) ∧ ((decide (v ≥ 0)) = true → aW = T.U) ∧ ((decide (v ≥ 0)) = false → aW = [])) ∧ RS w (fun b o=>b = bv ∧ o < 26) F 272 ba [⟨bv,0,[.int .i16 v,.int .i32 (IntKind.i32.wrap (T.at_ 0).N),.string (bs (T.at_ 1).S),qaa ((qad (T.at_ 2).S).getD 0 0),qaa ((qad (T.at_ 2).S).getD 1 0),qaa ((qad (T.at_ 2).S).getD 2 0),qaa ((qad (T.at_ 2).S).getD 3 0),qaa ((qad (T.at_ 2).S).getD 4 0),qaa ((qad (T.at_ 2).S).getD 5 0),qaa ((qad (T.at_ 2).S).getD 6 0),qaa ((qad (T.at_ 2).S).getD 7 0),qaa ((qad (T.at_ 2).S).getD 8 0),qaa ((qad (T.at_ 2).S).getD 9 0),qaa ((qad (T.at_ 2).S).getD 10 0),qaa ((qad (T.at_ 2).S).getD 11 0),qaa ((qad (T.at_ 2).S).getD 12 0),qaa ((qad (T.at_ 2).S).getD 13 0),qaa ((qad (T.at_ 2).S).getD 14 0),qaa ((qad (T.at_ 2).S).getD 15 0),.slice ac.A ac.l ac.c,.slice aa.A aa.l aa.c,.pointer ap,.bool av.b,.slice ai.A ai.l ai.c,.int .i64 aV.n,.map bN],true⟩] [(7,.p 0 0)] P' ([]:Bs) a_ w_) ?_ ?_
 ·
  refine wp_seq ?_
  refine qbo [(7,.p 0 0),(10,.p 1 0),(266,.v (.bool (decide (v ≥ 0))))] fq fun _ aR=>qac ?_
  clear fq
  refine qaD aR.env_ (b:=decide (v ≥ 0)) kz (fun aS=>?_) (fun aS=>?_)
  ·
   have fr:=aR.cast (t:=((uv T.U.length) ++ (qcv T.U)) ++ ([]:Bs)) (by rw [if_pos aS])
   clear aR
   refine qaq [0,1,2,3,4] kz ?_
   refine qcV [0] [1,2,3,4] [(7,.p 0 0),(267,.p 1 0)] fr fun _ ft=>?_
   clear fr
   refine qak (qfU (d:=268) ft (qkx T.U e32_U (qeN e32r) _) (fun _=>MvF.tags _ _) Tryz.call156 fun fJ je _ _ fu fv=>?_)
   clear ft
   refine qcV [2,3] [4] [(7,.p 0 0),(268,.v (.agg #[.map fJ])),(270,.p 1 25)] fv fun _ fw=>?_
   clear fv
   refine qak (qdQ [⟨bv,0,[.int .i16 v,.int .i32 (IntKind.i32.wrap (T.at_ 0).N),.string (bs (T.at_ 1).S),qaa ((qad (T.at_ 2).S).getD 0 0),qaa ((qad (T.at_ 2).S).getD 1 0),qaa ((qad (T.at_ 2).S).getD 2 0),qaa ((qad (T.at_ 2).S).getD 3 0),qaa ((qad (T.at_ 2).S).getD 4 0),qaa ((qad (T.at_ 2).S).getD 5 0),qaa ((qad (T.at_ 2).S).getD 6 0),qaa ((qad (T.at_ 2).S).getD 7 0),qaa ((qad (T.at_ 2).S).getD 8 0),qaa ((qad (T.at_ 2).S).getD 9 0),qaa ((qad (T.at_ 2).S).getD 10 0),qaa ((qad (T.at_ 2).S).getD 11 0),qaa ((qad (T.at_ 2).S).getD 12 0),qaa ((qad (T.at_ 2).S).getD 13 0),qaa ((qad (T.at_ 2).S).getD 14 0),qaa ((qad (T.at_ 2).S).getD 15 0),.slice ac.A ac.l ac.c,.slice aa.A aa.l aa.c,.pointer ap,.bool av.b,.slice ai.A ai.l ai.c,.int .i64 aV.n,.map fJ],true⟩] 0 fw fun _ fx=>?_)
   clear fw
   refine qah ?_
   have ig:=fx.pk (env':=[(7,.p 0 0)])
   clear fx
   refine qac ?_
   exact ⟨fJ,T.U,_,fun w F h_=>⟨(fu _ _ h_).1,⟨(fu _ _ h_).2,e32_U.2.1,e32_U.2.2⟩,⟨fun _=>rfl,(fun e_=>by rw [aS] at e_; cases e_)⟩⟩,ig.pk (env':=[(7,.p 0 0)])⟩
  have fy:=aR.cast (t:=[] ++ ([]:Bs)) (by rw [if_neg (by rw [aS]; decide)])
  clear aR
  have ii:=fy.cast (t:=([]:Bs)) rfl
  clear fy
  refine wp_skip (qac ?_)
  exact ⟨none,[],_,fun w F h_=>⟨h_,⟨MapR.nil _ _,Nat.zero_le _,fun _ h=>by cases h⟩,⟨(fun e_=>by rw [aS] at e_; cases e_),fun _=>rfl⟩⟩,ii.pk (env':=[(7,.p 0 0)])⟩
 rintro _ _ ⟨bN,aW,jf,ao,fz⟩
 refine qac ?_
 refine wp_seq ?_
 refine qaq [0,1] kz (qak (qg2 (d:=271) fz qi6 Tryz.call149 fun _ fA=>?_))
 clear fz
 refine qcV [1] [] [(6,.v (.nilIface))] fA fun _ fB=>qah ?_
 clear fA
 refine qac ?_
 refine wp_ret ?_
 obtain ⟨A_,m_,c_,hW_,hr_,hE_,hP_⟩:=fB.open_
 refine qaV hE_ hW_.cells (v:=.nilIface) kz ?_
 have h_:=fB.mv.mono qbw hP_
 refine ⟨(dvP bN aW [dvN (IntKind.i32.wrap (T.at_ 0).N),dvS (bs (T.at_ 1).S),dvO none (qad (T.at_ 2).S) 0,ac,aa,dvT ap (bs (qcG (T.at_ 5))),av,ai,aV]),rfl,Str.of hW_ 1 rfl,?_,?_,hW_.step⟩
 ·unfold qaZ
  exact ⟨(trivial),(by show ByteArray.size (bs _) ≤ 1000000; rw [qe6]; exact Nat.le_trans e32_1 (by decide)),(qcw _),((gK _ _ (aY _ _ (aD _ _ (aA _ _ (az _ _ (ax _ _ (ao _ _ h_).1).1).1).1).1).1).2.1),((aY _ _ (aD _ _ (aA _ _ (az _ _ (ax _ _ (ao _ _ h_).1).1).1).1).1).2.1),(⟨(aD _ _ (aA _ _ (az _ _ (ax _ _ (ao _ _ h_).1).1).1).1).2.1,by show ByteArray.size (bs _) ≤ 1000000; rw [qe6]; exact Nat.le_trans e32_5 (by decide)⟩),((aA _ _ (az _ _ (ax _ _ (ao _ _ h_).1).1).1).2.1),((az _ _ (ax _ _ (ao _ _ h_).1).1).2.1),((ax _ _ (ao _ _ h_).1).2.1),(ao _ _ h_).2.1.1,(ao _ _ h_).2.1.2.1,(ao _ _ h_).2.1.2.2,trivial⟩
 unfold qb6
 exact ⟨(rfl),(rfl),(rfl),((gK _ _ (aY _ _ (aD _ _ (aA _ _ (az _ _ (ax _ _ (ao _ _ h_).1).1).1).1).1).1).2.2),((aY _ _ (aD _ _ (aA _ _ (az _ _ (ax _ _ (ao _ _ h_).1).1).1).1).1).2.2),(⟨rfl,(aD _ _ (aA _ _ (az _ _ (ax _ _ (ao _ _ h_).1).1).1).1).2.2⟩),((aA _ _ (az _ _ (ax _ _ (ao _ _ h_).1).1).1).2.2),((az _ _ (ax _ _ (ao _ _ h_).1).1).2.2),((ax _ _ (ao _ _ h_).1).2.2),(ao _ _ h_).2.2,trivial⟩
theorem qb7:qgA qaZ:=by
 intro w w' F F' M d hs hM hF h
 unfold qaZ at h ⊢
 obtain ⟨g0,g1,g2,⟨g3,g3l,g3e⟩,⟨g4,g4l,g4e⟩,⟨g5,g5l⟩,g6,⟨g7,g7l,g7e⟩,g8,t1,t2,t3,_⟩:=h
 exact ⟨g0,g1,g2,⟨g3.move hs hM hF,g3l,fun i hi=>qaT _ hs hM hF (g3e i hi)⟩,⟨g4.move hs hM hF,g4l,fun i hi=>qaW _ hs hM hF (g4e i hi)⟩,⟨fun ad hA=>by
  obtain ⟨b,o,h1,h2⟩:=g5 ad hA
  exact ⟨b,o,h1,h2.move hs hM hF⟩,g5l⟩,g6,⟨g7.move hs hM hF,g7l,g7e⟩,g8,t1.move hs hM hF,t2,t3,trivial⟩
end Go.Proofs.YtcbpjflgkefidaaGreatDoor.ME
namespace Go.Proofs.YtcbpjflgkefidaaGreatDoor.ME
open Go
open Go.RowKit
open Go.ChangeMaps (setBlock)
set_option linter.unusedVariables false
set_option linter.unusedSimpArgs false
set_option maxRecDepth 20000
abbrev cloV (fc:Nat) (cap:Value):Value:=.func (.func fc) #[] #[cap]
theorem qla {fc:Nat} {cap:Value} {m:Option Nat} {u:List (Int × Bs)} {b o:Nat} {w:World} {F M:Nat → Nat → Prop} (hcf:∀ args w,(callFunc fc args).run Tryz.prog w = .ok (.enter fc args) w) (I:World → Nat → World → Prop) (hat:AtF w F b o [.map m]) (hm:MapR w F m u) (hMF:∀ b o,F b o → ¬ M b o) (hMlt:∀ b o,M b o → b < w.heap.size)
  (hI0:∀ w7,Step w w7 Nil → I w7 0 w7) (hIs:∀ w7 j w8,I w7 j w8 → Step w7 w8 M)
  (hI1:∀ w7,Step w w7 Nil → ∀ j k x w8 Ax cx,I w7 j w8 → u[j]? = some (k,x) → (0 ≤ k ∧ k < 4294967296) → Octs w8 (fun b o=>F b o ∧ b < w7.heap.size) Ax cx x → Calls Tryz.prog fc [.int .u32 k,.slice Ax x.length cx,cap].toArray w8 (fun e w9=>e = .returned (.tuple #[]) ∧ I w7 (j + 1) w9)) (hul:u.length ≤ 1000000) :
  Calls Tryz.prog 103 [.pointer (some ⟨b,o,none⟩),cloV fc cap].toArray w (fun e w'=>e = .returned (.tuple #[]) ∧ ∃ w7,Step w w7 Nil ∧ I w7 u.length w'):=by
 refine enter (n:=53) Tryz.func103 rfl Tryz.ntmps103 kz fun a hE=>?_
 have hW:WOk w Nil w [⟨b,o,[.map m],false⟩] []:=(WOk.start w Nil).start1 hat rfl rfl
 refine wp_seq (wp_seq ?_)
 refine qaq [0,1,2,3,4,5] kz ?_
 refine qbJ [0,1,2,3] [4,5] [0,1,11] hW (EnvOk.ptr0 (cs:=[.map m]) (r:=false) hE) (env':=[(0,.p 0 0),(1,.v (cloV fc cap)),(11,.v (.map m))]) kz rfl fun a1 hE1=>?_
 refine qak (qgc (t:=92) (kt:=62) (et:=22) hE1 (m:=m) (d:=12) kz kz hm fun a2 hE2=>?_)
 refine qbJ [5] [] [0,1,13] hW hE2 (env':=[(0,.p 0 0),(1,.v (cloV fc cap)),(13,.v (.bool (((u.length:Nat):Int) == 0)))]) kz rfl fun a3 hE3=>qah (qac ?_)
 refine qaD hE3 (b:=((u.length:Nat):Int) == 0) kz (fun hb=>?_) (fun hb=>?_)
 ·-- none
  have hu:u = []:=List.eq_nil_of_length_eq_zero (by have:=eq_of_beq hb; omega)
  subst hu
  refine wp_ret (qaE ?_)
  exact qaV hE3 hW.cells (v:=.tuple #[]) kz ⟨rfl,w,Step.refl _ _,hI0 w (Step.refl _ _)⟩
 have hu0:0 < u.length:=by have:=ne_of_beq_false hb; omega
 cases m with
 | none=>rw [hm.none_ rfl] at hu0; cases hu0
 | some mb =>
 obtain ⟨hFm,es,clk,hes,hperm,hborn,hnod,hcont⟩:=hm.some_ mb rfl
 have hmlt:mb < w.heap.size:=(Array.getElem?_eq_some_iff.1 hes).1
 have hesz:es.size = u.length:=MapR.size (w:=w) (F:=F) hperm
 refine wp_skip (qac ?_)
 refine qag [0,1,2,3,4,5,6,7] kz ?_
 refine qbJ [0,1,2,3] [4,5,6,7] [0,1,17] hW hE3 (env':=[(0,.p 0 0),(1,.v (cloV fc cap)),(17,.v (.map (some mb)))]) kz rfl fun a4 hE4=>?_
 refine qak (qgc (t:=92) (kt:=62) (et:=22) hE4 (m:=some mb) (d:=18) kz kz hm fun a5 hE5=>?_)
 refine qak (qhG (e:=62) (size:=1) (bytes:=4) (j:=u.length) (t:=186) (d:=19) hW hE5 (p:=0) (q:=((u.length:Nat):Int)) kz kz rfl rfl (by omega) fun kr a6 w1 hkr hkr0 hF1 hW1 hE6=>?_)
 refine qak (qaO hW1 hE6 (d:=4) (cs:=[.slice none 0 0]) kz fun kb a7 w2 hkb hkb0 hF2 hW2 hE7=>?_)
 refine qak (qam hW2 hE7 (oi:=1) (cs:=[.slice (some ⟨kr,0,none⟩) 0 u.length]) kz fun w3 hF3 hW3 hE8=>qah (qac ?_))
 refine wp_seq (qag [0,1,2,3,4] kz ?_)
 refine qbJ [0,1,2,3] [4] [0,1,4,23] hW3 hE8 (env':=[(0,.p 0 0),(1,.v (cloV fc cap)),(4,.p 1 0),(23,.v (.map (some mb)))]) kz rfl fun a8 hE9=>?_
 have hes3:=hW3.step.heap (fun o h=>h) hes
 refine qak (qhJ (t:=92) (kt:=62) (et:=22) (d:=24) (r:=mb) hE9 kz kz hes3 fun a9 hE10=>qah (qac ?_))
 have hW4:=hW3.next_nil (Step.alloc w3 (.mapIter (some mb) clk #[] clk))
 have hr4:(w3.alloc (.mapIter (some mb) clk #[] clk)).heap[w3.heap.size]? = some (.mapIter (some mb) clk #[] clk):=qcE _ _
 have hE11:=hE10.pick (ks:=[0,1,4,24]) (env':=[(0,.p 0 0),(1,.v (cloV fc cap)),(4,.p 1 0),(24,.v (.pointer (some ⟨w3.heap.size,0,none⟩)))]) kz
 have hrlt:w3.heap.size < (w3.alloc (.mapIter (some mb) clk #[] clk)).heap.size:=by rw [qc9]; omega
 have hr0:w.heap.size ≤ w3.heap.size:=hW3.step.size
 have hkbr:kb ≠ w3.heap.size:=by have:=hW3.live 1 _ rfl; show ¬ _; intro e; rw [← e] at this; exact absurd this (Nat.lt_irrefl _)
 have hkrr:kr ≠ w3.heap.size:=by have:=qbV (hW3.own 0 _ rfl) (g:=kr) rfl; omega
 generalize hR:w3.heap.size = R at hr4 hE11 hrlt hkbr hkrr
 generalize hw4:w3.alloc (.mapIter (some mb) clk #[] clk) = w4 at hW4 hr4 hrlt
 refine wp_block ?_
 refine wp_loop_ghost (fun q a_ w_=>∃ (vis:List MapEntry) (seen:Array Nat) (K:Option Addr) (kc c0:Nat),q = (leftOf es seen).size ∧ Vis es.toList vis seen ∧ vis.length + (leftOf es seen).size ≤ es.size ∧
   EnvOk 53 [⟨b,o,[.map (some mb)],false⟩,⟨kb,0,[.slice K vis.length kc],true⟩] [(0,.p 0 0),(1,.v (cloV fc cap)),(4,.p 1 0),(24,.v (.pointer (some ⟨R,0,none⟩)))] a_ ∧
   WOk w Nil w_ [⟨b,o,[.map (some mb)],false⟩,⟨kb,0,[.slice K vis.length kc],true⟩] [⟨K,kc,62,1,vis.length,(vis.map fun e=>kOf e.key).map (Value.int .u32)⟩] ∧
   w_.heap[R]? = some (.mapIter (some mb) clk seen c0) ∧ clk ≤ c0 ∧ K.map (·.block) ≠ some R) (leftOf es #[]).size
  ⟨[],#[],some ⟨kr,0,none⟩,u.length,clk,rfl,Vis.nil _,by rw [List.length_nil,Nat.zero_add]; exact Array.size_filter_le,by rw [← hw4] at *; exact hE11,hW4,hr4,Nat.le_refl _,by simpa using hkrr⟩ ?_
 rintro q a10 w5 ⟨vis,seen,K,kc,c0,rfl,hv,hvl,hE12,hW5,hr5,hc0,hKR⟩
 have hes5:=hW5.step.heap (fun o h=>h) hes
 refine qag [0,1] kz ?_
 refine qak (qis hE12 (d:=25) (r:=R) kz hr5 hes5 hborn hc0 (fun h0 a11 hE13=>?_) (fun e he w6 hw6 a11 hE13=>?_))
 ·-- behind it
  refine qbJ [1] [] [0,1,4,26] hW5 hE13 (env':=[(0,.p 0 0),(1,.v (cloV fc cap)),(4,.p 1 0),(26,.v (.bool false))]) kz rfl fun a12 hE14=>qah (qac (wp_seq ?_))
  refine qaD hE14 (b:=false) kz (fun hb=>by cases hb) (fun _=>?_)
  refine wp_exit (qaw (qaw (qaP (qac ?_))))
  have hpe:=hv.all h0 hnod
  have hvu:vis.length = u.length:=by rw [hpe.length_eq,Array.length_toList,hesz]
  have hkp:(vis.map fun e=>kOf e.key).Perm (u.map Prod.fst):=by
   have h1:=(hpe.map fun e=>kOf e.key)
   have h2:=hperm.map kOf
   rw [List.map_map,List.map_map] at h2
   exact h1.trans h2
  have hkl:(vis.map fun e=>kOf e.key).length = vis.length:=by simp
  generalize (vis.map fun e=>kOf e.key) = ks at hkp hkl hW5
  have hown4:w5.ownsRow 0 62 1 (.slice K vis.length kc) vis.length (ks.map (Value.int .u32)):=hW5.own 0 _ rfl
  obtain ⟨g,rfl⟩:=qbY hown4 (by omega)
  have hown5:w5.ownsRow 0 62 1 (.slice (some ⟨g,0,none⟩) vis.length kc) vis.length (ks.map (Value.int .u32)):=hown4
  have hg0:w.heap.size ≤ g:=by
   rcases hW5.ownM 0 _ rfl g rfl with h | h
   ·exact h
   exact (h 0).elim
  refine qag [0,1,2,3] kz ?_
  refine qbJ [0,1] [2,3] [0,1,4,34] hW5 hE14 (env':=[(0,.p 0 0),(1,.v (cloV fc cap)),(4,.p 1 0),(34,.v (.iface 186 (.slice (some ⟨g,0,none⟩) vis.length kc)))]) kz rfl fun a13 hE15=>?_
  refine qak (qeJ hE15 (v:=.func (.func 160) #[] #[.pointer (some ⟨kb,0,none⟩)]) (d:=35) kz fun a14 hE16=>?_)
  have hS:=Tryz.sortKeys g kc kb ks.toArray (by simp; omega) (by simp; omega) w5 (by simp only [List.size_toArray,hkl]; exact hW5.cells 1 _ rfl 0 _ rfl) (fun e=>hW5.rtb 0 _ rfl g rfl 1 _ rfl e) (qge hkl hown5) (qbV (hW5.own 0 _ rfl) (g:=g) rfl) (hW5.live 1 _ rfl)
  rw [List.size_toArray,hkl] at hS
  refine qak (qan hE16 (f:=159) (vs:=[.iface 186 (.slice (some ⟨g,0,none⟩) vis.length kc),.func (.func 160) #[] #[.pointer (some ⟨kb,0,none⟩)]]) (d:=36) kz Tryz.call159 hS ?_)
  rintro e_ w7 ⟨rfl,d',nd,os,hd1,hd2,hd3,rfl⟩
  refine ⟨_,rfl,fun a15 hE17=>qah (qac ?_)⟩
  have hus:d'.toList = u.map Prod.fst:=qit hd2 (by rw [hd1]; exact hd3) hkp (List.pairwise_map.2 hm.sorted)
  obtain ⟨hst7,hown7⟩:=qjt (n:=nd) (os:=os) hkl hown5 (by rw [hd1,hkl])
  rw [hus] at hown7
  generalize Sort.grow (Sort.putRow (Value.int .u32) (Sort.ahead w5 nd) g 0 d') os = w7 at hst7 hown7
  have hW7:WOk w Nil w7 [⟨b,o,[.map (some mb)],false⟩,⟨kb,0,[.slice (some ⟨g,0,none⟩) vis.length kc],true⟩] [⟨some ⟨g,0,none⟩,kc,62,1,vis.length,(u.map Prod.fst).map (Value.int .u32)⟩] :=
   hW5.grow (k:=0) (r':=⟨some ⟨g,0,none⟩,kc,62,1,vis.length,(u.map Prod.fst).map (Value.int .u32)⟩) rfl (hst7.mono fun b' _ _ hb'=>by rw [hb']; rfl) hown7 (fun g' h=>.inl h)
  refine qag [0,1,2] kz ?_
  refine qbJ [0,1,2] [] [0,1,37,38,39] hW7 hE17 (env':=[(0,.p 0 0),(1,.v (cloV fc cap)),(37,.v (.slice (some ⟨g,0,none⟩) vis.length kc)),(38,.v (.int .i64 ((vis.length:Nat):Int))),(39,.v (.int .i64 0))]) kz rfl fun a16 hE18=>qah (qac ?_)
  have hE19:=EnvOk.cutTb 1 hE18 kz
  have hat7:=hat.move hW7.step nilM qa7
  have hm7:=hm.move hW7.step nilM qa7
  have hg7:g < w7.heap.size:=qbV (hW7.own 0 _ rfl) (g:=g) rfl
  have hkeys:=qge (by simpa using hvu.symm) hown7
  rw [hvu] at hE19
  refine wp_block ?_
  refine wp_loop_ghost (fun q a_ w_=>∃ (j:Nat),q = u.length - j ∧ j ≤ u.length ∧ EnvOk 53 [⟨b,o,[.map (some mb)],false⟩] [(0,.p 0 0),(1,.v (cloV fc cap)),(37,.v (.slice (some ⟨g,0,none⟩) u.length kc)),(38,.v (.int .i64 ((u.length:Nat):Int))),(39,.v (.int .i64 ((j:Nat):Int)))] a_ ∧
   I w7 j w_) u.length
   ⟨0,by omega,by omega,hE19,hI0 w7 hW7.step⟩ ?_
  rintro q a17 w8 ⟨j,rfl,hj,hE20,hD⟩
  have hS8:=hIs w7 j w8 hD
  have hat8:=hat7.move hS8 (fun b o hf _=>hMF b o hf) qa7
  have hm8:MapR w8 (fun b' o'=>F b' o' ∧ b' < w7.heap.size) (some mb) u:=hm7.move hS8 (fun b o hf _=>hMF b o hf) (fun b' o' hf hl=>⟨hf,hl⟩)
  have hW8:WOk w8 Nil w8 [⟨b,o,[.map (some mb)],false⟩] []:=(WOk.start w8 Nil).start1 hat8 rfl rfl
  refine qag [0] kz (qbJ [0] [] [0,1,37,38,39,40] hW8 hE20 (env':=[(0,.p 0 0),(1,.v (cloV fc cap)),(37,.v (.slice (some ⟨g,0,none⟩) u.length kc)),(38,.v (.int .i64 ((u.length:Nat):Int))),(39,.v (.int .i64 ((j:Nat):Int))),(40,.v (.bool (decide (((j:Nat):Int) < ((u.length:Nat):Int)))))]) kz rfl fun a18 hE21=>qah (qac (wp_seq ?_)))
  refine qaD hE21 (b:=decide (((j:Nat):Int) < ((u.length:Nat):Int))) kz (fun hc=>?_) (fun hc=>?_)
  ·have hlt:j < u.length:=by have:=of_decide_eq_true hc; omega
   refine wp_skip (qac (wp_seq (wp_block ?_)))
   obtain ⟨⟨k,x⟩,hu⟩:∃ y,u[j]? = some y:=⟨_,List.getElem?_eq_getElem hlt⟩
   have hmem:=List.mem_of_getElem? hu
   have hkr:=hm.range _ hmem
   have hcell:At w8 g (0 + j * 1) [.int .u32 k]:=by
    intro i v hi
    have hi0:i = 0:=by
     have:=(List.getElem?_eq_some_iff.1 hi).1
     simp at this; omega
    subst hi0
    simp only [List.getElem?_cons_zero,Option.some.injEq] at hi
    subst hi
    refine hS8.cell (fun hbm=>?_) ?_
    ·have:=hMlt _ _ hbm; omega
    have h1:=(hkeys j (by simpa using hlt)).1
    have h2:(u.map Prod.fst).toArray[j]! = k:=by
     rw [getElem!_pos _ j (by simpa using hlt)]
     have:(u.map Prod.fst)[j]? = some k:=by rw [List.getElem?_map,hu]; rfl
     simpa using (List.getElem?_eq_some_iff.1 this).2
    rw [h2] at h1
    simpa using h1
   refine qag [0,1,2] kz ?_
   refine qak (qas hE21 (t:=186) (e:=62) (size:=1) (bytes:=4) (d:=41) (b:=g) (o:=0) (m:=u.length) (j:=j) kz kz rfl rfl hlt fun a19 hE22=>?_)
   refine qak (qaM hE22 (t:=62) (d:=42) (cs:=[.int .u32 k]) (v:=.int .u32 k) kz kz hcell fun a20 hE23=>?_)
   refine qbJ [2] [] [0,1,37,38,39,7] hW8 hE23 (env':=[(0,.p 0 0),(1,.v (cloV fc cap)),(37,.v (.slice (some ⟨g,0,none⟩) u.length kc)),(38,.v (.int .i64 ((u.length:Nat):Int))),(39,.v (.int .i64 ((j:Nat):Int))),(7,.v (.int .u32 k))]) kz rfl fun a21 hE24=>qah (qac ?_)
   refine qaq [0,1,2,3,4,5,6,7,8] kz ?_
   refine qbJ [0,1,2,3,4,5,6] [7,8] [0,1,37,38,39,43,44,48,49] hW8 hE24 (env':=[(0,.p 0 0),(1,.v (cloV fc cap)),(37,.v (.slice (some ⟨g,0,none⟩) u.length kc)),(38,.v (.int .i64 ((u.length:Nat):Int))),(39,.v (.int .i64 ((j:Nat):Int))),(43,.v (cloV fc cap)),(44,.v (.int .u32 k)),(48,.v (.map (some mb))),(49,.v (.int .u32 k))]) kz rfl fun a22 hE25=>?_
   refine qak (qiq hE25 (t:=92) (kt:=62) (et:=22) (m:=some mb) (k:=k) (s:=x) (d:=50) kz kz kz hm8 hmem fun a23 Ax cx hox hE26=>?_)
   refine qak (qan hE26 (f:=fc) (vs:=[.int .u32 k,.slice Ax x.length cx,cap]) (d:=51) kz hcf (hI1 w7 hW7.step j k x w8 Ax cx hD hu hkr hox) ?_)
   rintro e_ w9 ⟨rfl,hD2⟩
   refine ⟨_,rfl,fun a24 hE27=>qah (qax (qac ?_))⟩
   have hS9:=hIs w7 (j + 1) w9 hD2
   have hat9:=hat7.move hS9 (fun b o hf _=>hMF b o hf) qa7
   have hW9:WOk w9 Nil w9 [⟨b,o,[.map (some mb)],false⟩] []:=(WOk.start w9 Nil).start1 hat9 rfl rfl
   refine qaq [0,1] kz (qbJ [0,1] [] [0,1,37,38,39] hW9 hE27 (env':=[(0,.p 0 0),(1,.v (cloV fc cap)),(37,.v (.slice (some ⟨g,0,none⟩) u.length kc)),(38,.v (.int .i64 ((u.length:Nat):Int))),(39,.v (.int .i64 (IntKind.i64.wrap (((j:Nat):Int) + 1))))]) kz rfl fun a25 hE28=>qah (qac ?_))
   rw [qa1 (by omega)] at hE28
   exact ⟨u.length - (j + 1),by omega,j + 1,rfl,by omega,hE28,hD2⟩
  obtain rfl:j = u.length:=by have:=of_decide_eq_false hc; omega
  refine wp_exit (qaw (qaw (qaP ?_)))
  exact qbI hE21 hW8.cells (v:=.tuple #[]) kz ⟨rfl,w7,hW7.step,hD⟩
 -- one more
 have hst6:Step w5 w6 Nil:=by
  rcases hw6 with rfl | rfl
  ·exact Step.refl _ _
  exact Step.drew _
 have hr6:w6.heap[R]? = some (.mapIter (some mb) clk seen c0):=hst6.heap (fun o h=>h) hr5
 have hW6:=hW5.next_nil hst6
 obtain ⟨hml,_⟩:=mem_left he
 obtain ⟨k,sx,Ax,cx,hk1,hk2,hk3,hk4⟩:=hcont e hml
 have hR6:R < w6.heap.size:=(Array.getElem?_eq_some_iff.1 hr6).1
 have hW7:WOk w Nil (setBlock w6 R (.mapIter (some mb) clk (seen.push e.born) clk)) [⟨b,o,[.map (some mb)],false⟩,⟨kb,0,[.slice K vis.length kc],true⟩] [⟨K,kc,62,1,vis.length,(vis.map fun e=>kOf e.key).map (Value.int .u32)⟩]:=by
  refine hW6.next (Step.setBlock w6 R _) (fun b' o' hb' hN=>by omega) (fun i ob hi j hj hN=>?_) (fun i q hi g' hg' o' hN=>?_)
  ·match i,hi with
   | 0,hi =>
    simp only [List.getElem?_cons_zero,Option.some.injEq] at hi; subst hi
    have:=World.lt_of_cell (hat 0 _ rfl).2
    simp only at hN; omega
   | 1,hi =>
    simp only [List.getElem?_cons_succ,List.getElem?_cons_zero,Option.some.injEq] at hi; subst hi
    exact hkbr hN
   | i + 2,hi=>simp at hi
  match i,hi with
  | 0,hi =>
   simp only [List.getElem?_cons_zero,Option.some.injEq] at hi; subst hi
   exact hKR (by rw [← hN]; exact hg')
  | i + 1,hi=>simp at hi
 have hr7:(setBlock w6 R (.mapIter (some mb) clk (seen.push e.born) clk)).heap[R]? = some (.mapIter (some mb) clk (seen.push e.born) clk):=qei hr6
 generalize hw7:setBlock w6 R (.mapIter (some mb) clk (seen.push e.born) clk) = w7 at hW7 hr7
 refine qbJ [1] [] [0,1,4,24,26] hW7 hE13 (env':=[(0,.p 0 0),(1,.v (cloV fc cap)),(4,.p 1 0),(24,.v (.pointer (some ⟨R,0,none⟩))),(26,.v (.bool true))]) kz rfl fun a12 hE14=>qah (qac (wp_seq ?_))
 refine qaD hE14 (b:=true) kz (fun _=>?_) (fun hb=>by cases hb)
 refine wp_skip (qac (wp_block ?_))
 have hes7:=hW7.step.heap (fun o h=>h) hes
 refine qag [0,1,2] kz ?_
 refine qak (qhK hE14 (d:=27) (r:=R) kz hr7 hes7 hml hnod fun a13 hE15=>?_)
 rw [hk1] at hE15
 refine qbJ [1,2] [] [0,1,4,24,5] hW7 hE15 (env':=[(0,.p 0 0),(1,.v (cloV fc cap)),(4,.p 1 0),(24,.v (.pointer (some ⟨R,0,none⟩))),(5,.v (.int .u32 k))]) kz rfl fun a14 hE16=>qah (qac ?_)
 refine qaq [0,1,2,3,4] kz ?_
 refine qbJ [0,1] [2,3,4] [0,1,4,24,29,30] hW7 hE16 (env':=[(0,.p 0 0),(1,.v (cloV fc cap)),(4,.p 1 0),(24,.v (.pointer (some ⟨R,0,none⟩))),(29,.v (.slice K vis.length kc)),(30,.v (.int .u32 k))]) kz rfl fun a15 hE17=>?_
 have hsh:=left_shrinks es seen e he
 refine qco (t:=186) (e:=62) (size:=1) (bytes:=4) (len:=1) (cs:=[.int .u32 k]) (d1:=31) (d:=32) (k:=0) hW7 hE17 kz kz (fun _=>by kernel_rfl) rfl kz (by omega) fun K2 kc2 a16 w8 hF8 hW8 hE18=>?_
 obtain ⟨bl,hE18⟩:=hE18
 have hR7:R < w7.heap.size:=(Array.getElem?_eq_some_iff.1 hr7).1
 have hna:∀ {o'},¬ Act_ [⟨b,o,[.map (some mb)],false⟩,⟨kb,0,[.slice K vis.length kc],true⟩] [⟨K,kc,62,1,vis.length,(vis.map fun e=>kOf e.key).map (Value.int .u32)⟩] R o':=by
  rintro o' (⟨i,ob,hi,hrw,hb,_⟩ | ⟨i,q,hi,hq⟩)
  ·match i,hi with
   | 0,hi =>
    simp only [List.getElem?_cons_zero,Option.some.injEq] at hi; subst hi
    cases hrw
   | 1,hi =>
    simp only [List.getElem?_cons_succ,List.getElem?_cons_zero,Option.some.injEq] at hi; subst hi
    exact hkbr hb
   | i + 2,hi=>simp at hi
  match i,hi with
  | 0,hi =>
   simp only [List.getElem?_cons_zero,Option.some.injEq] at hi; subst hi
   exact hKR hq
  | i + 1,hi=>simp at hi
 have hK2:K2.map (·.block) ≠ some R:=fun hk=>by
  exact hF8.imm R 0 hR7 hna (.inr ⟨0,_,rfl,hk⟩)
 refine qak (qam hW8 hE18 (oi:=1) (cs:=[.slice K2 (vis.length + 1) kc2]) kz fun w9 hF9 hW9 hE19=>qah (qax (qac ?_)))
 have hr8:w9.heap[R]? = some (.mapIter (some mb) clk (seen.push e.born) clk) :=
  hF9.step.heap (fun o'=>hF8.imm R o' hR7 hna) (hF8.step.heap (fun o'=>hna) hr7)
 refine ⟨(leftOf es (seen.push e.born)).size,hsh,vis ++ [e],seen.push e.born,K2,kc2,clk,rfl,hv.push he,by rw [List.length_append,List.length_singleton]; omega,?_,?_,hr8,Nat.le_refl _,hK2⟩
 ·rw [List.length_append,List.length_singleton]
  exact hE19.pick (ks:=[0,1,4,24]) kz
 rw [List.length_append,List.length_singleton,List.map_append,List.map_append,List.map_cons,List.map_cons,hk1]
 exact hW9
end Go.Proofs.YtcbpjflgkefidaaGreatDoor.ME
namespace Go.Proofs.YtcbpjflgkefidaaGreatDoor.ME
open Go
open Go.RowKit
set_option linter.unusedVariables false
set_option linter.unusedSimpArgs false
set_option maxRecDepth 20000
section
variable {P:Program} {ops:Array Oper} {Q:Exit → Act → World → Prop} {n:Nat} {tb:Tb} {env:Env} {rs:List Rw} {w0:World} {M:Nat → Nat → Prop} {a:Act} {w:World}
theorem qey {i d j:Nat} {t e:TypeId} {size bytes:Nat} (z:Value) (cs:List Value) {N:Act → World → Prop} (hW:WOk w0 M w tb rs) (hE:EnvOk n tb env a)
  (K:∀ b a' w',b = w.heap.size → w0.heap.size ≤ b → Fr w tb rs w' (tb ++ [⟨b,0,cs,true⟩]) rs → WOk w0 M w' (tb ++ [⟨b,0,cs,true⟩]) rs → EnvOk n (tb ++ [⟨b,0,cs,true⟩]) ((d,.v (.slice (some ⟨b,0,none⟩) j j)) :: env) a' → N a' w')
  (h:qik env ops n i = some (t,((j:Nat):Int),((j:Nat):Int),d):=by kernel_rfl) (ht:qcy P t = some (e,size,bytes):=by kernel_rfl) (hz:(P.info? e).bind (·.zero) = some z:=by kernel_rfl) (hcs:(madeCells z.cells (j * size)).toList = cs:=by kernel_rfl) (hb:Nat.ble (bytes * j) 1000000 = true:=by kernel_rfl):wpOp P ops Q i N a w:=by
 obtain ⟨ht',inf,z',hi,hz',hzs,hs1,rfl,hsz,hbp⟩:=qcc ht
 obtain ⟨op,ho,hd,kl,kc,hrun⟩:=qfK (P:=P) (w:=w) hE h
 have hzz:z' = z:=by rw [hi] at hz; simp only [Option.bind_some,hz',Option.some.injEq] at hz; exact hz
 subst hzz
 have hb':=Nat.le_of_ble_eq_true hb
 have hjm:j ≤ 1000000:=by
  have:=Nat.le_mul_of_pos_left j hbp
  omega
 have hr:=run_make (P:=P) w t e inf z' ht' hi hz' kl kc (j:Int) (j:Int) (by omega) (Int.le_refl _) (by
  have:((inf.bytes * j:Nat):Int) ≤ 281474976710656:=by omega
  rwa [Int.natCast_mul] at this) (by omega)
 simp only [Int.toNat_natCast,hs1] at hr
 have hca:madeCells z'.cells (j * size) = cs.toArray:=by rw [← hcs]
 rw [hca] at hr
 refine qa5 hE ho (fun o hop=>hrun o _ _ hop hr) ?_
 refine K w.heap.size _ _ rfl hW.step.size (Fr.alloc w tb rs _ cs true) (hW.alloc cs e) ?_
 exact (hE.put hd (.v (.slice (some ⟨w.heap.size,0,none⟩) j j)) trivial).grow _
theorem qdg {i d:Nat} {src dst e:TypeId} {s:ByteArray} {N:Act → World → Prop} (hW:WOk w0 M w tb rs) (hE:EnvOk n tb env a) (hsm:s.size ≤ 1099511627776)
  (K:∀ b c a' w',Fr w tb rs w' tb rs → WOk w0 M w' tb rs → (∀ G,Octs w' (Imm G w0 w' tb rs) (some ⟨b,0,none⟩) c (sb s)) → EnvOk n tb ((d,.v (.slice (some ⟨b,0,none⟩) (sb s).length c)) :: env) a' → N a' w')
  (h:qjC tb env ops n i = some (src,dst,.string s,d):=by kernel_rfl) (hs:P.underlying src = some .string:=by kernel_rfl) (hd:P.underlying dst = some (.slice e):=by kernel_rfl) (he:P.underlying e = some (.int .u8):=by kernel_rfl):wpOp P ops Q i N a w:=by
 unfold qjC at h
 split at h
 ·rename_i src' dst' x d' hop
  split at h
  ·rename_i v hx
   simp only [Option.some.injEq,Prod.mk.injEq] at h
   obtain ⟨rfl,rfl,rfl,rfl⟩:=h
   have hdn:=(qbn hE hop).choose_spec.2.2.2.1
   have hrun:=Lib.run_convert_string_bytes (P:=P) w src' dst' e s hs hd he
   have hst:Step w (Lib.bytesWorld w e s) Nil:=⟨rfl,rfl,by rw [Lib.bytesWorld_size]; omega,fun b hb=>by rw [Lib.bytesWorld_at_old w e s b hb]; exact Keeps.refl _ _⟩
   have hlen:(sb s).length = s.size:=qih s
   have e1:=(qa3 hE hx).1
   refine qa5 hE hop (v:=.slice (some ⟨w.heap.size,0,none⟩) (sb s).length (grownCap w s.size 0 e)) (w':=Lib.bytesWorld w e s) (fun o' ho'=>?_) (K w.heap.size _ _ _ (Fr.nil tb rs hst) (hW.next_nil hst) (fun G=>?_) (hE.put hdn (.v _) trivial))
   ·unfold execOp
    rw [ho']
    simp only [SV.val] at e1
    simp only [e1,Sem.run_bind,hrun,Result.andThen_ok,Sem.run_pure,hlen]
   refine ⟨by rw [hlen]; exact grownCap_ge w s.size 0 e,by rw [hlen]; exact hsm,fun h=>(by cases h),fun ad hA _=>?_⟩
   obtain rfl:=Option.some.inj hA
   refine ⟨w.heap.size,0,rfl,fun q hq=>⟨rfl,fun j v hj=>?_⟩⟩
   have hj0:j = 0:=by
    cases j with
    | zero=>rfl
    | succ j=>simp at hj
   subst hj0
   simp only [List.getElem?_cons_zero,Option.some.injEq] at hj
   subst hj
   have h2:(Lib.bytesWorld w e s).heap.size = w.heap.size + 1:=Lib.bytesWorld_size w e s
   refine ⟨⟨.inr hW.step.size,by rw [h2]; exact Nat.lt_succ_self _,fun ha=>?_⟩,?_⟩
   ·have:=hW.act_live ha
    exact absurd this (Nat.lt_irrefl _)
   rw [Nat.zero_add,Nat.mul_one,Nat.add_zero,Lib.bytesWorld_cell w e s q (by rw [← hlen]; exact hq)]
   rfl
  cases h
 cases h
end
structure TBox (w:World) (B eT:Nat) (A:Option Addr) (cp n:Nat) (x0 x1 x2 x3:Value) (xs:List Value):Prop where
 str:Str w B [x0,x1,x2,x3,.slice A n cp]
 own:w.ownsRow 0 eT 2 (.slice A n cp) n xs
 ne:A.map (·.block) ≠ some B
def TM (B:Nat) (A:Option Addr):Nat → Nat → Prop:=fun b o=>(b = B ∧ o < 5) ∨ Blk A b o
def qjI (w:World) (B eT:Nat) (A:Option Addr) (n:Nat) (x0 x1 x2 x3:Value) (xs:List Value) (k:Int) (x:Bs):Ending → World → Prop:=fun en w' =>
 en = .returned (.tuple #[]) ∧ ∃ A' cp' Av cv,TBox w' B eT A' cp' (n + 1) x0 x1 x2 x3 (xs ++ [.int .u32 k,.slice Av x.length cv]) ∧ Octs w' (fun b o=>(w.heap.size ≤ b ∨ A.map (·.block) = some b) ∧ ¬ TM B A' b o) Av cv x ∧ Near w A A' ∧ Step w w' (TM B A)
def qff (P:Program) (fc eT:Nat):Prop:=∀ (w:World) (B cp c n:Nat) (k:Int) (A Av:Option Addr) (x:Bs) (x0 x1 x2 x3:Value) (xs:List Value) (G:Nat → Nat → Prop),TBox w B eT A cp n x0 x1 x2 x3 xs → Octs w G Av c x → (∀ b o,G b o → ¬ TM B A b o) → n ≤ 1000000 →
 Calls P fc [.int .u32 k,.slice Av x.length c,.pointer (some ⟨B,0,none⟩)].toArray w (qjI w B eT A n x0 x1 x2 x3 xs k x)
theorem TBox.wok {w:World} {B eT cp n:Nat} {A:Option Addr} {x0 x1 x2 x3:Value} {xs:List Value} (h:TBox w B eT A cp n x0 x1 x2 x3 xs):WOk w (TM B A) w [⟨B,0,[x0,x1,x2,x3,.slice A n cp],true⟩] [⟨A,cp,eT,2,n,xs⟩]:=by
 have h1:WOk w (TM B A) w [⟨B,0,[x0,x1,x2,x3,.slice A n cp],true⟩] [] :=
  (WOk.start w _).add ⟨B,0,[x0,x1,x2,x3,.slice A n cp],true⟩ (World.lt_of_cell (h.str.at_ 0 _ rfl)) (fun j v hj=>by rw [Nat.zero_add]; exact h.str.at_ j v hj) (fun _ j hj=>⟨.inr (.inl ⟨rfl,by rw [Nat.zero_add]; exact hj⟩),by rw [Nat.zero_add]; exact h.str.frz j hj⟩) (fun i ob hi=>by simp at hi) (fun i r hi=>by simp at hi)
 refine h1.addRow ⟨A,cp,eT,2,n,xs⟩ h.own (fun g hg=>.inr fun o=>.inr hg) (fun i ob hi=>?_) (fun i r hi=>by simp at hi)
 cases i with
 | zero =>
  simp only [List.getElem?_cons_zero,Option.some.injEq] at hi; subst hi
  exact h.ne
 | succ i=>simp at hi
theorem qfZ {w0 w:World} {B eT cp n:Nat} {A0 A:Option Addr} {x0 x1 x2 x3:Value} {xs:List Value} {rs:List Rw} (hW:WOk w0 (TM B A0) w [⟨B,0,[x0,x1,x2,x3,.slice A n cp],true⟩] (⟨A,cp,eT,2,n,xs⟩ :: rs)) (hB:B < w0.heap.size):TBox w B eT A cp n x0 x1 x2 x3 xs ∧ Near w0 A0 A ∧ Step w0 w (TM B A0):=by
 refine ⟨⟨Str.of hW 0 rfl,hW.own 0 _ rfl,fun e=>hW.rtb 0 _ rfl B e 0 _ rfl rfl⟩,fun g hg=>?_,hW.step⟩
 rcases hW.ownM 0 _ rfl g hg with h | h
 ·exact .inr h
 rcases h 5 with ⟨_,h⟩ | h
 ·omega
 exact .inl h
theorem qeo {w0 w:World} {B eT cp n c e8:Nat} {A0 A Av:Option Addr} {cs:List Value} {xs:List Value} {s:Bs} (hl:cs.length = 5) (hW:WOk w0 (TM B A0) w [⟨B,0,cs,true⟩] [⟨A,cp,eT,2,n,xs⟩,brow Av c e8 s]) (hsm:s.length ≤ 1099511627776):Octs w (fun b o=>(w0.heap.size ≤ b ∨ A0.map (·.block) = some b) ∧ ¬ TM B A b o) Av c s:=by
 refine qdB (hW.own 1 _ rfl) hsm fun g hg o=>⟨?_,?_⟩
 ·rcases hW.ownM 1 _ rfl g hg with h | h
  ·exact .inl h
  rcases h 5 with ⟨_,h⟩ | h
  ·omega
  exact .inr h
 rintro (⟨rfl,_⟩ | h)
 ·exact hW.rtb 1 _ rfl g hg 0 _ rfl rfl
 exact hW.rr 1 0 _ _ (by decide) rfl rfl g hg h
theorem qfg {fc eT B b o:Nat} {m:Option Nat} {u:List (Int × Bs)} {w:World} {F:Nat → Nat → Prop} {x0 x1 x2 x3:Value} (hcf:∀ args w,(callFunc fc args).run Tryz.prog w = .ok (.enter fc args) w) (hone:qff Tryz.prog fc eT) (hat:AtF w F b o [.map m]) (hm:MapR w F m u) (hB:Str w B [x0,x1,x2,x3,.slice none 0 0]) (hF:∀ b o,F b o → ¬ (b = B ∧ o < 5)) (hul:u.length ≤ 1000000) :
  Calls Tryz.prog 103 [.pointer (some ⟨b,o,none⟩),cloV fc (.pointer (some ⟨B,0,none⟩))].toArray w (fun e w'=>e = .returned (.tuple #[]) ∧ ∃ A c,Str w' B [x0,x1,x2,x3,.slice A u.length c] ∧ TagsR w' (fun b o=>w.heap.size ≤ b) A c u ∧ Step w w' (fun b o=>b = B ∧ o < 5)):=by
 have hBl:B < w.heap.size:=World.lt_of_cell (hB.at_ 0 _ rfl)
 refine (qla (M:=fun b o=>b = B ∧ o < 5) hcf (fun w7 j w8=>∃ A cp xs css,TBox w8 B eT A cp j x0 x1 x2 x3 xs ∧ Tags w8 (fun b o=>w7.heap.size ≤ b ∧ ¬ TM B A b o) xs (u.take j) css ∧ (∀ g,A.map (·.block) = some g → w7.heap.size ≤ g) ∧ Step w7 w8 (fun b o=>b = B ∧ o < 5)) hat hm hF (fun b o h=>by rw [h.1]; exact hBl) (fun w7 hs=>?_) (fun w7 j w8 h=>by obtain ⟨_,_,_,_,_,_,_,h⟩:=h; exact h) (fun w7 hs j k x w8 Ax cx hI hu hk hox=>?_) hul).mono ?_
 ·exact ⟨none,0,[],[],⟨hB.move hs fun _ h=>h,World.ownsRow_nil _ 0 eT 2,fun h=>by cases h⟩,Tags.nil _ _,fun g h=>(by cases h),Step.refl _ _⟩
 ·obtain ⟨A,cp,xs,css,hbx,hT,hA,hs8⟩:=hI
  have hj:j < u.length:=(List.getElem?_eq_some_iff.1 hu).1
  refine (hone w8 B cp cx j k A Ax x x0 x1 x2 x3 xs _ hbx hox (fun b o hf=>?_) (by omega)).mono ?_
  ·rintro (h | h)
   ·exact hF _ _ hf.1 h
   have:=hA b h; have:=hf.2; omega
  rintro e w9 ⟨rfl,A',cp',Av,cv,hbx',ho',hn,hs9⟩
  refine ⟨rfl,A',cp',_,css ++ [[.int .u32 k,.slice Av x.length cv]],hbx',?_,fun g hg=>?_,hs8.trans hs9 fun b o hb h=>?_⟩
  ·rw [qc2 hu]
   have e1:Tags w9 (fun b o=>w7.heap.size ≤ b ∧ ¬ TM B A' b o) xs (u.take j) css:=hT.move hs9 (fun b o h _=>h.2) (fun b o h hb=>⟨h.1,fun h'=>by
    rcases h' with h' | h'
    ·exact h.2 (.inl h')
    rcases hn b h' with h' | h'
    ·exact h.2 (.inr h')
    omega⟩)
   have e2:Octs w9 (fun b o=>w7.heap.size ≤ b ∧ ¬ TM B A' b o) Av cv x:=ho'.move (Step.refl _ Nil) nilM fun b o h _=>⟨by
    rcases h.1 with h' | h'
    ·exact Nat.le_trans hs8.size h'
    exact hA b h',h.2⟩
   exact e1.snoc (c:=[.int .u32 k,.slice Av x.length cv]) (x:=(k,x)) ⟨⟨_,_,rfl,e2⟩,hk.1,hk.2⟩
  ·rcases hn g hg with h | h
   ·exact hA g h
   exact Nat.le_trans hs8.size h
  rcases h with h | h
  ·exact h
  have:=hA b h; omega
 rintro e w' ⟨rfl,w7,hs,A,cp,xs,css,hbx,hT,hA,hs8⟩
 rw [List.take_length] at hT
 refine ⟨rfl,A,cp,hbx.str,?_,(hs.mono (N:=fun b o=>b = B ∧ o < 5) fun _ _ _ f=>f.elim).trans hs8 fun b o _ h=>h⟩
 exact ((hT.move (Step.refl _ Nil) nilM fun b o h _=>Nat.le_trans hs.size h.1).slots (F:=fun b o=>w.heap.size ≤ b) hbx.own rfl (by omega) fun g hg o=>Nat.le_trans hs.size (hA g hg))
def qky (A:Option Addr) (s:ByteArray):Tree:=.mk 0 (if A.isNone = true then [] else sb s) A.isNone [] []
def qkz (b:Bool):Tree:=.mk (if b = true then 1 else 0) [] false [] []
abbrev NoF:Nat → Nat → Prop:=fun _ _=>False
theorem WOk.strOut {G:Nat → Nat → Prop} {w0 w:World} {tb:Tb} {rs:List Rw} {p:Nat} {cs:List Value} (tb':Tb) (hW:WOk w0 Nil w tb rs) (ht:tb' ++ [⟨p,0,cs,true⟩] = tb:=by rfl):AtF w (Imm G w0 w tb' rs) p 0 cs:=fun j v hj=>by
 subst ht
 have hi:(tb' ++ [(⟨p,0,cs,true⟩:Ob)])[tb'.length]? = some ⟨p,0,cs,true⟩:=by rw [List.getElem?_append_right (Nat.le_refl _),Nat.sub_self]; rfl
 have h1:=hW.cells _ _ hi j v hj
 have hlt:j < cs.length:=(List.getElem?_eq_some_iff.1 hj).1
 refine ⟨⟨?_,hW.live _ _ hi,fun ha=>?_⟩,h1⟩
 ·rcases (hW.rw_ _ _ hi rfl j hlt).1 with h2 | h2
  ·exact .inr h2
  exact h2.elim
 rcases ha with ⟨k,ob,h2,h3,h4,h5,h6⟩ | ⟨k,r,h2,h3⟩
 ·have hk:k < tb'.length:=(List.getElem?_eq_some_iff.1 h2).1
  have h7:(tb' ++ [(⟨p,0,cs,true⟩:Ob)])[k]? = some ob:=by rw [List.getElem?_append_left hk]; exact h2
  rcases hW.apart k _ ob _ (by omega) h7 hi (.inr rfl) with h8 | h8 | h8
  ·exact h8 h4
  ·simp only [Nat.zero_add] at h5 h6; simp only [Nat.le_zero] at h8; omega
  simp only [Nat.zero_add] at h5 h6 h8; omega
 exact hW.rtb k r h2 p h3 _ _ hi rfl
theorem qh0 {u:List (Int × Bs)} (h:qdf u) {i j:Nat} {k k':Int} {s s':Bs} (hi:u[i]? = some (k,s)) (hj:u[j]? = some (k',s')) (hij:j < i):¬ k < k':=by
 obtain ⟨h1,h2⟩:=List.getElem?_eq_some_iff.1 hi
 obtain ⟨h3,h4⟩:=List.getElem?_eq_some_iff.1 hj
 have:=List.pairwise_iff_getElem.1 h j i h3 h1 hij
 rw [h2,h4] at this
 simp only at this
 omega
section
variable {w0 w:World} {tb:Tb} {rs:List Rw} {F:Nat → Nat → Prop}
theorem WOk.objFp (hW:WOk w0 Nil w tb rs) (i:Nat) {b:Nat} {cs:List Value} (hi:tb[i]? = some ⟨b,0,cs,true⟩):AtF w (Fp F w0) b 0 cs:=fun j v hj=>by
 have hlt:=(List.getElem?_eq_some_iff.1 hj).1
 refine ⟨?_,hW.cells i _ hi j v hj⟩
 rcases (hW.rw_ i _ hi rfl j hlt).1 with h | h
 ·exact .inr h
 exact h.elim
def TrL (w:World) (F:Nat → Nat → Prop):List (List Value) → List Tree → Prop
 | [],[]=>True
 | c :: cs,x :: xs=>TreeR w F c x ∧ TrL w F cs xs
 | _,_=>False
theorem TrL.move {w w':World} {F F' M:Nat → Nat → Prop} (hs:Step w w' M) (hM:∀ b o,F b o → b < w.heap.size → ¬ M b o) (hF:∀ b o,F b o → b < w.heap.size → F' b o):∀ {cs:List (List Value)} {l:List Tree},TrL w F cs l → TrL w' F' cs l
 | [],[],_=>trivial
 | _ :: _,_ :: _,h=>⟨h.1.move hs hM hF,TrL.move hs hM hF h.2⟩
 | [],_ :: _,h=>h.elim
 | _ :: _,[],h=>h.elim
theorem TrL.len:∀ {cs:List (List Value)} {l:List Tree},TrL w F cs l → cs.length = l.length
 | [],[],_=>rfl
 | _ :: _,_ :: _,h=>congrArg (· + 1) (TrL.len h.2)
 | [],_ :: _,h=>h.elim
 | _ :: _,[],h=>h.elim
theorem TrL.five:∀ {cs:List (List Value)} {l:List Tree},TrL w F cs l → ∀ c ∈ cs,c.length = 5
 | [],[],_=>fun c hc=>by cases hc
 | _ :: _,_ :: _,h=>fun c hc=>by
  rcases List.mem_cons.1 hc with rfl | hc
  ·exact h.1.five
  exact TrL.five h.2 c hc
 | [],_ :: _,h=>h.elim
 | _ :: _,[],h=>h.elim
theorem TrL.get:∀ {cs:List (List Value)} {l:List Tree},TrL w F cs l → ∀ (i:Nat) (x:Tree),l[i]? = some x → TreeR w F (cs.getD i []) x
 | [],[],_,i,x,hx=>by simp at hx
 | _ :: _,_ :: _,h,0,x,hx=>by
  simp only [List.getElem?_cons_zero,Option.some.injEq] at hx
  subst hx
  exact h.1
 | _ :: _,_ :: _,h,i + 1,x,hx=>TrL.get h.2 i x hx
 | [],_ :: _,h,_,_,_=>h.elim
 | _ :: _,[],h,_,_,_=>h.elim
theorem qlb {b:Nat}:∀ (css:List (List Value)) (o:Nat),AtF w F b o css.flatten → (∀ c ∈ css,c.length = 5) → ∀ i,i < css.length → (css.getD i []).length = 5 ∧ AtF w F b (o + i * 5) (css.getD i [])
 | [],o,h,hl,i,hi=>absurd hi (Nat.not_lt_zero _)
 | c :: r,o,h,hl,0,_=>⟨hl c List.mem_cons_self,fun j v hj=>by
   have hj':c[j]? = some v:=hj
   have:=h j v (by rw [List.flatten_cons,List.getElem?_append_left (List.getElem?_eq_some_iff.1 hj').1]; exact hj')
   rw [show o + 0 * 5 + j = o + j by omega]
   exact this⟩
 | c :: r,o,h,hl,i + 1,hi=>by
  have hc:=hl c List.mem_cons_self
  have:=qlb r (o + 5) (fun j v hj=>by
   have:=h (5 + j) v (by rw [List.flatten_cons,List.getElem?_append_right (by omega),show 5 + j - c.length = j by omega]; exact hj)
   rw [show o + 5 + j = o + (5 + j) by omega]
   exact this) (fun d hd=>hl d (List.mem_cons_of_mem _ hd)) i (by simpa using hi)
  rw [show o + (i + 1) * 5 = o + 5 + i * 5 by omega]
  exact this
theorem qh1 {b:Nat} {css:List (List Value)} {l:List Tree} (h:AtF w F b 0 css.flatten) (hT:TrL w F css l) (hsm:l.length ≤ 1099511627776):Slots w F 5 (some ⟨b,0,none⟩) l.length l.length (fun i=>css.getD i []) :=
 ⟨Nat.le_refl _,hsm,fun h=>(by cases h),fun ad hA _=>⟨b,0,(Option.some.inj hA).symm,fun i hi=>qlb css 0 h hT.five i (by rw [hT.len]; exact hi)⟩⟩
theorem Trees.xslen {w:World} {xs:List Value} {l:List Tree} {css:List (List Value)} (h:Trees w F xs l css):xs.length = l.length * 5:=by
 have h1:∀ css:List (List Value),(∀ c ∈ css,c.length = 5) → css.flatten.length = css.length * 5:=fun css hc=>by
  induction css with
  | nil=>rfl
  | cons c r ih =>
   rw [List.flatten_cons,List.length_append,hc c List.mem_cons_self,ih fun d hd=>hc d (List.mem_cons_of_mem _ hd),List.length_cons]
   omega
 rw [h.flat.eq,h1 css,h.len]
 intro c hc
 obtain ⟨i,hi,rfl⟩:=List.getElem_of_mem hc
 have hl:=h.len
 exact (h.each i _ _ (List.getElem?_eq_getElem hi) (List.getElem?_eq_getElem (show i < l.length by omega))).five
theorem qcr {xs zs cs:List Value} {k:Nat} (hx:xs.length = k * 5) (hz:zs.length = cs.length:=by rfl):qbj (xs ++ zs) (k * 5) cs = xs ++ cs:=by
 unfold qbj
 rw [List.take_left' hx,List.drop_of_length_le (by rw [List.length_append]; omega),List.append_nil]
structure O16 (w:World) (F:Nat → Nat → Prop) (A:Option Addr) (c:Nat) (s:Bs):Prop where
 o:Octs w F A c s
 l:s.length = 16
theorem O16.move {w w':World} {F F' M:Nat → Nat → Prop} {A:Option Addr} {c:Nat} {s:Bs} (h:O16 w F A c s) (hs:Step w w' M) (hM:∀ b o,F b o → b < w.heap.size → ¬ M b o) (hF:∀ b o,F b o → b < w.heap.size → F' b o):O16 w' F' A c s:=⟨h.o.move hs hM hF,h.l⟩
theorem O16.src {w:World} {F:Nat → Nat → Prop} {A:Option Addr} {c:Nat} {s:Bs} (h:O16 w F A c s):Src w A 16 1 (bc s):=by
 have:=h.o.src
 rwa [h.l] at this
theorem O16.cap {w:World} {F:Nat → Nat → Prop} {A:Option Addr} {c:Nat} {s:Bs} (h:O16 w F A c s):A = none → c = 0:=h.o.cap
theorem qjb {w:World} {F:Nat → Nat → Prop} {b o k:Nat} {cs:List Value} {s:Bs} (h:AtF w F b o cs) (hl:s.length = 16) (hc:∀ j,j < 16 → cs[k + j]? = some (qaa (s.getD j 0))):O16 w F (some ⟨b,o + k,none⟩) 16 s:=by
 refine ⟨⟨by omega,by omega,fun h=>(by cases h),fun ad hA _=>⟨b,o + k,(Option.some.inj hA).symm,fun i hi=>⟨rfl,fun j v hj=>?_⟩⟩⟩,hl⟩
 have hj0:j = 0:=by
  cases j with
  | zero=>rfl
  | succ j=>simp at hj
 subst hj0
 simp only [List.getElem?_cons_zero,Option.some.injEq] at hj
 subst hj
 have:=h (k + i) _ (hc i (by omega))
 rw [show o + k + i * 1 + 0 = o + (k + i) by omega]
 exact this
theorem qfh (hW:WOk w0 Nil w tb rs) {k:Nat} {A:Option Addr} {c e n:Nat} {xs:List Value} {l:List Tree} {css:List (List Value)} {b:Bool} (hk:rs[k]? = some ⟨A,c,e,5,n,xs⟩) (hT:Trees w (Imm F w0 w tb rs) xs l css) (hn:n = l.length) (hsm:l.length ≤ 1099511627776):TreeR w (Fp F w0) [.int .i64 0,.slice none 0 0,.bool b,.slice A n c,.slice none 0 0] (.mk 0 [] b l []):=by
 have h:=qhh hW hk hT hn hsm
 subst hn
 exact TreeR.mk (s:=[]) (u:=[]) _ (Octs.nil _ _) h.1 h.2 (TagsR.nil _ _)
theorem qb9 {L k:Nat} {f:Nat → Tree} (h:k < L):((List.range L).map f).take (k + 1) = ((List.range L).map f).take k ++ [f k] :=
 qc2 (by rw [List.getElem?_map,List.getElem?_range h]; rfl)
theorem qf0 {L k:Nat} {f:Nat → Tree} (h:L ≤ k):((List.range L).map f).take k = (List.range L).map f:=List.take_of_length_le (by rw [List.length_map,List.length_range]; exact h)
theorem qbZ {L:Nat} {f:Nat → Tree}:((List.range L).map f).length = L:=by rw [List.length_map,List.length_range]
theorem qf1 (hW:WOk w0 Nil w tb rs) (i:Nat) {b n2 c3:Nat} {A3:Option Addr} {u:List (Int × Bs)} {css:List (List Value)} {cs:List Value} {l:List Tree} (hi:tb[i]? = some ⟨b,0,cs,true⟩) (hT':TrL w (Fp F w0) css l) (hU:TagsR w (Fp F w0) A3 c3 u) (hf:css.flatten = cs:=by rfl) (hl:l.length = n2:=by rfl) (hn:Nat.ble n2 1000000 = true:=by kernel_rfl) :
  qdc w0 F (.mk 0 [] false l u) (.returned (.agg #[.int .i64 0,.slice none 0 0,.bool false,.slice (some ⟨b,0,none⟩) n2 n2,.slice A3 u.length c3])) w:=by
 subst hf
 subst hl
 have hn':=Nat.le_of_ble_eq_true hn
 exact ⟨_,rfl,TreeR.mk (s:=[]) _ (Octs.nil _ _) (qh1 (hW.objFp i hi) hT' (by omega)) hT'.get hU,hW.step⟩
end
def qlc (m:Nat):Prop:=∀ (ct:List Value) (t:Tree) (w:World) (F:Nat → Nat → Prop),TreeR w F ct t → t.depth ≤ m →
  Calls Tryz.prog 17 #[.agg ct.toArray] w (qdc w F t)
theorem qjc {m:Nat} (hg:qlc m) (ct:List Value) (t:Tree) (w:World) (F:Nat → Nat → Prop) (ht:TreeR w F ct t) (hd:t.depth ≤ m + 1) :
  Calls Tryz.prog 17 #[.agg ct.toArray] w (qdc w F t):=by
 obtain ⟨n1,s2,b3,l4,u5,A6,c7,A8,c9,ap,ar,dT,rfl,rfl,dw,dx,dU,dV⟩:=ht.open_
 have dy:=dw.small
 have dz:=dx.small
 obtain ⟨dW,dA,dX⟩:=dV.ex
 have dB:=dA.small
 refine enter (n:=49) Tryz.func17 rfl Tryz.ntmps17 kz fun a hE=>?_
 have hW:=WOk.start w Nil
 refine qag [0,1] kz ?_
 refine qak (qbv hW hE (d:=1) (cs:=[.int .i64 n1,.slice A6 s2.length c7,.bool b3,.slice A8 l4.length c9,.slice ap u5.length ar]) kz fun bF fk fl dY dZ d5 cX cY=>?_)
 refine qak (qaO cX cY (d:=2) (cs:=[.int .i64 0,.slice none 0 0,.bool false,.slice none 0 0,.slice none 0 0]) kz fun bG fm fo d6 d7 d8 bI cZ=>?_)
 refine qah (qac ?_)
 refine qag [0,1,2,3,4,5,6,7,8] kz ?_
 refine qal [0,1,2,3,4,5,6] [7,8] [(1,.p 0 0),(2,.p 1 0),(14,.v (.agg #[.int .i64 n1,.slice A6 s2.length c7,.bool b3,.slice none 0 0,.slice none 0 0]))] bI cZ fun fq c5=>?_
 refine qak (qaO bI c5 (d:=3) (cs:=[.int .i64 0,.slice none 0 0,.bool false,.slice none 0 0,.slice none 0 0]) kz fun bH fr ft d9 ea eb c6 da=>?_)
 refine qak (qam c6 da (oi:=2) (cs:=[.int .i64 n1,.slice A6 s2.length c7,.bool b3,.slice none 0 0,.slice none 0 0]) kz fun fu ec bz db=>?_)
 refine qah (qac ?_)
 refine wp_seq ?_
 refine qav [(1,.p 0 0),(2,.p 1 0),(3,.p 2 0),(16,.v (.slice A8 l4.length c9)),(17,.v (.int .i64 ((l4.length:Nat):Int))),(18,.v (.int .i64 0))] bz db fun fv dc=>?_
 refine wp_block ?_
 have bJ:=bz.addNil 26 5
 have ee:=bz.frNil 26 5
 refine wp_loop_ghost (fun n_ a_ w_=>∃ (k:Nat) (A_:Option Addr) (c_:Nat) (xs:List Value) (css:List (List Value)),n_ = l4.length - k ∧ k ≤ l4.length ∧ (Trees w_ (Imm F w w_ [⟨bF,0,[.int .i64 n1,.slice A6 s2.length c7,.bool b3,.slice A8 l4.length c9,.slice ap u5.length ar],true⟩,⟨bG,0,[.int .i64 0,.slice none 0 0,.bool false,.slice none 0 0,.slice none 0 0],true⟩,⟨bH,0,[.int .i64 n1,.slice A6 s2.length c7,.bool b3,.slice A_ k c_,.slice none 0 0],true⟩] [⟨A_,c_,26,5,k,xs⟩]) xs (l4.take k) css) ∧ LInv bJ 49 [⟨bF,0,[.int .i64 n1,.slice A6 s2.length c7,.bool b3,.slice A8 l4.length c9,.slice ap u5.length ar],true⟩,⟨bG,0,[.int .i64 0,.slice none 0 0,.bool false,.slice none 0 0,.slice none 0 0],true⟩,⟨bH,0,[.int .i64 n1,.slice A6 s2.length c7,.bool b3,.slice A_ k c_,.slice none 0 0],true⟩] [⟨A_,c_,26,5,k,xs⟩] [(1,.p 0 0),(2,.p 1 0),(3,.p 2 0),(16,.v (.slice A8 l4.length c9)),(17,.v (.int .i64 ((l4.length:Nat):Int))),(18,.v (.int .i64 ((k:Nat):Int)))] a_ w_) (l4.length) ⟨0,none,0,[],[],by omega,by omega,Trees.nil _ _,dc.pk,bJ,Fr.refl _ _ _⟩ ?_
 rintro fw fx fy ⟨k,A_,c_,xs,css,ef,eg,hT,de,aw,dg⟩
 refine qav [(1,.p 0 0),(2,.p 1 0),(3,.p 2 0),(16,.v (.slice A8 l4.length c9)),(17,.v (.int .i64 ((l4.length:Nat):Int))),(18,.v (.int .i64 ((k:Nat):Int))),(19,.v (.bool (decide (((k:Nat):Int) < ((l4.length:Nat):Int)))))] aw de fun fz bA=>?_
 refine wp_seq ?_
 refine qaD bA (b:=decide (((k:Nat):Int) < ((l4.length:Nat):Int))) kz (fun bB=>?_) (fun bB=>?_)
 ·
  have eh:=of_decide_eq_true bB
  refine wp_skip ?_
  refine qac ?_
  refine wp_seq ?_
  refine wp_block ?_
  refine qag [0,1,2,3] kz ?_
  obtain ⟨ei,ej,dh,ek,bf⟩:=Slots.get dx (i:=k) (by omega)
  obtain ⟨em,bC⟩:∃ x,l4[k]? = some x:=⟨_,List.getElem?_eq_getElem (by omega)⟩
  have bD:=dU k em bC
  obtain ⟨bK,bL,bM,bN,bO,bP,bQ,bR,bS,bT,bU,eo,rfl,bg,ep,eu,fA,fB⟩:=bD.open_
  rw [bg] at bD
  have dC:=ep.small
  have dD:=eu.small
  rw [bg] at bf
  refine qak (qas bA (t:=34) (A:=A8) (m:=l4.length) (q:=((k:Nat):Int)) (d:=20) kz (e:=37) (size:=5) (bytes:=88) kz dh rfl (by omega) fun fC bV=>?_)
  refine qak (qaM bV (t:=37) (b:=ei) (o:=ej + k * 5) (d:=21) kz (cs:=[.int .i64 bK,.slice bP bL.length bQ,.bool bM,.slice bR bN.length bS,.slice bT bO.length bU]) (v:=.agg #[.int .i64 bK,.slice bP bL.length bQ,.bool bM,.slice bR bN.length bS,.slice bT bO.length bU]) kz (AtF.move bf aw.step nilM qa7).at_ fun ev bW=>?_)
  refine qak (qaO aw bW (d:=5) (cs:=[.int .i64 0,.slice none 0 0,.bool false,.slice none 0 0,.slice none 0 0]) kz fun ew ey ez dE dF ax bX bY=>?_)
  refine qak (qam bX bY (oi:=3) (cs:=[.int .i64 bK,.slice bP bL.length bQ,.bool bM,.slice bR bN.length bS,.slice bT bO.length bU]) kz fun eB ay bZ b8=>?_)
  refine qah (qac ?_)
  refine qcs 7 kz bZ fun eC az ag cd=>?_
  refine qaz [0,1,2] [(1,.p 0 0),(2,.p 1 0),(3,.p 2 0),(16,.v (.slice A8 l4.length c9)),(17,.v (.int .i64 ((l4.length:Nat):Int))),(18,.v (.int .i64 ((k:Nat):Int))),(23,.v (.slice A_ k c_)),(24,.v (.agg #[.int .i64 bK,.slice bP bL.length bQ,.bool bM,.slice bR bN.length bS,.slice bT bO.length bU]))] 5 (qae (qab (qab (qae (qab qaf))))) (fun _ h=>h.cells) cd b8 fun eD ce=>?_
  refine qap (i:=3) kz (qan ce (f:=17) (vs:=[.agg #[.int .i64 bK,.slice bP bL.length bQ,.bool bM,.slice bR bN.length bS,.slice bT bO.length bU]]) (d:=25) kz Tryz.call17 ( hg _ _ _ _ (bD.move ag.step nilM ag.imm) (by have h_:=qhf bC; rw [qgk] at hd; omega)) ?_)
  rintro e_ eE ⟨dG,rfl,cg,aA⟩
  have aB:=cg.move (Step.refl _ Nil) nilM (ag.laid (G:=F) aA)
  obtain ⟨aC,aD,aE,aF,aG,aH,aI,aJ,aK,aL,aM,dH,dI,aN,di,dj,eF,eG⟩:=aB.open_
  rw [aN] at aB
  have dl:=di.small
  have dp:=dj.small
  rw [aN]
  refine ⟨_,rfl,fun eH cm=>?_⟩
  have bh:=ag.next_nil aA
  have ae:=ag.frN aA
  have cq:=TT.ofW ae bh
  refine ⟨fun _=>cq,?_⟩
  refine qap (i:=4) kz (qby bh cm (e:=26) (size:=5) (len:=1) (cs:=[.int .i64 aC,.slice aH aD.length aI,.bool aE,.slice aJ aF.length aK,.slice aL aG.length aM]) (d:=26) kz kz fun dq eI eJ dJ dK aa au cr=>?_)
  have cu:=TT.ofW (ae.trans aa) au
  refine ⟨fun _=>cu,?_⟩
  refine qap (i:=5) kz (qaJ au cr (k:=0) (d:=27) (t:=23) (e:=26) (size:=5) (bytes:=88) (A:=A_) (As:=(some ⟨dq,0,none⟩)) (m0:=k) (c:=c_) (m:=1) (cs:=1) (xs:=xs) (news:=[.int .i64 aC,.slice aH aD.length aI,.bool aE,.slice aJ aF.length aK,.slice aL aG.length aM]) kz kz rfl (qbr (au.own 1 _ rfl) (qbp kz)) (qbz (au.own 1 _ rfl)) (by omega) fun aO aP eK eL af bi cw=>?_)
  have bj:=TT.ofW ((ae.trans aa).trans af) bi
  refine ⟨fun _=>bj,?_⟩
  refine qaz [6] [(1,.p 0 0),(2,.p 1 0),(3,.p 2 0),(16,.v (.slice A8 l4.length c9)),(17,.v (.int .i64 ((l4.length:Nat):Int))),(18,.v (.int .i64 ((k:Nat):Int))),(27,.v (.slice aO (k + 1) aP)),(28,.p 2 3)] 1 (qae (qab (qab (qae (qab qaf))))) (fun _ h=>h.cells) bj cw fun eM cz=>?_
  refine qap (i:=7) kz (qam bi cz (oi:=2) (cs:=[.int .i64 n1,.slice A6 s2.length c7,.bool b3,.slice aO (k + 1) aP,.slice none 0 0]) kz fun eN ah bk cA=>?_)
  refine ⟨fun h=>absurd rfl h,?_⟩
  refine qay kz ?_ _
  refine qax ?_
  refine qac ?_
  refine qaq [0,1] kz ?_
  refine qal [0,1] [] [(1,.p 0 0),(2,.p 1 0),(3,.p 2 0),(16,.v (.slice A8 l4.length c9)),(17,.v (.int .i64 ((l4.length:Nat):Int))),(18,.v (.int .i64 (IntKind.i64.wrap (((k:Nat):Int) + 1))))] bk cA fun eO cB=>?_
  refine qah (qac ?_)
  obtain ⟨bn,cC,ai⟩:=bk.cutB cB 3 [⟨bF,0,[.int .i64 n1,.slice A6 s2.length c7,.bool b3,.slice A8 l4.length c9,.slice ap u5.length ar],true⟩,⟨bG,0,[.int .i64 0,.slice none 0 0,.bool false,.slice none 0 0,.slice none 0 0],true⟩,⟨bH,0,[.int .i64 n1,.slice A6 s2.length c7,.bool b3,.slice aO (k + 1) aP,.slice none 0 0],true⟩] [(1,.p 0 0),(2,.p 1 0),(3,.p 2 0),(16,.v (.slice A8 l4.length c9)),(17,.v (.int .i64 ((l4.length:Nat):Int))),(18,.v (.int .i64 (IntKind.i64.wrap (((k:Nat):Int) + 1))))]
  obtain ⟨cD,aj⟩:=cC.cutR 1 [⟨aO,aP,26,5,k + 1,xs ++ [.int .i64 aC,.slice aH aD.length aI,.bool aE,.slice aJ aF.length aK,.slice aL aG.length aM]⟩]
  have cE:IntKind.i64.wrap (((k:Nat):Int) + 1) = ((k + 1:Nat):Int):=qa1 (by omega)
  rw [cE] at bn
  exact ⟨l4.length - (k + 1),by omega,k + 1,aO,aP,xs ++ [Value.int .i64 aC,.slice aH aD.length aI,.bool aE,.slice aJ aF.length aK,.slice aL aG.length aM],(css ++ [[Value.int .i64 aC,.slice aH aD.length aI,.bool aE,.slice aJ aF.length aK,.slice aL aG.length aM]]),rfl,by omega,by rw [qc2 bC]; exact (hT.move ((((((((ax.trans ay).trans az).trans ae).trans aa).trans af).trans ah).trans ai).trans aj).step immM ((((((((ax.trans ay).trans az).trans ae).trans aa).trans af).trans ah).trans ai).trans aj).to').snoc (aB.move ((((aa.trans af).trans ah).trans ai).trans aj).step immM ((((aa.trans af).trans ah).trans ai).trans aj).to'),bn.pk,cD,(((((((((dg.trans ax).trans ay).trans az).trans ae).trans aa).trans af).trans ah).trans ai).trans aj)⟩
 have dL:=of_decide_eq_false bB
 refine wp_exit ?_
 refine qaw ?_
 refine qaw ?_
 refine qaP ?_
 refine qac ?_
 refine wp_seq ?_
 refine qav [(2,.p 1 0),(3,.p 2 0),(31,.v (.slice ap u5.length ar)),(32,.v (.int .i64 ((u5.length:Nat):Int))),(33,.v (.int .i64 0))] aw bA fun eP cG=>?_
 refine wp_block ?_
 have hk0:k = l4.length:=by omega
 have bo:=aw.addNil 65 2
 have bp:=aw.frNil 65 2
 refine wp_loop_ghost (fun n_ a_ w_=>∃ (q:Nat) (A5_:Option Addr) (c5_:Nat) (ys:List Value) (dss:List (List Value)),n_ = u5.length - q ∧ q ≤ u5.length ∧ (Tags w_ (Imm F w w_ [⟨bF,0,[.int .i64 n1,.slice A6 s2.length c7,.bool b3,.slice A8 l4.length c9,.slice ap u5.length ar],true⟩,⟨bG,0,[.int .i64 0,.slice none 0 0,.bool false,.slice none 0 0,.slice none 0 0],true⟩,⟨bH,0,[.int .i64 n1,.slice A6 s2.length c7,.bool b3,.slice A_ k c_,.slice A5_ q c5_],true⟩] [⟨A_,c_,26,5,k,xs⟩,⟨A5_,c5_,65,2,q,ys⟩]) ys (u5.take q) dss) ∧ LInv bo 49 [⟨bF,0,[.int .i64 n1,.slice A6 s2.length c7,.bool b3,.slice A8 l4.length c9,.slice ap u5.length ar],true⟩,⟨bG,0,[.int .i64 0,.slice none 0 0,.bool false,.slice none 0 0,.slice none 0 0],true⟩,⟨bH,0,[.int .i64 n1,.slice A6 s2.length c7,.bool b3,.slice A_ k c_,.slice A5_ q c5_],true⟩] [⟨A_,c_,26,5,k,xs⟩,⟨A5_,c5_,65,2,q,ys⟩] [(2,.p 1 0),(3,.p 2 0),(31,.v (.slice ap u5.length ar)),(32,.v (.int .i64 ((u5.length:Nat):Int))),(33,.v (.int .i64 ((q:Nat):Int)))] a_ w_) (u5.length) ⟨0,none,0,[],[],by omega,by omega,Tags.nil _ _,cG.pk,bo,Fr.refl _ _ _⟩ ?_
 rintro eQ eR eS ⟨q,A5_,c5_,ys,dss,dM,dN,hU,cH,ak,aQ⟩
 refine qav [(2,.p 1 0),(3,.p 2 0),(31,.v (.slice ap u5.length ar)),(32,.v (.int .i64 ((u5.length:Nat):Int))),(33,.v (.int .i64 ((q:Nat):Int))),(34,.v (.bool (decide (((q:Nat):Int) < ((u5.length:Nat):Int)))))] ak cH fun eU aR=>?_
 refine wp_seq ?_
 refine qaD aR (b:=decide (((q:Nat):Int) < ((u5.length:Nat):Int))) kz (fun aS=>?_) (fun aS=>?_)
 ·
  have dO:=of_decide_eq_true aS
  refine wp_skip ?_
  refine qac ?_
  refine wp_seq ?_
  refine wp_block ?_
  refine qag [0,1,2,3] kz ?_
  obtain ⟨dr,dt,cI,dP,aT⟩:=Slots.get dA (i:=q) (by omega)
  obtain ⟨⟨ab,ac⟩,bq⟩:∃ x,u5[q]? = some x:=⟨_,List.getElem?_eq_getElem (by omega)⟩
  obtain ⟨⟨al,am,bE,cJ⟩,du,dv⟩:=dX q ab ac bq
  rw [bE] at aT
  refine qak (qas aR (t:=35) (A:=ap) (m:=u5.length) (q:=((q:Nat):Int)) (d:=35) kz (e:=64) (size:=2) (bytes:=32) kz cI rfl (by omega) fun eV cK=>?_)
  refine qak (qaM cK (t:=64) (b:=dr) (o:=dt + q * 2) (d:=36) kz (cs:=[.int .u32 ab,.slice al ac.length am]) (v:=.agg #[.int .u32 ab,.slice al ac.length am]) kz (AtF.move aT ak.step nilM qa7).at_ fun eW cL=>?_)
  refine qak (qaO ak cL (d:=7) (cs:=[.int .u32 0,.slice none 0 0]) kz fun eX eY eZ dQ dR aU cM cN=>?_)
  refine qak (qam cM cN (oi:=3) (cs:=[.int .u32 ab,.slice al ac.length am]) kz fun e9 aV bt cO=>?_)
  refine qah (qac ?_)
  refine qaq [0,1,2,3,4,5,6,7,8,9,10] kz ?_
  refine qal [0,1,2,3,4,5,6] [7,8,9,10] [(2,.p 1 0),(3,.p 2 0),(31,.v (.slice ap u5.length ar)),(32,.v (.int .i64 ((u5.length:Nat):Int))),(33,.v (.int .i64 ((q:Nat):Int))),(38,.v (.slice A5_ q c5_)),(43,.v (.agg #[.int .u32 ab,.slice al ac.length am]))] bt cO fun fa cP=>?_
  refine qco bt cP (k:=1) (e:=65) (size:=2) (len:=1) (cs:=[.int .u32 ab,.slice al ac.length am]) (d1:=44) (d:=45) kz (t:=24) (bytes:=32) kz (fun _=>by kernel_rfl) rfl kz (by omega) fun ba bd fb fe aW bu ⟨_,cQ⟩=>?_
  refine qal [9] [10] [(2,.p 1 0),(3,.p 2 0),(31,.v (.slice ap u5.length ar)),(32,.v (.int .i64 ((u5.length:Nat):Int))),(33,.v (.int .i64 ((q:Nat):Int))),(45,.v (.slice ba (q + 1) bd)),(46,.p 2 4)] bu cQ fun ff cR=>?_
  refine qak (qam bu cR (oi:=2) (cs:=[.int .i64 n1,.slice A6 s2.length c7,.bool b3,.slice A_ k c_,.slice ba (q + 1) bd]) kz fun fg aX bw cS=>?_)
  refine qah ?_
  refine qax ?_
  refine qac ?_
  refine qaq [0,1] kz ?_
  refine qal [0,1] [] [(2,.p 1 0),(3,.p 2 0),(31,.v (.slice ap u5.length ar)),(32,.v (.int .i64 ((u5.length:Nat):Int))),(33,.v (.int .i64 (IntKind.i64.wrap (((q:Nat):Int) + 1))))] bw cS fun fh cT=>?_
  refine qah (qac ?_)
  obtain ⟨bx,aY,aZ⟩:=bw.cutB cT 3 [⟨bF,0,[.int .i64 n1,.slice A6 s2.length c7,.bool b3,.slice A8 l4.length c9,.slice ap u5.length ar],true⟩,⟨bG,0,[.int .i64 0,.slice none 0 0,.bool false,.slice none 0 0,.slice none 0 0],true⟩,⟨bH,0,[.int .i64 n1,.slice A6 s2.length c7,.bool b3,.slice A_ k c_,.slice ba (q + 1) bd],true⟩] [(2,.p 1 0),(3,.p 2 0),(31,.v (.slice ap u5.length ar)),(32,.v (.int .i64 ((u5.length:Nat):Int))),(33,.v (.int .i64 (IntKind.i64.wrap (((q:Nat):Int) + 1))))]
  have cU:IntKind.i64.wrap (((q:Nat):Int) + 1) = ((q + 1:Nat):Int):=qa1 (by omega)
  rw [cU] at bx
  exact ⟨u5.length - (q + 1),by omega,q + 1,ba,bd,ys ++ [Value.int .u32 ab,.slice al ac.length am],(dss ++ [[Value.int .u32 ab,.slice al ac.length am]]),rfl,by omega,by rw [qc2 bq]; exact (hU.move ((((aU.trans aV).trans aW).trans aX).trans aZ).step immM ((((aU.trans aV).trans aW).trans aX).trans aZ).to').snoc (c:=[.int .u32 ab,.slice al ac.length am]) (x:=(ab,ac)) ⟨⟨_,_,rfl,(cJ.move aY.step nilM aY.imm)⟩,du,dv⟩,bx.pk,aY,(((((aQ.trans aU).trans aV).trans aW).trans aX).trans aZ)⟩
 have dS:=of_decide_eq_false aS
 refine wp_exit ?_
 refine qaw ?_
 refine qaw ?_
 refine qaP ?_
 refine qac ?_
 refine qag [0,1] kz ?_
 refine qal [0] [1] [(2,.p 1 0),(48,.v (.agg #[.int .i64 n1,.slice A6 s2.length c7,.bool b3,.slice A_ k c_,.slice A5_ q c5_]))] ak aR fun fi cV=>?_
 refine qak (qam ak cV (oi:=1) (cs:=[.int .i64 n1,.slice A6 s2.length c7,.bool b3,.slice A_ k c_,.slice A5_ q c5_]) kz fun fj av ao cW=>?_)
 refine qah (qac ?_)
 refine wp_ret ?_
 refine qaV cW ao.cells (v:=.agg #[.int .i64 n1,.slice A6 s2.length c7,.bool b3,.slice A_ k c_,.slice A5_ q c5_]) kz ?_
 have hq0:q = u5.length:=by omega
 have hT':=(hT.move ((bp.trans aQ).trans av).step immM ((bp.trans aQ).trans av).to')
 have hU':=(hU.move av.step immM av.to')
 rw [show l4.take k = l4 by rw [hk0,List.take_length]] at hT'
 rw [show u5.take q = u5 by rw [hq0,List.take_length]] at hU'
 exact qjy ao rfl (dw.move ao.step nilM qkf) hk0 (qhh ao (k:=0) rfl hT' hk0 (by omega)) hq0 (qke ao (k:=1) rfl hU' hq0 (by omega)) rfl
theorem lGot:∀ m,qlc m
 | 0=>fun ct t w F ht hd=>by
  obtain ⟨n,s,b,l,u,A1,c1,A2,c2,A3,c3,xs,rfl,_⟩:=ht.open_
  rw [qgk] at hd; omega
 | m + 1=>qjc (lGot m)
theorem qg6 {u:List (Int × Bs)} {A:Option Addr} {c:Nat} {w:World} {F:Nat → Nat → Prop} (hu:TagsR w F A c u) (hsrt:qdf u):Calls Tryz.prog 105 #[.slice A u.length c] w (qcz w (.tuple #[])):=by
 obtain ⟨cs1,h2,h3⟩:=hu.ex
 have hsm4:=h2.small
 refine enter (n:=45) Tryz.func105 rfl Tryz.ntmps105 kz fun a hE=>?_
 have hW:=WOk.start w Nil
 refine qav [(0,.v (.slice A u.length c)),(5,.v (.int .i64 ((u.length:Nat):Int))),(6,.v (.int .i64 0))] hW hE fun a5 hE6=>?_
 refine wp_block ?_
 refine wp_loop_ghost (fun n_ a_ w_=>∃ (k:Nat),n_ = u.length - k ∧ k ≤ u.length ∧ LInv hW 45 [] [] [(0,.v (.slice A u.length c)),(5,.v (.int .i64 ((u.length:Nat):Int))),(6,.v (.int .i64 ((k:Nat):Int)))] a_ w_) (u.length) ⟨0,by omega,by omega,hE6.pk,hW,Fr.refl _ _ _⟩ ?_
 rintro n7 a8 w9 ⟨k,aW,aX,aB,ab,aj⟩
 refine qav [(0,.v (.slice A u.length c)),(5,.v (.int .i64 ((u.length:Nat):Int))),(6,.v (.int .i64 ((k:Nat):Int))),(7,.v (.bool (decide (((k:Nat):Int) < ((u.length:Nat):Int)))))] ab aB fun bn ah=>?_
 refine wp_seq ?_
 refine qaD ah (b:=decide (((k:Nat):Int) < ((u.length:Nat):Int))) kz (fun ai=>?_) (fun ai=>?_)
 ·
  have aY:=of_decide_eq_true ai
  refine wp_skip ?_
  refine qac ?_
  refine wp_seq ?_
  refine wp_block ?_
  refine qav [(0,.v (.slice A u.length c)),(2,.v (.int .i64 ((k:Nat):Int))),(5,.v (.int .i64 ((u.length:Nat):Int))),(6,.v (.int .i64 ((k:Nat):Int)))] ab ah fun bo aC=>?_
  refine qav [(0,.v (.slice A u.length c)),(3,.v (.int .i64 ((k:Nat):Int))),(5,.v (.int .i64 ((u.length:Nat):Int))),(6,.v (.int .i64 ((k:Nat):Int)))] ab aC fun bp aD=>?_
  refine wp_block ?_
  refine qeP ?_
  refine wp_seq ?_
  refine qbU kz ab fun bq ak aa=>?_
  refine qaz [0,1,2] [(0,.v (.slice A u.length c)),(3,.v (.int .i64 ((k:Nat):Int))),(5,.v (.int .i64 ((u.length:Nat):Int))),(6,.v (.int .i64 ((k:Nat):Int))),(12,.v (.bool (decide (((k:Nat):Int) > 0))))] 13 (qab (qab (qab (qae (qae (qab (qab (qae qaf)))))))) (fun _ h=>h ▸ aa.cells) rfl aD fun bt al=>?_
  refine (Bool.eq_false_or_eq_true (decide (((k:Nat):Int) > 0))).elim (fun ac=>?_) (fun ac=>?_)
  ·
   have aZ:=of_decide_eq_true ac
   have aE:=al.cast (env':=[(0,.v (.slice A u.length c)),(3,.v (.int .i64 ((k:Nat):Int))),(5,.v (.int .i64 ((u.length:Nat):Int))),(6,.v (.int .i64 ((k:Nat):Int))),(12,.v (.bool true))]) (by rw [ac])
   refine qaz [3,4,8,9,10] [(0,.v (.slice A u.length c)),(3,.v (.int .i64 ((k:Nat):Int))),(5,.v (.int .i64 ((u.length:Nat):Int))),(6,.v (.int .i64 ((k:Nat):Int))),(12,.v (.bool true)),(13,.v (.slice A u.length c)),(14,.v (.int .i64 ((k:Nat):Int))),(18,.v (.slice A u.length c)),(20,.v (.int .i64 (IntKind.i64.wrap (((k:Nat):Int) - 1))))] 8 (qab (qab (qab (qae (qae (qab (qab (qae qaf)))))))) (fun _ h=>h ▸ aa.cells) rfl aE fun bu aF=>?_
   obtain ⟨az,aA,aG,ba,ae⟩:=Slots.get h2 (i:=k) (by omega)
   obtain ⟨⟨af,bd⟩,am⟩:∃ x,u[k]? = some x:=⟨_,List.getElem?_eq_getElem (by omega)⟩
   obtain ⟨⟨bw,bx,ao,bf⟩,bz,bA⟩:=h3 k af bd am
   rw [ao] at ae
   refine qaC aF (i:=5) (t:=35) (A:=A) (m:=u.length) (q:=((k:Nat):Int)) (d:=15) kz (e:=64) (size:=2) (bytes:=32) kz aG rfl (by omega) kz kz (qab (qab (qab (qae (qae (qab (qab (qae qaf)))))))) rfl fun bB aH=>?_
   refine qaz [6] [(0,.v (.slice A u.length c)),(3,.v (.int .i64 ((k:Nat):Int))),(5,.v (.int .i64 ((u.length:Nat):Int))),(6,.v (.int .i64 ((k:Nat):Int))),(12,.v (.bool true)),(16,.v (.pointer (some ⟨az,aA + k * 2,none⟩))),(18,.v (.slice A u.length c)),(20,.v (.int .i64 (IntKind.i64.wrap (((k:Nat):Int) - 1))))] 6 (qab (qab (qab (qae (qae (qab (qab (qae qaf)))))))) (fun _ h=>h ▸ aa.cells) rfl aH fun bC aI=>?_
   refine qa8 aI (i:=7) (t:=62) (b:=az) (o:=aA + k * 2) (d:=17) kz (cs:=[.int .u32 af]) (v:=.int .u32 af) kz (fun w' h'=>h' ▸ (At.drop (AtF.move ae aa.step nilM qa7).at_ 0 1)) kz kz (qab (qab (qab (qae (qae (qab (qab (qae qaf)))))))) rfl fun bD aJ=>?_
   have aK:IntKind.i64.wrap (((k:Nat):Int) - 1) = (((k - 1):Nat):Int):=by simp only [qaL,qar,qbq,IntKind.wrap_i64,IntKind.wrap_i32]; omega
   have aL:=EnvOk.pick aJ (ks:=[0,3,5,6,12,16,18,20,17]) (env':=[(0,.v (.slice A u.length c)),(3,.v (.int .i64 ((k:Nat):Int))),(5,.v (.int .i64 ((u.length:Nat):Int))),(6,.v (.int .i64 ((k:Nat):Int))),(12,.v (.bool true)),(16,.v (.pointer (some ⟨az,aA + k * 2,none⟩))),(18,.v (.slice A u.length c)),(20,.v (.int .i64 (IntKind.i64.wrap (((k:Nat):Int) - 1)))),(17,.v (.int .u32 af))]) kz
   have aM:=aL.cast (env':=[(0,.v (.slice A u.length c)),(3,.v (.int .i64 ((k:Nat):Int))),(5,.v (.int .i64 ((u.length:Nat):Int))),(6,.v (.int .i64 ((k:Nat):Int))),(12,.v (.bool true)),(16,.v (.pointer (some ⟨az,aA + k * 2,none⟩))),(18,.v (.slice A u.length c)),(20,.v (.int .i64 (((k - 1):Nat):Int))),(17,.v (.int .u32 af))]) (by rw [aK])
   obtain ⟨aU,aV,aN,bg,ag⟩:=Slots.get h2 (i:=(k - 1)) (by omega)
   obtain ⟨⟨ap,bh⟩,ar⟩:∃ x,u[(k - 1)]? = some x:=⟨_,List.getElem?_eq_getElem (by omega)⟩
   obtain ⟨⟨bE,bF,au,bi⟩,bG,bH⟩:=h3 (k - 1) ap bh ar
   rw [au] at ag
   refine qaC aM (i:=11) (t:=35) (A:=A) (m:=u.length) (q:=(((k - 1):Nat):Int)) (d:=21) kz (e:=64) (size:=2) (bytes:=32) kz aN rfl (by omega) kz kz (qab (qab (qab (qae (qae (qab (qab (qae qaf)))))))) rfl fun bI aO=>?_
   refine qaz [12] [(0,.v (.slice A u.length c)),(3,.v (.int .i64 ((k:Nat):Int))),(5,.v (.int .i64 ((u.length:Nat):Int))),(6,.v (.int .i64 ((k:Nat):Int))),(12,.v (.bool true)),(17,.v (.int .u32 af)),(22,.v (.pointer (some ⟨aU,aV + (k - 1) * 2,none⟩)))] 3 (qab (qab (qab (qae (qae (qab (qab (qae qaf)))))))) (fun _ h=>h ▸ aa.cells) rfl aO fun bJ aP=>?_
   refine qa8 aP (i:=13) (t:=62) (b:=aU) (o:=aV + (k - 1) * 2) (d:=23) kz (cs:=[.int .u32 ap]) (v:=.int .u32 ap) kz (fun w' h'=>h' ▸ (At.drop (AtF.move ag aa.step nilM qa7).at_ 0 1)) kz kz (qab (qab (qab (qae (qae (qab (qab (qae qaf)))))))) rfl fun bK aQ=>?_
   refine qaz [14,15] [(0,.v (.slice A u.length c)),(3,.v (.int .i64 ((k:Nat):Int))),(5,.v (.int .i64 ((u.length:Nat):Int))),(6,.v (.int .i64 ((k:Nat):Int))),(25,.v (.bool (decide (af < ap))))] 0 (qab (qab (qab (qae (qae (qab (qab (qae qaf)))))))) (fun _ h=>h ▸ aa.cells) rfl aQ fun bL av=>?_
   refine qay kz ?_ _
   refine qac ?_
   refine qau av (b:=decide (af < ap)) kz (decide_eq_false (qh0 hsrt am ar (by omega))) ?_
   refine wp_exit ?_
   refine qaw ?_
   refine qaw ?_
   refine qaP ?_
   refine qax ?_
   refine qac ?_
   refine qaq [0,1] kz ?_
   refine qal [0,1] [] [(0,.v (.slice A u.length c)),(5,.v (.int .i64 ((u.length:Nat):Int))),(6,.v (.int .i64 (IntKind.i64.wrap (((k:Nat):Int) + 1))))] aa av fun bM aw=>?_
   refine qah (qac ?_)
   have aR:IntKind.i64.wrap (((k:Nat):Int) + 1) = ((k + 1:Nat):Int):=qa1 (by omega)
   rw [aR] at aw
   exact ⟨u.length - (k + 1),by omega,k + 1,rfl,by omega,aw.pk,aa,(aj.trans ak)⟩
  have bj:=of_decide_eq_false ac
  have aS:=al.cast (env':=[(0,.v (.slice A u.length c)),(3,.v (.int .i64 ((k:Nat):Int))),(5,.v (.int .i64 ((u.length:Nat):Int))),(6,.v (.int .i64 ((k:Nat):Int))),(12,.v (.bool false))]) (by rw [ac])
  refine qaz [3,4,5,6,7,8,9,10,11,12,13,14,15] [(0,.v (.slice A u.length c)),(3,.v (.int .i64 ((k:Nat):Int))),(5,.v (.int .i64 ((u.length:Nat):Int))),(6,.v (.int .i64 ((k:Nat):Int))),(25,.v (.bool false))] 0 (qab (qab (qab (qae (qae (qab (qab (qae qaf)))))))) (fun _ h=>h ▸ aa.cells) rfl aS fun bN ax=>?_
  refine qay kz ?_ _
  refine qac ?_
  refine qau ax (b:=false) kz rfl ?_
  refine wp_exit ?_
  refine qaw ?_
  refine qaw ?_
  refine qaP ?_
  refine qax ?_
  refine qac ?_
  refine qaq [0,1] kz ?_
  refine qal [0,1] [] [(0,.v (.slice A u.length c)),(5,.v (.int .i64 ((u.length:Nat):Int))),(6,.v (.int .i64 (IntKind.i64.wrap (((k:Nat):Int) + 1))))] aa ax fun bO ay=>?_
  refine qah (qac ?_)
  have aT:IntKind.i64.wrap (((k:Nat):Int) + 1) = ((k + 1:Nat):Int):=qa1 (by omega)
  rw [aT] at ay
  exact ⟨u.length - (k + 1),by omega,k + 1,rfl,by omega,ay.pk,aa,(aj.trans ak)⟩
 have bk:=of_decide_eq_false ai
 refine wp_exit ?_
 refine qaw ?_
 refine qaw ?_
 refine qaP ?_
 refine qbI ah ab.cells (v:=.tuple #[]) kz ?_
 exact ⟨rfl,ab.step⟩
theorem qld (s:ByteArray) (w:World) (F:Nat → Nat → Prop):Calls Tryz.prog 101 #[.pointer none] w (qdc w F (.mk 0 [] true [] [])):=by
 refine enter (n:=11) Tryz.func101 rfl Tryz.ntmps101 kz fun a hE=>?_
 have hW:=WOk.start w Nil
 refine qag [0] kz ?_
 refine qak (qaO hW hE (d:=2) (cs:=[.int .i64 0,.slice none 0 0,.bool false,.slice none 0 0,.slice none 0 0]) kz fun b1 a2 w3 hb4 hz5 hF6 hW7 hE8=>?_)
 refine qah (qac ?_)
 refine wp_seq ?_
 refine qav [(0,.v (.pointer none)),(2,.p 0 0),(4,.v (.bool true))] hW7 hE8 fun a9 aa=>?_
 refine qbk aa (b:=true) kz rfl ?_
 refine qag [0,1] kz ?_
 refine qal [0] [1] [(2,.p 0 0),(5,.v (.agg #[.int .i64 0,.slice none 0 0,.bool true,.slice none 0 0,.slice none 0 0]))] hW7 aa fun ah ac=>?_
 refine qak (qam hW7 ac (oi:=0) (cs:=[.int .i64 0,.slice none 0 0,.bool true,.slice none 0 0,.slice none 0 0]) kz fun af ag ab ae=>?_)
 refine qah (qac ?_)
 refine wp_ret ?_
 refine qaE ?_
 refine qaV ae ab.cells (v:=.agg #[.int .i64 0,.slice none 0 0,.bool true,.slice none 0 0,.slice none 0 0]) kz ?_
 exact ⟨_,rfl,(show TreeR _ (Imm F w af [⟨b1,0,[.int .i64 0,.slice none 0 0,.bool true,.slice none 0 0,.slice none 0 0],true⟩] []) _ (Tree.mk 0 [] true [] []) from (TreeR.mk (n:=0) (b:=true) (s:=[]) (l:=[]) (u:=[]) (fun _=>[]) (Octs.nil _ _) (Slots.nil _ _ _ _) (fun i_ x_ h_=>by simp at h_) (TagsR.nil _ _))).move (Step.refl _ Nil) nilM qbw,ab.step⟩
theorem qle (b o:Nat) (s:ByteArray) (w:World) (F:Nat → Nat → Prop) (hat:AtF w F b o [.string s]) (hs:s.size ≤ 1000000):Calls Tryz.prog 101 #[.pointer (some ⟨b,o,none⟩)] w (qdc w F (.mk 0 (sb s) false [] [])):=by
 refine enter (n:=11) Tryz.func101 rfl Tryz.ntmps101 kz fun a hE=>?_
 have hW:=WOk.start w Nil
 refine qag [0] kz ?_
 refine qak (qaO hW hE (d:=2) (cs:=[.int .i64 0,.slice none 0 0,.bool false,.slice none 0 0,.slice none 0 0]) kz fun b1 a2 w3 hb4 hz5 hF6 hW7 hE8=>?_)
 refine qah (qac ?_)
 refine wp_seq ?_
 refine qav [(0,.v (.pointer (some ⟨b,o,none⟩))),(2,.p 0 0),(4,.v (.bool false))] hW7 hE8 fun a9 aa=>?_
 refine qau aa (b:=false) kz rfl ?_
 refine wp_skip ?_
 refine qac ?_
 refine qag [0,1,2,3,4,5] kz ?_
 refine qal [0,1] [2,3,4,5] [(2,.p 0 0),(7,.v (.pointer (some ⟨b,o,none⟩)))] hW7 aa fun au ah=>?_
 refine qak (qaM ah (t:=9) (b:=b) (o:=o) (d:=8) kz (cs:=[.string s]) (v:=.string s) kz (AtF.move hat hW7.step nilM qa7).at_ fun av ai=>?_)
 refine qak (qdg (d:=9) (src:=9) (dst:=22) (e:=5) (s:=s) hW7 ai (by omega) fun af ag aw ax ap ab aj ak=>?_)
 have al:=aj F
 refine qal [4] [5] [(2,.p 0 0),(10,.v (.agg #[.int .i64 0,.slice (some ⟨af,0,none⟩) ((sb s).length) ag,.bool false,.slice none 0 0,.slice none 0 0]))] ab ak fun ay am=>?_
 refine qak (qam ab am (oi:=0) (cs:=[.int .i64 0,.slice (some ⟨af,0,none⟩) ((sb s).length) ag,.bool false,.slice none 0 0,.slice none 0 0]) kz fun ar ac ae ao=>?_)
 refine qah (qac ?_)
 refine wp_ret ?_
 refine qaV ao ae.cells (v:=.agg #[.int .i64 0,.slice (some ⟨af,0,none⟩) ((sb s).length) ag,.bool false,.slice none 0 0,.slice none 0 0]) kz ?_
 exact ⟨_,rfl,(show TreeR _ (Imm F w ar [⟨b1,0,[.int .i64 0,.slice (some ⟨af,0,none⟩) ((sb s).length) ag,.bool false,.slice none 0 0,.slice none 0 0],true⟩] []) _ (Tree.mk 0 (sb s) false [] []) from (TreeR.mk (n:=0) (b:=false) (s:=(sb s)) (l:=[]) (u:=[]) (fun _=>[]) (al.move ac.step immM ac.to') (Slots.nil _ _ _ _) (fun i_ x_ h_=>by simp at h_) (TagsR.nil _ _))).move (Step.refl _ Nil) nilM qbw,ae.step⟩
theorem qls (A:Option Addr) (s:ByteArray) (w:World) (F:Nat → Nat → Prop) (hO:∀ ad,A = some ad → ∃ b o,ad = ⟨b,o,none⟩ ∧ AtF w F b o [.string s]) (hs:s.size ≤ 1000000):Calls Tryz.prog 101 #[.pointer A] w (qdc w F (qky A s)):=by
 cases A with
 | none=>exact qld s w F
 | some ad =>
  obtain ⟨b,o,rfl,h⟩:=hO ad rfl
  exact qle b o s w F h hs
theorem qh2 (w:World) (F:Nat → Nat → Prop):Calls Tryz.prog 100 #[.bool true] w (qdc w F (.mk 1 [] false [] [])):=by
 refine enter (n:=6) Tryz.func100 rfl Tryz.ntmps100 kz fun a hE=>?_
 have hW:=WOk.start w Nil
 refine qag [0] kz ?_
 refine qak (qaO hW hE (d:=2) (cs:=[.int .i64 0,.slice none 0 0,.bool false,.slice none 0 0,.slice none 0 0]) kz fun b1 a2 w3 hb4 hz5 hF6 hW7 hE8=>?_)
 refine qah (qac ?_)
 refine wp_seq ?_
 refine qav [(2,.p 0 0),(3,.v (.bool true))] hW7 hE8 fun a9 aa=>?_
 refine qbk aa (b:=true) kz rfl ?_
 refine qag [0,1] kz ?_
 refine qal [0] [1] [(2,.p 0 0),(4,.v (.agg #[.int .i64 1,.slice none 0 0,.bool false,.slice none 0 0,.slice none 0 0]))] hW7 aa fun ah ac=>?_
 refine qak (qam hW7 ac (oi:=0) (cs:=[.int .i64 1,.slice none 0 0,.bool false,.slice none 0 0,.slice none 0 0]) kz fun af ag ab ae=>?_)
 refine qah (qac ?_)
 refine wp_ret ?_
 refine qaE ?_
 refine qaV ae ab.cells (v:=.agg #[.int .i64 1,.slice none 0 0,.bool false,.slice none 0 0,.slice none 0 0]) kz ?_
 exact ⟨_,rfl,(show TreeR _ (Imm F w af [⟨b1,0,[.int .i64 1,.slice none 0 0,.bool false,.slice none 0 0,.slice none 0 0],true⟩] []) _ (Tree.mk 1 [] false [] []) from (TreeR.mk (n:=1) (b:=false) (s:=[]) (l:=[]) (u:=[]) (fun _=>[]) (Octs.nil _ _) (Slots.nil _ _ _ _) (fun i_ x_ h_=>by simp at h_) (TagsR.nil _ _))).move (Step.refl _ Nil) nilM qbw,ab.step⟩
theorem qg7 (w:World) (F:Nat → Nat → Prop):Calls Tryz.prog 100 #[.bool false] w (qdc w F (.mk 0 [] false [] [])):=by
 refine enter (n:=6) Tryz.func100 rfl Tryz.ntmps100 kz fun a hE=>?_
 have hW:=WOk.start w Nil
 refine qag [0] kz ?_
 refine qak (qaO hW hE (d:=2) (cs:=[.int .i64 0,.slice none 0 0,.bool false,.slice none 0 0,.slice none 0 0]) kz fun b1 a2 w3 hb4 hz5 hF6 hW7 hE8=>?_)
 refine qah (qac ?_)
 refine wp_seq ?_
 refine qav [(2,.p 0 0),(3,.v (.bool false))] hW7 hE8 fun a9 aa=>?_
 refine qau aa (b:=false) kz rfl ?_
 refine wp_skip ?_
 refine qac ?_
 refine qag [0,1] kz ?_
 refine qal [0] [1] [(2,.p 0 0),(5,.v (.agg #[.int .i64 0,.slice none 0 0,.bool false,.slice none 0 0,.slice none 0 0]))] hW7 aa fun ah ac=>?_
 refine qak (qam hW7 ac (oi:=0) (cs:=[.int .i64 0,.slice none 0 0,.bool false,.slice none 0 0,.slice none 0 0]) kz fun af ag ab ae=>?_)
 refine qah (qac ?_)
 refine wp_ret ?_
 refine qaV ae ab.cells (v:=.agg #[.int .i64 0,.slice none 0 0,.bool false,.slice none 0 0,.slice none 0 0]) kz ?_
 exact ⟨_,rfl,(show TreeR _ (Imm F w af [⟨b1,0,[.int .i64 0,.slice none 0 0,.bool false,.slice none 0 0,.slice none 0 0],true⟩] []) _ (Tree.mk 0 [] false [] []) from (TreeR.mk (n:=0) (b:=false) (s:=[]) (l:=[]) (u:=[]) (fun _=>[]) (Octs.nil _ _) (Slots.nil _ _ _ _) (fun i_ x_ h_=>by simp at h_) (TagsR.nil _ _))).move (Step.refl _ Nil) nilM qbw,ab.step⟩
theorem qlt (b:Bool) (w:World) (F:Nat → Nat → Prop):Calls Tryz.prog 100 #[.bool b] w (qdc w F (qkz b)):=by
 cases b
 ·exact qg7 w F
 exact qh2 w F
theorem qeQ:qff Tryz.prog 133 64:=by
 intro w B cp c n k A Av x x0 x1 x2 x3 xs G hbx ho hG hn
 refine enter (n:=14) Tryz.func133 rfl Tryz.ntmps133 kz fun a hE=>?_
 have hW:=hbx.wok
 have hE0:=(hE.grow ⟨B,0,[x0,x1,x2,x3,.slice A n cp],true⟩).recast 2 (.v (.pointer (some ⟨B,0,none⟩))) (.p 0 0) rfl rfl (by simp [SV.ok])
 have hsm:=Slots.small ho
 have ap:=hE0.pk (env':=[(0,.v (.int .u32 k)),(1,.v (.slice Av x.length c)),(2,.p 0 0)])
 refine qcs 9 kz hW fun w1 hF2 hW3 hT4=>?_
 refine qaz [0,1,2,3] [(2,.p 0 0),(6,.v (.slice A n cp)),(7,.v (.int .u32 k)),(8,.v (.slice Av x.length c))] 6 qaf (fun _ h=>h.cells) hT4 ap fun a5 hE6=>?_
 have hW7:=hW3.addNil 5 1
 have hF8:=hW3.frNil 5 1
 refine qap (i:=4) kz (qaJ hW7 hE6 (k:=1) (d:=9) (t:=22) (e:=5) (size:=1) (bytes:=1) (A:=none) (As:=Av) (m0:=0) (c:=0) (m:=x.length) (cs:=c) (xs:=[]) (news:=bc x) kz kz rfl (ho.move hW7.step (fun b o h _=>hG b o h) qa7).src (ho.move hW7.step (fun b o h _=>hG b o h) qa7).cap (by first | omega | (simp only [List.length_nil]; omega) | (simp; omega)) fun A9 aa aK aL ac ar au=>?_)
 have av:(⟨A9,aa,5,1,0 + x.length,[] ++ bc x⟩:Rw) = brow A9 aa 5 x:=by rw [List.nil_append,Nat.zero_add]
 obtain ⟨af,ae⟩:=ar.rowEq 1 [⟨A,cp,64,2,n,xs⟩,brow A9 aa 5 x] av
 have aw:=EnvOk.pick au (ks:=[2,6,7,8,9]) (env':=[(2,.p 0 0),(6,.v (.slice A n cp)),(7,.v (.int .u32 k)),(8,.v (.slice Av x.length c)),(9,.v (.slice A9 (0 + x.length) aa))]) kz
 have ax:=aw.cast (env':=[(2,.p 0 0),(6,.v (.slice A n cp)),(7,.v (.int .u32 k)),(8,.v (.slice Av x.length c)),(9,.v (.slice A9 x.length aa))]) (by simp only [List.length_append,List.length_cons,List.length_nil,Nat.zero_add])
 have ag:=TT.ofW ((hF8.trans ac).trans ae) af
 refine ⟨fun _=>ag,?_⟩
 refine qaz [5] [(2,.p 0 0),(6,.v (.slice A n cp)),(10,.v (.agg #[.int .u32 k,.slice A9 x.length aa]))] 4 qaf (fun _ h=>h.cells) ag ax fun aM ay=>?_
 refine qap (i:=6) kz (qby af ay (e:=64) (size:=2) (len:=1) (cs:=[.int .u32 k,.slice A9 x.length aa]) (d:=11) kz kz fun aF aN aO aG aH ah ab az=>?_)
 have aA:=TT.ofW (((hF8.trans ac).trans ae).trans ah) ab
 refine ⟨fun _=>aA,?_⟩
 refine qap (i:=7) kz (qaJ ab az (k:=0) (d:=12) (t:=35) (e:=64) (size:=2) (bytes:=32) (A:=A) (As:=(some ⟨aF,0,none⟩)) (m0:=n) (c:=cp) (m:=1) (cs:=1) (xs:=xs) (news:=[.int .u32 k,.slice A9 x.length aa]) kz kz rfl (qbr (ab.own 2 _ rfl) (qbp kz)) (qbz (ab.own 2 _ rfl)) (by first | omega | (simp only [List.length_nil]; omega) | (simp; omega)) fun am ao aP aQ aB ai aC=>?_)
 have aj:=TT.ofW ((((hF8.trans ac).trans ae).trans ah).trans aB) ai
 refine ⟨fun _=>aj,?_⟩
 refine qaz [8] [(12,.v (.slice am (n + 1) ao)),(13,.p 0 4)] 1 qaf (fun _ h=>h.cells) aj aC fun aR aD=>?_
 refine qap (i:=9) kz (qam ai aD (oi:=0) (cs:=[x0,x1,x2,x3,.slice am (n + 1) ao]) kz fun aS aI ak aE=>?_)
 refine ⟨fun h=>absurd rfl h,?_⟩
 refine qay kz ?_ _
 refine qbI aE ak.cells (v:=.tuple #[]) kz ?_
 obtain ⟨al,aJ⟩:=ak.cutR 2 [⟨am,ao,64,2,n + 1,xs ++ [.int .u32 k,.slice A9 x.length aa]⟩,brow A9 aa 5 x]
 have hoo:=qeo (s:=x) (Av:=A9) (c:=aa) (e8:=5) rfl al (by omega)
 obtain ⟨hb1,hb2,hb3⟩:=qfZ al (World.lt_of_cell (hbx.str.at_ 0 _ rfl))
 exact ⟨rfl,am,ao,A9,aa,hb1,hoo,hb2,hb3⟩
theorem qcH:qff Tryz.prog 119 64:=by
 intro w B cp c n k A Av x x0 x1 x2 x3 xs G hbx ho hG hn
 refine enter (n:=14) Tryz.func119 rfl Tryz.ntmps119 kz fun a hE=>?_
 have hW:=hbx.wok
 have hE0:=(hE.grow ⟨B,0,[x0,x1,x2,x3,.slice A n cp],true⟩).recast 2 (.v (.pointer (some ⟨B,0,none⟩))) (.p 0 0) rfl rfl (by simp [SV.ok])
 have hsm:=Slots.small ho
 have ap:=hE0.pk (env':=[(0,.v (.int .u32 k)),(1,.v (.slice Av x.length c)),(2,.p 0 0)])
 refine qcs 9 kz hW fun w1 hF2 hW3 hT4=>?_
 refine qaz [0,1,2,3] [(2,.p 0 0),(6,.v (.slice A n cp)),(7,.v (.int .u32 k)),(8,.v (.slice Av x.length c))] 6 qaf (fun _ h=>h.cells) hT4 ap fun a5 hE6=>?_
 have hW7:=hW3.addNil 5 1
 have hF8:=hW3.frNil 5 1
 refine qap (i:=4) kz (qaJ hW7 hE6 (k:=1) (d:=9) (t:=22) (e:=5) (size:=1) (bytes:=1) (A:=none) (As:=Av) (m0:=0) (c:=0) (m:=x.length) (cs:=c) (xs:=[]) (news:=bc x) kz kz rfl (ho.move hW7.step (fun b o h _=>hG b o h) qa7).src (ho.move hW7.step (fun b o h _=>hG b o h) qa7).cap (by first | omega | (simp only [List.length_nil]; omega) | (simp; omega)) fun A9 aa aK aL ac ar au=>?_)
 have av:(⟨A9,aa,5,1,0 + x.length,[] ++ bc x⟩:Rw) = brow A9 aa 5 x:=by rw [List.nil_append,Nat.zero_add]
 obtain ⟨af,ae⟩:=ar.rowEq 1 [⟨A,cp,64,2,n,xs⟩,brow A9 aa 5 x] av
 have aw:=EnvOk.pick au (ks:=[2,6,7,8,9]) (env':=[(2,.p 0 0),(6,.v (.slice A n cp)),(7,.v (.int .u32 k)),(8,.v (.slice Av x.length c)),(9,.v (.slice A9 (0 + x.length) aa))]) kz
 have ax:=aw.cast (env':=[(2,.p 0 0),(6,.v (.slice A n cp)),(7,.v (.int .u32 k)),(8,.v (.slice Av x.length c)),(9,.v (.slice A9 x.length aa))]) (by simp only [List.length_append,List.length_cons,List.length_nil,Nat.zero_add])
 have ag:=TT.ofW ((hF8.trans ac).trans ae) af
 refine ⟨fun _=>ag,?_⟩
 refine qaz [5] [(2,.p 0 0),(6,.v (.slice A n cp)),(10,.v (.agg #[.int .u32 k,.slice A9 x.length aa]))] 4 qaf (fun _ h=>h.cells) ag ax fun aM ay=>?_
 refine qap (i:=6) kz (qby af ay (e:=64) (size:=2) (len:=1) (cs:=[.int .u32 k,.slice A9 x.length aa]) (d:=11) kz kz fun aF aN aO aG aH ah ab az=>?_)
 have aA:=TT.ofW (((hF8.trans ac).trans ae).trans ah) ab
 refine ⟨fun _=>aA,?_⟩
 refine qap (i:=7) kz (qaJ ab az (k:=0) (d:=12) (t:=35) (e:=64) (size:=2) (bytes:=32) (A:=A) (As:=(some ⟨aF,0,none⟩)) (m0:=n) (c:=cp) (m:=1) (cs:=1) (xs:=xs) (news:=[.int .u32 k,.slice A9 x.length aa]) kz kz rfl (qbr (ab.own 2 _ rfl) (qbp kz)) (qbz (ab.own 2 _ rfl)) (by first | omega | (simp only [List.length_nil]; omega) | (simp; omega)) fun am ao aP aQ aB ai aC=>?_)
 have aj:=TT.ofW ((((hF8.trans ac).trans ae).trans ah).trans aB) ai
 refine ⟨fun _=>aj,?_⟩
 refine qaz [8] [(12,.v (.slice am (n + 1) ao)),(13,.p 0 4)] 1 qaf (fun _ h=>h.cells) aj aC fun aR aD=>?_
 refine qap (i:=9) kz (qam ai aD (oi:=0) (cs:=[x0,x1,x2,x3,.slice am (n + 1) ao]) kz fun aS aI ak aE=>?_)
 refine ⟨fun h=>absurd rfl h,?_⟩
 refine qay kz ?_ _
 refine qbI aE ak.cells (v:=.tuple #[]) kz ?_
 obtain ⟨al,aJ⟩:=ak.cutR 2 [⟨am,ao,64,2,n + 1,xs ++ [.int .u32 k,.slice A9 x.length aa]⟩,brow A9 aa 5 x]
 have hoo:=qeo (s:=x) (Av:=A9) (c:=aa) (e8:=5) rfl al (by omega)
 obtain ⟨hb1,hb2,hb3⟩:=qfZ al (World.lt_of_cell (hbx.str.at_ 0 _ rfl))
 exact ⟨rfl,am,ao,A9,aa,hb1,hoo,hb2,hb3⟩
theorem qcg:qff Tryz.prog 176 64:=by
 intro w B cp c n k A Av x x0 x1 x2 x3 xs G hbx ho hG hn
 refine enter (n:=14) Tryz.func176 rfl Tryz.ntmps176 kz fun a hE=>?_
 have hW:=hbx.wok
 have hE0:=(hE.grow ⟨B,0,[x0,x1,x2,x3,.slice A n cp],true⟩).recast 2 (.v (.pointer (some ⟨B,0,none⟩))) (.p 0 0) rfl rfl (by simp [SV.ok])
 have hsm:=Slots.small ho
 have ap:=hE0.pk (env':=[(0,.v (.int .u32 k)),(1,.v (.slice Av x.length c)),(2,.p 0 0)])
 refine qcs 9 kz hW fun w1 hF2 hW3 hT4=>?_
 refine qaz [0,1,2,3] [(2,.p 0 0),(6,.v (.slice A n cp)),(7,.v (.int .u32 k)),(8,.v (.slice Av x.length c))] 6 qaf (fun _ h=>h.cells) hT4 ap fun a5 hE6=>?_
 have hW7:=hW3.addNil 5 1
 have hF8:=hW3.frNil 5 1
 refine qap (i:=4) kz (qaJ hW7 hE6 (k:=1) (d:=9) (t:=22) (e:=5) (size:=1) (bytes:=1) (A:=none) (As:=Av) (m0:=0) (c:=0) (m:=x.length) (cs:=c) (xs:=[]) (news:=bc x) kz kz rfl (ho.move hW7.step (fun b o h _=>hG b o h) qa7).src (ho.move hW7.step (fun b o h _=>hG b o h) qa7).cap (by first | omega | (simp only [List.length_nil]; omega) | (simp; omega)) fun A9 aa aK aL ac ar au=>?_)
 have av:(⟨A9,aa,5,1,0 + x.length,[] ++ bc x⟩:Rw) = brow A9 aa 5 x:=by rw [List.nil_append,Nat.zero_add]
 obtain ⟨af,ae⟩:=ar.rowEq 1 [⟨A,cp,64,2,n,xs⟩,brow A9 aa 5 x] av
 have aw:=EnvOk.pick au (ks:=[2,6,7,8,9]) (env':=[(2,.p 0 0),(6,.v (.slice A n cp)),(7,.v (.int .u32 k)),(8,.v (.slice Av x.length c)),(9,.v (.slice A9 (0 + x.length) aa))]) kz
 have ax:=aw.cast (env':=[(2,.p 0 0),(6,.v (.slice A n cp)),(7,.v (.int .u32 k)),(8,.v (.slice Av x.length c)),(9,.v (.slice A9 x.length aa))]) (by simp only [List.length_append,List.length_cons,List.length_nil,Nat.zero_add])
 have ag:=TT.ofW ((hF8.trans ac).trans ae) af
 refine ⟨fun _=>ag,?_⟩
 refine qaz [5] [(2,.p 0 0),(6,.v (.slice A n cp)),(10,.v (.agg #[.int .u32 k,.slice A9 x.length aa]))] 4 qaf (fun _ h=>h.cells) ag ax fun aM ay=>?_
 refine qap (i:=6) kz (qby af ay (e:=64) (size:=2) (len:=1) (cs:=[.int .u32 k,.slice A9 x.length aa]) (d:=11) kz kz fun aF aN aO aG aH ah ab az=>?_)
 have aA:=TT.ofW (((hF8.trans ac).trans ae).trans ah) ab
 refine ⟨fun _=>aA,?_⟩
 refine qap (i:=7) kz (qaJ ab az (k:=0) (d:=12) (t:=35) (e:=64) (size:=2) (bytes:=32) (A:=A) (As:=(some ⟨aF,0,none⟩)) (m0:=n) (c:=cp) (m:=1) (cs:=1) (xs:=xs) (news:=[.int .u32 k,.slice A9 x.length aa]) kz kz rfl (qbr (ab.own 2 _ rfl) (qbp kz)) (qbz (ab.own 2 _ rfl)) (by first | omega | (simp only [List.length_nil]; omega) | (simp; omega)) fun am ao aP aQ aB ai aC=>?_)
 have aj:=TT.ofW ((((hF8.trans ac).trans ae).trans ah).trans aB) ai
 refine ⟨fun _=>aj,?_⟩
 refine qaz [8] [(12,.v (.slice am (n + 1) ao)),(13,.p 0 4)] 1 qaf (fun _ h=>h.cells) aj aC fun aR aD=>?_
 refine qap (i:=9) kz (qam ai aD (oi:=0) (cs:=[x0,x1,x2,x3,.slice am (n + 1) ao]) kz fun aS aI ak aE=>?_)
 refine ⟨fun h=>absurd rfl h,?_⟩
 refine qay kz ?_ _
 refine qbI aE ak.cells (v:=.tuple #[]) kz ?_
 obtain ⟨al,aJ⟩:=ak.cutR 2 [⟨am,ao,64,2,n + 1,xs ++ [.int .u32 k,.slice A9 x.length aa]⟩,brow A9 aa 5 x]
 have hoo:=qeo (s:=x) (Av:=A9) (c:=aa) (e8:=5) rfl al (by omega)
 obtain ⟨hb1,hb2,hb3⟩:=qfZ al (World.lt_of_cell (hbx.str.at_ 0 _ rfl))
 exact ⟨rfl,am,ao,A9,aa,hb1,hoo,hb2,hb3⟩
theorem qcb:qff Tryz.prog 175 64:=by
 intro w B cp c n k A Av x x0 x1 x2 x3 xs G hbx ho hG hn
 refine enter (n:=14) Tryz.func175 rfl Tryz.ntmps175 kz fun a hE=>?_
 have hW:=hbx.wok
 have hE0:=(hE.grow ⟨B,0,[x0,x1,x2,x3,.slice A n cp],true⟩).recast 2 (.v (.pointer (some ⟨B,0,none⟩))) (.p 0 0) rfl rfl (by simp [SV.ok])
 have hsm:=Slots.small ho
 have ap:=hE0.pk (env':=[(0,.v (.int .u32 k)),(1,.v (.slice Av x.length c)),(2,.p 0 0)])
 refine qcs 9 kz hW fun w1 hF2 hW3 hT4=>?_
 refine qaz [0,1,2,3] [(2,.p 0 0),(6,.v (.slice A n cp)),(7,.v (.int .u32 k)),(8,.v (.slice Av x.length c))] 6 qaf (fun _ h=>h.cells) hT4 ap fun a5 hE6=>?_
 have hW7:=hW3.addNil 5 1
 have hF8:=hW3.frNil 5 1
 refine qap (i:=4) kz (qaJ hW7 hE6 (k:=1) (d:=9) (t:=22) (e:=5) (size:=1) (bytes:=1) (A:=none) (As:=Av) (m0:=0) (c:=0) (m:=x.length) (cs:=c) (xs:=[]) (news:=bc x) kz kz rfl (ho.move hW7.step (fun b o h _=>hG b o h) qa7).src (ho.move hW7.step (fun b o h _=>hG b o h) qa7).cap (by first | omega | (simp only [List.length_nil]; omega) | (simp; omega)) fun A9 aa aK aL ac ar au=>?_)
 have av:(⟨A9,aa,5,1,0 + x.length,[] ++ bc x⟩:Rw) = brow A9 aa 5 x:=by rw [List.nil_append,Nat.zero_add]
 obtain ⟨af,ae⟩:=ar.rowEq 1 [⟨A,cp,64,2,n,xs⟩,brow A9 aa 5 x] av
 have aw:=EnvOk.pick au (ks:=[2,6,7,8,9]) (env':=[(2,.p 0 0),(6,.v (.slice A n cp)),(7,.v (.int .u32 k)),(8,.v (.slice Av x.length c)),(9,.v (.slice A9 (0 + x.length) aa))]) kz
 have ax:=aw.cast (env':=[(2,.p 0 0),(6,.v (.slice A n cp)),(7,.v (.int .u32 k)),(8,.v (.slice Av x.length c)),(9,.v (.slice A9 x.length aa))]) (by simp only [List.length_append,List.length_cons,List.length_nil,Nat.zero_add])
 have ag:=TT.ofW ((hF8.trans ac).trans ae) af
 refine ⟨fun _=>ag,?_⟩
 refine qaz [5] [(2,.p 0 0),(6,.v (.slice A n cp)),(10,.v (.agg #[.int .u32 k,.slice A9 x.length aa]))] 4 qaf (fun _ h=>h.cells) ag ax fun aM ay=>?_
 refine qap (i:=6) kz (qby af ay (e:=64) (size:=2) (len:=1) (cs:=[.int .u32 k,.slice A9 x.length aa]) (d:=11) kz kz fun aF aN aO aG aH ah ab az=>?_)
 have aA:=TT.ofW (((hF8.trans ac).trans ae).trans ah) ab
 refine ⟨fun _=>aA,?_⟩
 refine qap (i:=7) kz (qaJ ab az (k:=0) (d:=12) (t:=35) (e:=64) (size:=2) (bytes:=32) (A:=A) (As:=(some ⟨aF,0,none⟩)) (m0:=n) (c:=cp) (m:=1) (cs:=1) (xs:=xs) (news:=[.int .u32 k,.slice A9 x.length aa]) kz kz rfl (qbr (ab.own 2 _ rfl) (qbp kz)) (qbz (ab.own 2 _ rfl)) (by first | omega | (simp only [List.length_nil]; omega) | (simp; omega)) fun am ao aP aQ aB ai aC=>?_)
 have aj:=TT.ofW ((((hF8.trans ac).trans ae).trans ah).trans aB) ai
 refine ⟨fun _=>aj,?_⟩
 refine qaz [8] [(12,.v (.slice am (n + 1) ao)),(13,.p 0 4)] 1 qaf (fun _ h=>h.cells) aj aC fun aR aD=>?_
 refine qap (i:=9) kz (qam ai aD (oi:=0) (cs:=[x0,x1,x2,x3,.slice am (n + 1) ao]) kz fun aS aI ak aE=>?_)
 refine ⟨fun h=>absurd rfl h,?_⟩
 refine qay kz ?_ _
 refine qbI aE ak.cells (v:=.tuple #[]) kz ?_
 obtain ⟨al,aJ⟩:=ak.cutR 2 [⟨am,ao,64,2,n + 1,xs ++ [.int .u32 k,.slice A9 x.length aa]⟩,brow A9 aa 5 x]
 have hoo:=qeo (s:=x) (Av:=A9) (c:=aa) (e8:=5) rfl al (by omega)
 obtain ⟨hb1,hb2,hb3⟩:=qfZ al (World.lt_of_cell (hbx.str.at_ 0 _ rfl))
 exact ⟨rfl,am,ao,A9,aa,hb1,hoo,hb2,hb3⟩
theorem n8w (x:Int):IntKind.i8.wrap x = (x + 128) % 256 - 128:=by simp [IntKind.wrap,IntKind.signed,IntKind.bits]; omega
theorem n16w (x:Int):IntKind.i16.wrap x = (x + 32768) % 65536 - 32768:=by simp [IntKind.wrap,IntKind.signed,IntKind.bits]; omega
theorem n32w (x:Int):IntKind.i32.wrap x = (x + 2147483648) % 4294967296 - 2147483648:=by simp [IntKind.wrap,IntKind.signed,IntKind.bits]; omega
theorem n64w (x:Int):IntKind.i64.wrap x = (x + 9223372036854775808) % 18446744073709551616 - 9223372036854775808:=by simp [IntKind.wrap,IntKind.signed,IntKind.bits]; omega
theorem qh3 (x:Int):IntKind.i64.wrap (IntKind.i8.wrap x) = IntKind.i8.wrap x:=by rw [n64w,n8w]; omega
theorem qfA (x:Int):IntKind.i64.wrap (IntKind.i16.wrap x) = IntKind.i16.wrap x:=by rw [n64w,n16w]; omega
theorem qfB (x:Int):IntKind.i64.wrap (IntKind.i32.wrap x) = IntKind.i32.wrap x:=by rw [n64w,n32w]; omega
theorem qez (x:Int):IntKind.i64.wrap (IntKind.u16.wrap x) = IntKind.u16.wrap x:=by rw [n64w,qbq]; omega
def qch (k n:Int):Int:=if k = 0 then n % 2 else if k = 1 then IntKind.i8.wrap n else if k = 2 then IntKind.i16.wrap n else if k = 3 then IntKind.i32.wrap n else if k = 5 then IntKind.u16.wrap n else n
section
variable {U:List Fld → Tree → Prop} {k x1 x2 x3 x4 x5 x6 n:Int} {sub:List Fld} {s:Bs} {b:Bool} {l:List Tree} {u:List (Int × Bs)}
end
section
variable {T:List Fld → Tree → Tree → Prop} {v k x1 x2 x3 x4 x5 x6 tn n:Int} {sub:List Fld} {ts s:Bs} {tb b:Bool} {tl l:List Tree} {tu u:List (Int × Bs)}
end
theorem qdR {P:Program} {ops:Array Oper} {Q:Exit → Act → World → Prop} {a:Act} {w:World} {T:World → Prop} {c i j fuel:Nat} {listed:Array Bool} (hr:Region.ready .any ops listed = [i,j]) (h:wpOp P ops Q i (fun a' w'=>(i ≠ c → T w') ∧ qbO P ops Q T c fuel (listed.setIfInBounds i true) a' w') a w)
  (h':wpOp P ops Q j (fun a' w'=>(j ≠ c → T w') ∧ qbO P ops Q T c fuel (listed.setIfInBounds j true) a' w') a w):qbO P ops Q T c (fuel + 1) listed a w:=by
 refine ⟨fun h0=>(by rw [hr] at h0; cases h0),fun q hq=>?_⟩
 rw [hr] at hq
 simp only [List.mem_cons,List.not_mem_nil,or_false] at hq
 rcases hq with rfl | rfl
 ·exact h
 exact h'
section
variable {w:World} {F:Nat → Nat → Prop}
end
section
variable {gu tu:List (Int × Bs)} {l:List Fld} {flex:Bool} {i:Nat} {k k':Int} {s s':Bs}
end
end Go.Proofs.YtcbpjflgkefidaaGreatDoor.ME