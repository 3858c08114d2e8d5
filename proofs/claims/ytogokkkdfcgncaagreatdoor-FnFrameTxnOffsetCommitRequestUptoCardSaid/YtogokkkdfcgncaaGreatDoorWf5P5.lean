/- The texts of a claim, put together: the engine, the contracts, the law. Own work. -/
import Derived.Test.YtogokkkdfcgncaaGreatDoorWf5P4
namespace Go.Proofs.YtogokkkdfcgncaaGreatDoor.ME
open Go
open Go.RowKit
set_option linter.unusedVariables false
set_option linter.unusedSimpArgs false
set_option maxRecDepth 20000
def qav (v:Int) (T:Tree):Bs:=(be 4 ((IntKind.i32.wrap (T.at_ 0).N))) ++ ((be 8 ((T.at_ 1).N)) ++ ((if (decide (v ≥ 2)) = true then be 4 ((IntKind.i32.wrap (T.at_ 2).N)) else []) ++ ((if (decide (v ≥ 3)) = true then (if (T.at_ 3).null = true then uv 0 else uv ((qby (T.at_ 3)).length + 1) ++ (qby (T.at_ 3))) else (if (T.at_ 3).null = true then be 2 (-1) else be 2 (qby (T.at_ 3)).length ++ (qby (T.at_ 3)))) ++ (if (decide (v ≥ 3)) = true then (uv T.U.length) ++ (qbx T.U) else []))))
theorem qbD (v:Int) (T:Tree):0 < (qav v T).length:=qlQ (qlf (by decide))
def qaA (v:Int) (T:Tree):Bs:=(if ((if (decide (v ≥ 0)) = true then decide (v ≤ 5) else false)) = true then if (decide (v ≥ 3)) = true then (uv ((T.at_ 0).S.length + 1) ++ (T.at_ 0).S) else (be 2 (T.at_ 0).S.length ++ (T.at_ 0).S) else []) ++ ((if (decide (v ≥ 6)) = true then (qap (T.at_ 1).S) else []) ++ (((if (decide (v ≥ 3)) = true then (uv ((lst (T.at_ 2)).length + 1)) else (be 4 (lst (T.at_ 2)).length)) ++ ((lst (T.at_ 2)).flatMap (qav v))) ++ (if (decide (v ≥ 3)) = true then (uv T.U.length) ++ (qbx T.U) else [])))
theorem qb9 (v:Int) (T:Tree):0 < (qaA v T).length:=qmq (qmq (qlQ (qlQ (qmr (qmc _) (qlf (by decide))))))
def qbW (v:Int) (T:Tree):Bs:=(if (decide (v ≥ 3)) = true then (uv ((T.at_ 0).S.length + 1) ++ (T.at_ 0).S) else (be 2 (T.at_ 0).S.length ++ (T.at_ 0).S)) ++ ((if (decide (v ≥ 3)) = true then (uv ((T.at_ 1).S.length + 1) ++ (T.at_ 1).S) else (be 2 (T.at_ 1).S.length ++ (T.at_ 1).S)) ++ ((be 8 ((T.at_ 2).N)) ++ ((be 2 ((IntKind.i16.wrap (T.at_ 3).N))) ++ ((if (decide (v ≥ 3)) = true then be 4 ((IntKind.i32.wrap (T.at_ 4).N)) else []) ++ ((if (decide (v ≥ 3)) = true then if (decide (v ≥ 3)) = true then (uv ((T.at_ 5).S.length + 1) ++ (T.at_ 5).S) else (be 2 (T.at_ 5).S.length ++ (T.at_ 5).S) else []) ++ ((if (decide (v ≥ 3)) = true then if (decide (v ≥ 3)) = true then (if (T.at_ 6).null = true then uv 0 else uv ((qby (T.at_ 6)).length + 1) ++ (qby (T.at_ 6))) else (if (T.at_ 6).null = true then be 2 (-1) else be 2 (qby (T.at_ 6)).length ++ (qby (T.at_ 6))) else []) ++ (((if (decide (v ≥ 3)) = true then (uv ((lst (T.at_ 7)).length + 1)) else (be 4 (lst (T.at_ 7)).length)) ++ ((lst (T.at_ 7)).flatMap (qaA v))) ++ ((if (decide (v ≥ 3)) = true then (uv T.U.length) ++ (qbx T.U) else []) ++ (([]:Bs))))))))))
theorem qcy (v:Int) (T:Tree):qaj v T = qbW v T:=rfl
def qbF (d:DV):List Value:=[.int .i32 ((d.f 0).n),.int .i64 ((d.f 1).n),.int .i32 ((d.f 2).n),.pointer ((d.f 3).A),.map d.m]
theorem qa6:qhe qaI:=by
 intro w w' F F' M d hs hM hF h
 unfold qaI at h ⊢
 obtain ⟨g0,g1,g2,⟨g3,g3l⟩,t1,t2,t3,_⟩:=h
 exact ⟨g0,g1,g2,⟨fun ad hA=>by
  obtain ⟨b,o,h1,h2⟩:=g3 ad hA
  exact ⟨b,o,h1,h2.move hs hM hF⟩,g3l⟩,t1.move hs hM hF,t2,t3,trivial⟩
def qcb (d:DV):List Value:=[.string ((d.f 0).s),qad ((d.f 1).o.getD 0 0),qad ((d.f 1).o.getD 1 0),qad ((d.f 1).o.getD 2 0),qad ((d.f 1).o.getD 3 0),qad ((d.f 1).o.getD 4 0),qad ((d.f 1).o.getD 5 0),qad ((d.f 1).o.getD 6 0),qad ((d.f 1).o.getD 7 0),qad ((d.f 1).o.getD 8 0),qad ((d.f 1).o.getD 9 0),qad ((d.f 1).o.getD 10 0),qad ((d.f 1).o.getD 11 0),qad ((d.f 1).o.getD 12 0),qad ((d.f 1).o.getD 13 0),qad ((d.f 1).o.getD 14 0),qad ((d.f 1).o.getD 15 0),.slice ((d.f 2).A) ((d.f 2).l) ((d.f 2).c),.map d.m]
theorem qbq:qhe qaX:=by
 intro w w' F F' M d hs hM hF h
 unfold qaX at h ⊢
 obtain ⟨g0,g1,⟨g2,g2l,g2e⟩,t1,t2,t3,_⟩:=h
 exact ⟨g0,g1,⟨g2.move hs hM hF,g2l,fun i hi=>qa6 _ hs hM hF (g2e i hi)⟩,t1.move hs hM hF,t2,t3,trivial⟩
def qaN (v:Int) (D:DV) (T:Tree):Prop:=((D.f 0).n = IntKind.i32.wrap (T.at_ 0).N) ∧ ((D.f 1).n = IntKind.i64.wrap (T.at_ 1).N) ∧ (((decide (v ≥ 2)) = true → (D.f 2).n = IntKind.i32.wrap (T.at_ 2).N) ∧ ((decide (v ≥ 2)) = false → (D.f 2).n = -1)) ∧ (((D.f 3).s = bs (qby (T.at_ 3)) ∧ (D.f 3).A.isNone = (T.at_ 3).null)) ∧ (((decide (v ≥ 3)) = true → D.u = T.U) ∧ ((decide (v ≥ 3)) = false → D.u = [])) ∧ True
def qa3 (v:Int) (D:DV) (T:Tree):Prop:=(((if (decide (v ≥ 0)) = true then decide (v ≤ 5) else false) = true → (D.f 0).s = bs (T.at_ 0).S) ∧ ((if (decide (v ≥ 0)) = true then decide (v ≤ 5) else false) = false → (D.f 0).s = ByteArray.empty)) ∧ (((decide (v ≥ 6)) = true → (D.f 1).o = qap (T.at_ 1).S) ∧ ((decide (v ≥ 6)) = false → (D.f 1).o = List.replicate 16 0)) ∧ (((D.f 2).l = (lst (T.at_ 2)).length ∧ ∀ i,i < (D.f 2).l → qaN v ((D.f 2).f i) ((lst (T.at_ 2)).getD i .zero))) ∧ (((decide (v ≥ 3)) = true → D.u = T.U) ∧ ((decide (v ≥ 3)) = false → D.u = [])) ∧ True
def qbG (v:Int) (D:DV) (T:Tree):Prop:=((D.f 0).s = bs (T.at_ 0).S) ∧ ((D.f 1).s = bs (T.at_ 1).S) ∧ ((D.f 2).n = IntKind.i64.wrap (T.at_ 2).N) ∧ ((D.f 3).n = IntKind.i16.wrap (T.at_ 3).N) ∧ (((decide (v ≥ 3)) = true → (D.f 4).n = IntKind.i32.wrap (T.at_ 4).N) ∧ ((decide (v ≥ 3)) = false → (D.f 4).n = -1)) ∧ (((decide (v ≥ 3)) = true → (D.f 5).s = bs (T.at_ 5).S) ∧ ((decide (v ≥ 3)) = false → (D.f 5).s = ByteArray.empty)) ∧ (((decide (v ≥ 3)) = true → ((D.f 6).s = bs (qby (T.at_ 6)) ∧ (D.f 6).A.isNone = (T.at_ 6).null)) ∧ ((decide (v ≥ 3)) = false → ((D.f 6).s = ByteArray.empty ∧ (D.f 6).A = none))) ∧ (((D.f 7).l = (lst (T.at_ 7)).length ∧ ∀ i,i < (D.f 7).l → qa3 v ((D.f 7).f i) ((lst (T.at_ 7)).getD i .zero))) ∧ (((decide (v ≥ 3)) = true → D.u = T.U) ∧ ((decide (v ≥ 3)) = false → D.u = [])) ∧ True
theorem qmz (b o:Nat) (w:World):Calls Tryz.prog 136 #[.pointer (some ⟨b,o,none⟩)] w (fun e w'=>e = .returned (.tuple #[]) ∧ w' = w):=by
 refine enter (n:=2) (vs:=[.pointer (some ⟨b,o,none⟩)]) Tryz.func136 rfl Tryz.ntmps136 kz fun a hE=>?_
 refine wp_skip ?_
 exact qcr hE (WOk.start w Nil).cells (v:=.tuple #[]) kz ⟨rfl,rfl⟩
abbrev z21 :=([.int .u8 0,.int .u8 0,.int .u8 0,.int .u8 0,.int .u8 0,.int .u8 0,.int .u8 0,.int .u8 0,.int .u8 0,.int .u8 0,.int .u8 0,.int .u8 0,.int .u8 0,.int .u8 0,.int .u8 0,.int .u8 0]:List Value)
set_option maxHeartbeats 4000000 in
theorem qdq (v:Int) (T:Tree) {bv:Nat} {A:Option Addr} {c:Nat} {w:World} {F:Nat → Nat → Prop} (hst:Str w bv [.int .i16 v,.string ByteArray.empty,.string ByteArray.empty,.int .i64 0,.int .i16 0,.int .i32 (-1),.string ByteArray.empty,.pointer none,.slice none 0 0,.map none]) (ho:Octs w F A c (qaj v T)) (hFd:∀ b o,F b o → ¬ (b = bv ∧ o < 10)) (hc:qa5 T) (hR:T.ranged) :
  Calls Tryz.prog 94 #[.pointer (some ⟨bv,0,none⟩),.slice A (qaj v T).length c,.bool false] w (fun e w'=>∃ D:DV,e = .returned .nilIface ∧ Str w' bv [.int .i16 v,.string ((D.f 0).s),.string ((D.f 1).s),.int .i64 ((D.f 2).n),.int .i16 ((D.f 3).n),.int .i32 ((D.f 4).n),.string ((D.f 5).s),.pointer ((D.f 6).A),.slice ((D.f 7).A) ((D.f 7).l) ((D.f 7).c),.map D.m] ∧ qbi w' (Fp F w) D ∧ qbG v D T ∧ Step w w' (fun b o=>b = bv ∧ o < 10)):=by
 refine enter (n:=250) Tryz.func94 rfl Tryz.ntmps94 kz fun a hE=>?_
 have hW:=WOk.startStr hst
 have hE1:=(hE.grow ⟨bv,0,[.int .i16 v,.string ByteArray.empty,.string ByteArray.empty,.int .i64 0,.int .i16 0,.int .i32 (-1),.string ByteArray.empty,.pointer none,.slice none 0 0,.map none],true⟩).recast 0 (.v (.pointer (some ⟨bv,0,none⟩))) (.p 0 0) rfl rfl (Nat.le_of_ble_eq_true (n:=1) rfl)
 refine qar [(0,.p 0 0),(1,.v (.slice A ((qaj v T).length) c)),(2,.v (.bool false))] hW hE1 fun a1 hE2=>?_
 refine qae [0,1] kz ?_
 refine qak [0] [1] [(0,.p 0 0),(1,.v (.slice A ((qaj v T).length) c)),(2,.v (.bool false)),(36,.p 0 0)] hW hE2 fun a3 hE4=>?_
 refine qam (qa9 hE4 (f:=92) (vs:=[.pointer (some ⟨bv,0,none⟩)]) (d:=37) (n':=5) kz Tryz.call92 Tryz.func92 rfl Tryz.ntmps92 kz fun a5 hE6=>?_)
 have hE7:=hE6.recast 0 (.v (.pointer (some ⟨bv,0,none⟩))) (.p 0 0) rfl rfl (Nat.le_of_ble_eq_true (n:=1) rfl)
 refine qas [0,1,2,3] kz ?_
 refine qak [0,1,2] [3] [(4,.p 0 5)] hW hE7 fun a8 hE9=>?_
 refine qam (qaM hW hE9 (oi:=0) (cs:=[.int .i16 v,.string ByteArray.empty,.string ByteArray.empty,.int .i64 0,.int .i16 0,.int .i32 (-1),.string ByteArray.empty,.pointer none,.slice none 0 0,.map none]) kz fun iT iy fu g8=>?_)
 refine qaf (qcr g8 fu.cells (v:=.tuple #[]) kz ?_)
 refine ⟨_,rfl,fun iU g9=>?_⟩
 have hC:=(EnvOk.places (tb':=[⟨bv,0,[.int .i16 v,.string ByteArray.empty,.string ByteArray.empty,.int .i64 0,.int .i16 0,.int .i32 (-1),.string ByteArray.empty,.pointer none,.slice none 0 0,.map none],true⟩]) g9 (show Pl [⟨bv,0,[.int .i16 v,.string ByteArray.empty,.string ByteArray.empty,.int .i64 0,.int .i16 0,.int .i32 (-1),.string ByteArray.empty,.pointer none,.slice none 0 0,.map none],true⟩] [⟨bv,0,[.int .i16 v,.string ByteArray.empty,.string ByteArray.empty,.int .i64 0,.int .i16 0,.int .i32 (-1),.string ByteArray.empty,.pointer none,.slice none 0 0,.map none],true⟩] from ⟨rfl,rfl,trivial⟩)).pk (env':=[(37,.v (.tuple #[])),(0,.p 0 0),(1,.v (.slice A ((qaj v T).length) c)),(2,.v (.bool false)),(36,.p 0 0)])
 refine qaf (qab ?_)
 refine qae [0,1,2,3] kz ?_
 refine qak [0,1] [2,3] [(0,.p 0 0),(2,.v (.bool false)),(39,.v (.agg #[.slice A ((qaj v T).length) c,.bool false]))] fu hC fun iV hJ=>?_
 refine qam (qbc fu hJ (d:=7) (cs:=[.slice none 0 0,.bool false]) kz fun bf iW iX iz iA iB hK hZ=>?_)
 refine qam (qaM hK hZ (oi:=1) (cs:=[.slice A ((qaj v T).length) c,.bool false]) kz fun iY iC fv ia=>?_)
 refine qaf (qab ?_)
 have fF:=RS.start (F:=F) (s:=qaj v T) fv ia (ho.move fv.step (fun b_ o_ h_ _=>hFd b_ o_ h_) (fv.immM hFd)) [(0,.p 1 0),(2,.v (.bool false)),(7,.p 0 0)]
 have ix:=hc
 have e32r:=hR
 unfold qa5 at ix
 obtain ⟨e32_0,e32_1,e32_2,e32_3,e32_4,e32_5,e32_6,⟨e32_7,e32_7e⟩,e32_U,_⟩:=ix
 obtain ⟨bZ,fG⟩:∃ R,R = (if (decide (v ≥ 3)) = true then (uv T.U.length) ++ (qbx T.U) else []) ++ ([]:Bs):=⟨_,rfl⟩
 obtain ⟨fD,fH⟩:∃ R,R = ((if (decide (v ≥ 3)) = true then (uv ((lst (T.at_ 7)).length + 1)) else (be 4 (lst (T.at_ 7)).length)) ++ ((lst (T.at_ 7)).flatMap (qaA v))) ++ bZ:=⟨_,rfl⟩
 obtain ⟨fE,fI⟩:∃ R,R = (if (decide (v ≥ 3)) = true then if (decide (v ≥ 3)) = true then (if (T.at_ 6).null = true then uv 0 else uv ((qby (T.at_ 6)).length + 1) ++ (qby (T.at_ 6))) else (if (T.at_ 6).null = true then be 2 (-1) else be 2 (qby (T.at_ 6)).length ++ (qby (T.at_ 6))) else []) ++ fD:=⟨_,rfl⟩
 obtain ⟨fJ,fK⟩:∃ R,R = (if (decide (v ≥ 3)) = true then if (decide (v ≥ 3)) = true then (uv ((T.at_ 5).S.length + 1) ++ (T.at_ 5).S) else (be 2 (T.at_ 5).S.length ++ (T.at_ 5).S) else []) ++ fE:=⟨_,rfl⟩
 obtain ⟨iD,fL⟩:∃ R,R = (if (decide (v ≥ 3)) = true then be 4 ((IntKind.i32.wrap (T.at_ 4).N)) else []) ++ fJ:=⟨_,rfl⟩
 obtain ⟨iE,fM⟩:∃ R,R = (be 2 ((IntKind.i16.wrap (T.at_ 3).N))) ++ iD:=⟨_,rfl⟩
 obtain ⟨iF,fN⟩:∃ R,R = (be 8 ((T.at_ 2).N)) ++ iE:=⟨_,rfl⟩
 obtain ⟨iG,fO⟩:∃ R,R = (if (decide (v ≥ 3)) = true then (uv ((T.at_ 1).S.length + 1) ++ (T.at_ 1).S) else (be 2 (T.at_ 1).S.length ++ (T.at_ 1).S)) ++ iF:=⟨_,rfl⟩
 obtain ⟨iH,fP⟩:∃ R,R = (if (decide (v ≥ 3)) = true then (uv ((T.at_ 0).S.length + 1) ++ (T.at_ 0).S) else (be 2 (T.at_ 0).S.length ++ (T.at_ 0).S)) ++ iG:=⟨_,rfl⟩
 have fQ:=fF.cast (t:=iH) (by rw [qcy,fP,fO,fN,fM,fL,fK,fI,fH,fG]; unfold qbW; simp only [List.append_assoc])
 clear fF
 refine wp_seq (qbA [(0,.p 1 0),(2,.v (.bool false)),(7,.p 0 0),(8,.v (.int .i16 v))] fQ fun _ fR=>?_)
 clear fQ
 refine qab (wp_seq (qbA [(0,.p 1 0),(2,.v (.bool false)),(7,.p 0 0),(8,.v (.int .i16 v))] fR fun _ fS=>?_))
 clear fR
 refine qab (wp_seq (qbA [(0,.p 1 0),(2,.v (.bool false)),(7,.p 0 0),(8,.v (.int .i16 v)),(9,.v (.bool (decide (v ≥ 3))))] fS fun _ fT=>?_))
 clear fS
 refine qab (wp_seq (qbA [(0,.p 1 0),(2,.v (.bool false)),(7,.p 0 0),(8,.v (.int .i16 v)),(9,.v (.bool (decide (v ≥ 3))))] fT fun _ fU=>?_))
 clear fT
 refine qab (wp_seq (qbA [(2,.v (.bool false)),(7,.p 0 0),(8,.v (.int .i16 v)),(9,.v (.bool (decide (v ≥ 3)))),(10,.p 1 0)] fU fun _ fV=>?_))
 clear fU
 refine qab (wp_seq (wp_seq (qbA [(2,.v (.bool false)),(7,.p 0 0),(8,.v (.int .i16 v)),(9,.v (.bool (decide (v ≥ 3)))),(10,.p 1 0)] fV fun _ fW=>?_)))
 clear fV
 refine qab (wp_seq (wp_seq (qbA [(2,.v (.bool false)),(7,.p 0 0),(8,.v (.int .i16 v)),(9,.v (.bool (decide (v ≥ 3)))),(10,.p 1 0),(49,.v (.bool false))] fW fun _ fw=>qab ?_)))
 clear fW
 refine qau fw.env_ (b:=false) kz (rfl) ?_
 have fX:=fw.cast fP
 clear fw
 refine qfM (d1:=54) (d2:=55) [(2,.v (.bool false)),(7,.p 0 0),(8,.v (.int .i16 v)),(9,.v (.bool (decide (v ≥ 3)))),(10,.p 1 0),(53,.v (.bool (decide (v ≥ 3))))] [(2,.v (.bool false)),(7,.p 0 0),(8,.v (.int .i16 v)),(9,.v (.bool (decide (v ≥ 3)))),(10,.p 1 0),(11,.v (.string (bs (T.at_ 0).S)))] fX (qcN (T.at_ 0).S e32_0 _) Tryz.call115 (qhR (T.at_ 0).S e32_0 _) Tryz.call116 fun _ _ fY=>?_
 clear fX
 refine qab (qcW [⟨bv,0,[.int .i16 v,.string (bs (T.at_ 0).S),.string ByteArray.empty,.int .i64 0,.int .i16 0,.int .i32 (-1),.string ByteArray.empty,.pointer none,.slice none 0 0,.map none],true⟩] 0 [(2,.v (.bool false)),(7,.p 0 0),(8,.v (.int .i16 v)),(9,.v (.bool (decide (v ≥ 3)))),(10,.p 1 0)] fY fun _ _ fZ=>?_)
 clear fY
 refine qab (wp_seq (wp_seq (qbA [(2,.v (.bool false)),(7,.p 0 0),(8,.v (.int .i16 v)),(9,.v (.bool (decide (v ≥ 3)))),(10,.p 1 0)] fZ fun _ f5=>?_)))
 clear fZ
 refine qab (wp_seq (wp_seq (qbA [(2,.v (.bool false)),(7,.p 0 0),(8,.v (.int .i16 v)),(9,.v (.bool (decide (v ≥ 3)))),(10,.p 1 0),(60,.v (.bool false))] f5 fun _ fx=>qab ?_)))
 clear f5
 refine qau fx.env_ (b:=false) kz (rfl) ?_
 have f7:=fx.cast fO
 clear fx
 refine qfM (d1:=65) (d2:=66) [(2,.v (.bool false)),(7,.p 0 0),(8,.v (.int .i16 v)),(9,.v (.bool (decide (v ≥ 3)))),(10,.p 1 0),(64,.v (.bool (decide (v ≥ 3))))] [(2,.v (.bool false)),(7,.p 0 0),(8,.v (.int .i16 v)),(9,.v (.bool (decide (v ≥ 3)))),(10,.p 1 0),(12,.v (.string (bs (T.at_ 1).S)))] f7 (qcN (T.at_ 1).S e32_1 _) Tryz.call115 (qhR (T.at_ 1).S e32_1 _) Tryz.call116 fun _ _ f8=>?_
 clear f7
 refine qab (qcW [⟨bv,0,[.int .i16 v,.string (bs (T.at_ 0).S),.string (bs (T.at_ 1).S),.int .i64 0,.int .i16 0,.int .i32 (-1),.string ByteArray.empty,.pointer none,.slice none 0 0,.map none],true⟩] 0 [(2,.v (.bool false)),(7,.p 0 0),(8,.v (.int .i16 v)),(9,.v (.bool (decide (v ≥ 3)))),(10,.p 1 0)] f8 fun _ _ f9=>?_)
 clear f8
 refine qab (wp_seq (wp_seq ?_))
 have ga:=f9.cast fN
 clear f9
 refine qeu (d:=71) [(2,.v (.bool false)),(7,.p 0 0),(8,.v (.int .i16 v)),(9,.v (.bool (decide (v ≥ 3)))),(10,.p 1 0),(13,.v (.int .i64 (IntKind.i64.wrap (T.at_ 2).N)))] ga (qlg _ _) Tryz.call122 fun _ _ gb=>?_
 clear ga
 refine qab (qcW [⟨bv,0,[.int .i16 v,.string (bs (T.at_ 0).S),.string (bs (T.at_ 1).S),.int .i64 (IntKind.i64.wrap (T.at_ 2).N),.int .i16 0,.int .i32 (-1),.string ByteArray.empty,.pointer none,.slice none 0 0,.map none],true⟩] 0 [(2,.v (.bool false)),(7,.p 0 0),(8,.v (.int .i16 v)),(9,.v (.bool (decide (v ≥ 3)))),(10,.p 1 0)] gb fun _ _ gc=>?_)
 clear gb
 refine qab (wp_seq (wp_seq ?_))
 have gd:=gc.cast fM
 clear gc
 refine qeu (d:=76) [(2,.v (.bool false)),(7,.p 0 0),(8,.v (.int .i16 v)),(9,.v (.bool (decide (v ≥ 3)))),(10,.p 1 0),(14,.v (.int .i16 (IntKind.i16.wrap (T.at_ 3).N)))] gd (qmu _ _) Tryz.call135 fun _ _ ge=>?_
 clear gd
 refine qab (qcW [⟨bv,0,[.int .i16 v,.string (bs (T.at_ 0).S),.string (bs (T.at_ 1).S),.int .i64 (IntKind.i64.wrap (T.at_ 2).N),.int .i16 (IntKind.i16.wrap (T.at_ 3).N),.int .i32 (-1),.string ByteArray.empty,.pointer none,.slice none 0 0,.map none],true⟩] 0 [(2,.v (.bool false)),(7,.p 0 0),(8,.v (.int .i16 v)),(9,.v (.bool (decide (v ≥ 3)))),(10,.p 1 0)] ge fun _ _ gg=>?_)
 clear ge
 refine qab (wp_seq ?_)
 have gh:=gg.cast fL
 clear gg
 refine qcM (Mid:=fun a_ w_=>∃ (ap:DV) (P':qco),(∀ w F,P' w F → noF w F ∧ (True) ∧ ((decide (v ≥ 3)) = true → ap.n = IntKind.i32.wrap (T.at_ 4).N) ∧ ((decide (v ≥ 3)) = false → ap.n = -1)) ∧ RS w (fun b o=>b = bv ∧ o < 10) F 250 bf [⟨bv,0,[.int .i16 v,.string (bs (T.at_ 0).S),.string (bs (T.at_ 1).S),.int .i64 (IntKind.i64.wrap (T.at_ 2).N),.int .i16 (IntKind.i16.wrap (T.at_ 3).N),.int .i32 ap.n,.string ByteArray.empty,.pointer none,.slice none 0 0,.map none],true⟩] [(2,.v (.bool false)),(7,.p 0 0),(8,.v (.int .i16 v)),(9,.v (.bool (decide (v ≥ 3)))),(10,.p 1 0)] P' fJ a_ w_) ?_ ?_
 ·
  refine wp_seq (qbA [(2,.v (.bool false)),(7,.p 0 0),(8,.v (.int .i16 v)),(9,.v (.bool (decide (v ≥ 3)))),(10,.p 1 0),(82,.v (.bool (decide (v ≥ 3))))] gh fun _ bn=>qab ?_)
  clear gh
  refine qay bn.env_ (b:=decide (v ≥ 3)) kz (fun bo=>?_) (fun bo=>?_)
  ·
   have gi:=bn.cast (t:=(be 4 ((IntKind.i32.wrap (T.at_ 4).N))) ++ fJ) (by rw [if_pos bo])
   clear bn
   refine wp_seq (qeu (d:=83) [(2,.v (.bool false)),(7,.p 0 0),(8,.v (.int .i16 v)),(9,.v (.bool (decide (v ≥ 3)))),(10,.p 1 0),(15,.v (.int .i32 (IntKind.i32.wrap (T.at_ 4).N)))] gi (qkf _ _) Tryz.call117 fun _ _ gj=>?_)
   clear gi
   refine qab (qcW [⟨bv,0,[.int .i16 v,.string (bs (T.at_ 0).S),.string (bs (T.at_ 1).S),.int .i64 (IntKind.i64.wrap (T.at_ 2).N),.int .i16 (IntKind.i16.wrap (T.at_ 3).N),.int .i32 (IntKind.i32.wrap (T.at_ 4).N),.string ByteArray.empty,.pointer none,.slice none 0 0,.map none],true⟩] 0 [(2,.v (.bool false)),(7,.p 0 0),(8,.v (.int .i16 v)),(9,.v (.bool (decide (v ≥ 3)))),(10,.p 1 0)] gj fun _ _ ib=>?_)
   clear gj
   refine qab ?_
   exact ⟨dvN (IntKind.i32.wrap (T.at_ 4).N),_,fun w F h_=>⟨h_,trivial,⟨fun _=>rfl,(fun e_=>by rw [bo] at e_; cases e_)⟩⟩,ib.pk (env':=[(2,.v (.bool false)),(7,.p 0 0),(8,.v (.int .i16 v)),(9,.v (.bool (decide (v ≥ 3)))),(10,.p 1 0)])⟩
  have gk:=bn.cast (t:=[] ++ fJ) (by rw [if_neg (by rw [bo]; decide)])
  clear bn
  have ic:=gk.cast (t:=fJ) rfl
  clear gk
  refine wp_skip (qab ?_)
  exact ⟨dvN (-1),_,fun w F h_=>⟨h_,trivial,⟨(fun e_=>by rw [bo] at e_; cases e_),fun _=>rfl⟩⟩,ic.pk (env':=[(2,.v (.bool false)),(7,.p 0 0),(8,.v (.int .i16 v)),(9,.v (.bool (decide (v ≥ 3)))),(10,.p 1 0)])⟩
 rintro _ _ ⟨ap,iI,gl,gm⟩
 refine qab (wp_seq ?_)
 have gn:=gm.cast fK
 clear gm
 refine qcM (Mid:=fun a_ w_=>∃ (ar:DV) (P':qco),(∀ w F,P' w F → iI w F ∧ (ar.s.size ≤ 1000000) ∧ ((decide (v ≥ 3)) = true → ar.s = bs (T.at_ 5).S) ∧ ((decide (v ≥ 3)) = false → ar.s = ByteArray.empty)) ∧ RS w (fun b o=>b = bv ∧ o < 10) F 250 bf [⟨bv,0,[.int .i16 v,.string (bs (T.at_ 0).S),.string (bs (T.at_ 1).S),.int .i64 (IntKind.i64.wrap (T.at_ 2).N),.int .i16 (IntKind.i16.wrap (T.at_ 3).N),.int .i32 ap.n,.string ar.s,.pointer none,.slice none 0 0,.map none],true⟩] [(2,.v (.bool false)),(7,.p 0 0),(8,.v (.int .i16 v)),(9,.v (.bool (decide (v ≥ 3)))),(10,.p 1 0)] P' fE a_ w_) ?_ ?_
 ·
  refine wp_seq (qbA [(2,.v (.bool false)),(7,.p 0 0),(8,.v (.int .i16 v)),(9,.v (.bool (decide (v ≥ 3)))),(10,.p 1 0),(89,.v (.bool (decide (v ≥ 3))))] gn fun _ bp=>qab ?_)
  clear gn
  refine qay bp.env_ (b:=decide (v ≥ 3)) kz (fun aX=>?_) (fun aX=>?_)
  ·
   have gp:=bp.cast (t:=(if (decide (v ≥ 3)) = true then (uv ((T.at_ 5).S.length + 1) ++ (T.at_ 5).S) else (be 2 (T.at_ 5).S.length ++ (T.at_ 5).S)) ++ fE) (by rw [if_pos aX])
   clear bp
   refine wp_seq (qbA [(2,.v (.bool false)),(7,.p 0 0),(8,.v (.int .i16 v)),(9,.v (.bool (decide (v ≥ 3)))),(10,.p 1 0)] gp fun _ gq=>?_)
   clear gp
   refine qab (wp_seq (wp_seq (qbA [(2,.v (.bool false)),(7,.p 0 0),(8,.v (.int .i16 v)),(9,.v (.bool (decide (v ≥ 3)))),(10,.p 1 0),(90,.v (.bool false))] gq fun _ fy=>qab ?_)))
   clear gq
   refine qau fy.env_ (b:=false) kz (rfl) ?_
   refine wp_seq (qbA [(2,.v (.bool false)),(7,.p 0 0),(8,.v (.int .i16 v)),(9,.v (.bool (decide (v ≥ 3)))),(10,.p 1 0),(94,.v (.bool (decide (v ≥ 3))))] fy fun _ bq=>qab ?_)
   clear fy
   refine qbw bq.env_ (b:=decide (v ≥ 3)) kz (aX) ?_
   have b8:=bq.cast (t:=(uv ((T.at_ 5).S.length + 1) ++ (T.at_ 5).S) ++ fE) (by rw [if_pos (aX)])
   clear bq
   refine qeu (d:=95) [(2,.v (.bool false)),(7,.p 0 0),(8,.v (.int .i16 v)),(9,.v (.bool (decide (v ≥ 3)))),(10,.p 1 0),(16,.v (.string (bs (T.at_ 5).S)))] b8 (qcN (T.at_ 5).S e32_5 _) Tryz.call115 fun _ _ cd=>?_
   clear b8
   refine qab (qcW [⟨bv,0,[.int .i16 v,.string (bs (T.at_ 0).S),.string (bs (T.at_ 1).S),.int .i64 (IntKind.i64.wrap (T.at_ 2).N),.int .i16 (IntKind.i16.wrap (T.at_ 3).N),.int .i32 ap.n,.string (bs (T.at_ 5).S),.pointer none,.slice none 0 0,.map none],true⟩] 0 [(2,.v (.bool false)),(7,.p 0 0),(8,.v (.int .i16 v)),(9,.v (.bool (decide (v ≥ 3)))),(10,.p 1 0)] cd fun _ _ gt=>?_)
   clear cd
   refine qab ?_
   exact ⟨dvS (bs (T.at_ 5).S),_,fun w F h_=>⟨h_,by show ByteArray.size (bs _) ≤ 1000000; rw [qcS]; exact Nat.le_trans e32_5 (by decide),⟨fun _=>rfl,(fun e_=>by rw [aX] at e_; cases e_)⟩⟩,gt.pk (env':=[(2,.v (.bool false)),(7,.p 0 0),(8,.v (.int .i16 v)),(9,.v (.bool (decide (v ≥ 3)))),(10,.p 1 0)])⟩
  have ce:=bp.cast (t:=[] ++ fE) (by rw [if_neg (by rw [aX]; decide)])
  clear bp
  have gv:=ce.cast (t:=fE) rfl
  clear ce
  refine wp_skip (qab ?_)
  exact ⟨dvS ByteArray.empty,_,fun w F h_=>⟨h_,Nat.zero_le _,⟨(fun e_=>by rw [aX] at e_; cases e_),fun _=>rfl⟩⟩,gv.pk (env':=[(2,.v (.bool false)),(7,.p 0 0),(8,.v (.int .i16 v)),(9,.v (.bool (decide (v ≥ 3)))),(10,.p 1 0)])⟩
 rintro _ _ ⟨ar,iJ,bR,gw⟩
 refine qab (wp_seq ?_)
 have cg:=gw.cast fI
 clear gw
 refine qcM (Mid:=fun a_ w_=>∃ (ak:DV) (P':qco),(∀ w F,P' w F → iJ w F ∧ ((∀ ad,ak.A = some ad → ∃ b o,ad = ⟨b,o,none⟩ ∧ AtF w F b o [.string ak.s]) ∧ ak.s.size ≤ 1000000) ∧ ((decide (v ≥ 3)) = true → (ak.s = bs (qby (T.at_ 6)) ∧ ak.A.isNone = (T.at_ 6).null)) ∧ ((decide (v ≥ 3)) = false → (ak.s = ByteArray.empty ∧ ak.A = none))) ∧ RS w (fun b o=>b = bv ∧ o < 10) F 250 bf [⟨bv,0,[.int .i16 v,.string (bs (T.at_ 0).S),.string (bs (T.at_ 1).S),.int .i64 (IntKind.i64.wrap (T.at_ 2).N),.int .i16 (IntKind.i16.wrap (T.at_ 3).N),.int .i32 ap.n,.string ar.s,.pointer ak.A,.slice none 0 0,.map none],true⟩] [(2,.v (.bool false)),(7,.p 0 0),(8,.v (.int .i16 v)),(9,.v (.bool (decide (v ≥ 3)))),(10,.p 1 0)] P' fD a_ w_) ?_ ?_
 ·
  refine wp_seq (qbA [(2,.v (.bool false)),(7,.p 0 0),(8,.v (.int .i16 v)),(9,.v (.bool (decide (v ≥ 3)))),(10,.p 1 0),(102,.v (.bool (decide (v ≥ 3))))] cg fun _ aF=>qab ?_)
  clear cg
  refine qay aF.env_ (b:=decide (v ≥ 3)) kz (fun aA=>?_) (fun aA=>?_)
  ·
   have cm:=aF.cast (t:=(if (decide (v ≥ 3)) = true then (if (T.at_ 6).null = true then uv 0 else uv ((qby (T.at_ 6)).length + 1) ++ (qby (T.at_ 6))) else (if (T.at_ 6).null = true then be 2 (-1) else be 2 (qby (T.at_ 6)).length ++ (qby (T.at_ 6)))) ++ fD) (by rw [if_pos aA])
   clear aF
   refine wp_seq (qbA [(2,.v (.bool false)),(7,.p 0 0),(8,.v (.int .i16 v)),(9,.v (.bool (decide (v ≥ 3)))),(10,.p 1 0)] cm fun _ cq=>?_)
   clear cm
   refine qab (wp_seq (wp_seq (qbA [(2,.v (.bool false)),(7,.p 0 0),(8,.v (.int .i16 v)),(9,.v (.bool (decide (v ≥ 3)))),(10,.p 1 0),(103,.v (.bool (decide (v ≥ 3))))] cq fun _ bt=>qab ?_)))
   clear cq
   refine qbw bt.env_ (b:=decide (v ≥ 3)) kz (aA) ?_
   have cr:=bt.cast (t:=(if (T.at_ 6).null = true then uv 0 else uv ((qby (T.at_ 6)).length + 1) ++ (qby (T.at_ 6))) ++ fD) (by rw [if_pos (aA)])
   clear bt
   refine wp_seq (qbA [(2,.v (.bool false)),(7,.p 0 0),(8,.v (.int .i16 v)),(9,.v (.bool (decide (v ≥ 3)))),(10,.p 1 0),(104,.v (.bool false))] cr fun _ bu=>qab ?_)
   clear cr
   refine qau bu.env_ (b:=false) kz (rfl) ?_
   refine qlL (d:=106) (fun bS=>[(2,.v (.bool false)),(7,.p 0 0),(8,.v (.int .i16 v)),(9,.v (.bool (decide (v ≥ 3)))),(10,.p 1 0),(17,.v (.pointer bS))]) bu (qcH (T.at_ 6).null (qby (T.at_ 6)) e32_6 _) (fun _=>(MvF.text _ _).and (MvF.is _)) Tryz.call119 fun bS iK _ _ bw cu=>?_
   clear bu
   refine qab (qcW [⟨bv,0,[.int .i16 v,.string (bs (T.at_ 0).S),.string (bs (T.at_ 1).S),.int .i64 (IntKind.i64.wrap (T.at_ 2).N),.int .i16 (IntKind.i16.wrap (T.at_ 3).N),.int .i32 ap.n,.string ar.s,.pointer bS,.slice none 0 0,.map none],true⟩] 0 [(2,.v (.bool false)),(7,.p 0 0),(8,.v (.int .i16 v)),(9,.v (.bool (decide (v ≥ 3)))),(10,.p 1 0)] cu fun _ _ gx=>?_)
   clear cu
   refine qab ?_
   exact ⟨dvT bS (bs (qby (T.at_ 6))),_,fun w F h_=>⟨(bw _ _ h_).1,⟨(bw _ _ h_).2.1,by show ByteArray.size (bs _) ≤ 1000000; rw [qcS]; exact Nat.le_trans e32_6 (by decide)⟩,⟨fun _=>⟨rfl,(bw _ _ h_).2.2⟩,(fun e_=>by rw [aA] at e_; cases e_)⟩⟩,gx.pk (env':=[(2,.v (.bool false)),(7,.p 0 0),(8,.v (.int .i16 v)),(9,.v (.bool (decide (v ≥ 3)))),(10,.p 1 0)])⟩
  have cv:=aF.cast (t:=[] ++ fD) (by rw [if_neg (by rw [aA]; decide)])
  clear aF
  have gy:=cv.cast (t:=fD) rfl
  clear cv
  refine wp_skip (qab ?_)
  exact ⟨dvT none ByteArray.empty,_,fun w F h_=>⟨h_,⟨fun _ h=>(by cases h),Nat.zero_le _⟩,⟨(fun e_=>by rw [aA] at e_; cases e_),fun _=>⟨rfl,rfl⟩⟩⟩,gy.pk (env':=[(2,.v (.bool false)),(7,.p 0 0),(8,.v (.int .i16 v)),(9,.v (.bool (decide (v ≥ 3)))),(10,.p 1 0)])⟩
 rintro _ _ ⟨ak,gz,aB,cw⟩
 refine qab (wp_seq (wp_seq (qbA [(2,.v (.bool false)),(7,.p 0 0),(8,.v (.int .i16 v)),(9,.v (.bool (decide (v ≥ 3)))),(10,.p 1 0),(18,.v (.slice none 0 0))] cw fun _ cz=>?_)))
 clear cw
 refine qab (wp_seq (qbA [(2,.v (.bool false)),(7,.p 0 0),(8,.v (.int .i16 v)),(9,.v (.bool (decide (v ≥ 3)))),(10,.p 1 0),(19,.v (.slice none 0 0))] cz fun _ cA=>?_))
 clear cz
 refine qab (wp_seq (qbA [(2,.v (.bool false)),(7,.p 0 0),(8,.v (.int .i16 v)),(9,.v (.bool (decide (v ≥ 3)))),(10,.p 1 0),(19,.v (.slice none 0 0))] cA fun _ cB=>?_))
 clear cA
 refine qab (wp_seq ?_)
 have cC:=cB.cast fH
 clear cB
 have cD:=cC.cast (t:=(if (decide (v ≥ 3)) = true then (uv ((lst (T.at_ 7)).length + 1)) else (be 4 (lst (T.at_ 7)).length)) ++ (((lst (T.at_ 7)).flatMap (qaA v)) ++ bZ)) (by rw [List.append_assoc])
 clear cC
 refine qfM (d1:=120) (d2:=121) [(2,.v (.bool false)),(7,.p 0 0),(8,.v (.int .i16 v)),(9,.v (.bool (decide (v ≥ 3)))),(10,.p 1 0),(19,.v (.slice none 0 0)),(119,.v (.bool (decide (v ≥ 3))))] [(2,.v (.bool false)),(7,.p 0 0),(8,.v (.int .i16 v)),(9,.v (.bool (decide (v ≥ 3)))),(10,.p 1 0),(19,.v (.slice none 0 0)),(20,.v (.int .i32 (((lst (T.at_ 7)).length:Nat):Int)))] cD (qdJ ((lst (T.at_ 7)).length) e32_7 _ (flat_ge' (qb9 v) _)) Tryz.call123 (qhg ((lst (T.at_ 7)).length) e32_7 _ (flat_ge' (qb9 v) _)) Tryz.call124 fun _ _ cE=>?_
 clear cD
 refine qab (wp_seq (wp_seq (qmt (d:=122) [(2,.v (.bool false)),(7,.p 0 0),(8,.v (.int .i16 v)),(9,.v (.bool (decide (v ≥ 3)))),(10,.p 1 0),(19,.v (.slice none 0 0)),(20,.v (.int .i32 (((lst (T.at_ 7)).length:Nat):Int))),(123,.v (.bool false))] cE (pOk _) Tryz.call125 fun _ _ bx=>?_)))
 clear cE
 refine qab (qau bx.env_ (b:=false) kz (rfl) ?_)
 refine wp_skip (qab (wp_seq (qkd (t:=99) (e:=154) (size:=19) (bytes:=64) (d:=126) (A0:=none) (m:=0) (cp:=0) [(2,.v (.bool false)),(7,.p 0 0),(8,.v (.int .i16 v)),(9,.v (.bool (decide (v ≥ 3)))),(10,.p 1 0),(20,.v (.int .i32 (((lst (T.at_ 7)).length:Nat):Int))),(125,.v (.slice none 0 0))] [(2,.v (.bool false)),(7,.p 0 0),(8,.v (.int .i16 v)),(9,.v (.bool (decide (v ≥ 3)))),(10,.p 1 0),(19,.v (.slice none 0 0)),(20,.v (.int .i32 (((lst (T.at_ 7)).length:Nat):Int)))] 1 bx fun _ cG=>?_)))
 clear bx
 refine qab (qil (Mid:=fun a_ w_=>∃ (aj:DV) (P':qco),(∀ w F,P' w F → gz w F ∧ (Slots w F 19 aj.A aj.c aj.l (fun i=>[.string (((aj.f i).f 0).s),qad (((aj.f i).f 1).o.getD 0 0),qad (((aj.f i).f 1).o.getD 1 0),qad (((aj.f i).f 1).o.getD 2 0),qad (((aj.f i).f 1).o.getD 3 0),qad (((aj.f i).f 1).o.getD 4 0),qad (((aj.f i).f 1).o.getD 5 0),qad (((aj.f i).f 1).o.getD 6 0),qad (((aj.f i).f 1).o.getD 7 0),qad (((aj.f i).f 1).o.getD 8 0),qad (((aj.f i).f 1).o.getD 9 0),qad (((aj.f i).f 1).o.getD 10 0),qad (((aj.f i).f 1).o.getD 11 0),qad (((aj.f i).f 1).o.getD 12 0),qad (((aj.f i).f 1).o.getD 13 0),qad (((aj.f i).f 1).o.getD 14 0),qad (((aj.f i).f 1).o.getD 15 0),.slice (((aj.f i).f 2).A) (((aj.f i).f 2).l) (((aj.f i).f 2).c),.map ((aj.f i).m)]) ∧ aj.l ≤ 1000000 ∧ ∀ i,i < aj.l → qaX w F (aj.f i)) ∧ (aj.l = (lst (T.at_ 7)).length ∧ ∀ i,i < aj.l → qa3 v (aj.f i) ((lst (T.at_ 7)).getD i .zero))) ∧ RS w (fun b o=>b = bv ∧ o < 10) F 250 bf [⟨bv,0,[.int .i16 v,.string (bs (T.at_ 0).S),.string (bs (T.at_ 1).S),.int .i64 (IntKind.i64.wrap (T.at_ 2).N),.int .i16 (IntKind.i16.wrap (T.at_ 3).N),.int .i32 ap.n,.string ar.s,.pointer ak.A,.slice none 0 0,.map none],true⟩] [(7,.p 0 0),(9,.v (.bool (decide (v ≥ 3)))),(10,.p 1 0),(19,.v (.slice aj.A aj.l aj.c))] P' bZ a_ w_) ?_ ?_)
 ·
  refine wp_seq (qbA [(2,.v (.bool false)),(7,.p 0 0),(8,.v (.int .i16 v)),(9,.v (.bool (decide (v ≥ 3)))),(10,.p 1 0),(19,.v (.slice none 0 0)),(20,.v (.int .i32 (((lst (T.at_ 7)).length:Nat):Int))),(128,.v (.bool (decide ((((lst (T.at_ 7)).length:Nat):Int) > 0))))] cG fun _ aG=>qab ?_)
  clear cG
  refine qay aG.env_ (b:=decide ((((lst (T.at_ 7)).length:Nat):Int) > 0)) kz (fun bg=>?_) (fun bg=>?_)
  ·
   have hn_g142:0 < (lst (T.at_ 7)).length:=by have h_:=of_decide_eq_true bg; omega
   refine qas [0,1,2,3] kz ?_
   refine qc8 [0,1] [2,3] [(2,.v (.bool false)),(7,.p 0 0),(8,.v (.int .i16 v)),(9,.v (.bool (decide (v ≥ 3)))),(10,.p 1 0),(20,.v (.int .i32 (((lst (T.at_ 7)).length:Nat):Int))),(129,.v (.slice none 0 0)),(130,.v (.int .i32 (((lst (T.at_ 7)).length:Nat):Int)))] aG fun _ cH=>?_
   clear aG
   refine qam (qf9 (A0:=none) (d:=131) (t:=99) (tn:=21) (e:=154) (size:=19) (bytes:=64) (k:=.i32) (kn:=.i32) (q:=(((lst (T.at_ 7)).length:Nat):Int)) (j:=(lst (T.at_ 7)).length) (.agg #[.string ByteArray.empty,.int .u8 0,.int .u8 0,.int .u8 0,.int .u8 0,.int .u8 0,.int .u8 0,.int .u8 0,.int .u8 0,.int .u8 0,.int .u8 0,.int .u8 0,.int .u8 0,.int .u8 0,.int .u8 0,.int .u8 0,.int .u8 0,.slice none 0 0,.map none]) cH (fun ac af _ _ hg_g142 hcap_g142 cI=>?_) rfl hn_g142 (by have:=e32_7; omega))
   clear cH
   refine qc8 [3] [] [(2,.v (.bool false)),(7,.p 0 0),(8,.v (.int .i16 v)),(9,.v (.bool (decide (v ≥ 3)))),(10,.p 1 0),(19,.v (.slice (some ⟨ac,0,none⟩) ((lst (T.at_ 7)).length) af)),(20,.v (.int .i32 (((lst (T.at_ 7)).length:Nat):Int)))] cI fun _ cJ=>qaf ?_
   clear cI
   refine qab (wp_seq (qbA [(2,.v (.bool false)),(7,.p 0 0),(8,.v (.int .i16 v)),(9,.v (.bool (decide (v ≥ 3)))),(10,.p 1 0),(19,.v (.slice (some ⟨ac,0,none⟩) ((lst (T.at_ 7)).length) af)),(20,.v (.int .i32 (((lst (T.at_ 7)).length:Nat):Int))),(21,.v (.int .i32 0))] cJ fun _ bz=>?_))
   clear cJ
   refine qab (wp_block ?_)
   have bA:=bz.mv
   have gA:=(bz.cast (t:=(lst (T.at_ 7)).flatMap (qaA v) ++ bZ) rfl).pk (env':=[(2,.v (.bool false)),(7,.p 0 0),(8,.v (.int .i16 v)),(9,.v (.bool (decide (v ≥ 3)))),(10,.p 1 0),(19,.v (.slice (some ⟨ac,0,none⟩) ((lst (T.at_ 7)).length) af)),(20,.v (.int .i32 (((lst (T.at_ 7)).length:Nat):Int))),(21,.v (.int .i32 ((0:Nat):Int)))])
   clear bz
   refine qj9 (tb:=[⟨bv,0,[.int .i16 v,.string (bs (T.at_ 0).S),.string (bs (T.at_ 1).S),.int .i64 (IntKind.i64.wrap (T.at_ 2).N),.int .i16 (IntKind.i16.wrap (T.at_ 3).N),.int .i32 ap.n,.string ar.s,.pointer ak.A,.slice none 0 0,.map none],true⟩]) (z:=.agg #[.string ByteArray.empty,.int .u8 0,.int .u8 0,.int .u8 0,.int .u8 0,.int .u8 0,.int .u8 0,.int .u8 0,.int .u8 0,.int .u8 0,.int .u8 0,.int .u8 0,.int .u8 0,.int .u8 0,.int .u8 0,.int .u8 0,.int .u8 0,.slice none 0 0,.map none]) (cl:=qcb) (ok:=qaX) (rel:=(qa3 v)) (L:=lst (T.at_ 7)) (size:=19) (qaA v) bZ (fun k=>[(2,.v (.bool false)),(7,.p 0 0),(8,.v (.int .i16 v)),(9,.v (.bool (decide (v ≥ 3)))),(10,.p 1 0),(19,.v (.slice (some ⟨ac,0,none⟩) ((lst (T.at_ 7)).length) af)),(20,.v (.int .i32 (((lst (T.at_ 7)).length:Nat):Int))),(21,.v (.int .i32 ((k:Nat):Int)))]) gA qbq (fun ae ab _ _ bB gB cK=>?_) (fun _ _ cL=>?_)
   ·
    obtain ⟨ig,cM,cN⟩:∃ P',(∀ w F,P' w F → (gz w F ∧ qfS ac 19 qcb qaX (qa3 v) (lst (T.at_ 7)) ae w F)) ∧ RS w (fun b o=>b = bv ∧ o < 10) F 250 bf [⟨bv,0,[.int .i16 v,.string (bs (T.at_ 0).S),.string (bs (T.at_ 1).S),.int .i64 (IntKind.i64.wrap (T.at_ 2).N),.int .i16 (IntKind.i16.wrap (T.at_ 3).N),.int .i32 ap.n,.string ar.s,.pointer ak.A,.slice none 0 0,.map none],true⟩,qbo ac 19 (.agg #[.string ByteArray.empty,.int .u8 0,.int .u8 0,.int .u8 0,.int .u8 0,.int .u8 0,.int .u8 0,.int .u8 0,.int .u8 0,.int .u8 0,.int .u8 0,.int .u8 0,.int .u8 0,.int .u8 0,.int .u8 0,.int .u8 0,.int .u8 0,.slice none 0 0,.map none]) ((lst (T.at_ 7)).length) ae] [(2,.v (.bool false)),(7,.p 0 0),(8,.v (.int .i16 v)),(9,.v (.bool (decide (v ≥ 3)))),(10,.p 1 0),(19,.v (.slice (some ⟨ac,0,none⟩) ((lst (T.at_ 7)).length) af)),(20,.v (.int .i32 (((lst (T.at_ 7)).length:Nat):Int))),(21,.v (.int .i32 ((ae:Nat):Int)))] P' ((qaA v) ab ++ (((lst (T.at_ 7)).drop (ae + 1)).flatMap (qaA v) ++ bZ)) _ _:=⟨_,fun _ _ h=>h,cK⟩
    clear cK
    obtain ⟨bC,cO⟩:∃ R,R = ((lst (T.at_ 7)).drop (ae + 1)).flatMap (qaA v) ++ bZ:=⟨_,rfl⟩
    have gC:=(e32_7e ab (List.mem_of_getElem? bB))
    have e161r:=(qf7 (qfL e32r 7) ab (List.mem_of_getElem? bB))
    unfold qbn at gC
    obtain ⟨e161_0,e161_1,⟨e161_2,e161_2e⟩,e161_U,_⟩:=gC
    obtain ⟨aH,cP⟩:∃ R,R = (if (decide (v ≥ 3)) = true then (uv ab.U.length) ++ (qbx ab.U) else []) ++ bC:=⟨_,rfl⟩
    obtain ⟨bD,cQ⟩:∃ R,R = ((if (decide (v ≥ 3)) = true then (uv ((lst (ab.at_ 2)).length + 1)) else (be 4 (lst (ab.at_ 2)).length)) ++ ((lst (ab.at_ 2)).flatMap (qav v))) ++ aH:=⟨_,rfl⟩
    obtain ⟨aY,cR⟩:∃ R,R = (if (decide (v ≥ 6)) = true then (qap (ab.at_ 1).S) else []) ++ bD:=⟨_,rfl⟩
    obtain ⟨ii,cS⟩:∃ R,R = (if ((if (decide (v ≥ 0)) = true then decide (v ≤ 5) else false)) = true then if (decide (v ≥ 3)) = true then (uv ((ab.at_ 0).S.length + 1) ++ (ab.at_ 0).S) else (be 2 (ab.at_ 0).S.length ++ (ab.at_ 0).S) else []) ++ aY:=⟨_,rfl⟩
    have cT:=cN.cast (t:=ii) (by rw [cS,cR,cQ,cP,← cO]; unfold qaA; simp only [List.append_assoc])
    clear cN
    refine wp_seq (wp_seq (qbA [(2,.v (.bool false)),(7,.p 0 0),(8,.v (.int .i16 v)),(9,.v (.bool (decide (v ≥ 3)))),(10,.p 1 0),(19,.v (.slice (some ⟨ac,0,none⟩) ((lst (T.at_ 7)).length) af)),(20,.v (.int .i32 (((lst (T.at_ 7)).length:Nat):Int))),(21,.v (.int .i32 ((ae:Nat):Int))),(134,.v (.bool (decide (((ae:Nat):Int) < (((lst (T.at_ 7)).length:Nat):Int)))))] cT fun _ bE=>qab ?_))
    clear cT
    refine qbw bE.env_ (b:=decide (((ae:Nat):Int) < (((lst (T.at_ 7)).length:Nat):Int))) kz (decide_eq_true (by omega)) ?_
    refine wp_skip (qab (wp_seq (wp_block (wp_seq (qke (t:=99) (e:=154) (size:=19) (bytes:=64) (d:=139) (tb:=[⟨bv,0,[.int .i16 v,.string (bs (T.at_ 0).S),.string (bs (T.at_ 1).S),.int .i64 (IntKind.i64.wrap (T.at_ 2).N),.int .i16 (IntKind.i16.wrap (T.at_ 3).N),.int .i32 ap.n,.string ar.s,.pointer ak.A,.slice none 0 0,.map none],true⟩]) (z:=.agg #[.string ByteArray.empty,.int .u8 0,.int .u8 0,.int .u8 0,.int .u8 0,.int .u8 0,.int .u8 0,.int .u8 0,.int .u8 0,.int .u8 0,.int .u8 0,.int .u8 0,.int .u8 0,.int .u8 0,.int .u8 0,.int .u8 0,.int .u8 0,.slice none 0 0,.map none]) [(2,.v (.bool false)),(7,.p 0 0),(8,.v (.int .i16 v)),(9,.v (.bool (decide (v ≥ 3)))),(10,.p 1 0),(19,.v (.slice (some ⟨ac,0,none⟩) ((lst (T.at_ 7)).length) af)),(20,.v (.int .i32 (((lst (T.at_ 7)).length:Nat):Int))),(21,.v (.int .i32 ((ae:Nat):Int))),(137,.v (.slice (some ⟨ac,0,none⟩) ((lst (T.at_ 7)).length) af)),(138,.v (.int .i32 ((ae:Nat):Int)))] [(2,.v (.bool false)),(7,.p 0 0),(8,.v (.int .i16 v)),(9,.v (.bool (decide (v ≥ 3)))),(10,.p 1 0),(19,.v (.slice (some ⟨ac,0,none⟩) ((lst (T.at_ 7)).length) af)),(20,.v (.int .i32 (((lst (T.at_ 7)).length:Nat):Int))),(21,.v (.int .i32 ((ae:Nat):Int))),(22,.p 3 0)] 2 bE gB rfl kz fun _ cU=>?_)))))
    clear bE
    have cV:=cU.tbEq (tb':=[⟨bv,0,[.int .i16 v,.string (bs (T.at_ 0).S),.string (bs (T.at_ 1).S),.int .i64 (IntKind.i64.wrap (T.at_ 2).N),.int .i16 (IntKind.i16.wrap (T.at_ 3).N),.int .i32 ap.n,.string ar.s,.pointer ak.A,.slice none 0 0,.map none],true⟩,qbo ac 19 (.agg #[.string ByteArray.empty,.int .u8 0,.int .u8 0,.int .u8 0,.int .u8 0,.int .u8 0,.int .u8 0,.int .u8 0,.int .u8 0,.int .u8 0,.int .u8 0,.int .u8 0,.int .u8 0,.int .u8 0,.int .u8 0,.int .u8 0,.int .u8 0,.slice none 0 0,.map none]) ((lst (T.at_ 7)).length) (ae + 1),⟨ac,ae * 19,[.string ByteArray.empty,.int .u8 0,.int .u8 0,.int .u8 0,.int .u8 0,.int .u8 0,.int .u8 0,.int .u8 0,.int .u8 0,.int .u8 0,.int .u8 0,.int .u8 0,.int .u8 0,.int .u8 0,.int .u8 0,.int .u8 0,.int .u8 0,.slice none 0 0,.map none],true⟩]) rfl
    clear cU
    refine qab (wp_seq (qas [0,1] kz ?_))
    refine qc8 [0] [1] [(2,.v (.bool false)),(7,.p 0 0),(8,.v (.int .i16 v)),(9,.v (.bool (decide (v ≥ 3)))),(10,.p 1 0),(19,.v (.slice (some ⟨ac,0,none⟩) ((lst (T.at_ 7)).length) af)),(20,.v (.int .i32 (((lst (T.at_ 7)).length:Nat):Int))),(21,.v (.int .i32 ((ae:Nat):Int))),(22,.p 3 0),(140,.p 3 0)] cV fun _ cW=>?_
    clear cV
    refine qam (qms (d:=141) (vs:=[.pointer (some ⟨ac,ae * 19,none⟩)]) cW (fun _=>qmz _ _ _) Tryz.call136 fun _ cX=>?_)
    clear cW
    refine qaf ?_
    have cY:=cX.pk (env':=[(2,.v (.bool false)),(7,.p 0 0),(8,.v (.int .i16 v)),(9,.v (.bool (decide (v ≥ 3)))),(10,.p 1 0),(19,.v (.slice (some ⟨ac,0,none⟩) ((lst (T.at_ 7)).length) af)),(20,.v (.int .i32 (((lst (T.at_ 7)).length:Nat):Int))),(21,.v (.int .i32 ((ae:Nat):Int))),(22,.p 3 0)])
    clear cX
    refine qab (wp_seq (qbA [(2,.v (.bool false)),(7,.p 0 0),(8,.v (.int .i16 v)),(9,.v (.bool (decide (v ≥ 3)))),(10,.p 1 0),(19,.v (.slice (some ⟨ac,0,none⟩) ((lst (T.at_ 7)).length) af)),(20,.v (.int .i32 (((lst (T.at_ 7)).length:Nat):Int))),(21,.v (.int .i32 ((ae:Nat):Int))),(23,.p 3 0)] cY fun _ cZ=>?_))
    clear cY
    refine qab (wp_seq ?_)
    have c5:=cZ.cast cS
    clear cZ
    refine qcM (Mid:=fun a_ w_=>∃ (ao:DV) (P':qco),(∀ w F,P' w F → ig w F ∧ (ao.s.size ≤ 1000000) ∧ ((if (decide (v ≥ 0)) = true then decide (v ≤ 5) else false) = true → ao.s = bs (ab.at_ 0).S) ∧ ((if (decide (v ≥ 0)) = true then decide (v ≤ 5) else false) = false → ao.s = ByteArray.empty)) ∧ RS w (fun b o=>b = bv ∧ o < 10) F 250 bf [⟨bv,0,[.int .i16 v,.string (bs (T.at_ 0).S),.string (bs (T.at_ 1).S),.int .i64 (IntKind.i64.wrap (T.at_ 2).N),.int .i16 (IntKind.i16.wrap (T.at_ 3).N),.int .i32 ap.n,.string ar.s,.pointer ak.A,.slice none 0 0,.map none],true⟩,qbo ac 19 (.agg #[.string ByteArray.empty,.int .u8 0,.int .u8 0,.int .u8 0,.int .u8 0,.int .u8 0,.int .u8 0,.int .u8 0,.int .u8 0,.int .u8 0,.int .u8 0,.int .u8 0,.int .u8 0,.int .u8 0,.int .u8 0,.int .u8 0,.int .u8 0,.slice none 0 0,.map none]) ((lst (T.at_ 7)).length) (ae + 1),⟨ac,ae * 19,[.string ao.s,.int .u8 0,.int .u8 0,.int .u8 0,.int .u8 0,.int .u8 0,.int .u8 0,.int .u8 0,.int .u8 0,.int .u8 0,.int .u8 0,.int .u8 0,.int .u8 0,.int .u8 0,.int .u8 0,.int .u8 0,.int .u8 0,.slice none 0 0,.map none],true⟩] [(2,.v (.bool false)),(7,.p 0 0),(8,.v (.int .i16 v)),(9,.v (.bool (decide (v ≥ 3)))),(10,.p 1 0),(19,.v (.slice (some ⟨ac,0,none⟩) ((lst (T.at_ 7)).length) af)),(20,.v (.int .i32 (((lst (T.at_ 7)).length:Nat):Int))),(21,.v (.int .i32 ((ae:Nat):Int))),(23,.p 3 0)] P' aY a_ w_) ?_ ?_
    ·
     refine wp_seq (qas [0,1,2,3,4,5] kz ?_)
     refine qc8 [0,1,2] [3,4,5] [(2,.v (.bool false)),(7,.p 0 0),(8,.v (.int .i16 v)),(9,.v (.bool (decide (v ≥ 3)))),(10,.p 1 0),(19,.v (.slice (some ⟨ac,0,none⟩) ((lst (T.at_ 7)).length) af)),(20,.v (.int .i32 (((lst (T.at_ 7)).length:Nat):Int))),(21,.v (.int .i32 ((ae:Nat):Int))),(23,.p 3 0),(145,.v (.bool (decide (v ≥ 0))))] c5 fun _ bh=>?_
     clear c5
     refine (Bool.eq_false_or_eq_true (decide (v ≥ 0))).elim (fun ax=>?_) (fun ax=>?_)
     ·
      have da:=bh.envEq (env':=[(2,.v (.bool false)),(7,.p 0 0),(8,.v (.int .i16 v)),(9,.v (.bool (decide (v ≥ 3)))),(10,.p 1 0),(19,.v (.slice (some ⟨ac,0,none⟩) ((lst (T.at_ 7)).length) af)),(20,.v (.int .i32 (((lst (T.at_ 7)).length:Nat):Int))),(21,.v (.int .i32 ((ae:Nat):Int))),(23,.p 3 0),(145,.v (.bool true))]) (by rw [ax])
      clear bh
      refine qc8 [3,4,5] [] [(2,.v (.bool false)),(7,.p 0 0),(8,.v (.int .i16 v)),(9,.v (.bool (decide (v ≥ 3)))),(10,.p 1 0),(19,.v (.slice (some ⟨ac,0,none⟩) ((lst (T.at_ 7)).length) af)),(20,.v (.int .i32 (((lst (T.at_ 7)).length:Nat):Int))),(21,.v (.int .i32 ((ae:Nat):Int))),(23,.p 3 0),(148,.v (.bool (decide (v ≤ 5))))] da fun _ aI=>qaf (qab ?_)
      clear da
      refine qay aI.env_ (b:=decide (v ≤ 5)) kz (fun aJ=>?_) (fun aJ=>?_)
      ·
       have db:=aI.cast (t:=(if (decide (v ≥ 3)) = true then (uv ((ab.at_ 0).S.length + 1) ++ (ab.at_ 0).S) else (be 2 (ab.at_ 0).S.length ++ (ab.at_ 0).S)) ++ aY) (by rw [if_pos (by simp only [ax,aJ,if_true])])
       clear aI
       refine wp_seq (qbA [(2,.v (.bool false)),(7,.p 0 0),(8,.v (.int .i16 v)),(9,.v (.bool (decide (v ≥ 3)))),(10,.p 1 0),(19,.v (.slice (some ⟨ac,0,none⟩) ((lst (T.at_ 7)).length) af)),(20,.v (.int .i32 (((lst (T.at_ 7)).length:Nat):Int))),(21,.v (.int .i32 ((ae:Nat):Int))),(23,.p 3 0)] db fun _ dc=>?_)
       clear db
       refine qab (wp_seq (wp_seq (qbA [(2,.v (.bool false)),(7,.p 0 0),(8,.v (.int .i16 v)),(9,.v (.bool (decide (v ≥ 3)))),(10,.p 1 0),(19,.v (.slice (some ⟨ac,0,none⟩) ((lst (T.at_ 7)).length) af)),(20,.v (.int .i32 (((lst (T.at_ 7)).length:Nat):Int))),(21,.v (.int .i32 ((ae:Nat):Int))),(23,.p 3 0),(149,.v (.bool false))] dc fun _ bF=>qab ?_)))
       clear dc
       refine qau bF.env_ (b:=false) kz (rfl) ?_
       refine qfM (d1:=154) (d2:=155) [(2,.v (.bool false)),(7,.p 0 0),(8,.v (.int .i16 v)),(9,.v (.bool (decide (v ≥ 3)))),(10,.p 1 0),(19,.v (.slice (some ⟨ac,0,none⟩) ((lst (T.at_ 7)).length) af)),(20,.v (.int .i32 (((lst (T.at_ 7)).length:Nat):Int))),(21,.v (.int .i32 ((ae:Nat):Int))),(23,.p 3 0),(153,.v (.bool (decide (v ≥ 3))))] [(2,.v (.bool false)),(7,.p 0 0),(8,.v (.int .i16 v)),(9,.v (.bool (decide (v ≥ 3)))),(10,.p 1 0),(19,.v (.slice (some ⟨ac,0,none⟩) ((lst (T.at_ 7)).length) af)),(20,.v (.int .i32 (((lst (T.at_ 7)).length:Nat):Int))),(21,.v (.int .i32 ((ae:Nat):Int))),(23,.p 3 0),(24,.v (.string (bs (ab.at_ 0).S)))] bF (qcN (ab.at_ 0).S e161_0 _) Tryz.call115 (qhR (ab.at_ 0).S e161_0 _) Tryz.call116 fun _ _ de=>?_
       clear bF
       refine qab (qcW [⟨bv,0,[.int .i16 v,.string (bs (T.at_ 0).S),.string (bs (T.at_ 1).S),.int .i64 (IntKind.i64.wrap (T.at_ 2).N),.int .i16 (IntKind.i16.wrap (T.at_ 3).N),.int .i32 ap.n,.string ar.s,.pointer ak.A,.slice none 0 0,.map none],true⟩,qbo ac 19 (.agg #[.string ByteArray.empty,.int .u8 0,.int .u8 0,.int .u8 0,.int .u8 0,.int .u8 0,.int .u8 0,.int .u8 0,.int .u8 0,.int .u8 0,.int .u8 0,.int .u8 0,.int .u8 0,.int .u8 0,.int .u8 0,.int .u8 0,.int .u8 0,.slice none 0 0,.map none]) ((lst (T.at_ 7)).length) (ae + 1),⟨ac,ae * 19,[.string (bs (ab.at_ 0).S),.int .u8 0,.int .u8 0,.int .u8 0,.int .u8 0,.int .u8 0,.int .u8 0,.int .u8 0,.int .u8 0,.int .u8 0,.int .u8 0,.int .u8 0,.int .u8 0,.int .u8 0,.int .u8 0,.int .u8 0,.int .u8 0,.slice none 0 0,.map none],true⟩] 2 [(2,.v (.bool false)),(7,.p 0 0),(8,.v (.int .i16 v)),(9,.v (.bool (decide (v ≥ 3)))),(10,.p 1 0),(19,.v (.slice (some ⟨ac,0,none⟩) ((lst (T.at_ 7)).length) af)),(20,.v (.int .i32 (((lst (T.at_ 7)).length:Nat):Int))),(21,.v (.int .i32 ((ae:Nat):Int))),(23,.p 3 0)] de fun _ _ gD=>?_)
       clear de
       refine qab ?_
       exact ⟨dvS (bs (ab.at_ 0).S),_,fun w F h_=>⟨h_,by show ByteArray.size (bs _) ≤ 1000000; rw [qcS]; exact Nat.le_trans e161_0 (by decide),⟨fun _=>rfl,(fun e_=>by simp [ax,aJ] at e_)⟩⟩,gD.pk (env':=[(2,.v (.bool false)),(7,.p 0 0),(8,.v (.int .i16 v)),(9,.v (.bool (decide (v ≥ 3)))),(10,.p 1 0),(19,.v (.slice (some ⟨ac,0,none⟩) ((lst (T.at_ 7)).length) af)),(20,.v (.int .i32 (((lst (T.at_ 7)).length:Nat):Int))),(21,.v (.int .i32 ((ae:Nat):Int))),(23,.p 3 0)])⟩
      have df:=aI.cast (t:=[] ++ aY) (by rw [if_neg (by simp only [ax,aJ,if_true,if_false,Bool.false_eq_true]; try decide)])
      clear aI
      have gE:=df.cast (t:=aY) rfl
      clear df
      refine wp_skip (qab ?_)
      exact ⟨dvS ByteArray.empty,_,fun w F h_=>⟨h_,Nat.zero_le _,⟨(fun e_=>by simp [ax,aJ] at e_),fun _=>rfl⟩⟩,gE.pk (env':=[(2,.v (.bool false)),(7,.p 0 0),(8,.v (.int .i16 v)),(9,.v (.bool (decide (v ≥ 3)))),(10,.p 1 0),(19,.v (.slice (some ⟨ac,0,none⟩) ((lst (T.at_ 7)).length) af)),(20,.v (.int .i32 (((lst (T.at_ 7)).length:Nat):Int))),(21,.v (.int .i32 ((ae:Nat):Int))),(23,.p 3 0)])⟩
     have dg:=bh.envEq (env':=[(2,.v (.bool false)),(7,.p 0 0),(8,.v (.int .i16 v)),(9,.v (.bool (decide (v ≥ 3)))),(10,.p 1 0),(19,.v (.slice (some ⟨ac,0,none⟩) ((lst (T.at_ 7)).length) af)),(20,.v (.int .i32 (((lst (T.at_ 7)).length:Nat):Int))),(21,.v (.int .i32 ((ae:Nat):Int))),(23,.p 3 0),(145,.v (.bool false))]) (by rw [ax])
     clear bh
     refine qc8 [3,4,5] [] [(2,.v (.bool false)),(7,.p 0 0),(8,.v (.int .i16 v)),(9,.v (.bool (decide (v ≥ 3)))),(10,.p 1 0),(19,.v (.slice (some ⟨ac,0,none⟩) ((lst (T.at_ 7)).length) af)),(20,.v (.int .i32 (((lst (T.at_ 7)).length:Nat):Int))),(21,.v (.int .i32 ((ae:Nat):Int))),(23,.p 3 0),(148,.v (.bool false))] dg fun _ bG=>qaf (qab ?_)
     clear dg
     refine qau bG.env_ (b:=false) kz rfl ?_
     have dh:=bG.cast (t:=[] ++ aY) (by rw [if_neg (by simp only [ax,if_true,if_false,Bool.false_eq_true]; try decide)])
     clear bG
     have gF:=dh.cast (t:=aY) rfl
     clear dh
     refine wp_skip (qab ?_)
     exact ⟨dvS ByteArray.empty,_,fun w F h_=>⟨h_,Nat.zero_le _,⟨(fun e_=>by simp [ax] at e_),fun _=>rfl⟩⟩,gF.pk (env':=[(2,.v (.bool false)),(7,.p 0 0),(8,.v (.int .i16 v)),(9,.v (.bool (decide (v ≥ 3)))),(10,.p 1 0),(19,.v (.slice (some ⟨ac,0,none⟩) ((lst (T.at_ 7)).length) af)),(20,.v (.int .i32 (((lst (T.at_ 7)).length:Nat):Int))),(21,.v (.int .i32 ((ae:Nat):Int))),(23,.p 3 0)])⟩
    rintro _ _ ⟨ao,ij,bi,di⟩
    refine qab (wp_seq ?_)
    have dj:=di.cast cR
    clear di
    refine qcM (Mid:=fun a_ w_=>∃ (aa:DV) (P':qco),(∀ w F,P' w F → ij w F ∧ (aa.o.length = 16) ∧ ((decide (v ≥ 6)) = true → aa.o = qap (ab.at_ 1).S) ∧ ((decide (v ≥ 6)) = false → aa.o = List.replicate 16 0)) ∧ RS w (fun b o=>b = bv ∧ o < 10) F 250 bf [⟨bv,0,[.int .i16 v,.string (bs (T.at_ 0).S),.string (bs (T.at_ 1).S),.int .i64 (IntKind.i64.wrap (T.at_ 2).N),.int .i16 (IntKind.i16.wrap (T.at_ 3).N),.int .i32 ap.n,.string ar.s,.pointer ak.A,.slice none 0 0,.map none],true⟩,qbo ac 19 (.agg #[.string ByteArray.empty,.int .u8 0,.int .u8 0,.int .u8 0,.int .u8 0,.int .u8 0,.int .u8 0,.int .u8 0,.int .u8 0,.int .u8 0,.int .u8 0,.int .u8 0,.int .u8 0,.int .u8 0,.int .u8 0,.int .u8 0,.int .u8 0,.slice none 0 0,.map none]) ((lst (T.at_ 7)).length) (ae + 1),⟨ac,ae * 19,[.string ao.s,qad (aa.o.getD 0 0),qad (aa.o.getD 1 0),qad (aa.o.getD 2 0),qad (aa.o.getD 3 0),qad (aa.o.getD 4 0),qad (aa.o.getD 5 0),qad (aa.o.getD 6 0),qad (aa.o.getD 7 0),qad (aa.o.getD 8 0),qad (aa.o.getD 9 0),qad (aa.o.getD 10 0),qad (aa.o.getD 11 0),qad (aa.o.getD 12 0),qad (aa.o.getD 13 0),qad (aa.o.getD 14 0),qad (aa.o.getD 15 0),.slice none 0 0,.map none],true⟩] [(2,.v (.bool false)),(7,.p 0 0),(8,.v (.int .i16 v)),(9,.v (.bool (decide (v ≥ 3)))),(10,.p 1 0),(19,.v (.slice (some ⟨ac,0,none⟩) ((lst (T.at_ 7)).length) af)),(20,.v (.int .i32 (((lst (T.at_ 7)).length:Nat):Int))),(21,.v (.int .i32 ((ae:Nat):Int))),(23,.p 3 0)] P' bD a_ w_) ?_ ?_
    ·
     refine wp_seq (qbA [(2,.v (.bool false)),(7,.p 0 0),(8,.v (.int .i16 v)),(9,.v (.bool (decide (v ≥ 3)))),(10,.p 1 0),(19,.v (.slice (some ⟨ac,0,none⟩) ((lst (T.at_ 7)).length) af)),(20,.v (.int .i32 (((lst (T.at_ 7)).length:Nat):Int))),(21,.v (.int .i32 ((ae:Nat):Int))),(23,.p 3 0),(161,.v (.bool (decide (v ≥ 6))))] dj fun _ aK=>qab ?_)
     clear dj
     refine qay aK.env_ (b:=decide (v ≥ 6)) kz (fun aL=>?_) (fun aL=>?_)
     ·
      have dl:=aK.cast (t:=(qap (ab.at_ 1).S) ++ bD) (by rw [if_pos aL])
      clear aK
      refine wp_seq (qas [0,1,2] kz ?_)
      refine qam (qij (d:=162) dl (qmL (ab.at_ 1).S _) Tryz.call128 fun _ _ dp=>?_)
      clear dl
      refine qam (qkR (d:=25) z21 dp fun fz _ _ hb_b210 dq=>?_)
      clear dp
      have dr:=(dq.tbEq (tb':=[⟨bv,0,[.int .i16 v,.string (bs (T.at_ 0).S),.string (bs (T.at_ 1).S),.int .i64 (IntKind.i64.wrap (T.at_ 2).N),.int .i16 (IntKind.i16.wrap (T.at_ 3).N),.int .i32 ap.n,.string ar.s,.pointer ak.A,.slice none 0 0,.map none],true⟩,qbo ac 19 (.agg #[.string ByteArray.empty,.int .u8 0,.int .u8 0,.int .u8 0,.int .u8 0,.int .u8 0,.int .u8 0,.int .u8 0,.int .u8 0,.int .u8 0,.int .u8 0,.int .u8 0,.int .u8 0,.int .u8 0,.int .u8 0,.int .u8 0,.int .u8 0,.slice none 0 0,.map none]) ((lst (T.at_ 7)).length) (ae + 1),⟨ac,ae * 19,[.string ao.s,.int .u8 0,.int .u8 0,.int .u8 0,.int .u8 0,.int .u8 0,.int .u8 0,.int .u8 0,.int .u8 0,.int .u8 0,.int .u8 0,.int .u8 0,.int .u8 0,.int .u8 0,.int .u8 0,.int .u8 0,.int .u8 0,.slice none 0 0,.map none],true⟩,⟨fz,0,z21,true⟩]) rfl).pk (env':=[(2,.v (.bool false)),(7,.p 0 0),(8,.v (.int .i16 v)),(9,.v (.bool (decide (v ≥ 3)))),(10,.p 1 0),(19,.v (.slice (some ⟨ac,0,none⟩) ((lst (T.at_ 7)).length) af)),(20,.v (.int .i32 (((lst (T.at_ 7)).length:Nat):Int))),(21,.v (.int .i32 ((ae:Nat):Int))),(23,.p 3 0),(161,.v (.bool (decide (v ≥ 6)))),(162,.v (.agg #[qad ((qap (ab.at_ 1).S).getD 0 0),qad ((qap (ab.at_ 1).S).getD 1 0),qad ((qap (ab.at_ 1).S).getD 2 0),qad ((qap (ab.at_ 1).S).getD 3 0),qad ((qap (ab.at_ 1).S).getD 4 0),qad ((qap (ab.at_ 1).S).getD 5 0),qad ((qap (ab.at_ 1).S).getD 6 0),qad ((qap (ab.at_ 1).S).getD 7 0),qad ((qap (ab.at_ 1).S).getD 8 0),qad ((qap (ab.at_ 1).S).getD 9 0),qad ((qap (ab.at_ 1).S).getD 10 0),qad ((qap (ab.at_ 1).S).getD 11 0),qad ((qap (ab.at_ 1).S).getD 12 0),qad ((qap (ab.at_ 1).S).getD 13 0),qad ((qap (ab.at_ 1).S).getD 14 0),qad ((qap (ab.at_ 1).S).getD 15 0)])),(25,.p 4 0)])
      clear dq
      refine qam (qfq [⟨bv,0,[.int .i16 v,.string (bs (T.at_ 0).S),.string (bs (T.at_ 1).S),.int .i64 (IntKind.i64.wrap (T.at_ 2).N),.int .i16 (IntKind.i16.wrap (T.at_ 3).N),.int .i32 ap.n,.string ar.s,.pointer ak.A,.slice none 0 0,.map none],true⟩,qbo ac 19 (.agg #[.string ByteArray.empty,.int .u8 0,.int .u8 0,.int .u8 0,.int .u8 0,.int .u8 0,.int .u8 0,.int .u8 0,.int .u8 0,.int .u8 0,.int .u8 0,.int .u8 0,.int .u8 0,.int .u8 0,.int .u8 0,.int .u8 0,.int .u8 0,.slice none 0 0,.map none]) ((lst (T.at_ 7)).length) (ae + 1),⟨ac,ae * 19,[.string ao.s,.int .u8 0,.int .u8 0,.int .u8 0,.int .u8 0,.int .u8 0,.int .u8 0,.int .u8 0,.int .u8 0,.int .u8 0,.int .u8 0,.int .u8 0,.int .u8 0,.int .u8 0,.int .u8 0,.int .u8 0,.int .u8 0,.slice none 0 0,.map none],true⟩,⟨fz,0,[qad ((qap (ab.at_ 1).S).getD 0 0),qad ((qap (ab.at_ 1).S).getD 1 0),qad ((qap (ab.at_ 1).S).getD 2 0),qad ((qap (ab.at_ 1).S).getD 3 0),qad ((qap (ab.at_ 1).S).getD 4 0),qad ((qap (ab.at_ 1).S).getD 5 0),qad ((qap (ab.at_ 1).S).getD 6 0),qad ((qap (ab.at_ 1).S).getD 7 0),qad ((qap (ab.at_ 1).S).getD 8 0),qad ((qap (ab.at_ 1).S).getD 9 0),qad ((qap (ab.at_ 1).S).getD 10 0),qad ((qap (ab.at_ 1).S).getD 11 0),qad ((qap (ab.at_ 1).S).getD 12 0),qad ((qap (ab.at_ 1).S).getD 13 0),qad ((qap (ab.at_ 1).S).getD 14 0),qad ((qap (ab.at_ 1).S).getD 15 0)],true⟩] 3 dr fun _ dt=>?_)
      clear dr
      refine qaf ?_
      have du:=dt.pk (env':=[(2,.v (.bool false)),(7,.p 0 0),(8,.v (.int .i16 v)),(9,.v (.bool (decide (v ≥ 3)))),(10,.p 1 0),(19,.v (.slice (some ⟨ac,0,none⟩) ((lst (T.at_ 7)).length) af)),(20,.v (.int .i32 (((lst (T.at_ 7)).length:Nat):Int))),(21,.v (.int .i32 ((ae:Nat):Int))),(23,.p 3 0),(25,.p 4 0)])
      clear dt
      refine qab (qcW [⟨bv,0,[.int .i16 v,.string (bs (T.at_ 0).S),.string (bs (T.at_ 1).S),.int .i64 (IntKind.i64.wrap (T.at_ 2).N),.int .i16 (IntKind.i16.wrap (T.at_ 3).N),.int .i32 ap.n,.string ar.s,.pointer ak.A,.slice none 0 0,.map none],true⟩,qbo ac 19 (.agg #[.string ByteArray.empty,.int .u8 0,.int .u8 0,.int .u8 0,.int .u8 0,.int .u8 0,.int .u8 0,.int .u8 0,.int .u8 0,.int .u8 0,.int .u8 0,.int .u8 0,.int .u8 0,.int .u8 0,.int .u8 0,.int .u8 0,.int .u8 0,.slice none 0 0,.map none]) ((lst (T.at_ 7)).length) (ae + 1),⟨ac,ae * 19,[.string ao.s,qad ((qap (ab.at_ 1).S).getD 0 0),qad ((qap (ab.at_ 1).S).getD 1 0),qad ((qap (ab.at_ 1).S).getD 2 0),qad ((qap (ab.at_ 1).S).getD 3 0),qad ((qap (ab.at_ 1).S).getD 4 0),qad ((qap (ab.at_ 1).S).getD 5 0),qad ((qap (ab.at_ 1).S).getD 6 0),qad ((qap (ab.at_ 1).S).getD 7 0),qad ((qap (ab.at_ 1).S).getD 8 0),qad ((qap (ab.at_ 1).S).getD 9 0),qad ((qap (ab.at_ 1).S).getD 10 0),qad ((qap (ab.at_ 1).S).getD 11 0),qad ((qap (ab.at_ 1).S).getD 12 0),qad ((qap (ab.at_ 1).S).getD 13 0),qad ((qap (ab.at_ 1).S).getD 14 0),qad ((qap (ab.at_ 1).S).getD 15 0),.slice none 0 0,.map none],true⟩,⟨fz,0,[qad ((qap (ab.at_ 1).S).getD 0 0),qad ((qap (ab.at_ 1).S).getD 1 0),qad ((qap (ab.at_ 1).S).getD 2 0),qad ((qap (ab.at_ 1).S).getD 3 0),qad ((qap (ab.at_ 1).S).getD 4 0),qad ((qap (ab.at_ 1).S).getD 5 0),qad ((qap (ab.at_ 1).S).getD 6 0),qad ((qap (ab.at_ 1).S).getD 7 0),qad ((qap (ab.at_ 1).S).getD 8 0),qad ((qap (ab.at_ 1).S).getD 9 0),qad ((qap (ab.at_ 1).S).getD 10 0),qad ((qap (ab.at_ 1).S).getD 11 0),qad ((qap (ab.at_ 1).S).getD 12 0),qad ((qap (ab.at_ 1).S).getD 13 0),qad ((qap (ab.at_ 1).S).getD 14 0),qad ((qap (ab.at_ 1).S).getD 15 0)],true⟩] 2 [(2,.v (.bool false)),(7,.p 0 0),(8,.v (.int .i16 v)),(9,.v (.bool (decide (v ≥ 3)))),(10,.p 1 0),(19,.v (.slice (some ⟨ac,0,none⟩) ((lst (T.at_ 7)).length) af)),(20,.v (.int .i32 (((lst (T.at_ 7)).length:Nat):Int))),(21,.v (.int .i32 ((ae:Nat):Int))),(23,.p 3 0)] du fun _ _ dv=>?_)
      clear du
      have gG:=RS.dropT (tb:=[⟨bv,0,[.int .i16 v,.string (bs (T.at_ 0).S),.string (bs (T.at_ 1).S),.int .i64 (IntKind.i64.wrap (T.at_ 2).N),.int .i16 (IntKind.i16.wrap (T.at_ 3).N),.int .i32 ap.n,.string ar.s,.pointer ak.A,.slice none 0 0,.map none],true⟩,qbo ac 19 (.agg #[.string ByteArray.empty,.int .u8 0,.int .u8 0,.int .u8 0,.int .u8 0,.int .u8 0,.int .u8 0,.int .u8 0,.int .u8 0,.int .u8 0,.int .u8 0,.int .u8 0,.int .u8 0,.int .u8 0,.int .u8 0,.int .u8 0,.int .u8 0,.slice none 0 0,.map none]) ((lst (T.at_ 7)).length) (ae + 1),⟨ac,ae * 19,[.string ao.s,qad ((qap (ab.at_ 1).S).getD 0 0),qad ((qap (ab.at_ 1).S).getD 1 0),qad ((qap (ab.at_ 1).S).getD 2 0),qad ((qap (ab.at_ 1).S).getD 3 0),qad ((qap (ab.at_ 1).S).getD 4 0),qad ((qap (ab.at_ 1).S).getD 5 0),qad ((qap (ab.at_ 1).S).getD 6 0),qad ((qap (ab.at_ 1).S).getD 7 0),qad ((qap (ab.at_ 1).S).getD 8 0),qad ((qap (ab.at_ 1).S).getD 9 0),qad ((qap (ab.at_ 1).S).getD 10 0),qad ((qap (ab.at_ 1).S).getD 11 0),qad ((qap (ab.at_ 1).S).getD 12 0),qad ((qap (ab.at_ 1).S).getD 13 0),qad ((qap (ab.at_ 1).S).getD 14 0),qad ((qap (ab.at_ 1).S).getD 15 0),.slice none 0 0,.map none],true⟩]) dv hb_b210 kz
      clear dv
      refine qab ?_
      exact ⟨dvO none (qap (ab.at_ 1).S) 0,_,fun w F h_=>⟨h_,qfg _,⟨fun _=>rfl,(fun e_=>by rw [aL] at e_; cases e_)⟩⟩,gG.pk (env':=[(2,.v (.bool false)),(7,.p 0 0),(8,.v (.int .i16 v)),(9,.v (.bool (decide (v ≥ 3)))),(10,.p 1 0),(19,.v (.slice (some ⟨ac,0,none⟩) ((lst (T.at_ 7)).length) af)),(20,.v (.int .i32 (((lst (T.at_ 7)).length:Nat):Int))),(21,.v (.int .i32 ((ae:Nat):Int))),(23,.p 3 0)])⟩
     have dw:=aK.cast (t:=[] ++ bD) (by rw [if_neg (by rw [aL]; decide)])
     clear aK
     have gH:=dw.cast (t:=bD) rfl
     clear dw
     refine wp_skip (qab ?_)
     exact ⟨dvO none (List.replicate 16 0) 0,_,fun w F h_=>⟨h_,rfl,⟨(fun e_=>by rw [aL] at e_; cases e_),fun _=>rfl⟩⟩,gH.pk (env':=[(2,.v (.bool false)),(7,.p 0 0),(8,.v (.int .i16 v)),(9,.v (.bool (decide (v ≥ 3)))),(10,.p 1 0),(19,.v (.slice (some ⟨ac,0,none⟩) ((lst (T.at_ 7)).length) af)),(20,.v (.int .i32 (((lst (T.at_ 7)).length:Nat):Int))),(21,.v (.int .i32 ((ae:Nat):Int))),(23,.p 3 0)])⟩
    rintro _ _ ⟨aa,gI,aC,dx⟩
    refine qab (wp_seq (wp_seq (qbA [(2,.v (.bool false)),(7,.p 0 0),(8,.v (.int .i16 v)),(9,.v (.bool (decide (v ≥ 3)))),(10,.p 1 0),(19,.v (.slice (some ⟨ac,0,none⟩) ((lst (T.at_ 7)).length) af)),(20,.v (.int .i32 (((lst (T.at_ 7)).length:Nat):Int))),(21,.v (.int .i32 ((ae:Nat):Int))),(23,.p 3 0),(26,.v (.slice none 0 0))] dx fun _ dy=>?_)))
    clear dx
    refine qab (wp_seq (qbA [(2,.v (.bool false)),(7,.p 0 0),(8,.v (.int .i16 v)),(9,.v (.bool (decide (v ≥ 3)))),(10,.p 1 0),(19,.v (.slice (some ⟨ac,0,none⟩) ((lst (T.at_ 7)).length) af)),(20,.v (.int .i32 (((lst (T.at_ 7)).length:Nat):Int))),(21,.v (.int .i32 ((ae:Nat):Int))),(23,.p 3 0),(27,.v (.slice none 0 0))] dy fun _ dz=>?_))
    clear dy
    refine qab (wp_seq (qbA [(2,.v (.bool false)),(7,.p 0 0),(8,.v (.int .i16 v)),(9,.v (.bool (decide (v ≥ 3)))),(10,.p 1 0),(19,.v (.slice (some ⟨ac,0,none⟩) ((lst (T.at_ 7)).length) af)),(20,.v (.int .i32 (((lst (T.at_ 7)).length:Nat):Int))),(21,.v (.int .i32 ((ae:Nat):Int))),(23,.p 3 0),(27,.v (.slice none 0 0))] dz fun _ dA=>?_))
    clear dz
    refine qab (wp_seq ?_)
    have dB:=dA.cast cQ
    clear dA
    have dC:=dB.cast (t:=(if (decide (v ≥ 3)) = true then (uv ((lst (ab.at_ 2)).length + 1)) else (be 4 (lst (ab.at_ 2)).length)) ++ (((lst (ab.at_ 2)).flatMap (qav v)) ++ aH)) (by rw [List.append_assoc])
    clear dB
    refine qfM (d1:=173) (d2:=174) [(2,.v (.bool false)),(7,.p 0 0),(8,.v (.int .i16 v)),(9,.v (.bool (decide (v ≥ 3)))),(10,.p 1 0),(19,.v (.slice (some ⟨ac,0,none⟩) ((lst (T.at_ 7)).length) af)),(20,.v (.int .i32 (((lst (T.at_ 7)).length:Nat):Int))),(21,.v (.int .i32 ((ae:Nat):Int))),(23,.p 3 0),(27,.v (.slice none 0 0)),(172,.v (.bool (decide (v ≥ 3))))] [(2,.v (.bool false)),(7,.p 0 0),(8,.v (.int .i16 v)),(9,.v (.bool (decide (v ≥ 3)))),(10,.p 1 0),(19,.v (.slice (some ⟨ac,0,none⟩) ((lst (T.at_ 7)).length) af)),(20,.v (.int .i32 (((lst (T.at_ 7)).length:Nat):Int))),(21,.v (.int .i32 ((ae:Nat):Int))),(23,.p 3 0),(27,.v (.slice none 0 0)),(28,.v (.int .i32 (((lst (ab.at_ 2)).length:Nat):Int)))] dC (qdJ ((lst (ab.at_ 2)).length) e161_2 _ (flat_ge' (qbD v) _)) Tryz.call123 (qhg ((lst (ab.at_ 2)).length) e161_2 _ (flat_ge' (qbD v) _)) Tryz.call124 fun _ _ dD=>?_
    clear dC
    refine qab (wp_seq (wp_seq (qmt (d:=175) [(2,.v (.bool false)),(7,.p 0 0),(8,.v (.int .i16 v)),(9,.v (.bool (decide (v ≥ 3)))),(10,.p 1 0),(19,.v (.slice (some ⟨ac,0,none⟩) ((lst (T.at_ 7)).length) af)),(20,.v (.int .i32 (((lst (T.at_ 7)).length:Nat):Int))),(21,.v (.int .i32 ((ae:Nat):Int))),(23,.p 3 0),(27,.v (.slice none 0 0)),(28,.v (.int .i32 (((lst (ab.at_ 2)).length:Nat):Int))),(176,.v (.bool false))] dD (pOk _) Tryz.call125 fun _ _ bH=>?_)))
    clear dD
    refine qab (qau bH.env_ (b:=false) kz (rfl) ?_)
    refine wp_skip (qab (wp_seq (qkd (t:=152) (e:=157) (size:=5) (bytes:=40) (d:=179) (A0:=none) (m:=0) (cp:=0) [(2,.v (.bool false)),(7,.p 0 0),(8,.v (.int .i16 v)),(9,.v (.bool (decide (v ≥ 3)))),(10,.p 1 0),(19,.v (.slice (some ⟨ac,0,none⟩) ((lst (T.at_ 7)).length) af)),(20,.v (.int .i32 (((lst (T.at_ 7)).length:Nat):Int))),(21,.v (.int .i32 ((ae:Nat):Int))),(23,.p 3 0),(28,.v (.int .i32 (((lst (ab.at_ 2)).length:Nat):Int))),(178,.v (.slice none 0 0))] [(2,.v (.bool false)),(7,.p 0 0),(8,.v (.int .i16 v)),(9,.v (.bool (decide (v ≥ 3)))),(10,.p 1 0),(19,.v (.slice (some ⟨ac,0,none⟩) ((lst (T.at_ 7)).length) af)),(20,.v (.int .i32 (((lst (T.at_ 7)).length:Nat):Int))),(21,.v (.int .i32 ((ae:Nat):Int))),(23,.p 3 0),(27,.v (.slice none 0 0)),(28,.v (.int .i32 (((lst (ab.at_ 2)).length:Nat):Int)))] 1 bH fun _ dE=>?_)))
    clear bH
    refine qab (qil (Mid:=fun a_ w_=>∃ (am:DV) (P':qco),(∀ w F,P' w F → gI w F ∧ (Slots w F 5 am.A am.c am.l (fun i=>[.int .i32 (((am.f i).f 0).n),.int .i64 (((am.f i).f 1).n),.int .i32 (((am.f i).f 2).n),.pointer (((am.f i).f 3).A),.map ((am.f i).m)]) ∧ am.l ≤ 1000000 ∧ ∀ i,i < am.l → qaI w F (am.f i)) ∧ (am.l = (lst (ab.at_ 2)).length ∧ ∀ i,i < am.l → qaN v (am.f i) ((lst (ab.at_ 2)).getD i .zero))) ∧ RS w (fun b o=>b = bv ∧ o < 10) F 250 bf [⟨bv,0,[.int .i16 v,.string (bs (T.at_ 0).S),.string (bs (T.at_ 1).S),.int .i64 (IntKind.i64.wrap (T.at_ 2).N),.int .i16 (IntKind.i16.wrap (T.at_ 3).N),.int .i32 ap.n,.string ar.s,.pointer ak.A,.slice none 0 0,.map none],true⟩,qbo ac 19 (.agg #[.string ByteArray.empty,.int .u8 0,.int .u8 0,.int .u8 0,.int .u8 0,.int .u8 0,.int .u8 0,.int .u8 0,.int .u8 0,.int .u8 0,.int .u8 0,.int .u8 0,.int .u8 0,.int .u8 0,.int .u8 0,.int .u8 0,.int .u8 0,.slice none 0 0,.map none]) ((lst (T.at_ 7)).length) (ae + 1),⟨ac,ae * 19,[.string ao.s,qad (aa.o.getD 0 0),qad (aa.o.getD 1 0),qad (aa.o.getD 2 0),qad (aa.o.getD 3 0),qad (aa.o.getD 4 0),qad (aa.o.getD 5 0),qad (aa.o.getD 6 0),qad (aa.o.getD 7 0),qad (aa.o.getD 8 0),qad (aa.o.getD 9 0),qad (aa.o.getD 10 0),qad (aa.o.getD 11 0),qad (aa.o.getD 12 0),qad (aa.o.getD 13 0),qad (aa.o.getD 14 0),qad (aa.o.getD 15 0),.slice none 0 0,.map none],true⟩] [(2,.v (.bool false)),(7,.p 0 0),(8,.v (.int .i16 v)),(9,.v (.bool (decide (v ≥ 3)))),(10,.p 1 0),(19,.v (.slice (some ⟨ac,0,none⟩) ((lst (T.at_ 7)).length) af)),(20,.v (.int .i32 (((lst (T.at_ 7)).length:Nat):Int))),(21,.v (.int .i32 ((ae:Nat):Int))),(23,.p 3 0),(27,.v (.slice am.A am.l am.c))] P' aH a_ w_) ?_ ?_)
    ·
     refine wp_seq (qbA [(2,.v (.bool false)),(7,.p 0 0),(8,.v (.int .i16 v)),(9,.v (.bool (decide (v ≥ 3)))),(10,.p 1 0),(19,.v (.slice (some ⟨ac,0,none⟩) ((lst (T.at_ 7)).length) af)),(20,.v (.int .i32 (((lst (T.at_ 7)).length:Nat):Int))),(21,.v (.int .i32 ((ae:Nat):Int))),(23,.p 3 0),(27,.v (.slice none 0 0)),(28,.v (.int .i32 (((lst (ab.at_ 2)).length:Nat):Int))),(181,.v (.bool (decide ((((lst (ab.at_ 2)).length:Nat):Int) > 0))))] dE fun _ aM=>qab ?_)
     clear dE
     refine qay aM.env_ (b:=decide ((((lst (ab.at_ 2)).length:Nat):Int) > 0)) kz (fun bj=>?_) (fun bj=>?_)
     ·
      have hn_g235:0 < (lst (ab.at_ 2)).length:=by have h_:=of_decide_eq_true bj; omega
      refine qas [0,1,2,3] kz ?_
      refine qc8 [0,1] [2,3] [(2,.v (.bool false)),(7,.p 0 0),(8,.v (.int .i16 v)),(9,.v (.bool (decide (v ≥ 3)))),(10,.p 1 0),(19,.v (.slice (some ⟨ac,0,none⟩) ((lst (T.at_ 7)).length) af)),(20,.v (.int .i32 (((lst (T.at_ 7)).length:Nat):Int))),(21,.v (.int .i32 ((ae:Nat):Int))),(23,.p 3 0),(28,.v (.int .i32 (((lst (ab.at_ 2)).length:Nat):Int))),(182,.v (.slice none 0 0)),(183,.v (.int .i32 (((lst (ab.at_ 2)).length:Nat):Int)))] aM fun _ dF=>?_
      clear aM
      refine qam (qf9 (A0:=none) (d:=184) (t:=152) (tn:=21) (e:=157) (size:=5) (bytes:=40) (k:=.i32) (kn:=.i32) (q:=(((lst (ab.at_ 2)).length:Nat):Int)) (j:=(lst (ab.at_ 2)).length) (.agg #[.int .i32 0,.int .i64 0,.int .i32 0,.pointer none,.map none]) dF (fun ag al _ _ hg_g235 hcap_g235 dG=>?_) rfl hn_g235 (by have:=e161_2; omega))
      clear dF
      refine qc8 [3] [] [(2,.v (.bool false)),(7,.p 0 0),(8,.v (.int .i16 v)),(9,.v (.bool (decide (v ≥ 3)))),(10,.p 1 0),(19,.v (.slice (some ⟨ac,0,none⟩) ((lst (T.at_ 7)).length) af)),(20,.v (.int .i32 (((lst (T.at_ 7)).length:Nat):Int))),(21,.v (.int .i32 ((ae:Nat):Int))),(23,.p 3 0),(27,.v (.slice (some ⟨ag,0,none⟩) ((lst (ab.at_ 2)).length) al)),(28,.v (.int .i32 (((lst (ab.at_ 2)).length:Nat):Int)))] dG fun _ dH=>qaf ?_
      clear dG
      refine qab (wp_seq (qbA [(2,.v (.bool false)),(7,.p 0 0),(8,.v (.int .i16 v)),(9,.v (.bool (decide (v ≥ 3)))),(10,.p 1 0),(19,.v (.slice (some ⟨ac,0,none⟩) ((lst (T.at_ 7)).length) af)),(20,.v (.int .i32 (((lst (T.at_ 7)).length:Nat):Int))),(21,.v (.int .i32 ((ae:Nat):Int))),(23,.p 3 0),(27,.v (.slice (some ⟨ag,0,none⟩) ((lst (ab.at_ 2)).length) al)),(28,.v (.int .i32 (((lst (ab.at_ 2)).length:Nat):Int))),(29,.v (.int .i32 0))] dH fun _ bI=>?_))
      clear dH
      refine qab (wp_block ?_)
      have bJ:=bI.mv
      have gJ:=(bI.cast (t:=(lst (ab.at_ 2)).flatMap (qav v) ++ aH) rfl).pk (env':=[(2,.v (.bool false)),(7,.p 0 0),(8,.v (.int .i16 v)),(9,.v (.bool (decide (v ≥ 3)))),(10,.p 1 0),(19,.v (.slice (some ⟨ac,0,none⟩) ((lst (T.at_ 7)).length) af)),(20,.v (.int .i32 (((lst (T.at_ 7)).length:Nat):Int))),(21,.v (.int .i32 ((ae:Nat):Int))),(23,.p 3 0),(27,.v (.slice (some ⟨ag,0,none⟩) ((lst (ab.at_ 2)).length) al)),(28,.v (.int .i32 (((lst (ab.at_ 2)).length:Nat):Int))),(29,.v (.int .i32 ((0:Nat):Int)))])
      clear bI
      refine qj9 (tb:=[⟨bv,0,[.int .i16 v,.string (bs (T.at_ 0).S),.string (bs (T.at_ 1).S),.int .i64 (IntKind.i64.wrap (T.at_ 2).N),.int .i16 (IntKind.i16.wrap (T.at_ 3).N),.int .i32 ap.n,.string ar.s,.pointer ak.A,.slice none 0 0,.map none],true⟩,qbo ac 19 (.agg #[.string ByteArray.empty,.int .u8 0,.int .u8 0,.int .u8 0,.int .u8 0,.int .u8 0,.int .u8 0,.int .u8 0,.int .u8 0,.int .u8 0,.int .u8 0,.int .u8 0,.int .u8 0,.int .u8 0,.int .u8 0,.int .u8 0,.int .u8 0,.slice none 0 0,.map none]) ((lst (T.at_ 7)).length) (ae + 1),⟨ac,ae * 19,[.string ao.s,qad (aa.o.getD 0 0),qad (aa.o.getD 1 0),qad (aa.o.getD 2 0),qad (aa.o.getD 3 0),qad (aa.o.getD 4 0),qad (aa.o.getD 5 0),qad (aa.o.getD 6 0),qad (aa.o.getD 7 0),qad (aa.o.getD 8 0),qad (aa.o.getD 9 0),qad (aa.o.getD 10 0),qad (aa.o.getD 11 0),qad (aa.o.getD 12 0),qad (aa.o.getD 13 0),qad (aa.o.getD 14 0),qad (aa.o.getD 15 0),.slice none 0 0,.map none],true⟩]) (z:=.agg #[.int .i32 0,.int .i64 0,.int .i32 0,.pointer none,.map none]) (cl:=qbF) (ok:=qaI) (rel:=(qaN v)) (L:=lst (ab.at_ 2)) (size:=5) (qav v) aH (fun k=>[(2,.v (.bool false)),(7,.p 0 0),(8,.v (.int .i16 v)),(9,.v (.bool (decide (v ≥ 3)))),(10,.p 1 0),(19,.v (.slice (some ⟨ac,0,none⟩) ((lst (T.at_ 7)).length) af)),(20,.v (.int .i32 (((lst (T.at_ 7)).length:Nat):Int))),(21,.v (.int .i32 ((ae:Nat):Int))),(23,.p 3 0),(27,.v (.slice (some ⟨ag,0,none⟩) ((lst (ab.at_ 2)).length) al)),(28,.v (.int .i32 (((lst (ab.at_ 2)).length:Nat):Int))),(29,.v (.int .i32 ((k:Nat):Int)))]) gJ qa6 (fun ah ai _ _ bK gK dI=>?_) (fun _ _ dJ=>?_)
      ·
       obtain ⟨ik,dK,dL⟩:∃ P',(∀ w F,P' w F → (gI w F ∧ qfS ag 5 qbF qaI (qaN v) (lst (ab.at_ 2)) ah w F)) ∧ RS w (fun b o=>b = bv ∧ o < 10) F 250 bf [⟨bv,0,[.int .i16 v,.string (bs (T.at_ 0).S),.string (bs (T.at_ 1).S),.int .i64 (IntKind.i64.wrap (T.at_ 2).N),.int .i16 (IntKind.i16.wrap (T.at_ 3).N),.int .i32 ap.n,.string ar.s,.pointer ak.A,.slice none 0 0,.map none],true⟩,qbo ac 19 (.agg #[.string ByteArray.empty,.int .u8 0,.int .u8 0,.int .u8 0,.int .u8 0,.int .u8 0,.int .u8 0,.int .u8 0,.int .u8 0,.int .u8 0,.int .u8 0,.int .u8 0,.int .u8 0,.int .u8 0,.int .u8 0,.int .u8 0,.int .u8 0,.slice none 0 0,.map none]) ((lst (T.at_ 7)).length) (ae + 1),⟨ac,ae * 19,[.string ao.s,qad (aa.o.getD 0 0),qad (aa.o.getD 1 0),qad (aa.o.getD 2 0),qad (aa.o.getD 3 0),qad (aa.o.getD 4 0),qad (aa.o.getD 5 0),qad (aa.o.getD 6 0),qad (aa.o.getD 7 0),qad (aa.o.getD 8 0),qad (aa.o.getD 9 0),qad (aa.o.getD 10 0),qad (aa.o.getD 11 0),qad (aa.o.getD 12 0),qad (aa.o.getD 13 0),qad (aa.o.getD 14 0),qad (aa.o.getD 15 0),.slice none 0 0,.map none],true⟩,qbo ag 5 (.agg #[.int .i32 0,.int .i64 0,.int .i32 0,.pointer none,.map none]) ((lst (ab.at_ 2)).length) ah] [(2,.v (.bool false)),(7,.p 0 0),(8,.v (.int .i16 v)),(9,.v (.bool (decide (v ≥ 3)))),(10,.p 1 0),(19,.v (.slice (some ⟨ac,0,none⟩) ((lst (T.at_ 7)).length) af)),(20,.v (.int .i32 (((lst (T.at_ 7)).length:Nat):Int))),(21,.v (.int .i32 ((ae:Nat):Int))),(23,.p 3 0),(27,.v (.slice (some ⟨ag,0,none⟩) ((lst (ab.at_ 2)).length) al)),(28,.v (.int .i32 (((lst (ab.at_ 2)).length:Nat):Int))),(29,.v (.int .i32 ((ah:Nat):Int)))] P' ((qav v) ai ++ (((lst (ab.at_ 2)).drop (ah + 1)).flatMap (qav v) ++ aH)) _ _:=⟨_,fun _ _ h=>h,dI⟩
       clear dI
       obtain ⟨bL,dM⟩:∃ R,R = ((lst (ab.at_ 2)).drop (ah + 1)).flatMap (qav v) ++ aH:=⟨_,rfl⟩
       have gL:=(e161_2e ai (List.mem_of_getElem? bK))
       have e254r:=(qf7 (qfL e161r 2) ai (List.mem_of_getElem? bK))
       unfold qa4 at gL
       obtain ⟨e254_0,e254_1,e254_2,e254_3,e254_U,_⟩:=gL
       obtain ⟨bT,dN⟩:∃ R,R = (if (decide (v ≥ 3)) = true then (uv ai.U.length) ++ (qbx ai.U) else []) ++ bL:=⟨_,rfl⟩
       obtain ⟨bM,dO⟩:∃ R,R = (if (decide (v ≥ 3)) = true then (if (ai.at_ 3).null = true then uv 0 else uv ((qby (ai.at_ 3)).length + 1) ++ (qby (ai.at_ 3))) else (if (ai.at_ 3).null = true then be 2 (-1) else be 2 (qby (ai.at_ 3)).length ++ (qby (ai.at_ 3)))) ++ bT:=⟨_,rfl⟩
       obtain ⟨il,dP⟩:∃ R,R = (if (decide (v ≥ 2)) = true then be 4 ((IntKind.i32.wrap (ai.at_ 2).N)) else []) ++ bM:=⟨_,rfl⟩
       obtain ⟨im,dQ⟩:∃ R,R = (be 8 ((ai.at_ 1).N)) ++ il:=⟨_,rfl⟩
       obtain ⟨io,dR⟩:∃ R,R = (be 4 ((IntKind.i32.wrap (ai.at_ 0).N))) ++ im:=⟨_,rfl⟩
       have dS:=dL.cast (t:=io) (by rw [dR,dQ,dP,dO,dN,← dM]; unfold qav; simp only [List.append_assoc])
       clear dL
       refine wp_seq (wp_seq (qbA [(2,.v (.bool false)),(7,.p 0 0),(8,.v (.int .i16 v)),(9,.v (.bool (decide (v ≥ 3)))),(10,.p 1 0),(19,.v (.slice (some ⟨ac,0,none⟩) ((lst (T.at_ 7)).length) af)),(20,.v (.int .i32 (((lst (T.at_ 7)).length:Nat):Int))),(21,.v (.int .i32 ((ae:Nat):Int))),(23,.p 3 0),(27,.v (.slice (some ⟨ag,0,none⟩) ((lst (ab.at_ 2)).length) al)),(28,.v (.int .i32 (((lst (ab.at_ 2)).length:Nat):Int))),(29,.v (.int .i32 ((ah:Nat):Int))),(187,.v (.bool (decide (((ah:Nat):Int) < (((lst (ab.at_ 2)).length:Nat):Int)))))] dS fun _ bN=>qab ?_))
       clear dS
       refine qbw bN.env_ (b:=decide (((ah:Nat):Int) < (((lst (ab.at_ 2)).length:Nat):Int))) kz (decide_eq_true (by omega)) ?_
       refine wp_skip (qab (wp_seq (wp_block (wp_seq (qke (t:=152) (e:=157) (size:=5) (bytes:=40) (d:=192) (tb:=[⟨bv,0,[.int .i16 v,.string (bs (T.at_ 0).S),.string (bs (T.at_ 1).S),.int .i64 (IntKind.i64.wrap (T.at_ 2).N),.int .i16 (IntKind.i16.wrap (T.at_ 3).N),.int .i32 ap.n,.string ar.s,.pointer ak.A,.slice none 0 0,.map none],true⟩,qbo ac 19 (.agg #[.string ByteArray.empty,.int .u8 0,.int .u8 0,.int .u8 0,.int .u8 0,.int .u8 0,.int .u8 0,.int .u8 0,.int .u8 0,.int .u8 0,.int .u8 0,.int .u8 0,.int .u8 0,.int .u8 0,.int .u8 0,.int .u8 0,.int .u8 0,.slice none 0 0,.map none]) ((lst (T.at_ 7)).length) (ae + 1),⟨ac,ae * 19,[.string ao.s,qad (aa.o.getD 0 0),qad (aa.o.getD 1 0),qad (aa.o.getD 2 0),qad (aa.o.getD 3 0),qad (aa.o.getD 4 0),qad (aa.o.getD 5 0),qad (aa.o.getD 6 0),qad (aa.o.getD 7 0),qad (aa.o.getD 8 0),qad (aa.o.getD 9 0),qad (aa.o.getD 10 0),qad (aa.o.getD 11 0),qad (aa.o.getD 12 0),qad (aa.o.getD 13 0),qad (aa.o.getD 14 0),qad (aa.o.getD 15 0),.slice none 0 0,.map none],true⟩]) (z:=.agg #[.int .i32 0,.int .i64 0,.int .i32 0,.pointer none,.map none]) [(2,.v (.bool false)),(7,.p 0 0),(8,.v (.int .i16 v)),(9,.v (.bool (decide (v ≥ 3)))),(10,.p 1 0),(19,.v (.slice (some ⟨ac,0,none⟩) ((lst (T.at_ 7)).length) af)),(20,.v (.int .i32 (((lst (T.at_ 7)).length:Nat):Int))),(21,.v (.int .i32 ((ae:Nat):Int))),(23,.p 3 0),(27,.v (.slice (some ⟨ag,0,none⟩) ((lst (ab.at_ 2)).length) al)),(28,.v (.int .i32 (((lst (ab.at_ 2)).length:Nat):Int))),(29,.v (.int .i32 ((ah:Nat):Int))),(190,.v (.slice (some ⟨ag,0,none⟩) ((lst (ab.at_ 2)).length) al)),(191,.v (.int .i32 ((ah:Nat):Int)))] [(2,.v (.bool false)),(7,.p 0 0),(8,.v (.int .i16 v)),(9,.v (.bool (decide (v ≥ 3)))),(10,.p 1 0),(19,.v (.slice (some ⟨ac,0,none⟩) ((lst (T.at_ 7)).length) af)),(20,.v (.int .i32 (((lst (T.at_ 7)).length:Nat):Int))),(21,.v (.int .i32 ((ae:Nat):Int))),(23,.p 3 0),(27,.v (.slice (some ⟨ag,0,none⟩) ((lst (ab.at_ 2)).length) al)),(28,.v (.int .i32 (((lst (ab.at_ 2)).length:Nat):Int))),(29,.v (.int .i32 ((ah:Nat):Int))),(30,.p 5 0)] 2 bN gK rfl kz fun _ dT=>?_)))))
       clear bN
       have dU:=dT.tbEq (tb':=[⟨bv,0,[.int .i16 v,.string (bs (T.at_ 0).S),.string (bs (T.at_ 1).S),.int .i64 (IntKind.i64.wrap (T.at_ 2).N),.int .i16 (IntKind.i16.wrap (T.at_ 3).N),.int .i32 ap.n,.string ar.s,.pointer ak.A,.slice none 0 0,.map none],true⟩,qbo ac 19 (.agg #[.string ByteArray.empty,.int .u8 0,.int .u8 0,.int .u8 0,.int .u8 0,.int .u8 0,.int .u8 0,.int .u8 0,.int .u8 0,.int .u8 0,.int .u8 0,.int .u8 0,.int .u8 0,.int .u8 0,.int .u8 0,.int .u8 0,.int .u8 0,.slice none 0 0,.map none]) ((lst (T.at_ 7)).length) (ae + 1),⟨ac,ae * 19,[.string ao.s,qad (aa.o.getD 0 0),qad (aa.o.getD 1 0),qad (aa.o.getD 2 0),qad (aa.o.getD 3 0),qad (aa.o.getD 4 0),qad (aa.o.getD 5 0),qad (aa.o.getD 6 0),qad (aa.o.getD 7 0),qad (aa.o.getD 8 0),qad (aa.o.getD 9 0),qad (aa.o.getD 10 0),qad (aa.o.getD 11 0),qad (aa.o.getD 12 0),qad (aa.o.getD 13 0),qad (aa.o.getD 14 0),qad (aa.o.getD 15 0),.slice none 0 0,.map none],true⟩,qbo ag 5 (.agg #[.int .i32 0,.int .i64 0,.int .i32 0,.pointer none,.map none]) ((lst (ab.at_ 2)).length) (ah + 1),⟨ag,ah * 5,[.int .i32 0,.int .i64 0,.int .i32 0,.pointer none,.map none],true⟩]) rfl
       clear dT
       refine qab (wp_seq (qas [0,1] kz ?_))
       refine qc8 [0] [1] [(2,.v (.bool false)),(7,.p 0 0),(8,.v (.int .i16 v)),(9,.v (.bool (decide (v ≥ 3)))),(10,.p 1 0),(19,.v (.slice (some ⟨ac,0,none⟩) ((lst (T.at_ 7)).length) af)),(20,.v (.int .i32 (((lst (T.at_ 7)).length:Nat):Int))),(21,.v (.int .i32 ((ae:Nat):Int))),(23,.p 3 0),(27,.v (.slice (some ⟨ag,0,none⟩) ((lst (ab.at_ 2)).length) al)),(28,.v (.int .i32 (((lst (ab.at_ 2)).length:Nat):Int))),(29,.v (.int .i32 ((ah:Nat):Int))),(30,.p 5 0),(193,.p 5 0)] dU fun _ dV=>?_
       clear dU
       refine qam (qj8 (d:=194) (vs:=[.pointer (some ⟨ag,ah * 5,none⟩)]) dV Tryz.call137 Tryz.func137 rfl Tryz.ntmps137 (fun _ dW=>?_))
       clear dV
       have dX:=(dW.recast 0 (.v (.pointer (some ⟨ag,ah * 5,none⟩))) (.p 5 0) rfl rfl (Nat.le_of_ble_eq_true (n:=6) rfl)).pk (env':=[(0,.p 5 0)])
       clear dW
       refine qcW [⟨bv,0,[.int .i16 v,.string (bs (T.at_ 0).S),.string (bs (T.at_ 1).S),.int .i64 (IntKind.i64.wrap (T.at_ 2).N),.int .i16 (IntKind.i16.wrap (T.at_ 3).N),.int .i32 ap.n,.string ar.s,.pointer ak.A,.slice none 0 0,.map none],true⟩,qbo ac 19 (.agg #[.string ByteArray.empty,.int .u8 0,.int .u8 0,.int .u8 0,.int .u8 0,.int .u8 0,.int .u8 0,.int .u8 0,.int .u8 0,.int .u8 0,.int .u8 0,.int .u8 0,.int .u8 0,.int .u8 0,.int .u8 0,.int .u8 0,.int .u8 0,.slice none 0 0,.map none]) ((lst (T.at_ 7)).length) (ae + 1),⟨ac,ae * 19,[.string ao.s,qad (aa.o.getD 0 0),qad (aa.o.getD 1 0),qad (aa.o.getD 2 0),qad (aa.o.getD 3 0),qad (aa.o.getD 4 0),qad (aa.o.getD 5 0),qad (aa.o.getD 6 0),qad (aa.o.getD 7 0),qad (aa.o.getD 8 0),qad (aa.o.getD 9 0),qad (aa.o.getD 10 0),qad (aa.o.getD 11 0),qad (aa.o.getD 12 0),qad (aa.o.getD 13 0),qad (aa.o.getD 14 0),qad (aa.o.getD 15 0),.slice none 0 0,.map none],true⟩,qbo ag 5 (.agg #[.int .i32 0,.int .i64 0,.int .i32 0,.pointer none,.map none]) ((lst (ab.at_ 2)).length) (ah + 1),⟨ag,ah * 5,[.int .i32 0,.int .i64 0,.int .i32 (-1),.pointer none,.map none],true⟩] 4 [] dX fun _ _ dY=>?_
       clear dX
       refine qkS (v:=.tuple #[]) dY (fun _ dZ=>?_) (⟨rfl,rfl,⟨rfl,rfl,⟨rfl,rfl,⟨rfl,rfl,⟨rfl,rfl,⟨rfl,rfl,trivial⟩⟩⟩⟩⟩⟩)
       clear dY
       refine qaf ?_
       have d5:=dZ.pk (env':=[(2,.v (.bool false)),(7,.p 0 0),(8,.v (.int .i16 v)),(9,.v (.bool (decide (v ≥ 3)))),(10,.p 1 0),(19,.v (.slice (some ⟨ac,0,none⟩) ((lst (T.at_ 7)).length) af)),(20,.v (.int .i32 (((lst (T.at_ 7)).length:Nat):Int))),(21,.v (.int .i32 ((ae:Nat):Int))),(23,.p 3 0),(27,.v (.slice (some ⟨ag,0,none⟩) ((lst (ab.at_ 2)).length) al)),(28,.v (.int .i32 (((lst (ab.at_ 2)).length:Nat):Int))),(29,.v (.int .i32 ((ah:Nat):Int))),(30,.p 5 0)])
       clear dZ
       refine qab (wp_seq (qbA [(2,.v (.bool false)),(7,.p 0 0),(8,.v (.int .i16 v)),(9,.v (.bool (decide (v ≥ 3)))),(10,.p 1 0),(19,.v (.slice (some ⟨ac,0,none⟩) ((lst (T.at_ 7)).length) af)),(20,.v (.int .i32 (((lst (T.at_ 7)).length:Nat):Int))),(21,.v (.int .i32 ((ae:Nat):Int))),(23,.p 3 0),(27,.v (.slice (some ⟨ag,0,none⟩) ((lst (ab.at_ 2)).length) al)),(28,.v (.int .i32 (((lst (ab.at_ 2)).length:Nat):Int))),(29,.v (.int .i32 ((ah:Nat):Int))),(31,.p 5 0)] d5 fun _ d6=>?_))
       clear d5
       refine qab (wp_seq (wp_seq ?_))
       have d7:=d6.cast dR
       clear d6
       refine qeu (d:=196) [(2,.v (.bool false)),(7,.p 0 0),(8,.v (.int .i16 v)),(9,.v (.bool (decide (v ≥ 3)))),(10,.p 1 0),(19,.v (.slice (some ⟨ac,0,none⟩) ((lst (T.at_ 7)).length) af)),(20,.v (.int .i32 (((lst (T.at_ 7)).length:Nat):Int))),(21,.v (.int .i32 ((ae:Nat):Int))),(23,.p 3 0),(27,.v (.slice (some ⟨ag,0,none⟩) ((lst (ab.at_ 2)).length) al)),(28,.v (.int .i32 (((lst (ab.at_ 2)).length:Nat):Int))),(29,.v (.int .i32 ((ah:Nat):Int))),(31,.p 5 0),(32,.v (.int .i32 (IntKind.i32.wrap (ai.at_ 0).N)))] d7 (qkf _ _) Tryz.call117 fun _ _ d8=>?_
       clear d7
       refine qab (qcW [⟨bv,0,[.int .i16 v,.string (bs (T.at_ 0).S),.string (bs (T.at_ 1).S),.int .i64 (IntKind.i64.wrap (T.at_ 2).N),.int .i16 (IntKind.i16.wrap (T.at_ 3).N),.int .i32 ap.n,.string ar.s,.pointer ak.A,.slice none 0 0,.map none],true⟩,qbo ac 19 (.agg #[.string ByteArray.empty,.int .u8 0,.int .u8 0,.int .u8 0,.int .u8 0,.int .u8 0,.int .u8 0,.int .u8 0,.int .u8 0,.int .u8 0,.int .u8 0,.int .u8 0,.int .u8 0,.int .u8 0,.int .u8 0,.int .u8 0,.int .u8 0,.slice none 0 0,.map none]) ((lst (T.at_ 7)).length) (ae + 1),⟨ac,ae * 19,[.string ao.s,qad (aa.o.getD 0 0),qad (aa.o.getD 1 0),qad (aa.o.getD 2 0),qad (aa.o.getD 3 0),qad (aa.o.getD 4 0),qad (aa.o.getD 5 0),qad (aa.o.getD 6 0),qad (aa.o.getD 7 0),qad (aa.o.getD 8 0),qad (aa.o.getD 9 0),qad (aa.o.getD 10 0),qad (aa.o.getD 11 0),qad (aa.o.getD 12 0),qad (aa.o.getD 13 0),qad (aa.o.getD 14 0),qad (aa.o.getD 15 0),.slice none 0 0,.map none],true⟩,qbo ag 5 (.agg #[.int .i32 0,.int .i64 0,.int .i32 0,.pointer none,.map none]) ((lst (ab.at_ 2)).length) (ah + 1),⟨ag,ah * 5,[.int .i32 (IntKind.i32.wrap (ai.at_ 0).N),.int .i64 0,.int .i32 (-1),.pointer none,.map none],true⟩] 4 [(2,.v (.bool false)),(7,.p 0 0),(8,.v (.int .i16 v)),(9,.v (.bool (decide (v ≥ 3)))),(10,.p 1 0),(19,.v (.slice (some ⟨ac,0,none⟩) ((lst (T.at_ 7)).length) af)),(20,.v (.int .i32 (((lst (T.at_ 7)).length:Nat):Int))),(21,.v (.int .i32 ((ae:Nat):Int))),(23,.p 3 0),(27,.v (.slice (some ⟨ag,0,none⟩) ((lst (ab.at_ 2)).length) al)),(28,.v (.int .i32 (((lst (ab.at_ 2)).length:Nat):Int))),(29,.v (.int .i32 ((ah:Nat):Int))),(31,.p 5 0)] d8 fun _ _ d9=>?_)
       clear d8
       refine qab (wp_seq (wp_seq ?_))
       have ea:=d9.cast dQ
       clear d9
       refine qeu (d:=201) [(2,.v (.bool false)),(7,.p 0 0),(8,.v (.int .i16 v)),(9,.v (.bool (decide (v ≥ 3)))),(10,.p 1 0),(19,.v (.slice (some ⟨ac,0,none⟩) ((lst (T.at_ 7)).length) af)),(20,.v (.int .i32 (((lst (T.at_ 7)).length:Nat):Int))),(21,.v (.int .i32 ((ae:Nat):Int))),(23,.p 3 0),(27,.v (.slice (some ⟨ag,0,none⟩) ((lst (ab.at_ 2)).length) al)),(28,.v (.int .i32 (((lst (ab.at_ 2)).length:Nat):Int))),(29,.v (.int .i32 ((ah:Nat):Int))),(31,.p 5 0),(33,.v (.int .i64 (IntKind.i64.wrap (ai.at_ 1).N)))] ea (qlg _ _) Tryz.call122 fun _ _ eb=>?_
       clear ea
       refine qab (qcW [⟨bv,0,[.int .i16 v,.string (bs (T.at_ 0).S),.string (bs (T.at_ 1).S),.int .i64 (IntKind.i64.wrap (T.at_ 2).N),.int .i16 (IntKind.i16.wrap (T.at_ 3).N),.int .i32 ap.n,.string ar.s,.pointer ak.A,.slice none 0 0,.map none],true⟩,qbo ac 19 (.agg #[.string ByteArray.empty,.int .u8 0,.int .u8 0,.int .u8 0,.int .u8 0,.int .u8 0,.int .u8 0,.int .u8 0,.int .u8 0,.int .u8 0,.int .u8 0,.int .u8 0,.int .u8 0,.int .u8 0,.int .u8 0,.int .u8 0,.int .u8 0,.slice none 0 0,.map none]) ((lst (T.at_ 7)).length) (ae + 1),⟨ac,ae * 19,[.string ao.s,qad (aa.o.getD 0 0),qad (aa.o.getD 1 0),qad (aa.o.getD 2 0),qad (aa.o.getD 3 0),qad (aa.o.getD 4 0),qad (aa.o.getD 5 0),qad (aa.o.getD 6 0),qad (aa.o.getD 7 0),qad (aa.o.getD 8 0),qad (aa.o.getD 9 0),qad (aa.o.getD 10 0),qad (aa.o.getD 11 0),qad (aa.o.getD 12 0),qad (aa.o.getD 13 0),qad (aa.o.getD 14 0),qad (aa.o.getD 15 0),.slice none 0 0,.map none],true⟩,qbo ag 5 (.agg #[.int .i32 0,.int .i64 0,.int .i32 0,.pointer none,.map none]) ((lst (ab.at_ 2)).length) (ah + 1),⟨ag,ah * 5,[.int .i32 (IntKind.i32.wrap (ai.at_ 0).N),.int .i64 (IntKind.i64.wrap (ai.at_ 1).N),.int .i32 (-1),.pointer none,.map none],true⟩] 4 [(2,.v (.bool false)),(7,.p 0 0),(8,.v (.int .i16 v)),(9,.v (.bool (decide (v ≥ 3)))),(10,.p 1 0),(19,.v (.slice (some ⟨ac,0,none⟩) ((lst (T.at_ 7)).length) af)),(20,.v (.int .i32 (((lst (T.at_ 7)).length:Nat):Int))),(21,.v (.int .i32 ((ae:Nat):Int))),(23,.p 3 0),(27,.v (.slice (some ⟨ag,0,none⟩) ((lst (ab.at_ 2)).length) al)),(28,.v (.int .i32 (((lst (ab.at_ 2)).length:Nat):Int))),(29,.v (.int .i32 ((ah:Nat):Int))),(31,.p 5 0)] eb fun _ _ ec=>?_)
       clear eb
       refine qab (wp_seq ?_)
       have ee:=ec.cast dP
       clear ec
       refine qcM (Mid:=fun a_ w_=>∃ (aE:DV) (P':qco),(∀ w F,P' w F → ik w F ∧ (True) ∧ ((decide (v ≥ 2)) = true → aE.n = IntKind.i32.wrap (ai.at_ 2).N) ∧ ((decide (v ≥ 2)) = false → aE.n = -1)) ∧ RS w (fun b o=>b = bv ∧ o < 10) F 250 bf [⟨bv,0,[.int .i16 v,.string (bs (T.at_ 0).S),.string (bs (T.at_ 1).S),.int .i64 (IntKind.i64.wrap (T.at_ 2).N),.int .i16 (IntKind.i16.wrap (T.at_ 3).N),.int .i32 ap.n,.string ar.s,.pointer ak.A,.slice none 0 0,.map none],true⟩,qbo ac 19 (.agg #[.string ByteArray.empty,.int .u8 0,.int .u8 0,.int .u8 0,.int .u8 0,.int .u8 0,.int .u8 0,.int .u8 0,.int .u8 0,.int .u8 0,.int .u8 0,.int .u8 0,.int .u8 0,.int .u8 0,.int .u8 0,.int .u8 0,.int .u8 0,.slice none 0 0,.map none]) ((lst (T.at_ 7)).length) (ae + 1),⟨ac,ae * 19,[.string ao.s,qad (aa.o.getD 0 0),qad (aa.o.getD 1 0),qad (aa.o.getD 2 0),qad (aa.o.getD 3 0),qad (aa.o.getD 4 0),qad (aa.o.getD 5 0),qad (aa.o.getD 6 0),qad (aa.o.getD 7 0),qad (aa.o.getD 8 0),qad (aa.o.getD 9 0),qad (aa.o.getD 10 0),qad (aa.o.getD 11 0),qad (aa.o.getD 12 0),qad (aa.o.getD 13 0),qad (aa.o.getD 14 0),qad (aa.o.getD 15 0),.slice none 0 0,.map none],true⟩,qbo ag 5 (.agg #[.int .i32 0,.int .i64 0,.int .i32 0,.pointer none,.map none]) ((lst (ab.at_ 2)).length) (ah + 1),⟨ag,ah * 5,[.int .i32 (IntKind.i32.wrap (ai.at_ 0).N),.int .i64 (IntKind.i64.wrap (ai.at_ 1).N),.int .i32 aE.n,.pointer none,.map none],true⟩] [(2,.v (.bool false)),(7,.p 0 0),(8,.v (.int .i16 v)),(9,.v (.bool (decide (v ≥ 3)))),(10,.p 1 0),(19,.v (.slice (some ⟨ac,0,none⟩) ((lst (T.at_ 7)).length) af)),(20,.v (.int .i32 (((lst (T.at_ 7)).length:Nat):Int))),(21,.v (.int .i32 ((ae:Nat):Int))),(23,.p 3 0),(27,.v (.slice (some ⟨ag,0,none⟩) ((lst (ab.at_ 2)).length) al)),(28,.v (.int .i32 (((lst (ab.at_ 2)).length:Nat):Int))),(29,.v (.int .i32 ((ah:Nat):Int))),(31,.p 5 0)] P' bM a_ w_) ?_ ?_
       ·
        refine wp_seq (qbA [(2,.v (.bool false)),(7,.p 0 0),(8,.v (.int .i16 v)),(9,.v (.bool (decide (v ≥ 3)))),(10,.p 1 0),(19,.v (.slice (some ⟨ac,0,none⟩) ((lst (T.at_ 7)).length) af)),(20,.v (.int .i32 (((lst (T.at_ 7)).length:Nat):Int))),(21,.v (.int .i32 ((ae:Nat):Int))),(23,.p 3 0),(27,.v (.slice (some ⟨ag,0,none⟩) ((lst (ab.at_ 2)).length) al)),(28,.v (.int .i32 (((lst (ab.at_ 2)).length:Nat):Int))),(29,.v (.int .i32 ((ah:Nat):Int))),(31,.p 5 0),(207,.v (.bool (decide (v ≥ 2))))] ee fun _ aN=>qab ?_)
        clear ee
        refine qay aN.env_ (b:=decide (v ≥ 2)) kz (fun aO=>?_) (fun aO=>?_)
        ·
         have ef:=aN.cast (t:=(be 4 ((IntKind.i32.wrap (ai.at_ 2).N))) ++ bM) (by rw [if_pos aO])
         clear aN
         refine wp_seq (qeu (d:=208) [(2,.v (.bool false)),(7,.p 0 0),(8,.v (.int .i16 v)),(9,.v (.bool (decide (v ≥ 3)))),(10,.p 1 0),(19,.v (.slice (some ⟨ac,0,none⟩) ((lst (T.at_ 7)).length) af)),(20,.v (.int .i32 (((lst (T.at_ 7)).length:Nat):Int))),(21,.v (.int .i32 ((ae:Nat):Int))),(23,.p 3 0),(27,.v (.slice (some ⟨ag,0,none⟩) ((lst (ab.at_ 2)).length) al)),(28,.v (.int .i32 (((lst (ab.at_ 2)).length:Nat):Int))),(29,.v (.int .i32 ((ah:Nat):Int))),(31,.p 5 0),(34,.v (.int .i32 (IntKind.i32.wrap (ai.at_ 2).N)))] ef (qkf _ _) Tryz.call117 fun _ _ eg=>?_)
         clear ef
         refine qab (qcW [⟨bv,0,[.int .i16 v,.string (bs (T.at_ 0).S),.string (bs (T.at_ 1).S),.int .i64 (IntKind.i64.wrap (T.at_ 2).N),.int .i16 (IntKind.i16.wrap (T.at_ 3).N),.int .i32 ap.n,.string ar.s,.pointer ak.A,.slice none 0 0,.map none],true⟩,qbo ac 19 (.agg #[.string ByteArray.empty,.int .u8 0,.int .u8 0,.int .u8 0,.int .u8 0,.int .u8 0,.int .u8 0,.int .u8 0,.int .u8 0,.int .u8 0,.int .u8 0,.int .u8 0,.int .u8 0,.int .u8 0,.int .u8 0,.int .u8 0,.int .u8 0,.slice none 0 0,.map none]) ((lst (T.at_ 7)).length) (ae + 1),⟨ac,ae * 19,[.string ao.s,qad (aa.o.getD 0 0),qad (aa.o.getD 1 0),qad (aa.o.getD 2 0),qad (aa.o.getD 3 0),qad (aa.o.getD 4 0),qad (aa.o.getD 5 0),qad (aa.o.getD 6 0),qad (aa.o.getD 7 0),qad (aa.o.getD 8 0),qad (aa.o.getD 9 0),qad (aa.o.getD 10 0),qad (aa.o.getD 11 0),qad (aa.o.getD 12 0),qad (aa.o.getD 13 0),qad (aa.o.getD 14 0),qad (aa.o.getD 15 0),.slice none 0 0,.map none],true⟩,qbo ag 5 (.agg #[.int .i32 0,.int .i64 0,.int .i32 0,.pointer none,.map none]) ((lst (ab.at_ 2)).length) (ah + 1),⟨ag,ah * 5,[.int .i32 (IntKind.i32.wrap (ai.at_ 0).N),.int .i64 (IntKind.i64.wrap (ai.at_ 1).N),.int .i32 (IntKind.i32.wrap (ai.at_ 2).N),.pointer none,.map none],true⟩] 4 [(2,.v (.bool false)),(7,.p 0 0),(8,.v (.int .i16 v)),(9,.v (.bool (decide (v ≥ 3)))),(10,.p 1 0),(19,.v (.slice (some ⟨ac,0,none⟩) ((lst (T.at_ 7)).length) af)),(20,.v (.int .i32 (((lst (T.at_ 7)).length:Nat):Int))),(21,.v (.int .i32 ((ae:Nat):Int))),(23,.p 3 0),(27,.v (.slice (some ⟨ag,0,none⟩) ((lst (ab.at_ 2)).length) al)),(28,.v (.int .i32 (((lst (ab.at_ 2)).length:Nat):Int))),(29,.v (.int .i32 ((ah:Nat):Int))),(31,.p 5 0)] eg fun _ _ gM=>?_)
         clear eg
         refine qab ?_
         exact ⟨dvN (IntKind.i32.wrap (ai.at_ 2).N),_,fun w F h_=>⟨h_,trivial,⟨fun _=>rfl,(fun e_=>by rw [aO] at e_; cases e_)⟩⟩,gM.pk (env':=[(2,.v (.bool false)),(7,.p 0 0),(8,.v (.int .i16 v)),(9,.v (.bool (decide (v ≥ 3)))),(10,.p 1 0),(19,.v (.slice (some ⟨ac,0,none⟩) ((lst (T.at_ 7)).length) af)),(20,.v (.int .i32 (((lst (T.at_ 7)).length:Nat):Int))),(21,.v (.int .i32 ((ae:Nat):Int))),(23,.p 3 0),(27,.v (.slice (some ⟨ag,0,none⟩) ((lst (ab.at_ 2)).length) al)),(28,.v (.int .i32 (((lst (ab.at_ 2)).length:Nat):Int))),(29,.v (.int .i32 ((ah:Nat):Int))),(31,.p 5 0)])⟩
        have eh:=aN.cast (t:=[] ++ bM) (by rw [if_neg (by rw [aO]; decide)])
        clear aN
        have gN:=eh.cast (t:=bM) rfl
        clear eh
        refine wp_skip (qab ?_)
        exact ⟨dvN (-1),_,fun w F h_=>⟨h_,trivial,⟨(fun e_=>by rw [aO] at e_; cases e_),fun _=>rfl⟩⟩,gN.pk (env':=[(2,.v (.bool false)),(7,.p 0 0),(8,.v (.int .i16 v)),(9,.v (.bool (decide (v ≥ 3)))),(10,.p 1 0),(19,.v (.slice (some ⟨ac,0,none⟩) ((lst (T.at_ 7)).length) af)),(20,.v (.int .i32 (((lst (T.at_ 7)).length:Nat):Int))),(21,.v (.int .i32 ((ae:Nat):Int))),(23,.p 3 0),(27,.v (.slice (some ⟨ag,0,none⟩) ((lst (ab.at_ 2)).length) al)),(28,.v (.int .i32 (((lst (ab.at_ 2)).length:Nat):Int))),(29,.v (.int .i32 ((ah:Nat):Int))),(31,.p 5 0)])⟩
       rintro _ _ ⟨aE,ip,bk,ei⟩
       refine qab (wp_seq (wp_seq (qbA [(2,.v (.bool false)),(7,.p 0 0),(8,.v (.int .i16 v)),(9,.v (.bool (decide (v ≥ 3)))),(10,.p 1 0),(19,.v (.slice (some ⟨ac,0,none⟩) ((lst (T.at_ 7)).length) af)),(20,.v (.int .i32 (((lst (T.at_ 7)).length:Nat):Int))),(21,.v (.int .i32 ((ae:Nat):Int))),(23,.p 3 0),(27,.v (.slice (some ⟨ag,0,none⟩) ((lst (ab.at_ 2)).length) al)),(28,.v (.int .i32 (((lst (ab.at_ 2)).length:Nat):Int))),(29,.v (.int .i32 ((ah:Nat):Int))),(31,.p 5 0)] ei fun _ ej=>?_)))
       clear ei
       refine qab (wp_seq ?_)
       have ek:=ej.cast dO
       clear ej
       refine qcM (Mid:=fun a_ w_=>∃ (aP:Option Addr) (P':qco),(∀ w F,P' w F → ip w F ∧ qkQ aP (qby (ai.at_ 3)) w F ∧ aP.isNone = (ai.at_ 3).null) ∧ RS w (fun b o=>b = bv ∧ o < 10) F 250 bf [⟨bv,0,[.int .i16 v,.string (bs (T.at_ 0).S),.string (bs (T.at_ 1).S),.int .i64 (IntKind.i64.wrap (T.at_ 2).N),.int .i16 (IntKind.i16.wrap (T.at_ 3).N),.int .i32 ap.n,.string ar.s,.pointer ak.A,.slice none 0 0,.map none],true⟩,qbo ac 19 (.agg #[.string ByteArray.empty,.int .u8 0,.int .u8 0,.int .u8 0,.int .u8 0,.int .u8 0,.int .u8 0,.int .u8 0,.int .u8 0,.int .u8 0,.int .u8 0,.int .u8 0,.int .u8 0,.int .u8 0,.int .u8 0,.int .u8 0,.int .u8 0,.slice none 0 0,.map none]) ((lst (T.at_ 7)).length) (ae + 1),⟨ac,ae * 19,[.string ao.s,qad (aa.o.getD 0 0),qad (aa.o.getD 1 0),qad (aa.o.getD 2 0),qad (aa.o.getD 3 0),qad (aa.o.getD 4 0),qad (aa.o.getD 5 0),qad (aa.o.getD 6 0),qad (aa.o.getD 7 0),qad (aa.o.getD 8 0),qad (aa.o.getD 9 0),qad (aa.o.getD 10 0),qad (aa.o.getD 11 0),qad (aa.o.getD 12 0),qad (aa.o.getD 13 0),qad (aa.o.getD 14 0),qad (aa.o.getD 15 0),.slice none 0 0,.map none],true⟩,qbo ag 5 (.agg #[.int .i32 0,.int .i64 0,.int .i32 0,.pointer none,.map none]) ((lst (ab.at_ 2)).length) (ah + 1),⟨ag,ah * 5,[.int .i32 (IntKind.i32.wrap (ai.at_ 0).N),.int .i64 (IntKind.i64.wrap (ai.at_ 1).N),.int .i32 aE.n,.pointer none,.map none],true⟩] [(2,.v (.bool false)),(7,.p 0 0),(8,.v (.int .i16 v)),(9,.v (.bool (decide (v ≥ 3)))),(10,.p 1 0),(19,.v (.slice (some ⟨ac,0,none⟩) ((lst (T.at_ 7)).length) af)),(20,.v (.int .i32 (((lst (T.at_ 7)).length:Nat):Int))),(21,.v (.int .i32 ((ae:Nat):Int))),(23,.p 3 0),(27,.v (.slice (some ⟨ag,0,none⟩) ((lst (ab.at_ 2)).length) al)),(28,.v (.int .i32 (((lst (ab.at_ 2)).length:Nat):Int))),(29,.v (.int .i32 ((ah:Nat):Int))),(31,.p 5 0),(35,.v (.pointer aP))] P' bT a_ w_) ?_ ?_
       ·
        refine wp_seq (qbA [(2,.v (.bool false)),(7,.p 0 0),(8,.v (.int .i16 v)),(9,.v (.bool (decide (v ≥ 3)))),(10,.p 1 0),(19,.v (.slice (some ⟨ac,0,none⟩) ((lst (T.at_ 7)).length) af)),(20,.v (.int .i32 (((lst (T.at_ 7)).length:Nat):Int))),(21,.v (.int .i32 ((ae:Nat):Int))),(23,.p 3 0),(27,.v (.slice (some ⟨ag,0,none⟩) ((lst (ab.at_ 2)).length) al)),(28,.v (.int .i32 (((lst (ab.at_ 2)).length:Nat):Int))),(29,.v (.int .i32 ((ah:Nat):Int))),(31,.p 5 0),(213,.v (.bool (decide (v ≥ 3))))] ek fun _ aQ=>qab ?_)
        clear ek
        refine qay aQ.env_ (b:=decide (v ≥ 3)) kz (fun bO=>?_) (fun bO=>?_)
        ·
         have em:=aQ.cast (t:=(if (ai.at_ 3).null = true then uv 0 else uv ((qby (ai.at_ 3)).length + 1) ++ (qby (ai.at_ 3))) ++ bT) (by rw [if_pos bO])
         clear aQ
         refine wp_seq (qbA [(2,.v (.bool false)),(7,.p 0 0),(8,.v (.int .i16 v)),(9,.v (.bool (decide (v ≥ 3)))),(10,.p 1 0),(19,.v (.slice (some ⟨ac,0,none⟩) ((lst (T.at_ 7)).length) af)),(20,.v (.int .i32 (((lst (T.at_ 7)).length:Nat):Int))),(21,.v (.int .i32 ((ae:Nat):Int))),(23,.p 3 0),(27,.v (.slice (some ⟨ag,0,none⟩) ((lst (ab.at_ 2)).length) al)),(28,.v (.int .i32 (((lst (ab.at_ 2)).length:Nat):Int))),(29,.v (.int .i32 ((ah:Nat):Int))),(31,.p 5 0),(214,.v (.bool false))] em fun _ bP=>qab ?_)
         clear em
         refine qau bP.env_ (b:=false) kz (rfl) ?_
         refine qlL (d:=216) (fun bU=>[(2,.v (.bool false)),(7,.p 0 0),(8,.v (.int .i16 v)),(9,.v (.bool (decide (v ≥ 3)))),(10,.p 1 0),(19,.v (.slice (some ⟨ac,0,none⟩) ((lst (T.at_ 7)).length) af)),(20,.v (.int .i32 (((lst (T.at_ 7)).length:Nat):Int))),(21,.v (.int .i32 ((ae:Nat):Int))),(23,.p 3 0),(27,.v (.slice (some ⟨ag,0,none⟩) ((lst (ab.at_ 2)).length) al)),(28,.v (.int .i32 (((lst (ab.at_ 2)).length:Nat):Int))),(29,.v (.int .i32 ((ah:Nat):Int))),(31,.p 5 0),(35,.v (.pointer bU))]) bP (qcH (ai.at_ 3).null (qby (ai.at_ 3)) e254_3 _) (fun _=>(MvF.text _ _).and (MvF.is _)) Tryz.call119 fun bU iL _ _ eo gO=>?_
         clear bP
         refine qab ?_
         exact ⟨bU,_,fun w F h_=>⟨(eo _ _ h_).1,(eo _ _ h_).2⟩,gO.pk (env':=[(2,.v (.bool false)),(7,.p 0 0),(8,.v (.int .i16 v)),(9,.v (.bool (decide (v ≥ 3)))),(10,.p 1 0),(19,.v (.slice (some ⟨ac,0,none⟩) ((lst (T.at_ 7)).length) af)),(20,.v (.int .i32 (((lst (T.at_ 7)).length:Nat):Int))),(21,.v (.int .i32 ((ae:Nat):Int))),(23,.p 3 0),(27,.v (.slice (some ⟨ag,0,none⟩) ((lst (ab.at_ 2)).length) al)),(28,.v (.int .i32 (((lst (ab.at_ 2)).length:Nat):Int))),(29,.v (.int .i32 ((ah:Nat):Int))),(31,.p 5 0),(35,.v (.pointer bU))])⟩
        have ep:=aQ.cast (t:=(if (ai.at_ 3).null = true then be 2 (-1) else be 2 (qby (ai.at_ 3)).length ++ (qby (ai.at_ 3))) ++ bT) (by rw [if_neg (by rw [bO]; decide)])
        clear aQ
        refine wp_seq (qbA [(2,.v (.bool false)),(7,.p 0 0),(8,.v (.int .i16 v)),(9,.v (.bool (decide (v ≥ 3)))),(10,.p 1 0),(19,.v (.slice (some ⟨ac,0,none⟩) ((lst (T.at_ 7)).length) af)),(20,.v (.int .i32 (((lst (T.at_ 7)).length:Nat):Int))),(21,.v (.int .i32 ((ae:Nat):Int))),(23,.p 3 0),(27,.v (.slice (some ⟨ag,0,none⟩) ((lst (ab.at_ 2)).length) al)),(28,.v (.int .i32 (((lst (ab.at_ 2)).length:Nat):Int))),(29,.v (.int .i32 ((ah:Nat):Int))),(31,.p 5 0),(217,.v (.bool false))] ep fun _ bQ=>qab ?_)
        clear ep
        refine qau bQ.env_ (b:=false) kz (rfl) ?_
        refine qlL (d:=219) (fun bV=>[(2,.v (.bool false)),(7,.p 0 0),(8,.v (.int .i16 v)),(9,.v (.bool (decide (v ≥ 3)))),(10,.p 1 0),(19,.v (.slice (some ⟨ac,0,none⟩) ((lst (T.at_ 7)).length) af)),(20,.v (.int .i32 (((lst (T.at_ 7)).length:Nat):Int))),(21,.v (.int .i32 ((ae:Nat):Int))),(23,.p 3 0),(27,.v (.slice (some ⟨ag,0,none⟩) ((lst (ab.at_ 2)).length) al)),(28,.v (.int .i32 (((lst (ab.at_ 2)).length:Nat):Int))),(29,.v (.int .i32 ((ah:Nat):Int))),(31,.p 5 0),(35,.v (.pointer bV))]) bQ (qfO (ai.at_ 3).null (qby (ai.at_ 3)) e254_3 _) (fun _=>(MvF.text _ _).and (MvF.is _)) Tryz.call121 fun bV iM _ _ eu gP=>?_
        clear bQ
        refine qab ?_
        exact ⟨bV,_,fun w F h_=>⟨(eu _ _ h_).1,(eu _ _ h_).2⟩,gP.pk (env':=[(2,.v (.bool false)),(7,.p 0 0),(8,.v (.int .i16 v)),(9,.v (.bool (decide (v ≥ 3)))),(10,.p 1 0),(19,.v (.slice (some ⟨ac,0,none⟩) ((lst (T.at_ 7)).length) af)),(20,.v (.int .i32 (((lst (T.at_ 7)).length:Nat):Int))),(21,.v (.int .i32 ((ae:Nat):Int))),(23,.p 3 0),(27,.v (.slice (some ⟨ag,0,none⟩) ((lst (ab.at_ 2)).length) al)),(28,.v (.int .i32 (((lst (ab.at_ 2)).length:Nat):Int))),(29,.v (.int .i32 ((ah:Nat):Int))),(31,.p 5 0),(35,.v (.pointer bV))])⟩
       rintro _ _ ⟨aP,iq,aD,ev⟩
       refine qab (qcW [⟨bv,0,[.int .i16 v,.string (bs (T.at_ 0).S),.string (bs (T.at_ 1).S),.int .i64 (IntKind.i64.wrap (T.at_ 2).N),.int .i16 (IntKind.i16.wrap (T.at_ 3).N),.int .i32 ap.n,.string ar.s,.pointer ak.A,.slice none 0 0,.map none],true⟩,qbo ac 19 (.agg #[.string ByteArray.empty,.int .u8 0,.int .u8 0,.int .u8 0,.int .u8 0,.int .u8 0,.int .u8 0,.int .u8 0,.int .u8 0,.int .u8 0,.int .u8 0,.int .u8 0,.int .u8 0,.int .u8 0,.int .u8 0,.int .u8 0,.int .u8 0,.slice none 0 0,.map none]) ((lst (T.at_ 7)).length) (ae + 1),⟨ac,ae * 19,[.string ao.s,qad (aa.o.getD 0 0),qad (aa.o.getD 1 0),qad (aa.o.getD 2 0),qad (aa.o.getD 3 0),qad (aa.o.getD 4 0),qad (aa.o.getD 5 0),qad (aa.o.getD 6 0),qad (aa.o.getD 7 0),qad (aa.o.getD 8 0),qad (aa.o.getD 9 0),qad (aa.o.getD 10 0),qad (aa.o.getD 11 0),qad (aa.o.getD 12 0),qad (aa.o.getD 13 0),qad (aa.o.getD 14 0),qad (aa.o.getD 15 0),.slice none 0 0,.map none],true⟩,qbo ag 5 (.agg #[.int .i32 0,.int .i64 0,.int .i32 0,.pointer none,.map none]) ((lst (ab.at_ 2)).length) (ah + 1),⟨ag,ah * 5,[.int .i32 (IntKind.i32.wrap (ai.at_ 0).N),.int .i64 (IntKind.i64.wrap (ai.at_ 1).N),.int .i32 aE.n,.pointer aP,.map none],true⟩] 4 [(2,.v (.bool false)),(7,.p 0 0),(8,.v (.int .i16 v)),(9,.v (.bool (decide (v ≥ 3)))),(10,.p 1 0),(19,.v (.slice (some ⟨ac,0,none⟩) ((lst (T.at_ 7)).length) af)),(20,.v (.int .i32 (((lst (T.at_ 7)).length:Nat):Int))),(21,.v (.int .i32 ((ae:Nat):Int))),(23,.p 3 0),(27,.v (.slice (some ⟨ag,0,none⟩) ((lst (ab.at_ 2)).length) al)),(28,.v (.int .i32 (((lst (ab.at_ 2)).length:Nat):Int))),(29,.v (.int .i32 ((ah:Nat):Int))),(31,.p 5 0)] ev fun _ _ ew=>?_)
       clear ev
       refine qab ?_
       have ey:=ew.cast dN
       clear ew
       refine qcM (Mid:=fun a_ w_=>∃ (bW:Option Nat) (aZ:List (Int × Bs)) (P':qco),(∀ w F,P' w F → iq w F ∧ (MapR w F bW aZ ∧ aZ.length ≤ 1000000 ∧ ∀ x ∈ aZ,x.2.length < 4294967296) ∧ ((decide (v ≥ 3)) = true → aZ = ai.U) ∧ ((decide (v ≥ 3)) = false → aZ = [])) ∧ RS w (fun b o=>b = bv ∧ o < 10) F 250 bf [⟨bv,0,[.int .i16 v,.string (bs (T.at_ 0).S),.string (bs (T.at_ 1).S),.int .i64 (IntKind.i64.wrap (T.at_ 2).N),.int .i16 (IntKind.i16.wrap (T.at_ 3).N),.int .i32 ap.n,.string ar.s,.pointer ak.A,.slice none 0 0,.map none],true⟩,qbo ac 19 (.agg #[.string ByteArray.empty,.int .u8 0,.int .u8 0,.int .u8 0,.int .u8 0,.int .u8 0,.int .u8 0,.int .u8 0,.int .u8 0,.int .u8 0,.int .u8 0,.int .u8 0,.int .u8 0,.int .u8 0,.int .u8 0,.int .u8 0,.int .u8 0,.slice none 0 0,.map none]) ((lst (T.at_ 7)).length) (ae + 1),⟨ac,ae * 19,[.string ao.s,qad (aa.o.getD 0 0),qad (aa.o.getD 1 0),qad (aa.o.getD 2 0),qad (aa.o.getD 3 0),qad (aa.o.getD 4 0),qad (aa.o.getD 5 0),qad (aa.o.getD 6 0),qad (aa.o.getD 7 0),qad (aa.o.getD 8 0),qad (aa.o.getD 9 0),qad (aa.o.getD 10 0),qad (aa.o.getD 11 0),qad (aa.o.getD 12 0),qad (aa.o.getD 13 0),qad (aa.o.getD 14 0),qad (aa.o.getD 15 0),.slice none 0 0,.map none],true⟩,qbo ag 5 (.agg #[.int .i32 0,.int .i64 0,.int .i32 0,.pointer none,.map none]) ((lst (ab.at_ 2)).length) (ah + 1),⟨ag,ah * 5,[.int .i32 (IntKind.i32.wrap (ai.at_ 0).N),.int .i64 (IntKind.i64.wrap (ai.at_ 1).N),.int .i32 aE.n,.pointer aP,.map bW],true⟩] [(2,.v (.bool false)),(7,.p 0 0),(8,.v (.int .i16 v)),(9,.v (.bool (decide (v ≥ 3)))),(10,.p 1 0),(19,.v (.slice (some ⟨ac,0,none⟩) ((lst (T.at_ 7)).length) af)),(20,.v (.int .i32 (((lst (T.at_ 7)).length:Nat):Int))),(21,.v (.int .i32 ((ae:Nat):Int))),(23,.p 3 0),(27,.v (.slice (some ⟨ag,0,none⟩) ((lst (ab.at_ 2)).length) al)),(28,.v (.int .i32 (((lst (ab.at_ 2)).length:Nat):Int))),(29,.v (.int .i32 ((ah:Nat):Int)))] P' bL a_ w_) ?_ ?_
       ·
        refine wp_seq (qbA [(2,.v (.bool false)),(7,.p 0 0),(8,.v (.int .i16 v)),(9,.v (.bool (decide (v ≥ 3)))),(10,.p 1 0),(19,.v (.slice (some ⟨ac,0,none⟩) ((lst (T.at_ 7)).length) af)),(20,.v (.int .i32 (((lst (T.at_ 7)).length:Nat):Int))),(21,.v (.int .i32 ((ae:Nat):Int))),(23,.p 3 0),(27,.v (.slice (some ⟨ag,0,none⟩) ((lst (ab.at_ 2)).length) al)),(28,.v (.int .i32 (((lst (ab.at_ 2)).length:Nat):Int))),(29,.v (.int .i32 ((ah:Nat):Int))),(31,.p 5 0),(224,.v (.bool (decide (v ≥ 3))))] ey fun _ aR=>qab ?_)
        clear ey
        refine qay aR.env_ (b:=decide (v ≥ 3)) kz (fun aS=>?_) (fun aS=>?_)
        ·
         have ez:=aR.cast (t:=((uv ai.U.length) ++ (qbx ai.U)) ++ bL) (by rw [if_pos aS])
         clear aR
         refine qas [0,1,2,3,4] kz ?_
         refine qc8 [0] [1,2,3,4] [(2,.v (.bool false)),(7,.p 0 0),(8,.v (.int .i16 v)),(9,.v (.bool (decide (v ≥ 3)))),(10,.p 1 0),(19,.v (.slice (some ⟨ac,0,none⟩) ((lst (T.at_ 7)).length) af)),(20,.v (.int .i32 (((lst (T.at_ 7)).length:Nat):Int))),(21,.v (.int .i32 ((ae:Nat):Int))),(23,.p 3 0),(27,.v (.slice (some ⟨ag,0,none⟩) ((lst (ab.at_ 2)).length) al)),(28,.v (.int .i32 (((lst (ab.at_ 2)).length:Nat):Int))),(29,.v (.int .i32 ((ah:Nat):Int))),(225,.p 5 0)] ez fun _ eB=>?_
         clear ez
         refine qam (qgE (d:=226) eB (qlR ai.U e254_U (qfp e254r) _) (fun _=>MvF.tags _ _) Tryz.call130 fun fA iN _ _ eC eD=>?_)
         clear eB
         refine qc8 [2,3] [4] [(2,.v (.bool false)),(7,.p 0 0),(8,.v (.int .i16 v)),(9,.v (.bool (decide (v ≥ 3)))),(10,.p 1 0),(19,.v (.slice (some ⟨ac,0,none⟩) ((lst (T.at_ 7)).length) af)),(20,.v (.int .i32 (((lst (T.at_ 7)).length:Nat):Int))),(21,.v (.int .i32 ((ae:Nat):Int))),(23,.p 3 0),(27,.v (.slice (some ⟨ag,0,none⟩) ((lst (ab.at_ 2)).length) al)),(28,.v (.int .i32 (((lst (ab.at_ 2)).length:Nat):Int))),(29,.v (.int .i32 ((ah:Nat):Int))),(226,.v (.agg #[.map fA])),(228,.p 5 4)] eD fun _ eE=>?_
         clear eD
         refine qam (qfq [⟨bv,0,[.int .i16 v,.string (bs (T.at_ 0).S),.string (bs (T.at_ 1).S),.int .i64 (IntKind.i64.wrap (T.at_ 2).N),.int .i16 (IntKind.i16.wrap (T.at_ 3).N),.int .i32 ap.n,.string ar.s,.pointer ak.A,.slice none 0 0,.map none],true⟩,qbo ac 19 (.agg #[.string ByteArray.empty,.int .u8 0,.int .u8 0,.int .u8 0,.int .u8 0,.int .u8 0,.int .u8 0,.int .u8 0,.int .u8 0,.int .u8 0,.int .u8 0,.int .u8 0,.int .u8 0,.int .u8 0,.int .u8 0,.int .u8 0,.int .u8 0,.slice none 0 0,.map none]) ((lst (T.at_ 7)).length) (ae + 1),⟨ac,ae * 19,[.string ao.s,qad (aa.o.getD 0 0),qad (aa.o.getD 1 0),qad (aa.o.getD 2 0),qad (aa.o.getD 3 0),qad (aa.o.getD 4 0),qad (aa.o.getD 5 0),qad (aa.o.getD 6 0),qad (aa.o.getD 7 0),qad (aa.o.getD 8 0),qad (aa.o.getD 9 0),qad (aa.o.getD 10 0),qad (aa.o.getD 11 0),qad (aa.o.getD 12 0),qad (aa.o.getD 13 0),qad (aa.o.getD 14 0),qad (aa.o.getD 15 0),.slice none 0 0,.map none],true⟩,qbo ag 5 (.agg #[.int .i32 0,.int .i64 0,.int .i32 0,.pointer none,.map none]) ((lst (ab.at_ 2)).length) (ah + 1),⟨ag,ah * 5,[.int .i32 (IntKind.i32.wrap (ai.at_ 0).N),.int .i64 (IntKind.i64.wrap (ai.at_ 1).N),.int .i32 aE.n,.pointer aP,.map fA],true⟩] 4 eE fun _ eF=>?_)
         clear eE
         refine qaf ?_
         have gQ:=eF.pk (env':=[(2,.v (.bool false)),(7,.p 0 0),(8,.v (.int .i16 v)),(9,.v (.bool (decide (v ≥ 3)))),(10,.p 1 0),(19,.v (.slice (some ⟨ac,0,none⟩) ((lst (T.at_ 7)).length) af)),(20,.v (.int .i32 (((lst (T.at_ 7)).length:Nat):Int))),(21,.v (.int .i32 ((ae:Nat):Int))),(23,.p 3 0),(27,.v (.slice (some ⟨ag,0,none⟩) ((lst (ab.at_ 2)).length) al)),(28,.v (.int .i32 (((lst (ab.at_ 2)).length:Nat):Int))),(29,.v (.int .i32 ((ah:Nat):Int)))])
         clear eF
         refine qab ?_
         exact ⟨fA,ai.U,_,fun w F h_=>⟨(eC _ _ h_).1,⟨(eC _ _ h_).2,e254_U.2.1,e254_U.2.2⟩,⟨fun _=>rfl,(fun e_=>by rw [aS] at e_; cases e_)⟩⟩,gQ.pk (env':=[(2,.v (.bool false)),(7,.p 0 0),(8,.v (.int .i16 v)),(9,.v (.bool (decide (v ≥ 3)))),(10,.p 1 0),(19,.v (.slice (some ⟨ac,0,none⟩) ((lst (T.at_ 7)).length) af)),(20,.v (.int .i32 (((lst (T.at_ 7)).length:Nat):Int))),(21,.v (.int .i32 ((ae:Nat):Int))),(23,.p 3 0),(27,.v (.slice (some ⟨ag,0,none⟩) ((lst (ab.at_ 2)).length) al)),(28,.v (.int .i32 (((lst (ab.at_ 2)).length:Nat):Int))),(29,.v (.int .i32 ((ah:Nat):Int)))])⟩
        have eG:=aR.cast (t:=[] ++ bL) (by rw [if_neg (by rw [aS]; decide)])
        clear aR
        have gR:=eG.cast (t:=bL) rfl
        clear eG
        refine wp_skip (qab ?_)
        exact ⟨none,[],_,fun w F h_=>⟨h_,⟨MapR.nil _ _,Nat.zero_le _,fun _ h=>by cases h⟩,⟨(fun e_=>by rw [aS] at e_; cases e_),fun _=>rfl⟩⟩,gR.pk (env':=[(2,.v (.bool false)),(7,.p 0 0),(8,.v (.int .i16 v)),(9,.v (.bool (decide (v ≥ 3)))),(10,.p 1 0),(19,.v (.slice (some ⟨ac,0,none⟩) ((lst (T.at_ 7)).length) af)),(20,.v (.int .i32 (((lst (T.at_ 7)).length:Nat):Int))),(21,.v (.int .i32 ((ae:Nat):Int))),(23,.p 3 0),(27,.v (.slice (some ⟨ag,0,none⟩) ((lst (ab.at_ 2)).length) al)),(28,.v (.int .i32 (((lst (ab.at_ 2)).length:Nat):Int))),(29,.v (.int .i32 ((ah:Nat):Int)))])⟩
       rintro _ _ ⟨bW,aZ,iO,aw,eH⟩
       refine qaF (qab (qbA [(2,.v (.bool false)),(7,.p 0 0),(8,.v (.int .i16 v)),(9,.v (.bool (decide (v ≥ 3)))),(10,.p 1 0),(19,.v (.slice (some ⟨ac,0,none⟩) ((lst (T.at_ 7)).length) af)),(20,.v (.int .i32 (((lst (T.at_ 7)).length:Nat):Int))),(21,.v (.int .i32 ((ae:Nat):Int))),(23,.p 3 0),(27,.v (.slice (some ⟨ag,0,none⟩) ((lst (ab.at_ 2)).length) al)),(28,.v (.int .i32 (((lst (ab.at_ 2)).length:Nat):Int))),(29,.v (.int .i32 (IntKind.i32.wrap (((ah:Nat):Int) + 1))))] eH fun _ eI=>?_))
       clear eH
       refine qab ?_
       have gS:=(eI.envEq (env':=[(2,.v (.bool false)),(7,.p 0 0),(8,.v (.int .i16 v)),(9,.v (.bool (decide (v ≥ 3)))),(10,.p 1 0),(19,.v (.slice (some ⟨ac,0,none⟩) ((lst (T.at_ 7)).length) af)),(20,.v (.int .i32 (((lst (T.at_ 7)).length:Nat):Int))),(21,.v (.int .i32 ((ae:Nat):Int))),(23,.p 3 0),(27,.v (.slice (some ⟨ag,0,none⟩) ((lst (ab.at_ 2)).length) al)),(28,.v (.int .i32 (((lst (ab.at_ 2)).length:Nat):Int))),(29,.v (.int .i32 ((ah + 1:Nat):Int)))]) (by rw [qin (by have:=e161_2; omega)])).pk (env':=[(2,.v (.bool false)),(7,.p 0 0),(8,.v (.int .i16 v)),(9,.v (.bool (decide (v ≥ 3)))),(10,.p 1 0),(19,.v (.slice (some ⟨ac,0,none⟩) ((lst (T.at_ 7)).length) af)),(20,.v (.int .i32 (((lst (T.at_ 7)).length:Nat):Int))),(21,.v (.int .i32 ((ae:Nat):Int))),(23,.p 3 0),(27,.v (.slice (some ⟨ag,0,none⟩) ((lst (ab.at_ 2)).length) al)),(28,.v (.int .i32 (((lst (ab.at_ 2)).length:Nat):Int))),(29,.v (.int .i32 ((ah + 1:Nat):Int)))])
       clear eI
       exact (RS.thing (tb:=[⟨bv,0,[.int .i16 v,.string (bs (T.at_ 0).S),.string (bs (T.at_ 1).S),.int .i64 (IntKind.i64.wrap (T.at_ 2).N),.int .i16 (IntKind.i16.wrap (T.at_ 3).N),.int .i32 ap.n,.string ar.s,.pointer ak.A,.slice none 0 0,.map none],true⟩,qbo ac 19 (.agg #[.string ByteArray.empty,.int .u8 0,.int .u8 0,.int .u8 0,.int .u8 0,.int .u8 0,.int .u8 0,.int .u8 0,.int .u8 0,.int .u8 0,.int .u8 0,.int .u8 0,.int .u8 0,.int .u8 0,.int .u8 0,.int .u8 0,.int .u8 0,.slice none 0 0,.map none]) ((lst (T.at_ 7)).length) (ae + 1),⟨ac,ae * 19,[.string ao.s,qad (aa.o.getD 0 0),qad (aa.o.getD 1 0),qad (aa.o.getD 2 0),qad (aa.o.getD 3 0),qad (aa.o.getD 4 0),qad (aa.o.getD 5 0),qad (aa.o.getD 6 0),qad (aa.o.getD 7 0),qad (aa.o.getD 8 0),qad (aa.o.getD 9 0),qad (aa.o.getD 10 0),qad (aa.o.getD 11 0),qad (aa.o.getD 12 0),qad (aa.o.getD 13 0),qad (aa.o.getD 14 0),qad (aa.o.getD 15 0),.slice none 0 0,.map none],true⟩]) (z:=.agg #[.int .i32 0,.int .i64 0,.int .i32 0,.pointer none,.map none]) (D:=(dvP bW aZ [dvN (IntKind.i32.wrap (ai.at_ 0).N),dvN (IntKind.i64.wrap (ai.at_ 1).N),aE,dvT aP (bs (qby (ai.at_ 3)))])) (gS.cast dM) hg_g235 bK qa6 bJ rfl (fun w F h_=>⟨(dK _ _ (bk _ _ (aD _ _ (aw _ _ h_).1).1).1).1,(dK _ _ (bk _ _ (aD _ _ (aw _ _ h_).1).1).1).2,⟨(trivial),(trivial),((bk _ _ (aD _ _ (aw _ _ h_).1).1).2.1),(⟨(aD _ _ (aw _ _ h_).1).2.1,by show ByteArray.size (bs _) ≤ 1000000; rw [qcS]; exact Nat.le_trans e254_3 (by decide)⟩),(aw _ _ h_).2.1.1,(aw _ _ h_).2.1.2.1,(aw _ _ h_).2.1.2.2,trivial⟩,⟨(rfl),(rfl),((bk _ _ (aD _ _ (aw _ _ h_).1).1).2.2),(⟨rfl,(aD _ _ (aw _ _ h_).1).2.2⟩),(aw _ _ h_).2.2,trivial⟩⟩) kz)
      refine wp_seq (wp_seq (qbA [(2,.v (.bool false)),(7,.p 0 0),(8,.v (.int .i16 v)),(9,.v (.bool (decide (v ≥ 3)))),(10,.p 1 0),(19,.v (.slice (some ⟨ac,0,none⟩) ((lst (T.at_ 7)).length) af)),(20,.v (.int .i32 (((lst (T.at_ 7)).length:Nat):Int))),(21,.v (.int .i32 ((ae:Nat):Int))),(23,.p 3 0),(27,.v (.slice (some ⟨ag,0,none⟩) ((lst (ab.at_ 2)).length) al)),(28,.v (.int .i32 (((lst (ab.at_ 2)).length:Nat):Int))),(29,.v (.int .i32 (((lst (ab.at_ 2)).length:Nat):Int))),(187,.v (.bool (decide ((((lst (ab.at_ 2)).length:Nat):Int) < (((lst (ab.at_ 2)).length:Nat):Int)))))] dJ fun _ eJ=>qab ?_))
      clear dJ
      refine qau eJ.env_ (b:=decide ((((lst (ab.at_ 2)).length:Nat):Int) < (((lst (ab.at_ 2)).length:Nat):Int))) kz (decide_eq_false (by omega)) ?_
      refine wp_exit (qaz (qaz (qaR (qab ?_))))
      obtain ⟨ir,gT⟩:=RS.listEnd (tb:=[⟨bv,0,[.int .i16 v,.string (bs (T.at_ 0).S),.string (bs (T.at_ 1).S),.int .i64 (IntKind.i64.wrap (T.at_ 2).N),.int .i16 (IntKind.i16.wrap (T.at_ 3).N),.int .i32 ap.n,.string ar.s,.pointer ak.A,.slice none 0 0,.map none],true⟩,qbo ac 19 (.agg #[.string ByteArray.empty,.int .u8 0,.int .u8 0,.int .u8 0,.int .u8 0,.int .u8 0,.int .u8 0,.int .u8 0,.int .u8 0,.int .u8 0,.int .u8 0,.int .u8 0,.int .u8 0,.int .u8 0,.int .u8 0,.int .u8 0,.int .u8 0,.slice none 0 0,.map none]) ((lst (T.at_ 7)).length) (ae + 1),⟨ac,ae * 19,[.string ao.s,qad (aa.o.getD 0 0),qad (aa.o.getD 1 0),qad (aa.o.getD 2 0),qad (aa.o.getD 3 0),qad (aa.o.getD 4 0),qad (aa.o.getD 5 0),qad (aa.o.getD 6 0),qad (aa.o.getD 7 0),qad (aa.o.getD 8 0),qad (aa.o.getD 9 0),qad (aa.o.getD 10 0),qad (aa.o.getD 11 0),qad (aa.o.getD 12 0),qad (aa.o.getD 13 0),qad (aa.o.getD 14 0),qad (aa.o.getD 15 0),.slice none 0 0,.map none],true⟩]) (c:=al) (eJ.pk (env':=[(2,.v (.bool false)),(7,.p 0 0),(8,.v (.int .i16 v)),(9,.v (.bool (decide (v ≥ 3)))),(10,.p 1 0),(19,.v (.slice (some ⟨ac,0,none⟩) ((lst (T.at_ 7)).length) af)),(20,.v (.int .i32 (((lst (T.at_ 7)).length:Nat):Int))),(21,.v (.int .i32 ((ae:Nat):Int))),(23,.p 3 0),(27,.v (.slice (some ⟨ag,0,none⟩) ((lst (ab.at_ 2)).length) al))])) hg_g235 qa6 bJ hcap_g235 (by have:=e161_2; omega) hn_g235 kz
      exact ⟨dvL (some ⟨ag,0,none⟩) (lst (ab.at_ 2)).length al ir,_,fun w F h_=>⟨h_.1,⟨h_.2.1,Nat.le_trans e161_2 (by decide),h_.2.2.1⟩,⟨rfl,h_.2.2.2⟩⟩,gT⟩
     refine wp_skip (qab (wp_seq (qbA [(2,.v (.bool false)),(7,.p 0 0),(8,.v (.int .i16 v)),(9,.v (.bool (decide (v ≥ 3)))),(10,.p 1 0),(19,.v (.slice (some ⟨ac,0,none⟩) ((lst (T.at_ 7)).length) af)),(20,.v (.int .i32 (((lst (T.at_ 7)).length:Nat):Int))),(21,.v (.int .i32 ((ae:Nat):Int))),(23,.p 3 0),(27,.v (.slice none 0 0)),(28,.v (.int .i32 (((lst (ab.at_ 2)).length:Nat):Int))),(29,.v (.int .i32 0))] aM fun _ eK=>?_)))
     clear aM
     refine qab (wp_block (qik (wp_seq (wp_seq (qbA [(2,.v (.bool false)),(7,.p 0 0),(8,.v (.int .i16 v)),(9,.v (.bool (decide (v ≥ 3)))),(10,.p 1 0),(19,.v (.slice (some ⟨ac,0,none⟩) ((lst (T.at_ 7)).length) af)),(20,.v (.int .i32 (((lst (T.at_ 7)).length:Nat):Int))),(21,.v (.int .i32 ((ae:Nat):Int))),(23,.p 3 0),(27,.v (.slice none 0 0)),(28,.v (.int .i32 (((lst (ab.at_ 2)).length:Nat):Int))),(29,.v (.int .i32 0)),(187,.v (.bool (decide (0 < (((lst (ab.at_ 2)).length:Nat):Int)))))] eK fun _ eL=>qab ?_)))))
     clear eK
     refine qau eL.env_ (b:=decide (0 < (((lst (ab.at_ 2)).length:Nat):Int))) kz (decide_eq_false (by have h_:=of_decide_eq_false bj; omega)) ?_
     refine wp_exit (qaz (qaz (qaR (qab ?_))))
     have hz_:(lst (ab.at_ 2)).length = 0:=by have h_:=of_decide_eq_false bj; omega
     exact ⟨dvL none 0 0 (fun _=>dv0),_,fun w F h_=>⟨h_,⟨Slots.nil _ _ _ _,Nat.zero_le _,fun _ h=>absurd h (Nat.not_lt_zero _)⟩,⟨hz_.symm,fun _ h=>absurd h (Nat.not_lt_zero _)⟩⟩,(eL.cast (t:=aH) (by rw [List.eq_nil_of_length_eq_zero hz_]; rfl)).pk (env':=[(2,.v (.bool false)),(7,.p 0 0),(8,.v (.int .i16 v)),(9,.v (.bool (decide (v ≥ 3)))),(10,.p 1 0),(19,.v (.slice (some ⟨ac,0,none⟩) ((lst (T.at_ 7)).length) af)),(20,.v (.int .i32 (((lst (T.at_ 7)).length:Nat):Int))),(21,.v (.int .i32 ((ae:Nat):Int))),(23,.p 3 0),(27,.v (.slice none 0 0))])⟩
    rintro _ _ ⟨am,iu,ay,eM⟩
    refine wp_seq (qbA [(2,.v (.bool false)),(7,.p 0 0),(8,.v (.int .i16 v)),(9,.v (.bool (decide (v ≥ 3)))),(10,.p 1 0),(19,.v (.slice (some ⟨ac,0,none⟩) ((lst (T.at_ 7)).length) af)),(20,.v (.int .i32 (((lst (T.at_ 7)).length:Nat):Int))),(21,.v (.int .i32 ((ae:Nat):Int))),(23,.p 3 0),(26,.v (.slice am.A am.l am.c))] eM fun _ eN=>?_)
    clear eM
    refine qab (qcW [⟨bv,0,[.int .i16 v,.string (bs (T.at_ 0).S),.string (bs (T.at_ 1).S),.int .i64 (IntKind.i64.wrap (T.at_ 2).N),.int .i16 (IntKind.i16.wrap (T.at_ 3).N),.int .i32 ap.n,.string ar.s,.pointer ak.A,.slice none 0 0,.map none],true⟩,qbo ac 19 (.agg #[.string ByteArray.empty,.int .u8 0,.int .u8 0,.int .u8 0,.int .u8 0,.int .u8 0,.int .u8 0,.int .u8 0,.int .u8 0,.int .u8 0,.int .u8 0,.int .u8 0,.int .u8 0,.int .u8 0,.int .u8 0,.int .u8 0,.int .u8 0,.slice none 0 0,.map none]) ((lst (T.at_ 7)).length) (ae + 1),⟨ac,ae * 19,[.string ao.s,qad (aa.o.getD 0 0),qad (aa.o.getD 1 0),qad (aa.o.getD 2 0),qad (aa.o.getD 3 0),qad (aa.o.getD 4 0),qad (aa.o.getD 5 0),qad (aa.o.getD 6 0),qad (aa.o.getD 7 0),qad (aa.o.getD 8 0),qad (aa.o.getD 9 0),qad (aa.o.getD 10 0),qad (aa.o.getD 11 0),qad (aa.o.getD 12 0),qad (aa.o.getD 13 0),qad (aa.o.getD 14 0),qad (aa.o.getD 15 0),.slice am.A am.l am.c,.map none],true⟩] 2 [(2,.v (.bool false)),(7,.p 0 0),(8,.v (.int .i16 v)),(9,.v (.bool (decide (v ≥ 3)))),(10,.p 1 0),(19,.v (.slice (some ⟨ac,0,none⟩) ((lst (T.at_ 7)).length) af)),(20,.v (.int .i32 (((lst (T.at_ 7)).length:Nat):Int))),(21,.v (.int .i32 ((ae:Nat):Int))),(23,.p 3 0)] eN fun _ _ eO=>?_)
    clear eN
    refine qab ?_
    have eP:=eO.cast cP
    clear eO
    refine qcM (Mid:=fun a_ w_=>∃ (bX:Option Nat) (ba:List (Int × Bs)) (P':qco),(∀ w F,P' w F → iu w F ∧ (MapR w F bX ba ∧ ba.length ≤ 1000000 ∧ ∀ x ∈ ba,x.2.length < 4294967296) ∧ ((decide (v ≥ 3)) = true → ba = ab.U) ∧ ((decide (v ≥ 3)) = false → ba = [])) ∧ RS w (fun b o=>b = bv ∧ o < 10) F 250 bf [⟨bv,0,[.int .i16 v,.string (bs (T.at_ 0).S),.string (bs (T.at_ 1).S),.int .i64 (IntKind.i64.wrap (T.at_ 2).N),.int .i16 (IntKind.i16.wrap (T.at_ 3).N),.int .i32 ap.n,.string ar.s,.pointer ak.A,.slice none 0 0,.map none],true⟩,qbo ac 19 (.agg #[.string ByteArray.empty,.int .u8 0,.int .u8 0,.int .u8 0,.int .u8 0,.int .u8 0,.int .u8 0,.int .u8 0,.int .u8 0,.int .u8 0,.int .u8 0,.int .u8 0,.int .u8 0,.int .u8 0,.int .u8 0,.int .u8 0,.int .u8 0,.slice none 0 0,.map none]) ((lst (T.at_ 7)).length) (ae + 1),⟨ac,ae * 19,[.string ao.s,qad (aa.o.getD 0 0),qad (aa.o.getD 1 0),qad (aa.o.getD 2 0),qad (aa.o.getD 3 0),qad (aa.o.getD 4 0),qad (aa.o.getD 5 0),qad (aa.o.getD 6 0),qad (aa.o.getD 7 0),qad (aa.o.getD 8 0),qad (aa.o.getD 9 0),qad (aa.o.getD 10 0),qad (aa.o.getD 11 0),qad (aa.o.getD 12 0),qad (aa.o.getD 13 0),qad (aa.o.getD 14 0),qad (aa.o.getD 15 0),.slice am.A am.l am.c,.map bX],true⟩] [(2,.v (.bool false)),(7,.p 0 0),(8,.v (.int .i16 v)),(9,.v (.bool (decide (v ≥ 3)))),(10,.p 1 0),(19,.v (.slice (some ⟨ac,0,none⟩) ((lst (T.at_ 7)).length) af)),(20,.v (.int .i32 (((lst (T.at_ 7)).length:Nat):Int))),(21,.v (.int .i32 ((ae:Nat):Int)))] P' bC a_ w_) ?_ ?_
    ·
     refine wp_seq (qbA [(2,.v (.bool false)),(7,.p 0 0),(8,.v (.int .i16 v)),(9,.v (.bool (decide (v ≥ 3)))),(10,.p 1 0),(19,.v (.slice (some ⟨ac,0,none⟩) ((lst (T.at_ 7)).length) af)),(20,.v (.int .i32 (((lst (T.at_ 7)).length:Nat):Int))),(21,.v (.int .i32 ((ae:Nat):Int))),(23,.p 3 0),(234,.v (.bool (decide (v ≥ 3))))] eP fun _ aT=>qab ?_)
     clear eP
     refine qay aT.env_ (b:=decide (v ≥ 3)) kz (fun aU=>?_) (fun aU=>?_)
     ·
      have eQ:=aT.cast (t:=((uv ab.U.length) ++ (qbx ab.U)) ++ bC) (by rw [if_pos aU])
      clear aT
      refine qas [0,1,2,3,4] kz ?_
      refine qc8 [0] [1,2,3,4] [(2,.v (.bool false)),(7,.p 0 0),(8,.v (.int .i16 v)),(9,.v (.bool (decide (v ≥ 3)))),(10,.p 1 0),(19,.v (.slice (some ⟨ac,0,none⟩) ((lst (T.at_ 7)).length) af)),(20,.v (.int .i32 (((lst (T.at_ 7)).length:Nat):Int))),(21,.v (.int .i32 ((ae:Nat):Int))),(235,.p 3 0)] eQ fun _ eR=>?_
      clear eQ
      refine qam (qgE (d:=236) eR (qlR ab.U e161_U (qfp e161r) _) (fun _=>MvF.tags _ _) Tryz.call130 fun fB iP _ _ eS eT=>?_)
      clear eR
      refine qc8 [2,3] [4] [(2,.v (.bool false)),(7,.p 0 0),(8,.v (.int .i16 v)),(9,.v (.bool (decide (v ≥ 3)))),(10,.p 1 0),(19,.v (.slice (some ⟨ac,0,none⟩) ((lst (T.at_ 7)).length) af)),(20,.v (.int .i32 (((lst (T.at_ 7)).length:Nat):Int))),(21,.v (.int .i32 ((ae:Nat):Int))),(236,.v (.agg #[.map fB])),(238,.p 3 18)] eT fun _ eU=>?_
      clear eT
      refine qam (qfq [⟨bv,0,[.int .i16 v,.string (bs (T.at_ 0).S),.string (bs (T.at_ 1).S),.int .i64 (IntKind.i64.wrap (T.at_ 2).N),.int .i16 (IntKind.i16.wrap (T.at_ 3).N),.int .i32 ap.n,.string ar.s,.pointer ak.A,.slice none 0 0,.map none],true⟩,qbo ac 19 (.agg #[.string ByteArray.empty,.int .u8 0,.int .u8 0,.int .u8 0,.int .u8 0,.int .u8 0,.int .u8 0,.int .u8 0,.int .u8 0,.int .u8 0,.int .u8 0,.int .u8 0,.int .u8 0,.int .u8 0,.int .u8 0,.int .u8 0,.int .u8 0,.slice none 0 0,.map none]) ((lst (T.at_ 7)).length) (ae + 1),⟨ac,ae * 19,[.string ao.s,qad (aa.o.getD 0 0),qad (aa.o.getD 1 0),qad (aa.o.getD 2 0),qad (aa.o.getD 3 0),qad (aa.o.getD 4 0),qad (aa.o.getD 5 0),qad (aa.o.getD 6 0),qad (aa.o.getD 7 0),qad (aa.o.getD 8 0),qad (aa.o.getD 9 0),qad (aa.o.getD 10 0),qad (aa.o.getD 11 0),qad (aa.o.getD 12 0),qad (aa.o.getD 13 0),qad (aa.o.getD 14 0),qad (aa.o.getD 15 0),.slice am.A am.l am.c,.map fB],true⟩] 2 eU fun _ eV=>?_)
      clear eU
      refine qaf ?_
      have gU:=eV.pk (env':=[(2,.v (.bool false)),(7,.p 0 0),(8,.v (.int .i16 v)),(9,.v (.bool (decide (v ≥ 3)))),(10,.p 1 0),(19,.v (.slice (some ⟨ac,0,none⟩) ((lst (T.at_ 7)).length) af)),(20,.v (.int .i32 (((lst (T.at_ 7)).length:Nat):Int))),(21,.v (.int .i32 ((ae:Nat):Int)))])
      clear eV
      refine qab ?_
      exact ⟨fB,ab.U,_,fun w F h_=>⟨(eS _ _ h_).1,⟨(eS _ _ h_).2,e161_U.2.1,e161_U.2.2⟩,⟨fun _=>rfl,(fun e_=>by rw [aU] at e_; cases e_)⟩⟩,gU.pk (env':=[(2,.v (.bool false)),(7,.p 0 0),(8,.v (.int .i16 v)),(9,.v (.bool (decide (v ≥ 3)))),(10,.p 1 0),(19,.v (.slice (some ⟨ac,0,none⟩) ((lst (T.at_ 7)).length) af)),(20,.v (.int .i32 (((lst (T.at_ 7)).length:Nat):Int))),(21,.v (.int .i32 ((ae:Nat):Int)))])⟩
     have eW:=aT.cast (t:=[] ++ bC) (by rw [if_neg (by rw [aU]; decide)])
     clear aT
     have gV:=eW.cast (t:=bC) rfl
     clear eW
     refine wp_skip (qab ?_)
     exact ⟨none,[],_,fun w F h_=>⟨h_,⟨MapR.nil _ _,Nat.zero_le _,fun _ h=>by cases h⟩,⟨(fun e_=>by rw [aU] at e_; cases e_),fun _=>rfl⟩⟩,gV.pk (env':=[(2,.v (.bool false)),(7,.p 0 0),(8,.v (.int .i16 v)),(9,.v (.bool (decide (v ≥ 3)))),(10,.p 1 0),(19,.v (.slice (some ⟨ac,0,none⟩) ((lst (T.at_ 7)).length) af)),(20,.v (.int .i32 (((lst (T.at_ 7)).length:Nat):Int))),(21,.v (.int .i32 ((ae:Nat):Int)))])⟩
    rintro _ _ ⟨bX,ba,iQ,au,eX⟩
    refine qaF (qab (qbA [(2,.v (.bool false)),(7,.p 0 0),(8,.v (.int .i16 v)),(9,.v (.bool (decide (v ≥ 3)))),(10,.p 1 0),(19,.v (.slice (some ⟨ac,0,none⟩) ((lst (T.at_ 7)).length) af)),(20,.v (.int .i32 (((lst (T.at_ 7)).length:Nat):Int))),(21,.v (.int .i32 (IntKind.i32.wrap (((ae:Nat):Int) + 1))))] eX fun _ eY=>?_))
    clear eX
    refine qab ?_
    have gW:=(eY.envEq (env':=[(2,.v (.bool false)),(7,.p 0 0),(8,.v (.int .i16 v)),(9,.v (.bool (decide (v ≥ 3)))),(10,.p 1 0),(19,.v (.slice (some ⟨ac,0,none⟩) ((lst (T.at_ 7)).length) af)),(20,.v (.int .i32 (((lst (T.at_ 7)).length:Nat):Int))),(21,.v (.int .i32 ((ae + 1:Nat):Int)))]) (by rw [qin (by have:=e32_7; omega)])).pk (env':=[(2,.v (.bool false)),(7,.p 0 0),(8,.v (.int .i16 v)),(9,.v (.bool (decide (v ≥ 3)))),(10,.p 1 0),(19,.v (.slice (some ⟨ac,0,none⟩) ((lst (T.at_ 7)).length) af)),(20,.v (.int .i32 (((lst (T.at_ 7)).length:Nat):Int))),(21,.v (.int .i32 ((ae + 1:Nat):Int)))])
    clear eY
    exact (RS.thing (tb:=[⟨bv,0,[.int .i16 v,.string (bs (T.at_ 0).S),.string (bs (T.at_ 1).S),.int .i64 (IntKind.i64.wrap (T.at_ 2).N),.int .i16 (IntKind.i16.wrap (T.at_ 3).N),.int .i32 ap.n,.string ar.s,.pointer ak.A,.slice none 0 0,.map none],true⟩]) (z:=.agg #[.string ByteArray.empty,.int .u8 0,.int .u8 0,.int .u8 0,.int .u8 0,.int .u8 0,.int .u8 0,.int .u8 0,.int .u8 0,.int .u8 0,.int .u8 0,.int .u8 0,.int .u8 0,.int .u8 0,.int .u8 0,.int .u8 0,.int .u8 0,.slice none 0 0,.map none]) (D:=(dvP bX ba [ao,aa,am])) (gW.cast cO) hg_g142 bB qbq bA rfl (fun w F h_=>⟨(cM _ _ (bi _ _ (aC _ _ (ay _ _ (au _ _ h_).1).1).1).1).1,(cM _ _ (bi _ _ (aC _ _ (ay _ _ (au _ _ h_).1).1).1).1).2,⟨((bi _ _ (aC _ _ (ay _ _ (au _ _ h_).1).1).1).2.1),((aC _ _ (ay _ _ (au _ _ h_).1).1).2.1),((ay _ _ (au _ _ h_).1).2.1),(au _ _ h_).2.1.1,(au _ _ h_).2.1.2.1,(au _ _ h_).2.1.2.2,trivial⟩,⟨((bi _ _ (aC _ _ (ay _ _ (au _ _ h_).1).1).1).2.2),((aC _ _ (ay _ _ (au _ _ h_).1).1).2.2),((ay _ _ (au _ _ h_).1).2.2),(au _ _ h_).2.2,trivial⟩⟩) kz)
   refine wp_seq (wp_seq (qbA [(2,.v (.bool false)),(7,.p 0 0),(8,.v (.int .i16 v)),(9,.v (.bool (decide (v ≥ 3)))),(10,.p 1 0),(19,.v (.slice (some ⟨ac,0,none⟩) ((lst (T.at_ 7)).length) af)),(20,.v (.int .i32 (((lst (T.at_ 7)).length:Nat):Int))),(21,.v (.int .i32 (((lst (T.at_ 7)).length:Nat):Int))),(134,.v (.bool (decide ((((lst (T.at_ 7)).length:Nat):Int) < (((lst (T.at_ 7)).length:Nat):Int)))))] cL fun _ eZ=>qab ?_))
   clear cL
   refine qau eZ.env_ (b:=decide ((((lst (T.at_ 7)).length:Nat):Int) < (((lst (T.at_ 7)).length:Nat):Int))) kz (decide_eq_false (by omega)) ?_
   refine wp_exit (qaz (qaz (qaR (qab ?_))))
   obtain ⟨iv,gX⟩:=RS.listEnd (tb:=[⟨bv,0,[.int .i16 v,.string (bs (T.at_ 0).S),.string (bs (T.at_ 1).S),.int .i64 (IntKind.i64.wrap (T.at_ 2).N),.int .i16 (IntKind.i16.wrap (T.at_ 3).N),.int .i32 ap.n,.string ar.s,.pointer ak.A,.slice none 0 0,.map none],true⟩]) (c:=af) (eZ.pk (env':=[(7,.p 0 0),(9,.v (.bool (decide (v ≥ 3)))),(10,.p 1 0),(19,.v (.slice (some ⟨ac,0,none⟩) ((lst (T.at_ 7)).length) af))])) hg_g142 qbq bA hcap_g142 (by have:=e32_7; omega) hn_g142 kz
   exact ⟨dvL (some ⟨ac,0,none⟩) (lst (T.at_ 7)).length af iv,_,fun w F h_=>⟨h_.1,⟨h_.2.1,Nat.le_trans e32_7 (by decide),h_.2.2.1⟩,⟨rfl,h_.2.2.2⟩⟩,gX⟩
  refine wp_skip (qab (wp_seq (qbA [(2,.v (.bool false)),(7,.p 0 0),(8,.v (.int .i16 v)),(9,.v (.bool (decide (v ≥ 3)))),(10,.p 1 0),(19,.v (.slice none 0 0)),(20,.v (.int .i32 (((lst (T.at_ 7)).length:Nat):Int))),(21,.v (.int .i32 0))] aG fun _ e9=>?_)))
  clear aG
  refine qab (wp_block (qik (wp_seq (wp_seq (qbA [(2,.v (.bool false)),(7,.p 0 0),(8,.v (.int .i16 v)),(9,.v (.bool (decide (v ≥ 3)))),(10,.p 1 0),(19,.v (.slice none 0 0)),(20,.v (.int .i32 (((lst (T.at_ 7)).length:Nat):Int))),(21,.v (.int .i32 0)),(134,.v (.bool (decide (0 < (((lst (T.at_ 7)).length:Nat):Int)))))] e9 fun _ fa=>qab ?_)))))
  clear e9
  refine qau fa.env_ (b:=decide (0 < (((lst (T.at_ 7)).length:Nat):Int))) kz (decide_eq_false (by have h_:=of_decide_eq_false bg; omega)) ?_
  refine wp_exit (qaz (qaz (qaR (qab ?_))))
  have hz_:(lst (T.at_ 7)).length = 0:=by have h_:=of_decide_eq_false bg; omega
  exact ⟨dvL none 0 0 (fun _=>dv0),_,fun w F h_=>⟨h_,⟨Slots.nil _ _ _ _,Nat.zero_le _,fun _ h=>absurd h (Nat.not_lt_zero _)⟩,⟨hz_.symm,fun _ h=>absurd h (Nat.not_lt_zero _)⟩⟩,(fa.cast (t:=bZ) (by rw [List.eq_nil_of_length_eq_zero hz_]; rfl)).pk (env':=[(7,.p 0 0),(9,.v (.bool (decide (v ≥ 3)))),(10,.p 1 0),(19,.v (.slice none 0 0))])⟩
 rintro _ _ ⟨aj,iw,az,fb⟩
 refine wp_seq (qbA [(7,.p 0 0),(9,.v (.bool (decide (v ≥ 3)))),(10,.p 1 0),(18,.v (.slice aj.A aj.l aj.c))] fb fun _ fe=>?_)
 clear fb
 refine qab (qcW [⟨bv,0,[.int .i16 v,.string (bs (T.at_ 0).S),.string (bs (T.at_ 1).S),.int .i64 (IntKind.i64.wrap (T.at_ 2).N),.int .i16 (IntKind.i16.wrap (T.at_ 3).N),.int .i32 ap.n,.string ar.s,.pointer ak.A,.slice aj.A aj.l aj.c,.map none],true⟩] 0 [(7,.p 0 0),(9,.v (.bool (decide (v ≥ 3)))),(10,.p 1 0)] fe fun _ _ ff=>?_)
 clear fe
 refine qab (wp_seq ?_)
 have fg:=ff.cast fG
 clear ff
 refine qcM (Mid:=fun a_ w_=>∃ (bY:Option Nat) (bd:List (Int × Bs)) (P':qco),(∀ w F,P' w F → iw w F ∧ (MapR w F bY bd ∧ bd.length ≤ 1000000 ∧ ∀ x ∈ bd,x.2.length < 4294967296) ∧ ((decide (v ≥ 3)) = true → bd = T.U) ∧ ((decide (v ≥ 3)) = false → bd = [])) ∧ RS w (fun b o=>b = bv ∧ o < 10) F 250 bf [⟨bv,0,[.int .i16 v,.string (bs (T.at_ 0).S),.string (bs (T.at_ 1).S),.int .i64 (IntKind.i64.wrap (T.at_ 2).N),.int .i16 (IntKind.i16.wrap (T.at_ 3).N),.int .i32 ap.n,.string ar.s,.pointer ak.A,.slice aj.A aj.l aj.c,.map bY],true⟩] [(7,.p 0 0)] P' ([]:Bs) a_ w_) ?_ ?_
 ·
  refine wp_seq (qbA [(7,.p 0 0),(10,.p 1 0),(244,.v (.bool (decide (v ≥ 3))))] fg fun _ aV=>qab ?_)
  clear fg
  refine qay aV.env_ (b:=decide (v ≥ 3)) kz (fun aW=>?_) (fun aW=>?_)
  ·
   have fh:=aV.cast (t:=((uv T.U.length) ++ (qbx T.U)) ++ ([]:Bs)) (by rw [if_pos aW])
   clear aV
   refine qas [0,1,2,3,4] kz ?_
   refine qc8 [0] [1,2,3,4] [(7,.p 0 0),(245,.p 1 0)] fh fun _ fi=>?_
   clear fh
   refine qam (qgE (d:=246) fi (qlR T.U e32_U (qfp e32r) _) (fun _=>MvF.tags _ _) Tryz.call130 fun fC iR _ _ fj fk=>?_)
   clear fi
   refine qc8 [2,3] [4] [(7,.p 0 0),(246,.v (.agg #[.map fC])),(248,.p 1 9)] fk fun _ fl=>?_
   clear fk
   refine qam (qfq [⟨bv,0,[.int .i16 v,.string (bs (T.at_ 0).S),.string (bs (T.at_ 1).S),.int .i64 (IntKind.i64.wrap (T.at_ 2).N),.int .i16 (IntKind.i16.wrap (T.at_ 3).N),.int .i32 ap.n,.string ar.s,.pointer ak.A,.slice aj.A aj.l aj.c,.map fC],true⟩] 0 fl fun _ fm=>?_)
   clear fl
   refine qaf ?_
   have gY:=fm.pk (env':=[(7,.p 0 0)])
   clear fm
   refine qab ?_
   exact ⟨fC,T.U,_,fun w F h_=>⟨(fj _ _ h_).1,⟨(fj _ _ h_).2,e32_U.2.1,e32_U.2.2⟩,⟨fun _=>rfl,(fun e_=>by rw [aW] at e_; cases e_)⟩⟩,gY.pk (env':=[(7,.p 0 0)])⟩
  have fo:=aV.cast (t:=[] ++ ([]:Bs)) (by rw [if_neg (by rw [aW]; decide)])
  clear aV
  have gZ:=fo.cast (t:=([]:Bs)) rfl
  clear fo
  refine wp_skip (qab ?_)
  exact ⟨none,[],_,fun w F h_=>⟨h_,⟨MapR.nil _ _,Nat.zero_le _,fun _ h=>by cases h⟩,⟨(fun e_=>by rw [aW] at e_; cases e_),fun _=>rfl⟩⟩,gZ.pk (env':=[(7,.p 0 0)])⟩
 rintro _ _ ⟨bY,bd,iS,av,fq⟩
 refine qab (wp_seq (qas [0,1] kz (qam (qhP (d:=249) fq qka Tryz.call126 fun _ fr=>?_))))
 clear fq
 refine qc8 [1] [] [(6,.v (.nilIface))] fr fun _ ft=>qaf ?_
 clear fr
 refine qab (wp_ret ?_)
 obtain ⟨A_,m_,c_,hW_,hr_,hE_,hP_⟩:=ft.open_
 refine qaE hE_ hW_.cells (v:=.nilIface) kz ?_
 have h_:=ft.mv.mono qdI hP_
 refine ⟨(dvP bY bd [dvS (bs (T.at_ 0).S),dvS (bs (T.at_ 1).S),dvN (IntKind.i64.wrap (T.at_ 2).N),dvN (IntKind.i16.wrap (T.at_ 3).N),ap,ar,ak,aj]),rfl,Str.of hW_ 1 rfl,?_,?_,hW_.step⟩
 ·unfold qbi
  exact ⟨(by show ByteArray.size (bs _) ≤ 1000000; rw [qcS]; exact Nat.le_trans e32_0 (by decide)),(by show ByteArray.size (bs _) ≤ 1000000; rw [qcS]; exact Nat.le_trans e32_1 (by decide)),(trivial),(trivial),((gl _ _ (bR _ _ (aB _ _ (az _ _ (av _ _ h_).1).1).1).1).2.1),((bR _ _ (aB _ _ (az _ _ (av _ _ h_).1).1).1).2.1),((aB _ _ (az _ _ (av _ _ h_).1).1).2.1),((az _ _ (av _ _ h_).1).2.1),(av _ _ h_).2.1.1,(av _ _ h_).2.1.2.1,(av _ _ h_).2.1.2.2,trivial⟩
 unfold qbG
 exact ⟨(rfl),(rfl),(rfl),(rfl),((gl _ _ (bR _ _ (aB _ _ (az _ _ (av _ _ h_).1).1).1).1).2.2),((bR _ _ (aB _ _ (az _ _ (av _ _ h_).1).1).1).2.2),((aB _ _ (az _ _ (av _ _ h_).1).1).2.2),((az _ _ (av _ _ h_).1).2.2),(av _ _ h_).2.2,trivial⟩
theorem qaW:qhe qbi:=by
 intro w w' F F' M d hs hM hF h
 unfold qbi at h ⊢
 obtain ⟨g0,g1,g2,g3,g4,g5,⟨g6,g6l⟩,⟨g7,g7l,g7e⟩,t1,t2,t3,_⟩:=h
 exact ⟨g0,g1,g2,g3,g4,g5,⟨fun ad hA=>by
  obtain ⟨b,o,h1,h2⟩:=g6 ad hA
  exact ⟨b,o,h1,h2.move hs hM hF⟩,g6l⟩,⟨g7.move hs hM hF,g7l,fun i hi=>qbq _ hs hM hF (g7e i hi)⟩,t1.move hs hM hF,t2,t3,trivial⟩
theorem qcp (v:Int) (D:DV) (T:Tree) (h:qaN v D T):(be 4 ((D.f 0).n)) ++ ((be 8 ((D.f 1).n)) ++ ((if (decide (v ≥ 2)) = true then be 4 ((D.f 2).n) else []) ++ ((if (decide (v ≥ 3)) = true then (if (D.f 3).A.isNone = true then uv 0 else uv ((D.f 3).s.size + 1) ++ sb (D.f 3).s) else (if (D.f 3).A.isNone = true then be 2 (-1) else be 2 (D.f 3).s.size ++ sb (D.f 3).s)) ++ (if (decide (v ≥ 3)) = true then (uv D.u.length) ++ (qbx D.u) else [])))) = qav v T:=by
 unfold qaN at h
 obtain ⟨r0_,r1_,r2_,r3_,rU_,_⟩:=h
 unfold qav
 exact qdM (by rw [r0_]) (qdM (by rw [r1_]; exact qfG _) (qdM (if_c (fun hc_=>by rw [(r2_.1 hc_)])) (qdM (by simp only [r3_.1,r3_.2,qiN,qcS]) ((if_c (fun hc_=>by rw [(rU_.1 hc_)]))))))
theorem qcT (v:Int) (D:DV) (T:Tree) (h:qa3 v D T):(if ((if (decide (v ≥ 0)) = true then decide (v ≤ 5) else false)) = true then if (decide (v ≥ 3)) = true then (uv ((D.f 0).s.size + 1) ++ sb (D.f 0).s) else (be 2 (D.f 0).s.size ++ sb (D.f 0).s) else []) ++ ((if (decide (v ≥ 6)) = true then (D.f 1).o else []) ++ (((if (decide (v ≥ 3)) = true then (uv ((D.f 2).l + 1)) else (be 4 (D.f 2).l)) ++ ((List.range (D.f 2).l).flatMap fun aa=>(be 4 ((((D.f 2).f aa).f 0).n)) ++ ((be 8 ((((D.f 2).f aa).f 1).n)) ++ ((if (decide (v ≥ 2)) = true then be 4 ((((D.f 2).f aa).f 2).n) else []) ++ ((if (decide (v ≥ 3)) = true then (if (((D.f 2).f aa).f 3).A.isNone = true then uv 0 else uv ((((D.f 2).f aa).f 3).s.size + 1) ++ sb (((D.f 2).f aa).f 3).s) else (if (((D.f 2).f aa).f 3).A.isNone = true then be 2 (-1) else be 2 (((D.f 2).f aa).f 3).s.size ++ sb (((D.f 2).f aa).f 3).s)) ++ (if (decide (v ≥ 3)) = true then (uv ((D.f 2).f aa).u.length) ++ (qbx ((D.f 2).f aa).u) else [])))))) ++ (if (decide (v ≥ 3)) = true then (uv D.u.length) ++ (qbx D.u) else []))) = qaA v T:=by
 unfold qa3 at h
 obtain ⟨r0_,r1_,r2_,rU_,_⟩:=h
 unfold qaA
 exact qdM (if_c (fun hc_=>by simp only [(r0_.1 hc_),qiN,qcS])) (qdM (if_c (fun hc_=>by rw [(r1_.1 hc_)])) (qdM (qdM (by simp only [r2_.1]) (qie r2_.1 (fun i hi=>qcp v _ _ (r2_.2 i hi)))) ((if_c (fun hc_=>by rw [(rU_.1 hc_)])))))
theorem qdr (v:Int) (D:DV) (T:Tree) (h:qbG v D T):qaa v D = qaj v T:=by
 unfold qbG at h
 obtain ⟨r0_,r1_,r2_,r3_,r4_,r5_,r6_,r7_,rU_,_⟩:=h
 rw [qcy]
 unfold qaa qbW
 exact qdM (by simp only [r0_,qiN,qcS]) (qdM (by simp only [r1_,qiN,qcS]) (qdM (by rw [r2_]; exact qfG _) (qdM (by rw [r3_]) (qdM (if_c (fun hc_=>by rw [(r4_.1 hc_)])) (qdM (if_c (fun hc_=>by simp only [(r5_.1 hc_),qiN,qcS])) (qdM (if_c (fun hc_=>by simp only [(r6_.1 hc_).1,(r6_.1 hc_).2,qiN,qcS])) (qdM (qdM (by simp only [r7_.1]) (qie r7_.1 (fun i hi=>qcT v _ _ (r7_.2 i hi)))) (qdM (if_c (fun hc_=>by rw [(rU_.1 hc_)])) (rfl)))))))))
section
variable {U:List Fld → Tree → Prop} {k x1 x2 x3 x4 x5 x6 n:Int} {sub:List Fld} {s:Bs} {b:Bool} {l:List Tree} {u:List (Int × Bs)}
end
section
variable {T:List Fld → Tree → Tree → Prop} {v k x1 x2 x3 x4 x5 x6 tn n:Int} {sub:List Fld} {ts s:Bs} {tb b:Bool} {tl l:List Tree} {tu u:List (Int × Bs)}
end
theorem qe2 {P:Program} {ops:Array Oper} {Q:Exit → Act → World → Prop} {a:Act} {w:World} {T:World → Prop} {c i j fuel:Nat} {listed:Array Bool} (hr:Region.ready .any ops listed = [i,j]) (h:wpOp P ops Q i (fun a' w'=>(i ≠ c → T w') ∧ qb0 P ops Q T c fuel (listed.setIfInBounds i true) a' w') a w)
  (h':wpOp P ops Q j (fun a' w'=>(j ≠ c → T w') ∧ qb0 P ops Q T c fuel (listed.setIfInBounds j true) a' w') a w):qb0 P ops Q T c (fuel + 1) listed a w:=by
 refine ⟨fun h0=>(by rw [hr] at h0; cases h0),fun q hq=>?_⟩
 rw [hr] at hq
 simp only [List.mem_cons,List.not_mem_nil,or_false] at hq
 rcases hq with rfl | rfl
 ·exact h
 exact h'
section
variable {w:World} {F:Nat → Nat → Prop}
end
section
variable {gu tu:List (Int × Bs)} {l:List Fld} {flex:Bool} {i:Nat} {k k':Int} {s s':Bs}
end
end Go.Proofs.YtogokkkdfcgncaaGreatDoor.ME