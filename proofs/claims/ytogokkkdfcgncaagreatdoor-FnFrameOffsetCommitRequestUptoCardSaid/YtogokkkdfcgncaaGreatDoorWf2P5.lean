/- The texts of a claim, put together: the engine, the contracts, the law. Own work. -/
import Derived.Test.YtogokkkdfcgncaaGreatDoorWf2P4
namespace Go.Proofs.YtogokkkdfcgncaaGreatDoor.ME
open Go
open Go.RowKit
set_option linter.unusedVariables false
set_option linter.unusedSimpArgs false
set_option maxRecDepth 20000
def qav (v:Int) (T:Tree):Bs:=(be 4 ((IntKind.i32.wrap (T.at_ 0).N))) ++ ((be 8 ((T.at_ 1).N)) ++ ((if ((if (decide (v ≥ 1)) = true then decide (v ≤ 1) else false)) = true then be 8 ((T.at_ 2).N) else []) ++ ((if (decide (v ≥ 6)) = true then be 4 ((IntKind.i32.wrap (T.at_ 3).N)) else []) ++ ((if (decide (v ≥ 8)) = true then (if (T.at_ 4).null = true then uv 0 else uv ((qbs (T.at_ 4)).length + 1) ++ (qbs (T.at_ 4))) else (if (T.at_ 4).null = true then be 2 (-1) else be 2 (qbs (T.at_ 4)).length ++ (qbs (T.at_ 4)))) ++ (if (decide (v ≥ 8)) = true then (uv T.U.length) ++ (qbx T.U) else [])))))
theorem qbK (v:Int) (T:Tree):0 < (qav v T).length:=qlQ (qlh (by decide))
def qaG (v:Int) (T:Tree):Bs:=(if ((if (decide (v ≥ 0)) = true then decide (v ≤ 9) else false)) = true then if (decide (v ≥ 8)) = true then (uv ((T.at_ 0).S.length + 1) ++ (T.at_ 0).S) else (be 2 (T.at_ 0).S.length ++ (T.at_ 0).S) else []) ++ ((if (decide (v ≥ 10)) = true then (qap (T.at_ 1).S) else []) ++ (((if (decide (v ≥ 8)) = true then (uv ((lst (T.at_ 2)).length + 1)) else (be 4 (lst (T.at_ 2)).length)) ++ ((lst (T.at_ 2)).flatMap (qav v))) ++ (if (decide (v ≥ 8)) = true then (uv T.U.length) ++ (qbx T.U) else [])))
theorem qck (v:Int) (T:Tree):0 < (qaG v T).length:=qmq (qmq (qlQ (qlQ (qmr (qmc _) (qlh (by decide))))))
def qb9 (v:Int) (T:Tree):Bs:=(if (decide (v ≥ 8)) = true then (uv ((T.at_ 0).S.length + 1) ++ (T.at_ 0).S) else (be 2 (T.at_ 0).S.length ++ (T.at_ 0).S)) ++ ((if (decide (v ≥ 1)) = true then be 4 ((IntKind.i32.wrap (T.at_ 1).N)) else []) ++ ((if (decide (v ≥ 1)) = true then if (decide (v ≥ 8)) = true then (uv ((T.at_ 2).S.length + 1) ++ (T.at_ 2).S) else (be 2 (T.at_ 2).S.length ++ (T.at_ 2).S) else []) ++ ((if (decide (v ≥ 7)) = true then if (decide (v ≥ 8)) = true then (if (T.at_ 3).null = true then uv 0 else uv ((qbs (T.at_ 3)).length + 1) ++ (qbs (T.at_ 3))) else (if (T.at_ 3).null = true then be 2 (-1) else be 2 (qbs (T.at_ 3)).length ++ (qbs (T.at_ 3))) else []) ++ ((if ((if (decide (v ≥ 2)) = true then decide (v ≤ 4) else false)) = true then be 8 ((T.at_ 4).N) else []) ++ (((if (decide (v ≥ 8)) = true then (uv ((lst (T.at_ 5)).length + 1)) else (be 4 (lst (T.at_ 5)).length)) ++ ((lst (T.at_ 5)).flatMap (qaG v))) ++ ((if (decide (v ≥ 8)) = true then (uv T.U.length) ++ (qbx T.U) else []) ++ (([]:Bs))))))))
theorem qcP (v:Int) (T:Tree):qak v T = qb9 v T:=rfl
def qbN (d:DV):List Value:=[.int .i32 ((d.f 0).n),.int .i64 ((d.f 1).n),.int .i64 ((d.f 2).n),.int .i32 ((d.f 3).n),.pointer ((d.f 4).A),.map d.m]
theorem qbd:qhd qaM:=by
 intro w w' F F' M d hs hM hF h
 unfold qaM at h ⊢
 obtain ⟨g0,g1,g2,g3,⟨g4,g4l⟩,t1,t2,t3,_⟩:=h
 exact ⟨g0,g1,g2,g3,⟨fun ad hA=>by
  obtain ⟨b,o,h1,h2⟩:=g4 ad hA
  exact ⟨b,o,h1,h2.move hs hM hF⟩,g4l⟩,t1.move hs hM hF,t2,t3,trivial⟩
def qcp (d:DV):List Value:=[.string ((d.f 0).s),qac ((d.f 1).o.getD 0 0),qac ((d.f 1).o.getD 1 0),qac ((d.f 1).o.getD 2 0),qac ((d.f 1).o.getD 3 0),qac ((d.f 1).o.getD 4 0),qac ((d.f 1).o.getD 5 0),qac ((d.f 1).o.getD 6 0),qac ((d.f 1).o.getD 7 0),qac ((d.f 1).o.getD 8 0),qac ((d.f 1).o.getD 9 0),qac ((d.f 1).o.getD 10 0),qac ((d.f 1).o.getD 11 0),qac ((d.f 1).o.getD 12 0),qac ((d.f 1).o.getD 13 0),qac ((d.f 1).o.getD 14 0),qac ((d.f 1).o.getD 15 0),.slice ((d.f 2).A) ((d.f 2).l) ((d.f 2).c),.map d.m]
theorem qbw:qhd qa1:=by
 intro w w' F F' M d hs hM hF h
 unfold qa1 at h ⊢
 obtain ⟨g0,g1,⟨g2,g2l,g2e⟩,t1,t2,t3,_⟩:=h
 exact ⟨g0,g1,⟨g2.move hs hM hF,g2l,fun i hi=>qbd _ hs hM hF (g2e i hi)⟩,t1.move hs hM hF,t2,t3,trivial⟩
def qaR (v:Int) (D:DV) (T:Tree):Prop:=((D.f 0).n = IntKind.i32.wrap (T.at_ 0).N) ∧ ((D.f 1).n = IntKind.i64.wrap (T.at_ 1).N) ∧ (((if (decide (v ≥ 1)) = true then decide (v ≤ 1) else false) = true → (D.f 2).n = IntKind.i64.wrap (T.at_ 2).N) ∧ ((if (decide (v ≥ 1)) = true then decide (v ≤ 1) else false) = false → (D.f 2).n = -1)) ∧ (((decide (v ≥ 6)) = true → (D.f 3).n = IntKind.i32.wrap (T.at_ 3).N) ∧ ((decide (v ≥ 6)) = false → (D.f 3).n = -1)) ∧ (((D.f 4).s = bs (qbs (T.at_ 4)) ∧ (D.f 4).A.isNone = (T.at_ 4).null)) ∧ (((decide (v ≥ 8)) = true → D.u = T.U) ∧ ((decide (v ≥ 8)) = false → D.u = [])) ∧ True
def qbb (v:Int) (D:DV) (T:Tree):Prop:=(((if (decide (v ≥ 0)) = true then decide (v ≤ 9) else false) = true → (D.f 0).s = bs (T.at_ 0).S) ∧ ((if (decide (v ≥ 0)) = true then decide (v ≤ 9) else false) = false → (D.f 0).s = ByteArray.empty)) ∧ (((decide (v ≥ 10)) = true → (D.f 1).o = qap (T.at_ 1).S) ∧ ((decide (v ≥ 10)) = false → (D.f 1).o = List.replicate 16 0)) ∧ (((D.f 2).l = (lst (T.at_ 2)).length ∧ ∀ i,i < (D.f 2).l → qaR v ((D.f 2).f i) ((lst (T.at_ 2)).getD i .zero))) ∧ (((decide (v ≥ 8)) = true → D.u = T.U) ∧ ((decide (v ≥ 8)) = false → D.u = [])) ∧ True
def qbT (v:Int) (D:DV) (T:Tree):Prop:=((D.f 0).s = bs (T.at_ 0).S) ∧ (((decide (v ≥ 1)) = true → (D.f 1).n = IntKind.i32.wrap (T.at_ 1).N) ∧ ((decide (v ≥ 1)) = false → (D.f 1).n = -1)) ∧ (((decide (v ≥ 1)) = true → (D.f 2).s = bs (T.at_ 2).S) ∧ ((decide (v ≥ 1)) = false → (D.f 2).s = ByteArray.empty)) ∧ (((decide (v ≥ 7)) = true → ((D.f 3).s = bs (qbs (T.at_ 3)) ∧ (D.f 3).A.isNone = (T.at_ 3).null)) ∧ ((decide (v ≥ 7)) = false → ((D.f 3).s = ByteArray.empty ∧ (D.f 3).A = none))) ∧ (((if (decide (v ≥ 2)) = true then decide (v ≤ 4) else false) = true → (D.f 4).n = IntKind.i64.wrap (T.at_ 4).N) ∧ ((if (decide (v ≥ 2)) = true then decide (v ≤ 4) else false) = false → (D.f 4).n = -1)) ∧ (((D.f 5).l = (lst (T.at_ 5)).length ∧ ∀ i,i < (D.f 5).l → qbb v ((D.f 5).f i) ((lst (T.at_ 5)).getD i .zero))) ∧ (((decide (v ≥ 8)) = true → D.u = T.U) ∧ ((decide (v ≥ 8)) = false → D.u = [])) ∧ True
theorem qmy (b o:Nat) (w:World):Calls Tryz.prog 127 #[.pointer (some ⟨b,o,none⟩)] w (fun e w'=>e = .returned (.tuple #[]) ∧ w' = w):=by
 refine enter (n:=2) (vs:=[.pointer (some ⟨b,o,none⟩)]) Tryz.func127 rfl Tryz.ntmps127 kz fun a hE=>?_
 refine wp_skip ?_
 exact qcq hE (WOk.start w Nil).cells (v:=.tuple #[]) kz ⟨rfl,rfl⟩
abbrev z22 :=([.int .u8 0,.int .u8 0,.int .u8 0,.int .u8 0,.int .u8 0,.int .u8 0,.int .u8 0,.int .u8 0,.int .u8 0,.int .u8 0,.int .u8 0,.int .u8 0,.int .u8 0,.int .u8 0,.int .u8 0,.int .u8 0]:List Value)
set_option maxHeartbeats 4000000 in
theorem qd3 (v:Int) (T:Tree) {bv:Nat} {A:Option Addr} {c:Nat} {w:World} {F:Nat → Nat → Prop} (hst:Str w bv [.int .i16 v,.string ByteArray.empty,.int .i32 (-1),.string ByteArray.empty,.pointer none,.int .i64 (-1),.slice none 0 0,.map none]) (ho:Octs w F A c (qak v T)) (hFd:∀ b o,F b o → ¬ (b = bv ∧ o < 8)) (hc:qbg T) (hR:T.ranged) :
  Calls Tryz.prog 88 #[.pointer (some ⟨bv,0,none⟩),.slice A (qak v T).length c,.bool false] w (fun e w'=>∃ D:DV,e = .returned .nilIface ∧ Str w' bv [.int .i16 v,.string ((D.f 0).s),.int .i32 ((D.f 1).n),.string ((D.f 2).s),.pointer ((D.f 3).A),.int .i64 ((D.f 4).n),.slice ((D.f 5).A) ((D.f 5).l) ((D.f 5).c),.map D.m] ∧ qbp w' (Fp F w) D ∧ qbT v D T ∧ Step w w' (fun b o=>b = bv ∧ o < 8)):=by
 refine enter (n:=250) Tryz.func88 rfl Tryz.ntmps88 kz fun a hE=>?_
 have hW:=WOk.startStr hst
 have hE1:=(hE.grow ⟨bv,0,[.int .i16 v,.string ByteArray.empty,.int .i32 (-1),.string ByteArray.empty,.pointer none,.int .i64 (-1),.slice none 0 0,.map none],true⟩).recast 0 (.v (.pointer (some ⟨bv,0,none⟩))) (.p 0 0) rfl rfl (Nat.le_of_ble_eq_true (n:=1) rfl)
 refine qas [(0,.p 0 0),(1,.v (.slice A ((qak v T).length) c)),(2,.v (.bool false))] hW hE1 fun a1 hE2=>?_
 refine qae [0,1] kz ?_
 refine qaj [0] [1] [(0,.p 0 0),(1,.v (.slice A ((qak v T).length) c)),(2,.v (.bool false)),(35,.p 0 0)] hW hE2 fun a3 hE4=>?_
 refine qam (qa5 hE4 (f:=78) (vs:=[.pointer (some ⟨bv,0,none⟩)]) (d:=36) (n':=8) kz Tryz.call78 Tryz.func78 rfl Tryz.ntmps78 kz fun a5 hE6=>?_)
 have hE7:=hE6.recast 0 (.v (.pointer (some ⟨bv,0,none⟩))) (.p 0 0) rfl rfl (Nat.le_of_ble_eq_true (n:=1) rfl)
 refine qae [0,1,2,3] kz ?_
 refine qaj [0,1,2] [3] [(0,.p 0 0),(4,.p 0 2)] hW hE7 fun a8 hE9=>?_
 refine qam (qaI hW hE9 (oi:=0) (cs:=[.int .i16 v,.string ByteArray.empty,.int .i32 (-1),.string ByteArray.empty,.pointer none,.int .i64 (-1),.slice none 0 0,.map none]) kz fun jD ji gk iH=>?_)
 refine qaf (qaa ?_)
 refine qar [0,1,2,3] kz ?_
 refine qaj [0,1,2] [3] [(7,.p 0 5)] gk iH fun jE iI=>?_
 refine qam (qaI gk iI (oi:=0) (cs:=[.int .i16 v,.string ByteArray.empty,.int .i32 (-1),.string ByteArray.empty,.pointer none,.int .i64 (-1),.slice none 0 0,.map none]) kz fun jF jj ga iJ=>?_)
 refine qaf (qcq iJ ga.cells (v:=.tuple #[]) kz ?_)
 refine ⟨_,rfl,fun jG iK=>?_⟩
 have iL:=(EnvOk.places (tb':=[⟨bv,0,[.int .i16 v,.string ByteArray.empty,.int .i32 (-1),.string ByteArray.empty,.pointer none,.int .i64 (-1),.slice none 0 0,.map none],true⟩]) iK (show Pl [⟨bv,0,[.int .i16 v,.string ByteArray.empty,.int .i32 (-1),.string ByteArray.empty,.pointer none,.int .i64 (-1),.slice none 0 0,.map none],true⟩] [⟨bv,0,[.int .i16 v,.string ByteArray.empty,.int .i32 (-1),.string ByteArray.empty,.pointer none,.int .i64 (-1),.slice none 0 0,.map none],true⟩] from ⟨rfl,rfl,trivial⟩)).pk (env':=[(36,.v (.tuple #[])),(0,.p 0 0),(1,.v (.slice A ((qak v T).length) c)),(2,.v (.bool false)),(35,.p 0 0)])
 refine qaf (qaa ?_)
 refine qae [0,1,2,3] kz ?_
 refine qaj [0,1] [2,3] [(0,.p 0 0),(2,.v (.bool false)),(38,.v (.agg #[.slice A ((qak v T).length) c,.bool false]))] ga iL fun jH iM=>?_
 refine qam (qa9 ga iM (d:=7) (cs:=[.slice none 0 0,.bool false]) kz fun aJ jI jJ jk jl jm iN iO=>?_)
 refine qam (qaI iN iO (oi:=1) (cs:=[.slice A ((qak v T).length) c,.bool false]) kz fun jK jn gb iP=>?_)
 refine qaf (qaa ?_)
 have gl:=RS.start (F:=F) (s:=qak v T) gb iP (ho.move gb.step (fun b_ o_ h_ _=>hFd b_ o_ h_) (gb.immM hFd)) [(0,.p 1 0),(2,.v (.bool false)),(7,.p 0 0)]
 have jg:=hc
 have e38r:=hR
 unfold qbg at jg
 obtain ⟨e38_0,e38_1,e38_2,e38_3,e38_4,⟨e38_5,e38_5e⟩,e38_U,_⟩:=jg
 obtain ⟨cH,gm⟩:∃ R,R = (if (decide (v ≥ 8)) = true then (uv T.U.length) ++ (qbx T.U) else []) ++ ([]:Bs):=⟨_,rfl⟩
 obtain ⟨gc,gn⟩:∃ R,R = ((if (decide (v ≥ 8)) = true then (uv ((lst (T.at_ 5)).length + 1)) else (be 4 (lst (T.at_ 5)).length)) ++ ((lst (T.at_ 5)).flatMap (qaG v))) ++ cH:=⟨_,rfl⟩
 obtain ⟨cI,gp⟩:∃ R,R = (if ((if (decide (v ≥ 2)) = true then decide (v ≤ 4) else false)) = true then be 8 ((T.at_ 4).N) else []) ++ gc:=⟨_,rfl⟩
 obtain ⟨gq,gt⟩:∃ R,R = (if (decide (v ≥ 7)) = true then if (decide (v ≥ 8)) = true then (if (T.at_ 3).null = true then uv 0 else uv ((qbs (T.at_ 3)).length + 1) ++ (qbs (T.at_ 3))) else (if (T.at_ 3).null = true then be 2 (-1) else be 2 (qbs (T.at_ 3)).length ++ (qbs (T.at_ 3))) else []) ++ cI:=⟨_,rfl⟩
 obtain ⟨gv,gw⟩:∃ R,R = (if (decide (v ≥ 1)) = true then if (decide (v ≥ 8)) = true then (uv ((T.at_ 2).S.length + 1) ++ (T.at_ 2).S) else (be 2 (T.at_ 2).S.length ++ (T.at_ 2).S) else []) ++ gq:=⟨_,rfl⟩
 obtain ⟨jo,gx⟩:∃ R,R = (if (decide (v ≥ 1)) = true then be 4 ((IntKind.i32.wrap (T.at_ 1).N)) else []) ++ gv:=⟨_,rfl⟩
 obtain ⟨jp,gy⟩:∃ R,R = (if (decide (v ≥ 8)) = true then (uv ((T.at_ 0).S.length + 1) ++ (T.at_ 0).S) else (be 2 (T.at_ 0).S.length ++ (T.at_ 0).S)) ++ jo:=⟨_,rfl⟩
 have gz:=gl.cast (t:=jp) (by rw [qcP,gy,gx,gw,gt,gp,gn,gm]; unfold qb9; simp only [List.append_assoc])
 clear gl
 refine wp_seq (qbB [(0,.p 1 0),(2,.v (.bool false)),(7,.p 0 0),(8,.v (.int .i16 v))] gz fun _ gA=>?_)
 clear gz
 refine qaa (wp_seq (qbB [(0,.p 1 0),(2,.v (.bool false)),(7,.p 0 0),(8,.v (.int .i16 v))] gA fun _ gB=>?_))
 clear gA
 refine qaa (wp_seq (qbB [(0,.p 1 0),(2,.v (.bool false)),(7,.p 0 0),(8,.v (.int .i16 v)),(9,.v (.bool (decide (v ≥ 8))))] gB fun _ gC=>?_))
 clear gB
 refine qaa (wp_seq (qbB [(0,.p 1 0),(2,.v (.bool false)),(7,.p 0 0),(8,.v (.int .i16 v)),(9,.v (.bool (decide (v ≥ 8))))] gC fun _ gD=>?_))
 clear gC
 refine qaa (wp_seq (qbB [(2,.v (.bool false)),(7,.p 0 0),(8,.v (.int .i16 v)),(9,.v (.bool (decide (v ≥ 8)))),(10,.p 1 0)] gD fun _ gE=>?_))
 clear gD
 refine qaa (wp_seq (wp_seq (qbB [(2,.v (.bool false)),(7,.p 0 0),(8,.v (.int .i16 v)),(9,.v (.bool (decide (v ≥ 8)))),(10,.p 1 0)] gE fun _ gF=>?_)))
 clear gE
 refine qaa (wp_seq (wp_seq (qbB [(2,.v (.bool false)),(7,.p 0 0),(8,.v (.int .i16 v)),(9,.v (.bool (decide (v ≥ 8)))),(10,.p 1 0),(48,.v (.bool false))] gF fun _ gd=>qaa ?_)))
 clear gF
 refine qau gd.env_ (b:=false) kz (rfl) ?_
 have gG:=gd.cast gy
 clear gd
 refine qfN (d1:=53) (d2:=54) [(2,.v (.bool false)),(7,.p 0 0),(8,.v (.int .i16 v)),(9,.v (.bool (decide (v ≥ 8)))),(10,.p 1 0),(52,.v (.bool (decide (v ≥ 8))))] [(2,.v (.bool false)),(7,.p 0 0),(8,.v (.int .i16 v)),(9,.v (.bool (decide (v ≥ 8)))),(10,.p 1 0),(11,.v (.string (bs (T.at_ 0).S)))] gG (qdi (T.at_ 0).S e38_0 _) Tryz.call115 (qhR (T.at_ 0).S e38_0 _) Tryz.call116 fun _ _ gH=>?_
 clear gG
 refine qaa (qcS [⟨bv,0,[.int .i16 v,.string (bs (T.at_ 0).S),.int .i32 (-1),.string ByteArray.empty,.pointer none,.int .i64 (-1),.slice none 0 0,.map none],true⟩] 0 [(2,.v (.bool false)),(7,.p 0 0),(8,.v (.int .i16 v)),(9,.v (.bool (decide (v ≥ 8)))),(10,.p 1 0)] gH fun _ _ gI=>?_)
 clear gH
 refine qaa (wp_seq ?_)
 have gJ:=gI.cast gx
 clear gI
 refine qcn (Mid:=fun a_ w_=>∃ (ap:DV) (P':qb8),(∀ w F,P' w F → noF w F ∧ (True) ∧ ((decide (v ≥ 1)) = true → ap.n = IntKind.i32.wrap (T.at_ 1).N) ∧ ((decide (v ≥ 1)) = false → ap.n = -1)) ∧ RS w (fun b o=>b = bv ∧ o < 8) F 250 aJ [⟨bv,0,[.int .i16 v,.string (bs (T.at_ 0).S),.int .i32 ap.n,.string ByteArray.empty,.pointer none,.int .i64 (-1),.slice none 0 0,.map none],true⟩] [(2,.v (.bool false)),(7,.p 0 0),(8,.v (.int .i16 v)),(9,.v (.bool (decide (v ≥ 8)))),(10,.p 1 0)] P' gv a_ w_) ?_ ?_
 ·
  refine wp_seq (qbB [(2,.v (.bool false)),(7,.p 0 0),(8,.v (.int .i16 v)),(9,.v (.bool (decide (v ≥ 8)))),(10,.p 1 0),(60,.v (.bool (decide (v ≥ 1))))] gJ fun _ bD=>qaa ?_)
  clear gJ
  refine qax bD.env_ (b:=decide (v ≥ 1)) kz (fun bE=>?_) (fun bE=>?_)
  ·
   have gK:=bD.cast (t:=(be 4 ((IntKind.i32.wrap (T.at_ 1).N))) ++ gv) (by rw [if_pos bE])
   clear bD
   refine wp_seq (qe3 (d:=61) [(2,.v (.bool false)),(7,.p 0 0),(8,.v (.int .i16 v)),(9,.v (.bool (decide (v ≥ 8)))),(10,.p 1 0),(12,.v (.int .i32 (IntKind.i32.wrap (T.at_ 1).N)))] gK (qkh _ _) Tryz.call117 fun _ _ gL=>?_)
   clear gK
   refine qaa (qcS [⟨bv,0,[.int .i16 v,.string (bs (T.at_ 0).S),.int .i32 (IntKind.i32.wrap (T.at_ 1).N),.string ByteArray.empty,.pointer none,.int .i64 (-1),.slice none 0 0,.map none],true⟩] 0 [(2,.v (.bool false)),(7,.p 0 0),(8,.v (.int .i16 v)),(9,.v (.bool (decide (v ≥ 8)))),(10,.p 1 0)] gL fun _ _ iQ=>?_)
   clear gL
   refine qaa ?_
   exact ⟨dvN (IntKind.i32.wrap (T.at_ 1).N),_,fun w F h_=>⟨h_,trivial,⟨fun _=>rfl,(fun e_=>by rw [bE] at e_; cases e_)⟩⟩,iQ.pk (env':=[(2,.v (.bool false)),(7,.p 0 0),(8,.v (.int .i16 v)),(9,.v (.bool (decide (v ≥ 8)))),(10,.p 1 0)])⟩
  have gM:=bD.cast (t:=[] ++ gv) (by rw [if_neg (by rw [bE]; decide)])
  clear bD
  have iR:=gM.cast (t:=gv) rfl
  clear gM
  refine wp_skip (qaa ?_)
  exact ⟨dvN (-1),_,fun w F h_=>⟨h_,trivial,⟨(fun e_=>by rw [bE] at e_; cases e_),fun _=>rfl⟩⟩,iR.pk (env':=[(2,.v (.bool false)),(7,.p 0 0),(8,.v (.int .i16 v)),(9,.v (.bool (decide (v ≥ 8)))),(10,.p 1 0)])⟩
 rintro _ _ ⟨ap,jq,gN,gO⟩
 refine qaa (wp_seq ?_)
 have gP:=gO.cast gw
 clear gO
 refine qcn (Mid:=fun a_ w_=>∃ (au:DV) (P':qb8),(∀ w F,P' w F → jq w F ∧ (au.s.size ≤ 1000000) ∧ ((decide (v ≥ 1)) = true → au.s = bs (T.at_ 2).S) ∧ ((decide (v ≥ 1)) = false → au.s = ByteArray.empty)) ∧ RS w (fun b o=>b = bv ∧ o < 8) F 250 aJ [⟨bv,0,[.int .i16 v,.string (bs (T.at_ 0).S),.int .i32 ap.n,.string au.s,.pointer none,.int .i64 (-1),.slice none 0 0,.map none],true⟩] [(2,.v (.bool false)),(7,.p 0 0),(8,.v (.int .i16 v)),(9,.v (.bool (decide (v ≥ 8)))),(10,.p 1 0)] P' gq a_ w_) ?_ ?_
 ·
  refine wp_seq (qbB [(2,.v (.bool false)),(7,.p 0 0),(8,.v (.int .i16 v)),(9,.v (.bool (decide (v ≥ 8)))),(10,.p 1 0),(67,.v (.bool (decide (v ≥ 1))))] gP fun _ bF=>qaa ?_)
  clear gP
  refine qax bF.env_ (b:=decide (v ≥ 1)) kz (fun bG=>?_) (fun bG=>?_)
  ·
   have gQ:=bF.cast (t:=(if (decide (v ≥ 8)) = true then (uv ((T.at_ 2).S.length + 1) ++ (T.at_ 2).S) else (be 2 (T.at_ 2).S.length ++ (T.at_ 2).S)) ++ gq) (by rw [if_pos bG])
   clear bF
   refine wp_seq (qbB [(2,.v (.bool false)),(7,.p 0 0),(8,.v (.int .i16 v)),(9,.v (.bool (decide (v ≥ 8)))),(10,.p 1 0)] gQ fun _ gR=>?_)
   clear gQ
   refine qaa (wp_seq (wp_seq (qbB [(2,.v (.bool false)),(7,.p 0 0),(8,.v (.int .i16 v)),(9,.v (.bool (decide (v ≥ 8)))),(10,.p 1 0),(68,.v (.bool false))] gR fun _ ge=>qaa ?_)))
   clear gR
   refine qau ge.env_ (b:=false) kz (rfl) ?_
   refine qfN (d1:=73) (d2:=74) [(2,.v (.bool false)),(7,.p 0 0),(8,.v (.int .i16 v)),(9,.v (.bool (decide (v ≥ 8)))),(10,.p 1 0),(72,.v (.bool (decide (v ≥ 8))))] [(2,.v (.bool false)),(7,.p 0 0),(8,.v (.int .i16 v)),(9,.v (.bool (decide (v ≥ 8)))),(10,.p 1 0),(13,.v (.string (bs (T.at_ 2).S)))] ge (qdi (T.at_ 2).S e38_2 _) Tryz.call115 (qhR (T.at_ 2).S e38_2 _) Tryz.call116 fun _ _ gS=>?_
   clear ge
   refine qaa (qcS [⟨bv,0,[.int .i16 v,.string (bs (T.at_ 0).S),.int .i32 ap.n,.string (bs (T.at_ 2).S),.pointer none,.int .i64 (-1),.slice none 0 0,.map none],true⟩] 0 [(2,.v (.bool false)),(7,.p 0 0),(8,.v (.int .i16 v)),(9,.v (.bool (decide (v ≥ 8)))),(10,.p 1 0)] gS fun _ _ iS=>?_)
   clear gS
   refine qaa ?_
   exact ⟨dvS (bs (T.at_ 2).S),_,fun w F h_=>⟨h_,by show ByteArray.size (bs _) ≤ 1000000; rw [qdg]; exact Nat.le_trans e38_2 (by decide),⟨fun _=>rfl,(fun e_=>by rw [bG] at e_; cases e_)⟩⟩,iS.pk (env':=[(2,.v (.bool false)),(7,.p 0 0),(8,.v (.int .i16 v)),(9,.v (.bool (decide (v ≥ 8)))),(10,.p 1 0)])⟩
  have gT:=bF.cast (t:=[] ++ gq) (by rw [if_neg (by rw [bG]; decide)])
  clear bF
  have iT:=gT.cast (t:=gq) rfl
  clear gT
  refine wp_skip (qaa ?_)
  exact ⟨dvS ByteArray.empty,_,fun w F h_=>⟨h_,Nat.zero_le _,⟨(fun e_=>by rw [bG] at e_; cases e_),fun _=>rfl⟩⟩,iT.pk (env':=[(2,.v (.bool false)),(7,.p 0 0),(8,.v (.int .i16 v)),(9,.v (.bool (decide (v ≥ 8)))),(10,.p 1 0)])⟩
 rintro _ _ ⟨au,jh,cv,gU⟩
 refine qaa (wp_seq ?_)
 have gV:=gU.cast gt
 clear gU
 refine qcn (Mid:=fun a_ w_=>∃ (ar:DV) (P':qb8),(∀ w F,P' w F → jh w F ∧ ((∀ ad,ar.A = some ad → ∃ b o,ad = ⟨b,o,none⟩ ∧ AtF w F b o [.string ar.s]) ∧ ar.s.size ≤ 1000000) ∧ ((decide (v ≥ 7)) = true → (ar.s = bs (qbs (T.at_ 3)) ∧ ar.A.isNone = (T.at_ 3).null)) ∧ ((decide (v ≥ 7)) = false → (ar.s = ByteArray.empty ∧ ar.A = none))) ∧ RS w (fun b o=>b = bv ∧ o < 8) F 250 aJ [⟨bv,0,[.int .i16 v,.string (bs (T.at_ 0).S),.int .i32 ap.n,.string au.s,.pointer ar.A,.int .i64 (-1),.slice none 0 0,.map none],true⟩] [(2,.v (.bool false)),(7,.p 0 0),(8,.v (.int .i16 v)),(9,.v (.bool (decide (v ≥ 8)))),(10,.p 1 0)] P' cI a_ w_) ?_ ?_
 ·
  refine wp_seq (qbB [(2,.v (.bool false)),(7,.p 0 0),(8,.v (.int .i16 v)),(9,.v (.bool (decide (v ≥ 8)))),(10,.p 1 0),(80,.v (.bool (decide (v ≥ 7))))] gV fun _ bH=>qaa ?_)
  clear gV
  refine qax bH.env_ (b:=decide (v ≥ 7)) kz (fun bI=>?_) (fun bI=>?_)
  ·
   have cJ:=bH.cast (t:=(if (decide (v ≥ 8)) = true then (if (T.at_ 3).null = true then uv 0 else uv ((qbs (T.at_ 3)).length + 1) ++ (qbs (T.at_ 3))) else (if (T.at_ 3).null = true then be 2 (-1) else be 2 (qbs (T.at_ 3)).length ++ (qbs (T.at_ 3)))) ++ cI) (by rw [if_pos bI])
   clear bH
   refine wp_seq (qbB [(2,.v (.bool false)),(7,.p 0 0),(8,.v (.int .i16 v)),(9,.v (.bool (decide (v ≥ 8)))),(10,.p 1 0)] cJ fun _ cK=>?_)
   clear cJ
   refine qaa (wp_seq (qcn (Mid:=fun a_ w_=>∃ (bB:Option Addr) (P':qb8),(∀ w F,P' w F → jh w F ∧ qj7 bB (qbs (T.at_ 3)) w F ∧ bB.isNone = (T.at_ 3).null) ∧ RS w (fun b o=>b = bv ∧ o < 8) F 250 aJ [⟨bv,0,[.int .i16 v,.string (bs (T.at_ 0).S),.int .i32 ap.n,.string au.s,.pointer none,.int .i64 (-1),.slice none 0 0,.map none],true⟩] [(2,.v (.bool false)),(7,.p 0 0),(8,.v (.int .i16 v)),(9,.v (.bool (decide (v ≥ 8)))),(10,.p 1 0),(14,.v (.pointer bB))] P' cI a_ w_) ?_ ?_))
   ·
    refine wp_seq (qbB [(2,.v (.bool false)),(7,.p 0 0),(8,.v (.int .i16 v)),(9,.v (.bool (decide (v ≥ 8)))),(10,.p 1 0),(81,.v (.bool (decide (v ≥ 8))))] cK fun _ aK=>qaa ?_)
    clear cK
    refine qax aK.env_ (b:=decide (v ≥ 8)) kz (fun bJ=>?_) (fun bJ=>?_)
    ·
     have cL:=aK.cast (t:=(if (T.at_ 3).null = true then uv 0 else uv ((qbs (T.at_ 3)).length + 1) ++ (qbs (T.at_ 3))) ++ cI) (by rw [if_pos bJ])
     clear aK
     refine wp_seq (qbB [(2,.v (.bool false)),(7,.p 0 0),(8,.v (.int .i16 v)),(9,.v (.bool (decide (v ≥ 8)))),(10,.p 1 0),(82,.v (.bool false))] cL fun _ bK=>qaa ?_)
     clear cL
     refine qau bK.env_ (b:=false) kz (rfl) ?_
     refine qkT (d:=84) (fun cw=>[(2,.v (.bool false)),(7,.p 0 0),(8,.v (.int .i16 v)),(9,.v (.bool (decide (v ≥ 8)))),(10,.p 1 0),(14,.v (.pointer cw))]) bK (qcH (T.at_ 3).null (qbs (T.at_ 3)) e38_3 _) (fun _=>(MvF.text _ _).and (MvF.is _)) Tryz.call119 fun cw jr _ _ cM gW=>?_
     clear bK
     refine qaa ?_
     exact ⟨cw,_,fun w F h_=>⟨(cM _ _ h_).1,(cM _ _ h_).2⟩,gW.pk (env':=[(2,.v (.bool false)),(7,.p 0 0),(8,.v (.int .i16 v)),(9,.v (.bool (decide (v ≥ 8)))),(10,.p 1 0),(14,.v (.pointer cw))])⟩
    have cN:=aK.cast (t:=(if (T.at_ 3).null = true then be 2 (-1) else be 2 (qbs (T.at_ 3)).length ++ (qbs (T.at_ 3))) ++ cI) (by rw [if_neg (by rw [bJ]; decide)])
    clear aK
    refine wp_seq (qbB [(2,.v (.bool false)),(7,.p 0 0),(8,.v (.int .i16 v)),(9,.v (.bool (decide (v ≥ 8)))),(10,.p 1 0),(85,.v (.bool false))] cN fun _ bL=>qaa ?_)
    clear cN
    refine qau bL.env_ (b:=false) kz (rfl) ?_
    refine qkT (d:=87) (fun cz=>[(2,.v (.bool false)),(7,.p 0 0),(8,.v (.int .i16 v)),(9,.v (.bool (decide (v ≥ 8)))),(10,.p 1 0),(14,.v (.pointer cz))]) bL (qd0 (T.at_ 3).null (qbs (T.at_ 3)) e38_3 _) (fun _=>(MvF.text _ _).and (MvF.is _)) Tryz.call121 fun cz js _ _ cO gX=>?_
    clear bL
    refine qaa ?_
    exact ⟨cz,_,fun w F h_=>⟨(cO _ _ h_).1,(cO _ _ h_).2⟩,gX.pk (env':=[(2,.v (.bool false)),(7,.p 0 0),(8,.v (.int .i16 v)),(9,.v (.bool (decide (v ≥ 8)))),(10,.p 1 0),(14,.v (.pointer cz))])⟩
   rintro _ _ ⟨bB,jt,bM,cP⟩
   refine qaa (qcS [⟨bv,0,[.int .i16 v,.string (bs (T.at_ 0).S),.int .i32 ap.n,.string au.s,.pointer bB,.int .i64 (-1),.slice none 0 0,.map none],true⟩] 0 [(2,.v (.bool false)),(7,.p 0 0),(8,.v (.int .i16 v)),(9,.v (.bool (decide (v ≥ 8)))),(10,.p 1 0)] cP fun _ _ gY=>?_)
   clear cP
   refine qaa ?_
   exact ⟨dvT bB (bs (qbs (T.at_ 3))),_,fun w F h_=>⟨(bM _ _ h_).1,⟨(bM _ _ h_).2.1,by show ByteArray.size (bs _) ≤ 1000000; rw [qdg]; exact Nat.le_trans e38_3 (by decide)⟩,⟨fun _=>⟨rfl,(bM _ _ h_).2.2⟩,(fun e_=>by rw [bI] at e_; cases e_)⟩⟩,gY.pk (env':=[(2,.v (.bool false)),(7,.p 0 0),(8,.v (.int .i16 v)),(9,.v (.bool (decide (v ≥ 8)))),(10,.p 1 0)])⟩
  have cQ:=bH.cast (t:=[] ++ cI) (by rw [if_neg (by rw [bI]; decide)])
  clear bH
  have gZ:=cQ.cast (t:=cI) rfl
  clear cQ
  refine wp_skip (qaa ?_)
  exact ⟨dvT none ByteArray.empty,_,fun w F h_=>⟨h_,⟨fun _ h=>(by cases h),Nat.zero_le _⟩,⟨(fun e_=>by rw [bI] at e_; cases e_),fun _=>⟨rfl,rfl⟩⟩⟩,gZ.pk (env':=[(2,.v (.bool false)),(7,.p 0 0),(8,.v (.int .i16 v)),(9,.v (.bool (decide (v ≥ 8)))),(10,.p 1 0)])⟩
 rintro _ _ ⟨ar,ju,bC,g6⟩
 refine qaa (wp_seq ?_)
 have cR:=g6.cast gp
 clear g6
 refine qcn (Mid:=fun a_ w_=>∃ (al:DV) (P':qb8),(∀ w F,P' w F → ju w F ∧ (True) ∧ ((if (decide (v ≥ 2)) = true then decide (v ≤ 4) else false) = true → al.n = IntKind.i64.wrap (T.at_ 4).N) ∧ ((if (decide (v ≥ 2)) = true then decide (v ≤ 4) else false) = false → al.n = -1)) ∧ RS w (fun b o=>b = bv ∧ o < 8) F 250 aJ [⟨bv,0,[.int .i16 v,.string (bs (T.at_ 0).S),.int .i32 ap.n,.string au.s,.pointer ar.A,.int .i64 al.n,.slice none 0 0,.map none],true⟩] [(2,.v (.bool false)),(7,.p 0 0),(8,.v (.int .i16 v)),(9,.v (.bool (decide (v ≥ 8)))),(10,.p 1 0)] P' gc a_ w_) ?_ ?_
 ·
  refine wp_seq (qar [0,1,2,3,4,5] kz ?_)
  refine qcE [0,1,2] [3,4,5] [(2,.v (.bool false)),(7,.p 0 0),(8,.v (.int .i16 v)),(9,.v (.bool (decide (v ≥ 8)))),(10,.p 1 0),(94,.v (.bool (decide (v ≥ 2))))] cR fun _ bq=>?_
  clear cR
  refine (Bool.eq_false_or_eq_true (decide (v ≥ 2))).elim (fun az=>?_) (fun az=>?_)
  ·
   have cS:=bq.envEq (env':=[(2,.v (.bool false)),(7,.p 0 0),(8,.v (.int .i16 v)),(9,.v (.bool (decide (v ≥ 8)))),(10,.p 1 0),(94,.v (.bool true))]) (by rw [az])
   clear bq
   refine qcE [3,4,5] [] [(2,.v (.bool false)),(7,.p 0 0),(8,.v (.int .i16 v)),(9,.v (.bool (decide (v ≥ 8)))),(10,.p 1 0),(97,.v (.bool (decide (v ≤ 4))))] cS fun _ aL=>qaf (qaa ?_)
   clear cS
   refine qax aL.env_ (b:=decide (v ≤ 4)) kz (fun aM=>?_) (fun aM=>?_)
   ·
    have cT:=aL.cast (t:=(be 8 ((T.at_ 4).N)) ++ gc) (by rw [if_pos (by simp only [az,aM,if_true])])
    clear aL
    refine wp_seq (qe3 (d:=98) [(2,.v (.bool false)),(7,.p 0 0),(8,.v (.int .i16 v)),(9,.v (.bool (decide (v ≥ 8)))),(10,.p 1 0),(15,.v (.int .i64 (IntKind.i64.wrap (T.at_ 4).N)))] cT (qki _ _) Tryz.call122 fun _ _ cU=>?_)
    clear cT
    refine qaa (qcS [⟨bv,0,[.int .i16 v,.string (bs (T.at_ 0).S),.int .i32 ap.n,.string au.s,.pointer ar.A,.int .i64 (IntKind.i64.wrap (T.at_ 4).N),.slice none 0 0,.map none],true⟩] 0 [(2,.v (.bool false)),(7,.p 0 0),(8,.v (.int .i16 v)),(9,.v (.bool (decide (v ≥ 8)))),(10,.p 1 0)] cU fun _ _ g7=>?_)
    clear cU
    refine qaa ?_
    exact ⟨dvN (IntKind.i64.wrap (T.at_ 4).N),_,fun w F h_=>⟨h_,trivial,⟨fun _=>rfl,(fun e_=>by simp [az,aM] at e_)⟩⟩,g7.pk (env':=[(2,.v (.bool false)),(7,.p 0 0),(8,.v (.int .i16 v)),(9,.v (.bool (decide (v ≥ 8)))),(10,.p 1 0)])⟩
   have cV:=aL.cast (t:=[] ++ gc) (by rw [if_neg (by simp only [az,aM,if_true,if_false,Bool.false_eq_true]; try decide)])
   clear aL
   have g8:=cV.cast (t:=gc) rfl
   clear cV
   refine wp_skip (qaa ?_)
   exact ⟨dvN (-1),_,fun w F h_=>⟨h_,trivial,⟨(fun e_=>by simp [az,aM] at e_),fun _=>rfl⟩⟩,g8.pk (env':=[(2,.v (.bool false)),(7,.p 0 0),(8,.v (.int .i16 v)),(9,.v (.bool (decide (v ≥ 8)))),(10,.p 1 0)])⟩
  have cW:=bq.envEq (env':=[(2,.v (.bool false)),(7,.p 0 0),(8,.v (.int .i16 v)),(9,.v (.bool (decide (v ≥ 8)))),(10,.p 1 0),(94,.v (.bool false))]) (by rw [az])
  clear bq
  refine qcE [3,4,5] [] [(2,.v (.bool false)),(7,.p 0 0),(8,.v (.int .i16 v)),(9,.v (.bool (decide (v ≥ 8)))),(10,.p 1 0),(97,.v (.bool false))] cW fun _ bN=>qaf (qaa ?_)
  clear cW
  refine qau bN.env_ (b:=false) kz rfl ?_
  have cX:=bN.cast (t:=[] ++ gc) (by rw [if_neg (by simp only [az,if_true,if_false,Bool.false_eq_true]; try decide)])
  clear bN
  have g9:=cX.cast (t:=gc) rfl
  clear cX
  refine wp_skip (qaa ?_)
  exact ⟨dvN (-1),_,fun w F h_=>⟨h_,trivial,⟨(fun e_=>by simp [az] at e_),fun _=>rfl⟩⟩,g9.pk (env':=[(2,.v (.bool false)),(7,.p 0 0),(8,.v (.int .i16 v)),(9,.v (.bool (decide (v ≥ 8)))),(10,.p 1 0)])⟩
 rintro _ _ ⟨al,hC,aC,cY⟩
 refine qaa (wp_seq (wp_seq (qbB [(2,.v (.bool false)),(7,.p 0 0),(8,.v (.int .i16 v)),(9,.v (.bool (decide (v ≥ 8)))),(10,.p 1 0),(16,.v (.slice none 0 0))] cY fun _ cZ=>?_)))
 clear cY
 refine qaa (wp_seq (qbB [(2,.v (.bool false)),(7,.p 0 0),(8,.v (.int .i16 v)),(9,.v (.bool (decide (v ≥ 8)))),(10,.p 1 0),(17,.v (.slice none 0 0))] cZ fun _ da=>?_))
 clear cZ
 refine qaa (wp_seq (qbB [(2,.v (.bool false)),(7,.p 0 0),(8,.v (.int .i16 v)),(9,.v (.bool (decide (v ≥ 8)))),(10,.p 1 0),(17,.v (.slice none 0 0))] da fun _ db=>?_))
 clear da
 refine qaa (wp_seq ?_)
 have dc:=db.cast gn
 clear db
 have de:=dc.cast (t:=(if (decide (v ≥ 8)) = true then (uv ((lst (T.at_ 5)).length + 1)) else (be 4 (lst (T.at_ 5)).length)) ++ (((lst (T.at_ 5)).flatMap (qaG v)) ++ cH)) (by rw [List.append_assoc])
 clear dc
 refine qfN (d1:=109) (d2:=110) [(2,.v (.bool false)),(7,.p 0 0),(8,.v (.int .i16 v)),(9,.v (.bool (decide (v ≥ 8)))),(10,.p 1 0),(17,.v (.slice none 0 0)),(108,.v (.bool (decide (v ≥ 8))))] [(2,.v (.bool false)),(7,.p 0 0),(8,.v (.int .i16 v)),(9,.v (.bool (decide (v ≥ 8)))),(10,.p 1 0),(17,.v (.slice none 0 0)),(18,.v (.int .i32 (((lst (T.at_ 5)).length:Nat):Int)))] de (qdC ((lst (T.at_ 5)).length) e38_5 _ (flat_ge' (qck v) _)) Tryz.call123 (qhf ((lst (T.at_ 5)).length) e38_5 _ (flat_ge' (qck v) _)) Tryz.call124 fun _ _ df=>?_
 clear de
 refine qaa (wp_seq (wp_seq (qmt (d:=111) [(2,.v (.bool false)),(7,.p 0 0),(8,.v (.int .i16 v)),(9,.v (.bool (decide (v ≥ 8)))),(10,.p 1 0),(17,.v (.slice none 0 0)),(18,.v (.int .i32 (((lst (T.at_ 5)).length:Nat):Int))),(112,.v (.bool false))] df (pOk _) Tryz.call125 fun _ _ bO=>?_)))
 clear df
 refine qaa (qau bO.env_ (b:=false) kz (rfl) ?_)
 refine wp_skip (qaa (wp_seq (qkf (t:=76) (e:=135) (size:=19) (bytes:=64) (d:=115) (A0:=none) (m:=0) (cp:=0) [(2,.v (.bool false)),(7,.p 0 0),(8,.v (.int .i16 v)),(9,.v (.bool (decide (v ≥ 8)))),(10,.p 1 0),(18,.v (.int .i32 (((lst (T.at_ 5)).length:Nat):Int))),(114,.v (.slice none 0 0))] [(2,.v (.bool false)),(7,.p 0 0),(8,.v (.int .i16 v)),(9,.v (.bool (decide (v ≥ 8)))),(10,.p 1 0),(17,.v (.slice none 0 0)),(18,.v (.int .i32 (((lst (T.at_ 5)).length:Nat):Int)))] 1 bO fun _ dg=>?_)))
 clear bO
 refine qaa (qil (Mid:=fun a_ w_=>∃ (ak:DV) (P':qb8),(∀ w F,P' w F → hC w F ∧ (Slots w F 19 ak.A ak.c ak.l (fun i=>[.string (((ak.f i).f 0).s),qac (((ak.f i).f 1).o.getD 0 0),qac (((ak.f i).f 1).o.getD 1 0),qac (((ak.f i).f 1).o.getD 2 0),qac (((ak.f i).f 1).o.getD 3 0),qac (((ak.f i).f 1).o.getD 4 0),qac (((ak.f i).f 1).o.getD 5 0),qac (((ak.f i).f 1).o.getD 6 0),qac (((ak.f i).f 1).o.getD 7 0),qac (((ak.f i).f 1).o.getD 8 0),qac (((ak.f i).f 1).o.getD 9 0),qac (((ak.f i).f 1).o.getD 10 0),qac (((ak.f i).f 1).o.getD 11 0),qac (((ak.f i).f 1).o.getD 12 0),qac (((ak.f i).f 1).o.getD 13 0),qac (((ak.f i).f 1).o.getD 14 0),qac (((ak.f i).f 1).o.getD 15 0),.slice (((ak.f i).f 2).A) (((ak.f i).f 2).l) (((ak.f i).f 2).c),.map ((ak.f i).m)]) ∧ ak.l ≤ 1000000 ∧ ∀ i,i < ak.l → qa1 w F (ak.f i)) ∧ (ak.l = (lst (T.at_ 5)).length ∧ ∀ i,i < ak.l → qbb v (ak.f i) ((lst (T.at_ 5)).getD i .zero))) ∧ RS w (fun b o=>b = bv ∧ o < 8) F 250 aJ [⟨bv,0,[.int .i16 v,.string (bs (T.at_ 0).S),.int .i32 ap.n,.string au.s,.pointer ar.A,.int .i64 al.n,.slice none 0 0,.map none],true⟩] [(7,.p 0 0),(9,.v (.bool (decide (v ≥ 8)))),(10,.p 1 0),(17,.v (.slice ak.A ak.l ak.c))] P' cH a_ w_) ?_ ?_)
 ·
  refine wp_seq (qbB [(2,.v (.bool false)),(7,.p 0 0),(8,.v (.int .i16 v)),(9,.v (.bool (decide (v ≥ 8)))),(10,.p 1 0),(17,.v (.slice none 0 0)),(18,.v (.int .i32 (((lst (T.at_ 5)).length:Nat):Int))),(117,.v (.bool (decide ((((lst (T.at_ 5)).length:Nat):Int) > 0))))] dg fun _ aN=>qaa ?_)
  clear dg
  refine qax aN.env_ (b:=decide ((((lst (T.at_ 5)).length:Nat):Int) > 0)) kz (fun bt=>?_) (fun bt=>?_)
  ·
   have hn_g159:0 < (lst (T.at_ 5)).length:=by have h_:=of_decide_eq_true bt; omega
   refine qar [0,1,2,3] kz ?_
   refine qcE [0,1] [2,3] [(2,.v (.bool false)),(7,.p 0 0),(8,.v (.int .i16 v)),(9,.v (.bool (decide (v ≥ 8)))),(10,.p 1 0),(18,.v (.int .i32 (((lst (T.at_ 5)).length:Nat):Int))),(118,.v (.slice none 0 0)),(119,.v (.int .i32 (((lst (T.at_ 5)).length:Nat):Int)))] aN fun _ dh=>?_
   clear aN
   refine qam (qf9 (A0:=none) (d:=120) (t:=76) (tn:=21) (e:=135) (size:=19) (bytes:=64) (k:=.i32) (kn:=.i32) (q:=(((lst (T.at_ 5)).length:Nat):Int)) (j:=(lst (T.at_ 5)).length) (.agg #[.string ByteArray.empty,.int .u8 0,.int .u8 0,.int .u8 0,.int .u8 0,.int .u8 0,.int .u8 0,.int .u8 0,.int .u8 0,.int .u8 0,.int .u8 0,.int .u8 0,.int .u8 0,.int .u8 0,.int .u8 0,.int .u8 0,.int .u8 0,.slice none 0 0,.map none]) dh (fun ac af _ _ hg_g159 hcap_g159 di=>?_) rfl hn_g159 (by have:=e38_5; omega))
   clear dh
   refine qcE [3] [] [(2,.v (.bool false)),(7,.p 0 0),(8,.v (.int .i16 v)),(9,.v (.bool (decide (v ≥ 8)))),(10,.p 1 0),(17,.v (.slice (some ⟨ac,0,none⟩) ((lst (T.at_ 5)).length) af)),(18,.v (.int .i32 (((lst (T.at_ 5)).length:Nat):Int)))] di fun _ dj=>qaf ?_
   clear di
   refine qaa (wp_seq (qbB [(2,.v (.bool false)),(7,.p 0 0),(8,.v (.int .i16 v)),(9,.v (.bool (decide (v ≥ 8)))),(10,.p 1 0),(17,.v (.slice (some ⟨ac,0,none⟩) ((lst (T.at_ 5)).length) af)),(18,.v (.int .i32 (((lst (T.at_ 5)).length:Nat):Int))),(19,.v (.int .i32 0))] dj fun _ bP=>?_))
   clear dj
   refine qaa (wp_block ?_)
   have bQ:=bP.mv
   have hJ:=(bP.cast (t:=(lst (T.at_ 5)).flatMap (qaG v) ++ cH) rfl).pk (env':=[(2,.v (.bool false)),(7,.p 0 0),(8,.v (.int .i16 v)),(9,.v (.bool (decide (v ≥ 8)))),(10,.p 1 0),(17,.v (.slice (some ⟨ac,0,none⟩) ((lst (T.at_ 5)).length) af)),(18,.v (.int .i32 (((lst (T.at_ 5)).length:Nat):Int))),(19,.v (.int .i32 ((0:Nat):Int)))])
   clear bP
   refine qka (tb:=[⟨bv,0,[.int .i16 v,.string (bs (T.at_ 0).S),.int .i32 ap.n,.string au.s,.pointer ar.A,.int .i64 al.n,.slice none 0 0,.map none],true⟩]) (z:=.agg #[.string ByteArray.empty,.int .u8 0,.int .u8 0,.int .u8 0,.int .u8 0,.int .u8 0,.int .u8 0,.int .u8 0,.int .u8 0,.int .u8 0,.int .u8 0,.int .u8 0,.int .u8 0,.int .u8 0,.int .u8 0,.int .u8 0,.int .u8 0,.slice none 0 0,.map none]) (cl:=qcp) (ok:=qa1) (rel:=(qbb v)) (L:=lst (T.at_ 5)) (size:=19) (qaG v) cH (fun k=>[(2,.v (.bool false)),(7,.p 0 0),(8,.v (.int .i16 v)),(9,.v (.bool (decide (v ≥ 8)))),(10,.p 1 0),(17,.v (.slice (some ⟨ac,0,none⟩) ((lst (T.at_ 5)).length) af)),(18,.v (.int .i32 (((lst (T.at_ 5)).length:Nat):Int))),(19,.v (.int .i32 ((k:Nat):Int)))]) hJ qbw (fun ae ab _ _ bR hK dl=>?_) (fun _ _ dp=>?_)
   ·
    obtain ⟨iU,dq,dr⟩:∃ P',(∀ w F,P' w F → (hC w F ∧ qfS ac 19 qcp qa1 (qbb v) (lst (T.at_ 5)) ae w F)) ∧ RS w (fun b o=>b = bv ∧ o < 8) F 250 aJ [⟨bv,0,[.int .i16 v,.string (bs (T.at_ 0).S),.int .i32 ap.n,.string au.s,.pointer ar.A,.int .i64 al.n,.slice none 0 0,.map none],true⟩,qbj ac 19 (.agg #[.string ByteArray.empty,.int .u8 0,.int .u8 0,.int .u8 0,.int .u8 0,.int .u8 0,.int .u8 0,.int .u8 0,.int .u8 0,.int .u8 0,.int .u8 0,.int .u8 0,.int .u8 0,.int .u8 0,.int .u8 0,.int .u8 0,.int .u8 0,.slice none 0 0,.map none]) ((lst (T.at_ 5)).length) ae] [(2,.v (.bool false)),(7,.p 0 0),(8,.v (.int .i16 v)),(9,.v (.bool (decide (v ≥ 8)))),(10,.p 1 0),(17,.v (.slice (some ⟨ac,0,none⟩) ((lst (T.at_ 5)).length) af)),(18,.v (.int .i32 (((lst (T.at_ 5)).length:Nat):Int))),(19,.v (.int .i32 ((ae:Nat):Int)))] P' ((qaG v) ab ++ (((lst (T.at_ 5)).drop (ae + 1)).flatMap (qaG v) ++ cH)) _ _:=⟨_,fun _ _ h=>h,dl⟩
    clear dl
    obtain ⟨bS,dt⟩:∃ R,R = ((lst (T.at_ 5)).drop (ae + 1)).flatMap (qaG v) ++ cH:=⟨_,rfl⟩
    have hZ:=(e38_5e ab (List.mem_of_getElem? bR))
    have e178r:=(qf7 (qfM e38r 5) ab (List.mem_of_getElem? bR))
    unfold qbt at hZ
    obtain ⟨e178_0,e178_1,⟨e178_2,e178_2e⟩,e178_U,_⟩:=hZ
    obtain ⟨aO,du⟩:∃ R,R = (if (decide (v ≥ 8)) = true then (uv ab.U.length) ++ (qbx ab.U) else []) ++ bS:=⟨_,rfl⟩
    obtain ⟨bT,dv⟩:∃ R,R = ((if (decide (v ≥ 8)) = true then (uv ((lst (ab.at_ 2)).length + 1)) else (be 4 (lst (ab.at_ 2)).length)) ++ ((lst (ab.at_ 2)).flatMap (qav v))) ++ aO:=⟨_,rfl⟩
    obtain ⟨bj,dw⟩:∃ R,R = (if (decide (v ≥ 10)) = true then (qap (ab.at_ 1).S) else []) ++ bT:=⟨_,rfl⟩
    obtain ⟨iV,dx⟩:∃ R,R = (if ((if (decide (v ≥ 0)) = true then decide (v ≤ 9) else false)) = true then if (decide (v ≥ 8)) = true then (uv ((ab.at_ 0).S.length + 1) ++ (ab.at_ 0).S) else (be 2 (ab.at_ 0).S.length ++ (ab.at_ 0).S) else []) ++ bj:=⟨_,rfl⟩
    have dy:=dr.cast (t:=iV) (by rw [dx,dw,dv,du,← dt]; unfold qaG; simp only [List.append_assoc])
    clear dr
    refine wp_seq (wp_seq (qbB [(2,.v (.bool false)),(7,.p 0 0),(8,.v (.int .i16 v)),(9,.v (.bool (decide (v ≥ 8)))),(10,.p 1 0),(17,.v (.slice (some ⟨ac,0,none⟩) ((lst (T.at_ 5)).length) af)),(18,.v (.int .i32 (((lst (T.at_ 5)).length:Nat):Int))),(19,.v (.int .i32 ((ae:Nat):Int))),(123,.v (.bool (decide (((ae:Nat):Int) < (((lst (T.at_ 5)).length:Nat):Int)))))] dy fun _ bU=>qaa ?_))
    clear dy
    refine qbF bU.env_ (b:=decide (((ae:Nat):Int) < (((lst (T.at_ 5)).length:Nat):Int))) kz (decide_eq_true (by omega)) ?_
    refine wp_skip (qaa (wp_seq (wp_block (wp_seq (qkg (t:=76) (e:=135) (size:=19) (bytes:=64) (d:=128) (tb:=[⟨bv,0,[.int .i16 v,.string (bs (T.at_ 0).S),.int .i32 ap.n,.string au.s,.pointer ar.A,.int .i64 al.n,.slice none 0 0,.map none],true⟩]) (z:=.agg #[.string ByteArray.empty,.int .u8 0,.int .u8 0,.int .u8 0,.int .u8 0,.int .u8 0,.int .u8 0,.int .u8 0,.int .u8 0,.int .u8 0,.int .u8 0,.int .u8 0,.int .u8 0,.int .u8 0,.int .u8 0,.int .u8 0,.int .u8 0,.slice none 0 0,.map none]) [(2,.v (.bool false)),(7,.p 0 0),(8,.v (.int .i16 v)),(9,.v (.bool (decide (v ≥ 8)))),(10,.p 1 0),(17,.v (.slice (some ⟨ac,0,none⟩) ((lst (T.at_ 5)).length) af)),(18,.v (.int .i32 (((lst (T.at_ 5)).length:Nat):Int))),(19,.v (.int .i32 ((ae:Nat):Int))),(126,.v (.slice (some ⟨ac,0,none⟩) ((lst (T.at_ 5)).length) af)),(127,.v (.int .i32 ((ae:Nat):Int)))] [(2,.v (.bool false)),(7,.p 0 0),(8,.v (.int .i16 v)),(9,.v (.bool (decide (v ≥ 8)))),(10,.p 1 0),(17,.v (.slice (some ⟨ac,0,none⟩) ((lst (T.at_ 5)).length) af)),(18,.v (.int .i32 (((lst (T.at_ 5)).length:Nat):Int))),(19,.v (.int .i32 ((ae:Nat):Int))),(20,.p 3 0)] 2 bU hK rfl kz fun _ dz=>?_)))))
    clear bU
    have dA:=dz.tbEq (tb':=[⟨bv,0,[.int .i16 v,.string (bs (T.at_ 0).S),.int .i32 ap.n,.string au.s,.pointer ar.A,.int .i64 al.n,.slice none 0 0,.map none],true⟩,qbj ac 19 (.agg #[.string ByteArray.empty,.int .u8 0,.int .u8 0,.int .u8 0,.int .u8 0,.int .u8 0,.int .u8 0,.int .u8 0,.int .u8 0,.int .u8 0,.int .u8 0,.int .u8 0,.int .u8 0,.int .u8 0,.int .u8 0,.int .u8 0,.int .u8 0,.slice none 0 0,.map none]) ((lst (T.at_ 5)).length) (ae + 1),⟨ac,ae * 19,[.string ByteArray.empty,.int .u8 0,.int .u8 0,.int .u8 0,.int .u8 0,.int .u8 0,.int .u8 0,.int .u8 0,.int .u8 0,.int .u8 0,.int .u8 0,.int .u8 0,.int .u8 0,.int .u8 0,.int .u8 0,.int .u8 0,.int .u8 0,.slice none 0 0,.map none],true⟩]) rfl
    clear dz
    refine qaa (wp_seq (qar [0,1] kz ?_))
    refine qcE [0] [1] [(2,.v (.bool false)),(7,.p 0 0),(8,.v (.int .i16 v)),(9,.v (.bool (decide (v ≥ 8)))),(10,.p 1 0),(17,.v (.slice (some ⟨ac,0,none⟩) ((lst (T.at_ 5)).length) af)),(18,.v (.int .i32 (((lst (T.at_ 5)).length:Nat):Int))),(19,.v (.int .i32 ((ae:Nat):Int))),(20,.p 3 0),(129,.p 3 0)] dA fun _ dB=>?_
    clear dA
    refine qam (qms (d:=130) (vs:=[.pointer (some ⟨ac,ae * 19,none⟩)]) dB (fun _=>qmy _ _ _) Tryz.call127 fun _ dC=>?_)
    clear dB
    refine qaf ?_
    have dD:=dC.pk (env':=[(2,.v (.bool false)),(7,.p 0 0),(8,.v (.int .i16 v)),(9,.v (.bool (decide (v ≥ 8)))),(10,.p 1 0),(17,.v (.slice (some ⟨ac,0,none⟩) ((lst (T.at_ 5)).length) af)),(18,.v (.int .i32 (((lst (T.at_ 5)).length:Nat):Int))),(19,.v (.int .i32 ((ae:Nat):Int))),(20,.p 3 0)])
    clear dC
    refine qaa (wp_seq (qbB [(2,.v (.bool false)),(7,.p 0 0),(8,.v (.int .i16 v)),(9,.v (.bool (decide (v ≥ 8)))),(10,.p 1 0),(17,.v (.slice (some ⟨ac,0,none⟩) ((lst (T.at_ 5)).length) af)),(18,.v (.int .i32 (((lst (T.at_ 5)).length:Nat):Int))),(19,.v (.int .i32 ((ae:Nat):Int))),(21,.p 3 0)] dD fun _ dE=>?_))
    clear dD
    refine qaa (wp_seq ?_)
    have dF:=dE.cast dx
    clear dE
    refine qcn (Mid:=fun a_ w_=>∃ (am:DV) (P':qb8),(∀ w F,P' w F → iU w F ∧ (am.s.size ≤ 1000000) ∧ ((if (decide (v ≥ 0)) = true then decide (v ≤ 9) else false) = true → am.s = bs (ab.at_ 0).S) ∧ ((if (decide (v ≥ 0)) = true then decide (v ≤ 9) else false) = false → am.s = ByteArray.empty)) ∧ RS w (fun b o=>b = bv ∧ o < 8) F 250 aJ [⟨bv,0,[.int .i16 v,.string (bs (T.at_ 0).S),.int .i32 ap.n,.string au.s,.pointer ar.A,.int .i64 al.n,.slice none 0 0,.map none],true⟩,qbj ac 19 (.agg #[.string ByteArray.empty,.int .u8 0,.int .u8 0,.int .u8 0,.int .u8 0,.int .u8 0,.int .u8 0,.int .u8 0,.int .u8 0,.int .u8 0,.int .u8 0,.int .u8 0,.int .u8 0,.int .u8 0,.int .u8 0,.int .u8 0,.int .u8 0,.slice none 0 0,.map none]) ((lst (T.at_ 5)).length) (ae + 1),⟨ac,ae * 19,[.string am.s,.int .u8 0,.int .u8 0,.int .u8 0,.int .u8 0,.int .u8 0,.int .u8 0,.int .u8 0,.int .u8 0,.int .u8 0,.int .u8 0,.int .u8 0,.int .u8 0,.int .u8 0,.int .u8 0,.int .u8 0,.int .u8 0,.slice none 0 0,.map none],true⟩] [(2,.v (.bool false)),(7,.p 0 0),(8,.v (.int .i16 v)),(9,.v (.bool (decide (v ≥ 8)))),(10,.p 1 0),(17,.v (.slice (some ⟨ac,0,none⟩) ((lst (T.at_ 5)).length) af)),(18,.v (.int .i32 (((lst (T.at_ 5)).length:Nat):Int))),(19,.v (.int .i32 ((ae:Nat):Int))),(21,.p 3 0)] P' bj a_ w_) ?_ ?_
    ·
     refine wp_seq (qar [0,1,2,3,4,5] kz ?_)
     refine qcE [0,1,2] [3,4,5] [(2,.v (.bool false)),(7,.p 0 0),(8,.v (.int .i16 v)),(9,.v (.bool (decide (v ≥ 8)))),(10,.p 1 0),(17,.v (.slice (some ⟨ac,0,none⟩) ((lst (T.at_ 5)).length) af)),(18,.v (.int .i32 (((lst (T.at_ 5)).length:Nat):Int))),(19,.v (.int .i32 ((ae:Nat):Int))),(21,.p 3 0),(134,.v (.bool (decide (v ≥ 0))))] dF fun _ bu=>?_
     clear dF
     refine (Bool.eq_false_or_eq_true (decide (v ≥ 0))).elim (fun aA=>?_) (fun aA=>?_)
     ·
      have dG:=bu.envEq (env':=[(2,.v (.bool false)),(7,.p 0 0),(8,.v (.int .i16 v)),(9,.v (.bool (decide (v ≥ 8)))),(10,.p 1 0),(17,.v (.slice (some ⟨ac,0,none⟩) ((lst (T.at_ 5)).length) af)),(18,.v (.int .i32 (((lst (T.at_ 5)).length:Nat):Int))),(19,.v (.int .i32 ((ae:Nat):Int))),(21,.p 3 0),(134,.v (.bool true))]) (by rw [aA])
      clear bu
      refine qcE [3,4,5] [] [(2,.v (.bool false)),(7,.p 0 0),(8,.v (.int .i16 v)),(9,.v (.bool (decide (v ≥ 8)))),(10,.p 1 0),(17,.v (.slice (some ⟨ac,0,none⟩) ((lst (T.at_ 5)).length) af)),(18,.v (.int .i32 (((lst (T.at_ 5)).length:Nat):Int))),(19,.v (.int .i32 ((ae:Nat):Int))),(21,.p 3 0),(137,.v (.bool (decide (v ≤ 9))))] dG fun _ aP=>qaf (qaa ?_)
      clear dG
      refine qax aP.env_ (b:=decide (v ≤ 9)) kz (fun aQ=>?_) (fun aQ=>?_)
      ·
       have dH:=aP.cast (t:=(if (decide (v ≥ 8)) = true then (uv ((ab.at_ 0).S.length + 1) ++ (ab.at_ 0).S) else (be 2 (ab.at_ 0).S.length ++ (ab.at_ 0).S)) ++ bj) (by rw [if_pos (by simp only [aA,aQ,if_true])])
       clear aP
       refine wp_seq (qbB [(2,.v (.bool false)),(7,.p 0 0),(8,.v (.int .i16 v)),(9,.v (.bool (decide (v ≥ 8)))),(10,.p 1 0),(17,.v (.slice (some ⟨ac,0,none⟩) ((lst (T.at_ 5)).length) af)),(18,.v (.int .i32 (((lst (T.at_ 5)).length:Nat):Int))),(19,.v (.int .i32 ((ae:Nat):Int))),(21,.p 3 0)] dH fun _ dI=>?_)
       clear dH
       refine qaa (wp_seq (wp_seq (qbB [(2,.v (.bool false)),(7,.p 0 0),(8,.v (.int .i16 v)),(9,.v (.bool (decide (v ≥ 8)))),(10,.p 1 0),(17,.v (.slice (some ⟨ac,0,none⟩) ((lst (T.at_ 5)).length) af)),(18,.v (.int .i32 (((lst (T.at_ 5)).length:Nat):Int))),(19,.v (.int .i32 ((ae:Nat):Int))),(21,.p 3 0),(138,.v (.bool false))] dI fun _ bV=>qaa ?_)))
       clear dI
       refine qau bV.env_ (b:=false) kz (rfl) ?_
       refine qfN (d1:=143) (d2:=144) [(2,.v (.bool false)),(7,.p 0 0),(8,.v (.int .i16 v)),(9,.v (.bool (decide (v ≥ 8)))),(10,.p 1 0),(17,.v (.slice (some ⟨ac,0,none⟩) ((lst (T.at_ 5)).length) af)),(18,.v (.int .i32 (((lst (T.at_ 5)).length:Nat):Int))),(19,.v (.int .i32 ((ae:Nat):Int))),(21,.p 3 0),(142,.v (.bool (decide (v ≥ 8))))] [(2,.v (.bool false)),(7,.p 0 0),(8,.v (.int .i16 v)),(9,.v (.bool (decide (v ≥ 8)))),(10,.p 1 0),(17,.v (.slice (some ⟨ac,0,none⟩) ((lst (T.at_ 5)).length) af)),(18,.v (.int .i32 (((lst (T.at_ 5)).length:Nat):Int))),(19,.v (.int .i32 ((ae:Nat):Int))),(21,.p 3 0),(22,.v (.string (bs (ab.at_ 0).S)))] bV (qdi (ab.at_ 0).S e178_0 _) Tryz.call115 (qhR (ab.at_ 0).S e178_0 _) Tryz.call116 fun _ _ dJ=>?_
       clear bV
       refine qaa (qcS [⟨bv,0,[.int .i16 v,.string (bs (T.at_ 0).S),.int .i32 ap.n,.string au.s,.pointer ar.A,.int .i64 al.n,.slice none 0 0,.map none],true⟩,qbj ac 19 (.agg #[.string ByteArray.empty,.int .u8 0,.int .u8 0,.int .u8 0,.int .u8 0,.int .u8 0,.int .u8 0,.int .u8 0,.int .u8 0,.int .u8 0,.int .u8 0,.int .u8 0,.int .u8 0,.int .u8 0,.int .u8 0,.int .u8 0,.int .u8 0,.slice none 0 0,.map none]) ((lst (T.at_ 5)).length) (ae + 1),⟨ac,ae * 19,[.string (bs (ab.at_ 0).S),.int .u8 0,.int .u8 0,.int .u8 0,.int .u8 0,.int .u8 0,.int .u8 0,.int .u8 0,.int .u8 0,.int .u8 0,.int .u8 0,.int .u8 0,.int .u8 0,.int .u8 0,.int .u8 0,.int .u8 0,.int .u8 0,.slice none 0 0,.map none],true⟩] 2 [(2,.v (.bool false)),(7,.p 0 0),(8,.v (.int .i16 v)),(9,.v (.bool (decide (v ≥ 8)))),(10,.p 1 0),(17,.v (.slice (some ⟨ac,0,none⟩) ((lst (T.at_ 5)).length) af)),(18,.v (.int .i32 (((lst (T.at_ 5)).length:Nat):Int))),(19,.v (.int .i32 ((ae:Nat):Int))),(21,.p 3 0)] dJ fun _ _ ia=>?_)
       clear dJ
       refine qaa ?_
       exact ⟨dvS (bs (ab.at_ 0).S),_,fun w F h_=>⟨h_,by show ByteArray.size (bs _) ≤ 1000000; rw [qdg]; exact Nat.le_trans e178_0 (by decide),⟨fun _=>rfl,(fun e_=>by simp [aA,aQ] at e_)⟩⟩,ia.pk (env':=[(2,.v (.bool false)),(7,.p 0 0),(8,.v (.int .i16 v)),(9,.v (.bool (decide (v ≥ 8)))),(10,.p 1 0),(17,.v (.slice (some ⟨ac,0,none⟩) ((lst (T.at_ 5)).length) af)),(18,.v (.int .i32 (((lst (T.at_ 5)).length:Nat):Int))),(19,.v (.int .i32 ((ae:Nat):Int))),(21,.p 3 0)])⟩
      have dK:=aP.cast (t:=[] ++ bj) (by rw [if_neg (by simp only [aA,aQ,if_true,if_false,Bool.false_eq_true]; try decide)])
      clear aP
      have ib:=dK.cast (t:=bj) rfl
      clear dK
      refine wp_skip (qaa ?_)
      exact ⟨dvS ByteArray.empty,_,fun w F h_=>⟨h_,Nat.zero_le _,⟨(fun e_=>by simp [aA,aQ] at e_),fun _=>rfl⟩⟩,ib.pk (env':=[(2,.v (.bool false)),(7,.p 0 0),(8,.v (.int .i16 v)),(9,.v (.bool (decide (v ≥ 8)))),(10,.p 1 0),(17,.v (.slice (some ⟨ac,0,none⟩) ((lst (T.at_ 5)).length) af)),(18,.v (.int .i32 (((lst (T.at_ 5)).length:Nat):Int))),(19,.v (.int .i32 ((ae:Nat):Int))),(21,.p 3 0)])⟩
     have dL:=bu.envEq (env':=[(2,.v (.bool false)),(7,.p 0 0),(8,.v (.int .i16 v)),(9,.v (.bool (decide (v ≥ 8)))),(10,.p 1 0),(17,.v (.slice (some ⟨ac,0,none⟩) ((lst (T.at_ 5)).length) af)),(18,.v (.int .i32 (((lst (T.at_ 5)).length:Nat):Int))),(19,.v (.int .i32 ((ae:Nat):Int))),(21,.p 3 0),(134,.v (.bool false))]) (by rw [aA])
     clear bu
     refine qcE [3,4,5] [] [(2,.v (.bool false)),(7,.p 0 0),(8,.v (.int .i16 v)),(9,.v (.bool (decide (v ≥ 8)))),(10,.p 1 0),(17,.v (.slice (some ⟨ac,0,none⟩) ((lst (T.at_ 5)).length) af)),(18,.v (.int .i32 (((lst (T.at_ 5)).length:Nat):Int))),(19,.v (.int .i32 ((ae:Nat):Int))),(21,.p 3 0),(137,.v (.bool false))] dL fun _ bW=>qaf (qaa ?_)
     clear dL
     refine qau bW.env_ (b:=false) kz rfl ?_
     have dM:=bW.cast (t:=[] ++ bj) (by rw [if_neg (by simp only [aA,if_true,if_false,Bool.false_eq_true]; try decide)])
     clear bW
     have ic:=dM.cast (t:=bj) rfl
     clear dM
     refine wp_skip (qaa ?_)
     exact ⟨dvS ByteArray.empty,_,fun w F h_=>⟨h_,Nat.zero_le _,⟨(fun e_=>by simp [aA] at e_),fun _=>rfl⟩⟩,ic.pk (env':=[(2,.v (.bool false)),(7,.p 0 0),(8,.v (.int .i16 v)),(9,.v (.bool (decide (v ≥ 8)))),(10,.p 1 0),(17,.v (.slice (some ⟨ac,0,none⟩) ((lst (T.at_ 5)).length) af)),(18,.v (.int .i32 (((lst (T.at_ 5)).length:Nat):Int))),(19,.v (.int .i32 ((ae:Nat):Int))),(21,.p 3 0)])⟩
    rintro _ _ ⟨am,iW,bw,dN⟩
    refine qaa (wp_seq ?_)
    have dO:=dN.cast dw
    clear dN
    refine qcn (Mid:=fun a_ w_=>∃ (aa:DV) (P':qb8),(∀ w F,P' w F → iW w F ∧ (aa.o.length = 16) ∧ ((decide (v ≥ 10)) = true → aa.o = qap (ab.at_ 1).S) ∧ ((decide (v ≥ 10)) = false → aa.o = List.replicate 16 0)) ∧ RS w (fun b o=>b = bv ∧ o < 8) F 250 aJ [⟨bv,0,[.int .i16 v,.string (bs (T.at_ 0).S),.int .i32 ap.n,.string au.s,.pointer ar.A,.int .i64 al.n,.slice none 0 0,.map none],true⟩,qbj ac 19 (.agg #[.string ByteArray.empty,.int .u8 0,.int .u8 0,.int .u8 0,.int .u8 0,.int .u8 0,.int .u8 0,.int .u8 0,.int .u8 0,.int .u8 0,.int .u8 0,.int .u8 0,.int .u8 0,.int .u8 0,.int .u8 0,.int .u8 0,.int .u8 0,.slice none 0 0,.map none]) ((lst (T.at_ 5)).length) (ae + 1),⟨ac,ae * 19,[.string am.s,qac (aa.o.getD 0 0),qac (aa.o.getD 1 0),qac (aa.o.getD 2 0),qac (aa.o.getD 3 0),qac (aa.o.getD 4 0),qac (aa.o.getD 5 0),qac (aa.o.getD 6 0),qac (aa.o.getD 7 0),qac (aa.o.getD 8 0),qac (aa.o.getD 9 0),qac (aa.o.getD 10 0),qac (aa.o.getD 11 0),qac (aa.o.getD 12 0),qac (aa.o.getD 13 0),qac (aa.o.getD 14 0),qac (aa.o.getD 15 0),.slice none 0 0,.map none],true⟩] [(2,.v (.bool false)),(7,.p 0 0),(8,.v (.int .i16 v)),(9,.v (.bool (decide (v ≥ 8)))),(10,.p 1 0),(17,.v (.slice (some ⟨ac,0,none⟩) ((lst (T.at_ 5)).length) af)),(18,.v (.int .i32 (((lst (T.at_ 5)).length:Nat):Int))),(19,.v (.int .i32 ((ae:Nat):Int))),(21,.p 3 0)] P' bT a_ w_) ?_ ?_
    ·
     refine wp_seq (qbB [(2,.v (.bool false)),(7,.p 0 0),(8,.v (.int .i16 v)),(9,.v (.bool (decide (v ≥ 8)))),(10,.p 1 0),(17,.v (.slice (some ⟨ac,0,none⟩) ((lst (T.at_ 5)).length) af)),(18,.v (.int .i32 (((lst (T.at_ 5)).length:Nat):Int))),(19,.v (.int .i32 ((ae:Nat):Int))),(21,.p 3 0),(150,.v (.bool (decide (v ≥ 10))))] dO fun _ aR=>qaa ?_)
     clear dO
     refine qax aR.env_ (b:=decide (v ≥ 10)) kz (fun aS=>?_) (fun aS=>?_)
     ·
      have dP:=aR.cast (t:=(qap (ab.at_ 1).S) ++ bT) (by rw [if_pos aS])
      clear aR
      refine wp_seq (qar [0,1,2] kz ?_)
      refine qam (qij (d:=151) dP (qmK (ab.at_ 1).S _) Tryz.call128 fun _ _ dQ=>?_)
      clear dP
      refine qam (qkS (d:=23) z22 dQ fun gg _ _ hb_b227 dR=>?_)
      clear dQ
      have dS:=(dR.tbEq (tb':=[⟨bv,0,[.int .i16 v,.string (bs (T.at_ 0).S),.int .i32 ap.n,.string au.s,.pointer ar.A,.int .i64 al.n,.slice none 0 0,.map none],true⟩,qbj ac 19 (.agg #[.string ByteArray.empty,.int .u8 0,.int .u8 0,.int .u8 0,.int .u8 0,.int .u8 0,.int .u8 0,.int .u8 0,.int .u8 0,.int .u8 0,.int .u8 0,.int .u8 0,.int .u8 0,.int .u8 0,.int .u8 0,.int .u8 0,.int .u8 0,.slice none 0 0,.map none]) ((lst (T.at_ 5)).length) (ae + 1),⟨ac,ae * 19,[.string am.s,.int .u8 0,.int .u8 0,.int .u8 0,.int .u8 0,.int .u8 0,.int .u8 0,.int .u8 0,.int .u8 0,.int .u8 0,.int .u8 0,.int .u8 0,.int .u8 0,.int .u8 0,.int .u8 0,.int .u8 0,.int .u8 0,.slice none 0 0,.map none],true⟩,⟨gg,0,z22,true⟩]) rfl).pk (env':=[(2,.v (.bool false)),(7,.p 0 0),(8,.v (.int .i16 v)),(9,.v (.bool (decide (v ≥ 8)))),(10,.p 1 0),(17,.v (.slice (some ⟨ac,0,none⟩) ((lst (T.at_ 5)).length) af)),(18,.v (.int .i32 (((lst (T.at_ 5)).length:Nat):Int))),(19,.v (.int .i32 ((ae:Nat):Int))),(21,.p 3 0),(150,.v (.bool (decide (v ≥ 10)))),(151,.v (.agg #[qac ((qap (ab.at_ 1).S).getD 0 0),qac ((qap (ab.at_ 1).S).getD 1 0),qac ((qap (ab.at_ 1).S).getD 2 0),qac ((qap (ab.at_ 1).S).getD 3 0),qac ((qap (ab.at_ 1).S).getD 4 0),qac ((qap (ab.at_ 1).S).getD 5 0),qac ((qap (ab.at_ 1).S).getD 6 0),qac ((qap (ab.at_ 1).S).getD 7 0),qac ((qap (ab.at_ 1).S).getD 8 0),qac ((qap (ab.at_ 1).S).getD 9 0),qac ((qap (ab.at_ 1).S).getD 10 0),qac ((qap (ab.at_ 1).S).getD 11 0),qac ((qap (ab.at_ 1).S).getD 12 0),qac ((qap (ab.at_ 1).S).getD 13 0),qac ((qap (ab.at_ 1).S).getD 14 0),qac ((qap (ab.at_ 1).S).getD 15 0)])),(23,.p 4 0)])
      clear dR
      refine qam (qfs [⟨bv,0,[.int .i16 v,.string (bs (T.at_ 0).S),.int .i32 ap.n,.string au.s,.pointer ar.A,.int .i64 al.n,.slice none 0 0,.map none],true⟩,qbj ac 19 (.agg #[.string ByteArray.empty,.int .u8 0,.int .u8 0,.int .u8 0,.int .u8 0,.int .u8 0,.int .u8 0,.int .u8 0,.int .u8 0,.int .u8 0,.int .u8 0,.int .u8 0,.int .u8 0,.int .u8 0,.int .u8 0,.int .u8 0,.int .u8 0,.slice none 0 0,.map none]) ((lst (T.at_ 5)).length) (ae + 1),⟨ac,ae * 19,[.string am.s,.int .u8 0,.int .u8 0,.int .u8 0,.int .u8 0,.int .u8 0,.int .u8 0,.int .u8 0,.int .u8 0,.int .u8 0,.int .u8 0,.int .u8 0,.int .u8 0,.int .u8 0,.int .u8 0,.int .u8 0,.int .u8 0,.slice none 0 0,.map none],true⟩,⟨gg,0,[qac ((qap (ab.at_ 1).S).getD 0 0),qac ((qap (ab.at_ 1).S).getD 1 0),qac ((qap (ab.at_ 1).S).getD 2 0),qac ((qap (ab.at_ 1).S).getD 3 0),qac ((qap (ab.at_ 1).S).getD 4 0),qac ((qap (ab.at_ 1).S).getD 5 0),qac ((qap (ab.at_ 1).S).getD 6 0),qac ((qap (ab.at_ 1).S).getD 7 0),qac ((qap (ab.at_ 1).S).getD 8 0),qac ((qap (ab.at_ 1).S).getD 9 0),qac ((qap (ab.at_ 1).S).getD 10 0),qac ((qap (ab.at_ 1).S).getD 11 0),qac ((qap (ab.at_ 1).S).getD 12 0),qac ((qap (ab.at_ 1).S).getD 13 0),qac ((qap (ab.at_ 1).S).getD 14 0),qac ((qap (ab.at_ 1).S).getD 15 0)],true⟩] 3 dS fun _ dT=>?_)
      clear dS
      refine qaf ?_
      have dU:=dT.pk (env':=[(2,.v (.bool false)),(7,.p 0 0),(8,.v (.int .i16 v)),(9,.v (.bool (decide (v ≥ 8)))),(10,.p 1 0),(17,.v (.slice (some ⟨ac,0,none⟩) ((lst (T.at_ 5)).length) af)),(18,.v (.int .i32 (((lst (T.at_ 5)).length:Nat):Int))),(19,.v (.int .i32 ((ae:Nat):Int))),(21,.p 3 0),(23,.p 4 0)])
      clear dT
      refine qaa (qcS [⟨bv,0,[.int .i16 v,.string (bs (T.at_ 0).S),.int .i32 ap.n,.string au.s,.pointer ar.A,.int .i64 al.n,.slice none 0 0,.map none],true⟩,qbj ac 19 (.agg #[.string ByteArray.empty,.int .u8 0,.int .u8 0,.int .u8 0,.int .u8 0,.int .u8 0,.int .u8 0,.int .u8 0,.int .u8 0,.int .u8 0,.int .u8 0,.int .u8 0,.int .u8 0,.int .u8 0,.int .u8 0,.int .u8 0,.int .u8 0,.slice none 0 0,.map none]) ((lst (T.at_ 5)).length) (ae + 1),⟨ac,ae * 19,[.string am.s,qac ((qap (ab.at_ 1).S).getD 0 0),qac ((qap (ab.at_ 1).S).getD 1 0),qac ((qap (ab.at_ 1).S).getD 2 0),qac ((qap (ab.at_ 1).S).getD 3 0),qac ((qap (ab.at_ 1).S).getD 4 0),qac ((qap (ab.at_ 1).S).getD 5 0),qac ((qap (ab.at_ 1).S).getD 6 0),qac ((qap (ab.at_ 1).S).getD 7 0),qac ((qap (ab.at_ 1).S).getD 8 0),qac ((qap (ab.at_ 1).S).getD 9 0),qac ((qap (ab.at_ 1).S).getD 10 0),qac ((qap (ab.at_ 1).S).getD 11 0),qac ((qap (ab.at_ 1).S).getD 12 0),qac ((qap (ab.at_ 1).S).getD 13 0),qac ((qap (ab.at_ 1).S).getD 14 0),qac ((qap (ab.at_ 1).S).getD 15 0),.slice none 0 0,.map none],true⟩,⟨gg,0,[qac ((qap (ab.at_ 1).S).getD 0 0),qac ((qap (ab.at_ 1).S).getD 1 0),qac ((qap (ab.at_ 1).S).getD 2 0),qac ((qap (ab.at_ 1).S).getD 3 0),qac ((qap (ab.at_ 1).S).getD 4 0),qac ((qap (ab.at_ 1).S).getD 5 0),qac ((qap (ab.at_ 1).S).getD 6 0),qac ((qap (ab.at_ 1).S).getD 7 0),qac ((qap (ab.at_ 1).S).getD 8 0),qac ((qap (ab.at_ 1).S).getD 9 0),qac ((qap (ab.at_ 1).S).getD 10 0),qac ((qap (ab.at_ 1).S).getD 11 0),qac ((qap (ab.at_ 1).S).getD 12 0),qac ((qap (ab.at_ 1).S).getD 13 0),qac ((qap (ab.at_ 1).S).getD 14 0),qac ((qap (ab.at_ 1).S).getD 15 0)],true⟩] 2 [(2,.v (.bool false)),(7,.p 0 0),(8,.v (.int .i16 v)),(9,.v (.bool (decide (v ≥ 8)))),(10,.p 1 0),(17,.v (.slice (some ⟨ac,0,none⟩) ((lst (T.at_ 5)).length) af)),(18,.v (.int .i32 (((lst (T.at_ 5)).length:Nat):Int))),(19,.v (.int .i32 ((ae:Nat):Int))),(21,.p 3 0)] dU fun _ _ dV=>?_)
      clear dU
      have ig:=RS.dropT (tb:=[⟨bv,0,[.int .i16 v,.string (bs (T.at_ 0).S),.int .i32 ap.n,.string au.s,.pointer ar.A,.int .i64 al.n,.slice none 0 0,.map none],true⟩,qbj ac 19 (.agg #[.string ByteArray.empty,.int .u8 0,.int .u8 0,.int .u8 0,.int .u8 0,.int .u8 0,.int .u8 0,.int .u8 0,.int .u8 0,.int .u8 0,.int .u8 0,.int .u8 0,.int .u8 0,.int .u8 0,.int .u8 0,.int .u8 0,.int .u8 0,.slice none 0 0,.map none]) ((lst (T.at_ 5)).length) (ae + 1),⟨ac,ae * 19,[.string am.s,qac ((qap (ab.at_ 1).S).getD 0 0),qac ((qap (ab.at_ 1).S).getD 1 0),qac ((qap (ab.at_ 1).S).getD 2 0),qac ((qap (ab.at_ 1).S).getD 3 0),qac ((qap (ab.at_ 1).S).getD 4 0),qac ((qap (ab.at_ 1).S).getD 5 0),qac ((qap (ab.at_ 1).S).getD 6 0),qac ((qap (ab.at_ 1).S).getD 7 0),qac ((qap (ab.at_ 1).S).getD 8 0),qac ((qap (ab.at_ 1).S).getD 9 0),qac ((qap (ab.at_ 1).S).getD 10 0),qac ((qap (ab.at_ 1).S).getD 11 0),qac ((qap (ab.at_ 1).S).getD 12 0),qac ((qap (ab.at_ 1).S).getD 13 0),qac ((qap (ab.at_ 1).S).getD 14 0),qac ((qap (ab.at_ 1).S).getD 15 0),.slice none 0 0,.map none],true⟩]) dV hb_b227 kz
      clear dV
      refine qaa ?_
      exact ⟨dvO none (qap (ab.at_ 1).S) 0,_,fun w F h_=>⟨h_,qfi _,⟨fun _=>rfl,(fun e_=>by rw [aS] at e_; cases e_)⟩⟩,ig.pk (env':=[(2,.v (.bool false)),(7,.p 0 0),(8,.v (.int .i16 v)),(9,.v (.bool (decide (v ≥ 8)))),(10,.p 1 0),(17,.v (.slice (some ⟨ac,0,none⟩) ((lst (T.at_ 5)).length) af)),(18,.v (.int .i32 (((lst (T.at_ 5)).length:Nat):Int))),(19,.v (.int .i32 ((ae:Nat):Int))),(21,.p 3 0)])⟩
     have dW:=aR.cast (t:=[] ++ bT) (by rw [if_neg (by rw [aS]; decide)])
     clear aR
     have ii:=dW.cast (t:=bT) rfl
     clear dW
     refine wp_skip (qaa ?_)
     exact ⟨dvO none (List.replicate 16 0) 0,_,fun w F h_=>⟨h_,rfl,⟨(fun e_=>by rw [aS] at e_; cases e_),fun _=>rfl⟩⟩,ii.pk (env':=[(2,.v (.bool false)),(7,.p 0 0),(8,.v (.int .i16 v)),(9,.v (.bool (decide (v ≥ 8)))),(10,.p 1 0),(17,.v (.slice (some ⟨ac,0,none⟩) ((lst (T.at_ 5)).length) af)),(18,.v (.int .i32 (((lst (T.at_ 5)).length:Nat):Int))),(19,.v (.int .i32 ((ae:Nat):Int))),(21,.p 3 0)])⟩
    rintro _ _ ⟨aa,ij,aG,dX⟩
    refine qaa (wp_seq (wp_seq (qbB [(2,.v (.bool false)),(7,.p 0 0),(8,.v (.int .i16 v)),(9,.v (.bool (decide (v ≥ 8)))),(10,.p 1 0),(17,.v (.slice (some ⟨ac,0,none⟩) ((lst (T.at_ 5)).length) af)),(18,.v (.int .i32 (((lst (T.at_ 5)).length:Nat):Int))),(19,.v (.int .i32 ((ae:Nat):Int))),(21,.p 3 0),(24,.v (.slice none 0 0))] dX fun _ dY=>?_)))
    clear dX
    refine qaa (wp_seq (qbB [(2,.v (.bool false)),(7,.p 0 0),(8,.v (.int .i16 v)),(9,.v (.bool (decide (v ≥ 8)))),(10,.p 1 0),(17,.v (.slice (some ⟨ac,0,none⟩) ((lst (T.at_ 5)).length) af)),(18,.v (.int .i32 (((lst (T.at_ 5)).length:Nat):Int))),(19,.v (.int .i32 ((ae:Nat):Int))),(21,.p 3 0),(25,.v (.slice none 0 0))] dY fun _ dZ=>?_))
    clear dY
    refine qaa (wp_seq (qbB [(2,.v (.bool false)),(7,.p 0 0),(8,.v (.int .i16 v)),(9,.v (.bool (decide (v ≥ 8)))),(10,.p 1 0),(17,.v (.slice (some ⟨ac,0,none⟩) ((lst (T.at_ 5)).length) af)),(18,.v (.int .i32 (((lst (T.at_ 5)).length:Nat):Int))),(19,.v (.int .i32 ((ae:Nat):Int))),(21,.p 3 0),(25,.v (.slice none 0 0))] dZ fun _ d5=>?_))
    clear dZ
    refine qaa (wp_seq ?_)
    have d6:=d5.cast dv
    clear d5
    have d7:=d6.cast (t:=(if (decide (v ≥ 8)) = true then (uv ((lst (ab.at_ 2)).length + 1)) else (be 4 (lst (ab.at_ 2)).length)) ++ (((lst (ab.at_ 2)).flatMap (qav v)) ++ aO)) (by rw [List.append_assoc])
    clear d6
    refine qfN (d1:=162) (d2:=163) [(2,.v (.bool false)),(7,.p 0 0),(8,.v (.int .i16 v)),(9,.v (.bool (decide (v ≥ 8)))),(10,.p 1 0),(17,.v (.slice (some ⟨ac,0,none⟩) ((lst (T.at_ 5)).length) af)),(18,.v (.int .i32 (((lst (T.at_ 5)).length:Nat):Int))),(19,.v (.int .i32 ((ae:Nat):Int))),(21,.p 3 0),(25,.v (.slice none 0 0)),(161,.v (.bool (decide (v ≥ 8))))] [(2,.v (.bool false)),(7,.p 0 0),(8,.v (.int .i16 v)),(9,.v (.bool (decide (v ≥ 8)))),(10,.p 1 0),(17,.v (.slice (some ⟨ac,0,none⟩) ((lst (T.at_ 5)).length) af)),(18,.v (.int .i32 (((lst (T.at_ 5)).length:Nat):Int))),(19,.v (.int .i32 ((ae:Nat):Int))),(21,.p 3 0),(25,.v (.slice none 0 0)),(26,.v (.int .i32 (((lst (ab.at_ 2)).length:Nat):Int)))] d7 (qdC ((lst (ab.at_ 2)).length) e178_2 _ (flat_ge' (qbK v) _)) Tryz.call123 (qhf ((lst (ab.at_ 2)).length) e178_2 _ (flat_ge' (qbK v) _)) Tryz.call124 fun _ _ d8=>?_
    clear d7
    refine qaa (wp_seq (wp_seq (qmt (d:=164) [(2,.v (.bool false)),(7,.p 0 0),(8,.v (.int .i16 v)),(9,.v (.bool (decide (v ≥ 8)))),(10,.p 1 0),(17,.v (.slice (some ⟨ac,0,none⟩) ((lst (T.at_ 5)).length) af)),(18,.v (.int .i32 (((lst (T.at_ 5)).length:Nat):Int))),(19,.v (.int .i32 ((ae:Nat):Int))),(21,.p 3 0),(25,.v (.slice none 0 0)),(26,.v (.int .i32 (((lst (ab.at_ 2)).length:Nat):Int))),(165,.v (.bool false))] d8 (pOk _) Tryz.call125 fun _ _ bX=>?_)))
    clear d8
    refine qaa (qau bX.env_ (b:=false) kz (rfl) ?_)
    refine wp_skip (qaa (wp_seq (qkf (t:=133) (e:=139) (size:=6) (bytes:=48) (d:=168) (A0:=none) (m:=0) (cp:=0) [(2,.v (.bool false)),(7,.p 0 0),(8,.v (.int .i16 v)),(9,.v (.bool (decide (v ≥ 8)))),(10,.p 1 0),(17,.v (.slice (some ⟨ac,0,none⟩) ((lst (T.at_ 5)).length) af)),(18,.v (.int .i32 (((lst (T.at_ 5)).length:Nat):Int))),(19,.v (.int .i32 ((ae:Nat):Int))),(21,.p 3 0),(26,.v (.int .i32 (((lst (ab.at_ 2)).length:Nat):Int))),(167,.v (.slice none 0 0))] [(2,.v (.bool false)),(7,.p 0 0),(8,.v (.int .i16 v)),(9,.v (.bool (decide (v ≥ 8)))),(10,.p 1 0),(17,.v (.slice (some ⟨ac,0,none⟩) ((lst (T.at_ 5)).length) af)),(18,.v (.int .i32 (((lst (T.at_ 5)).length:Nat):Int))),(19,.v (.int .i32 ((ae:Nat):Int))),(21,.p 3 0),(25,.v (.slice none 0 0)),(26,.v (.int .i32 (((lst (ab.at_ 2)).length:Nat):Int)))] 1 bX fun _ d9=>?_)))
    clear bX
    refine qaa (qil (Mid:=fun a_ w_=>∃ (ao:DV) (P':qb8),(∀ w F,P' w F → ij w F ∧ (Slots w F 6 ao.A ao.c ao.l (fun i=>[.int .i32 (((ao.f i).f 0).n),.int .i64 (((ao.f i).f 1).n),.int .i64 (((ao.f i).f 2).n),.int .i32 (((ao.f i).f 3).n),.pointer (((ao.f i).f 4).A),.map ((ao.f i).m)]) ∧ ao.l ≤ 1000000 ∧ ∀ i,i < ao.l → qaM w F (ao.f i)) ∧ (ao.l = (lst (ab.at_ 2)).length ∧ ∀ i,i < ao.l → qaR v (ao.f i) ((lst (ab.at_ 2)).getD i .zero))) ∧ RS w (fun b o=>b = bv ∧ o < 8) F 250 aJ [⟨bv,0,[.int .i16 v,.string (bs (T.at_ 0).S),.int .i32 ap.n,.string au.s,.pointer ar.A,.int .i64 al.n,.slice none 0 0,.map none],true⟩,qbj ac 19 (.agg #[.string ByteArray.empty,.int .u8 0,.int .u8 0,.int .u8 0,.int .u8 0,.int .u8 0,.int .u8 0,.int .u8 0,.int .u8 0,.int .u8 0,.int .u8 0,.int .u8 0,.int .u8 0,.int .u8 0,.int .u8 0,.int .u8 0,.int .u8 0,.slice none 0 0,.map none]) ((lst (T.at_ 5)).length) (ae + 1),⟨ac,ae * 19,[.string am.s,qac (aa.o.getD 0 0),qac (aa.o.getD 1 0),qac (aa.o.getD 2 0),qac (aa.o.getD 3 0),qac (aa.o.getD 4 0),qac (aa.o.getD 5 0),qac (aa.o.getD 6 0),qac (aa.o.getD 7 0),qac (aa.o.getD 8 0),qac (aa.o.getD 9 0),qac (aa.o.getD 10 0),qac (aa.o.getD 11 0),qac (aa.o.getD 12 0),qac (aa.o.getD 13 0),qac (aa.o.getD 14 0),qac (aa.o.getD 15 0),.slice none 0 0,.map none],true⟩] [(2,.v (.bool false)),(7,.p 0 0),(8,.v (.int .i16 v)),(9,.v (.bool (decide (v ≥ 8)))),(10,.p 1 0),(17,.v (.slice (some ⟨ac,0,none⟩) ((lst (T.at_ 5)).length) af)),(18,.v (.int .i32 (((lst (T.at_ 5)).length:Nat):Int))),(19,.v (.int .i32 ((ae:Nat):Int))),(21,.p 3 0),(25,.v (.slice ao.A ao.l ao.c))] P' aO a_ w_) ?_ ?_)
    ·
     refine wp_seq (qbB [(2,.v (.bool false)),(7,.p 0 0),(8,.v (.int .i16 v)),(9,.v (.bool (decide (v ≥ 8)))),(10,.p 1 0),(17,.v (.slice (some ⟨ac,0,none⟩) ((lst (T.at_ 5)).length) af)),(18,.v (.int .i32 (((lst (T.at_ 5)).length:Nat):Int))),(19,.v (.int .i32 ((ae:Nat):Int))),(21,.p 3 0),(25,.v (.slice none 0 0)),(26,.v (.int .i32 (((lst (ab.at_ 2)).length:Nat):Int))),(170,.v (.bool (decide ((((lst (ab.at_ 2)).length:Nat):Int) > 0))))] d9 fun _ aT=>qaa ?_)
     clear d9
     refine qax aT.env_ (b:=decide ((((lst (ab.at_ 2)).length:Nat):Int) > 0)) kz (fun bx=>?_) (fun bx=>?_)
     ·
      have hn_g252:0 < (lst (ab.at_ 2)).length:=by have h_:=of_decide_eq_true bx; omega
      refine qar [0,1,2,3] kz ?_
      refine qcE [0,1] [2,3] [(2,.v (.bool false)),(7,.p 0 0),(8,.v (.int .i16 v)),(9,.v (.bool (decide (v ≥ 8)))),(10,.p 1 0),(17,.v (.slice (some ⟨ac,0,none⟩) ((lst (T.at_ 5)).length) af)),(18,.v (.int .i32 (((lst (T.at_ 5)).length:Nat):Int))),(19,.v (.int .i32 ((ae:Nat):Int))),(21,.p 3 0),(26,.v (.int .i32 (((lst (ab.at_ 2)).length:Nat):Int))),(171,.v (.slice none 0 0)),(172,.v (.int .i32 (((lst (ab.at_ 2)).length:Nat):Int)))] aT fun _ ea=>?_
      clear aT
      refine qam (qf9 (A0:=none) (d:=173) (t:=133) (tn:=21) (e:=139) (size:=6) (bytes:=48) (k:=.i32) (kn:=.i32) (q:=(((lst (ab.at_ 2)).length:Nat):Int)) (j:=(lst (ab.at_ 2)).length) (.agg #[.int .i32 0,.int .i64 0,.int .i64 0,.int .i32 0,.pointer none,.map none]) ea (fun ag aj _ _ hg_g252 hcap_g252 eb=>?_) rfl hn_g252 (by have:=e178_2; omega))
      clear ea
      refine qcE [3] [] [(2,.v (.bool false)),(7,.p 0 0),(8,.v (.int .i16 v)),(9,.v (.bool (decide (v ≥ 8)))),(10,.p 1 0),(17,.v (.slice (some ⟨ac,0,none⟩) ((lst (T.at_ 5)).length) af)),(18,.v (.int .i32 (((lst (T.at_ 5)).length:Nat):Int))),(19,.v (.int .i32 ((ae:Nat):Int))),(21,.p 3 0),(25,.v (.slice (some ⟨ag,0,none⟩) ((lst (ab.at_ 2)).length) aj)),(26,.v (.int .i32 (((lst (ab.at_ 2)).length:Nat):Int)))] eb fun _ ec=>qaf ?_
      clear eb
      refine qaa (wp_seq (qbB [(2,.v (.bool false)),(7,.p 0 0),(8,.v (.int .i16 v)),(9,.v (.bool (decide (v ≥ 8)))),(10,.p 1 0),(17,.v (.slice (some ⟨ac,0,none⟩) ((lst (T.at_ 5)).length) af)),(18,.v (.int .i32 (((lst (T.at_ 5)).length:Nat):Int))),(19,.v (.int .i32 ((ae:Nat):Int))),(21,.p 3 0),(25,.v (.slice (some ⟨ag,0,none⟩) ((lst (ab.at_ 2)).length) aj)),(26,.v (.int .i32 (((lst (ab.at_ 2)).length:Nat):Int))),(27,.v (.int .i32 0))] ec fun _ bY=>?_))
      clear ec
      refine qaa (wp_block ?_)
      have bZ:=bY.mv
      have ik:=(bY.cast (t:=(lst (ab.at_ 2)).flatMap (qav v) ++ aO) rfl).pk (env':=[(2,.v (.bool false)),(7,.p 0 0),(8,.v (.int .i16 v)),(9,.v (.bool (decide (v ≥ 8)))),(10,.p 1 0),(17,.v (.slice (some ⟨ac,0,none⟩) ((lst (T.at_ 5)).length) af)),(18,.v (.int .i32 (((lst (T.at_ 5)).length:Nat):Int))),(19,.v (.int .i32 ((ae:Nat):Int))),(21,.p 3 0),(25,.v (.slice (some ⟨ag,0,none⟩) ((lst (ab.at_ 2)).length) aj)),(26,.v (.int .i32 (((lst (ab.at_ 2)).length:Nat):Int))),(27,.v (.int .i32 ((0:Nat):Int)))])
      clear bY
      refine qka (tb:=[⟨bv,0,[.int .i16 v,.string (bs (T.at_ 0).S),.int .i32 ap.n,.string au.s,.pointer ar.A,.int .i64 al.n,.slice none 0 0,.map none],true⟩,qbj ac 19 (.agg #[.string ByteArray.empty,.int .u8 0,.int .u8 0,.int .u8 0,.int .u8 0,.int .u8 0,.int .u8 0,.int .u8 0,.int .u8 0,.int .u8 0,.int .u8 0,.int .u8 0,.int .u8 0,.int .u8 0,.int .u8 0,.int .u8 0,.int .u8 0,.slice none 0 0,.map none]) ((lst (T.at_ 5)).length) (ae + 1),⟨ac,ae * 19,[.string am.s,qac (aa.o.getD 0 0),qac (aa.o.getD 1 0),qac (aa.o.getD 2 0),qac (aa.o.getD 3 0),qac (aa.o.getD 4 0),qac (aa.o.getD 5 0),qac (aa.o.getD 6 0),qac (aa.o.getD 7 0),qac (aa.o.getD 8 0),qac (aa.o.getD 9 0),qac (aa.o.getD 10 0),qac (aa.o.getD 11 0),qac (aa.o.getD 12 0),qac (aa.o.getD 13 0),qac (aa.o.getD 14 0),qac (aa.o.getD 15 0),.slice none 0 0,.map none],true⟩]) (z:=.agg #[.int .i32 0,.int .i64 0,.int .i64 0,.int .i32 0,.pointer none,.map none]) (cl:=qbN) (ok:=qaM) (rel:=(qaR v)) (L:=lst (ab.at_ 2)) (size:=6) (qav v) aO (fun k=>[(2,.v (.bool false)),(7,.p 0 0),(8,.v (.int .i16 v)),(9,.v (.bool (decide (v ≥ 8)))),(10,.p 1 0),(17,.v (.slice (some ⟨ac,0,none⟩) ((lst (T.at_ 5)).length) af)),(18,.v (.int .i32 (((lst (T.at_ 5)).length:Nat):Int))),(19,.v (.int .i32 ((ae:Nat):Int))),(21,.p 3 0),(25,.v (.slice (some ⟨ag,0,none⟩) ((lst (ab.at_ 2)).length) aj)),(26,.v (.int .i32 (((lst (ab.at_ 2)).length:Nat):Int))),(27,.v (.int .i32 ((k:Nat):Int)))]) ik qbd (fun ah ai _ _ b8 il ee=>?_) (fun _ _ ef=>?_)
      ·
       obtain ⟨iX,eg,eh⟩:∃ P',(∀ w F,P' w F → (ij w F ∧ qfS ag 6 qbN qaM (qaR v) (lst (ab.at_ 2)) ah w F)) ∧ RS w (fun b o=>b = bv ∧ o < 8) F 250 aJ [⟨bv,0,[.int .i16 v,.string (bs (T.at_ 0).S),.int .i32 ap.n,.string au.s,.pointer ar.A,.int .i64 al.n,.slice none 0 0,.map none],true⟩,qbj ac 19 (.agg #[.string ByteArray.empty,.int .u8 0,.int .u8 0,.int .u8 0,.int .u8 0,.int .u8 0,.int .u8 0,.int .u8 0,.int .u8 0,.int .u8 0,.int .u8 0,.int .u8 0,.int .u8 0,.int .u8 0,.int .u8 0,.int .u8 0,.int .u8 0,.slice none 0 0,.map none]) ((lst (T.at_ 5)).length) (ae + 1),⟨ac,ae * 19,[.string am.s,qac (aa.o.getD 0 0),qac (aa.o.getD 1 0),qac (aa.o.getD 2 0),qac (aa.o.getD 3 0),qac (aa.o.getD 4 0),qac (aa.o.getD 5 0),qac (aa.o.getD 6 0),qac (aa.o.getD 7 0),qac (aa.o.getD 8 0),qac (aa.o.getD 9 0),qac (aa.o.getD 10 0),qac (aa.o.getD 11 0),qac (aa.o.getD 12 0),qac (aa.o.getD 13 0),qac (aa.o.getD 14 0),qac (aa.o.getD 15 0),.slice none 0 0,.map none],true⟩,qbj ag 6 (.agg #[.int .i32 0,.int .i64 0,.int .i64 0,.int .i32 0,.pointer none,.map none]) ((lst (ab.at_ 2)).length) ah] [(2,.v (.bool false)),(7,.p 0 0),(8,.v (.int .i16 v)),(9,.v (.bool (decide (v ≥ 8)))),(10,.p 1 0),(17,.v (.slice (some ⟨ac,0,none⟩) ((lst (T.at_ 5)).length) af)),(18,.v (.int .i32 (((lst (T.at_ 5)).length:Nat):Int))),(19,.v (.int .i32 ((ae:Nat):Int))),(21,.p 3 0),(25,.v (.slice (some ⟨ag,0,none⟩) ((lst (ab.at_ 2)).length) aj)),(26,.v (.int .i32 (((lst (ab.at_ 2)).length:Nat):Int))),(27,.v (.int .i32 ((ah:Nat):Int)))] P' ((qav v) ai ++ (((lst (ab.at_ 2)).drop (ah + 1)).flatMap (qav v) ++ aO)) _ _:=⟨_,fun _ _ h=>h,ee⟩
       clear ee
       obtain ⟨cd,ei⟩:∃ R,R = ((lst (ab.at_ 2)).drop (ah + 1)).flatMap (qav v) ++ aO:=⟨_,rfl⟩
       have im:=(e178_2e ai (List.mem_of_getElem? b8))
       have e271r:=(qf7 (qfM e178r 2) ai (List.mem_of_getElem? b8))
       unfold qa7 at im
       obtain ⟨e271_0,e271_1,e271_2,e271_3,e271_4,e271_U,_⟩:=im
       obtain ⟨cA,ej⟩:∃ R,R = (if (decide (v ≥ 8)) = true then (uv ai.U.length) ++ (qbx ai.U) else []) ++ cd:=⟨_,rfl⟩
       obtain ⟨ce,ek⟩:∃ R,R = (if (decide (v ≥ 8)) = true then (if (ai.at_ 4).null = true then uv 0 else uv ((qbs (ai.at_ 4)).length + 1) ++ (qbs (ai.at_ 4))) else (if (ai.at_ 4).null = true then be 2 (-1) else be 2 (qbs (ai.at_ 4)).length ++ (qbs (ai.at_ 4)))) ++ cA:=⟨_,rfl⟩
       obtain ⟨bk,em⟩:∃ R,R = (if (decide (v ≥ 6)) = true then be 4 ((IntKind.i32.wrap (ai.at_ 3).N)) else []) ++ ce:=⟨_,rfl⟩
       obtain ⟨iY,eo⟩:∃ R,R = (if ((if (decide (v ≥ 1)) = true then decide (v ≤ 1) else false)) = true then be 8 ((ai.at_ 2).N) else []) ++ bk:=⟨_,rfl⟩
       obtain ⟨iZ,ep⟩:∃ R,R = (be 8 ((ai.at_ 1).N)) ++ iY:=⟨_,rfl⟩
       obtain ⟨i6,eu⟩:∃ R,R = (be 4 ((IntKind.i32.wrap (ai.at_ 0).N))) ++ iZ:=⟨_,rfl⟩
       have ev:=eh.cast (t:=i6) (by rw [eu,ep,eo,em,ek,ej,← ei]; unfold qav; simp only [List.append_assoc])
       clear eh
       refine wp_seq (wp_seq (qbB [(2,.v (.bool false)),(7,.p 0 0),(8,.v (.int .i16 v)),(9,.v (.bool (decide (v ≥ 8)))),(10,.p 1 0),(17,.v (.slice (some ⟨ac,0,none⟩) ((lst (T.at_ 5)).length) af)),(18,.v (.int .i32 (((lst (T.at_ 5)).length:Nat):Int))),(19,.v (.int .i32 ((ae:Nat):Int))),(21,.p 3 0),(25,.v (.slice (some ⟨ag,0,none⟩) ((lst (ab.at_ 2)).length) aj)),(26,.v (.int .i32 (((lst (ab.at_ 2)).length:Nat):Int))),(27,.v (.int .i32 ((ah:Nat):Int))),(176,.v (.bool (decide (((ah:Nat):Int) < (((lst (ab.at_ 2)).length:Nat):Int)))))] ev fun _ cg=>qaa ?_))
       clear ev
       refine qbF cg.env_ (b:=decide (((ah:Nat):Int) < (((lst (ab.at_ 2)).length:Nat):Int))) kz (decide_eq_true (by omega)) ?_
       refine wp_skip (qaa (wp_seq (wp_block (wp_seq (qkg (t:=133) (e:=139) (size:=6) (bytes:=48) (d:=181) (tb:=[⟨bv,0,[.int .i16 v,.string (bs (T.at_ 0).S),.int .i32 ap.n,.string au.s,.pointer ar.A,.int .i64 al.n,.slice none 0 0,.map none],true⟩,qbj ac 19 (.agg #[.string ByteArray.empty,.int .u8 0,.int .u8 0,.int .u8 0,.int .u8 0,.int .u8 0,.int .u8 0,.int .u8 0,.int .u8 0,.int .u8 0,.int .u8 0,.int .u8 0,.int .u8 0,.int .u8 0,.int .u8 0,.int .u8 0,.int .u8 0,.slice none 0 0,.map none]) ((lst (T.at_ 5)).length) (ae + 1),⟨ac,ae * 19,[.string am.s,qac (aa.o.getD 0 0),qac (aa.o.getD 1 0),qac (aa.o.getD 2 0),qac (aa.o.getD 3 0),qac (aa.o.getD 4 0),qac (aa.o.getD 5 0),qac (aa.o.getD 6 0),qac (aa.o.getD 7 0),qac (aa.o.getD 8 0),qac (aa.o.getD 9 0),qac (aa.o.getD 10 0),qac (aa.o.getD 11 0),qac (aa.o.getD 12 0),qac (aa.o.getD 13 0),qac (aa.o.getD 14 0),qac (aa.o.getD 15 0),.slice none 0 0,.map none],true⟩]) (z:=.agg #[.int .i32 0,.int .i64 0,.int .i64 0,.int .i32 0,.pointer none,.map none]) [(2,.v (.bool false)),(7,.p 0 0),(8,.v (.int .i16 v)),(9,.v (.bool (decide (v ≥ 8)))),(10,.p 1 0),(17,.v (.slice (some ⟨ac,0,none⟩) ((lst (T.at_ 5)).length) af)),(18,.v (.int .i32 (((lst (T.at_ 5)).length:Nat):Int))),(19,.v (.int .i32 ((ae:Nat):Int))),(21,.p 3 0),(25,.v (.slice (some ⟨ag,0,none⟩) ((lst (ab.at_ 2)).length) aj)),(26,.v (.int .i32 (((lst (ab.at_ 2)).length:Nat):Int))),(27,.v (.int .i32 ((ah:Nat):Int))),(179,.v (.slice (some ⟨ag,0,none⟩) ((lst (ab.at_ 2)).length) aj)),(180,.v (.int .i32 ((ah:Nat):Int)))] [(2,.v (.bool false)),(7,.p 0 0),(8,.v (.int .i16 v)),(9,.v (.bool (decide (v ≥ 8)))),(10,.p 1 0),(17,.v (.slice (some ⟨ac,0,none⟩) ((lst (T.at_ 5)).length) af)),(18,.v (.int .i32 (((lst (T.at_ 5)).length:Nat):Int))),(19,.v (.int .i32 ((ae:Nat):Int))),(21,.p 3 0),(25,.v (.slice (some ⟨ag,0,none⟩) ((lst (ab.at_ 2)).length) aj)),(26,.v (.int .i32 (((lst (ab.at_ 2)).length:Nat):Int))),(27,.v (.int .i32 ((ah:Nat):Int))),(28,.p 5 0)] 2 cg il rfl kz fun _ ew=>?_)))))
       clear cg
       have ey:=ew.tbEq (tb':=[⟨bv,0,[.int .i16 v,.string (bs (T.at_ 0).S),.int .i32 ap.n,.string au.s,.pointer ar.A,.int .i64 al.n,.slice none 0 0,.map none],true⟩,qbj ac 19 (.agg #[.string ByteArray.empty,.int .u8 0,.int .u8 0,.int .u8 0,.int .u8 0,.int .u8 0,.int .u8 0,.int .u8 0,.int .u8 0,.int .u8 0,.int .u8 0,.int .u8 0,.int .u8 0,.int .u8 0,.int .u8 0,.int .u8 0,.int .u8 0,.slice none 0 0,.map none]) ((lst (T.at_ 5)).length) (ae + 1),⟨ac,ae * 19,[.string am.s,qac (aa.o.getD 0 0),qac (aa.o.getD 1 0),qac (aa.o.getD 2 0),qac (aa.o.getD 3 0),qac (aa.o.getD 4 0),qac (aa.o.getD 5 0),qac (aa.o.getD 6 0),qac (aa.o.getD 7 0),qac (aa.o.getD 8 0),qac (aa.o.getD 9 0),qac (aa.o.getD 10 0),qac (aa.o.getD 11 0),qac (aa.o.getD 12 0),qac (aa.o.getD 13 0),qac (aa.o.getD 14 0),qac (aa.o.getD 15 0),.slice none 0 0,.map none],true⟩,qbj ag 6 (.agg #[.int .i32 0,.int .i64 0,.int .i64 0,.int .i32 0,.pointer none,.map none]) ((lst (ab.at_ 2)).length) (ah + 1),⟨ag,ah * 6,[.int .i32 0,.int .i64 0,.int .i64 0,.int .i32 0,.pointer none,.map none],true⟩]) rfl
       clear ew
       refine qaa (wp_seq (qar [0,1] kz ?_))
       refine qcE [0] [1] [(2,.v (.bool false)),(7,.p 0 0),(8,.v (.int .i16 v)),(9,.v (.bool (decide (v ≥ 8)))),(10,.p 1 0),(17,.v (.slice (some ⟨ac,0,none⟩) ((lst (T.at_ 5)).length) af)),(18,.v (.int .i32 (((lst (T.at_ 5)).length:Nat):Int))),(19,.v (.int .i32 ((ae:Nat):Int))),(21,.p 3 0),(25,.v (.slice (some ⟨ag,0,none⟩) ((lst (ab.at_ 2)).length) aj)),(26,.v (.int .i32 (((lst (ab.at_ 2)).length:Nat):Int))),(27,.v (.int .i32 ((ah:Nat):Int))),(28,.p 5 0),(182,.p 5 0)] ey fun _ ez=>?_
       clear ey
       refine qam (qj9 (d:=183) (vs:=[.pointer (some ⟨ag,ah * 6,none⟩)]) ez Tryz.call129 Tryz.func129 rfl Tryz.ntmps129 (fun _ eB=>?_))
       clear ez
       have eC:=(eB.recast 0 (.v (.pointer (some ⟨ag,ah * 6,none⟩))) (.p 5 0) rfl rfl (Nat.le_of_ble_eq_true (n:=6) rfl)).pk (env':=[(0,.p 5 0)])
       clear eB
       refine wp_seq (qcS [⟨bv,0,[.int .i16 v,.string (bs (T.at_ 0).S),.int .i32 ap.n,.string au.s,.pointer ar.A,.int .i64 al.n,.slice none 0 0,.map none],true⟩,qbj ac 19 (.agg #[.string ByteArray.empty,.int .u8 0,.int .u8 0,.int .u8 0,.int .u8 0,.int .u8 0,.int .u8 0,.int .u8 0,.int .u8 0,.int .u8 0,.int .u8 0,.int .u8 0,.int .u8 0,.int .u8 0,.int .u8 0,.int .u8 0,.int .u8 0,.slice none 0 0,.map none]) ((lst (T.at_ 5)).length) (ae + 1),⟨ac,ae * 19,[.string am.s,qac (aa.o.getD 0 0),qac (aa.o.getD 1 0),qac (aa.o.getD 2 0),qac (aa.o.getD 3 0),qac (aa.o.getD 4 0),qac (aa.o.getD 5 0),qac (aa.o.getD 6 0),qac (aa.o.getD 7 0),qac (aa.o.getD 8 0),qac (aa.o.getD 9 0),qac (aa.o.getD 10 0),qac (aa.o.getD 11 0),qac (aa.o.getD 12 0),qac (aa.o.getD 13 0),qac (aa.o.getD 14 0),qac (aa.o.getD 15 0),.slice none 0 0,.map none],true⟩,qbj ag 6 (.agg #[.int .i32 0,.int .i64 0,.int .i64 0,.int .i32 0,.pointer none,.map none]) ((lst (ab.at_ 2)).length) (ah + 1),⟨ag,ah * 6,[.int .i32 0,.int .i64 0,.int .i64 (-1),.int .i32 0,.pointer none,.map none],true⟩] 4 [(0,.p 5 0)] eC fun _ _ eD=>?_)
       clear eC
       refine qaa (qcS [⟨bv,0,[.int .i16 v,.string (bs (T.at_ 0).S),.int .i32 ap.n,.string au.s,.pointer ar.A,.int .i64 al.n,.slice none 0 0,.map none],true⟩,qbj ac 19 (.agg #[.string ByteArray.empty,.int .u8 0,.int .u8 0,.int .u8 0,.int .u8 0,.int .u8 0,.int .u8 0,.int .u8 0,.int .u8 0,.int .u8 0,.int .u8 0,.int .u8 0,.int .u8 0,.int .u8 0,.int .u8 0,.int .u8 0,.int .u8 0,.slice none 0 0,.map none]) ((lst (T.at_ 5)).length) (ae + 1),⟨ac,ae * 19,[.string am.s,qac (aa.o.getD 0 0),qac (aa.o.getD 1 0),qac (aa.o.getD 2 0),qac (aa.o.getD 3 0),qac (aa.o.getD 4 0),qac (aa.o.getD 5 0),qac (aa.o.getD 6 0),qac (aa.o.getD 7 0),qac (aa.o.getD 8 0),qac (aa.o.getD 9 0),qac (aa.o.getD 10 0),qac (aa.o.getD 11 0),qac (aa.o.getD 12 0),qac (aa.o.getD 13 0),qac (aa.o.getD 14 0),qac (aa.o.getD 15 0),.slice none 0 0,.map none],true⟩,qbj ag 6 (.agg #[.int .i32 0,.int .i64 0,.int .i64 0,.int .i32 0,.pointer none,.map none]) ((lst (ab.at_ 2)).length) (ah + 1),⟨ag,ah * 6,[.int .i32 0,.int .i64 0,.int .i64 (-1),.int .i32 (-1),.pointer none,.map none],true⟩] 4 [] eD fun _ _ eE=>?_)
       clear eD
       refine qkU (v:=.tuple #[]) eE (fun _ eF=>?_) (⟨rfl,rfl,⟨rfl,rfl,⟨rfl,rfl,⟨rfl,rfl,⟨rfl,rfl,⟨rfl,rfl,trivial⟩⟩⟩⟩⟩⟩)
       clear eE
       refine qaf ?_
       have eG:=eF.pk (env':=[(2,.v (.bool false)),(7,.p 0 0),(8,.v (.int .i16 v)),(9,.v (.bool (decide (v ≥ 8)))),(10,.p 1 0),(17,.v (.slice (some ⟨ac,0,none⟩) ((lst (T.at_ 5)).length) af)),(18,.v (.int .i32 (((lst (T.at_ 5)).length:Nat):Int))),(19,.v (.int .i32 ((ae:Nat):Int))),(21,.p 3 0),(25,.v (.slice (some ⟨ag,0,none⟩) ((lst (ab.at_ 2)).length) aj)),(26,.v (.int .i32 (((lst (ab.at_ 2)).length:Nat):Int))),(27,.v (.int .i32 ((ah:Nat):Int))),(28,.p 5 0)])
       clear eF
       refine qaa (wp_seq (qbB [(2,.v (.bool false)),(7,.p 0 0),(8,.v (.int .i16 v)),(9,.v (.bool (decide (v ≥ 8)))),(10,.p 1 0),(17,.v (.slice (some ⟨ac,0,none⟩) ((lst (T.at_ 5)).length) af)),(18,.v (.int .i32 (((lst (T.at_ 5)).length:Nat):Int))),(19,.v (.int .i32 ((ae:Nat):Int))),(21,.p 3 0),(25,.v (.slice (some ⟨ag,0,none⟩) ((lst (ab.at_ 2)).length) aj)),(26,.v (.int .i32 (((lst (ab.at_ 2)).length:Nat):Int))),(27,.v (.int .i32 ((ah:Nat):Int))),(29,.p 5 0)] eG fun _ eH=>?_))
       clear eG
       refine qaa (wp_seq (wp_seq ?_))
       have eI:=eH.cast eu
       clear eH
       refine qe3 (d:=185) [(2,.v (.bool false)),(7,.p 0 0),(8,.v (.int .i16 v)),(9,.v (.bool (decide (v ≥ 8)))),(10,.p 1 0),(17,.v (.slice (some ⟨ac,0,none⟩) ((lst (T.at_ 5)).length) af)),(18,.v (.int .i32 (((lst (T.at_ 5)).length:Nat):Int))),(19,.v (.int .i32 ((ae:Nat):Int))),(21,.p 3 0),(25,.v (.slice (some ⟨ag,0,none⟩) ((lst (ab.at_ 2)).length) aj)),(26,.v (.int .i32 (((lst (ab.at_ 2)).length:Nat):Int))),(27,.v (.int .i32 ((ah:Nat):Int))),(29,.p 5 0),(30,.v (.int .i32 (IntKind.i32.wrap (ai.at_ 0).N)))] eI (qkh _ _) Tryz.call117 fun _ _ eJ=>?_
       clear eI
       refine qaa (qcS [⟨bv,0,[.int .i16 v,.string (bs (T.at_ 0).S),.int .i32 ap.n,.string au.s,.pointer ar.A,.int .i64 al.n,.slice none 0 0,.map none],true⟩,qbj ac 19 (.agg #[.string ByteArray.empty,.int .u8 0,.int .u8 0,.int .u8 0,.int .u8 0,.int .u8 0,.int .u8 0,.int .u8 0,.int .u8 0,.int .u8 0,.int .u8 0,.int .u8 0,.int .u8 0,.int .u8 0,.int .u8 0,.int .u8 0,.int .u8 0,.slice none 0 0,.map none]) ((lst (T.at_ 5)).length) (ae + 1),⟨ac,ae * 19,[.string am.s,qac (aa.o.getD 0 0),qac (aa.o.getD 1 0),qac (aa.o.getD 2 0),qac (aa.o.getD 3 0),qac (aa.o.getD 4 0),qac (aa.o.getD 5 0),qac (aa.o.getD 6 0),qac (aa.o.getD 7 0),qac (aa.o.getD 8 0),qac (aa.o.getD 9 0),qac (aa.o.getD 10 0),qac (aa.o.getD 11 0),qac (aa.o.getD 12 0),qac (aa.o.getD 13 0),qac (aa.o.getD 14 0),qac (aa.o.getD 15 0),.slice none 0 0,.map none],true⟩,qbj ag 6 (.agg #[.int .i32 0,.int .i64 0,.int .i64 0,.int .i32 0,.pointer none,.map none]) ((lst (ab.at_ 2)).length) (ah + 1),⟨ag,ah * 6,[.int .i32 (IntKind.i32.wrap (ai.at_ 0).N),.int .i64 0,.int .i64 (-1),.int .i32 (-1),.pointer none,.map none],true⟩] 4 [(2,.v (.bool false)),(7,.p 0 0),(8,.v (.int .i16 v)),(9,.v (.bool (decide (v ≥ 8)))),(10,.p 1 0),(17,.v (.slice (some ⟨ac,0,none⟩) ((lst (T.at_ 5)).length) af)),(18,.v (.int .i32 (((lst (T.at_ 5)).length:Nat):Int))),(19,.v (.int .i32 ((ae:Nat):Int))),(21,.p 3 0),(25,.v (.slice (some ⟨ag,0,none⟩) ((lst (ab.at_ 2)).length) aj)),(26,.v (.int .i32 (((lst (ab.at_ 2)).length:Nat):Int))),(27,.v (.int .i32 ((ah:Nat):Int))),(29,.p 5 0)] eJ fun _ _ eK=>?_)
       clear eJ
       refine qaa (wp_seq (wp_seq ?_))
       have eL:=eK.cast ep
       clear eK
       refine qe3 (d:=190) [(2,.v (.bool false)),(7,.p 0 0),(8,.v (.int .i16 v)),(9,.v (.bool (decide (v ≥ 8)))),(10,.p 1 0),(17,.v (.slice (some ⟨ac,0,none⟩) ((lst (T.at_ 5)).length) af)),(18,.v (.int .i32 (((lst (T.at_ 5)).length:Nat):Int))),(19,.v (.int .i32 ((ae:Nat):Int))),(21,.p 3 0),(25,.v (.slice (some ⟨ag,0,none⟩) ((lst (ab.at_ 2)).length) aj)),(26,.v (.int .i32 (((lst (ab.at_ 2)).length:Nat):Int))),(27,.v (.int .i32 ((ah:Nat):Int))),(29,.p 5 0),(31,.v (.int .i64 (IntKind.i64.wrap (ai.at_ 1).N)))] eL (qki _ _) Tryz.call122 fun _ _ eM=>?_
       clear eL
       refine qaa (qcS [⟨bv,0,[.int .i16 v,.string (bs (T.at_ 0).S),.int .i32 ap.n,.string au.s,.pointer ar.A,.int .i64 al.n,.slice none 0 0,.map none],true⟩,qbj ac 19 (.agg #[.string ByteArray.empty,.int .u8 0,.int .u8 0,.int .u8 0,.int .u8 0,.int .u8 0,.int .u8 0,.int .u8 0,.int .u8 0,.int .u8 0,.int .u8 0,.int .u8 0,.int .u8 0,.int .u8 0,.int .u8 0,.int .u8 0,.int .u8 0,.slice none 0 0,.map none]) ((lst (T.at_ 5)).length) (ae + 1),⟨ac,ae * 19,[.string am.s,qac (aa.o.getD 0 0),qac (aa.o.getD 1 0),qac (aa.o.getD 2 0),qac (aa.o.getD 3 0),qac (aa.o.getD 4 0),qac (aa.o.getD 5 0),qac (aa.o.getD 6 0),qac (aa.o.getD 7 0),qac (aa.o.getD 8 0),qac (aa.o.getD 9 0),qac (aa.o.getD 10 0),qac (aa.o.getD 11 0),qac (aa.o.getD 12 0),qac (aa.o.getD 13 0),qac (aa.o.getD 14 0),qac (aa.o.getD 15 0),.slice none 0 0,.map none],true⟩,qbj ag 6 (.agg #[.int .i32 0,.int .i64 0,.int .i64 0,.int .i32 0,.pointer none,.map none]) ((lst (ab.at_ 2)).length) (ah + 1),⟨ag,ah * 6,[.int .i32 (IntKind.i32.wrap (ai.at_ 0).N),.int .i64 (IntKind.i64.wrap (ai.at_ 1).N),.int .i64 (-1),.int .i32 (-1),.pointer none,.map none],true⟩] 4 [(2,.v (.bool false)),(7,.p 0 0),(8,.v (.int .i16 v)),(9,.v (.bool (decide (v ≥ 8)))),(10,.p 1 0),(17,.v (.slice (some ⟨ac,0,none⟩) ((lst (T.at_ 5)).length) af)),(18,.v (.int .i32 (((lst (T.at_ 5)).length:Nat):Int))),(19,.v (.int .i32 ((ae:Nat):Int))),(21,.p 3 0),(25,.v (.slice (some ⟨ag,0,none⟩) ((lst (ab.at_ 2)).length) aj)),(26,.v (.int .i32 (((lst (ab.at_ 2)).length:Nat):Int))),(27,.v (.int .i32 ((ah:Nat):Int))),(29,.p 5 0)] eM fun _ _ eN=>?_)
       clear eM
       refine qaa (wp_seq ?_)
       have eO:=eN.cast eo
       clear eN
       refine qcn (Mid:=fun a_ w_=>∃ (aF:DV) (P':qb8),(∀ w F,P' w F → iX w F ∧ (True) ∧ ((if (decide (v ≥ 1)) = true then decide (v ≤ 1) else false) = true → aF.n = IntKind.i64.wrap (ai.at_ 2).N) ∧ ((if (decide (v ≥ 1)) = true then decide (v ≤ 1) else false) = false → aF.n = -1)) ∧ RS w (fun b o=>b = bv ∧ o < 8) F 250 aJ [⟨bv,0,[.int .i16 v,.string (bs (T.at_ 0).S),.int .i32 ap.n,.string au.s,.pointer ar.A,.int .i64 al.n,.slice none 0 0,.map none],true⟩,qbj ac 19 (.agg #[.string ByteArray.empty,.int .u8 0,.int .u8 0,.int .u8 0,.int .u8 0,.int .u8 0,.int .u8 0,.int .u8 0,.int .u8 0,.int .u8 0,.int .u8 0,.int .u8 0,.int .u8 0,.int .u8 0,.int .u8 0,.int .u8 0,.int .u8 0,.slice none 0 0,.map none]) ((lst (T.at_ 5)).length) (ae + 1),⟨ac,ae * 19,[.string am.s,qac (aa.o.getD 0 0),qac (aa.o.getD 1 0),qac (aa.o.getD 2 0),qac (aa.o.getD 3 0),qac (aa.o.getD 4 0),qac (aa.o.getD 5 0),qac (aa.o.getD 6 0),qac (aa.o.getD 7 0),qac (aa.o.getD 8 0),qac (aa.o.getD 9 0),qac (aa.o.getD 10 0),qac (aa.o.getD 11 0),qac (aa.o.getD 12 0),qac (aa.o.getD 13 0),qac (aa.o.getD 14 0),qac (aa.o.getD 15 0),.slice none 0 0,.map none],true⟩,qbj ag 6 (.agg #[.int .i32 0,.int .i64 0,.int .i64 0,.int .i32 0,.pointer none,.map none]) ((lst (ab.at_ 2)).length) (ah + 1),⟨ag,ah * 6,[.int .i32 (IntKind.i32.wrap (ai.at_ 0).N),.int .i64 (IntKind.i64.wrap (ai.at_ 1).N),.int .i64 aF.n,.int .i32 (-1),.pointer none,.map none],true⟩] [(2,.v (.bool false)),(7,.p 0 0),(8,.v (.int .i16 v)),(9,.v (.bool (decide (v ≥ 8)))),(10,.p 1 0),(17,.v (.slice (some ⟨ac,0,none⟩) ((lst (T.at_ 5)).length) af)),(18,.v (.int .i32 (((lst (T.at_ 5)).length:Nat):Int))),(19,.v (.int .i32 ((ae:Nat):Int))),(21,.p 3 0),(25,.v (.slice (some ⟨ag,0,none⟩) ((lst (ab.at_ 2)).length) aj)),(26,.v (.int .i32 (((lst (ab.at_ 2)).length:Nat):Int))),(27,.v (.int .i32 ((ah:Nat):Int))),(29,.p 5 0)] P' bk a_ w_) ?_ ?_
       ·
        refine wp_seq (qar [0,1,2,3,4,5] kz ?_)
        refine qcE [0,1,2] [3,4,5] [(2,.v (.bool false)),(7,.p 0 0),(8,.v (.int .i16 v)),(9,.v (.bool (decide (v ≥ 8)))),(10,.p 1 0),(17,.v (.slice (some ⟨ac,0,none⟩) ((lst (T.at_ 5)).length) af)),(18,.v (.int .i32 (((lst (T.at_ 5)).length:Nat):Int))),(19,.v (.int .i32 ((ae:Nat):Int))),(21,.p 3 0),(25,.v (.slice (some ⟨ag,0,none⟩) ((lst (ab.at_ 2)).length) aj)),(26,.v (.int .i32 (((lst (ab.at_ 2)).length:Nat):Int))),(27,.v (.int .i32 ((ah:Nat):Int))),(29,.p 5 0),(197,.v (.bool (decide (v ≥ 1))))] eO fun _ bz=>?_
        clear eO
        refine (Bool.eq_false_or_eq_true (decide (v ≥ 1))).elim (fun aB=>?_) (fun aB=>?_)
        ·
         have eP:=bz.envEq (env':=[(2,.v (.bool false)),(7,.p 0 0),(8,.v (.int .i16 v)),(9,.v (.bool (decide (v ≥ 8)))),(10,.p 1 0),(17,.v (.slice (some ⟨ac,0,none⟩) ((lst (T.at_ 5)).length) af)),(18,.v (.int .i32 (((lst (T.at_ 5)).length:Nat):Int))),(19,.v (.int .i32 ((ae:Nat):Int))),(21,.p 3 0),(25,.v (.slice (some ⟨ag,0,none⟩) ((lst (ab.at_ 2)).length) aj)),(26,.v (.int .i32 (((lst (ab.at_ 2)).length:Nat):Int))),(27,.v (.int .i32 ((ah:Nat):Int))),(29,.p 5 0),(197,.v (.bool true))]) (by rw [aB])
         clear bz
         refine qcE [3,4,5] [] [(2,.v (.bool false)),(7,.p 0 0),(8,.v (.int .i16 v)),(9,.v (.bool (decide (v ≥ 8)))),(10,.p 1 0),(17,.v (.slice (some ⟨ac,0,none⟩) ((lst (T.at_ 5)).length) af)),(18,.v (.int .i32 (((lst (T.at_ 5)).length:Nat):Int))),(19,.v (.int .i32 ((ae:Nat):Int))),(21,.p 3 0),(25,.v (.slice (some ⟨ag,0,none⟩) ((lst (ab.at_ 2)).length) aj)),(26,.v (.int .i32 (((lst (ab.at_ 2)).length:Nat):Int))),(27,.v (.int .i32 ((ah:Nat):Int))),(29,.p 5 0),(200,.v (.bool (decide (v ≤ 1))))] eP fun _ aU=>qaf (qaa ?_)
         clear eP
         refine qax aU.env_ (b:=decide (v ≤ 1)) kz (fun aV=>?_) (fun aV=>?_)
         ·
          have eQ:=aU.cast (t:=(be 8 ((ai.at_ 2).N)) ++ bk) (by rw [if_pos (by simp only [aB,aV,if_true])])
          clear aU
          refine wp_seq (qe3 (d:=201) [(2,.v (.bool false)),(7,.p 0 0),(8,.v (.int .i16 v)),(9,.v (.bool (decide (v ≥ 8)))),(10,.p 1 0),(17,.v (.slice (some ⟨ac,0,none⟩) ((lst (T.at_ 5)).length) af)),(18,.v (.int .i32 (((lst (T.at_ 5)).length:Nat):Int))),(19,.v (.int .i32 ((ae:Nat):Int))),(21,.p 3 0),(25,.v (.slice (some ⟨ag,0,none⟩) ((lst (ab.at_ 2)).length) aj)),(26,.v (.int .i32 (((lst (ab.at_ 2)).length:Nat):Int))),(27,.v (.int .i32 ((ah:Nat):Int))),(29,.p 5 0),(32,.v (.int .i64 (IntKind.i64.wrap (ai.at_ 2).N)))] eQ (qki _ _) Tryz.call122 fun _ _ eR=>?_)
          clear eQ
          refine qaa (qcS [⟨bv,0,[.int .i16 v,.string (bs (T.at_ 0).S),.int .i32 ap.n,.string au.s,.pointer ar.A,.int .i64 al.n,.slice none 0 0,.map none],true⟩,qbj ac 19 (.agg #[.string ByteArray.empty,.int .u8 0,.int .u8 0,.int .u8 0,.int .u8 0,.int .u8 0,.int .u8 0,.int .u8 0,.int .u8 0,.int .u8 0,.int .u8 0,.int .u8 0,.int .u8 0,.int .u8 0,.int .u8 0,.int .u8 0,.int .u8 0,.slice none 0 0,.map none]) ((lst (T.at_ 5)).length) (ae + 1),⟨ac,ae * 19,[.string am.s,qac (aa.o.getD 0 0),qac (aa.o.getD 1 0),qac (aa.o.getD 2 0),qac (aa.o.getD 3 0),qac (aa.o.getD 4 0),qac (aa.o.getD 5 0),qac (aa.o.getD 6 0),qac (aa.o.getD 7 0),qac (aa.o.getD 8 0),qac (aa.o.getD 9 0),qac (aa.o.getD 10 0),qac (aa.o.getD 11 0),qac (aa.o.getD 12 0),qac (aa.o.getD 13 0),qac (aa.o.getD 14 0),qac (aa.o.getD 15 0),.slice none 0 0,.map none],true⟩,qbj ag 6 (.agg #[.int .i32 0,.int .i64 0,.int .i64 0,.int .i32 0,.pointer none,.map none]) ((lst (ab.at_ 2)).length) (ah + 1),⟨ag,ah * 6,[.int .i32 (IntKind.i32.wrap (ai.at_ 0).N),.int .i64 (IntKind.i64.wrap (ai.at_ 1).N),.int .i64 (IntKind.i64.wrap (ai.at_ 2).N),.int .i32 (-1),.pointer none,.map none],true⟩] 4 [(2,.v (.bool false)),(7,.p 0 0),(8,.v (.int .i16 v)),(9,.v (.bool (decide (v ≥ 8)))),(10,.p 1 0),(17,.v (.slice (some ⟨ac,0,none⟩) ((lst (T.at_ 5)).length) af)),(18,.v (.int .i32 (((lst (T.at_ 5)).length:Nat):Int))),(19,.v (.int .i32 ((ae:Nat):Int))),(21,.p 3 0),(25,.v (.slice (some ⟨ag,0,none⟩) ((lst (ab.at_ 2)).length) aj)),(26,.v (.int .i32 (((lst (ab.at_ 2)).length:Nat):Int))),(27,.v (.int .i32 ((ah:Nat):Int))),(29,.p 5 0)] eR fun _ _ io=>?_)
          clear eR
          refine qaa ?_
          exact ⟨dvN (IntKind.i64.wrap (ai.at_ 2).N),_,fun w F h_=>⟨h_,trivial,⟨fun _=>rfl,(fun e_=>by simp [aB,aV] at e_)⟩⟩,io.pk (env':=[(2,.v (.bool false)),(7,.p 0 0),(8,.v (.int .i16 v)),(9,.v (.bool (decide (v ≥ 8)))),(10,.p 1 0),(17,.v (.slice (some ⟨ac,0,none⟩) ((lst (T.at_ 5)).length) af)),(18,.v (.int .i32 (((lst (T.at_ 5)).length:Nat):Int))),(19,.v (.int .i32 ((ae:Nat):Int))),(21,.p 3 0),(25,.v (.slice (some ⟨ag,0,none⟩) ((lst (ab.at_ 2)).length) aj)),(26,.v (.int .i32 (((lst (ab.at_ 2)).length:Nat):Int))),(27,.v (.int .i32 ((ah:Nat):Int))),(29,.p 5 0)])⟩
         have eS:=aU.cast (t:=[] ++ bk) (by rw [if_neg (by simp only [aB,aV,if_true,if_false,Bool.false_eq_true]; try decide)])
         clear aU
         have ip:=eS.cast (t:=bk) rfl
         clear eS
         refine wp_skip (qaa ?_)
         exact ⟨dvN (-1),_,fun w F h_=>⟨h_,trivial,⟨(fun e_=>by simp [aB,aV] at e_),fun _=>rfl⟩⟩,ip.pk (env':=[(2,.v (.bool false)),(7,.p 0 0),(8,.v (.int .i16 v)),(9,.v (.bool (decide (v ≥ 8)))),(10,.p 1 0),(17,.v (.slice (some ⟨ac,0,none⟩) ((lst (T.at_ 5)).length) af)),(18,.v (.int .i32 (((lst (T.at_ 5)).length:Nat):Int))),(19,.v (.int .i32 ((ae:Nat):Int))),(21,.p 3 0),(25,.v (.slice (some ⟨ag,0,none⟩) ((lst (ab.at_ 2)).length) aj)),(26,.v (.int .i32 (((lst (ab.at_ 2)).length:Nat):Int))),(27,.v (.int .i32 ((ah:Nat):Int))),(29,.p 5 0)])⟩
        have eT:=bz.envEq (env':=[(2,.v (.bool false)),(7,.p 0 0),(8,.v (.int .i16 v)),(9,.v (.bool (decide (v ≥ 8)))),(10,.p 1 0),(17,.v (.slice (some ⟨ac,0,none⟩) ((lst (T.at_ 5)).length) af)),(18,.v (.int .i32 (((lst (T.at_ 5)).length:Nat):Int))),(19,.v (.int .i32 ((ae:Nat):Int))),(21,.p 3 0),(25,.v (.slice (some ⟨ag,0,none⟩) ((lst (ab.at_ 2)).length) aj)),(26,.v (.int .i32 (((lst (ab.at_ 2)).length:Nat):Int))),(27,.v (.int .i32 ((ah:Nat):Int))),(29,.p 5 0),(197,.v (.bool false))]) (by rw [aB])
        clear bz
        refine qcE [3,4,5] [] [(2,.v (.bool false)),(7,.p 0 0),(8,.v (.int .i16 v)),(9,.v (.bool (decide (v ≥ 8)))),(10,.p 1 0),(17,.v (.slice (some ⟨ac,0,none⟩) ((lst (T.at_ 5)).length) af)),(18,.v (.int .i32 (((lst (T.at_ 5)).length:Nat):Int))),(19,.v (.int .i32 ((ae:Nat):Int))),(21,.p 3 0),(25,.v (.slice (some ⟨ag,0,none⟩) ((lst (ab.at_ 2)).length) aj)),(26,.v (.int .i32 (((lst (ab.at_ 2)).length:Nat):Int))),(27,.v (.int .i32 ((ah:Nat):Int))),(29,.p 5 0),(200,.v (.bool false))] eT fun _ cm=>qaf (qaa ?_)
        clear eT
        refine qau cm.env_ (b:=false) kz rfl ?_
        have eU:=cm.cast (t:=[] ++ bk) (by rw [if_neg (by simp only [aB,if_true,if_false,Bool.false_eq_true]; try decide)])
        clear cm
        have iq:=eU.cast (t:=bk) rfl
        clear eU
        refine wp_skip (qaa ?_)
        exact ⟨dvN (-1),_,fun w F h_=>⟨h_,trivial,⟨(fun e_=>by simp [aB] at e_),fun _=>rfl⟩⟩,iq.pk (env':=[(2,.v (.bool false)),(7,.p 0 0),(8,.v (.int .i16 v)),(9,.v (.bool (decide (v ≥ 8)))),(10,.p 1 0),(17,.v (.slice (some ⟨ac,0,none⟩) ((lst (T.at_ 5)).length) af)),(18,.v (.int .i32 (((lst (T.at_ 5)).length:Nat):Int))),(19,.v (.int .i32 ((ae:Nat):Int))),(21,.p 3 0),(25,.v (.slice (some ⟨ag,0,none⟩) ((lst (ab.at_ 2)).length) aj)),(26,.v (.int .i32 (((lst (ab.at_ 2)).length:Nat):Int))),(27,.v (.int .i32 ((ah:Nat):Int))),(29,.p 5 0)])⟩
       rintro _ _ ⟨aF,i7,bA,eV⟩
       refine qaa (wp_seq ?_)
       have eW:=eV.cast em
       clear eV
       refine qcn (Mid:=fun a_ w_=>∃ (aI:DV) (P':qb8),(∀ w F,P' w F → i7 w F ∧ (True) ∧ ((decide (v ≥ 6)) = true → aI.n = IntKind.i32.wrap (ai.at_ 3).N) ∧ ((decide (v ≥ 6)) = false → aI.n = -1)) ∧ RS w (fun b o=>b = bv ∧ o < 8) F 250 aJ [⟨bv,0,[.int .i16 v,.string (bs (T.at_ 0).S),.int .i32 ap.n,.string au.s,.pointer ar.A,.int .i64 al.n,.slice none 0 0,.map none],true⟩,qbj ac 19 (.agg #[.string ByteArray.empty,.int .u8 0,.int .u8 0,.int .u8 0,.int .u8 0,.int .u8 0,.int .u8 0,.int .u8 0,.int .u8 0,.int .u8 0,.int .u8 0,.int .u8 0,.int .u8 0,.int .u8 0,.int .u8 0,.int .u8 0,.int .u8 0,.slice none 0 0,.map none]) ((lst (T.at_ 5)).length) (ae + 1),⟨ac,ae * 19,[.string am.s,qac (aa.o.getD 0 0),qac (aa.o.getD 1 0),qac (aa.o.getD 2 0),qac (aa.o.getD 3 0),qac (aa.o.getD 4 0),qac (aa.o.getD 5 0),qac (aa.o.getD 6 0),qac (aa.o.getD 7 0),qac (aa.o.getD 8 0),qac (aa.o.getD 9 0),qac (aa.o.getD 10 0),qac (aa.o.getD 11 0),qac (aa.o.getD 12 0),qac (aa.o.getD 13 0),qac (aa.o.getD 14 0),qac (aa.o.getD 15 0),.slice none 0 0,.map none],true⟩,qbj ag 6 (.agg #[.int .i32 0,.int .i64 0,.int .i64 0,.int .i32 0,.pointer none,.map none]) ((lst (ab.at_ 2)).length) (ah + 1),⟨ag,ah * 6,[.int .i32 (IntKind.i32.wrap (ai.at_ 0).N),.int .i64 (IntKind.i64.wrap (ai.at_ 1).N),.int .i64 aF.n,.int .i32 aI.n,.pointer none,.map none],true⟩] [(2,.v (.bool false)),(7,.p 0 0),(8,.v (.int .i16 v)),(9,.v (.bool (decide (v ≥ 8)))),(10,.p 1 0),(17,.v (.slice (some ⟨ac,0,none⟩) ((lst (T.at_ 5)).length) af)),(18,.v (.int .i32 (((lst (T.at_ 5)).length:Nat):Int))),(19,.v (.int .i32 ((ae:Nat):Int))),(21,.p 3 0),(25,.v (.slice (some ⟨ag,0,none⟩) ((lst (ab.at_ 2)).length) aj)),(26,.v (.int .i32 (((lst (ab.at_ 2)).length:Nat):Int))),(27,.v (.int .i32 ((ah:Nat):Int))),(29,.p 5 0)] P' ce a_ w_) ?_ ?_
       ·
        refine wp_seq (qbB [(2,.v (.bool false)),(7,.p 0 0),(8,.v (.int .i16 v)),(9,.v (.bool (decide (v ≥ 8)))),(10,.p 1 0),(17,.v (.slice (some ⟨ac,0,none⟩) ((lst (T.at_ 5)).length) af)),(18,.v (.int .i32 (((lst (T.at_ 5)).length:Nat):Int))),(19,.v (.int .i32 ((ae:Nat):Int))),(21,.p 3 0),(25,.v (.slice (some ⟨ag,0,none⟩) ((lst (ab.at_ 2)).length) aj)),(26,.v (.int .i32 (((lst (ab.at_ 2)).length:Nat):Int))),(27,.v (.int .i32 ((ah:Nat):Int))),(29,.p 5 0),(207,.v (.bool (decide (v ≥ 6))))] eW fun _ aW=>qaa ?_)
        clear eW
        refine qax aW.env_ (b:=decide (v ≥ 6)) kz (fun aX=>?_) (fun aX=>?_)
        ·
         have eX:=aW.cast (t:=(be 4 ((IntKind.i32.wrap (ai.at_ 3).N))) ++ ce) (by rw [if_pos aX])
         clear aW
         refine wp_seq (qe3 (d:=208) [(2,.v (.bool false)),(7,.p 0 0),(8,.v (.int .i16 v)),(9,.v (.bool (decide (v ≥ 8)))),(10,.p 1 0),(17,.v (.slice (some ⟨ac,0,none⟩) ((lst (T.at_ 5)).length) af)),(18,.v (.int .i32 (((lst (T.at_ 5)).length:Nat):Int))),(19,.v (.int .i32 ((ae:Nat):Int))),(21,.p 3 0),(25,.v (.slice (some ⟨ag,0,none⟩) ((lst (ab.at_ 2)).length) aj)),(26,.v (.int .i32 (((lst (ab.at_ 2)).length:Nat):Int))),(27,.v (.int .i32 ((ah:Nat):Int))),(29,.p 5 0),(33,.v (.int .i32 (IntKind.i32.wrap (ai.at_ 3).N)))] eX (qkh _ _) Tryz.call117 fun _ _ eY=>?_)
         clear eX
         refine qaa (qcS [⟨bv,0,[.int .i16 v,.string (bs (T.at_ 0).S),.int .i32 ap.n,.string au.s,.pointer ar.A,.int .i64 al.n,.slice none 0 0,.map none],true⟩,qbj ac 19 (.agg #[.string ByteArray.empty,.int .u8 0,.int .u8 0,.int .u8 0,.int .u8 0,.int .u8 0,.int .u8 0,.int .u8 0,.int .u8 0,.int .u8 0,.int .u8 0,.int .u8 0,.int .u8 0,.int .u8 0,.int .u8 0,.int .u8 0,.int .u8 0,.slice none 0 0,.map none]) ((lst (T.at_ 5)).length) (ae + 1),⟨ac,ae * 19,[.string am.s,qac (aa.o.getD 0 0),qac (aa.o.getD 1 0),qac (aa.o.getD 2 0),qac (aa.o.getD 3 0),qac (aa.o.getD 4 0),qac (aa.o.getD 5 0),qac (aa.o.getD 6 0),qac (aa.o.getD 7 0),qac (aa.o.getD 8 0),qac (aa.o.getD 9 0),qac (aa.o.getD 10 0),qac (aa.o.getD 11 0),qac (aa.o.getD 12 0),qac (aa.o.getD 13 0),qac (aa.o.getD 14 0),qac (aa.o.getD 15 0),.slice none 0 0,.map none],true⟩,qbj ag 6 (.agg #[.int .i32 0,.int .i64 0,.int .i64 0,.int .i32 0,.pointer none,.map none]) ((lst (ab.at_ 2)).length) (ah + 1),⟨ag,ah * 6,[.int .i32 (IntKind.i32.wrap (ai.at_ 0).N),.int .i64 (IntKind.i64.wrap (ai.at_ 1).N),.int .i64 aF.n,.int .i32 (IntKind.i32.wrap (ai.at_ 3).N),.pointer none,.map none],true⟩] 4 [(2,.v (.bool false)),(7,.p 0 0),(8,.v (.int .i16 v)),(9,.v (.bool (decide (v ≥ 8)))),(10,.p 1 0),(17,.v (.slice (some ⟨ac,0,none⟩) ((lst (T.at_ 5)).length) af)),(18,.v (.int .i32 (((lst (T.at_ 5)).length:Nat):Int))),(19,.v (.int .i32 ((ae:Nat):Int))),(21,.p 3 0),(25,.v (.slice (some ⟨ag,0,none⟩) ((lst (ab.at_ 2)).length) aj)),(26,.v (.int .i32 (((lst (ab.at_ 2)).length:Nat):Int))),(27,.v (.int .i32 ((ah:Nat):Int))),(29,.p 5 0)] eY fun _ _ ir=>?_)
         clear eY
         refine qaa ?_
         exact ⟨dvN (IntKind.i32.wrap (ai.at_ 3).N),_,fun w F h_=>⟨h_,trivial,⟨fun _=>rfl,(fun e_=>by rw [aX] at e_; cases e_)⟩⟩,ir.pk (env':=[(2,.v (.bool false)),(7,.p 0 0),(8,.v (.int .i16 v)),(9,.v (.bool (decide (v ≥ 8)))),(10,.p 1 0),(17,.v (.slice (some ⟨ac,0,none⟩) ((lst (T.at_ 5)).length) af)),(18,.v (.int .i32 (((lst (T.at_ 5)).length:Nat):Int))),(19,.v (.int .i32 ((ae:Nat):Int))),(21,.p 3 0),(25,.v (.slice (some ⟨ag,0,none⟩) ((lst (ab.at_ 2)).length) aj)),(26,.v (.int .i32 (((lst (ab.at_ 2)).length:Nat):Int))),(27,.v (.int .i32 ((ah:Nat):Int))),(29,.p 5 0)])⟩
        have eZ:=aW.cast (t:=[] ++ ce) (by rw [if_neg (by rw [aX]; decide)])
        clear aW
        have iu:=eZ.cast (t:=ce) rfl
        clear eZ
        refine wp_skip (qaa ?_)
        exact ⟨dvN (-1),_,fun w F h_=>⟨h_,trivial,⟨(fun e_=>by rw [aX] at e_; cases e_),fun _=>rfl⟩⟩,iu.pk (env':=[(2,.v (.bool false)),(7,.p 0 0),(8,.v (.int .i16 v)),(9,.v (.bool (decide (v ≥ 8)))),(10,.p 1 0),(17,.v (.slice (some ⟨ac,0,none⟩) ((lst (T.at_ 5)).length) af)),(18,.v (.int .i32 (((lst (T.at_ 5)).length:Nat):Int))),(19,.v (.int .i32 ((ae:Nat):Int))),(21,.p 3 0),(25,.v (.slice (some ⟨ag,0,none⟩) ((lst (ab.at_ 2)).length) aj)),(26,.v (.int .i32 (((lst (ab.at_ 2)).length:Nat):Int))),(27,.v (.int .i32 ((ah:Nat):Int))),(29,.p 5 0)])⟩
       rintro _ _ ⟨aI,ja,aH,e9⟩
       refine qaa (wp_seq (wp_seq (qbB [(2,.v (.bool false)),(7,.p 0 0),(8,.v (.int .i16 v)),(9,.v (.bool (decide (v ≥ 8)))),(10,.p 1 0),(17,.v (.slice (some ⟨ac,0,none⟩) ((lst (T.at_ 5)).length) af)),(18,.v (.int .i32 (((lst (T.at_ 5)).length:Nat):Int))),(19,.v (.int .i32 ((ae:Nat):Int))),(21,.p 3 0),(25,.v (.slice (some ⟨ag,0,none⟩) ((lst (ab.at_ 2)).length) aj)),(26,.v (.int .i32 (((lst (ab.at_ 2)).length:Nat):Int))),(27,.v (.int .i32 ((ah:Nat):Int))),(29,.p 5 0)] e9 fun _ fa=>?_)))
       clear e9
       refine qaa (wp_seq ?_)
       have fb:=fa.cast ek
       clear fa
       refine qcn (Mid:=fun a_ w_=>∃ (aY:Option Addr) (P':qb8),(∀ w F,P' w F → ja w F ∧ qj7 aY (qbs (ai.at_ 4)) w F ∧ aY.isNone = (ai.at_ 4).null) ∧ RS w (fun b o=>b = bv ∧ o < 8) F 250 aJ [⟨bv,0,[.int .i16 v,.string (bs (T.at_ 0).S),.int .i32 ap.n,.string au.s,.pointer ar.A,.int .i64 al.n,.slice none 0 0,.map none],true⟩,qbj ac 19 (.agg #[.string ByteArray.empty,.int .u8 0,.int .u8 0,.int .u8 0,.int .u8 0,.int .u8 0,.int .u8 0,.int .u8 0,.int .u8 0,.int .u8 0,.int .u8 0,.int .u8 0,.int .u8 0,.int .u8 0,.int .u8 0,.int .u8 0,.int .u8 0,.slice none 0 0,.map none]) ((lst (T.at_ 5)).length) (ae + 1),⟨ac,ae * 19,[.string am.s,qac (aa.o.getD 0 0),qac (aa.o.getD 1 0),qac (aa.o.getD 2 0),qac (aa.o.getD 3 0),qac (aa.o.getD 4 0),qac (aa.o.getD 5 0),qac (aa.o.getD 6 0),qac (aa.o.getD 7 0),qac (aa.o.getD 8 0),qac (aa.o.getD 9 0),qac (aa.o.getD 10 0),qac (aa.o.getD 11 0),qac (aa.o.getD 12 0),qac (aa.o.getD 13 0),qac (aa.o.getD 14 0),qac (aa.o.getD 15 0),.slice none 0 0,.map none],true⟩,qbj ag 6 (.agg #[.int .i32 0,.int .i64 0,.int .i64 0,.int .i32 0,.pointer none,.map none]) ((lst (ab.at_ 2)).length) (ah + 1),⟨ag,ah * 6,[.int .i32 (IntKind.i32.wrap (ai.at_ 0).N),.int .i64 (IntKind.i64.wrap (ai.at_ 1).N),.int .i64 aF.n,.int .i32 aI.n,.pointer none,.map none],true⟩] [(2,.v (.bool false)),(7,.p 0 0),(8,.v (.int .i16 v)),(9,.v (.bool (decide (v ≥ 8)))),(10,.p 1 0),(17,.v (.slice (some ⟨ac,0,none⟩) ((lst (T.at_ 5)).length) af)),(18,.v (.int .i32 (((lst (T.at_ 5)).length:Nat):Int))),(19,.v (.int .i32 ((ae:Nat):Int))),(21,.p 3 0),(25,.v (.slice (some ⟨ag,0,none⟩) ((lst (ab.at_ 2)).length) aj)),(26,.v (.int .i32 (((lst (ab.at_ 2)).length:Nat):Int))),(27,.v (.int .i32 ((ah:Nat):Int))),(29,.p 5 0),(34,.v (.pointer aY))] P' cA a_ w_) ?_ ?_
       ·
        refine wp_seq (qbB [(2,.v (.bool false)),(7,.p 0 0),(8,.v (.int .i16 v)),(9,.v (.bool (decide (v ≥ 8)))),(10,.p 1 0),(17,.v (.slice (some ⟨ac,0,none⟩) ((lst (T.at_ 5)).length) af)),(18,.v (.int .i32 (((lst (T.at_ 5)).length:Nat):Int))),(19,.v (.int .i32 ((ae:Nat):Int))),(21,.p 3 0),(25,.v (.slice (some ⟨ag,0,none⟩) ((lst (ab.at_ 2)).length) aj)),(26,.v (.int .i32 (((lst (ab.at_ 2)).length:Nat):Int))),(27,.v (.int .i32 ((ah:Nat):Int))),(29,.p 5 0),(213,.v (.bool (decide (v ≥ 8))))] fb fun _ aZ=>qaa ?_)
        clear fb
        refine qax aZ.env_ (b:=decide (v ≥ 8)) kz (fun cq=>?_) (fun cq=>?_)
        ·
         have fe:=aZ.cast (t:=(if (ai.at_ 4).null = true then uv 0 else uv ((qbs (ai.at_ 4)).length + 1) ++ (qbs (ai.at_ 4))) ++ cA) (by rw [if_pos cq])
         clear aZ
         refine wp_seq (qbB [(2,.v (.bool false)),(7,.p 0 0),(8,.v (.int .i16 v)),(9,.v (.bool (decide (v ≥ 8)))),(10,.p 1 0),(17,.v (.slice (some ⟨ac,0,none⟩) ((lst (T.at_ 5)).length) af)),(18,.v (.int .i32 (((lst (T.at_ 5)).length:Nat):Int))),(19,.v (.int .i32 ((ae:Nat):Int))),(21,.p 3 0),(25,.v (.slice (some ⟨ag,0,none⟩) ((lst (ab.at_ 2)).length) aj)),(26,.v (.int .i32 (((lst (ab.at_ 2)).length:Nat):Int))),(27,.v (.int .i32 ((ah:Nat):Int))),(29,.p 5 0),(214,.v (.bool false))] fe fun _ cr=>qaa ?_)
         clear fe
         refine qau cr.env_ (b:=false) kz (rfl) ?_
         refine qkT (d:=216) (fun cB=>[(2,.v (.bool false)),(7,.p 0 0),(8,.v (.int .i16 v)),(9,.v (.bool (decide (v ≥ 8)))),(10,.p 1 0),(17,.v (.slice (some ⟨ac,0,none⟩) ((lst (T.at_ 5)).length) af)),(18,.v (.int .i32 (((lst (T.at_ 5)).length:Nat):Int))),(19,.v (.int .i32 ((ae:Nat):Int))),(21,.p 3 0),(25,.v (.slice (some ⟨ag,0,none⟩) ((lst (ab.at_ 2)).length) aj)),(26,.v (.int .i32 (((lst (ab.at_ 2)).length:Nat):Int))),(27,.v (.int .i32 ((ah:Nat):Int))),(29,.p 5 0),(34,.v (.pointer cB))]) cr (qcH (ai.at_ 4).null (qbs (ai.at_ 4)) e271_4 _) (fun _=>(MvF.text _ _).and (MvF.is _)) Tryz.call119 fun cB jv _ _ ff iv=>?_
         clear cr
         refine qaa ?_
         exact ⟨cB,_,fun w F h_=>⟨(ff _ _ h_).1,(ff _ _ h_).2⟩,iv.pk (env':=[(2,.v (.bool false)),(7,.p 0 0),(8,.v (.int .i16 v)),(9,.v (.bool (decide (v ≥ 8)))),(10,.p 1 0),(17,.v (.slice (some ⟨ac,0,none⟩) ((lst (T.at_ 5)).length) af)),(18,.v (.int .i32 (((lst (T.at_ 5)).length:Nat):Int))),(19,.v (.int .i32 ((ae:Nat):Int))),(21,.p 3 0),(25,.v (.slice (some ⟨ag,0,none⟩) ((lst (ab.at_ 2)).length) aj)),(26,.v (.int .i32 (((lst (ab.at_ 2)).length:Nat):Int))),(27,.v (.int .i32 ((ah:Nat):Int))),(29,.p 5 0),(34,.v (.pointer cB))])⟩
        have fg:=aZ.cast (t:=(if (ai.at_ 4).null = true then be 2 (-1) else be 2 (qbs (ai.at_ 4)).length ++ (qbs (ai.at_ 4))) ++ cA) (by rw [if_neg (by rw [cq]; decide)])
        clear aZ
        refine wp_seq (qbB [(2,.v (.bool false)),(7,.p 0 0),(8,.v (.int .i16 v)),(9,.v (.bool (decide (v ≥ 8)))),(10,.p 1 0),(17,.v (.slice (some ⟨ac,0,none⟩) ((lst (T.at_ 5)).length) af)),(18,.v (.int .i32 (((lst (T.at_ 5)).length:Nat):Int))),(19,.v (.int .i32 ((ae:Nat):Int))),(21,.p 3 0),(25,.v (.slice (some ⟨ag,0,none⟩) ((lst (ab.at_ 2)).length) aj)),(26,.v (.int .i32 (((lst (ab.at_ 2)).length:Nat):Int))),(27,.v (.int .i32 ((ah:Nat):Int))),(29,.p 5 0),(217,.v (.bool false))] fg fun _ cu=>qaa ?_)
        clear fg
        refine qau cu.env_ (b:=false) kz (rfl) ?_
        refine qkT (d:=219) (fun cC=>[(2,.v (.bool false)),(7,.p 0 0),(8,.v (.int .i16 v)),(9,.v (.bool (decide (v ≥ 8)))),(10,.p 1 0),(17,.v (.slice (some ⟨ac,0,none⟩) ((lst (T.at_ 5)).length) af)),(18,.v (.int .i32 (((lst (T.at_ 5)).length:Nat):Int))),(19,.v (.int .i32 ((ae:Nat):Int))),(21,.p 3 0),(25,.v (.slice (some ⟨ag,0,none⟩) ((lst (ab.at_ 2)).length) aj)),(26,.v (.int .i32 (((lst (ab.at_ 2)).length:Nat):Int))),(27,.v (.int .i32 ((ah:Nat):Int))),(29,.p 5 0),(34,.v (.pointer cC))]) cu (qd0 (ai.at_ 4).null (qbs (ai.at_ 4)) e271_4 _) (fun _=>(MvF.text _ _).and (MvF.is _)) Tryz.call121 fun cC jw _ _ fh iw=>?_
        clear cu
        refine qaa ?_
        exact ⟨cC,_,fun w F h_=>⟨(fh _ _ h_).1,(fh _ _ h_).2⟩,iw.pk (env':=[(2,.v (.bool false)),(7,.p 0 0),(8,.v (.int .i16 v)),(9,.v (.bool (decide (v ≥ 8)))),(10,.p 1 0),(17,.v (.slice (some ⟨ac,0,none⟩) ((lst (T.at_ 5)).length) af)),(18,.v (.int .i32 (((lst (T.at_ 5)).length:Nat):Int))),(19,.v (.int .i32 ((ae:Nat):Int))),(21,.p 3 0),(25,.v (.slice (some ⟨ag,0,none⟩) ((lst (ab.at_ 2)).length) aj)),(26,.v (.int .i32 (((lst (ab.at_ 2)).length:Nat):Int))),(27,.v (.int .i32 ((ah:Nat):Int))),(29,.p 5 0),(34,.v (.pointer cC))])⟩
       rintro _ _ ⟨aY,jb,aD,fi⟩
       refine qaa (qcS [⟨bv,0,[.int .i16 v,.string (bs (T.at_ 0).S),.int .i32 ap.n,.string au.s,.pointer ar.A,.int .i64 al.n,.slice none 0 0,.map none],true⟩,qbj ac 19 (.agg #[.string ByteArray.empty,.int .u8 0,.int .u8 0,.int .u8 0,.int .u8 0,.int .u8 0,.int .u8 0,.int .u8 0,.int .u8 0,.int .u8 0,.int .u8 0,.int .u8 0,.int .u8 0,.int .u8 0,.int .u8 0,.int .u8 0,.int .u8 0,.slice none 0 0,.map none]) ((lst (T.at_ 5)).length) (ae + 1),⟨ac,ae * 19,[.string am.s,qac (aa.o.getD 0 0),qac (aa.o.getD 1 0),qac (aa.o.getD 2 0),qac (aa.o.getD 3 0),qac (aa.o.getD 4 0),qac (aa.o.getD 5 0),qac (aa.o.getD 6 0),qac (aa.o.getD 7 0),qac (aa.o.getD 8 0),qac (aa.o.getD 9 0),qac (aa.o.getD 10 0),qac (aa.o.getD 11 0),qac (aa.o.getD 12 0),qac (aa.o.getD 13 0),qac (aa.o.getD 14 0),qac (aa.o.getD 15 0),.slice none 0 0,.map none],true⟩,qbj ag 6 (.agg #[.int .i32 0,.int .i64 0,.int .i64 0,.int .i32 0,.pointer none,.map none]) ((lst (ab.at_ 2)).length) (ah + 1),⟨ag,ah * 6,[.int .i32 (IntKind.i32.wrap (ai.at_ 0).N),.int .i64 (IntKind.i64.wrap (ai.at_ 1).N),.int .i64 aF.n,.int .i32 aI.n,.pointer aY,.map none],true⟩] 4 [(2,.v (.bool false)),(7,.p 0 0),(8,.v (.int .i16 v)),(9,.v (.bool (decide (v ≥ 8)))),(10,.p 1 0),(17,.v (.slice (some ⟨ac,0,none⟩) ((lst (T.at_ 5)).length) af)),(18,.v (.int .i32 (((lst (T.at_ 5)).length:Nat):Int))),(19,.v (.int .i32 ((ae:Nat):Int))),(21,.p 3 0),(25,.v (.slice (some ⟨ag,0,none⟩) ((lst (ab.at_ 2)).length) aj)),(26,.v (.int .i32 (((lst (ab.at_ 2)).length:Nat):Int))),(27,.v (.int .i32 ((ah:Nat):Int))),(29,.p 5 0)] fi fun _ _ fj=>?_)
       clear fi
       refine qaa ?_
       have fk:=fj.cast ej
       clear fj
       refine qcn (Mid:=fun a_ w_=>∃ (cD:Option Nat) (bn:List (Int × Bs)) (P':qb8),(∀ w F,P' w F → jb w F ∧ (MapR w F cD bn ∧ bn.length ≤ 1000000 ∧ ∀ x ∈ bn,x.2.length < 4294967296) ∧ ((decide (v ≥ 8)) = true → bn = ai.U) ∧ ((decide (v ≥ 8)) = false → bn = [])) ∧ RS w (fun b o=>b = bv ∧ o < 8) F 250 aJ [⟨bv,0,[.int .i16 v,.string (bs (T.at_ 0).S),.int .i32 ap.n,.string au.s,.pointer ar.A,.int .i64 al.n,.slice none 0 0,.map none],true⟩,qbj ac 19 (.agg #[.string ByteArray.empty,.int .u8 0,.int .u8 0,.int .u8 0,.int .u8 0,.int .u8 0,.int .u8 0,.int .u8 0,.int .u8 0,.int .u8 0,.int .u8 0,.int .u8 0,.int .u8 0,.int .u8 0,.int .u8 0,.int .u8 0,.int .u8 0,.slice none 0 0,.map none]) ((lst (T.at_ 5)).length) (ae + 1),⟨ac,ae * 19,[.string am.s,qac (aa.o.getD 0 0),qac (aa.o.getD 1 0),qac (aa.o.getD 2 0),qac (aa.o.getD 3 0),qac (aa.o.getD 4 0),qac (aa.o.getD 5 0),qac (aa.o.getD 6 0),qac (aa.o.getD 7 0),qac (aa.o.getD 8 0),qac (aa.o.getD 9 0),qac (aa.o.getD 10 0),qac (aa.o.getD 11 0),qac (aa.o.getD 12 0),qac (aa.o.getD 13 0),qac (aa.o.getD 14 0),qac (aa.o.getD 15 0),.slice none 0 0,.map none],true⟩,qbj ag 6 (.agg #[.int .i32 0,.int .i64 0,.int .i64 0,.int .i32 0,.pointer none,.map none]) ((lst (ab.at_ 2)).length) (ah + 1),⟨ag,ah * 6,[.int .i32 (IntKind.i32.wrap (ai.at_ 0).N),.int .i64 (IntKind.i64.wrap (ai.at_ 1).N),.int .i64 aF.n,.int .i32 aI.n,.pointer aY,.map cD],true⟩] [(2,.v (.bool false)),(7,.p 0 0),(8,.v (.int .i16 v)),(9,.v (.bool (decide (v ≥ 8)))),(10,.p 1 0),(17,.v (.slice (some ⟨ac,0,none⟩) ((lst (T.at_ 5)).length) af)),(18,.v (.int .i32 (((lst (T.at_ 5)).length:Nat):Int))),(19,.v (.int .i32 ((ae:Nat):Int))),(21,.p 3 0),(25,.v (.slice (some ⟨ag,0,none⟩) ((lst (ab.at_ 2)).length) aj)),(26,.v (.int .i32 (((lst (ab.at_ 2)).length:Nat):Int))),(27,.v (.int .i32 ((ah:Nat):Int)))] P' cd a_ w_) ?_ ?_
       ·
        refine wp_seq (qbB [(2,.v (.bool false)),(7,.p 0 0),(8,.v (.int .i16 v)),(9,.v (.bool (decide (v ≥ 8)))),(10,.p 1 0),(17,.v (.slice (some ⟨ac,0,none⟩) ((lst (T.at_ 5)).length) af)),(18,.v (.int .i32 (((lst (T.at_ 5)).length:Nat):Int))),(19,.v (.int .i32 ((ae:Nat):Int))),(21,.p 3 0),(25,.v (.slice (some ⟨ag,0,none⟩) ((lst (ab.at_ 2)).length) aj)),(26,.v (.int .i32 (((lst (ab.at_ 2)).length:Nat):Int))),(27,.v (.int .i32 ((ah:Nat):Int))),(29,.p 5 0),(224,.v (.bool (decide (v ≥ 8))))] fk fun _ ba=>qaa ?_)
        clear fk
        refine qax ba.env_ (b:=decide (v ≥ 8)) kz (fun bd=>?_) (fun bd=>?_)
        ·
         have fl:=ba.cast (t:=((uv ai.U.length) ++ (qbx ai.U)) ++ cd) (by rw [if_pos bd])
         clear ba
         refine qar [0,1,2,3,4] kz ?_
         refine qcE [0] [1,2,3,4] [(2,.v (.bool false)),(7,.p 0 0),(8,.v (.int .i16 v)),(9,.v (.bool (decide (v ≥ 8)))),(10,.p 1 0),(17,.v (.slice (some ⟨ac,0,none⟩) ((lst (T.at_ 5)).length) af)),(18,.v (.int .i32 (((lst (T.at_ 5)).length:Nat):Int))),(19,.v (.int .i32 ((ae:Nat):Int))),(21,.p 3 0),(25,.v (.slice (some ⟨ag,0,none⟩) ((lst (ab.at_ 2)).length) aj)),(26,.v (.int .i32 (((lst (ab.at_ 2)).length:Nat):Int))),(27,.v (.int .i32 ((ah:Nat):Int))),(225,.p 5 0)] fl fun _ fm=>?_
         clear fl
         refine qam (qgF (d:=226) fm (qlR ai.U e271_U (qfr e271r) _) (fun _=>MvF.tags _ _) Tryz.call130 fun gh jx _ _ fo fq=>?_)
         clear fm
         refine qcE [2,3] [4] [(2,.v (.bool false)),(7,.p 0 0),(8,.v (.int .i16 v)),(9,.v (.bool (decide (v ≥ 8)))),(10,.p 1 0),(17,.v (.slice (some ⟨ac,0,none⟩) ((lst (T.at_ 5)).length) af)),(18,.v (.int .i32 (((lst (T.at_ 5)).length:Nat):Int))),(19,.v (.int .i32 ((ae:Nat):Int))),(21,.p 3 0),(25,.v (.slice (some ⟨ag,0,none⟩) ((lst (ab.at_ 2)).length) aj)),(26,.v (.int .i32 (((lst (ab.at_ 2)).length:Nat):Int))),(27,.v (.int .i32 ((ah:Nat):Int))),(226,.v (.agg #[.map gh])),(228,.p 5 5)] fq fun _ fr=>?_
         clear fq
         refine qam (qfs [⟨bv,0,[.int .i16 v,.string (bs (T.at_ 0).S),.int .i32 ap.n,.string au.s,.pointer ar.A,.int .i64 al.n,.slice none 0 0,.map none],true⟩,qbj ac 19 (.agg #[.string ByteArray.empty,.int .u8 0,.int .u8 0,.int .u8 0,.int .u8 0,.int .u8 0,.int .u8 0,.int .u8 0,.int .u8 0,.int .u8 0,.int .u8 0,.int .u8 0,.int .u8 0,.int .u8 0,.int .u8 0,.int .u8 0,.int .u8 0,.slice none 0 0,.map none]) ((lst (T.at_ 5)).length) (ae + 1),⟨ac,ae * 19,[.string am.s,qac (aa.o.getD 0 0),qac (aa.o.getD 1 0),qac (aa.o.getD 2 0),qac (aa.o.getD 3 0),qac (aa.o.getD 4 0),qac (aa.o.getD 5 0),qac (aa.o.getD 6 0),qac (aa.o.getD 7 0),qac (aa.o.getD 8 0),qac (aa.o.getD 9 0),qac (aa.o.getD 10 0),qac (aa.o.getD 11 0),qac (aa.o.getD 12 0),qac (aa.o.getD 13 0),qac (aa.o.getD 14 0),qac (aa.o.getD 15 0),.slice none 0 0,.map none],true⟩,qbj ag 6 (.agg #[.int .i32 0,.int .i64 0,.int .i64 0,.int .i32 0,.pointer none,.map none]) ((lst (ab.at_ 2)).length) (ah + 1),⟨ag,ah * 6,[.int .i32 (IntKind.i32.wrap (ai.at_ 0).N),.int .i64 (IntKind.i64.wrap (ai.at_ 1).N),.int .i64 aF.n,.int .i32 aI.n,.pointer aY,.map gh],true⟩] 4 fr fun _ ft=>?_)
         clear fr
         refine qaf ?_
         have ix:=ft.pk (env':=[(2,.v (.bool false)),(7,.p 0 0),(8,.v (.int .i16 v)),(9,.v (.bool (decide (v ≥ 8)))),(10,.p 1 0),(17,.v (.slice (some ⟨ac,0,none⟩) ((lst (T.at_ 5)).length) af)),(18,.v (.int .i32 (((lst (T.at_ 5)).length:Nat):Int))),(19,.v (.int .i32 ((ae:Nat):Int))),(21,.p 3 0),(25,.v (.slice (some ⟨ag,0,none⟩) ((lst (ab.at_ 2)).length) aj)),(26,.v (.int .i32 (((lst (ab.at_ 2)).length:Nat):Int))),(27,.v (.int .i32 ((ah:Nat):Int)))])
         clear ft
         refine qaa ?_
         exact ⟨gh,ai.U,_,fun w F h_=>⟨(fo _ _ h_).1,⟨(fo _ _ h_).2,e271_U.2.1,e271_U.2.2⟩,⟨fun _=>rfl,(fun e_=>by rw [bd] at e_; cases e_)⟩⟩,ix.pk (env':=[(2,.v (.bool false)),(7,.p 0 0),(8,.v (.int .i16 v)),(9,.v (.bool (decide (v ≥ 8)))),(10,.p 1 0),(17,.v (.slice (some ⟨ac,0,none⟩) ((lst (T.at_ 5)).length) af)),(18,.v (.int .i32 (((lst (T.at_ 5)).length:Nat):Int))),(19,.v (.int .i32 ((ae:Nat):Int))),(21,.p 3 0),(25,.v (.slice (some ⟨ag,0,none⟩) ((lst (ab.at_ 2)).length) aj)),(26,.v (.int .i32 (((lst (ab.at_ 2)).length:Nat):Int))),(27,.v (.int .i32 ((ah:Nat):Int)))])⟩
        have fu:=ba.cast (t:=[] ++ cd) (by rw [if_neg (by rw [bd]; decide)])
        clear ba
        have iy:=fu.cast (t:=cd) rfl
        clear fu
        refine wp_skip (qaa ?_)
        exact ⟨none,[],_,fun w F h_=>⟨h_,⟨MapR.nil _ _,Nat.zero_le _,fun _ h=>by cases h⟩,⟨(fun e_=>by rw [bd] at e_; cases e_),fun _=>rfl⟩⟩,iy.pk (env':=[(2,.v (.bool false)),(7,.p 0 0),(8,.v (.int .i16 v)),(9,.v (.bool (decide (v ≥ 8)))),(10,.p 1 0),(17,.v (.slice (some ⟨ac,0,none⟩) ((lst (T.at_ 5)).length) af)),(18,.v (.int .i32 (((lst (T.at_ 5)).length:Nat):Int))),(19,.v (.int .i32 ((ae:Nat):Int))),(21,.p 3 0),(25,.v (.slice (some ⟨ag,0,none⟩) ((lst (ab.at_ 2)).length) aj)),(26,.v (.int .i32 (((lst (ab.at_ 2)).length:Nat):Int))),(27,.v (.int .i32 ((ah:Nat):Int)))])⟩
       rintro _ _ ⟨cD,bn,jy,aw,fv⟩
       refine qaE (qaa (qbB [(2,.v (.bool false)),(7,.p 0 0),(8,.v (.int .i16 v)),(9,.v (.bool (decide (v ≥ 8)))),(10,.p 1 0),(17,.v (.slice (some ⟨ac,0,none⟩) ((lst (T.at_ 5)).length) af)),(18,.v (.int .i32 (((lst (T.at_ 5)).length:Nat):Int))),(19,.v (.int .i32 ((ae:Nat):Int))),(21,.p 3 0),(25,.v (.slice (some ⟨ag,0,none⟩) ((lst (ab.at_ 2)).length) aj)),(26,.v (.int .i32 (((lst (ab.at_ 2)).length:Nat):Int))),(27,.v (.int .i32 (IntKind.i32.wrap (((ah:Nat):Int) + 1))))] fv fun _ fw=>?_))
       clear fv
       refine qaa ?_
       have iz:=(fw.envEq (env':=[(2,.v (.bool false)),(7,.p 0 0),(8,.v (.int .i16 v)),(9,.v (.bool (decide (v ≥ 8)))),(10,.p 1 0),(17,.v (.slice (some ⟨ac,0,none⟩) ((lst (T.at_ 5)).length) af)),(18,.v (.int .i32 (((lst (T.at_ 5)).length:Nat):Int))),(19,.v (.int .i32 ((ae:Nat):Int))),(21,.p 3 0),(25,.v (.slice (some ⟨ag,0,none⟩) ((lst (ab.at_ 2)).length) aj)),(26,.v (.int .i32 (((lst (ab.at_ 2)).length:Nat):Int))),(27,.v (.int .i32 ((ah + 1:Nat):Int)))]) (by rw [qim (by have:=e178_2; omega)])).pk (env':=[(2,.v (.bool false)),(7,.p 0 0),(8,.v (.int .i16 v)),(9,.v (.bool (decide (v ≥ 8)))),(10,.p 1 0),(17,.v (.slice (some ⟨ac,0,none⟩) ((lst (T.at_ 5)).length) af)),(18,.v (.int .i32 (((lst (T.at_ 5)).length:Nat):Int))),(19,.v (.int .i32 ((ae:Nat):Int))),(21,.p 3 0),(25,.v (.slice (some ⟨ag,0,none⟩) ((lst (ab.at_ 2)).length) aj)),(26,.v (.int .i32 (((lst (ab.at_ 2)).length:Nat):Int))),(27,.v (.int .i32 ((ah + 1:Nat):Int)))])
       clear fw
       exact (RS.thing (tb:=[⟨bv,0,[.int .i16 v,.string (bs (T.at_ 0).S),.int .i32 ap.n,.string au.s,.pointer ar.A,.int .i64 al.n,.slice none 0 0,.map none],true⟩,qbj ac 19 (.agg #[.string ByteArray.empty,.int .u8 0,.int .u8 0,.int .u8 0,.int .u8 0,.int .u8 0,.int .u8 0,.int .u8 0,.int .u8 0,.int .u8 0,.int .u8 0,.int .u8 0,.int .u8 0,.int .u8 0,.int .u8 0,.int .u8 0,.int .u8 0,.slice none 0 0,.map none]) ((lst (T.at_ 5)).length) (ae + 1),⟨ac,ae * 19,[.string am.s,qac (aa.o.getD 0 0),qac (aa.o.getD 1 0),qac (aa.o.getD 2 0),qac (aa.o.getD 3 0),qac (aa.o.getD 4 0),qac (aa.o.getD 5 0),qac (aa.o.getD 6 0),qac (aa.o.getD 7 0),qac (aa.o.getD 8 0),qac (aa.o.getD 9 0),qac (aa.o.getD 10 0),qac (aa.o.getD 11 0),qac (aa.o.getD 12 0),qac (aa.o.getD 13 0),qac (aa.o.getD 14 0),qac (aa.o.getD 15 0),.slice none 0 0,.map none],true⟩]) (z:=.agg #[.int .i32 0,.int .i64 0,.int .i64 0,.int .i32 0,.pointer none,.map none]) (D:=(dvP cD bn [dvN (IntKind.i32.wrap (ai.at_ 0).N),dvN (IntKind.i64.wrap (ai.at_ 1).N),aF,aI,dvT aY (bs (qbs (ai.at_ 4)))])) (iz.cast ei) hg_g252 b8 qbd bZ rfl (fun w F h_=>⟨(eg _ _ (bA _ _ (aH _ _ (aD _ _ (aw _ _ h_).1).1).1).1).1,(eg _ _ (bA _ _ (aH _ _ (aD _ _ (aw _ _ h_).1).1).1).1).2,⟨(trivial),(trivial),((bA _ _ (aH _ _ (aD _ _ (aw _ _ h_).1).1).1).2.1),((aH _ _ (aD _ _ (aw _ _ h_).1).1).2.1),(⟨(aD _ _ (aw _ _ h_).1).2.1,by show ByteArray.size (bs _) ≤ 1000000; rw [qdg]; exact Nat.le_trans e271_4 (by decide)⟩),(aw _ _ h_).2.1.1,(aw _ _ h_).2.1.2.1,(aw _ _ h_).2.1.2.2,trivial⟩,⟨(rfl),(rfl),((bA _ _ (aH _ _ (aD _ _ (aw _ _ h_).1).1).1).2.2),((aH _ _ (aD _ _ (aw _ _ h_).1).1).2.2),(⟨rfl,(aD _ _ (aw _ _ h_).1).2.2⟩),(aw _ _ h_).2.2,trivial⟩⟩) kz)
      refine wp_seq (wp_seq (qbB [(2,.v (.bool false)),(7,.p 0 0),(8,.v (.int .i16 v)),(9,.v (.bool (decide (v ≥ 8)))),(10,.p 1 0),(17,.v (.slice (some ⟨ac,0,none⟩) ((lst (T.at_ 5)).length) af)),(18,.v (.int .i32 (((lst (T.at_ 5)).length:Nat):Int))),(19,.v (.int .i32 ((ae:Nat):Int))),(21,.p 3 0),(25,.v (.slice (some ⟨ag,0,none⟩) ((lst (ab.at_ 2)).length) aj)),(26,.v (.int .i32 (((lst (ab.at_ 2)).length:Nat):Int))),(27,.v (.int .i32 (((lst (ab.at_ 2)).length:Nat):Int))),(176,.v (.bool (decide ((((lst (ab.at_ 2)).length:Nat):Int) < (((lst (ab.at_ 2)).length:Nat):Int)))))] ef fun _ fx=>qaa ?_))
      clear ef
      refine qau fx.env_ (b:=decide ((((lst (ab.at_ 2)).length:Nat):Int) < (((lst (ab.at_ 2)).length:Nat):Int))) kz (decide_eq_false (by omega)) ?_
      refine wp_exit (qaz (qaz (qaQ (qaa ?_))))
      obtain ⟨jc,iA⟩:=RS.listEnd (tb:=[⟨bv,0,[.int .i16 v,.string (bs (T.at_ 0).S),.int .i32 ap.n,.string au.s,.pointer ar.A,.int .i64 al.n,.slice none 0 0,.map none],true⟩,qbj ac 19 (.agg #[.string ByteArray.empty,.int .u8 0,.int .u8 0,.int .u8 0,.int .u8 0,.int .u8 0,.int .u8 0,.int .u8 0,.int .u8 0,.int .u8 0,.int .u8 0,.int .u8 0,.int .u8 0,.int .u8 0,.int .u8 0,.int .u8 0,.int .u8 0,.slice none 0 0,.map none]) ((lst (T.at_ 5)).length) (ae + 1),⟨ac,ae * 19,[.string am.s,qac (aa.o.getD 0 0),qac (aa.o.getD 1 0),qac (aa.o.getD 2 0),qac (aa.o.getD 3 0),qac (aa.o.getD 4 0),qac (aa.o.getD 5 0),qac (aa.o.getD 6 0),qac (aa.o.getD 7 0),qac (aa.o.getD 8 0),qac (aa.o.getD 9 0),qac (aa.o.getD 10 0),qac (aa.o.getD 11 0),qac (aa.o.getD 12 0),qac (aa.o.getD 13 0),qac (aa.o.getD 14 0),qac (aa.o.getD 15 0),.slice none 0 0,.map none],true⟩]) (c:=aj) (fx.pk (env':=[(2,.v (.bool false)),(7,.p 0 0),(8,.v (.int .i16 v)),(9,.v (.bool (decide (v ≥ 8)))),(10,.p 1 0),(17,.v (.slice (some ⟨ac,0,none⟩) ((lst (T.at_ 5)).length) af)),(18,.v (.int .i32 (((lst (T.at_ 5)).length:Nat):Int))),(19,.v (.int .i32 ((ae:Nat):Int))),(21,.p 3 0),(25,.v (.slice (some ⟨ag,0,none⟩) ((lst (ab.at_ 2)).length) aj))])) hg_g252 qbd bZ hcap_g252 (by have:=e178_2; omega) hn_g252 kz
      exact ⟨dvL (some ⟨ag,0,none⟩) (lst (ab.at_ 2)).length aj jc,_,fun w F h_=>⟨h_.1,⟨h_.2.1,Nat.le_trans e178_2 (by decide),h_.2.2.1⟩,⟨rfl,h_.2.2.2⟩⟩,iA⟩
     refine wp_skip (qaa (wp_seq (qbB [(2,.v (.bool false)),(7,.p 0 0),(8,.v (.int .i16 v)),(9,.v (.bool (decide (v ≥ 8)))),(10,.p 1 0),(17,.v (.slice (some ⟨ac,0,none⟩) ((lst (T.at_ 5)).length) af)),(18,.v (.int .i32 (((lst (T.at_ 5)).length:Nat):Int))),(19,.v (.int .i32 ((ae:Nat):Int))),(21,.p 3 0),(25,.v (.slice none 0 0)),(26,.v (.int .i32 (((lst (ab.at_ 2)).length:Nat):Int))),(27,.v (.int .i32 0))] aT fun _ fy=>?_)))
     clear aT
     refine qaa (wp_block (qik (wp_seq (wp_seq (qbB [(2,.v (.bool false)),(7,.p 0 0),(8,.v (.int .i16 v)),(9,.v (.bool (decide (v ≥ 8)))),(10,.p 1 0),(17,.v (.slice (some ⟨ac,0,none⟩) ((lst (T.at_ 5)).length) af)),(18,.v (.int .i32 (((lst (T.at_ 5)).length:Nat):Int))),(19,.v (.int .i32 ((ae:Nat):Int))),(21,.p 3 0),(25,.v (.slice none 0 0)),(26,.v (.int .i32 (((lst (ab.at_ 2)).length:Nat):Int))),(27,.v (.int .i32 0)),(176,.v (.bool (decide (0 < (((lst (ab.at_ 2)).length:Nat):Int)))))] fy fun _ fz=>qaa ?_)))))
     clear fy
     refine qau fz.env_ (b:=decide (0 < (((lst (ab.at_ 2)).length:Nat):Int))) kz (decide_eq_false (by have h_:=of_decide_eq_false bx; omega)) ?_
     refine wp_exit (qaz (qaz (qaQ (qaa ?_))))
     have hz_:(lst (ab.at_ 2)).length = 0:=by have h_:=of_decide_eq_false bx; omega
     exact ⟨dvL none 0 0 (fun _=>dv0),_,fun w F h_=>⟨h_,⟨Slots.nil _ _ _ _,Nat.zero_le _,fun _ h=>absurd h (Nat.not_lt_zero _)⟩,⟨hz_.symm,fun _ h=>absurd h (Nat.not_lt_zero _)⟩⟩,(fz.cast (t:=aO) (by rw [List.eq_nil_of_length_eq_zero hz_]; rfl)).pk (env':=[(2,.v (.bool false)),(7,.p 0 0),(8,.v (.int .i16 v)),(9,.v (.bool (decide (v ≥ 8)))),(10,.p 1 0),(17,.v (.slice (some ⟨ac,0,none⟩) ((lst (T.at_ 5)).length) af)),(18,.v (.int .i32 (((lst (T.at_ 5)).length:Nat):Int))),(19,.v (.int .i32 ((ae:Nat):Int))),(21,.p 3 0),(25,.v (.slice none 0 0))])⟩
    rintro _ _ ⟨ao,jd,aE,fA⟩
    refine wp_seq (qbB [(2,.v (.bool false)),(7,.p 0 0),(8,.v (.int .i16 v)),(9,.v (.bool (decide (v ≥ 8)))),(10,.p 1 0),(17,.v (.slice (some ⟨ac,0,none⟩) ((lst (T.at_ 5)).length) af)),(18,.v (.int .i32 (((lst (T.at_ 5)).length:Nat):Int))),(19,.v (.int .i32 ((ae:Nat):Int))),(21,.p 3 0),(24,.v (.slice ao.A ao.l ao.c))] fA fun _ fB=>?_)
    clear fA
    refine qaa (qcS [⟨bv,0,[.int .i16 v,.string (bs (T.at_ 0).S),.int .i32 ap.n,.string au.s,.pointer ar.A,.int .i64 al.n,.slice none 0 0,.map none],true⟩,qbj ac 19 (.agg #[.string ByteArray.empty,.int .u8 0,.int .u8 0,.int .u8 0,.int .u8 0,.int .u8 0,.int .u8 0,.int .u8 0,.int .u8 0,.int .u8 0,.int .u8 0,.int .u8 0,.int .u8 0,.int .u8 0,.int .u8 0,.int .u8 0,.int .u8 0,.slice none 0 0,.map none]) ((lst (T.at_ 5)).length) (ae + 1),⟨ac,ae * 19,[.string am.s,qac (aa.o.getD 0 0),qac (aa.o.getD 1 0),qac (aa.o.getD 2 0),qac (aa.o.getD 3 0),qac (aa.o.getD 4 0),qac (aa.o.getD 5 0),qac (aa.o.getD 6 0),qac (aa.o.getD 7 0),qac (aa.o.getD 8 0),qac (aa.o.getD 9 0),qac (aa.o.getD 10 0),qac (aa.o.getD 11 0),qac (aa.o.getD 12 0),qac (aa.o.getD 13 0),qac (aa.o.getD 14 0),qac (aa.o.getD 15 0),.slice ao.A ao.l ao.c,.map none],true⟩] 2 [(2,.v (.bool false)),(7,.p 0 0),(8,.v (.int .i16 v)),(9,.v (.bool (decide (v ≥ 8)))),(10,.p 1 0),(17,.v (.slice (some ⟨ac,0,none⟩) ((lst (T.at_ 5)).length) af)),(18,.v (.int .i32 (((lst (T.at_ 5)).length:Nat):Int))),(19,.v (.int .i32 ((ae:Nat):Int))),(21,.p 3 0)] fB fun _ _ fC=>?_)
    clear fB
    refine qaa ?_
    have fD:=fC.cast du
    clear fC
    refine qcn (Mid:=fun a_ w_=>∃ (cE:Option Nat) (bo:List (Int × Bs)) (P':qb8),(∀ w F,P' w F → jd w F ∧ (MapR w F cE bo ∧ bo.length ≤ 1000000 ∧ ∀ x ∈ bo,x.2.length < 4294967296) ∧ ((decide (v ≥ 8)) = true → bo = ab.U) ∧ ((decide (v ≥ 8)) = false → bo = [])) ∧ RS w (fun b o=>b = bv ∧ o < 8) F 250 aJ [⟨bv,0,[.int .i16 v,.string (bs (T.at_ 0).S),.int .i32 ap.n,.string au.s,.pointer ar.A,.int .i64 al.n,.slice none 0 0,.map none],true⟩,qbj ac 19 (.agg #[.string ByteArray.empty,.int .u8 0,.int .u8 0,.int .u8 0,.int .u8 0,.int .u8 0,.int .u8 0,.int .u8 0,.int .u8 0,.int .u8 0,.int .u8 0,.int .u8 0,.int .u8 0,.int .u8 0,.int .u8 0,.int .u8 0,.int .u8 0,.slice none 0 0,.map none]) ((lst (T.at_ 5)).length) (ae + 1),⟨ac,ae * 19,[.string am.s,qac (aa.o.getD 0 0),qac (aa.o.getD 1 0),qac (aa.o.getD 2 0),qac (aa.o.getD 3 0),qac (aa.o.getD 4 0),qac (aa.o.getD 5 0),qac (aa.o.getD 6 0),qac (aa.o.getD 7 0),qac (aa.o.getD 8 0),qac (aa.o.getD 9 0),qac (aa.o.getD 10 0),qac (aa.o.getD 11 0),qac (aa.o.getD 12 0),qac (aa.o.getD 13 0),qac (aa.o.getD 14 0),qac (aa.o.getD 15 0),.slice ao.A ao.l ao.c,.map cE],true⟩] [(2,.v (.bool false)),(7,.p 0 0),(8,.v (.int .i16 v)),(9,.v (.bool (decide (v ≥ 8)))),(10,.p 1 0),(17,.v (.slice (some ⟨ac,0,none⟩) ((lst (T.at_ 5)).length) af)),(18,.v (.int .i32 (((lst (T.at_ 5)).length:Nat):Int))),(19,.v (.int .i32 ((ae:Nat):Int)))] P' bS a_ w_) ?_ ?_
    ·
     refine wp_seq (qbB [(2,.v (.bool false)),(7,.p 0 0),(8,.v (.int .i16 v)),(9,.v (.bool (decide (v ≥ 8)))),(10,.p 1 0),(17,.v (.slice (some ⟨ac,0,none⟩) ((lst (T.at_ 5)).length) af)),(18,.v (.int .i32 (((lst (T.at_ 5)).length:Nat):Int))),(19,.v (.int .i32 ((ae:Nat):Int))),(21,.p 3 0),(234,.v (.bool (decide (v ≥ 8))))] fD fun _ bf=>qaa ?_)
     clear fD
     refine qax bf.env_ (b:=decide (v ≥ 8)) kz (fun bg=>?_) (fun bg=>?_)
     ·
      have fE:=bf.cast (t:=((uv ab.U.length) ++ (qbx ab.U)) ++ bS) (by rw [if_pos bg])
      clear bf
      refine qar [0,1,2,3,4] kz ?_
      refine qcE [0] [1,2,3,4] [(2,.v (.bool false)),(7,.p 0 0),(8,.v (.int .i16 v)),(9,.v (.bool (decide (v ≥ 8)))),(10,.p 1 0),(17,.v (.slice (some ⟨ac,0,none⟩) ((lst (T.at_ 5)).length) af)),(18,.v (.int .i32 (((lst (T.at_ 5)).length:Nat):Int))),(19,.v (.int .i32 ((ae:Nat):Int))),(235,.p 3 0)] fE fun _ fF=>?_
      clear fE
      refine qam (qgF (d:=236) fF (qlR ab.U e178_U (qfr e178r) _) (fun _=>MvF.tags _ _) Tryz.call130 fun gi jz _ _ fG fH=>?_)
      clear fF
      refine qcE [2,3] [4] [(2,.v (.bool false)),(7,.p 0 0),(8,.v (.int .i16 v)),(9,.v (.bool (decide (v ≥ 8)))),(10,.p 1 0),(17,.v (.slice (some ⟨ac,0,none⟩) ((lst (T.at_ 5)).length) af)),(18,.v (.int .i32 (((lst (T.at_ 5)).length:Nat):Int))),(19,.v (.int .i32 ((ae:Nat):Int))),(236,.v (.agg #[.map gi])),(238,.p 3 18)] fH fun _ fI=>?_
      clear fH
      refine qam (qfs [⟨bv,0,[.int .i16 v,.string (bs (T.at_ 0).S),.int .i32 ap.n,.string au.s,.pointer ar.A,.int .i64 al.n,.slice none 0 0,.map none],true⟩,qbj ac 19 (.agg #[.string ByteArray.empty,.int .u8 0,.int .u8 0,.int .u8 0,.int .u8 0,.int .u8 0,.int .u8 0,.int .u8 0,.int .u8 0,.int .u8 0,.int .u8 0,.int .u8 0,.int .u8 0,.int .u8 0,.int .u8 0,.int .u8 0,.int .u8 0,.slice none 0 0,.map none]) ((lst (T.at_ 5)).length) (ae + 1),⟨ac,ae * 19,[.string am.s,qac (aa.o.getD 0 0),qac (aa.o.getD 1 0),qac (aa.o.getD 2 0),qac (aa.o.getD 3 0),qac (aa.o.getD 4 0),qac (aa.o.getD 5 0),qac (aa.o.getD 6 0),qac (aa.o.getD 7 0),qac (aa.o.getD 8 0),qac (aa.o.getD 9 0),qac (aa.o.getD 10 0),qac (aa.o.getD 11 0),qac (aa.o.getD 12 0),qac (aa.o.getD 13 0),qac (aa.o.getD 14 0),qac (aa.o.getD 15 0),.slice ao.A ao.l ao.c,.map gi],true⟩] 2 fI fun _ fJ=>?_)
      clear fI
      refine qaf ?_
      have iB:=fJ.pk (env':=[(2,.v (.bool false)),(7,.p 0 0),(8,.v (.int .i16 v)),(9,.v (.bool (decide (v ≥ 8)))),(10,.p 1 0),(17,.v (.slice (some ⟨ac,0,none⟩) ((lst (T.at_ 5)).length) af)),(18,.v (.int .i32 (((lst (T.at_ 5)).length:Nat):Int))),(19,.v (.int .i32 ((ae:Nat):Int)))])
      clear fJ
      refine qaa ?_
      exact ⟨gi,ab.U,_,fun w F h_=>⟨(fG _ _ h_).1,⟨(fG _ _ h_).2,e178_U.2.1,e178_U.2.2⟩,⟨fun _=>rfl,(fun e_=>by rw [bg] at e_; cases e_)⟩⟩,iB.pk (env':=[(2,.v (.bool false)),(7,.p 0 0),(8,.v (.int .i16 v)),(9,.v (.bool (decide (v ≥ 8)))),(10,.p 1 0),(17,.v (.slice (some ⟨ac,0,none⟩) ((lst (T.at_ 5)).length) af)),(18,.v (.int .i32 (((lst (T.at_ 5)).length:Nat):Int))),(19,.v (.int .i32 ((ae:Nat):Int)))])⟩
     have fK:=bf.cast (t:=[] ++ bS) (by rw [if_neg (by rw [bg]; decide)])
     clear bf
     have iC:=fK.cast (t:=bS) rfl
     clear fK
     refine wp_skip (qaa ?_)
     exact ⟨none,[],_,fun w F h_=>⟨h_,⟨MapR.nil _ _,Nat.zero_le _,fun _ h=>by cases h⟩,⟨(fun e_=>by rw [bg] at e_; cases e_),fun _=>rfl⟩⟩,iC.pk (env':=[(2,.v (.bool false)),(7,.p 0 0),(8,.v (.int .i16 v)),(9,.v (.bool (decide (v ≥ 8)))),(10,.p 1 0),(17,.v (.slice (some ⟨ac,0,none⟩) ((lst (T.at_ 5)).length) af)),(18,.v (.int .i32 (((lst (T.at_ 5)).length:Nat):Int))),(19,.v (.int .i32 ((ae:Nat):Int)))])⟩
    rintro _ _ ⟨cE,bo,jA,ax,fL⟩
    refine qaE (qaa (qbB [(2,.v (.bool false)),(7,.p 0 0),(8,.v (.int .i16 v)),(9,.v (.bool (decide (v ≥ 8)))),(10,.p 1 0),(17,.v (.slice (some ⟨ac,0,none⟩) ((lst (T.at_ 5)).length) af)),(18,.v (.int .i32 (((lst (T.at_ 5)).length:Nat):Int))),(19,.v (.int .i32 (IntKind.i32.wrap (((ae:Nat):Int) + 1))))] fL fun _ fM=>?_))
    clear fL
    refine qaa ?_
    have iD:=(fM.envEq (env':=[(2,.v (.bool false)),(7,.p 0 0),(8,.v (.int .i16 v)),(9,.v (.bool (decide (v ≥ 8)))),(10,.p 1 0),(17,.v (.slice (some ⟨ac,0,none⟩) ((lst (T.at_ 5)).length) af)),(18,.v (.int .i32 (((lst (T.at_ 5)).length:Nat):Int))),(19,.v (.int .i32 ((ae + 1:Nat):Int)))]) (by rw [qim (by have:=e38_5; omega)])).pk (env':=[(2,.v (.bool false)),(7,.p 0 0),(8,.v (.int .i16 v)),(9,.v (.bool (decide (v ≥ 8)))),(10,.p 1 0),(17,.v (.slice (some ⟨ac,0,none⟩) ((lst (T.at_ 5)).length) af)),(18,.v (.int .i32 (((lst (T.at_ 5)).length:Nat):Int))),(19,.v (.int .i32 ((ae + 1:Nat):Int)))])
    clear fM
    exact (RS.thing (tb:=[⟨bv,0,[.int .i16 v,.string (bs (T.at_ 0).S),.int .i32 ap.n,.string au.s,.pointer ar.A,.int .i64 al.n,.slice none 0 0,.map none],true⟩]) (z:=.agg #[.string ByteArray.empty,.int .u8 0,.int .u8 0,.int .u8 0,.int .u8 0,.int .u8 0,.int .u8 0,.int .u8 0,.int .u8 0,.int .u8 0,.int .u8 0,.int .u8 0,.int .u8 0,.int .u8 0,.int .u8 0,.int .u8 0,.int .u8 0,.slice none 0 0,.map none]) (D:=(dvP cE bo [am,aa,ao])) (iD.cast dt) hg_g159 bR qbw bQ rfl (fun w F h_=>⟨(dq _ _ (bw _ _ (aG _ _ (aE _ _ (ax _ _ h_).1).1).1).1).1,(dq _ _ (bw _ _ (aG _ _ (aE _ _ (ax _ _ h_).1).1).1).1).2,⟨((bw _ _ (aG _ _ (aE _ _ (ax _ _ h_).1).1).1).2.1),((aG _ _ (aE _ _ (ax _ _ h_).1).1).2.1),((aE _ _ (ax _ _ h_).1).2.1),(ax _ _ h_).2.1.1,(ax _ _ h_).2.1.2.1,(ax _ _ h_).2.1.2.2,trivial⟩,⟨((bw _ _ (aG _ _ (aE _ _ (ax _ _ h_).1).1).1).2.2),((aG _ _ (aE _ _ (ax _ _ h_).1).1).2.2),((aE _ _ (ax _ _ h_).1).2.2),(ax _ _ h_).2.2,trivial⟩⟩) kz)
   refine wp_seq (wp_seq (qbB [(2,.v (.bool false)),(7,.p 0 0),(8,.v (.int .i16 v)),(9,.v (.bool (decide (v ≥ 8)))),(10,.p 1 0),(17,.v (.slice (some ⟨ac,0,none⟩) ((lst (T.at_ 5)).length) af)),(18,.v (.int .i32 (((lst (T.at_ 5)).length:Nat):Int))),(19,.v (.int .i32 (((lst (T.at_ 5)).length:Nat):Int))),(123,.v (.bool (decide ((((lst (T.at_ 5)).length:Nat):Int) < (((lst (T.at_ 5)).length:Nat):Int)))))] dp fun _ fN=>qaa ?_))
   clear dp
   refine qau fN.env_ (b:=decide ((((lst (T.at_ 5)).length:Nat):Int) < (((lst (T.at_ 5)).length:Nat):Int))) kz (decide_eq_false (by omega)) ?_
   refine wp_exit (qaz (qaz (qaQ (qaa ?_))))
   obtain ⟨je,iE⟩:=RS.listEnd (tb:=[⟨bv,0,[.int .i16 v,.string (bs (T.at_ 0).S),.int .i32 ap.n,.string au.s,.pointer ar.A,.int .i64 al.n,.slice none 0 0,.map none],true⟩]) (c:=af) (fN.pk (env':=[(7,.p 0 0),(9,.v (.bool (decide (v ≥ 8)))),(10,.p 1 0),(17,.v (.slice (some ⟨ac,0,none⟩) ((lst (T.at_ 5)).length) af))])) hg_g159 qbw bQ hcap_g159 (by have:=e38_5; omega) hn_g159 kz
   exact ⟨dvL (some ⟨ac,0,none⟩) (lst (T.at_ 5)).length af je,_,fun w F h_=>⟨h_.1,⟨h_.2.1,Nat.le_trans e38_5 (by decide),h_.2.2.1⟩,⟨rfl,h_.2.2.2⟩⟩,iE⟩
  refine wp_skip (qaa (wp_seq (qbB [(2,.v (.bool false)),(7,.p 0 0),(8,.v (.int .i16 v)),(9,.v (.bool (decide (v ≥ 8)))),(10,.p 1 0),(17,.v (.slice none 0 0)),(18,.v (.int .i32 (((lst (T.at_ 5)).length:Nat):Int))),(19,.v (.int .i32 0))] aN fun _ fO=>?_)))
  clear aN
  refine qaa (wp_block (qik (wp_seq (wp_seq (qbB [(2,.v (.bool false)),(7,.p 0 0),(8,.v (.int .i16 v)),(9,.v (.bool (decide (v ≥ 8)))),(10,.p 1 0),(17,.v (.slice none 0 0)),(18,.v (.int .i32 (((lst (T.at_ 5)).length:Nat):Int))),(19,.v (.int .i32 0)),(123,.v (.bool (decide (0 < (((lst (T.at_ 5)).length:Nat):Int)))))] fO fun _ fP=>qaa ?_)))))
  clear fO
  refine qau fP.env_ (b:=decide (0 < (((lst (T.at_ 5)).length:Nat):Int))) kz (decide_eq_false (by have h_:=of_decide_eq_false bt; omega)) ?_
  refine wp_exit (qaz (qaz (qaQ (qaa ?_))))
  have hz_:(lst (T.at_ 5)).length = 0:=by have h_:=of_decide_eq_false bt; omega
  exact ⟨dvL none 0 0 (fun _=>dv0),_,fun w F h_=>⟨h_,⟨Slots.nil _ _ _ _,Nat.zero_le _,fun _ h=>absurd h (Nat.not_lt_zero _)⟩,⟨hz_.symm,fun _ h=>absurd h (Nat.not_lt_zero _)⟩⟩,(fP.cast (t:=cH) (by rw [List.eq_nil_of_length_eq_zero hz_]; rfl)).pk (env':=[(7,.p 0 0),(9,.v (.bool (decide (v ≥ 8)))),(10,.p 1 0),(17,.v (.slice none 0 0))])⟩
 rintro _ _ ⟨ak,jf,ay,fQ⟩
 refine wp_seq (qbB [(7,.p 0 0),(9,.v (.bool (decide (v ≥ 8)))),(10,.p 1 0),(16,.v (.slice ak.A ak.l ak.c))] fQ fun _ fR=>?_)
 clear fQ
 refine qaa (qcS [⟨bv,0,[.int .i16 v,.string (bs (T.at_ 0).S),.int .i32 ap.n,.string au.s,.pointer ar.A,.int .i64 al.n,.slice ak.A ak.l ak.c,.map none],true⟩] 0 [(7,.p 0 0),(9,.v (.bool (decide (v ≥ 8)))),(10,.p 1 0)] fR fun _ _ fS=>?_)
 clear fR
 refine qaa (wp_seq ?_)
 have fT:=fS.cast gm
 clear fS
 refine qcn (Mid:=fun a_ w_=>∃ (cG:Option Nat) (bp:List (Int × Bs)) (P':qb8),(∀ w F,P' w F → jf w F ∧ (MapR w F cG bp ∧ bp.length ≤ 1000000 ∧ ∀ x ∈ bp,x.2.length < 4294967296) ∧ ((decide (v ≥ 8)) = true → bp = T.U) ∧ ((decide (v ≥ 8)) = false → bp = [])) ∧ RS w (fun b o=>b = bv ∧ o < 8) F 250 aJ [⟨bv,0,[.int .i16 v,.string (bs (T.at_ 0).S),.int .i32 ap.n,.string au.s,.pointer ar.A,.int .i64 al.n,.slice ak.A ak.l ak.c,.map cG],true⟩] [(7,.p 0 0)] P' ([]:Bs) a_ w_) ?_ ?_
 ·
  refine wp_seq (qbB [(7,.p 0 0),(10,.p 1 0),(244,.v (.bool (decide (v ≥ 8))))] fT fun _ bh=>qaa ?_)
  clear fT
  refine qax bh.env_ (b:=decide (v ≥ 8)) kz (fun bi=>?_) (fun bi=>?_)
  ·
   have fU:=bh.cast (t:=((uv T.U.length) ++ (qbx T.U)) ++ ([]:Bs)) (by rw [if_pos bi])
   clear bh
   refine qar [0,1,2,3,4] kz ?_
   refine qcE [0] [1,2,3,4] [(7,.p 0 0),(245,.p 1 0)] fU fun _ fV=>?_
   clear fU
   refine qam (qgF (d:=246) fV (qlR T.U e38_U (qfr e38r) _) (fun _=>MvF.tags _ _) Tryz.call130 fun gj jB _ _ fW fX=>?_)
   clear fV
   refine qcE [2,3] [4] [(7,.p 0 0),(246,.v (.agg #[.map gj])),(248,.p 1 7)] fX fun _ fY=>?_
   clear fX
   refine qam (qfs [⟨bv,0,[.int .i16 v,.string (bs (T.at_ 0).S),.int .i32 ap.n,.string au.s,.pointer ar.A,.int .i64 al.n,.slice ak.A ak.l ak.c,.map gj],true⟩] 0 fY fun _ fZ=>?_)
   clear fY
   refine qaf ?_
   have iF:=fZ.pk (env':=[(7,.p 0 0)])
   clear fZ
   refine qaa ?_
   exact ⟨gj,T.U,_,fun w F h_=>⟨(fW _ _ h_).1,⟨(fW _ _ h_).2,e38_U.2.1,e38_U.2.2⟩,⟨fun _=>rfl,(fun e_=>by rw [bi] at e_; cases e_)⟩⟩,iF.pk (env':=[(7,.p 0 0)])⟩
  have f5:=bh.cast (t:=[] ++ ([]:Bs)) (by rw [if_neg (by rw [bi]; decide)])
  clear bh
  have iG:=f5.cast (t:=([]:Bs)) rfl
  clear f5
  refine wp_skip (qaa ?_)
  exact ⟨none,[],_,fun w F h_=>⟨h_,⟨MapR.nil _ _,Nat.zero_le _,fun _ h=>by cases h⟩,⟨(fun e_=>by rw [bi] at e_; cases e_),fun _=>rfl⟩⟩,iG.pk (env':=[(7,.p 0 0)])⟩
 rintro _ _ ⟨cG,bp,jC,av,f7⟩
 refine qaa (wp_seq (qar [0,1] kz (qam (qhP (d:=249) f7 qkc Tryz.call126 fun _ f8=>?_))))
 clear f7
 refine qcE [1] [] [(6,.v (.nilIface))] f8 fun _ f9=>qaf ?_
 clear f8
 refine qaa (wp_ret ?_)
 obtain ⟨A_,m_,c_,hW_,hr_,hE_,hP_⟩:=f9.open_
 refine qaD hE_ hW_.cells (v:=.nilIface) kz ?_
 have h_:=f9.mv.mono qdB hP_
 refine ⟨(dvP cG bp [dvS (bs (T.at_ 0).S),ap,au,ar,al,ak]),rfl,Str.of hW_ 1 rfl,?_,?_,hW_.step⟩
 ·unfold qbp
  exact ⟨(by show ByteArray.size (bs _) ≤ 1000000; rw [qdg]; exact Nat.le_trans e38_0 (by decide)),((gN _ _ (cv _ _ (bC _ _ (aC _ _ (ay _ _ (av _ _ h_).1).1).1).1).1).2.1),((cv _ _ (bC _ _ (aC _ _ (ay _ _ (av _ _ h_).1).1).1).1).2.1),((bC _ _ (aC _ _ (ay _ _ (av _ _ h_).1).1).1).2.1),((aC _ _ (ay _ _ (av _ _ h_).1).1).2.1),((ay _ _ (av _ _ h_).1).2.1),(av _ _ h_).2.1.1,(av _ _ h_).2.1.2.1,(av _ _ h_).2.1.2.2,trivial⟩
 unfold qbT
 exact ⟨(rfl),((gN _ _ (cv _ _ (bC _ _ (aC _ _ (ay _ _ (av _ _ h_).1).1).1).1).1).2.2),((cv _ _ (bC _ _ (aC _ _ (ay _ _ (av _ _ h_).1).1).1).1).2.2),((bC _ _ (aC _ _ (ay _ _ (av _ _ h_).1).1).1).2.2),((aC _ _ (ay _ _ (av _ _ h_).1).1).2.2),((ay _ _ (av _ _ h_).1).2.2),(av _ _ h_).2.2,trivial⟩
theorem qa2:qhd qbp:=by
 intro w w' F F' M d hs hM hF h
 unfold qbp at h ⊢
 obtain ⟨g0,g1,g2,⟨g3,g3l⟩,g4,⟨g5,g5l,g5e⟩,t1,t2,t3,_⟩:=h
 exact ⟨g0,g1,g2,⟨fun ad hA=>by
  obtain ⟨b,o,h1,h2⟩:=g3 ad hA
  exact ⟨b,o,h1,h2.move hs hM hF⟩,g3l⟩,g4,⟨g5.move hs hM hF,g5l,fun i hi=>qbw _ hs hM hF (g5e i hi)⟩,t1.move hs hM hF,t2,t3,trivial⟩
theorem qcv (v:Int) (D:DV) (T:Tree) (h:qaR v D T):(be 4 ((D.f 0).n)) ++ ((be 8 ((D.f 1).n)) ++ ((if ((if (decide (v ≥ 1)) = true then decide (v ≤ 1) else false)) = true then be 8 ((D.f 2).n) else []) ++ ((if (decide (v ≥ 6)) = true then be 4 ((D.f 3).n) else []) ++ ((if (decide (v ≥ 8)) = true then (if (D.f 4).A.isNone = true then uv 0 else uv ((D.f 4).s.size + 1) ++ sb (D.f 4).s) else (if (D.f 4).A.isNone = true then be 2 (-1) else be 2 (D.f 4).s.size ++ sb (D.f 4).s)) ++ (if (decide (v ≥ 8)) = true then (uv D.u.length) ++ (qbx D.u) else []))))) = qav v T:=by
 unfold qaR at h
 obtain ⟨r0_,r1_,r2_,r3_,r4_,rU_,_⟩:=h
 unfold qav
 exact qdZ (by rw [r0_]) (qdZ (by rw [r1_]; exact qe9 _) (qdZ (if_c (fun hc_=>by rw [(r2_.1 hc_)]; exact qe9 _)) (qdZ (if_c (fun hc_=>by rw [(r3_.1 hc_)])) (qdZ (by simp only [r4_.1,r4_.2,qjS,qdg]) ((if_c (fun hc_=>by rw [(rU_.1 hc_)])))))))
theorem qc7 (v:Int) (D:DV) (T:Tree) (h:qbb v D T):(if ((if (decide (v ≥ 0)) = true then decide (v ≤ 9) else false)) = true then if (decide (v ≥ 8)) = true then (uv ((D.f 0).s.size + 1) ++ sb (D.f 0).s) else (be 2 (D.f 0).s.size ++ sb (D.f 0).s) else []) ++ ((if (decide (v ≥ 10)) = true then (D.f 1).o else []) ++ (((if (decide (v ≥ 8)) = true then (uv ((D.f 2).l + 1)) else (be 4 (D.f 2).l)) ++ ((List.range (D.f 2).l).flatMap fun aa=>(be 4 ((((D.f 2).f aa).f 0).n)) ++ ((be 8 ((((D.f 2).f aa).f 1).n)) ++ ((if ((if (decide (v ≥ 1)) = true then decide (v ≤ 1) else false)) = true then be 8 ((((D.f 2).f aa).f 2).n) else []) ++ ((if (decide (v ≥ 6)) = true then be 4 ((((D.f 2).f aa).f 3).n) else []) ++ ((if (decide (v ≥ 8)) = true then (if (((D.f 2).f aa).f 4).A.isNone = true then uv 0 else uv ((((D.f 2).f aa).f 4).s.size + 1) ++ sb (((D.f 2).f aa).f 4).s) else (if (((D.f 2).f aa).f 4).A.isNone = true then be 2 (-1) else be 2 (((D.f 2).f aa).f 4).s.size ++ sb (((D.f 2).f aa).f 4).s)) ++ (if (decide (v ≥ 8)) = true then (uv ((D.f 2).f aa).u.length) ++ (qbx ((D.f 2).f aa).u) else []))))))) ++ (if (decide (v ≥ 8)) = true then (uv D.u.length) ++ (qbx D.u) else []))) = qaG v T:=by
 unfold qbb at h
 obtain ⟨r0_,r1_,r2_,rU_,_⟩:=h
 unfold qaG
 exact qdZ (if_c (fun hc_=>by simp only [(r0_.1 hc_),qjS,qdg])) (qdZ (if_c (fun hc_=>by rw [(r1_.1 hc_)])) (qdZ (qdZ (by simp only [r2_.1]) (qie r2_.1 (fun i hi=>qcv v _ _ (r2_.2 i hi)))) ((if_c (fun hc_=>by rw [(rU_.1 hc_)])))))
theorem qd4 (v:Int) (D:DV) (T:Tree) (h:qbT v D T):qab v D = qak v T:=by
 unfold qbT at h
 obtain ⟨r0_,r1_,r2_,r3_,r4_,r5_,rU_,_⟩:=h
 rw [qcP]
 unfold qab qb9
 exact qdZ (by simp only [r0_,qjS,qdg]) (qdZ (if_c (fun hc_=>by rw [(r1_.1 hc_)])) (qdZ (if_c (fun hc_=>by simp only [(r2_.1 hc_),qjS,qdg])) (qdZ (if_c (fun hc_=>by simp only [(r3_.1 hc_).1,(r3_.1 hc_).2,qjS,qdg])) (qdZ (if_c (fun hc_=>by rw [(r4_.1 hc_)]; exact qe9 _)) (qdZ (qdZ (by simp only [r5_.1]) (qie r5_.1 (fun i hi=>qc7 v _ _ (r5_.2 i hi)))) (qdZ (if_c (fun hc_=>by rw [(rU_.1 hc_)])) (rfl)))))))
section
variable {U:List Fld → Tree → Prop} {k x1 x2 x3 x4 x5 x6 n:Int} {sub:List Fld} {s:Bs} {b:Bool} {l:List Tree} {u:List (Int × Bs)}
end
section
variable {T:List Fld → Tree → Tree → Prop} {v k x1 x2 x3 x4 x5 x6 tn n:Int} {sub:List Fld} {ts s:Bs} {tb b:Bool} {tl l:List Tree} {tu u:List (Int × Bs)}
end
theorem qe4 {P:Program} {ops:Array Oper} {Q:Exit → Act → World → Prop} {a:Act} {w:World} {T:World → Prop} {c i j fuel:Nat} {listed:Array Bool} (hr:Region.ready .any ops listed = [i,j]) (h:wpOp P ops Q i (fun a' w'=>(i ≠ c → T w') ∧ qbZ P ops Q T c fuel (listed.setIfInBounds i true) a' w') a w)
  (h':wpOp P ops Q j (fun a' w'=>(j ≠ c → T w') ∧ qbZ P ops Q T c fuel (listed.setIfInBounds j true) a' w') a w):qbZ P ops Q T c (fuel + 1) listed a w:=by
 refine ⟨fun h0=>(by rw [hr] at h0; cases h0),fun q hq=>?_⟩
 rw [hr] at hq
 simp only [List.mem_cons,List.not_mem_nil,or_false] at hq
 rcases hq with rfl | rfl
 ·exact h
 exact h'
section
variable {w:World} {F:Nat → Nat → Prop}
end
section
variable {gu tu:List (Int × Bs)} {l:List Fld} {flex:Bool} {i:Nat} {k k':Int} {s s':Bs}
end
end Go.Proofs.YtogokkkdfcgncaaGreatDoor.ME