/- The texts of a claim, put together: the engine, the contracts, the law. Own work. -/
import Derived.Test.YtogokkkdfcgncaaGreatDoorWf4P4
import Derived.Lib.ConvBytes
namespace Go.Proofs.YtogokkkdfcgncaaGreatDoor.ME
open Go
open Go.RowKit
set_option linter.unusedVariables false
set_option linter.unusedSimpArgs false
set_option maxRecDepth 20000
def qas (v:Int) (T:Tree):Bs:=(be 4 ((IntKind.i32.wrap (T.at_ 0).N))) ++ ((be 4 ((IntKind.i32.wrap (T.at_ 1).N))) ++ (if (decide (v ≥ 0)) = true then (uv T.U.length) ++ (qbu T.U) else []))
theorem qbq (v:Int) (T:Tree):0 < (qas v T).length:=qlR (qlS (by decide))
def qaw (v:Int) (T:Tree):Bs:=(qah (T.at_ 0).S) ++ (((if (decide (v ≥ 0)) = true then (uv ((lst (T.at_ 1)).length + 1)) else (be 4 (lst (T.at_ 1)).length)) ++ ((lst (T.at_ 1)).flatMap (qas v))) ++ (if (decide (v ≥ 0)) = true then (uv T.U.length) ++ (qbu T.U) else []))
theorem qbJ (v:Int) (T:Tree):0 < (qaw v T).length:=qlR (by rw [qdC]; decide)
def qbB (v:Int) (T:Tree):Bs:=(if (decide (v ≥ 0)) = true then (uv ((T.at_ 0).S.length + 1) ++ (T.at_ 0).S) else (be 2 (T.at_ 0).S.length ++ (T.at_ 0).S)) ++ (((if (decide (v ≥ 0)) = true then (uv ((lst (T.at_ 1)).length + 1)) else (be 4 (lst (T.at_ 1)).length)) ++ ((lst (T.at_ 1)).flatMap (qaw v))) ++ ((if (decide (v ≥ 0)) = true then (uv T.U.length) ++ (qbu T.U) else []) ++ (([]:Bs))))
theorem qb4 (v:Int) (T:Tree):qai v T = qbB v T:=rfl
def qbs (d:DV):List Value:=[.int .i32 ((d.f 0).n),.int .i32 ((d.f 1).n),.map d.m]
theorem qa1:qgL qaE:=by
 intro w w' F F' M d hs hM hF h
 unfold qaE at h ⊢
 obtain ⟨g0,g1,t1,t2,t3,_⟩:=h
 exact ⟨g0,g1,t1.move hs hM hF,t2,t3,trivial⟩
def qbP (d:DV):List Value:=[qaf ((d.f 0).o.getD 0 0),qaf ((d.f 0).o.getD 1 0),qaf ((d.f 0).o.getD 2 0),qaf ((d.f 0).o.getD 3 0),qaf ((d.f 0).o.getD 4 0),qaf ((d.f 0).o.getD 5 0),qaf ((d.f 0).o.getD 6 0),qaf ((d.f 0).o.getD 7 0),qaf ((d.f 0).o.getD 8 0),qaf ((d.f 0).o.getD 9 0),qaf ((d.f 0).o.getD 10 0),qaf ((d.f 0).o.getD 11 0),qaf ((d.f 0).o.getD 12 0),qaf ((d.f 0).o.getD 13 0),qaf ((d.f 0).o.getD 14 0),qaf ((d.f 0).o.getD 15 0),.slice ((d.f 1).A) ((d.f 1).l) ((d.f 1).c),.map d.m]
theorem qbe:qgL qaN:=by
 intro w w' F F' M d hs hM hF h
 unfold qaN at h ⊢
 obtain ⟨g0,⟨g1,g1l,g1e⟩,t1,t2,t3,_⟩:=h
 exact ⟨g0,⟨g1.move hs hM hF,g1l,fun i hi=>qa1 _ hs hM hF (g1e i hi)⟩,t1.move hs hM hF,t2,t3,trivial⟩
def qaI (v:Int) (D:DV) (T:Tree):Prop:=((D.f 0).n = IntKind.i32.wrap (T.at_ 0).N) ∧ ((D.f 1).n = IntKind.i32.wrap (T.at_ 1).N) ∧ (((decide (v ≥ 0)) = true → D.u = T.U) ∧ ((decide (v ≥ 0)) = false → D.u = [])) ∧ True
def qaW (v:Int) (D:DV) (T:Tree):Prop:=((D.f 0).o = qah (T.at_ 0).S) ∧ (((D.f 1).l = (lst (T.at_ 1)).length ∧ ∀ i,i < (D.f 1).l → qaI v ((D.f 1).f i) ((lst (T.at_ 1)).getD i .zero))) ∧ (((decide (v ≥ 0)) = true → D.u = T.U) ∧ ((decide (v ≥ 0)) = false → D.u = [])) ∧ True
def qbm (v:Int) (D:DV) (T:Tree):Prop:=((D.f 0).s = bs (T.at_ 0).S) ∧ (((D.f 1).l = (lst (T.at_ 1)).length ∧ ∀ i,i < (D.f 1).l → qaW v ((D.f 1).f i) ((lst (T.at_ 1)).getD i .zero))) ∧ (((decide (v ≥ 0)) = true → D.u = T.U) ∧ ((decide (v ≥ 0)) = false → D.u = [])) ∧ True
theorem qlY (b o:Nat) (w:World):Calls Tryz.prog 142 #[.pointer (some ⟨b,o,none⟩)] w (fun e w'=>e = .returned (.tuple #[]) ∧ w' = w):=by
 refine enter (n:=2) (vs:=[.pointer (some ⟨b,o,none⟩)]) Tryz.func142 rfl Tryz.ntmps142 kz fun a hE=>?_
 refine wp_skip ?_
 exact qb7 hE (WOk.start w Nil).cells (v:=.tuple #[]) kz ⟨rfl,rfl⟩
theorem qlZ (b o:Nat) (w:World):Calls Tryz.prog 143 #[.pointer (some ⟨b,o,none⟩)] w (fun e w'=>e = .returned (.tuple #[]) ∧ w' = w):=by
 refine enter (n:=2) (vs:=[.pointer (some ⟨b,o,none⟩)]) Tryz.func143 rfl Tryz.ntmps143 kz fun a hE=>?_
 refine wp_skip ?_
 exact qb7 hE (WOk.start w Nil).cells (v:=.tuple #[]) kz ⟨rfl,rfl⟩
set_option maxHeartbeats 4000000 in
theorem qcN (v:Int) (T:Tree) {bv:Nat} {A:Option Addr} {c:Nat} {w:World} {F:Nat → Nat → Prop} (hst:Str w bv [.int .i16 v,.string ByteArray.empty,.slice none 0 0,.map none]) (ho:Octs w F A c (qai v T)) (hFd:∀ b o,F b o → ¬ (b = bv ∧ o < 4)) (hc:qaX T) (hR:T.ranged) :
  Calls Tryz.prog 101 #[.pointer (some ⟨bv,0,none⟩),.slice A (qai v T).length c,.bool false] w (fun e w'=>∃ D:DV,e = .returned .nilIface ∧ Str w' bv [.int .i16 v,.string ((D.f 0).s),.slice ((D.f 1).A) ((D.f 1).l) ((D.f 1).c),.map D.m] ∧ qa4 w' (Fp F w) D ∧ qbm v D T ∧ Step w w' (fun b o=>b = bv ∧ o < 4)):=by
 refine enter (n:=150) Tryz.func101 rfl Tryz.ntmps101 kz fun a hE=>?_
 have hW:=WOk.startStr hst
 have hE1:=(hE.grow ⟨bv,0,[.int .i16 v,.string ByteArray.empty,.slice none 0 0,.map none],true⟩).recast 0 (.v (.pointer (some ⟨bv,0,none⟩))) (.p 0 0) rfl rfl (Nat.le_of_ble_eq_true (n:=1) rfl)
 refine qat [(0,.p 0 0),(1,.v (.slice A ((qai v T).length) c)),(2,.v (.bool false))] hW hE1 fun a1 hE2=>?_
 refine qae [0,1] kz ?_
 refine qal [0] [1] [(0,.p 0 0),(1,.v (.slice A ((qai v T).length) c)),(2,.v (.bool false)),(27,.p 0 0)] hW hE2 fun a3 hE4=>?_
 refine qao (qba hE4 (f:=99) (vs:=[.pointer (some ⟨bv,0,none⟩)]) (d:=28) (n':=2) kz Tryz.call99 Tryz.func99 rfl Tryz.ntmps99 kz fun a5 hE6=>?_)
 have hE7:=hE6.recast 0 (.v (.pointer (some ⟨bv,0,none⟩))) (.p 0 0) rfl rfl (Nat.le_of_ble_eq_true (n:=1) rfl)
 refine wp_skip ?_
 refine qb7 hE7 hW.cells (v:=.tuple #[]) kz ?_
 refine ⟨_,rfl,fun a8 hE9=>?_⟩
 have ei:=(EnvOk.places (tb':=[⟨bv,0,[.int .i16 v,.string ByteArray.empty,.slice none 0 0,.map none],true⟩]) hE9 (show Pl [⟨bv,0,[.int .i16 v,.string ByteArray.empty,.slice none 0 0,.map none],true⟩] [⟨bv,0,[.int .i16 v,.string ByteArray.empty,.slice none 0 0,.map none],true⟩] from ⟨rfl,rfl,trivial⟩)).pk (env':=[(28,.v (.tuple #[])),(0,.p 0 0),(1,.v (.slice A ((qai v T).length) c)),(2,.v (.bool false)),(27,.p 0 0)])
 refine qag (qab ?_)
 refine qae [0,1,2,3] kz ?_
 refine qal [0,1] [2,3] [(0,.p 0 0),(2,.v (.bool false)),(30,.v (.agg #[.slice A ((qai v T).length) c,.bool false]))] hW ei fun eX ej=>?_
 refine qao (qbf hW ej (d:=7) (cs:=[.slice none 0 0,.bool false]) kz fun cR eY eZ eI eJ eK ek em=>?_)
 refine qao (qaU ek em (oi:=1) (cs:=[.slice A ((qai v T).length) c,.bool false]) kz fun e9 eL cS eo=>?_)
 refine qag (qab ?_)
 have da:=RS.start (F:=F) (s:=qai v T) cS eo (ho.move cS.step (fun b_ o_ h_ _=>hFd b_ o_ h_) (cS.immM hFd)) [(0,.p 1 0),(2,.v (.bool false)),(7,.p 0 0)]
 have eF:=hc
 have e26r:=hR
 unfold qaX at eF
 obtain ⟨e26_0,⟨e26_1,e26_1e⟩,e26_U,_⟩:=eF
 obtain ⟨aP,db⟩:∃ R,R = (if (decide (v ≥ 0)) = true then (uv T.U.length) ++ (qbu T.U) else []) ++ ([]:Bs):=⟨_,rfl⟩
 obtain ⟨eM,dc⟩:∃ R,R = ((if (decide (v ≥ 0)) = true then (uv ((lst (T.at_ 1)).length + 1)) else (be 4 (lst (T.at_ 1)).length)) ++ ((lst (T.at_ 1)).flatMap (qaw v))) ++ aP:=⟨_,rfl⟩
 obtain ⟨eN,de⟩:∃ R,R = (if (decide (v ≥ 0)) = true then (uv ((T.at_ 0).S.length + 1) ++ (T.at_ 0).S) else (be 2 (T.at_ 0).S.length ++ (T.at_ 0).S)) ++ eM:=⟨_,rfl⟩
 have df:=da.cast (t:=eN) (by rw [qb4,de,dc,db]; unfold qbB; simp only [List.append_assoc])
 clear da
 refine wp_seq ?_
 refine qcb [(0,.p 1 0),(2,.v (.bool false)),(7,.p 0 0),(8,.v (.int .i16 v))] df fun _ dg=>?_
 clear df
 refine qab ?_
 refine wp_seq ?_
 refine qcb [(0,.p 1 0),(2,.v (.bool false)),(7,.p 0 0),(8,.v (.int .i16 v))] dg fun _ dh=>?_
 clear dg
 refine qab ?_
 refine wp_seq ?_
 refine qcb [(0,.p 1 0),(2,.v (.bool false)),(7,.p 0 0),(9,.v (.bool (decide (v ≥ 0))))] dh fun _ di=>?_
 clear dh
 refine qab ?_
 refine wp_seq ?_
 refine qcb [(0,.p 1 0),(2,.v (.bool false)),(7,.p 0 0),(9,.v (.bool (decide (v ≥ 0))))] di fun _ dj=>?_
 clear di
 refine qab ?_
 refine wp_seq ?_
 refine qcb [(2,.v (.bool false)),(7,.p 0 0),(9,.v (.bool (decide (v ≥ 0)))),(10,.p 1 0)] dj fun _ dl=>?_
 clear dj
 refine qab ?_
 refine wp_seq ?_
 refine wp_seq ?_
 refine qcb [(2,.v (.bool false)),(7,.p 0 0),(9,.v (.bool (decide (v ≥ 0)))),(10,.p 1 0)] dl fun _ dp=>?_
 clear dl
 refine qab ?_
 refine wp_seq ?_
 refine wp_seq ?_
 refine qcb [(7,.p 0 0),(9,.v (.bool (decide (v ≥ 0)))),(10,.p 1 0),(40,.v (.bool false))] dp fun _ cT=>qab ?_
 clear dp
 refine qav cT.env_ (b:=false) kz (rfl) ?_
 have dq:=cT.cast de
 clear cT
 refine qhq (d1:=45) (d2:=46) [(7,.p 0 0),(9,.v (.bool (decide (v ≥ 0)))),(10,.p 1 0),(44,.v (.bool (decide (v ≥ 0))))] [(7,.p 0 0),(9,.v (.bool (decide (v ≥ 0)))),(10,.p 1 0),(11,.v (.string (bs (T.at_ 0).S)))] dq (qfs (T.at_ 0).S e26_0 _) Tryz.call115 (qlf (T.at_ 0).S e26_0 _) Tryz.call116 fun _ _ dr=>?_
 clear dq
 refine qab ?_
 refine qfH [⟨bv,0,[.int .i16 v,.string (bs (T.at_ 0).S),.slice none 0 0,.map none],true⟩] 0 [(7,.p 0 0),(9,.v (.bool (decide (v ≥ 0)))),(10,.p 1 0)] dr fun _ _ dt=>?_
 clear dr
 refine qab ?_
 refine wp_seq ?_
 refine wp_seq ?_
 refine qcb [(7,.p 0 0),(9,.v (.bool (decide (v ≥ 0)))),(10,.p 1 0),(12,.v (.slice none 0 0))] dt fun _ du=>?_
 clear dt
 refine qab ?_
 refine wp_seq ?_
 refine qcb [(7,.p 0 0),(9,.v (.bool (decide (v ≥ 0)))),(10,.p 1 0),(13,.v (.slice none 0 0))] du fun _ dv=>?_
 clear du
 refine qab ?_
 refine wp_seq ?_
 refine qcb [(7,.p 0 0),(9,.v (.bool (decide (v ≥ 0)))),(10,.p 1 0),(13,.v (.slice none 0 0))] dv fun _ dw=>?_
 clear dv
 refine qab ?_
 refine wp_seq ?_
 have dx:=dw.cast dc
 clear dw
 have dy:=dx.cast (t:=(if (decide (v ≥ 0)) = true then (uv ((lst (T.at_ 1)).length + 1)) else (be 4 (lst (T.at_ 1)).length)) ++ (((lst (T.at_ 1)).flatMap (qaw v)) ++ aP)) (by rw [List.append_assoc])
 clear dx
 refine qhq (d1:=57) (d2:=58) [(7,.p 0 0),(9,.v (.bool (decide (v ≥ 0)))),(10,.p 1 0),(13,.v (.slice none 0 0)),(56,.v (.bool (decide (v ≥ 0))))] [(7,.p 0 0),(9,.v (.bool (decide (v ≥ 0)))),(10,.p 1 0),(13,.v (.slice none 0 0)),(14,.v (.int .i32 (((lst (T.at_ 1)).length:Nat):Int)))] dy (qdm ((lst (T.at_ 1)).length) e26_1 _ (flat_ge' (qbJ v) _)) Tryz.call123 (qgO ((lst (T.at_ 1)).length) e26_1 _ (flat_ge' (qbJ v) _)) Tryz.call124 fun _ _ dz=>?_
 clear dy
 refine qab ?_
 refine wp_seq ?_
 refine wp_seq ?_
 refine qlT (d:=59) [(7,.p 0 0),(9,.v (.bool (decide (v ≥ 0)))),(10,.p 1 0),(13,.v (.slice none 0 0)),(14,.v (.int .i32 (((lst (T.at_ 1)).length:Nat):Int))),(60,.v (.bool false))] dz (pOk _) Tryz.call125 fun _ _ cU=>?_
 clear dz
 refine qab ?_
 refine qav cU.env_ (b:=false) kz (rfl) ?_
 refine wp_skip ?_
 refine qab ?_
 refine wp_seq ?_
 refine qjI (t:=108) (e:=169) (size:=18) (bytes:=48) (d:=63) (A0:=none) (m:=0) (cp:=0) [(7,.p 0 0),(9,.v (.bool (decide (v ≥ 0)))),(10,.p 1 0),(14,.v (.int .i32 (((lst (T.at_ 1)).length:Nat):Int))),(62,.v (.slice none 0 0))] [(7,.p 0 0),(9,.v (.bool (decide (v ≥ 0)))),(10,.p 1 0),(13,.v (.slice none 0 0)),(14,.v (.int .i32 (((lst (T.at_ 1)).length:Nat):Int)))] 1 cU fun _ dA=>?_
 clear cU
 refine qab ?_
 refine qhU (Mid:=fun a_ w_=>∃ (ak:DV) (P':qcM),(∀ w F,P' w F → noF w F ∧ (Slots w F 18 ak.A ak.c ak.l (fun i=>[qaf (((ak.f i).f 0).o.getD 0 0),qaf (((ak.f i).f 0).o.getD 1 0),qaf (((ak.f i).f 0).o.getD 2 0),qaf (((ak.f i).f 0).o.getD 3 0),qaf (((ak.f i).f 0).o.getD 4 0),qaf (((ak.f i).f 0).o.getD 5 0),qaf (((ak.f i).f 0).o.getD 6 0),qaf (((ak.f i).f 0).o.getD 7 0),qaf (((ak.f i).f 0).o.getD 8 0),qaf (((ak.f i).f 0).o.getD 9 0),qaf (((ak.f i).f 0).o.getD 10 0),qaf (((ak.f i).f 0).o.getD 11 0),qaf (((ak.f i).f 0).o.getD 12 0),qaf (((ak.f i).f 0).o.getD 13 0),qaf (((ak.f i).f 0).o.getD 14 0),qaf (((ak.f i).f 0).o.getD 15 0),.slice (((ak.f i).f 1).A) (((ak.f i).f 1).l) (((ak.f i).f 1).c),.map ((ak.f i).m)]) ∧ ak.l ≤ 1000000 ∧ ∀ i,i < ak.l → qaN w F (ak.f i)) ∧ (ak.l = (lst (T.at_ 1)).length ∧ ∀ i,i < ak.l → qaW v (ak.f i) ((lst (T.at_ 1)).getD i .zero))) ∧ RS w (fun b o=>b = bv ∧ o < 4) F 150 cR [⟨bv,0,[.int .i16 v,.string (bs (T.at_ 0).S),.slice none 0 0,.map none],true⟩] [(7,.p 0 0),(9,.v (.bool (decide (v ≥ 0)))),(10,.p 1 0),(13,.v (.slice ak.A ak.l ak.c))] P' aP a_ w_) ?_ ?_
 ·
  refine wp_seq ?_
  refine qcb [(7,.p 0 0),(9,.v (.bool (decide (v ≥ 0)))),(10,.p 1 0),(13,.v (.slice none 0 0)),(14,.v (.int .i32 (((lst (T.at_ 1)).length:Nat):Int))),(65,.v (.bool (decide ((((lst (T.at_ 1)).length:Nat):Int) > 0))))] dA fun _ aE=>qab ?_
  clear dA
  refine qaB aE.env_ (b:=decide ((((lst (T.at_ 1)).length:Nat):Int) > 0)) kz (fun aL=>?_) (fun aL=>?_)
  ·
   have hn_g61:0 < (lst (T.at_ 1)).length:=by have h_:=of_decide_eq_true aL; omega
   refine qau [0,1,2,3] kz ?_
   refine qdj [0,1] [2,3] [(7,.p 0 0),(9,.v (.bool (decide (v ≥ 0)))),(10,.p 1 0),(14,.v (.int .i32 (((lst (T.at_ 1)).length:Nat):Int))),(66,.v (.slice none 0 0)),(67,.v (.int .i32 (((lst (T.at_ 1)).length:Nat):Int)))] aE fun _ dB=>?_
   clear aE
   refine qao (qfI (A0:=none) (d:=68) (t:=108) (tn:=21) (e:=169) (size:=18) (bytes:=48) (k:=.i32) (kn:=.i32) (q:=(((lst (T.at_ 1)).length:Nat):Int)) (j:=(lst (T.at_ 1)).length) (.agg #[.int .u8 0,.int .u8 0,.int .u8 0,.int .u8 0,.int .u8 0,.int .u8 0,.int .u8 0,.int .u8 0,.int .u8 0,.int .u8 0,.int .u8 0,.int .u8 0,.int .u8 0,.int .u8 0,.int .u8 0,.int .u8 0,.slice none 0 0,.map none]) dB (fun ab ag _ _ hg_g61 hcap_g61 dC=>?_) rfl hn_g61 (by have:=e26_1; omega))
   clear dB
   refine qdj [3] [] [(7,.p 0 0),(9,.v (.bool (decide (v ≥ 0)))),(10,.p 1 0),(13,.v (.slice (some ⟨ab,0,none⟩) ((lst (T.at_ 1)).length) ag)),(14,.v (.int .i32 (((lst (T.at_ 1)).length:Nat):Int)))] dC fun _ dD=>qag ?_
   clear dC
   refine qab ?_
   refine wp_seq ?_
   refine qcb [(7,.p 0 0),(9,.v (.bool (decide (v ≥ 0)))),(10,.p 1 0),(13,.v (.slice (some ⟨ab,0,none⟩) ((lst (T.at_ 1)).length) ag)),(14,.v (.int .i32 (((lst (T.at_ 1)).length:Nat):Int))),(15,.v (.int .i32 0))] dD fun _ cV=>?_
   clear dD
   refine qab ?_
   refine wp_block ?_
   have aQ:=cV.mv
   have ep:=(cV.cast (t:=(lst (T.at_ 1)).flatMap (qaw v) ++ aP) rfl).pk (env':=[(7,.p 0 0),(9,.v (.bool (decide (v ≥ 0)))),(10,.p 1 0),(13,.v (.slice (some ⟨ab,0,none⟩) ((lst (T.at_ 1)).length) ag)),(14,.v (.int .i32 (((lst (T.at_ 1)).length:Nat):Int))),(15,.v (.int .i32 ((0:Nat):Int)))])
   clear cV
   refine qjE (tb:=[⟨bv,0,[.int .i16 v,.string (bs (T.at_ 0).S),.slice none 0 0,.map none],true⟩]) (z:=.agg #[.int .u8 0,.int .u8 0,.int .u8 0,.int .u8 0,.int .u8 0,.int .u8 0,.int .u8 0,.int .u8 0,.int .u8 0,.int .u8 0,.int .u8 0,.int .u8 0,.int .u8 0,.int .u8 0,.int .u8 0,.int .u8 0,.slice none 0 0,.map none]) (cl:=qbP) (ok:=qaN) (rel:=(qaW v)) (L:=lst (T.at_ 1)) (size:=18) (qaw v) aP (fun k=>[(7,.p 0 0),(9,.v (.bool (decide (v ≥ 0)))),(10,.p 1 0),(13,.v (.slice (some ⟨ab,0,none⟩) ((lst (T.at_ 1)).length) ag)),(14,.v (.int .i32 (((lst (T.at_ 1)).length:Nat):Int))),(15,.v (.int .i32 ((k:Nat):Int)))]) ep qbe (fun ac aa _ _ cW eu dE=>?_) (fun _ _ dF=>?_)
   ·
    obtain ⟨eG,dG,dH⟩:∃ P',(∀ w F,P' w F → (noF w F ∧ qfq ab 18 qbP qaN (qaW v) (lst (T.at_ 1)) ac w F)) ∧ RS w (fun b o=>b = bv ∧ o < 4) F 150 cR [⟨bv,0,[.int .i16 v,.string (bs (T.at_ 0).S),.slice none 0 0,.map none],true⟩,qby ab 18 (.agg #[.int .u8 0,.int .u8 0,.int .u8 0,.int .u8 0,.int .u8 0,.int .u8 0,.int .u8 0,.int .u8 0,.int .u8 0,.int .u8 0,.int .u8 0,.int .u8 0,.int .u8 0,.int .u8 0,.int .u8 0,.int .u8 0,.slice none 0 0,.map none]) ((lst (T.at_ 1)).length) ac] [(7,.p 0 0),(9,.v (.bool (decide (v ≥ 0)))),(10,.p 1 0),(13,.v (.slice (some ⟨ab,0,none⟩) ((lst (T.at_ 1)).length) ag)),(14,.v (.int .i32 (((lst (T.at_ 1)).length:Nat):Int))),(15,.v (.int .i32 ((ac:Nat):Int)))] P' ((qaw v) aa ++ (((lst (T.at_ 1)).drop (ac + 1)).flatMap (qaw v) ++ aP)) _ _:=⟨_,fun _ _ h=>h,dE⟩
    clear dE
    obtain ⟨dI,dJ⟩:∃ R,R = ((lst (T.at_ 1)).drop (ac + 1)).flatMap (qaw v) ++ aP:=⟨_,rfl⟩
    have eH:=(e26_1e aa (List.mem_of_getElem? cW))
    have e80r:=(qfG (qfm e26r 1) aa (List.mem_of_getElem? cW))
    unfold qbc at eH
    obtain ⟨e80_0,⟨e80_1,e80_1e⟩,e80_U,_⟩:=eH
    obtain ⟨aR,dK⟩:∃ R,R = (if (decide (v ≥ 0)) = true then (uv aa.U.length) ++ (qbu aa.U) else []) ++ dI:=⟨_,rfl⟩
    obtain ⟨eO,dL⟩:∃ R,R = ((if (decide (v ≥ 0)) = true then (uv ((lst (aa.at_ 1)).length + 1)) else (be 4 (lst (aa.at_ 1)).length)) ++ ((lst (aa.at_ 1)).flatMap (qas v))) ++ aR:=⟨_,rfl⟩
    obtain ⟨eP,dM⟩:∃ R,R = (qah (aa.at_ 0).S) ++ eO:=⟨_,rfl⟩
    have dN:=dH.cast (t:=eP) (by rw [dM,dL,dK,← dJ]; unfold qaw; simp only [List.append_assoc])
    clear dH
    refine wp_seq ?_
    refine wp_seq ?_
    refine qcb [(7,.p 0 0),(9,.v (.bool (decide (v ≥ 0)))),(10,.p 1 0),(13,.v (.slice (some ⟨ab,0,none⟩) ((lst (T.at_ 1)).length) ag)),(14,.v (.int .i32 (((lst (T.at_ 1)).length:Nat):Int))),(15,.v (.int .i32 ((ac:Nat):Int))),(71,.v (.bool (decide (((ac:Nat):Int) < (((lst (T.at_ 1)).length:Nat):Int)))))] dN fun _ cX=>qab ?_
    clear dN
    refine qbN cX.env_ (b:=decide (((ac:Nat):Int) < (((lst (T.at_ 1)).length:Nat):Int))) kz (decide_eq_true (by omega)) ?_
    refine wp_skip ?_
    refine qab ?_
    refine wp_seq ?_
    refine wp_block ?_
    refine wp_seq ?_
    refine qjJ (t:=108) (e:=169) (size:=18) (bytes:=48) (d:=76) (tb:=[⟨bv,0,[.int .i16 v,.string (bs (T.at_ 0).S),.slice none 0 0,.map none],true⟩]) (z:=.agg #[.int .u8 0,.int .u8 0,.int .u8 0,.int .u8 0,.int .u8 0,.int .u8 0,.int .u8 0,.int .u8 0,.int .u8 0,.int .u8 0,.int .u8 0,.int .u8 0,.int .u8 0,.int .u8 0,.int .u8 0,.int .u8 0,.slice none 0 0,.map none]) [(7,.p 0 0),(9,.v (.bool (decide (v ≥ 0)))),(10,.p 1 0),(13,.v (.slice (some ⟨ab,0,none⟩) ((lst (T.at_ 1)).length) ag)),(14,.v (.int .i32 (((lst (T.at_ 1)).length:Nat):Int))),(15,.v (.int .i32 ((ac:Nat):Int))),(74,.v (.slice (some ⟨ab,0,none⟩) ((lst (T.at_ 1)).length) ag)),(75,.v (.int .i32 ((ac:Nat):Int)))] [(7,.p 0 0),(9,.v (.bool (decide (v ≥ 0)))),(10,.p 1 0),(13,.v (.slice (some ⟨ab,0,none⟩) ((lst (T.at_ 1)).length) ag)),(14,.v (.int .i32 (((lst (T.at_ 1)).length:Nat):Int))),(15,.v (.int .i32 ((ac:Nat):Int))),(16,.p 3 0)] 2 cX eu rfl kz fun _ dO=>?_
    clear cX
    have dP:=dO.tbEq (tb':=[⟨bv,0,[.int .i16 v,.string (bs (T.at_ 0).S),.slice none 0 0,.map none],true⟩,qby ab 18 (.agg #[.int .u8 0,.int .u8 0,.int .u8 0,.int .u8 0,.int .u8 0,.int .u8 0,.int .u8 0,.int .u8 0,.int .u8 0,.int .u8 0,.int .u8 0,.int .u8 0,.int .u8 0,.int .u8 0,.int .u8 0,.int .u8 0,.slice none 0 0,.map none]) ((lst (T.at_ 1)).length) (ac + 1),⟨ab,ac * 18,[.int .u8 0,.int .u8 0,.int .u8 0,.int .u8 0,.int .u8 0,.int .u8 0,.int .u8 0,.int .u8 0,.int .u8 0,.int .u8 0,.int .u8 0,.int .u8 0,.int .u8 0,.int .u8 0,.int .u8 0,.int .u8 0,.slice none 0 0,.map none],true⟩]) rfl
    clear dO
    refine qab ?_
    refine wp_seq ?_
    refine qau [0,1] kz ?_
    refine qdj [0] [1] [(7,.p 0 0),(9,.v (.bool (decide (v ≥ 0)))),(10,.p 1 0),(13,.v (.slice (some ⟨ab,0,none⟩) ((lst (T.at_ 1)).length) ag)),(14,.v (.int .i32 (((lst (T.at_ 1)).length:Nat):Int))),(15,.v (.int .i32 ((ac:Nat):Int))),(16,.p 3 0),(77,.p 3 0)] dP fun _ dQ=>?_
    clear dP
    refine qao (qkI (d:=78) (vs:=[.pointer (some ⟨ab,ac * 18,none⟩)]) dQ (fun _=>qlY _ _ _) Tryz.call142 fun _ dR=>?_)
    clear dQ
    refine qag ?_
    have dS:=dR.pk (env':=[(7,.p 0 0),(9,.v (.bool (decide (v ≥ 0)))),(10,.p 1 0),(13,.v (.slice (some ⟨ab,0,none⟩) ((lst (T.at_ 1)).length) ag)),(14,.v (.int .i32 (((lst (T.at_ 1)).length:Nat):Int))),(15,.v (.int .i32 ((ac:Nat):Int))),(16,.p 3 0)])
    clear dR
    refine qab ?_
    refine wp_seq ?_
    refine qcb [(7,.p 0 0),(9,.v (.bool (decide (v ≥ 0)))),(10,.p 1 0),(13,.v (.slice (some ⟨ab,0,none⟩) ((lst (T.at_ 1)).length) ag)),(14,.v (.int .i32 (((lst (T.at_ 1)).length:Nat):Int))),(15,.v (.int .i32 ((ac:Nat):Int))),(17,.p 3 0)] dS fun _ dT=>?_
    clear dS
    refine qab ?_
    refine wp_seq ?_
    refine wp_seq ?_
    refine qau [0,1,2] kz ?_
    have dU:=dT.cast dM
    clear dT
    refine qao (qhS (d:=80) dU (qmc (aa.at_ 0).S _) Tryz.call128 fun _ _ dV=>?_)
    clear dU
    refine qao (qkk (d:=18) [.int .u8 0,.int .u8 0,.int .u8 0,.int .u8 0,.int .u8 0,.int .u8 0,.int .u8 0,.int .u8 0,.int .u8 0,.int .u8 0,.int .u8 0,.int .u8 0,.int .u8 0,.int .u8 0,.int .u8 0,.int .u8 0] dV fun ev _ _ hb_b98 dW=>?_)
    clear dV
    have aS:=(dW.tbEq (tb':=[⟨bv,0,[.int .i16 v,.string (bs (T.at_ 0).S),.slice none 0 0,.map none],true⟩,qby ab 18 (.agg #[.int .u8 0,.int .u8 0,.int .u8 0,.int .u8 0,.int .u8 0,.int .u8 0,.int .u8 0,.int .u8 0,.int .u8 0,.int .u8 0,.int .u8 0,.int .u8 0,.int .u8 0,.int .u8 0,.int .u8 0,.int .u8 0,.slice none 0 0,.map none]) ((lst (T.at_ 1)).length) (ac + 1),⟨ab,ac * 18,[.int .u8 0,.int .u8 0,.int .u8 0,.int .u8 0,.int .u8 0,.int .u8 0,.int .u8 0,.int .u8 0,.int .u8 0,.int .u8 0,.int .u8 0,.int .u8 0,.int .u8 0,.int .u8 0,.int .u8 0,.int .u8 0,.slice none 0 0,.map none],true⟩,⟨ev,0,[.int .u8 0,.int .u8 0,.int .u8 0,.int .u8 0,.int .u8 0,.int .u8 0,.int .u8 0,.int .u8 0,.int .u8 0,.int .u8 0,.int .u8 0,.int .u8 0,.int .u8 0,.int .u8 0,.int .u8 0,.int .u8 0],true⟩]) rfl).pk (env':=[(7,.p 0 0),(9,.v (.bool (decide (v ≥ 0)))),(10,.p 1 0),(13,.v (.slice (some ⟨ab,0,none⟩) ((lst (T.at_ 1)).length) ag)),(14,.v (.int .i32 (((lst (T.at_ 1)).length:Nat):Int))),(15,.v (.int .i32 ((ac:Nat):Int))),(17,.p 3 0),(80,.v (.agg #[qaf ((qah (aa.at_ 0).S).getD 0 0),qaf ((qah (aa.at_ 0).S).getD 1 0),qaf ((qah (aa.at_ 0).S).getD 2 0),qaf ((qah (aa.at_ 0).S).getD 3 0),qaf ((qah (aa.at_ 0).S).getD 4 0),qaf ((qah (aa.at_ 0).S).getD 5 0),qaf ((qah (aa.at_ 0).S).getD 6 0),qaf ((qah (aa.at_ 0).S).getD 7 0),qaf ((qah (aa.at_ 0).S).getD 8 0),qaf ((qah (aa.at_ 0).S).getD 9 0),qaf ((qah (aa.at_ 0).S).getD 10 0),qaf ((qah (aa.at_ 0).S).getD 11 0),qaf ((qah (aa.at_ 0).S).getD 12 0),qaf ((qah (aa.at_ 0).S).getD 13 0),qaf ((qah (aa.at_ 0).S).getD 14 0),qaf ((qah (aa.at_ 0).S).getD 15 0)])),(18,.p 4 0)])
    clear dW
    refine qao (qe2 [⟨bv,0,[.int .i16 v,.string (bs (T.at_ 0).S),.slice none 0 0,.map none],true⟩,qby ab 18 (.agg #[.int .u8 0,.int .u8 0,.int .u8 0,.int .u8 0,.int .u8 0,.int .u8 0,.int .u8 0,.int .u8 0,.int .u8 0,.int .u8 0,.int .u8 0,.int .u8 0,.int .u8 0,.int .u8 0,.int .u8 0,.int .u8 0,.slice none 0 0,.map none]) ((lst (T.at_ 1)).length) (ac + 1),⟨ab,ac * 18,[.int .u8 0,.int .u8 0,.int .u8 0,.int .u8 0,.int .u8 0,.int .u8 0,.int .u8 0,.int .u8 0,.int .u8 0,.int .u8 0,.int .u8 0,.int .u8 0,.int .u8 0,.int .u8 0,.int .u8 0,.int .u8 0,.slice none 0 0,.map none],true⟩,⟨ev,0,[qaf ((qah (aa.at_ 0).S).getD 0 0),qaf ((qah (aa.at_ 0).S).getD 1 0),qaf ((qah (aa.at_ 0).S).getD 2 0),qaf ((qah (aa.at_ 0).S).getD 3 0),qaf ((qah (aa.at_ 0).S).getD 4 0),qaf ((qah (aa.at_ 0).S).getD 5 0),qaf ((qah (aa.at_ 0).S).getD 6 0),qaf ((qah (aa.at_ 0).S).getD 7 0),qaf ((qah (aa.at_ 0).S).getD 8 0),qaf ((qah (aa.at_ 0).S).getD 9 0),qaf ((qah (aa.at_ 0).S).getD 10 0),qaf ((qah (aa.at_ 0).S).getD 11 0),qaf ((qah (aa.at_ 0).S).getD 12 0),qaf ((qah (aa.at_ 0).S).getD 13 0),qaf ((qah (aa.at_ 0).S).getD 14 0),qaf ((qah (aa.at_ 0).S).getD 15 0)],true⟩] 3 aS fun _ aT=>?_)
    clear aS
    refine qag ?_
    have aU:=aT.pk (env':=[(7,.p 0 0),(9,.v (.bool (decide (v ≥ 0)))),(10,.p 1 0),(13,.v (.slice (some ⟨ab,0,none⟩) ((lst (T.at_ 1)).length) ag)),(14,.v (.int .i32 (((lst (T.at_ 1)).length:Nat):Int))),(15,.v (.int .i32 ((ac:Nat):Int))),(17,.p 3 0),(18,.p 4 0)])
    clear aT
    refine qab ?_
    refine qfH [⟨bv,0,[.int .i16 v,.string (bs (T.at_ 0).S),.slice none 0 0,.map none],true⟩,qby ab 18 (.agg #[.int .u8 0,.int .u8 0,.int .u8 0,.int .u8 0,.int .u8 0,.int .u8 0,.int .u8 0,.int .u8 0,.int .u8 0,.int .u8 0,.int .u8 0,.int .u8 0,.int .u8 0,.int .u8 0,.int .u8 0,.int .u8 0,.slice none 0 0,.map none]) ((lst (T.at_ 1)).length) (ac + 1),⟨ab,ac * 18,[qaf ((qah (aa.at_ 0).S).getD 0 0),qaf ((qah (aa.at_ 0).S).getD 1 0),qaf ((qah (aa.at_ 0).S).getD 2 0),qaf ((qah (aa.at_ 0).S).getD 3 0),qaf ((qah (aa.at_ 0).S).getD 4 0),qaf ((qah (aa.at_ 0).S).getD 5 0),qaf ((qah (aa.at_ 0).S).getD 6 0),qaf ((qah (aa.at_ 0).S).getD 7 0),qaf ((qah (aa.at_ 0).S).getD 8 0),qaf ((qah (aa.at_ 0).S).getD 9 0),qaf ((qah (aa.at_ 0).S).getD 10 0),qaf ((qah (aa.at_ 0).S).getD 11 0),qaf ((qah (aa.at_ 0).S).getD 12 0),qaf ((qah (aa.at_ 0).S).getD 13 0),qaf ((qah (aa.at_ 0).S).getD 14 0),qaf ((qah (aa.at_ 0).S).getD 15 0),.slice none 0 0,.map none],true⟩,⟨ev,0,[qaf ((qah (aa.at_ 0).S).getD 0 0),qaf ((qah (aa.at_ 0).S).getD 1 0),qaf ((qah (aa.at_ 0).S).getD 2 0),qaf ((qah (aa.at_ 0).S).getD 3 0),qaf ((qah (aa.at_ 0).S).getD 4 0),qaf ((qah (aa.at_ 0).S).getD 5 0),qaf ((qah (aa.at_ 0).S).getD 6 0),qaf ((qah (aa.at_ 0).S).getD 7 0),qaf ((qah (aa.at_ 0).S).getD 8 0),qaf ((qah (aa.at_ 0).S).getD 9 0),qaf ((qah (aa.at_ 0).S).getD 10 0),qaf ((qah (aa.at_ 0).S).getD 11 0),qaf ((qah (aa.at_ 0).S).getD 12 0),qaf ((qah (aa.at_ 0).S).getD 13 0),qaf ((qah (aa.at_ 0).S).getD 14 0),qaf ((qah (aa.at_ 0).S).getD 15 0)],true⟩] 2 [(7,.p 0 0),(9,.v (.bool (decide (v ≥ 0)))),(10,.p 1 0),(13,.v (.slice (some ⟨ab,0,none⟩) ((lst (T.at_ 1)).length) ag)),(14,.v (.int .i32 (((lst (T.at_ 1)).length:Nat):Int))),(15,.v (.int .i32 ((ac:Nat):Int))),(17,.p 3 0)] aU fun _ _ aV=>?_
    clear aU
    have aW:=RS.dropT (tb:=[⟨bv,0,[.int .i16 v,.string (bs (T.at_ 0).S),.slice none 0 0,.map none],true⟩,qby ab 18 (.agg #[.int .u8 0,.int .u8 0,.int .u8 0,.int .u8 0,.int .u8 0,.int .u8 0,.int .u8 0,.int .u8 0,.int .u8 0,.int .u8 0,.int .u8 0,.int .u8 0,.int .u8 0,.int .u8 0,.int .u8 0,.int .u8 0,.slice none 0 0,.map none]) ((lst (T.at_ 1)).length) (ac + 1),⟨ab,ac * 18,[qaf ((qah (aa.at_ 0).S).getD 0 0),qaf ((qah (aa.at_ 0).S).getD 1 0),qaf ((qah (aa.at_ 0).S).getD 2 0),qaf ((qah (aa.at_ 0).S).getD 3 0),qaf ((qah (aa.at_ 0).S).getD 4 0),qaf ((qah (aa.at_ 0).S).getD 5 0),qaf ((qah (aa.at_ 0).S).getD 6 0),qaf ((qah (aa.at_ 0).S).getD 7 0),qaf ((qah (aa.at_ 0).S).getD 8 0),qaf ((qah (aa.at_ 0).S).getD 9 0),qaf ((qah (aa.at_ 0).S).getD 10 0),qaf ((qah (aa.at_ 0).S).getD 11 0),qaf ((qah (aa.at_ 0).S).getD 12 0),qaf ((qah (aa.at_ 0).S).getD 13 0),qaf ((qah (aa.at_ 0).S).getD 14 0),qaf ((qah (aa.at_ 0).S).getD 15 0),.slice none 0 0,.map none],true⟩]) aV hb_b98 kz
    clear aV
    refine qab ?_
    refine wp_seq ?_
    refine wp_seq ?_
    refine qcb [(7,.p 0 0),(9,.v (.bool (decide (v ≥ 0)))),(10,.p 1 0),(13,.v (.slice (some ⟨ab,0,none⟩) ((lst (T.at_ 1)).length) ag)),(14,.v (.int .i32 (((lst (T.at_ 1)).length:Nat):Int))),(15,.v (.int .i32 ((ac:Nat):Int))),(17,.p 3 0),(19,.v (.slice none 0 0))] aW fun _ aX=>?_
    clear aW
    refine qab ?_
    refine wp_seq ?_
    refine qcb [(7,.p 0 0),(9,.v (.bool (decide (v ≥ 0)))),(10,.p 1 0),(13,.v (.slice (some ⟨ab,0,none⟩) ((lst (T.at_ 1)).length) ag)),(14,.v (.int .i32 (((lst (T.at_ 1)).length:Nat):Int))),(15,.v (.int .i32 ((ac:Nat):Int))),(17,.p 3 0),(20,.v (.slice none 0 0))] aX fun _ aY=>?_
    clear aX
    refine qab ?_
    refine wp_seq ?_
    refine qcb [(7,.p 0 0),(9,.v (.bool (decide (v ≥ 0)))),(10,.p 1 0),(13,.v (.slice (some ⟨ab,0,none⟩) ((lst (T.at_ 1)).length) ag)),(14,.v (.int .i32 (((lst (T.at_ 1)).length:Nat):Int))),(15,.v (.int .i32 ((ac:Nat):Int))),(17,.p 3 0),(20,.v (.slice none 0 0))] aY fun _ aZ=>?_
    clear aY
    refine qab ?_
    refine wp_seq ?_
    have ba:=aZ.cast dL
    clear aZ
    have bd:=ba.cast (t:=(if (decide (v ≥ 0)) = true then (uv ((lst (aa.at_ 1)).length + 1)) else (be 4 (lst (aa.at_ 1)).length)) ++ (((lst (aa.at_ 1)).flatMap (qas v)) ++ aR)) (by rw [List.append_assoc])
    clear ba
    refine qhq (d1:=91) (d2:=92) [(7,.p 0 0),(9,.v (.bool (decide (v ≥ 0)))),(10,.p 1 0),(13,.v (.slice (some ⟨ab,0,none⟩) ((lst (T.at_ 1)).length) ag)),(14,.v (.int .i32 (((lst (T.at_ 1)).length:Nat):Int))),(15,.v (.int .i32 ((ac:Nat):Int))),(17,.p 3 0),(20,.v (.slice none 0 0)),(90,.v (.bool (decide (v ≥ 0))))] [(7,.p 0 0),(9,.v (.bool (decide (v ≥ 0)))),(10,.p 1 0),(13,.v (.slice (some ⟨ab,0,none⟩) ((lst (T.at_ 1)).length) ag)),(14,.v (.int .i32 (((lst (T.at_ 1)).length:Nat):Int))),(15,.v (.int .i32 ((ac:Nat):Int))),(17,.p 3 0),(20,.v (.slice none 0 0)),(21,.v (.int .i32 (((lst (aa.at_ 1)).length:Nat):Int)))] bd (qdm ((lst (aa.at_ 1)).length) e80_1 _ (flat_ge' (qbq v) _)) Tryz.call123 (qgO ((lst (aa.at_ 1)).length) e80_1 _ (flat_ge' (qbq v) _)) Tryz.call124 fun _ _ bf=>?_
    clear bd
    refine qab ?_
    refine wp_seq ?_
    refine wp_seq ?_
    refine qlT (d:=93) [(7,.p 0 0),(9,.v (.bool (decide (v ≥ 0)))),(10,.p 1 0),(13,.v (.slice (some ⟨ab,0,none⟩) ((lst (T.at_ 1)).length) ag)),(14,.v (.int .i32 (((lst (T.at_ 1)).length:Nat):Int))),(15,.v (.int .i32 ((ac:Nat):Int))),(17,.p 3 0),(20,.v (.slice none 0 0)),(21,.v (.int .i32 (((lst (aa.at_ 1)).length:Nat):Int))),(94,.v (.bool false))] bf (pOk _) Tryz.call125 fun _ _ aF=>?_
    clear bf
    refine qab ?_
    refine qav aF.env_ (b:=false) kz (rfl) ?_
    refine wp_skip ?_
    refine qab ?_
    refine wp_seq ?_
    refine qjI (t:=167) (e:=172) (size:=3) (bytes:=16) (d:=97) (A0:=none) (m:=0) (cp:=0) [(7,.p 0 0),(9,.v (.bool (decide (v ≥ 0)))),(10,.p 1 0),(13,.v (.slice (some ⟨ab,0,none⟩) ((lst (T.at_ 1)).length) ag)),(14,.v (.int .i32 (((lst (T.at_ 1)).length:Nat):Int))),(15,.v (.int .i32 ((ac:Nat):Int))),(17,.p 3 0),(21,.v (.int .i32 (((lst (aa.at_ 1)).length:Nat):Int))),(96,.v (.slice none 0 0))] [(7,.p 0 0),(9,.v (.bool (decide (v ≥ 0)))),(10,.p 1 0),(13,.v (.slice (some ⟨ab,0,none⟩) ((lst (T.at_ 1)).length) ag)),(14,.v (.int .i32 (((lst (T.at_ 1)).length:Nat):Int))),(15,.v (.int .i32 ((ac:Nat):Int))),(17,.p 3 0),(20,.v (.slice none 0 0)),(21,.v (.int .i32 (((lst (aa.at_ 1)).length:Nat):Int)))] 1 aF fun _ bg=>?_
    clear aF
    refine qab ?_
    refine qhU (Mid:=fun a_ w_=>∃ (ai:DV) (P':qcM),(∀ w F,P' w F → eG w F ∧ (Slots w F 3 ai.A ai.c ai.l (fun i=>[.int .i32 (((ai.f i).f 0).n),.int .i32 (((ai.f i).f 1).n),.map ((ai.f i).m)]) ∧ ai.l ≤ 1000000 ∧ ∀ i,i < ai.l → qaE w F (ai.f i)) ∧ (ai.l = (lst (aa.at_ 1)).length ∧ ∀ i,i < ai.l → qaI v (ai.f i) ((lst (aa.at_ 1)).getD i .zero))) ∧ RS w (fun b o=>b = bv ∧ o < 4) F 150 cR [⟨bv,0,[.int .i16 v,.string (bs (T.at_ 0).S),.slice none 0 0,.map none],true⟩,qby ab 18 (.agg #[.int .u8 0,.int .u8 0,.int .u8 0,.int .u8 0,.int .u8 0,.int .u8 0,.int .u8 0,.int .u8 0,.int .u8 0,.int .u8 0,.int .u8 0,.int .u8 0,.int .u8 0,.int .u8 0,.int .u8 0,.int .u8 0,.slice none 0 0,.map none]) ((lst (T.at_ 1)).length) (ac + 1),⟨ab,ac * 18,[qaf ((qah (aa.at_ 0).S).getD 0 0),qaf ((qah (aa.at_ 0).S).getD 1 0),qaf ((qah (aa.at_ 0).S).getD 2 0),qaf ((qah (aa.at_ 0).S).getD 3 0),qaf ((qah (aa.at_ 0).S).getD 4 0),qaf ((qah (aa.at_ 0).S).getD 5 0),qaf ((qah (aa.at_ 0).S).getD 6 0),qaf ((qah (aa.at_ 0).S).getD 7 0),qaf ((qah (aa.at_ 0).S).getD 8 0),qaf ((qah (aa.at_ 0).S).getD 9 0),qaf ((qah (aa.at_ 0).S).getD 10 0),qaf ((qah (aa.at_ 0).S).getD 11 0),qaf ((qah (aa.at_ 0).S).getD 12 0),qaf ((qah (aa.at_ 0).S).getD 13 0),qaf ((qah (aa.at_ 0).S).getD 14 0),qaf ((qah (aa.at_ 0).S).getD 15 0),.slice none 0 0,.map none],true⟩] [(7,.p 0 0),(9,.v (.bool (decide (v ≥ 0)))),(10,.p 1 0),(13,.v (.slice (some ⟨ab,0,none⟩) ((lst (T.at_ 1)).length) ag)),(14,.v (.int .i32 (((lst (T.at_ 1)).length:Nat):Int))),(15,.v (.int .i32 ((ac:Nat):Int))),(17,.p 3 0),(20,.v (.slice ai.A ai.l ai.c))] P' aR a_ w_) ?_ ?_
    ·
     refine wp_seq ?_
     refine qcb [(7,.p 0 0),(9,.v (.bool (decide (v ≥ 0)))),(10,.p 1 0),(13,.v (.slice (some ⟨ab,0,none⟩) ((lst (T.at_ 1)).length) ag)),(14,.v (.int .i32 (((lst (T.at_ 1)).length:Nat):Int))),(15,.v (.int .i32 ((ac:Nat):Int))),(17,.p 3 0),(20,.v (.slice none 0 0)),(21,.v (.int .i32 (((lst (aa.at_ 1)).length:Nat):Int))),(99,.v (.bool (decide ((((lst (aa.at_ 1)).length:Nat):Int) > 0))))] bg fun _ ap=>qab ?_
     clear bg
     refine qaB ap.env_ (b:=decide ((((lst (aa.at_ 1)).length:Nat):Int) > 0)) kz (fun aC=>?_) (fun aC=>?_)
     ·
      have hn_g121:0 < (lst (aa.at_ 1)).length:=by have h_:=of_decide_eq_true aC; omega
      refine qau [0,1,2,3] kz ?_
      refine qdj [0,1] [2,3] [(7,.p 0 0),(9,.v (.bool (decide (v ≥ 0)))),(10,.p 1 0),(13,.v (.slice (some ⟨ab,0,none⟩) ((lst (T.at_ 1)).length) ag)),(14,.v (.int .i32 (((lst (T.at_ 1)).length:Nat):Int))),(15,.v (.int .i32 ((ac:Nat):Int))),(17,.p 3 0),(21,.v (.int .i32 (((lst (aa.at_ 1)).length:Nat):Int))),(100,.v (.slice none 0 0)),(101,.v (.int .i32 (((lst (aa.at_ 1)).length:Nat):Int)))] ap fun _ bh=>?_
      clear ap
      refine qao (qfI (A0:=none) (d:=102) (t:=167) (tn:=21) (e:=172) (size:=3) (bytes:=16) (k:=.i32) (kn:=.i32) (q:=(((lst (aa.at_ 1)).length:Nat):Int)) (j:=(lst (aa.at_ 1)).length) (.agg #[.int .i32 0,.int .i32 0,.map none]) bh (fun ae ah _ _ hg_g121 hcap_g121 bi=>?_) rfl hn_g121 (by have:=e80_1; omega))
      clear bh
      refine qdj [3] [] [(7,.p 0 0),(9,.v (.bool (decide (v ≥ 0)))),(10,.p 1 0),(13,.v (.slice (some ⟨ab,0,none⟩) ((lst (T.at_ 1)).length) ag)),(14,.v (.int .i32 (((lst (T.at_ 1)).length:Nat):Int))),(15,.v (.int .i32 ((ac:Nat):Int))),(17,.p 3 0),(20,.v (.slice (some ⟨ae,0,none⟩) ((lst (aa.at_ 1)).length) ah)),(21,.v (.int .i32 (((lst (aa.at_ 1)).length:Nat):Int)))] bi fun _ bj=>qag ?_
      clear bi
      refine qab ?_
      refine wp_seq ?_
      refine qcb [(7,.p 0 0),(9,.v (.bool (decide (v ≥ 0)))),(10,.p 1 0),(13,.v (.slice (some ⟨ab,0,none⟩) ((lst (T.at_ 1)).length) ag)),(14,.v (.int .i32 (((lst (T.at_ 1)).length:Nat):Int))),(15,.v (.int .i32 ((ac:Nat):Int))),(17,.p 3 0),(20,.v (.slice (some ⟨ae,0,none⟩) ((lst (aa.at_ 1)).length) ah)),(21,.v (.int .i32 (((lst (aa.at_ 1)).length:Nat):Int))),(22,.v (.int .i32 0))] bj fun _ aG=>?_
      clear bj
      refine qab ?_
      refine wp_block ?_
      have aH:=aG.mv
      have dX:=(aG.cast (t:=(lst (aa.at_ 1)).flatMap (qas v) ++ aR) rfl).pk (env':=[(7,.p 0 0),(9,.v (.bool (decide (v ≥ 0)))),(10,.p 1 0),(13,.v (.slice (some ⟨ab,0,none⟩) ((lst (T.at_ 1)).length) ag)),(14,.v (.int .i32 (((lst (T.at_ 1)).length:Nat):Int))),(15,.v (.int .i32 ((ac:Nat):Int))),(17,.p 3 0),(20,.v (.slice (some ⟨ae,0,none⟩) ((lst (aa.at_ 1)).length) ah)),(21,.v (.int .i32 (((lst (aa.at_ 1)).length:Nat):Int))),(22,.v (.int .i32 ((0:Nat):Int)))])
      clear aG
      refine qjE (tb:=[⟨bv,0,[.int .i16 v,.string (bs (T.at_ 0).S),.slice none 0 0,.map none],true⟩,qby ab 18 (.agg #[.int .u8 0,.int .u8 0,.int .u8 0,.int .u8 0,.int .u8 0,.int .u8 0,.int .u8 0,.int .u8 0,.int .u8 0,.int .u8 0,.int .u8 0,.int .u8 0,.int .u8 0,.int .u8 0,.int .u8 0,.int .u8 0,.slice none 0 0,.map none]) ((lst (T.at_ 1)).length) (ac + 1),⟨ab,ac * 18,[qaf ((qah (aa.at_ 0).S).getD 0 0),qaf ((qah (aa.at_ 0).S).getD 1 0),qaf ((qah (aa.at_ 0).S).getD 2 0),qaf ((qah (aa.at_ 0).S).getD 3 0),qaf ((qah (aa.at_ 0).S).getD 4 0),qaf ((qah (aa.at_ 0).S).getD 5 0),qaf ((qah (aa.at_ 0).S).getD 6 0),qaf ((qah (aa.at_ 0).S).getD 7 0),qaf ((qah (aa.at_ 0).S).getD 8 0),qaf ((qah (aa.at_ 0).S).getD 9 0),qaf ((qah (aa.at_ 0).S).getD 10 0),qaf ((qah (aa.at_ 0).S).getD 11 0),qaf ((qah (aa.at_ 0).S).getD 12 0),qaf ((qah (aa.at_ 0).S).getD 13 0),qaf ((qah (aa.at_ 0).S).getD 14 0),qaf ((qah (aa.at_ 0).S).getD 15 0),.slice none 0 0,.map none],true⟩]) (z:=.agg #[.int .i32 0,.int .i32 0,.map none]) (cl:=qbs) (ok:=qaE) (rel:=(qaI v)) (L:=lst (aa.at_ 1)) (size:=3) (qas v) aR (fun k=>[(7,.p 0 0),(9,.v (.bool (decide (v ≥ 0)))),(10,.p 1 0),(13,.v (.slice (some ⟨ab,0,none⟩) ((lst (T.at_ 1)).length) ag)),(14,.v (.int .i32 (((lst (T.at_ 1)).length:Nat):Int))),(15,.v (.int .i32 ((ac:Nat):Int))),(17,.p 3 0),(20,.v (.slice (some ⟨ae,0,none⟩) ((lst (aa.at_ 1)).length) ah)),(21,.v (.int .i32 (((lst (aa.at_ 1)).length:Nat):Int))),(22,.v (.int .i32 ((k:Nat):Int)))]) dX qa1 (fun af aj _ _ aI dY bk=>?_) (fun _ _ bn=>?_)
      ·
       obtain ⟨ew,bo,bp⟩:∃ P',(∀ w F,P' w F → (eG w F ∧ qfq ae 3 qbs qaE (qaI v) (lst (aa.at_ 1)) af w F)) ∧ RS w (fun b o=>b = bv ∧ o < 4) F 150 cR [⟨bv,0,[.int .i16 v,.string (bs (T.at_ 0).S),.slice none 0 0,.map none],true⟩,qby ab 18 (.agg #[.int .u8 0,.int .u8 0,.int .u8 0,.int .u8 0,.int .u8 0,.int .u8 0,.int .u8 0,.int .u8 0,.int .u8 0,.int .u8 0,.int .u8 0,.int .u8 0,.int .u8 0,.int .u8 0,.int .u8 0,.int .u8 0,.slice none 0 0,.map none]) ((lst (T.at_ 1)).length) (ac + 1),⟨ab,ac * 18,[qaf ((qah (aa.at_ 0).S).getD 0 0),qaf ((qah (aa.at_ 0).S).getD 1 0),qaf ((qah (aa.at_ 0).S).getD 2 0),qaf ((qah (aa.at_ 0).S).getD 3 0),qaf ((qah (aa.at_ 0).S).getD 4 0),qaf ((qah (aa.at_ 0).S).getD 5 0),qaf ((qah (aa.at_ 0).S).getD 6 0),qaf ((qah (aa.at_ 0).S).getD 7 0),qaf ((qah (aa.at_ 0).S).getD 8 0),qaf ((qah (aa.at_ 0).S).getD 9 0),qaf ((qah (aa.at_ 0).S).getD 10 0),qaf ((qah (aa.at_ 0).S).getD 11 0),qaf ((qah (aa.at_ 0).S).getD 12 0),qaf ((qah (aa.at_ 0).S).getD 13 0),qaf ((qah (aa.at_ 0).S).getD 14 0),qaf ((qah (aa.at_ 0).S).getD 15 0),.slice none 0 0,.map none],true⟩,qby ae 3 (.agg #[.int .i32 0,.int .i32 0,.map none]) ((lst (aa.at_ 1)).length) af] [(7,.p 0 0),(9,.v (.bool (decide (v ≥ 0)))),(10,.p 1 0),(13,.v (.slice (some ⟨ab,0,none⟩) ((lst (T.at_ 1)).length) ag)),(14,.v (.int .i32 (((lst (T.at_ 1)).length:Nat):Int))),(15,.v (.int .i32 ((ac:Nat):Int))),(17,.p 3 0),(20,.v (.slice (some ⟨ae,0,none⟩) ((lst (aa.at_ 1)).length) ah)),(21,.v (.int .i32 (((lst (aa.at_ 1)).length:Nat):Int))),(22,.v (.int .i32 ((af:Nat):Int)))] P' ((qas v) aj ++ (((lst (aa.at_ 1)).drop (af + 1)).flatMap (qas v) ++ aR)) _ _:=⟨_,fun _ _ h=>h,bk⟩
       clear bk
       obtain ⟨aJ,bq⟩:∃ R,R = ((lst (aa.at_ 1)).drop (af + 1)).flatMap (qas v) ++ aR:=⟨_,rfl⟩
       have dZ:=(e80_1e aj (List.mem_of_getElem? aI))
       have e140r:=(qfG (qfm e80r 1) aj (List.mem_of_getElem? aI))
       unfold qa0 at dZ
       obtain ⟨e140_0,e140_1,e140_U,_⟩:=dZ
       obtain ⟨ey,bt⟩:∃ R,R = (if (decide (v ≥ 0)) = true then (uv aj.U.length) ++ (qbu aj.U) else []) ++ aJ:=⟨_,rfl⟩
       obtain ⟨ez,bu⟩:∃ R,R = (be 4 ((IntKind.i32.wrap (aj.at_ 1).N))) ++ ey:=⟨_,rfl⟩
       obtain ⟨eB,bw⟩:∃ R,R = (be 4 ((IntKind.i32.wrap (aj.at_ 0).N))) ++ ez:=⟨_,rfl⟩
       have bx:=bp.cast (t:=eB) (by rw [bw,bu,bt,← bq]; unfold qas; simp only [List.append_assoc])
       clear bp
       refine wp_seq ?_
       refine wp_seq ?_
       refine qcb [(7,.p 0 0),(9,.v (.bool (decide (v ≥ 0)))),(10,.p 1 0),(13,.v (.slice (some ⟨ab,0,none⟩) ((lst (T.at_ 1)).length) ag)),(14,.v (.int .i32 (((lst (T.at_ 1)).length:Nat):Int))),(15,.v (.int .i32 ((ac:Nat):Int))),(17,.p 3 0),(20,.v (.slice (some ⟨ae,0,none⟩) ((lst (aa.at_ 1)).length) ah)),(21,.v (.int .i32 (((lst (aa.at_ 1)).length:Nat):Int))),(22,.v (.int .i32 ((af:Nat):Int))),(105,.v (.bool (decide (((af:Nat):Int) < (((lst (aa.at_ 1)).length:Nat):Int)))))] bx fun _ aK=>qab ?_
       clear bx
       refine qbN aK.env_ (b:=decide (((af:Nat):Int) < (((lst (aa.at_ 1)).length:Nat):Int))) kz (decide_eq_true (by omega)) ?_
       refine wp_skip ?_
       refine qab ?_
       refine wp_seq ?_
       refine wp_block ?_
       refine wp_seq ?_
       refine qjJ (t:=167) (e:=172) (size:=3) (bytes:=16) (d:=110) (tb:=[⟨bv,0,[.int .i16 v,.string (bs (T.at_ 0).S),.slice none 0 0,.map none],true⟩,qby ab 18 (.agg #[.int .u8 0,.int .u8 0,.int .u8 0,.int .u8 0,.int .u8 0,.int .u8 0,.int .u8 0,.int .u8 0,.int .u8 0,.int .u8 0,.int .u8 0,.int .u8 0,.int .u8 0,.int .u8 0,.int .u8 0,.int .u8 0,.slice none 0 0,.map none]) ((lst (T.at_ 1)).length) (ac + 1),⟨ab,ac * 18,[qaf ((qah (aa.at_ 0).S).getD 0 0),qaf ((qah (aa.at_ 0).S).getD 1 0),qaf ((qah (aa.at_ 0).S).getD 2 0),qaf ((qah (aa.at_ 0).S).getD 3 0),qaf ((qah (aa.at_ 0).S).getD 4 0),qaf ((qah (aa.at_ 0).S).getD 5 0),qaf ((qah (aa.at_ 0).S).getD 6 0),qaf ((qah (aa.at_ 0).S).getD 7 0),qaf ((qah (aa.at_ 0).S).getD 8 0),qaf ((qah (aa.at_ 0).S).getD 9 0),qaf ((qah (aa.at_ 0).S).getD 10 0),qaf ((qah (aa.at_ 0).S).getD 11 0),qaf ((qah (aa.at_ 0).S).getD 12 0),qaf ((qah (aa.at_ 0).S).getD 13 0),qaf ((qah (aa.at_ 0).S).getD 14 0),qaf ((qah (aa.at_ 0).S).getD 15 0),.slice none 0 0,.map none],true⟩]) (z:=.agg #[.int .i32 0,.int .i32 0,.map none]) [(7,.p 0 0),(9,.v (.bool (decide (v ≥ 0)))),(10,.p 1 0),(13,.v (.slice (some ⟨ab,0,none⟩) ((lst (T.at_ 1)).length) ag)),(14,.v (.int .i32 (((lst (T.at_ 1)).length:Nat):Int))),(15,.v (.int .i32 ((ac:Nat):Int))),(17,.p 3 0),(20,.v (.slice (some ⟨ae,0,none⟩) ((lst (aa.at_ 1)).length) ah)),(21,.v (.int .i32 (((lst (aa.at_ 1)).length:Nat):Int))),(22,.v (.int .i32 ((af:Nat):Int))),(108,.v (.slice (some ⟨ae,0,none⟩) ((lst (aa.at_ 1)).length) ah)),(109,.v (.int .i32 ((af:Nat):Int)))] [(7,.p 0 0),(9,.v (.bool (decide (v ≥ 0)))),(10,.p 1 0),(13,.v (.slice (some ⟨ab,0,none⟩) ((lst (T.at_ 1)).length) ag)),(14,.v (.int .i32 (((lst (T.at_ 1)).length:Nat):Int))),(15,.v (.int .i32 ((ac:Nat):Int))),(17,.p 3 0),(20,.v (.slice (some ⟨ae,0,none⟩) ((lst (aa.at_ 1)).length) ah)),(21,.v (.int .i32 (((lst (aa.at_ 1)).length:Nat):Int))),(22,.v (.int .i32 ((af:Nat):Int))),(23,.p 5 0)] 2 aK dY rfl kz fun _ bz=>?_
       clear aK
       have bA:=bz.tbEq (tb':=[⟨bv,0,[.int .i16 v,.string (bs (T.at_ 0).S),.slice none 0 0,.map none],true⟩,qby ab 18 (.agg #[.int .u8 0,.int .u8 0,.int .u8 0,.int .u8 0,.int .u8 0,.int .u8 0,.int .u8 0,.int .u8 0,.int .u8 0,.int .u8 0,.int .u8 0,.int .u8 0,.int .u8 0,.int .u8 0,.int .u8 0,.int .u8 0,.slice none 0 0,.map none]) ((lst (T.at_ 1)).length) (ac + 1),⟨ab,ac * 18,[qaf ((qah (aa.at_ 0).S).getD 0 0),qaf ((qah (aa.at_ 0).S).getD 1 0),qaf ((qah (aa.at_ 0).S).getD 2 0),qaf ((qah (aa.at_ 0).S).getD 3 0),qaf ((qah (aa.at_ 0).S).getD 4 0),qaf ((qah (aa.at_ 0).S).getD 5 0),qaf ((qah (aa.at_ 0).S).getD 6 0),qaf ((qah (aa.at_ 0).S).getD 7 0),qaf ((qah (aa.at_ 0).S).getD 8 0),qaf ((qah (aa.at_ 0).S).getD 9 0),qaf ((qah (aa.at_ 0).S).getD 10 0),qaf ((qah (aa.at_ 0).S).getD 11 0),qaf ((qah (aa.at_ 0).S).getD 12 0),qaf ((qah (aa.at_ 0).S).getD 13 0),qaf ((qah (aa.at_ 0).S).getD 14 0),qaf ((qah (aa.at_ 0).S).getD 15 0),.slice none 0 0,.map none],true⟩,qby ae 3 (.agg #[.int .i32 0,.int .i32 0,.map none]) ((lst (aa.at_ 1)).length) (af + 1),⟨ae,af * 3,[.int .i32 0,.int .i32 0,.map none],true⟩]) rfl
       clear bz
       refine qab ?_
       refine wp_seq ?_
       refine qau [0,1] kz ?_
       refine qdj [0] [1] [(7,.p 0 0),(9,.v (.bool (decide (v ≥ 0)))),(10,.p 1 0),(13,.v (.slice (some ⟨ab,0,none⟩) ((lst (T.at_ 1)).length) ag)),(14,.v (.int .i32 (((lst (T.at_ 1)).length:Nat):Int))),(15,.v (.int .i32 ((ac:Nat):Int))),(17,.p 3 0),(20,.v (.slice (some ⟨ae,0,none⟩) ((lst (aa.at_ 1)).length) ah)),(21,.v (.int .i32 (((lst (aa.at_ 1)).length:Nat):Int))),(22,.v (.int .i32 ((af:Nat):Int))),(23,.p 5 0),(111,.p 5 0)] bA fun _ bB=>?_
       clear bA
       refine qao (qkI (d:=112) (vs:=[.pointer (some ⟨ae,af * 3,none⟩)]) bB (fun _=>qlZ _ _ _) Tryz.call143 fun _ bC=>?_)
       clear bB
       refine qag ?_
       have bD:=bC.pk (env':=[(7,.p 0 0),(9,.v (.bool (decide (v ≥ 0)))),(10,.p 1 0),(13,.v (.slice (some ⟨ab,0,none⟩) ((lst (T.at_ 1)).length) ag)),(14,.v (.int .i32 (((lst (T.at_ 1)).length:Nat):Int))),(15,.v (.int .i32 ((ac:Nat):Int))),(17,.p 3 0),(20,.v (.slice (some ⟨ae,0,none⟩) ((lst (aa.at_ 1)).length) ah)),(21,.v (.int .i32 (((lst (aa.at_ 1)).length:Nat):Int))),(22,.v (.int .i32 ((af:Nat):Int))),(23,.p 5 0)])
       clear bC
       refine qab ?_
       refine wp_seq ?_
       refine qcb [(7,.p 0 0),(9,.v (.bool (decide (v ≥ 0)))),(10,.p 1 0),(13,.v (.slice (some ⟨ab,0,none⟩) ((lst (T.at_ 1)).length) ag)),(14,.v (.int .i32 (((lst (T.at_ 1)).length:Nat):Int))),(15,.v (.int .i32 ((ac:Nat):Int))),(17,.p 3 0),(20,.v (.slice (some ⟨ae,0,none⟩) ((lst (aa.at_ 1)).length) ah)),(21,.v (.int .i32 (((lst (aa.at_ 1)).length:Nat):Int))),(22,.v (.int .i32 ((af:Nat):Int))),(24,.p 5 0)] bD fun _ bE=>?_
       clear bD
       refine qab ?_
       refine wp_seq ?_
       refine wp_seq ?_
       have bF:=bE.cast bw
       clear bE
       refine qgN (d:=114) [(7,.p 0 0),(9,.v (.bool (decide (v ≥ 0)))),(10,.p 1 0),(13,.v (.slice (some ⟨ab,0,none⟩) ((lst (T.at_ 1)).length) ag)),(14,.v (.int .i32 (((lst (T.at_ 1)).length:Nat):Int))),(15,.v (.int .i32 ((ac:Nat):Int))),(17,.p 3 0),(20,.v (.slice (some ⟨ae,0,none⟩) ((lst (aa.at_ 1)).length) ah)),(21,.v (.int .i32 (((lst (aa.at_ 1)).length:Nat):Int))),(22,.v (.int .i32 ((af:Nat):Int))),(24,.p 5 0),(25,.v (.int .i32 (IntKind.i32.wrap (aj.at_ 0).N)))] bF (qkJ _ _) Tryz.call117 fun _ _ bG=>?_
       clear bF
       refine qab ?_
       refine qfH [⟨bv,0,[.int .i16 v,.string (bs (T.at_ 0).S),.slice none 0 0,.map none],true⟩,qby ab 18 (.agg #[.int .u8 0,.int .u8 0,.int .u8 0,.int .u8 0,.int .u8 0,.int .u8 0,.int .u8 0,.int .u8 0,.int .u8 0,.int .u8 0,.int .u8 0,.int .u8 0,.int .u8 0,.int .u8 0,.int .u8 0,.int .u8 0,.slice none 0 0,.map none]) ((lst (T.at_ 1)).length) (ac + 1),⟨ab,ac * 18,[qaf ((qah (aa.at_ 0).S).getD 0 0),qaf ((qah (aa.at_ 0).S).getD 1 0),qaf ((qah (aa.at_ 0).S).getD 2 0),qaf ((qah (aa.at_ 0).S).getD 3 0),qaf ((qah (aa.at_ 0).S).getD 4 0),qaf ((qah (aa.at_ 0).S).getD 5 0),qaf ((qah (aa.at_ 0).S).getD 6 0),qaf ((qah (aa.at_ 0).S).getD 7 0),qaf ((qah (aa.at_ 0).S).getD 8 0),qaf ((qah (aa.at_ 0).S).getD 9 0),qaf ((qah (aa.at_ 0).S).getD 10 0),qaf ((qah (aa.at_ 0).S).getD 11 0),qaf ((qah (aa.at_ 0).S).getD 12 0),qaf ((qah (aa.at_ 0).S).getD 13 0),qaf ((qah (aa.at_ 0).S).getD 14 0),qaf ((qah (aa.at_ 0).S).getD 15 0),.slice none 0 0,.map none],true⟩,qby ae 3 (.agg #[.int .i32 0,.int .i32 0,.map none]) ((lst (aa.at_ 1)).length) (af + 1),⟨ae,af * 3,[.int .i32 (IntKind.i32.wrap (aj.at_ 0).N),.int .i32 0,.map none],true⟩] 4 [(7,.p 0 0),(9,.v (.bool (decide (v ≥ 0)))),(10,.p 1 0),(13,.v (.slice (some ⟨ab,0,none⟩) ((lst (T.at_ 1)).length) ag)),(14,.v (.int .i32 (((lst (T.at_ 1)).length:Nat):Int))),(15,.v (.int .i32 ((ac:Nat):Int))),(17,.p 3 0),(20,.v (.slice (some ⟨ae,0,none⟩) ((lst (aa.at_ 1)).length) ah)),(21,.v (.int .i32 (((lst (aa.at_ 1)).length:Nat):Int))),(22,.v (.int .i32 ((af:Nat):Int))),(24,.p 5 0)] bG fun _ _ bH=>?_
       clear bG
       refine qab ?_
       refine wp_seq ?_
       refine wp_seq ?_
       have bI:=bH.cast bu
       clear bH
       refine qgN (d:=119) [(7,.p 0 0),(9,.v (.bool (decide (v ≥ 0)))),(10,.p 1 0),(13,.v (.slice (some ⟨ab,0,none⟩) ((lst (T.at_ 1)).length) ag)),(14,.v (.int .i32 (((lst (T.at_ 1)).length:Nat):Int))),(15,.v (.int .i32 ((ac:Nat):Int))),(17,.p 3 0),(20,.v (.slice (some ⟨ae,0,none⟩) ((lst (aa.at_ 1)).length) ah)),(21,.v (.int .i32 (((lst (aa.at_ 1)).length:Nat):Int))),(22,.v (.int .i32 ((af:Nat):Int))),(24,.p 5 0),(26,.v (.int .i32 (IntKind.i32.wrap (aj.at_ 1).N)))] bI (qkJ _ _) Tryz.call117 fun _ _ bJ=>?_
       clear bI
       refine qab ?_
       refine qfH [⟨bv,0,[.int .i16 v,.string (bs (T.at_ 0).S),.slice none 0 0,.map none],true⟩,qby ab 18 (.agg #[.int .u8 0,.int .u8 0,.int .u8 0,.int .u8 0,.int .u8 0,.int .u8 0,.int .u8 0,.int .u8 0,.int .u8 0,.int .u8 0,.int .u8 0,.int .u8 0,.int .u8 0,.int .u8 0,.int .u8 0,.int .u8 0,.slice none 0 0,.map none]) ((lst (T.at_ 1)).length) (ac + 1),⟨ab,ac * 18,[qaf ((qah (aa.at_ 0).S).getD 0 0),qaf ((qah (aa.at_ 0).S).getD 1 0),qaf ((qah (aa.at_ 0).S).getD 2 0),qaf ((qah (aa.at_ 0).S).getD 3 0),qaf ((qah (aa.at_ 0).S).getD 4 0),qaf ((qah (aa.at_ 0).S).getD 5 0),qaf ((qah (aa.at_ 0).S).getD 6 0),qaf ((qah (aa.at_ 0).S).getD 7 0),qaf ((qah (aa.at_ 0).S).getD 8 0),qaf ((qah (aa.at_ 0).S).getD 9 0),qaf ((qah (aa.at_ 0).S).getD 10 0),qaf ((qah (aa.at_ 0).S).getD 11 0),qaf ((qah (aa.at_ 0).S).getD 12 0),qaf ((qah (aa.at_ 0).S).getD 13 0),qaf ((qah (aa.at_ 0).S).getD 14 0),qaf ((qah (aa.at_ 0).S).getD 15 0),.slice none 0 0,.map none],true⟩,qby ae 3 (.agg #[.int .i32 0,.int .i32 0,.map none]) ((lst (aa.at_ 1)).length) (af + 1),⟨ae,af * 3,[.int .i32 (IntKind.i32.wrap (aj.at_ 0).N),.int .i32 (IntKind.i32.wrap (aj.at_ 1).N),.map none],true⟩] 4 [(7,.p 0 0),(9,.v (.bool (decide (v ≥ 0)))),(10,.p 1 0),(13,.v (.slice (some ⟨ab,0,none⟩) ((lst (T.at_ 1)).length) ag)),(14,.v (.int .i32 (((lst (T.at_ 1)).length:Nat):Int))),(15,.v (.int .i32 ((ac:Nat):Int))),(17,.p 3 0),(20,.v (.slice (some ⟨ae,0,none⟩) ((lst (aa.at_ 1)).length) ah)),(21,.v (.int .i32 (((lst (aa.at_ 1)).length:Nat):Int))),(22,.v (.int .i32 ((af:Nat):Int))),(24,.p 5 0)] bJ fun _ _ bK=>?_
       clear bJ
       refine qab ?_
       have bL:=bK.cast bt
       clear bK
       refine qgc (Mid:=fun a_ w_=>∃ (aM:Option Nat) (az:List (Int × Bs)) (P':qcM),(∀ w F,P' w F → ew w F ∧ (MapR w F aM az ∧ az.length ≤ 1000000 ∧ ∀ x ∈ az,x.2.length < 4294967296) ∧ ((decide (v ≥ 0)) = true → az = aj.U) ∧ ((decide (v ≥ 0)) = false → az = [])) ∧ RS w (fun b o=>b = bv ∧ o < 4) F 150 cR [⟨bv,0,[.int .i16 v,.string (bs (T.at_ 0).S),.slice none 0 0,.map none],true⟩,qby ab 18 (.agg #[.int .u8 0,.int .u8 0,.int .u8 0,.int .u8 0,.int .u8 0,.int .u8 0,.int .u8 0,.int .u8 0,.int .u8 0,.int .u8 0,.int .u8 0,.int .u8 0,.int .u8 0,.int .u8 0,.int .u8 0,.int .u8 0,.slice none 0 0,.map none]) ((lst (T.at_ 1)).length) (ac + 1),⟨ab,ac * 18,[qaf ((qah (aa.at_ 0).S).getD 0 0),qaf ((qah (aa.at_ 0).S).getD 1 0),qaf ((qah (aa.at_ 0).S).getD 2 0),qaf ((qah (aa.at_ 0).S).getD 3 0),qaf ((qah (aa.at_ 0).S).getD 4 0),qaf ((qah (aa.at_ 0).S).getD 5 0),qaf ((qah (aa.at_ 0).S).getD 6 0),qaf ((qah (aa.at_ 0).S).getD 7 0),qaf ((qah (aa.at_ 0).S).getD 8 0),qaf ((qah (aa.at_ 0).S).getD 9 0),qaf ((qah (aa.at_ 0).S).getD 10 0),qaf ((qah (aa.at_ 0).S).getD 11 0),qaf ((qah (aa.at_ 0).S).getD 12 0),qaf ((qah (aa.at_ 0).S).getD 13 0),qaf ((qah (aa.at_ 0).S).getD 14 0),qaf ((qah (aa.at_ 0).S).getD 15 0),.slice none 0 0,.map none],true⟩,qby ae 3 (.agg #[.int .i32 0,.int .i32 0,.map none]) ((lst (aa.at_ 1)).length) (af + 1),⟨ae,af * 3,[.int .i32 (IntKind.i32.wrap (aj.at_ 0).N),.int .i32 (IntKind.i32.wrap (aj.at_ 1).N),.map aM],true⟩] [(7,.p 0 0),(9,.v (.bool (decide (v ≥ 0)))),(10,.p 1 0),(13,.v (.slice (some ⟨ab,0,none⟩) ((lst (T.at_ 1)).length) ag)),(14,.v (.int .i32 (((lst (T.at_ 1)).length:Nat):Int))),(15,.v (.int .i32 ((ac:Nat):Int))),(17,.p 3 0),(20,.v (.slice (some ⟨ae,0,none⟩) ((lst (aa.at_ 1)).length) ah)),(21,.v (.int .i32 (((lst (aa.at_ 1)).length:Nat):Int))),(22,.v (.int .i32 ((af:Nat):Int)))] P' aJ a_ w_) ?_ ?_
       ·
        refine wp_seq ?_
        refine qcb [(7,.p 0 0),(9,.v (.bool (decide (v ≥ 0)))),(10,.p 1 0),(13,.v (.slice (some ⟨ab,0,none⟩) ((lst (T.at_ 1)).length) ag)),(14,.v (.int .i32 (((lst (T.at_ 1)).length:Nat):Int))),(15,.v (.int .i32 ((ac:Nat):Int))),(17,.p 3 0),(20,.v (.slice (some ⟨ae,0,none⟩) ((lst (aa.at_ 1)).length) ah)),(21,.v (.int .i32 (((lst (aa.at_ 1)).length:Nat):Int))),(22,.v (.int .i32 ((af:Nat):Int))),(24,.p 5 0),(124,.v (.bool (decide (v ≥ 0))))] bL fun _ ar=>qab ?_
        clear bL
        refine qaB ar.env_ (b:=decide (v ≥ 0)) kz (fun au=>?_) (fun au=>?_)
        ·
         have bM:=ar.cast (t:=((uv aj.U.length) ++ (qbu aj.U)) ++ aJ) (by rw [if_pos au])
         clear ar
         refine qau [0,1,2,3,4] kz ?_
         refine qdj [0] [1,2,3,4] [(7,.p 0 0),(9,.v (.bool (decide (v ≥ 0)))),(10,.p 1 0),(13,.v (.slice (some ⟨ab,0,none⟩) ((lst (T.at_ 1)).length) ag)),(14,.v (.int .i32 (((lst (T.at_ 1)).length:Nat):Int))),(15,.v (.int .i32 ((ac:Nat):Int))),(17,.p 3 0),(20,.v (.slice (some ⟨ae,0,none⟩) ((lst (aa.at_ 1)).length) ah)),(21,.v (.int .i32 (((lst (aa.at_ 1)).length:Nat):Int))),(22,.v (.int .i32 ((af:Nat):Int))),(125,.p 5 0)] bM fun _ bN=>?_
         clear bM
         refine qao (qho (d:=126) bN (qlg aj.U e140_U (qe1 e140r) _) (fun _=>MvF.tags _ _) Tryz.call130 fun cY eQ _ _ bO bP=>?_)
         clear bN
         refine qdj [2,3] [4] [(7,.p 0 0),(9,.v (.bool (decide (v ≥ 0)))),(10,.p 1 0),(13,.v (.slice (some ⟨ab,0,none⟩) ((lst (T.at_ 1)).length) ag)),(14,.v (.int .i32 (((lst (T.at_ 1)).length:Nat):Int))),(15,.v (.int .i32 ((ac:Nat):Int))),(17,.p 3 0),(20,.v (.slice (some ⟨ae,0,none⟩) ((lst (aa.at_ 1)).length) ah)),(21,.v (.int .i32 (((lst (aa.at_ 1)).length:Nat):Int))),(22,.v (.int .i32 ((af:Nat):Int))),(126,.v (.agg #[.map cY])),(128,.p 5 2)] bP fun _ bQ=>?_
         clear bP
         refine qao (qe2 [⟨bv,0,[.int .i16 v,.string (bs (T.at_ 0).S),.slice none 0 0,.map none],true⟩,qby ab 18 (.agg #[.int .u8 0,.int .u8 0,.int .u8 0,.int .u8 0,.int .u8 0,.int .u8 0,.int .u8 0,.int .u8 0,.int .u8 0,.int .u8 0,.int .u8 0,.int .u8 0,.int .u8 0,.int .u8 0,.int .u8 0,.int .u8 0,.slice none 0 0,.map none]) ((lst (T.at_ 1)).length) (ac + 1),⟨ab,ac * 18,[qaf ((qah (aa.at_ 0).S).getD 0 0),qaf ((qah (aa.at_ 0).S).getD 1 0),qaf ((qah (aa.at_ 0).S).getD 2 0),qaf ((qah (aa.at_ 0).S).getD 3 0),qaf ((qah (aa.at_ 0).S).getD 4 0),qaf ((qah (aa.at_ 0).S).getD 5 0),qaf ((qah (aa.at_ 0).S).getD 6 0),qaf ((qah (aa.at_ 0).S).getD 7 0),qaf ((qah (aa.at_ 0).S).getD 8 0),qaf ((qah (aa.at_ 0).S).getD 9 0),qaf ((qah (aa.at_ 0).S).getD 10 0),qaf ((qah (aa.at_ 0).S).getD 11 0),qaf ((qah (aa.at_ 0).S).getD 12 0),qaf ((qah (aa.at_ 0).S).getD 13 0),qaf ((qah (aa.at_ 0).S).getD 14 0),qaf ((qah (aa.at_ 0).S).getD 15 0),.slice none 0 0,.map none],true⟩,qby ae 3 (.agg #[.int .i32 0,.int .i32 0,.map none]) ((lst (aa.at_ 1)).length) (af + 1),⟨ae,af * 3,[.int .i32 (IntKind.i32.wrap (aj.at_ 0).N),.int .i32 (IntKind.i32.wrap (aj.at_ 1).N),.map cY],true⟩] 4 bQ fun _ bR=>?_)
         clear bQ
         refine qag ?_
         have d5:=bR.pk (env':=[(7,.p 0 0),(9,.v (.bool (decide (v ≥ 0)))),(10,.p 1 0),(13,.v (.slice (some ⟨ab,0,none⟩) ((lst (T.at_ 1)).length) ag)),(14,.v (.int .i32 (((lst (T.at_ 1)).length:Nat):Int))),(15,.v (.int .i32 ((ac:Nat):Int))),(17,.p 3 0),(20,.v (.slice (some ⟨ae,0,none⟩) ((lst (aa.at_ 1)).length) ah)),(21,.v (.int .i32 (((lst (aa.at_ 1)).length:Nat):Int))),(22,.v (.int .i32 ((af:Nat):Int)))])
         clear bR
         refine qab ?_
         exact ⟨cY,aj.U,_,fun w F h_=>⟨(bO _ _ h_).1,⟨(bO _ _ h_).2,e140_U.2.1,e140_U.2.2⟩,⟨fun _=>rfl,(fun e_=>by rw [au] at e_; cases e_)⟩⟩,d5.pk (env':=[(7,.p 0 0),(9,.v (.bool (decide (v ≥ 0)))),(10,.p 1 0),(13,.v (.slice (some ⟨ab,0,none⟩) ((lst (T.at_ 1)).length) ag)),(14,.v (.int .i32 (((lst (T.at_ 1)).length:Nat):Int))),(15,.v (.int .i32 ((ac:Nat):Int))),(17,.p 3 0),(20,.v (.slice (some ⟨ae,0,none⟩) ((lst (aa.at_ 1)).length) ah)),(21,.v (.int .i32 (((lst (aa.at_ 1)).length:Nat):Int))),(22,.v (.int .i32 ((af:Nat):Int)))])⟩
        have bS:=ar.cast (t:=[] ++ aJ) (by rw [if_neg (by rw [au]; decide)])
        clear ar
        have d6:=bS.cast (t:=aJ) rfl
        clear bS
        refine wp_skip (qab ?_)
        exact ⟨none,[],_,fun w F h_=>⟨h_,⟨MapR.nil _ _,Nat.zero_le _,fun _ h=>by cases h⟩,⟨(fun e_=>by rw [au] at e_; cases e_),fun _=>rfl⟩⟩,d6.pk (env':=[(7,.p 0 0),(9,.v (.bool (decide (v ≥ 0)))),(10,.p 1 0),(13,.v (.slice (some ⟨ab,0,none⟩) ((lst (T.at_ 1)).length) ag)),(14,.v (.int .i32 (((lst (T.at_ 1)).length:Nat):Int))),(15,.v (.int .i32 ((ac:Nat):Int))),(17,.p 3 0),(20,.v (.slice (some ⟨ae,0,none⟩) ((lst (aa.at_ 1)).length) ah)),(21,.v (.int .i32 (((lst (aa.at_ 1)).length:Nat):Int))),(22,.v (.int .i32 ((af:Nat):Int)))])⟩
       rintro _ _ ⟨aM,az,eR,am,bT⟩
       refine qaD ?_
       refine qab ?_
       refine qcb [(7,.p 0 0),(9,.v (.bool (decide (v ≥ 0)))),(10,.p 1 0),(13,.v (.slice (some ⟨ab,0,none⟩) ((lst (T.at_ 1)).length) ag)),(14,.v (.int .i32 (((lst (T.at_ 1)).length:Nat):Int))),(15,.v (.int .i32 ((ac:Nat):Int))),(17,.p 3 0),(20,.v (.slice (some ⟨ae,0,none⟩) ((lst (aa.at_ 1)).length) ah)),(21,.v (.int .i32 (((lst (aa.at_ 1)).length:Nat):Int))),(22,.v (.int .i32 (IntKind.i32.wrap (((af:Nat):Int) + 1))))] bT fun _ bU=>?_
       clear bT
       refine qab ?_
       have d7:=(bU.envEq (env':=[(7,.p 0 0),(9,.v (.bool (decide (v ≥ 0)))),(10,.p 1 0),(13,.v (.slice (some ⟨ab,0,none⟩) ((lst (T.at_ 1)).length) ag)),(14,.v (.int .i32 (((lst (T.at_ 1)).length:Nat):Int))),(15,.v (.int .i32 ((ac:Nat):Int))),(17,.p 3 0),(20,.v (.slice (some ⟨ae,0,none⟩) ((lst (aa.at_ 1)).length) ah)),(21,.v (.int .i32 (((lst (aa.at_ 1)).length:Nat):Int))),(22,.v (.int .i32 ((af + 1:Nat):Int)))]) (by rw [qhV (by have:=e80_1; omega)])).pk (env':=[(7,.p 0 0),(9,.v (.bool (decide (v ≥ 0)))),(10,.p 1 0),(13,.v (.slice (some ⟨ab,0,none⟩) ((lst (T.at_ 1)).length) ag)),(14,.v (.int .i32 (((lst (T.at_ 1)).length:Nat):Int))),(15,.v (.int .i32 ((ac:Nat):Int))),(17,.p 3 0),(20,.v (.slice (some ⟨ae,0,none⟩) ((lst (aa.at_ 1)).length) ah)),(21,.v (.int .i32 (((lst (aa.at_ 1)).length:Nat):Int))),(22,.v (.int .i32 ((af + 1:Nat):Int)))])
       clear bU
       exact (RS.thing (tb:=[⟨bv,0,[.int .i16 v,.string (bs (T.at_ 0).S),.slice none 0 0,.map none],true⟩,qby ab 18 (.agg #[.int .u8 0,.int .u8 0,.int .u8 0,.int .u8 0,.int .u8 0,.int .u8 0,.int .u8 0,.int .u8 0,.int .u8 0,.int .u8 0,.int .u8 0,.int .u8 0,.int .u8 0,.int .u8 0,.int .u8 0,.int .u8 0,.slice none 0 0,.map none]) ((lst (T.at_ 1)).length) (ac + 1),⟨ab,ac * 18,[qaf ((qah (aa.at_ 0).S).getD 0 0),qaf ((qah (aa.at_ 0).S).getD 1 0),qaf ((qah (aa.at_ 0).S).getD 2 0),qaf ((qah (aa.at_ 0).S).getD 3 0),qaf ((qah (aa.at_ 0).S).getD 4 0),qaf ((qah (aa.at_ 0).S).getD 5 0),qaf ((qah (aa.at_ 0).S).getD 6 0),qaf ((qah (aa.at_ 0).S).getD 7 0),qaf ((qah (aa.at_ 0).S).getD 8 0),qaf ((qah (aa.at_ 0).S).getD 9 0),qaf ((qah (aa.at_ 0).S).getD 10 0),qaf ((qah (aa.at_ 0).S).getD 11 0),qaf ((qah (aa.at_ 0).S).getD 12 0),qaf ((qah (aa.at_ 0).S).getD 13 0),qaf ((qah (aa.at_ 0).S).getD 14 0),qaf ((qah (aa.at_ 0).S).getD 15 0),.slice none 0 0,.map none],true⟩]) (z:=.agg #[.int .i32 0,.int .i32 0,.map none]) (D:=(dvP aM az [dvN (IntKind.i32.wrap (aj.at_ 0).N),dvN (IntKind.i32.wrap (aj.at_ 1).N)])) (d7.cast bq) hg_g121 aI qa1 aH rfl (fun w F h_=>⟨(bo _ _ (am _ _ h_).1).1,(bo _ _ (am _ _ h_).1).2,⟨(trivial),(trivial),(am _ _ h_).2.1.1,(am _ _ h_).2.1.2.1,(am _ _ h_).2.1.2.2,trivial⟩,⟨(rfl),(rfl),(am _ _ h_).2.2,trivial⟩⟩) kz)
      refine wp_seq ?_
      refine wp_seq ?_
      refine qcb [(7,.p 0 0),(9,.v (.bool (decide (v ≥ 0)))),(10,.p 1 0),(13,.v (.slice (some ⟨ab,0,none⟩) ((lst (T.at_ 1)).length) ag)),(14,.v (.int .i32 (((lst (T.at_ 1)).length:Nat):Int))),(15,.v (.int .i32 ((ac:Nat):Int))),(17,.p 3 0),(20,.v (.slice (some ⟨ae,0,none⟩) ((lst (aa.at_ 1)).length) ah)),(21,.v (.int .i32 (((lst (aa.at_ 1)).length:Nat):Int))),(22,.v (.int .i32 (((lst (aa.at_ 1)).length:Nat):Int))),(105,.v (.bool (decide ((((lst (aa.at_ 1)).length:Nat):Int) < (((lst (aa.at_ 1)).length:Nat):Int)))))] bn fun _ bV=>qab ?_
      clear bn
      refine qav bV.env_ (b:=decide ((((lst (aa.at_ 1)).length:Nat):Int) < (((lst (aa.at_ 1)).length:Nat):Int))) kz (decide_eq_false (by omega)) ?_
      refine wp_exit ?_
      refine qaz ?_
      refine qaz ?_
      refine qaQ ?_
      refine qab ?_
      obtain ⟨eC,d8⟩:=RS.listEnd (tb:=[⟨bv,0,[.int .i16 v,.string (bs (T.at_ 0).S),.slice none 0 0,.map none],true⟩,qby ab 18 (.agg #[.int .u8 0,.int .u8 0,.int .u8 0,.int .u8 0,.int .u8 0,.int .u8 0,.int .u8 0,.int .u8 0,.int .u8 0,.int .u8 0,.int .u8 0,.int .u8 0,.int .u8 0,.int .u8 0,.int .u8 0,.int .u8 0,.slice none 0 0,.map none]) ((lst (T.at_ 1)).length) (ac + 1),⟨ab,ac * 18,[qaf ((qah (aa.at_ 0).S).getD 0 0),qaf ((qah (aa.at_ 0).S).getD 1 0),qaf ((qah (aa.at_ 0).S).getD 2 0),qaf ((qah (aa.at_ 0).S).getD 3 0),qaf ((qah (aa.at_ 0).S).getD 4 0),qaf ((qah (aa.at_ 0).S).getD 5 0),qaf ((qah (aa.at_ 0).S).getD 6 0),qaf ((qah (aa.at_ 0).S).getD 7 0),qaf ((qah (aa.at_ 0).S).getD 8 0),qaf ((qah (aa.at_ 0).S).getD 9 0),qaf ((qah (aa.at_ 0).S).getD 10 0),qaf ((qah (aa.at_ 0).S).getD 11 0),qaf ((qah (aa.at_ 0).S).getD 12 0),qaf ((qah (aa.at_ 0).S).getD 13 0),qaf ((qah (aa.at_ 0).S).getD 14 0),qaf ((qah (aa.at_ 0).S).getD 15 0),.slice none 0 0,.map none],true⟩]) (c:=ah) (bV.pk (env':=[(7,.p 0 0),(9,.v (.bool (decide (v ≥ 0)))),(10,.p 1 0),(13,.v (.slice (some ⟨ab,0,none⟩) ((lst (T.at_ 1)).length) ag)),(14,.v (.int .i32 (((lst (T.at_ 1)).length:Nat):Int))),(15,.v (.int .i32 ((ac:Nat):Int))),(17,.p 3 0),(20,.v (.slice (some ⟨ae,0,none⟩) ((lst (aa.at_ 1)).length) ah))])) hg_g121 qa1 aH hcap_g121 (by have:=e80_1; omega) hn_g121 kz
      exact ⟨dvL (some ⟨ae,0,none⟩) (lst (aa.at_ 1)).length ah eC,_,fun w F h_=>⟨h_.1,⟨h_.2.1,Nat.le_trans e80_1 (by decide),h_.2.2.1⟩,⟨rfl,h_.2.2.2⟩⟩,d8⟩
     refine wp_skip ?_
     refine qab ?_
     refine wp_seq ?_
     refine qcb [(7,.p 0 0),(9,.v (.bool (decide (v ≥ 0)))),(10,.p 1 0),(13,.v (.slice (some ⟨ab,0,none⟩) ((lst (T.at_ 1)).length) ag)),(14,.v (.int .i32 (((lst (T.at_ 1)).length:Nat):Int))),(15,.v (.int .i32 ((ac:Nat):Int))),(17,.p 3 0),(20,.v (.slice none 0 0)),(21,.v (.int .i32 (((lst (aa.at_ 1)).length:Nat):Int))),(22,.v (.int .i32 0))] ap fun _ bW=>?_
     clear ap
     refine qab ?_
     refine wp_block ?_
     refine qhT ?_
     refine wp_seq ?_
     refine wp_seq ?_
     refine qcb [(7,.p 0 0),(9,.v (.bool (decide (v ≥ 0)))),(10,.p 1 0),(13,.v (.slice (some ⟨ab,0,none⟩) ((lst (T.at_ 1)).length) ag)),(14,.v (.int .i32 (((lst (T.at_ 1)).length:Nat):Int))),(15,.v (.int .i32 ((ac:Nat):Int))),(17,.p 3 0),(20,.v (.slice none 0 0)),(21,.v (.int .i32 (((lst (aa.at_ 1)).length:Nat):Int))),(22,.v (.int .i32 0)),(105,.v (.bool (decide (0 < (((lst (aa.at_ 1)).length:Nat):Int)))))] bW fun _ bX=>qab ?_
     clear bW
     refine qav bX.env_ (b:=decide (0 < (((lst (aa.at_ 1)).length:Nat):Int))) kz (decide_eq_false (by have h_:=of_decide_eq_false aC; omega)) ?_
     refine wp_exit ?_
     refine qaz ?_
     refine qaz ?_
     refine qaQ ?_
     refine qab ?_
     have hz_:(lst (aa.at_ 1)).length = 0:=by have h_:=of_decide_eq_false aC; omega
     exact ⟨dvL none 0 0 (fun _=>dv0),_,fun w F h_=>⟨h_,⟨Slots.nil _ _ _ _,Nat.zero_le _,fun _ h=>absurd h (Nat.not_lt_zero _)⟩,⟨hz_.symm,fun _ h=>absurd h (Nat.not_lt_zero _)⟩⟩,(bX.cast (t:=aR) (by rw [List.eq_nil_of_length_eq_zero hz_]; rfl)).pk (env':=[(7,.p 0 0),(9,.v (.bool (decide (v ≥ 0)))),(10,.p 1 0),(13,.v (.slice (some ⟨ab,0,none⟩) ((lst (T.at_ 1)).length) ag)),(14,.v (.int .i32 (((lst (T.at_ 1)).length:Nat):Int))),(15,.v (.int .i32 ((ac:Nat):Int))),(17,.p 3 0),(20,.v (.slice none 0 0))])⟩
    rintro _ _ ⟨ai,eD,aD,bY⟩
    refine wp_seq ?_
    refine qcb [(7,.p 0 0),(9,.v (.bool (decide (v ≥ 0)))),(10,.p 1 0),(13,.v (.slice (some ⟨ab,0,none⟩) ((lst (T.at_ 1)).length) ag)),(14,.v (.int .i32 (((lst (T.at_ 1)).length:Nat):Int))),(15,.v (.int .i32 ((ac:Nat):Int))),(17,.p 3 0),(19,.v (.slice ai.A ai.l ai.c))] bY fun _ bZ=>?_
    clear bY
    refine qab ?_
    refine qfH [⟨bv,0,[.int .i16 v,.string (bs (T.at_ 0).S),.slice none 0 0,.map none],true⟩,qby ab 18 (.agg #[.int .u8 0,.int .u8 0,.int .u8 0,.int .u8 0,.int .u8 0,.int .u8 0,.int .u8 0,.int .u8 0,.int .u8 0,.int .u8 0,.int .u8 0,.int .u8 0,.int .u8 0,.int .u8 0,.int .u8 0,.int .u8 0,.slice none 0 0,.map none]) ((lst (T.at_ 1)).length) (ac + 1),⟨ab,ac * 18,[qaf ((qah (aa.at_ 0).S).getD 0 0),qaf ((qah (aa.at_ 0).S).getD 1 0),qaf ((qah (aa.at_ 0).S).getD 2 0),qaf ((qah (aa.at_ 0).S).getD 3 0),qaf ((qah (aa.at_ 0).S).getD 4 0),qaf ((qah (aa.at_ 0).S).getD 5 0),qaf ((qah (aa.at_ 0).S).getD 6 0),qaf ((qah (aa.at_ 0).S).getD 7 0),qaf ((qah (aa.at_ 0).S).getD 8 0),qaf ((qah (aa.at_ 0).S).getD 9 0),qaf ((qah (aa.at_ 0).S).getD 10 0),qaf ((qah (aa.at_ 0).S).getD 11 0),qaf ((qah (aa.at_ 0).S).getD 12 0),qaf ((qah (aa.at_ 0).S).getD 13 0),qaf ((qah (aa.at_ 0).S).getD 14 0),qaf ((qah (aa.at_ 0).S).getD 15 0),.slice ai.A ai.l ai.c,.map none],true⟩] 2 [(7,.p 0 0),(9,.v (.bool (decide (v ≥ 0)))),(10,.p 1 0),(13,.v (.slice (some ⟨ab,0,none⟩) ((lst (T.at_ 1)).length) ag)),(14,.v (.int .i32 (((lst (T.at_ 1)).length:Nat):Int))),(15,.v (.int .i32 ((ac:Nat):Int))),(17,.p 3 0)] bZ fun _ _ b8=>?_
    clear bZ
    refine qab ?_
    have cd:=b8.cast dK
    clear b8
    refine qgc (Mid:=fun a_ w_=>∃ (aN:Option Nat) (aA:List (Int × Bs)) (P':qcM),(∀ w F,P' w F → eD w F ∧ (MapR w F aN aA ∧ aA.length ≤ 1000000 ∧ ∀ x ∈ aA,x.2.length < 4294967296) ∧ ((decide (v ≥ 0)) = true → aA = aa.U) ∧ ((decide (v ≥ 0)) = false → aA = [])) ∧ RS w (fun b o=>b = bv ∧ o < 4) F 150 cR [⟨bv,0,[.int .i16 v,.string (bs (T.at_ 0).S),.slice none 0 0,.map none],true⟩,qby ab 18 (.agg #[.int .u8 0,.int .u8 0,.int .u8 0,.int .u8 0,.int .u8 0,.int .u8 0,.int .u8 0,.int .u8 0,.int .u8 0,.int .u8 0,.int .u8 0,.int .u8 0,.int .u8 0,.int .u8 0,.int .u8 0,.int .u8 0,.slice none 0 0,.map none]) ((lst (T.at_ 1)).length) (ac + 1),⟨ab,ac * 18,[qaf ((qah (aa.at_ 0).S).getD 0 0),qaf ((qah (aa.at_ 0).S).getD 1 0),qaf ((qah (aa.at_ 0).S).getD 2 0),qaf ((qah (aa.at_ 0).S).getD 3 0),qaf ((qah (aa.at_ 0).S).getD 4 0),qaf ((qah (aa.at_ 0).S).getD 5 0),qaf ((qah (aa.at_ 0).S).getD 6 0),qaf ((qah (aa.at_ 0).S).getD 7 0),qaf ((qah (aa.at_ 0).S).getD 8 0),qaf ((qah (aa.at_ 0).S).getD 9 0),qaf ((qah (aa.at_ 0).S).getD 10 0),qaf ((qah (aa.at_ 0).S).getD 11 0),qaf ((qah (aa.at_ 0).S).getD 12 0),qaf ((qah (aa.at_ 0).S).getD 13 0),qaf ((qah (aa.at_ 0).S).getD 14 0),qaf ((qah (aa.at_ 0).S).getD 15 0),.slice ai.A ai.l ai.c,.map aN],true⟩] [(7,.p 0 0),(9,.v (.bool (decide (v ≥ 0)))),(10,.p 1 0),(13,.v (.slice (some ⟨ab,0,none⟩) ((lst (T.at_ 1)).length) ag)),(14,.v (.int .i32 (((lst (T.at_ 1)).length:Nat):Int))),(15,.v (.int .i32 ((ac:Nat):Int)))] P' dI a_ w_) ?_ ?_
    ·
     refine wp_seq ?_
     refine qcb [(7,.p 0 0),(9,.v (.bool (decide (v ≥ 0)))),(10,.p 1 0),(13,.v (.slice (some ⟨ab,0,none⟩) ((lst (T.at_ 1)).length) ag)),(14,.v (.int .i32 (((lst (T.at_ 1)).length:Nat):Int))),(15,.v (.int .i32 ((ac:Nat):Int))),(17,.p 3 0),(134,.v (.bool (decide (v ≥ 0))))] cd fun _ av=>qab ?_
     clear cd
     refine qaB av.env_ (b:=decide (v ≥ 0)) kz (fun aw=>?_) (fun aw=>?_)
     ·
      have ce:=av.cast (t:=((uv aa.U.length) ++ (qbu aa.U)) ++ dI) (by rw [if_pos aw])
      clear av
      refine qau [0,1,2,3,4] kz ?_
      refine qdj [0] [1,2,3,4] [(7,.p 0 0),(9,.v (.bool (decide (v ≥ 0)))),(10,.p 1 0),(13,.v (.slice (some ⟨ab,0,none⟩) ((lst (T.at_ 1)).length) ag)),(14,.v (.int .i32 (((lst (T.at_ 1)).length:Nat):Int))),(15,.v (.int .i32 ((ac:Nat):Int))),(135,.p 3 0)] ce fun _ cg=>?_
      clear ce
      refine qao (qho (d:=136) cg (qlg aa.U e80_U (qe1 e80r) _) (fun _=>MvF.tags _ _) Tryz.call130 fun cZ eS _ _ cm cq=>?_)
      clear cg
      refine qdj [2,3] [4] [(7,.p 0 0),(9,.v (.bool (decide (v ≥ 0)))),(10,.p 1 0),(13,.v (.slice (some ⟨ab,0,none⟩) ((lst (T.at_ 1)).length) ag)),(14,.v (.int .i32 (((lst (T.at_ 1)).length:Nat):Int))),(15,.v (.int .i32 ((ac:Nat):Int))),(136,.v (.agg #[.map cZ])),(138,.p 3 17)] cq fun _ cr=>?_
      clear cq
      refine qao (qe2 [⟨bv,0,[.int .i16 v,.string (bs (T.at_ 0).S),.slice none 0 0,.map none],true⟩,qby ab 18 (.agg #[.int .u8 0,.int .u8 0,.int .u8 0,.int .u8 0,.int .u8 0,.int .u8 0,.int .u8 0,.int .u8 0,.int .u8 0,.int .u8 0,.int .u8 0,.int .u8 0,.int .u8 0,.int .u8 0,.int .u8 0,.int .u8 0,.slice none 0 0,.map none]) ((lst (T.at_ 1)).length) (ac + 1),⟨ab,ac * 18,[qaf ((qah (aa.at_ 0).S).getD 0 0),qaf ((qah (aa.at_ 0).S).getD 1 0),qaf ((qah (aa.at_ 0).S).getD 2 0),qaf ((qah (aa.at_ 0).S).getD 3 0),qaf ((qah (aa.at_ 0).S).getD 4 0),qaf ((qah (aa.at_ 0).S).getD 5 0),qaf ((qah (aa.at_ 0).S).getD 6 0),qaf ((qah (aa.at_ 0).S).getD 7 0),qaf ((qah (aa.at_ 0).S).getD 8 0),qaf ((qah (aa.at_ 0).S).getD 9 0),qaf ((qah (aa.at_ 0).S).getD 10 0),qaf ((qah (aa.at_ 0).S).getD 11 0),qaf ((qah (aa.at_ 0).S).getD 12 0),qaf ((qah (aa.at_ 0).S).getD 13 0),qaf ((qah (aa.at_ 0).S).getD 14 0),qaf ((qah (aa.at_ 0).S).getD 15 0),.slice ai.A ai.l ai.c,.map cZ],true⟩] 2 cr fun _ cu=>?_)
      clear cr
      refine qag ?_
      have d9:=cu.pk (env':=[(7,.p 0 0),(9,.v (.bool (decide (v ≥ 0)))),(10,.p 1 0),(13,.v (.slice (some ⟨ab,0,none⟩) ((lst (T.at_ 1)).length) ag)),(14,.v (.int .i32 (((lst (T.at_ 1)).length:Nat):Int))),(15,.v (.int .i32 ((ac:Nat):Int)))])
      clear cu
      refine qab ?_
      exact ⟨cZ,aa.U,_,fun w F h_=>⟨(cm _ _ h_).1,⟨(cm _ _ h_).2,e80_U.2.1,e80_U.2.2⟩,⟨fun _=>rfl,(fun e_=>by rw [aw] at e_; cases e_)⟩⟩,d9.pk (env':=[(7,.p 0 0),(9,.v (.bool (decide (v ≥ 0)))),(10,.p 1 0),(13,.v (.slice (some ⟨ab,0,none⟩) ((lst (T.at_ 1)).length) ag)),(14,.v (.int .i32 (((lst (T.at_ 1)).length:Nat):Int))),(15,.v (.int .i32 ((ac:Nat):Int)))])⟩
     have cv:=av.cast (t:=[] ++ dI) (by rw [if_neg (by rw [aw]; decide)])
     clear av
     have ea:=cv.cast (t:=dI) rfl
     clear cv
     refine wp_skip (qab ?_)
     exact ⟨none,[],_,fun w F h_=>⟨h_,⟨MapR.nil _ _,Nat.zero_le _,fun _ h=>by cases h⟩,⟨(fun e_=>by rw [aw] at e_; cases e_),fun _=>rfl⟩⟩,ea.pk (env':=[(7,.p 0 0),(9,.v (.bool (decide (v ≥ 0)))),(10,.p 1 0),(13,.v (.slice (some ⟨ab,0,none⟩) ((lst (T.at_ 1)).length) ag)),(14,.v (.int .i32 (((lst (T.at_ 1)).length:Nat):Int))),(15,.v (.int .i32 ((ac:Nat):Int)))])⟩
    rintro _ _ ⟨aN,aA,eT,al,cw⟩
    refine qaD ?_
    refine qab ?_
    refine qcb [(7,.p 0 0),(9,.v (.bool (decide (v ≥ 0)))),(10,.p 1 0),(13,.v (.slice (some ⟨ab,0,none⟩) ((lst (T.at_ 1)).length) ag)),(14,.v (.int .i32 (((lst (T.at_ 1)).length:Nat):Int))),(15,.v (.int .i32 (IntKind.i32.wrap (((ac:Nat):Int) + 1))))] cw fun _ cz=>?_
    clear cw
    refine qab ?_
    have eb:=(cz.envEq (env':=[(7,.p 0 0),(9,.v (.bool (decide (v ≥ 0)))),(10,.p 1 0),(13,.v (.slice (some ⟨ab,0,none⟩) ((lst (T.at_ 1)).length) ag)),(14,.v (.int .i32 (((lst (T.at_ 1)).length:Nat):Int))),(15,.v (.int .i32 ((ac + 1:Nat):Int)))]) (by rw [qhV (by have:=e26_1; omega)])).pk (env':=[(7,.p 0 0),(9,.v (.bool (decide (v ≥ 0)))),(10,.p 1 0),(13,.v (.slice (some ⟨ab,0,none⟩) ((lst (T.at_ 1)).length) ag)),(14,.v (.int .i32 (((lst (T.at_ 1)).length:Nat):Int))),(15,.v (.int .i32 ((ac + 1:Nat):Int)))])
    clear cz
    exact (RS.thing (tb:=[⟨bv,0,[.int .i16 v,.string (bs (T.at_ 0).S),.slice none 0 0,.map none],true⟩]) (z:=.agg #[.int .u8 0,.int .u8 0,.int .u8 0,.int .u8 0,.int .u8 0,.int .u8 0,.int .u8 0,.int .u8 0,.int .u8 0,.int .u8 0,.int .u8 0,.int .u8 0,.int .u8 0,.int .u8 0,.int .u8 0,.int .u8 0,.slice none 0 0,.map none]) (D:=(dvP aN aA [dvO none (qah (aa.at_ 0).S) 0,ai])) (eb.cast dJ) hg_g61 cW qbe aQ rfl (fun w F h_=>⟨(dG _ _ (aD _ _ (al _ _ h_).1).1).1,(dG _ _ (aD _ _ (al _ _ h_).1).1).2,⟨(qdC _),((aD _ _ (al _ _ h_).1).2.1),(al _ _ h_).2.1.1,(al _ _ h_).2.1.2.1,(al _ _ h_).2.1.2.2,trivial⟩,⟨(rfl),((aD _ _ (al _ _ h_).1).2.2),(al _ _ h_).2.2,trivial⟩⟩) kz)
   refine wp_seq ?_
   refine wp_seq ?_
   refine qcb [(7,.p 0 0),(9,.v (.bool (decide (v ≥ 0)))),(10,.p 1 0),(13,.v (.slice (some ⟨ab,0,none⟩) ((lst (T.at_ 1)).length) ag)),(14,.v (.int .i32 (((lst (T.at_ 1)).length:Nat):Int))),(15,.v (.int .i32 (((lst (T.at_ 1)).length:Nat):Int))),(71,.v (.bool (decide ((((lst (T.at_ 1)).length:Nat):Int) < (((lst (T.at_ 1)).length:Nat):Int)))))] dF fun _ cA=>qab ?_
   clear dF
   refine qav cA.env_ (b:=decide ((((lst (T.at_ 1)).length:Nat):Int) < (((lst (T.at_ 1)).length:Nat):Int))) kz (decide_eq_false (by omega)) ?_
   refine wp_exit ?_
   refine qaz ?_
   refine qaz ?_
   refine qaQ ?_
   refine qab ?_
   obtain ⟨eE,ec⟩:=RS.listEnd (tb:=[⟨bv,0,[.int .i16 v,.string (bs (T.at_ 0).S),.slice none 0 0,.map none],true⟩]) (c:=ag) (cA.pk (env':=[(7,.p 0 0),(9,.v (.bool (decide (v ≥ 0)))),(10,.p 1 0),(13,.v (.slice (some ⟨ab,0,none⟩) ((lst (T.at_ 1)).length) ag))])) hg_g61 qbe aQ hcap_g61 (by have:=e26_1; omega) hn_g61 kz
   exact ⟨dvL (some ⟨ab,0,none⟩) (lst (T.at_ 1)).length ag eE,_,fun w F h_=>⟨h_.1,⟨h_.2.1,Nat.le_trans e26_1 (by decide),h_.2.2.1⟩,⟨rfl,h_.2.2.2⟩⟩,ec⟩
  refine wp_skip ?_
  refine qab ?_
  refine wp_seq ?_
  refine qcb [(7,.p 0 0),(9,.v (.bool (decide (v ≥ 0)))),(10,.p 1 0),(13,.v (.slice none 0 0)),(14,.v (.int .i32 (((lst (T.at_ 1)).length:Nat):Int))),(15,.v (.int .i32 0))] aE fun _ cB=>?_
  clear aE
  refine qab ?_
  refine wp_block ?_
  refine qhT ?_
  refine wp_seq ?_
  refine wp_seq ?_
  refine qcb [(7,.p 0 0),(9,.v (.bool (decide (v ≥ 0)))),(10,.p 1 0),(13,.v (.slice none 0 0)),(14,.v (.int .i32 (((lst (T.at_ 1)).length:Nat):Int))),(15,.v (.int .i32 0)),(71,.v (.bool (decide (0 < (((lst (T.at_ 1)).length:Nat):Int)))))] cB fun _ cC=>qab ?_
  clear cB
  refine qav cC.env_ (b:=decide (0 < (((lst (T.at_ 1)).length:Nat):Int))) kz (decide_eq_false (by have h_:=of_decide_eq_false aL; omega)) ?_
  refine wp_exit ?_
  refine qaz ?_
  refine qaz ?_
  refine qaQ ?_
  refine qab ?_
  have hz_:(lst (T.at_ 1)).length = 0:=by have h_:=of_decide_eq_false aL; omega
  exact ⟨dvL none 0 0 (fun _=>dv0),_,fun w F h_=>⟨h_,⟨Slots.nil _ _ _ _,Nat.zero_le _,fun _ h=>absurd h (Nat.not_lt_zero _)⟩,⟨hz_.symm,fun _ h=>absurd h (Nat.not_lt_zero _)⟩⟩,(cC.cast (t:=aP) (by rw [List.eq_nil_of_length_eq_zero hz_]; rfl)).pk (env':=[(7,.p 0 0),(9,.v (.bool (decide (v ≥ 0)))),(10,.p 1 0),(13,.v (.slice none 0 0))])⟩
 rintro _ _ ⟨ak,eU,ee,ef⟩
 refine wp_seq ?_
 refine qcb [(7,.p 0 0),(9,.v (.bool (decide (v ≥ 0)))),(10,.p 1 0),(12,.v (.slice ak.A ak.l ak.c))] ef fun _ cD=>?_
 clear ef
 refine qab ?_
 refine qfH [⟨bv,0,[.int .i16 v,.string (bs (T.at_ 0).S),.slice ak.A ak.l ak.c,.map none],true⟩] 0 [(7,.p 0 0),(9,.v (.bool (decide (v ≥ 0)))),(10,.p 1 0)] cD fun _ _ cE=>?_
 clear cD
 refine qab ?_
 refine wp_seq ?_
 have cG:=cE.cast db
 clear cE
 refine qgc (Mid:=fun a_ w_=>∃ (aO:Option Nat) (aB:List (Int × Bs)) (P':qcM),(∀ w F,P' w F → eU w F ∧ (MapR w F aO aB ∧ aB.length ≤ 1000000 ∧ ∀ x ∈ aB,x.2.length < 4294967296) ∧ ((decide (v ≥ 0)) = true → aB = T.U) ∧ ((decide (v ≥ 0)) = false → aB = [])) ∧ RS w (fun b o=>b = bv ∧ o < 4) F 150 cR [⟨bv,0,[.int .i16 v,.string (bs (T.at_ 0).S),.slice ak.A ak.l ak.c,.map aO],true⟩] [(7,.p 0 0)] P' ([]:Bs) a_ w_) ?_ ?_
 ·
  refine wp_seq ?_
  refine qcb [(7,.p 0 0),(10,.p 1 0),(144,.v (.bool (decide (v ≥ 0))))] cG fun _ ax=>qab ?_
  clear cG
  refine qaB ax.env_ (b:=decide (v ≥ 0)) kz (fun ay=>?_) (fun ay=>?_)
  ·
   have cH:=ax.cast (t:=((uv T.U.length) ++ (qbu T.U)) ++ ([]:Bs)) (by rw [if_pos ay])
   clear ax
   refine qau [0,1,2,3,4] kz ?_
   refine qdj [0] [1,2,3,4] [(7,.p 0 0),(145,.p 1 0)] cH fun _ cI=>?_
   clear cH
   refine qao (qho (d:=146) cI (qlg T.U e26_U (qe1 e26r) _) (fun _=>MvF.tags _ _) Tryz.call130 fun c5 eV _ _ cJ cK=>?_)
   clear cI
   refine qdj [2,3] [4] [(7,.p 0 0),(146,.v (.agg #[.map c5])),(148,.p 1 3)] cK fun _ cL=>?_
   clear cK
   refine qao (qe2 [⟨bv,0,[.int .i16 v,.string (bs (T.at_ 0).S),.slice ak.A ak.l ak.c,.map c5],true⟩] 0 cL fun _ cM=>?_)
   clear cL
   refine qag ?_
   have eg:=cM.pk (env':=[(7,.p 0 0)])
   clear cM
   refine qab ?_
   exact ⟨c5,T.U,_,fun w F h_=>⟨(cJ _ _ h_).1,⟨(cJ _ _ h_).2,e26_U.2.1,e26_U.2.2⟩,⟨fun _=>rfl,(fun e_=>by rw [ay] at e_; cases e_)⟩⟩,eg.pk (env':=[(7,.p 0 0)])⟩
  have cN:=ax.cast (t:=[] ++ ([]:Bs)) (by rw [if_neg (by rw [ay]; decide)])
  clear ax
  have eh:=cN.cast (t:=([]:Bs)) rfl
  clear cN
  refine wp_skip (qab ?_)
  exact ⟨none,[],_,fun w F h_=>⟨h_,⟨MapR.nil _ _,Nat.zero_le _,fun _ h=>by cases h⟩,⟨(fun e_=>by rw [ay] at e_; cases e_),fun _=>rfl⟩⟩,eh.pk (env':=[(7,.p 0 0)])⟩
 rintro _ _ ⟨aO,aB,eW,ao,cO⟩
 refine qab ?_
 refine wp_seq ?_
 refine qau [0,1] kz (qao (qhp (d:=149) cO qjF Tryz.call126 fun _ cP=>?_))
 clear cO
 refine qdj [1] [] [(6,.v (.nilIface))] cP fun _ cQ=>qag ?_
 clear cP
 refine qab ?_
 refine wp_ret ?_
 obtain ⟨A_,m_,c_,hW_,hr_,hE_,hP_⟩:=cQ.open_
 refine qaG hE_ hW_.cells (v:=.nilIface) kz ?_
 have h_:=cQ.mv.mono qfb hP_
 refine ⟨(dvP aO aB [dvS (bs (T.at_ 0).S),ak]),rfl,Str.of hW_ 1 rfl,?_,?_,hW_.step⟩
 ·unfold qa4
  exact ⟨(by show ByteArray.size (bs _) ≤ 1000000; rw [qjo]; exact Nat.le_trans e26_0 (by decide)),((ee _ _ (ao _ _ h_).1).2.1),(ao _ _ h_).2.1.1,(ao _ _ h_).2.1.2.1,(ao _ _ h_).2.1.2.2,trivial⟩
 unfold qbm
 exact ⟨(rfl),((ee _ _ (ao _ _ h_).1).2.2),(ao _ _ h_).2.2,trivial⟩
theorem qaM:qgL qa4:=by
 intro w w' F F' M d hs hM hF h
 unfold qa4 at h ⊢
 obtain ⟨g0,⟨g1,g1l,g1e⟩,t1,t2,t3,_⟩:=h
 exact ⟨g0,⟨g1.move hs hM hF,g1l,fun i hi=>qbe _ hs hM hF (g1e i hi)⟩,t1.move hs hM hF,t2,t3,trivial⟩
theorem qb2 (v:Int) (D:DV) (T:Tree) (h:qaI v D T):(be 4 ((D.f 0).n)) ++ ((be 4 ((D.f 1).n)) ++ (if (decide (v ≥ 0)) = true then (uv D.u.length) ++ (qbu D.u) else [])) = qas v T:=by
 unfold qaI at h
 obtain ⟨r0_,r1_,rU_,_⟩:=h
 unfold qas
 exact qgd (by rw [r0_]) (qgd (by rw [r1_]) ((if_c (fun hc_=>by rw [(rU_.1 hc_)]))))
theorem qcv (v:Int) (D:DV) (T:Tree) (h:qaW v D T):((D.f 0).o) ++ (((if (decide (v ≥ 0)) = true then (uv ((D.f 1).l + 1)) else (be 4 (D.f 1).l)) ++ ((List.range (D.f 1).l).flatMap fun aa=>(be 4 ((((D.f 1).f aa).f 0).n)) ++ ((be 4 ((((D.f 1).f aa).f 1).n)) ++ (if (decide (v ≥ 0)) = true then (uv ((D.f 1).f aa).u.length) ++ (qbu ((D.f 1).f aa).u) else [])))) ++ (if (decide (v ≥ 0)) = true then (uv D.u.length) ++ (qbu D.u) else [])) = qaw v T:=by
 unfold qaW at h
 obtain ⟨r0_,r1_,rU_,_⟩:=h
 unfold qaw
 exact qgd (by rw [r0_]) (qgd (qgd (by simp only [r1_.1]) (qhO r1_.1 (fun i hi=>qb2 v _ _ (r1_.2 i hi)))) ((if_c (fun hc_=>by rw [(rU_.1 hc_)]))))
theorem qcO (v:Int) (D:DV) (T:Tree) (h:qbm v D T):qaa v D = qai v T:=by
 unfold qbm at h
 obtain ⟨r0_,r1_,rU_,_⟩:=h
 rw [qb4]
 unfold qaa qbB
 exact qgd (by simp only [r0_,ql4,qjo]) (qgd (qgd (by simp only [r1_.1]) (qhO r1_.1 (fun i hi=>qcv v _ _ (r1_.2 i hi)))) (qgd (if_c (fun hc_=>by rw [(rU_.1 hc_)])) (rfl)))
section
variable {U:List Fld → Tree → Prop} {k x1 x2 x3 x4 x5 x6 n:Int} {sub:List Fld} {s:Bs} {b:Bool} {l:List Tree} {u:List (Int × Bs)}
end
section
variable {T:List Fld → Tree → Tree → Prop} {v k x1 x2 x3 x4 x5 x6 tn n:Int} {sub:List Fld} {ts s:Bs} {tb b:Bool} {tl l:List Tree} {tu u:List (Int × Bs)}
end
theorem qeE {P:Program} {ops:Array Oper} {Q:Exit → Act → World → Prop} {a:Act} {w:World} {T:World → Prop} {c i j fuel:Nat} {listed:Array Bool} (hr:Region.ready .any ops listed = [i,j]) (h:wpOp P ops Q i (fun a' w'=>(i ≠ c → T w') ∧ qbU P ops Q T c fuel (listed.setIfInBounds i true) a' w') a w)
  (h':wpOp P ops Q j (fun a' w'=>(j ≠ c → T w') ∧ qbU P ops Q T c fuel (listed.setIfInBounds j true) a' w') a w):qbU P ops Q T c (fuel + 1) listed a w:=by
 refine ⟨fun h0=>(by rw [hr] at h0; cases h0),fun q hq=>?_⟩
 rw [hr] at hq
 simp only [List.mem_cons,List.not_mem_nil,or_false] at hq
 rcases hq with rfl | rfl
 ·exact h
 exact h'
section
variable {w:World} {F:Nat → Nat → Prop}
end
section
variable {gu tu:List (Int × Bs)} {l:List Fld} {flex:Bool} {i:Nat} {k k':Int} {s s':Bs}
end
end Go.Proofs.YtogokkkdfcgncaaGreatDoor.ME
namespace Go.Proofs.YtogokkkdfcgncaaGreatDoor.ME
open Go
open Go.RowKit
set_option linter.unusedVariables false
set_option linter.unusedSimpArgs false
set_option maxRecDepth 20000
set_option maxHeartbeats 4000000 in
theorem qcP (has:Bool) (txt:ByteArray) (num v:Int) (T:Tree) {A2:Option Addr} {c2:Nat} {w:World} {F:Nat → Nat → Prop} (hs_:Octs w F A2 c2 (qai (IntKind.i16.wrap v) T)) (hc:qaX T) (hkey:T.ranged) (htx:txt.size ≤ 32767) (hroom:txt.size + (qai (IntKind.i16.wrap v) T).length + 64 ≤ 1099511627776) :
  Calls Tryz.prog 31 #[.agg #[.bool has,.string txt],.int .i32 num,.int .i64 v,.slice A2 (qai (IntKind.i16.wrap v) T).length c2] w (fun e w'=>∃ A c,e = .returned (.tuple #[.slice A (qa8 84 (IntKind.i16.wrap v) num has (sb txt) (decide ((IntKind.i16.wrap v) ≥ 0)) (qai (IntKind.i16.wrap v) T)).length c,.bool true]) ∧ w'.ownsRow w.heap.size 5 1 (.slice A (qa8 84 (IntKind.i16.wrap v) num has (sb txt) (decide ((IntKind.i16.wrap v) ≥ 0)) (qai (IntKind.i16.wrap v) T)).length c) (qa8 84 (IntKind.i16.wrap v) num has (sb txt) (decide ((IntKind.i16.wrap v) ≥ 0)) (qai (IntKind.i16.wrap v) T)).length (bc (qa8 84 (IntKind.i16.wrap v) num has (sb txt) (decide ((IntKind.i16.wrap v) ≥ 0)) (qai (IntKind.i16.wrap v) T))) ∧ Step w w' Nil):=by
 refine enter (n:=26) Tryz.func31 rfl Tryz.ntmps31 kz fun a hE=>?_
 have hW:=WOk.start w Nil
 have hsm2:=Slots.small hs_
 refine qae [0,1,2] kz ?_
 refine qao (qbh hW hE (d:=4) (cs:=[.bool has,.string txt]) kz fun b1 a2 w3 hb4 hz5 hF6 hW7 hE8=>?_)
 refine qal [1,2] [] [(1,.v (.int .i32 num)),(2,.v (.int .i64 v)),(3,.v (.slice A2 ((qai (IntKind.i16.wrap v) T).length) c2)),(4,.p 0 0)] hW7 hE8 fun a9 ln=>?_
 refine qag (qab ?_)
 refine qae [0,1] kz ?_
 refine qao (qba ln (f:=62) (vs:=[]) (d:=11) (n':=3) kz Tryz.call62 Tryz.func62 rfl Tryz.ntmps62 kz fun rO lp=>?_)
 refine qat [] hW7 lp fun rP lq=>?_
 refine qae [0] kz ?_
 refine qao (qbf hW7 lq (d:=1) (cs:=[.int .i16 0,.string ByteArray.empty,.slice none 0 0,.map none]) kz fun ac rQ rR mB mC mD bF lr=>?_)
 refine qag (qab ?_)
 refine qae [0] kz ?_
 refine qao (qba lr (f:=99) (vs:=[.pointer (some ⟨ac,0,none⟩)]) (d:=2) (n':=2) kz Tryz.call99 Tryz.func99 rfl Tryz.ntmps99 kz fun rS ls=>?_)
 have lu:=ls.recast 0 (.v (.pointer (some ⟨ac,0,none⟩))) (.p 1 0) rfl rfl (Nat.le_of_ble_eq_true (n:=2) rfl)
 refine wp_skip ?_
 refine qb7 lu bF.cells (v:=.tuple #[]) kz ?_
 refine ⟨_,rfl,fun rT lv=>?_⟩
 have lw:=(EnvOk.places (tb':=[⟨b1,0,[.bool has,.string txt],true⟩,⟨ac,0,[.int .i16 0,.string ByteArray.empty,.slice none 0 0,.map none],true⟩]) lv (show Pl [⟨b1,0,[.bool has,.string txt],true⟩,⟨ac,0,[.int .i16 0,.string ByteArray.empty,.slice none 0 0,.map none],true⟩] [⟨b1,0,[.bool has,.string txt],true⟩,⟨ac,0,[.int .i16 0,.string ByteArray.empty,.slice none 0 0,.map none],true⟩] from ⟨rfl,rfl,⟨rfl,rfl,trivial⟩⟩)).pk (env':=[(2,.v (.tuple #[])),(1,.p 1 0)])
 refine qag (qab ?_)
 refine qat [(0,.p 1 0)] bF lw fun rU lx=>?_
 refine wp_ret ?_
 refine qaG lx bF.cells (v:=.pointer (some ⟨ac,0,none⟩)) kz ?_
 refine ⟨_,rfl,fun rV ly=>?_⟩
 have lz:=(EnvOk.places (tb':=[⟨b1,0,[.bool has,.string txt],true⟩,⟨ac,0,[.int .i16 0,.string ByteArray.empty,.slice none 0 0,.map none],true⟩]) ly (show Pl [⟨b1,0,[.bool has,.string txt],true⟩] [⟨b1,0,[.bool has,.string txt],true⟩,⟨ac,0,[.int .i16 0,.string ByteArray.empty,.slice none 0 0,.map none],true⟩] from ⟨rfl,rfl,trivial⟩)).pk (env':=[(11,.v (.pointer (some ⟨ac,0,none⟩))),(1,.v (.int .i32 num)),(2,.v (.int .i64 v)),(3,.v (.slice A2 ((qai (IntKind.i16.wrap v) T).length) c2)),(4,.p 0 0)])
 have lA:=lz.recast 11 (.v (.pointer (some ⟨ac,0,none⟩))) (.p 1 0) rfl rfl (Nat.le_of_ble_eq_true (n:=2) rfl)
 have lB:=lA.pick (ks:=[1,2,3,4,11]) (env':=[(1,.v (.int .i32 num)),(2,.v (.int .i64 v)),(3,.v (.slice A2 ((qai (IntKind.i16.wrap v) T).length) c2)),(4,.p 0 0),(11,.p 1 0)]) kz
 refine qal [1] [] [(1,.v (.int .i32 num)),(2,.v (.int .i64 v)),(3,.v (.slice A2 ((qai (IntKind.i16.wrap v) T).length) c2)),(4,.p 0 0),(10,.p 1 0)] bF lB fun rW lC=>?_
 refine qag (qab ?_)
 refine qae [0,1,2,3] kz ?_
 refine qal [0,1,2] [3] [(1,.v (.int .i32 num)),(3,.v (.slice A2 ((qai (IntKind.i16.wrap v) T).length) c2)),(4,.p 0 0),(10,.p 1 0),(12,.p 1 0),(14,.v (.int .i16 (IntKind.i16.wrap v)))] bF lC fun rX lD=>?_
 refine qao (qba lD (f:=65) (vs:=[.pointer (some ⟨ac,0,none⟩),.int .i16 (IntKind.i16.wrap v)]) (d:=15) (n':=8) kz Tryz.call65 Tryz.func65 rfl Tryz.ntmps65 kz fun rY lE=>?_)
 have lF:=lE.recast 0 (.v (.pointer (some ⟨ac,0,none⟩))) (.p 1 0) rfl rfl (Nat.le_of_ble_eq_true (n:=2) rfl)
 refine qau [0,1,2,3,4] kz ?_
 refine qal [0,1,2,3] [4] [(5,.v (.int .i16 (IntKind.i16.wrap v))),(7,.p 1 0)] bF lF fun rZ lG=>?_
 refine qao (qaU bF lG (oi:=1) (cs:=[.int .i16 (IntKind.i16.wrap v),.string ByteArray.empty,.slice none 0 0,.map none]) kz fun r0 mF cH lH=>?_)
 refine qag ?_
 refine qb7 lH cH.cells (v:=.tuple #[]) kz ?_
 refine ⟨_,rfl,fun r2 lI=>?_⟩
 have lJ:=(EnvOk.places (tb':=[⟨b1,0,[.bool has,.string txt],true⟩,⟨ac,0,[.int .i16 (IntKind.i16.wrap v),.string ByteArray.empty,.slice none 0 0,.map none],true⟩]) lI (show Pl [⟨b1,0,[.bool has,.string txt],true⟩,⟨ac,0,[.int .i16 0,.string ByteArray.empty,.slice none 0 0,.map none],true⟩] [⟨b1,0,[.bool has,.string txt],true⟩,⟨ac,0,[.int .i16 (IntKind.i16.wrap v),.string ByteArray.empty,.slice none 0 0,.map none],true⟩] from ⟨rfl,rfl,⟨rfl,rfl,trivial⟩⟩)).pk (env':=[(15,.v (.tuple #[])),(1,.v (.int .i32 num)),(3,.v (.slice A2 ((qai (IntKind.i16.wrap v) T).length) c2)),(4,.p 0 0),(10,.p 1 0),(12,.p 1 0),(14,.v (.int .i16 (IntKind.i16.wrap v)))])
 refine qag (qab ?_)
 refine wp_seq ?_
 refine qae [0,1,2,3,4] kz ?_
 refine qal [0,1] [2,3,4] [(1,.v (.int .i32 num)),(4,.p 0 0),(10,.p 1 0),(16,.p 1 0),(17,.v (.slice A2 ((qai (IntKind.i16.wrap v) T).length) c2))] cH lJ fun r3 lK=>?_
 have cz:=cH.addNil 5 1
 have mG:=cH.frNil 5 1
 refine qao (qaJ cz lK (k:=0) (d:=18) (t:=24) (e:=5) (size:=1) (bytes:=1) (A:=none) (As:=A2) (m0:=0) (c:=0) (m:=((qai (IntKind.i16.wrap v) T).length)) (cs:=c2) (xs:=[]) (news:=bc (qai (IntKind.i16.wrap v) T)) kz kz rfl (hs_.move cz.step nilM cz.imm).src (hs_.move cz.step nilM cz.imm).cap (by first | omega | (simp only [List.length_append,List.length_cons,List.length_nil,be_length,qbR]; omega) | (simp; omega)) fun cv cw r4 r5 mH lL lM=>?_)
 have lN:(⟨cv,cw,5,1,0 + (qai (IntKind.i16.wrap v) T).length,[] ++ bc (qai (IntKind.i16.wrap v) T)⟩:Rw) = brow cv cw 5 (qai (IntKind.i16.wrap v) T):=by rw [List.nil_append,Nat.zero_add]
 obtain ⟨cI,mI⟩:=lL.rowEq 0 [brow cv cw 5 (qai (IntKind.i16.wrap v) T)] lN
 have lO:=EnvOk.pick lM (ks:=[1,4,10,16,17,18]) (env':=[(1,.v (.int .i32 num)),(4,.p 0 0),(10,.p 1 0),(16,.p 1 0),(17,.v (.slice A2 ((qai (IntKind.i16.wrap v) T).length) c2)),(18,.v (.slice cv (0 + (qai (IntKind.i16.wrap v) T).length) cw))]) kz
 have lP:=lO.cast (env':=[(1,.v (.int .i32 num)),(4,.p 0 0),(10,.p 1 0),(16,.p 1 0),(17,.v (.slice A2 ((qai (IntKind.i16.wrap v) T).length) c2)),(18,.v (.slice cv ((qai (IntKind.i16.wrap v) T).length) cw))]) (by simp only [List.length_append,List.length_cons,List.length_nil,Nat.zero_add])
 refine qao (qba lP (f:=66) (vs:=[.pointer (some ⟨ac,0,none⟩),.slice cv ((qai (IntKind.i16.wrap v) T).length) cw]) (d:=19) (n':=8) kz Tryz.call66 Tryz.func66 rfl Tryz.ntmps66 kz fun r6 lQ=>?_)
 have lR:=lQ.recast 0 (.v (.pointer (some ⟨ac,0,none⟩))) (.p 1 0) rfl rfl (Nat.le_of_ble_eq_true (n:=2) rfl)
 refine qat [(0,.p 1 0),(1,.v (.slice cv ((qai (IntKind.i16.wrap v) T).length) cw))] cI lR fun r7 lS=>?_
 refine qae [0,1,2,3] kz ?_
 refine qal [0,1] [2,3] [(5,.p 1 0),(6,.v (.slice cv ((qai (IntKind.i16.wrap v) T).length) cw))] cI lS fun r8 lT=>?_
 have lU:=cI.giveUp (G:=F) 0 [] (show _ = some (brow cv cw 5 (qai (IntKind.i16.wrap v) T)) from rfl) (by omega)
 obtain ⟨dX,mJ⟩:=cI.cutR 0 []
 refine qao (qan lT (f:=101) (vs:=[.pointer (some ⟨ac,0,none⟩),.slice cv ((qai (IntKind.i16.wrap v) T).length) cw,.bool false]) (d:=7) kz Tryz.call101 (qcN (IntKind.i16.wrap v) T (Str.of dX 1 rfl) lU (ql6 1 rfl) hc hkey) ?_)
 rintro e_ r9 ⟨aa,rfl,lV,lW,ba,dY⟩
 replace ba:=qcO _ _ _ ba
 obtain ⟨cA,mK,lX⟩:=dX.wrote 1 [⟨b1,0,[.bool has,.string txt],true⟩,⟨ac,0,[.int .i16 (IntKind.i16.wrap v),.string ((aa.f 0).s),.slice ((aa.f 1).A) ((aa.f 1).l) ((aa.f 1).c),.map aa.m],true⟩] rfl dY lV
 have cJ:=qaM _ (Step.refl _ Nil) nilM lX lW
 refine ⟨_,rfl,fun sa lY=>?_⟩
 have lZ:=(EnvOk.places (tb':=[⟨b1,0,[.bool has,.string txt],true⟩,⟨ac,0,[.int .i16 (IntKind.i16.wrap v),.string ((aa.f 0).s),.slice ((aa.f 1).A) ((aa.f 1).l) ((aa.f 1).c),.map aa.m],true⟩]) lY (show Pl [⟨b1,0,[.bool has,.string txt],true⟩,⟨ac,0,[.int .i16 (IntKind.i16.wrap v),.string ByteArray.empty,.slice none 0 0,.map none],true⟩] [⟨b1,0,[.bool has,.string txt],true⟩,⟨ac,0,[.int .i16 (IntKind.i16.wrap v),.string ((aa.f 0).s),.slice ((aa.f 1).A) ((aa.f 1).l) ((aa.f 1).c),.map aa.m],true⟩] from ⟨rfl,rfl,⟨rfl,rfl,trivial⟩⟩)).pk (env':=[(7,.v (.nilIface)),(5,.p 1 0),(6,.v (.slice cv ((qai (IntKind.i16.wrap v) T).length) cw))])
 have hv82l:=congrArg List.length ba
 refine qal [3] [] [(4,.v (.nilIface))] cA lZ fun sc l0=>?_
 refine qag (qab ?_)
 refine wp_ret ?_
 refine qaG l0 cA.cells (v:=.nilIface) kz ?_
 refine ⟨_,rfl,fun sd l3=>?_⟩
 have l5:=(EnvOk.places (tb':=[⟨b1,0,[.bool has,.string txt],true⟩,⟨ac,0,[.int .i16 (IntKind.i16.wrap v),.string ((aa.f 0).s),.slice ((aa.f 1).A) ((aa.f 1).l) ((aa.f 1).c),.map aa.m],true⟩]) l3 (show Pl [⟨b1,0,[.bool has,.string txt],true⟩,⟨ac,0,[.int .i16 (IntKind.i16.wrap v),.string ByteArray.empty,.slice none 0 0,.map none],true⟩] [⟨b1,0,[.bool has,.string txt],true⟩,⟨ac,0,[.int .i16 (IntKind.i16.wrap v),.string ((aa.f 0).s),.slice ((aa.f 1).A) ((aa.f 1).l) ((aa.f 1).c),.map aa.m],true⟩] from ⟨rfl,rfl,⟨rfl,rfl,trivial⟩⟩)).pk (env':=[(19,.v (.nilIface)),(1,.v (.int .i32 num)),(4,.p 0 0),(10,.p 1 0),(16,.p 1 0),(17,.v (.slice A2 ((qai (IntKind.i16.wrap v) T).length) c2)),(18,.v (.slice cv ((qai (IntKind.i16.wrap v) T).length) cw))])
 refine qal [4] [] [(1,.v (.int .i32 num)),(4,.p 0 0),(10,.p 1 0),(20,.v (.bool false))] cA l5 fun se dZ=>?_
 refine qag (qab ?_)
 refine qav dZ (b:=false) kz rfl ?_
 refine wp_skip ?_
 refine qab ?_
 refine qae [0,1,2,3,4,5,6] kz ?_
 refine qal [0,1,2,3] [4,5,6] [(21,.v (.agg #[.bool has,.string txt])),(23,.v (.iface 65 (.pointer (some ⟨ac,0,none⟩)))),(24,.v (.int .i32 num))] cA dZ fun sf l6=>?_
 refine qao (qba l6 (f:=45) (vs:=[.agg #[.bool has,.string txt],.iface 65 (.pointer (some ⟨ac,0,none⟩)),.int .i32 num]) (d:=25) (n':=20) kz Tryz.call45 Tryz.func45 rfl Tryz.ntmps45 kz fun mL d5=>?_)
 refine qae [0,1] kz ?_
 refine qao (qbh cA d5 (d:=3) (cs:=[.bool has,.string txt]) kz fun af mM mN l7 l9 aP cB d6=>?_)
 refine qal [1] [] [(1,.v (.iface 65 (.pointer (some ⟨ac,0,none⟩)))),(2,.v (.int .i32 num)),(3,.p 2 0)] cB d6 fun mO d7=>?_
 refine qag (qab ?_)
 refine qae [0,1] kz ?_
 refine qao (qba d7 (f:=89) (vs:=[.slice none 0 0]) (d:=8) (n':=18) kz Tryz.call89 Tryz.func89 rfl Tryz.ntmps89 kz fun mQ d8=>?_)
 refine qat [(0,.v (.slice none 0 0))] cB d8 fun mR d9=>?_
 refine qae [0,1] kz ?_
 refine qao (qbf cB d9 (d:=6) (cs:=[.pointer none]) kz fun ae mS mT ma mc aQ av ea=>?_)
 refine qal [1] [] [(0,.v (.slice none 0 0)),(3,.p 3 0)] av ea fun mU eb=>?_
 refine qag (qab ?_)
 refine wp_seq ?_
 refine qat [(3,.p 3 0),(7,.v (.slice none 0 0)),(8,.v (.int .i64 0)),(9,.v (.int .i64 0))] av eb fun mV ec=>?_
 refine wp_block ?_
 refine wp_loop_rounds 1 ?_
 refine qge ?_
 refine qat [(3,.p 3 0),(7,.v (.slice none 0 0)),(8,.v (.int .i64 0)),(9,.v (.int .i64 0)),(10,.v (.bool false))] av ec fun mW cK=>?_
 refine wp_seq ?_
 refine qav cK (b:=false) kz rfl ?_
 refine wp_exit ?_
 refine qaz ?_
 refine qaz ?_
 refine qaQ ?_
 refine qab ?_
 refine qat [(2,.p 3 0)] av cK fun mX ee=>?_
 refine wp_ret ?_
 refine qaG ee av.cells (v:=.pointer (some ⟨ae,0,none⟩)) kz ?_
 refine ⟨_,rfl,fun mY ef=>?_⟩
 have eg:=(EnvOk.places (tb':=[⟨b1,0,[.bool has,.string txt],true⟩,⟨ac,0,[.int .i16 (IntKind.i16.wrap v),.string ((aa.f 0).s),.slice ((aa.f 1).A) ((aa.f 1).l) ((aa.f 1).c),.map aa.m],true⟩,⟨af,0,[.bool has,.string txt],true⟩,⟨ae,0,[.pointer none],true⟩]) ef (show Pl [⟨b1,0,[.bool has,.string txt],true⟩,⟨ac,0,[.int .i16 (IntKind.i16.wrap v),.string ((aa.f 0).s),.slice ((aa.f 1).A) ((aa.f 1).l) ((aa.f 1).c),.map aa.m],true⟩,⟨af,0,[.bool has,.string txt],true⟩] [⟨b1,0,[.bool has,.string txt],true⟩,⟨ac,0,[.int .i16 (IntKind.i16.wrap v),.string ((aa.f 0).s),.slice ((aa.f 1).A) ((aa.f 1).l) ((aa.f 1).c),.map aa.m],true⟩,⟨af,0,[.bool has,.string txt],true⟩,⟨ae,0,[.pointer none],true⟩] from ⟨rfl,rfl,⟨rfl,rfl,⟨rfl,rfl,trivial⟩⟩⟩)).pk (env':=[(8,.v (.pointer (some ⟨ae,0,none⟩))),(1,.v (.iface 65 (.pointer (some ⟨ac,0,none⟩)))),(2,.v (.int .i32 num)),(3,.p 2 0)])
 have eh:=eg.recast 8 (.v (.pointer (some ⟨ae,0,none⟩))) (.p 3 0) rfl rfl (Nat.le_of_ble_eq_true (n:=4) rfl)
 have ei:=eh.pick (ks:=[1,2,3,8]) (env':=[(1,.v (.iface 65 (.pointer (some ⟨ac,0,none⟩)))),(2,.v (.int .i32 num)),(3,.p 2 0),(8,.p 3 0)]) kz
 refine qal [1] [] [(1,.v (.iface 65 (.pointer (some ⟨ac,0,none⟩)))),(2,.v (.int .i32 num)),(3,.p 2 0),(7,.p 3 0)] av ei fun mZ ej=>?_
 refine qag (qab ?_)
 refine wp_seq ?_
 refine qat [(1,.v (.iface 65 (.pointer (some ⟨ac,0,none⟩)))),(2,.v (.int .i32 num)),(3,.p 2 0),(7,.p 3 0),(10,.v (.bool has))] av ej fun m4 cC=>?_
 refine qaB cC (b:=has) kz (fun aJ=>?_) (fun aJ=>?_)
 ·
  refine qau [0,1,2,3,4,5] kz ?_
  refine qal [0,1] [2,3,4,5] [(1,.v (.iface 65 (.pointer (some ⟨ac,0,none⟩)))),(2,.v (.int .i32 num)),(12,.v (.string txt))] av cC fun m5 ek=>?_
  refine qao (qba ek (f:=90) (vs:=[.string txt]) (d:=13) (n':=6) kz Tryz.call90 Tryz.func90 rfl Tryz.ntmps90 kz fun m6 em=>?_)
  refine qae [0,1] kz ?_
  refine qao (qbh av em (d:=1) (cs:=[.string txt]) kz fun ab m7 m8 md me bG bH eo=>?_)
  refine qal [1] [] [(1,.p 4 0)] bH eo fun m9 ep=>?_
  refine qag (qab ?_)
  refine qae [0,1,2,3] kz ?_
  refine qao (qfZ ep (v:=.func (.func 131) #[] #[.pointer (some ⟨ab,0,none⟩)]) (d:=3) kz fun nf eu=>?_)
  refine qal [1,2,3] [] [(2,.v (.iface 147 (.agg #[.func (.func 131) #[] #[.pointer (some ⟨ab,0,none⟩)]])))] bH eu fun ng ev=>?_
  refine qag (qab ?_)
  refine wp_ret ?_
  refine qaG ev bH.cells (v:=.iface 147 (.agg #[.func (.func 131) #[] #[.pointer (some ⟨ab,0,none⟩)]])) kz ?_
  refine ⟨_,rfl,fun nh ew=>?_⟩
  have ey:=(EnvOk.places (tb':=[⟨b1,0,[.bool has,.string txt],true⟩,⟨ac,0,[.int .i16 (IntKind.i16.wrap v),.string ((aa.f 0).s),.slice ((aa.f 1).A) ((aa.f 1).l) ((aa.f 1).c),.map aa.m],true⟩,⟨af,0,[.bool has,.string txt],true⟩,⟨ae,0,[.pointer none],true⟩,⟨ab,0,[.string txt],true⟩]) ew (show Pl [⟨b1,0,[.bool has,.string txt],true⟩,⟨ac,0,[.int .i16 (IntKind.i16.wrap v),.string ((aa.f 0).s),.slice ((aa.f 1).A) ((aa.f 1).l) ((aa.f 1).c),.map aa.m],true⟩,⟨af,0,[.bool has,.string txt],true⟩,⟨ae,0,[.pointer none],true⟩] [⟨b1,0,[.bool has,.string txt],true⟩,⟨ac,0,[.int .i16 (IntKind.i16.wrap v),.string ((aa.f 0).s),.slice ((aa.f 1).A) ((aa.f 1).l) ((aa.f 1).c),.map aa.m],true⟩,⟨af,0,[.bool has,.string txt],true⟩,⟨ae,0,[.pointer none],true⟩,⟨ab,0,[.string txt],true⟩] from ⟨rfl,rfl,⟨rfl,rfl,⟨rfl,rfl,⟨rfl,rfl,trivial⟩⟩⟩⟩)).pk (env':=[(13,.v (.iface 147 (.agg #[.func (.func 131) #[] #[.pointer (some ⟨ab,0,none⟩)]]))),(1,.v (.iface 65 (.pointer (some ⟨ac,0,none⟩)))),(2,.v (.int .i32 num)),(12,.v (.string txt))])
  refine qao (qdJ bH ey (e:=96) (size:=1) (len:=1) (cs:=[.iface 147 (.agg #[.func (.func 131) #[] #[.pointer (some ⟨ab,0,none⟩)]])]) (d:=14) kz kz fun au ni nj mf mg bI cL ez=>?_)
  refine qao (qba ez (f:=89) (vs:=[.slice (some ⟨au,0,none⟩) 1 1]) (d:=15) (n':=18) kz Tryz.call89 Tryz.func89 rfl Tryz.ntmps89 kz fun nk eB=>?_)
  refine qat [(0,.v (.slice (some ⟨au,0,none⟩) 1 1))] cL eB fun nl eC=>?_
  refine qae [0,1] kz ?_
  refine qao (qbf cL eC (d:=6) (cs:=[.pointer none]) kz fun ag np nr mh mi bJ bd eD=>?_)
  refine qal [1] [] [(0,.v (.slice (some ⟨au,0,none⟩) 1 1)),(3,.p 5 0)] bd eD fun ns eE=>?_
  refine qag (qab ?_)
  refine wp_seq ?_
  refine qat [(3,.p 5 0),(7,.v (.slice (some ⟨au,0,none⟩) 1 1)),(8,.v (.int .i64 1)),(9,.v (.int .i64 0))] bd eE fun nt eF=>?_
  refine wp_block ?_
  refine wp_loop_rounds 2 ?_
  refine qge ?_
  refine qat [(3,.p 5 0),(7,.v (.slice (some ⟨au,0,none⟩) 1 1)),(8,.v (.int .i64 1)),(9,.v (.int .i64 0)),(10,.v (.bool true))] bd eF fun nu cM=>?_
  refine wp_seq ?_
  refine qbN cM (b:=true) kz rfl ?_
  refine wp_skip ?_
  refine qab ?_
  refine wp_seq ?_
  refine wp_block ?_
  refine qae [0,1,2] kz ?_
  have dR:=qgn (o:=0 * 1) (cs:=[.iface 147 (.agg #[.func (.func 131) #[] #[.pointer (some ⟨ab,0,none⟩)]])]) (bd.own 0 _ rfl) rfl (fun j_ v_ h_=>by simpa using h_)
  refine qao (qay cM (t:=142) (A:=(some ⟨au,0,none⟩)) (m:=1) (q:=0) (d:=11) kz (e:=96) (size:=1) (bytes:=16) kz (b:=au) (o:=0) (j:=0) rfl (rfl) (by omega) fun nv eG=>?_)
  refine qao (qaH eG (t:=96) (b:=au) (o:=0 + 0 * 1) (d:=12) kz (cs:=[.iface 147 (.agg #[.func (.func 131) #[] #[.pointer (some ⟨ab,0,none⟩)]])]) (v:=.iface 147 (.agg #[.func (.func 131) #[] #[.pointer (some ⟨ab,0,none⟩)]])) kz dR fun nw eH=>?_)
  refine qal [2] [] [(3,.p 5 0),(5,.v (.iface 147 (.agg #[.func (.func 131) #[] #[.pointer (some ⟨ab,0,none⟩)]]))),(7,.v (.slice (some ⟨au,0,none⟩) 1 1)),(8,.v (.int .i64 1)),(9,.v (.int .i64 0))] bd eH fun nx eI=>?_
  refine qag (qab ?_)
  refine qau [0,1,2] kz ?_
  refine qal [0,1] [2] [(3,.p 5 0),(7,.v (.slice (some ⟨au,0,none⟩) 1 1)),(8,.v (.int .i64 1)),(9,.v (.int .i64 0)),(13,.v (.iface 147 (.agg #[.func (.func 131) #[] #[.pointer (some ⟨ab,0,none⟩)]]))),(14,.p 5 0)] bd eI fun ny eJ=>?_
  refine qao (qcc eJ (t := 147) (v := (.agg #[.func (.func 131) #[] #[.pointer (some ⟨ab, 0, none⟩)]])) (v' := (.agg #[.func (.func 131) #[] #[.pointer (some ⟨ab, 0, none⟩)]])) (name := "pub-mailsack/pub/kmsg.apply") (f := 254) (vs := [.pointer (some ⟨ag, 0, none⟩)]) (d := 15) (n' := 8) kz (fun _ => by kernel_rfl) Tryz.call254 Tryz.func254 rfl Tryz.ntmps254 kz fun nz eK => ?_)
  have eL:=eK.recast 1 (.v (.pointer (some ⟨ag,0,none⟩))) (.p 5 0) rfl rfl (Nat.le_of_ble_eq_true (n:=6) rfl)
  refine qae [0] kz ?_
  refine qao (qbh bd eL (d:=2) (cs:=[.func (.func 131) #[] #[.pointer (some ⟨ab,0,none⟩)]]) kz fun ah nA nB mj ml bK cD eM=>?_)
  refine qag (qab ?_)
  refine qau [0,1,2,3] kz ?_
  refine qal [0,1,2] [3] [(5,.v (.func (.func 131) #[] #[.pointer (some ⟨ab,0,none⟩)])),(6,.p 5 0)] cD eM fun nC eN=>?_
  refine qao (qba eN (f:=131) (vs:=[.pointer (some ⟨ag,0,none⟩),.pointer (some ⟨ab,0,none⟩)]) (d:=7) (n':=6) kz Tryz.call131 Tryz.func131 rfl Tryz.ntmps131 kz fun nD eO=>?_)
  have eP:=eO.recast 0 (.v (.pointer (some ⟨ag,0,none⟩))) (.p 5 0) rfl rfl (Nat.le_of_ble_eq_true (n:=6) rfl)
  have eQ:=eP.recast 1 (.v (.pointer (some ⟨ab,0,none⟩))) (.p 4 0) rfl rfl (Nat.le_of_ble_eq_true (n:=5) rfl)
  refine qau [0,1,2,3] kz ?_
  refine qal [0,1,2] [3] [(1,.p 4 0),(5,.p 5 0)] cD eQ fun nE eR=>?_
  refine qao (qaU cD eR (oi:=5) (cs:=[.pointer (some ⟨ab,0,none⟩)]) kz fun nF bL aA eS=>?_)
  refine qag ?_
  refine qb7 eS aA.cells (v:=.tuple #[]) kz ?_
  refine ⟨_,rfl,fun nG eT=>?_⟩
  have eU:=(EnvOk.places (tb':=[⟨b1,0,[.bool has,.string txt],true⟩,⟨ac,0,[.int .i16 (IntKind.i16.wrap v),.string ((aa.f 0).s),.slice ((aa.f 1).A) ((aa.f 1).l) ((aa.f 1).c),.map aa.m],true⟩,⟨af,0,[.bool has,.string txt],true⟩,⟨ae,0,[.pointer none],true⟩,⟨ab,0,[.string txt],true⟩,⟨ag,0,[.pointer (some ⟨ab,0,none⟩)],true⟩,⟨ah,0,[.func (.func 131) #[] #[.pointer (some ⟨ab,0,none⟩)]],true⟩]) eT (show Pl [⟨b1,0,[.bool has,.string txt],true⟩,⟨ac,0,[.int .i16 (IntKind.i16.wrap v),.string ((aa.f 0).s),.slice ((aa.f 1).A) ((aa.f 1).l) ((aa.f 1).c),.map aa.m],true⟩,⟨af,0,[.bool has,.string txt],true⟩,⟨ae,0,[.pointer none],true⟩,⟨ab,0,[.string txt],true⟩,⟨ag,0,[.pointer none],true⟩,⟨ah,0,[.func (.func 131) #[] #[.pointer (some ⟨ab,0,none⟩)]],true⟩] [⟨b1,0,[.bool has,.string txt],true⟩,⟨ac,0,[.int .i16 (IntKind.i16.wrap v),.string ((aa.f 0).s),.slice ((aa.f 1).A) ((aa.f 1).l) ((aa.f 1).c),.map aa.m],true⟩,⟨af,0,[.bool has,.string txt],true⟩,⟨ae,0,[.pointer none],true⟩,⟨ab,0,[.string txt],true⟩,⟨ag,0,[.pointer (some ⟨ab,0,none⟩)],true⟩,⟨ah,0,[.func (.func 131) #[] #[.pointer (some ⟨ab,0,none⟩)]],true⟩] from ⟨rfl,rfl,⟨rfl,rfl,⟨rfl,rfl,⟨rfl,rfl,⟨rfl,rfl,⟨rfl,rfl,⟨rfl,rfl,trivial⟩⟩⟩⟩⟩⟩⟩)).pk (env':=[(7,.v (.tuple #[])),(5,.v (.func (.func 131) #[] #[.pointer (some ⟨ab,0,none⟩)])),(6,.p 5 0)])
  refine qag ?_
  refine qb7 eU aA.cells (v:=.tuple #[]) kz ?_
  refine ⟨_,rfl,fun nH eV=>?_⟩
  have eW:=(EnvOk.places (tb':=[⟨b1,0,[.bool has,.string txt],true⟩,⟨ac,0,[.int .i16 (IntKind.i16.wrap v),.string ((aa.f 0).s),.slice ((aa.f 1).A) ((aa.f 1).l) ((aa.f 1).c),.map aa.m],true⟩,⟨af,0,[.bool has,.string txt],true⟩,⟨ae,0,[.pointer none],true⟩,⟨ab,0,[.string txt],true⟩,⟨ag,0,[.pointer (some ⟨ab,0,none⟩)],true⟩,⟨ah,0,[.func (.func 131) #[] #[.pointer (some ⟨ab,0,none⟩)]],true⟩]) eV (show Pl [⟨b1,0,[.bool has,.string txt],true⟩,⟨ac,0,[.int .i16 (IntKind.i16.wrap v),.string ((aa.f 0).s),.slice ((aa.f 1).A) ((aa.f 1).l) ((aa.f 1).c),.map aa.m],true⟩,⟨af,0,[.bool has,.string txt],true⟩,⟨ae,0,[.pointer none],true⟩,⟨ab,0,[.string txt],true⟩,⟨ag,0,[.pointer none],true⟩] [⟨b1,0,[.bool has,.string txt],true⟩,⟨ac,0,[.int .i16 (IntKind.i16.wrap v),.string ((aa.f 0).s),.slice ((aa.f 1).A) ((aa.f 1).l) ((aa.f 1).c),.map aa.m],true⟩,⟨af,0,[.bool has,.string txt],true⟩,⟨ae,0,[.pointer none],true⟩,⟨ab,0,[.string txt],true⟩,⟨ag,0,[.pointer (some ⟨ab,0,none⟩)],true⟩,⟨ah,0,[.func (.func 131) #[] #[.pointer (some ⟨ab,0,none⟩)]],true⟩] from ⟨rfl,rfl,⟨rfl,rfl,⟨rfl,rfl,⟨rfl,rfl,⟨rfl,rfl,⟨rfl,rfl,trivial⟩⟩⟩⟩⟩⟩)).pk (env':=[(15,.v (.tuple #[])),(3,.p 5 0),(7,.v (.slice (some ⟨au,0,none⟩) 1 1)),(8,.v (.int .i64 1)),(9,.v (.int .i64 0)),(13,.v (.iface 147 (.agg #[.func (.func 131) #[] #[.pointer (some ⟨ab,0,none⟩)]]))),(14,.p 5 0)])
  refine qag ?_
  refine qaD ?_
  refine qab ?_
  refine qau [0,1] kz ?_
  refine qal [0,1] [] [(3,.p 5 0),(7,.v (.slice (some ⟨au,0,none⟩) 1 1)),(8,.v (.int .i64 1)),(9,.v (.int .i64 1))] aA eW fun nI eX=>?_
  refine qag (qab ?_)
  refine qge ?_
  refine qat [(3,.p 5 0),(7,.v (.slice (some ⟨au,0,none⟩) 1 1)),(8,.v (.int .i64 1)),(9,.v (.int .i64 1)),(10,.v (.bool false))] aA eX fun nJ cN=>?_
  refine wp_seq ?_
  refine qav cN (b:=false) kz rfl ?_
  refine wp_exit ?_
  refine qaz ?_
  refine qaz ?_
  refine qaQ ?_
  refine qab ?_
  refine qat [(2,.p 5 0)] aA cN fun nK eY=>?_
  refine wp_ret ?_
  refine qaG eY aA.cells (v:=.pointer (some ⟨ag,0,none⟩)) kz ?_
  refine ⟨_,rfl,fun nL eZ=>?_⟩
  have e9:=(EnvOk.places (tb':=[⟨b1,0,[.bool has,.string txt],true⟩,⟨ac,0,[.int .i16 (IntKind.i16.wrap v),.string ((aa.f 0).s),.slice ((aa.f 1).A) ((aa.f 1).l) ((aa.f 1).c),.map aa.m],true⟩,⟨af,0,[.bool has,.string txt],true⟩,⟨ae,0,[.pointer none],true⟩,⟨ab,0,[.string txt],true⟩,⟨ag,0,[.pointer (some ⟨ab,0,none⟩)],true⟩,⟨ah,0,[.func (.func 131) #[] #[.pointer (some ⟨ab,0,none⟩)]],true⟩]) eZ (show Pl [⟨b1,0,[.bool has,.string txt],true⟩,⟨ac,0,[.int .i16 (IntKind.i16.wrap v),.string ((aa.f 0).s),.slice ((aa.f 1).A) ((aa.f 1).l) ((aa.f 1).c),.map aa.m],true⟩,⟨af,0,[.bool has,.string txt],true⟩,⟨ae,0,[.pointer none],true⟩,⟨ab,0,[.string txt],true⟩] [⟨b1,0,[.bool has,.string txt],true⟩,⟨ac,0,[.int .i16 (IntKind.i16.wrap v),.string ((aa.f 0).s),.slice ((aa.f 1).A) ((aa.f 1).l) ((aa.f 1).c),.map aa.m],true⟩,⟨af,0,[.bool has,.string txt],true⟩,⟨ae,0,[.pointer none],true⟩,⟨ab,0,[.string txt],true⟩,⟨ag,0,[.pointer (some ⟨ab,0,none⟩)],true⟩,⟨ah,0,[.func (.func 131) #[] #[.pointer (some ⟨ab,0,none⟩)]],true⟩] from ⟨rfl,rfl,⟨rfl,rfl,⟨rfl,rfl,⟨rfl,rfl,⟨rfl,rfl,trivial⟩⟩⟩⟩⟩)).pk (env':=[(15,.v (.pointer (some ⟨ag,0,none⟩))),(1,.v (.iface 65 (.pointer (some ⟨ac,0,none⟩)))),(2,.v (.int .i32 num)),(12,.v (.string txt)),(13,.v (.iface 147 (.agg #[.func (.func 131) #[] #[.pointer (some ⟨ab,0,none⟩)]]))),(14,.v (.slice (some ⟨au,0,none⟩) 1 1))])
  have fa:=e9.recast 15 (.v (.pointer (some ⟨ag,0,none⟩))) (.p 5 0) rfl rfl (Nat.le_of_ble_eq_true (n:=6) rfl)
  have fb:=fa.pick (ks:=[1,2,12,13,14,15]) (env':=[(1,.v (.iface 65 (.pointer (some ⟨ac,0,none⟩)))),(2,.v (.int .i32 num)),(12,.v (.string txt)),(13,.v (.iface 147 (.agg #[.func (.func 131) #[] #[.pointer (some ⟨ab,0,none⟩)]]))),(14,.v (.slice (some ⟨au,0,none⟩) 1 1)),(15,.p 5 0)]) kz
  refine qal [5] [] [(1,.v (.iface 65 (.pointer (some ⟨ac,0,none⟩)))),(2,.v (.int .i32 num)),(7,.p 5 0)] aA fb fun nM fe=>?_
  refine qag (qab ?_)
  refine qae [0,1,2,3,4] kz ?_
  refine qal [0,1,2] [3,4] [(16,.p 5 0),(17,.v (.iface 65 (.pointer (some ⟨ac,0,none⟩)))),(18,.v (.int .i32 num))] aA fe fun nN ff=>?_
  refine qao (qba ff (f:=91) (vs:=[.pointer (some ⟨ag,0,none⟩),.slice none 0 0,.iface 65 (.pointer (some ⟨ac,0,none⟩)),.int .i32 num]) (d:=19) (n':=60) kz Tryz.call91 Tryz.func91 rfl Tryz.ntmps91 kz fun nO fg=>?_)
  have fh:=fg.recast 0 (.v (.pointer (some ⟨ag,0,none⟩))) (.p 5 0) rfl rfl (Nat.le_of_ble_eq_true (n:=6) rfl)
  refine qat [(0,.p 5 0),(1,.v (.slice none 0 0)),(2,.v (.iface 65 (.pointer (some ⟨ac,0,none⟩)))),(3,.v (.int .i32 num))] aA fh fun nP fi=>?_
  refine qae [0,1,2,3] kz ?_
  refine qal [0] [1,2,3] [(0,.p 5 0),(2,.v (.iface 65 (.pointer (some ⟨ac,0,none⟩)))),(3,.v (.int .i32 num)),(12,.v (.slice none 0 0))] aA fi fun nQ fj=>?_
  have fk:=aA.addNil 5 1
  have bM:=aA.frNil 5 1
  refine qbt fk fj (k:=1) (e:=5) (size:=1) (len:=4) (cs:=[.int .u8 0,.int .u8 0,.int .u8 0,.int .u8 0]) (d1:=13) (d:=14) kz (t:=24) (bytes:=1) kz (fun _=>by kernel_rfl) rfl kz (by first | omega | (simp only [List.length_append,List.length_cons,List.length_nil,be_length,qbR]; omega) | (simp; omega)) fun aD aE nR nS bN fl ⟨_,fm⟩=>?_
  have fo:(⟨aD,aE,5,1,([]:Bs).length + 4,bc ([]:Bs) ++ [.int .u8 0,.int .u8 0,.int .u8 0,.int .u8 0]⟩:Rw) = brow aD aE 5 (([]:Bs) ++ [by8 0,by8 0,by8 0,by8 0]):=qa3 (by simp only [bc,List.map,qbI]; try rfl) rfl
  obtain ⟨aw,bO⟩:=fl.rowEq 1 [⟨some ⟨au,0,none⟩,1,96,1,1,[.iface 147 (.agg #[.func (.func 131) #[] #[.pointer (some ⟨ab,0,none⟩)]])]⟩,brow aD aE 5 (([]:Bs) ++ [by8 0,by8 0,by8 0,by8 0])] fo
  have fq:=EnvOk.pick fm (ks:=[0,2,3,12,14]) (env':=[(0,.p 5 0),(2,.v (.iface 65 (.pointer (some ⟨ac,0,none⟩)))),(3,.v (.int .i32 num)),(12,.v (.slice none 0 0)),(14,.v (.slice aD (([]:Bs).length + 4) aE))]) kz
  have fr:=fq.cast (env':=[(0,.p 5 0),(2,.v (.iface 65 (.pointer (some ⟨ac,0,none⟩)))),(3,.v (.int .i32 num)),(12,.v (.slice none 0 0)),(14,.v (.slice aD ((([]:Bs) ++ [by8 0,by8 0,by8 0,by8 0]).length) aE))]) (by simp only [List.length_append,List.length_cons,List.length_nil,Nat.zero_add])
  refine qal [3] [] [(0,.p 5 0),(1,.v (.slice aD ((([]:Bs) ++ [by8 0,by8 0,by8 0,by8 0]).length) aE)),(2,.v (.iface 65 (.pointer (some ⟨ac,0,none⟩)))),(3,.v (.int .i32 num))] aw fr fun nT ft=>?_
  refine qag (qab ?_)
  refine qae [0,1,2] kz ?_
  refine qal [0] [1,2] [(0,.p 5 0),(1,.v (.slice aD ((([]:Bs) ++ [by8 0,by8 0,by8 0,by8 0]).length) aE)),(2,.v (.iface 65 (.pointer (some ⟨ac,0,none⟩)))),(3,.v (.int .i32 num)),(15,.v (.iface 65 (.pointer (some ⟨ac,0,none⟩))))] aw ft fun nU fu=>?_
  refine qao (qcc fu (t := 65) (v := (.pointer (some ⟨ac, 0, none⟩))) (v' := (.pointer (some ⟨ac, 0, none⟩))) (name := "Key") (f := 244) (vs := []) (d := 16) (n' := 3) kz (fun _ => by kernel_rfl) Tryz.call244 Tryz.func244 rfl Tryz.ntmps244 kz fun nV fv => ?_)
  have fw:=fv.recast 0 (.v (.pointer (some ⟨ac,0,none⟩))) (.p 1 0) rfl rfl (Nat.le_of_ble_eq_true (n:=2) rfl)
  refine qat [] aw fw fun nW fx=>?_
  refine qat [(2,.v (.int .i16 84))] aw fx fun nX fy=>?_
  refine wp_ret ?_
  refine qaG fy aw.cells (v:=.int .i16 84) kz ?_
  refine ⟨_,rfl,fun nY fz=>?_⟩
  have fA:=(EnvOk.places (tb':=[⟨b1,0,[.bool has,.string txt],true⟩,⟨ac,0,[.int .i16 (IntKind.i16.wrap v),.string ((aa.f 0).s),.slice ((aa.f 1).A) ((aa.f 1).l) ((aa.f 1).c),.map aa.m],true⟩,⟨af,0,[.bool has,.string txt],true⟩,⟨ae,0,[.pointer none],true⟩,⟨ab,0,[.string txt],true⟩,⟨ag,0,[.pointer (some ⟨ab,0,none⟩)],true⟩,⟨ah,0,[.func (.func 131) #[] #[.pointer (some ⟨ab,0,none⟩)]],true⟩]) fz (show Pl [⟨b1,0,[.bool has,.string txt],true⟩,⟨ac,0,[.int .i16 (IntKind.i16.wrap v),.string ((aa.f 0).s),.slice ((aa.f 1).A) ((aa.f 1).l) ((aa.f 1).c),.map aa.m],true⟩,⟨af,0,[.bool has,.string txt],true⟩,⟨ae,0,[.pointer none],true⟩,⟨ab,0,[.string txt],true⟩,⟨ag,0,[.pointer (some ⟨ab,0,none⟩)],true⟩,⟨ah,0,[.func (.func 131) #[] #[.pointer (some ⟨ab,0,none⟩)]],true⟩] [⟨b1,0,[.bool has,.string txt],true⟩,⟨ac,0,[.int .i16 (IntKind.i16.wrap v),.string ((aa.f 0).s),.slice ((aa.f 1).A) ((aa.f 1).l) ((aa.f 1).c),.map aa.m],true⟩,⟨af,0,[.bool has,.string txt],true⟩,⟨ae,0,[.pointer none],true⟩,⟨ab,0,[.string txt],true⟩,⟨ag,0,[.pointer (some ⟨ab,0,none⟩)],true⟩,⟨ah,0,[.func (.func 131) #[] #[.pointer (some ⟨ab,0,none⟩)]],true⟩] from ⟨rfl,rfl,⟨rfl,rfl,⟨rfl,rfl,⟨rfl,rfl,⟨rfl,rfl,⟨rfl,rfl,⟨rfl,rfl,trivial⟩⟩⟩⟩⟩⟩⟩)).pk (env':=[(16,.v (.int .i16 84)),(0,.p 5 0),(1,.v (.slice aD ((([]:Bs) ++ [by8 0,by8 0,by8 0,by8 0]).length) aE)),(2,.v (.iface 65 (.pointer (some ⟨ac,0,none⟩)))),(3,.v (.int .i32 num)),(15,.v (.iface 65 (.pointer (some ⟨ac,0,none⟩))))])
  refine qal [2] [] [(0,.p 5 0),(1,.v (.slice aD ((([]:Bs) ++ [by8 0,by8 0,by8 0,by8 0]).length) aE)),(2,.v (.iface 65 (.pointer (some ⟨ac,0,none⟩)))),(3,.v (.int .i32 num)),(9,.v (.int .i16 84))] aw fA fun nZ fB=>?_
  refine qag (qab ?_)
  refine qae [0,1,2] kz ?_
  refine qal [0] [1,2] [(0,.p 5 0),(1,.v (.slice aD ((([]:Bs) ++ [by8 0,by8 0,by8 0,by8 0]).length) aE)),(2,.v (.iface 65 (.pointer (some ⟨ac,0,none⟩)))),(3,.v (.int .i32 num)),(9,.v (.int .i16 84)),(17,.v (.iface 65 (.pointer (some ⟨ac,0,none⟩))))] aw fB fun n0 fC=>?_
  refine qao (qcc fC (t := 65) (v := (.pointer (some ⟨ac, 0, none⟩))) (v' := (.pointer (some ⟨ac, 0, none⟩))) (name := "GetVersion") (f := 242) (vs := []) (d := 18) (n' := 7) kz (fun _ => by kernel_rfl) Tryz.call242 Tryz.func242 rfl Tryz.ntmps242 kz fun n4 fD => ?_)
  have fE:=fD.recast 0 (.v (.pointer (some ⟨ac,0,none⟩))) (.p 1 0) rfl rfl (Nat.le_of_ble_eq_true (n:=2) rfl)
  refine qat [(0,.p 1 0)] aw fE fun n5 fF=>?_
  refine qat [(2,.v (.int .i16 (IntKind.i16.wrap v)))] aw fF fun n8 fG=>?_
  refine wp_ret ?_
  refine qaG fG aw.cells (v:=.int .i16 (IntKind.i16.wrap v)) kz ?_
  refine ⟨_,rfl,fun oa fH=>?_⟩
  have fI:=(EnvOk.places (tb':=[⟨b1,0,[.bool has,.string txt],true⟩,⟨ac,0,[.int .i16 (IntKind.i16.wrap v),.string ((aa.f 0).s),.slice ((aa.f 1).A) ((aa.f 1).l) ((aa.f 1).c),.map aa.m],true⟩,⟨af,0,[.bool has,.string txt],true⟩,⟨ae,0,[.pointer none],true⟩,⟨ab,0,[.string txt],true⟩,⟨ag,0,[.pointer (some ⟨ab,0,none⟩)],true⟩,⟨ah,0,[.func (.func 131) #[] #[.pointer (some ⟨ab,0,none⟩)]],true⟩]) fH (show Pl [⟨b1,0,[.bool has,.string txt],true⟩,⟨ac,0,[.int .i16 (IntKind.i16.wrap v),.string ((aa.f 0).s),.slice ((aa.f 1).A) ((aa.f 1).l) ((aa.f 1).c),.map aa.m],true⟩,⟨af,0,[.bool has,.string txt],true⟩,⟨ae,0,[.pointer none],true⟩,⟨ab,0,[.string txt],true⟩,⟨ag,0,[.pointer (some ⟨ab,0,none⟩)],true⟩,⟨ah,0,[.func (.func 131) #[] #[.pointer (some ⟨ab,0,none⟩)]],true⟩] [⟨b1,0,[.bool has,.string txt],true⟩,⟨ac,0,[.int .i16 (IntKind.i16.wrap v),.string ((aa.f 0).s),.slice ((aa.f 1).A) ((aa.f 1).l) ((aa.f 1).c),.map aa.m],true⟩,⟨af,0,[.bool has,.string txt],true⟩,⟨ae,0,[.pointer none],true⟩,⟨ab,0,[.string txt],true⟩,⟨ag,0,[.pointer (some ⟨ab,0,none⟩)],true⟩,⟨ah,0,[.func (.func 131) #[] #[.pointer (some ⟨ab,0,none⟩)]],true⟩] from ⟨rfl,rfl,⟨rfl,rfl,⟨rfl,rfl,⟨rfl,rfl,⟨rfl,rfl,⟨rfl,rfl,⟨rfl,rfl,trivial⟩⟩⟩⟩⟩⟩⟩)).pk (env':=[(18,.v (.int .i16 (IntKind.i16.wrap v))),(0,.p 5 0),(1,.v (.slice aD ((([]:Bs) ++ [by8 0,by8 0,by8 0,by8 0]).length) aE)),(2,.v (.iface 65 (.pointer (some ⟨ac,0,none⟩)))),(3,.v (.int .i32 num)),(9,.v (.int .i16 84)),(17,.v (.iface 65 (.pointer (some ⟨ac,0,none⟩))))])
  refine qal [2] [] [(0,.p 5 0),(1,.v (.slice aD ((([]:Bs) ++ [by8 0,by8 0,by8 0,by8 0]).length) aE)),(2,.v (.iface 65 (.pointer (some ⟨ac,0,none⟩)))),(3,.v (.int .i32 num)),(9,.v (.int .i16 84)),(10,.v (.int .i16 (IntKind.i16.wrap v)))] aw fI fun od fJ=>?_
  refine qag (qab ?_)
  refine qae [0,1,2,3] kz ?_
  refine qal [0,1] [2,3] [(0,.p 5 0),(2,.v (.iface 65 (.pointer (some ⟨ac,0,none⟩)))),(3,.v (.int .i32 num)),(9,.v (.int .i16 84)),(10,.v (.int .i16 (IntKind.i16.wrap v))),(19,.v (.slice aD ((([]:Bs) ++ [by8 0,by8 0,by8 0,by8 0]).length) aE)),(20,.v (.int .i16 84))] aw fJ fun oe fK=>?_
  refine qao (qan fK (f:=132) (vs:=[.slice aD ((([]:Bs) ++ [by8 0,by8 0,by8 0,by8 0]).length) aE,.int .i16 84]) (d:=21) kz Tryz.call132 (qcp aD aE (([]:Bs) ++ [by8 0,by8 0,by8 0,by8 0]) 84 _ (aw.own 1 _ rfl) (by first | omega | (simp only [List.length_append,List.length_cons,List.length_nil,be_length,qbR]; omega) | (simp; omega))) ?_)
  rintro e_ og ⟨bw,bx,rfl,fL,cO,cP⟩
  refine ⟨_,rfl,fun oh fM=>?_⟩
  have bP:WOk _ _ _ _ [⟨some ⟨au,0,none⟩,1,96,1,1,[.iface 147 (.agg #[.func (.func 131) #[] #[.pointer (some ⟨ab,0,none⟩)]])]⟩,brow bw bx 5 (([]:Bs) ++ [by8 0,by8 0,by8 0,by8 0] ++ be 2 84)]:=aw.grow (k:=1) rfl cO fL cP
  have bQ:Fr _ [⟨b1,0,[.bool has,.string txt],true⟩,⟨ac,0,[.int .i16 (IntKind.i16.wrap v),.string ((aa.f 0).s),.slice ((aa.f 1).A) ((aa.f 1).l) ((aa.f 1).c),.map aa.m],true⟩,⟨af,0,[.bool has,.string txt],true⟩,⟨ae,0,[.pointer none],true⟩,⟨ab,0,[.string txt],true⟩,⟨ag,0,[.pointer (some ⟨ab,0,none⟩)],true⟩,⟨ah,0,[.func (.func 131) #[] #[.pointer (some ⟨ab,0,none⟩)]],true⟩] [⟨some ⟨au,0,none⟩,1,96,1,1,[.iface 147 (.agg #[.func (.func 131) #[] #[.pointer (some ⟨ab,0,none⟩)]])]⟩,brow aD aE 5 (([]:Bs) ++ [by8 0,by8 0,by8 0,by8 0])] _ [⟨b1,0,[.bool has,.string txt],true⟩,⟨ac,0,[.int .i16 (IntKind.i16.wrap v),.string ((aa.f 0).s),.slice ((aa.f 1).A) ((aa.f 1).l) ((aa.f 1).c),.map aa.m],true⟩,⟨af,0,[.bool has,.string txt],true⟩,⟨ae,0,[.pointer none],true⟩,⟨ab,0,[.string txt],true⟩,⟨ag,0,[.pointer (some ⟨ab,0,none⟩)],true⟩,⟨ah,0,[.func (.func 131) #[] #[.pointer (some ⟨ab,0,none⟩)]],true⟩] [⟨some ⟨au,0,none⟩,1,96,1,1,[.iface 147 (.agg #[.func (.func 131) #[] #[.pointer (some ⟨ab,0,none⟩)]])]⟩,brow bw bx 5 (([]:Bs) ++ [by8 0,by8 0,by8 0,by8 0] ++ be 2 84)]:=Fr.grow _ (k:=1) (r':=(brow bw bx 5 (([]:Bs) ++ [by8 0,by8 0,by8 0,by8 0] ++ be 2 84))) rfl cO cP
  refine qal [3] [] [(0,.p 5 0),(1,.v (.slice bw ((([]:Bs) ++ [by8 0,by8 0,by8 0,by8 0] ++ be 2 84).length) bx)),(2,.v (.iface 65 (.pointer (some ⟨ac,0,none⟩)))),(3,.v (.int .i32 num)),(9,.v (.int .i16 84)),(10,.v (.int .i16 (IntKind.i16.wrap v)))] bP fM fun ol fN=>?_
  refine qag (qab ?_)
  refine qae [0,1,2,3] kz ?_
  refine qal [0,1] [2,3] [(0,.p 5 0),(2,.v (.iface 65 (.pointer (some ⟨ac,0,none⟩)))),(3,.v (.int .i32 num)),(9,.v (.int .i16 84)),(10,.v (.int .i16 (IntKind.i16.wrap v))),(22,.v (.slice bw ((([]:Bs) ++ [by8 0,by8 0,by8 0,by8 0] ++ be 2 84).length) bx)),(23,.v (.int .i16 (IntKind.i16.wrap v)))] bP fN fun om fO=>?_
  refine qao (qan fO (f:=132) (vs:=[.slice bw ((([]:Bs) ++ [by8 0,by8 0,by8 0,by8 0] ++ be 2 84).length) bx,.int .i16 (IntKind.i16.wrap v)]) (d:=24) kz Tryz.call132 (qcp bw bx (([]:Bs) ++ [by8 0,by8 0,by8 0,by8 0] ++ be 2 84) (IntKind.i16.wrap v) _ (bP.own 1 _ rfl) (by first | omega | (simp only [List.length_append,List.length_cons,List.length_nil,be_length,qbR]; omega) | (simp; omega))) ?_)
  rintro e_ oq ⟨bz,bA,rfl,fP,cQ,cR⟩
  refine ⟨_,rfl,fun ot fQ=>?_⟩
  have bR:WOk _ _ _ _ [⟨some ⟨au,0,none⟩,1,96,1,1,[.iface 147 (.agg #[.func (.func 131) #[] #[.pointer (some ⟨ab,0,none⟩)]])]⟩,brow bz bA 5 (([]:Bs) ++ [by8 0,by8 0,by8 0,by8 0] ++ be 2 84 ++ be 2 (IntKind.i16.wrap v))]:=bP.grow (k:=1) rfl cQ fP cR
  have bS:Fr _ [⟨b1,0,[.bool has,.string txt],true⟩,⟨ac,0,[.int .i16 (IntKind.i16.wrap v),.string ((aa.f 0).s),.slice ((aa.f 1).A) ((aa.f 1).l) ((aa.f 1).c),.map aa.m],true⟩,⟨af,0,[.bool has,.string txt],true⟩,⟨ae,0,[.pointer none],true⟩,⟨ab,0,[.string txt],true⟩,⟨ag,0,[.pointer (some ⟨ab,0,none⟩)],true⟩,⟨ah,0,[.func (.func 131) #[] #[.pointer (some ⟨ab,0,none⟩)]],true⟩] [⟨some ⟨au,0,none⟩,1,96,1,1,[.iface 147 (.agg #[.func (.func 131) #[] #[.pointer (some ⟨ab,0,none⟩)]])]⟩,brow bw bx 5 (([]:Bs) ++ [by8 0,by8 0,by8 0,by8 0] ++ be 2 84)] _ [⟨b1,0,[.bool has,.string txt],true⟩,⟨ac,0,[.int .i16 (IntKind.i16.wrap v),.string ((aa.f 0).s),.slice ((aa.f 1).A) ((aa.f 1).l) ((aa.f 1).c),.map aa.m],true⟩,⟨af,0,[.bool has,.string txt],true⟩,⟨ae,0,[.pointer none],true⟩,⟨ab,0,[.string txt],true⟩,⟨ag,0,[.pointer (some ⟨ab,0,none⟩)],true⟩,⟨ah,0,[.func (.func 131) #[] #[.pointer (some ⟨ab,0,none⟩)]],true⟩] [⟨some ⟨au,0,none⟩,1,96,1,1,[.iface 147 (.agg #[.func (.func 131) #[] #[.pointer (some ⟨ab,0,none⟩)]])]⟩,brow bz bA 5 (([]:Bs) ++ [by8 0,by8 0,by8 0,by8 0] ++ be 2 84 ++ be 2 (IntKind.i16.wrap v))]:=Fr.grow _ (k:=1) (r':=(brow bz bA 5 (([]:Bs) ++ [by8 0,by8 0,by8 0,by8 0] ++ be 2 84 ++ be 2 (IntKind.i16.wrap v)))) rfl cQ cR
  refine qal [3] [] [(0,.p 5 0),(1,.v (.slice bz ((([]:Bs) ++ [by8 0,by8 0,by8 0,by8 0] ++ be 2 84 ++ be 2 (IntKind.i16.wrap v)).length) bA)),(2,.v (.iface 65 (.pointer (some ⟨ac,0,none⟩)))),(3,.v (.int .i32 num)),(9,.v (.int .i16 84)),(10,.v (.int .i16 (IntKind.i16.wrap v)))] bR fQ fun ou fR=>?_
  refine qag (qab ?_)
  refine qae [0,1,2,3] kz ?_
  refine qal [0,1] [2,3] [(0,.p 5 0),(2,.v (.iface 65 (.pointer (some ⟨ac,0,none⟩)))),(9,.v (.int .i16 84)),(10,.v (.int .i16 (IntKind.i16.wrap v))),(25,.v (.slice bz ((([]:Bs) ++ [by8 0,by8 0,by8 0,by8 0] ++ be 2 84 ++ be 2 (IntKind.i16.wrap v)).length) bA)),(26,.v (.int .i32 num))] bR fR fun ov fS=>?_
  refine qao (qan fS (f:=133) (vs:=[.slice bz ((([]:Bs) ++ [by8 0,by8 0,by8 0,by8 0] ++ be 2 84 ++ be 2 (IntKind.i16.wrap v)).length) bA,.int .i32 num]) (d:=27) kz Tryz.call133 (qcE bz bA (([]:Bs) ++ [by8 0,by8 0,by8 0,by8 0] ++ be 2 84 ++ be 2 (IntKind.i16.wrap v)) num _ (bR.own 1 _ rfl) (by first | omega | (simp only [List.length_append,List.length_cons,List.length_nil,be_length,qbR]; omega) | (simp; omega))) ?_)
  rintro e_ ow ⟨aK,aL,rfl,fT,cS,cT⟩
  refine ⟨_,rfl,fun ox fU=>?_⟩
  have aM:WOk _ _ _ _ [⟨some ⟨au,0,none⟩,1,96,1,1,[.iface 147 (.agg #[.func (.func 131) #[] #[.pointer (some ⟨ab,0,none⟩)]])]⟩,brow aK aL 5 (([]:Bs) ++ [by8 0,by8 0,by8 0,by8 0] ++ be 2 84 ++ be 2 (IntKind.i16.wrap v) ++ be 4 num)]:=bR.grow (k:=1) rfl cS fT cT
  have bT:Fr _ [⟨b1,0,[.bool has,.string txt],true⟩,⟨ac,0,[.int .i16 (IntKind.i16.wrap v),.string ((aa.f 0).s),.slice ((aa.f 1).A) ((aa.f 1).l) ((aa.f 1).c),.map aa.m],true⟩,⟨af,0,[.bool has,.string txt],true⟩,⟨ae,0,[.pointer none],true⟩,⟨ab,0,[.string txt],true⟩,⟨ag,0,[.pointer (some ⟨ab,0,none⟩)],true⟩,⟨ah,0,[.func (.func 131) #[] #[.pointer (some ⟨ab,0,none⟩)]],true⟩] [⟨some ⟨au,0,none⟩,1,96,1,1,[.iface 147 (.agg #[.func (.func 131) #[] #[.pointer (some ⟨ab,0,none⟩)]])]⟩,brow bz bA 5 (([]:Bs) ++ [by8 0,by8 0,by8 0,by8 0] ++ be 2 84 ++ be 2 (IntKind.i16.wrap v))] _ [⟨b1,0,[.bool has,.string txt],true⟩,⟨ac,0,[.int .i16 (IntKind.i16.wrap v),.string ((aa.f 0).s),.slice ((aa.f 1).A) ((aa.f 1).l) ((aa.f 1).c),.map aa.m],true⟩,⟨af,0,[.bool has,.string txt],true⟩,⟨ae,0,[.pointer none],true⟩,⟨ab,0,[.string txt],true⟩,⟨ag,0,[.pointer (some ⟨ab,0,none⟩)],true⟩,⟨ah,0,[.func (.func 131) #[] #[.pointer (some ⟨ab,0,none⟩)]],true⟩] [⟨some ⟨au,0,none⟩,1,96,1,1,[.iface 147 (.agg #[.func (.func 131) #[] #[.pointer (some ⟨ab,0,none⟩)]])]⟩,brow aK aL 5 (([]:Bs) ++ [by8 0,by8 0,by8 0,by8 0] ++ be 2 84 ++ be 2 (IntKind.i16.wrap v) ++ be 4 num)]:=Fr.grow _ (k:=1) (r':=(brow aK aL 5 (([]:Bs) ++ [by8 0,by8 0,by8 0,by8 0] ++ be 2 84 ++ be 2 (IntKind.i16.wrap v) ++ be 4 num))) rfl cS cT
  refine qal [3] [] [(0,.p 5 0),(1,.v (.slice aK ((([]:Bs) ++ [by8 0,by8 0,by8 0,by8 0] ++ be 2 84 ++ be 2 (IntKind.i16.wrap v) ++ be 4 num).length) aL)),(2,.v (.iface 65 (.pointer (some ⟨ac,0,none⟩)))),(9,.v (.int .i16 84)),(10,.v (.int .i16 (IntKind.i16.wrap v)))] aM fU fun oy fV=>?_
  refine qag (qab ?_)
  refine wp_seq ?_
  refine qat [(0,.p 5 0),(1,.v (.slice aK ((([]:Bs) ++ [by8 0,by8 0,by8 0,by8 0] ++ be 2 84 ++ be 2 (IntKind.i16.wrap v) ++ be 4 num).length) aL)),(2,.v (.iface 65 (.pointer (some ⟨ac,0,none⟩)))),(33,.v (.bool false))] aM fV fun oz cU=>?_
  refine qav cU (b:=false) kz rfl ?_
  refine wp_skip ?_
  refine qab ?_
  refine qae [0,1,2,3,4,5,6] kz ?_
  refine qal [0,1,2,3,4] [5,6] [(2,.v (.iface 65 (.pointer (some ⟨ac,0,none⟩)))),(35,.v (.slice aK ((([]:Bs) ++ [by8 0,by8 0,by8 0,by8 0] ++ be 2 84 ++ be 2 (IntKind.i16.wrap v) ++ be 4 num).length) aL)),(39,.v (.pointer (some ⟨ab,0,none⟩)))] aM cU fun oA fW=>?_
  refine qao (qba fW (f:=134) (vs:=[.slice aK ((([]:Bs) ++ [by8 0,by8 0,by8 0,by8 0] ++ be 2 84 ++ be 2 (IntKind.i16.wrap v) ++ be 4 num).length) aL,.pointer (some ⟨ab,0,none⟩)]) (d:=40) (n':=14) kz Tryz.call134 Tryz.func134 rfl Tryz.ntmps134 kz fun oB fX=>?_)
  refine qat [(0,.v (.slice aK ((([]:Bs) ++ [by8 0,by8 0,by8 0,by8 0] ++ be 2 84 ++ be 2 (IntKind.i16.wrap v) ++ be 4 num).length) aL)),(1,.v (.pointer (some ⟨ab,0,none⟩)))] aM fX fun oC fY=>?_
  refine wp_seq ?_
  refine qat [(0,.v (.slice aK ((([]:Bs) ++ [by8 0,by8 0,by8 0,by8 0] ++ be 2 84 ++ be 2 (IntKind.i16.wrap v) ++ be 4 num).length) aL)),(1,.v (.pointer (some ⟨ab,0,none⟩))),(6,.v (.bool false))] aM fY fun oD cV=>?_
  refine qav cV (b:=false) kz rfl ?_
  refine wp_skip ?_
  refine qab ?_
  refine qae [0,1,2,3,4,5] kz ?_
  refine qal [0,1,2] [3,4,5] [(9,.v (.slice aK ((([]:Bs) ++ [by8 0,by8 0,by8 0,by8 0] ++ be 2 84 ++ be 2 (IntKind.i16.wrap v) ++ be 4 num).length) aL)),(11,.v (.pointer (some ⟨ab,0,none⟩)))] aM cV fun oE fZ=>?_
  have dS:=(Str.of aM 4 rfl).atF.at_
  refine qao (qaH fZ (t:=9) (b:=ab) (o:=0) (d:=12) kz (cs:=[.string txt]) (v:=.string txt) kz dS fun oF f5=>?_)
  refine qao (qan f5 (f:=156) (vs:=[.slice aK ((([]:Bs) ++ [by8 0,by8 0,by8 0,by8 0] ++ be 2 84 ++ be 2 (IntKind.i16.wrap v) ++ be 4 num).length) aL,.string txt]) (d:=13) kz Tryz.call156 (qew txt aK aL (([]:Bs) ++ [by8 0,by8 0,by8 0,by8 0] ++ be 2 84 ++ be 2 (IntKind.i16.wrap v) ++ be 4 num) _ (aM.own 1 _ rfl) (by first | omega | (simp only [List.length_append,List.length_cons,List.length_nil,be_length,qbR]; omega) | (simp; omega))) ?_)
  rintro e_ oG ⟨aF,aG,rfl,f8,cW,cX⟩
  refine ⟨_,rfl,fun oH f9=>?_⟩
  have ax:WOk _ _ _ _ [⟨some ⟨au,0,none⟩,1,96,1,1,[.iface 147 (.agg #[.func (.func 131) #[] #[.pointer (some ⟨ab,0,none⟩)]])]⟩,brow aF aG 5 ((([]:Bs) ++ [by8 0,by8 0,by8 0,by8 0] ++ be 2 84 ++ be 2 (IntKind.i16.wrap v) ++ be 4 num) ++ (be 2 txt.size ++ sb txt))]:=aM.grow (k:=1) rfl cW f8 cX
  have bU:=Fr.grow [⟨b1,0,[.bool has,.string txt],true⟩,⟨ac,0,[.int .i16 (IntKind.i16.wrap v),.string ((aa.f 0).s),.slice ((aa.f 1).A) ((aa.f 1).l) ((aa.f 1).c),.map aa.m],true⟩,⟨af,0,[.bool has,.string txt],true⟩,⟨ae,0,[.pointer none],true⟩,⟨ab,0,[.string txt],true⟩,⟨ag,0,[.pointer (some ⟨ab,0,none⟩)],true⟩,⟨ah,0,[.func (.func 131) #[] #[.pointer (some ⟨ab,0,none⟩)]],true⟩] (k:=1) (rs:=[⟨some ⟨au,0,none⟩,1,96,1,1,[.iface 147 (.agg #[.func (.func 131) #[] #[.pointer (some ⟨ab,0,none⟩)]])]⟩,brow aK aL 5 (([]:Bs) ++ [by8 0,by8 0,by8 0,by8 0] ++ be 2 84 ++ be 2 (IntKind.i16.wrap v) ++ be 4 num)]) (r':=(brow aF aG 5 ((([]:Bs) ++ [by8 0,by8 0,by8 0,by8 0] ++ be 2 84 ++ be 2 (IntKind.i16.wrap v) ++ be 4 num) ++ (be 2 txt.size ++ sb txt)))) rfl cW cX
  refine qal [5] [] [(4,.v (.slice aF (((([]:Bs) ++ [by8 0,by8 0,by8 0,by8 0] ++ be 2 84 ++ be 2 (IntKind.i16.wrap v) ++ be 4 num) ++ (be 2 txt.size ++ sb txt)).length) aG))] ax f9 fun oI ga=>?_
  refine qag (qab ?_)
  refine wp_ret ?_
  refine qaG ga ax.cells (v:=.slice aF (((([]:Bs) ++ [by8 0,by8 0,by8 0,by8 0] ++ be 2 84 ++ be 2 (IntKind.i16.wrap v) ++ be 4 num) ++ (be 2 txt.size ++ sb txt)).length) aG) kz ?_
  refine ⟨_,rfl,fun oJ gb=>?_⟩
  have gc:=(EnvOk.places (tb':=[⟨b1,0,[.bool has,.string txt],true⟩,⟨ac,0,[.int .i16 (IntKind.i16.wrap v),.string ((aa.f 0).s),.slice ((aa.f 1).A) ((aa.f 1).l) ((aa.f 1).c),.map aa.m],true⟩,⟨af,0,[.bool has,.string txt],true⟩,⟨ae,0,[.pointer none],true⟩,⟨ab,0,[.string txt],true⟩,⟨ag,0,[.pointer (some ⟨ab,0,none⟩)],true⟩,⟨ah,0,[.func (.func 131) #[] #[.pointer (some ⟨ab,0,none⟩)]],true⟩]) gb (show Pl [⟨b1,0,[.bool has,.string txt],true⟩,⟨ac,0,[.int .i16 (IntKind.i16.wrap v),.string ((aa.f 0).s),.slice ((aa.f 1).A) ((aa.f 1).l) ((aa.f 1).c),.map aa.m],true⟩,⟨af,0,[.bool has,.string txt],true⟩,⟨ae,0,[.pointer none],true⟩,⟨ab,0,[.string txt],true⟩,⟨ag,0,[.pointer (some ⟨ab,0,none⟩)],true⟩,⟨ah,0,[.func (.func 131) #[] #[.pointer (some ⟨ab,0,none⟩)]],true⟩] [⟨b1,0,[.bool has,.string txt],true⟩,⟨ac,0,[.int .i16 (IntKind.i16.wrap v),.string ((aa.f 0).s),.slice ((aa.f 1).A) ((aa.f 1).l) ((aa.f 1).c),.map aa.m],true⟩,⟨af,0,[.bool has,.string txt],true⟩,⟨ae,0,[.pointer none],true⟩,⟨ab,0,[.string txt],true⟩,⟨ag,0,[.pointer (some ⟨ab,0,none⟩)],true⟩,⟨ah,0,[.func (.func 131) #[] #[.pointer (some ⟨ab,0,none⟩)]],true⟩] from ⟨rfl,rfl,⟨rfl,rfl,⟨rfl,rfl,⟨rfl,rfl,⟨rfl,rfl,⟨rfl,rfl,⟨rfl,rfl,trivial⟩⟩⟩⟩⟩⟩⟩)).pk (env':=[(40,.v (.slice aF (((([]:Bs) ++ [by8 0,by8 0,by8 0,by8 0] ++ be 2 84 ++ be 2 (IntKind.i16.wrap v) ++ be 4 num) ++ (be 2 txt.size ++ sb txt)).length) aG)),(2,.v (.iface 65 (.pointer (some ⟨ac,0,none⟩)))),(35,.v (.slice aK ((([]:Bs) ++ [by8 0,by8 0,by8 0,by8 0] ++ be 2 84 ++ be 2 (IntKind.i16.wrap v) ++ be 4 num).length) aL)),(39,.v (.pointer (some ⟨ab,0,none⟩)))])
  refine qal [6] [] [(1,.v (.slice aF (((([]:Bs) ++ [by8 0,by8 0,by8 0,by8 0] ++ be 2 84 ++ be 2 (IntKind.i16.wrap v) ++ be 4 num) ++ (be 2 txt.size ++ sb txt)).length) aG)),(2,.v (.iface 65 (.pointer (some ⟨ac,0,none⟩))))] ax gc fun oK gd=>?_
  refine qag (qab ?_)
  refine wp_seq ?_
  refine qae [0,1] kz ?_
  refine qal [0] [1] [(1,.v (.slice aF (((([]:Bs) ++ [by8 0,by8 0,by8 0,by8 0] ++ be 2 84 ++ be 2 (IntKind.i16.wrap v) ++ be 4 num) ++ (be 2 txt.size ++ sb txt)).length) aG)),(2,.v (.iface 65 (.pointer (some ⟨ac,0,none⟩)))),(41,.v (.iface 65 (.pointer (some ⟨ac,0,none⟩))))] ax gd fun oL ge=>?_
  refine qao (qcc ge (t := 65) (v := (.pointer (some ⟨ac, 0, none⟩))) (v' := (.pointer (some ⟨ac, 0, none⟩))) (name := "IsFlexible") (f := 243) (vs := []) (d := 42) (n' := 8) kz (fun _ => by kernel_rfl) Tryz.call243 Tryz.func243 rfl Tryz.ntmps243 kz fun oM gg => ?_)
  have gh:=gg.recast 0 (.v (.pointer (some ⟨ac,0,none⟩))) (.p 1 0) rfl rfl (Nat.le_of_ble_eq_true (n:=2) rfl)
  refine qat [(0,.p 1 0)] ax gh fun oN gi=>?_
  refine qat [(2,.v (.bool (decide ((IntKind.i16.wrap v) ≥ 0))))] ax gi fun oO gj=>?_
  refine wp_ret ?_
  refine qaG gj ax.cells (v:=.bool (decide ((IntKind.i16.wrap v) ≥ 0))) kz ?_
  refine ⟨_,rfl,fun oP gk=>?_⟩
  have cE:=(EnvOk.places (tb':=[⟨b1,0,[.bool has,.string txt],true⟩,⟨ac,0,[.int .i16 (IntKind.i16.wrap v),.string ((aa.f 0).s),.slice ((aa.f 1).A) ((aa.f 1).l) ((aa.f 1).c),.map aa.m],true⟩,⟨af,0,[.bool has,.string txt],true⟩,⟨ae,0,[.pointer none],true⟩,⟨ab,0,[.string txt],true⟩,⟨ag,0,[.pointer (some ⟨ab,0,none⟩)],true⟩,⟨ah,0,[.func (.func 131) #[] #[.pointer (some ⟨ab,0,none⟩)]],true⟩]) gk (show Pl [⟨b1,0,[.bool has,.string txt],true⟩,⟨ac,0,[.int .i16 (IntKind.i16.wrap v),.string ((aa.f 0).s),.slice ((aa.f 1).A) ((aa.f 1).l) ((aa.f 1).c),.map aa.m],true⟩,⟨af,0,[.bool has,.string txt],true⟩,⟨ae,0,[.pointer none],true⟩,⟨ab,0,[.string txt],true⟩,⟨ag,0,[.pointer (some ⟨ab,0,none⟩)],true⟩,⟨ah,0,[.func (.func 131) #[] #[.pointer (some ⟨ab,0,none⟩)]],true⟩] [⟨b1,0,[.bool has,.string txt],true⟩,⟨ac,0,[.int .i16 (IntKind.i16.wrap v),.string ((aa.f 0).s),.slice ((aa.f 1).A) ((aa.f 1).l) ((aa.f 1).c),.map aa.m],true⟩,⟨af,0,[.bool has,.string txt],true⟩,⟨ae,0,[.pointer none],true⟩,⟨ab,0,[.string txt],true⟩,⟨ag,0,[.pointer (some ⟨ab,0,none⟩)],true⟩,⟨ah,0,[.func (.func 131) #[] #[.pointer (some ⟨ab,0,none⟩)]],true⟩] from ⟨rfl,rfl,⟨rfl,rfl,⟨rfl,rfl,⟨rfl,rfl,⟨rfl,rfl,⟨rfl,rfl,⟨rfl,rfl,trivial⟩⟩⟩⟩⟩⟩⟩)).pk (env':=[(42,.v (.bool (decide ((IntKind.i16.wrap v) ≥ 0)))),(1,.v (.slice aF (((([]:Bs) ++ [by8 0,by8 0,by8 0,by8 0] ++ be 2 84 ++ be 2 (IntKind.i16.wrap v) ++ be 4 num) ++ (be 2 txt.size ++ sb txt)).length) aG)),(2,.v (.iface 65 (.pointer (some ⟨ac,0,none⟩)))),(41,.v (.iface 65 (.pointer (some ⟨ac,0,none⟩))))])
  refine qag (qab ?_)
  refine qaB cE (b:=decide ((IntKind.i16.wrap v) ≥ 0)) kz (fun bf=>?_) (fun bf=>?_)
  ·
   have mn:=of_decide_eq_true bf
   refine qat [(1,.v (.slice aF (((([]:Bs) ++ [by8 0,by8 0,by8 0,by8 0] ++ be 2 84 ++ be 2 (IntKind.i16.wrap v) ++ be 4 num) ++ (be 2 txt.size ++ sb txt)).length) aG)),(2,.v (.iface 65 (.pointer (some ⟨ac,0,none⟩)))),(11,.v (.int .u8 0))] ax cE fun oQ gl=>?_
   refine qae [0,1,2,3,4] kz ?_
   refine qal [0,1] [2,3,4] [(2,.v (.iface 65 (.pointer (some ⟨ac,0,none⟩)))),(11,.v (.int .u8 0)),(43,.v (.slice aF (((([]:Bs) ++ [by8 0,by8 0,by8 0,by8 0] ++ be 2 84 ++ be 2 (IntKind.i16.wrap v) ++ be 4 num) ++ (be 2 txt.size ++ sb txt)).length) aG)),(44,.v (.int .u8 0))] ax gl fun oR gm=>?_
   refine qbt ax gm (k:=1) (e:=5) (size:=1) (len:=1) (cs:=[.int .u8 0]) (d1:=45) (d:=46) kz (t:=24) (bytes:=1) kz (fun _=>by kernel_rfl) rfl kz (by first | omega | (simp only [List.length_append,List.length_cons,List.length_nil,be_length,qbR]; omega) | (simp; omega)) fun bg bh oS oT cY gn ⟨_,gp⟩=>?_
   have gq:(⟨bg,bh,5,1,((([]:Bs) ++ [by8 0,by8 0,by8 0,by8 0] ++ be 2 84 ++ be 2 (IntKind.i16.wrap v) ++ be 4 num) ++ (be 2 txt.size ++ sb txt)).length + 1,bc ((([]:Bs) ++ [by8 0,by8 0,by8 0,by8 0] ++ be 2 84 ++ be 2 (IntKind.i16.wrap v) ++ be 4 num) ++ (be 2 txt.size ++ sb txt)) ++ [.int .u8 0]⟩:Rw) = brow bg bh 5 ((([]:Bs) ++ [by8 0,by8 0,by8 0,by8 0] ++ be 2 84 ++ be 2 (IntKind.i16.wrap v) ++ be 4 num) ++ (be 2 txt.size ++ sb txt) ++ [by8 0]):=qa3 (by simp only [bc,List.map,qbI]; try rfl) rfl
   obtain ⟨bt,cZ⟩:=gn.rowEq 1 [⟨some ⟨au,0,none⟩,1,96,1,1,[.iface 147 (.agg #[.func (.func 131) #[] #[.pointer (some ⟨ab,0,none⟩)]])]⟩,brow bg bh 5 ((([]:Bs) ++ [by8 0,by8 0,by8 0,by8 0] ++ be 2 84 ++ be 2 (IntKind.i16.wrap v) ++ be 4 num) ++ (be 2 txt.size ++ sb txt) ++ [by8 0])] gq
   have gt:=EnvOk.pick gp (ks:=[2,11,43,44,46]) (env':=[(2,.v (.iface 65 (.pointer (some ⟨ac,0,none⟩)))),(11,.v (.int .u8 0)),(43,.v (.slice aF (((([]:Bs) ++ [by8 0,by8 0,by8 0,by8 0] ++ be 2 84 ++ be 2 (IntKind.i16.wrap v) ++ be 4 num) ++ (be 2 txt.size ++ sb txt)).length) aG)),(44,.v (.int .u8 0)),(46,.v (.slice bg (((([]:Bs) ++ [by8 0,by8 0,by8 0,by8 0] ++ be 2 84 ++ be 2 (IntKind.i16.wrap v) ++ be 4 num) ++ (be 2 txt.size ++ sb txt)).length + 1) bh))]) kz
   have gv:=gt.cast (env':=[(2,.v (.iface 65 (.pointer (some ⟨ac,0,none⟩)))),(11,.v (.int .u8 0)),(43,.v (.slice aF (((([]:Bs) ++ [by8 0,by8 0,by8 0,by8 0] ++ be 2 84 ++ be 2 (IntKind.i16.wrap v) ++ be 4 num) ++ (be 2 txt.size ++ sb txt)).length) aG)),(44,.v (.int .u8 0)),(46,.v (.slice bg (((([]:Bs) ++ [by8 0,by8 0,by8 0,by8 0] ++ be 2 84 ++ be 2 (IntKind.i16.wrap v) ++ be 4 num) ++ (be 2 txt.size ++ sb txt) ++ [by8 0]).length) bh))]) (by simp only [List.length_append,List.length_cons,List.length_nil,Nat.zero_add])
   refine qal [4] [] [(1,.v (.slice bg (((([]:Bs) ++ [by8 0,by8 0,by8 0,by8 0] ++ be 2 84 ++ be 2 (IntKind.i16.wrap v) ++ be 4 num) ++ (be 2 txt.size ++ sb txt) ++ [by8 0]).length) bh)),(2,.v (.iface 65 (.pointer (some ⟨ac,0,none⟩)))),(11,.v (.int .u8 0))] bt gv fun oU gw=>?_
   refine qag (qab ?_)
   refine qat [(1,.v (.slice bg (((([]:Bs) ++ [by8 0,by8 0,by8 0,by8 0] ++ be 2 84 ++ be 2 (IntKind.i16.wrap v) ++ be 4 num) ++ (be 2 txt.size ++ sb txt) ++ [by8 0]).length) bh)),(2,.v (.iface 65 (.pointer (some ⟨ac,0,none⟩)))),(48,.v (.bool false))] bt gw fun oV c5=>?_
   refine qav c5 (b:=false) kz rfl ?_
   refine wp_skip ?_
   refine qab ?_
   refine qae [0,1,2,3] kz ?_
   refine qal [0,1] [2,3] [(49,.v (.iface 65 (.pointer (some ⟨ac,0,none⟩)))),(50,.v (.slice bg (((([]:Bs) ++ [by8 0,by8 0,by8 0,by8 0] ++ be 2 84 ++ be 2 (IntKind.i16.wrap v) ++ be 4 num) ++ (be 2 txt.size ++ sb txt) ++ [by8 0]).length) bh))] bt c5 fun oW gx=>?_
   have gy:=(qaM _ (((((((((((((((aP.trans aQ).trans bG).trans bI).trans bJ).trans bK).trans bL).trans bM).trans bN).trans bO).trans bQ).trans bS).trans bT).trans bU).trans cY).trans cZ).step immM (((((((((((((((aP.trans aQ).trans bG).trans bI).trans bJ).trans bK).trans bL).trans bM).trans bN).trans bO).trans bQ).trans bS).trans bT).trans bU).trans cY).trans cZ).to' cJ)
   have dT:=bt.strImm (G:=F) 1 rfl
   have hk_:=qaM _ (Step.refl _ Nil) nilM (fun b o h_ _=>qga h_) gy
   refine qao (qc1 gx (t := 65) (v := (.pointer (some ⟨ac, 0, none⟩))) (v' := (.pointer (some ⟨ac, 0, none⟩))) (name := "AppendTo") (f := 241) (vs := [.slice bg (((([] : Bs) ++ [by8 0, by8 0, by8 0, by8 0] ++ be 2 84 ++ be 2 (IntKind.i16.wrap v) ++ be 4 num) ++ (be 2 txt.size ++ sb txt) ++ [by8 0]).length) bh]) (d := 51) kz (fun _ => by kernel_rfl) Tryz.call241 (qbp (IntKind.i16.wrap v) aa ac 0 bg bh ((([] : Bs) ++ [by8 0, by8 0, by8 0, by8 0] ++ be 2 84 ++ be 2 (IntKind.i16.wrap v) ++ be 4 num) ++ (be 2 txt.size ++ sb txt) ++ [by8 0]) _ _ dT hk_ (qf8 1 rfl) (bt.own 1 _ rfl) (by first | omega | (simp only [List.length_append, List.length_cons, List.length_nil, be_length, qbR]; omega) | (simp; omega))) ?_)
   rintro e_ oX ⟨ai,aj,rfl,gz,da,db⟩
   refine ⟨_,rfl,fun oY gA=>?_⟩
   have dc:WOk _ _ _ _ [⟨some ⟨au,0,none⟩,1,96,1,1,[.iface 147 (.agg #[.func (.func 131) #[] #[.pointer (some ⟨ab,0,none⟩)]])]⟩,brow ai aj 5 (((([]:Bs) ++ [by8 0,by8 0,by8 0,by8 0] ++ be 2 84 ++ be 2 (IntKind.i16.wrap v) ++ be 4 num) ++ (be 2 txt.size ++ sb txt) ++ [by8 0]) ++ qaa (IntKind.i16.wrap v) aa)]:=bt.grow (k:=1) rfl da gz db
   have mo:=Fr.grow [⟨b1,0,[.bool has,.string txt],true⟩,⟨ac,0,[.int .i16 (IntKind.i16.wrap v),.string ((aa.f 0).s),.slice ((aa.f 1).A) ((aa.f 1).l) ((aa.f 1).c),.map aa.m],true⟩,⟨af,0,[.bool has,.string txt],true⟩,⟨ae,0,[.pointer none],true⟩,⟨ab,0,[.string txt],true⟩,⟨ag,0,[.pointer (some ⟨ab,0,none⟩)],true⟩,⟨ah,0,[.func (.func 131) #[] #[.pointer (some ⟨ab,0,none⟩)]],true⟩] (k:=1) (rs:=[⟨some ⟨au,0,none⟩,1,96,1,1,[.iface 147 (.agg #[.func (.func 131) #[] #[.pointer (some ⟨ab,0,none⟩)]])]⟩,brow bg bh 5 ((([]:Bs) ++ [by8 0,by8 0,by8 0,by8 0] ++ be 2 84 ++ be 2 (IntKind.i16.wrap v) ++ be 4 num) ++ (be 2 txt.size ++ sb txt) ++ [by8 0])]) (r':=(brow ai aj 5 (((([]:Bs) ++ [by8 0,by8 0,by8 0,by8 0] ++ be 2 84 ++ be 2 (IntKind.i16.wrap v) ++ be 4 num) ++ (be 2 txt.size ++ sb txt) ++ [by8 0]) ++ qaa (IntKind.i16.wrap v) aa))) rfl da db
   refine qal [3] [] [(1,.v (.slice ai ((((([]:Bs) ++ [by8 0,by8 0,by8 0,by8 0] ++ be 2 84 ++ be 2 (IntKind.i16.wrap v) ++ be 4 num) ++ (be 2 txt.size ++ sb txt) ++ [by8 0]) ++ qaa (IntKind.i16.wrap v) aa).length) aj))] dc gA fun oZ gB=>?_
   refine qag (qab ?_)
   refine qbl 7 kz dc fun o5 mp bV bi=>?_
   refine qa7 [0,2] [(1,.v (.slice ai ((((([]:Bs) ++ [by8 0,by8 0,by8 0,by8 0] ++ be 2 84 ++ be 2 (IntKind.i16.wrap v) ++ be 4 num) ++ (be 2 txt.size ++ sb txt) ++ [by8 0]) ++ qaa (IntKind.i16.wrap v) aa).length) aj)),(52,.v (.slice ai ((((([]:Bs) ++ [by8 0,by8 0,by8 0,by8 0] ++ be 2 84 ++ be 2 (IntKind.i16.wrap v) ++ be 4 num) ++ (be 2 txt.size ++ sb txt) ++ [by8 0]) ++ qaa (IntKind.i16.wrap v) aa).length) aj)),(54,.v (.slice ai ((((([]:Bs) ++ [by8 0,by8 0,by8 0,by8 0] ++ be 2 84 ++ be 2 (IntKind.i16.wrap v) ++ be 4 num) ++ (be 2 txt.size ++ sb txt) ++ [by8 0]) ++ qaa (IntKind.i16.wrap v) aa).length) aj))] 5 (qac qak) (fun _ h=>h.cells) bi gB fun o6 de=>?_
   refine qeE (i:=1) (j:=3) kz ?_ ?_
   ·
    refine (qbz de (t:=24) (A:=ai) (m:=(((([]:Bs) ++ [by8 0,by8 0,by8 0,by8 0] ++ be 2 84 ++ be 2 (IntKind.i16.wrap v) ++ be 4 num) ++ (be 2 txt.size ++ sb txt) ++ [by8 0]) ++ qaa (IntKind.i16.wrap v) aa).length) (cp:=aj) (q:=0) (d:=53) (j:=0) kz (e:=5) (size:=1) (bytes:=1) kz (rfl) (by omega) fun o7 gC=>?_)
    refine ⟨fun _=>bi,?_⟩
    refine qaP (i:=3) kz (qbA gC (t:=24) (A:=ai) (m:=((((([]:Bs) ++ [by8 0,by8 0,by8 0,by8 0] ++ be 2 84 ++ be 2 (IntKind.i16.wrap v) ++ be 4 num) ++ (be 2 txt.size ++ sb txt) ++ [by8 0]) ++ qaa (IntKind.i16.wrap v) aa).length)) (cp:=aj) (q:=4) (d:=55) (j:=4) kz (e:=5) (bytes:=1) kz (rfl) (by first | omega | (simp only [List.length_append,List.length_cons,List.length_nil]; omega)) fun o9 gD=>?_)
    refine ⟨fun _=>bi,?_⟩
    refine qa7 [4,5] [(1,.v (.slice ai ((((([]:Bs) ++ [by8 0,by8 0,by8 0,by8 0] ++ be 2 84 ++ be 2 (IntKind.i16.wrap v) ++ be 4 num) ++ (be 2 txt.size ++ sb txt) ++ [by8 0]) ++ qaa (IntKind.i16.wrap v) aa).length) aj)),(53,.v (.slice ai 0 aj)),(57,.v (.int .i32 (IntKind.i32.wrap ((((((([]:Bs) ++ [by8 0,by8 0,by8 0,by8 0] ++ be 2 84 ++ be 2 (IntKind.i16.wrap v) ++ be 4 num) ++ (be 2 txt.size ++ sb txt) ++ [by8 0]) ++ qaa (IntKind.i16.wrap v) aa).length) - 4:Nat):Int))))] 1 (qac qak) (fun _ h=>h.cells) bi gD fun pa gE=>?_
    refine qaP (i:=6) kz (qan gE (f:=133) (vs:=[.slice ai 0 aj,.int .i32 (IntKind.i32.wrap ((((((([]:Bs) ++ [by8 0,by8 0,by8 0,by8 0] ++ be 2 84 ++ be 2 (IntKind.i16.wrap v) ++ be 4 num) ++ (be 2 txt.size ++ sb txt) ++ [by8 0]) ++ qaa (IntKind.i16.wrap v) aa).length) - 4:Nat):Int))]) (d:=58) kz Tryz.call133 (qbE (IntKind.i32.wrap ((((((([]:Bs) ++ [by8 0,by8 0,by8 0,by8 0] ++ be 2 84 ++ be 2 (IntKind.i16.wrap v) ++ be 4 num) ++ (be 2 txt.size ++ sb txt) ++ [by8 0]) ++ qaa (IntKind.i16.wrap v) aa).length) - 4:Nat):Int)) ai aj (((([]:Bs) ++ [by8 0,by8 0,by8 0,by8 0] ++ be 2 84 ++ be 2 (IntKind.i16.wrap v) ++ be 4 num) ++ (be 2 txt.size ++ sb txt) ++ [by8 0]) ++ qaa (IntKind.i16.wrap v) aa) _ (bV.own 1 _ rfl) (by simp only [List.length_append,List.length_cons,List.length_nil]; omega)) ?_)
    rintro e_ pb ⟨rfl,gF,df⟩
    refine ⟨_,rfl,fun pc gG=>?_⟩
    have aR:WOk _ _ _ _ [⟨some ⟨au,0,none⟩,1,96,1,1,[.iface 147 (.agg #[.func (.func 131) #[] #[.pointer (some ⟨ab,0,none⟩)]])]⟩,⟨ai,aj,5,1,(((([]:Bs) ++ [by8 0,by8 0,by8 0,by8 0] ++ be 2 84 ++ be 2 (IntKind.i16.wrap v) ++ be 4 num) ++ (be 2 txt.size ++ sb txt) ++ [by8 0]) ++ qaa (IntKind.i16.wrap v) aa).length,bc (be 4 (IntKind.i32.wrap ((((((([]:Bs) ++ [by8 0,by8 0,by8 0,by8 0] ++ be 2 84 ++ be 2 (IntKind.i16.wrap v) ++ be 4 num) ++ (be 2 txt.size ++ sb txt) ++ [by8 0]) ++ qaa (IntKind.i16.wrap v) aa).length) - 4:Nat):Int)) ++ (((([]:Bs) ++ [by8 0,by8 0,by8 0,by8 0] ++ be 2 84 ++ be 2 (IntKind.i16.wrap v) ++ be 4 num) ++ (be 2 txt.size ++ sb txt) ++ [by8 0]) ++ qaa (IntKind.i16.wrap v) aa).drop 4)⟩]:=bV.grow (k:=1) (r':=⟨ai,aj,5,1,(((([]:Bs) ++ [by8 0,by8 0,by8 0,by8 0] ++ be 2 84 ++ be 2 (IntKind.i16.wrap v) ++ be 4 num) ++ (be 2 txt.size ++ sb txt) ++ [by8 0]) ++ qaa (IntKind.i16.wrap v) aa).length,bc (be 4 (IntKind.i32.wrap ((((((([]:Bs) ++ [by8 0,by8 0,by8 0,by8 0] ++ be 2 84 ++ be 2 (IntKind.i16.wrap v) ++ be 4 num) ++ (be 2 txt.size ++ sb txt) ++ [by8 0]) ++ qaa (IntKind.i16.wrap v) aa).length) - 4:Nat):Int)) ++ (((([]:Bs) ++ [by8 0,by8 0,by8 0,by8 0] ++ be 2 84 ++ be 2 (IntKind.i16.wrap v) ++ be 4 num) ++ (be 2 txt.size ++ sb txt) ++ [by8 0]) ++ qaa (IntKind.i16.wrap v) aa).drop 4)⟩) rfl df gF (fun g' hg'=>.inl hg')
    have gH:=Fr.grow [⟨b1,0,[.bool has,.string txt],true⟩,⟨ac,0,[.int .i16 (IntKind.i16.wrap v),.string ((aa.f 0).s),.slice ((aa.f 1).A) ((aa.f 1).l) ((aa.f 1).c),.map aa.m],true⟩,⟨af,0,[.bool has,.string txt],true⟩,⟨ae,0,[.pointer none],true⟩,⟨ab,0,[.string txt],true⟩,⟨ag,0,[.pointer (some ⟨ab,0,none⟩)],true⟩,⟨ah,0,[.func (.func 131) #[] #[.pointer (some ⟨ab,0,none⟩)]],true⟩] (k:=1) (rs:=[⟨some ⟨au,0,none⟩,1,96,1,1,[.iface 147 (.agg #[.func (.func 131) #[] #[.pointer (some ⟨ab,0,none⟩)]])]⟩,brow ai aj 5 (((([]:Bs) ++ [by8 0,by8 0,by8 0,by8 0] ++ be 2 84 ++ be 2 (IntKind.i16.wrap v) ++ be 4 num) ++ (be 2 txt.size ++ sb txt) ++ [by8 0]) ++ qaa (IntKind.i16.wrap v) aa)]) (r':=⟨ai,aj,5,1,(((([]:Bs) ++ [by8 0,by8 0,by8 0,by8 0] ++ be 2 84 ++ be 2 (IntKind.i16.wrap v) ++ be 4 num) ++ (be 2 txt.size ++ sb txt) ++ [by8 0]) ++ qaa (IntKind.i16.wrap v) aa).length,bc (be 4 (IntKind.i32.wrap ((((((([]:Bs) ++ [by8 0,by8 0,by8 0,by8 0] ++ be 2 84 ++ be 2 (IntKind.i16.wrap v) ++ be 4 num) ++ (be 2 txt.size ++ sb txt) ++ [by8 0]) ++ qaa (IntKind.i16.wrap v) aa).length) - 4:Nat):Int)) ++ (((([]:Bs) ++ [by8 0,by8 0,by8 0,by8 0] ++ be 2 84 ++ be 2 (IntKind.i16.wrap v) ++ be 4 num) ++ (be 2 txt.size ++ sb txt) ++ [by8 0]) ++ qaa (IntKind.i16.wrap v) aa).drop 4)⟩) rfl df (fun g' hg'=>.inl hg')
    have gI:=TT.ofW gH aR
    refine ⟨fun _=>gI,?_⟩
    refine qa2 kz ?_ _
    refine qab ?_
    refine qat [(8,.v (.slice ai ((((([]:Bs) ++ [by8 0,by8 0,by8 0,by8 0] ++ be 2 84 ++ be 2 (IntKind.i16.wrap v) ++ be 4 num) ++ (be 2 txt.size ++ sb txt) ++ [by8 0]) ++ qaa (IntKind.i16.wrap v) aa).length) aj))] aR gG fun pd gJ=>?_
    refine wp_ret ?_
    refine qaG gJ aR.cells (v:=.slice ai ((((([]:Bs) ++ [by8 0,by8 0,by8 0,by8 0] ++ be 2 84 ++ be 2 (IntKind.i16.wrap v) ++ be 4 num) ++ (be 2 txt.size ++ sb txt) ++ [by8 0]) ++ qaa (IntKind.i16.wrap v) aa).length) aj) kz ?_
    refine ⟨_,rfl,fun pe gK=>?_⟩
    have gL:=(EnvOk.places (tb':=[⟨b1,0,[.bool has,.string txt],true⟩,⟨ac,0,[.int .i16 (IntKind.i16.wrap v),.string ((aa.f 0).s),.slice ((aa.f 1).A) ((aa.f 1).l) ((aa.f 1).c),.map aa.m],true⟩,⟨af,0,[.bool has,.string txt],true⟩,⟨ae,0,[.pointer none],true⟩,⟨ab,0,[.string txt],true⟩,⟨ag,0,[.pointer (some ⟨ab,0,none⟩)],true⟩,⟨ah,0,[.func (.func 131) #[] #[.pointer (some ⟨ab,0,none⟩)]],true⟩]) gK (show Pl [⟨b1,0,[.bool has,.string txt],true⟩,⟨ac,0,[.int .i16 (IntKind.i16.wrap v),.string ((aa.f 0).s),.slice ((aa.f 1).A) ((aa.f 1).l) ((aa.f 1).c),.map aa.m],true⟩,⟨af,0,[.bool has,.string txt],true⟩,⟨ae,0,[.pointer none],true⟩,⟨ab,0,[.string txt],true⟩,⟨ag,0,[.pointer (some ⟨ab,0,none⟩)],true⟩,⟨ah,0,[.func (.func 131) #[] #[.pointer (some ⟨ab,0,none⟩)]],true⟩] [⟨b1,0,[.bool has,.string txt],true⟩,⟨ac,0,[.int .i16 (IntKind.i16.wrap v),.string ((aa.f 0).s),.slice ((aa.f 1).A) ((aa.f 1).l) ((aa.f 1).c),.map aa.m],true⟩,⟨af,0,[.bool has,.string txt],true⟩,⟨ae,0,[.pointer none],true⟩,⟨ab,0,[.string txt],true⟩,⟨ag,0,[.pointer (some ⟨ab,0,none⟩)],true⟩,⟨ah,0,[.func (.func 131) #[] #[.pointer (some ⟨ab,0,none⟩)]],true⟩] from ⟨rfl,rfl,⟨rfl,rfl,⟨rfl,rfl,⟨rfl,rfl,⟨rfl,rfl,⟨rfl,rfl,⟨rfl,rfl,trivial⟩⟩⟩⟩⟩⟩⟩)).pk (env':=[(19,.v (.slice ai ((((([]:Bs) ++ [by8 0,by8 0,by8 0,by8 0] ++ be 2 84 ++ be 2 (IntKind.i16.wrap v) ++ be 4 num) ++ (be 2 txt.size ++ sb txt) ++ [by8 0]) ++ qaa (IntKind.i16.wrap v) aa).length) aj)),(16,.p 5 0),(17,.v (.iface 65 (.pointer (some ⟨ac,0,none⟩)))),(18,.v (.int .i32 num))])
    refine qal [4] [] [(6,.v (.slice ai ((((([]:Bs) ++ [by8 0,by8 0,by8 0,by8 0] ++ be 2 84 ++ be 2 (IntKind.i16.wrap v) ++ be 4 num) ++ (be 2 txt.size ++ sb txt) ++ [by8 0]) ++ qaa (IntKind.i16.wrap v) aa).length) aj))] aR gL fun pf gM=>?_
    refine qag (qab ?_)
    refine wp_ret ?_
    refine qaG gM aR.cells (v:=.slice ai ((((([]:Bs) ++ [by8 0,by8 0,by8 0,by8 0] ++ be 2 84 ++ be 2 (IntKind.i16.wrap v) ++ be 4 num) ++ (be 2 txt.size ++ sb txt) ++ [by8 0]) ++ qaa (IntKind.i16.wrap v) aa).length) aj) kz ?_
    refine ⟨_,rfl,fun pg gN=>?_⟩
    have gO:=(EnvOk.places (tb':=[⟨b1,0,[.bool has,.string txt],true⟩,⟨ac,0,[.int .i16 (IntKind.i16.wrap v),.string ((aa.f 0).s),.slice ((aa.f 1).A) ((aa.f 1).l) ((aa.f 1).c),.map aa.m],true⟩,⟨af,0,[.bool has,.string txt],true⟩,⟨ae,0,[.pointer none],true⟩,⟨ab,0,[.string txt],true⟩,⟨ag,0,[.pointer (some ⟨ab,0,none⟩)],true⟩,⟨ah,0,[.func (.func 131) #[] #[.pointer (some ⟨ab,0,none⟩)]],true⟩]) gN (show Pl [⟨b1,0,[.bool has,.string txt],true⟩,⟨ac,0,[.int .i16 (IntKind.i16.wrap v),.string ((aa.f 0).s),.slice ((aa.f 1).A) ((aa.f 1).l) ((aa.f 1).c),.map aa.m],true⟩] [⟨b1,0,[.bool has,.string txt],true⟩,⟨ac,0,[.int .i16 (IntKind.i16.wrap v),.string ((aa.f 0).s),.slice ((aa.f 1).A) ((aa.f 1).l) ((aa.f 1).c),.map aa.m],true⟩,⟨af,0,[.bool has,.string txt],true⟩,⟨ae,0,[.pointer none],true⟩,⟨ab,0,[.string txt],true⟩,⟨ag,0,[.pointer (some ⟨ab,0,none⟩)],true⟩,⟨ah,0,[.func (.func 131) #[] #[.pointer (some ⟨ab,0,none⟩)]],true⟩] from ⟨rfl,rfl,⟨rfl,rfl,trivial⟩⟩)).pk (env':=[(25,.v (.slice ai ((((([]:Bs) ++ [by8 0,by8 0,by8 0,by8 0] ++ be 2 84 ++ be 2 (IntKind.i16.wrap v) ++ be 4 num) ++ (be 2 txt.size ++ sb txt) ++ [by8 0]) ++ qaa (IntKind.i16.wrap v) aa).length) aj)),(21,.v (.agg #[.bool has,.string txt])),(23,.v (.iface 65 (.pointer (some ⟨ac,0,none⟩)))),(24,.v (.int .i32 num))])
    refine qal [5,6] [] [(8,.v (.slice ai ((((([]:Bs) ++ [by8 0,by8 0,by8 0,by8 0] ++ be 2 84 ++ be 2 (IntKind.i16.wrap v) ++ be 4 num) ++ (be 2 txt.size ++ sb txt) ++ [by8 0]) ++ qaa (IntKind.i16.wrap v) aa).length) aj)),(9,.v (.bool true))] aR gO fun ph gP=>?_
    refine qag (qab ?_)
    refine wp_ret ?_
    refine qaG gP aR.cells (v:=.tuple #[.slice ai ((((([]:Bs) ++ [by8 0,by8 0,by8 0,by8 0] ++ be 2 84 ++ be 2 (IntKind.i16.wrap v) ++ be 4 num) ++ (be 2 txt.size ++ sb txt) ++ [by8 0]) ++ qaa (IntKind.i16.wrap v) aa).length) aj,.bool true]) kz ?_
    have gQ:be 4 (IntKind.i32.wrap ((((((([]:Bs) ++ [by8 0,by8 0,by8 0,by8 0] ++ be 2 84 ++ be 2 (IntKind.i16.wrap v) ++ be 4 num) ++ (be 2 txt.size ++ sb txt) ++ [by8 0]) ++ qaa (IntKind.i16.wrap v) aa).length) - 4:Nat):Int)) ++ (((([]:Bs) ++ [by8 0,by8 0,by8 0,by8 0] ++ be 2 84 ++ be 2 (IntKind.i16.wrap v) ++ be 4 num) ++ (be 2 txt.size ++ sb txt) ++ [by8 0]) ++ qaa (IntKind.i16.wrap v) aa).drop 4 = (qa8 84 (IntKind.i16.wrap v) num has (sb txt) (decide ((IntKind.i16.wrap v) ≥ 0)) (qaa (IntKind.i16.wrap v) aa)):=qcG (R:=outB 84 (IntKind.i16.wrap v) num has (sb txt) (decide ((IntKind.i16.wrap v) ≥ 0)) (qaa (IntKind.i16.wrap v) aa)) (by simp [outB,qd0,qbR,aJ,bf])
    exact qcH aR (k:=1) rfl (gQ.trans (by rw [ba])) (by simp only [List.length_append,List.length_cons,List.length_nil]; omega)
   refine (qbA de (t:=24) (A:=ai) (m:=((((([]:Bs) ++ [by8 0,by8 0,by8 0,by8 0] ++ be 2 84 ++ be 2 (IntKind.i16.wrap v) ++ be 4 num) ++ (be 2 txt.size ++ sb txt) ++ [by8 0]) ++ qaa (IntKind.i16.wrap v) aa).length)) (cp:=aj) (q:=4) (d:=55) (j:=4) kz (e:=5) (bytes:=1) kz (rfl) (by first | omega | (simp only [List.length_append,List.length_cons,List.length_nil]; omega)) fun pi gR=>?_)
   refine ⟨fun _=>bi,?_⟩
   refine qa7 [4,5] [(1,.v (.slice ai ((((([]:Bs) ++ [by8 0,by8 0,by8 0,by8 0] ++ be 2 84 ++ be 2 (IntKind.i16.wrap v) ++ be 4 num) ++ (be 2 txt.size ++ sb txt) ++ [by8 0]) ++ qaa (IntKind.i16.wrap v) aa).length) aj)),(52,.v (.slice ai ((((([]:Bs) ++ [by8 0,by8 0,by8 0,by8 0] ++ be 2 84 ++ be 2 (IntKind.i16.wrap v) ++ be 4 num) ++ (be 2 txt.size ++ sb txt) ++ [by8 0]) ++ qaa (IntKind.i16.wrap v) aa).length) aj)),(57,.v (.int .i32 (IntKind.i32.wrap ((((((([]:Bs) ++ [by8 0,by8 0,by8 0,by8 0] ++ be 2 84 ++ be 2 (IntKind.i16.wrap v) ++ be 4 num) ++ (be 2 txt.size ++ sb txt) ++ [by8 0]) ++ qaa (IntKind.i16.wrap v) aa).length) - 4:Nat):Int))))] 2 (qac qak) (fun _ h=>h.cells) bi gR fun pj gS=>?_
   refine qaP (i:=1) kz (qbz gS (t:=24) (A:=ai) (m:=(((([]:Bs) ++ [by8 0,by8 0,by8 0,by8 0] ++ be 2 84 ++ be 2 (IntKind.i16.wrap v) ++ be 4 num) ++ (be 2 txt.size ++ sb txt) ++ [by8 0]) ++ qaa (IntKind.i16.wrap v) aa).length) (cp:=aj) (q:=0) (d:=53) (j:=0) kz (e:=5) (size:=1) (bytes:=1) kz (rfl) (by omega) fun pl gT=>?_)
   refine ⟨fun _=>bi,?_⟩
   refine qaP (i:=6) kz (qan gT (f:=133) (vs:=[.slice ai 0 aj,.int .i32 (IntKind.i32.wrap ((((((([]:Bs) ++ [by8 0,by8 0,by8 0,by8 0] ++ be 2 84 ++ be 2 (IntKind.i16.wrap v) ++ be 4 num) ++ (be 2 txt.size ++ sb txt) ++ [by8 0]) ++ qaa (IntKind.i16.wrap v) aa).length) - 4:Nat):Int))]) (d:=58) kz Tryz.call133 (qbE (IntKind.i32.wrap ((((((([]:Bs) ++ [by8 0,by8 0,by8 0,by8 0] ++ be 2 84 ++ be 2 (IntKind.i16.wrap v) ++ be 4 num) ++ (be 2 txt.size ++ sb txt) ++ [by8 0]) ++ qaa (IntKind.i16.wrap v) aa).length) - 4:Nat):Int)) ai aj (((([]:Bs) ++ [by8 0,by8 0,by8 0,by8 0] ++ be 2 84 ++ be 2 (IntKind.i16.wrap v) ++ be 4 num) ++ (be 2 txt.size ++ sb txt) ++ [by8 0]) ++ qaa (IntKind.i16.wrap v) aa) _ (bV.own 1 _ rfl) (by simp only [List.length_append,List.length_cons,List.length_nil]; omega)) ?_)
   rintro e_ pm ⟨rfl,gU,dg⟩
   refine ⟨_,rfl,fun pn gV=>?_⟩
   have aS:WOk _ _ _ _ [⟨some ⟨au,0,none⟩,1,96,1,1,[.iface 147 (.agg #[.func (.func 131) #[] #[.pointer (some ⟨ab,0,none⟩)]])]⟩,⟨ai,aj,5,1,(((([]:Bs) ++ [by8 0,by8 0,by8 0,by8 0] ++ be 2 84 ++ be 2 (IntKind.i16.wrap v) ++ be 4 num) ++ (be 2 txt.size ++ sb txt) ++ [by8 0]) ++ qaa (IntKind.i16.wrap v) aa).length,bc (be 4 (IntKind.i32.wrap ((((((([]:Bs) ++ [by8 0,by8 0,by8 0,by8 0] ++ be 2 84 ++ be 2 (IntKind.i16.wrap v) ++ be 4 num) ++ (be 2 txt.size ++ sb txt) ++ [by8 0]) ++ qaa (IntKind.i16.wrap v) aa).length) - 4:Nat):Int)) ++ (((([]:Bs) ++ [by8 0,by8 0,by8 0,by8 0] ++ be 2 84 ++ be 2 (IntKind.i16.wrap v) ++ be 4 num) ++ (be 2 txt.size ++ sb txt) ++ [by8 0]) ++ qaa (IntKind.i16.wrap v) aa).drop 4)⟩]:=bV.grow (k:=1) (r':=⟨ai,aj,5,1,(((([]:Bs) ++ [by8 0,by8 0,by8 0,by8 0] ++ be 2 84 ++ be 2 (IntKind.i16.wrap v) ++ be 4 num) ++ (be 2 txt.size ++ sb txt) ++ [by8 0]) ++ qaa (IntKind.i16.wrap v) aa).length,bc (be 4 (IntKind.i32.wrap ((((((([]:Bs) ++ [by8 0,by8 0,by8 0,by8 0] ++ be 2 84 ++ be 2 (IntKind.i16.wrap v) ++ be 4 num) ++ (be 2 txt.size ++ sb txt) ++ [by8 0]) ++ qaa (IntKind.i16.wrap v) aa).length) - 4:Nat):Int)) ++ (((([]:Bs) ++ [by8 0,by8 0,by8 0,by8 0] ++ be 2 84 ++ be 2 (IntKind.i16.wrap v) ++ be 4 num) ++ (be 2 txt.size ++ sb txt) ++ [by8 0]) ++ qaa (IntKind.i16.wrap v) aa).drop 4)⟩) rfl dg gU (fun g' hg'=>.inl hg')
   have gW:=Fr.grow [⟨b1,0,[.bool has,.string txt],true⟩,⟨ac,0,[.int .i16 (IntKind.i16.wrap v),.string ((aa.f 0).s),.slice ((aa.f 1).A) ((aa.f 1).l) ((aa.f 1).c),.map aa.m],true⟩,⟨af,0,[.bool has,.string txt],true⟩,⟨ae,0,[.pointer none],true⟩,⟨ab,0,[.string txt],true⟩,⟨ag,0,[.pointer (some ⟨ab,0,none⟩)],true⟩,⟨ah,0,[.func (.func 131) #[] #[.pointer (some ⟨ab,0,none⟩)]],true⟩] (k:=1) (rs:=[⟨some ⟨au,0,none⟩,1,96,1,1,[.iface 147 (.agg #[.func (.func 131) #[] #[.pointer (some ⟨ab,0,none⟩)]])]⟩,brow ai aj 5 (((([]:Bs) ++ [by8 0,by8 0,by8 0,by8 0] ++ be 2 84 ++ be 2 (IntKind.i16.wrap v) ++ be 4 num) ++ (be 2 txt.size ++ sb txt) ++ [by8 0]) ++ qaa (IntKind.i16.wrap v) aa)]) (r':=⟨ai,aj,5,1,(((([]:Bs) ++ [by8 0,by8 0,by8 0,by8 0] ++ be 2 84 ++ be 2 (IntKind.i16.wrap v) ++ be 4 num) ++ (be 2 txt.size ++ sb txt) ++ [by8 0]) ++ qaa (IntKind.i16.wrap v) aa).length,bc (be 4 (IntKind.i32.wrap ((((((([]:Bs) ++ [by8 0,by8 0,by8 0,by8 0] ++ be 2 84 ++ be 2 (IntKind.i16.wrap v) ++ be 4 num) ++ (be 2 txt.size ++ sb txt) ++ [by8 0]) ++ qaa (IntKind.i16.wrap v) aa).length) - 4:Nat):Int)) ++ (((([]:Bs) ++ [by8 0,by8 0,by8 0,by8 0] ++ be 2 84 ++ be 2 (IntKind.i16.wrap v) ++ be 4 num) ++ (be 2 txt.size ++ sb txt) ++ [by8 0]) ++ qaa (IntKind.i16.wrap v) aa).drop 4)⟩) rfl dg (fun g' hg'=>.inl hg')
   have gX:=TT.ofW gW aS
   refine ⟨fun _=>gX,?_⟩
   refine qa2 kz ?_ _
   refine qab ?_
   refine qat [(8,.v (.slice ai ((((([]:Bs) ++ [by8 0,by8 0,by8 0,by8 0] ++ be 2 84 ++ be 2 (IntKind.i16.wrap v) ++ be 4 num) ++ (be 2 txt.size ++ sb txt) ++ [by8 0]) ++ qaa (IntKind.i16.wrap v) aa).length) aj))] aS gV fun po gY=>?_
   refine wp_ret ?_
   refine qaG gY aS.cells (v:=.slice ai ((((([]:Bs) ++ [by8 0,by8 0,by8 0,by8 0] ++ be 2 84 ++ be 2 (IntKind.i16.wrap v) ++ be 4 num) ++ (be 2 txt.size ++ sb txt) ++ [by8 0]) ++ qaa (IntKind.i16.wrap v) aa).length) aj) kz ?_
   refine ⟨_,rfl,fun pp gZ=>?_⟩
   have g6:=(EnvOk.places (tb':=[⟨b1,0,[.bool has,.string txt],true⟩,⟨ac,0,[.int .i16 (IntKind.i16.wrap v),.string ((aa.f 0).s),.slice ((aa.f 1).A) ((aa.f 1).l) ((aa.f 1).c),.map aa.m],true⟩,⟨af,0,[.bool has,.string txt],true⟩,⟨ae,0,[.pointer none],true⟩,⟨ab,0,[.string txt],true⟩,⟨ag,0,[.pointer (some ⟨ab,0,none⟩)],true⟩,⟨ah,0,[.func (.func 131) #[] #[.pointer (some ⟨ab,0,none⟩)]],true⟩]) gZ (show Pl [⟨b1,0,[.bool has,.string txt],true⟩,⟨ac,0,[.int .i16 (IntKind.i16.wrap v),.string ((aa.f 0).s),.slice ((aa.f 1).A) ((aa.f 1).l) ((aa.f 1).c),.map aa.m],true⟩,⟨af,0,[.bool has,.string txt],true⟩,⟨ae,0,[.pointer none],true⟩,⟨ab,0,[.string txt],true⟩,⟨ag,0,[.pointer (some ⟨ab,0,none⟩)],true⟩,⟨ah,0,[.func (.func 131) #[] #[.pointer (some ⟨ab,0,none⟩)]],true⟩] [⟨b1,0,[.bool has,.string txt],true⟩,⟨ac,0,[.int .i16 (IntKind.i16.wrap v),.string ((aa.f 0).s),.slice ((aa.f 1).A) ((aa.f 1).l) ((aa.f 1).c),.map aa.m],true⟩,⟨af,0,[.bool has,.string txt],true⟩,⟨ae,0,[.pointer none],true⟩,⟨ab,0,[.string txt],true⟩,⟨ag,0,[.pointer (some ⟨ab,0,none⟩)],true⟩,⟨ah,0,[.func (.func 131) #[] #[.pointer (some ⟨ab,0,none⟩)]],true⟩] from ⟨rfl,rfl,⟨rfl,rfl,⟨rfl,rfl,⟨rfl,rfl,⟨rfl,rfl,⟨rfl,rfl,⟨rfl,rfl,trivial⟩⟩⟩⟩⟩⟩⟩)).pk (env':=[(19,.v (.slice ai ((((([]:Bs) ++ [by8 0,by8 0,by8 0,by8 0] ++ be 2 84 ++ be 2 (IntKind.i16.wrap v) ++ be 4 num) ++ (be 2 txt.size ++ sb txt) ++ [by8 0]) ++ qaa (IntKind.i16.wrap v) aa).length) aj)),(16,.p 5 0),(17,.v (.iface 65 (.pointer (some ⟨ac,0,none⟩)))),(18,.v (.int .i32 num))])
   refine qal [4] [] [(6,.v (.slice ai ((((([]:Bs) ++ [by8 0,by8 0,by8 0,by8 0] ++ be 2 84 ++ be 2 (IntKind.i16.wrap v) ++ be 4 num) ++ (be 2 txt.size ++ sb txt) ++ [by8 0]) ++ qaa (IntKind.i16.wrap v) aa).length) aj))] aS g6 fun pq g7=>?_
   refine qag (qab ?_)
   refine wp_ret ?_
   refine qaG g7 aS.cells (v:=.slice ai ((((([]:Bs) ++ [by8 0,by8 0,by8 0,by8 0] ++ be 2 84 ++ be 2 (IntKind.i16.wrap v) ++ be 4 num) ++ (be 2 txt.size ++ sb txt) ++ [by8 0]) ++ qaa (IntKind.i16.wrap v) aa).length) aj) kz ?_
   refine ⟨_,rfl,fun pr g8=>?_⟩
   have g9:=(EnvOk.places (tb':=[⟨b1,0,[.bool has,.string txt],true⟩,⟨ac,0,[.int .i16 (IntKind.i16.wrap v),.string ((aa.f 0).s),.slice ((aa.f 1).A) ((aa.f 1).l) ((aa.f 1).c),.map aa.m],true⟩,⟨af,0,[.bool has,.string txt],true⟩,⟨ae,0,[.pointer none],true⟩,⟨ab,0,[.string txt],true⟩,⟨ag,0,[.pointer (some ⟨ab,0,none⟩)],true⟩,⟨ah,0,[.func (.func 131) #[] #[.pointer (some ⟨ab,0,none⟩)]],true⟩]) g8 (show Pl [⟨b1,0,[.bool has,.string txt],true⟩,⟨ac,0,[.int .i16 (IntKind.i16.wrap v),.string ((aa.f 0).s),.slice ((aa.f 1).A) ((aa.f 1).l) ((aa.f 1).c),.map aa.m],true⟩] [⟨b1,0,[.bool has,.string txt],true⟩,⟨ac,0,[.int .i16 (IntKind.i16.wrap v),.string ((aa.f 0).s),.slice ((aa.f 1).A) ((aa.f 1).l) ((aa.f 1).c),.map aa.m],true⟩,⟨af,0,[.bool has,.string txt],true⟩,⟨ae,0,[.pointer none],true⟩,⟨ab,0,[.string txt],true⟩,⟨ag,0,[.pointer (some ⟨ab,0,none⟩)],true⟩,⟨ah,0,[.func (.func 131) #[] #[.pointer (some ⟨ab,0,none⟩)]],true⟩] from ⟨rfl,rfl,⟨rfl,rfl,trivial⟩⟩)).pk (env':=[(25,.v (.slice ai ((((([]:Bs) ++ [by8 0,by8 0,by8 0,by8 0] ++ be 2 84 ++ be 2 (IntKind.i16.wrap v) ++ be 4 num) ++ (be 2 txt.size ++ sb txt) ++ [by8 0]) ++ qaa (IntKind.i16.wrap v) aa).length) aj)),(21,.v (.agg #[.bool has,.string txt])),(23,.v (.iface 65 (.pointer (some ⟨ac,0,none⟩)))),(24,.v (.int .i32 num))])
   refine qal [5,6] [] [(8,.v (.slice ai ((((([]:Bs) ++ [by8 0,by8 0,by8 0,by8 0] ++ be 2 84 ++ be 2 (IntKind.i16.wrap v) ++ be 4 num) ++ (be 2 txt.size ++ sb txt) ++ [by8 0]) ++ qaa (IntKind.i16.wrap v) aa).length) aj)),(9,.v (.bool true))] aS g9 fun pt hC=>?_
   refine qag (qab ?_)
   refine wp_ret ?_
   refine qaG hC aS.cells (v:=.tuple #[.slice ai ((((([]:Bs) ++ [by8 0,by8 0,by8 0,by8 0] ++ be 2 84 ++ be 2 (IntKind.i16.wrap v) ++ be 4 num) ++ (be 2 txt.size ++ sb txt) ++ [by8 0]) ++ qaa (IntKind.i16.wrap v) aa).length) aj,.bool true]) kz ?_
   have hJ:be 4 (IntKind.i32.wrap ((((((([]:Bs) ++ [by8 0,by8 0,by8 0,by8 0] ++ be 2 84 ++ be 2 (IntKind.i16.wrap v) ++ be 4 num) ++ (be 2 txt.size ++ sb txt) ++ [by8 0]) ++ qaa (IntKind.i16.wrap v) aa).length) - 4:Nat):Int)) ++ (((([]:Bs) ++ [by8 0,by8 0,by8 0,by8 0] ++ be 2 84 ++ be 2 (IntKind.i16.wrap v) ++ be 4 num) ++ (be 2 txt.size ++ sb txt) ++ [by8 0]) ++ qaa (IntKind.i16.wrap v) aa).drop 4 = (qa8 84 (IntKind.i16.wrap v) num has (sb txt) (decide ((IntKind.i16.wrap v) ≥ 0)) (qaa (IntKind.i16.wrap v) aa)):=qcG (R:=outB 84 (IntKind.i16.wrap v) num has (sb txt) (decide ((IntKind.i16.wrap v) ≥ 0)) (qaa (IntKind.i16.wrap v) aa)) (by simp [outB,qd0,qbR,aJ,bf])
   exact qcH aS (k:=1) rfl (hJ.trans (by rw [ba])) (by simp only [List.length_append,List.length_cons,List.length_nil]; omega)
  have mq:=of_decide_eq_false bf
  refine wp_skip ?_
  refine qab ?_
  refine qae [0,1,2,3] kz ?_
  refine qal [0,1] [2,3] [(49,.v (.iface 65 (.pointer (some ⟨ac,0,none⟩)))),(50,.v (.slice aF (((([]:Bs) ++ [by8 0,by8 0,by8 0,by8 0] ++ be 2 84 ++ be 2 (IntKind.i16.wrap v) ++ be 4 num) ++ (be 2 txt.size ++ sb txt)).length) aG))] ax cE fun pu hK=>?_
  have hZ:=(qaM _ (((((((((((((aP.trans aQ).trans bG).trans bI).trans bJ).trans bK).trans bL).trans bM).trans bN).trans bO).trans bQ).trans bS).trans bT).trans bU).step immM (((((((((((((aP.trans aQ).trans bG).trans bI).trans bJ).trans bK).trans bL).trans bM).trans bN).trans bO).trans bQ).trans bS).trans bT).trans bU).to' cJ)
  have dU:=ax.strImm (G:=F) 1 rfl
  have hk_:=qaM _ (Step.refl _ Nil) nilM (fun b o h_ _=>qga h_) hZ
  refine qao (qc1 hK (t := 65) (v := (.pointer (some ⟨ac, 0, none⟩))) (v' := (.pointer (some ⟨ac, 0, none⟩))) (name := "AppendTo") (f := 241) (vs := [.slice aF (((([] : Bs) ++ [by8 0, by8 0, by8 0, by8 0] ++ be 2 84 ++ be 2 (IntKind.i16.wrap v) ++ be 4 num) ++ (be 2 txt.size ++ sb txt)).length) aG]) (d := 51) kz (fun _ => by kernel_rfl) Tryz.call241 (qbp (IntKind.i16.wrap v) aa ac 0 aF aG ((([] : Bs) ++ [by8 0, by8 0, by8 0, by8 0] ++ be 2 84 ++ be 2 (IntKind.i16.wrap v) ++ be 4 num) ++ (be 2 txt.size ++ sb txt)) _ _ dU hk_ (qf8 1 rfl) (ax.own 1 _ rfl) (by first | omega | (simp only [List.length_append, List.length_cons, List.length_nil, be_length, qbR]; omega) | (simp; omega))) ?_)
  rintro e_ pv ⟨ak,al,rfl,ia,dh,di⟩
  refine ⟨_,rfl,fun pw ib=>?_⟩
  have dj:WOk _ _ _ _ [⟨some ⟨au,0,none⟩,1,96,1,1,[.iface 147 (.agg #[.func (.func 131) #[] #[.pointer (some ⟨ab,0,none⟩)]])]⟩,brow ak al 5 (((([]:Bs) ++ [by8 0,by8 0,by8 0,by8 0] ++ be 2 84 ++ be 2 (IntKind.i16.wrap v) ++ be 4 num) ++ (be 2 txt.size ++ sb txt)) ++ qaa (IntKind.i16.wrap v) aa)]:=ax.grow (k:=1) rfl dh ia di
  have mr:=Fr.grow [⟨b1,0,[.bool has,.string txt],true⟩,⟨ac,0,[.int .i16 (IntKind.i16.wrap v),.string ((aa.f 0).s),.slice ((aa.f 1).A) ((aa.f 1).l) ((aa.f 1).c),.map aa.m],true⟩,⟨af,0,[.bool has,.string txt],true⟩,⟨ae,0,[.pointer none],true⟩,⟨ab,0,[.string txt],true⟩,⟨ag,0,[.pointer (some ⟨ab,0,none⟩)],true⟩,⟨ah,0,[.func (.func 131) #[] #[.pointer (some ⟨ab,0,none⟩)]],true⟩] (k:=1) (rs:=[⟨some ⟨au,0,none⟩,1,96,1,1,[.iface 147 (.agg #[.func (.func 131) #[] #[.pointer (some ⟨ab,0,none⟩)]])]⟩,brow aF aG 5 ((([]:Bs) ++ [by8 0,by8 0,by8 0,by8 0] ++ be 2 84 ++ be 2 (IntKind.i16.wrap v) ++ be 4 num) ++ (be 2 txt.size ++ sb txt))]) (r':=(brow ak al 5 (((([]:Bs) ++ [by8 0,by8 0,by8 0,by8 0] ++ be 2 84 ++ be 2 (IntKind.i16.wrap v) ++ be 4 num) ++ (be 2 txt.size ++ sb txt)) ++ qaa (IntKind.i16.wrap v) aa))) rfl dh di
  refine qal [3] [] [(1,.v (.slice ak ((((([]:Bs) ++ [by8 0,by8 0,by8 0,by8 0] ++ be 2 84 ++ be 2 (IntKind.i16.wrap v) ++ be 4 num) ++ (be 2 txt.size ++ sb txt)) ++ qaa (IntKind.i16.wrap v) aa).length) al))] dj ib fun px ic=>?_
  refine qag (qab ?_)
  refine qbl 7 kz dj fun pz mt bW bj=>?_
  refine qa7 [0,2] [(1,.v (.slice ak ((((([]:Bs) ++ [by8 0,by8 0,by8 0,by8 0] ++ be 2 84 ++ be 2 (IntKind.i16.wrap v) ++ be 4 num) ++ (be 2 txt.size ++ sb txt)) ++ qaa (IntKind.i16.wrap v) aa).length) al)),(52,.v (.slice ak ((((([]:Bs) ++ [by8 0,by8 0,by8 0,by8 0] ++ be 2 84 ++ be 2 (IntKind.i16.wrap v) ++ be 4 num) ++ (be 2 txt.size ++ sb txt)) ++ qaa (IntKind.i16.wrap v) aa).length) al)),(54,.v (.slice ak ((((([]:Bs) ++ [by8 0,by8 0,by8 0,by8 0] ++ be 2 84 ++ be 2 (IntKind.i16.wrap v) ++ be 4 num) ++ (be 2 txt.size ++ sb txt)) ++ qaa (IntKind.i16.wrap v) aa).length) al))] 5 (qac qak) (fun _ h=>h.cells) bj ic fun pA dl=>?_
  refine qeE (i:=1) (j:=3) kz ?_ ?_
  ·
   refine (qbz dl (t:=24) (A:=ak) (m:=(((([]:Bs) ++ [by8 0,by8 0,by8 0,by8 0] ++ be 2 84 ++ be 2 (IntKind.i16.wrap v) ++ be 4 num) ++ (be 2 txt.size ++ sb txt)) ++ qaa (IntKind.i16.wrap v) aa).length) (cp:=al) (q:=0) (d:=53) (j:=0) kz (e:=5) (size:=1) (bytes:=1) kz (rfl) (by omega) fun pB ig=>?_)
   refine ⟨fun _=>bj,?_⟩
   refine qaP (i:=3) kz (qbA ig (t:=24) (A:=ak) (m:=((((([]:Bs) ++ [by8 0,by8 0,by8 0,by8 0] ++ be 2 84 ++ be 2 (IntKind.i16.wrap v) ++ be 4 num) ++ (be 2 txt.size ++ sb txt)) ++ qaa (IntKind.i16.wrap v) aa).length)) (cp:=al) (q:=4) (d:=55) (j:=4) kz (e:=5) (bytes:=1) kz (rfl) (by first | omega | (simp only [List.length_append,List.length_cons,List.length_nil]; omega)) fun pC ii=>?_)
   refine ⟨fun _=>bj,?_⟩
   refine qa7 [4,5] [(1,.v (.slice ak ((((([]:Bs) ++ [by8 0,by8 0,by8 0,by8 0] ++ be 2 84 ++ be 2 (IntKind.i16.wrap v) ++ be 4 num) ++ (be 2 txt.size ++ sb txt)) ++ qaa (IntKind.i16.wrap v) aa).length) al)),(53,.v (.slice ak 0 al)),(57,.v (.int .i32 (IntKind.i32.wrap ((((((([]:Bs) ++ [by8 0,by8 0,by8 0,by8 0] ++ be 2 84 ++ be 2 (IntKind.i16.wrap v) ++ be 4 num) ++ (be 2 txt.size ++ sb txt)) ++ qaa (IntKind.i16.wrap v) aa).length) - 4:Nat):Int))))] 1 (qac qak) (fun _ h=>h.cells) bj ii fun pD ij=>?_
   refine qaP (i:=6) kz (qan ij (f:=133) (vs:=[.slice ak 0 al,.int .i32 (IntKind.i32.wrap ((((((([]:Bs) ++ [by8 0,by8 0,by8 0,by8 0] ++ be 2 84 ++ be 2 (IntKind.i16.wrap v) ++ be 4 num) ++ (be 2 txt.size ++ sb txt)) ++ qaa (IntKind.i16.wrap v) aa).length) - 4:Nat):Int))]) (d:=58) kz Tryz.call133 (qbE (IntKind.i32.wrap ((((((([]:Bs) ++ [by8 0,by8 0,by8 0,by8 0] ++ be 2 84 ++ be 2 (IntKind.i16.wrap v) ++ be 4 num) ++ (be 2 txt.size ++ sb txt)) ++ qaa (IntKind.i16.wrap v) aa).length) - 4:Nat):Int)) ak al (((([]:Bs) ++ [by8 0,by8 0,by8 0,by8 0] ++ be 2 84 ++ be 2 (IntKind.i16.wrap v) ++ be 4 num) ++ (be 2 txt.size ++ sb txt)) ++ qaa (IntKind.i16.wrap v) aa) _ (bW.own 1 _ rfl) (by simp only [List.length_append,List.length_cons,List.length_nil]; omega)) ?_)
   rintro e_ pE ⟨rfl,ik,dp⟩
   refine ⟨_,rfl,fun pF il=>?_⟩
   have aT:WOk _ _ _ _ [⟨some ⟨au,0,none⟩,1,96,1,1,[.iface 147 (.agg #[.func (.func 131) #[] #[.pointer (some ⟨ab,0,none⟩)]])]⟩,⟨ak,al,5,1,(((([]:Bs) ++ [by8 0,by8 0,by8 0,by8 0] ++ be 2 84 ++ be 2 (IntKind.i16.wrap v) ++ be 4 num) ++ (be 2 txt.size ++ sb txt)) ++ qaa (IntKind.i16.wrap v) aa).length,bc (be 4 (IntKind.i32.wrap ((((((([]:Bs) ++ [by8 0,by8 0,by8 0,by8 0] ++ be 2 84 ++ be 2 (IntKind.i16.wrap v) ++ be 4 num) ++ (be 2 txt.size ++ sb txt)) ++ qaa (IntKind.i16.wrap v) aa).length) - 4:Nat):Int)) ++ (((([]:Bs) ++ [by8 0,by8 0,by8 0,by8 0] ++ be 2 84 ++ be 2 (IntKind.i16.wrap v) ++ be 4 num) ++ (be 2 txt.size ++ sb txt)) ++ qaa (IntKind.i16.wrap v) aa).drop 4)⟩]:=bW.grow (k:=1) (r':=⟨ak,al,5,1,(((([]:Bs) ++ [by8 0,by8 0,by8 0,by8 0] ++ be 2 84 ++ be 2 (IntKind.i16.wrap v) ++ be 4 num) ++ (be 2 txt.size ++ sb txt)) ++ qaa (IntKind.i16.wrap v) aa).length,bc (be 4 (IntKind.i32.wrap ((((((([]:Bs) ++ [by8 0,by8 0,by8 0,by8 0] ++ be 2 84 ++ be 2 (IntKind.i16.wrap v) ++ be 4 num) ++ (be 2 txt.size ++ sb txt)) ++ qaa (IntKind.i16.wrap v) aa).length) - 4:Nat):Int)) ++ (((([]:Bs) ++ [by8 0,by8 0,by8 0,by8 0] ++ be 2 84 ++ be 2 (IntKind.i16.wrap v) ++ be 4 num) ++ (be 2 txt.size ++ sb txt)) ++ qaa (IntKind.i16.wrap v) aa).drop 4)⟩) rfl dp ik (fun g' hg'=>.inl hg')
   have im:=Fr.grow [⟨b1,0,[.bool has,.string txt],true⟩,⟨ac,0,[.int .i16 (IntKind.i16.wrap v),.string ((aa.f 0).s),.slice ((aa.f 1).A) ((aa.f 1).l) ((aa.f 1).c),.map aa.m],true⟩,⟨af,0,[.bool has,.string txt],true⟩,⟨ae,0,[.pointer none],true⟩,⟨ab,0,[.string txt],true⟩,⟨ag,0,[.pointer (some ⟨ab,0,none⟩)],true⟩,⟨ah,0,[.func (.func 131) #[] #[.pointer (some ⟨ab,0,none⟩)]],true⟩] (k:=1) (rs:=[⟨some ⟨au,0,none⟩,1,96,1,1,[.iface 147 (.agg #[.func (.func 131) #[] #[.pointer (some ⟨ab,0,none⟩)]])]⟩,brow ak al 5 (((([]:Bs) ++ [by8 0,by8 0,by8 0,by8 0] ++ be 2 84 ++ be 2 (IntKind.i16.wrap v) ++ be 4 num) ++ (be 2 txt.size ++ sb txt)) ++ qaa (IntKind.i16.wrap v) aa)]) (r':=⟨ak,al,5,1,(((([]:Bs) ++ [by8 0,by8 0,by8 0,by8 0] ++ be 2 84 ++ be 2 (IntKind.i16.wrap v) ++ be 4 num) ++ (be 2 txt.size ++ sb txt)) ++ qaa (IntKind.i16.wrap v) aa).length,bc (be 4 (IntKind.i32.wrap ((((((([]:Bs) ++ [by8 0,by8 0,by8 0,by8 0] ++ be 2 84 ++ be 2 (IntKind.i16.wrap v) ++ be 4 num) ++ (be 2 txt.size ++ sb txt)) ++ qaa (IntKind.i16.wrap v) aa).length) - 4:Nat):Int)) ++ (((([]:Bs) ++ [by8 0,by8 0,by8 0,by8 0] ++ be 2 84 ++ be 2 (IntKind.i16.wrap v) ++ be 4 num) ++ (be 2 txt.size ++ sb txt)) ++ qaa (IntKind.i16.wrap v) aa).drop 4)⟩) rfl dp (fun g' hg'=>.inl hg')
   have io:=TT.ofW im aT
   refine ⟨fun _=>io,?_⟩
   refine qa2 kz ?_ _
   refine qab ?_
   refine qat [(8,.v (.slice ak ((((([]:Bs) ++ [by8 0,by8 0,by8 0,by8 0] ++ be 2 84 ++ be 2 (IntKind.i16.wrap v) ++ be 4 num) ++ (be 2 txt.size ++ sb txt)) ++ qaa (IntKind.i16.wrap v) aa).length) al))] aT il fun pG ip=>?_
   refine wp_ret ?_
   refine qaG ip aT.cells (v:=.slice ak ((((([]:Bs) ++ [by8 0,by8 0,by8 0,by8 0] ++ be 2 84 ++ be 2 (IntKind.i16.wrap v) ++ be 4 num) ++ (be 2 txt.size ++ sb txt)) ++ qaa (IntKind.i16.wrap v) aa).length) al) kz ?_
   refine ⟨_,rfl,fun pH iq=>?_⟩
   have ir:=(EnvOk.places (tb':=[⟨b1,0,[.bool has,.string txt],true⟩,⟨ac,0,[.int .i16 (IntKind.i16.wrap v),.string ((aa.f 0).s),.slice ((aa.f 1).A) ((aa.f 1).l) ((aa.f 1).c),.map aa.m],true⟩,⟨af,0,[.bool has,.string txt],true⟩,⟨ae,0,[.pointer none],true⟩,⟨ab,0,[.string txt],true⟩,⟨ag,0,[.pointer (some ⟨ab,0,none⟩)],true⟩,⟨ah,0,[.func (.func 131) #[] #[.pointer (some ⟨ab,0,none⟩)]],true⟩]) iq (show Pl [⟨b1,0,[.bool has,.string txt],true⟩,⟨ac,0,[.int .i16 (IntKind.i16.wrap v),.string ((aa.f 0).s),.slice ((aa.f 1).A) ((aa.f 1).l) ((aa.f 1).c),.map aa.m],true⟩,⟨af,0,[.bool has,.string txt],true⟩,⟨ae,0,[.pointer none],true⟩,⟨ab,0,[.string txt],true⟩,⟨ag,0,[.pointer (some ⟨ab,0,none⟩)],true⟩,⟨ah,0,[.func (.func 131) #[] #[.pointer (some ⟨ab,0,none⟩)]],true⟩] [⟨b1,0,[.bool has,.string txt],true⟩,⟨ac,0,[.int .i16 (IntKind.i16.wrap v),.string ((aa.f 0).s),.slice ((aa.f 1).A) ((aa.f 1).l) ((aa.f 1).c),.map aa.m],true⟩,⟨af,0,[.bool has,.string txt],true⟩,⟨ae,0,[.pointer none],true⟩,⟨ab,0,[.string txt],true⟩,⟨ag,0,[.pointer (some ⟨ab,0,none⟩)],true⟩,⟨ah,0,[.func (.func 131) #[] #[.pointer (some ⟨ab,0,none⟩)]],true⟩] from ⟨rfl,rfl,⟨rfl,rfl,⟨rfl,rfl,⟨rfl,rfl,⟨rfl,rfl,⟨rfl,rfl,⟨rfl,rfl,trivial⟩⟩⟩⟩⟩⟩⟩)).pk (env':=[(19,.v (.slice ak ((((([]:Bs) ++ [by8 0,by8 0,by8 0,by8 0] ++ be 2 84 ++ be 2 (IntKind.i16.wrap v) ++ be 4 num) ++ (be 2 txt.size ++ sb txt)) ++ qaa (IntKind.i16.wrap v) aa).length) al)),(16,.p 5 0),(17,.v (.iface 65 (.pointer (some ⟨ac,0,none⟩)))),(18,.v (.int .i32 num))])
   refine qal [4] [] [(6,.v (.slice ak ((((([]:Bs) ++ [by8 0,by8 0,by8 0,by8 0] ++ be 2 84 ++ be 2 (IntKind.i16.wrap v) ++ be 4 num) ++ (be 2 txt.size ++ sb txt)) ++ qaa (IntKind.i16.wrap v) aa).length) al))] aT ir fun pI iu=>?_
   refine qag (qab ?_)
   refine wp_ret ?_
   refine qaG iu aT.cells (v:=.slice ak ((((([]:Bs) ++ [by8 0,by8 0,by8 0,by8 0] ++ be 2 84 ++ be 2 (IntKind.i16.wrap v) ++ be 4 num) ++ (be 2 txt.size ++ sb txt)) ++ qaa (IntKind.i16.wrap v) aa).length) al) kz ?_
   refine ⟨_,rfl,fun pJ iv=>?_⟩
   have iw:=(EnvOk.places (tb':=[⟨b1,0,[.bool has,.string txt],true⟩,⟨ac,0,[.int .i16 (IntKind.i16.wrap v),.string ((aa.f 0).s),.slice ((aa.f 1).A) ((aa.f 1).l) ((aa.f 1).c),.map aa.m],true⟩,⟨af,0,[.bool has,.string txt],true⟩,⟨ae,0,[.pointer none],true⟩,⟨ab,0,[.string txt],true⟩,⟨ag,0,[.pointer (some ⟨ab,0,none⟩)],true⟩,⟨ah,0,[.func (.func 131) #[] #[.pointer (some ⟨ab,0,none⟩)]],true⟩]) iv (show Pl [⟨b1,0,[.bool has,.string txt],true⟩,⟨ac,0,[.int .i16 (IntKind.i16.wrap v),.string ((aa.f 0).s),.slice ((aa.f 1).A) ((aa.f 1).l) ((aa.f 1).c),.map aa.m],true⟩] [⟨b1,0,[.bool has,.string txt],true⟩,⟨ac,0,[.int .i16 (IntKind.i16.wrap v),.string ((aa.f 0).s),.slice ((aa.f 1).A) ((aa.f 1).l) ((aa.f 1).c),.map aa.m],true⟩,⟨af,0,[.bool has,.string txt],true⟩,⟨ae,0,[.pointer none],true⟩,⟨ab,0,[.string txt],true⟩,⟨ag,0,[.pointer (some ⟨ab,0,none⟩)],true⟩,⟨ah,0,[.func (.func 131) #[] #[.pointer (some ⟨ab,0,none⟩)]],true⟩] from ⟨rfl,rfl,⟨rfl,rfl,trivial⟩⟩)).pk (env':=[(25,.v (.slice ak ((((([]:Bs) ++ [by8 0,by8 0,by8 0,by8 0] ++ be 2 84 ++ be 2 (IntKind.i16.wrap v) ++ be 4 num) ++ (be 2 txt.size ++ sb txt)) ++ qaa (IntKind.i16.wrap v) aa).length) al)),(21,.v (.agg #[.bool has,.string txt])),(23,.v (.iface 65 (.pointer (some ⟨ac,0,none⟩)))),(24,.v (.int .i32 num))])
   refine qal [5,6] [] [(8,.v (.slice ak ((((([]:Bs) ++ [by8 0,by8 0,by8 0,by8 0] ++ be 2 84 ++ be 2 (IntKind.i16.wrap v) ++ be 4 num) ++ (be 2 txt.size ++ sb txt)) ++ qaa (IntKind.i16.wrap v) aa).length) al)),(9,.v (.bool true))] aT iw fun pK ix=>?_
   refine qag (qab ?_)
   refine wp_ret ?_
   refine qaG ix aT.cells (v:=.tuple #[.slice ak ((((([]:Bs) ++ [by8 0,by8 0,by8 0,by8 0] ++ be 2 84 ++ be 2 (IntKind.i16.wrap v) ++ be 4 num) ++ (be 2 txt.size ++ sb txt)) ++ qaa (IntKind.i16.wrap v) aa).length) al,.bool true]) kz ?_
   have iy:be 4 (IntKind.i32.wrap ((((((([]:Bs) ++ [by8 0,by8 0,by8 0,by8 0] ++ be 2 84 ++ be 2 (IntKind.i16.wrap v) ++ be 4 num) ++ (be 2 txt.size ++ sb txt)) ++ qaa (IntKind.i16.wrap v) aa).length) - 4:Nat):Int)) ++ (((([]:Bs) ++ [by8 0,by8 0,by8 0,by8 0] ++ be 2 84 ++ be 2 (IntKind.i16.wrap v) ++ be 4 num) ++ (be 2 txt.size ++ sb txt)) ++ qaa (IntKind.i16.wrap v) aa).drop 4 = (qa8 84 (IntKind.i16.wrap v) num has (sb txt) (decide ((IntKind.i16.wrap v) ≥ 0)) (qaa (IntKind.i16.wrap v) aa)):=qcG (R:=outB 84 (IntKind.i16.wrap v) num has (sb txt) (decide ((IntKind.i16.wrap v) ≥ 0)) (qaa (IntKind.i16.wrap v) aa)) (by simp [outB,qd0,qbR,aJ,bf])
   exact qcH aT (k:=1) rfl (iy.trans (by rw [ba])) (by simp only [List.length_append,List.length_cons,List.length_nil]; omega)
  refine (qbA dl (t:=24) (A:=ak) (m:=((((([]:Bs) ++ [by8 0,by8 0,by8 0,by8 0] ++ be 2 84 ++ be 2 (IntKind.i16.wrap v) ++ be 4 num) ++ (be 2 txt.size ++ sb txt)) ++ qaa (IntKind.i16.wrap v) aa).length)) (cp:=al) (q:=4) (d:=55) (j:=4) kz (e:=5) (bytes:=1) kz (rfl) (by first | omega | (simp only [List.length_append,List.length_cons,List.length_nil]; omega)) fun pL iz=>?_)
  refine ⟨fun _=>bj,?_⟩
  refine qa7 [4,5] [(1,.v (.slice ak ((((([]:Bs) ++ [by8 0,by8 0,by8 0,by8 0] ++ be 2 84 ++ be 2 (IntKind.i16.wrap v) ++ be 4 num) ++ (be 2 txt.size ++ sb txt)) ++ qaa (IntKind.i16.wrap v) aa).length) al)),(52,.v (.slice ak ((((([]:Bs) ++ [by8 0,by8 0,by8 0,by8 0] ++ be 2 84 ++ be 2 (IntKind.i16.wrap v) ++ be 4 num) ++ (be 2 txt.size ++ sb txt)) ++ qaa (IntKind.i16.wrap v) aa).length) al)),(57,.v (.int .i32 (IntKind.i32.wrap ((((((([]:Bs) ++ [by8 0,by8 0,by8 0,by8 0] ++ be 2 84 ++ be 2 (IntKind.i16.wrap v) ++ be 4 num) ++ (be 2 txt.size ++ sb txt)) ++ qaa (IntKind.i16.wrap v) aa).length) - 4:Nat):Int))))] 2 (qac qak) (fun _ h=>h.cells) bj iz fun pM iA=>?_
  refine qaP (i:=1) kz (qbz iA (t:=24) (A:=ak) (m:=(((([]:Bs) ++ [by8 0,by8 0,by8 0,by8 0] ++ be 2 84 ++ be 2 (IntKind.i16.wrap v) ++ be 4 num) ++ (be 2 txt.size ++ sb txt)) ++ qaa (IntKind.i16.wrap v) aa).length) (cp:=al) (q:=0) (d:=53) (j:=0) kz (e:=5) (size:=1) (bytes:=1) kz (rfl) (by omega) fun pN iB=>?_)
  refine ⟨fun _=>bj,?_⟩
  refine qaP (i:=6) kz (qan iB (f:=133) (vs:=[.slice ak 0 al,.int .i32 (IntKind.i32.wrap ((((((([]:Bs) ++ [by8 0,by8 0,by8 0,by8 0] ++ be 2 84 ++ be 2 (IntKind.i16.wrap v) ++ be 4 num) ++ (be 2 txt.size ++ sb txt)) ++ qaa (IntKind.i16.wrap v) aa).length) - 4:Nat):Int))]) (d:=58) kz Tryz.call133 (qbE (IntKind.i32.wrap ((((((([]:Bs) ++ [by8 0,by8 0,by8 0,by8 0] ++ be 2 84 ++ be 2 (IntKind.i16.wrap v) ++ be 4 num) ++ (be 2 txt.size ++ sb txt)) ++ qaa (IntKind.i16.wrap v) aa).length) - 4:Nat):Int)) ak al (((([]:Bs) ++ [by8 0,by8 0,by8 0,by8 0] ++ be 2 84 ++ be 2 (IntKind.i16.wrap v) ++ be 4 num) ++ (be 2 txt.size ++ sb txt)) ++ qaa (IntKind.i16.wrap v) aa) _ (bW.own 1 _ rfl) (by simp only [List.length_append,List.length_cons,List.length_nil]; omega)) ?_)
  rintro e_ pO ⟨rfl,iC,dq⟩
  refine ⟨_,rfl,fun pP iD=>?_⟩
  have aU:WOk _ _ _ _ [⟨some ⟨au,0,none⟩,1,96,1,1,[.iface 147 (.agg #[.func (.func 131) #[] #[.pointer (some ⟨ab,0,none⟩)]])]⟩,⟨ak,al,5,1,(((([]:Bs) ++ [by8 0,by8 0,by8 0,by8 0] ++ be 2 84 ++ be 2 (IntKind.i16.wrap v) ++ be 4 num) ++ (be 2 txt.size ++ sb txt)) ++ qaa (IntKind.i16.wrap v) aa).length,bc (be 4 (IntKind.i32.wrap ((((((([]:Bs) ++ [by8 0,by8 0,by8 0,by8 0] ++ be 2 84 ++ be 2 (IntKind.i16.wrap v) ++ be 4 num) ++ (be 2 txt.size ++ sb txt)) ++ qaa (IntKind.i16.wrap v) aa).length) - 4:Nat):Int)) ++ (((([]:Bs) ++ [by8 0,by8 0,by8 0,by8 0] ++ be 2 84 ++ be 2 (IntKind.i16.wrap v) ++ be 4 num) ++ (be 2 txt.size ++ sb txt)) ++ qaa (IntKind.i16.wrap v) aa).drop 4)⟩]:=bW.grow (k:=1) (r':=⟨ak,al,5,1,(((([]:Bs) ++ [by8 0,by8 0,by8 0,by8 0] ++ be 2 84 ++ be 2 (IntKind.i16.wrap v) ++ be 4 num) ++ (be 2 txt.size ++ sb txt)) ++ qaa (IntKind.i16.wrap v) aa).length,bc (be 4 (IntKind.i32.wrap ((((((([]:Bs) ++ [by8 0,by8 0,by8 0,by8 0] ++ be 2 84 ++ be 2 (IntKind.i16.wrap v) ++ be 4 num) ++ (be 2 txt.size ++ sb txt)) ++ qaa (IntKind.i16.wrap v) aa).length) - 4:Nat):Int)) ++ (((([]:Bs) ++ [by8 0,by8 0,by8 0,by8 0] ++ be 2 84 ++ be 2 (IntKind.i16.wrap v) ++ be 4 num) ++ (be 2 txt.size ++ sb txt)) ++ qaa (IntKind.i16.wrap v) aa).drop 4)⟩) rfl dq iC (fun g' hg'=>.inl hg')
  have iE:=Fr.grow [⟨b1,0,[.bool has,.string txt],true⟩,⟨ac,0,[.int .i16 (IntKind.i16.wrap v),.string ((aa.f 0).s),.slice ((aa.f 1).A) ((aa.f 1).l) ((aa.f 1).c),.map aa.m],true⟩,⟨af,0,[.bool has,.string txt],true⟩,⟨ae,0,[.pointer none],true⟩,⟨ab,0,[.string txt],true⟩,⟨ag,0,[.pointer (some ⟨ab,0,none⟩)],true⟩,⟨ah,0,[.func (.func 131) #[] #[.pointer (some ⟨ab,0,none⟩)]],true⟩] (k:=1) (rs:=[⟨some ⟨au,0,none⟩,1,96,1,1,[.iface 147 (.agg #[.func (.func 131) #[] #[.pointer (some ⟨ab,0,none⟩)]])]⟩,brow ak al 5 (((([]:Bs) ++ [by8 0,by8 0,by8 0,by8 0] ++ be 2 84 ++ be 2 (IntKind.i16.wrap v) ++ be 4 num) ++ (be 2 txt.size ++ sb txt)) ++ qaa (IntKind.i16.wrap v) aa)]) (r':=⟨ak,al,5,1,(((([]:Bs) ++ [by8 0,by8 0,by8 0,by8 0] ++ be 2 84 ++ be 2 (IntKind.i16.wrap v) ++ be 4 num) ++ (be 2 txt.size ++ sb txt)) ++ qaa (IntKind.i16.wrap v) aa).length,bc (be 4 (IntKind.i32.wrap ((((((([]:Bs) ++ [by8 0,by8 0,by8 0,by8 0] ++ be 2 84 ++ be 2 (IntKind.i16.wrap v) ++ be 4 num) ++ (be 2 txt.size ++ sb txt)) ++ qaa (IntKind.i16.wrap v) aa).length) - 4:Nat):Int)) ++ (((([]:Bs) ++ [by8 0,by8 0,by8 0,by8 0] ++ be 2 84 ++ be 2 (IntKind.i16.wrap v) ++ be 4 num) ++ (be 2 txt.size ++ sb txt)) ++ qaa (IntKind.i16.wrap v) aa).drop 4)⟩) rfl dq (fun g' hg'=>.inl hg')
  have iF:=TT.ofW iE aU
  refine ⟨fun _=>iF,?_⟩
  refine qa2 kz ?_ _
  refine qab ?_
  refine qat [(8,.v (.slice ak ((((([]:Bs) ++ [by8 0,by8 0,by8 0,by8 0] ++ be 2 84 ++ be 2 (IntKind.i16.wrap v) ++ be 4 num) ++ (be 2 txt.size ++ sb txt)) ++ qaa (IntKind.i16.wrap v) aa).length) al))] aU iD fun pQ iG=>?_
  refine wp_ret ?_
  refine qaG iG aU.cells (v:=.slice ak ((((([]:Bs) ++ [by8 0,by8 0,by8 0,by8 0] ++ be 2 84 ++ be 2 (IntKind.i16.wrap v) ++ be 4 num) ++ (be 2 txt.size ++ sb txt)) ++ qaa (IntKind.i16.wrap v) aa).length) al) kz ?_
  refine ⟨_,rfl,fun pR iH=>?_⟩
  have iI:=(EnvOk.places (tb':=[⟨b1,0,[.bool has,.string txt],true⟩,⟨ac,0,[.int .i16 (IntKind.i16.wrap v),.string ((aa.f 0).s),.slice ((aa.f 1).A) ((aa.f 1).l) ((aa.f 1).c),.map aa.m],true⟩,⟨af,0,[.bool has,.string txt],true⟩,⟨ae,0,[.pointer none],true⟩,⟨ab,0,[.string txt],true⟩,⟨ag,0,[.pointer (some ⟨ab,0,none⟩)],true⟩,⟨ah,0,[.func (.func 131) #[] #[.pointer (some ⟨ab,0,none⟩)]],true⟩]) iH (show Pl [⟨b1,0,[.bool has,.string txt],true⟩,⟨ac,0,[.int .i16 (IntKind.i16.wrap v),.string ((aa.f 0).s),.slice ((aa.f 1).A) ((aa.f 1).l) ((aa.f 1).c),.map aa.m],true⟩,⟨af,0,[.bool has,.string txt],true⟩,⟨ae,0,[.pointer none],true⟩,⟨ab,0,[.string txt],true⟩,⟨ag,0,[.pointer (some ⟨ab,0,none⟩)],true⟩,⟨ah,0,[.func (.func 131) #[] #[.pointer (some ⟨ab,0,none⟩)]],true⟩] [⟨b1,0,[.bool has,.string txt],true⟩,⟨ac,0,[.int .i16 (IntKind.i16.wrap v),.string ((aa.f 0).s),.slice ((aa.f 1).A) ((aa.f 1).l) ((aa.f 1).c),.map aa.m],true⟩,⟨af,0,[.bool has,.string txt],true⟩,⟨ae,0,[.pointer none],true⟩,⟨ab,0,[.string txt],true⟩,⟨ag,0,[.pointer (some ⟨ab,0,none⟩)],true⟩,⟨ah,0,[.func (.func 131) #[] #[.pointer (some ⟨ab,0,none⟩)]],true⟩] from ⟨rfl,rfl,⟨rfl,rfl,⟨rfl,rfl,⟨rfl,rfl,⟨rfl,rfl,⟨rfl,rfl,⟨rfl,rfl,trivial⟩⟩⟩⟩⟩⟩⟩)).pk (env':=[(19,.v (.slice ak ((((([]:Bs) ++ [by8 0,by8 0,by8 0,by8 0] ++ be 2 84 ++ be 2 (IntKind.i16.wrap v) ++ be 4 num) ++ (be 2 txt.size ++ sb txt)) ++ qaa (IntKind.i16.wrap v) aa).length) al)),(16,.p 5 0),(17,.v (.iface 65 (.pointer (some ⟨ac,0,none⟩)))),(18,.v (.int .i32 num))])
  refine qal [4] [] [(6,.v (.slice ak ((((([]:Bs) ++ [by8 0,by8 0,by8 0,by8 0] ++ be 2 84 ++ be 2 (IntKind.i16.wrap v) ++ be 4 num) ++ (be 2 txt.size ++ sb txt)) ++ qaa (IntKind.i16.wrap v) aa).length) al))] aU iI fun pS iJ=>?_
  refine qag (qab ?_)
  refine wp_ret ?_
  refine qaG iJ aU.cells (v:=.slice ak ((((([]:Bs) ++ [by8 0,by8 0,by8 0,by8 0] ++ be 2 84 ++ be 2 (IntKind.i16.wrap v) ++ be 4 num) ++ (be 2 txt.size ++ sb txt)) ++ qaa (IntKind.i16.wrap v) aa).length) al) kz ?_
  refine ⟨_,rfl,fun pT iK=>?_⟩
  have iL:=(EnvOk.places (tb':=[⟨b1,0,[.bool has,.string txt],true⟩,⟨ac,0,[.int .i16 (IntKind.i16.wrap v),.string ((aa.f 0).s),.slice ((aa.f 1).A) ((aa.f 1).l) ((aa.f 1).c),.map aa.m],true⟩,⟨af,0,[.bool has,.string txt],true⟩,⟨ae,0,[.pointer none],true⟩,⟨ab,0,[.string txt],true⟩,⟨ag,0,[.pointer (some ⟨ab,0,none⟩)],true⟩,⟨ah,0,[.func (.func 131) #[] #[.pointer (some ⟨ab,0,none⟩)]],true⟩]) iK (show Pl [⟨b1,0,[.bool has,.string txt],true⟩,⟨ac,0,[.int .i16 (IntKind.i16.wrap v),.string ((aa.f 0).s),.slice ((aa.f 1).A) ((aa.f 1).l) ((aa.f 1).c),.map aa.m],true⟩] [⟨b1,0,[.bool has,.string txt],true⟩,⟨ac,0,[.int .i16 (IntKind.i16.wrap v),.string ((aa.f 0).s),.slice ((aa.f 1).A) ((aa.f 1).l) ((aa.f 1).c),.map aa.m],true⟩,⟨af,0,[.bool has,.string txt],true⟩,⟨ae,0,[.pointer none],true⟩,⟨ab,0,[.string txt],true⟩,⟨ag,0,[.pointer (some ⟨ab,0,none⟩)],true⟩,⟨ah,0,[.func (.func 131) #[] #[.pointer (some ⟨ab,0,none⟩)]],true⟩] from ⟨rfl,rfl,⟨rfl,rfl,trivial⟩⟩)).pk (env':=[(25,.v (.slice ak ((((([]:Bs) ++ [by8 0,by8 0,by8 0,by8 0] ++ be 2 84 ++ be 2 (IntKind.i16.wrap v) ++ be 4 num) ++ (be 2 txt.size ++ sb txt)) ++ qaa (IntKind.i16.wrap v) aa).length) al)),(21,.v (.agg #[.bool has,.string txt])),(23,.v (.iface 65 (.pointer (some ⟨ac,0,none⟩)))),(24,.v (.int .i32 num))])
  refine qal [5,6] [] [(8,.v (.slice ak ((((([]:Bs) ++ [by8 0,by8 0,by8 0,by8 0] ++ be 2 84 ++ be 2 (IntKind.i16.wrap v) ++ be 4 num) ++ (be 2 txt.size ++ sb txt)) ++ qaa (IntKind.i16.wrap v) aa).length) al)),(9,.v (.bool true))] aU iL fun pU iM=>?_
  refine qag (qab ?_)
  refine wp_ret ?_
  refine qaG iM aU.cells (v:=.tuple #[.slice ak ((((([]:Bs) ++ [by8 0,by8 0,by8 0,by8 0] ++ be 2 84 ++ be 2 (IntKind.i16.wrap v) ++ be 4 num) ++ (be 2 txt.size ++ sb txt)) ++ qaa (IntKind.i16.wrap v) aa).length) al,.bool true]) kz ?_
  have iN:be 4 (IntKind.i32.wrap ((((((([]:Bs) ++ [by8 0,by8 0,by8 0,by8 0] ++ be 2 84 ++ be 2 (IntKind.i16.wrap v) ++ be 4 num) ++ (be 2 txt.size ++ sb txt)) ++ qaa (IntKind.i16.wrap v) aa).length) - 4:Nat):Int)) ++ (((([]:Bs) ++ [by8 0,by8 0,by8 0,by8 0] ++ be 2 84 ++ be 2 (IntKind.i16.wrap v) ++ be 4 num) ++ (be 2 txt.size ++ sb txt)) ++ qaa (IntKind.i16.wrap v) aa).drop 4 = (qa8 84 (IntKind.i16.wrap v) num has (sb txt) (decide ((IntKind.i16.wrap v) ≥ 0)) (qaa (IntKind.i16.wrap v) aa)):=qcG (R:=outB 84 (IntKind.i16.wrap v) num has (sb txt) (decide ((IntKind.i16.wrap v) ≥ 0)) (qaa (IntKind.i16.wrap v) aa)) (by simp [outB,qd0,qbR,aJ,bf])
  exact qcH aU (k:=1) rfl (iN.trans (by rw [ba])) (by simp only [List.length_append,List.length_cons,List.length_nil]; omega)
 refine wp_skip ?_
 refine qab ?_
 refine qae [0,1,2,3,4] kz ?_
 refine qal [0,1,2] [3,4] [(16,.p 3 0),(17,.v (.iface 65 (.pointer (some ⟨ac,0,none⟩)))),(18,.v (.int .i32 num))] av cC fun pV iO=>?_
 refine qao (qba iO (f:=91) (vs:=[.pointer (some ⟨ae,0,none⟩),.slice none 0 0,.iface 65 (.pointer (some ⟨ac,0,none⟩)),.int .i32 num]) (d:=19) (n':=60) kz Tryz.call91 Tryz.func91 rfl Tryz.ntmps91 kz fun pW iP=>?_)
 have iQ:=iP.recast 0 (.v (.pointer (some ⟨ae,0,none⟩))) (.p 3 0) rfl rfl (Nat.le_of_ble_eq_true (n:=4) rfl)
 refine qat [(0,.p 3 0),(1,.v (.slice none 0 0)),(2,.v (.iface 65 (.pointer (some ⟨ac,0,none⟩)))),(3,.v (.int .i32 num))] av iQ fun pX iR=>?_
 refine qae [0,1,2,3] kz ?_
 refine qal [0] [1,2,3] [(0,.p 3 0),(2,.v (.iface 65 (.pointer (some ⟨ac,0,none⟩)))),(3,.v (.int .i32 num)),(12,.v (.slice none 0 0))] av iR fun pY iS=>?_
 have iT:=av.addNil 5 1
 have bX:=av.frNil 5 1
 refine qbt iT iS (k:=0) (e:=5) (size:=1) (len:=4) (cs:=[.int .u8 0,.int .u8 0,.int .u8 0,.int .u8 0]) (d1:=13) (d:=14) kz (t:=24) (bytes:=1) kz (fun _=>by kernel_rfl) rfl kz (by first | omega | (simp only [List.length_append,List.length_cons,List.length_nil,be_length,qbR]; omega) | (simp; omega)) fun aH aI pZ p4 bY iU ⟨_,iV⟩=>?_
 have iW:(⟨aH,aI,5,1,([]:Bs).length + 4,bc ([]:Bs) ++ [.int .u8 0,.int .u8 0,.int .u8 0,.int .u8 0]⟩:Rw) = brow aH aI 5 (([]:Bs) ++ [by8 0,by8 0,by8 0,by8 0]):=qa3 (by simp only [bc,List.map,qbI]; try rfl) rfl
 obtain ⟨ay,bZ⟩:=iU.rowEq 0 [brow aH aI 5 (([]:Bs) ++ [by8 0,by8 0,by8 0,by8 0])] iW
 have iX:=EnvOk.pick iV (ks:=[0,2,3,12,14]) (env':=[(0,.p 3 0),(2,.v (.iface 65 (.pointer (some ⟨ac,0,none⟩)))),(3,.v (.int .i32 num)),(12,.v (.slice none 0 0)),(14,.v (.slice aH (([]:Bs).length + 4) aI))]) kz
 have iY:=iX.cast (env':=[(0,.p 3 0),(2,.v (.iface 65 (.pointer (some ⟨ac,0,none⟩)))),(3,.v (.int .i32 num)),(12,.v (.slice none 0 0)),(14,.v (.slice aH ((([]:Bs) ++ [by8 0,by8 0,by8 0,by8 0]).length) aI))]) (by simp only [List.length_append,List.length_cons,List.length_nil,Nat.zero_add])
 refine qal [3] [] [(0,.p 3 0),(1,.v (.slice aH ((([]:Bs) ++ [by8 0,by8 0,by8 0,by8 0]).length) aI)),(2,.v (.iface 65 (.pointer (some ⟨ac,0,none⟩)))),(3,.v (.int .i32 num))] ay iY fun p5 iZ=>?_
 refine qag (qab ?_)
 refine qae [0,1,2] kz ?_
 refine qal [0] [1,2] [(0,.p 3 0),(1,.v (.slice aH ((([]:Bs) ++ [by8 0,by8 0,by8 0,by8 0]).length) aI)),(2,.v (.iface 65 (.pointer (some ⟨ac,0,none⟩)))),(3,.v (.int .i32 num)),(15,.v (.iface 65 (.pointer (some ⟨ac,0,none⟩))))] ay iZ fun p6 i6=>?_
 refine qao (qcc i6 (t := 65) (v := (.pointer (some ⟨ac, 0, none⟩))) (v' := (.pointer (some ⟨ac, 0, none⟩))) (name := "Key") (f := 244) (vs := []) (d := 16) (n' := 3) kz (fun _ => by kernel_rfl) Tryz.call244 Tryz.func244 rfl Tryz.ntmps244 kz fun p7 i7 => ?_)
 have ja:=i7.recast 0 (.v (.pointer (some ⟨ac,0,none⟩))) (.p 1 0) rfl rfl (Nat.le_of_ble_eq_true (n:=2) rfl)
 refine qat [] ay ja fun p8 jb=>?_
 refine qat [(2,.v (.int .i16 84))] ay jb fun p9 jc=>?_
 refine wp_ret ?_
 refine qaG jc ay.cells (v:=.int .i16 84) kz ?_
 refine ⟨_,rfl,fun qa jd=>?_⟩
 have je:=(EnvOk.places (tb':=[⟨b1,0,[.bool has,.string txt],true⟩,⟨ac,0,[.int .i16 (IntKind.i16.wrap v),.string ((aa.f 0).s),.slice ((aa.f 1).A) ((aa.f 1).l) ((aa.f 1).c),.map aa.m],true⟩,⟨af,0,[.bool has,.string txt],true⟩,⟨ae,0,[.pointer none],true⟩]) jd (show Pl [⟨b1,0,[.bool has,.string txt],true⟩,⟨ac,0,[.int .i16 (IntKind.i16.wrap v),.string ((aa.f 0).s),.slice ((aa.f 1).A) ((aa.f 1).l) ((aa.f 1).c),.map aa.m],true⟩,⟨af,0,[.bool has,.string txt],true⟩,⟨ae,0,[.pointer none],true⟩] [⟨b1,0,[.bool has,.string txt],true⟩,⟨ac,0,[.int .i16 (IntKind.i16.wrap v),.string ((aa.f 0).s),.slice ((aa.f 1).A) ((aa.f 1).l) ((aa.f 1).c),.map aa.m],true⟩,⟨af,0,[.bool has,.string txt],true⟩,⟨ae,0,[.pointer none],true⟩] from ⟨rfl,rfl,⟨rfl,rfl,⟨rfl,rfl,⟨rfl,rfl,trivial⟩⟩⟩⟩)).pk (env':=[(16,.v (.int .i16 84)),(0,.p 3 0),(1,.v (.slice aH ((([]:Bs) ++ [by8 0,by8 0,by8 0,by8 0]).length) aI)),(2,.v (.iface 65 (.pointer (some ⟨ac,0,none⟩)))),(3,.v (.int .i32 num)),(15,.v (.iface 65 (.pointer (some ⟨ac,0,none⟩))))])
 refine qal [2] [] [(0,.p 3 0),(1,.v (.slice aH ((([]:Bs) ++ [by8 0,by8 0,by8 0,by8 0]).length) aI)),(2,.v (.iface 65 (.pointer (some ⟨ac,0,none⟩)))),(3,.v (.int .i32 num)),(9,.v (.int .i16 84))] ay je fun qb jf=>?_
 refine qag (qab ?_)
 refine qae [0,1,2] kz ?_
 refine qal [0] [1,2] [(0,.p 3 0),(1,.v (.slice aH ((([]:Bs) ++ [by8 0,by8 0,by8 0,by8 0]).length) aI)),(2,.v (.iface 65 (.pointer (some ⟨ac,0,none⟩)))),(3,.v (.int .i32 num)),(9,.v (.int .i16 84)),(17,.v (.iface 65 (.pointer (some ⟨ac,0,none⟩))))] ay jf fun qc jg=>?_
 refine qao (qcc jg (t := 65) (v := (.pointer (some ⟨ac, 0, none⟩))) (v' := (.pointer (some ⟨ac, 0, none⟩))) (name := "GetVersion") (f := 242) (vs := []) (d := 18) (n' := 7) kz (fun _ => by kernel_rfl) Tryz.call242 Tryz.func242 rfl Tryz.ntmps242 kz fun qd jh => ?_)
 have ji:=jh.recast 0 (.v (.pointer (some ⟨ac,0,none⟩))) (.p 1 0) rfl rfl (Nat.le_of_ble_eq_true (n:=2) rfl)
 refine qat [(0,.p 1 0)] ay ji fun qe jj=>?_
 refine qat [(2,.v (.int .i16 (IntKind.i16.wrap v)))] ay jj fun qf jk=>?_
 refine wp_ret ?_
 refine qaG jk ay.cells (v:=.int .i16 (IntKind.i16.wrap v)) kz ?_
 refine ⟨_,rfl,fun qg jl=>?_⟩
 have jm:=(EnvOk.places (tb':=[⟨b1,0,[.bool has,.string txt],true⟩,⟨ac,0,[.int .i16 (IntKind.i16.wrap v),.string ((aa.f 0).s),.slice ((aa.f 1).A) ((aa.f 1).l) ((aa.f 1).c),.map aa.m],true⟩,⟨af,0,[.bool has,.string txt],true⟩,⟨ae,0,[.pointer none],true⟩]) jl (show Pl [⟨b1,0,[.bool has,.string txt],true⟩,⟨ac,0,[.int .i16 (IntKind.i16.wrap v),.string ((aa.f 0).s),.slice ((aa.f 1).A) ((aa.f 1).l) ((aa.f 1).c),.map aa.m],true⟩,⟨af,0,[.bool has,.string txt],true⟩,⟨ae,0,[.pointer none],true⟩] [⟨b1,0,[.bool has,.string txt],true⟩,⟨ac,0,[.int .i16 (IntKind.i16.wrap v),.string ((aa.f 0).s),.slice ((aa.f 1).A) ((aa.f 1).l) ((aa.f 1).c),.map aa.m],true⟩,⟨af,0,[.bool has,.string txt],true⟩,⟨ae,0,[.pointer none],true⟩] from ⟨rfl,rfl,⟨rfl,rfl,⟨rfl,rfl,⟨rfl,rfl,trivial⟩⟩⟩⟩)).pk (env':=[(18,.v (.int .i16 (IntKind.i16.wrap v))),(0,.p 3 0),(1,.v (.slice aH ((([]:Bs) ++ [by8 0,by8 0,by8 0,by8 0]).length) aI)),(2,.v (.iface 65 (.pointer (some ⟨ac,0,none⟩)))),(3,.v (.int .i32 num)),(9,.v (.int .i16 84)),(17,.v (.iface 65 (.pointer (some ⟨ac,0,none⟩))))])
 refine qal [2] [] [(0,.p 3 0),(1,.v (.slice aH ((([]:Bs) ++ [by8 0,by8 0,by8 0,by8 0]).length) aI)),(2,.v (.iface 65 (.pointer (some ⟨ac,0,none⟩)))),(3,.v (.int .i32 num)),(9,.v (.int .i16 84)),(10,.v (.int .i16 (IntKind.i16.wrap v)))] ay jm fun qh jn=>?_
 refine qag (qab ?_)
 refine qae [0,1,2,3] kz ?_
 refine qal [0,1] [2,3] [(0,.p 3 0),(2,.v (.iface 65 (.pointer (some ⟨ac,0,none⟩)))),(3,.v (.int .i32 num)),(9,.v (.int .i16 84)),(10,.v (.int .i16 (IntKind.i16.wrap v))),(19,.v (.slice aH ((([]:Bs) ++ [by8 0,by8 0,by8 0,by8 0]).length) aI)),(20,.v (.int .i16 84))] ay jn fun qi jo=>?_
 refine qao (qan jo (f:=132) (vs:=[.slice aH ((([]:Bs) ++ [by8 0,by8 0,by8 0,by8 0]).length) aI,.int .i16 84]) (d:=21) kz Tryz.call132 (qcp aH aI (([]:Bs) ++ [by8 0,by8 0,by8 0,by8 0]) 84 _ (ay.own 0 _ rfl) (by first | omega | (simp only [List.length_append,List.length_cons,List.length_nil,be_length,qbR]; omega) | (simp; omega))) ?_)
 rintro e_ qj ⟨bB,bC,rfl,jp,dr,dt⟩
 refine ⟨_,rfl,fun qk jq=>?_⟩
 have b8:WOk _ _ _ _ [brow bB bC 5 (([]:Bs) ++ [by8 0,by8 0,by8 0,by8 0] ++ be 2 84)]:=ay.grow (k:=0) rfl dr jp dt
 have cd:Fr _ [⟨b1,0,[.bool has,.string txt],true⟩,⟨ac,0,[.int .i16 (IntKind.i16.wrap v),.string ((aa.f 0).s),.slice ((aa.f 1).A) ((aa.f 1).l) ((aa.f 1).c),.map aa.m],true⟩,⟨af,0,[.bool has,.string txt],true⟩,⟨ae,0,[.pointer none],true⟩] [brow aH aI 5 (([]:Bs) ++ [by8 0,by8 0,by8 0,by8 0])] _ [⟨b1,0,[.bool has,.string txt],true⟩,⟨ac,0,[.int .i16 (IntKind.i16.wrap v),.string ((aa.f 0).s),.slice ((aa.f 1).A) ((aa.f 1).l) ((aa.f 1).c),.map aa.m],true⟩,⟨af,0,[.bool has,.string txt],true⟩,⟨ae,0,[.pointer none],true⟩] [brow bB bC 5 (([]:Bs) ++ [by8 0,by8 0,by8 0,by8 0] ++ be 2 84)]:=Fr.grow _ (k:=0) (r':=(brow bB bC 5 (([]:Bs) ++ [by8 0,by8 0,by8 0,by8 0] ++ be 2 84))) rfl dr dt
 refine qal [3] [] [(0,.p 3 0),(1,.v (.slice bB ((([]:Bs) ++ [by8 0,by8 0,by8 0,by8 0] ++ be 2 84).length) bC)),(2,.v (.iface 65 (.pointer (some ⟨ac,0,none⟩)))),(3,.v (.int .i32 num)),(9,.v (.int .i16 84)),(10,.v (.int .i16 (IntKind.i16.wrap v)))] b8 jq fun ql jr=>?_
 refine qag (qab ?_)
 refine qae [0,1,2,3] kz ?_
 refine qal [0,1] [2,3] [(0,.p 3 0),(2,.v (.iface 65 (.pointer (some ⟨ac,0,none⟩)))),(3,.v (.int .i32 num)),(9,.v (.int .i16 84)),(10,.v (.int .i16 (IntKind.i16.wrap v))),(22,.v (.slice bB ((([]:Bs) ++ [by8 0,by8 0,by8 0,by8 0] ++ be 2 84).length) bC)),(23,.v (.int .i16 (IntKind.i16.wrap v)))] b8 jr fun qm js=>?_
 refine qao (qan js (f:=132) (vs:=[.slice bB ((([]:Bs) ++ [by8 0,by8 0,by8 0,by8 0] ++ be 2 84).length) bC,.int .i16 (IntKind.i16.wrap v)]) (d:=24) kz Tryz.call132 (qcp bB bC (([]:Bs) ++ [by8 0,by8 0,by8 0,by8 0] ++ be 2 84) (IntKind.i16.wrap v) _ (b8.own 0 _ rfl) (by first | omega | (simp only [List.length_append,List.length_cons,List.length_nil,be_length,qbR]; omega) | (simp; omega))) ?_)
 rintro e_ qn ⟨bD,bE,rfl,jt,du,dv⟩
 refine ⟨_,rfl,fun qo ju=>?_⟩
 have ce:WOk _ _ _ _ [brow bD bE 5 (([]:Bs) ++ [by8 0,by8 0,by8 0,by8 0] ++ be 2 84 ++ be 2 (IntKind.i16.wrap v))]:=b8.grow (k:=0) rfl du jt dv
 have cg:Fr _ [⟨b1,0,[.bool has,.string txt],true⟩,⟨ac,0,[.int .i16 (IntKind.i16.wrap v),.string ((aa.f 0).s),.slice ((aa.f 1).A) ((aa.f 1).l) ((aa.f 1).c),.map aa.m],true⟩,⟨af,0,[.bool has,.string txt],true⟩,⟨ae,0,[.pointer none],true⟩] [brow bB bC 5 (([]:Bs) ++ [by8 0,by8 0,by8 0,by8 0] ++ be 2 84)] _ [⟨b1,0,[.bool has,.string txt],true⟩,⟨ac,0,[.int .i16 (IntKind.i16.wrap v),.string ((aa.f 0).s),.slice ((aa.f 1).A) ((aa.f 1).l) ((aa.f 1).c),.map aa.m],true⟩,⟨af,0,[.bool has,.string txt],true⟩,⟨ae,0,[.pointer none],true⟩] [brow bD bE 5 (([]:Bs) ++ [by8 0,by8 0,by8 0,by8 0] ++ be 2 84 ++ be 2 (IntKind.i16.wrap v))]:=Fr.grow _ (k:=0) (r':=(brow bD bE 5 (([]:Bs) ++ [by8 0,by8 0,by8 0,by8 0] ++ be 2 84 ++ be 2 (IntKind.i16.wrap v)))) rfl du dv
 refine qal [3] [] [(0,.p 3 0),(1,.v (.slice bD ((([]:Bs) ++ [by8 0,by8 0,by8 0,by8 0] ++ be 2 84 ++ be 2 (IntKind.i16.wrap v)).length) bE)),(2,.v (.iface 65 (.pointer (some ⟨ac,0,none⟩)))),(3,.v (.int .i32 num)),(9,.v (.int .i16 84)),(10,.v (.int .i16 (IntKind.i16.wrap v)))] ce ju fun qp jv=>?_
 refine qag (qab ?_)
 refine qae [0,1,2,3] kz ?_
 refine qal [0,1] [2,3] [(0,.p 3 0),(2,.v (.iface 65 (.pointer (some ⟨ac,0,none⟩)))),(9,.v (.int .i16 84)),(10,.v (.int .i16 (IntKind.i16.wrap v))),(25,.v (.slice bD ((([]:Bs) ++ [by8 0,by8 0,by8 0,by8 0] ++ be 2 84 ++ be 2 (IntKind.i16.wrap v)).length) bE)),(26,.v (.int .i32 num))] ce jv fun qq jw=>?_
 refine qao (qan jw (f:=133) (vs:=[.slice bD ((([]:Bs) ++ [by8 0,by8 0,by8 0,by8 0] ++ be 2 84 ++ be 2 (IntKind.i16.wrap v)).length) bE,.int .i32 num]) (d:=27) kz Tryz.call133 (qcE bD bE (([]:Bs) ++ [by8 0,by8 0,by8 0,by8 0] ++ be 2 84 ++ be 2 (IntKind.i16.wrap v)) num _ (ce.own 0 _ rfl) (by first | omega | (simp only [List.length_append,List.length_cons,List.length_nil,be_length,qbR]; omega) | (simp; omega))) ?_)
 rintro e_ qr ⟨aN,aO,rfl,jx,dw,dx⟩
 refine ⟨_,rfl,fun qs jy=>?_⟩
 have aV:WOk _ _ _ _ [brow aN aO 5 (([]:Bs) ++ [by8 0,by8 0,by8 0,by8 0] ++ be 2 84 ++ be 2 (IntKind.i16.wrap v) ++ be 4 num)]:=ce.grow (k:=0) rfl dw jx dx
 have cm:Fr _ [⟨b1,0,[.bool has,.string txt],true⟩,⟨ac,0,[.int .i16 (IntKind.i16.wrap v),.string ((aa.f 0).s),.slice ((aa.f 1).A) ((aa.f 1).l) ((aa.f 1).c),.map aa.m],true⟩,⟨af,0,[.bool has,.string txt],true⟩,⟨ae,0,[.pointer none],true⟩] [brow bD bE 5 (([]:Bs) ++ [by8 0,by8 0,by8 0,by8 0] ++ be 2 84 ++ be 2 (IntKind.i16.wrap v))] _ [⟨b1,0,[.bool has,.string txt],true⟩,⟨ac,0,[.int .i16 (IntKind.i16.wrap v),.string ((aa.f 0).s),.slice ((aa.f 1).A) ((aa.f 1).l) ((aa.f 1).c),.map aa.m],true⟩,⟨af,0,[.bool has,.string txt],true⟩,⟨ae,0,[.pointer none],true⟩] [brow aN aO 5 (([]:Bs) ++ [by8 0,by8 0,by8 0,by8 0] ++ be 2 84 ++ be 2 (IntKind.i16.wrap v) ++ be 4 num)]:=Fr.grow _ (k:=0) (r':=(brow aN aO 5 (([]:Bs) ++ [by8 0,by8 0,by8 0,by8 0] ++ be 2 84 ++ be 2 (IntKind.i16.wrap v) ++ be 4 num))) rfl dw dx
 refine qal [3] [] [(0,.p 3 0),(1,.v (.slice aN ((([]:Bs) ++ [by8 0,by8 0,by8 0,by8 0] ++ be 2 84 ++ be 2 (IntKind.i16.wrap v) ++ be 4 num).length) aO)),(2,.v (.iface 65 (.pointer (some ⟨ac,0,none⟩)))),(9,.v (.int .i16 84)),(10,.v (.int .i16 (IntKind.i16.wrap v)))] aV jy fun qt jz=>?_
 refine qag (qab ?_)
 refine wp_seq ?_
 refine qat [(0,.p 3 0),(1,.v (.slice aN ((([]:Bs) ++ [by8 0,by8 0,by8 0,by8 0] ++ be 2 84 ++ be 2 (IntKind.i16.wrap v) ++ be 4 num).length) aO)),(2,.v (.iface 65 (.pointer (some ⟨ac,0,none⟩)))),(33,.v (.bool false))] aV jz fun qu dy=>?_
 refine qav dy (b:=false) kz rfl ?_
 refine wp_skip ?_
 refine qab ?_
 refine qae [0,1,2,3,4,5,6] kz ?_
 refine qal [0,1,2,3,4] [5,6] [(2,.v (.iface 65 (.pointer (some ⟨ac,0,none⟩)))),(35,.v (.slice aN ((([]:Bs) ++ [by8 0,by8 0,by8 0,by8 0] ++ be 2 84 ++ be 2 (IntKind.i16.wrap v) ++ be 4 num).length) aO)),(39,.v (.pointer none))] aV dy fun qv jA=>?_
 refine qao (qba jA (f:=134) (vs:=[.slice aN ((([]:Bs) ++ [by8 0,by8 0,by8 0,by8 0] ++ be 2 84 ++ be 2 (IntKind.i16.wrap v) ++ be 4 num).length) aO,.pointer none]) (d:=40) (n':=14) kz Tryz.call134 Tryz.func134 rfl Tryz.ntmps134 kz fun qw jB=>?_)
 refine qat [(0,.v (.slice aN ((([]:Bs) ++ [by8 0,by8 0,by8 0,by8 0] ++ be 2 84 ++ be 2 (IntKind.i16.wrap v) ++ be 4 num).length) aO)),(1,.v (.pointer none))] aV jB fun qx jC=>?_
 refine wp_seq ?_
 refine qat [(0,.v (.slice aN ((([]:Bs) ++ [by8 0,by8 0,by8 0,by8 0] ++ be 2 84 ++ be 2 (IntKind.i16.wrap v) ++ be 4 num).length) aO)),(1,.v (.pointer none)),(6,.v (.bool true))] aV jC fun qy dz=>?_
 refine qbN dz (b:=true) kz rfl ?_
 refine qae [0,1,2] kz ?_
 refine qal [0] [1,2] [(7,.v (.slice aN ((([]:Bs) ++ [by8 0,by8 0,by8 0,by8 0] ++ be 2 84 ++ be 2 (IntKind.i16.wrap v) ++ be 4 num).length) aO))] aV dz fun qz jD=>?_
 refine qao (qan jD (f:=132) (vs:=[.slice aN ((([]:Bs) ++ [by8 0,by8 0,by8 0,by8 0] ++ be 2 84 ++ be 2 (IntKind.i16.wrap v) ++ be 4 num).length) aO,.int .i16 (-1)]) (d:=8) kz Tryz.call132 (qcp aN aO (([]:Bs) ++ [by8 0,by8 0,by8 0,by8 0] ++ be 2 84 ++ be 2 (IntKind.i16.wrap v) ++ be 4 num) (-1) _ (aV.own 0 _ rfl) (by first | omega | (simp only [List.length_append,List.length_cons,List.length_nil,be_length,qbR]; omega) | (simp; omega))) ?_)
 rintro e_ qA ⟨aB,aC,rfl,jE,dA,dB⟩
 refine ⟨_,rfl,fun qB jF=>?_⟩
 have az:WOk _ _ _ _ [brow aB aC 5 (([]:Bs) ++ [by8 0,by8 0,by8 0,by8 0] ++ be 2 84 ++ be 2 (IntKind.i16.wrap v) ++ be 4 num ++ be 2 (-1))]:=aV.grow (k:=0) rfl dA jE dB
 have cq:Fr _ [⟨b1,0,[.bool has,.string txt],true⟩,⟨ac,0,[.int .i16 (IntKind.i16.wrap v),.string ((aa.f 0).s),.slice ((aa.f 1).A) ((aa.f 1).l) ((aa.f 1).c),.map aa.m],true⟩,⟨af,0,[.bool has,.string txt],true⟩,⟨ae,0,[.pointer none],true⟩] [brow aN aO 5 (([]:Bs) ++ [by8 0,by8 0,by8 0,by8 0] ++ be 2 84 ++ be 2 (IntKind.i16.wrap v) ++ be 4 num)] _ [⟨b1,0,[.bool has,.string txt],true⟩,⟨ac,0,[.int .i16 (IntKind.i16.wrap v),.string ((aa.f 0).s),.slice ((aa.f 1).A) ((aa.f 1).l) ((aa.f 1).c),.map aa.m],true⟩,⟨af,0,[.bool has,.string txt],true⟩,⟨ae,0,[.pointer none],true⟩] [brow aB aC 5 (([]:Bs) ++ [by8 0,by8 0,by8 0,by8 0] ++ be 2 84 ++ be 2 (IntKind.i16.wrap v) ++ be 4 num ++ be 2 (-1))]:=Fr.grow _ (k:=0) (r':=(brow aB aC 5 (([]:Bs) ++ [by8 0,by8 0,by8 0,by8 0] ++ be 2 84 ++ be 2 (IntKind.i16.wrap v) ++ be 4 num ++ be 2 (-1)))) rfl dA dB
 refine qal [2] [] [(4,.v (.slice aB ((([]:Bs) ++ [by8 0,by8 0,by8 0,by8 0] ++ be 2 84 ++ be 2 (IntKind.i16.wrap v) ++ be 4 num ++ be 2 (-1)).length) aC))] az jF fun qC jG=>?_
 refine qag (qab ?_)
 refine wp_ret ?_
 refine qaF ?_
 refine qaG jG az.cells (v:=.slice aB ((([]:Bs) ++ [by8 0,by8 0,by8 0,by8 0] ++ be 2 84 ++ be 2 (IntKind.i16.wrap v) ++ be 4 num ++ be 2 (-1)).length) aC) kz ?_
 refine ⟨_,rfl,fun qD jH=>?_⟩
 have jI:=(EnvOk.places (tb':=[⟨b1,0,[.bool has,.string txt],true⟩,⟨ac,0,[.int .i16 (IntKind.i16.wrap v),.string ((aa.f 0).s),.slice ((aa.f 1).A) ((aa.f 1).l) ((aa.f 1).c),.map aa.m],true⟩,⟨af,0,[.bool has,.string txt],true⟩,⟨ae,0,[.pointer none],true⟩]) jH (show Pl [⟨b1,0,[.bool has,.string txt],true⟩,⟨ac,0,[.int .i16 (IntKind.i16.wrap v),.string ((aa.f 0).s),.slice ((aa.f 1).A) ((aa.f 1).l) ((aa.f 1).c),.map aa.m],true⟩,⟨af,0,[.bool has,.string txt],true⟩,⟨ae,0,[.pointer none],true⟩] [⟨b1,0,[.bool has,.string txt],true⟩,⟨ac,0,[.int .i16 (IntKind.i16.wrap v),.string ((aa.f 0).s),.slice ((aa.f 1).A) ((aa.f 1).l) ((aa.f 1).c),.map aa.m],true⟩,⟨af,0,[.bool has,.string txt],true⟩,⟨ae,0,[.pointer none],true⟩] from ⟨rfl,rfl,⟨rfl,rfl,⟨rfl,rfl,⟨rfl,rfl,trivial⟩⟩⟩⟩)).pk (env':=[(40,.v (.slice aB ((([]:Bs) ++ [by8 0,by8 0,by8 0,by8 0] ++ be 2 84 ++ be 2 (IntKind.i16.wrap v) ++ be 4 num ++ be 2 (-1)).length) aC)),(2,.v (.iface 65 (.pointer (some ⟨ac,0,none⟩)))),(35,.v (.slice aN ((([]:Bs) ++ [by8 0,by8 0,by8 0,by8 0] ++ be 2 84 ++ be 2 (IntKind.i16.wrap v) ++ be 4 num).length) aO)),(39,.v (.pointer none))])
 refine qal [6] [] [(1,.v (.slice aB ((([]:Bs) ++ [by8 0,by8 0,by8 0,by8 0] ++ be 2 84 ++ be 2 (IntKind.i16.wrap v) ++ be 4 num ++ be 2 (-1)).length) aC)),(2,.v (.iface 65 (.pointer (some ⟨ac,0,none⟩))))] az jI fun qE jJ=>?_
 refine qag (qab ?_)
 refine wp_seq ?_
 refine qae [0,1] kz ?_
 refine qal [0] [1] [(1,.v (.slice aB ((([]:Bs) ++ [by8 0,by8 0,by8 0,by8 0] ++ be 2 84 ++ be 2 (IntKind.i16.wrap v) ++ be 4 num ++ be 2 (-1)).length) aC)),(2,.v (.iface 65 (.pointer (some ⟨ac,0,none⟩)))),(41,.v (.iface 65 (.pointer (some ⟨ac,0,none⟩))))] az jJ fun qF jK=>?_
 refine qao (qcc jK (t := 65) (v := (.pointer (some ⟨ac, 0, none⟩))) (v' := (.pointer (some ⟨ac, 0, none⟩))) (name := "IsFlexible") (f := 243) (vs := []) (d := 42) (n' := 8) kz (fun _ => by kernel_rfl) Tryz.call243 Tryz.func243 rfl Tryz.ntmps243 kz fun qG jL => ?_)
 have jM:=jL.recast 0 (.v (.pointer (some ⟨ac,0,none⟩))) (.p 1 0) rfl rfl (Nat.le_of_ble_eq_true (n:=2) rfl)
 refine qat [(0,.p 1 0)] az jM fun qH jN=>?_
 refine qat [(2,.v (.bool (decide ((IntKind.i16.wrap v) ≥ 0))))] az jN fun qI jO=>?_
 refine wp_ret ?_
 refine qaG jO az.cells (v:=.bool (decide ((IntKind.i16.wrap v) ≥ 0))) kz ?_
 refine ⟨_,rfl,fun qJ jP=>?_⟩
 have cG:=(EnvOk.places (tb':=[⟨b1,0,[.bool has,.string txt],true⟩,⟨ac,0,[.int .i16 (IntKind.i16.wrap v),.string ((aa.f 0).s),.slice ((aa.f 1).A) ((aa.f 1).l) ((aa.f 1).c),.map aa.m],true⟩,⟨af,0,[.bool has,.string txt],true⟩,⟨ae,0,[.pointer none],true⟩]) jP (show Pl [⟨b1,0,[.bool has,.string txt],true⟩,⟨ac,0,[.int .i16 (IntKind.i16.wrap v),.string ((aa.f 0).s),.slice ((aa.f 1).A) ((aa.f 1).l) ((aa.f 1).c),.map aa.m],true⟩,⟨af,0,[.bool has,.string txt],true⟩,⟨ae,0,[.pointer none],true⟩] [⟨b1,0,[.bool has,.string txt],true⟩,⟨ac,0,[.int .i16 (IntKind.i16.wrap v),.string ((aa.f 0).s),.slice ((aa.f 1).A) ((aa.f 1).l) ((aa.f 1).c),.map aa.m],true⟩,⟨af,0,[.bool has,.string txt],true⟩,⟨ae,0,[.pointer none],true⟩] from ⟨rfl,rfl,⟨rfl,rfl,⟨rfl,rfl,⟨rfl,rfl,trivial⟩⟩⟩⟩)).pk (env':=[(42,.v (.bool (decide ((IntKind.i16.wrap v) ≥ 0)))),(1,.v (.slice aB ((([]:Bs) ++ [by8 0,by8 0,by8 0,by8 0] ++ be 2 84 ++ be 2 (IntKind.i16.wrap v) ++ be 4 num ++ be 2 (-1)).length) aC)),(2,.v (.iface 65 (.pointer (some ⟨ac,0,none⟩)))),(41,.v (.iface 65 (.pointer (some ⟨ac,0,none⟩))))])
 refine qag (qab ?_)
 refine qaB cG (b:=decide ((IntKind.i16.wrap v) ≥ 0)) kz (fun bk=>?_) (fun bk=>?_)
 ·
  have mu:=of_decide_eq_true bk
  refine qat [(1,.v (.slice aB ((([]:Bs) ++ [by8 0,by8 0,by8 0,by8 0] ++ be 2 84 ++ be 2 (IntKind.i16.wrap v) ++ be 4 num ++ be 2 (-1)).length) aC)),(2,.v (.iface 65 (.pointer (some ⟨ac,0,none⟩)))),(11,.v (.int .u8 0))] az cG fun qK jQ=>?_
  refine qae [0,1,2,3,4] kz ?_
  refine qal [0,1] [2,3,4] [(2,.v (.iface 65 (.pointer (some ⟨ac,0,none⟩)))),(11,.v (.int .u8 0)),(43,.v (.slice aB ((([]:Bs) ++ [by8 0,by8 0,by8 0,by8 0] ++ be 2 84 ++ be 2 (IntKind.i16.wrap v) ++ be 4 num ++ be 2 (-1)).length) aC)),(44,.v (.int .u8 0))] az jQ fun qL jR=>?_
  refine qbt az jR (k:=0) (e:=5) (size:=1) (len:=1) (cs:=[.int .u8 0]) (d1:=45) (d:=46) kz (t:=24) (bytes:=1) kz (fun _=>by kernel_rfl) rfl kz (by first | omega | (simp only [List.length_append,List.length_cons,List.length_nil,be_length,qbR]; omega) | (simp; omega)) fun bn bo qM qN dC jS ⟨_,jT⟩=>?_
  have jU:(⟨bn,bo,5,1,(([]:Bs) ++ [by8 0,by8 0,by8 0,by8 0] ++ be 2 84 ++ be 2 (IntKind.i16.wrap v) ++ be 4 num ++ be 2 (-1)).length + 1,bc (([]:Bs) ++ [by8 0,by8 0,by8 0,by8 0] ++ be 2 84 ++ be 2 (IntKind.i16.wrap v) ++ be 4 num ++ be 2 (-1)) ++ [.int .u8 0]⟩:Rw) = brow bn bo 5 (([]:Bs) ++ [by8 0,by8 0,by8 0,by8 0] ++ be 2 84 ++ be 2 (IntKind.i16.wrap v) ++ be 4 num ++ be 2 (-1) ++ [by8 0]):=qa3 (by simp only [bc,List.map,qbI]; try rfl) rfl
  obtain ⟨bu,dD⟩:=jS.rowEq 0 [brow bn bo 5 (([]:Bs) ++ [by8 0,by8 0,by8 0,by8 0] ++ be 2 84 ++ be 2 (IntKind.i16.wrap v) ++ be 4 num ++ be 2 (-1) ++ [by8 0])] jU
  have jV:=EnvOk.pick jT (ks:=[2,11,43,44,46]) (env':=[(2,.v (.iface 65 (.pointer (some ⟨ac,0,none⟩)))),(11,.v (.int .u8 0)),(43,.v (.slice aB ((([]:Bs) ++ [by8 0,by8 0,by8 0,by8 0] ++ be 2 84 ++ be 2 (IntKind.i16.wrap v) ++ be 4 num ++ be 2 (-1)).length) aC)),(44,.v (.int .u8 0)),(46,.v (.slice bn ((([]:Bs) ++ [by8 0,by8 0,by8 0,by8 0] ++ be 2 84 ++ be 2 (IntKind.i16.wrap v) ++ be 4 num ++ be 2 (-1)).length + 1) bo))]) kz
  have jW:=jV.cast (env':=[(2,.v (.iface 65 (.pointer (some ⟨ac,0,none⟩)))),(11,.v (.int .u8 0)),(43,.v (.slice aB ((([]:Bs) ++ [by8 0,by8 0,by8 0,by8 0] ++ be 2 84 ++ be 2 (IntKind.i16.wrap v) ++ be 4 num ++ be 2 (-1)).length) aC)),(44,.v (.int .u8 0)),(46,.v (.slice bn ((([]:Bs) ++ [by8 0,by8 0,by8 0,by8 0] ++ be 2 84 ++ be 2 (IntKind.i16.wrap v) ++ be 4 num ++ be 2 (-1) ++ [by8 0]).length) bo))]) (by simp only [List.length_append,List.length_cons,List.length_nil,Nat.zero_add])
  refine qal [4] [] [(1,.v (.slice bn ((([]:Bs) ++ [by8 0,by8 0,by8 0,by8 0] ++ be 2 84 ++ be 2 (IntKind.i16.wrap v) ++ be 4 num ++ be 2 (-1) ++ [by8 0]).length) bo)),(2,.v (.iface 65 (.pointer (some ⟨ac,0,none⟩)))),(11,.v (.int .u8 0))] bu jW fun qO jX=>?_
  refine qag (qab ?_)
  refine qat [(1,.v (.slice bn ((([]:Bs) ++ [by8 0,by8 0,by8 0,by8 0] ++ be 2 84 ++ be 2 (IntKind.i16.wrap v) ++ be 4 num ++ be 2 (-1) ++ [by8 0]).length) bo)),(2,.v (.iface 65 (.pointer (some ⟨ac,0,none⟩)))),(48,.v (.bool false))] bu jX fun qP dE=>?_
  refine qav dE (b:=false) kz rfl ?_
  refine wp_skip ?_
  refine qab ?_
  refine qae [0,1,2,3] kz ?_
  refine qal [0,1] [2,3] [(49,.v (.iface 65 (.pointer (some ⟨ac,0,none⟩)))),(50,.v (.slice bn ((([]:Bs) ++ [by8 0,by8 0,by8 0,by8 0] ++ be 2 84 ++ be 2 (IntKind.i16.wrap v) ++ be 4 num ++ be 2 (-1) ++ [by8 0]).length) bo))] bu dE fun qQ jY=>?_
  have jZ:=(qaM _ ((((((((((aP.trans aQ).trans bX).trans bY).trans bZ).trans cd).trans cg).trans cm).trans cq).trans dC).trans dD).step immM ((((((((((aP.trans aQ).trans bX).trans bY).trans bZ).trans cd).trans cg).trans cm).trans cq).trans dC).trans dD).to' cJ)
  have dV:=bu.strImm (G:=F) 1 rfl
  have hk_:=qaM _ (Step.refl _ Nil) nilM (fun b o h_ _=>qga h_) jZ
  refine qao (qc1 jY (t := 65) (v := (.pointer (some ⟨ac, 0, none⟩))) (v' := (.pointer (some ⟨ac, 0, none⟩))) (name := "AppendTo") (f := 241) (vs := [.slice bn ((([] : Bs) ++ [by8 0, by8 0, by8 0, by8 0] ++ be 2 84 ++ be 2 (IntKind.i16.wrap v) ++ be 4 num ++ be 2 (-1) ++ [by8 0]).length) bo]) (d := 51) kz (fun _ => by kernel_rfl) Tryz.call241 (qbp (IntKind.i16.wrap v) aa ac 0 bn bo (([] : Bs) ++ [by8 0, by8 0, by8 0, by8 0] ++ be 2 84 ++ be 2 (IntKind.i16.wrap v) ++ be 4 num ++ be 2 (-1) ++ [by8 0]) _ _ dV hk_ (qf8 0 rfl) (bu.own 0 _ rfl) (by first | omega | (simp only [List.length_append, List.length_cons, List.length_nil, be_length, qbR]; omega) | (simp; omega))) ?_)
  rintro e_ qR ⟨am,ao,rfl,j0,dF,dG⟩
  refine ⟨_,rfl,fun qS j1=>?_⟩
  have dH:WOk _ _ _ _ [brow am ao 5 ((([]:Bs) ++ [by8 0,by8 0,by8 0,by8 0] ++ be 2 84 ++ be 2 (IntKind.i16.wrap v) ++ be 4 num ++ be 2 (-1) ++ [by8 0]) ++ qaa (IntKind.i16.wrap v) aa)]:=bu.grow (k:=0) rfl dF j0 dG
  have mw:=Fr.grow [⟨b1,0,[.bool has,.string txt],true⟩,⟨ac,0,[.int .i16 (IntKind.i16.wrap v),.string ((aa.f 0).s),.slice ((aa.f 1).A) ((aa.f 1).l) ((aa.f 1).c),.map aa.m],true⟩,⟨af,0,[.bool has,.string txt],true⟩,⟨ae,0,[.pointer none],true⟩] (k:=0) (rs:=[brow bn bo 5 (([]:Bs) ++ [by8 0,by8 0,by8 0,by8 0] ++ be 2 84 ++ be 2 (IntKind.i16.wrap v) ++ be 4 num ++ be 2 (-1) ++ [by8 0])]) (r':=(brow am ao 5 ((([]:Bs) ++ [by8 0,by8 0,by8 0,by8 0] ++ be 2 84 ++ be 2 (IntKind.i16.wrap v) ++ be 4 num ++ be 2 (-1) ++ [by8 0]) ++ qaa (IntKind.i16.wrap v) aa))) rfl dF dG
  refine qal [3] [] [(1,.v (.slice am (((([]:Bs) ++ [by8 0,by8 0,by8 0,by8 0] ++ be 2 84 ++ be 2 (IntKind.i16.wrap v) ++ be 4 num ++ be 2 (-1) ++ [by8 0]) ++ qaa (IntKind.i16.wrap v) aa).length) ao))] dH j1 fun qT j2=>?_
  refine qag (qab ?_)
  refine qbl 7 kz dH fun qU mx cr bp=>?_
  refine qa7 [0,2] [(1,.v (.slice am (((([]:Bs) ++ [by8 0,by8 0,by8 0,by8 0] ++ be 2 84 ++ be 2 (IntKind.i16.wrap v) ++ be 4 num ++ be 2 (-1) ++ [by8 0]) ++ qaa (IntKind.i16.wrap v) aa).length) ao)),(52,.v (.slice am (((([]:Bs) ++ [by8 0,by8 0,by8 0,by8 0] ++ be 2 84 ++ be 2 (IntKind.i16.wrap v) ++ be 4 num ++ be 2 (-1) ++ [by8 0]) ++ qaa (IntKind.i16.wrap v) aa).length) ao)),(54,.v (.slice am (((([]:Bs) ++ [by8 0,by8 0,by8 0,by8 0] ++ be 2 84 ++ be 2 (IntKind.i16.wrap v) ++ be 4 num ++ be 2 (-1) ++ [by8 0]) ++ qaa (IntKind.i16.wrap v) aa).length) ao))] 5 (qac qak) (fun _ h=>h.cells) bp j2 fun qV dI=>?_
  refine qeE (i:=1) (j:=3) kz ?_ ?_
  ·
   refine (qbz dI (t:=24) (A:=am) (m:=((([]:Bs) ++ [by8 0,by8 0,by8 0,by8 0] ++ be 2 84 ++ be 2 (IntKind.i16.wrap v) ++ be 4 num ++ be 2 (-1) ++ [by8 0]) ++ qaa (IntKind.i16.wrap v) aa).length) (cp:=ao) (q:=0) (d:=53) (j:=0) kz (e:=5) (size:=1) (bytes:=1) kz (rfl) (by omega) fun qW j3=>?_)
   refine ⟨fun _=>bp,?_⟩
   refine qaP (i:=3) kz (qbA j3 (t:=24) (A:=am) (m:=(((([]:Bs) ++ [by8 0,by8 0,by8 0,by8 0] ++ be 2 84 ++ be 2 (IntKind.i16.wrap v) ++ be 4 num ++ be 2 (-1) ++ [by8 0]) ++ qaa (IntKind.i16.wrap v) aa).length)) (cp:=ao) (q:=4) (d:=55) (j:=4) kz (e:=5) (bytes:=1) kz (rfl) (by first | omega | (simp only [List.length_append,List.length_cons,List.length_nil]; omega)) fun qX j4=>?_)
   refine ⟨fun _=>bp,?_⟩
   refine qa7 [4,5] [(1,.v (.slice am (((([]:Bs) ++ [by8 0,by8 0,by8 0,by8 0] ++ be 2 84 ++ be 2 (IntKind.i16.wrap v) ++ be 4 num ++ be 2 (-1) ++ [by8 0]) ++ qaa (IntKind.i16.wrap v) aa).length) ao)),(53,.v (.slice am 0 ao)),(57,.v (.int .i32 (IntKind.i32.wrap (((((([]:Bs) ++ [by8 0,by8 0,by8 0,by8 0] ++ be 2 84 ++ be 2 (IntKind.i16.wrap v) ++ be 4 num ++ be 2 (-1) ++ [by8 0]) ++ qaa (IntKind.i16.wrap v) aa).length) - 4:Nat):Int))))] 1 (qac qak) (fun _ h=>h.cells) bp j4 fun qY j5=>?_
   refine qaP (i:=6) kz (qan j5 (f:=133) (vs:=[.slice am 0 ao,.int .i32 (IntKind.i32.wrap (((((([]:Bs) ++ [by8 0,by8 0,by8 0,by8 0] ++ be 2 84 ++ be 2 (IntKind.i16.wrap v) ++ be 4 num ++ be 2 (-1) ++ [by8 0]) ++ qaa (IntKind.i16.wrap v) aa).length) - 4:Nat):Int))]) (d:=58) kz Tryz.call133 (qbE (IntKind.i32.wrap (((((([]:Bs) ++ [by8 0,by8 0,by8 0,by8 0] ++ be 2 84 ++ be 2 (IntKind.i16.wrap v) ++ be 4 num ++ be 2 (-1) ++ [by8 0]) ++ qaa (IntKind.i16.wrap v) aa).length) - 4:Nat):Int)) am ao ((([]:Bs) ++ [by8 0,by8 0,by8 0,by8 0] ++ be 2 84 ++ be 2 (IntKind.i16.wrap v) ++ be 4 num ++ be 2 (-1) ++ [by8 0]) ++ qaa (IntKind.i16.wrap v) aa) _ (cr.own 0 _ rfl) (by simp only [List.length_append,List.length_cons,List.length_nil]; omega)) ?_)
   rintro e_ qZ ⟨rfl,j6,dJ⟩
   refine ⟨_,rfl,fun q0 j7=>?_⟩
   have aW:WOk _ _ _ _ [⟨am,ao,5,1,((([]:Bs) ++ [by8 0,by8 0,by8 0,by8 0] ++ be 2 84 ++ be 2 (IntKind.i16.wrap v) ++ be 4 num ++ be 2 (-1) ++ [by8 0]) ++ qaa (IntKind.i16.wrap v) aa).length,bc (be 4 (IntKind.i32.wrap (((((([]:Bs) ++ [by8 0,by8 0,by8 0,by8 0] ++ be 2 84 ++ be 2 (IntKind.i16.wrap v) ++ be 4 num ++ be 2 (-1) ++ [by8 0]) ++ qaa (IntKind.i16.wrap v) aa).length) - 4:Nat):Int)) ++ ((([]:Bs) ++ [by8 0,by8 0,by8 0,by8 0] ++ be 2 84 ++ be 2 (IntKind.i16.wrap v) ++ be 4 num ++ be 2 (-1) ++ [by8 0]) ++ qaa (IntKind.i16.wrap v) aa).drop 4)⟩]:=cr.grow (k:=0) (r':=⟨am,ao,5,1,((([]:Bs) ++ [by8 0,by8 0,by8 0,by8 0] ++ be 2 84 ++ be 2 (IntKind.i16.wrap v) ++ be 4 num ++ be 2 (-1) ++ [by8 0]) ++ qaa (IntKind.i16.wrap v) aa).length,bc (be 4 (IntKind.i32.wrap (((((([]:Bs) ++ [by8 0,by8 0,by8 0,by8 0] ++ be 2 84 ++ be 2 (IntKind.i16.wrap v) ++ be 4 num ++ be 2 (-1) ++ [by8 0]) ++ qaa (IntKind.i16.wrap v) aa).length) - 4:Nat):Int)) ++ ((([]:Bs) ++ [by8 0,by8 0,by8 0,by8 0] ++ be 2 84 ++ be 2 (IntKind.i16.wrap v) ++ be 4 num ++ be 2 (-1) ++ [by8 0]) ++ qaa (IntKind.i16.wrap v) aa).drop 4)⟩) rfl dJ j6 (fun g' hg'=>.inl hg')
   have j8:=Fr.grow [⟨b1,0,[.bool has,.string txt],true⟩,⟨ac,0,[.int .i16 (IntKind.i16.wrap v),.string ((aa.f 0).s),.slice ((aa.f 1).A) ((aa.f 1).l) ((aa.f 1).c),.map aa.m],true⟩,⟨af,0,[.bool has,.string txt],true⟩,⟨ae,0,[.pointer none],true⟩] (k:=0) (rs:=[brow am ao 5 ((([]:Bs) ++ [by8 0,by8 0,by8 0,by8 0] ++ be 2 84 ++ be 2 (IntKind.i16.wrap v) ++ be 4 num ++ be 2 (-1) ++ [by8 0]) ++ qaa (IntKind.i16.wrap v) aa)]) (r':=⟨am,ao,5,1,((([]:Bs) ++ [by8 0,by8 0,by8 0,by8 0] ++ be 2 84 ++ be 2 (IntKind.i16.wrap v) ++ be 4 num ++ be 2 (-1) ++ [by8 0]) ++ qaa (IntKind.i16.wrap v) aa).length,bc (be 4 (IntKind.i32.wrap (((((([]:Bs) ++ [by8 0,by8 0,by8 0,by8 0] ++ be 2 84 ++ be 2 (IntKind.i16.wrap v) ++ be 4 num ++ be 2 (-1) ++ [by8 0]) ++ qaa (IntKind.i16.wrap v) aa).length) - 4:Nat):Int)) ++ ((([]:Bs) ++ [by8 0,by8 0,by8 0,by8 0] ++ be 2 84 ++ be 2 (IntKind.i16.wrap v) ++ be 4 num ++ be 2 (-1) ++ [by8 0]) ++ qaa (IntKind.i16.wrap v) aa).drop 4)⟩) rfl dJ (fun g' hg'=>.inl hg')
   have j9:=TT.ofW j8 aW
   refine ⟨fun _=>j9,?_⟩
   refine qa2 kz ?_ _
   refine qab ?_
   refine qat [(8,.v (.slice am (((([]:Bs) ++ [by8 0,by8 0,by8 0,by8 0] ++ be 2 84 ++ be 2 (IntKind.i16.wrap v) ++ be 4 num ++ be 2 (-1) ++ [by8 0]) ++ qaa (IntKind.i16.wrap v) aa).length) ao))] aW j7 fun q4 ka=>?_
   refine wp_ret ?_
   refine qaG ka aW.cells (v:=.slice am (((([]:Bs) ++ [by8 0,by8 0,by8 0,by8 0] ++ be 2 84 ++ be 2 (IntKind.i16.wrap v) ++ be 4 num ++ be 2 (-1) ++ [by8 0]) ++ qaa (IntKind.i16.wrap v) aa).length) ao) kz ?_
   refine ⟨_,rfl,fun q5 kd=>?_⟩
   have ke:=(EnvOk.places (tb':=[⟨b1,0,[.bool has,.string txt],true⟩,⟨ac,0,[.int .i16 (IntKind.i16.wrap v),.string ((aa.f 0).s),.slice ((aa.f 1).A) ((aa.f 1).l) ((aa.f 1).c),.map aa.m],true⟩,⟨af,0,[.bool has,.string txt],true⟩,⟨ae,0,[.pointer none],true⟩]) kd (show Pl [⟨b1,0,[.bool has,.string txt],true⟩,⟨ac,0,[.int .i16 (IntKind.i16.wrap v),.string ((aa.f 0).s),.slice ((aa.f 1).A) ((aa.f 1).l) ((aa.f 1).c),.map aa.m],true⟩,⟨af,0,[.bool has,.string txt],true⟩,⟨ae,0,[.pointer none],true⟩] [⟨b1,0,[.bool has,.string txt],true⟩,⟨ac,0,[.int .i16 (IntKind.i16.wrap v),.string ((aa.f 0).s),.slice ((aa.f 1).A) ((aa.f 1).l) ((aa.f 1).c),.map aa.m],true⟩,⟨af,0,[.bool has,.string txt],true⟩,⟨ae,0,[.pointer none],true⟩] from ⟨rfl,rfl,⟨rfl,rfl,⟨rfl,rfl,⟨rfl,rfl,trivial⟩⟩⟩⟩)).pk (env':=[(19,.v (.slice am (((([]:Bs) ++ [by8 0,by8 0,by8 0,by8 0] ++ be 2 84 ++ be 2 (IntKind.i16.wrap v) ++ be 4 num ++ be 2 (-1) ++ [by8 0]) ++ qaa (IntKind.i16.wrap v) aa).length) ao)),(16,.p 3 0),(17,.v (.iface 65 (.pointer (some ⟨ac,0,none⟩)))),(18,.v (.int .i32 num))])
   refine qal [4] [] [(6,.v (.slice am (((([]:Bs) ++ [by8 0,by8 0,by8 0,by8 0] ++ be 2 84 ++ be 2 (IntKind.i16.wrap v) ++ be 4 num ++ be 2 (-1) ++ [by8 0]) ++ qaa (IntKind.i16.wrap v) aa).length) ao))] aW ke fun q6 kf=>?_
   refine qag (qab ?_)
   refine wp_ret ?_
   refine qaG kf aW.cells (v:=.slice am (((([]:Bs) ++ [by8 0,by8 0,by8 0,by8 0] ++ be 2 84 ++ be 2 (IntKind.i16.wrap v) ++ be 4 num ++ be 2 (-1) ++ [by8 0]) ++ qaa (IntKind.i16.wrap v) aa).length) ao) kz ?_
   refine ⟨_,rfl,fun q7 kg=>?_⟩
   have kh:=(EnvOk.places (tb':=[⟨b1,0,[.bool has,.string txt],true⟩,⟨ac,0,[.int .i16 (IntKind.i16.wrap v),.string ((aa.f 0).s),.slice ((aa.f 1).A) ((aa.f 1).l) ((aa.f 1).c),.map aa.m],true⟩,⟨af,0,[.bool has,.string txt],true⟩,⟨ae,0,[.pointer none],true⟩]) kg (show Pl [⟨b1,0,[.bool has,.string txt],true⟩,⟨ac,0,[.int .i16 (IntKind.i16.wrap v),.string ((aa.f 0).s),.slice ((aa.f 1).A) ((aa.f 1).l) ((aa.f 1).c),.map aa.m],true⟩] [⟨b1,0,[.bool has,.string txt],true⟩,⟨ac,0,[.int .i16 (IntKind.i16.wrap v),.string ((aa.f 0).s),.slice ((aa.f 1).A) ((aa.f 1).l) ((aa.f 1).c),.map aa.m],true⟩,⟨af,0,[.bool has,.string txt],true⟩,⟨ae,0,[.pointer none],true⟩] from ⟨rfl,rfl,⟨rfl,rfl,trivial⟩⟩)).pk (env':=[(25,.v (.slice am (((([]:Bs) ++ [by8 0,by8 0,by8 0,by8 0] ++ be 2 84 ++ be 2 (IntKind.i16.wrap v) ++ be 4 num ++ be 2 (-1) ++ [by8 0]) ++ qaa (IntKind.i16.wrap v) aa).length) ao)),(21,.v (.agg #[.bool has,.string txt])),(23,.v (.iface 65 (.pointer (some ⟨ac,0,none⟩)))),(24,.v (.int .i32 num))])
   refine qal [5,6] [] [(8,.v (.slice am (((([]:Bs) ++ [by8 0,by8 0,by8 0,by8 0] ++ be 2 84 ++ be 2 (IntKind.i16.wrap v) ++ be 4 num ++ be 2 (-1) ++ [by8 0]) ++ qaa (IntKind.i16.wrap v) aa).length) ao)),(9,.v (.bool true))] aW kh fun q8 ki=>?_
   refine qag (qab ?_)
   refine wp_ret ?_
   refine qaG ki aW.cells (v:=.tuple #[.slice am (((([]:Bs) ++ [by8 0,by8 0,by8 0,by8 0] ++ be 2 84 ++ be 2 (IntKind.i16.wrap v) ++ be 4 num ++ be 2 (-1) ++ [by8 0]) ++ qaa (IntKind.i16.wrap v) aa).length) ao,.bool true]) kz ?_
   have kj:be 4 (IntKind.i32.wrap (((((([]:Bs) ++ [by8 0,by8 0,by8 0,by8 0] ++ be 2 84 ++ be 2 (IntKind.i16.wrap v) ++ be 4 num ++ be 2 (-1) ++ [by8 0]) ++ qaa (IntKind.i16.wrap v) aa).length) - 4:Nat):Int)) ++ ((([]:Bs) ++ [by8 0,by8 0,by8 0,by8 0] ++ be 2 84 ++ be 2 (IntKind.i16.wrap v) ++ be 4 num ++ be 2 (-1) ++ [by8 0]) ++ qaa (IntKind.i16.wrap v) aa).drop 4 = (qa8 84 (IntKind.i16.wrap v) num has (sb txt) (decide ((IntKind.i16.wrap v) ≥ 0)) (qaa (IntKind.i16.wrap v) aa)):=qcG (R:=outB 84 (IntKind.i16.wrap v) num has (sb txt) (decide ((IntKind.i16.wrap v) ≥ 0)) (qaa (IntKind.i16.wrap v) aa)) (by simp [outB,qd0,qbR,aJ,bk])
   exact qcH aW (k:=0) rfl (kj.trans (by rw [ba])) (by simp only [List.length_append,List.length_cons,List.length_nil]; omega)
  refine (qbA dI (t:=24) (A:=am) (m:=(((([]:Bs) ++ [by8 0,by8 0,by8 0,by8 0] ++ be 2 84 ++ be 2 (IntKind.i16.wrap v) ++ be 4 num ++ be 2 (-1) ++ [by8 0]) ++ qaa (IntKind.i16.wrap v) aa).length)) (cp:=ao) (q:=4) (d:=55) (j:=4) kz (e:=5) (bytes:=1) kz (rfl) (by first | omega | (simp only [List.length_append,List.length_cons,List.length_nil]; omega)) fun q9 km=>?_)
  refine ⟨fun _=>bp,?_⟩
  refine qa7 [4,5] [(1,.v (.slice am (((([]:Bs) ++ [by8 0,by8 0,by8 0,by8 0] ++ be 2 84 ++ be 2 (IntKind.i16.wrap v) ++ be 4 num ++ be 2 (-1) ++ [by8 0]) ++ qaa (IntKind.i16.wrap v) aa).length) ao)),(52,.v (.slice am (((([]:Bs) ++ [by8 0,by8 0,by8 0,by8 0] ++ be 2 84 ++ be 2 (IntKind.i16.wrap v) ++ be 4 num ++ be 2 (-1) ++ [by8 0]) ++ qaa (IntKind.i16.wrap v) aa).length) ao)),(57,.v (.int .i32 (IntKind.i32.wrap (((((([]:Bs) ++ [by8 0,by8 0,by8 0,by8 0] ++ be 2 84 ++ be 2 (IntKind.i16.wrap v) ++ be 4 num ++ be 2 (-1) ++ [by8 0]) ++ qaa (IntKind.i16.wrap v) aa).length) - 4:Nat):Int))))] 2 (qac qak) (fun _ h=>h.cells) bp km fun ra ko=>?_
  refine qaP (i:=1) kz (qbz ko (t:=24) (A:=am) (m:=((([]:Bs) ++ [by8 0,by8 0,by8 0,by8 0] ++ be 2 84 ++ be 2 (IntKind.i16.wrap v) ++ be 4 num ++ be 2 (-1) ++ [by8 0]) ++ qaa (IntKind.i16.wrap v) aa).length) (cp:=ao) (q:=0) (d:=53) (j:=0) kz (e:=5) (size:=1) (bytes:=1) kz (rfl) (by omega) fun rb kp=>?_)
  refine ⟨fun _=>bp,?_⟩
  refine qaP (i:=6) kz (qan kp (f:=133) (vs:=[.slice am 0 ao,.int .i32 (IntKind.i32.wrap (((((([]:Bs) ++ [by8 0,by8 0,by8 0,by8 0] ++ be 2 84 ++ be 2 (IntKind.i16.wrap v) ++ be 4 num ++ be 2 (-1) ++ [by8 0]) ++ qaa (IntKind.i16.wrap v) aa).length) - 4:Nat):Int))]) (d:=58) kz Tryz.call133 (qbE (IntKind.i32.wrap (((((([]:Bs) ++ [by8 0,by8 0,by8 0,by8 0] ++ be 2 84 ++ be 2 (IntKind.i16.wrap v) ++ be 4 num ++ be 2 (-1) ++ [by8 0]) ++ qaa (IntKind.i16.wrap v) aa).length) - 4:Nat):Int)) am ao ((([]:Bs) ++ [by8 0,by8 0,by8 0,by8 0] ++ be 2 84 ++ be 2 (IntKind.i16.wrap v) ++ be 4 num ++ be 2 (-1) ++ [by8 0]) ++ qaa (IntKind.i16.wrap v) aa) _ (cr.own 0 _ rfl) (by simp only [List.length_append,List.length_cons,List.length_nil]; omega)) ?_)
  rintro e_ rc ⟨rfl,kq,dK⟩
  refine ⟨_,rfl,fun re ku=>?_⟩
  have aX:WOk _ _ _ _ [⟨am,ao,5,1,((([]:Bs) ++ [by8 0,by8 0,by8 0,by8 0] ++ be 2 84 ++ be 2 (IntKind.i16.wrap v) ++ be 4 num ++ be 2 (-1) ++ [by8 0]) ++ qaa (IntKind.i16.wrap v) aa).length,bc (be 4 (IntKind.i32.wrap (((((([]:Bs) ++ [by8 0,by8 0,by8 0,by8 0] ++ be 2 84 ++ be 2 (IntKind.i16.wrap v) ++ be 4 num ++ be 2 (-1) ++ [by8 0]) ++ qaa (IntKind.i16.wrap v) aa).length) - 4:Nat):Int)) ++ ((([]:Bs) ++ [by8 0,by8 0,by8 0,by8 0] ++ be 2 84 ++ be 2 (IntKind.i16.wrap v) ++ be 4 num ++ be 2 (-1) ++ [by8 0]) ++ qaa (IntKind.i16.wrap v) aa).drop 4)⟩]:=cr.grow (k:=0) (r':=⟨am,ao,5,1,((([]:Bs) ++ [by8 0,by8 0,by8 0,by8 0] ++ be 2 84 ++ be 2 (IntKind.i16.wrap v) ++ be 4 num ++ be 2 (-1) ++ [by8 0]) ++ qaa (IntKind.i16.wrap v) aa).length,bc (be 4 (IntKind.i32.wrap (((((([]:Bs) ++ [by8 0,by8 0,by8 0,by8 0] ++ be 2 84 ++ be 2 (IntKind.i16.wrap v) ++ be 4 num ++ be 2 (-1) ++ [by8 0]) ++ qaa (IntKind.i16.wrap v) aa).length) - 4:Nat):Int)) ++ ((([]:Bs) ++ [by8 0,by8 0,by8 0,by8 0] ++ be 2 84 ++ be 2 (IntKind.i16.wrap v) ++ be 4 num ++ be 2 (-1) ++ [by8 0]) ++ qaa (IntKind.i16.wrap v) aa).drop 4)⟩) rfl dK kq (fun g' hg'=>.inl hg')
  have kv:=Fr.grow [⟨b1,0,[.bool has,.string txt],true⟩,⟨ac,0,[.int .i16 (IntKind.i16.wrap v),.string ((aa.f 0).s),.slice ((aa.f 1).A) ((aa.f 1).l) ((aa.f 1).c),.map aa.m],true⟩,⟨af,0,[.bool has,.string txt],true⟩,⟨ae,0,[.pointer none],true⟩] (k:=0) (rs:=[brow am ao 5 ((([]:Bs) ++ [by8 0,by8 0,by8 0,by8 0] ++ be 2 84 ++ be 2 (IntKind.i16.wrap v) ++ be 4 num ++ be 2 (-1) ++ [by8 0]) ++ qaa (IntKind.i16.wrap v) aa)]) (r':=⟨am,ao,5,1,((([]:Bs) ++ [by8 0,by8 0,by8 0,by8 0] ++ be 2 84 ++ be 2 (IntKind.i16.wrap v) ++ be 4 num ++ be 2 (-1) ++ [by8 0]) ++ qaa (IntKind.i16.wrap v) aa).length,bc (be 4 (IntKind.i32.wrap (((((([]:Bs) ++ [by8 0,by8 0,by8 0,by8 0] ++ be 2 84 ++ be 2 (IntKind.i16.wrap v) ++ be 4 num ++ be 2 (-1) ++ [by8 0]) ++ qaa (IntKind.i16.wrap v) aa).length) - 4:Nat):Int)) ++ ((([]:Bs) ++ [by8 0,by8 0,by8 0,by8 0] ++ be 2 84 ++ be 2 (IntKind.i16.wrap v) ++ be 4 num ++ be 2 (-1) ++ [by8 0]) ++ qaa (IntKind.i16.wrap v) aa).drop 4)⟩) rfl dK (fun g' hg'=>.inl hg')
  have kw:=TT.ofW kv aX
  refine ⟨fun _=>kw,?_⟩
  refine qa2 kz ?_ _
  refine qab ?_
  refine qat [(8,.v (.slice am (((([]:Bs) ++ [by8 0,by8 0,by8 0,by8 0] ++ be 2 84 ++ be 2 (IntKind.i16.wrap v) ++ be 4 num ++ be 2 (-1) ++ [by8 0]) ++ qaa (IntKind.i16.wrap v) aa).length) ao))] aX ku fun rf kx=>?_
  refine wp_ret ?_
  refine qaG kx aX.cells (v:=.slice am (((([]:Bs) ++ [by8 0,by8 0,by8 0,by8 0] ++ be 2 84 ++ be 2 (IntKind.i16.wrap v) ++ be 4 num ++ be 2 (-1) ++ [by8 0]) ++ qaa (IntKind.i16.wrap v) aa).length) ao) kz ?_
  refine ⟨_,rfl,fun rg ky=>?_⟩
  have kA:=(EnvOk.places (tb':=[⟨b1,0,[.bool has,.string txt],true⟩,⟨ac,0,[.int .i16 (IntKind.i16.wrap v),.string ((aa.f 0).s),.slice ((aa.f 1).A) ((aa.f 1).l) ((aa.f 1).c),.map aa.m],true⟩,⟨af,0,[.bool has,.string txt],true⟩,⟨ae,0,[.pointer none],true⟩]) ky (show Pl [⟨b1,0,[.bool has,.string txt],true⟩,⟨ac,0,[.int .i16 (IntKind.i16.wrap v),.string ((aa.f 0).s),.slice ((aa.f 1).A) ((aa.f 1).l) ((aa.f 1).c),.map aa.m],true⟩,⟨af,0,[.bool has,.string txt],true⟩,⟨ae,0,[.pointer none],true⟩] [⟨b1,0,[.bool has,.string txt],true⟩,⟨ac,0,[.int .i16 (IntKind.i16.wrap v),.string ((aa.f 0).s),.slice ((aa.f 1).A) ((aa.f 1).l) ((aa.f 1).c),.map aa.m],true⟩,⟨af,0,[.bool has,.string txt],true⟩,⟨ae,0,[.pointer none],true⟩] from ⟨rfl,rfl,⟨rfl,rfl,⟨rfl,rfl,⟨rfl,rfl,trivial⟩⟩⟩⟩)).pk (env':=[(19,.v (.slice am (((([]:Bs) ++ [by8 0,by8 0,by8 0,by8 0] ++ be 2 84 ++ be 2 (IntKind.i16.wrap v) ++ be 4 num ++ be 2 (-1) ++ [by8 0]) ++ qaa (IntKind.i16.wrap v) aa).length) ao)),(16,.p 3 0),(17,.v (.iface 65 (.pointer (some ⟨ac,0,none⟩)))),(18,.v (.int .i32 num))])
  refine qal [4] [] [(6,.v (.slice am (((([]:Bs) ++ [by8 0,by8 0,by8 0,by8 0] ++ be 2 84 ++ be 2 (IntKind.i16.wrap v) ++ be 4 num ++ be 2 (-1) ++ [by8 0]) ++ qaa (IntKind.i16.wrap v) aa).length) ao))] aX kA fun rh kB=>?_
  refine qag (qab ?_)
  refine wp_ret ?_
  refine qaG kB aX.cells (v:=.slice am (((([]:Bs) ++ [by8 0,by8 0,by8 0,by8 0] ++ be 2 84 ++ be 2 (IntKind.i16.wrap v) ++ be 4 num ++ be 2 (-1) ++ [by8 0]) ++ qaa (IntKind.i16.wrap v) aa).length) ao) kz ?_
  refine ⟨_,rfl,fun ri kC=>?_⟩
  have kD:=(EnvOk.places (tb':=[⟨b1,0,[.bool has,.string txt],true⟩,⟨ac,0,[.int .i16 (IntKind.i16.wrap v),.string ((aa.f 0).s),.slice ((aa.f 1).A) ((aa.f 1).l) ((aa.f 1).c),.map aa.m],true⟩,⟨af,0,[.bool has,.string txt],true⟩,⟨ae,0,[.pointer none],true⟩]) kC (show Pl [⟨b1,0,[.bool has,.string txt],true⟩,⟨ac,0,[.int .i16 (IntKind.i16.wrap v),.string ((aa.f 0).s),.slice ((aa.f 1).A) ((aa.f 1).l) ((aa.f 1).c),.map aa.m],true⟩] [⟨b1,0,[.bool has,.string txt],true⟩,⟨ac,0,[.int .i16 (IntKind.i16.wrap v),.string ((aa.f 0).s),.slice ((aa.f 1).A) ((aa.f 1).l) ((aa.f 1).c),.map aa.m],true⟩,⟨af,0,[.bool has,.string txt],true⟩,⟨ae,0,[.pointer none],true⟩] from ⟨rfl,rfl,⟨rfl,rfl,trivial⟩⟩)).pk (env':=[(25,.v (.slice am (((([]:Bs) ++ [by8 0,by8 0,by8 0,by8 0] ++ be 2 84 ++ be 2 (IntKind.i16.wrap v) ++ be 4 num ++ be 2 (-1) ++ [by8 0]) ++ qaa (IntKind.i16.wrap v) aa).length) ao)),(21,.v (.agg #[.bool has,.string txt])),(23,.v (.iface 65 (.pointer (some ⟨ac,0,none⟩)))),(24,.v (.int .i32 num))])
  refine qal [5,6] [] [(8,.v (.slice am (((([]:Bs) ++ [by8 0,by8 0,by8 0,by8 0] ++ be 2 84 ++ be 2 (IntKind.i16.wrap v) ++ be 4 num ++ be 2 (-1) ++ [by8 0]) ++ qaa (IntKind.i16.wrap v) aa).length) ao)),(9,.v (.bool true))] aX kD fun rj kE=>?_
  refine qag (qab ?_)
  refine wp_ret ?_
  refine qaG kE aX.cells (v:=.tuple #[.slice am (((([]:Bs) ++ [by8 0,by8 0,by8 0,by8 0] ++ be 2 84 ++ be 2 (IntKind.i16.wrap v) ++ be 4 num ++ be 2 (-1) ++ [by8 0]) ++ qaa (IntKind.i16.wrap v) aa).length) ao,.bool true]) kz ?_
  have kF:be 4 (IntKind.i32.wrap (((((([]:Bs) ++ [by8 0,by8 0,by8 0,by8 0] ++ be 2 84 ++ be 2 (IntKind.i16.wrap v) ++ be 4 num ++ be 2 (-1) ++ [by8 0]) ++ qaa (IntKind.i16.wrap v) aa).length) - 4:Nat):Int)) ++ ((([]:Bs) ++ [by8 0,by8 0,by8 0,by8 0] ++ be 2 84 ++ be 2 (IntKind.i16.wrap v) ++ be 4 num ++ be 2 (-1) ++ [by8 0]) ++ qaa (IntKind.i16.wrap v) aa).drop 4 = (qa8 84 (IntKind.i16.wrap v) num has (sb txt) (decide ((IntKind.i16.wrap v) ≥ 0)) (qaa (IntKind.i16.wrap v) aa)):=qcG (R:=outB 84 (IntKind.i16.wrap v) num has (sb txt) (decide ((IntKind.i16.wrap v) ≥ 0)) (qaa (IntKind.i16.wrap v) aa)) (by simp [outB,qd0,qbR,aJ,bk])
  exact qcH aX (k:=0) rfl (kF.trans (by rw [ba])) (by simp only [List.length_append,List.length_cons,List.length_nil]; omega)
 have my:=of_decide_eq_false bk
 refine wp_skip ?_
 refine qab ?_
 refine qae [0,1,2,3] kz ?_
 refine qal [0,1] [2,3] [(49,.v (.iface 65 (.pointer (some ⟨ac,0,none⟩)))),(50,.v (.slice aB ((([]:Bs) ++ [by8 0,by8 0,by8 0,by8 0] ++ be 2 84 ++ be 2 (IntKind.i16.wrap v) ++ be 4 num ++ be 2 (-1)).length) aC))] az cG fun rl kG=>?_
 have kH:=(qaM _ ((((((((aP.trans aQ).trans bX).trans bY).trans bZ).trans cd).trans cg).trans cm).trans cq).step immM ((((((((aP.trans aQ).trans bX).trans bY).trans bZ).trans cd).trans cg).trans cm).trans cq).to' cJ)
 have dW:=az.strImm (G:=F) 1 rfl
 have hk_:=qaM _ (Step.refl _ Nil) nilM (fun b o h_ _=>qga h_) kH
 refine qao (qc1 kG (t := 65) (v := (.pointer (some ⟨ac, 0, none⟩))) (v' := (.pointer (some ⟨ac, 0, none⟩))) (name := "AppendTo") (f := 241) (vs := [.slice aB ((([] : Bs) ++ [by8 0, by8 0, by8 0, by8 0] ++ be 2 84 ++ be 2 (IntKind.i16.wrap v) ++ be 4 num ++ be 2 (-1)).length) aC]) (d := 51) kz (fun _ => by kernel_rfl) Tryz.call241 (qbp (IntKind.i16.wrap v) aa ac 0 aB aC (([] : Bs) ++ [by8 0, by8 0, by8 0, by8 0] ++ be 2 84 ++ be 2 (IntKind.i16.wrap v) ++ be 4 num ++ be 2 (-1)) _ _ dW hk_ (qf8 0 rfl) (az.own 0 _ rfl) (by first | omega | (simp only [List.length_append, List.length_cons, List.length_nil, be_length, qbR]; omega) | (simp; omega))) ?_)
 rintro e_ rm ⟨ap,ar,rfl,kI,dL,dM⟩
 refine ⟨_,rfl,fun rn kJ=>?_⟩
 have dN:WOk _ _ _ _ [brow ap ar 5 ((([]:Bs) ++ [by8 0,by8 0,by8 0,by8 0] ++ be 2 84 ++ be 2 (IntKind.i16.wrap v) ++ be 4 num ++ be 2 (-1)) ++ qaa (IntKind.i16.wrap v) aa)]:=az.grow (k:=0) rfl dL kI dM
 have mz:=Fr.grow [⟨b1,0,[.bool has,.string txt],true⟩,⟨ac,0,[.int .i16 (IntKind.i16.wrap v),.string ((aa.f 0).s),.slice ((aa.f 1).A) ((aa.f 1).l) ((aa.f 1).c),.map aa.m],true⟩,⟨af,0,[.bool has,.string txt],true⟩,⟨ae,0,[.pointer none],true⟩] (k:=0) (rs:=[brow aB aC 5 (([]:Bs) ++ [by8 0,by8 0,by8 0,by8 0] ++ be 2 84 ++ be 2 (IntKind.i16.wrap v) ++ be 4 num ++ be 2 (-1))]) (r':=(brow ap ar 5 ((([]:Bs) ++ [by8 0,by8 0,by8 0,by8 0] ++ be 2 84 ++ be 2 (IntKind.i16.wrap v) ++ be 4 num ++ be 2 (-1)) ++ qaa (IntKind.i16.wrap v) aa))) rfl dL dM
 refine qal [3] [] [(1,.v (.slice ap (((([]:Bs) ++ [by8 0,by8 0,by8 0,by8 0] ++ be 2 84 ++ be 2 (IntKind.i16.wrap v) ++ be 4 num ++ be 2 (-1)) ++ qaa (IntKind.i16.wrap v) aa).length) ar))] dN kJ fun ro kK=>?_
 refine qag (qab ?_)
 refine qbl 7 kz dN fun rp mA cu bq=>?_
 refine qa7 [0,2] [(1,.v (.slice ap (((([]:Bs) ++ [by8 0,by8 0,by8 0,by8 0] ++ be 2 84 ++ be 2 (IntKind.i16.wrap v) ++ be 4 num ++ be 2 (-1)) ++ qaa (IntKind.i16.wrap v) aa).length) ar)),(52,.v (.slice ap (((([]:Bs) ++ [by8 0,by8 0,by8 0,by8 0] ++ be 2 84 ++ be 2 (IntKind.i16.wrap v) ++ be 4 num ++ be 2 (-1)) ++ qaa (IntKind.i16.wrap v) aa).length) ar)),(54,.v (.slice ap (((([]:Bs) ++ [by8 0,by8 0,by8 0,by8 0] ++ be 2 84 ++ be 2 (IntKind.i16.wrap v) ++ be 4 num ++ be 2 (-1)) ++ qaa (IntKind.i16.wrap v) aa).length) ar))] 5 (qac qak) (fun _ h=>h.cells) bq kK fun rq dO=>?_
 refine qeE (i:=1) (j:=3) kz ?_ ?_
 ·
  refine (qbz dO (t:=24) (A:=ap) (m:=((([]:Bs) ++ [by8 0,by8 0,by8 0,by8 0] ++ be 2 84 ++ be 2 (IntKind.i16.wrap v) ++ be 4 num ++ be 2 (-1)) ++ qaa (IntKind.i16.wrap v) aa).length) (cp:=ar) (q:=0) (d:=53) (j:=0) kz (e:=5) (size:=1) (bytes:=1) kz (rfl) (by omega) fun rt kL=>?_)
  refine ⟨fun _=>bq,?_⟩
  refine qaP (i:=3) kz (qbA kL (t:=24) (A:=ap) (m:=(((([]:Bs) ++ [by8 0,by8 0,by8 0,by8 0] ++ be 2 84 ++ be 2 (IntKind.i16.wrap v) ++ be 4 num ++ be 2 (-1)) ++ qaa (IntKind.i16.wrap v) aa).length)) (cp:=ar) (q:=4) (d:=55) (j:=4) kz (e:=5) (bytes:=1) kz (rfl) (by first | omega | (simp only [List.length_append,List.length_cons,List.length_nil]; omega)) fun ru kM=>?_)
  refine ⟨fun _=>bq,?_⟩
  refine qa7 [4,5] [(1,.v (.slice ap (((([]:Bs) ++ [by8 0,by8 0,by8 0,by8 0] ++ be 2 84 ++ be 2 (IntKind.i16.wrap v) ++ be 4 num ++ be 2 (-1)) ++ qaa (IntKind.i16.wrap v) aa).length) ar)),(53,.v (.slice ap 0 ar)),(57,.v (.int .i32 (IntKind.i32.wrap (((((([]:Bs) ++ [by8 0,by8 0,by8 0,by8 0] ++ be 2 84 ++ be 2 (IntKind.i16.wrap v) ++ be 4 num ++ be 2 (-1)) ++ qaa (IntKind.i16.wrap v) aa).length) - 4:Nat):Int))))] 1 (qac qak) (fun _ h=>h.cells) bq kM fun rv kN=>?_
  refine qaP (i:=6) kz (qan kN (f:=133) (vs:=[.slice ap 0 ar,.int .i32 (IntKind.i32.wrap (((((([]:Bs) ++ [by8 0,by8 0,by8 0,by8 0] ++ be 2 84 ++ be 2 (IntKind.i16.wrap v) ++ be 4 num ++ be 2 (-1)) ++ qaa (IntKind.i16.wrap v) aa).length) - 4:Nat):Int))]) (d:=58) kz Tryz.call133 (qbE (IntKind.i32.wrap (((((([]:Bs) ++ [by8 0,by8 0,by8 0,by8 0] ++ be 2 84 ++ be 2 (IntKind.i16.wrap v) ++ be 4 num ++ be 2 (-1)) ++ qaa (IntKind.i16.wrap v) aa).length) - 4:Nat):Int)) ap ar ((([]:Bs) ++ [by8 0,by8 0,by8 0,by8 0] ++ be 2 84 ++ be 2 (IntKind.i16.wrap v) ++ be 4 num ++ be 2 (-1)) ++ qaa (IntKind.i16.wrap v) aa) _ (cu.own 0 _ rfl) (by simp only [List.length_append,List.length_cons,List.length_nil]; omega)) ?_)
  rintro e_ rx ⟨rfl,kO,dP⟩
  refine ⟨_,rfl,fun ry kP=>?_⟩
  have aY:WOk _ _ _ _ [⟨ap,ar,5,1,((([]:Bs) ++ [by8 0,by8 0,by8 0,by8 0] ++ be 2 84 ++ be 2 (IntKind.i16.wrap v) ++ be 4 num ++ be 2 (-1)) ++ qaa (IntKind.i16.wrap v) aa).length,bc (be 4 (IntKind.i32.wrap (((((([]:Bs) ++ [by8 0,by8 0,by8 0,by8 0] ++ be 2 84 ++ be 2 (IntKind.i16.wrap v) ++ be 4 num ++ be 2 (-1)) ++ qaa (IntKind.i16.wrap v) aa).length) - 4:Nat):Int)) ++ ((([]:Bs) ++ [by8 0,by8 0,by8 0,by8 0] ++ be 2 84 ++ be 2 (IntKind.i16.wrap v) ++ be 4 num ++ be 2 (-1)) ++ qaa (IntKind.i16.wrap v) aa).drop 4)⟩]:=cu.grow (k:=0) (r':=⟨ap,ar,5,1,((([]:Bs) ++ [by8 0,by8 0,by8 0,by8 0] ++ be 2 84 ++ be 2 (IntKind.i16.wrap v) ++ be 4 num ++ be 2 (-1)) ++ qaa (IntKind.i16.wrap v) aa).length,bc (be 4 (IntKind.i32.wrap (((((([]:Bs) ++ [by8 0,by8 0,by8 0,by8 0] ++ be 2 84 ++ be 2 (IntKind.i16.wrap v) ++ be 4 num ++ be 2 (-1)) ++ qaa (IntKind.i16.wrap v) aa).length) - 4:Nat):Int)) ++ ((([]:Bs) ++ [by8 0,by8 0,by8 0,by8 0] ++ be 2 84 ++ be 2 (IntKind.i16.wrap v) ++ be 4 num ++ be 2 (-1)) ++ qaa (IntKind.i16.wrap v) aa).drop 4)⟩) rfl dP kO (fun g' hg'=>.inl hg')
  have kQ:=Fr.grow [⟨b1,0,[.bool has,.string txt],true⟩,⟨ac,0,[.int .i16 (IntKind.i16.wrap v),.string ((aa.f 0).s),.slice ((aa.f 1).A) ((aa.f 1).l) ((aa.f 1).c),.map aa.m],true⟩,⟨af,0,[.bool has,.string txt],true⟩,⟨ae,0,[.pointer none],true⟩] (k:=0) (rs:=[brow ap ar 5 ((([]:Bs) ++ [by8 0,by8 0,by8 0,by8 0] ++ be 2 84 ++ be 2 (IntKind.i16.wrap v) ++ be 4 num ++ be 2 (-1)) ++ qaa (IntKind.i16.wrap v) aa)]) (r':=⟨ap,ar,5,1,((([]:Bs) ++ [by8 0,by8 0,by8 0,by8 0] ++ be 2 84 ++ be 2 (IntKind.i16.wrap v) ++ be 4 num ++ be 2 (-1)) ++ qaa (IntKind.i16.wrap v) aa).length,bc (be 4 (IntKind.i32.wrap (((((([]:Bs) ++ [by8 0,by8 0,by8 0,by8 0] ++ be 2 84 ++ be 2 (IntKind.i16.wrap v) ++ be 4 num ++ be 2 (-1)) ++ qaa (IntKind.i16.wrap v) aa).length) - 4:Nat):Int)) ++ ((([]:Bs) ++ [by8 0,by8 0,by8 0,by8 0] ++ be 2 84 ++ be 2 (IntKind.i16.wrap v) ++ be 4 num ++ be 2 (-1)) ++ qaa (IntKind.i16.wrap v) aa).drop 4)⟩) rfl dP (fun g' hg'=>.inl hg')
  have kR:=TT.ofW kQ aY
  refine ⟨fun _=>kR,?_⟩
  refine qa2 kz ?_ _
  refine qab ?_
  refine qat [(8,.v (.slice ap (((([]:Bs) ++ [by8 0,by8 0,by8 0,by8 0] ++ be 2 84 ++ be 2 (IntKind.i16.wrap v) ++ be 4 num ++ be 2 (-1)) ++ qaa (IntKind.i16.wrap v) aa).length) ar))] aY kP fun rz kS=>?_
  refine wp_ret ?_
  refine qaG kS aY.cells (v:=.slice ap (((([]:Bs) ++ [by8 0,by8 0,by8 0,by8 0] ++ be 2 84 ++ be 2 (IntKind.i16.wrap v) ++ be 4 num ++ be 2 (-1)) ++ qaa (IntKind.i16.wrap v) aa).length) ar) kz ?_
  refine ⟨_,rfl,fun rA kT=>?_⟩
  have kU:=(EnvOk.places (tb':=[⟨b1,0,[.bool has,.string txt],true⟩,⟨ac,0,[.int .i16 (IntKind.i16.wrap v),.string ((aa.f 0).s),.slice ((aa.f 1).A) ((aa.f 1).l) ((aa.f 1).c),.map aa.m],true⟩,⟨af,0,[.bool has,.string txt],true⟩,⟨ae,0,[.pointer none],true⟩]) kT (show Pl [⟨b1,0,[.bool has,.string txt],true⟩,⟨ac,0,[.int .i16 (IntKind.i16.wrap v),.string ((aa.f 0).s),.slice ((aa.f 1).A) ((aa.f 1).l) ((aa.f 1).c),.map aa.m],true⟩,⟨af,0,[.bool has,.string txt],true⟩,⟨ae,0,[.pointer none],true⟩] [⟨b1,0,[.bool has,.string txt],true⟩,⟨ac,0,[.int .i16 (IntKind.i16.wrap v),.string ((aa.f 0).s),.slice ((aa.f 1).A) ((aa.f 1).l) ((aa.f 1).c),.map aa.m],true⟩,⟨af,0,[.bool has,.string txt],true⟩,⟨ae,0,[.pointer none],true⟩] from ⟨rfl,rfl,⟨rfl,rfl,⟨rfl,rfl,⟨rfl,rfl,trivial⟩⟩⟩⟩)).pk (env':=[(19,.v (.slice ap (((([]:Bs) ++ [by8 0,by8 0,by8 0,by8 0] ++ be 2 84 ++ be 2 (IntKind.i16.wrap v) ++ be 4 num ++ be 2 (-1)) ++ qaa (IntKind.i16.wrap v) aa).length) ar)),(16,.p 3 0),(17,.v (.iface 65 (.pointer (some ⟨ac,0,none⟩)))),(18,.v (.int .i32 num))])
  refine qal [4] [] [(6,.v (.slice ap (((([]:Bs) ++ [by8 0,by8 0,by8 0,by8 0] ++ be 2 84 ++ be 2 (IntKind.i16.wrap v) ++ be 4 num ++ be 2 (-1)) ++ qaa (IntKind.i16.wrap v) aa).length) ar))] aY kU fun rB kV=>?_
  refine qag (qab ?_)
  refine wp_ret ?_
  refine qaG kV aY.cells (v:=.slice ap (((([]:Bs) ++ [by8 0,by8 0,by8 0,by8 0] ++ be 2 84 ++ be 2 (IntKind.i16.wrap v) ++ be 4 num ++ be 2 (-1)) ++ qaa (IntKind.i16.wrap v) aa).length) ar) kz ?_
  refine ⟨_,rfl,fun rC kW=>?_⟩
  have kX:=(EnvOk.places (tb':=[⟨b1,0,[.bool has,.string txt],true⟩,⟨ac,0,[.int .i16 (IntKind.i16.wrap v),.string ((aa.f 0).s),.slice ((aa.f 1).A) ((aa.f 1).l) ((aa.f 1).c),.map aa.m],true⟩,⟨af,0,[.bool has,.string txt],true⟩,⟨ae,0,[.pointer none],true⟩]) kW (show Pl [⟨b1,0,[.bool has,.string txt],true⟩,⟨ac,0,[.int .i16 (IntKind.i16.wrap v),.string ((aa.f 0).s),.slice ((aa.f 1).A) ((aa.f 1).l) ((aa.f 1).c),.map aa.m],true⟩] [⟨b1,0,[.bool has,.string txt],true⟩,⟨ac,0,[.int .i16 (IntKind.i16.wrap v),.string ((aa.f 0).s),.slice ((aa.f 1).A) ((aa.f 1).l) ((aa.f 1).c),.map aa.m],true⟩,⟨af,0,[.bool has,.string txt],true⟩,⟨ae,0,[.pointer none],true⟩] from ⟨rfl,rfl,⟨rfl,rfl,trivial⟩⟩)).pk (env':=[(25,.v (.slice ap (((([]:Bs) ++ [by8 0,by8 0,by8 0,by8 0] ++ be 2 84 ++ be 2 (IntKind.i16.wrap v) ++ be 4 num ++ be 2 (-1)) ++ qaa (IntKind.i16.wrap v) aa).length) ar)),(21,.v (.agg #[.bool has,.string txt])),(23,.v (.iface 65 (.pointer (some ⟨ac,0,none⟩)))),(24,.v (.int .i32 num))])
  refine qal [5,6] [] [(8,.v (.slice ap (((([]:Bs) ++ [by8 0,by8 0,by8 0,by8 0] ++ be 2 84 ++ be 2 (IntKind.i16.wrap v) ++ be 4 num ++ be 2 (-1)) ++ qaa (IntKind.i16.wrap v) aa).length) ar)),(9,.v (.bool true))] aY kX fun rD kY=>?_
  refine qag (qab ?_)
  refine wp_ret ?_
  refine qaG kY aY.cells (v:=.tuple #[.slice ap (((([]:Bs) ++ [by8 0,by8 0,by8 0,by8 0] ++ be 2 84 ++ be 2 (IntKind.i16.wrap v) ++ be 4 num ++ be 2 (-1)) ++ qaa (IntKind.i16.wrap v) aa).length) ar,.bool true]) kz ?_
  have kZ:be 4 (IntKind.i32.wrap (((((([]:Bs) ++ [by8 0,by8 0,by8 0,by8 0] ++ be 2 84 ++ be 2 (IntKind.i16.wrap v) ++ be 4 num ++ be 2 (-1)) ++ qaa (IntKind.i16.wrap v) aa).length) - 4:Nat):Int)) ++ ((([]:Bs) ++ [by8 0,by8 0,by8 0,by8 0] ++ be 2 84 ++ be 2 (IntKind.i16.wrap v) ++ be 4 num ++ be 2 (-1)) ++ qaa (IntKind.i16.wrap v) aa).drop 4 = (qa8 84 (IntKind.i16.wrap v) num has (sb txt) (decide ((IntKind.i16.wrap v) ≥ 0)) (qaa (IntKind.i16.wrap v) aa)):=qcG (R:=outB 84 (IntKind.i16.wrap v) num has (sb txt) (decide ((IntKind.i16.wrap v) ≥ 0)) (qaa (IntKind.i16.wrap v) aa)) (by simp [outB,qd0,qbR,aJ,bk])
  exact qcH aY (k:=0) rfl (kZ.trans (by rw [ba])) (by simp only [List.length_append,List.length_cons,List.length_nil]; omega)
 refine (qbA dO (t:=24) (A:=ap) (m:=(((([]:Bs) ++ [by8 0,by8 0,by8 0,by8 0] ++ be 2 84 ++ be 2 (IntKind.i16.wrap v) ++ be 4 num ++ be 2 (-1)) ++ qaa (IntKind.i16.wrap v) aa).length)) (cp:=ar) (q:=4) (d:=55) (j:=4) kz (e:=5) (bytes:=1) kz (rfl) (by first | omega | (simp only [List.length_append,List.length_cons,List.length_nil]; omega)) fun rE k5=>?_)
 refine ⟨fun _=>bq,?_⟩
 refine qa7 [4,5] [(1,.v (.slice ap (((([]:Bs) ++ [by8 0,by8 0,by8 0,by8 0] ++ be 2 84 ++ be 2 (IntKind.i16.wrap v) ++ be 4 num ++ be 2 (-1)) ++ qaa (IntKind.i16.wrap v) aa).length) ar)),(52,.v (.slice ap (((([]:Bs) ++ [by8 0,by8 0,by8 0,by8 0] ++ be 2 84 ++ be 2 (IntKind.i16.wrap v) ++ be 4 num ++ be 2 (-1)) ++ qaa (IntKind.i16.wrap v) aa).length) ar)),(57,.v (.int .i32 (IntKind.i32.wrap (((((([]:Bs) ++ [by8 0,by8 0,by8 0,by8 0] ++ be 2 84 ++ be 2 (IntKind.i16.wrap v) ++ be 4 num ++ be 2 (-1)) ++ qaa (IntKind.i16.wrap v) aa).length) - 4:Nat):Int))))] 2 (qac qak) (fun _ h=>h.cells) bq k5 fun rF k6=>?_
 refine qaP (i:=1) kz (qbz k6 (t:=24) (A:=ap) (m:=((([]:Bs) ++ [by8 0,by8 0,by8 0,by8 0] ++ be 2 84 ++ be 2 (IntKind.i16.wrap v) ++ be 4 num ++ be 2 (-1)) ++ qaa (IntKind.i16.wrap v) aa).length) (cp:=ar) (q:=0) (d:=53) (j:=0) kz (e:=5) (size:=1) (bytes:=1) kz (rfl) (by omega) fun rG k7=>?_)
 refine ⟨fun _=>bq,?_⟩
 refine qaP (i:=6) kz (qan k7 (f:=133) (vs:=[.slice ap 0 ar,.int .i32 (IntKind.i32.wrap (((((([]:Bs) ++ [by8 0,by8 0,by8 0,by8 0] ++ be 2 84 ++ be 2 (IntKind.i16.wrap v) ++ be 4 num ++ be 2 (-1)) ++ qaa (IntKind.i16.wrap v) aa).length) - 4:Nat):Int))]) (d:=58) kz Tryz.call133 (qbE (IntKind.i32.wrap (((((([]:Bs) ++ [by8 0,by8 0,by8 0,by8 0] ++ be 2 84 ++ be 2 (IntKind.i16.wrap v) ++ be 4 num ++ be 2 (-1)) ++ qaa (IntKind.i16.wrap v) aa).length) - 4:Nat):Int)) ap ar ((([]:Bs) ++ [by8 0,by8 0,by8 0,by8 0] ++ be 2 84 ++ be 2 (IntKind.i16.wrap v) ++ be 4 num ++ be 2 (-1)) ++ qaa (IntKind.i16.wrap v) aa) _ (cu.own 0 _ rfl) (by simp only [List.length_append,List.length_cons,List.length_nil]; omega)) ?_)
 rintro e_ rH ⟨rfl,k8,dQ⟩
 refine ⟨_,rfl,fun rI k9=>?_⟩
 have aZ:WOk _ _ _ _ [⟨ap,ar,5,1,((([]:Bs) ++ [by8 0,by8 0,by8 0,by8 0] ++ be 2 84 ++ be 2 (IntKind.i16.wrap v) ++ be 4 num ++ be 2 (-1)) ++ qaa (IntKind.i16.wrap v) aa).length,bc (be 4 (IntKind.i32.wrap (((((([]:Bs) ++ [by8 0,by8 0,by8 0,by8 0] ++ be 2 84 ++ be 2 (IntKind.i16.wrap v) ++ be 4 num ++ be 2 (-1)) ++ qaa (IntKind.i16.wrap v) aa).length) - 4:Nat):Int)) ++ ((([]:Bs) ++ [by8 0,by8 0,by8 0,by8 0] ++ be 2 84 ++ be 2 (IntKind.i16.wrap v) ++ be 4 num ++ be 2 (-1)) ++ qaa (IntKind.i16.wrap v) aa).drop 4)⟩]:=cu.grow (k:=0) (r':=⟨ap,ar,5,1,((([]:Bs) ++ [by8 0,by8 0,by8 0,by8 0] ++ be 2 84 ++ be 2 (IntKind.i16.wrap v) ++ be 4 num ++ be 2 (-1)) ++ qaa (IntKind.i16.wrap v) aa).length,bc (be 4 (IntKind.i32.wrap (((((([]:Bs) ++ [by8 0,by8 0,by8 0,by8 0] ++ be 2 84 ++ be 2 (IntKind.i16.wrap v) ++ be 4 num ++ be 2 (-1)) ++ qaa (IntKind.i16.wrap v) aa).length) - 4:Nat):Int)) ++ ((([]:Bs) ++ [by8 0,by8 0,by8 0,by8 0] ++ be 2 84 ++ be 2 (IntKind.i16.wrap v) ++ be 4 num ++ be 2 (-1)) ++ qaa (IntKind.i16.wrap v) aa).drop 4)⟩) rfl dQ k8 (fun g' hg'=>.inl hg')
 have la:=Fr.grow [⟨b1,0,[.bool has,.string txt],true⟩,⟨ac,0,[.int .i16 (IntKind.i16.wrap v),.string ((aa.f 0).s),.slice ((aa.f 1).A) ((aa.f 1).l) ((aa.f 1).c),.map aa.m],true⟩,⟨af,0,[.bool has,.string txt],true⟩,⟨ae,0,[.pointer none],true⟩] (k:=0) (rs:=[brow ap ar 5 ((([]:Bs) ++ [by8 0,by8 0,by8 0,by8 0] ++ be 2 84 ++ be 2 (IntKind.i16.wrap v) ++ be 4 num ++ be 2 (-1)) ++ qaa (IntKind.i16.wrap v) aa)]) (r':=⟨ap,ar,5,1,((([]:Bs) ++ [by8 0,by8 0,by8 0,by8 0] ++ be 2 84 ++ be 2 (IntKind.i16.wrap v) ++ be 4 num ++ be 2 (-1)) ++ qaa (IntKind.i16.wrap v) aa).length,bc (be 4 (IntKind.i32.wrap (((((([]:Bs) ++ [by8 0,by8 0,by8 0,by8 0] ++ be 2 84 ++ be 2 (IntKind.i16.wrap v) ++ be 4 num ++ be 2 (-1)) ++ qaa (IntKind.i16.wrap v) aa).length) - 4:Nat):Int)) ++ ((([]:Bs) ++ [by8 0,by8 0,by8 0,by8 0] ++ be 2 84 ++ be 2 (IntKind.i16.wrap v) ++ be 4 num ++ be 2 (-1)) ++ qaa (IntKind.i16.wrap v) aa).drop 4)⟩) rfl dQ (fun g' hg'=>.inl hg')
 have lb:=TT.ofW la aZ
 refine ⟨fun _=>lb,?_⟩
 refine qa2 kz ?_ _
 refine qab ?_
 refine qat [(8,.v (.slice ap (((([]:Bs) ++ [by8 0,by8 0,by8 0,by8 0] ++ be 2 84 ++ be 2 (IntKind.i16.wrap v) ++ be 4 num ++ be 2 (-1)) ++ qaa (IntKind.i16.wrap v) aa).length) ar))] aZ k9 fun rJ lc=>?_
 refine wp_ret ?_
 refine qaG lc aZ.cells (v:=.slice ap (((([]:Bs) ++ [by8 0,by8 0,by8 0,by8 0] ++ be 2 84 ++ be 2 (IntKind.i16.wrap v) ++ be 4 num ++ be 2 (-1)) ++ qaa (IntKind.i16.wrap v) aa).length) ar) kz ?_
 refine ⟨_,rfl,fun rK ld=>?_⟩
 have lf:=(EnvOk.places (tb':=[⟨b1,0,[.bool has,.string txt],true⟩,⟨ac,0,[.int .i16 (IntKind.i16.wrap v),.string ((aa.f 0).s),.slice ((aa.f 1).A) ((aa.f 1).l) ((aa.f 1).c),.map aa.m],true⟩,⟨af,0,[.bool has,.string txt],true⟩,⟨ae,0,[.pointer none],true⟩]) ld (show Pl [⟨b1,0,[.bool has,.string txt],true⟩,⟨ac,0,[.int .i16 (IntKind.i16.wrap v),.string ((aa.f 0).s),.slice ((aa.f 1).A) ((aa.f 1).l) ((aa.f 1).c),.map aa.m],true⟩,⟨af,0,[.bool has,.string txt],true⟩,⟨ae,0,[.pointer none],true⟩] [⟨b1,0,[.bool has,.string txt],true⟩,⟨ac,0,[.int .i16 (IntKind.i16.wrap v),.string ((aa.f 0).s),.slice ((aa.f 1).A) ((aa.f 1).l) ((aa.f 1).c),.map aa.m],true⟩,⟨af,0,[.bool has,.string txt],true⟩,⟨ae,0,[.pointer none],true⟩] from ⟨rfl,rfl,⟨rfl,rfl,⟨rfl,rfl,⟨rfl,rfl,trivial⟩⟩⟩⟩)).pk (env':=[(19,.v (.slice ap (((([]:Bs) ++ [by8 0,by8 0,by8 0,by8 0] ++ be 2 84 ++ be 2 (IntKind.i16.wrap v) ++ be 4 num ++ be 2 (-1)) ++ qaa (IntKind.i16.wrap v) aa).length) ar)),(16,.p 3 0),(17,.v (.iface 65 (.pointer (some ⟨ac,0,none⟩)))),(18,.v (.int .i32 num))])
 refine qal [4] [] [(6,.v (.slice ap (((([]:Bs) ++ [by8 0,by8 0,by8 0,by8 0] ++ be 2 84 ++ be 2 (IntKind.i16.wrap v) ++ be 4 num ++ be 2 (-1)) ++ qaa (IntKind.i16.wrap v) aa).length) ar))] aZ lf fun rL lg=>?_
 refine qag (qab ?_)
 refine wp_ret ?_
 refine qaG lg aZ.cells (v:=.slice ap (((([]:Bs) ++ [by8 0,by8 0,by8 0,by8 0] ++ be 2 84 ++ be 2 (IntKind.i16.wrap v) ++ be 4 num ++ be 2 (-1)) ++ qaa (IntKind.i16.wrap v) aa).length) ar) kz ?_
 refine ⟨_,rfl,fun rM lh=>?_⟩
 have li:=(EnvOk.places (tb':=[⟨b1,0,[.bool has,.string txt],true⟩,⟨ac,0,[.int .i16 (IntKind.i16.wrap v),.string ((aa.f 0).s),.slice ((aa.f 1).A) ((aa.f 1).l) ((aa.f 1).c),.map aa.m],true⟩,⟨af,0,[.bool has,.string txt],true⟩,⟨ae,0,[.pointer none],true⟩]) lh (show Pl [⟨b1,0,[.bool has,.string txt],true⟩,⟨ac,0,[.int .i16 (IntKind.i16.wrap v),.string ((aa.f 0).s),.slice ((aa.f 1).A) ((aa.f 1).l) ((aa.f 1).c),.map aa.m],true⟩] [⟨b1,0,[.bool has,.string txt],true⟩,⟨ac,0,[.int .i16 (IntKind.i16.wrap v),.string ((aa.f 0).s),.slice ((aa.f 1).A) ((aa.f 1).l) ((aa.f 1).c),.map aa.m],true⟩,⟨af,0,[.bool has,.string txt],true⟩,⟨ae,0,[.pointer none],true⟩] from ⟨rfl,rfl,⟨rfl,rfl,trivial⟩⟩)).pk (env':=[(25,.v (.slice ap (((([]:Bs) ++ [by8 0,by8 0,by8 0,by8 0] ++ be 2 84 ++ be 2 (IntKind.i16.wrap v) ++ be 4 num ++ be 2 (-1)) ++ qaa (IntKind.i16.wrap v) aa).length) ar)),(21,.v (.agg #[.bool has,.string txt])),(23,.v (.iface 65 (.pointer (some ⟨ac,0,none⟩)))),(24,.v (.int .i32 num))])
 refine qal [5,6] [] [(8,.v (.slice ap (((([]:Bs) ++ [by8 0,by8 0,by8 0,by8 0] ++ be 2 84 ++ be 2 (IntKind.i16.wrap v) ++ be 4 num ++ be 2 (-1)) ++ qaa (IntKind.i16.wrap v) aa).length) ar)),(9,.v (.bool true))] aZ li fun rN lj=>?_
 refine qag (qab ?_)
 refine wp_ret ?_
 refine qaG lj aZ.cells (v:=.tuple #[.slice ap (((([]:Bs) ++ [by8 0,by8 0,by8 0,by8 0] ++ be 2 84 ++ be 2 (IntKind.i16.wrap v) ++ be 4 num ++ be 2 (-1)) ++ qaa (IntKind.i16.wrap v) aa).length) ar,.bool true]) kz ?_
 have lm:be 4 (IntKind.i32.wrap (((((([]:Bs) ++ [by8 0,by8 0,by8 0,by8 0] ++ be 2 84 ++ be 2 (IntKind.i16.wrap v) ++ be 4 num ++ be 2 (-1)) ++ qaa (IntKind.i16.wrap v) aa).length) - 4:Nat):Int)) ++ ((([]:Bs) ++ [by8 0,by8 0,by8 0,by8 0] ++ be 2 84 ++ be 2 (IntKind.i16.wrap v) ++ be 4 num ++ be 2 (-1)) ++ qaa (IntKind.i16.wrap v) aa).drop 4 = (qa8 84 (IntKind.i16.wrap v) num has (sb txt) (decide ((IntKind.i16.wrap v) ≥ 0)) (qaa (IntKind.i16.wrap v) aa)):=qcG (R:=outB 84 (IntKind.i16.wrap v) num has (sb txt) (decide ((IntKind.i16.wrap v) ≥ 0)) (qaa (IntKind.i16.wrap v) aa)) (by simp [outB,qd0,qbR,aJ,bk])
 exact qcH aZ (k:=0) rfl (lm.trans (by rw [ba])) (by simp only [List.length_append,List.length_cons,List.length_nil]; omega)
theorem qcI (has:Bool) (txt:ByteArray) (num v:Int) (T:Tree) (B:Bs) {A2:Option Addr} {c2:Nat} {w:World} {F:Nat → Nat → Prop} (hB:qai (IntKind.i16.wrap v) T = B) (hs_:Octs w F A2 c2 B) (hc:qaX T) (hkey:T.ranged) (htx:txt.size ≤ 32767) (hroom:txt.size + B.length + 64 ≤ 1099511627776) :
  Calls Tryz.prog 31 #[.agg #[.bool has,.string txt],.int .i32 num,.int .i64 v,.slice A2 B.length c2] w (fun e w'=>∃ A c,e = .returned (.tuple #[.slice A (qa8 84 (IntKind.i16.wrap v) num has (sb txt) (decide ((IntKind.i16.wrap v) ≥ 0)) B).length c,.bool true]) ∧ w'.ownsRow w.heap.size 5 1 (.slice A (qa8 84 (IntKind.i16.wrap v) num has (sb txt) (decide ((IntKind.i16.wrap v) ≥ 0)) B).length c) (qa8 84 (IntKind.i16.wrap v) num has (sb txt) (decide ((IntKind.i16.wrap v) ≥ 0)) B).length (bc (qa8 84 (IntKind.i16.wrap v) num has (sb txt) (decide ((IntKind.i16.wrap v) ≥ 0)) B)) ∧ Step w w' Nil):=by
 subst hB
 exact qcP has txt num v T hs_ hc hkey htx hroom
end Go.Proofs.YtogokkkdfcgncaaGreatDoor.ME
namespace Go.Proofs.YtogokkkdfcgncaaGreatDoor.ME
open Go
open Go.RowKit
set_option linter.unusedVariables false
set_option linter.unusedSimpArgs false
section
variable {P:Program} {ops:Array Oper} {Q:Exit → Act → World → Prop} {n:Nat} {tb:Tb} {env:Env} {rs:List Rw} {w0:World} {M:Nat → Nat → Prop} {a:Act} {w:World}
theorem qfJ {i d:Nat} {src dst e:TypeId} {s:ByteArray} {N:Act → World → Prop} (hW:WOk w0 M w tb rs) (hE:EnvOk n tb env a) (hsm:s.size ≤ 1099511627776)
  (K:∀ b c a' w',Fr w tb rs w' tb rs → WOk w0 M w' tb rs → (∀ G,Octs w' (Imm G w0 w' tb rs) (some ⟨b,0,none⟩) c (sb s)) → EnvOk n tb ((d,.v (.slice (some ⟨b,0,none⟩) (sb s).length c)) :: env) a' → N a' w')
  (h:qki tb env ops n i = some (src,dst,.string s,d):=by kernel_rfl) (hs:P.underlying src = some .string:=by kernel_rfl) (hd:P.underlying dst = some (.slice e):=by kernel_rfl) (he:P.underlying e = some (.int .u8):=by kernel_rfl):wpOp P ops Q i N a w:=by
 unfold qki at h
 split at h
 ·rename_i src' dst' x d' hop
  split at h
  ·rename_i v hx
   simp only [Option.some.injEq,Prod.mk.injEq] at h
   obtain ⟨rfl,rfl,rfl,rfl⟩:=h
   have hdn:=(qbg hE hop).choose_spec.2.2.2.1
   have hrun:=Lib.run_convert_string_bytes (P:=P) w src' dst' e s hs hd he
   have hst:Step w (Lib.bytesWorld w e s) Nil:=⟨rfl,rfl,by rw [Lib.bytesWorld_size]; omega,fun b hb=>by rw [Lib.bytesWorld_at_old w e s b hb]; exact Keeps.refl _ _⟩
   have hlen:(sb s).length = s.size:=qeo s
   have e1:=(qaT hE hx).1
   refine qaZ hE hop (v:=.slice (some ⟨w.heap.size,0,none⟩) (sb s).length (grownCap w s.size 0 e)) (w':=Lib.bytesWorld w e s) (fun o' ho'=>?_) (K w.heap.size _ _ _ (Fr.nil tb rs hst) (hW.next_nil hst) (fun G=>?_) (hE.put hdn (.v _) trivial))
   ·unfold execOp
    rw [ho']
    simp only [SV.val] at e1
    simp only [e1,Sem.run_bind,hrun,Result.andThen_ok,Sem.run_pure,hlen]
   refine ⟨by rw [hlen]; exact grownCap_ge w s.size 0 e,by rw [hlen]; exact hsm,fun h=>(by cases h),fun ad hA _=>?_⟩
   obtain rfl:=Option.some.inj hA
   refine ⟨w.heap.size,0,rfl,fun q hq=>⟨rfl,fun j v hj=>?_⟩⟩
   have hj0:j = 0:=by
    cases j with
    | zero=>rfl
    | succ j=>simp at hj
   subst hj0
   simp only [List.getElem?_cons_zero,Option.some.injEq] at hj
   subst hj
   have h2:(Lib.bytesWorld w e s).heap.size = w.heap.size + 1:=Lib.bytesWorld_size w e s
   refine ⟨⟨.inr hW.step.size,by rw [h2]; exact Nat.lt_succ_self _,fun ha=>?_⟩,?_⟩
   ·have:=hW.act_live ha
    exact absurd this (Nat.lt_irrefl _)
   rw [Nat.zero_add,Nat.mul_one,Nat.add_zero,Lib.bytesWorld_cell w e s q (by rw [← hlen]; exact hq)]
   rfl
  cases h
 cases h
end
end Go.Proofs.YtogokkkdfcgncaaGreatDoor.ME