/- The texts of a claim, put together: the engine, the contracts, the law. Own work. -/
import Derived.Test.YtogokkkdfcgncaaGreatDoorWf1P4
namespace Go.Proofs.YtogokkkdfcgncaaGreatDoor.ME
open Go
open Go.RowKit
set_option linter.unusedVariables false
set_option linter.unusedSimpArgs false
set_option maxRecDepth 20000
def qaq (v:Int) (T:Tree):Bs:=(be 4 ((IntKind.i32.wrap (T.at_ 0).N))) ++ ((be 4 ((IntKind.i32.wrap (T.at_ 1).N))) ++ ((be 8 ((T.at_ 2).N)) ++ (if (decide (v ≥ 0)) = true then (uv T.U.length) ++ (qby T.U) else [])))
theorem qbn (v:Int) (T:Tree):0 < (qaq v T).length:=qlY (qlZ (by decide))
def qav (v:Int) (T:Tree):Bs:=(qah (T.at_ 0).S) ++ (((if (decide (v ≥ 0)) = true then (uv ((lst (T.at_ 1)).length + 1)) else (be 4 (lst (T.at_ 1)).length)) ++ ((lst (T.at_ 1)).flatMap (qaq v))) ++ (if (decide (v ≥ 0)) = true then (uv T.U.length) ++ (qby T.U) else []))
theorem qbA (v:Int) (T:Tree):0 < (qav v T).length:=qlY (by rw [qdE]; decide)
def qbt (v:Int) (T:Tree):Bs:=(if (decide (v ≥ 0)) = true then (uv ((T.at_ 0).S.length + 1) ++ (T.at_ 0).S) else (be 2 (T.at_ 0).S.length ++ (T.at_ 0).S)) ++ (((if (decide (v ≥ 0)) = true then (uv ((lst (T.at_ 1)).length + 1)) else (be 4 (lst (T.at_ 1)).length)) ++ ((lst (T.at_ 1)).flatMap (qav v))) ++ ((if (decide (v ≥ 0)) = true then (uv T.U.length) ++ (qby T.U) else []) ++ (([]:Bs))))
theorem qbM (v:Int) (T:Tree):qai v T = qbt v T:=rfl
def qbq (d:DV):List Value:=[.int .i32 ((d.f 0).n),.int .i32 ((d.f 1).n),.int .i64 ((d.f 2).n),.map d.m]
theorem qaU:qgP qaA:=by
 intro w w' F F' M d hs hM hF h
 unfold qaA at h ⊢
 obtain ⟨g0,g1,g2,t1,t2,t3,_⟩:=h
 exact ⟨g0,g1,g2,t1.move hs hM hF,t2,t3,trivial⟩
def qbF (d:DV):List Value:=[qaf ((d.f 0).o.getD 0 0),qaf ((d.f 0).o.getD 1 0),qaf ((d.f 0).o.getD 2 0),qaf ((d.f 0).o.getD 3 0),qaf ((d.f 0).o.getD 4 0),qaf ((d.f 0).o.getD 5 0),qaf ((d.f 0).o.getD 6 0),qaf ((d.f 0).o.getD 7 0),qaf ((d.f 0).o.getD 8 0),qaf ((d.f 0).o.getD 9 0),qaf ((d.f 0).o.getD 10 0),qaf ((d.f 0).o.getD 11 0),qaf ((d.f 0).o.getD 12 0),qaf ((d.f 0).o.getD 13 0),qaf ((d.f 0).o.getD 14 0),qaf ((d.f 0).o.getD 15 0),.slice ((d.f 1).A) ((d.f 1).l) ((d.f 1).c),.map d.m]
theorem qa8:qgP qaL:=by
 intro w w' F F' M d hs hM hF h
 unfold qaL at h ⊢
 obtain ⟨g0,⟨g1,g1l,g1e⟩,t1,t2,t3,_⟩:=h
 exact ⟨g0,⟨g1.move hs hM hF,g1l,fun i hi=>qaU _ hs hM hF (g1e i hi)⟩,t1.move hs hM hF,t2,t3,trivial⟩
def qaF (v:Int) (D:DV) (T:Tree):Prop:=((D.f 0).n = IntKind.i32.wrap (T.at_ 0).N) ∧ ((D.f 1).n = IntKind.i32.wrap (T.at_ 1).N) ∧ ((D.f 2).n = IntKind.i64.wrap (T.at_ 2).N) ∧ (((decide (v ≥ 0)) = true → D.u = T.U) ∧ ((decide (v ≥ 0)) = false → D.u = [])) ∧ True
def qaQ (v:Int) (D:DV) (T:Tree):Prop:=((D.f 0).o = qah (T.at_ 0).S) ∧ (((D.f 1).l = (lst (T.at_ 1)).length ∧ ∀ i,i < (D.f 1).l → qaF v ((D.f 1).f i) ((lst (T.at_ 1)).getD i .zero))) ∧ (((decide (v ≥ 0)) = true → D.u = T.U) ∧ ((decide (v ≥ 0)) = false → D.u = [])) ∧ True
def qbh (v:Int) (D:DV) (T:Tree):Prop:=((D.f 0).s = bs (T.at_ 0).S) ∧ (((D.f 1).l = (lst (T.at_ 1)).length ∧ ∀ i,i < (D.f 1).l → qaQ v ((D.f 1).f i) ((lst (T.at_ 1)).getD i .zero))) ∧ (((decide (v ≥ 0)) = true → D.u = T.U) ∧ ((decide (v ≥ 0)) = false → D.u = [])) ∧ True
theorem ql6 (b o:Nat) (w:World):Calls Tryz.prog 146 #[.pointer (some ⟨b,o,none⟩)] w (fun e w'=>e = .returned (.tuple #[]) ∧ w' = w):=by
 refine enter (n:=2) (vs:=[.pointer (some ⟨b,o,none⟩)]) Tryz.func146 rfl Tryz.ntmps146 kz fun a hE=>?_
 refine wp_skip ?_
 exact qb9 hE (WOk.start w Nil).cells (v:=.tuple #[]) kz ⟨rfl,rfl⟩
theorem ql7 (b o:Nat) (w:World):Calls Tryz.prog 147 #[.pointer (some ⟨b,o,none⟩)] w (fun e w'=>e = .returned (.tuple #[]) ∧ w' = w):=by
 refine enter (n:=2) (vs:=[.pointer (some ⟨b,o,none⟩)]) Tryz.func147 rfl Tryz.ntmps147 kz fun a hE=>?_
 refine wp_skip ?_
 exact qb9 hE (WOk.start w Nil).cells (v:=.tuple #[]) kz ⟨rfl,rfl⟩
set_option maxHeartbeats 4000000 in
theorem qcy (v:Int) (T:Tree) {bv:Nat} {A:Option Addr} {c:Nat} {w:World} {F:Nat → Nat → Prop} (hst:Str w bv [.int .i16 v,.string ByteArray.empty,.slice none 0 0,.map none]) (ho:Octs w F A c (qai v T)) (hFd:∀ b o,F b o → ¬ (b = bv ∧ o < 4)) (hc:qaP T) (hR:T.ranged) :
  Calls Tryz.prog 107 #[.pointer (some ⟨bv,0,none⟩),.slice A (qai v T).length c,.bool false] w (fun e w'=>∃ D:DV,e = .returned .nilIface ∧ Str w' bv [.int .i16 v,.string ((D.f 0).s),.slice ((D.f 1).A) ((D.f 1).l) ((D.f 1).c),.map D.m] ∧ qaY w' (Fp F w) D ∧ qbh v D T ∧ Step w w' (fun b o=>b = bv ∧ o < 4)):=by
 refine enter (n:=156) Tryz.func107 rfl Tryz.ntmps107 kz fun a hE=>?_
 have hW:=WOk.startStr hst
 have hE1:=(hE.grow ⟨bv,0,[.int .i16 v,.string ByteArray.empty,.slice none 0 0,.map none],true⟩).recast 0 (.v (.pointer (some ⟨bv,0,none⟩))) (.p 0 0) rfl rfl (Nat.le_of_ble_eq_true (n:=1) rfl)
 refine qat [(0,.p 0 0),(1,.v (.slice A ((qai v T).length) c)),(2,.v (.bool false))] hW hE1 fun a1 hE2=>?_
 refine qae [0,1] kz ?_
 refine qal [0] [1] [(0,.p 0 0),(1,.v (.slice A ((qai v T).length) c)),(2,.v (.bool false)),(28,.p 0 0)] hW hE2 fun a3 hE4=>?_
 refine qao (qbf hE4 (f:=105) (vs:=[.pointer (some ⟨bv,0,none⟩)]) (d:=29) (n':=2) kz Tryz.call105 Tryz.func105 rfl Tryz.ntmps105 kz fun a5 hE6=>?_)
 have hE7:=hE6.recast 0 (.v (.pointer (some ⟨bv,0,none⟩))) (.p 0 0) rfl rfl (Nat.le_of_ble_eq_true (n:=1) rfl)
 refine wp_skip ?_
 refine qb9 hE7 hW.cells (v:=.tuple #[]) kz ?_
 refine ⟨_,rfl,fun a8 hE9=>?_⟩
 have eo:=(EnvOk.places (tb':=[⟨bv,0,[.int .i16 v,.string ByteArray.empty,.slice none 0 0,.map none],true⟩]) hE9 (show Pl [⟨bv,0,[.int .i16 v,.string ByteArray.empty,.slice none 0 0,.map none],true⟩] [⟨bv,0,[.int .i16 v,.string ByteArray.empty,.slice none 0 0,.map none],true⟩] from ⟨rfl,rfl,trivial⟩)).pk (env':=[(29,.v (.tuple #[])),(0,.p 0 0),(1,.v (.slice A ((qai v T).length) c)),(2,.v (.bool false)),(28,.p 0 0)])
 refine qag (qab ?_)
 refine qae [0,1,2,3] kz ?_
 refine qal [0,1] [2,3] [(0,.p 0 0),(2,.v (.bool false)),(31,.v (.agg #[.slice A ((qai v T).length) c,.bool false]))] hW eo fun fb ep=>?_
 refine qao (qbl hW ep (d:=7) (cs:=[.slice none 0 0,.bool false]) kz fun cV fe ff eN eO eP eu ev=>?_)
 refine qao (qaX eu ev (oi:=1) (cs:=[.slice A ((qai v T).length) c,.bool false]) kz fun fg eQ cW ew=>?_)
 refine qag (qab ?_)
 have df:=RS.start (F:=F) (s:=qai v T) cW ew (ho.move cW.step (fun b_ o_ h_ _=>hFd b_ o_ h_) (cW.immM hFd)) [(0,.p 1 0),(2,.v (.bool false)),(7,.p 0 0)]
 have eK:=hc
 have e26r:=hR
 unfold qaP at eK
 obtain ⟨e26_0,⟨e26_1,e26_1e⟩,e26_U,_⟩:=eK
 obtain ⟨aP,dg⟩:∃ R,R = (if (decide (v ≥ 0)) = true then (uv T.U.length) ++ (qby T.U) else []) ++ ([]:Bs):=⟨_,rfl⟩
 obtain ⟨eR,dh⟩:∃ R,R = ((if (decide (v ≥ 0)) = true then (uv ((lst (T.at_ 1)).length + 1)) else (be 4 (lst (T.at_ 1)).length)) ++ ((lst (T.at_ 1)).flatMap (qav v))) ++ aP:=⟨_,rfl⟩
 obtain ⟨eS,di⟩:∃ R,R = (if (decide (v ≥ 0)) = true then (uv ((T.at_ 0).S.length + 1) ++ (T.at_ 0).S) else (be 2 (T.at_ 0).S.length ++ (T.at_ 0).S)) ++ eR:=⟨_,rfl⟩
 have dj:=df.cast (t:=eS) (by rw [qbM,di,dh,dg]; unfold qbt; simp only [List.append_assoc])
 clear df
 refine wp_seq ?_
 refine qcf [(0,.p 1 0),(2,.v (.bool false)),(7,.p 0 0),(8,.v (.int .i16 v))] dj fun _ dl=>?_
 clear dj
 refine qab ?_
 refine wp_seq ?_
 refine qcf [(0,.p 1 0),(2,.v (.bool false)),(7,.p 0 0),(8,.v (.int .i16 v))] dl fun _ dp=>?_
 clear dl
 refine qab ?_
 refine wp_seq ?_
 refine qcf [(0,.p 1 0),(2,.v (.bool false)),(7,.p 0 0),(9,.v (.bool (decide (v ≥ 0))))] dp fun _ dq=>?_
 clear dp
 refine qab ?_
 refine wp_seq ?_
 refine qcf [(0,.p 1 0),(2,.v (.bool false)),(7,.p 0 0),(9,.v (.bool (decide (v ≥ 0))))] dq fun _ dr=>?_
 clear dq
 refine qab ?_
 refine wp_seq ?_
 refine qcf [(2,.v (.bool false)),(7,.p 0 0),(9,.v (.bool (decide (v ≥ 0)))),(10,.p 1 0)] dr fun _ dt=>?_
 clear dr
 refine qab ?_
 refine wp_seq ?_
 refine wp_seq ?_
 refine qcf [(2,.v (.bool false)),(7,.p 0 0),(9,.v (.bool (decide (v ≥ 0)))),(10,.p 1 0)] dt fun _ du=>?_
 clear dt
 refine qab ?_
 refine wp_seq ?_
 refine wp_seq ?_
 refine qcf [(7,.p 0 0),(9,.v (.bool (decide (v ≥ 0)))),(10,.p 1 0),(41,.v (.bool false))] du fun _ cX=>qab ?_
 clear du
 refine qaw cX.env_ (b:=false) kz (rfl) ?_
 have dv:=cX.cast di
 clear cX
 refine qhu (d1:=46) (d2:=47) [(7,.p 0 0),(9,.v (.bool (decide (v ≥ 0)))),(10,.p 1 0),(45,.v (.bool (decide (v ≥ 0))))] [(7,.p 0 0),(9,.v (.bool (decide (v ≥ 0)))),(10,.p 1 0),(11,.v (.string (bs (T.at_ 0).S)))] dv (qfu (T.at_ 0).S e26_0 _) Tryz.call115 (qll (T.at_ 0).S e26_0 _) Tryz.call116 fun _ _ dw=>?_
 clear dv
 refine qab ?_
 refine qfn [⟨bv,0,[.int .i16 v,.string (bs (T.at_ 0).S),.slice none 0 0,.map none],true⟩] 0 [(7,.p 0 0),(9,.v (.bool (decide (v ≥ 0)))),(10,.p 1 0)] dw fun _ _ dx=>?_
 clear dw
 refine qab ?_
 refine wp_seq ?_
 refine wp_seq ?_
 refine qcf [(7,.p 0 0),(9,.v (.bool (decide (v ≥ 0)))),(10,.p 1 0),(12,.v (.slice none 0 0))] dx fun _ dy=>?_
 clear dx
 refine qab ?_
 refine wp_seq ?_
 refine qcf [(7,.p 0 0),(9,.v (.bool (decide (v ≥ 0)))),(10,.p 1 0),(13,.v (.slice none 0 0))] dy fun _ dz=>?_
 clear dy
 refine qab ?_
 refine wp_seq ?_
 refine qcf [(7,.p 0 0),(9,.v (.bool (decide (v ≥ 0)))),(10,.p 1 0),(13,.v (.slice none 0 0))] dz fun _ dA=>?_
 clear dz
 refine qab ?_
 refine wp_seq ?_
 have dB:=dA.cast dh
 clear dA
 have dC:=dB.cast (t:=(if (decide (v ≥ 0)) = true then (uv ((lst (T.at_ 1)).length + 1)) else (be 4 (lst (T.at_ 1)).length)) ++ (((lst (T.at_ 1)).flatMap (qav v)) ++ aP)) (by rw [List.append_assoc])
 clear dB
 refine qhu (d1:=58) (d2:=59) [(7,.p 0 0),(9,.v (.bool (decide (v ≥ 0)))),(10,.p 1 0),(13,.v (.slice none 0 0)),(57,.v (.bool (decide (v ≥ 0))))] [(7,.p 0 0),(9,.v (.bool (decide (v ≥ 0)))),(10,.p 1 0),(13,.v (.slice none 0 0)),(14,.v (.int .i32 (((lst (T.at_ 1)).length:Nat):Int)))] dC (qdm ((lst (T.at_ 1)).length) e26_1 _ (flat_ge' (qbA v) _)) Tryz.call123 (qgR ((lst (T.at_ 1)).length) e26_1 _ (flat_ge' (qbA v) _)) Tryz.call124 fun _ _ dD=>?_
 clear dC
 refine qab ?_
 refine wp_seq ?_
 refine wp_seq ?_
 refine ql0 (d:=60) [(7,.p 0 0),(9,.v (.bool (decide (v ≥ 0)))),(10,.p 1 0),(13,.v (.slice none 0 0)),(14,.v (.int .i32 (((lst (T.at_ 1)).length:Nat):Int))),(61,.v (.bool false))] dD (pOk _) Tryz.call125 fun _ _ cY=>?_
 clear dD
 refine qab ?_
 refine qaw cY.env_ (b:=false) kz (rfl) ?_
 refine wp_skip ?_
 refine qab ?_
 refine wp_seq ?_
 refine qjM (t:=114) (e:=183) (size:=18) (bytes:=48) (d:=64) (A0:=none) (m:=0) (cp:=0) [(7,.p 0 0),(9,.v (.bool (decide (v ≥ 0)))),(10,.p 1 0),(14,.v (.int .i32 (((lst (T.at_ 1)).length:Nat):Int))),(63,.v (.slice none 0 0))] [(7,.p 0 0),(9,.v (.bool (decide (v ≥ 0)))),(10,.p 1 0),(13,.v (.slice none 0 0)),(14,.v (.int .i32 (((lst (T.at_ 1)).length:Nat):Int)))] 1 cY fun _ dE=>?_
 clear cY
 refine qab ?_
 refine qhZ (Mid:=fun a_ w_=>∃ (ak:DV) (P':qcT),(∀ w F,P' w F → noF w F ∧ (Slots w F 18 ak.A ak.c ak.l (fun i=>[qaf (((ak.f i).f 0).o.getD 0 0),qaf (((ak.f i).f 0).o.getD 1 0),qaf (((ak.f i).f 0).o.getD 2 0),qaf (((ak.f i).f 0).o.getD 3 0),qaf (((ak.f i).f 0).o.getD 4 0),qaf (((ak.f i).f 0).o.getD 5 0),qaf (((ak.f i).f 0).o.getD 6 0),qaf (((ak.f i).f 0).o.getD 7 0),qaf (((ak.f i).f 0).o.getD 8 0),qaf (((ak.f i).f 0).o.getD 9 0),qaf (((ak.f i).f 0).o.getD 10 0),qaf (((ak.f i).f 0).o.getD 11 0),qaf (((ak.f i).f 0).o.getD 12 0),qaf (((ak.f i).f 0).o.getD 13 0),qaf (((ak.f i).f 0).o.getD 14 0),qaf (((ak.f i).f 0).o.getD 15 0),.slice (((ak.f i).f 1).A) (((ak.f i).f 1).l) (((ak.f i).f 1).c),.map ((ak.f i).m)]) ∧ ak.l ≤ 1000000 ∧ ∀ i,i < ak.l → qaL w F (ak.f i)) ∧ (ak.l = (lst (T.at_ 1)).length ∧ ∀ i,i < ak.l → qaQ v (ak.f i) ((lst (T.at_ 1)).getD i .zero))) ∧ RS w (fun b o=>b = bv ∧ o < 4) F 156 cV [⟨bv,0,[.int .i16 v,.string (bs (T.at_ 0).S),.slice none 0 0,.map none],true⟩] [(7,.p 0 0),(9,.v (.bool (decide (v ≥ 0)))),(10,.p 1 0),(13,.v (.slice ak.A ak.l ak.c))] P' aP a_ w_) ?_ ?_
 ·
  refine wp_seq ?_
  refine qcf [(7,.p 0 0),(9,.v (.bool (decide (v ≥ 0)))),(10,.p 1 0),(13,.v (.slice none 0 0)),(14,.v (.int .i32 (((lst (T.at_ 1)).length:Nat):Int))),(66,.v (.bool (decide ((((lst (T.at_ 1)).length:Nat):Int) > 0))))] dE fun _ aE=>qab ?_
  clear dE
  refine qaC aE.env_ (b:=decide ((((lst (T.at_ 1)).length:Nat):Int) > 0)) kz (fun aL=>?_) (fun aL=>?_)
  ·
   have hn_g61:0 < (lst (T.at_ 1)).length:=by have h_:=of_decide_eq_true aL; omega
   refine qau [0,1,2,3] kz ?_
   refine qdk [0,1] [2,3] [(7,.p 0 0),(9,.v (.bool (decide (v ≥ 0)))),(10,.p 1 0),(14,.v (.int .i32 (((lst (T.at_ 1)).length:Nat):Int))),(67,.v (.slice none 0 0)),(68,.v (.int .i32 (((lst (T.at_ 1)).length:Nat):Int)))] aE fun _ dF=>?_
   clear aE
   refine qao (qfK (A0:=none) (d:=69) (t:=114) (tn:=21) (e:=183) (size:=18) (bytes:=48) (k:=.i32) (kn:=.i32) (q:=(((lst (T.at_ 1)).length:Nat):Int)) (j:=(lst (T.at_ 1)).length) (.agg #[.int .u8 0,.int .u8 0,.int .u8 0,.int .u8 0,.int .u8 0,.int .u8 0,.int .u8 0,.int .u8 0,.int .u8 0,.int .u8 0,.int .u8 0,.int .u8 0,.int .u8 0,.int .u8 0,.int .u8 0,.int .u8 0,.slice none 0 0,.map none]) dF (fun ab ag _ _ hg_g61 hcap_g61 dG=>?_) rfl hn_g61 (by have:=e26_1; omega))
   clear dF
   refine qdk [3] [] [(7,.p 0 0),(9,.v (.bool (decide (v ≥ 0)))),(10,.p 1 0),(13,.v (.slice (some ⟨ab,0,none⟩) ((lst (T.at_ 1)).length) ag)),(14,.v (.int .i32 (((lst (T.at_ 1)).length:Nat):Int)))] dG fun _ dH=>qag ?_
   clear dG
   refine qab ?_
   refine wp_seq ?_
   refine qcf [(7,.p 0 0),(9,.v (.bool (decide (v ≥ 0)))),(10,.p 1 0),(13,.v (.slice (some ⟨ab,0,none⟩) ((lst (T.at_ 1)).length) ag)),(14,.v (.int .i32 (((lst (T.at_ 1)).length:Nat):Int))),(15,.v (.int .i32 0))] dH fun _ cZ=>?_
   clear dH
   refine qab ?_
   refine wp_block ?_
   have aQ:=cZ.mv
   have ey:=(cZ.cast (t:=(lst (T.at_ 1)).flatMap (qav v) ++ aP) rfl).pk (env':=[(7,.p 0 0),(9,.v (.bool (decide (v ≥ 0)))),(10,.p 1 0),(13,.v (.slice (some ⟨ab,0,none⟩) ((lst (T.at_ 1)).length) ag)),(14,.v (.int .i32 (((lst (T.at_ 1)).length:Nat):Int))),(15,.v (.int .i32 ((0:Nat):Int)))])
   clear cZ
   refine qjI (tb:=[⟨bv,0,[.int .i16 v,.string (bs (T.at_ 0).S),.slice none 0 0,.map none],true⟩]) (z:=.agg #[.int .u8 0,.int .u8 0,.int .u8 0,.int .u8 0,.int .u8 0,.int .u8 0,.int .u8 0,.int .u8 0,.int .u8 0,.int .u8 0,.int .u8 0,.int .u8 0,.int .u8 0,.int .u8 0,.int .u8 0,.int .u8 0,.slice none 0 0,.map none]) (cl:=qbF) (ok:=qaL) (rel:=(qaQ v)) (L:=lst (T.at_ 1)) (size:=18) (qav v) aP (fun k=>[(7,.p 0 0),(9,.v (.bool (decide (v ≥ 0)))),(10,.p 1 0),(13,.v (.slice (some ⟨ab,0,none⟩) ((lst (T.at_ 1)).length) ag)),(14,.v (.int .i32 (((lst (T.at_ 1)).length:Nat):Int))),(15,.v (.int .i32 ((k:Nat):Int)))]) ey qa8 (fun ac aa _ _ c5 ez dI=>?_) (fun _ _ dJ=>?_)
   ·
    obtain ⟨eL,dK,dL⟩:∃ P',(∀ w F,P' w F → (noF w F ∧ qfr ab 18 qbF qaL (qaQ v) (lst (T.at_ 1)) ac w F)) ∧ RS w (fun b o=>b = bv ∧ o < 4) F 156 cV [⟨bv,0,[.int .i16 v,.string (bs (T.at_ 0).S),.slice none 0 0,.map none],true⟩,qbC ab 18 (.agg #[.int .u8 0,.int .u8 0,.int .u8 0,.int .u8 0,.int .u8 0,.int .u8 0,.int .u8 0,.int .u8 0,.int .u8 0,.int .u8 0,.int .u8 0,.int .u8 0,.int .u8 0,.int .u8 0,.int .u8 0,.int .u8 0,.slice none 0 0,.map none]) ((lst (T.at_ 1)).length) ac] [(7,.p 0 0),(9,.v (.bool (decide (v ≥ 0)))),(10,.p 1 0),(13,.v (.slice (some ⟨ab,0,none⟩) ((lst (T.at_ 1)).length) ag)),(14,.v (.int .i32 (((lst (T.at_ 1)).length:Nat):Int))),(15,.v (.int .i32 ((ac:Nat):Int)))] P' ((qav v) aa ++ (((lst (T.at_ 1)).drop (ac + 1)).flatMap (qav v) ++ aP)) _ _:=⟨_,fun _ _ h=>h,dI⟩
    clear dI
    obtain ⟨dM,dN⟩:∃ R,R = ((lst (T.at_ 1)).drop (ac + 1)).flatMap (qav v) ++ aP:=⟨_,rfl⟩
    have eM:=(e26_1e aa (List.mem_of_getElem? c5))
    have e80r:=(qfI (qfm e26r 1) aa (List.mem_of_getElem? c5))
    unfold qa6 at eM
    obtain ⟨e80_0,⟨e80_1,e80_1e⟩,e80_U,_⟩:=eM
    obtain ⟨aR,dO⟩:∃ R,R = (if (decide (v ≥ 0)) = true then (uv aa.U.length) ++ (qby aa.U) else []) ++ dM:=⟨_,rfl⟩
    obtain ⟨eT,dP⟩:∃ R,R = ((if (decide (v ≥ 0)) = true then (uv ((lst (aa.at_ 1)).length + 1)) else (be 4 (lst (aa.at_ 1)).length)) ++ ((lst (aa.at_ 1)).flatMap (qaq v))) ++ aR:=⟨_,rfl⟩
    obtain ⟨eU,dQ⟩:∃ R,R = (qah (aa.at_ 0).S) ++ eT:=⟨_,rfl⟩
    have dR:=dL.cast (t:=eU) (by rw [dQ,dP,dO,← dN]; unfold qav; simp only [List.append_assoc])
    clear dL
    refine wp_seq ?_
    refine wp_seq ?_
    refine qcf [(7,.p 0 0),(9,.v (.bool (decide (v ≥ 0)))),(10,.p 1 0),(13,.v (.slice (some ⟨ab,0,none⟩) ((lst (T.at_ 1)).length) ag)),(14,.v (.int .i32 (((lst (T.at_ 1)).length:Nat):Int))),(15,.v (.int .i32 ((ac:Nat):Int))),(72,.v (.bool (decide (((ac:Nat):Int) < (((lst (T.at_ 1)).length:Nat):Int)))))] dR fun _ da=>qab ?_
    clear dR
    refine qbR da.env_ (b:=decide (((ac:Nat):Int) < (((lst (T.at_ 1)).length:Nat):Int))) kz (decide_eq_true (by omega)) ?_
    refine wp_skip ?_
    refine qab ?_
    refine wp_seq ?_
    refine wp_block ?_
    refine wp_seq ?_
    refine qjN (t:=114) (e:=183) (size:=18) (bytes:=48) (d:=77) (tb:=[⟨bv,0,[.int .i16 v,.string (bs (T.at_ 0).S),.slice none 0 0,.map none],true⟩]) (z:=.agg #[.int .u8 0,.int .u8 0,.int .u8 0,.int .u8 0,.int .u8 0,.int .u8 0,.int .u8 0,.int .u8 0,.int .u8 0,.int .u8 0,.int .u8 0,.int .u8 0,.int .u8 0,.int .u8 0,.int .u8 0,.int .u8 0,.slice none 0 0,.map none]) [(7,.p 0 0),(9,.v (.bool (decide (v ≥ 0)))),(10,.p 1 0),(13,.v (.slice (some ⟨ab,0,none⟩) ((lst (T.at_ 1)).length) ag)),(14,.v (.int .i32 (((lst (T.at_ 1)).length:Nat):Int))),(15,.v (.int .i32 ((ac:Nat):Int))),(75,.v (.slice (some ⟨ab,0,none⟩) ((lst (T.at_ 1)).length) ag)),(76,.v (.int .i32 ((ac:Nat):Int)))] [(7,.p 0 0),(9,.v (.bool (decide (v ≥ 0)))),(10,.p 1 0),(13,.v (.slice (some ⟨ab,0,none⟩) ((lst (T.at_ 1)).length) ag)),(14,.v (.int .i32 (((lst (T.at_ 1)).length:Nat):Int))),(15,.v (.int .i32 ((ac:Nat):Int))),(16,.p 3 0)] 2 da ez rfl kz fun _ dS=>?_
    clear da
    have dT:=dS.tbEq (tb':=[⟨bv,0,[.int .i16 v,.string (bs (T.at_ 0).S),.slice none 0 0,.map none],true⟩,qbC ab 18 (.agg #[.int .u8 0,.int .u8 0,.int .u8 0,.int .u8 0,.int .u8 0,.int .u8 0,.int .u8 0,.int .u8 0,.int .u8 0,.int .u8 0,.int .u8 0,.int .u8 0,.int .u8 0,.int .u8 0,.int .u8 0,.int .u8 0,.slice none 0 0,.map none]) ((lst (T.at_ 1)).length) (ac + 1),⟨ab,ac * 18,[.int .u8 0,.int .u8 0,.int .u8 0,.int .u8 0,.int .u8 0,.int .u8 0,.int .u8 0,.int .u8 0,.int .u8 0,.int .u8 0,.int .u8 0,.int .u8 0,.int .u8 0,.int .u8 0,.int .u8 0,.int .u8 0,.slice none 0 0,.map none],true⟩]) rfl
    clear dS
    refine qab ?_
    refine wp_seq ?_
    refine qau [0,1] kz ?_
    refine qdk [0] [1] [(7,.p 0 0),(9,.v (.bool (decide (v ≥ 0)))),(10,.p 1 0),(13,.v (.slice (some ⟨ab,0,none⟩) ((lst (T.at_ 1)).length) ag)),(14,.v (.int .i32 (((lst (T.at_ 1)).length:Nat):Int))),(15,.v (.int .i32 ((ac:Nat):Int))),(16,.p 3 0),(78,.p 3 0)] dT fun _ dU=>?_
    clear dT
    refine qao (qkK (d:=79) (vs:=[.pointer (some ⟨ab,ac * 18,none⟩)]) dU (fun _=>ql6 _ _ _) Tryz.call146 fun _ dV=>?_)
    clear dU
    refine qag ?_
    have dW:=dV.pk (env':=[(7,.p 0 0),(9,.v (.bool (decide (v ≥ 0)))),(10,.p 1 0),(13,.v (.slice (some ⟨ab,0,none⟩) ((lst (T.at_ 1)).length) ag)),(14,.v (.int .i32 (((lst (T.at_ 1)).length:Nat):Int))),(15,.v (.int .i32 ((ac:Nat):Int))),(16,.p 3 0)])
    clear dV
    refine qab ?_
    refine wp_seq ?_
    refine qcf [(7,.p 0 0),(9,.v (.bool (decide (v ≥ 0)))),(10,.p 1 0),(13,.v (.slice (some ⟨ab,0,none⟩) ((lst (T.at_ 1)).length) ag)),(14,.v (.int .i32 (((lst (T.at_ 1)).length:Nat):Int))),(15,.v (.int .i32 ((ac:Nat):Int))),(17,.p 3 0)] dW fun _ dX=>?_
    clear dW
    refine qab ?_
    refine wp_seq ?_
    refine wp_seq ?_
    refine qau [0,1,2] kz ?_
    have dY:=dX.cast dQ
    clear dX
    refine qao (qhX (d:=81) dY (qml (aa.at_ 0).S _) Tryz.call128 fun _ _ dZ=>?_)
    clear dY
    refine qao (qkn (d:=18) [.int .u8 0,.int .u8 0,.int .u8 0,.int .u8 0,.int .u8 0,.int .u8 0,.int .u8 0,.int .u8 0,.int .u8 0,.int .u8 0,.int .u8 0,.int .u8 0,.int .u8 0,.int .u8 0,.int .u8 0,.int .u8 0] dZ fun eB _ _ hb_b98 d5=>?_)
    clear dZ
    have aS:=(d5.tbEq (tb':=[⟨bv,0,[.int .i16 v,.string (bs (T.at_ 0).S),.slice none 0 0,.map none],true⟩,qbC ab 18 (.agg #[.int .u8 0,.int .u8 0,.int .u8 0,.int .u8 0,.int .u8 0,.int .u8 0,.int .u8 0,.int .u8 0,.int .u8 0,.int .u8 0,.int .u8 0,.int .u8 0,.int .u8 0,.int .u8 0,.int .u8 0,.int .u8 0,.slice none 0 0,.map none]) ((lst (T.at_ 1)).length) (ac + 1),⟨ab,ac * 18,[.int .u8 0,.int .u8 0,.int .u8 0,.int .u8 0,.int .u8 0,.int .u8 0,.int .u8 0,.int .u8 0,.int .u8 0,.int .u8 0,.int .u8 0,.int .u8 0,.int .u8 0,.int .u8 0,.int .u8 0,.int .u8 0,.slice none 0 0,.map none],true⟩,⟨eB,0,[.int .u8 0,.int .u8 0,.int .u8 0,.int .u8 0,.int .u8 0,.int .u8 0,.int .u8 0,.int .u8 0,.int .u8 0,.int .u8 0,.int .u8 0,.int .u8 0,.int .u8 0,.int .u8 0,.int .u8 0,.int .u8 0],true⟩]) rfl).pk (env':=[(7,.p 0 0),(9,.v (.bool (decide (v ≥ 0)))),(10,.p 1 0),(13,.v (.slice (some ⟨ab,0,none⟩) ((lst (T.at_ 1)).length) ag)),(14,.v (.int .i32 (((lst (T.at_ 1)).length:Nat):Int))),(15,.v (.int .i32 ((ac:Nat):Int))),(17,.p 3 0),(81,.v (.agg #[qaf ((qah (aa.at_ 0).S).getD 0 0),qaf ((qah (aa.at_ 0).S).getD 1 0),qaf ((qah (aa.at_ 0).S).getD 2 0),qaf ((qah (aa.at_ 0).S).getD 3 0),qaf ((qah (aa.at_ 0).S).getD 4 0),qaf ((qah (aa.at_ 0).S).getD 5 0),qaf ((qah (aa.at_ 0).S).getD 6 0),qaf ((qah (aa.at_ 0).S).getD 7 0),qaf ((qah (aa.at_ 0).S).getD 8 0),qaf ((qah (aa.at_ 0).S).getD 9 0),qaf ((qah (aa.at_ 0).S).getD 10 0),qaf ((qah (aa.at_ 0).S).getD 11 0),qaf ((qah (aa.at_ 0).S).getD 12 0),qaf ((qah (aa.at_ 0).S).getD 13 0),qaf ((qah (aa.at_ 0).S).getD 14 0),qaf ((qah (aa.at_ 0).S).getD 15 0)])),(18,.p 4 0)])
    clear d5
    refine qao (qe3 [⟨bv,0,[.int .i16 v,.string (bs (T.at_ 0).S),.slice none 0 0,.map none],true⟩,qbC ab 18 (.agg #[.int .u8 0,.int .u8 0,.int .u8 0,.int .u8 0,.int .u8 0,.int .u8 0,.int .u8 0,.int .u8 0,.int .u8 0,.int .u8 0,.int .u8 0,.int .u8 0,.int .u8 0,.int .u8 0,.int .u8 0,.int .u8 0,.slice none 0 0,.map none]) ((lst (T.at_ 1)).length) (ac + 1),⟨ab,ac * 18,[.int .u8 0,.int .u8 0,.int .u8 0,.int .u8 0,.int .u8 0,.int .u8 0,.int .u8 0,.int .u8 0,.int .u8 0,.int .u8 0,.int .u8 0,.int .u8 0,.int .u8 0,.int .u8 0,.int .u8 0,.int .u8 0,.slice none 0 0,.map none],true⟩,⟨eB,0,[qaf ((qah (aa.at_ 0).S).getD 0 0),qaf ((qah (aa.at_ 0).S).getD 1 0),qaf ((qah (aa.at_ 0).S).getD 2 0),qaf ((qah (aa.at_ 0).S).getD 3 0),qaf ((qah (aa.at_ 0).S).getD 4 0),qaf ((qah (aa.at_ 0).S).getD 5 0),qaf ((qah (aa.at_ 0).S).getD 6 0),qaf ((qah (aa.at_ 0).S).getD 7 0),qaf ((qah (aa.at_ 0).S).getD 8 0),qaf ((qah (aa.at_ 0).S).getD 9 0),qaf ((qah (aa.at_ 0).S).getD 10 0),qaf ((qah (aa.at_ 0).S).getD 11 0),qaf ((qah (aa.at_ 0).S).getD 12 0),qaf ((qah (aa.at_ 0).S).getD 13 0),qaf ((qah (aa.at_ 0).S).getD 14 0),qaf ((qah (aa.at_ 0).S).getD 15 0)],true⟩] 3 aS fun _ aT=>?_)
    clear aS
    refine qag ?_
    have aU:=aT.pk (env':=[(7,.p 0 0),(9,.v (.bool (decide (v ≥ 0)))),(10,.p 1 0),(13,.v (.slice (some ⟨ab,0,none⟩) ((lst (T.at_ 1)).length) ag)),(14,.v (.int .i32 (((lst (T.at_ 1)).length:Nat):Int))),(15,.v (.int .i32 ((ac:Nat):Int))),(17,.p 3 0),(18,.p 4 0)])
    clear aT
    refine qab ?_
    refine qfn [⟨bv,0,[.int .i16 v,.string (bs (T.at_ 0).S),.slice none 0 0,.map none],true⟩,qbC ab 18 (.agg #[.int .u8 0,.int .u8 0,.int .u8 0,.int .u8 0,.int .u8 0,.int .u8 0,.int .u8 0,.int .u8 0,.int .u8 0,.int .u8 0,.int .u8 0,.int .u8 0,.int .u8 0,.int .u8 0,.int .u8 0,.int .u8 0,.slice none 0 0,.map none]) ((lst (T.at_ 1)).length) (ac + 1),⟨ab,ac * 18,[qaf ((qah (aa.at_ 0).S).getD 0 0),qaf ((qah (aa.at_ 0).S).getD 1 0),qaf ((qah (aa.at_ 0).S).getD 2 0),qaf ((qah (aa.at_ 0).S).getD 3 0),qaf ((qah (aa.at_ 0).S).getD 4 0),qaf ((qah (aa.at_ 0).S).getD 5 0),qaf ((qah (aa.at_ 0).S).getD 6 0),qaf ((qah (aa.at_ 0).S).getD 7 0),qaf ((qah (aa.at_ 0).S).getD 8 0),qaf ((qah (aa.at_ 0).S).getD 9 0),qaf ((qah (aa.at_ 0).S).getD 10 0),qaf ((qah (aa.at_ 0).S).getD 11 0),qaf ((qah (aa.at_ 0).S).getD 12 0),qaf ((qah (aa.at_ 0).S).getD 13 0),qaf ((qah (aa.at_ 0).S).getD 14 0),qaf ((qah (aa.at_ 0).S).getD 15 0),.slice none 0 0,.map none],true⟩,⟨eB,0,[qaf ((qah (aa.at_ 0).S).getD 0 0),qaf ((qah (aa.at_ 0).S).getD 1 0),qaf ((qah (aa.at_ 0).S).getD 2 0),qaf ((qah (aa.at_ 0).S).getD 3 0),qaf ((qah (aa.at_ 0).S).getD 4 0),qaf ((qah (aa.at_ 0).S).getD 5 0),qaf ((qah (aa.at_ 0).S).getD 6 0),qaf ((qah (aa.at_ 0).S).getD 7 0),qaf ((qah (aa.at_ 0).S).getD 8 0),qaf ((qah (aa.at_ 0).S).getD 9 0),qaf ((qah (aa.at_ 0).S).getD 10 0),qaf ((qah (aa.at_ 0).S).getD 11 0),qaf ((qah (aa.at_ 0).S).getD 12 0),qaf ((qah (aa.at_ 0).S).getD 13 0),qaf ((qah (aa.at_ 0).S).getD 14 0),qaf ((qah (aa.at_ 0).S).getD 15 0)],true⟩] 2 [(7,.p 0 0),(9,.v (.bool (decide (v ≥ 0)))),(10,.p 1 0),(13,.v (.slice (some ⟨ab,0,none⟩) ((lst (T.at_ 1)).length) ag)),(14,.v (.int .i32 (((lst (T.at_ 1)).length:Nat):Int))),(15,.v (.int .i32 ((ac:Nat):Int))),(17,.p 3 0)] aU fun _ _ aV=>?_
    clear aU
    have aW:=RS.dropT (tb:=[⟨bv,0,[.int .i16 v,.string (bs (T.at_ 0).S),.slice none 0 0,.map none],true⟩,qbC ab 18 (.agg #[.int .u8 0,.int .u8 0,.int .u8 0,.int .u8 0,.int .u8 0,.int .u8 0,.int .u8 0,.int .u8 0,.int .u8 0,.int .u8 0,.int .u8 0,.int .u8 0,.int .u8 0,.int .u8 0,.int .u8 0,.int .u8 0,.slice none 0 0,.map none]) ((lst (T.at_ 1)).length) (ac + 1),⟨ab,ac * 18,[qaf ((qah (aa.at_ 0).S).getD 0 0),qaf ((qah (aa.at_ 0).S).getD 1 0),qaf ((qah (aa.at_ 0).S).getD 2 0),qaf ((qah (aa.at_ 0).S).getD 3 0),qaf ((qah (aa.at_ 0).S).getD 4 0),qaf ((qah (aa.at_ 0).S).getD 5 0),qaf ((qah (aa.at_ 0).S).getD 6 0),qaf ((qah (aa.at_ 0).S).getD 7 0),qaf ((qah (aa.at_ 0).S).getD 8 0),qaf ((qah (aa.at_ 0).S).getD 9 0),qaf ((qah (aa.at_ 0).S).getD 10 0),qaf ((qah (aa.at_ 0).S).getD 11 0),qaf ((qah (aa.at_ 0).S).getD 12 0),qaf ((qah (aa.at_ 0).S).getD 13 0),qaf ((qah (aa.at_ 0).S).getD 14 0),qaf ((qah (aa.at_ 0).S).getD 15 0),.slice none 0 0,.map none],true⟩]) aV hb_b98 kz
    clear aV
    refine qab ?_
    refine wp_seq ?_
    refine wp_seq ?_
    refine qcf [(7,.p 0 0),(9,.v (.bool (decide (v ≥ 0)))),(10,.p 1 0),(13,.v (.slice (some ⟨ab,0,none⟩) ((lst (T.at_ 1)).length) ag)),(14,.v (.int .i32 (((lst (T.at_ 1)).length:Nat):Int))),(15,.v (.int .i32 ((ac:Nat):Int))),(17,.p 3 0),(19,.v (.slice none 0 0))] aW fun _ aX=>?_
    clear aW
    refine qab ?_
    refine wp_seq ?_
    refine qcf [(7,.p 0 0),(9,.v (.bool (decide (v ≥ 0)))),(10,.p 1 0),(13,.v (.slice (some ⟨ab,0,none⟩) ((lst (T.at_ 1)).length) ag)),(14,.v (.int .i32 (((lst (T.at_ 1)).length:Nat):Int))),(15,.v (.int .i32 ((ac:Nat):Int))),(17,.p 3 0),(20,.v (.slice none 0 0))] aX fun _ aY=>?_
    clear aX
    refine qab ?_
    refine wp_seq ?_
    refine qcf [(7,.p 0 0),(9,.v (.bool (decide (v ≥ 0)))),(10,.p 1 0),(13,.v (.slice (some ⟨ab,0,none⟩) ((lst (T.at_ 1)).length) ag)),(14,.v (.int .i32 (((lst (T.at_ 1)).length:Nat):Int))),(15,.v (.int .i32 ((ac:Nat):Int))),(17,.p 3 0),(20,.v (.slice none 0 0))] aY fun _ aZ=>?_
    clear aY
    refine qab ?_
    refine wp_seq ?_
    have ba:=aZ.cast dP
    clear aZ
    have bd:=ba.cast (t:=(if (decide (v ≥ 0)) = true then (uv ((lst (aa.at_ 1)).length + 1)) else (be 4 (lst (aa.at_ 1)).length)) ++ (((lst (aa.at_ 1)).flatMap (qaq v)) ++ aR)) (by rw [List.append_assoc])
    clear ba
    refine qhu (d1:=92) (d2:=93) [(7,.p 0 0),(9,.v (.bool (decide (v ≥ 0)))),(10,.p 1 0),(13,.v (.slice (some ⟨ab,0,none⟩) ((lst (T.at_ 1)).length) ag)),(14,.v (.int .i32 (((lst (T.at_ 1)).length:Nat):Int))),(15,.v (.int .i32 ((ac:Nat):Int))),(17,.p 3 0),(20,.v (.slice none 0 0)),(91,.v (.bool (decide (v ≥ 0))))] [(7,.p 0 0),(9,.v (.bool (decide (v ≥ 0)))),(10,.p 1 0),(13,.v (.slice (some ⟨ab,0,none⟩) ((lst (T.at_ 1)).length) ag)),(14,.v (.int .i32 (((lst (T.at_ 1)).length:Nat):Int))),(15,.v (.int .i32 ((ac:Nat):Int))),(17,.p 3 0),(20,.v (.slice none 0 0)),(21,.v (.int .i32 (((lst (aa.at_ 1)).length:Nat):Int)))] bd (qdm ((lst (aa.at_ 1)).length) e80_1 _ (flat_ge' (qbn v) _)) Tryz.call123 (qgR ((lst (aa.at_ 1)).length) e80_1 _ (flat_ge' (qbn v) _)) Tryz.call124 fun _ _ bf=>?_
    clear bd
    refine qab ?_
    refine wp_seq ?_
    refine wp_seq ?_
    refine ql0 (d:=94) [(7,.p 0 0),(9,.v (.bool (decide (v ≥ 0)))),(10,.p 1 0),(13,.v (.slice (some ⟨ab,0,none⟩) ((lst (T.at_ 1)).length) ag)),(14,.v (.int .i32 (((lst (T.at_ 1)).length:Nat):Int))),(15,.v (.int .i32 ((ac:Nat):Int))),(17,.p 3 0),(20,.v (.slice none 0 0)),(21,.v (.int .i32 (((lst (aa.at_ 1)).length:Nat):Int))),(95,.v (.bool false))] bf (pOk _) Tryz.call125 fun _ _ aF=>?_
    clear bf
    refine qab ?_
    refine qaw aF.env_ (b:=false) kz (rfl) ?_
    refine wp_skip ?_
    refine qab ?_
    refine wp_seq ?_
    refine qjM (t:=181) (e:=186) (size:=4) (bytes:=24) (d:=98) (A0:=none) (m:=0) (cp:=0) [(7,.p 0 0),(9,.v (.bool (decide (v ≥ 0)))),(10,.p 1 0),(13,.v (.slice (some ⟨ab,0,none⟩) ((lst (T.at_ 1)).length) ag)),(14,.v (.int .i32 (((lst (T.at_ 1)).length:Nat):Int))),(15,.v (.int .i32 ((ac:Nat):Int))),(17,.p 3 0),(21,.v (.int .i32 (((lst (aa.at_ 1)).length:Nat):Int))),(97,.v (.slice none 0 0))] [(7,.p 0 0),(9,.v (.bool (decide (v ≥ 0)))),(10,.p 1 0),(13,.v (.slice (some ⟨ab,0,none⟩) ((lst (T.at_ 1)).length) ag)),(14,.v (.int .i32 (((lst (T.at_ 1)).length:Nat):Int))),(15,.v (.int .i32 ((ac:Nat):Int))),(17,.p 3 0),(20,.v (.slice none 0 0)),(21,.v (.int .i32 (((lst (aa.at_ 1)).length:Nat):Int)))] 1 aF fun _ bg=>?_
    clear aF
    refine qab ?_
    refine qhZ (Mid:=fun a_ w_=>∃ (aj:DV) (P':qcT),(∀ w F,P' w F → eL w F ∧ (Slots w F 4 aj.A aj.c aj.l (fun i=>[.int .i32 (((aj.f i).f 0).n),.int .i32 (((aj.f i).f 1).n),.int .i64 (((aj.f i).f 2).n),.map ((aj.f i).m)]) ∧ aj.l ≤ 1000000 ∧ ∀ i,i < aj.l → qaA w F (aj.f i)) ∧ (aj.l = (lst (aa.at_ 1)).length ∧ ∀ i,i < aj.l → qaF v (aj.f i) ((lst (aa.at_ 1)).getD i .zero))) ∧ RS w (fun b o=>b = bv ∧ o < 4) F 156 cV [⟨bv,0,[.int .i16 v,.string (bs (T.at_ 0).S),.slice none 0 0,.map none],true⟩,qbC ab 18 (.agg #[.int .u8 0,.int .u8 0,.int .u8 0,.int .u8 0,.int .u8 0,.int .u8 0,.int .u8 0,.int .u8 0,.int .u8 0,.int .u8 0,.int .u8 0,.int .u8 0,.int .u8 0,.int .u8 0,.int .u8 0,.int .u8 0,.slice none 0 0,.map none]) ((lst (T.at_ 1)).length) (ac + 1),⟨ab,ac * 18,[qaf ((qah (aa.at_ 0).S).getD 0 0),qaf ((qah (aa.at_ 0).S).getD 1 0),qaf ((qah (aa.at_ 0).S).getD 2 0),qaf ((qah (aa.at_ 0).S).getD 3 0),qaf ((qah (aa.at_ 0).S).getD 4 0),qaf ((qah (aa.at_ 0).S).getD 5 0),qaf ((qah (aa.at_ 0).S).getD 6 0),qaf ((qah (aa.at_ 0).S).getD 7 0),qaf ((qah (aa.at_ 0).S).getD 8 0),qaf ((qah (aa.at_ 0).S).getD 9 0),qaf ((qah (aa.at_ 0).S).getD 10 0),qaf ((qah (aa.at_ 0).S).getD 11 0),qaf ((qah (aa.at_ 0).S).getD 12 0),qaf ((qah (aa.at_ 0).S).getD 13 0),qaf ((qah (aa.at_ 0).S).getD 14 0),qaf ((qah (aa.at_ 0).S).getD 15 0),.slice none 0 0,.map none],true⟩] [(7,.p 0 0),(9,.v (.bool (decide (v ≥ 0)))),(10,.p 1 0),(13,.v (.slice (some ⟨ab,0,none⟩) ((lst (T.at_ 1)).length) ag)),(14,.v (.int .i32 (((lst (T.at_ 1)).length:Nat):Int))),(15,.v (.int .i32 ((ac:Nat):Int))),(17,.p 3 0),(20,.v (.slice aj.A aj.l aj.c))] P' aR a_ w_) ?_ ?_
    ·
     refine wp_seq ?_
     refine qcf [(7,.p 0 0),(9,.v (.bool (decide (v ≥ 0)))),(10,.p 1 0),(13,.v (.slice (some ⟨ab,0,none⟩) ((lst (T.at_ 1)).length) ag)),(14,.v (.int .i32 (((lst (T.at_ 1)).length:Nat):Int))),(15,.v (.int .i32 ((ac:Nat):Int))),(17,.p 3 0),(20,.v (.slice none 0 0)),(21,.v (.int .i32 (((lst (aa.at_ 1)).length:Nat):Int))),(100,.v (.bool (decide ((((lst (aa.at_ 1)).length:Nat):Int) > 0))))] bg fun _ ap=>qab ?_
     clear bg
     refine qaC ap.env_ (b:=decide ((((lst (aa.at_ 1)).length:Nat):Int) > 0)) kz (fun aC=>?_) (fun aC=>?_)
     ·
      have hn_g121:0 < (lst (aa.at_ 1)).length:=by have h_:=of_decide_eq_true aC; omega
      refine qau [0,1,2,3] kz ?_
      refine qdk [0,1] [2,3] [(7,.p 0 0),(9,.v (.bool (decide (v ≥ 0)))),(10,.p 1 0),(13,.v (.slice (some ⟨ab,0,none⟩) ((lst (T.at_ 1)).length) ag)),(14,.v (.int .i32 (((lst (T.at_ 1)).length:Nat):Int))),(15,.v (.int .i32 ((ac:Nat):Int))),(17,.p 3 0),(21,.v (.int .i32 (((lst (aa.at_ 1)).length:Nat):Int))),(101,.v (.slice none 0 0)),(102,.v (.int .i32 (((lst (aa.at_ 1)).length:Nat):Int)))] ap fun _ bh=>?_
      clear ap
      refine qao (qfK (A0:=none) (d:=103) (t:=181) (tn:=21) (e:=186) (size:=4) (bytes:=24) (k:=.i32) (kn:=.i32) (q:=(((lst (aa.at_ 1)).length:Nat):Int)) (j:=(lst (aa.at_ 1)).length) (.agg #[.int .i32 0,.int .i32 0,.int .i64 0,.map none]) bh (fun ae ah _ _ hg_g121 hcap_g121 bi=>?_) rfl hn_g121 (by have:=e80_1; omega))
      clear bh
      refine qdk [3] [] [(7,.p 0 0),(9,.v (.bool (decide (v ≥ 0)))),(10,.p 1 0),(13,.v (.slice (some ⟨ab,0,none⟩) ((lst (T.at_ 1)).length) ag)),(14,.v (.int .i32 (((lst (T.at_ 1)).length:Nat):Int))),(15,.v (.int .i32 ((ac:Nat):Int))),(17,.p 3 0),(20,.v (.slice (some ⟨ae,0,none⟩) ((lst (aa.at_ 1)).length) ah)),(21,.v (.int .i32 (((lst (aa.at_ 1)).length:Nat):Int)))] bi fun _ bj=>qag ?_
      clear bi
      refine qab ?_
      refine wp_seq ?_
      refine qcf [(7,.p 0 0),(9,.v (.bool (decide (v ≥ 0)))),(10,.p 1 0),(13,.v (.slice (some ⟨ab,0,none⟩) ((lst (T.at_ 1)).length) ag)),(14,.v (.int .i32 (((lst (T.at_ 1)).length:Nat):Int))),(15,.v (.int .i32 ((ac:Nat):Int))),(17,.p 3 0),(20,.v (.slice (some ⟨ae,0,none⟩) ((lst (aa.at_ 1)).length) ah)),(21,.v (.int .i32 (((lst (aa.at_ 1)).length:Nat):Int))),(22,.v (.int .i32 0))] bj fun _ aG=>?_
      clear bj
      refine qab ?_
      refine wp_block ?_
      have aH:=aG.mv
      have d6:=(aG.cast (t:=(lst (aa.at_ 1)).flatMap (qaq v) ++ aR) rfl).pk (env':=[(7,.p 0 0),(9,.v (.bool (decide (v ≥ 0)))),(10,.p 1 0),(13,.v (.slice (some ⟨ab,0,none⟩) ((lst (T.at_ 1)).length) ag)),(14,.v (.int .i32 (((lst (T.at_ 1)).length:Nat):Int))),(15,.v (.int .i32 ((ac:Nat):Int))),(17,.p 3 0),(20,.v (.slice (some ⟨ae,0,none⟩) ((lst (aa.at_ 1)).length) ah)),(21,.v (.int .i32 (((lst (aa.at_ 1)).length:Nat):Int))),(22,.v (.int .i32 ((0:Nat):Int)))])
      clear aG
      refine qjI (tb:=[⟨bv,0,[.int .i16 v,.string (bs (T.at_ 0).S),.slice none 0 0,.map none],true⟩,qbC ab 18 (.agg #[.int .u8 0,.int .u8 0,.int .u8 0,.int .u8 0,.int .u8 0,.int .u8 0,.int .u8 0,.int .u8 0,.int .u8 0,.int .u8 0,.int .u8 0,.int .u8 0,.int .u8 0,.int .u8 0,.int .u8 0,.int .u8 0,.slice none 0 0,.map none]) ((lst (T.at_ 1)).length) (ac + 1),⟨ab,ac * 18,[qaf ((qah (aa.at_ 0).S).getD 0 0),qaf ((qah (aa.at_ 0).S).getD 1 0),qaf ((qah (aa.at_ 0).S).getD 2 0),qaf ((qah (aa.at_ 0).S).getD 3 0),qaf ((qah (aa.at_ 0).S).getD 4 0),qaf ((qah (aa.at_ 0).S).getD 5 0),qaf ((qah (aa.at_ 0).S).getD 6 0),qaf ((qah (aa.at_ 0).S).getD 7 0),qaf ((qah (aa.at_ 0).S).getD 8 0),qaf ((qah (aa.at_ 0).S).getD 9 0),qaf ((qah (aa.at_ 0).S).getD 10 0),qaf ((qah (aa.at_ 0).S).getD 11 0),qaf ((qah (aa.at_ 0).S).getD 12 0),qaf ((qah (aa.at_ 0).S).getD 13 0),qaf ((qah (aa.at_ 0).S).getD 14 0),qaf ((qah (aa.at_ 0).S).getD 15 0),.slice none 0 0,.map none],true⟩]) (z:=.agg #[.int .i32 0,.int .i32 0,.int .i64 0,.map none]) (cl:=qbq) (ok:=qaA) (rel:=(qaF v)) (L:=lst (aa.at_ 1)) (size:=4) (qaq v) aR (fun k=>[(7,.p 0 0),(9,.v (.bool (decide (v ≥ 0)))),(10,.p 1 0),(13,.v (.slice (some ⟨ab,0,none⟩) ((lst (T.at_ 1)).length) ag)),(14,.v (.int .i32 (((lst (T.at_ 1)).length:Nat):Int))),(15,.v (.int .i32 ((ac:Nat):Int))),(17,.p 3 0),(20,.v (.slice (some ⟨ae,0,none⟩) ((lst (aa.at_ 1)).length) ah)),(21,.v (.int .i32 (((lst (aa.at_ 1)).length:Nat):Int))),(22,.v (.int .i32 ((k:Nat):Int)))]) d6 qaU (fun af ai _ _ aI d7 bk=>?_) (fun _ _ bn=>?_)
      ·
       obtain ⟨eC,bo,bp⟩:∃ P',(∀ w F,P' w F → (eL w F ∧ qfr ae 4 qbq qaA (qaF v) (lst (aa.at_ 1)) af w F)) ∧ RS w (fun b o=>b = bv ∧ o < 4) F 156 cV [⟨bv,0,[.int .i16 v,.string (bs (T.at_ 0).S),.slice none 0 0,.map none],true⟩,qbC ab 18 (.agg #[.int .u8 0,.int .u8 0,.int .u8 0,.int .u8 0,.int .u8 0,.int .u8 0,.int .u8 0,.int .u8 0,.int .u8 0,.int .u8 0,.int .u8 0,.int .u8 0,.int .u8 0,.int .u8 0,.int .u8 0,.int .u8 0,.slice none 0 0,.map none]) ((lst (T.at_ 1)).length) (ac + 1),⟨ab,ac * 18,[qaf ((qah (aa.at_ 0).S).getD 0 0),qaf ((qah (aa.at_ 0).S).getD 1 0),qaf ((qah (aa.at_ 0).S).getD 2 0),qaf ((qah (aa.at_ 0).S).getD 3 0),qaf ((qah (aa.at_ 0).S).getD 4 0),qaf ((qah (aa.at_ 0).S).getD 5 0),qaf ((qah (aa.at_ 0).S).getD 6 0),qaf ((qah (aa.at_ 0).S).getD 7 0),qaf ((qah (aa.at_ 0).S).getD 8 0),qaf ((qah (aa.at_ 0).S).getD 9 0),qaf ((qah (aa.at_ 0).S).getD 10 0),qaf ((qah (aa.at_ 0).S).getD 11 0),qaf ((qah (aa.at_ 0).S).getD 12 0),qaf ((qah (aa.at_ 0).S).getD 13 0),qaf ((qah (aa.at_ 0).S).getD 14 0),qaf ((qah (aa.at_ 0).S).getD 15 0),.slice none 0 0,.map none],true⟩,qbC ae 4 (.agg #[.int .i32 0,.int .i32 0,.int .i64 0,.map none]) ((lst (aa.at_ 1)).length) af] [(7,.p 0 0),(9,.v (.bool (decide (v ≥ 0)))),(10,.p 1 0),(13,.v (.slice (some ⟨ab,0,none⟩) ((lst (T.at_ 1)).length) ag)),(14,.v (.int .i32 (((lst (T.at_ 1)).length:Nat):Int))),(15,.v (.int .i32 ((ac:Nat):Int))),(17,.p 3 0),(20,.v (.slice (some ⟨ae,0,none⟩) ((lst (aa.at_ 1)).length) ah)),(21,.v (.int .i32 (((lst (aa.at_ 1)).length:Nat):Int))),(22,.v (.int .i32 ((af:Nat):Int)))] P' ((qaq v) ai ++ (((lst (aa.at_ 1)).drop (af + 1)).flatMap (qaq v) ++ aR)) _ _:=⟨_,fun _ _ h=>h,bk⟩
       clear bk
       obtain ⟨aJ,bq⟩:∃ R,R = ((lst (aa.at_ 1)).drop (af + 1)).flatMap (qaq v) ++ aR:=⟨_,rfl⟩
       have d8:=(e80_1e ai (List.mem_of_getElem? aI))
       have e140r:=(qfI (qfm e80r 1) ai (List.mem_of_getElem? aI))
       unfold qaT at d8
       obtain ⟨e140_0,e140_1,e140_2,e140_U,_⟩:=d8
       obtain ⟨eD,bt⟩:∃ R,R = (if (decide (v ≥ 0)) = true then (uv ai.U.length) ++ (qby ai.U) else []) ++ aJ:=⟨_,rfl⟩
       obtain ⟨eE,bu⟩:∃ R,R = (be 8 ((ai.at_ 2).N)) ++ eD:=⟨_,rfl⟩
       obtain ⟨eF,bw⟩:∃ R,R = (be 4 ((IntKind.i32.wrap (ai.at_ 1).N))) ++ eE:=⟨_,rfl⟩
       obtain ⟨eG,bx⟩:∃ R,R = (be 4 ((IntKind.i32.wrap (ai.at_ 0).N))) ++ eF:=⟨_,rfl⟩
       have bz:=bp.cast (t:=eG) (by rw [bx,bw,bu,bt,← bq]; unfold qaq; simp only [List.append_assoc])
       clear bp
       refine wp_seq ?_
       refine wp_seq ?_
       refine qcf [(7,.p 0 0),(9,.v (.bool (decide (v ≥ 0)))),(10,.p 1 0),(13,.v (.slice (some ⟨ab,0,none⟩) ((lst (T.at_ 1)).length) ag)),(14,.v (.int .i32 (((lst (T.at_ 1)).length:Nat):Int))),(15,.v (.int .i32 ((ac:Nat):Int))),(17,.p 3 0),(20,.v (.slice (some ⟨ae,0,none⟩) ((lst (aa.at_ 1)).length) ah)),(21,.v (.int .i32 (((lst (aa.at_ 1)).length:Nat):Int))),(22,.v (.int .i32 ((af:Nat):Int))),(106,.v (.bool (decide (((af:Nat):Int) < (((lst (aa.at_ 1)).length:Nat):Int)))))] bz fun _ aK=>qab ?_
       clear bz
       refine qbR aK.env_ (b:=decide (((af:Nat):Int) < (((lst (aa.at_ 1)).length:Nat):Int))) kz (decide_eq_true (by omega)) ?_
       refine wp_skip ?_
       refine qab ?_
       refine wp_seq ?_
       refine wp_block ?_
       refine wp_seq ?_
       refine qjN (t:=181) (e:=186) (size:=4) (bytes:=24) (d:=111) (tb:=[⟨bv,0,[.int .i16 v,.string (bs (T.at_ 0).S),.slice none 0 0,.map none],true⟩,qbC ab 18 (.agg #[.int .u8 0,.int .u8 0,.int .u8 0,.int .u8 0,.int .u8 0,.int .u8 0,.int .u8 0,.int .u8 0,.int .u8 0,.int .u8 0,.int .u8 0,.int .u8 0,.int .u8 0,.int .u8 0,.int .u8 0,.int .u8 0,.slice none 0 0,.map none]) ((lst (T.at_ 1)).length) (ac + 1),⟨ab,ac * 18,[qaf ((qah (aa.at_ 0).S).getD 0 0),qaf ((qah (aa.at_ 0).S).getD 1 0),qaf ((qah (aa.at_ 0).S).getD 2 0),qaf ((qah (aa.at_ 0).S).getD 3 0),qaf ((qah (aa.at_ 0).S).getD 4 0),qaf ((qah (aa.at_ 0).S).getD 5 0),qaf ((qah (aa.at_ 0).S).getD 6 0),qaf ((qah (aa.at_ 0).S).getD 7 0),qaf ((qah (aa.at_ 0).S).getD 8 0),qaf ((qah (aa.at_ 0).S).getD 9 0),qaf ((qah (aa.at_ 0).S).getD 10 0),qaf ((qah (aa.at_ 0).S).getD 11 0),qaf ((qah (aa.at_ 0).S).getD 12 0),qaf ((qah (aa.at_ 0).S).getD 13 0),qaf ((qah (aa.at_ 0).S).getD 14 0),qaf ((qah (aa.at_ 0).S).getD 15 0),.slice none 0 0,.map none],true⟩]) (z:=.agg #[.int .i32 0,.int .i32 0,.int .i64 0,.map none]) [(7,.p 0 0),(9,.v (.bool (decide (v ≥ 0)))),(10,.p 1 0),(13,.v (.slice (some ⟨ab,0,none⟩) ((lst (T.at_ 1)).length) ag)),(14,.v (.int .i32 (((lst (T.at_ 1)).length:Nat):Int))),(15,.v (.int .i32 ((ac:Nat):Int))),(17,.p 3 0),(20,.v (.slice (some ⟨ae,0,none⟩) ((lst (aa.at_ 1)).length) ah)),(21,.v (.int .i32 (((lst (aa.at_ 1)).length:Nat):Int))),(22,.v (.int .i32 ((af:Nat):Int))),(109,.v (.slice (some ⟨ae,0,none⟩) ((lst (aa.at_ 1)).length) ah)),(110,.v (.int .i32 ((af:Nat):Int)))] [(7,.p 0 0),(9,.v (.bool (decide (v ≥ 0)))),(10,.p 1 0),(13,.v (.slice (some ⟨ab,0,none⟩) ((lst (T.at_ 1)).length) ag)),(14,.v (.int .i32 (((lst (T.at_ 1)).length:Nat):Int))),(15,.v (.int .i32 ((ac:Nat):Int))),(17,.p 3 0),(20,.v (.slice (some ⟨ae,0,none⟩) ((lst (aa.at_ 1)).length) ah)),(21,.v (.int .i32 (((lst (aa.at_ 1)).length:Nat):Int))),(22,.v (.int .i32 ((af:Nat):Int))),(23,.p 5 0)] 2 aK d7 rfl kz fun _ bA=>?_
       clear aK
       have bB:=bA.tbEq (tb':=[⟨bv,0,[.int .i16 v,.string (bs (T.at_ 0).S),.slice none 0 0,.map none],true⟩,qbC ab 18 (.agg #[.int .u8 0,.int .u8 0,.int .u8 0,.int .u8 0,.int .u8 0,.int .u8 0,.int .u8 0,.int .u8 0,.int .u8 0,.int .u8 0,.int .u8 0,.int .u8 0,.int .u8 0,.int .u8 0,.int .u8 0,.int .u8 0,.slice none 0 0,.map none]) ((lst (T.at_ 1)).length) (ac + 1),⟨ab,ac * 18,[qaf ((qah (aa.at_ 0).S).getD 0 0),qaf ((qah (aa.at_ 0).S).getD 1 0),qaf ((qah (aa.at_ 0).S).getD 2 0),qaf ((qah (aa.at_ 0).S).getD 3 0),qaf ((qah (aa.at_ 0).S).getD 4 0),qaf ((qah (aa.at_ 0).S).getD 5 0),qaf ((qah (aa.at_ 0).S).getD 6 0),qaf ((qah (aa.at_ 0).S).getD 7 0),qaf ((qah (aa.at_ 0).S).getD 8 0),qaf ((qah (aa.at_ 0).S).getD 9 0),qaf ((qah (aa.at_ 0).S).getD 10 0),qaf ((qah (aa.at_ 0).S).getD 11 0),qaf ((qah (aa.at_ 0).S).getD 12 0),qaf ((qah (aa.at_ 0).S).getD 13 0),qaf ((qah (aa.at_ 0).S).getD 14 0),qaf ((qah (aa.at_ 0).S).getD 15 0),.slice none 0 0,.map none],true⟩,qbC ae 4 (.agg #[.int .i32 0,.int .i32 0,.int .i64 0,.map none]) ((lst (aa.at_ 1)).length) (af + 1),⟨ae,af * 4,[.int .i32 0,.int .i32 0,.int .i64 0,.map none],true⟩]) rfl
       clear bA
       refine qab ?_
       refine wp_seq ?_
       refine qau [0,1] kz ?_
       refine qdk [0] [1] [(7,.p 0 0),(9,.v (.bool (decide (v ≥ 0)))),(10,.p 1 0),(13,.v (.slice (some ⟨ab,0,none⟩) ((lst (T.at_ 1)).length) ag)),(14,.v (.int .i32 (((lst (T.at_ 1)).length:Nat):Int))),(15,.v (.int .i32 ((ac:Nat):Int))),(17,.p 3 0),(20,.v (.slice (some ⟨ae,0,none⟩) ((lst (aa.at_ 1)).length) ah)),(21,.v (.int .i32 (((lst (aa.at_ 1)).length:Nat):Int))),(22,.v (.int .i32 ((af:Nat):Int))),(23,.p 5 0),(112,.p 5 0)] bB fun _ bC=>?_
       clear bB
       refine qao (qkK (d:=113) (vs:=[.pointer (some ⟨ae,af * 4,none⟩)]) bC (fun _=>ql7 _ _ _) Tryz.call147 fun _ bD=>?_)
       clear bC
       refine qag ?_
       have bE:=bD.pk (env':=[(7,.p 0 0),(9,.v (.bool (decide (v ≥ 0)))),(10,.p 1 0),(13,.v (.slice (some ⟨ab,0,none⟩) ((lst (T.at_ 1)).length) ag)),(14,.v (.int .i32 (((lst (T.at_ 1)).length:Nat):Int))),(15,.v (.int .i32 ((ac:Nat):Int))),(17,.p 3 0),(20,.v (.slice (some ⟨ae,0,none⟩) ((lst (aa.at_ 1)).length) ah)),(21,.v (.int .i32 (((lst (aa.at_ 1)).length:Nat):Int))),(22,.v (.int .i32 ((af:Nat):Int))),(23,.p 5 0)])
       clear bD
       refine qab ?_
       refine wp_seq ?_
       refine qcf [(7,.p 0 0),(9,.v (.bool (decide (v ≥ 0)))),(10,.p 1 0),(13,.v (.slice (some ⟨ab,0,none⟩) ((lst (T.at_ 1)).length) ag)),(14,.v (.int .i32 (((lst (T.at_ 1)).length:Nat):Int))),(15,.v (.int .i32 ((ac:Nat):Int))),(17,.p 3 0),(20,.v (.slice (some ⟨ae,0,none⟩) ((lst (aa.at_ 1)).length) ah)),(21,.v (.int .i32 (((lst (aa.at_ 1)).length:Nat):Int))),(22,.v (.int .i32 ((af:Nat):Int))),(24,.p 5 0)] bE fun _ bF=>?_
       clear bE
       refine qab ?_
       refine wp_seq ?_
       refine wp_seq ?_
       have bG:=bF.cast bx
       clear bF
       refine qfJ (d:=115) [(7,.p 0 0),(9,.v (.bool (decide (v ≥ 0)))),(10,.p 1 0),(13,.v (.slice (some ⟨ab,0,none⟩) ((lst (T.at_ 1)).length) ag)),(14,.v (.int .i32 (((lst (T.at_ 1)).length:Nat):Int))),(15,.v (.int .i32 ((ac:Nat):Int))),(17,.p 3 0),(20,.v (.slice (some ⟨ae,0,none⟩) ((lst (aa.at_ 1)).length) ah)),(21,.v (.int .i32 (((lst (aa.at_ 1)).length:Nat):Int))),(22,.v (.int .i32 ((af:Nat):Int))),(24,.p 5 0),(25,.v (.int .i32 (IntKind.i32.wrap (ai.at_ 0).N)))] bG (qkL _ _) Tryz.call117 fun _ _ bH=>?_
       clear bG
       refine qab ?_
       refine qfn [⟨bv,0,[.int .i16 v,.string (bs (T.at_ 0).S),.slice none 0 0,.map none],true⟩,qbC ab 18 (.agg #[.int .u8 0,.int .u8 0,.int .u8 0,.int .u8 0,.int .u8 0,.int .u8 0,.int .u8 0,.int .u8 0,.int .u8 0,.int .u8 0,.int .u8 0,.int .u8 0,.int .u8 0,.int .u8 0,.int .u8 0,.int .u8 0,.slice none 0 0,.map none]) ((lst (T.at_ 1)).length) (ac + 1),⟨ab,ac * 18,[qaf ((qah (aa.at_ 0).S).getD 0 0),qaf ((qah (aa.at_ 0).S).getD 1 0),qaf ((qah (aa.at_ 0).S).getD 2 0),qaf ((qah (aa.at_ 0).S).getD 3 0),qaf ((qah (aa.at_ 0).S).getD 4 0),qaf ((qah (aa.at_ 0).S).getD 5 0),qaf ((qah (aa.at_ 0).S).getD 6 0),qaf ((qah (aa.at_ 0).S).getD 7 0),qaf ((qah (aa.at_ 0).S).getD 8 0),qaf ((qah (aa.at_ 0).S).getD 9 0),qaf ((qah (aa.at_ 0).S).getD 10 0),qaf ((qah (aa.at_ 0).S).getD 11 0),qaf ((qah (aa.at_ 0).S).getD 12 0),qaf ((qah (aa.at_ 0).S).getD 13 0),qaf ((qah (aa.at_ 0).S).getD 14 0),qaf ((qah (aa.at_ 0).S).getD 15 0),.slice none 0 0,.map none],true⟩,qbC ae 4 (.agg #[.int .i32 0,.int .i32 0,.int .i64 0,.map none]) ((lst (aa.at_ 1)).length) (af + 1),⟨ae,af * 4,[.int .i32 (IntKind.i32.wrap (ai.at_ 0).N),.int .i32 0,.int .i64 0,.map none],true⟩] 4 [(7,.p 0 0),(9,.v (.bool (decide (v ≥ 0)))),(10,.p 1 0),(13,.v (.slice (some ⟨ab,0,none⟩) ((lst (T.at_ 1)).length) ag)),(14,.v (.int .i32 (((lst (T.at_ 1)).length:Nat):Int))),(15,.v (.int .i32 ((ac:Nat):Int))),(17,.p 3 0),(20,.v (.slice (some ⟨ae,0,none⟩) ((lst (aa.at_ 1)).length) ah)),(21,.v (.int .i32 (((lst (aa.at_ 1)).length:Nat):Int))),(22,.v (.int .i32 ((af:Nat):Int))),(24,.p 5 0)] bH fun _ _ bI=>?_
       clear bH
       refine qab ?_
       refine wp_seq ?_
       refine wp_seq ?_
       have bJ:=bI.cast bw
       clear bI
       refine qfJ (d:=120) [(7,.p 0 0),(9,.v (.bool (decide (v ≥ 0)))),(10,.p 1 0),(13,.v (.slice (some ⟨ab,0,none⟩) ((lst (T.at_ 1)).length) ag)),(14,.v (.int .i32 (((lst (T.at_ 1)).length:Nat):Int))),(15,.v (.int .i32 ((ac:Nat):Int))),(17,.p 3 0),(20,.v (.slice (some ⟨ae,0,none⟩) ((lst (aa.at_ 1)).length) ah)),(21,.v (.int .i32 (((lst (aa.at_ 1)).length:Nat):Int))),(22,.v (.int .i32 ((af:Nat):Int))),(24,.p 5 0),(26,.v (.int .i32 (IntKind.i32.wrap (ai.at_ 1).N)))] bJ (qkL _ _) Tryz.call117 fun _ _ bK=>?_
       clear bJ
       refine qab ?_
       refine qfn [⟨bv,0,[.int .i16 v,.string (bs (T.at_ 0).S),.slice none 0 0,.map none],true⟩,qbC ab 18 (.agg #[.int .u8 0,.int .u8 0,.int .u8 0,.int .u8 0,.int .u8 0,.int .u8 0,.int .u8 0,.int .u8 0,.int .u8 0,.int .u8 0,.int .u8 0,.int .u8 0,.int .u8 0,.int .u8 0,.int .u8 0,.int .u8 0,.slice none 0 0,.map none]) ((lst (T.at_ 1)).length) (ac + 1),⟨ab,ac * 18,[qaf ((qah (aa.at_ 0).S).getD 0 0),qaf ((qah (aa.at_ 0).S).getD 1 0),qaf ((qah (aa.at_ 0).S).getD 2 0),qaf ((qah (aa.at_ 0).S).getD 3 0),qaf ((qah (aa.at_ 0).S).getD 4 0),qaf ((qah (aa.at_ 0).S).getD 5 0),qaf ((qah (aa.at_ 0).S).getD 6 0),qaf ((qah (aa.at_ 0).S).getD 7 0),qaf ((qah (aa.at_ 0).S).getD 8 0),qaf ((qah (aa.at_ 0).S).getD 9 0),qaf ((qah (aa.at_ 0).S).getD 10 0),qaf ((qah (aa.at_ 0).S).getD 11 0),qaf ((qah (aa.at_ 0).S).getD 12 0),qaf ((qah (aa.at_ 0).S).getD 13 0),qaf ((qah (aa.at_ 0).S).getD 14 0),qaf ((qah (aa.at_ 0).S).getD 15 0),.slice none 0 0,.map none],true⟩,qbC ae 4 (.agg #[.int .i32 0,.int .i32 0,.int .i64 0,.map none]) ((lst (aa.at_ 1)).length) (af + 1),⟨ae,af * 4,[.int .i32 (IntKind.i32.wrap (ai.at_ 0).N),.int .i32 (IntKind.i32.wrap (ai.at_ 1).N),.int .i64 0,.map none],true⟩] 4 [(7,.p 0 0),(9,.v (.bool (decide (v ≥ 0)))),(10,.p 1 0),(13,.v (.slice (some ⟨ab,0,none⟩) ((lst (T.at_ 1)).length) ag)),(14,.v (.int .i32 (((lst (T.at_ 1)).length:Nat):Int))),(15,.v (.int .i32 ((ac:Nat):Int))),(17,.p 3 0),(20,.v (.slice (some ⟨ae,0,none⟩) ((lst (aa.at_ 1)).length) ah)),(21,.v (.int .i32 (((lst (aa.at_ 1)).length:Nat):Int))),(22,.v (.int .i32 ((af:Nat):Int))),(24,.p 5 0)] bK fun _ _ bL=>?_
       clear bK
       refine qab ?_
       refine wp_seq ?_
       refine wp_seq ?_
       have bM:=bL.cast bu
       clear bL
       refine qfJ (d:=125) [(7,.p 0 0),(9,.v (.bool (decide (v ≥ 0)))),(10,.p 1 0),(13,.v (.slice (some ⟨ab,0,none⟩) ((lst (T.at_ 1)).length) ag)),(14,.v (.int .i32 (((lst (T.at_ 1)).length:Nat):Int))),(15,.v (.int .i32 ((ac:Nat):Int))),(17,.p 3 0),(20,.v (.slice (some ⟨ae,0,none⟩) ((lst (aa.at_ 1)).length) ah)),(21,.v (.int .i32 (((lst (aa.at_ 1)).length:Nat):Int))),(22,.v (.int .i32 ((af:Nat):Int))),(24,.p 5 0),(27,.v (.int .i64 (IntKind.i64.wrap (ai.at_ 2).N)))] bM (ql1 _ _) Tryz.call122 fun _ _ bN=>?_
       clear bM
       refine qab ?_
       refine qfn [⟨bv,0,[.int .i16 v,.string (bs (T.at_ 0).S),.slice none 0 0,.map none],true⟩,qbC ab 18 (.agg #[.int .u8 0,.int .u8 0,.int .u8 0,.int .u8 0,.int .u8 0,.int .u8 0,.int .u8 0,.int .u8 0,.int .u8 0,.int .u8 0,.int .u8 0,.int .u8 0,.int .u8 0,.int .u8 0,.int .u8 0,.int .u8 0,.slice none 0 0,.map none]) ((lst (T.at_ 1)).length) (ac + 1),⟨ab,ac * 18,[qaf ((qah (aa.at_ 0).S).getD 0 0),qaf ((qah (aa.at_ 0).S).getD 1 0),qaf ((qah (aa.at_ 0).S).getD 2 0),qaf ((qah (aa.at_ 0).S).getD 3 0),qaf ((qah (aa.at_ 0).S).getD 4 0),qaf ((qah (aa.at_ 0).S).getD 5 0),qaf ((qah (aa.at_ 0).S).getD 6 0),qaf ((qah (aa.at_ 0).S).getD 7 0),qaf ((qah (aa.at_ 0).S).getD 8 0),qaf ((qah (aa.at_ 0).S).getD 9 0),qaf ((qah (aa.at_ 0).S).getD 10 0),qaf ((qah (aa.at_ 0).S).getD 11 0),qaf ((qah (aa.at_ 0).S).getD 12 0),qaf ((qah (aa.at_ 0).S).getD 13 0),qaf ((qah (aa.at_ 0).S).getD 14 0),qaf ((qah (aa.at_ 0).S).getD 15 0),.slice none 0 0,.map none],true⟩,qbC ae 4 (.agg #[.int .i32 0,.int .i32 0,.int .i64 0,.map none]) ((lst (aa.at_ 1)).length) (af + 1),⟨ae,af * 4,[.int .i32 (IntKind.i32.wrap (ai.at_ 0).N),.int .i32 (IntKind.i32.wrap (ai.at_ 1).N),.int .i64 (IntKind.i64.wrap (ai.at_ 2).N),.map none],true⟩] 4 [(7,.p 0 0),(9,.v (.bool (decide (v ≥ 0)))),(10,.p 1 0),(13,.v (.slice (some ⟨ab,0,none⟩) ((lst (T.at_ 1)).length) ag)),(14,.v (.int .i32 (((lst (T.at_ 1)).length:Nat):Int))),(15,.v (.int .i32 ((ac:Nat):Int))),(17,.p 3 0),(20,.v (.slice (some ⟨ae,0,none⟩) ((lst (aa.at_ 1)).length) ah)),(21,.v (.int .i32 (((lst (aa.at_ 1)).length:Nat):Int))),(22,.v (.int .i32 ((af:Nat):Int))),(24,.p 5 0)] bN fun _ _ bO=>?_
       clear bN
       refine qab ?_
       have bP:=bO.cast bt
       clear bO
       refine qgg (Mid:=fun a_ w_=>∃ (aM:Option Nat) (az:List (Int × Bs)) (P':qcT),(∀ w F,P' w F → eC w F ∧ (MapR w F aM az ∧ az.length ≤ 1000000 ∧ ∀ x ∈ az,x.2.length < 4294967296) ∧ ((decide (v ≥ 0)) = true → az = ai.U) ∧ ((decide (v ≥ 0)) = false → az = [])) ∧ RS w (fun b o=>b = bv ∧ o < 4) F 156 cV [⟨bv,0,[.int .i16 v,.string (bs (T.at_ 0).S),.slice none 0 0,.map none],true⟩,qbC ab 18 (.agg #[.int .u8 0,.int .u8 0,.int .u8 0,.int .u8 0,.int .u8 0,.int .u8 0,.int .u8 0,.int .u8 0,.int .u8 0,.int .u8 0,.int .u8 0,.int .u8 0,.int .u8 0,.int .u8 0,.int .u8 0,.int .u8 0,.slice none 0 0,.map none]) ((lst (T.at_ 1)).length) (ac + 1),⟨ab,ac * 18,[qaf ((qah (aa.at_ 0).S).getD 0 0),qaf ((qah (aa.at_ 0).S).getD 1 0),qaf ((qah (aa.at_ 0).S).getD 2 0),qaf ((qah (aa.at_ 0).S).getD 3 0),qaf ((qah (aa.at_ 0).S).getD 4 0),qaf ((qah (aa.at_ 0).S).getD 5 0),qaf ((qah (aa.at_ 0).S).getD 6 0),qaf ((qah (aa.at_ 0).S).getD 7 0),qaf ((qah (aa.at_ 0).S).getD 8 0),qaf ((qah (aa.at_ 0).S).getD 9 0),qaf ((qah (aa.at_ 0).S).getD 10 0),qaf ((qah (aa.at_ 0).S).getD 11 0),qaf ((qah (aa.at_ 0).S).getD 12 0),qaf ((qah (aa.at_ 0).S).getD 13 0),qaf ((qah (aa.at_ 0).S).getD 14 0),qaf ((qah (aa.at_ 0).S).getD 15 0),.slice none 0 0,.map none],true⟩,qbC ae 4 (.agg #[.int .i32 0,.int .i32 0,.int .i64 0,.map none]) ((lst (aa.at_ 1)).length) (af + 1),⟨ae,af * 4,[.int .i32 (IntKind.i32.wrap (ai.at_ 0).N),.int .i32 (IntKind.i32.wrap (ai.at_ 1).N),.int .i64 (IntKind.i64.wrap (ai.at_ 2).N),.map aM],true⟩] [(7,.p 0 0),(9,.v (.bool (decide (v ≥ 0)))),(10,.p 1 0),(13,.v (.slice (some ⟨ab,0,none⟩) ((lst (T.at_ 1)).length) ag)),(14,.v (.int .i32 (((lst (T.at_ 1)).length:Nat):Int))),(15,.v (.int .i32 ((ac:Nat):Int))),(17,.p 3 0),(20,.v (.slice (some ⟨ae,0,none⟩) ((lst (aa.at_ 1)).length) ah)),(21,.v (.int .i32 (((lst (aa.at_ 1)).length:Nat):Int))),(22,.v (.int .i32 ((af:Nat):Int)))] P' aJ a_ w_) ?_ ?_
       ·
        refine wp_seq ?_
        refine qcf [(7,.p 0 0),(9,.v (.bool (decide (v ≥ 0)))),(10,.p 1 0),(13,.v (.slice (some ⟨ab,0,none⟩) ((lst (T.at_ 1)).length) ag)),(14,.v (.int .i32 (((lst (T.at_ 1)).length:Nat):Int))),(15,.v (.int .i32 ((ac:Nat):Int))),(17,.p 3 0),(20,.v (.slice (some ⟨ae,0,none⟩) ((lst (aa.at_ 1)).length) ah)),(21,.v (.int .i32 (((lst (aa.at_ 1)).length:Nat):Int))),(22,.v (.int .i32 ((af:Nat):Int))),(24,.p 5 0),(130,.v (.bool (decide (v ≥ 0))))] bP fun _ ar=>qab ?_
        clear bP
        refine qaC ar.env_ (b:=decide (v ≥ 0)) kz (fun au=>?_) (fun au=>?_)
        ·
         have bQ:=ar.cast (t:=((uv ai.U.length) ++ (qby ai.U)) ++ aJ) (by rw [if_pos au])
         clear ar
         refine qau [0,1,2,3,4] kz ?_
         refine qdk [0] [1,2,3,4] [(7,.p 0 0),(9,.v (.bool (decide (v ≥ 0)))),(10,.p 1 0),(13,.v (.slice (some ⟨ab,0,none⟩) ((lst (T.at_ 1)).length) ag)),(14,.v (.int .i32 (((lst (T.at_ 1)).length:Nat):Int))),(15,.v (.int .i32 ((ac:Nat):Int))),(17,.p 3 0),(20,.v (.slice (some ⟨ae,0,none⟩) ((lst (aa.at_ 1)).length) ah)),(21,.v (.int .i32 (((lst (aa.at_ 1)).length:Nat):Int))),(22,.v (.int .i32 ((af:Nat):Int))),(131,.p 5 0)] bQ fun _ bR=>?_
         clear bQ
         refine qao (qhs (d:=132) bR (qlm ai.U e140_U (qe2 e140r) _) (fun _=>MvF.tags _ _) Tryz.call130 fun db eV _ _ bS bT=>?_)
         clear bR
         refine qdk [2,3] [4] [(7,.p 0 0),(9,.v (.bool (decide (v ≥ 0)))),(10,.p 1 0),(13,.v (.slice (some ⟨ab,0,none⟩) ((lst (T.at_ 1)).length) ag)),(14,.v (.int .i32 (((lst (T.at_ 1)).length:Nat):Int))),(15,.v (.int .i32 ((ac:Nat):Int))),(17,.p 3 0),(20,.v (.slice (some ⟨ae,0,none⟩) ((lst (aa.at_ 1)).length) ah)),(21,.v (.int .i32 (((lst (aa.at_ 1)).length:Nat):Int))),(22,.v (.int .i32 ((af:Nat):Int))),(132,.v (.agg #[.map db])),(134,.p 5 3)] bT fun _ bU=>?_
         clear bT
         refine qao (qe3 [⟨bv,0,[.int .i16 v,.string (bs (T.at_ 0).S),.slice none 0 0,.map none],true⟩,qbC ab 18 (.agg #[.int .u8 0,.int .u8 0,.int .u8 0,.int .u8 0,.int .u8 0,.int .u8 0,.int .u8 0,.int .u8 0,.int .u8 0,.int .u8 0,.int .u8 0,.int .u8 0,.int .u8 0,.int .u8 0,.int .u8 0,.int .u8 0,.slice none 0 0,.map none]) ((lst (T.at_ 1)).length) (ac + 1),⟨ab,ac * 18,[qaf ((qah (aa.at_ 0).S).getD 0 0),qaf ((qah (aa.at_ 0).S).getD 1 0),qaf ((qah (aa.at_ 0).S).getD 2 0),qaf ((qah (aa.at_ 0).S).getD 3 0),qaf ((qah (aa.at_ 0).S).getD 4 0),qaf ((qah (aa.at_ 0).S).getD 5 0),qaf ((qah (aa.at_ 0).S).getD 6 0),qaf ((qah (aa.at_ 0).S).getD 7 0),qaf ((qah (aa.at_ 0).S).getD 8 0),qaf ((qah (aa.at_ 0).S).getD 9 0),qaf ((qah (aa.at_ 0).S).getD 10 0),qaf ((qah (aa.at_ 0).S).getD 11 0),qaf ((qah (aa.at_ 0).S).getD 12 0),qaf ((qah (aa.at_ 0).S).getD 13 0),qaf ((qah (aa.at_ 0).S).getD 14 0),qaf ((qah (aa.at_ 0).S).getD 15 0),.slice none 0 0,.map none],true⟩,qbC ae 4 (.agg #[.int .i32 0,.int .i32 0,.int .i64 0,.map none]) ((lst (aa.at_ 1)).length) (af + 1),⟨ae,af * 4,[.int .i32 (IntKind.i32.wrap (ai.at_ 0).N),.int .i32 (IntKind.i32.wrap (ai.at_ 1).N),.int .i64 (IntKind.i64.wrap (ai.at_ 2).N),.map db],true⟩] 4 bU fun _ bV=>?_)
         clear bU
         refine qag ?_
         have d9:=bV.pk (env':=[(7,.p 0 0),(9,.v (.bool (decide (v ≥ 0)))),(10,.p 1 0),(13,.v (.slice (some ⟨ab,0,none⟩) ((lst (T.at_ 1)).length) ag)),(14,.v (.int .i32 (((lst (T.at_ 1)).length:Nat):Int))),(15,.v (.int .i32 ((ac:Nat):Int))),(17,.p 3 0),(20,.v (.slice (some ⟨ae,0,none⟩) ((lst (aa.at_ 1)).length) ah)),(21,.v (.int .i32 (((lst (aa.at_ 1)).length:Nat):Int))),(22,.v (.int .i32 ((af:Nat):Int)))])
         clear bV
         refine qab ?_
         exact ⟨db,ai.U,_,fun w F h_=>⟨(bS _ _ h_).1,⟨(bS _ _ h_).2,e140_U.2.1,e140_U.2.2⟩,⟨fun _=>rfl,(fun e_=>by rw [au] at e_; cases e_)⟩⟩,d9.pk (env':=[(7,.p 0 0),(9,.v (.bool (decide (v ≥ 0)))),(10,.p 1 0),(13,.v (.slice (some ⟨ab,0,none⟩) ((lst (T.at_ 1)).length) ag)),(14,.v (.int .i32 (((lst (T.at_ 1)).length:Nat):Int))),(15,.v (.int .i32 ((ac:Nat):Int))),(17,.p 3 0),(20,.v (.slice (some ⟨ae,0,none⟩) ((lst (aa.at_ 1)).length) ah)),(21,.v (.int .i32 (((lst (aa.at_ 1)).length:Nat):Int))),(22,.v (.int .i32 ((af:Nat):Int)))])⟩
        have bW:=ar.cast (t:=[] ++ aJ) (by rw [if_neg (by rw [au]; decide)])
        clear ar
        have ea:=bW.cast (t:=aJ) rfl
        clear bW
        refine wp_skip (qab ?_)
        exact ⟨none,[],_,fun w F h_=>⟨h_,⟨MapR.nil _ _,Nat.zero_le _,fun _ h=>by cases h⟩,⟨(fun e_=>by rw [au] at e_; cases e_),fun _=>rfl⟩⟩,ea.pk (env':=[(7,.p 0 0),(9,.v (.bool (decide (v ≥ 0)))),(10,.p 1 0),(13,.v (.slice (some ⟨ab,0,none⟩) ((lst (T.at_ 1)).length) ag)),(14,.v (.int .i32 (((lst (T.at_ 1)).length:Nat):Int))),(15,.v (.int .i32 ((ac:Nat):Int))),(17,.p 3 0),(20,.v (.slice (some ⟨ae,0,none⟩) ((lst (aa.at_ 1)).length) ah)),(21,.v (.int .i32 (((lst (aa.at_ 1)).length:Nat):Int))),(22,.v (.int .i32 ((af:Nat):Int)))])⟩
       rintro _ _ ⟨aM,az,eW,am,bX⟩
       refine qaE ?_
       refine qab ?_
       refine qcf [(7,.p 0 0),(9,.v (.bool (decide (v ≥ 0)))),(10,.p 1 0),(13,.v (.slice (some ⟨ab,0,none⟩) ((lst (T.at_ 1)).length) ag)),(14,.v (.int .i32 (((lst (T.at_ 1)).length:Nat):Int))),(15,.v (.int .i32 ((ac:Nat):Int))),(17,.p 3 0),(20,.v (.slice (some ⟨ae,0,none⟩) ((lst (aa.at_ 1)).length) ah)),(21,.v (.int .i32 (((lst (aa.at_ 1)).length:Nat):Int))),(22,.v (.int .i32 (IntKind.i32.wrap (((af:Nat):Int) + 1))))] bX fun _ bY=>?_
       clear bX
       refine qab ?_
       have eb:=(bY.envEq (env':=[(7,.p 0 0),(9,.v (.bool (decide (v ≥ 0)))),(10,.p 1 0),(13,.v (.slice (some ⟨ab,0,none⟩) ((lst (T.at_ 1)).length) ag)),(14,.v (.int .i32 (((lst (T.at_ 1)).length:Nat):Int))),(15,.v (.int .i32 ((ac:Nat):Int))),(17,.p 3 0),(20,.v (.slice (some ⟨ae,0,none⟩) ((lst (aa.at_ 1)).length) ah)),(21,.v (.int .i32 (((lst (aa.at_ 1)).length:Nat):Int))),(22,.v (.int .i32 ((af + 1:Nat):Int)))]) (by rw [qh0 (by have:=e80_1; omega)])).pk (env':=[(7,.p 0 0),(9,.v (.bool (decide (v ≥ 0)))),(10,.p 1 0),(13,.v (.slice (some ⟨ab,0,none⟩) ((lst (T.at_ 1)).length) ag)),(14,.v (.int .i32 (((lst (T.at_ 1)).length:Nat):Int))),(15,.v (.int .i32 ((ac:Nat):Int))),(17,.p 3 0),(20,.v (.slice (some ⟨ae,0,none⟩) ((lst (aa.at_ 1)).length) ah)),(21,.v (.int .i32 (((lst (aa.at_ 1)).length:Nat):Int))),(22,.v (.int .i32 ((af + 1:Nat):Int)))])
       clear bY
       exact (RS.thing (tb:=[⟨bv,0,[.int .i16 v,.string (bs (T.at_ 0).S),.slice none 0 0,.map none],true⟩,qbC ab 18 (.agg #[.int .u8 0,.int .u8 0,.int .u8 0,.int .u8 0,.int .u8 0,.int .u8 0,.int .u8 0,.int .u8 0,.int .u8 0,.int .u8 0,.int .u8 0,.int .u8 0,.int .u8 0,.int .u8 0,.int .u8 0,.int .u8 0,.slice none 0 0,.map none]) ((lst (T.at_ 1)).length) (ac + 1),⟨ab,ac * 18,[qaf ((qah (aa.at_ 0).S).getD 0 0),qaf ((qah (aa.at_ 0).S).getD 1 0),qaf ((qah (aa.at_ 0).S).getD 2 0),qaf ((qah (aa.at_ 0).S).getD 3 0),qaf ((qah (aa.at_ 0).S).getD 4 0),qaf ((qah (aa.at_ 0).S).getD 5 0),qaf ((qah (aa.at_ 0).S).getD 6 0),qaf ((qah (aa.at_ 0).S).getD 7 0),qaf ((qah (aa.at_ 0).S).getD 8 0),qaf ((qah (aa.at_ 0).S).getD 9 0),qaf ((qah (aa.at_ 0).S).getD 10 0),qaf ((qah (aa.at_ 0).S).getD 11 0),qaf ((qah (aa.at_ 0).S).getD 12 0),qaf ((qah (aa.at_ 0).S).getD 13 0),qaf ((qah (aa.at_ 0).S).getD 14 0),qaf ((qah (aa.at_ 0).S).getD 15 0),.slice none 0 0,.map none],true⟩]) (z:=.agg #[.int .i32 0,.int .i32 0,.int .i64 0,.map none]) (D:=(dvP aM az [dvN (IntKind.i32.wrap (ai.at_ 0).N),dvN (IntKind.i32.wrap (ai.at_ 1).N),dvN (IntKind.i64.wrap (ai.at_ 2).N)])) (eb.cast bq) hg_g121 aI qaU aH rfl (fun w F h_=>⟨(bo _ _ (am _ _ h_).1).1,(bo _ _ (am _ _ h_).1).2,⟨(trivial),(trivial),(trivial),(am _ _ h_).2.1.1,(am _ _ h_).2.1.2.1,(am _ _ h_).2.1.2.2,trivial⟩,⟨(rfl),(rfl),(rfl),(am _ _ h_).2.2,trivial⟩⟩) kz)
      refine wp_seq ?_
      refine wp_seq ?_
      refine qcf [(7,.p 0 0),(9,.v (.bool (decide (v ≥ 0)))),(10,.p 1 0),(13,.v (.slice (some ⟨ab,0,none⟩) ((lst (T.at_ 1)).length) ag)),(14,.v (.int .i32 (((lst (T.at_ 1)).length:Nat):Int))),(15,.v (.int .i32 ((ac:Nat):Int))),(17,.p 3 0),(20,.v (.slice (some ⟨ae,0,none⟩) ((lst (aa.at_ 1)).length) ah)),(21,.v (.int .i32 (((lst (aa.at_ 1)).length:Nat):Int))),(22,.v (.int .i32 (((lst (aa.at_ 1)).length:Nat):Int))),(106,.v (.bool (decide ((((lst (aa.at_ 1)).length:Nat):Int) < (((lst (aa.at_ 1)).length:Nat):Int)))))] bn fun _ bZ=>qab ?_
      clear bn
      refine qaw bZ.env_ (b:=decide ((((lst (aa.at_ 1)).length:Nat):Int) < (((lst (aa.at_ 1)).length:Nat):Int))) kz (decide_eq_false (by omega)) ?_
      refine wp_exit ?_
      refine qaz ?_
      refine qaz ?_
      refine qaV ?_
      refine qab ?_
      obtain ⟨eH,ec⟩:=RS.listEnd (tb:=[⟨bv,0,[.int .i16 v,.string (bs (T.at_ 0).S),.slice none 0 0,.map none],true⟩,qbC ab 18 (.agg #[.int .u8 0,.int .u8 0,.int .u8 0,.int .u8 0,.int .u8 0,.int .u8 0,.int .u8 0,.int .u8 0,.int .u8 0,.int .u8 0,.int .u8 0,.int .u8 0,.int .u8 0,.int .u8 0,.int .u8 0,.int .u8 0,.slice none 0 0,.map none]) ((lst (T.at_ 1)).length) (ac + 1),⟨ab,ac * 18,[qaf ((qah (aa.at_ 0).S).getD 0 0),qaf ((qah (aa.at_ 0).S).getD 1 0),qaf ((qah (aa.at_ 0).S).getD 2 0),qaf ((qah (aa.at_ 0).S).getD 3 0),qaf ((qah (aa.at_ 0).S).getD 4 0),qaf ((qah (aa.at_ 0).S).getD 5 0),qaf ((qah (aa.at_ 0).S).getD 6 0),qaf ((qah (aa.at_ 0).S).getD 7 0),qaf ((qah (aa.at_ 0).S).getD 8 0),qaf ((qah (aa.at_ 0).S).getD 9 0),qaf ((qah (aa.at_ 0).S).getD 10 0),qaf ((qah (aa.at_ 0).S).getD 11 0),qaf ((qah (aa.at_ 0).S).getD 12 0),qaf ((qah (aa.at_ 0).S).getD 13 0),qaf ((qah (aa.at_ 0).S).getD 14 0),qaf ((qah (aa.at_ 0).S).getD 15 0),.slice none 0 0,.map none],true⟩]) (c:=ah) (bZ.pk (env':=[(7,.p 0 0),(9,.v (.bool (decide (v ≥ 0)))),(10,.p 1 0),(13,.v (.slice (some ⟨ab,0,none⟩) ((lst (T.at_ 1)).length) ag)),(14,.v (.int .i32 (((lst (T.at_ 1)).length:Nat):Int))),(15,.v (.int .i32 ((ac:Nat):Int))),(17,.p 3 0),(20,.v (.slice (some ⟨ae,0,none⟩) ((lst (aa.at_ 1)).length) ah))])) hg_g121 qaU aH hcap_g121 (by have:=e80_1; omega) hn_g121 kz
      exact ⟨dvL (some ⟨ae,0,none⟩) (lst (aa.at_ 1)).length ah eH,_,fun w F h_=>⟨h_.1,⟨h_.2.1,Nat.le_trans e80_1 (by decide),h_.2.2.1⟩,⟨rfl,h_.2.2.2⟩⟩,ec⟩
     refine wp_skip ?_
     refine qab ?_
     refine wp_seq ?_
     refine qcf [(7,.p 0 0),(9,.v (.bool (decide (v ≥ 0)))),(10,.p 1 0),(13,.v (.slice (some ⟨ab,0,none⟩) ((lst (T.at_ 1)).length) ag)),(14,.v (.int .i32 (((lst (T.at_ 1)).length:Nat):Int))),(15,.v (.int .i32 ((ac:Nat):Int))),(17,.p 3 0),(20,.v (.slice none 0 0)),(21,.v (.int .i32 (((lst (aa.at_ 1)).length:Nat):Int))),(22,.v (.int .i32 0))] ap fun _ b8=>?_
     clear ap
     refine qab ?_
     refine wp_block ?_
     refine qhY ?_
     refine wp_seq ?_
     refine wp_seq ?_
     refine qcf [(7,.p 0 0),(9,.v (.bool (decide (v ≥ 0)))),(10,.p 1 0),(13,.v (.slice (some ⟨ab,0,none⟩) ((lst (T.at_ 1)).length) ag)),(14,.v (.int .i32 (((lst (T.at_ 1)).length:Nat):Int))),(15,.v (.int .i32 ((ac:Nat):Int))),(17,.p 3 0),(20,.v (.slice none 0 0)),(21,.v (.int .i32 (((lst (aa.at_ 1)).length:Nat):Int))),(22,.v (.int .i32 0)),(106,.v (.bool (decide (0 < (((lst (aa.at_ 1)).length:Nat):Int)))))] b8 fun _ cd=>qab ?_
     clear b8
     refine qaw cd.env_ (b:=decide (0 < (((lst (aa.at_ 1)).length:Nat):Int))) kz (decide_eq_false (by have h_:=of_decide_eq_false aC; omega)) ?_
     refine wp_exit ?_
     refine qaz ?_
     refine qaz ?_
     refine qaV ?_
     refine qab ?_
     have hz_:(lst (aa.at_ 1)).length = 0:=by have h_:=of_decide_eq_false aC; omega
     exact ⟨dvL none 0 0 (fun _=>dv0),_,fun w F h_=>⟨h_,⟨Slots.nil _ _ _ _,Nat.zero_le _,fun _ h=>absurd h (Nat.not_lt_zero _)⟩,⟨hz_.symm,fun _ h=>absurd h (Nat.not_lt_zero _)⟩⟩,(cd.cast (t:=aR) (by rw [List.eq_nil_of_length_eq_zero hz_]; rfl)).pk (env':=[(7,.p 0 0),(9,.v (.bool (decide (v ≥ 0)))),(10,.p 1 0),(13,.v (.slice (some ⟨ab,0,none⟩) ((lst (T.at_ 1)).length) ag)),(14,.v (.int .i32 (((lst (T.at_ 1)).length:Nat):Int))),(15,.v (.int .i32 ((ac:Nat):Int))),(17,.p 3 0),(20,.v (.slice none 0 0))])⟩
    rintro _ _ ⟨aj,eI,aD,ce⟩
    refine wp_seq ?_
    refine qcf [(7,.p 0 0),(9,.v (.bool (decide (v ≥ 0)))),(10,.p 1 0),(13,.v (.slice (some ⟨ab,0,none⟩) ((lst (T.at_ 1)).length) ag)),(14,.v (.int .i32 (((lst (T.at_ 1)).length:Nat):Int))),(15,.v (.int .i32 ((ac:Nat):Int))),(17,.p 3 0),(19,.v (.slice aj.A aj.l aj.c))] ce fun _ cg=>?_
    clear ce
    refine qab ?_
    refine qfn [⟨bv,0,[.int .i16 v,.string (bs (T.at_ 0).S),.slice none 0 0,.map none],true⟩,qbC ab 18 (.agg #[.int .u8 0,.int .u8 0,.int .u8 0,.int .u8 0,.int .u8 0,.int .u8 0,.int .u8 0,.int .u8 0,.int .u8 0,.int .u8 0,.int .u8 0,.int .u8 0,.int .u8 0,.int .u8 0,.int .u8 0,.int .u8 0,.slice none 0 0,.map none]) ((lst (T.at_ 1)).length) (ac + 1),⟨ab,ac * 18,[qaf ((qah (aa.at_ 0).S).getD 0 0),qaf ((qah (aa.at_ 0).S).getD 1 0),qaf ((qah (aa.at_ 0).S).getD 2 0),qaf ((qah (aa.at_ 0).S).getD 3 0),qaf ((qah (aa.at_ 0).S).getD 4 0),qaf ((qah (aa.at_ 0).S).getD 5 0),qaf ((qah (aa.at_ 0).S).getD 6 0),qaf ((qah (aa.at_ 0).S).getD 7 0),qaf ((qah (aa.at_ 0).S).getD 8 0),qaf ((qah (aa.at_ 0).S).getD 9 0),qaf ((qah (aa.at_ 0).S).getD 10 0),qaf ((qah (aa.at_ 0).S).getD 11 0),qaf ((qah (aa.at_ 0).S).getD 12 0),qaf ((qah (aa.at_ 0).S).getD 13 0),qaf ((qah (aa.at_ 0).S).getD 14 0),qaf ((qah (aa.at_ 0).S).getD 15 0),.slice aj.A aj.l aj.c,.map none],true⟩] 2 [(7,.p 0 0),(9,.v (.bool (decide (v ≥ 0)))),(10,.p 1 0),(13,.v (.slice (some ⟨ab,0,none⟩) ((lst (T.at_ 1)).length) ag)),(14,.v (.int .i32 (((lst (T.at_ 1)).length:Nat):Int))),(15,.v (.int .i32 ((ac:Nat):Int))),(17,.p 3 0)] cg fun _ _ cm=>?_
    clear cg
    refine qab ?_
    have cq:=cm.cast dO
    clear cm
    refine qgg (Mid:=fun a_ w_=>∃ (aN:Option Nat) (aA:List (Int × Bs)) (P':qcT),(∀ w F,P' w F → eI w F ∧ (MapR w F aN aA ∧ aA.length ≤ 1000000 ∧ ∀ x ∈ aA,x.2.length < 4294967296) ∧ ((decide (v ≥ 0)) = true → aA = aa.U) ∧ ((decide (v ≥ 0)) = false → aA = [])) ∧ RS w (fun b o=>b = bv ∧ o < 4) F 156 cV [⟨bv,0,[.int .i16 v,.string (bs (T.at_ 0).S),.slice none 0 0,.map none],true⟩,qbC ab 18 (.agg #[.int .u8 0,.int .u8 0,.int .u8 0,.int .u8 0,.int .u8 0,.int .u8 0,.int .u8 0,.int .u8 0,.int .u8 0,.int .u8 0,.int .u8 0,.int .u8 0,.int .u8 0,.int .u8 0,.int .u8 0,.int .u8 0,.slice none 0 0,.map none]) ((lst (T.at_ 1)).length) (ac + 1),⟨ab,ac * 18,[qaf ((qah (aa.at_ 0).S).getD 0 0),qaf ((qah (aa.at_ 0).S).getD 1 0),qaf ((qah (aa.at_ 0).S).getD 2 0),qaf ((qah (aa.at_ 0).S).getD 3 0),qaf ((qah (aa.at_ 0).S).getD 4 0),qaf ((qah (aa.at_ 0).S).getD 5 0),qaf ((qah (aa.at_ 0).S).getD 6 0),qaf ((qah (aa.at_ 0).S).getD 7 0),qaf ((qah (aa.at_ 0).S).getD 8 0),qaf ((qah (aa.at_ 0).S).getD 9 0),qaf ((qah (aa.at_ 0).S).getD 10 0),qaf ((qah (aa.at_ 0).S).getD 11 0),qaf ((qah (aa.at_ 0).S).getD 12 0),qaf ((qah (aa.at_ 0).S).getD 13 0),qaf ((qah (aa.at_ 0).S).getD 14 0),qaf ((qah (aa.at_ 0).S).getD 15 0),.slice aj.A aj.l aj.c,.map aN],true⟩] [(7,.p 0 0),(9,.v (.bool (decide (v ≥ 0)))),(10,.p 1 0),(13,.v (.slice (some ⟨ab,0,none⟩) ((lst (T.at_ 1)).length) ag)),(14,.v (.int .i32 (((lst (T.at_ 1)).length:Nat):Int))),(15,.v (.int .i32 ((ac:Nat):Int)))] P' dM a_ w_) ?_ ?_
    ·
     refine wp_seq ?_
     refine qcf [(7,.p 0 0),(9,.v (.bool (decide (v ≥ 0)))),(10,.p 1 0),(13,.v (.slice (some ⟨ab,0,none⟩) ((lst (T.at_ 1)).length) ag)),(14,.v (.int .i32 (((lst (T.at_ 1)).length:Nat):Int))),(15,.v (.int .i32 ((ac:Nat):Int))),(17,.p 3 0),(140,.v (.bool (decide (v ≥ 0))))] cq fun _ av=>qab ?_
     clear cq
     refine qaC av.env_ (b:=decide (v ≥ 0)) kz (fun aw=>?_) (fun aw=>?_)
     ·
      have cr:=av.cast (t:=((uv aa.U.length) ++ (qby aa.U)) ++ dM) (by rw [if_pos aw])
      clear av
      refine qau [0,1,2,3,4] kz ?_
      refine qdk [0] [1,2,3,4] [(7,.p 0 0),(9,.v (.bool (decide (v ≥ 0)))),(10,.p 1 0),(13,.v (.slice (some ⟨ab,0,none⟩) ((lst (T.at_ 1)).length) ag)),(14,.v (.int .i32 (((lst (T.at_ 1)).length:Nat):Int))),(15,.v (.int .i32 ((ac:Nat):Int))),(141,.p 3 0)] cr fun _ cu=>?_
      clear cr
      refine qao (qhs (d:=142) cu (qlm aa.U e80_U (qe2 e80r) _) (fun _=>MvF.tags _ _) Tryz.call130 fun dc eX _ _ cv cw=>?_)
      clear cu
      refine qdk [2,3] [4] [(7,.p 0 0),(9,.v (.bool (decide (v ≥ 0)))),(10,.p 1 0),(13,.v (.slice (some ⟨ab,0,none⟩) ((lst (T.at_ 1)).length) ag)),(14,.v (.int .i32 (((lst (T.at_ 1)).length:Nat):Int))),(15,.v (.int .i32 ((ac:Nat):Int))),(142,.v (.agg #[.map dc])),(144,.p 3 17)] cw fun _ cz=>?_
      clear cw
      refine qao (qe3 [⟨bv,0,[.int .i16 v,.string (bs (T.at_ 0).S),.slice none 0 0,.map none],true⟩,qbC ab 18 (.agg #[.int .u8 0,.int .u8 0,.int .u8 0,.int .u8 0,.int .u8 0,.int .u8 0,.int .u8 0,.int .u8 0,.int .u8 0,.int .u8 0,.int .u8 0,.int .u8 0,.int .u8 0,.int .u8 0,.int .u8 0,.int .u8 0,.slice none 0 0,.map none]) ((lst (T.at_ 1)).length) (ac + 1),⟨ab,ac * 18,[qaf ((qah (aa.at_ 0).S).getD 0 0),qaf ((qah (aa.at_ 0).S).getD 1 0),qaf ((qah (aa.at_ 0).S).getD 2 0),qaf ((qah (aa.at_ 0).S).getD 3 0),qaf ((qah (aa.at_ 0).S).getD 4 0),qaf ((qah (aa.at_ 0).S).getD 5 0),qaf ((qah (aa.at_ 0).S).getD 6 0),qaf ((qah (aa.at_ 0).S).getD 7 0),qaf ((qah (aa.at_ 0).S).getD 8 0),qaf ((qah (aa.at_ 0).S).getD 9 0),qaf ((qah (aa.at_ 0).S).getD 10 0),qaf ((qah (aa.at_ 0).S).getD 11 0),qaf ((qah (aa.at_ 0).S).getD 12 0),qaf ((qah (aa.at_ 0).S).getD 13 0),qaf ((qah (aa.at_ 0).S).getD 14 0),qaf ((qah (aa.at_ 0).S).getD 15 0),.slice aj.A aj.l aj.c,.map dc],true⟩] 2 cz fun _ cA=>?_)
      clear cz
      refine qag ?_
      have ee:=cA.pk (env':=[(7,.p 0 0),(9,.v (.bool (decide (v ≥ 0)))),(10,.p 1 0),(13,.v (.slice (some ⟨ab,0,none⟩) ((lst (T.at_ 1)).length) ag)),(14,.v (.int .i32 (((lst (T.at_ 1)).length:Nat):Int))),(15,.v (.int .i32 ((ac:Nat):Int)))])
      clear cA
      refine qab ?_
      exact ⟨dc,aa.U,_,fun w F h_=>⟨(cv _ _ h_).1,⟨(cv _ _ h_).2,e80_U.2.1,e80_U.2.2⟩,⟨fun _=>rfl,(fun e_=>by rw [aw] at e_; cases e_)⟩⟩,ee.pk (env':=[(7,.p 0 0),(9,.v (.bool (decide (v ≥ 0)))),(10,.p 1 0),(13,.v (.slice (some ⟨ab,0,none⟩) ((lst (T.at_ 1)).length) ag)),(14,.v (.int .i32 (((lst (T.at_ 1)).length:Nat):Int))),(15,.v (.int .i32 ((ac:Nat):Int)))])⟩
     have cB:=av.cast (t:=[] ++ dM) (by rw [if_neg (by rw [aw]; decide)])
     clear av
     have ef:=cB.cast (t:=dM) rfl
     clear cB
     refine wp_skip (qab ?_)
     exact ⟨none,[],_,fun w F h_=>⟨h_,⟨MapR.nil _ _,Nat.zero_le _,fun _ h=>by cases h⟩,⟨(fun e_=>by rw [aw] at e_; cases e_),fun _=>rfl⟩⟩,ef.pk (env':=[(7,.p 0 0),(9,.v (.bool (decide (v ≥ 0)))),(10,.p 1 0),(13,.v (.slice (some ⟨ab,0,none⟩) ((lst (T.at_ 1)).length) ag)),(14,.v (.int .i32 (((lst (T.at_ 1)).length:Nat):Int))),(15,.v (.int .i32 ((ac:Nat):Int)))])⟩
    rintro _ _ ⟨aN,aA,eY,al,cC⟩
    refine qaE ?_
    refine qab ?_
    refine qcf [(7,.p 0 0),(9,.v (.bool (decide (v ≥ 0)))),(10,.p 1 0),(13,.v (.slice (some ⟨ab,0,none⟩) ((lst (T.at_ 1)).length) ag)),(14,.v (.int .i32 (((lst (T.at_ 1)).length:Nat):Int))),(15,.v (.int .i32 (IntKind.i32.wrap (((ac:Nat):Int) + 1))))] cC fun _ cD=>?_
    clear cC
    refine qab ?_
    have eg:=(cD.envEq (env':=[(7,.p 0 0),(9,.v (.bool (decide (v ≥ 0)))),(10,.p 1 0),(13,.v (.slice (some ⟨ab,0,none⟩) ((lst (T.at_ 1)).length) ag)),(14,.v (.int .i32 (((lst (T.at_ 1)).length:Nat):Int))),(15,.v (.int .i32 ((ac + 1:Nat):Int)))]) (by rw [qh0 (by have:=e26_1; omega)])).pk (env':=[(7,.p 0 0),(9,.v (.bool (decide (v ≥ 0)))),(10,.p 1 0),(13,.v (.slice (some ⟨ab,0,none⟩) ((lst (T.at_ 1)).length) ag)),(14,.v (.int .i32 (((lst (T.at_ 1)).length:Nat):Int))),(15,.v (.int .i32 ((ac + 1:Nat):Int)))])
    clear cD
    exact (RS.thing (tb:=[⟨bv,0,[.int .i16 v,.string (bs (T.at_ 0).S),.slice none 0 0,.map none],true⟩]) (z:=.agg #[.int .u8 0,.int .u8 0,.int .u8 0,.int .u8 0,.int .u8 0,.int .u8 0,.int .u8 0,.int .u8 0,.int .u8 0,.int .u8 0,.int .u8 0,.int .u8 0,.int .u8 0,.int .u8 0,.int .u8 0,.int .u8 0,.slice none 0 0,.map none]) (D:=(dvP aN aA [dvO none (qah (aa.at_ 0).S) 0,aj])) (eg.cast dN) hg_g61 c5 qa8 aQ rfl (fun w F h_=>⟨(dK _ _ (aD _ _ (al _ _ h_).1).1).1,(dK _ _ (aD _ _ (al _ _ h_).1).1).2,⟨(qdE _),((aD _ _ (al _ _ h_).1).2.1),(al _ _ h_).2.1.1,(al _ _ h_).2.1.2.1,(al _ _ h_).2.1.2.2,trivial⟩,⟨(rfl),((aD _ _ (al _ _ h_).1).2.2),(al _ _ h_).2.2,trivial⟩⟩) kz)
   refine wp_seq ?_
   refine wp_seq ?_
   refine qcf [(7,.p 0 0),(9,.v (.bool (decide (v ≥ 0)))),(10,.p 1 0),(13,.v (.slice (some ⟨ab,0,none⟩) ((lst (T.at_ 1)).length) ag)),(14,.v (.int .i32 (((lst (T.at_ 1)).length:Nat):Int))),(15,.v (.int .i32 (((lst (T.at_ 1)).length:Nat):Int))),(72,.v (.bool (decide ((((lst (T.at_ 1)).length:Nat):Int) < (((lst (T.at_ 1)).length:Nat):Int)))))] dJ fun _ cE=>qab ?_
   clear dJ
   refine qaw cE.env_ (b:=decide ((((lst (T.at_ 1)).length:Nat):Int) < (((lst (T.at_ 1)).length:Nat):Int))) kz (decide_eq_false (by omega)) ?_
   refine wp_exit ?_
   refine qaz ?_
   refine qaz ?_
   refine qaV ?_
   refine qab ?_
   obtain ⟨eJ,eh⟩:=RS.listEnd (tb:=[⟨bv,0,[.int .i16 v,.string (bs (T.at_ 0).S),.slice none 0 0,.map none],true⟩]) (c:=ag) (cE.pk (env':=[(7,.p 0 0),(9,.v (.bool (decide (v ≥ 0)))),(10,.p 1 0),(13,.v (.slice (some ⟨ab,0,none⟩) ((lst (T.at_ 1)).length) ag))])) hg_g61 qa8 aQ hcap_g61 (by have:=e26_1; omega) hn_g61 kz
   exact ⟨dvL (some ⟨ab,0,none⟩) (lst (T.at_ 1)).length ag eJ,_,fun w F h_=>⟨h_.1,⟨h_.2.1,Nat.le_trans e26_1 (by decide),h_.2.2.1⟩,⟨rfl,h_.2.2.2⟩⟩,eh⟩
  refine wp_skip ?_
  refine qab ?_
  refine wp_seq ?_
  refine qcf [(7,.p 0 0),(9,.v (.bool (decide (v ≥ 0)))),(10,.p 1 0),(13,.v (.slice none 0 0)),(14,.v (.int .i32 (((lst (T.at_ 1)).length:Nat):Int))),(15,.v (.int .i32 0))] aE fun _ cG=>?_
  clear aE
  refine qab ?_
  refine wp_block ?_
  refine qhY ?_
  refine wp_seq ?_
  refine wp_seq ?_
  refine qcf [(7,.p 0 0),(9,.v (.bool (decide (v ≥ 0)))),(10,.p 1 0),(13,.v (.slice none 0 0)),(14,.v (.int .i32 (((lst (T.at_ 1)).length:Nat):Int))),(15,.v (.int .i32 0)),(72,.v (.bool (decide (0 < (((lst (T.at_ 1)).length:Nat):Int)))))] cG fun _ cH=>qab ?_
  clear cG
  refine qaw cH.env_ (b:=decide (0 < (((lst (T.at_ 1)).length:Nat):Int))) kz (decide_eq_false (by have h_:=of_decide_eq_false aL; omega)) ?_
  refine wp_exit ?_
  refine qaz ?_
  refine qaz ?_
  refine qaV ?_
  refine qab ?_
  have hz_:(lst (T.at_ 1)).length = 0:=by have h_:=of_decide_eq_false aL; omega
  exact ⟨dvL none 0 0 (fun _=>dv0),_,fun w F h_=>⟨h_,⟨Slots.nil _ _ _ _,Nat.zero_le _,fun _ h=>absurd h (Nat.not_lt_zero _)⟩,⟨hz_.symm,fun _ h=>absurd h (Nat.not_lt_zero _)⟩⟩,(cH.cast (t:=aP) (by rw [List.eq_nil_of_length_eq_zero hz_]; rfl)).pk (env':=[(7,.p 0 0),(9,.v (.bool (decide (v ≥ 0)))),(10,.p 1 0),(13,.v (.slice none 0 0))])⟩
 rintro _ _ ⟨ak,eZ,ei,ej⟩
 refine wp_seq ?_
 refine qcf [(7,.p 0 0),(9,.v (.bool (decide (v ≥ 0)))),(10,.p 1 0),(12,.v (.slice ak.A ak.l ak.c))] ej fun _ cI=>?_
 clear ej
 refine qab ?_
 refine qfn [⟨bv,0,[.int .i16 v,.string (bs (T.at_ 0).S),.slice ak.A ak.l ak.c,.map none],true⟩] 0 [(7,.p 0 0),(9,.v (.bool (decide (v ≥ 0)))),(10,.p 1 0)] cI fun _ _ cJ=>?_
 clear cI
 refine qab ?_
 refine wp_seq ?_
 have cK:=cJ.cast dg
 clear cJ
 refine qgg (Mid:=fun a_ w_=>∃ (aO:Option Nat) (aB:List (Int × Bs)) (P':qcT),(∀ w F,P' w F → eZ w F ∧ (MapR w F aO aB ∧ aB.length ≤ 1000000 ∧ ∀ x ∈ aB,x.2.length < 4294967296) ∧ ((decide (v ≥ 0)) = true → aB = T.U) ∧ ((decide (v ≥ 0)) = false → aB = [])) ∧ RS w (fun b o=>b = bv ∧ o < 4) F 156 cV [⟨bv,0,[.int .i16 v,.string (bs (T.at_ 0).S),.slice ak.A ak.l ak.c,.map aO],true⟩] [(7,.p 0 0)] P' ([]:Bs) a_ w_) ?_ ?_
 ·
  refine wp_seq ?_
  refine qcf [(7,.p 0 0),(10,.p 1 0),(150,.v (.bool (decide (v ≥ 0))))] cK fun _ ax=>qab ?_
  clear cK
  refine qaC ax.env_ (b:=decide (v ≥ 0)) kz (fun ay=>?_) (fun ay=>?_)
  ·
   have cL:=ax.cast (t:=((uv T.U.length) ++ (qby T.U)) ++ ([]:Bs)) (by rw [if_pos ay])
   clear ax
   refine qau [0,1,2,3,4] kz ?_
   refine qdk [0] [1,2,3,4] [(7,.p 0 0),(151,.p 1 0)] cL fun _ cM=>?_
   clear cL
   refine qao (qhs (d:=152) cM (qlm T.U e26_U (qe2 e26r) _) (fun _=>MvF.tags _ _) Tryz.call130 fun de e9 _ _ cN cO=>?_)
   clear cM
   refine qdk [2,3] [4] [(7,.p 0 0),(152,.v (.agg #[.map de])),(154,.p 1 3)] cO fun _ cP=>?_
   clear cO
   refine qao (qe3 [⟨bv,0,[.int .i16 v,.string (bs (T.at_ 0).S),.slice ak.A ak.l ak.c,.map de],true⟩] 0 cP fun _ cQ=>?_)
   clear cP
   refine qag ?_
   have ek:=cQ.pk (env':=[(7,.p 0 0)])
   clear cQ
   refine qab ?_
   exact ⟨de,T.U,_,fun w F h_=>⟨(cN _ _ h_).1,⟨(cN _ _ h_).2,e26_U.2.1,e26_U.2.2⟩,⟨fun _=>rfl,(fun e_=>by rw [ay] at e_; cases e_)⟩⟩,ek.pk (env':=[(7,.p 0 0)])⟩
  have cR:=ax.cast (t:=[] ++ ([]:Bs)) (by rw [if_neg (by rw [ay]; decide)])
  clear ax
  have em:=cR.cast (t:=([]:Bs)) rfl
  clear cR
  refine wp_skip (qab ?_)
  exact ⟨none,[],_,fun w F h_=>⟨h_,⟨MapR.nil _ _,Nat.zero_le _,fun _ h=>by cases h⟩,⟨(fun e_=>by rw [ay] at e_; cases e_),fun _=>rfl⟩⟩,em.pk (env':=[(7,.p 0 0)])⟩
 rintro _ _ ⟨aO,aB,fa,ao,cS⟩
 refine qab ?_
 refine wp_seq ?_
 refine qau [0,1] kz (qao (qht (d:=155) cS qjJ Tryz.call126 fun _ cT=>?_))
 clear cS
 refine qdk [1] [] [(6,.v (.nilIface))] cT fun _ cU=>qag ?_
 clear cT
 refine qab ?_
 refine wp_ret ?_
 obtain ⟨A_,m_,c_,hW_,hr_,hE_,hP_⟩:=cU.open_
 refine qaG hE_ hW_.cells (v:=.nilIface) kz ?_
 have h_:=cU.mv.mono qeT hP_
 refine ⟨(dvP aO aB [dvS (bs (T.at_ 0).S),ak]),rfl,Str.of hW_ 1 rfl,?_,?_,hW_.step⟩
 ·unfold qaY
  exact ⟨(by show ByteArray.size (bs _) ≤ 1000000; rw [qjt]; exact Nat.le_trans e26_0 (by decide)),((ei _ _ (ao _ _ h_).1).2.1),(ao _ _ h_).2.1.1,(ao _ _ h_).2.1.2.1,(ao _ _ h_).2.1.2.2,trivial⟩
 unfold qbh
 exact ⟨(rfl),((ei _ _ (ao _ _ h_).1).2.2),(ao _ _ h_).2.2,trivial⟩
theorem qaI:qgP qaY:=by
 intro w w' F F' M d hs hM hF h
 unfold qaY at h ⊢
 obtain ⟨g0,⟨g1,g1l,g1e⟩,t1,t2,t3,_⟩:=h
 exact ⟨g0,⟨g1.move hs hM hF,g1l,fun i hi=>qa8 _ hs hM hF (g1e i hi)⟩,t1.move hs hM hF,t2,t3,trivial⟩
theorem qbT (v:Int) (D:DV) (T:Tree) (h:qaF v D T):(be 4 ((D.f 0).n)) ++ ((be 4 ((D.f 1).n)) ++ ((be 8 ((D.f 2).n)) ++ (if (decide (v ≥ 0)) = true then (uv D.u.length) ++ (qby D.u) else []))) = qaq v T:=by
 unfold qaF at h
 obtain ⟨r0_,r1_,r2_,rU_,_⟩:=h
 unfold qaq
 exact qft (by rw [r0_]) (qft (by rw [r1_]) (qft (by rw [r2_]; exact qf6 _) ((if_c (fun hc_=>by rw [(rU_.1 hc_)])))))
theorem qch (v:Int) (D:DV) (T:Tree) (h:qaQ v D T):((D.f 0).o) ++ (((if (decide (v ≥ 0)) = true then (uv ((D.f 1).l + 1)) else (be 4 (D.f 1).l)) ++ ((List.range (D.f 1).l).flatMap fun aa=>(be 4 ((((D.f 1).f aa).f 0).n)) ++ ((be 4 ((((D.f 1).f aa).f 1).n)) ++ ((be 8 ((((D.f 1).f aa).f 2).n)) ++ (if (decide (v ≥ 0)) = true then (uv ((D.f 1).f aa).u.length) ++ (qby ((D.f 1).f aa).u) else []))))) ++ (if (decide (v ≥ 0)) = true then (uv D.u.length) ++ (qby D.u) else [])) = qav v T:=by
 unfold qaQ at h
 obtain ⟨r0_,r1_,rU_,_⟩:=h
 unfold qav
 exact qft (by rw [r0_]) (qft (qft (by simp only [r1_.1]) (qhT r1_.1 (fun i hi=>qbT v _ _ (r1_.2 i hi)))) ((if_c (fun hc_=>by rw [(rU_.1 hc_)]))))
theorem qcz (v:Int) (D:DV) (T:Tree) (h:qbh v D T):qaa v D = qai v T:=by
 unfold qbh at h
 obtain ⟨r0_,r1_,rU_,_⟩:=h
 rw [qbM]
 unfold qaa qbt
 exact qft (by simp only [r0_,qmc,qjt]) (qft (qft (by simp only [r1_.1]) (qhT r1_.1 (fun i hi=>qch v _ _ (r1_.2 i hi)))) (qft (if_c (fun hc_=>by rw [(rU_.1 hc_)])) (rfl)))
section
variable {U:List Fld → Tree → Prop} {k x1 x2 x3 x4 x5 x6 n:Int} {sub:List Fld} {s:Bs} {b:Bool} {l:List Tree} {u:List (Int × Bs)}
end
section
variable {T:List Fld → Tree → Tree → Prop} {v k x1 x2 x3 x4 x5 x6 tn n:Int} {sub:List Fld} {ts s:Bs} {tb b:Bool} {tl l:List Tree} {tu u:List (Int × Bs)}
end
theorem qeH {P:Program} {ops:Array Oper} {Q:Exit → Act → World → Prop} {a:Act} {w:World} {T:World → Prop} {c i j fuel:Nat} {listed:Array Bool} (hr:Region.ready .any ops listed = [i,j]) (h:wpOp P ops Q i (fun a' w'=>(i ≠ c → T w') ∧ qb0 P ops Q T c fuel (listed.setIfInBounds i true) a' w') a w)
  (h':wpOp P ops Q j (fun a' w'=>(j ≠ c → T w') ∧ qb0 P ops Q T c fuel (listed.setIfInBounds j true) a' w') a w):qb0 P ops Q T c (fuel + 1) listed a w:=by
 refine ⟨fun h0=>(by rw [hr] at h0; cases h0),fun q hq=>?_⟩
 rw [hr] at hq
 simp only [List.mem_cons,List.not_mem_nil,or_false] at hq
 rcases hq with rfl | rfl
 ·exact h
 exact h'
section
variable {w:World} {F:Nat → Nat → Prop}
end
section
variable {gu tu:List (Int × Bs)} {l:List Fld} {flex:Bool} {i:Nat} {k k':Int} {s s':Bs}
end
end Go.Proofs.YtogokkkdfcgncaaGreatDoor.ME