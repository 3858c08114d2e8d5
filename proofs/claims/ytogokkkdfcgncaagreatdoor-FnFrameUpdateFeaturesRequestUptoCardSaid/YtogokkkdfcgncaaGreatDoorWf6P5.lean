/- The texts of a claim, put together: the engine, the contracts, the law. Own work. -/
import Derived.Test.YtogokkkdfcgncaaGreatDoorWf6P4
import Derived.Lib.ConvBytes
namespace Go.Proofs.YtogokkkdfcgncaaGreatDoor.ME
open Go
open Go.RowKit
set_option linter.unusedVariables false
set_option linter.unusedSimpArgs false
set_option maxRecDepth 20000
def qas (v:Int) (T:Tree):Bs:=(if (decide (v ≥ 0)) = true then (uv ((T.at_ 0).S.length + 1) ++ (T.at_ 0).S) else (be 2 (T.at_ 0).S.length ++ (T.at_ 0).S)) ++ ((be 2 ((IntKind.i16.wrap (T.at_ 1).N))) ++ ((if ((if (decide (v ≥ 0)) = true then decide (v ≤ 0) else false)) = true then [by8 (if (decide ((T.at_ 2).N % 2 = 1)) then 1 else 0)] else []) ++ ((if (decide (v ≥ 1)) = true then be 1 ((IntKind.i8.wrap (T.at_ 3).N)) else []) ++ (if (decide (v ≥ 0)) = true then (uv T.U.length) ++ (qbB T.U) else []))))
theorem qbo (v:Int) (T:Tree):0 < (qas v T).length:=qkX (qlA (qkX (qlj _)) (qkX (qlB (by decide))))
def qbL (v:Int) (T:Tree):Bs:=(be 4 ((IntKind.i32.wrap (T.at_ 0).N))) ++ (((if (decide (v ≥ 0)) = true then (uv ((lst (T.at_ 1)).length + 1)) else (be 4 (lst (T.at_ 1)).length)) ++ ((lst (T.at_ 1)).flatMap (qas v))) ++ ((if (decide (v ≥ 1)) = true then [by8 (if (decide ((T.at_ 2).N % 2 = 1)) then 1 else 0)] else []) ++ ((if (decide (v ≥ 0)) = true then (uv T.U.length) ++ (qbB T.U) else []) ++ (([]:Bs)))))
theorem qcj (v:Int) (T:Tree):qah v T = qbL v T:=rfl
def qbt (d:DV):List Value:=[.string ((d.f 0).s),.int .i16 ((d.f 1).n),.bool ((d.f 2).b),.int .i8 ((d.f 3).n),.map d.m]
theorem qa2:qgY qaF:=by
 intro w w' F F' M d hs hM hF h
 unfold qaF at h ⊢
 obtain ⟨g0,g1,g2,g3,t1,t2,t3,_⟩:=h
 exact ⟨g0,g1,g2,g3,t1.move hs hM hF,t2,t3,trivial⟩
def qaK (v:Int) (D:DV) (T:Tree):Prop:=((D.f 0).s = bs (T.at_ 0).S) ∧ ((D.f 1).n = IntKind.i16.wrap (T.at_ 1).N) ∧ (((if (decide (v ≥ 0)) = true then decide (v ≤ 0) else false) = true → (D.f 2).b = decide ((T.at_ 2).N % 2 = 1)) ∧ ((if (decide (v ≥ 0)) = true then decide (v ≤ 0) else false) = false → (D.f 2).b = false)) ∧ (((decide (v ≥ 1)) = true → (D.f 3).n = IntKind.i8.wrap (T.at_ 3).N) ∧ ((decide (v ≥ 1)) = false → (D.f 3).n = 0)) ∧ (((decide (v ≥ 0)) = true → D.u = T.U) ∧ ((decide (v ≥ 0)) = false → D.u = [])) ∧ True
def qbr (v:Int) (D:DV) (T:Tree):Prop:=((D.f 0).n = IntKind.i32.wrap (T.at_ 0).N) ∧ (((D.f 1).l = (lst (T.at_ 1)).length ∧ ∀ i,i < (D.f 1).l → qaK v ((D.f 1).f i) ((lst (T.at_ 1)).getD i .zero))) ∧ (((decide (v ≥ 1)) = true → (D.f 2).b = decide ((T.at_ 2).N % 2 = 1)) ∧ ((decide (v ≥ 1)) = false → (D.f 2).b = false)) ∧ (((decide (v ≥ 0)) = true → D.u = T.U) ∧ ((decide (v ≥ 0)) = false → D.u = [])) ∧ True
theorem qlL (b o:Nat) (w:World):Calls Tryz.prog 139 #[.pointer (some ⟨b,o,none⟩)] w (fun e w'=>e = .returned (.tuple #[]) ∧ w' = w):=by
 refine enter (n:=2) (vs:=[.pointer (some ⟨b,o,none⟩)]) Tryz.func139 rfl Tryz.ntmps139 kz fun a hE=>?_
 refine wp_skip ?_
 exact qb3 hE (WOk.start w Nil).cells (v:=.tuple #[]) kz ⟨rfl,rfl⟩
set_option maxHeartbeats 4000000 in
theorem qc2 (v:Int) (T:Tree) {bv:Nat} {A:Option Addr} {c:Nat} {w:World} {F:Nat → Nat → Prop} (hst:Str w bv [.int .i16 v,.int .i32 60000,.slice none 0 0,.bool false,.map none]) (ho:Octs w F A c (qah v T)) (hFd:∀ b o,F b o → ¬ (b = bv ∧ o < 5)) (hc:qa0 T) (hR:T.ranged) :
  Calls Tryz.prog 98 #[.pointer (some ⟨bv,0,none⟩),.slice A (qah v T).length c,.bool false] w (fun e w'=>∃ D:DV,e = .returned .nilIface ∧ Str w' bv [.int .i16 v,.int .i32 ((D.f 0).n),.slice ((D.f 1).A) ((D.f 1).l) ((D.f 1).c),.bool ((D.f 2).b),.map D.m] ∧ qa8 w' (Fp F w) D ∧ qbr v D T ∧ Step w w' (fun b o=>b = bv ∧ o < 5)):=by
 refine enter (n:=127) Tryz.func98 rfl Tryz.ntmps98 kz fun a hE=>?_
 have hW:=WOk.startStr hst
 have hE1:=(hE.grow ⟨bv,0,[.int .i16 v,.int .i32 60000,.slice none 0 0,.bool false,.map none],true⟩).recast 0 (.v (.pointer (some ⟨bv,0,none⟩))) (.p 0 0) rfl rfl (Nat.le_of_ble_eq_true (n:=1) rfl)
 refine qaq [(0,.p 0 0),(1,.v (.slice A ((qah v T).length) c)),(2,.v (.bool false))] hW hE1 fun a1 hE2=>?_
 refine qad [0,1] kz ?_
 refine qaj [0] [1] [(0,.p 0 0),(1,.v (.slice A ((qah v T).length) c)),(2,.v (.bool false)),(23,.p 0 0)] hW hE2 fun a3 hE4=>?_
 refine qam (qa5 hE4 (f:=97) (vs:=[.pointer (some ⟨bv,0,none⟩)]) (d:=24) (n':=5) kz Tryz.call97 Tryz.func97 rfl Tryz.ntmps97 kz fun a5 hE6=>?_)
 have hE7:=hE6.recast 0 (.v (.pointer (some ⟨bv,0,none⟩))) (.p 0 0) rfl rfl (Nat.le_of_ble_eq_true (n:=1) rfl)
 refine qar [0,1,2,3] kz ?_
 refine qaj [0,1,2] [3] [(4,.p 0 1)] hW hE7 fun a8 hE9=>?_
 refine qam (qaJ hW hE9 (oi:=0) (cs:=[.int .i16 v,.int .i32 60000,.slice none 0 0,.bool false,.map none]) kz fun ej dX cd dI=>?_)
 refine qae ?_
 refine qb3 dI cd.cells (v:=.tuple #[]) kz ?_
 refine ⟨_,rfl,fun ek dJ=>?_⟩
 have dK:=(EnvOk.places (tb':=[⟨bv,0,[.int .i16 v,.int .i32 60000,.slice none 0 0,.bool false,.map none],true⟩]) dJ (show Pl [⟨bv,0,[.int .i16 v,.int .i32 60000,.slice none 0 0,.bool false,.map none],true⟩] [⟨bv,0,[.int .i16 v,.int .i32 60000,.slice none 0 0,.bool false,.map none],true⟩] from ⟨rfl,rfl,trivial⟩)).pk (env':=[(24,.v (.tuple #[])),(0,.p 0 0),(1,.v (.slice A ((qah v T).length) c)),(2,.v (.bool false)),(23,.p 0 0)])
 refine qae (qab ?_)
 refine qad [0,1,2,3] kz ?_
 refine qaj [0,1] [2,3] [(0,.p 0 0),(2,.v (.bool false)),(26,.v (.agg #[.slice A ((qah v T).length) c,.bool false]))] cd dK fun em dL=>?_
 refine qam (qa9 cd dL (d:=7) (cs:=[.slice none 0 0,.bool false]) kz fun ce eo ep dY dZ d5 dM dN=>?_)
 refine qam (qaJ dM dN (oi:=1) (cs:=[.slice A ((qah v T).length) c,.bool false]) kz fun eu d6 cg dO=>?_)
 refine qae (qab ?_)
 have cA:=RS.start (F:=F) (s:=qah v T) cg dO (ho.move cg.step (fun b_ o_ h_ _=>hFd b_ o_ h_) (cg.immM hFd)) [(0,.p 1 0),(2,.v (.bool false)),(7,.p 0 0)]
 have dV:=hc
 have e32r:=hR
 unfold qa0 at dV
 obtain ⟨e32_0,⟨e32_1,e32_1e⟩,e32_2,e32_U,_⟩:=dV
 obtain ⟨cB,cC⟩:∃ R,R = (if (decide (v ≥ 0)) = true then (uv T.U.length) ++ (qbB T.U) else []) ++ ([]:Bs):=⟨_,rfl⟩
 obtain ⟨aM,cD⟩:∃ R,R = (if (decide (v ≥ 1)) = true then [by8 (if (decide ((T.at_ 2).N % 2 = 1)) then 1 else 0)] else []) ++ cB:=⟨_,rfl⟩
 obtain ⟨d7,cE⟩:∃ R,R = ((if (decide (v ≥ 0)) = true then (uv ((lst (T.at_ 1)).length + 1)) else (be 4 (lst (T.at_ 1)).length)) ++ ((lst (T.at_ 1)).flatMap (qas v))) ++ aM:=⟨_,rfl⟩
 obtain ⟨d8,cG⟩:∃ R,R = (be 4 ((IntKind.i32.wrap (T.at_ 0).N))) ++ d7:=⟨_,rfl⟩
 have cH:=cA.cast (t:=d8) (by rw [qcj,cG,cE,cD,cC]; unfold qbL; simp only [List.append_assoc])
 clear cA
 refine wp_seq ?_
 refine qct [(0,.p 1 0),(2,.v (.bool false)),(7,.p 0 0),(8,.v (.int .i16 v))] cH fun _ cI=>?_
 clear cH
 refine qab ?_
 refine wp_seq ?_
 refine qct [(0,.p 1 0),(2,.v (.bool false)),(7,.p 0 0),(8,.v (.int .i16 v))] cI fun _ cJ=>?_
 clear cI
 refine qab ?_
 refine wp_seq ?_
 refine qct [(0,.p 1 0),(2,.v (.bool false)),(7,.p 0 0),(8,.v (.int .i16 v)),(9,.v (.bool (decide (v ≥ 0))))] cJ fun _ cK=>?_
 clear cJ
 refine qab ?_
 refine wp_seq ?_
 refine qct [(0,.p 1 0),(2,.v (.bool false)),(7,.p 0 0),(8,.v (.int .i16 v)),(9,.v (.bool (decide (v ≥ 0))))] cK fun _ cL=>?_
 clear cK
 refine qab ?_
 refine wp_seq ?_
 refine qct [(2,.v (.bool false)),(7,.p 0 0),(8,.v (.int .i16 v)),(9,.v (.bool (decide (v ≥ 0)))),(10,.p 1 0)] cL fun _ cM=>?_
 clear cL
 refine qab ?_
 refine wp_seq ?_
 refine wp_seq ?_
 have cN:=cM.cast cG
 clear cM
 refine qeG (d:=36) [(2,.v (.bool false)),(7,.p 0 0),(8,.v (.int .i16 v)),(9,.v (.bool (decide (v ≥ 0)))),(10,.p 1 0),(11,.v (.int .i32 (IntKind.i32.wrap (T.at_ 0).N)))] cN (qlE _ _) Tryz.call117 fun _ _ cO=>?_
 clear cN
 refine qab ?_
 refine qfc [⟨bv,0,[.int .i16 v,.int .i32 (IntKind.i32.wrap (T.at_ 0).N),.slice none 0 0,.bool false,.map none],true⟩] 0 [(2,.v (.bool false)),(7,.p 0 0),(8,.v (.int .i16 v)),(9,.v (.bool (decide (v ≥ 0)))),(10,.p 1 0)] cO fun _ _ cP=>?_
 clear cO
 refine qab ?_
 refine wp_seq ?_
 refine wp_seq ?_
 refine qct [(2,.v (.bool false)),(7,.p 0 0),(8,.v (.int .i16 v)),(9,.v (.bool (decide (v ≥ 0)))),(10,.p 1 0),(12,.v (.slice none 0 0))] cP fun _ cQ=>?_
 clear cP
 refine qab ?_
 refine wp_seq ?_
 refine qct [(2,.v (.bool false)),(7,.p 0 0),(8,.v (.int .i16 v)),(9,.v (.bool (decide (v ≥ 0)))),(10,.p 1 0),(13,.v (.slice none 0 0))] cQ fun _ cR=>?_
 clear cQ
 refine qab ?_
 refine wp_seq ?_
 refine qct [(2,.v (.bool false)),(7,.p 0 0),(8,.v (.int .i16 v)),(9,.v (.bool (decide (v ≥ 0)))),(10,.p 1 0),(13,.v (.slice none 0 0))] cR fun _ cS=>?_
 clear cR
 refine qab ?_
 refine wp_seq ?_
 have cT:=cS.cast cE
 clear cS
 have cU:=cT.cast (t:=(if (decide (v ≥ 0)) = true then (uv ((lst (T.at_ 1)).length + 1)) else (be 4 (lst (T.at_ 1)).length)) ++ (((lst (T.at_ 1)).flatMap (qas v)) ++ aM)) (by rw [List.append_assoc])
 clear cT
 refine qjd (d1:=47) (d2:=48) [(2,.v (.bool false)),(7,.p 0 0),(8,.v (.int .i16 v)),(9,.v (.bool (decide (v ≥ 0)))),(10,.p 1 0),(13,.v (.slice none 0 0)),(46,.v (.bool (decide (v ≥ 0))))] [(2,.v (.bool false)),(7,.p 0 0),(8,.v (.int .i16 v)),(9,.v (.bool (decide (v ≥ 0)))),(10,.p 1 0),(13,.v (.slice none 0 0)),(14,.v (.int .i32 (((lst (T.at_ 1)).length:Nat):Int)))] cU (qeJ ((lst (T.at_ 1)).length) e32_1 _ (flat_ge' (qbo v) _)) Tryz.call123 (qjh ((lst (T.at_ 1)).length) e32_1 _ (flat_ge' (qbo v) _)) Tryz.call124 fun _ _ cV=>?_
 clear cU
 refine qab ?_
 refine wp_seq ?_
 refine wp_seq ?_
 refine qlX (d:=49) [(2,.v (.bool false)),(7,.p 0 0),(8,.v (.int .i16 v)),(9,.v (.bool (decide (v ≥ 0)))),(10,.p 1 0),(13,.v (.slice none 0 0)),(14,.v (.int .i32 (((lst (T.at_ 1)).length:Nat):Int))),(50,.v (.bool false))] cV (pOk _) Tryz.call125 fun _ _ cm=>?_
 clear cV
 refine qab ?_
 refine qat cm.env_ (b:=false) kz (rfl) ?_
 refine wp_skip ?_
 refine qab ?_
 refine wp_seq ?_
 refine qkY (t:=105) (e:=164) (size:=5) (bytes:=32) (d:=53) (A0:=none) (m:=0) (cp:=0) [(2,.v (.bool false)),(7,.p 0 0),(8,.v (.int .i16 v)),(9,.v (.bool (decide (v ≥ 0)))),(10,.p 1 0),(14,.v (.int .i32 (((lst (T.at_ 1)).length:Nat):Int))),(52,.v (.slice none 0 0))] [(2,.v (.bool false)),(7,.p 0 0),(8,.v (.int .i16 v)),(9,.v (.bool (decide (v ≥ 0)))),(10,.p 1 0),(13,.v (.slice none 0 0)),(14,.v (.int .i32 (((lst (T.at_ 1)).length:Nat):Int)))] 1 cm fun _ cW=>?_
 clear cm
 refine qab ?_
 refine qjU (Mid:=fun a_ w_=>∃ (af:DV) (P':qcr),(∀ w F,P' w F → noF w F ∧ (Slots w F 5 af.A af.c af.l (fun i=>[.string (((af.f i).f 0).s),.int .i16 (((af.f i).f 1).n),.bool (((af.f i).f 2).b),.int .i8 (((af.f i).f 3).n),.map ((af.f i).m)]) ∧ af.l ≤ 1000000 ∧ ∀ i,i < af.l → qaF w F (af.f i)) ∧ (af.l = (lst (T.at_ 1)).length ∧ ∀ i,i < af.l → qaK v (af.f i) ((lst (T.at_ 1)).getD i .zero))) ∧ RS w (fun b o=>b = bv ∧ o < 5) F 127 ce [⟨bv,0,[.int .i16 v,.int .i32 (IntKind.i32.wrap (T.at_ 0).N),.slice none 0 0,.bool false,.map none],true⟩] [(7,.p 0 0),(8,.v (.int .i16 v)),(9,.v (.bool (decide (v ≥ 0)))),(10,.p 1 0),(13,.v (.slice af.A af.l af.c))] P' aM a_ w_) ?_ ?_
 ·
  refine wp_seq ?_
  refine qct [(2,.v (.bool false)),(7,.p 0 0),(8,.v (.int .i16 v)),(9,.v (.bool (decide (v ≥ 0)))),(10,.p 1 0),(13,.v (.slice none 0 0)),(14,.v (.int .i32 (((lst (T.at_ 1)).length:Nat):Int))),(55,.v (.bool (decide ((((lst (T.at_ 1)).length:Nat):Int) > 0))))] cW fun _ aG=>qab ?_
  clear cW
  refine qaw aG.env_ (b:=decide ((((lst (T.at_ 1)).length:Nat):Int) > 0)) kz (fun aJ=>?_) (fun aJ=>?_)
  ·
   have hn_g67:0 < (lst (T.at_ 1)).length:=by have h_:=of_decide_eq_true aJ; omega
   refine qar [0,1,2,3] kz ?_
   refine qdo [0,1] [2,3] [(2,.v (.bool false)),(7,.p 0 0),(8,.v (.int .i16 v)),(9,.v (.bool (decide (v ≥ 0)))),(10,.p 1 0),(14,.v (.int .i32 (((lst (T.at_ 1)).length:Nat):Int))),(56,.v (.slice none 0 0)),(57,.v (.int .i32 (((lst (T.at_ 1)).length:Nat):Int)))] aG fun _ cX=>?_
   clear aG
   refine qam (qhW (A0:=none) (d:=58) (t:=105) (tn:=21) (e:=164) (size:=5) (bytes:=32) (k:=.i32) (kn:=.i32) (q:=(((lst (T.at_ 1)).length:Nat):Int)) (j:=(lst (T.at_ 1)).length) (.agg #[.string ByteArray.empty,.int .i16 0,.bool false,.int .i8 0,.map none]) cX (fun aa ac _ _ hg_g67 hcap_g67 cY=>?_) rfl hn_g67 (by have:=e32_1; omega))
   clear cX
   refine qdo [3] [] [(2,.v (.bool false)),(7,.p 0 0),(8,.v (.int .i16 v)),(9,.v (.bool (decide (v ≥ 0)))),(10,.p 1 0),(13,.v (.slice (some ⟨aa,0,none⟩) ((lst (T.at_ 1)).length) ac)),(14,.v (.int .i32 (((lst (T.at_ 1)).length:Nat):Int)))] cY fun _ cZ=>qae ?_
   clear cY
   refine qab ?_
   refine wp_seq ?_
   refine qct [(2,.v (.bool false)),(7,.p 0 0),(8,.v (.int .i16 v)),(9,.v (.bool (decide (v ≥ 0)))),(10,.p 1 0),(13,.v (.slice (some ⟨aa,0,none⟩) ((lst (T.at_ 1)).length) ac)),(14,.v (.int .i32 (((lst (T.at_ 1)).length:Nat):Int))),(15,.v (.int .i32 0))] cZ fun _ cq=>?_
   clear cZ
   refine qab ?_
   refine wp_block ?_
   have aN:=cq.mv
   have dP:=(cq.cast (t:=(lst (T.at_ 1)).flatMap (qas v) ++ aM) rfl).pk (env':=[(2,.v (.bool false)),(7,.p 0 0),(8,.v (.int .i16 v)),(9,.v (.bool (decide (v ≥ 0)))),(10,.p 1 0),(13,.v (.slice (some ⟨aa,0,none⟩) ((lst (T.at_ 1)).length) ac)),(14,.v (.int .i32 (((lst (T.at_ 1)).length:Nat):Int))),(15,.v (.int .i32 ((0:Nat):Int)))])
   clear cq
   refine qkU (tb:=[⟨bv,0,[.int .i16 v,.int .i32 (IntKind.i32.wrap (T.at_ 0).N),.slice none 0 0,.bool false,.map none],true⟩]) (z:=.agg #[.string ByteArray.empty,.int .i16 0,.bool false,.int .i8 0,.map none]) (cl:=qbt) (ok:=qaF) (rel:=(qaK v)) (L:=lst (T.at_ 1)) (size:=5) (qas v) aM (fun k=>[(2,.v (.bool false)),(7,.p 0 0),(8,.v (.int .i16 v)),(9,.v (.bool (decide (v ≥ 0)))),(10,.p 1 0),(13,.v (.slice (some ⟨aa,0,none⟩) ((lst (T.at_ 1)).length) ac)),(14,.v (.int .i32 (((lst (T.at_ 1)).length:Nat):Int))),(15,.v (.int .i32 ((k:Nat):Int)))]) dP qa2 (fun ab ae _ _ cr dQ c5=>?_) (fun _ _ da=>?_)
   ·
    obtain ⟨d9,db,dc⟩:∃ P',(∀ w F,P' w F → (noF w F ∧ qfU aa 5 qbt qaF (qaK v) (lst (T.at_ 1)) ab w F)) ∧ RS w (fun b o=>b = bv ∧ o < 5) F 127 ce [⟨bv,0,[.int .i16 v,.int .i32 (IntKind.i32.wrap (T.at_ 0).N),.slice none 0 0,.bool false,.map none],true⟩,qbT aa 5 (.agg #[.string ByteArray.empty,.int .i16 0,.bool false,.int .i8 0,.map none]) ((lst (T.at_ 1)).length) ab] [(2,.v (.bool false)),(7,.p 0 0),(8,.v (.int .i16 v)),(9,.v (.bool (decide (v ≥ 0)))),(10,.p 1 0),(13,.v (.slice (some ⟨aa,0,none⟩) ((lst (T.at_ 1)).length) ac)),(14,.v (.int .i32 (((lst (T.at_ 1)).length:Nat):Int))),(15,.v (.int .i32 ((ab:Nat):Int)))] P' ((qas v) ae ++ (((lst (T.at_ 1)).drop (ab + 1)).flatMap (qas v) ++ aM)) _ _:=⟨_,fun _ _ h=>h,c5⟩
    clear c5
    obtain ⟨de,df⟩:∃ R,R = ((lst (T.at_ 1)).drop (ab + 1)).flatMap (qas v) ++ aM:=⟨_,rfl⟩
    have dW:=(e32_1e ae (List.mem_of_getElem? cr))
    have e86r:=(qhR (qgt e32r 1) ae (List.mem_of_getElem? cr))
    unfold qaZ at dW
    obtain ⟨e86_0,e86_1,e86_2,e86_3,e86_U,_⟩:=dW
    obtain ⟨dg,dh⟩:∃ R,R = (if (decide (v ≥ 0)) = true then (uv ae.U.length) ++ (qbB ae.U) else []) ++ de:=⟨_,rfl⟩
    obtain ⟨cu,di⟩:∃ R,R = (if (decide (v ≥ 1)) = true then be 1 ((IntKind.i8.wrap (ae.at_ 3).N)) else []) ++ dg:=⟨_,rfl⟩
    obtain ⟨ea,dj⟩:∃ R,R = (if ((if (decide (v ≥ 0)) = true then decide (v ≤ 0) else false)) = true then [by8 (if (decide ((ae.at_ 2).N % 2 = 1)) then 1 else 0)] else []) ++ cu:=⟨_,rfl⟩
    obtain ⟨eb,dl⟩:∃ R,R = (be 2 ((IntKind.i16.wrap (ae.at_ 1).N))) ++ ea:=⟨_,rfl⟩
    obtain ⟨ec,dp⟩:∃ R,R = (if (decide (v ≥ 0)) = true then (uv ((ae.at_ 0).S.length + 1) ++ (ae.at_ 0).S) else (be 2 (ae.at_ 0).S.length ++ (ae.at_ 0).S)) ++ eb:=⟨_,rfl⟩
    have dq:=dc.cast (t:=ec) (by rw [dp,dl,dj,di,dh,← df]; unfold qas; simp only [List.append_assoc])
    clear dc
    refine wp_seq ?_
    refine wp_seq ?_
    refine qct [(2,.v (.bool false)),(7,.p 0 0),(8,.v (.int .i16 v)),(9,.v (.bool (decide (v ≥ 0)))),(10,.p 1 0),(13,.v (.slice (some ⟨aa,0,none⟩) ((lst (T.at_ 1)).length) ac)),(14,.v (.int .i32 (((lst (T.at_ 1)).length:Nat):Int))),(15,.v (.int .i32 ((ab:Nat):Int))),(61,.v (.bool (decide (((ab:Nat):Int) < (((lst (T.at_ 1)).length:Nat):Int)))))] dq fun _ cv=>qab ?_
    clear dq
    refine qbF cv.env_ (b:=decide (((ab:Nat):Int) < (((lst (T.at_ 1)).length:Nat):Int))) kz (decide_eq_true (by omega)) ?_
    refine wp_skip ?_
    refine qab ?_
    refine wp_seq ?_
    refine wp_block ?_
    refine wp_seq ?_
    refine qkZ (t:=105) (e:=164) (size:=5) (bytes:=32) (d:=66) (tb:=[⟨bv,0,[.int .i16 v,.int .i32 (IntKind.i32.wrap (T.at_ 0).N),.slice none 0 0,.bool false,.map none],true⟩]) (z:=.agg #[.string ByteArray.empty,.int .i16 0,.bool false,.int .i8 0,.map none]) [(2,.v (.bool false)),(7,.p 0 0),(8,.v (.int .i16 v)),(9,.v (.bool (decide (v ≥ 0)))),(10,.p 1 0),(13,.v (.slice (some ⟨aa,0,none⟩) ((lst (T.at_ 1)).length) ac)),(14,.v (.int .i32 (((lst (T.at_ 1)).length:Nat):Int))),(15,.v (.int .i32 ((ab:Nat):Int))),(64,.v (.slice (some ⟨aa,0,none⟩) ((lst (T.at_ 1)).length) ac)),(65,.v (.int .i32 ((ab:Nat):Int)))] [(2,.v (.bool false)),(7,.p 0 0),(8,.v (.int .i16 v)),(9,.v (.bool (decide (v ≥ 0)))),(10,.p 1 0),(13,.v (.slice (some ⟨aa,0,none⟩) ((lst (T.at_ 1)).length) ac)),(14,.v (.int .i32 (((lst (T.at_ 1)).length:Nat):Int))),(15,.v (.int .i32 ((ab:Nat):Int))),(16,.p 3 0)] 2 cv dQ rfl kz fun _ dr=>?_
    clear cv
    have aO:=dr.tbEq (tb':=[⟨bv,0,[.int .i16 v,.int .i32 (IntKind.i32.wrap (T.at_ 0).N),.slice none 0 0,.bool false,.map none],true⟩,qbT aa 5 (.agg #[.string ByteArray.empty,.int .i16 0,.bool false,.int .i8 0,.map none]) ((lst (T.at_ 1)).length) (ab + 1),⟨aa,ab * 5,[.string ByteArray.empty,.int .i16 0,.bool false,.int .i8 0,.map none],true⟩]) rfl
    clear dr
    refine qab ?_
    refine wp_seq ?_
    refine qar [0,1] kz ?_
    refine qdo [0] [1] [(2,.v (.bool false)),(7,.p 0 0),(8,.v (.int .i16 v)),(9,.v (.bool (decide (v ≥ 0)))),(10,.p 1 0),(13,.v (.slice (some ⟨aa,0,none⟩) ((lst (T.at_ 1)).length) ac)),(14,.v (.int .i32 (((lst (T.at_ 1)).length:Nat):Int))),(15,.v (.int .i32 ((ab:Nat):Int))),(16,.p 3 0),(67,.p 3 0)] aO fun _ aP=>?_
    clear aO
    refine qam (qlC (d:=68) (vs:=[.pointer (some ⟨aa,ab * 5,none⟩)]) aP (fun _=>qlL _ _ _) Tryz.call139 fun _ aQ=>?_)
    clear aP
    refine qae ?_
    have aR:=aQ.pk (env':=[(2,.v (.bool false)),(7,.p 0 0),(8,.v (.int .i16 v)),(9,.v (.bool (decide (v ≥ 0)))),(10,.p 1 0),(13,.v (.slice (some ⟨aa,0,none⟩) ((lst (T.at_ 1)).length) ac)),(14,.v (.int .i32 (((lst (T.at_ 1)).length:Nat):Int))),(15,.v (.int .i32 ((ab:Nat):Int))),(16,.p 3 0)])
    clear aQ
    refine qab ?_
    refine wp_seq ?_
    refine qct [(2,.v (.bool false)),(7,.p 0 0),(8,.v (.int .i16 v)),(9,.v (.bool (decide (v ≥ 0)))),(10,.p 1 0),(13,.v (.slice (some ⟨aa,0,none⟩) ((lst (T.at_ 1)).length) ac)),(14,.v (.int .i32 (((lst (T.at_ 1)).length:Nat):Int))),(15,.v (.int .i32 ((ab:Nat):Int))),(17,.p 3 0)] aR fun _ aS=>?_
    clear aR
    refine qab ?_
    refine wp_seq ?_
    refine wp_seq ?_
    refine qct [(2,.v (.bool false)),(7,.p 0 0),(8,.v (.int .i16 v)),(9,.v (.bool (decide (v ≥ 0)))),(10,.p 1 0),(13,.v (.slice (some ⟨aa,0,none⟩) ((lst (T.at_ 1)).length) ac)),(14,.v (.int .i32 (((lst (T.at_ 1)).length:Nat):Int))),(15,.v (.int .i32 ((ab:Nat):Int))),(17,.p 3 0)] aS fun _ aT=>?_
    clear aS
    refine qab ?_
    refine wp_seq ?_
    refine wp_seq ?_
    refine qct [(2,.v (.bool false)),(7,.p 0 0),(8,.v (.int .i16 v)),(9,.v (.bool (decide (v ≥ 0)))),(10,.p 1 0),(13,.v (.slice (some ⟨aa,0,none⟩) ((lst (T.at_ 1)).length) ac)),(14,.v (.int .i32 (((lst (T.at_ 1)).length:Nat):Int))),(15,.v (.int .i32 ((ab:Nat):Int))),(17,.p 3 0),(70,.v (.bool false))] aT fun _ aH=>qab ?_
    clear aT
    refine qat aH.env_ (b:=false) kz (rfl) ?_
    have aU:=aH.cast dp
    clear aH
    refine qjd (d1:=75) (d2:=76) [(2,.v (.bool false)),(7,.p 0 0),(8,.v (.int .i16 v)),(9,.v (.bool (decide (v ≥ 0)))),(10,.p 1 0),(13,.v (.slice (some ⟨aa,0,none⟩) ((lst (T.at_ 1)).length) ac)),(14,.v (.int .i32 (((lst (T.at_ 1)).length:Nat):Int))),(15,.v (.int .i32 ((ab:Nat):Int))),(17,.p 3 0),(74,.v (.bool (decide (v ≥ 0))))] [(2,.v (.bool false)),(7,.p 0 0),(8,.v (.int .i16 v)),(9,.v (.bool (decide (v ≥ 0)))),(10,.p 1 0),(13,.v (.slice (some ⟨aa,0,none⟩) ((lst (T.at_ 1)).length) ac)),(14,.v (.int .i32 (((lst (T.at_ 1)).length:Nat):Int))),(15,.v (.int .i32 ((ab:Nat):Int))),(17,.p 3 0),(18,.v (.string (bs (ae.at_ 0).S)))] aU (qfh (ae.at_ 0).S e86_0 _) Tryz.call115 (qk0 (ae.at_ 0).S e86_0 _) Tryz.call116 fun _ _ aV=>?_
    clear aU
    refine qab ?_
    refine qfc [⟨bv,0,[.int .i16 v,.int .i32 (IntKind.i32.wrap (T.at_ 0).N),.slice none 0 0,.bool false,.map none],true⟩,qbT aa 5 (.agg #[.string ByteArray.empty,.int .i16 0,.bool false,.int .i8 0,.map none]) ((lst (T.at_ 1)).length) (ab + 1),⟨aa,ab * 5,[.string (bs (ae.at_ 0).S),.int .i16 0,.bool false,.int .i8 0,.map none],true⟩] 2 [(2,.v (.bool false)),(7,.p 0 0),(8,.v (.int .i16 v)),(9,.v (.bool (decide (v ≥ 0)))),(10,.p 1 0),(13,.v (.slice (some ⟨aa,0,none⟩) ((lst (T.at_ 1)).length) ac)),(14,.v (.int .i32 (((lst (T.at_ 1)).length:Nat):Int))),(15,.v (.int .i32 ((ab:Nat):Int))),(17,.p 3 0)] aV fun _ _ aW=>?_
    clear aV
    refine qab ?_
    refine wp_seq ?_
    refine wp_seq ?_
    have aX:=aW.cast dl
    clear aW
    refine qeG (d:=81) [(2,.v (.bool false)),(7,.p 0 0),(8,.v (.int .i16 v)),(9,.v (.bool (decide (v ≥ 0)))),(10,.p 1 0),(13,.v (.slice (some ⟨aa,0,none⟩) ((lst (T.at_ 1)).length) ac)),(14,.v (.int .i32 (((lst (T.at_ 1)).length:Nat):Int))),(15,.v (.int .i32 ((ab:Nat):Int))),(17,.p 3 0),(19,.v (.int .i16 (IntKind.i16.wrap (ae.at_ 1).N)))] aX (qlD _ _) Tryz.call135 fun _ _ aY=>?_
    clear aX
    refine qab ?_
    refine qfc [⟨bv,0,[.int .i16 v,.int .i32 (IntKind.i32.wrap (T.at_ 0).N),.slice none 0 0,.bool false,.map none],true⟩,qbT aa 5 (.agg #[.string ByteArray.empty,.int .i16 0,.bool false,.int .i8 0,.map none]) ((lst (T.at_ 1)).length) (ab + 1),⟨aa,ab * 5,[.string (bs (ae.at_ 0).S),.int .i16 (IntKind.i16.wrap (ae.at_ 1).N),.bool false,.int .i8 0,.map none],true⟩] 2 [(2,.v (.bool false)),(7,.p 0 0),(8,.v (.int .i16 v)),(9,.v (.bool (decide (v ≥ 0)))),(10,.p 1 0),(13,.v (.slice (some ⟨aa,0,none⟩) ((lst (T.at_ 1)).length) ac)),(14,.v (.int .i32 (((lst (T.at_ 1)).length:Nat):Int))),(15,.v (.int .i32 ((ab:Nat):Int))),(17,.p 3 0)] aY fun _ _ aZ=>?_
    clear aY
    refine qab ?_
    refine wp_seq ?_
    have ba:=aZ.cast dj
    clear aZ
    refine qen (Mid:=fun a_ w_=>∃ (ak:DV) (P':qcr),(∀ w F,P' w F → d9 w F ∧ (True) ∧ ((if (decide (v ≥ 0)) = true then decide (v ≤ 0) else false) = true → ak.b = decide ((ae.at_ 2).N % 2 = 1)) ∧ ((if (decide (v ≥ 0)) = true then decide (v ≤ 0) else false) = false → ak.b = false)) ∧ RS w (fun b o=>b = bv ∧ o < 5) F 127 ce [⟨bv,0,[.int .i16 v,.int .i32 (IntKind.i32.wrap (T.at_ 0).N),.slice none 0 0,.bool false,.map none],true⟩,qbT aa 5 (.agg #[.string ByteArray.empty,.int .i16 0,.bool false,.int .i8 0,.map none]) ((lst (T.at_ 1)).length) (ab + 1),⟨aa,ab * 5,[.string (bs (ae.at_ 0).S),.int .i16 (IntKind.i16.wrap (ae.at_ 1).N),.bool ak.b,.int .i8 0,.map none],true⟩] [(2,.v (.bool false)),(7,.p 0 0),(8,.v (.int .i16 v)),(9,.v (.bool (decide (v ≥ 0)))),(10,.p 1 0),(13,.v (.slice (some ⟨aa,0,none⟩) ((lst (T.at_ 1)).length) ac)),(14,.v (.int .i32 (((lst (T.at_ 1)).length:Nat):Int))),(15,.v (.int .i32 ((ab:Nat):Int))),(17,.p 3 0)] P' cu a_ w_) ?_ ?_
    ·
     refine wp_seq ?_
     refine qar [0,1,2,3,4,5] kz ?_
     refine qdo [0,1,2] [3,4,5] [(2,.v (.bool false)),(7,.p 0 0),(8,.v (.int .i16 v)),(9,.v (.bool (decide (v ≥ 0)))),(10,.p 1 0),(13,.v (.slice (some ⟨aa,0,none⟩) ((lst (T.at_ 1)).length) ac)),(14,.v (.int .i32 (((lst (T.at_ 1)).length:Nat):Int))),(15,.v (.int .i32 ((ab:Nat):Int))),(17,.p 3 0),(88,.v (.bool (decide (v ≥ 0))))] ba fun _ aD=>?_
     clear ba
     refine (Bool.eq_false_or_eq_true (decide (v ≥ 0))).elim (fun ah=>?_) (fun ah=>?_)
     ·
      have bd:=aD.envEq (env':=[(2,.v (.bool false)),(7,.p 0 0),(8,.v (.int .i16 v)),(9,.v (.bool (decide (v ≥ 0)))),(10,.p 1 0),(13,.v (.slice (some ⟨aa,0,none⟩) ((lst (T.at_ 1)).length) ac)),(14,.v (.int .i32 (((lst (T.at_ 1)).length:Nat):Int))),(15,.v (.int .i32 ((ab:Nat):Int))),(17,.p 3 0),(88,.v (.bool true))]) (by simp only [ah])
      clear aD
      refine qdo [3,4,5] [] [(2,.v (.bool false)),(7,.p 0 0),(8,.v (.int .i16 v)),(9,.v (.bool (decide (v ≥ 0)))),(10,.p 1 0),(13,.v (.slice (some ⟨aa,0,none⟩) ((lst (T.at_ 1)).length) ac)),(14,.v (.int .i32 (((lst (T.at_ 1)).length:Nat):Int))),(15,.v (.int .i32 ((ab:Nat):Int))),(17,.p 3 0),(91,.v (.bool (decide (v ≤ 0))))] bd fun _ al=>qae (qab ?_)
      clear bd
      refine qaw al.env_ (b:=decide (v ≤ 0)) kz (fun am=>?_) (fun am=>?_)
      ·
       have bf:=al.cast (t:=[by8 (if (decide ((ae.at_ 2).N % 2 = 1)) then 1 else 0)] ++ cu) (by rw [if_pos (by simp only [ah,am,if_true])])
       clear al
       refine wp_seq ?_
       refine qeG (d:=92) [(2,.v (.bool false)),(7,.p 0 0),(8,.v (.int .i16 v)),(9,.v (.bool (decide (v ≥ 0)))),(10,.p 1 0),(13,.v (.slice (some ⟨aa,0,none⟩) ((lst (T.at_ 1)).length) ac)),(14,.v (.int .i32 (((lst (T.at_ 1)).length:Nat):Int))),(15,.v (.int .i32 ((ab:Nat):Int))),(17,.p 3 0),(20,.v (.bool (decide ((ae.at_ 2).N % 2 = 1))))] bf (qlF _ _) Tryz.call140 fun _ _ bg=>?_
       clear bf
       refine qab ?_
       refine qfc [⟨bv,0,[.int .i16 v,.int .i32 (IntKind.i32.wrap (T.at_ 0).N),.slice none 0 0,.bool false,.map none],true⟩,qbT aa 5 (.agg #[.string ByteArray.empty,.int .i16 0,.bool false,.int .i8 0,.map none]) ((lst (T.at_ 1)).length) (ab + 1),⟨aa,ab * 5,[.string (bs (ae.at_ 0).S),.int .i16 (IntKind.i16.wrap (ae.at_ 1).N),.bool (decide ((ae.at_ 2).N % 2 = 1)),.int .i8 0,.map none],true⟩] 2 [(2,.v (.bool false)),(7,.p 0 0),(8,.v (.int .i16 v)),(9,.v (.bool (decide (v ≥ 0)))),(10,.p 1 0),(13,.v (.slice (some ⟨aa,0,none⟩) ((lst (T.at_ 1)).length) ac)),(14,.v (.int .i32 (((lst (T.at_ 1)).length:Nat):Int))),(15,.v (.int .i32 ((ab:Nat):Int))),(17,.p 3 0)] bg fun _ _ dt=>?_
       clear bg
       refine qab ?_
       exact ⟨dvB (decide ((ae.at_ 2).N % 2 = 1)),_,fun w F h_=>⟨h_,trivial,⟨fun _=>rfl,(fun e_=>by simp [ah,am] at e_)⟩⟩,dt.pk (env':=[(2,.v (.bool false)),(7,.p 0 0),(8,.v (.int .i16 v)),(9,.v (.bool (decide (v ≥ 0)))),(10,.p 1 0),(13,.v (.slice (some ⟨aa,0,none⟩) ((lst (T.at_ 1)).length) ac)),(14,.v (.int .i32 (((lst (T.at_ 1)).length:Nat):Int))),(15,.v (.int .i32 ((ab:Nat):Int))),(17,.p 3 0)])⟩
      have bh:=al.cast (t:=[] ++ cu) (by rw [if_neg (by simp only [ah,am,if_true,if_false,Bool.false_eq_true]; try decide)])
      clear al
      have du:=bh.cast (t:=cu) rfl
      clear bh
      refine wp_skip (qab ?_)
      exact ⟨dvB false,_,fun w F h_=>⟨h_,trivial,⟨(fun e_=>by simp [ah,am] at e_),fun _=>rfl⟩⟩,du.pk (env':=[(2,.v (.bool false)),(7,.p 0 0),(8,.v (.int .i16 v)),(9,.v (.bool (decide (v ≥ 0)))),(10,.p 1 0),(13,.v (.slice (some ⟨aa,0,none⟩) ((lst (T.at_ 1)).length) ac)),(14,.v (.int .i32 (((lst (T.at_ 1)).length:Nat):Int))),(15,.v (.int .i32 ((ab:Nat):Int))),(17,.p 3 0)])⟩
     have bi:=aD.envEq (env':=[(2,.v (.bool false)),(7,.p 0 0),(8,.v (.int .i16 v)),(9,.v (.bool (decide (v ≥ 0)))),(10,.p 1 0),(13,.v (.slice (some ⟨aa,0,none⟩) ((lst (T.at_ 1)).length) ac)),(14,.v (.int .i32 (((lst (T.at_ 1)).length:Nat):Int))),(15,.v (.int .i32 ((ab:Nat):Int))),(17,.p 3 0),(88,.v (.bool false))]) (by simp only [ah])
     clear aD
     refine qdo [3,4,5] [] [(2,.v (.bool false)),(7,.p 0 0),(8,.v (.int .i16 v)),(9,.v (.bool (decide (v ≥ 0)))),(10,.p 1 0),(13,.v (.slice (some ⟨aa,0,none⟩) ((lst (T.at_ 1)).length) ac)),(14,.v (.int .i32 (((lst (T.at_ 1)).length:Nat):Int))),(15,.v (.int .i32 ((ab:Nat):Int))),(17,.p 3 0),(91,.v (.bool false))] bi fun _ aI=>qae (qab ?_)
     clear bi
     refine qat aI.env_ (b:=false) kz rfl ?_
     have bj:=aI.cast (t:=[] ++ cu) (by rw [if_neg (by simp only [ah,if_true,if_false,Bool.false_eq_true]; try decide)])
     clear aI
     have dv:=bj.cast (t:=cu) rfl
     clear bj
     refine wp_skip (qab ?_)
     exact ⟨dvB false,_,fun w F h_=>⟨h_,trivial,⟨(fun e_=>by simp [ah] at e_),fun _=>rfl⟩⟩,dv.pk (env':=[(2,.v (.bool false)),(7,.p 0 0),(8,.v (.int .i16 v)),(9,.v (.bool (decide (v ≥ 0)))),(10,.p 1 0),(13,.v (.slice (some ⟨aa,0,none⟩) ((lst (T.at_ 1)).length) ac)),(14,.v (.int .i32 (((lst (T.at_ 1)).length:Nat):Int))),(15,.v (.int .i32 ((ab:Nat):Int))),(17,.p 3 0)])⟩
    rintro _ _ ⟨ak,dR,aE,bk⟩
    refine qab ?_
    refine wp_seq ?_
    have bn:=bk.cast di
    clear bk
    refine qen (Mid:=fun a_ w_=>∃ (az:DV) (P':qcr),(∀ w F,P' w F → dR w F ∧ (True) ∧ ((decide (v ≥ 1)) = true → az.n = IntKind.i8.wrap (ae.at_ 3).N) ∧ ((decide (v ≥ 1)) = false → az.n = 0)) ∧ RS w (fun b o=>b = bv ∧ o < 5) F 127 ce [⟨bv,0,[.int .i16 v,.int .i32 (IntKind.i32.wrap (T.at_ 0).N),.slice none 0 0,.bool false,.map none],true⟩,qbT aa 5 (.agg #[.string ByteArray.empty,.int .i16 0,.bool false,.int .i8 0,.map none]) ((lst (T.at_ 1)).length) (ab + 1),⟨aa,ab * 5,[.string (bs (ae.at_ 0).S),.int .i16 (IntKind.i16.wrap (ae.at_ 1).N),.bool ak.b,.int .i8 az.n,.map none],true⟩] [(2,.v (.bool false)),(7,.p 0 0),(8,.v (.int .i16 v)),(9,.v (.bool (decide (v ≥ 0)))),(10,.p 1 0),(13,.v (.slice (some ⟨aa,0,none⟩) ((lst (T.at_ 1)).length) ac)),(14,.v (.int .i32 (((lst (T.at_ 1)).length:Nat):Int))),(15,.v (.int .i32 ((ab:Nat):Int))),(17,.p 3 0)] P' dg a_ w_) ?_ ?_
    ·
     refine wp_seq ?_
     refine qct [(2,.v (.bool false)),(7,.p 0 0),(8,.v (.int .i16 v)),(9,.v (.bool (decide (v ≥ 0)))),(10,.p 1 0),(13,.v (.slice (some ⟨aa,0,none⟩) ((lst (T.at_ 1)).length) ac)),(14,.v (.int .i32 (((lst (T.at_ 1)).length:Nat):Int))),(15,.v (.int .i32 ((ab:Nat):Int))),(17,.p 3 0),(98,.v (.bool (decide (v ≥ 1))))] bn fun _ ao=>qab ?_
     clear bn
     refine qaw ao.env_ (b:=decide (v ≥ 1)) kz (fun ap=>?_) (fun ap=>?_)
     ·
      have bo:=ao.cast (t:=(be 1 ((IntKind.i8.wrap (ae.at_ 3).N))) ++ dg) (by rw [if_pos ap])
      clear ao
      refine wp_seq ?_
      refine qeG (d:=99) [(2,.v (.bool false)),(7,.p 0 0),(8,.v (.int .i16 v)),(9,.v (.bool (decide (v ≥ 0)))),(10,.p 1 0),(13,.v (.slice (some ⟨aa,0,none⟩) ((lst (T.at_ 1)).length) ac)),(14,.v (.int .i32 (((lst (T.at_ 1)).length:Nat):Int))),(15,.v (.int .i32 ((ab:Nat):Int))),(17,.p 3 0),(21,.v (.int .i8 (IntKind.i8.wrap (ae.at_ 3).N)))] bo (qlY _ _) Tryz.call141 fun _ _ bp=>?_
      clear bo
      refine qab ?_
      refine qfc [⟨bv,0,[.int .i16 v,.int .i32 (IntKind.i32.wrap (T.at_ 0).N),.slice none 0 0,.bool false,.map none],true⟩,qbT aa 5 (.agg #[.string ByteArray.empty,.int .i16 0,.bool false,.int .i8 0,.map none]) ((lst (T.at_ 1)).length) (ab + 1),⟨aa,ab * 5,[.string (bs (ae.at_ 0).S),.int .i16 (IntKind.i16.wrap (ae.at_ 1).N),.bool ak.b,.int .i8 (IntKind.i8.wrap (ae.at_ 3).N),.map none],true⟩] 2 [(2,.v (.bool false)),(7,.p 0 0),(8,.v (.int .i16 v)),(9,.v (.bool (decide (v ≥ 0)))),(10,.p 1 0),(13,.v (.slice (some ⟨aa,0,none⟩) ((lst (T.at_ 1)).length) ac)),(14,.v (.int .i32 (((lst (T.at_ 1)).length:Nat):Int))),(15,.v (.int .i32 ((ab:Nat):Int))),(17,.p 3 0)] bp fun _ _ dw=>?_
      clear bp
      refine qab ?_
      exact ⟨dvN (IntKind.i8.wrap (ae.at_ 3).N),_,fun w F h_=>⟨h_,trivial,⟨fun _=>rfl,(fun e_=>by rw [ap] at e_; cases e_)⟩⟩,dw.pk (env':=[(2,.v (.bool false)),(7,.p 0 0),(8,.v (.int .i16 v)),(9,.v (.bool (decide (v ≥ 0)))),(10,.p 1 0),(13,.v (.slice (some ⟨aa,0,none⟩) ((lst (T.at_ 1)).length) ac)),(14,.v (.int .i32 (((lst (T.at_ 1)).length:Nat):Int))),(15,.v (.int .i32 ((ab:Nat):Int))),(17,.p 3 0)])⟩
     have bq:=ao.cast (t:=[] ++ dg) (by rw [if_neg (by rw [ap]; decide)])
     clear ao
     have dx:=bq.cast (t:=dg) rfl
     clear bq
     refine wp_skip (qab ?_)
     exact ⟨dvN (0),_,fun w F h_=>⟨h_,trivial,⟨(fun e_=>by rw [ap] at e_; cases e_),fun _=>rfl⟩⟩,dx.pk (env':=[(2,.v (.bool false)),(7,.p 0 0),(8,.v (.int .i16 v)),(9,.v (.bool (decide (v ≥ 0)))),(10,.p 1 0),(13,.v (.slice (some ⟨aa,0,none⟩) ((lst (T.at_ 1)).length) ac)),(14,.v (.int .i32 (((lst (T.at_ 1)).length:Nat):Int))),(15,.v (.int .i32 ((ab:Nat):Int))),(17,.p 3 0)])⟩
    rintro _ _ ⟨az,dS,aj,bt⟩
    refine qab ?_
    have bu:=bt.cast dh
    clear bt
    refine qen (Mid:=fun a_ w_=>∃ (aK:Option Nat) (aA:List (Int × Bs)) (P':qcr),(∀ w F,P' w F → dS w F ∧ (MapR w F aK aA ∧ aA.length ≤ 1000000 ∧ ∀ x ∈ aA,x.2.length < 4294967296) ∧ ((decide (v ≥ 0)) = true → aA = ae.U) ∧ ((decide (v ≥ 0)) = false → aA = [])) ∧ RS w (fun b o=>b = bv ∧ o < 5) F 127 ce [⟨bv,0,[.int .i16 v,.int .i32 (IntKind.i32.wrap (T.at_ 0).N),.slice none 0 0,.bool false,.map none],true⟩,qbT aa 5 (.agg #[.string ByteArray.empty,.int .i16 0,.bool false,.int .i8 0,.map none]) ((lst (T.at_ 1)).length) (ab + 1),⟨aa,ab * 5,[.string (bs (ae.at_ 0).S),.int .i16 (IntKind.i16.wrap (ae.at_ 1).N),.bool ak.b,.int .i8 az.n,.map aK],true⟩] [(2,.v (.bool false)),(7,.p 0 0),(8,.v (.int .i16 v)),(9,.v (.bool (decide (v ≥ 0)))),(10,.p 1 0),(13,.v (.slice (some ⟨aa,0,none⟩) ((lst (T.at_ 1)).length) ac)),(14,.v (.int .i32 (((lst (T.at_ 1)).length:Nat):Int))),(15,.v (.int .i32 ((ab:Nat):Int)))] P' de a_ w_) ?_ ?_
    ·
     refine wp_seq ?_
     refine qct [(2,.v (.bool false)),(7,.p 0 0),(8,.v (.int .i16 v)),(9,.v (.bool (decide (v ≥ 0)))),(10,.p 1 0),(13,.v (.slice (some ⟨aa,0,none⟩) ((lst (T.at_ 1)).length) ac)),(14,.v (.int .i32 (((lst (T.at_ 1)).length:Nat):Int))),(15,.v (.int .i32 ((ab:Nat):Int))),(17,.p 3 0),(104,.v (.bool (decide (v ≥ 0))))] bu fun _ ar=>qab ?_
     clear bu
     refine qaw ar.env_ (b:=decide (v ≥ 0)) kz (fun au=>?_) (fun au=>?_)
     ·
      have bw:=ar.cast (t:=((uv ae.U.length) ++ (qbB ae.U)) ++ de) (by rw [if_pos au])
      clear ar
      refine qar [0,1,2,3,4] kz ?_
      refine qdo [0] [1,2,3,4] [(2,.v (.bool false)),(7,.p 0 0),(8,.v (.int .i16 v)),(9,.v (.bool (decide (v ≥ 0)))),(10,.p 1 0),(13,.v (.slice (some ⟨aa,0,none⟩) ((lst (T.at_ 1)).length) ac)),(14,.v (.int .i32 (((lst (T.at_ 1)).length:Nat):Int))),(15,.v (.int .i32 ((ab:Nat):Int))),(105,.p 3 0)] bw fun _ bx=>?_
      clear bw
      refine qam (qjc (d:=106) bx (qlG ae.U e86_U (qfO e86r) _) (fun _=>MvF.tags _ _) Tryz.call130 fun cw ee _ _ bz bA=>?_)
      clear bx
      refine qdo [2,3] [4] [(2,.v (.bool false)),(7,.p 0 0),(8,.v (.int .i16 v)),(9,.v (.bool (decide (v ≥ 0)))),(10,.p 1 0),(13,.v (.slice (some ⟨aa,0,none⟩) ((lst (T.at_ 1)).length) ac)),(14,.v (.int .i32 (((lst (T.at_ 1)).length:Nat):Int))),(15,.v (.int .i32 ((ab:Nat):Int))),(106,.v (.agg #[.map cw])),(108,.p 3 4)] bA fun _ bB=>?_
      clear bA
      refine qam (qht [⟨bv,0,[.int .i16 v,.int .i32 (IntKind.i32.wrap (T.at_ 0).N),.slice none 0 0,.bool false,.map none],true⟩,qbT aa 5 (.agg #[.string ByteArray.empty,.int .i16 0,.bool false,.int .i8 0,.map none]) ((lst (T.at_ 1)).length) (ab + 1),⟨aa,ab * 5,[.string (bs (ae.at_ 0).S),.int .i16 (IntKind.i16.wrap (ae.at_ 1).N),.bool ak.b,.int .i8 az.n,.map cw],true⟩] 2 bB fun _ bC=>?_)
      clear bB
      refine qae ?_
      have dy:=bC.pk (env':=[(2,.v (.bool false)),(7,.p 0 0),(8,.v (.int .i16 v)),(9,.v (.bool (decide (v ≥ 0)))),(10,.p 1 0),(13,.v (.slice (some ⟨aa,0,none⟩) ((lst (T.at_ 1)).length) ac)),(14,.v (.int .i32 (((lst (T.at_ 1)).length:Nat):Int))),(15,.v (.int .i32 ((ab:Nat):Int)))])
      clear bC
      refine qab ?_
      exact ⟨cw,ae.U,_,fun w F h_=>⟨(bz _ _ h_).1,⟨(bz _ _ h_).2,e86_U.2.1,e86_U.2.2⟩,⟨fun _=>rfl,(fun e_=>by rw [au] at e_; cases e_)⟩⟩,dy.pk (env':=[(2,.v (.bool false)),(7,.p 0 0),(8,.v (.int .i16 v)),(9,.v (.bool (decide (v ≥ 0)))),(10,.p 1 0),(13,.v (.slice (some ⟨aa,0,none⟩) ((lst (T.at_ 1)).length) ac)),(14,.v (.int .i32 (((lst (T.at_ 1)).length:Nat):Int))),(15,.v (.int .i32 ((ab:Nat):Int)))])⟩
     have bD:=ar.cast (t:=[] ++ de) (by rw [if_neg (by rw [au]; decide)])
     clear ar
     have dz:=bD.cast (t:=de) rfl
     clear bD
     refine wp_skip (qab ?_)
     exact ⟨none,[],_,fun w F h_=>⟨h_,⟨MapR.nil _ _,Nat.zero_le _,fun _ h=>by cases h⟩,⟨(fun e_=>by rw [au] at e_; cases e_),fun _=>rfl⟩⟩,dz.pk (env':=[(2,.v (.bool false)),(7,.p 0 0),(8,.v (.int .i16 v)),(9,.v (.bool (decide (v ≥ 0)))),(10,.p 1 0),(13,.v (.slice (some ⟨aa,0,none⟩) ((lst (T.at_ 1)).length) ac)),(14,.v (.int .i32 (((lst (T.at_ 1)).length:Nat):Int))),(15,.v (.int .i32 ((ab:Nat):Int)))])⟩
    rintro _ _ ⟨aK,aA,ef,ag,bE⟩
    refine qaC ?_
    refine qab ?_
    refine qct [(2,.v (.bool false)),(7,.p 0 0),(8,.v (.int .i16 v)),(9,.v (.bool (decide (v ≥ 0)))),(10,.p 1 0),(13,.v (.slice (some ⟨aa,0,none⟩) ((lst (T.at_ 1)).length) ac)),(14,.v (.int .i32 (((lst (T.at_ 1)).length:Nat):Int))),(15,.v (.int .i32 (IntKind.i32.wrap (((ab:Nat):Int) + 1))))] bE fun _ bF=>?_
    clear bE
    refine qab ?_
    have dA:=(bF.envEq (env':=[(2,.v (.bool false)),(7,.p 0 0),(8,.v (.int .i16 v)),(9,.v (.bool (decide (v ≥ 0)))),(10,.p 1 0),(13,.v (.slice (some ⟨aa,0,none⟩) ((lst (T.at_ 1)).length) ac)),(14,.v (.int .i32 (((lst (T.at_ 1)).length:Nat):Int))),(15,.v (.int .i32 ((ab + 1:Nat):Int)))]) (by rw [qjV (by have:=e32_1; omega)])).pk (env':=[(2,.v (.bool false)),(7,.p 0 0),(8,.v (.int .i16 v)),(9,.v (.bool (decide (v ≥ 0)))),(10,.p 1 0),(13,.v (.slice (some ⟨aa,0,none⟩) ((lst (T.at_ 1)).length) ac)),(14,.v (.int .i32 (((lst (T.at_ 1)).length:Nat):Int))),(15,.v (.int .i32 ((ab + 1:Nat):Int)))])
    clear bF
    exact (RS.thing (tb:=[⟨bv,0,[.int .i16 v,.int .i32 (IntKind.i32.wrap (T.at_ 0).N),.slice none 0 0,.bool false,.map none],true⟩]) (z:=.agg #[.string ByteArray.empty,.int .i16 0,.bool false,.int .i8 0,.map none]) (D:=(dvP aK aA [dvS (bs (ae.at_ 0).S),dvN (IntKind.i16.wrap (ae.at_ 1).N),ak,az])) (dA.cast df) hg_g67 cr qa2 aN rfl (fun w F h_=>⟨(db _ _ (aE _ _ (aj _ _ (ag _ _ h_).1).1).1).1,(db _ _ (aE _ _ (aj _ _ (ag _ _ h_).1).1).1).2,⟨(by show ByteArray.size (bs _) ≤ 1000000; rw [qiX]; exact Nat.le_trans e86_0 (by decide)),(trivial),((aE _ _ (aj _ _ (ag _ _ h_).1).1).2.1),((aj _ _ (ag _ _ h_).1).2.1),(ag _ _ h_).2.1.1,(ag _ _ h_).2.1.2.1,(ag _ _ h_).2.1.2.2,trivial⟩,⟨(rfl),(rfl),((aE _ _ (aj _ _ (ag _ _ h_).1).1).2.2),((aj _ _ (ag _ _ h_).1).2.2),(ag _ _ h_).2.2,trivial⟩⟩) kz)
   refine wp_seq ?_
   refine wp_seq ?_
   refine qct [(2,.v (.bool false)),(7,.p 0 0),(8,.v (.int .i16 v)),(9,.v (.bool (decide (v ≥ 0)))),(10,.p 1 0),(13,.v (.slice (some ⟨aa,0,none⟩) ((lst (T.at_ 1)).length) ac)),(14,.v (.int .i32 (((lst (T.at_ 1)).length:Nat):Int))),(15,.v (.int .i32 (((lst (T.at_ 1)).length:Nat):Int))),(61,.v (.bool (decide ((((lst (T.at_ 1)).length:Nat):Int) < (((lst (T.at_ 1)).length:Nat):Int)))))] da fun _ bG=>qab ?_
   clear da
   refine qat bG.env_ (b:=decide ((((lst (T.at_ 1)).length:Nat):Int) < (((lst (T.at_ 1)).length:Nat):Int))) kz (decide_eq_false (by omega)) ?_
   refine wp_exit ?_
   refine qax ?_
   refine qax ?_
   refine qaP ?_
   refine qab ?_
   obtain ⟨dT,dB⟩:=RS.listEnd (tb:=[⟨bv,0,[.int .i16 v,.int .i32 (IntKind.i32.wrap (T.at_ 0).N),.slice none 0 0,.bool false,.map none],true⟩]) (c:=ac) (bG.pk (env':=[(7,.p 0 0),(8,.v (.int .i16 v)),(9,.v (.bool (decide (v ≥ 0)))),(10,.p 1 0),(13,.v (.slice (some ⟨aa,0,none⟩) ((lst (T.at_ 1)).length) ac))])) hg_g67 qa2 aN hcap_g67 (by have:=e32_1; omega) hn_g67 kz
   exact ⟨dvL (some ⟨aa,0,none⟩) (lst (T.at_ 1)).length ac dT,_,fun w F h_=>⟨h_.1,⟨h_.2.1,Nat.le_trans e32_1 (by decide),h_.2.2.1⟩,⟨rfl,h_.2.2.2⟩⟩,dB⟩
  refine wp_skip ?_
  refine qab ?_
  refine wp_seq ?_
  refine qct [(2,.v (.bool false)),(7,.p 0 0),(8,.v (.int .i16 v)),(9,.v (.bool (decide (v ≥ 0)))),(10,.p 1 0),(13,.v (.slice none 0 0)),(14,.v (.int .i32 (((lst (T.at_ 1)).length:Nat):Int))),(15,.v (.int .i32 0))] aG fun _ bH=>?_
  clear aG
  refine qab ?_
  refine wp_block ?_
  refine qjT ?_
  refine wp_seq ?_
  refine wp_seq ?_
  refine qct [(2,.v (.bool false)),(7,.p 0 0),(8,.v (.int .i16 v)),(9,.v (.bool (decide (v ≥ 0)))),(10,.p 1 0),(13,.v (.slice none 0 0)),(14,.v (.int .i32 (((lst (T.at_ 1)).length:Nat):Int))),(15,.v (.int .i32 0)),(61,.v (.bool (decide (0 < (((lst (T.at_ 1)).length:Nat):Int)))))] bH fun _ bI=>qab ?_
  clear bH
  refine qat bI.env_ (b:=decide (0 < (((lst (T.at_ 1)).length:Nat):Int))) kz (decide_eq_false (by have h_:=of_decide_eq_false aJ; omega)) ?_
  refine wp_exit ?_
  refine qax ?_
  refine qax ?_
  refine qaP ?_
  refine qab ?_
  have hz_:(lst (T.at_ 1)).length = 0:=by have h_:=of_decide_eq_false aJ; omega
  exact ⟨dvL none 0 0 (fun _=>dv0),_,fun w F h_=>⟨h_,⟨Slots.nil _ _ _ _,Nat.zero_le _,fun _ h=>absurd h (Nat.not_lt_zero _)⟩,⟨hz_.symm,fun _ h=>absurd h (Nat.not_lt_zero _)⟩⟩,(bI.cast (t:=aM) (by rw [List.eq_nil_of_length_eq_zero hz_]; rfl)).pk (env':=[(7,.p 0 0),(8,.v (.int .i16 v)),(9,.v (.bool (decide (v ≥ 0)))),(10,.p 1 0),(13,.v (.slice none 0 0))])⟩
 rintro _ _ ⟨af,eg,dC,dD⟩
 refine wp_seq ?_
 refine qct [(7,.p 0 0),(8,.v (.int .i16 v)),(9,.v (.bool (decide (v ≥ 0)))),(10,.p 1 0),(12,.v (.slice af.A af.l af.c))] dD fun _ bJ=>?_
 clear dD
 refine qab ?_
 refine qfc [⟨bv,0,[.int .i16 v,.int .i32 (IntKind.i32.wrap (T.at_ 0).N),.slice af.A af.l af.c,.bool false,.map none],true⟩] 0 [(7,.p 0 0),(8,.v (.int .i16 v)),(9,.v (.bool (decide (v ≥ 0)))),(10,.p 1 0)] bJ fun _ _ bK=>?_
 clear bJ
 refine qab ?_
 refine wp_seq ?_
 have bL:=bK.cast cD
 clear bK
 refine qen (Mid:=fun a_ w_=>∃ (aB:DV) (P':qcr),(∀ w F,P' w F → eg w F ∧ (True) ∧ ((decide (v ≥ 1)) = true → aB.b = decide ((T.at_ 2).N % 2 = 1)) ∧ ((decide (v ≥ 1)) = false → aB.b = false)) ∧ RS w (fun b o=>b = bv ∧ o < 5) F 127 ce [⟨bv,0,[.int .i16 v,.int .i32 (IntKind.i32.wrap (T.at_ 0).N),.slice af.A af.l af.c,.bool aB.b,.map none],true⟩] [(7,.p 0 0),(9,.v (.bool (decide (v ≥ 0)))),(10,.p 1 0)] P' cB a_ w_) ?_ ?_
 ·
  refine wp_seq ?_
  refine qct [(7,.p 0 0),(9,.v (.bool (decide (v ≥ 0)))),(10,.p 1 0),(115,.v (.bool (decide (v ≥ 1))))] bL fun _ av=>qab ?_
  clear bL
  refine qaw av.env_ (b:=decide (v ≥ 1)) kz (fun aw=>?_) (fun aw=>?_)
  ·
   have bM:=av.cast (t:=[by8 (if (decide ((T.at_ 2).N % 2 = 1)) then 1 else 0)] ++ cB) (by rw [if_pos aw])
   clear av
   refine wp_seq ?_
   refine qeG (d:=116) [(7,.p 0 0),(9,.v (.bool (decide (v ≥ 0)))),(10,.p 1 0),(22,.v (.bool (decide ((T.at_ 2).N % 2 = 1))))] bM (qlF _ _) Tryz.call140 fun _ _ bN=>?_
   clear bM
   refine qab ?_
   refine qfc [⟨bv,0,[.int .i16 v,.int .i32 (IntKind.i32.wrap (T.at_ 0).N),.slice af.A af.l af.c,.bool (decide ((T.at_ 2).N % 2 = 1)),.map none],true⟩] 0 [(7,.p 0 0),(9,.v (.bool (decide (v ≥ 0)))),(10,.p 1 0)] bN fun _ _ dE=>?_
   clear bN
   refine qab ?_
   exact ⟨dvB (decide ((T.at_ 2).N % 2 = 1)),_,fun w F h_=>⟨h_,trivial,⟨fun _=>rfl,(fun e_=>by rw [aw] at e_; cases e_)⟩⟩,dE.pk (env':=[(7,.p 0 0),(9,.v (.bool (decide (v ≥ 0)))),(10,.p 1 0)])⟩
  have bO:=av.cast (t:=[] ++ cB) (by rw [if_neg (by rw [aw]; decide)])
  clear av
  have dF:=bO.cast (t:=cB) rfl
  clear bO
  refine wp_skip (qab ?_)
  exact ⟨dvB false,_,fun w F h_=>⟨h_,trivial,⟨(fun e_=>by rw [aw] at e_; cases e_),fun _=>rfl⟩⟩,dF.pk (env':=[(7,.p 0 0),(9,.v (.bool (decide (v ≥ 0)))),(10,.p 1 0)])⟩
 rintro _ _ ⟨aB,dU,aF,bP⟩
 refine qab ?_
 refine wp_seq ?_
 have bQ:=bP.cast cC
 clear bP
 refine qen (Mid:=fun a_ w_=>∃ (aL:Option Nat) (aC:List (Int × Bs)) (P':qcr),(∀ w F,P' w F → dU w F ∧ (MapR w F aL aC ∧ aC.length ≤ 1000000 ∧ ∀ x ∈ aC,x.2.length < 4294967296) ∧ ((decide (v ≥ 0)) = true → aC = T.U) ∧ ((decide (v ≥ 0)) = false → aC = [])) ∧ RS w (fun b o=>b = bv ∧ o < 5) F 127 ce [⟨bv,0,[.int .i16 v,.int .i32 (IntKind.i32.wrap (T.at_ 0).N),.slice af.A af.l af.c,.bool aB.b,.map aL],true⟩] [(7,.p 0 0)] P' ([]:Bs) a_ w_) ?_ ?_
 ·
  refine wp_seq ?_
  refine qct [(7,.p 0 0),(10,.p 1 0),(121,.v (.bool (decide (v ≥ 0))))] bQ fun _ ax=>qab ?_
  clear bQ
  refine qaw ax.env_ (b:=decide (v ≥ 0)) kz (fun ay=>?_) (fun ay=>?_)
  ·
   have bR:=ax.cast (t:=((uv T.U.length) ++ (qbB T.U)) ++ ([]:Bs)) (by rw [if_pos ay])
   clear ax
   refine qar [0,1,2,3,4] kz ?_
   refine qdo [0] [1,2,3,4] [(7,.p 0 0),(122,.p 1 0)] bR fun _ bS=>?_
   clear bR
   refine qam (qjc (d:=123) bS (qlG T.U e32_U (qfO e32r) _) (fun _=>MvF.tags _ _) Tryz.call130 fun cz eh _ _ bT bU=>?_)
   clear bS
   refine qdo [2,3] [4] [(7,.p 0 0),(123,.v (.agg #[.map cz])),(125,.p 1 4)] bU fun _ bV=>?_
   clear bU
   refine qam (qht [⟨bv,0,[.int .i16 v,.int .i32 (IntKind.i32.wrap (T.at_ 0).N),.slice af.A af.l af.c,.bool aB.b,.map cz],true⟩] 0 bV fun _ bW=>?_)
   clear bV
   refine qae ?_
   have dG:=bW.pk (env':=[(7,.p 0 0)])
   clear bW
   refine qab ?_
   exact ⟨cz,T.U,_,fun w F h_=>⟨(bT _ _ h_).1,⟨(bT _ _ h_).2,e32_U.2.1,e32_U.2.2⟩,⟨fun _=>rfl,(fun e_=>by rw [ay] at e_; cases e_)⟩⟩,dG.pk (env':=[(7,.p 0 0)])⟩
  have bX:=ax.cast (t:=[] ++ ([]:Bs)) (by rw [if_neg (by rw [ay]; decide)])
  clear ax
  have dH:=bX.cast (t:=([]:Bs)) rfl
  clear bX
  refine wp_skip (qab ?_)
  exact ⟨none,[],_,fun w F h_=>⟨h_,⟨MapR.nil _ _,Nat.zero_le _,fun _ h=>by cases h⟩,⟨(fun e_=>by rw [ay] at e_; cases e_),fun _=>rfl⟩⟩,dH.pk (env':=[(7,.p 0 0)])⟩
 rintro _ _ ⟨aL,aC,ei,ai,bY⟩
 refine qab ?_
 refine wp_seq ?_
 refine qar [0,1] kz (qam (qg0 (d:=126) bY qje Tryz.call126 fun _ bZ=>?_))
 clear bY
 refine qdo [1] [] [(6,.v (.nilIface))] bZ fun _ b8=>qae ?_
 clear bZ
 refine qab ?_
 refine wp_ret ?_
 obtain ⟨A_,m_,c_,hW_,hr_,hE_,hP_⟩:=b8.open_
 refine qaB hE_ hW_.cells (v:=.nilIface) kz ?_
 have h_:=b8.mv.mono qeV hP_
 refine ⟨(dvP aL aC [dvN (IntKind.i32.wrap (T.at_ 0).N),af,aB]),rfl,Str.of hW_ 1 rfl,?_,?_,hW_.step⟩
 ·unfold qa8
  exact ⟨(trivial),((dC _ _ (aF _ _ (ai _ _ h_).1).1).2.1),((aF _ _ (ai _ _ h_).1).2.1),(ai _ _ h_).2.1.1,(ai _ _ h_).2.1.2.1,(ai _ _ h_).2.1.2.2,trivial⟩
 unfold qbr
 exact ⟨(rfl),((dC _ _ (aF _ _ (ai _ _ h_).1).1).2.2),((aF _ _ (ai _ _ h_).1).2.2),(ai _ _ h_).2.2,trivial⟩
theorem qaS:qgY qa8:=by
 intro w w' F F' M d hs hM hF h
 unfold qa8 at h ⊢
 obtain ⟨g0,⟨g1,g1l,g1e⟩,g2,t1,t2,t3,_⟩:=h
 exact ⟨g0,⟨g1.move hs hM hF,g1l,fun i hi=>qa2 _ hs hM hF (g1e i hi)⟩,g2,t1.move hs hM hF,t2,t3,trivial⟩
theorem qb6 (v:Int) (D:DV) (T:Tree) (h:qaK v D T):(if (decide (v ≥ 0)) = true then (uv ((D.f 0).s.size + 1) ++ sb (D.f 0).s) else (be 2 (D.f 0).s.size ++ sb (D.f 0).s)) ++ ((be 2 ((D.f 1).n)) ++ ((if ((if (decide (v ≥ 0)) = true then decide (v ≤ 0) else false)) = true then [by8 (if (D.f 2).b then 1 else 0)] else []) ++ ((if (decide (v ≥ 1)) = true then be 1 ((D.f 3).n) else []) ++ (if (decide (v ≥ 0)) = true then (uv D.u.length) ++ (qbB D.u) else [])))) = qas v T:=by
 unfold qaK at h
 obtain ⟨r0_,r1_,r2_,r3_,rU_,_⟩:=h
 unfold qas
 exact qfV (by simp only [r0_,qlO,qiX]) (qfV (by rw [r1_]) (qfV (if_c (fun hc_=>by rw [(r2_.1 hc_)])) (qfV (if_c (fun hc_=>by rw [(r3_.1 hc_)])) ((if_c (fun hc_=>by rw [(rU_.1 hc_)]))))))
theorem qc3 (v:Int) (D:DV) (T:Tree) (h:qbr v D T):qaa v D = qah v T:=by
 unfold qbr at h
 obtain ⟨r0_,r1_,r2_,rU_,_⟩:=h
 rw [qcj]
 unfold qaa qbL
 exact qfV (by rw [r0_]) (qfV (qfV (by simp only [r1_.1]) (qjQ r1_.1 (fun i hi=>qb6 v _ _ (r1_.2 i hi)))) (qfV (if_c (fun hc_=>by rw [(r2_.1 hc_)])) (qfV (if_c (fun hc_=>by rw [(rU_.1 hc_)])) (rfl))))
section
variable {U:List Fld → Tree → Prop} {k x1 x2 x3 x4 x5 x6 n:Int} {sub:List Fld} {s:Bs} {b:Bool} {l:List Tree} {u:List (Int × Bs)}
end
section
variable {T:List Fld → Tree → Tree → Prop} {v k x1 x2 x3 x4 x5 x6 tn n:Int} {sub:List Fld} {ts s:Bs} {tb b:Bool} {tl l:List Tree} {tu u:List (Int × Bs)}
end
theorem qeo {P:Program} {ops:Array Oper} {Q:Exit → Act → World → Prop} {a:Act} {w:World} {T:World → Prop} {c i j fuel:Nat} {listed:Array Bool} (hr:Region.ready .any ops listed = [i,j]) (h:wpOp P ops Q i (fun a' w'=>(i ≠ c → T w') ∧ qbH P ops Q T c fuel (listed.setIfInBounds i true) a' w') a w)
  (h':wpOp P ops Q j (fun a' w'=>(j ≠ c → T w') ∧ qbH P ops Q T c fuel (listed.setIfInBounds j true) a' w') a w):qbH P ops Q T c (fuel + 1) listed a w:=by
 refine ⟨fun h0=>(by rw [hr] at h0; cases h0),fun q hq=>?_⟩
 rw [hr] at hq
 simp only [List.mem_cons,List.not_mem_nil,or_false] at hq
 rcases hq with rfl | rfl
 ·exact h
 exact h'
section
variable {w:World} {F:Nat → Nat → Prop}
end
section
variable {gu tu:List (Int × Bs)} {l:List Fld} {flex:Bool} {i:Nat} {k k':Int} {s s':Bs}
end
end Go.Proofs.YtogokkkdfcgncaaGreatDoor.ME
namespace Go.Proofs.YtogokkkdfcgncaaGreatDoor.ME
open Go
open Go.RowKit
set_option linter.unusedVariables false
set_option linter.unusedSimpArgs false
set_option maxRecDepth 20000
set_option maxHeartbeats 4000000 in
theorem qc4 (has:Bool) (txt:ByteArray) (num v:Int) (T:Tree) {A2:Option Addr} {c2:Nat} {w:World} {F:Nat → Nat → Prop} (hs_:Octs w F A2 c2 (qah (IntKind.i16.wrap v) T)) (hc:qa0 T) (hkey:T.ranged) (htx:txt.size ≤ 32767) (hroom:txt.size + (qah (IntKind.i16.wrap v) T).length + 64 ≤ 1099511627776) :
  Calls Tryz.prog 28 #[.agg #[.bool has,.string txt],.int .i32 num,.int .i64 v,.slice A2 (qah (IntKind.i16.wrap v) T).length c2] w (fun e w'=>∃ A c,e = .returned (.tuple #[.slice A (qa1 57 (IntKind.i16.wrap v) num has (sb txt) (decide ((IntKind.i16.wrap v) ≥ 0)) (qah (IntKind.i16.wrap v) T)).length c,.bool true]) ∧ w'.ownsRow w.heap.size 5 1 (.slice A (qa1 57 (IntKind.i16.wrap v) num has (sb txt) (decide ((IntKind.i16.wrap v) ≥ 0)) (qah (IntKind.i16.wrap v) T)).length c) (qa1 57 (IntKind.i16.wrap v) num has (sb txt) (decide ((IntKind.i16.wrap v) ≥ 0)) (qah (IntKind.i16.wrap v) T)).length (bc (qa1 57 (IntKind.i16.wrap v) num has (sb txt) (decide ((IntKind.i16.wrap v) ≥ 0)) (qah (IntKind.i16.wrap v) T))) ∧ Step w w' Nil):=by
 refine enter (n:=26) Tryz.func28 rfl Tryz.ntmps28 kz fun a hE=>?_
 have hW:=WOk.start w Nil
 have hsm2:=Slots.small hs_
 refine qad [0,1,2] kz ?_
 refine qam (qbc hW hE (d:=4) (cs:=[.bool has,.string txt]) kz fun b1 a2 w3 hb4 hz5 hF6 hW7 hE8=>?_)
 refine qaj [1,2] [] [(1,.v (.int .i32 num)),(2,.v (.int .i64 v)),(3,.v (.slice A2 ((qah (IntKind.i16.wrap v) T).length) c2)),(4,.p 0 0)] hW7 hE8 fun a9 lr=>?_
 refine qae (qab ?_)
 refine qad [0,1] kz ?_
 refine qam (qa5 lr (f:=57) (vs:=[]) (d:=11) (n':=3) kz Tryz.call57 Tryz.func57 rfl Tryz.ntmps57 kz fun rT ls=>?_)
 refine qaq [] hW7 ls fun rU lu=>?_
 refine qad [0] kz ?_
 refine qam (qa9 hW7 lu (d:=1) (cs:=[.int .i16 0,.int .i32 0,.slice none 0 0,.bool false,.map none]) kz fun ac rV rW mD mF mG dY lv=>?_)
 refine qae (qab ?_)
 refine qad [0] kz ?_
 refine qam (qa5 lv (f:=97) (vs:=[.pointer (some ⟨ac,0,none⟩)]) (d:=2) (n':=5) kz Tryz.call97 Tryz.func97 rfl Tryz.ntmps97 kz fun rX lw=>?_)
 have lx:=lw.recast 0 (.v (.pointer (some ⟨ac,0,none⟩))) (.p 1 0) rfl rfl (Nat.le_of_ble_eq_true (n:=2) rfl)
 refine qar [0,1,2,3] kz ?_
 refine qaj [0,1,2] [3] [(4,.p 1 1)] dY lx fun rY ly=>?_
 refine qam (qaJ dY ly (oi:=1) (cs:=[.int .i16 0,.int .i32 60000,.slice none 0 0,.bool false,.map none]) kz fun rZ mH bF lz=>?_)
 refine qae ?_
 refine qb3 lz bF.cells (v:=.tuple #[]) kz ?_
 refine ⟨_,rfl,fun r0 lA=>?_⟩
 have lB:=(EnvOk.places (tb':=[⟨b1,0,[.bool has,.string txt],true⟩,⟨ac,0,[.int .i16 0,.int .i32 60000,.slice none 0 0,.bool false,.map none],true⟩]) lA (show Pl [⟨b1,0,[.bool has,.string txt],true⟩,⟨ac,0,[.int .i16 0,.int .i32 0,.slice none 0 0,.bool false,.map none],true⟩] [⟨b1,0,[.bool has,.string txt],true⟩,⟨ac,0,[.int .i16 0,.int .i32 60000,.slice none 0 0,.bool false,.map none],true⟩] from ⟨rfl,rfl,⟨rfl,rfl,trivial⟩⟩)).pk (env':=[(2,.v (.tuple #[])),(1,.p 1 0)])
 refine qae (qab ?_)
 refine qaq [(0,.p 1 0)] bF lB fun r2 lC=>?_
 refine wp_ret ?_
 refine qaB lC bF.cells (v:=.pointer (some ⟨ac,0,none⟩)) kz ?_
 refine ⟨_,rfl,fun r3 lD=>?_⟩
 have lE:=(EnvOk.places (tb':=[⟨b1,0,[.bool has,.string txt],true⟩,⟨ac,0,[.int .i16 0,.int .i32 60000,.slice none 0 0,.bool false,.map none],true⟩]) lD (show Pl [⟨b1,0,[.bool has,.string txt],true⟩] [⟨b1,0,[.bool has,.string txt],true⟩,⟨ac,0,[.int .i16 0,.int .i32 60000,.slice none 0 0,.bool false,.map none],true⟩] from ⟨rfl,rfl,trivial⟩)).pk (env':=[(11,.v (.pointer (some ⟨ac,0,none⟩))),(1,.v (.int .i32 num)),(2,.v (.int .i64 v)),(3,.v (.slice A2 ((qah (IntKind.i16.wrap v) T).length) c2)),(4,.p 0 0)])
 have lF:=lE.recast 11 (.v (.pointer (some ⟨ac,0,none⟩))) (.p 1 0) rfl rfl (Nat.le_of_ble_eq_true (n:=2) rfl)
 have lG:=lF.pick (ks:=[1,2,3,4,11]) (env':=[(1,.v (.int .i32 num)),(2,.v (.int .i64 v)),(3,.v (.slice A2 ((qah (IntKind.i16.wrap v) T).length) c2)),(4,.p 0 0),(11,.p 1 0)]) kz
 refine qaj [1] [] [(1,.v (.int .i32 num)),(2,.v (.int .i64 v)),(3,.v (.slice A2 ((qah (IntKind.i16.wrap v) T).length) c2)),(4,.p 0 0),(10,.p 1 0)] bF lG fun r4 lH=>?_
 refine qae (qab ?_)
 refine qad [0,1,2,3] kz ?_
 refine qaj [0,1,2] [3] [(1,.v (.int .i32 num)),(3,.v (.slice A2 ((qah (IntKind.i16.wrap v) T).length) c2)),(4,.p 0 0),(10,.p 1 0),(12,.p 1 0),(14,.v (.int .i16 (IntKind.i16.wrap v)))] bF lH fun r5 lI=>?_
 refine qam (qa5 lI (f:=60) (vs:=[.pointer (some ⟨ac,0,none⟩),.int .i16 (IntKind.i16.wrap v)]) (d:=15) (n':=8) kz Tryz.call60 Tryz.func60 rfl Tryz.ntmps60 kz fun r6 lJ=>?_)
 have lK:=lJ.recast 0 (.v (.pointer (some ⟨ac,0,none⟩))) (.p 1 0) rfl rfl (Nat.le_of_ble_eq_true (n:=2) rfl)
 refine qar [0,1,2,3,4] kz ?_
 refine qaj [0,1,2,3] [4] [(5,.v (.int .i16 (IntKind.i16.wrap v))),(7,.p 1 0)] bF lK fun r7 lL=>?_
 refine qam (qaJ bF lL (oi:=1) (cs:=[.int .i16 (IntKind.i16.wrap v),.int .i32 60000,.slice none 0 0,.bool false,.map none]) kz fun r8 mI cH lM=>?_)
 refine qae ?_
 refine qb3 lM cH.cells (v:=.tuple #[]) kz ?_
 refine ⟨_,rfl,fun r9 lN=>?_⟩
 have lO:=(EnvOk.places (tb':=[⟨b1,0,[.bool has,.string txt],true⟩,⟨ac,0,[.int .i16 (IntKind.i16.wrap v),.int .i32 60000,.slice none 0 0,.bool false,.map none],true⟩]) lN (show Pl [⟨b1,0,[.bool has,.string txt],true⟩,⟨ac,0,[.int .i16 0,.int .i32 60000,.slice none 0 0,.bool false,.map none],true⟩] [⟨b1,0,[.bool has,.string txt],true⟩,⟨ac,0,[.int .i16 (IntKind.i16.wrap v),.int .i32 60000,.slice none 0 0,.bool false,.map none],true⟩] from ⟨rfl,rfl,⟨rfl,rfl,trivial⟩⟩)).pk (env':=[(15,.v (.tuple #[])),(1,.v (.int .i32 num)),(3,.v (.slice A2 ((qah (IntKind.i16.wrap v) T).length) c2)),(4,.p 0 0),(10,.p 1 0),(12,.p 1 0),(14,.v (.int .i16 (IntKind.i16.wrap v)))])
 refine qae (qab ?_)
 refine wp_seq ?_
 refine qad [0,1,2,3,4] kz ?_
 refine qaj [0,1] [2,3,4] [(1,.v (.int .i32 num)),(4,.p 0 0),(10,.p 1 0),(16,.p 1 0),(17,.v (.slice A2 ((qah (IntKind.i16.wrap v) T).length) c2))] cH lO fun sa lP=>?_
 have cz:=cH.addNil 5 1
 have mJ:=cH.frNil 5 1
 refine qam (qaH cz lP (k:=0) (d:=18) (t:=24) (e:=5) (size:=1) (bytes:=1) (A:=none) (As:=A2) (m0:=0) (c:=0) (m:=((qah (IntKind.i16.wrap v) T).length)) (cs:=c2) (xs:=[]) (news:=bc (qah (IntKind.i16.wrap v) T)) kz kz rfl (hs_.move cz.step nilM cz.imm).src (hs_.move cz.step nilM cz.imm).cap (by first | omega | (simp only [List.length_append,List.length_cons,List.length_nil,be_length,qbC]; omega) | (simp; omega)) fun cv cw sc sd mK lQ lR=>?_)
 have lS:(⟨cv,cw,5,1,0 + (qah (IntKind.i16.wrap v) T).length,[] ++ bc (qah (IntKind.i16.wrap v) T)⟩:Rw) = brow cv cw 5 (qah (IntKind.i16.wrap v) T):=by rw [List.nil_append,Nat.zero_add]
 obtain ⟨cI,mL⟩:=lQ.rowEq 0 [brow cv cw 5 (qah (IntKind.i16.wrap v) T)] lS
 have lT:=EnvOk.pick lR (ks:=[1,4,10,16,17,18]) (env':=[(1,.v (.int .i32 num)),(4,.p 0 0),(10,.p 1 0),(16,.p 1 0),(17,.v (.slice A2 ((qah (IntKind.i16.wrap v) T).length) c2)),(18,.v (.slice cv (0 + (qah (IntKind.i16.wrap v) T).length) cw))]) kz
 have lU:=lT.cast (env':=[(1,.v (.int .i32 num)),(4,.p 0 0),(10,.p 1 0),(16,.p 1 0),(17,.v (.slice A2 ((qah (IntKind.i16.wrap v) T).length) c2)),(18,.v (.slice cv ((qah (IntKind.i16.wrap v) T).length) cw))]) (by simp only [List.length_append,List.length_cons,List.length_nil,Nat.zero_add])
 refine qam (qa5 lU (f:=61) (vs:=[.pointer (some ⟨ac,0,none⟩),.slice cv ((qah (IntKind.i16.wrap v) T).length) cw]) (d:=19) (n':=8) kz Tryz.call61 Tryz.func61 rfl Tryz.ntmps61 kz fun se lV=>?_)
 have lW:=lV.recast 0 (.v (.pointer (some ⟨ac,0,none⟩))) (.p 1 0) rfl rfl (Nat.le_of_ble_eq_true (n:=2) rfl)
 refine qaq [(0,.p 1 0),(1,.v (.slice cv ((qah (IntKind.i16.wrap v) T).length) cw))] cI lW fun sf lX=>?_
 refine qad [0,1,2,3] kz ?_
 refine qaj [0,1] [2,3] [(5,.p 1 0),(6,.v (.slice cv ((qah (IntKind.i16.wrap v) T).length) cw))] cI lX fun sg lY=>?_
 have lZ:=cI.giveUp (G:=F) 0 [] (show _ = some (brow cv cw 5 (qah (IntKind.i16.wrap v) T)) from rfl) (by omega)
 obtain ⟨dZ,mM⟩:=cI.cutR 0 []
 refine qam (qal lY (f:=98) (vs:=[.pointer (some ⟨ac,0,none⟩),.slice cv ((qah (IntKind.i16.wrap v) T).length) cw,.bool false]) (d:=7) kz Tryz.call98 (qc2 (IntKind.i16.wrap v) T (Str.of dZ 1 rfl) lZ (qlQ 1 rfl) hc hkey) ?_)
 rintro e_ sh ⟨aa,rfl,l0,l3,ba,d5⟩
 replace ba:=qc3 _ _ _ ba
 obtain ⟨cA,mN,l5⟩:=dZ.wrote 1 [⟨b1,0,[.bool has,.string txt],true⟩,⟨ac,0,[.int .i16 (IntKind.i16.wrap v),.int .i32 ((aa.f 0).n),.slice ((aa.f 1).A) ((aa.f 1).l) ((aa.f 1).c),.bool ((aa.f 2).b),.map aa.m],true⟩] rfl d5 l0
 have cJ:=qaS _ (Step.refl _ Nil) nilM l5 l3
 refine ⟨_,rfl,fun si l6=>?_⟩
 have l7:=(EnvOk.places (tb':=[⟨b1,0,[.bool has,.string txt],true⟩,⟨ac,0,[.int .i16 (IntKind.i16.wrap v),.int .i32 ((aa.f 0).n),.slice ((aa.f 1).A) ((aa.f 1).l) ((aa.f 1).c),.bool ((aa.f 2).b),.map aa.m],true⟩]) l6 (show Pl [⟨b1,0,[.bool has,.string txt],true⟩,⟨ac,0,[.int .i16 (IntKind.i16.wrap v),.int .i32 60000,.slice none 0 0,.bool false,.map none],true⟩] [⟨b1,0,[.bool has,.string txt],true⟩,⟨ac,0,[.int .i16 (IntKind.i16.wrap v),.int .i32 ((aa.f 0).n),.slice ((aa.f 1).A) ((aa.f 1).l) ((aa.f 1).c),.bool ((aa.f 2).b),.map aa.m],true⟩] from ⟨rfl,rfl,⟨rfl,rfl,trivial⟩⟩)).pk (env':=[(7,.v (.nilIface)),(5,.p 1 0),(6,.v (.slice cv ((qah (IntKind.i16.wrap v) T).length) cw))])
 have hv88l:=congrArg List.length ba
 refine qaj [3] [] [(4,.v (.nilIface))] cA l7 fun sj l9=>?_
 refine qae (qab ?_)
 refine wp_ret ?_
 refine qaB l9 cA.cells (v:=.nilIface) kz ?_
 refine ⟨_,rfl,fun sk d6=>?_⟩
 have d7:=(EnvOk.places (tb':=[⟨b1,0,[.bool has,.string txt],true⟩,⟨ac,0,[.int .i16 (IntKind.i16.wrap v),.int .i32 ((aa.f 0).n),.slice ((aa.f 1).A) ((aa.f 1).l) ((aa.f 1).c),.bool ((aa.f 2).b),.map aa.m],true⟩]) d6 (show Pl [⟨b1,0,[.bool has,.string txt],true⟩,⟨ac,0,[.int .i16 (IntKind.i16.wrap v),.int .i32 60000,.slice none 0 0,.bool false,.map none],true⟩] [⟨b1,0,[.bool has,.string txt],true⟩,⟨ac,0,[.int .i16 (IntKind.i16.wrap v),.int .i32 ((aa.f 0).n),.slice ((aa.f 1).A) ((aa.f 1).l) ((aa.f 1).c),.bool ((aa.f 2).b),.map aa.m],true⟩] from ⟨rfl,rfl,⟨rfl,rfl,trivial⟩⟩)).pk (env':=[(19,.v (.nilIface)),(1,.v (.int .i32 num)),(4,.p 0 0),(10,.p 1 0),(16,.p 1 0),(17,.v (.slice A2 ((qah (IntKind.i16.wrap v) T).length) c2)),(18,.v (.slice cv ((qah (IntKind.i16.wrap v) T).length) cw))])
 refine qaj [4] [] [(1,.v (.int .i32 num)),(4,.p 0 0),(10,.p 1 0),(20,.v (.bool false))] cA d7 fun mO cK=>?_
 refine qae (qab ?_)
 refine qat cK (b:=false) kz rfl ?_
 refine wp_skip ?_
 refine qab ?_
 refine qad [0,1,2,3,4,5,6] kz ?_
 refine qaj [0,1,2,3] [4,5,6] [(21,.v (.agg #[.bool has,.string txt])),(23,.v (.iface 63 (.pointer (some ⟨ac,0,none⟩)))),(24,.v (.int .i32 num))] cA cK fun mQ d8=>?_
 refine qam (qa5 d8 (f:=45) (vs:=[.agg #[.bool has,.string txt],.iface 63 (.pointer (some ⟨ac,0,none⟩)),.int .i32 num]) (d:=25) (n':=20) kz Tryz.call45 Tryz.func45 rfl Tryz.ntmps45 kz fun mR d9=>?_)
 refine qad [0,1] kz ?_
 refine qam (qbc cA d9 (d:=3) (cs:=[.bool has,.string txt]) kz fun af mS mT ma mc aP cB ea=>?_)
 refine qaj [1] [] [(1,.v (.iface 63 (.pointer (some ⟨ac,0,none⟩)))),(2,.v (.int .i32 num)),(3,.p 2 0)] cB ea fun mU eb=>?_
 refine qae (qab ?_)
 refine qad [0,1] kz ?_
 refine qam (qa5 eb (f:=89) (vs:=[.slice none 0 0]) (d:=8) (n':=18) kz Tryz.call89 Tryz.func89 rfl Tryz.ntmps89 kz fun mV ec=>?_)
 refine qaq [(0,.v (.slice none 0 0))] cB ec fun mW ee=>?_
 refine qad [0,1] kz ?_
 refine qam (qa9 cB ee (d:=6) (cs:=[.pointer none]) kz fun ae mX mY md me aQ av ef=>?_)
 refine qaj [1] [] [(0,.v (.slice none 0 0)),(3,.p 3 0)] av ef fun mZ eg=>?_
 refine qae (qab ?_)
 refine wp_seq ?_
 refine qaq [(3,.p 3 0),(7,.v (.slice none 0 0)),(8,.v (.int .i64 0)),(9,.v (.int .i64 0))] av eg fun m4 eh=>?_
 refine wp_block ?_
 refine wp_loop_rounds 1 ?_
 refine qfW ?_
 refine qaq [(3,.p 3 0),(7,.v (.slice none 0 0)),(8,.v (.int .i64 0)),(9,.v (.int .i64 0)),(10,.v (.bool false))] av eh fun m5 cL=>?_
 refine wp_seq ?_
 refine qat cL (b:=false) kz rfl ?_
 refine wp_exit ?_
 refine qax ?_
 refine qax ?_
 refine qaP ?_
 refine qab ?_
 refine qaq [(2,.p 3 0)] av cL fun m6 ei=>?_
 refine wp_ret ?_
 refine qaB ei av.cells (v:=.pointer (some ⟨ae,0,none⟩)) kz ?_
 refine ⟨_,rfl,fun m7 ej=>?_⟩
 have ek:=(EnvOk.places (tb':=[⟨b1,0,[.bool has,.string txt],true⟩,⟨ac,0,[.int .i16 (IntKind.i16.wrap v),.int .i32 ((aa.f 0).n),.slice ((aa.f 1).A) ((aa.f 1).l) ((aa.f 1).c),.bool ((aa.f 2).b),.map aa.m],true⟩,⟨af,0,[.bool has,.string txt],true⟩,⟨ae,0,[.pointer none],true⟩]) ej (show Pl [⟨b1,0,[.bool has,.string txt],true⟩,⟨ac,0,[.int .i16 (IntKind.i16.wrap v),.int .i32 ((aa.f 0).n),.slice ((aa.f 1).A) ((aa.f 1).l) ((aa.f 1).c),.bool ((aa.f 2).b),.map aa.m],true⟩,⟨af,0,[.bool has,.string txt],true⟩] [⟨b1,0,[.bool has,.string txt],true⟩,⟨ac,0,[.int .i16 (IntKind.i16.wrap v),.int .i32 ((aa.f 0).n),.slice ((aa.f 1).A) ((aa.f 1).l) ((aa.f 1).c),.bool ((aa.f 2).b),.map aa.m],true⟩,⟨af,0,[.bool has,.string txt],true⟩,⟨ae,0,[.pointer none],true⟩] from ⟨rfl,rfl,⟨rfl,rfl,⟨rfl,rfl,trivial⟩⟩⟩)).pk (env':=[(8,.v (.pointer (some ⟨ae,0,none⟩))),(1,.v (.iface 63 (.pointer (some ⟨ac,0,none⟩)))),(2,.v (.int .i32 num)),(3,.p 2 0)])
 have em:=ek.recast 8 (.v (.pointer (some ⟨ae,0,none⟩))) (.p 3 0) rfl rfl (Nat.le_of_ble_eq_true (n:=4) rfl)
 have eo:=em.pick (ks:=[1,2,3,8]) (env':=[(1,.v (.iface 63 (.pointer (some ⟨ac,0,none⟩)))),(2,.v (.int .i32 num)),(3,.p 2 0),(8,.p 3 0)]) kz
 refine qaj [1] [] [(1,.v (.iface 63 (.pointer (some ⟨ac,0,none⟩)))),(2,.v (.int .i32 num)),(3,.p 2 0),(7,.p 3 0)] av eo fun m8 ep=>?_
 refine qae (qab ?_)
 refine wp_seq ?_
 refine qaq [(1,.v (.iface 63 (.pointer (some ⟨ac,0,none⟩)))),(2,.v (.int .i32 num)),(3,.p 2 0),(7,.p 3 0),(10,.v (.bool has))] av ep fun m9 cC=>?_
 refine qaw cC (b:=has) kz (fun aJ=>?_) (fun aJ=>?_)
 ·
  refine qar [0,1,2,3,4,5] kz ?_
  refine qaj [0,1] [2,3,4,5] [(1,.v (.iface 63 (.pointer (some ⟨ac,0,none⟩)))),(2,.v (.int .i32 num)),(12,.v (.string txt))] av cC fun nf eu=>?_
  refine qam (qa5 eu (f:=90) (vs:=[.string txt]) (d:=13) (n':=6) kz Tryz.call90 Tryz.func90 rfl Tryz.ntmps90 kz fun ng ev=>?_)
  refine qad [0,1] kz ?_
  refine qam (qbc av ev (d:=1) (cs:=[.string txt]) kz fun ab nh ni mf mg bG bH ew=>?_)
  refine qaj [1] [] [(1,.p 4 0)] bH ew fun nj ey=>?_
  refine qae (qab ?_)
  refine qad [0,1,2,3] kz ?_
  refine qam (qfI ey (v:=.func (.func 131) #[] #[.pointer (some ⟨ab,0,none⟩)]) (d:=3) kz fun nk ez=>?_)
  refine qaj [1,2,3] [] [(2,.v (.iface 147 (.agg #[.func (.func 131) #[] #[.pointer (some ⟨ab,0,none⟩)]])))] bH ez fun nl eB=>?_
  refine qae (qab ?_)
  refine wp_ret ?_
  refine qaB eB bH.cells (v:=.iface 147 (.agg #[.func (.func 131) #[] #[.pointer (some ⟨ab,0,none⟩)]])) kz ?_
  refine ⟨_,rfl,fun np eC=>?_⟩
  have eD:=(EnvOk.places (tb':=[⟨b1,0,[.bool has,.string txt],true⟩,⟨ac,0,[.int .i16 (IntKind.i16.wrap v),.int .i32 ((aa.f 0).n),.slice ((aa.f 1).A) ((aa.f 1).l) ((aa.f 1).c),.bool ((aa.f 2).b),.map aa.m],true⟩,⟨af,0,[.bool has,.string txt],true⟩,⟨ae,0,[.pointer none],true⟩,⟨ab,0,[.string txt],true⟩]) eC (show Pl [⟨b1,0,[.bool has,.string txt],true⟩,⟨ac,0,[.int .i16 (IntKind.i16.wrap v),.int .i32 ((aa.f 0).n),.slice ((aa.f 1).A) ((aa.f 1).l) ((aa.f 1).c),.bool ((aa.f 2).b),.map aa.m],true⟩,⟨af,0,[.bool has,.string txt],true⟩,⟨ae,0,[.pointer none],true⟩] [⟨b1,0,[.bool has,.string txt],true⟩,⟨ac,0,[.int .i16 (IntKind.i16.wrap v),.int .i32 ((aa.f 0).n),.slice ((aa.f 1).A) ((aa.f 1).l) ((aa.f 1).c),.bool ((aa.f 2).b),.map aa.m],true⟩,⟨af,0,[.bool has,.string txt],true⟩,⟨ae,0,[.pointer none],true⟩,⟨ab,0,[.string txt],true⟩] from ⟨rfl,rfl,⟨rfl,rfl,⟨rfl,rfl,⟨rfl,rfl,trivial⟩⟩⟩⟩)).pk (env':=[(13,.v (.iface 147 (.agg #[.func (.func 131) #[] #[.pointer (some ⟨ab,0,none⟩)]]))),(1,.v (.iface 63 (.pointer (some ⟨ac,0,none⟩)))),(2,.v (.int .i32 num)),(12,.v (.string txt))])
  refine qam (qd2 bH eD (e:=96) (size:=1) (len:=1) (cs:=[.iface 147 (.agg #[.func (.func 131) #[] #[.pointer (some ⟨ab,0,none⟩)]])]) (d:=14) kz kz fun au nr ns mh mi bI cM eE=>?_)
  refine qam (qa5 eE (f:=89) (vs:=[.slice (some ⟨au,0,none⟩) 1 1]) (d:=15) (n':=18) kz Tryz.call89 Tryz.func89 rfl Tryz.ntmps89 kz fun nt eF=>?_)
  refine qaq [(0,.v (.slice (some ⟨au,0,none⟩) 1 1))] cM eF fun nu eG=>?_
  refine qad [0,1] kz ?_
  refine qam (qa9 cM eG (d:=6) (cs:=[.pointer none]) kz fun ag nv nw mj ml bJ bd eH=>?_)
  refine qaj [1] [] [(0,.v (.slice (some ⟨au,0,none⟩) 1 1)),(3,.p 5 0)] bd eH fun nx eI=>?_
  refine qae (qab ?_)
  refine wp_seq ?_
  refine qaq [(3,.p 5 0),(7,.v (.slice (some ⟨au,0,none⟩) 1 1)),(8,.v (.int .i64 1)),(9,.v (.int .i64 0))] bd eI fun ny eJ=>?_
  refine wp_block ?_
  refine wp_loop_rounds 2 ?_
  refine qfW ?_
  refine qaq [(3,.p 5 0),(7,.v (.slice (some ⟨au,0,none⟩) 1 1)),(8,.v (.int .i64 1)),(9,.v (.int .i64 0)),(10,.v (.bool true))] bd eJ fun nz cN=>?_
  refine wp_seq ?_
  refine qbF cN (b:=true) kz rfl ?_
  refine wp_skip ?_
  refine qab ?_
  refine wp_seq ?_
  refine wp_block ?_
  refine qad [0,1,2] kz ?_
  have dS:=qf5 (o:=0 * 1) (cs:=[.iface 147 (.agg #[.func (.func 131) #[] #[.pointer (some ⟨ab,0,none⟩)]])]) (bd.own 0 _ rfl) rfl (fun j_ v_ h_=>by simpa using h_)
  refine qam (qav cN (t:=142) (A:=(some ⟨au,0,none⟩)) (m:=1) (q:=0) (d:=11) kz (e:=96) (size:=1) (bytes:=16) kz (b:=au) (o:=0) (j:=0) rfl (rfl) (by omega) fun nA eK=>?_)
  refine qam (qaD eK (t:=96) (b:=au) (o:=0 + 0 * 1) (d:=12) kz (cs:=[.iface 147 (.agg #[.func (.func 131) #[] #[.pointer (some ⟨ab,0,none⟩)]])]) (v:=.iface 147 (.agg #[.func (.func 131) #[] #[.pointer (some ⟨ab,0,none⟩)]])) kz dS fun nB eL=>?_)
  refine qaj [2] [] [(3,.p 5 0),(5,.v (.iface 147 (.agg #[.func (.func 131) #[] #[.pointer (some ⟨ab,0,none⟩)]]))),(7,.v (.slice (some ⟨au,0,none⟩) 1 1)),(8,.v (.int .i64 1)),(9,.v (.int .i64 0))] bd eL fun nC eM=>?_
  refine qae (qab ?_)
  refine qar [0,1,2] kz ?_
  refine qaj [0,1] [2] [(3,.p 5 0),(7,.v (.slice (some ⟨au,0,none⟩) 1 1)),(8,.v (.int .i64 1)),(9,.v (.int .i64 0)),(13,.v (.iface 147 (.agg #[.func (.func 131) #[] #[.pointer (some ⟨ab,0,none⟩)]]))),(14,.p 5 0)] bd eM fun nD eN=>?_
  refine qam (qbY eN (t := 147) (v := (.agg #[.func (.func 131) #[] #[.pointer (some ⟨ab, 0, none⟩)]])) (v' := (.agg #[.func (.func 131) #[] #[.pointer (some ⟨ab, 0, none⟩)]])) (name := "pub-mailsack/pub/kmsg.apply") (f := 254) (vs := [.pointer (some ⟨ag, 0, none⟩)]) (d := 15) (n' := 8) kz (fun _ => by kernel_rfl) Tryz.call254 Tryz.func254 rfl Tryz.ntmps254 kz fun nE eO => ?_)
  have eP:=eO.recast 1 (.v (.pointer (some ⟨ag,0,none⟩))) (.p 5 0) rfl rfl (Nat.le_of_ble_eq_true (n:=6) rfl)
  refine qad [0] kz ?_
  refine qam (qbc bd eP (d:=2) (cs:=[.func (.func 131) #[] #[.pointer (some ⟨ab,0,none⟩)]]) kz fun ah nF nG mn mo bK cD eQ=>?_)
  refine qae (qab ?_)
  refine qar [0,1,2,3] kz ?_
  refine qaj [0,1,2] [3] [(5,.v (.func (.func 131) #[] #[.pointer (some ⟨ab,0,none⟩)])),(6,.p 5 0)] cD eQ fun nH eR=>?_
  refine qam (qa5 eR (f:=131) (vs:=[.pointer (some ⟨ag,0,none⟩),.pointer (some ⟨ab,0,none⟩)]) (d:=7) (n':=6) kz Tryz.call131 Tryz.func131 rfl Tryz.ntmps131 kz fun nI eS=>?_)
  have eT:=eS.recast 0 (.v (.pointer (some ⟨ag,0,none⟩))) (.p 5 0) rfl rfl (Nat.le_of_ble_eq_true (n:=6) rfl)
  have eU:=eT.recast 1 (.v (.pointer (some ⟨ab,0,none⟩))) (.p 4 0) rfl rfl (Nat.le_of_ble_eq_true (n:=5) rfl)
  refine qar [0,1,2,3] kz ?_
  refine qaj [0,1,2] [3] [(1,.p 4 0),(5,.p 5 0)] cD eU fun nJ eV=>?_
  refine qam (qaJ cD eV (oi:=5) (cs:=[.pointer (some ⟨ab,0,none⟩)]) kz fun nK bL aA eW=>?_)
  refine qae ?_
  refine qb3 eW aA.cells (v:=.tuple #[]) kz ?_
  refine ⟨_,rfl,fun nL eX=>?_⟩
  have eY:=(EnvOk.places (tb':=[⟨b1,0,[.bool has,.string txt],true⟩,⟨ac,0,[.int .i16 (IntKind.i16.wrap v),.int .i32 ((aa.f 0).n),.slice ((aa.f 1).A) ((aa.f 1).l) ((aa.f 1).c),.bool ((aa.f 2).b),.map aa.m],true⟩,⟨af,0,[.bool has,.string txt],true⟩,⟨ae,0,[.pointer none],true⟩,⟨ab,0,[.string txt],true⟩,⟨ag,0,[.pointer (some ⟨ab,0,none⟩)],true⟩,⟨ah,0,[.func (.func 131) #[] #[.pointer (some ⟨ab,0,none⟩)]],true⟩]) eX (show Pl [⟨b1,0,[.bool has,.string txt],true⟩,⟨ac,0,[.int .i16 (IntKind.i16.wrap v),.int .i32 ((aa.f 0).n),.slice ((aa.f 1).A) ((aa.f 1).l) ((aa.f 1).c),.bool ((aa.f 2).b),.map aa.m],true⟩,⟨af,0,[.bool has,.string txt],true⟩,⟨ae,0,[.pointer none],true⟩,⟨ab,0,[.string txt],true⟩,⟨ag,0,[.pointer none],true⟩,⟨ah,0,[.func (.func 131) #[] #[.pointer (some ⟨ab,0,none⟩)]],true⟩] [⟨b1,0,[.bool has,.string txt],true⟩,⟨ac,0,[.int .i16 (IntKind.i16.wrap v),.int .i32 ((aa.f 0).n),.slice ((aa.f 1).A) ((aa.f 1).l) ((aa.f 1).c),.bool ((aa.f 2).b),.map aa.m],true⟩,⟨af,0,[.bool has,.string txt],true⟩,⟨ae,0,[.pointer none],true⟩,⟨ab,0,[.string txt],true⟩,⟨ag,0,[.pointer (some ⟨ab,0,none⟩)],true⟩,⟨ah,0,[.func (.func 131) #[] #[.pointer (some ⟨ab,0,none⟩)]],true⟩] from ⟨rfl,rfl,⟨rfl,rfl,⟨rfl,rfl,⟨rfl,rfl,⟨rfl,rfl,⟨rfl,rfl,⟨rfl,rfl,trivial⟩⟩⟩⟩⟩⟩⟩)).pk (env':=[(7,.v (.tuple #[])),(5,.v (.func (.func 131) #[] #[.pointer (some ⟨ab,0,none⟩)])),(6,.p 5 0)])
  refine qae ?_
  refine qb3 eY aA.cells (v:=.tuple #[]) kz ?_
  refine ⟨_,rfl,fun nM eZ=>?_⟩
  have e9:=(EnvOk.places (tb':=[⟨b1,0,[.bool has,.string txt],true⟩,⟨ac,0,[.int .i16 (IntKind.i16.wrap v),.int .i32 ((aa.f 0).n),.slice ((aa.f 1).A) ((aa.f 1).l) ((aa.f 1).c),.bool ((aa.f 2).b),.map aa.m],true⟩,⟨af,0,[.bool has,.string txt],true⟩,⟨ae,0,[.pointer none],true⟩,⟨ab,0,[.string txt],true⟩,⟨ag,0,[.pointer (some ⟨ab,0,none⟩)],true⟩,⟨ah,0,[.func (.func 131) #[] #[.pointer (some ⟨ab,0,none⟩)]],true⟩]) eZ (show Pl [⟨b1,0,[.bool has,.string txt],true⟩,⟨ac,0,[.int .i16 (IntKind.i16.wrap v),.int .i32 ((aa.f 0).n),.slice ((aa.f 1).A) ((aa.f 1).l) ((aa.f 1).c),.bool ((aa.f 2).b),.map aa.m],true⟩,⟨af,0,[.bool has,.string txt],true⟩,⟨ae,0,[.pointer none],true⟩,⟨ab,0,[.string txt],true⟩,⟨ag,0,[.pointer none],true⟩] [⟨b1,0,[.bool has,.string txt],true⟩,⟨ac,0,[.int .i16 (IntKind.i16.wrap v),.int .i32 ((aa.f 0).n),.slice ((aa.f 1).A) ((aa.f 1).l) ((aa.f 1).c),.bool ((aa.f 2).b),.map aa.m],true⟩,⟨af,0,[.bool has,.string txt],true⟩,⟨ae,0,[.pointer none],true⟩,⟨ab,0,[.string txt],true⟩,⟨ag,0,[.pointer (some ⟨ab,0,none⟩)],true⟩,⟨ah,0,[.func (.func 131) #[] #[.pointer (some ⟨ab,0,none⟩)]],true⟩] from ⟨rfl,rfl,⟨rfl,rfl,⟨rfl,rfl,⟨rfl,rfl,⟨rfl,rfl,⟨rfl,rfl,trivial⟩⟩⟩⟩⟩⟩)).pk (env':=[(15,.v (.tuple #[])),(3,.p 5 0),(7,.v (.slice (some ⟨au,0,none⟩) 1 1)),(8,.v (.int .i64 1)),(9,.v (.int .i64 0)),(13,.v (.iface 147 (.agg #[.func (.func 131) #[] #[.pointer (some ⟨ab,0,none⟩)]]))),(14,.p 5 0)])
  refine qae ?_
  refine qaC ?_
  refine qab ?_
  refine qar [0,1] kz ?_
  refine qaj [0,1] [] [(3,.p 5 0),(7,.v (.slice (some ⟨au,0,none⟩) 1 1)),(8,.v (.int .i64 1)),(9,.v (.int .i64 1))] aA e9 fun nN fa=>?_
  refine qae (qab ?_)
  refine qfW ?_
  refine qaq [(3,.p 5 0),(7,.v (.slice (some ⟨au,0,none⟩) 1 1)),(8,.v (.int .i64 1)),(9,.v (.int .i64 1)),(10,.v (.bool false))] aA fa fun nO cO=>?_
  refine wp_seq ?_
  refine qat cO (b:=false) kz rfl ?_
  refine wp_exit ?_
  refine qax ?_
  refine qax ?_
  refine qaP ?_
  refine qab ?_
  refine qaq [(2,.p 5 0)] aA cO fun nP fb=>?_
  refine wp_ret ?_
  refine qaB fb aA.cells (v:=.pointer (some ⟨ag,0,none⟩)) kz ?_
  refine ⟨_,rfl,fun nQ fe=>?_⟩
  have ff:=(EnvOk.places (tb':=[⟨b1,0,[.bool has,.string txt],true⟩,⟨ac,0,[.int .i16 (IntKind.i16.wrap v),.int .i32 ((aa.f 0).n),.slice ((aa.f 1).A) ((aa.f 1).l) ((aa.f 1).c),.bool ((aa.f 2).b),.map aa.m],true⟩,⟨af,0,[.bool has,.string txt],true⟩,⟨ae,0,[.pointer none],true⟩,⟨ab,0,[.string txt],true⟩,⟨ag,0,[.pointer (some ⟨ab,0,none⟩)],true⟩,⟨ah,0,[.func (.func 131) #[] #[.pointer (some ⟨ab,0,none⟩)]],true⟩]) fe (show Pl [⟨b1,0,[.bool has,.string txt],true⟩,⟨ac,0,[.int .i16 (IntKind.i16.wrap v),.int .i32 ((aa.f 0).n),.slice ((aa.f 1).A) ((aa.f 1).l) ((aa.f 1).c),.bool ((aa.f 2).b),.map aa.m],true⟩,⟨af,0,[.bool has,.string txt],true⟩,⟨ae,0,[.pointer none],true⟩,⟨ab,0,[.string txt],true⟩] [⟨b1,0,[.bool has,.string txt],true⟩,⟨ac,0,[.int .i16 (IntKind.i16.wrap v),.int .i32 ((aa.f 0).n),.slice ((aa.f 1).A) ((aa.f 1).l) ((aa.f 1).c),.bool ((aa.f 2).b),.map aa.m],true⟩,⟨af,0,[.bool has,.string txt],true⟩,⟨ae,0,[.pointer none],true⟩,⟨ab,0,[.string txt],true⟩,⟨ag,0,[.pointer (some ⟨ab,0,none⟩)],true⟩,⟨ah,0,[.func (.func 131) #[] #[.pointer (some ⟨ab,0,none⟩)]],true⟩] from ⟨rfl,rfl,⟨rfl,rfl,⟨rfl,rfl,⟨rfl,rfl,⟨rfl,rfl,trivial⟩⟩⟩⟩⟩)).pk (env':=[(15,.v (.pointer (some ⟨ag,0,none⟩))),(1,.v (.iface 63 (.pointer (some ⟨ac,0,none⟩)))),(2,.v (.int .i32 num)),(12,.v (.string txt)),(13,.v (.iface 147 (.agg #[.func (.func 131) #[] #[.pointer (some ⟨ab,0,none⟩)]]))),(14,.v (.slice (some ⟨au,0,none⟩) 1 1))])
  have fg:=ff.recast 15 (.v (.pointer (some ⟨ag,0,none⟩))) (.p 5 0) rfl rfl (Nat.le_of_ble_eq_true (n:=6) rfl)
  have fh:=fg.pick (ks:=[1,2,12,13,14,15]) (env':=[(1,.v (.iface 63 (.pointer (some ⟨ac,0,none⟩)))),(2,.v (.int .i32 num)),(12,.v (.string txt)),(13,.v (.iface 147 (.agg #[.func (.func 131) #[] #[.pointer (some ⟨ab,0,none⟩)]]))),(14,.v (.slice (some ⟨au,0,none⟩) 1 1)),(15,.p 5 0)]) kz
  refine qaj [5] [] [(1,.v (.iface 63 (.pointer (some ⟨ac,0,none⟩)))),(2,.v (.int .i32 num)),(7,.p 5 0)] aA fh fun nR fi=>?_
  refine qae (qab ?_)
  refine qad [0,1,2,3,4] kz ?_
  refine qaj [0,1,2] [3,4] [(16,.p 5 0),(17,.v (.iface 63 (.pointer (some ⟨ac,0,none⟩)))),(18,.v (.int .i32 num))] aA fi fun nS fj=>?_
  refine qam (qa5 fj (f:=91) (vs:=[.pointer (some ⟨ag,0,none⟩),.slice none 0 0,.iface 63 (.pointer (some ⟨ac,0,none⟩)),.int .i32 num]) (d:=19) (n':=60) kz Tryz.call91 Tryz.func91 rfl Tryz.ntmps91 kz fun nT fk=>?_)
  have fl:=fk.recast 0 (.v (.pointer (some ⟨ag,0,none⟩))) (.p 5 0) rfl rfl (Nat.le_of_ble_eq_true (n:=6) rfl)
  refine qaq [(0,.p 5 0),(1,.v (.slice none 0 0)),(2,.v (.iface 63 (.pointer (some ⟨ac,0,none⟩)))),(3,.v (.int .i32 num))] aA fl fun nU fm=>?_
  refine qad [0,1,2,3] kz ?_
  refine qaj [0] [1,2,3] [(0,.p 5 0),(2,.v (.iface 63 (.pointer (some ⟨ac,0,none⟩)))),(3,.v (.int .i32 num)),(12,.v (.slice none 0 0))] aA fm fun nV fo=>?_
  have fq:=aA.addNil 5 1
  have bM:=aA.frNil 5 1
  refine qba fq fo (k:=1) (e:=5) (size:=1) (len:=4) (cs:=[.int .u8 0,.int .u8 0,.int .u8 0,.int .u8 0]) (d1:=13) (d:=14) kz (t:=24) (bytes:=1) kz (fun _=>by kernel_rfl) rfl kz (by first | omega | (simp only [List.length_append,List.length_cons,List.length_nil,be_length,qbC]; omega) | (simp; omega)) fun aD aE nW nX bN fr ⟨_,ft⟩=>?_
  have fu:(⟨aD,aE,5,1,([]:Bs).length + 4,bc ([]:Bs) ++ [.int .u8 0,.int .u8 0,.int .u8 0,.int .u8 0]⟩:Rw) = brow aD aE 5 (([]:Bs) ++ [by8 0,by8 0,by8 0,by8 0]):=qaU (by simp only [bc,List.map,qbf]; try rfl) rfl
  obtain ⟨aw,bO⟩:=fr.rowEq 1 [⟨some ⟨au,0,none⟩,1,96,1,1,[.iface 147 (.agg #[.func (.func 131) #[] #[.pointer (some ⟨ab,0,none⟩)]])]⟩,brow aD aE 5 (([]:Bs) ++ [by8 0,by8 0,by8 0,by8 0])] fu
  have fv:=EnvOk.pick ft (ks:=[0,2,3,12,14]) (env':=[(0,.p 5 0),(2,.v (.iface 63 (.pointer (some ⟨ac,0,none⟩)))),(3,.v (.int .i32 num)),(12,.v (.slice none 0 0)),(14,.v (.slice aD (([]:Bs).length + 4) aE))]) kz
  have fw:=fv.cast (env':=[(0,.p 5 0),(2,.v (.iface 63 (.pointer (some ⟨ac,0,none⟩)))),(3,.v (.int .i32 num)),(12,.v (.slice none 0 0)),(14,.v (.slice aD ((([]:Bs) ++ [by8 0,by8 0,by8 0,by8 0]).length) aE))]) (by simp only [List.length_append,List.length_cons,List.length_nil,Nat.zero_add])
  refine qaj [3] [] [(0,.p 5 0),(1,.v (.slice aD ((([]:Bs) ++ [by8 0,by8 0,by8 0,by8 0]).length) aE)),(2,.v (.iface 63 (.pointer (some ⟨ac,0,none⟩)))),(3,.v (.int .i32 num))] aw fw fun nY fx=>?_
  refine qae (qab ?_)
  refine qad [0,1,2] kz ?_
  refine qaj [0] [1,2] [(0,.p 5 0),(1,.v (.slice aD ((([]:Bs) ++ [by8 0,by8 0,by8 0,by8 0]).length) aE)),(2,.v (.iface 63 (.pointer (some ⟨ac,0,none⟩)))),(3,.v (.int .i32 num)),(15,.v (.iface 63 (.pointer (some ⟨ac,0,none⟩))))] aw fx fun nZ fy=>?_
  refine qam (qbY fy (t := 63) (v := (.pointer (some ⟨ac, 0, none⟩))) (v' := (.pointer (some ⟨ac, 0, none⟩))) (name := "Key") (f := 238) (vs := []) (d := 16) (n' := 3) kz (fun _ => by kernel_rfl) Tryz.call238 Tryz.func238 rfl Tryz.ntmps238 kz fun n0 fz => ?_)
  have fA:=fz.recast 0 (.v (.pointer (some ⟨ac,0,none⟩))) (.p 1 0) rfl rfl (Nat.le_of_ble_eq_true (n:=2) rfl)
  refine qaq [] aw fA fun n4 fB=>?_
  refine qaq [(2,.v (.int .i16 57))] aw fB fun n5 fC=>?_
  refine wp_ret ?_
  refine qaB fC aw.cells (v:=.int .i16 57) kz ?_
  refine ⟨_,rfl,fun n8 fD=>?_⟩
  have fE:=(EnvOk.places (tb':=[⟨b1,0,[.bool has,.string txt],true⟩,⟨ac,0,[.int .i16 (IntKind.i16.wrap v),.int .i32 ((aa.f 0).n),.slice ((aa.f 1).A) ((aa.f 1).l) ((aa.f 1).c),.bool ((aa.f 2).b),.map aa.m],true⟩,⟨af,0,[.bool has,.string txt],true⟩,⟨ae,0,[.pointer none],true⟩,⟨ab,0,[.string txt],true⟩,⟨ag,0,[.pointer (some ⟨ab,0,none⟩)],true⟩,⟨ah,0,[.func (.func 131) #[] #[.pointer (some ⟨ab,0,none⟩)]],true⟩]) fD (show Pl [⟨b1,0,[.bool has,.string txt],true⟩,⟨ac,0,[.int .i16 (IntKind.i16.wrap v),.int .i32 ((aa.f 0).n),.slice ((aa.f 1).A) ((aa.f 1).l) ((aa.f 1).c),.bool ((aa.f 2).b),.map aa.m],true⟩,⟨af,0,[.bool has,.string txt],true⟩,⟨ae,0,[.pointer none],true⟩,⟨ab,0,[.string txt],true⟩,⟨ag,0,[.pointer (some ⟨ab,0,none⟩)],true⟩,⟨ah,0,[.func (.func 131) #[] #[.pointer (some ⟨ab,0,none⟩)]],true⟩] [⟨b1,0,[.bool has,.string txt],true⟩,⟨ac,0,[.int .i16 (IntKind.i16.wrap v),.int .i32 ((aa.f 0).n),.slice ((aa.f 1).A) ((aa.f 1).l) ((aa.f 1).c),.bool ((aa.f 2).b),.map aa.m],true⟩,⟨af,0,[.bool has,.string txt],true⟩,⟨ae,0,[.pointer none],true⟩,⟨ab,0,[.string txt],true⟩,⟨ag,0,[.pointer (some ⟨ab,0,none⟩)],true⟩,⟨ah,0,[.func (.func 131) #[] #[.pointer (some ⟨ab,0,none⟩)]],true⟩] from ⟨rfl,rfl,⟨rfl,rfl,⟨rfl,rfl,⟨rfl,rfl,⟨rfl,rfl,⟨rfl,rfl,⟨rfl,rfl,trivial⟩⟩⟩⟩⟩⟩⟩)).pk (env':=[(16,.v (.int .i16 57)),(0,.p 5 0),(1,.v (.slice aD ((([]:Bs) ++ [by8 0,by8 0,by8 0,by8 0]).length) aE)),(2,.v (.iface 63 (.pointer (some ⟨ac,0,none⟩)))),(3,.v (.int .i32 num)),(15,.v (.iface 63 (.pointer (some ⟨ac,0,none⟩))))])
  refine qaj [2] [] [(0,.p 5 0),(1,.v (.slice aD ((([]:Bs) ++ [by8 0,by8 0,by8 0,by8 0]).length) aE)),(2,.v (.iface 63 (.pointer (some ⟨ac,0,none⟩)))),(3,.v (.int .i32 num)),(9,.v (.int .i16 57))] aw fE fun oa fF=>?_
  refine qae (qab ?_)
  refine qad [0,1,2] kz ?_
  refine qaj [0] [1,2] [(0,.p 5 0),(1,.v (.slice aD ((([]:Bs) ++ [by8 0,by8 0,by8 0,by8 0]).length) aE)),(2,.v (.iface 63 (.pointer (some ⟨ac,0,none⟩)))),(3,.v (.int .i32 num)),(9,.v (.int .i16 57)),(17,.v (.iface 63 (.pointer (some ⟨ac,0,none⟩))))] aw fF fun od fG=>?_
  refine qam (qbY fG (t := 63) (v := (.pointer (some ⟨ac, 0, none⟩))) (v' := (.pointer (some ⟨ac, 0, none⟩))) (name := "GetVersion") (f := 236) (vs := []) (d := 18) (n' := 7) kz (fun _ => by kernel_rfl) Tryz.call236 Tryz.func236 rfl Tryz.ntmps236 kz fun oe fH => ?_)
  have fI:=fH.recast 0 (.v (.pointer (some ⟨ac,0,none⟩))) (.p 1 0) rfl rfl (Nat.le_of_ble_eq_true (n:=2) rfl)
  refine qaq [(0,.p 1 0)] aw fI fun og fJ=>?_
  refine qaq [(2,.v (.int .i16 (IntKind.i16.wrap v)))] aw fJ fun oh fK=>?_
  refine wp_ret ?_
  refine qaB fK aw.cells (v:=.int .i16 (IntKind.i16.wrap v)) kz ?_
  refine ⟨_,rfl,fun ol fL=>?_⟩
  have fM:=(EnvOk.places (tb':=[⟨b1,0,[.bool has,.string txt],true⟩,⟨ac,0,[.int .i16 (IntKind.i16.wrap v),.int .i32 ((aa.f 0).n),.slice ((aa.f 1).A) ((aa.f 1).l) ((aa.f 1).c),.bool ((aa.f 2).b),.map aa.m],true⟩,⟨af,0,[.bool has,.string txt],true⟩,⟨ae,0,[.pointer none],true⟩,⟨ab,0,[.string txt],true⟩,⟨ag,0,[.pointer (some ⟨ab,0,none⟩)],true⟩,⟨ah,0,[.func (.func 131) #[] #[.pointer (some ⟨ab,0,none⟩)]],true⟩]) fL (show Pl [⟨b1,0,[.bool has,.string txt],true⟩,⟨ac,0,[.int .i16 (IntKind.i16.wrap v),.int .i32 ((aa.f 0).n),.slice ((aa.f 1).A) ((aa.f 1).l) ((aa.f 1).c),.bool ((aa.f 2).b),.map aa.m],true⟩,⟨af,0,[.bool has,.string txt],true⟩,⟨ae,0,[.pointer none],true⟩,⟨ab,0,[.string txt],true⟩,⟨ag,0,[.pointer (some ⟨ab,0,none⟩)],true⟩,⟨ah,0,[.func (.func 131) #[] #[.pointer (some ⟨ab,0,none⟩)]],true⟩] [⟨b1,0,[.bool has,.string txt],true⟩,⟨ac,0,[.int .i16 (IntKind.i16.wrap v),.int .i32 ((aa.f 0).n),.slice ((aa.f 1).A) ((aa.f 1).l) ((aa.f 1).c),.bool ((aa.f 2).b),.map aa.m],true⟩,⟨af,0,[.bool has,.string txt],true⟩,⟨ae,0,[.pointer none],true⟩,⟨ab,0,[.string txt],true⟩,⟨ag,0,[.pointer (some ⟨ab,0,none⟩)],true⟩,⟨ah,0,[.func (.func 131) #[] #[.pointer (some ⟨ab,0,none⟩)]],true⟩] from ⟨rfl,rfl,⟨rfl,rfl,⟨rfl,rfl,⟨rfl,rfl,⟨rfl,rfl,⟨rfl,rfl,⟨rfl,rfl,trivial⟩⟩⟩⟩⟩⟩⟩)).pk (env':=[(18,.v (.int .i16 (IntKind.i16.wrap v))),(0,.p 5 0),(1,.v (.slice aD ((([]:Bs) ++ [by8 0,by8 0,by8 0,by8 0]).length) aE)),(2,.v (.iface 63 (.pointer (some ⟨ac,0,none⟩)))),(3,.v (.int .i32 num)),(9,.v (.int .i16 57)),(17,.v (.iface 63 (.pointer (some ⟨ac,0,none⟩))))])
  refine qaj [2] [] [(0,.p 5 0),(1,.v (.slice aD ((([]:Bs) ++ [by8 0,by8 0,by8 0,by8 0]).length) aE)),(2,.v (.iface 63 (.pointer (some ⟨ac,0,none⟩)))),(3,.v (.int .i32 num)),(9,.v (.int .i16 57)),(10,.v (.int .i16 (IntKind.i16.wrap v)))] aw fM fun om fN=>?_
  refine qae (qab ?_)
  refine qad [0,1,2,3] kz ?_
  refine qaj [0,1] [2,3] [(0,.p 5 0),(2,.v (.iface 63 (.pointer (some ⟨ac,0,none⟩)))),(3,.v (.int .i32 num)),(9,.v (.int .i16 57)),(10,.v (.int .i16 (IntKind.i16.wrap v))),(19,.v (.slice aD ((([]:Bs) ++ [by8 0,by8 0,by8 0,by8 0]).length) aE)),(20,.v (.int .i16 57))] aw fN fun oq fO=>?_
  refine qam (qal fO (f:=132) (vs:=[.slice aD ((([]:Bs) ++ [by8 0,by8 0,by8 0,by8 0]).length) aE,.int .i16 57]) (d:=21) kz Tryz.call132 (qbV aD aE (([]:Bs) ++ [by8 0,by8 0,by8 0,by8 0]) 57 _ (aw.own 1 _ rfl) (by first | omega | (simp only [List.length_append,List.length_cons,List.length_nil,be_length,qbC]; omega) | (simp; omega))) ?_)
  rintro e_ ot ⟨bw,bx,rfl,fP,cP,cQ⟩
  refine ⟨_,rfl,fun ou fQ=>?_⟩
  have bP:WOk _ _ _ _ [⟨some ⟨au,0,none⟩,1,96,1,1,[.iface 147 (.agg #[.func (.func 131) #[] #[.pointer (some ⟨ab,0,none⟩)]])]⟩,brow bw bx 5 (([]:Bs) ++ [by8 0,by8 0,by8 0,by8 0] ++ be 2 57)]:=aw.grow (k:=1) rfl cP fP cQ
  have bQ:Fr _ [⟨b1,0,[.bool has,.string txt],true⟩,⟨ac,0,[.int .i16 (IntKind.i16.wrap v),.int .i32 ((aa.f 0).n),.slice ((aa.f 1).A) ((aa.f 1).l) ((aa.f 1).c),.bool ((aa.f 2).b),.map aa.m],true⟩,⟨af,0,[.bool has,.string txt],true⟩,⟨ae,0,[.pointer none],true⟩,⟨ab,0,[.string txt],true⟩,⟨ag,0,[.pointer (some ⟨ab,0,none⟩)],true⟩,⟨ah,0,[.func (.func 131) #[] #[.pointer (some ⟨ab,0,none⟩)]],true⟩] [⟨some ⟨au,0,none⟩,1,96,1,1,[.iface 147 (.agg #[.func (.func 131) #[] #[.pointer (some ⟨ab,0,none⟩)]])]⟩,brow aD aE 5 (([]:Bs) ++ [by8 0,by8 0,by8 0,by8 0])] _ [⟨b1,0,[.bool has,.string txt],true⟩,⟨ac,0,[.int .i16 (IntKind.i16.wrap v),.int .i32 ((aa.f 0).n),.slice ((aa.f 1).A) ((aa.f 1).l) ((aa.f 1).c),.bool ((aa.f 2).b),.map aa.m],true⟩,⟨af,0,[.bool has,.string txt],true⟩,⟨ae,0,[.pointer none],true⟩,⟨ab,0,[.string txt],true⟩,⟨ag,0,[.pointer (some ⟨ab,0,none⟩)],true⟩,⟨ah,0,[.func (.func 131) #[] #[.pointer (some ⟨ab,0,none⟩)]],true⟩] [⟨some ⟨au,0,none⟩,1,96,1,1,[.iface 147 (.agg #[.func (.func 131) #[] #[.pointer (some ⟨ab,0,none⟩)]])]⟩,brow bw bx 5 (([]:Bs) ++ [by8 0,by8 0,by8 0,by8 0] ++ be 2 57)]:=Fr.grow _ (k:=1) (r':=(brow bw bx 5 (([]:Bs) ++ [by8 0,by8 0,by8 0,by8 0] ++ be 2 57))) rfl cP cQ
  refine qaj [3] [] [(0,.p 5 0),(1,.v (.slice bw ((([]:Bs) ++ [by8 0,by8 0,by8 0,by8 0] ++ be 2 57).length) bx)),(2,.v (.iface 63 (.pointer (some ⟨ac,0,none⟩)))),(3,.v (.int .i32 num)),(9,.v (.int .i16 57)),(10,.v (.int .i16 (IntKind.i16.wrap v)))] bP fQ fun ov fR=>?_
  refine qae (qab ?_)
  refine qad [0,1,2,3] kz ?_
  refine qaj [0,1] [2,3] [(0,.p 5 0),(2,.v (.iface 63 (.pointer (some ⟨ac,0,none⟩)))),(3,.v (.int .i32 num)),(9,.v (.int .i16 57)),(10,.v (.int .i16 (IntKind.i16.wrap v))),(22,.v (.slice bw ((([]:Bs) ++ [by8 0,by8 0,by8 0,by8 0] ++ be 2 57).length) bx)),(23,.v (.int .i16 (IntKind.i16.wrap v)))] bP fR fun ow fS=>?_
  refine qam (qal fS (f:=132) (vs:=[.slice bw ((([]:Bs) ++ [by8 0,by8 0,by8 0,by8 0] ++ be 2 57).length) bx,.int .i16 (IntKind.i16.wrap v)]) (d:=24) kz Tryz.call132 (qbV bw bx (([]:Bs) ++ [by8 0,by8 0,by8 0,by8 0] ++ be 2 57) (IntKind.i16.wrap v) _ (bP.own 1 _ rfl) (by first | omega | (simp only [List.length_append,List.length_cons,List.length_nil,be_length,qbC]; omega) | (simp; omega))) ?_)
  rintro e_ ox ⟨bz,bA,rfl,fT,cR,cS⟩
  refine ⟨_,rfl,fun oy fU=>?_⟩
  have bR:WOk _ _ _ _ [⟨some ⟨au,0,none⟩,1,96,1,1,[.iface 147 (.agg #[.func (.func 131) #[] #[.pointer (some ⟨ab,0,none⟩)]])]⟩,brow bz bA 5 (([]:Bs) ++ [by8 0,by8 0,by8 0,by8 0] ++ be 2 57 ++ be 2 (IntKind.i16.wrap v))]:=bP.grow (k:=1) rfl cR fT cS
  have bS:Fr _ [⟨b1,0,[.bool has,.string txt],true⟩,⟨ac,0,[.int .i16 (IntKind.i16.wrap v),.int .i32 ((aa.f 0).n),.slice ((aa.f 1).A) ((aa.f 1).l) ((aa.f 1).c),.bool ((aa.f 2).b),.map aa.m],true⟩,⟨af,0,[.bool has,.string txt],true⟩,⟨ae,0,[.pointer none],true⟩,⟨ab,0,[.string txt],true⟩,⟨ag,0,[.pointer (some ⟨ab,0,none⟩)],true⟩,⟨ah,0,[.func (.func 131) #[] #[.pointer (some ⟨ab,0,none⟩)]],true⟩] [⟨some ⟨au,0,none⟩,1,96,1,1,[.iface 147 (.agg #[.func (.func 131) #[] #[.pointer (some ⟨ab,0,none⟩)]])]⟩,brow bw bx 5 (([]:Bs) ++ [by8 0,by8 0,by8 0,by8 0] ++ be 2 57)] _ [⟨b1,0,[.bool has,.string txt],true⟩,⟨ac,0,[.int .i16 (IntKind.i16.wrap v),.int .i32 ((aa.f 0).n),.slice ((aa.f 1).A) ((aa.f 1).l) ((aa.f 1).c),.bool ((aa.f 2).b),.map aa.m],true⟩,⟨af,0,[.bool has,.string txt],true⟩,⟨ae,0,[.pointer none],true⟩,⟨ab,0,[.string txt],true⟩,⟨ag,0,[.pointer (some ⟨ab,0,none⟩)],true⟩,⟨ah,0,[.func (.func 131) #[] #[.pointer (some ⟨ab,0,none⟩)]],true⟩] [⟨some ⟨au,0,none⟩,1,96,1,1,[.iface 147 (.agg #[.func (.func 131) #[] #[.pointer (some ⟨ab,0,none⟩)]])]⟩,brow bz bA 5 (([]:Bs) ++ [by8 0,by8 0,by8 0,by8 0] ++ be 2 57 ++ be 2 (IntKind.i16.wrap v))]:=Fr.grow _ (k:=1) (r':=(brow bz bA 5 (([]:Bs) ++ [by8 0,by8 0,by8 0,by8 0] ++ be 2 57 ++ be 2 (IntKind.i16.wrap v)))) rfl cR cS
  refine qaj [3] [] [(0,.p 5 0),(1,.v (.slice bz ((([]:Bs) ++ [by8 0,by8 0,by8 0,by8 0] ++ be 2 57 ++ be 2 (IntKind.i16.wrap v)).length) bA)),(2,.v (.iface 63 (.pointer (some ⟨ac,0,none⟩)))),(3,.v (.int .i32 num)),(9,.v (.int .i16 57)),(10,.v (.int .i16 (IntKind.i16.wrap v)))] bR fU fun oz fV=>?_
  refine qae (qab ?_)
  refine qad [0,1,2,3] kz ?_
  refine qaj [0,1] [2,3] [(0,.p 5 0),(2,.v (.iface 63 (.pointer (some ⟨ac,0,none⟩)))),(9,.v (.int .i16 57)),(10,.v (.int .i16 (IntKind.i16.wrap v))),(25,.v (.slice bz ((([]:Bs) ++ [by8 0,by8 0,by8 0,by8 0] ++ be 2 57 ++ be 2 (IntKind.i16.wrap v)).length) bA)),(26,.v (.int .i32 num))] bR fV fun oA fW=>?_
  refine qam (qal fW (f:=133) (vs:=[.slice bz ((([]:Bs) ++ [by8 0,by8 0,by8 0,by8 0] ++ be 2 57 ++ be 2 (IntKind.i16.wrap v)).length) bA,.int .i32 num]) (d:=27) kz Tryz.call133 (qcH bz bA (([]:Bs) ++ [by8 0,by8 0,by8 0,by8 0] ++ be 2 57 ++ be 2 (IntKind.i16.wrap v)) num _ (bR.own 1 _ rfl) (by first | omega | (simp only [List.length_append,List.length_cons,List.length_nil,be_length,qbC]; omega) | (simp; omega))) ?_)
  rintro e_ oB ⟨aK,aL,rfl,fX,cT,cU⟩
  refine ⟨_,rfl,fun oC fY=>?_⟩
  have aM:WOk _ _ _ _ [⟨some ⟨au,0,none⟩,1,96,1,1,[.iface 147 (.agg #[.func (.func 131) #[] #[.pointer (some ⟨ab,0,none⟩)]])]⟩,brow aK aL 5 (([]:Bs) ++ [by8 0,by8 0,by8 0,by8 0] ++ be 2 57 ++ be 2 (IntKind.i16.wrap v) ++ be 4 num)]:=bR.grow (k:=1) rfl cT fX cU
  have bT:Fr _ [⟨b1,0,[.bool has,.string txt],true⟩,⟨ac,0,[.int .i16 (IntKind.i16.wrap v),.int .i32 ((aa.f 0).n),.slice ((aa.f 1).A) ((aa.f 1).l) ((aa.f 1).c),.bool ((aa.f 2).b),.map aa.m],true⟩,⟨af,0,[.bool has,.string txt],true⟩,⟨ae,0,[.pointer none],true⟩,⟨ab,0,[.string txt],true⟩,⟨ag,0,[.pointer (some ⟨ab,0,none⟩)],true⟩,⟨ah,0,[.func (.func 131) #[] #[.pointer (some ⟨ab,0,none⟩)]],true⟩] [⟨some ⟨au,0,none⟩,1,96,1,1,[.iface 147 (.agg #[.func (.func 131) #[] #[.pointer (some ⟨ab,0,none⟩)]])]⟩,brow bz bA 5 (([]:Bs) ++ [by8 0,by8 0,by8 0,by8 0] ++ be 2 57 ++ be 2 (IntKind.i16.wrap v))] _ [⟨b1,0,[.bool has,.string txt],true⟩,⟨ac,0,[.int .i16 (IntKind.i16.wrap v),.int .i32 ((aa.f 0).n),.slice ((aa.f 1).A) ((aa.f 1).l) ((aa.f 1).c),.bool ((aa.f 2).b),.map aa.m],true⟩,⟨af,0,[.bool has,.string txt],true⟩,⟨ae,0,[.pointer none],true⟩,⟨ab,0,[.string txt],true⟩,⟨ag,0,[.pointer (some ⟨ab,0,none⟩)],true⟩,⟨ah,0,[.func (.func 131) #[] #[.pointer (some ⟨ab,0,none⟩)]],true⟩] [⟨some ⟨au,0,none⟩,1,96,1,1,[.iface 147 (.agg #[.func (.func 131) #[] #[.pointer (some ⟨ab,0,none⟩)]])]⟩,brow aK aL 5 (([]:Bs) ++ [by8 0,by8 0,by8 0,by8 0] ++ be 2 57 ++ be 2 (IntKind.i16.wrap v) ++ be 4 num)]:=Fr.grow _ (k:=1) (r':=(brow aK aL 5 (([]:Bs) ++ [by8 0,by8 0,by8 0,by8 0] ++ be 2 57 ++ be 2 (IntKind.i16.wrap v) ++ be 4 num))) rfl cT cU
  refine qaj [3] [] [(0,.p 5 0),(1,.v (.slice aK ((([]:Bs) ++ [by8 0,by8 0,by8 0,by8 0] ++ be 2 57 ++ be 2 (IntKind.i16.wrap v) ++ be 4 num).length) aL)),(2,.v (.iface 63 (.pointer (some ⟨ac,0,none⟩)))),(9,.v (.int .i16 57)),(10,.v (.int .i16 (IntKind.i16.wrap v)))] aM fY fun oD fZ=>?_
  refine qae (qab ?_)
  refine wp_seq ?_
  refine qaq [(0,.p 5 0),(1,.v (.slice aK ((([]:Bs) ++ [by8 0,by8 0,by8 0,by8 0] ++ be 2 57 ++ be 2 (IntKind.i16.wrap v) ++ be 4 num).length) aL)),(2,.v (.iface 63 (.pointer (some ⟨ac,0,none⟩)))),(33,.v (.bool false))] aM fZ fun oE cV=>?_
  refine qat cV (b:=false) kz rfl ?_
  refine wp_skip ?_
  refine qab ?_
  refine qad [0,1,2,3,4,5,6] kz ?_
  refine qaj [0,1,2,3,4] [5,6] [(2,.v (.iface 63 (.pointer (some ⟨ac,0,none⟩)))),(35,.v (.slice aK ((([]:Bs) ++ [by8 0,by8 0,by8 0,by8 0] ++ be 2 57 ++ be 2 (IntKind.i16.wrap v) ++ be 4 num).length) aL)),(39,.v (.pointer (some ⟨ab,0,none⟩)))] aM cV fun oF f5=>?_
  refine qam (qa5 f5 (f:=134) (vs:=[.slice aK ((([]:Bs) ++ [by8 0,by8 0,by8 0,by8 0] ++ be 2 57 ++ be 2 (IntKind.i16.wrap v) ++ be 4 num).length) aL,.pointer (some ⟨ab,0,none⟩)]) (d:=40) (n':=14) kz Tryz.call134 Tryz.func134 rfl Tryz.ntmps134 kz fun oG f7=>?_)
  refine qaq [(0,.v (.slice aK ((([]:Bs) ++ [by8 0,by8 0,by8 0,by8 0] ++ be 2 57 ++ be 2 (IntKind.i16.wrap v) ++ be 4 num).length) aL)),(1,.v (.pointer (some ⟨ab,0,none⟩)))] aM f7 fun oH f8=>?_
  refine wp_seq ?_
  refine qaq [(0,.v (.slice aK ((([]:Bs) ++ [by8 0,by8 0,by8 0,by8 0] ++ be 2 57 ++ be 2 (IntKind.i16.wrap v) ++ be 4 num).length) aL)),(1,.v (.pointer (some ⟨ab,0,none⟩))),(6,.v (.bool false))] aM f8 fun oI cW=>?_
  refine qat cW (b:=false) kz rfl ?_
  refine wp_skip ?_
  refine qab ?_
  refine qad [0,1,2,3,4,5] kz ?_
  refine qaj [0,1,2] [3,4,5] [(9,.v (.slice aK ((([]:Bs) ++ [by8 0,by8 0,by8 0,by8 0] ++ be 2 57 ++ be 2 (IntKind.i16.wrap v) ++ be 4 num).length) aL)),(11,.v (.pointer (some ⟨ab,0,none⟩)))] aM cW fun oJ f9=>?_
  have dT:=(Str.of aM 4 rfl).atF.at_
  refine qam (qaD f9 (t:=9) (b:=ab) (o:=0) (d:=12) kz (cs:=[.string txt]) (v:=.string txt) kz dT fun oK ga=>?_)
  refine qam (qal ga (f:=156) (vs:=[.slice aK ((([]:Bs) ++ [by8 0,by8 0,by8 0,by8 0] ++ be 2 57 ++ be 2 (IntKind.i16.wrap v) ++ be 4 num).length) aL,.string txt]) (d:=13) kz Tryz.call156 (qee txt aK aL (([]:Bs) ++ [by8 0,by8 0,by8 0,by8 0] ++ be 2 57 ++ be 2 (IntKind.i16.wrap v) ++ be 4 num) _ (aM.own 1 _ rfl) (by first | omega | (simp only [List.length_append,List.length_cons,List.length_nil,be_length,qbC]; omega) | (simp; omega))) ?_)
  rintro e_ oL ⟨aF,aG,rfl,gb,cX,cY⟩
  refine ⟨_,rfl,fun oM gc=>?_⟩
  have ax:WOk _ _ _ _ [⟨some ⟨au,0,none⟩,1,96,1,1,[.iface 147 (.agg #[.func (.func 131) #[] #[.pointer (some ⟨ab,0,none⟩)]])]⟩,brow aF aG 5 ((([]:Bs) ++ [by8 0,by8 0,by8 0,by8 0] ++ be 2 57 ++ be 2 (IntKind.i16.wrap v) ++ be 4 num) ++ (be 2 txt.size ++ sb txt))]:=aM.grow (k:=1) rfl cX gb cY
  have bU:=Fr.grow [⟨b1,0,[.bool has,.string txt],true⟩,⟨ac,0,[.int .i16 (IntKind.i16.wrap v),.int .i32 ((aa.f 0).n),.slice ((aa.f 1).A) ((aa.f 1).l) ((aa.f 1).c),.bool ((aa.f 2).b),.map aa.m],true⟩,⟨af,0,[.bool has,.string txt],true⟩,⟨ae,0,[.pointer none],true⟩,⟨ab,0,[.string txt],true⟩,⟨ag,0,[.pointer (some ⟨ab,0,none⟩)],true⟩,⟨ah,0,[.func (.func 131) #[] #[.pointer (some ⟨ab,0,none⟩)]],true⟩] (k:=1) (rs:=[⟨some ⟨au,0,none⟩,1,96,1,1,[.iface 147 (.agg #[.func (.func 131) #[] #[.pointer (some ⟨ab,0,none⟩)]])]⟩,brow aK aL 5 (([]:Bs) ++ [by8 0,by8 0,by8 0,by8 0] ++ be 2 57 ++ be 2 (IntKind.i16.wrap v) ++ be 4 num)]) (r':=(brow aF aG 5 ((([]:Bs) ++ [by8 0,by8 0,by8 0,by8 0] ++ be 2 57 ++ be 2 (IntKind.i16.wrap v) ++ be 4 num) ++ (be 2 txt.size ++ sb txt)))) rfl cX cY
  refine qaj [5] [] [(4,.v (.slice aF (((([]:Bs) ++ [by8 0,by8 0,by8 0,by8 0] ++ be 2 57 ++ be 2 (IntKind.i16.wrap v) ++ be 4 num) ++ (be 2 txt.size ++ sb txt)).length) aG))] ax gc fun oN gd=>?_
  refine qae (qab ?_)
  refine wp_ret ?_
  refine qaB gd ax.cells (v:=.slice aF (((([]:Bs) ++ [by8 0,by8 0,by8 0,by8 0] ++ be 2 57 ++ be 2 (IntKind.i16.wrap v) ++ be 4 num) ++ (be 2 txt.size ++ sb txt)).length) aG) kz ?_
  refine ⟨_,rfl,fun oO ge=>?_⟩
  have gg:=(EnvOk.places (tb':=[⟨b1,0,[.bool has,.string txt],true⟩,⟨ac,0,[.int .i16 (IntKind.i16.wrap v),.int .i32 ((aa.f 0).n),.slice ((aa.f 1).A) ((aa.f 1).l) ((aa.f 1).c),.bool ((aa.f 2).b),.map aa.m],true⟩,⟨af,0,[.bool has,.string txt],true⟩,⟨ae,0,[.pointer none],true⟩,⟨ab,0,[.string txt],true⟩,⟨ag,0,[.pointer (some ⟨ab,0,none⟩)],true⟩,⟨ah,0,[.func (.func 131) #[] #[.pointer (some ⟨ab,0,none⟩)]],true⟩]) ge (show Pl [⟨b1,0,[.bool has,.string txt],true⟩,⟨ac,0,[.int .i16 (IntKind.i16.wrap v),.int .i32 ((aa.f 0).n),.slice ((aa.f 1).A) ((aa.f 1).l) ((aa.f 1).c),.bool ((aa.f 2).b),.map aa.m],true⟩,⟨af,0,[.bool has,.string txt],true⟩,⟨ae,0,[.pointer none],true⟩,⟨ab,0,[.string txt],true⟩,⟨ag,0,[.pointer (some ⟨ab,0,none⟩)],true⟩,⟨ah,0,[.func (.func 131) #[] #[.pointer (some ⟨ab,0,none⟩)]],true⟩] [⟨b1,0,[.bool has,.string txt],true⟩,⟨ac,0,[.int .i16 (IntKind.i16.wrap v),.int .i32 ((aa.f 0).n),.slice ((aa.f 1).A) ((aa.f 1).l) ((aa.f 1).c),.bool ((aa.f 2).b),.map aa.m],true⟩,⟨af,0,[.bool has,.string txt],true⟩,⟨ae,0,[.pointer none],true⟩,⟨ab,0,[.string txt],true⟩,⟨ag,0,[.pointer (some ⟨ab,0,none⟩)],true⟩,⟨ah,0,[.func (.func 131) #[] #[.pointer (some ⟨ab,0,none⟩)]],true⟩] from ⟨rfl,rfl,⟨rfl,rfl,⟨rfl,rfl,⟨rfl,rfl,⟨rfl,rfl,⟨rfl,rfl,⟨rfl,rfl,trivial⟩⟩⟩⟩⟩⟩⟩)).pk (env':=[(40,.v (.slice aF (((([]:Bs) ++ [by8 0,by8 0,by8 0,by8 0] ++ be 2 57 ++ be 2 (IntKind.i16.wrap v) ++ be 4 num) ++ (be 2 txt.size ++ sb txt)).length) aG)),(2,.v (.iface 63 (.pointer (some ⟨ac,0,none⟩)))),(35,.v (.slice aK ((([]:Bs) ++ [by8 0,by8 0,by8 0,by8 0] ++ be 2 57 ++ be 2 (IntKind.i16.wrap v) ++ be 4 num).length) aL)),(39,.v (.pointer (some ⟨ab,0,none⟩)))])
  refine qaj [6] [] [(1,.v (.slice aF (((([]:Bs) ++ [by8 0,by8 0,by8 0,by8 0] ++ be 2 57 ++ be 2 (IntKind.i16.wrap v) ++ be 4 num) ++ (be 2 txt.size ++ sb txt)).length) aG)),(2,.v (.iface 63 (.pointer (some ⟨ac,0,none⟩))))] ax gg fun oP gh=>?_
  refine qae (qab ?_)
  refine wp_seq ?_
  refine qad [0,1] kz ?_
  refine qaj [0] [1] [(1,.v (.slice aF (((([]:Bs) ++ [by8 0,by8 0,by8 0,by8 0] ++ be 2 57 ++ be 2 (IntKind.i16.wrap v) ++ be 4 num) ++ (be 2 txt.size ++ sb txt)).length) aG)),(2,.v (.iface 63 (.pointer (some ⟨ac,0,none⟩)))),(41,.v (.iface 63 (.pointer (some ⟨ac,0,none⟩))))] ax gh fun oQ gi=>?_
  refine qam (qbY gi (t := 63) (v := (.pointer (some ⟨ac, 0, none⟩))) (v' := (.pointer (some ⟨ac, 0, none⟩))) (name := "IsFlexible") (f := 237) (vs := []) (d := 42) (n' := 8) kz (fun _ => by kernel_rfl) Tryz.call237 Tryz.func237 rfl Tryz.ntmps237 kz fun oR gj => ?_)
  have gk:=gj.recast 0 (.v (.pointer (some ⟨ac,0,none⟩))) (.p 1 0) rfl rfl (Nat.le_of_ble_eq_true (n:=2) rfl)
  refine qaq [(0,.p 1 0)] ax gk fun oS gl=>?_
  refine qaq [(2,.v (.bool (decide ((IntKind.i16.wrap v) ≥ 0))))] ax gl fun oT gm=>?_
  refine wp_ret ?_
  refine qaB gm ax.cells (v:=.bool (decide ((IntKind.i16.wrap v) ≥ 0))) kz ?_
  refine ⟨_,rfl,fun oU gn=>?_⟩
  have cE:=(EnvOk.places (tb':=[⟨b1,0,[.bool has,.string txt],true⟩,⟨ac,0,[.int .i16 (IntKind.i16.wrap v),.int .i32 ((aa.f 0).n),.slice ((aa.f 1).A) ((aa.f 1).l) ((aa.f 1).c),.bool ((aa.f 2).b),.map aa.m],true⟩,⟨af,0,[.bool has,.string txt],true⟩,⟨ae,0,[.pointer none],true⟩,⟨ab,0,[.string txt],true⟩,⟨ag,0,[.pointer (some ⟨ab,0,none⟩)],true⟩,⟨ah,0,[.func (.func 131) #[] #[.pointer (some ⟨ab,0,none⟩)]],true⟩]) gn (show Pl [⟨b1,0,[.bool has,.string txt],true⟩,⟨ac,0,[.int .i16 (IntKind.i16.wrap v),.int .i32 ((aa.f 0).n),.slice ((aa.f 1).A) ((aa.f 1).l) ((aa.f 1).c),.bool ((aa.f 2).b),.map aa.m],true⟩,⟨af,0,[.bool has,.string txt],true⟩,⟨ae,0,[.pointer none],true⟩,⟨ab,0,[.string txt],true⟩,⟨ag,0,[.pointer (some ⟨ab,0,none⟩)],true⟩,⟨ah,0,[.func (.func 131) #[] #[.pointer (some ⟨ab,0,none⟩)]],true⟩] [⟨b1,0,[.bool has,.string txt],true⟩,⟨ac,0,[.int .i16 (IntKind.i16.wrap v),.int .i32 ((aa.f 0).n),.slice ((aa.f 1).A) ((aa.f 1).l) ((aa.f 1).c),.bool ((aa.f 2).b),.map aa.m],true⟩,⟨af,0,[.bool has,.string txt],true⟩,⟨ae,0,[.pointer none],true⟩,⟨ab,0,[.string txt],true⟩,⟨ag,0,[.pointer (some ⟨ab,0,none⟩)],true⟩,⟨ah,0,[.func (.func 131) #[] #[.pointer (some ⟨ab,0,none⟩)]],true⟩] from ⟨rfl,rfl,⟨rfl,rfl,⟨rfl,rfl,⟨rfl,rfl,⟨rfl,rfl,⟨rfl,rfl,⟨rfl,rfl,trivial⟩⟩⟩⟩⟩⟩⟩)).pk (env':=[(42,.v (.bool (decide ((IntKind.i16.wrap v) ≥ 0)))),(1,.v (.slice aF (((([]:Bs) ++ [by8 0,by8 0,by8 0,by8 0] ++ be 2 57 ++ be 2 (IntKind.i16.wrap v) ++ be 4 num) ++ (be 2 txt.size ++ sb txt)).length) aG)),(2,.v (.iface 63 (.pointer (some ⟨ac,0,none⟩)))),(41,.v (.iface 63 (.pointer (some ⟨ac,0,none⟩))))])
  refine qae (qab ?_)
  refine qaw cE (b:=decide ((IntKind.i16.wrap v) ≥ 0)) kz (fun bf=>?_) (fun bf=>?_)
  ·
   have mp:=of_decide_eq_true bf
   refine qaq [(1,.v (.slice aF (((([]:Bs) ++ [by8 0,by8 0,by8 0,by8 0] ++ be 2 57 ++ be 2 (IntKind.i16.wrap v) ++ be 4 num) ++ (be 2 txt.size ++ sb txt)).length) aG)),(2,.v (.iface 63 (.pointer (some ⟨ac,0,none⟩)))),(11,.v (.int .u8 0))] ax cE fun oV gp=>?_
   refine qad [0,1,2,3,4] kz ?_
   refine qaj [0,1] [2,3,4] [(2,.v (.iface 63 (.pointer (some ⟨ac,0,none⟩)))),(11,.v (.int .u8 0)),(43,.v (.slice aF (((([]:Bs) ++ [by8 0,by8 0,by8 0,by8 0] ++ be 2 57 ++ be 2 (IntKind.i16.wrap v) ++ be 4 num) ++ (be 2 txt.size ++ sb txt)).length) aG)),(44,.v (.int .u8 0))] ax gp fun oW gq=>?_
   refine qba ax gq (k:=1) (e:=5) (size:=1) (len:=1) (cs:=[.int .u8 0]) (d1:=45) (d:=46) kz (t:=24) (bytes:=1) kz (fun _=>by kernel_rfl) rfl kz (by first | omega | (simp only [List.length_append,List.length_cons,List.length_nil,be_length,qbC]; omega) | (simp; omega)) fun bg bh oX oY cZ gt ⟨_,gv⟩=>?_
   have gw:(⟨bg,bh,5,1,((([]:Bs) ++ [by8 0,by8 0,by8 0,by8 0] ++ be 2 57 ++ be 2 (IntKind.i16.wrap v) ++ be 4 num) ++ (be 2 txt.size ++ sb txt)).length + 1,bc ((([]:Bs) ++ [by8 0,by8 0,by8 0,by8 0] ++ be 2 57 ++ be 2 (IntKind.i16.wrap v) ++ be 4 num) ++ (be 2 txt.size ++ sb txt)) ++ [.int .u8 0]⟩:Rw) = brow bg bh 5 ((([]:Bs) ++ [by8 0,by8 0,by8 0,by8 0] ++ be 2 57 ++ be 2 (IntKind.i16.wrap v) ++ be 4 num) ++ (be 2 txt.size ++ sb txt) ++ [by8 0]):=qaU (by simp only [bc,List.map,qbf]; try rfl) rfl
   obtain ⟨bt,c5⟩:=gt.rowEq 1 [⟨some ⟨au,0,none⟩,1,96,1,1,[.iface 147 (.agg #[.func (.func 131) #[] #[.pointer (some ⟨ab,0,none⟩)]])]⟩,brow bg bh 5 ((([]:Bs) ++ [by8 0,by8 0,by8 0,by8 0] ++ be 2 57 ++ be 2 (IntKind.i16.wrap v) ++ be 4 num) ++ (be 2 txt.size ++ sb txt) ++ [by8 0])] gw
   have gx:=EnvOk.pick gv (ks:=[2,11,43,44,46]) (env':=[(2,.v (.iface 63 (.pointer (some ⟨ac,0,none⟩)))),(11,.v (.int .u8 0)),(43,.v (.slice aF (((([]:Bs) ++ [by8 0,by8 0,by8 0,by8 0] ++ be 2 57 ++ be 2 (IntKind.i16.wrap v) ++ be 4 num) ++ (be 2 txt.size ++ sb txt)).length) aG)),(44,.v (.int .u8 0)),(46,.v (.slice bg (((([]:Bs) ++ [by8 0,by8 0,by8 0,by8 0] ++ be 2 57 ++ be 2 (IntKind.i16.wrap v) ++ be 4 num) ++ (be 2 txt.size ++ sb txt)).length + 1) bh))]) kz
   have gy:=gx.cast (env':=[(2,.v (.iface 63 (.pointer (some ⟨ac,0,none⟩)))),(11,.v (.int .u8 0)),(43,.v (.slice aF (((([]:Bs) ++ [by8 0,by8 0,by8 0,by8 0] ++ be 2 57 ++ be 2 (IntKind.i16.wrap v) ++ be 4 num) ++ (be 2 txt.size ++ sb txt)).length) aG)),(44,.v (.int .u8 0)),(46,.v (.slice bg (((([]:Bs) ++ [by8 0,by8 0,by8 0,by8 0] ++ be 2 57 ++ be 2 (IntKind.i16.wrap v) ++ be 4 num) ++ (be 2 txt.size ++ sb txt) ++ [by8 0]).length) bh))]) (by simp only [List.length_append,List.length_cons,List.length_nil,Nat.zero_add])
   refine qaj [4] [] [(1,.v (.slice bg (((([]:Bs) ++ [by8 0,by8 0,by8 0,by8 0] ++ be 2 57 ++ be 2 (IntKind.i16.wrap v) ++ be 4 num) ++ (be 2 txt.size ++ sb txt) ++ [by8 0]).length) bh)),(2,.v (.iface 63 (.pointer (some ⟨ac,0,none⟩)))),(11,.v (.int .u8 0))] bt gy fun oZ gz=>?_
   refine qae (qab ?_)
   refine qaq [(1,.v (.slice bg (((([]:Bs) ++ [by8 0,by8 0,by8 0,by8 0] ++ be 2 57 ++ be 2 (IntKind.i16.wrap v) ++ be 4 num) ++ (be 2 txt.size ++ sb txt) ++ [by8 0]).length) bh)),(2,.v (.iface 63 (.pointer (some ⟨ac,0,none⟩)))),(48,.v (.bool false))] bt gz fun o5 da=>?_
   refine qat da (b:=false) kz rfl ?_
   refine wp_skip ?_
   refine qab ?_
   refine qad [0,1,2,3] kz ?_
   refine qaj [0,1] [2,3] [(49,.v (.iface 63 (.pointer (some ⟨ac,0,none⟩)))),(50,.v (.slice bg (((([]:Bs) ++ [by8 0,by8 0,by8 0,by8 0] ++ be 2 57 ++ be 2 (IntKind.i16.wrap v) ++ be 4 num) ++ (be 2 txt.size ++ sb txt) ++ [by8 0]).length) bh))] bt da fun o6 gA=>?_
   have gB:=(qaS _ (((((((((((((((aP.trans aQ).trans bG).trans bI).trans bJ).trans bK).trans bL).trans bM).trans bN).trans bO).trans bQ).trans bS).trans bT).trans bU).trans cZ).trans c5).step immM (((((((((((((((aP.trans aQ).trans bG).trans bI).trans bJ).trans bK).trans bL).trans bM).trans bN).trans bO).trans bQ).trans bS).trans bT).trans bU).trans cZ).trans c5).to' cJ)
   have dU:=bt.strImm (G:=F) 1 rfl
   have hk_:=qaS _ (Step.refl _ Nil) nilM (fun b o h_ _=>qfS h_) gB
   refine qam (qcE gA (t := 63) (v := (.pointer (some ⟨ac, 0, none⟩))) (v' := (.pointer (some ⟨ac, 0, none⟩))) (name := "AppendTo") (f := 235) (vs := [.slice bg (((([] : Bs) ++ [by8 0, by8 0, by8 0, by8 0] ++ be 2 57 ++ be 2 (IntKind.i16.wrap v) ++ be 4 num) ++ (be 2 txt.size ++ sb txt) ++ [by8 0]).length) bh]) (d := 51) kz (fun _ => by kernel_rfl) Tryz.call235 (qby (IntKind.i16.wrap v) aa ac 0 bg bh ((([] : Bs) ++ [by8 0, by8 0, by8 0, by8 0] ++ be 2 57 ++ be 2 (IntKind.i16.wrap v) ++ be 4 num) ++ (be 2 txt.size ++ sb txt) ++ [by8 0]) _ _ dU hk_ (qfQ 1 rfl) (bt.own 1 _ rfl) (by first | omega | (simp only [List.length_append, List.length_cons, List.length_nil, be_length, qbC]; omega) | (simp; omega))) ?_)
   rintro e_ o7 ⟨ai,aj,rfl,gC,db,dc⟩
   refine ⟨_,rfl,fun o9 gD=>?_⟩
   have de:WOk _ _ _ _ [⟨some ⟨au,0,none⟩,1,96,1,1,[.iface 147 (.agg #[.func (.func 131) #[] #[.pointer (some ⟨ab,0,none⟩)]])]⟩,brow ai aj 5 (((([]:Bs) ++ [by8 0,by8 0,by8 0,by8 0] ++ be 2 57 ++ be 2 (IntKind.i16.wrap v) ++ be 4 num) ++ (be 2 txt.size ++ sb txt) ++ [by8 0]) ++ qaa (IntKind.i16.wrap v) aa)]:=bt.grow (k:=1) rfl db gC dc
   have mq:=Fr.grow [⟨b1,0,[.bool has,.string txt],true⟩,⟨ac,0,[.int .i16 (IntKind.i16.wrap v),.int .i32 ((aa.f 0).n),.slice ((aa.f 1).A) ((aa.f 1).l) ((aa.f 1).c),.bool ((aa.f 2).b),.map aa.m],true⟩,⟨af,0,[.bool has,.string txt],true⟩,⟨ae,0,[.pointer none],true⟩,⟨ab,0,[.string txt],true⟩,⟨ag,0,[.pointer (some ⟨ab,0,none⟩)],true⟩,⟨ah,0,[.func (.func 131) #[] #[.pointer (some ⟨ab,0,none⟩)]],true⟩] (k:=1) (rs:=[⟨some ⟨au,0,none⟩,1,96,1,1,[.iface 147 (.agg #[.func (.func 131) #[] #[.pointer (some ⟨ab,0,none⟩)]])]⟩,brow bg bh 5 ((([]:Bs) ++ [by8 0,by8 0,by8 0,by8 0] ++ be 2 57 ++ be 2 (IntKind.i16.wrap v) ++ be 4 num) ++ (be 2 txt.size ++ sb txt) ++ [by8 0])]) (r':=(brow ai aj 5 (((([]:Bs) ++ [by8 0,by8 0,by8 0,by8 0] ++ be 2 57 ++ be 2 (IntKind.i16.wrap v) ++ be 4 num) ++ (be 2 txt.size ++ sb txt) ++ [by8 0]) ++ qaa (IntKind.i16.wrap v) aa))) rfl db dc
   refine qaj [3] [] [(1,.v (.slice ai ((((([]:Bs) ++ [by8 0,by8 0,by8 0,by8 0] ++ be 2 57 ++ be 2 (IntKind.i16.wrap v) ++ be 4 num) ++ (be 2 txt.size ++ sb txt) ++ [by8 0]) ++ qaa (IntKind.i16.wrap v) aa).length) aj))] de gD fun pa gE=>?_
   refine qae (qab ?_)
   refine qbe 7 kz de fun pb mr bV bi=>?_
   refine qaY [0,2] [(1,.v (.slice ai ((((([]:Bs) ++ [by8 0,by8 0,by8 0,by8 0] ++ be 2 57 ++ be 2 (IntKind.i16.wrap v) ++ be 4 num) ++ (be 2 txt.size ++ sb txt) ++ [by8 0]) ++ qaa (IntKind.i16.wrap v) aa).length) aj)),(52,.v (.slice ai ((((([]:Bs) ++ [by8 0,by8 0,by8 0,by8 0] ++ be 2 57 ++ be 2 (IntKind.i16.wrap v) ++ be 4 num) ++ (be 2 txt.size ++ sb txt) ++ [by8 0]) ++ qaa (IntKind.i16.wrap v) aa).length) aj)),(54,.v (.slice ai ((((([]:Bs) ++ [by8 0,by8 0,by8 0,by8 0] ++ be 2 57 ++ be 2 (IntKind.i16.wrap v) ++ be 4 num) ++ (be 2 txt.size ++ sb txt) ++ [by8 0]) ++ qaa (IntKind.i16.wrap v) aa).length) aj))] 5 (qac qai) (fun _ h=>h.cells) bi gE fun pc df=>?_
   refine qeo (i:=1) (j:=3) kz ?_ ?_
   ·
    refine (qbn df (t:=24) (A:=ai) (m:=(((([]:Bs) ++ [by8 0,by8 0,by8 0,by8 0] ++ be 2 57 ++ be 2 (IntKind.i16.wrap v) ++ be 4 num) ++ (be 2 txt.size ++ sb txt) ++ [by8 0]) ++ qaa (IntKind.i16.wrap v) aa).length) (cp:=aj) (q:=0) (d:=53) (j:=0) kz (e:=5) (size:=1) (bytes:=1) kz (rfl) (by omega) fun pd gF=>?_)
    refine ⟨fun _=>bi,?_⟩
    refine qaL (i:=3) kz (qbi gF (t:=24) (A:=ai) (m:=((((([]:Bs) ++ [by8 0,by8 0,by8 0,by8 0] ++ be 2 57 ++ be 2 (IntKind.i16.wrap v) ++ be 4 num) ++ (be 2 txt.size ++ sb txt) ++ [by8 0]) ++ qaa (IntKind.i16.wrap v) aa).length)) (cp:=aj) (q:=4) (d:=55) (j:=4) kz (e:=5) (bytes:=1) kz (rfl) (by first | omega | (simp only [List.length_append,List.length_cons,List.length_nil]; omega)) fun pe gG=>?_)
    refine ⟨fun _=>bi,?_⟩
    refine qaY [4,5] [(1,.v (.slice ai ((((([]:Bs) ++ [by8 0,by8 0,by8 0,by8 0] ++ be 2 57 ++ be 2 (IntKind.i16.wrap v) ++ be 4 num) ++ (be 2 txt.size ++ sb txt) ++ [by8 0]) ++ qaa (IntKind.i16.wrap v) aa).length) aj)),(53,.v (.slice ai 0 aj)),(57,.v (.int .i32 (IntKind.i32.wrap ((((((([]:Bs) ++ [by8 0,by8 0,by8 0,by8 0] ++ be 2 57 ++ be 2 (IntKind.i16.wrap v) ++ be 4 num) ++ (be 2 txt.size ++ sb txt) ++ [by8 0]) ++ qaa (IntKind.i16.wrap v) aa).length) - 4:Nat):Int))))] 1 (qac qai) (fun _ h=>h.cells) bi gG fun pf gH=>?_
    refine qaL (i:=6) kz (qal gH (f:=133) (vs:=[.slice ai 0 aj,.int .i32 (IntKind.i32.wrap ((((((([]:Bs) ++ [by8 0,by8 0,by8 0,by8 0] ++ be 2 57 ++ be 2 (IntKind.i16.wrap v) ++ be 4 num) ++ (be 2 txt.size ++ sb txt) ++ [by8 0]) ++ qaa (IntKind.i16.wrap v) aa).length) - 4:Nat):Int))]) (d:=58) kz Tryz.call133 (qbs (IntKind.i32.wrap ((((((([]:Bs) ++ [by8 0,by8 0,by8 0,by8 0] ++ be 2 57 ++ be 2 (IntKind.i16.wrap v) ++ be 4 num) ++ (be 2 txt.size ++ sb txt) ++ [by8 0]) ++ qaa (IntKind.i16.wrap v) aa).length) - 4:Nat):Int)) ai aj (((([]:Bs) ++ [by8 0,by8 0,by8 0,by8 0] ++ be 2 57 ++ be 2 (IntKind.i16.wrap v) ++ be 4 num) ++ (be 2 txt.size ++ sb txt) ++ [by8 0]) ++ qaa (IntKind.i16.wrap v) aa) _ (bV.own 1 _ rfl) (by simp only [List.length_append,List.length_cons,List.length_nil]; omega)) ?_)
    rintro e_ pg ⟨rfl,gI,dg⟩
    refine ⟨_,rfl,fun ph gJ=>?_⟩
    have aR:WOk _ _ _ _ [⟨some ⟨au,0,none⟩,1,96,1,1,[.iface 147 (.agg #[.func (.func 131) #[] #[.pointer (some ⟨ab,0,none⟩)]])]⟩,⟨ai,aj,5,1,(((([]:Bs) ++ [by8 0,by8 0,by8 0,by8 0] ++ be 2 57 ++ be 2 (IntKind.i16.wrap v) ++ be 4 num) ++ (be 2 txt.size ++ sb txt) ++ [by8 0]) ++ qaa (IntKind.i16.wrap v) aa).length,bc (be 4 (IntKind.i32.wrap ((((((([]:Bs) ++ [by8 0,by8 0,by8 0,by8 0] ++ be 2 57 ++ be 2 (IntKind.i16.wrap v) ++ be 4 num) ++ (be 2 txt.size ++ sb txt) ++ [by8 0]) ++ qaa (IntKind.i16.wrap v) aa).length) - 4:Nat):Int)) ++ (((([]:Bs) ++ [by8 0,by8 0,by8 0,by8 0] ++ be 2 57 ++ be 2 (IntKind.i16.wrap v) ++ be 4 num) ++ (be 2 txt.size ++ sb txt) ++ [by8 0]) ++ qaa (IntKind.i16.wrap v) aa).drop 4)⟩]:=bV.grow (k:=1) (r':=⟨ai,aj,5,1,(((([]:Bs) ++ [by8 0,by8 0,by8 0,by8 0] ++ be 2 57 ++ be 2 (IntKind.i16.wrap v) ++ be 4 num) ++ (be 2 txt.size ++ sb txt) ++ [by8 0]) ++ qaa (IntKind.i16.wrap v) aa).length,bc (be 4 (IntKind.i32.wrap ((((((([]:Bs) ++ [by8 0,by8 0,by8 0,by8 0] ++ be 2 57 ++ be 2 (IntKind.i16.wrap v) ++ be 4 num) ++ (be 2 txt.size ++ sb txt) ++ [by8 0]) ++ qaa (IntKind.i16.wrap v) aa).length) - 4:Nat):Int)) ++ (((([]:Bs) ++ [by8 0,by8 0,by8 0,by8 0] ++ be 2 57 ++ be 2 (IntKind.i16.wrap v) ++ be 4 num) ++ (be 2 txt.size ++ sb txt) ++ [by8 0]) ++ qaa (IntKind.i16.wrap v) aa).drop 4)⟩) rfl dg gI (fun g' hg'=>.inl hg')
    have gK:=Fr.grow [⟨b1,0,[.bool has,.string txt],true⟩,⟨ac,0,[.int .i16 (IntKind.i16.wrap v),.int .i32 ((aa.f 0).n),.slice ((aa.f 1).A) ((aa.f 1).l) ((aa.f 1).c),.bool ((aa.f 2).b),.map aa.m],true⟩,⟨af,0,[.bool has,.string txt],true⟩,⟨ae,0,[.pointer none],true⟩,⟨ab,0,[.string txt],true⟩,⟨ag,0,[.pointer (some ⟨ab,0,none⟩)],true⟩,⟨ah,0,[.func (.func 131) #[] #[.pointer (some ⟨ab,0,none⟩)]],true⟩] (k:=1) (rs:=[⟨some ⟨au,0,none⟩,1,96,1,1,[.iface 147 (.agg #[.func (.func 131) #[] #[.pointer (some ⟨ab,0,none⟩)]])]⟩,brow ai aj 5 (((([]:Bs) ++ [by8 0,by8 0,by8 0,by8 0] ++ be 2 57 ++ be 2 (IntKind.i16.wrap v) ++ be 4 num) ++ (be 2 txt.size ++ sb txt) ++ [by8 0]) ++ qaa (IntKind.i16.wrap v) aa)]) (r':=⟨ai,aj,5,1,(((([]:Bs) ++ [by8 0,by8 0,by8 0,by8 0] ++ be 2 57 ++ be 2 (IntKind.i16.wrap v) ++ be 4 num) ++ (be 2 txt.size ++ sb txt) ++ [by8 0]) ++ qaa (IntKind.i16.wrap v) aa).length,bc (be 4 (IntKind.i32.wrap ((((((([]:Bs) ++ [by8 0,by8 0,by8 0,by8 0] ++ be 2 57 ++ be 2 (IntKind.i16.wrap v) ++ be 4 num) ++ (be 2 txt.size ++ sb txt) ++ [by8 0]) ++ qaa (IntKind.i16.wrap v) aa).length) - 4:Nat):Int)) ++ (((([]:Bs) ++ [by8 0,by8 0,by8 0,by8 0] ++ be 2 57 ++ be 2 (IntKind.i16.wrap v) ++ be 4 num) ++ (be 2 txt.size ++ sb txt) ++ [by8 0]) ++ qaa (IntKind.i16.wrap v) aa).drop 4)⟩) rfl dg (fun g' hg'=>.inl hg')
    have gL:=TT.ofW gK aR
    refine ⟨fun _=>gL,?_⟩
    refine qaT kz ?_ _
    refine qab ?_
    refine qaq [(8,.v (.slice ai ((((([]:Bs) ++ [by8 0,by8 0,by8 0,by8 0] ++ be 2 57 ++ be 2 (IntKind.i16.wrap v) ++ be 4 num) ++ (be 2 txt.size ++ sb txt) ++ [by8 0]) ++ qaa (IntKind.i16.wrap v) aa).length) aj))] aR gJ fun pi gM=>?_
    refine wp_ret ?_
    refine qaB gM aR.cells (v:=.slice ai ((((([]:Bs) ++ [by8 0,by8 0,by8 0,by8 0] ++ be 2 57 ++ be 2 (IntKind.i16.wrap v) ++ be 4 num) ++ (be 2 txt.size ++ sb txt) ++ [by8 0]) ++ qaa (IntKind.i16.wrap v) aa).length) aj) kz ?_
    refine ⟨_,rfl,fun pj gN=>?_⟩
    have gO:=(EnvOk.places (tb':=[⟨b1,0,[.bool has,.string txt],true⟩,⟨ac,0,[.int .i16 (IntKind.i16.wrap v),.int .i32 ((aa.f 0).n),.slice ((aa.f 1).A) ((aa.f 1).l) ((aa.f 1).c),.bool ((aa.f 2).b),.map aa.m],true⟩,⟨af,0,[.bool has,.string txt],true⟩,⟨ae,0,[.pointer none],true⟩,⟨ab,0,[.string txt],true⟩,⟨ag,0,[.pointer (some ⟨ab,0,none⟩)],true⟩,⟨ah,0,[.func (.func 131) #[] #[.pointer (some ⟨ab,0,none⟩)]],true⟩]) gN (show Pl [⟨b1,0,[.bool has,.string txt],true⟩,⟨ac,0,[.int .i16 (IntKind.i16.wrap v),.int .i32 ((aa.f 0).n),.slice ((aa.f 1).A) ((aa.f 1).l) ((aa.f 1).c),.bool ((aa.f 2).b),.map aa.m],true⟩,⟨af,0,[.bool has,.string txt],true⟩,⟨ae,0,[.pointer none],true⟩,⟨ab,0,[.string txt],true⟩,⟨ag,0,[.pointer (some ⟨ab,0,none⟩)],true⟩,⟨ah,0,[.func (.func 131) #[] #[.pointer (some ⟨ab,0,none⟩)]],true⟩] [⟨b1,0,[.bool has,.string txt],true⟩,⟨ac,0,[.int .i16 (IntKind.i16.wrap v),.int .i32 ((aa.f 0).n),.slice ((aa.f 1).A) ((aa.f 1).l) ((aa.f 1).c),.bool ((aa.f 2).b),.map aa.m],true⟩,⟨af,0,[.bool has,.string txt],true⟩,⟨ae,0,[.pointer none],true⟩,⟨ab,0,[.string txt],true⟩,⟨ag,0,[.pointer (some ⟨ab,0,none⟩)],true⟩,⟨ah,0,[.func (.func 131) #[] #[.pointer (some ⟨ab,0,none⟩)]],true⟩] from ⟨rfl,rfl,⟨rfl,rfl,⟨rfl,rfl,⟨rfl,rfl,⟨rfl,rfl,⟨rfl,rfl,⟨rfl,rfl,trivial⟩⟩⟩⟩⟩⟩⟩)).pk (env':=[(19,.v (.slice ai ((((([]:Bs) ++ [by8 0,by8 0,by8 0,by8 0] ++ be 2 57 ++ be 2 (IntKind.i16.wrap v) ++ be 4 num) ++ (be 2 txt.size ++ sb txt) ++ [by8 0]) ++ qaa (IntKind.i16.wrap v) aa).length) aj)),(16,.p 5 0),(17,.v (.iface 63 (.pointer (some ⟨ac,0,none⟩)))),(18,.v (.int .i32 num))])
    refine qaj [4] [] [(6,.v (.slice ai ((((([]:Bs) ++ [by8 0,by8 0,by8 0,by8 0] ++ be 2 57 ++ be 2 (IntKind.i16.wrap v) ++ be 4 num) ++ (be 2 txt.size ++ sb txt) ++ [by8 0]) ++ qaa (IntKind.i16.wrap v) aa).length) aj))] aR gO fun pl gP=>?_
    refine qae (qab ?_)
    refine wp_ret ?_
    refine qaB gP aR.cells (v:=.slice ai ((((([]:Bs) ++ [by8 0,by8 0,by8 0,by8 0] ++ be 2 57 ++ be 2 (IntKind.i16.wrap v) ++ be 4 num) ++ (be 2 txt.size ++ sb txt) ++ [by8 0]) ++ qaa (IntKind.i16.wrap v) aa).length) aj) kz ?_
    refine ⟨_,rfl,fun pm gQ=>?_⟩
    have gR:=(EnvOk.places (tb':=[⟨b1,0,[.bool has,.string txt],true⟩,⟨ac,0,[.int .i16 (IntKind.i16.wrap v),.int .i32 ((aa.f 0).n),.slice ((aa.f 1).A) ((aa.f 1).l) ((aa.f 1).c),.bool ((aa.f 2).b),.map aa.m],true⟩,⟨af,0,[.bool has,.string txt],true⟩,⟨ae,0,[.pointer none],true⟩,⟨ab,0,[.string txt],true⟩,⟨ag,0,[.pointer (some ⟨ab,0,none⟩)],true⟩,⟨ah,0,[.func (.func 131) #[] #[.pointer (some ⟨ab,0,none⟩)]],true⟩]) gQ (show Pl [⟨b1,0,[.bool has,.string txt],true⟩,⟨ac,0,[.int .i16 (IntKind.i16.wrap v),.int .i32 ((aa.f 0).n),.slice ((aa.f 1).A) ((aa.f 1).l) ((aa.f 1).c),.bool ((aa.f 2).b),.map aa.m],true⟩] [⟨b1,0,[.bool has,.string txt],true⟩,⟨ac,0,[.int .i16 (IntKind.i16.wrap v),.int .i32 ((aa.f 0).n),.slice ((aa.f 1).A) ((aa.f 1).l) ((aa.f 1).c),.bool ((aa.f 2).b),.map aa.m],true⟩,⟨af,0,[.bool has,.string txt],true⟩,⟨ae,0,[.pointer none],true⟩,⟨ab,0,[.string txt],true⟩,⟨ag,0,[.pointer (some ⟨ab,0,none⟩)],true⟩,⟨ah,0,[.func (.func 131) #[] #[.pointer (some ⟨ab,0,none⟩)]],true⟩] from ⟨rfl,rfl,⟨rfl,rfl,trivial⟩⟩)).pk (env':=[(25,.v (.slice ai ((((([]:Bs) ++ [by8 0,by8 0,by8 0,by8 0] ++ be 2 57 ++ be 2 (IntKind.i16.wrap v) ++ be 4 num) ++ (be 2 txt.size ++ sb txt) ++ [by8 0]) ++ qaa (IntKind.i16.wrap v) aa).length) aj)),(21,.v (.agg #[.bool has,.string txt])),(23,.v (.iface 63 (.pointer (some ⟨ac,0,none⟩)))),(24,.v (.int .i32 num))])
    refine qaj [5,6] [] [(8,.v (.slice ai ((((([]:Bs) ++ [by8 0,by8 0,by8 0,by8 0] ++ be 2 57 ++ be 2 (IntKind.i16.wrap v) ++ be 4 num) ++ (be 2 txt.size ++ sb txt) ++ [by8 0]) ++ qaa (IntKind.i16.wrap v) aa).length) aj)),(9,.v (.bool true))] aR gR fun pn gS=>?_
    refine qae (qab ?_)
    refine wp_ret ?_
    refine qaB gS aR.cells (v:=.tuple #[.slice ai ((((([]:Bs) ++ [by8 0,by8 0,by8 0,by8 0] ++ be 2 57 ++ be 2 (IntKind.i16.wrap v) ++ be 4 num) ++ (be 2 txt.size ++ sb txt) ++ [by8 0]) ++ qaa (IntKind.i16.wrap v) aa).length) aj,.bool true]) kz ?_
    have gT:be 4 (IntKind.i32.wrap ((((((([]:Bs) ++ [by8 0,by8 0,by8 0,by8 0] ++ be 2 57 ++ be 2 (IntKind.i16.wrap v) ++ be 4 num) ++ (be 2 txt.size ++ sb txt) ++ [by8 0]) ++ qaa (IntKind.i16.wrap v) aa).length) - 4:Nat):Int)) ++ (((([]:Bs) ++ [by8 0,by8 0,by8 0,by8 0] ++ be 2 57 ++ be 2 (IntKind.i16.wrap v) ++ be 4 num) ++ (be 2 txt.size ++ sb txt) ++ [by8 0]) ++ qaa (IntKind.i16.wrap v) aa).drop 4 = (qa1 57 (IntKind.i16.wrap v) num has (sb txt) (decide ((IntKind.i16.wrap v) ≥ 0)) (qaa (IntKind.i16.wrap v) aa)):=qcp (R:=outB 57 (IntKind.i16.wrap v) num has (sb txt) (decide ((IntKind.i16.wrap v) ≥ 0)) (qaa (IntKind.i16.wrap v) aa)) (by simp [outB,qdJ,qbC,aJ,bf])
    exact qcq aR (k:=1) rfl (gT.trans (by rw [ba])) (by simp only [List.length_append,List.length_cons,List.length_nil]; omega)
   refine (qbi df (t:=24) (A:=ai) (m:=((((([]:Bs) ++ [by8 0,by8 0,by8 0,by8 0] ++ be 2 57 ++ be 2 (IntKind.i16.wrap v) ++ be 4 num) ++ (be 2 txt.size ++ sb txt) ++ [by8 0]) ++ qaa (IntKind.i16.wrap v) aa).length)) (cp:=aj) (q:=4) (d:=55) (j:=4) kz (e:=5) (bytes:=1) kz (rfl) (by first | omega | (simp only [List.length_append,List.length_cons,List.length_nil]; omega)) fun po gU=>?_)
   refine ⟨fun _=>bi,?_⟩
   refine qaY [4,5] [(1,.v (.slice ai ((((([]:Bs) ++ [by8 0,by8 0,by8 0,by8 0] ++ be 2 57 ++ be 2 (IntKind.i16.wrap v) ++ be 4 num) ++ (be 2 txt.size ++ sb txt) ++ [by8 0]) ++ qaa (IntKind.i16.wrap v) aa).length) aj)),(52,.v (.slice ai ((((([]:Bs) ++ [by8 0,by8 0,by8 0,by8 0] ++ be 2 57 ++ be 2 (IntKind.i16.wrap v) ++ be 4 num) ++ (be 2 txt.size ++ sb txt) ++ [by8 0]) ++ qaa (IntKind.i16.wrap v) aa).length) aj)),(57,.v (.int .i32 (IntKind.i32.wrap ((((((([]:Bs) ++ [by8 0,by8 0,by8 0,by8 0] ++ be 2 57 ++ be 2 (IntKind.i16.wrap v) ++ be 4 num) ++ (be 2 txt.size ++ sb txt) ++ [by8 0]) ++ qaa (IntKind.i16.wrap v) aa).length) - 4:Nat):Int))))] 2 (qac qai) (fun _ h=>h.cells) bi gU fun pp gV=>?_
   refine qaL (i:=1) kz (qbn gV (t:=24) (A:=ai) (m:=(((([]:Bs) ++ [by8 0,by8 0,by8 0,by8 0] ++ be 2 57 ++ be 2 (IntKind.i16.wrap v) ++ be 4 num) ++ (be 2 txt.size ++ sb txt) ++ [by8 0]) ++ qaa (IntKind.i16.wrap v) aa).length) (cp:=aj) (q:=0) (d:=53) (j:=0) kz (e:=5) (size:=1) (bytes:=1) kz (rfl) (by omega) fun pq gW=>?_)
   refine ⟨fun _=>bi,?_⟩
   refine qaL (i:=6) kz (qal gW (f:=133) (vs:=[.slice ai 0 aj,.int .i32 (IntKind.i32.wrap ((((((([]:Bs) ++ [by8 0,by8 0,by8 0,by8 0] ++ be 2 57 ++ be 2 (IntKind.i16.wrap v) ++ be 4 num) ++ (be 2 txt.size ++ sb txt) ++ [by8 0]) ++ qaa (IntKind.i16.wrap v) aa).length) - 4:Nat):Int))]) (d:=58) kz Tryz.call133 (qbs (IntKind.i32.wrap ((((((([]:Bs) ++ [by8 0,by8 0,by8 0,by8 0] ++ be 2 57 ++ be 2 (IntKind.i16.wrap v) ++ be 4 num) ++ (be 2 txt.size ++ sb txt) ++ [by8 0]) ++ qaa (IntKind.i16.wrap v) aa).length) - 4:Nat):Int)) ai aj (((([]:Bs) ++ [by8 0,by8 0,by8 0,by8 0] ++ be 2 57 ++ be 2 (IntKind.i16.wrap v) ++ be 4 num) ++ (be 2 txt.size ++ sb txt) ++ [by8 0]) ++ qaa (IntKind.i16.wrap v) aa) _ (bV.own 1 _ rfl) (by simp only [List.length_append,List.length_cons,List.length_nil]; omega)) ?_)
   rintro e_ pr ⟨rfl,gX,dh⟩
   refine ⟨_,rfl,fun pt gY=>?_⟩
   have aS:WOk _ _ _ _ [⟨some ⟨au,0,none⟩,1,96,1,1,[.iface 147 (.agg #[.func (.func 131) #[] #[.pointer (some ⟨ab,0,none⟩)]])]⟩,⟨ai,aj,5,1,(((([]:Bs) ++ [by8 0,by8 0,by8 0,by8 0] ++ be 2 57 ++ be 2 (IntKind.i16.wrap v) ++ be 4 num) ++ (be 2 txt.size ++ sb txt) ++ [by8 0]) ++ qaa (IntKind.i16.wrap v) aa).length,bc (be 4 (IntKind.i32.wrap ((((((([]:Bs) ++ [by8 0,by8 0,by8 0,by8 0] ++ be 2 57 ++ be 2 (IntKind.i16.wrap v) ++ be 4 num) ++ (be 2 txt.size ++ sb txt) ++ [by8 0]) ++ qaa (IntKind.i16.wrap v) aa).length) - 4:Nat):Int)) ++ (((([]:Bs) ++ [by8 0,by8 0,by8 0,by8 0] ++ be 2 57 ++ be 2 (IntKind.i16.wrap v) ++ be 4 num) ++ (be 2 txt.size ++ sb txt) ++ [by8 0]) ++ qaa (IntKind.i16.wrap v) aa).drop 4)⟩]:=bV.grow (k:=1) (r':=⟨ai,aj,5,1,(((([]:Bs) ++ [by8 0,by8 0,by8 0,by8 0] ++ be 2 57 ++ be 2 (IntKind.i16.wrap v) ++ be 4 num) ++ (be 2 txt.size ++ sb txt) ++ [by8 0]) ++ qaa (IntKind.i16.wrap v) aa).length,bc (be 4 (IntKind.i32.wrap ((((((([]:Bs) ++ [by8 0,by8 0,by8 0,by8 0] ++ be 2 57 ++ be 2 (IntKind.i16.wrap v) ++ be 4 num) ++ (be 2 txt.size ++ sb txt) ++ [by8 0]) ++ qaa (IntKind.i16.wrap v) aa).length) - 4:Nat):Int)) ++ (((([]:Bs) ++ [by8 0,by8 0,by8 0,by8 0] ++ be 2 57 ++ be 2 (IntKind.i16.wrap v) ++ be 4 num) ++ (be 2 txt.size ++ sb txt) ++ [by8 0]) ++ qaa (IntKind.i16.wrap v) aa).drop 4)⟩) rfl dh gX (fun g' hg'=>.inl hg')
   have gZ:=Fr.grow [⟨b1,0,[.bool has,.string txt],true⟩,⟨ac,0,[.int .i16 (IntKind.i16.wrap v),.int .i32 ((aa.f 0).n),.slice ((aa.f 1).A) ((aa.f 1).l) ((aa.f 1).c),.bool ((aa.f 2).b),.map aa.m],true⟩,⟨af,0,[.bool has,.string txt],true⟩,⟨ae,0,[.pointer none],true⟩,⟨ab,0,[.string txt],true⟩,⟨ag,0,[.pointer (some ⟨ab,0,none⟩)],true⟩,⟨ah,0,[.func (.func 131) #[] #[.pointer (some ⟨ab,0,none⟩)]],true⟩] (k:=1) (rs:=[⟨some ⟨au,0,none⟩,1,96,1,1,[.iface 147 (.agg #[.func (.func 131) #[] #[.pointer (some ⟨ab,0,none⟩)]])]⟩,brow ai aj 5 (((([]:Bs) ++ [by8 0,by8 0,by8 0,by8 0] ++ be 2 57 ++ be 2 (IntKind.i16.wrap v) ++ be 4 num) ++ (be 2 txt.size ++ sb txt) ++ [by8 0]) ++ qaa (IntKind.i16.wrap v) aa)]) (r':=⟨ai,aj,5,1,(((([]:Bs) ++ [by8 0,by8 0,by8 0,by8 0] ++ be 2 57 ++ be 2 (IntKind.i16.wrap v) ++ be 4 num) ++ (be 2 txt.size ++ sb txt) ++ [by8 0]) ++ qaa (IntKind.i16.wrap v) aa).length,bc (be 4 (IntKind.i32.wrap ((((((([]:Bs) ++ [by8 0,by8 0,by8 0,by8 0] ++ be 2 57 ++ be 2 (IntKind.i16.wrap v) ++ be 4 num) ++ (be 2 txt.size ++ sb txt) ++ [by8 0]) ++ qaa (IntKind.i16.wrap v) aa).length) - 4:Nat):Int)) ++ (((([]:Bs) ++ [by8 0,by8 0,by8 0,by8 0] ++ be 2 57 ++ be 2 (IntKind.i16.wrap v) ++ be 4 num) ++ (be 2 txt.size ++ sb txt) ++ [by8 0]) ++ qaa (IntKind.i16.wrap v) aa).drop 4)⟩) rfl dh (fun g' hg'=>.inl hg')
   have g6:=TT.ofW gZ aS
   refine ⟨fun _=>g6,?_⟩
   refine qaT kz ?_ _
   refine qab ?_
   refine qaq [(8,.v (.slice ai ((((([]:Bs) ++ [by8 0,by8 0,by8 0,by8 0] ++ be 2 57 ++ be 2 (IntKind.i16.wrap v) ++ be 4 num) ++ (be 2 txt.size ++ sb txt) ++ [by8 0]) ++ qaa (IntKind.i16.wrap v) aa).length) aj))] aS gY fun pu g7=>?_
   refine wp_ret ?_
   refine qaB g7 aS.cells (v:=.slice ai ((((([]:Bs) ++ [by8 0,by8 0,by8 0,by8 0] ++ be 2 57 ++ be 2 (IntKind.i16.wrap v) ++ be 4 num) ++ (be 2 txt.size ++ sb txt) ++ [by8 0]) ++ qaa (IntKind.i16.wrap v) aa).length) aj) kz ?_
   refine ⟨_,rfl,fun pv g8=>?_⟩
   have g9:=(EnvOk.places (tb':=[⟨b1,0,[.bool has,.string txt],true⟩,⟨ac,0,[.int .i16 (IntKind.i16.wrap v),.int .i32 ((aa.f 0).n),.slice ((aa.f 1).A) ((aa.f 1).l) ((aa.f 1).c),.bool ((aa.f 2).b),.map aa.m],true⟩,⟨af,0,[.bool has,.string txt],true⟩,⟨ae,0,[.pointer none],true⟩,⟨ab,0,[.string txt],true⟩,⟨ag,0,[.pointer (some ⟨ab,0,none⟩)],true⟩,⟨ah,0,[.func (.func 131) #[] #[.pointer (some ⟨ab,0,none⟩)]],true⟩]) g8 (show Pl [⟨b1,0,[.bool has,.string txt],true⟩,⟨ac,0,[.int .i16 (IntKind.i16.wrap v),.int .i32 ((aa.f 0).n),.slice ((aa.f 1).A) ((aa.f 1).l) ((aa.f 1).c),.bool ((aa.f 2).b),.map aa.m],true⟩,⟨af,0,[.bool has,.string txt],true⟩,⟨ae,0,[.pointer none],true⟩,⟨ab,0,[.string txt],true⟩,⟨ag,0,[.pointer (some ⟨ab,0,none⟩)],true⟩,⟨ah,0,[.func (.func 131) #[] #[.pointer (some ⟨ab,0,none⟩)]],true⟩] [⟨b1,0,[.bool has,.string txt],true⟩,⟨ac,0,[.int .i16 (IntKind.i16.wrap v),.int .i32 ((aa.f 0).n),.slice ((aa.f 1).A) ((aa.f 1).l) ((aa.f 1).c),.bool ((aa.f 2).b),.map aa.m],true⟩,⟨af,0,[.bool has,.string txt],true⟩,⟨ae,0,[.pointer none],true⟩,⟨ab,0,[.string txt],true⟩,⟨ag,0,[.pointer (some ⟨ab,0,none⟩)],true⟩,⟨ah,0,[.func (.func 131) #[] #[.pointer (some ⟨ab,0,none⟩)]],true⟩] from ⟨rfl,rfl,⟨rfl,rfl,⟨rfl,rfl,⟨rfl,rfl,⟨rfl,rfl,⟨rfl,rfl,⟨rfl,rfl,trivial⟩⟩⟩⟩⟩⟩⟩)).pk (env':=[(19,.v (.slice ai ((((([]:Bs) ++ [by8 0,by8 0,by8 0,by8 0] ++ be 2 57 ++ be 2 (IntKind.i16.wrap v) ++ be 4 num) ++ (be 2 txt.size ++ sb txt) ++ [by8 0]) ++ qaa (IntKind.i16.wrap v) aa).length) aj)),(16,.p 5 0),(17,.v (.iface 63 (.pointer (some ⟨ac,0,none⟩)))),(18,.v (.int .i32 num))])
   refine qaj [4] [] [(6,.v (.slice ai ((((([]:Bs) ++ [by8 0,by8 0,by8 0,by8 0] ++ be 2 57 ++ be 2 (IntKind.i16.wrap v) ++ be 4 num) ++ (be 2 txt.size ++ sb txt) ++ [by8 0]) ++ qaa (IntKind.i16.wrap v) aa).length) aj))] aS g9 fun pw hC=>?_
   refine qae (qab ?_)
   refine wp_ret ?_
   refine qaB hC aS.cells (v:=.slice ai ((((([]:Bs) ++ [by8 0,by8 0,by8 0,by8 0] ++ be 2 57 ++ be 2 (IntKind.i16.wrap v) ++ be 4 num) ++ (be 2 txt.size ++ sb txt) ++ [by8 0]) ++ qaa (IntKind.i16.wrap v) aa).length) aj) kz ?_
   refine ⟨_,rfl,fun px hJ=>?_⟩
   have hK:=(EnvOk.places (tb':=[⟨b1,0,[.bool has,.string txt],true⟩,⟨ac,0,[.int .i16 (IntKind.i16.wrap v),.int .i32 ((aa.f 0).n),.slice ((aa.f 1).A) ((aa.f 1).l) ((aa.f 1).c),.bool ((aa.f 2).b),.map aa.m],true⟩,⟨af,0,[.bool has,.string txt],true⟩,⟨ae,0,[.pointer none],true⟩,⟨ab,0,[.string txt],true⟩,⟨ag,0,[.pointer (some ⟨ab,0,none⟩)],true⟩,⟨ah,0,[.func (.func 131) #[] #[.pointer (some ⟨ab,0,none⟩)]],true⟩]) hJ (show Pl [⟨b1,0,[.bool has,.string txt],true⟩,⟨ac,0,[.int .i16 (IntKind.i16.wrap v),.int .i32 ((aa.f 0).n),.slice ((aa.f 1).A) ((aa.f 1).l) ((aa.f 1).c),.bool ((aa.f 2).b),.map aa.m],true⟩] [⟨b1,0,[.bool has,.string txt],true⟩,⟨ac,0,[.int .i16 (IntKind.i16.wrap v),.int .i32 ((aa.f 0).n),.slice ((aa.f 1).A) ((aa.f 1).l) ((aa.f 1).c),.bool ((aa.f 2).b),.map aa.m],true⟩,⟨af,0,[.bool has,.string txt],true⟩,⟨ae,0,[.pointer none],true⟩,⟨ab,0,[.string txt],true⟩,⟨ag,0,[.pointer (some ⟨ab,0,none⟩)],true⟩,⟨ah,0,[.func (.func 131) #[] #[.pointer (some ⟨ab,0,none⟩)]],true⟩] from ⟨rfl,rfl,⟨rfl,rfl,trivial⟩⟩)).pk (env':=[(25,.v (.slice ai ((((([]:Bs) ++ [by8 0,by8 0,by8 0,by8 0] ++ be 2 57 ++ be 2 (IntKind.i16.wrap v) ++ be 4 num) ++ (be 2 txt.size ++ sb txt) ++ [by8 0]) ++ qaa (IntKind.i16.wrap v) aa).length) aj)),(21,.v (.agg #[.bool has,.string txt])),(23,.v (.iface 63 (.pointer (some ⟨ac,0,none⟩)))),(24,.v (.int .i32 num))])
   refine qaj [5,6] [] [(8,.v (.slice ai ((((([]:Bs) ++ [by8 0,by8 0,by8 0,by8 0] ++ be 2 57 ++ be 2 (IntKind.i16.wrap v) ++ be 4 num) ++ (be 2 txt.size ++ sb txt) ++ [by8 0]) ++ qaa (IntKind.i16.wrap v) aa).length) aj)),(9,.v (.bool true))] aS hK fun pz hZ=>?_
   refine qae (qab ?_)
   refine wp_ret ?_
   refine qaB hZ aS.cells (v:=.tuple #[.slice ai ((((([]:Bs) ++ [by8 0,by8 0,by8 0,by8 0] ++ be 2 57 ++ be 2 (IntKind.i16.wrap v) ++ be 4 num) ++ (be 2 txt.size ++ sb txt) ++ [by8 0]) ++ qaa (IntKind.i16.wrap v) aa).length) aj,.bool true]) kz ?_
   have ia:be 4 (IntKind.i32.wrap ((((((([]:Bs) ++ [by8 0,by8 0,by8 0,by8 0] ++ be 2 57 ++ be 2 (IntKind.i16.wrap v) ++ be 4 num) ++ (be 2 txt.size ++ sb txt) ++ [by8 0]) ++ qaa (IntKind.i16.wrap v) aa).length) - 4:Nat):Int)) ++ (((([]:Bs) ++ [by8 0,by8 0,by8 0,by8 0] ++ be 2 57 ++ be 2 (IntKind.i16.wrap v) ++ be 4 num) ++ (be 2 txt.size ++ sb txt) ++ [by8 0]) ++ qaa (IntKind.i16.wrap v) aa).drop 4 = (qa1 57 (IntKind.i16.wrap v) num has (sb txt) (decide ((IntKind.i16.wrap v) ≥ 0)) (qaa (IntKind.i16.wrap v) aa)):=qcp (R:=outB 57 (IntKind.i16.wrap v) num has (sb txt) (decide ((IntKind.i16.wrap v) ≥ 0)) (qaa (IntKind.i16.wrap v) aa)) (by simp [outB,qdJ,qbC,aJ,bf])
   exact qcq aS (k:=1) rfl (ia.trans (by rw [ba])) (by simp only [List.length_append,List.length_cons,List.length_nil]; omega)
  have mt:=of_decide_eq_false bf
  refine wp_skip ?_
  refine qab ?_
  refine qad [0,1,2,3] kz ?_
  refine qaj [0,1] [2,3] [(49,.v (.iface 63 (.pointer (some ⟨ac,0,none⟩)))),(50,.v (.slice aF (((([]:Bs) ++ [by8 0,by8 0,by8 0,by8 0] ++ be 2 57 ++ be 2 (IntKind.i16.wrap v) ++ be 4 num) ++ (be 2 txt.size ++ sb txt)).length) aG))] ax cE fun pA ib=>?_
  have ic:=(qaS _ (((((((((((((aP.trans aQ).trans bG).trans bI).trans bJ).trans bK).trans bL).trans bM).trans bN).trans bO).trans bQ).trans bS).trans bT).trans bU).step immM (((((((((((((aP.trans aQ).trans bG).trans bI).trans bJ).trans bK).trans bL).trans bM).trans bN).trans bO).trans bQ).trans bS).trans bT).trans bU).to' cJ)
  have dV:=ax.strImm (G:=F) 1 rfl
  have hk_:=qaS _ (Step.refl _ Nil) nilM (fun b o h_ _=>qfS h_) ic
  refine qam (qcE ib (t := 63) (v := (.pointer (some ⟨ac, 0, none⟩))) (v' := (.pointer (some ⟨ac, 0, none⟩))) (name := "AppendTo") (f := 235) (vs := [.slice aF (((([] : Bs) ++ [by8 0, by8 0, by8 0, by8 0] ++ be 2 57 ++ be 2 (IntKind.i16.wrap v) ++ be 4 num) ++ (be 2 txt.size ++ sb txt)).length) aG]) (d := 51) kz (fun _ => by kernel_rfl) Tryz.call235 (qby (IntKind.i16.wrap v) aa ac 0 aF aG ((([] : Bs) ++ [by8 0, by8 0, by8 0, by8 0] ++ be 2 57 ++ be 2 (IntKind.i16.wrap v) ++ be 4 num) ++ (be 2 txt.size ++ sb txt)) _ _ dV hk_ (qfQ 1 rfl) (ax.own 1 _ rfl) (by first | omega | (simp only [List.length_append, List.length_cons, List.length_nil, be_length, qbC]; omega) | (simp; omega))) ?_)
  rintro e_ pB ⟨ak,al,rfl,ig,di,dj⟩
  refine ⟨_,rfl,fun pC ii=>?_⟩
  have dl:WOk _ _ _ _ [⟨some ⟨au,0,none⟩,1,96,1,1,[.iface 147 (.agg #[.func (.func 131) #[] #[.pointer (some ⟨ab,0,none⟩)]])]⟩,brow ak al 5 (((([]:Bs) ++ [by8 0,by8 0,by8 0,by8 0] ++ be 2 57 ++ be 2 (IntKind.i16.wrap v) ++ be 4 num) ++ (be 2 txt.size ++ sb txt)) ++ qaa (IntKind.i16.wrap v) aa)]:=ax.grow (k:=1) rfl di ig dj
  have mu:=Fr.grow [⟨b1,0,[.bool has,.string txt],true⟩,⟨ac,0,[.int .i16 (IntKind.i16.wrap v),.int .i32 ((aa.f 0).n),.slice ((aa.f 1).A) ((aa.f 1).l) ((aa.f 1).c),.bool ((aa.f 2).b),.map aa.m],true⟩,⟨af,0,[.bool has,.string txt],true⟩,⟨ae,0,[.pointer none],true⟩,⟨ab,0,[.string txt],true⟩,⟨ag,0,[.pointer (some ⟨ab,0,none⟩)],true⟩,⟨ah,0,[.func (.func 131) #[] #[.pointer (some ⟨ab,0,none⟩)]],true⟩] (k:=1) (rs:=[⟨some ⟨au,0,none⟩,1,96,1,1,[.iface 147 (.agg #[.func (.func 131) #[] #[.pointer (some ⟨ab,0,none⟩)]])]⟩,brow aF aG 5 ((([]:Bs) ++ [by8 0,by8 0,by8 0,by8 0] ++ be 2 57 ++ be 2 (IntKind.i16.wrap v) ++ be 4 num) ++ (be 2 txt.size ++ sb txt))]) (r':=(brow ak al 5 (((([]:Bs) ++ [by8 0,by8 0,by8 0,by8 0] ++ be 2 57 ++ be 2 (IntKind.i16.wrap v) ++ be 4 num) ++ (be 2 txt.size ++ sb txt)) ++ qaa (IntKind.i16.wrap v) aa))) rfl di dj
  refine qaj [3] [] [(1,.v (.slice ak ((((([]:Bs) ++ [by8 0,by8 0,by8 0,by8 0] ++ be 2 57 ++ be 2 (IntKind.i16.wrap v) ++ be 4 num) ++ (be 2 txt.size ++ sb txt)) ++ qaa (IntKind.i16.wrap v) aa).length) al))] dl ii fun pD ij=>?_
  refine qae (qab ?_)
  refine qbe 7 kz dl fun pE mw bW bj=>?_
  refine qaY [0,2] [(1,.v (.slice ak ((((([]:Bs) ++ [by8 0,by8 0,by8 0,by8 0] ++ be 2 57 ++ be 2 (IntKind.i16.wrap v) ++ be 4 num) ++ (be 2 txt.size ++ sb txt)) ++ qaa (IntKind.i16.wrap v) aa).length) al)),(52,.v (.slice ak ((((([]:Bs) ++ [by8 0,by8 0,by8 0,by8 0] ++ be 2 57 ++ be 2 (IntKind.i16.wrap v) ++ be 4 num) ++ (be 2 txt.size ++ sb txt)) ++ qaa (IntKind.i16.wrap v) aa).length) al)),(54,.v (.slice ak ((((([]:Bs) ++ [by8 0,by8 0,by8 0,by8 0] ++ be 2 57 ++ be 2 (IntKind.i16.wrap v) ++ be 4 num) ++ (be 2 txt.size ++ sb txt)) ++ qaa (IntKind.i16.wrap v) aa).length) al))] 5 (qac qai) (fun _ h=>h.cells) bj ij fun pF dp=>?_
  refine qeo (i:=1) (j:=3) kz ?_ ?_
  ·
   refine (qbn dp (t:=24) (A:=ak) (m:=(((([]:Bs) ++ [by8 0,by8 0,by8 0,by8 0] ++ be 2 57 ++ be 2 (IntKind.i16.wrap v) ++ be 4 num) ++ (be 2 txt.size ++ sb txt)) ++ qaa (IntKind.i16.wrap v) aa).length) (cp:=al) (q:=0) (d:=53) (j:=0) kz (e:=5) (size:=1) (bytes:=1) kz (rfl) (by omega) fun pG ik=>?_)
   refine ⟨fun _=>bj,?_⟩
   refine qaL (i:=3) kz (qbi ik (t:=24) (A:=ak) (m:=((((([]:Bs) ++ [by8 0,by8 0,by8 0,by8 0] ++ be 2 57 ++ be 2 (IntKind.i16.wrap v) ++ be 4 num) ++ (be 2 txt.size ++ sb txt)) ++ qaa (IntKind.i16.wrap v) aa).length)) (cp:=al) (q:=4) (d:=55) (j:=4) kz (e:=5) (bytes:=1) kz (rfl) (by first | omega | (simp only [List.length_append,List.length_cons,List.length_nil]; omega)) fun pH il=>?_)
   refine ⟨fun _=>bj,?_⟩
   refine qaY [4,5] [(1,.v (.slice ak ((((([]:Bs) ++ [by8 0,by8 0,by8 0,by8 0] ++ be 2 57 ++ be 2 (IntKind.i16.wrap v) ++ be 4 num) ++ (be 2 txt.size ++ sb txt)) ++ qaa (IntKind.i16.wrap v) aa).length) al)),(53,.v (.slice ak 0 al)),(57,.v (.int .i32 (IntKind.i32.wrap ((((((([]:Bs) ++ [by8 0,by8 0,by8 0,by8 0] ++ be 2 57 ++ be 2 (IntKind.i16.wrap v) ++ be 4 num) ++ (be 2 txt.size ++ sb txt)) ++ qaa (IntKind.i16.wrap v) aa).length) - 4:Nat):Int))))] 1 (qac qai) (fun _ h=>h.cells) bj il fun pI im=>?_
   refine qaL (i:=6) kz (qal im (f:=133) (vs:=[.slice ak 0 al,.int .i32 (IntKind.i32.wrap ((((((([]:Bs) ++ [by8 0,by8 0,by8 0,by8 0] ++ be 2 57 ++ be 2 (IntKind.i16.wrap v) ++ be 4 num) ++ (be 2 txt.size ++ sb txt)) ++ qaa (IntKind.i16.wrap v) aa).length) - 4:Nat):Int))]) (d:=58) kz Tryz.call133 (qbs (IntKind.i32.wrap ((((((([]:Bs) ++ [by8 0,by8 0,by8 0,by8 0] ++ be 2 57 ++ be 2 (IntKind.i16.wrap v) ++ be 4 num) ++ (be 2 txt.size ++ sb txt)) ++ qaa (IntKind.i16.wrap v) aa).length) - 4:Nat):Int)) ak al (((([]:Bs) ++ [by8 0,by8 0,by8 0,by8 0] ++ be 2 57 ++ be 2 (IntKind.i16.wrap v) ++ be 4 num) ++ (be 2 txt.size ++ sb txt)) ++ qaa (IntKind.i16.wrap v) aa) _ (bW.own 1 _ rfl) (by simp only [List.length_append,List.length_cons,List.length_nil]; omega)) ?_)
   rintro e_ pJ ⟨rfl,io,dq⟩
   refine ⟨_,rfl,fun pK ip=>?_⟩
   have aT:WOk _ _ _ _ [⟨some ⟨au,0,none⟩,1,96,1,1,[.iface 147 (.agg #[.func (.func 131) #[] #[.pointer (some ⟨ab,0,none⟩)]])]⟩,⟨ak,al,5,1,(((([]:Bs) ++ [by8 0,by8 0,by8 0,by8 0] ++ be 2 57 ++ be 2 (IntKind.i16.wrap v) ++ be 4 num) ++ (be 2 txt.size ++ sb txt)) ++ qaa (IntKind.i16.wrap v) aa).length,bc (be 4 (IntKind.i32.wrap ((((((([]:Bs) ++ [by8 0,by8 0,by8 0,by8 0] ++ be 2 57 ++ be 2 (IntKind.i16.wrap v) ++ be 4 num) ++ (be 2 txt.size ++ sb txt)) ++ qaa (IntKind.i16.wrap v) aa).length) - 4:Nat):Int)) ++ (((([]:Bs) ++ [by8 0,by8 0,by8 0,by8 0] ++ be 2 57 ++ be 2 (IntKind.i16.wrap v) ++ be 4 num) ++ (be 2 txt.size ++ sb txt)) ++ qaa (IntKind.i16.wrap v) aa).drop 4)⟩]:=bW.grow (k:=1) (r':=⟨ak,al,5,1,(((([]:Bs) ++ [by8 0,by8 0,by8 0,by8 0] ++ be 2 57 ++ be 2 (IntKind.i16.wrap v) ++ be 4 num) ++ (be 2 txt.size ++ sb txt)) ++ qaa (IntKind.i16.wrap v) aa).length,bc (be 4 (IntKind.i32.wrap ((((((([]:Bs) ++ [by8 0,by8 0,by8 0,by8 0] ++ be 2 57 ++ be 2 (IntKind.i16.wrap v) ++ be 4 num) ++ (be 2 txt.size ++ sb txt)) ++ qaa (IntKind.i16.wrap v) aa).length) - 4:Nat):Int)) ++ (((([]:Bs) ++ [by8 0,by8 0,by8 0,by8 0] ++ be 2 57 ++ be 2 (IntKind.i16.wrap v) ++ be 4 num) ++ (be 2 txt.size ++ sb txt)) ++ qaa (IntKind.i16.wrap v) aa).drop 4)⟩) rfl dq io (fun g' hg'=>.inl hg')
   have iq:=Fr.grow [⟨b1,0,[.bool has,.string txt],true⟩,⟨ac,0,[.int .i16 (IntKind.i16.wrap v),.int .i32 ((aa.f 0).n),.slice ((aa.f 1).A) ((aa.f 1).l) ((aa.f 1).c),.bool ((aa.f 2).b),.map aa.m],true⟩,⟨af,0,[.bool has,.string txt],true⟩,⟨ae,0,[.pointer none],true⟩,⟨ab,0,[.string txt],true⟩,⟨ag,0,[.pointer (some ⟨ab,0,none⟩)],true⟩,⟨ah,0,[.func (.func 131) #[] #[.pointer (some ⟨ab,0,none⟩)]],true⟩] (k:=1) (rs:=[⟨some ⟨au,0,none⟩,1,96,1,1,[.iface 147 (.agg #[.func (.func 131) #[] #[.pointer (some ⟨ab,0,none⟩)]])]⟩,brow ak al 5 (((([]:Bs) ++ [by8 0,by8 0,by8 0,by8 0] ++ be 2 57 ++ be 2 (IntKind.i16.wrap v) ++ be 4 num) ++ (be 2 txt.size ++ sb txt)) ++ qaa (IntKind.i16.wrap v) aa)]) (r':=⟨ak,al,5,1,(((([]:Bs) ++ [by8 0,by8 0,by8 0,by8 0] ++ be 2 57 ++ be 2 (IntKind.i16.wrap v) ++ be 4 num) ++ (be 2 txt.size ++ sb txt)) ++ qaa (IntKind.i16.wrap v) aa).length,bc (be 4 (IntKind.i32.wrap ((((((([]:Bs) ++ [by8 0,by8 0,by8 0,by8 0] ++ be 2 57 ++ be 2 (IntKind.i16.wrap v) ++ be 4 num) ++ (be 2 txt.size ++ sb txt)) ++ qaa (IntKind.i16.wrap v) aa).length) - 4:Nat):Int)) ++ (((([]:Bs) ++ [by8 0,by8 0,by8 0,by8 0] ++ be 2 57 ++ be 2 (IntKind.i16.wrap v) ++ be 4 num) ++ (be 2 txt.size ++ sb txt)) ++ qaa (IntKind.i16.wrap v) aa).drop 4)⟩) rfl dq (fun g' hg'=>.inl hg')
   have ir:=TT.ofW iq aT
   refine ⟨fun _=>ir,?_⟩
   refine qaT kz ?_ _
   refine qab ?_
   refine qaq [(8,.v (.slice ak ((((([]:Bs) ++ [by8 0,by8 0,by8 0,by8 0] ++ be 2 57 ++ be 2 (IntKind.i16.wrap v) ++ be 4 num) ++ (be 2 txt.size ++ sb txt)) ++ qaa (IntKind.i16.wrap v) aa).length) al))] aT ip fun pL iu=>?_
   refine wp_ret ?_
   refine qaB iu aT.cells (v:=.slice ak ((((([]:Bs) ++ [by8 0,by8 0,by8 0,by8 0] ++ be 2 57 ++ be 2 (IntKind.i16.wrap v) ++ be 4 num) ++ (be 2 txt.size ++ sb txt)) ++ qaa (IntKind.i16.wrap v) aa).length) al) kz ?_
   refine ⟨_,rfl,fun pM iv=>?_⟩
   have iw:=(EnvOk.places (tb':=[⟨b1,0,[.bool has,.string txt],true⟩,⟨ac,0,[.int .i16 (IntKind.i16.wrap v),.int .i32 ((aa.f 0).n),.slice ((aa.f 1).A) ((aa.f 1).l) ((aa.f 1).c),.bool ((aa.f 2).b),.map aa.m],true⟩,⟨af,0,[.bool has,.string txt],true⟩,⟨ae,0,[.pointer none],true⟩,⟨ab,0,[.string txt],true⟩,⟨ag,0,[.pointer (some ⟨ab,0,none⟩)],true⟩,⟨ah,0,[.func (.func 131) #[] #[.pointer (some ⟨ab,0,none⟩)]],true⟩]) iv (show Pl [⟨b1,0,[.bool has,.string txt],true⟩,⟨ac,0,[.int .i16 (IntKind.i16.wrap v),.int .i32 ((aa.f 0).n),.slice ((aa.f 1).A) ((aa.f 1).l) ((aa.f 1).c),.bool ((aa.f 2).b),.map aa.m],true⟩,⟨af,0,[.bool has,.string txt],true⟩,⟨ae,0,[.pointer none],true⟩,⟨ab,0,[.string txt],true⟩,⟨ag,0,[.pointer (some ⟨ab,0,none⟩)],true⟩,⟨ah,0,[.func (.func 131) #[] #[.pointer (some ⟨ab,0,none⟩)]],true⟩] [⟨b1,0,[.bool has,.string txt],true⟩,⟨ac,0,[.int .i16 (IntKind.i16.wrap v),.int .i32 ((aa.f 0).n),.slice ((aa.f 1).A) ((aa.f 1).l) ((aa.f 1).c),.bool ((aa.f 2).b),.map aa.m],true⟩,⟨af,0,[.bool has,.string txt],true⟩,⟨ae,0,[.pointer none],true⟩,⟨ab,0,[.string txt],true⟩,⟨ag,0,[.pointer (some ⟨ab,0,none⟩)],true⟩,⟨ah,0,[.func (.func 131) #[] #[.pointer (some ⟨ab,0,none⟩)]],true⟩] from ⟨rfl,rfl,⟨rfl,rfl,⟨rfl,rfl,⟨rfl,rfl,⟨rfl,rfl,⟨rfl,rfl,⟨rfl,rfl,trivial⟩⟩⟩⟩⟩⟩⟩)).pk (env':=[(19,.v (.slice ak ((((([]:Bs) ++ [by8 0,by8 0,by8 0,by8 0] ++ be 2 57 ++ be 2 (IntKind.i16.wrap v) ++ be 4 num) ++ (be 2 txt.size ++ sb txt)) ++ qaa (IntKind.i16.wrap v) aa).length) al)),(16,.p 5 0),(17,.v (.iface 63 (.pointer (some ⟨ac,0,none⟩)))),(18,.v (.int .i32 num))])
   refine qaj [4] [] [(6,.v (.slice ak ((((([]:Bs) ++ [by8 0,by8 0,by8 0,by8 0] ++ be 2 57 ++ be 2 (IntKind.i16.wrap v) ++ be 4 num) ++ (be 2 txt.size ++ sb txt)) ++ qaa (IntKind.i16.wrap v) aa).length) al))] aT iw fun pN ix=>?_
   refine qae (qab ?_)
   refine wp_ret ?_
   refine qaB ix aT.cells (v:=.slice ak ((((([]:Bs) ++ [by8 0,by8 0,by8 0,by8 0] ++ be 2 57 ++ be 2 (IntKind.i16.wrap v) ++ be 4 num) ++ (be 2 txt.size ++ sb txt)) ++ qaa (IntKind.i16.wrap v) aa).length) al) kz ?_
   refine ⟨_,rfl,fun pO iy=>?_⟩
   have iz:=(EnvOk.places (tb':=[⟨b1,0,[.bool has,.string txt],true⟩,⟨ac,0,[.int .i16 (IntKind.i16.wrap v),.int .i32 ((aa.f 0).n),.slice ((aa.f 1).A) ((aa.f 1).l) ((aa.f 1).c),.bool ((aa.f 2).b),.map aa.m],true⟩,⟨af,0,[.bool has,.string txt],true⟩,⟨ae,0,[.pointer none],true⟩,⟨ab,0,[.string txt],true⟩,⟨ag,0,[.pointer (some ⟨ab,0,none⟩)],true⟩,⟨ah,0,[.func (.func 131) #[] #[.pointer (some ⟨ab,0,none⟩)]],true⟩]) iy (show Pl [⟨b1,0,[.bool has,.string txt],true⟩,⟨ac,0,[.int .i16 (IntKind.i16.wrap v),.int .i32 ((aa.f 0).n),.slice ((aa.f 1).A) ((aa.f 1).l) ((aa.f 1).c),.bool ((aa.f 2).b),.map aa.m],true⟩] [⟨b1,0,[.bool has,.string txt],true⟩,⟨ac,0,[.int .i16 (IntKind.i16.wrap v),.int .i32 ((aa.f 0).n),.slice ((aa.f 1).A) ((aa.f 1).l) ((aa.f 1).c),.bool ((aa.f 2).b),.map aa.m],true⟩,⟨af,0,[.bool has,.string txt],true⟩,⟨ae,0,[.pointer none],true⟩,⟨ab,0,[.string txt],true⟩,⟨ag,0,[.pointer (some ⟨ab,0,none⟩)],true⟩,⟨ah,0,[.func (.func 131) #[] #[.pointer (some ⟨ab,0,none⟩)]],true⟩] from ⟨rfl,rfl,⟨rfl,rfl,trivial⟩⟩)).pk (env':=[(25,.v (.slice ak ((((([]:Bs) ++ [by8 0,by8 0,by8 0,by8 0] ++ be 2 57 ++ be 2 (IntKind.i16.wrap v) ++ be 4 num) ++ (be 2 txt.size ++ sb txt)) ++ qaa (IntKind.i16.wrap v) aa).length) al)),(21,.v (.agg #[.bool has,.string txt])),(23,.v (.iface 63 (.pointer (some ⟨ac,0,none⟩)))),(24,.v (.int .i32 num))])
   refine qaj [5,6] [] [(8,.v (.slice ak ((((([]:Bs) ++ [by8 0,by8 0,by8 0,by8 0] ++ be 2 57 ++ be 2 (IntKind.i16.wrap v) ++ be 4 num) ++ (be 2 txt.size ++ sb txt)) ++ qaa (IntKind.i16.wrap v) aa).length) al)),(9,.v (.bool true))] aT iz fun pP iA=>?_
   refine qae (qab ?_)
   refine wp_ret ?_
   refine qaB iA aT.cells (v:=.tuple #[.slice ak ((((([]:Bs) ++ [by8 0,by8 0,by8 0,by8 0] ++ be 2 57 ++ be 2 (IntKind.i16.wrap v) ++ be 4 num) ++ (be 2 txt.size ++ sb txt)) ++ qaa (IntKind.i16.wrap v) aa).length) al,.bool true]) kz ?_
   have iB:be 4 (IntKind.i32.wrap ((((((([]:Bs) ++ [by8 0,by8 0,by8 0,by8 0] ++ be 2 57 ++ be 2 (IntKind.i16.wrap v) ++ be 4 num) ++ (be 2 txt.size ++ sb txt)) ++ qaa (IntKind.i16.wrap v) aa).length) - 4:Nat):Int)) ++ (((([]:Bs) ++ [by8 0,by8 0,by8 0,by8 0] ++ be 2 57 ++ be 2 (IntKind.i16.wrap v) ++ be 4 num) ++ (be 2 txt.size ++ sb txt)) ++ qaa (IntKind.i16.wrap v) aa).drop 4 = (qa1 57 (IntKind.i16.wrap v) num has (sb txt) (decide ((IntKind.i16.wrap v) ≥ 0)) (qaa (IntKind.i16.wrap v) aa)):=qcp (R:=outB 57 (IntKind.i16.wrap v) num has (sb txt) (decide ((IntKind.i16.wrap v) ≥ 0)) (qaa (IntKind.i16.wrap v) aa)) (by simp [outB,qdJ,qbC,aJ,bf])
   exact qcq aT (k:=1) rfl (iB.trans (by rw [ba])) (by simp only [List.length_append,List.length_cons,List.length_nil]; omega)
  refine (qbi dp (t:=24) (A:=ak) (m:=((((([]:Bs) ++ [by8 0,by8 0,by8 0,by8 0] ++ be 2 57 ++ be 2 (IntKind.i16.wrap v) ++ be 4 num) ++ (be 2 txt.size ++ sb txt)) ++ qaa (IntKind.i16.wrap v) aa).length)) (cp:=al) (q:=4) (d:=55) (j:=4) kz (e:=5) (bytes:=1) kz (rfl) (by first | omega | (simp only [List.length_append,List.length_cons,List.length_nil]; omega)) fun pQ iC=>?_)
  refine ⟨fun _=>bj,?_⟩
  refine qaY [4,5] [(1,.v (.slice ak ((((([]:Bs) ++ [by8 0,by8 0,by8 0,by8 0] ++ be 2 57 ++ be 2 (IntKind.i16.wrap v) ++ be 4 num) ++ (be 2 txt.size ++ sb txt)) ++ qaa (IntKind.i16.wrap v) aa).length) al)),(52,.v (.slice ak ((((([]:Bs) ++ [by8 0,by8 0,by8 0,by8 0] ++ be 2 57 ++ be 2 (IntKind.i16.wrap v) ++ be 4 num) ++ (be 2 txt.size ++ sb txt)) ++ qaa (IntKind.i16.wrap v) aa).length) al)),(57,.v (.int .i32 (IntKind.i32.wrap ((((((([]:Bs) ++ [by8 0,by8 0,by8 0,by8 0] ++ be 2 57 ++ be 2 (IntKind.i16.wrap v) ++ be 4 num) ++ (be 2 txt.size ++ sb txt)) ++ qaa (IntKind.i16.wrap v) aa).length) - 4:Nat):Int))))] 2 (qac qai) (fun _ h=>h.cells) bj iC fun pR iD=>?_
  refine qaL (i:=1) kz (qbn iD (t:=24) (A:=ak) (m:=(((([]:Bs) ++ [by8 0,by8 0,by8 0,by8 0] ++ be 2 57 ++ be 2 (IntKind.i16.wrap v) ++ be 4 num) ++ (be 2 txt.size ++ sb txt)) ++ qaa (IntKind.i16.wrap v) aa).length) (cp:=al) (q:=0) (d:=53) (j:=0) kz (e:=5) (size:=1) (bytes:=1) kz (rfl) (by omega) fun pS iE=>?_)
  refine ⟨fun _=>bj,?_⟩
  refine qaL (i:=6) kz (qal iE (f:=133) (vs:=[.slice ak 0 al,.int .i32 (IntKind.i32.wrap ((((((([]:Bs) ++ [by8 0,by8 0,by8 0,by8 0] ++ be 2 57 ++ be 2 (IntKind.i16.wrap v) ++ be 4 num) ++ (be 2 txt.size ++ sb txt)) ++ qaa (IntKind.i16.wrap v) aa).length) - 4:Nat):Int))]) (d:=58) kz Tryz.call133 (qbs (IntKind.i32.wrap ((((((([]:Bs) ++ [by8 0,by8 0,by8 0,by8 0] ++ be 2 57 ++ be 2 (IntKind.i16.wrap v) ++ be 4 num) ++ (be 2 txt.size ++ sb txt)) ++ qaa (IntKind.i16.wrap v) aa).length) - 4:Nat):Int)) ak al (((([]:Bs) ++ [by8 0,by8 0,by8 0,by8 0] ++ be 2 57 ++ be 2 (IntKind.i16.wrap v) ++ be 4 num) ++ (be 2 txt.size ++ sb txt)) ++ qaa (IntKind.i16.wrap v) aa) _ (bW.own 1 _ rfl) (by simp only [List.length_append,List.length_cons,List.length_nil]; omega)) ?_)
  rintro e_ pT ⟨rfl,iF,dr⟩
  refine ⟨_,rfl,fun pU iG=>?_⟩
  have aU:WOk _ _ _ _ [⟨some ⟨au,0,none⟩,1,96,1,1,[.iface 147 (.agg #[.func (.func 131) #[] #[.pointer (some ⟨ab,0,none⟩)]])]⟩,⟨ak,al,5,1,(((([]:Bs) ++ [by8 0,by8 0,by8 0,by8 0] ++ be 2 57 ++ be 2 (IntKind.i16.wrap v) ++ be 4 num) ++ (be 2 txt.size ++ sb txt)) ++ qaa (IntKind.i16.wrap v) aa).length,bc (be 4 (IntKind.i32.wrap ((((((([]:Bs) ++ [by8 0,by8 0,by8 0,by8 0] ++ be 2 57 ++ be 2 (IntKind.i16.wrap v) ++ be 4 num) ++ (be 2 txt.size ++ sb txt)) ++ qaa (IntKind.i16.wrap v) aa).length) - 4:Nat):Int)) ++ (((([]:Bs) ++ [by8 0,by8 0,by8 0,by8 0] ++ be 2 57 ++ be 2 (IntKind.i16.wrap v) ++ be 4 num) ++ (be 2 txt.size ++ sb txt)) ++ qaa (IntKind.i16.wrap v) aa).drop 4)⟩]:=bW.grow (k:=1) (r':=⟨ak,al,5,1,(((([]:Bs) ++ [by8 0,by8 0,by8 0,by8 0] ++ be 2 57 ++ be 2 (IntKind.i16.wrap v) ++ be 4 num) ++ (be 2 txt.size ++ sb txt)) ++ qaa (IntKind.i16.wrap v) aa).length,bc (be 4 (IntKind.i32.wrap ((((((([]:Bs) ++ [by8 0,by8 0,by8 0,by8 0] ++ be 2 57 ++ be 2 (IntKind.i16.wrap v) ++ be 4 num) ++ (be 2 txt.size ++ sb txt)) ++ qaa (IntKind.i16.wrap v) aa).length) - 4:Nat):Int)) ++ (((([]:Bs) ++ [by8 0,by8 0,by8 0,by8 0] ++ be 2 57 ++ be 2 (IntKind.i16.wrap v) ++ be 4 num) ++ (be 2 txt.size ++ sb txt)) ++ qaa (IntKind.i16.wrap v) aa).drop 4)⟩) rfl dr iF (fun g' hg'=>.inl hg')
  have iH:=Fr.grow [⟨b1,0,[.bool has,.string txt],true⟩,⟨ac,0,[.int .i16 (IntKind.i16.wrap v),.int .i32 ((aa.f 0).n),.slice ((aa.f 1).A) ((aa.f 1).l) ((aa.f 1).c),.bool ((aa.f 2).b),.map aa.m],true⟩,⟨af,0,[.bool has,.string txt],true⟩,⟨ae,0,[.pointer none],true⟩,⟨ab,0,[.string txt],true⟩,⟨ag,0,[.pointer (some ⟨ab,0,none⟩)],true⟩,⟨ah,0,[.func (.func 131) #[] #[.pointer (some ⟨ab,0,none⟩)]],true⟩] (k:=1) (rs:=[⟨some ⟨au,0,none⟩,1,96,1,1,[.iface 147 (.agg #[.func (.func 131) #[] #[.pointer (some ⟨ab,0,none⟩)]])]⟩,brow ak al 5 (((([]:Bs) ++ [by8 0,by8 0,by8 0,by8 0] ++ be 2 57 ++ be 2 (IntKind.i16.wrap v) ++ be 4 num) ++ (be 2 txt.size ++ sb txt)) ++ qaa (IntKind.i16.wrap v) aa)]) (r':=⟨ak,al,5,1,(((([]:Bs) ++ [by8 0,by8 0,by8 0,by8 0] ++ be 2 57 ++ be 2 (IntKind.i16.wrap v) ++ be 4 num) ++ (be 2 txt.size ++ sb txt)) ++ qaa (IntKind.i16.wrap v) aa).length,bc (be 4 (IntKind.i32.wrap ((((((([]:Bs) ++ [by8 0,by8 0,by8 0,by8 0] ++ be 2 57 ++ be 2 (IntKind.i16.wrap v) ++ be 4 num) ++ (be 2 txt.size ++ sb txt)) ++ qaa (IntKind.i16.wrap v) aa).length) - 4:Nat):Int)) ++ (((([]:Bs) ++ [by8 0,by8 0,by8 0,by8 0] ++ be 2 57 ++ be 2 (IntKind.i16.wrap v) ++ be 4 num) ++ (be 2 txt.size ++ sb txt)) ++ qaa (IntKind.i16.wrap v) aa).drop 4)⟩) rfl dr (fun g' hg'=>.inl hg')
  have iI:=TT.ofW iH aU
  refine ⟨fun _=>iI,?_⟩
  refine qaT kz ?_ _
  refine qab ?_
  refine qaq [(8,.v (.slice ak ((((([]:Bs) ++ [by8 0,by8 0,by8 0,by8 0] ++ be 2 57 ++ be 2 (IntKind.i16.wrap v) ++ be 4 num) ++ (be 2 txt.size ++ sb txt)) ++ qaa (IntKind.i16.wrap v) aa).length) al))] aU iG fun pV iJ=>?_
  refine wp_ret ?_
  refine qaB iJ aU.cells (v:=.slice ak ((((([]:Bs) ++ [by8 0,by8 0,by8 0,by8 0] ++ be 2 57 ++ be 2 (IntKind.i16.wrap v) ++ be 4 num) ++ (be 2 txt.size ++ sb txt)) ++ qaa (IntKind.i16.wrap v) aa).length) al) kz ?_
  refine ⟨_,rfl,fun pW iK=>?_⟩
  have iL:=(EnvOk.places (tb':=[⟨b1,0,[.bool has,.string txt],true⟩,⟨ac,0,[.int .i16 (IntKind.i16.wrap v),.int .i32 ((aa.f 0).n),.slice ((aa.f 1).A) ((aa.f 1).l) ((aa.f 1).c),.bool ((aa.f 2).b),.map aa.m],true⟩,⟨af,0,[.bool has,.string txt],true⟩,⟨ae,0,[.pointer none],true⟩,⟨ab,0,[.string txt],true⟩,⟨ag,0,[.pointer (some ⟨ab,0,none⟩)],true⟩,⟨ah,0,[.func (.func 131) #[] #[.pointer (some ⟨ab,0,none⟩)]],true⟩]) iK (show Pl [⟨b1,0,[.bool has,.string txt],true⟩,⟨ac,0,[.int .i16 (IntKind.i16.wrap v),.int .i32 ((aa.f 0).n),.slice ((aa.f 1).A) ((aa.f 1).l) ((aa.f 1).c),.bool ((aa.f 2).b),.map aa.m],true⟩,⟨af,0,[.bool has,.string txt],true⟩,⟨ae,0,[.pointer none],true⟩,⟨ab,0,[.string txt],true⟩,⟨ag,0,[.pointer (some ⟨ab,0,none⟩)],true⟩,⟨ah,0,[.func (.func 131) #[] #[.pointer (some ⟨ab,0,none⟩)]],true⟩] [⟨b1,0,[.bool has,.string txt],true⟩,⟨ac,0,[.int .i16 (IntKind.i16.wrap v),.int .i32 ((aa.f 0).n),.slice ((aa.f 1).A) ((aa.f 1).l) ((aa.f 1).c),.bool ((aa.f 2).b),.map aa.m],true⟩,⟨af,0,[.bool has,.string txt],true⟩,⟨ae,0,[.pointer none],true⟩,⟨ab,0,[.string txt],true⟩,⟨ag,0,[.pointer (some ⟨ab,0,none⟩)],true⟩,⟨ah,0,[.func (.func 131) #[] #[.pointer (some ⟨ab,0,none⟩)]],true⟩] from ⟨rfl,rfl,⟨rfl,rfl,⟨rfl,rfl,⟨rfl,rfl,⟨rfl,rfl,⟨rfl,rfl,⟨rfl,rfl,trivial⟩⟩⟩⟩⟩⟩⟩)).pk (env':=[(19,.v (.slice ak ((((([]:Bs) ++ [by8 0,by8 0,by8 0,by8 0] ++ be 2 57 ++ be 2 (IntKind.i16.wrap v) ++ be 4 num) ++ (be 2 txt.size ++ sb txt)) ++ qaa (IntKind.i16.wrap v) aa).length) al)),(16,.p 5 0),(17,.v (.iface 63 (.pointer (some ⟨ac,0,none⟩)))),(18,.v (.int .i32 num))])
  refine qaj [4] [] [(6,.v (.slice ak ((((([]:Bs) ++ [by8 0,by8 0,by8 0,by8 0] ++ be 2 57 ++ be 2 (IntKind.i16.wrap v) ++ be 4 num) ++ (be 2 txt.size ++ sb txt)) ++ qaa (IntKind.i16.wrap v) aa).length) al))] aU iL fun pX iM=>?_
  refine qae (qab ?_)
  refine wp_ret ?_
  refine qaB iM aU.cells (v:=.slice ak ((((([]:Bs) ++ [by8 0,by8 0,by8 0,by8 0] ++ be 2 57 ++ be 2 (IntKind.i16.wrap v) ++ be 4 num) ++ (be 2 txt.size ++ sb txt)) ++ qaa (IntKind.i16.wrap v) aa).length) al) kz ?_
  refine ⟨_,rfl,fun pY iN=>?_⟩
  have iO:=(EnvOk.places (tb':=[⟨b1,0,[.bool has,.string txt],true⟩,⟨ac,0,[.int .i16 (IntKind.i16.wrap v),.int .i32 ((aa.f 0).n),.slice ((aa.f 1).A) ((aa.f 1).l) ((aa.f 1).c),.bool ((aa.f 2).b),.map aa.m],true⟩,⟨af,0,[.bool has,.string txt],true⟩,⟨ae,0,[.pointer none],true⟩,⟨ab,0,[.string txt],true⟩,⟨ag,0,[.pointer (some ⟨ab,0,none⟩)],true⟩,⟨ah,0,[.func (.func 131) #[] #[.pointer (some ⟨ab,0,none⟩)]],true⟩]) iN (show Pl [⟨b1,0,[.bool has,.string txt],true⟩,⟨ac,0,[.int .i16 (IntKind.i16.wrap v),.int .i32 ((aa.f 0).n),.slice ((aa.f 1).A) ((aa.f 1).l) ((aa.f 1).c),.bool ((aa.f 2).b),.map aa.m],true⟩] [⟨b1,0,[.bool has,.string txt],true⟩,⟨ac,0,[.int .i16 (IntKind.i16.wrap v),.int .i32 ((aa.f 0).n),.slice ((aa.f 1).A) ((aa.f 1).l) ((aa.f 1).c),.bool ((aa.f 2).b),.map aa.m],true⟩,⟨af,0,[.bool has,.string txt],true⟩,⟨ae,0,[.pointer none],true⟩,⟨ab,0,[.string txt],true⟩,⟨ag,0,[.pointer (some ⟨ab,0,none⟩)],true⟩,⟨ah,0,[.func (.func 131) #[] #[.pointer (some ⟨ab,0,none⟩)]],true⟩] from ⟨rfl,rfl,⟨rfl,rfl,trivial⟩⟩)).pk (env':=[(25,.v (.slice ak ((((([]:Bs) ++ [by8 0,by8 0,by8 0,by8 0] ++ be 2 57 ++ be 2 (IntKind.i16.wrap v) ++ be 4 num) ++ (be 2 txt.size ++ sb txt)) ++ qaa (IntKind.i16.wrap v) aa).length) al)),(21,.v (.agg #[.bool has,.string txt])),(23,.v (.iface 63 (.pointer (some ⟨ac,0,none⟩)))),(24,.v (.int .i32 num))])
  refine qaj [5,6] [] [(8,.v (.slice ak ((((([]:Bs) ++ [by8 0,by8 0,by8 0,by8 0] ++ be 2 57 ++ be 2 (IntKind.i16.wrap v) ++ be 4 num) ++ (be 2 txt.size ++ sb txt)) ++ qaa (IntKind.i16.wrap v) aa).length) al)),(9,.v (.bool true))] aU iO fun pZ iP=>?_
  refine qae (qab ?_)
  refine wp_ret ?_
  refine qaB iP aU.cells (v:=.tuple #[.slice ak ((((([]:Bs) ++ [by8 0,by8 0,by8 0,by8 0] ++ be 2 57 ++ be 2 (IntKind.i16.wrap v) ++ be 4 num) ++ (be 2 txt.size ++ sb txt)) ++ qaa (IntKind.i16.wrap v) aa).length) al,.bool true]) kz ?_
  have iQ:be 4 (IntKind.i32.wrap ((((((([]:Bs) ++ [by8 0,by8 0,by8 0,by8 0] ++ be 2 57 ++ be 2 (IntKind.i16.wrap v) ++ be 4 num) ++ (be 2 txt.size ++ sb txt)) ++ qaa (IntKind.i16.wrap v) aa).length) - 4:Nat):Int)) ++ (((([]:Bs) ++ [by8 0,by8 0,by8 0,by8 0] ++ be 2 57 ++ be 2 (IntKind.i16.wrap v) ++ be 4 num) ++ (be 2 txt.size ++ sb txt)) ++ qaa (IntKind.i16.wrap v) aa).drop 4 = (qa1 57 (IntKind.i16.wrap v) num has (sb txt) (decide ((IntKind.i16.wrap v) ≥ 0)) (qaa (IntKind.i16.wrap v) aa)):=qcp (R:=outB 57 (IntKind.i16.wrap v) num has (sb txt) (decide ((IntKind.i16.wrap v) ≥ 0)) (qaa (IntKind.i16.wrap v) aa)) (by simp [outB,qdJ,qbC,aJ,bf])
  exact qcq aU (k:=1) rfl (iQ.trans (by rw [ba])) (by simp only [List.length_append,List.length_cons,List.length_nil]; omega)
 refine wp_skip ?_
 refine qab ?_
 refine qad [0,1,2,3,4] kz ?_
 refine qaj [0,1,2] [3,4] [(16,.p 3 0),(17,.v (.iface 63 (.pointer (some ⟨ac,0,none⟩)))),(18,.v (.int .i32 num))] av cC fun p4 iR=>?_
 refine qam (qa5 iR (f:=91) (vs:=[.pointer (some ⟨ae,0,none⟩),.slice none 0 0,.iface 63 (.pointer (some ⟨ac,0,none⟩)),.int .i32 num]) (d:=19) (n':=60) kz Tryz.call91 Tryz.func91 rfl Tryz.ntmps91 kz fun p5 iS=>?_)
 have iT:=iS.recast 0 (.v (.pointer (some ⟨ae,0,none⟩))) (.p 3 0) rfl rfl (Nat.le_of_ble_eq_true (n:=4) rfl)
 refine qaq [(0,.p 3 0),(1,.v (.slice none 0 0)),(2,.v (.iface 63 (.pointer (some ⟨ac,0,none⟩)))),(3,.v (.int .i32 num))] av iT fun p6 iU=>?_
 refine qad [0,1,2,3] kz ?_
 refine qaj [0] [1,2,3] [(0,.p 3 0),(2,.v (.iface 63 (.pointer (some ⟨ac,0,none⟩)))),(3,.v (.int .i32 num)),(12,.v (.slice none 0 0))] av iU fun p7 iV=>?_
 have iW:=av.addNil 5 1
 have bX:=av.frNil 5 1
 refine qba iW iV (k:=0) (e:=5) (size:=1) (len:=4) (cs:=[.int .u8 0,.int .u8 0,.int .u8 0,.int .u8 0]) (d1:=13) (d:=14) kz (t:=24) (bytes:=1) kz (fun _=>by kernel_rfl) rfl kz (by first | omega | (simp only [List.length_append,List.length_cons,List.length_nil,be_length,qbC]; omega) | (simp; omega)) fun aH aI p8 p9 bY iX ⟨_,iY⟩=>?_
 have iZ:(⟨aH,aI,5,1,([]:Bs).length + 4,bc ([]:Bs) ++ [.int .u8 0,.int .u8 0,.int .u8 0,.int .u8 0]⟩:Rw) = brow aH aI 5 (([]:Bs) ++ [by8 0,by8 0,by8 0,by8 0]):=qaU (by simp only [bc,List.map,qbf]; try rfl) rfl
 obtain ⟨ay,bZ⟩:=iX.rowEq 0 [brow aH aI 5 (([]:Bs) ++ [by8 0,by8 0,by8 0,by8 0])] iZ
 have i6:=EnvOk.pick iY (ks:=[0,2,3,12,14]) (env':=[(0,.p 3 0),(2,.v (.iface 63 (.pointer (some ⟨ac,0,none⟩)))),(3,.v (.int .i32 num)),(12,.v (.slice none 0 0)),(14,.v (.slice aH (([]:Bs).length + 4) aI))]) kz
 have i7:=i6.cast (env':=[(0,.p 3 0),(2,.v (.iface 63 (.pointer (some ⟨ac,0,none⟩)))),(3,.v (.int .i32 num)),(12,.v (.slice none 0 0)),(14,.v (.slice aH ((([]:Bs) ++ [by8 0,by8 0,by8 0,by8 0]).length) aI))]) (by simp only [List.length_append,List.length_cons,List.length_nil,Nat.zero_add])
 refine qaj [3] [] [(0,.p 3 0),(1,.v (.slice aH ((([]:Bs) ++ [by8 0,by8 0,by8 0,by8 0]).length) aI)),(2,.v (.iface 63 (.pointer (some ⟨ac,0,none⟩)))),(3,.v (.int .i32 num))] ay i7 fun qa ja=>?_
 refine qae (qab ?_)
 refine qad [0,1,2] kz ?_
 refine qaj [0] [1,2] [(0,.p 3 0),(1,.v (.slice aH ((([]:Bs) ++ [by8 0,by8 0,by8 0,by8 0]).length) aI)),(2,.v (.iface 63 (.pointer (some ⟨ac,0,none⟩)))),(3,.v (.int .i32 num)),(15,.v (.iface 63 (.pointer (some ⟨ac,0,none⟩))))] ay ja fun qb jb=>?_
 refine qam (qbY jb (t := 63) (v := (.pointer (some ⟨ac, 0, none⟩))) (v' := (.pointer (some ⟨ac, 0, none⟩))) (name := "Key") (f := 238) (vs := []) (d := 16) (n' := 3) kz (fun _ => by kernel_rfl) Tryz.call238 Tryz.func238 rfl Tryz.ntmps238 kz fun qc jc => ?_)
 have jd:=jc.recast 0 (.v (.pointer (some ⟨ac,0,none⟩))) (.p 1 0) rfl rfl (Nat.le_of_ble_eq_true (n:=2) rfl)
 refine qaq [] ay jd fun qd je=>?_
 refine qaq [(2,.v (.int .i16 57))] ay je fun qe jf=>?_
 refine wp_ret ?_
 refine qaB jf ay.cells (v:=.int .i16 57) kz ?_
 refine ⟨_,rfl,fun qf jg=>?_⟩
 have jh:=(EnvOk.places (tb':=[⟨b1,0,[.bool has,.string txt],true⟩,⟨ac,0,[.int .i16 (IntKind.i16.wrap v),.int .i32 ((aa.f 0).n),.slice ((aa.f 1).A) ((aa.f 1).l) ((aa.f 1).c),.bool ((aa.f 2).b),.map aa.m],true⟩,⟨af,0,[.bool has,.string txt],true⟩,⟨ae,0,[.pointer none],true⟩]) jg (show Pl [⟨b1,0,[.bool has,.string txt],true⟩,⟨ac,0,[.int .i16 (IntKind.i16.wrap v),.int .i32 ((aa.f 0).n),.slice ((aa.f 1).A) ((aa.f 1).l) ((aa.f 1).c),.bool ((aa.f 2).b),.map aa.m],true⟩,⟨af,0,[.bool has,.string txt],true⟩,⟨ae,0,[.pointer none],true⟩] [⟨b1,0,[.bool has,.string txt],true⟩,⟨ac,0,[.int .i16 (IntKind.i16.wrap v),.int .i32 ((aa.f 0).n),.slice ((aa.f 1).A) ((aa.f 1).l) ((aa.f 1).c),.bool ((aa.f 2).b),.map aa.m],true⟩,⟨af,0,[.bool has,.string txt],true⟩,⟨ae,0,[.pointer none],true⟩] from ⟨rfl,rfl,⟨rfl,rfl,⟨rfl,rfl,⟨rfl,rfl,trivial⟩⟩⟩⟩)).pk (env':=[(16,.v (.int .i16 57)),(0,.p 3 0),(1,.v (.slice aH ((([]:Bs) ++ [by8 0,by8 0,by8 0,by8 0]).length) aI)),(2,.v (.iface 63 (.pointer (some ⟨ac,0,none⟩)))),(3,.v (.int .i32 num)),(15,.v (.iface 63 (.pointer (some ⟨ac,0,none⟩))))])
 refine qaj [2] [] [(0,.p 3 0),(1,.v (.slice aH ((([]:Bs) ++ [by8 0,by8 0,by8 0,by8 0]).length) aI)),(2,.v (.iface 63 (.pointer (some ⟨ac,0,none⟩)))),(3,.v (.int .i32 num)),(9,.v (.int .i16 57))] ay jh fun qg ji=>?_
 refine qae (qab ?_)
 refine qad [0,1,2] kz ?_
 refine qaj [0] [1,2] [(0,.p 3 0),(1,.v (.slice aH ((([]:Bs) ++ [by8 0,by8 0,by8 0,by8 0]).length) aI)),(2,.v (.iface 63 (.pointer (some ⟨ac,0,none⟩)))),(3,.v (.int .i32 num)),(9,.v (.int .i16 57)),(17,.v (.iface 63 (.pointer (some ⟨ac,0,none⟩))))] ay ji fun qh jj=>?_
 refine qam (qbY jj (t := 63) (v := (.pointer (some ⟨ac, 0, none⟩))) (v' := (.pointer (some ⟨ac, 0, none⟩))) (name := "GetVersion") (f := 236) (vs := []) (d := 18) (n' := 7) kz (fun _ => by kernel_rfl) Tryz.call236 Tryz.func236 rfl Tryz.ntmps236 kz fun qi jk => ?_)
 have jl:=jk.recast 0 (.v (.pointer (some ⟨ac,0,none⟩))) (.p 1 0) rfl rfl (Nat.le_of_ble_eq_true (n:=2) rfl)
 refine qaq [(0,.p 1 0)] ay jl fun qj jm=>?_
 refine qaq [(2,.v (.int .i16 (IntKind.i16.wrap v)))] ay jm fun qk jn=>?_
 refine wp_ret ?_
 refine qaB jn ay.cells (v:=.int .i16 (IntKind.i16.wrap v)) kz ?_
 refine ⟨_,rfl,fun ql jo=>?_⟩
 have jp:=(EnvOk.places (tb':=[⟨b1,0,[.bool has,.string txt],true⟩,⟨ac,0,[.int .i16 (IntKind.i16.wrap v),.int .i32 ((aa.f 0).n),.slice ((aa.f 1).A) ((aa.f 1).l) ((aa.f 1).c),.bool ((aa.f 2).b),.map aa.m],true⟩,⟨af,0,[.bool has,.string txt],true⟩,⟨ae,0,[.pointer none],true⟩]) jo (show Pl [⟨b1,0,[.bool has,.string txt],true⟩,⟨ac,0,[.int .i16 (IntKind.i16.wrap v),.int .i32 ((aa.f 0).n),.slice ((aa.f 1).A) ((aa.f 1).l) ((aa.f 1).c),.bool ((aa.f 2).b),.map aa.m],true⟩,⟨af,0,[.bool has,.string txt],true⟩,⟨ae,0,[.pointer none],true⟩] [⟨b1,0,[.bool has,.string txt],true⟩,⟨ac,0,[.int .i16 (IntKind.i16.wrap v),.int .i32 ((aa.f 0).n),.slice ((aa.f 1).A) ((aa.f 1).l) ((aa.f 1).c),.bool ((aa.f 2).b),.map aa.m],true⟩,⟨af,0,[.bool has,.string txt],true⟩,⟨ae,0,[.pointer none],true⟩] from ⟨rfl,rfl,⟨rfl,rfl,⟨rfl,rfl,⟨rfl,rfl,trivial⟩⟩⟩⟩)).pk (env':=[(18,.v (.int .i16 (IntKind.i16.wrap v))),(0,.p 3 0),(1,.v (.slice aH ((([]:Bs) ++ [by8 0,by8 0,by8 0,by8 0]).length) aI)),(2,.v (.iface 63 (.pointer (some ⟨ac,0,none⟩)))),(3,.v (.int .i32 num)),(9,.v (.int .i16 57)),(17,.v (.iface 63 (.pointer (some ⟨ac,0,none⟩))))])
 refine qaj [2] [] [(0,.p 3 0),(1,.v (.slice aH ((([]:Bs) ++ [by8 0,by8 0,by8 0,by8 0]).length) aI)),(2,.v (.iface 63 (.pointer (some ⟨ac,0,none⟩)))),(3,.v (.int .i32 num)),(9,.v (.int .i16 57)),(10,.v (.int .i16 (IntKind.i16.wrap v)))] ay jp fun qm jq=>?_
 refine qae (qab ?_)
 refine qad [0,1,2,3] kz ?_
 refine qaj [0,1] [2,3] [(0,.p 3 0),(2,.v (.iface 63 (.pointer (some ⟨ac,0,none⟩)))),(3,.v (.int .i32 num)),(9,.v (.int .i16 57)),(10,.v (.int .i16 (IntKind.i16.wrap v))),(19,.v (.slice aH ((([]:Bs) ++ [by8 0,by8 0,by8 0,by8 0]).length) aI)),(20,.v (.int .i16 57))] ay jq fun qn jr=>?_
 refine qam (qal jr (f:=132) (vs:=[.slice aH ((([]:Bs) ++ [by8 0,by8 0,by8 0,by8 0]).length) aI,.int .i16 57]) (d:=21) kz Tryz.call132 (qbV aH aI (([]:Bs) ++ [by8 0,by8 0,by8 0,by8 0]) 57 _ (ay.own 0 _ rfl) (by first | omega | (simp only [List.length_append,List.length_cons,List.length_nil,be_length,qbC]; omega) | (simp; omega))) ?_)
 rintro e_ qo ⟨bB,bC,rfl,js,dt,du⟩
 refine ⟨_,rfl,fun qp jt=>?_⟩
 have b8:WOk _ _ _ _ [brow bB bC 5 (([]:Bs) ++ [by8 0,by8 0,by8 0,by8 0] ++ be 2 57)]:=ay.grow (k:=0) rfl dt js du
 have cd:Fr _ [⟨b1,0,[.bool has,.string txt],true⟩,⟨ac,0,[.int .i16 (IntKind.i16.wrap v),.int .i32 ((aa.f 0).n),.slice ((aa.f 1).A) ((aa.f 1).l) ((aa.f 1).c),.bool ((aa.f 2).b),.map aa.m],true⟩,⟨af,0,[.bool has,.string txt],true⟩,⟨ae,0,[.pointer none],true⟩] [brow aH aI 5 (([]:Bs) ++ [by8 0,by8 0,by8 0,by8 0])] _ [⟨b1,0,[.bool has,.string txt],true⟩,⟨ac,0,[.int .i16 (IntKind.i16.wrap v),.int .i32 ((aa.f 0).n),.slice ((aa.f 1).A) ((aa.f 1).l) ((aa.f 1).c),.bool ((aa.f 2).b),.map aa.m],true⟩,⟨af,0,[.bool has,.string txt],true⟩,⟨ae,0,[.pointer none],true⟩] [brow bB bC 5 (([]:Bs) ++ [by8 0,by8 0,by8 0,by8 0] ++ be 2 57)]:=Fr.grow _ (k:=0) (r':=(brow bB bC 5 (([]:Bs) ++ [by8 0,by8 0,by8 0,by8 0] ++ be 2 57))) rfl dt du
 refine qaj [3] [] [(0,.p 3 0),(1,.v (.slice bB ((([]:Bs) ++ [by8 0,by8 0,by8 0,by8 0] ++ be 2 57).length) bC)),(2,.v (.iface 63 (.pointer (some ⟨ac,0,none⟩)))),(3,.v (.int .i32 num)),(9,.v (.int .i16 57)),(10,.v (.int .i16 (IntKind.i16.wrap v)))] b8 jt fun qq ju=>?_
 refine qae (qab ?_)
 refine qad [0,1,2,3] kz ?_
 refine qaj [0,1] [2,3] [(0,.p 3 0),(2,.v (.iface 63 (.pointer (some ⟨ac,0,none⟩)))),(3,.v (.int .i32 num)),(9,.v (.int .i16 57)),(10,.v (.int .i16 (IntKind.i16.wrap v))),(22,.v (.slice bB ((([]:Bs) ++ [by8 0,by8 0,by8 0,by8 0] ++ be 2 57).length) bC)),(23,.v (.int .i16 (IntKind.i16.wrap v)))] b8 ju fun qr jv=>?_
 refine qam (qal jv (f:=132) (vs:=[.slice bB ((([]:Bs) ++ [by8 0,by8 0,by8 0,by8 0] ++ be 2 57).length) bC,.int .i16 (IntKind.i16.wrap v)]) (d:=24) kz Tryz.call132 (qbV bB bC (([]:Bs) ++ [by8 0,by8 0,by8 0,by8 0] ++ be 2 57) (IntKind.i16.wrap v) _ (b8.own 0 _ rfl) (by first | omega | (simp only [List.length_append,List.length_cons,List.length_nil,be_length,qbC]; omega) | (simp; omega))) ?_)
 rintro e_ qs ⟨bD,bE,rfl,jw,dv,dw⟩
 refine ⟨_,rfl,fun qt jx=>?_⟩
 have ce:WOk _ _ _ _ [brow bD bE 5 (([]:Bs) ++ [by8 0,by8 0,by8 0,by8 0] ++ be 2 57 ++ be 2 (IntKind.i16.wrap v))]:=b8.grow (k:=0) rfl dv jw dw
 have cg:Fr _ [⟨b1,0,[.bool has,.string txt],true⟩,⟨ac,0,[.int .i16 (IntKind.i16.wrap v),.int .i32 ((aa.f 0).n),.slice ((aa.f 1).A) ((aa.f 1).l) ((aa.f 1).c),.bool ((aa.f 2).b),.map aa.m],true⟩,⟨af,0,[.bool has,.string txt],true⟩,⟨ae,0,[.pointer none],true⟩] [brow bB bC 5 (([]:Bs) ++ [by8 0,by8 0,by8 0,by8 0] ++ be 2 57)] _ [⟨b1,0,[.bool has,.string txt],true⟩,⟨ac,0,[.int .i16 (IntKind.i16.wrap v),.int .i32 ((aa.f 0).n),.slice ((aa.f 1).A) ((aa.f 1).l) ((aa.f 1).c),.bool ((aa.f 2).b),.map aa.m],true⟩,⟨af,0,[.bool has,.string txt],true⟩,⟨ae,0,[.pointer none],true⟩] [brow bD bE 5 (([]:Bs) ++ [by8 0,by8 0,by8 0,by8 0] ++ be 2 57 ++ be 2 (IntKind.i16.wrap v))]:=Fr.grow _ (k:=0) (r':=(brow bD bE 5 (([]:Bs) ++ [by8 0,by8 0,by8 0,by8 0] ++ be 2 57 ++ be 2 (IntKind.i16.wrap v)))) rfl dv dw
 refine qaj [3] [] [(0,.p 3 0),(1,.v (.slice bD ((([]:Bs) ++ [by8 0,by8 0,by8 0,by8 0] ++ be 2 57 ++ be 2 (IntKind.i16.wrap v)).length) bE)),(2,.v (.iface 63 (.pointer (some ⟨ac,0,none⟩)))),(3,.v (.int .i32 num)),(9,.v (.int .i16 57)),(10,.v (.int .i16 (IntKind.i16.wrap v)))] ce jx fun qu jy=>?_
 refine qae (qab ?_)
 refine qad [0,1,2,3] kz ?_
 refine qaj [0,1] [2,3] [(0,.p 3 0),(2,.v (.iface 63 (.pointer (some ⟨ac,0,none⟩)))),(9,.v (.int .i16 57)),(10,.v (.int .i16 (IntKind.i16.wrap v))),(25,.v (.slice bD ((([]:Bs) ++ [by8 0,by8 0,by8 0,by8 0] ++ be 2 57 ++ be 2 (IntKind.i16.wrap v)).length) bE)),(26,.v (.int .i32 num))] ce jy fun qv jz=>?_
 refine qam (qal jz (f:=133) (vs:=[.slice bD ((([]:Bs) ++ [by8 0,by8 0,by8 0,by8 0] ++ be 2 57 ++ be 2 (IntKind.i16.wrap v)).length) bE,.int .i32 num]) (d:=27) kz Tryz.call133 (qcH bD bE (([]:Bs) ++ [by8 0,by8 0,by8 0,by8 0] ++ be 2 57 ++ be 2 (IntKind.i16.wrap v)) num _ (ce.own 0 _ rfl) (by first | omega | (simp only [List.length_append,List.length_cons,List.length_nil,be_length,qbC]; omega) | (simp; omega))) ?_)
 rintro e_ qw ⟨aN,aO,rfl,jA,dx,dy⟩
 refine ⟨_,rfl,fun qx jB=>?_⟩
 have aV:WOk _ _ _ _ [brow aN aO 5 (([]:Bs) ++ [by8 0,by8 0,by8 0,by8 0] ++ be 2 57 ++ be 2 (IntKind.i16.wrap v) ++ be 4 num)]:=ce.grow (k:=0) rfl dx jA dy
 have cm:Fr _ [⟨b1,0,[.bool has,.string txt],true⟩,⟨ac,0,[.int .i16 (IntKind.i16.wrap v),.int .i32 ((aa.f 0).n),.slice ((aa.f 1).A) ((aa.f 1).l) ((aa.f 1).c),.bool ((aa.f 2).b),.map aa.m],true⟩,⟨af,0,[.bool has,.string txt],true⟩,⟨ae,0,[.pointer none],true⟩] [brow bD bE 5 (([]:Bs) ++ [by8 0,by8 0,by8 0,by8 0] ++ be 2 57 ++ be 2 (IntKind.i16.wrap v))] _ [⟨b1,0,[.bool has,.string txt],true⟩,⟨ac,0,[.int .i16 (IntKind.i16.wrap v),.int .i32 ((aa.f 0).n),.slice ((aa.f 1).A) ((aa.f 1).l) ((aa.f 1).c),.bool ((aa.f 2).b),.map aa.m],true⟩,⟨af,0,[.bool has,.string txt],true⟩,⟨ae,0,[.pointer none],true⟩] [brow aN aO 5 (([]:Bs) ++ [by8 0,by8 0,by8 0,by8 0] ++ be 2 57 ++ be 2 (IntKind.i16.wrap v) ++ be 4 num)]:=Fr.grow _ (k:=0) (r':=(brow aN aO 5 (([]:Bs) ++ [by8 0,by8 0,by8 0,by8 0] ++ be 2 57 ++ be 2 (IntKind.i16.wrap v) ++ be 4 num))) rfl dx dy
 refine qaj [3] [] [(0,.p 3 0),(1,.v (.slice aN ((([]:Bs) ++ [by8 0,by8 0,by8 0,by8 0] ++ be 2 57 ++ be 2 (IntKind.i16.wrap v) ++ be 4 num).length) aO)),(2,.v (.iface 63 (.pointer (some ⟨ac,0,none⟩)))),(9,.v (.int .i16 57)),(10,.v (.int .i16 (IntKind.i16.wrap v)))] aV jB fun qy jC=>?_
 refine qae (qab ?_)
 refine wp_seq ?_
 refine qaq [(0,.p 3 0),(1,.v (.slice aN ((([]:Bs) ++ [by8 0,by8 0,by8 0,by8 0] ++ be 2 57 ++ be 2 (IntKind.i16.wrap v) ++ be 4 num).length) aO)),(2,.v (.iface 63 (.pointer (some ⟨ac,0,none⟩)))),(33,.v (.bool false))] aV jC fun qz dz=>?_
 refine qat dz (b:=false) kz rfl ?_
 refine wp_skip ?_
 refine qab ?_
 refine qad [0,1,2,3,4,5,6] kz ?_
 refine qaj [0,1,2,3,4] [5,6] [(2,.v (.iface 63 (.pointer (some ⟨ac,0,none⟩)))),(35,.v (.slice aN ((([]:Bs) ++ [by8 0,by8 0,by8 0,by8 0] ++ be 2 57 ++ be 2 (IntKind.i16.wrap v) ++ be 4 num).length) aO)),(39,.v (.pointer none))] aV dz fun qA jD=>?_
 refine qam (qa5 jD (f:=134) (vs:=[.slice aN ((([]:Bs) ++ [by8 0,by8 0,by8 0,by8 0] ++ be 2 57 ++ be 2 (IntKind.i16.wrap v) ++ be 4 num).length) aO,.pointer none]) (d:=40) (n':=14) kz Tryz.call134 Tryz.func134 rfl Tryz.ntmps134 kz fun qB jE=>?_)
 refine qaq [(0,.v (.slice aN ((([]:Bs) ++ [by8 0,by8 0,by8 0,by8 0] ++ be 2 57 ++ be 2 (IntKind.i16.wrap v) ++ be 4 num).length) aO)),(1,.v (.pointer none))] aV jE fun qC jF=>?_
 refine wp_seq ?_
 refine qaq [(0,.v (.slice aN ((([]:Bs) ++ [by8 0,by8 0,by8 0,by8 0] ++ be 2 57 ++ be 2 (IntKind.i16.wrap v) ++ be 4 num).length) aO)),(1,.v (.pointer none)),(6,.v (.bool true))] aV jF fun qD dA=>?_
 refine qbF dA (b:=true) kz rfl ?_
 refine qad [0,1,2] kz ?_
 refine qaj [0] [1,2] [(7,.v (.slice aN ((([]:Bs) ++ [by8 0,by8 0,by8 0,by8 0] ++ be 2 57 ++ be 2 (IntKind.i16.wrap v) ++ be 4 num).length) aO))] aV dA fun qE jG=>?_
 refine qam (qal jG (f:=132) (vs:=[.slice aN ((([]:Bs) ++ [by8 0,by8 0,by8 0,by8 0] ++ be 2 57 ++ be 2 (IntKind.i16.wrap v) ++ be 4 num).length) aO,.int .i16 (-1)]) (d:=8) kz Tryz.call132 (qbV aN aO (([]:Bs) ++ [by8 0,by8 0,by8 0,by8 0] ++ be 2 57 ++ be 2 (IntKind.i16.wrap v) ++ be 4 num) (-1) _ (aV.own 0 _ rfl) (by first | omega | (simp only [List.length_append,List.length_cons,List.length_nil,be_length,qbC]; omega) | (simp; omega))) ?_)
 rintro e_ qF ⟨aB,aC,rfl,jH,dB,dC⟩
 refine ⟨_,rfl,fun qG jI=>?_⟩
 have az:WOk _ _ _ _ [brow aB aC 5 (([]:Bs) ++ [by8 0,by8 0,by8 0,by8 0] ++ be 2 57 ++ be 2 (IntKind.i16.wrap v) ++ be 4 num ++ be 2 (-1))]:=aV.grow (k:=0) rfl dB jH dC
 have cq:Fr _ [⟨b1,0,[.bool has,.string txt],true⟩,⟨ac,0,[.int .i16 (IntKind.i16.wrap v),.int .i32 ((aa.f 0).n),.slice ((aa.f 1).A) ((aa.f 1).l) ((aa.f 1).c),.bool ((aa.f 2).b),.map aa.m],true⟩,⟨af,0,[.bool has,.string txt],true⟩,⟨ae,0,[.pointer none],true⟩] [brow aN aO 5 (([]:Bs) ++ [by8 0,by8 0,by8 0,by8 0] ++ be 2 57 ++ be 2 (IntKind.i16.wrap v) ++ be 4 num)] _ [⟨b1,0,[.bool has,.string txt],true⟩,⟨ac,0,[.int .i16 (IntKind.i16.wrap v),.int .i32 ((aa.f 0).n),.slice ((aa.f 1).A) ((aa.f 1).l) ((aa.f 1).c),.bool ((aa.f 2).b),.map aa.m],true⟩,⟨af,0,[.bool has,.string txt],true⟩,⟨ae,0,[.pointer none],true⟩] [brow aB aC 5 (([]:Bs) ++ [by8 0,by8 0,by8 0,by8 0] ++ be 2 57 ++ be 2 (IntKind.i16.wrap v) ++ be 4 num ++ be 2 (-1))]:=Fr.grow _ (k:=0) (r':=(brow aB aC 5 (([]:Bs) ++ [by8 0,by8 0,by8 0,by8 0] ++ be 2 57 ++ be 2 (IntKind.i16.wrap v) ++ be 4 num ++ be 2 (-1)))) rfl dB dC
 refine qaj [2] [] [(4,.v (.slice aB ((([]:Bs) ++ [by8 0,by8 0,by8 0,by8 0] ++ be 2 57 ++ be 2 (IntKind.i16.wrap v) ++ be 4 num ++ be 2 (-1)).length) aC))] az jI fun qH jJ=>?_
 refine qae (qab ?_)
 refine wp_ret ?_
 refine qaA ?_
 refine qaB jJ az.cells (v:=.slice aB ((([]:Bs) ++ [by8 0,by8 0,by8 0,by8 0] ++ be 2 57 ++ be 2 (IntKind.i16.wrap v) ++ be 4 num ++ be 2 (-1)).length) aC) kz ?_
 refine ⟨_,rfl,fun qI jK=>?_⟩
 have jL:=(EnvOk.places (tb':=[⟨b1,0,[.bool has,.string txt],true⟩,⟨ac,0,[.int .i16 (IntKind.i16.wrap v),.int .i32 ((aa.f 0).n),.slice ((aa.f 1).A) ((aa.f 1).l) ((aa.f 1).c),.bool ((aa.f 2).b),.map aa.m],true⟩,⟨af,0,[.bool has,.string txt],true⟩,⟨ae,0,[.pointer none],true⟩]) jK (show Pl [⟨b1,0,[.bool has,.string txt],true⟩,⟨ac,0,[.int .i16 (IntKind.i16.wrap v),.int .i32 ((aa.f 0).n),.slice ((aa.f 1).A) ((aa.f 1).l) ((aa.f 1).c),.bool ((aa.f 2).b),.map aa.m],true⟩,⟨af,0,[.bool has,.string txt],true⟩,⟨ae,0,[.pointer none],true⟩] [⟨b1,0,[.bool has,.string txt],true⟩,⟨ac,0,[.int .i16 (IntKind.i16.wrap v),.int .i32 ((aa.f 0).n),.slice ((aa.f 1).A) ((aa.f 1).l) ((aa.f 1).c),.bool ((aa.f 2).b),.map aa.m],true⟩,⟨af,0,[.bool has,.string txt],true⟩,⟨ae,0,[.pointer none],true⟩] from ⟨rfl,rfl,⟨rfl,rfl,⟨rfl,rfl,⟨rfl,rfl,trivial⟩⟩⟩⟩)).pk (env':=[(40,.v (.slice aB ((([]:Bs) ++ [by8 0,by8 0,by8 0,by8 0] ++ be 2 57 ++ be 2 (IntKind.i16.wrap v) ++ be 4 num ++ be 2 (-1)).length) aC)),(2,.v (.iface 63 (.pointer (some ⟨ac,0,none⟩)))),(35,.v (.slice aN ((([]:Bs) ++ [by8 0,by8 0,by8 0,by8 0] ++ be 2 57 ++ be 2 (IntKind.i16.wrap v) ++ be 4 num).length) aO)),(39,.v (.pointer none))])
 refine qaj [6] [] [(1,.v (.slice aB ((([]:Bs) ++ [by8 0,by8 0,by8 0,by8 0] ++ be 2 57 ++ be 2 (IntKind.i16.wrap v) ++ be 4 num ++ be 2 (-1)).length) aC)),(2,.v (.iface 63 (.pointer (some ⟨ac,0,none⟩))))] az jL fun qJ jM=>?_
 refine qae (qab ?_)
 refine wp_seq ?_
 refine qad [0,1] kz ?_
 refine qaj [0] [1] [(1,.v (.slice aB ((([]:Bs) ++ [by8 0,by8 0,by8 0,by8 0] ++ be 2 57 ++ be 2 (IntKind.i16.wrap v) ++ be 4 num ++ be 2 (-1)).length) aC)),(2,.v (.iface 63 (.pointer (some ⟨ac,0,none⟩)))),(41,.v (.iface 63 (.pointer (some ⟨ac,0,none⟩))))] az jM fun qK jN=>?_
 refine qam (qbY jN (t := 63) (v := (.pointer (some ⟨ac, 0, none⟩))) (v' := (.pointer (some ⟨ac, 0, none⟩))) (name := "IsFlexible") (f := 237) (vs := []) (d := 42) (n' := 8) kz (fun _ => by kernel_rfl) Tryz.call237 Tryz.func237 rfl Tryz.ntmps237 kz fun qL jO => ?_)
 have jP:=jO.recast 0 (.v (.pointer (some ⟨ac,0,none⟩))) (.p 1 0) rfl rfl (Nat.le_of_ble_eq_true (n:=2) rfl)
 refine qaq [(0,.p 1 0)] az jP fun qM jQ=>?_
 refine qaq [(2,.v (.bool (decide ((IntKind.i16.wrap v) ≥ 0))))] az jQ fun qN jR=>?_
 refine wp_ret ?_
 refine qaB jR az.cells (v:=.bool (decide ((IntKind.i16.wrap v) ≥ 0))) kz ?_
 refine ⟨_,rfl,fun qO jS=>?_⟩
 have cG:=(EnvOk.places (tb':=[⟨b1,0,[.bool has,.string txt],true⟩,⟨ac,0,[.int .i16 (IntKind.i16.wrap v),.int .i32 ((aa.f 0).n),.slice ((aa.f 1).A) ((aa.f 1).l) ((aa.f 1).c),.bool ((aa.f 2).b),.map aa.m],true⟩,⟨af,0,[.bool has,.string txt],true⟩,⟨ae,0,[.pointer none],true⟩]) jS (show Pl [⟨b1,0,[.bool has,.string txt],true⟩,⟨ac,0,[.int .i16 (IntKind.i16.wrap v),.int .i32 ((aa.f 0).n),.slice ((aa.f 1).A) ((aa.f 1).l) ((aa.f 1).c),.bool ((aa.f 2).b),.map aa.m],true⟩,⟨af,0,[.bool has,.string txt],true⟩,⟨ae,0,[.pointer none],true⟩] [⟨b1,0,[.bool has,.string txt],true⟩,⟨ac,0,[.int .i16 (IntKind.i16.wrap v),.int .i32 ((aa.f 0).n),.slice ((aa.f 1).A) ((aa.f 1).l) ((aa.f 1).c),.bool ((aa.f 2).b),.map aa.m],true⟩,⟨af,0,[.bool has,.string txt],true⟩,⟨ae,0,[.pointer none],true⟩] from ⟨rfl,rfl,⟨rfl,rfl,⟨rfl,rfl,⟨rfl,rfl,trivial⟩⟩⟩⟩)).pk (env':=[(42,.v (.bool (decide ((IntKind.i16.wrap v) ≥ 0)))),(1,.v (.slice aB ((([]:Bs) ++ [by8 0,by8 0,by8 0,by8 0] ++ be 2 57 ++ be 2 (IntKind.i16.wrap v) ++ be 4 num ++ be 2 (-1)).length) aC)),(2,.v (.iface 63 (.pointer (some ⟨ac,0,none⟩)))),(41,.v (.iface 63 (.pointer (some ⟨ac,0,none⟩))))])
 refine qae (qab ?_)
 refine qaw cG (b:=decide ((IntKind.i16.wrap v) ≥ 0)) kz (fun bk=>?_) (fun bk=>?_)
 ·
  have mx:=of_decide_eq_true bk
  refine qaq [(1,.v (.slice aB ((([]:Bs) ++ [by8 0,by8 0,by8 0,by8 0] ++ be 2 57 ++ be 2 (IntKind.i16.wrap v) ++ be 4 num ++ be 2 (-1)).length) aC)),(2,.v (.iface 63 (.pointer (some ⟨ac,0,none⟩)))),(11,.v (.int .u8 0))] az cG fun qP jT=>?_
  refine qad [0,1,2,3,4] kz ?_
  refine qaj [0,1] [2,3,4] [(2,.v (.iface 63 (.pointer (some ⟨ac,0,none⟩)))),(11,.v (.int .u8 0)),(43,.v (.slice aB ((([]:Bs) ++ [by8 0,by8 0,by8 0,by8 0] ++ be 2 57 ++ be 2 (IntKind.i16.wrap v) ++ be 4 num ++ be 2 (-1)).length) aC)),(44,.v (.int .u8 0))] az jT fun qQ jU=>?_
  refine qba az jU (k:=0) (e:=5) (size:=1) (len:=1) (cs:=[.int .u8 0]) (d1:=45) (d:=46) kz (t:=24) (bytes:=1) kz (fun _=>by kernel_rfl) rfl kz (by first | omega | (simp only [List.length_append,List.length_cons,List.length_nil,be_length,qbC]; omega) | (simp; omega)) fun bn bo qR qS dD jV ⟨_,jW⟩=>?_
  have jX:(⟨bn,bo,5,1,(([]:Bs) ++ [by8 0,by8 0,by8 0,by8 0] ++ be 2 57 ++ be 2 (IntKind.i16.wrap v) ++ be 4 num ++ be 2 (-1)).length + 1,bc (([]:Bs) ++ [by8 0,by8 0,by8 0,by8 0] ++ be 2 57 ++ be 2 (IntKind.i16.wrap v) ++ be 4 num ++ be 2 (-1)) ++ [.int .u8 0]⟩:Rw) = brow bn bo 5 (([]:Bs) ++ [by8 0,by8 0,by8 0,by8 0] ++ be 2 57 ++ be 2 (IntKind.i16.wrap v) ++ be 4 num ++ be 2 (-1) ++ [by8 0]):=qaU (by simp only [bc,List.map,qbf]; try rfl) rfl
  obtain ⟨bu,dE⟩:=jV.rowEq 0 [brow bn bo 5 (([]:Bs) ++ [by8 0,by8 0,by8 0,by8 0] ++ be 2 57 ++ be 2 (IntKind.i16.wrap v) ++ be 4 num ++ be 2 (-1) ++ [by8 0])] jX
  have jY:=EnvOk.pick jW (ks:=[2,11,43,44,46]) (env':=[(2,.v (.iface 63 (.pointer (some ⟨ac,0,none⟩)))),(11,.v (.int .u8 0)),(43,.v (.slice aB ((([]:Bs) ++ [by8 0,by8 0,by8 0,by8 0] ++ be 2 57 ++ be 2 (IntKind.i16.wrap v) ++ be 4 num ++ be 2 (-1)).length) aC)),(44,.v (.int .u8 0)),(46,.v (.slice bn ((([]:Bs) ++ [by8 0,by8 0,by8 0,by8 0] ++ be 2 57 ++ be 2 (IntKind.i16.wrap v) ++ be 4 num ++ be 2 (-1)).length + 1) bo))]) kz
  have jZ:=jY.cast (env':=[(2,.v (.iface 63 (.pointer (some ⟨ac,0,none⟩)))),(11,.v (.int .u8 0)),(43,.v (.slice aB ((([]:Bs) ++ [by8 0,by8 0,by8 0,by8 0] ++ be 2 57 ++ be 2 (IntKind.i16.wrap v) ++ be 4 num ++ be 2 (-1)).length) aC)),(44,.v (.int .u8 0)),(46,.v (.slice bn ((([]:Bs) ++ [by8 0,by8 0,by8 0,by8 0] ++ be 2 57 ++ be 2 (IntKind.i16.wrap v) ++ be 4 num ++ be 2 (-1) ++ [by8 0]).length) bo))]) (by simp only [List.length_append,List.length_cons,List.length_nil,Nat.zero_add])
  refine qaj [4] [] [(1,.v (.slice bn ((([]:Bs) ++ [by8 0,by8 0,by8 0,by8 0] ++ be 2 57 ++ be 2 (IntKind.i16.wrap v) ++ be 4 num ++ be 2 (-1) ++ [by8 0]).length) bo)),(2,.v (.iface 63 (.pointer (some ⟨ac,0,none⟩)))),(11,.v (.int .u8 0))] bu jZ fun qT j0=>?_
  refine qae (qab ?_)
  refine qaq [(1,.v (.slice bn ((([]:Bs) ++ [by8 0,by8 0,by8 0,by8 0] ++ be 2 57 ++ be 2 (IntKind.i16.wrap v) ++ be 4 num ++ be 2 (-1) ++ [by8 0]).length) bo)),(2,.v (.iface 63 (.pointer (some ⟨ac,0,none⟩)))),(48,.v (.bool false))] bu j0 fun qU dF=>?_
  refine qat dF (b:=false) kz rfl ?_
  refine wp_skip ?_
  refine qab ?_
  refine qad [0,1,2,3] kz ?_
  refine qaj [0,1] [2,3] [(49,.v (.iface 63 (.pointer (some ⟨ac,0,none⟩)))),(50,.v (.slice bn ((([]:Bs) ++ [by8 0,by8 0,by8 0,by8 0] ++ be 2 57 ++ be 2 (IntKind.i16.wrap v) ++ be 4 num ++ be 2 (-1) ++ [by8 0]).length) bo))] bu dF fun qV j1=>?_
  have j2:=(qaS _ ((((((((((aP.trans aQ).trans bX).trans bY).trans bZ).trans cd).trans cg).trans cm).trans cq).trans dD).trans dE).step immM ((((((((((aP.trans aQ).trans bX).trans bY).trans bZ).trans cd).trans cg).trans cm).trans cq).trans dD).trans dE).to' cJ)
  have dW:=bu.strImm (G:=F) 1 rfl
  have hk_:=qaS _ (Step.refl _ Nil) nilM (fun b o h_ _=>qfS h_) j2
  refine qam (qcE j1 (t := 63) (v := (.pointer (some ⟨ac, 0, none⟩))) (v' := (.pointer (some ⟨ac, 0, none⟩))) (name := "AppendTo") (f := 235) (vs := [.slice bn ((([] : Bs) ++ [by8 0, by8 0, by8 0, by8 0] ++ be 2 57 ++ be 2 (IntKind.i16.wrap v) ++ be 4 num ++ be 2 (-1) ++ [by8 0]).length) bo]) (d := 51) kz (fun _ => by kernel_rfl) Tryz.call235 (qby (IntKind.i16.wrap v) aa ac 0 bn bo (([] : Bs) ++ [by8 0, by8 0, by8 0, by8 0] ++ be 2 57 ++ be 2 (IntKind.i16.wrap v) ++ be 4 num ++ be 2 (-1) ++ [by8 0]) _ _ dW hk_ (qfQ 0 rfl) (bu.own 0 _ rfl) (by first | omega | (simp only [List.length_append, List.length_cons, List.length_nil, be_length, qbC]; omega) | (simp; omega))) ?_)
  rintro e_ qW ⟨am,ao,rfl,j3,dG,dH⟩
  refine ⟨_,rfl,fun qX j4=>?_⟩
  have dI:WOk _ _ _ _ [brow am ao 5 ((([]:Bs) ++ [by8 0,by8 0,by8 0,by8 0] ++ be 2 57 ++ be 2 (IntKind.i16.wrap v) ++ be 4 num ++ be 2 (-1) ++ [by8 0]) ++ qaa (IntKind.i16.wrap v) aa)]:=bu.grow (k:=0) rfl dG j3 dH
  have my:=Fr.grow [⟨b1,0,[.bool has,.string txt],true⟩,⟨ac,0,[.int .i16 (IntKind.i16.wrap v),.int .i32 ((aa.f 0).n),.slice ((aa.f 1).A) ((aa.f 1).l) ((aa.f 1).c),.bool ((aa.f 2).b),.map aa.m],true⟩,⟨af,0,[.bool has,.string txt],true⟩,⟨ae,0,[.pointer none],true⟩] (k:=0) (rs:=[brow bn bo 5 (([]:Bs) ++ [by8 0,by8 0,by8 0,by8 0] ++ be 2 57 ++ be 2 (IntKind.i16.wrap v) ++ be 4 num ++ be 2 (-1) ++ [by8 0])]) (r':=(brow am ao 5 ((([]:Bs) ++ [by8 0,by8 0,by8 0,by8 0] ++ be 2 57 ++ be 2 (IntKind.i16.wrap v) ++ be 4 num ++ be 2 (-1) ++ [by8 0]) ++ qaa (IntKind.i16.wrap v) aa))) rfl dG dH
  refine qaj [3] [] [(1,.v (.slice am (((([]:Bs) ++ [by8 0,by8 0,by8 0,by8 0] ++ be 2 57 ++ be 2 (IntKind.i16.wrap v) ++ be 4 num ++ be 2 (-1) ++ [by8 0]) ++ qaa (IntKind.i16.wrap v) aa).length) ao))] dI j4 fun qY j5=>?_
  refine qae (qab ?_)
  refine qbe 7 kz dI fun qZ mz cr bp=>?_
  refine qaY [0,2] [(1,.v (.slice am (((([]:Bs) ++ [by8 0,by8 0,by8 0,by8 0] ++ be 2 57 ++ be 2 (IntKind.i16.wrap v) ++ be 4 num ++ be 2 (-1) ++ [by8 0]) ++ qaa (IntKind.i16.wrap v) aa).length) ao)),(52,.v (.slice am (((([]:Bs) ++ [by8 0,by8 0,by8 0,by8 0] ++ be 2 57 ++ be 2 (IntKind.i16.wrap v) ++ be 4 num ++ be 2 (-1) ++ [by8 0]) ++ qaa (IntKind.i16.wrap v) aa).length) ao)),(54,.v (.slice am (((([]:Bs) ++ [by8 0,by8 0,by8 0,by8 0] ++ be 2 57 ++ be 2 (IntKind.i16.wrap v) ++ be 4 num ++ be 2 (-1) ++ [by8 0]) ++ qaa (IntKind.i16.wrap v) aa).length) ao))] 5 (qac qai) (fun _ h=>h.cells) bp j5 fun q0 dJ=>?_
  refine qeo (i:=1) (j:=3) kz ?_ ?_
  ·
   refine (qbn dJ (t:=24) (A:=am) (m:=((([]:Bs) ++ [by8 0,by8 0,by8 0,by8 0] ++ be 2 57 ++ be 2 (IntKind.i16.wrap v) ++ be 4 num ++ be 2 (-1) ++ [by8 0]) ++ qaa (IntKind.i16.wrap v) aa).length) (cp:=ao) (q:=0) (d:=53) (j:=0) kz (e:=5) (size:=1) (bytes:=1) kz (rfl) (by omega) fun q4 j6=>?_)
   refine ⟨fun _=>bp,?_⟩
   refine qaL (i:=3) kz (qbi j6 (t:=24) (A:=am) (m:=(((([]:Bs) ++ [by8 0,by8 0,by8 0,by8 0] ++ be 2 57 ++ be 2 (IntKind.i16.wrap v) ++ be 4 num ++ be 2 (-1) ++ [by8 0]) ++ qaa (IntKind.i16.wrap v) aa).length)) (cp:=ao) (q:=4) (d:=55) (j:=4) kz (e:=5) (bytes:=1) kz (rfl) (by first | omega | (simp only [List.length_append,List.length_cons,List.length_nil]; omega)) fun q5 j7=>?_)
   refine ⟨fun _=>bp,?_⟩
   refine qaY [4,5] [(1,.v (.slice am (((([]:Bs) ++ [by8 0,by8 0,by8 0,by8 0] ++ be 2 57 ++ be 2 (IntKind.i16.wrap v) ++ be 4 num ++ be 2 (-1) ++ [by8 0]) ++ qaa (IntKind.i16.wrap v) aa).length) ao)),(53,.v (.slice am 0 ao)),(57,.v (.int .i32 (IntKind.i32.wrap (((((([]:Bs) ++ [by8 0,by8 0,by8 0,by8 0] ++ be 2 57 ++ be 2 (IntKind.i16.wrap v) ++ be 4 num ++ be 2 (-1) ++ [by8 0]) ++ qaa (IntKind.i16.wrap v) aa).length) - 4:Nat):Int))))] 1 (qac qai) (fun _ h=>h.cells) bp j7 fun q6 j8=>?_
   refine qaL (i:=6) kz (qal j8 (f:=133) (vs:=[.slice am 0 ao,.int .i32 (IntKind.i32.wrap (((((([]:Bs) ++ [by8 0,by8 0,by8 0,by8 0] ++ be 2 57 ++ be 2 (IntKind.i16.wrap v) ++ be 4 num ++ be 2 (-1) ++ [by8 0]) ++ qaa (IntKind.i16.wrap v) aa).length) - 4:Nat):Int))]) (d:=58) kz Tryz.call133 (qbs (IntKind.i32.wrap (((((([]:Bs) ++ [by8 0,by8 0,by8 0,by8 0] ++ be 2 57 ++ be 2 (IntKind.i16.wrap v) ++ be 4 num ++ be 2 (-1) ++ [by8 0]) ++ qaa (IntKind.i16.wrap v) aa).length) - 4:Nat):Int)) am ao ((([]:Bs) ++ [by8 0,by8 0,by8 0,by8 0] ++ be 2 57 ++ be 2 (IntKind.i16.wrap v) ++ be 4 num ++ be 2 (-1) ++ [by8 0]) ++ qaa (IntKind.i16.wrap v) aa) _ (cr.own 0 _ rfl) (by simp only [List.length_append,List.length_cons,List.length_nil]; omega)) ?_)
   rintro e_ q7 ⟨rfl,j9,dK⟩
   refine ⟨_,rfl,fun q8 ka=>?_⟩
   have aW:WOk _ _ _ _ [⟨am,ao,5,1,((([]:Bs) ++ [by8 0,by8 0,by8 0,by8 0] ++ be 2 57 ++ be 2 (IntKind.i16.wrap v) ++ be 4 num ++ be 2 (-1) ++ [by8 0]) ++ qaa (IntKind.i16.wrap v) aa).length,bc (be 4 (IntKind.i32.wrap (((((([]:Bs) ++ [by8 0,by8 0,by8 0,by8 0] ++ be 2 57 ++ be 2 (IntKind.i16.wrap v) ++ be 4 num ++ be 2 (-1) ++ [by8 0]) ++ qaa (IntKind.i16.wrap v) aa).length) - 4:Nat):Int)) ++ ((([]:Bs) ++ [by8 0,by8 0,by8 0,by8 0] ++ be 2 57 ++ be 2 (IntKind.i16.wrap v) ++ be 4 num ++ be 2 (-1) ++ [by8 0]) ++ qaa (IntKind.i16.wrap v) aa).drop 4)⟩]:=cr.grow (k:=0) (r':=⟨am,ao,5,1,((([]:Bs) ++ [by8 0,by8 0,by8 0,by8 0] ++ be 2 57 ++ be 2 (IntKind.i16.wrap v) ++ be 4 num ++ be 2 (-1) ++ [by8 0]) ++ qaa (IntKind.i16.wrap v) aa).length,bc (be 4 (IntKind.i32.wrap (((((([]:Bs) ++ [by8 0,by8 0,by8 0,by8 0] ++ be 2 57 ++ be 2 (IntKind.i16.wrap v) ++ be 4 num ++ be 2 (-1) ++ [by8 0]) ++ qaa (IntKind.i16.wrap v) aa).length) - 4:Nat):Int)) ++ ((([]:Bs) ++ [by8 0,by8 0,by8 0,by8 0] ++ be 2 57 ++ be 2 (IntKind.i16.wrap v) ++ be 4 num ++ be 2 (-1) ++ [by8 0]) ++ qaa (IntKind.i16.wrap v) aa).drop 4)⟩) rfl dK j9 (fun g' hg'=>.inl hg')
   have kd:=Fr.grow [⟨b1,0,[.bool has,.string txt],true⟩,⟨ac,0,[.int .i16 (IntKind.i16.wrap v),.int .i32 ((aa.f 0).n),.slice ((aa.f 1).A) ((aa.f 1).l) ((aa.f 1).c),.bool ((aa.f 2).b),.map aa.m],true⟩,⟨af,0,[.bool has,.string txt],true⟩,⟨ae,0,[.pointer none],true⟩] (k:=0) (rs:=[brow am ao 5 ((([]:Bs) ++ [by8 0,by8 0,by8 0,by8 0] ++ be 2 57 ++ be 2 (IntKind.i16.wrap v) ++ be 4 num ++ be 2 (-1) ++ [by8 0]) ++ qaa (IntKind.i16.wrap v) aa)]) (r':=⟨am,ao,5,1,((([]:Bs) ++ [by8 0,by8 0,by8 0,by8 0] ++ be 2 57 ++ be 2 (IntKind.i16.wrap v) ++ be 4 num ++ be 2 (-1) ++ [by8 0]) ++ qaa (IntKind.i16.wrap v) aa).length,bc (be 4 (IntKind.i32.wrap (((((([]:Bs) ++ [by8 0,by8 0,by8 0,by8 0] ++ be 2 57 ++ be 2 (IntKind.i16.wrap v) ++ be 4 num ++ be 2 (-1) ++ [by8 0]) ++ qaa (IntKind.i16.wrap v) aa).length) - 4:Nat):Int)) ++ ((([]:Bs) ++ [by8 0,by8 0,by8 0,by8 0] ++ be 2 57 ++ be 2 (IntKind.i16.wrap v) ++ be 4 num ++ be 2 (-1) ++ [by8 0]) ++ qaa (IntKind.i16.wrap v) aa).drop 4)⟩) rfl dK (fun g' hg'=>.inl hg')
   have ke:=TT.ofW kd aW
   refine ⟨fun _=>ke,?_⟩
   refine qaT kz ?_ _
   refine qab ?_
   refine qaq [(8,.v (.slice am (((([]:Bs) ++ [by8 0,by8 0,by8 0,by8 0] ++ be 2 57 ++ be 2 (IntKind.i16.wrap v) ++ be 4 num ++ be 2 (-1) ++ [by8 0]) ++ qaa (IntKind.i16.wrap v) aa).length) ao))] aW ka fun q9 kf=>?_
   refine wp_ret ?_
   refine qaB kf aW.cells (v:=.slice am (((([]:Bs) ++ [by8 0,by8 0,by8 0,by8 0] ++ be 2 57 ++ be 2 (IntKind.i16.wrap v) ++ be 4 num ++ be 2 (-1) ++ [by8 0]) ++ qaa (IntKind.i16.wrap v) aa).length) ao) kz ?_
   refine ⟨_,rfl,fun ra kg=>?_⟩
   have kh:=(EnvOk.places (tb':=[⟨b1,0,[.bool has,.string txt],true⟩,⟨ac,0,[.int .i16 (IntKind.i16.wrap v),.int .i32 ((aa.f 0).n),.slice ((aa.f 1).A) ((aa.f 1).l) ((aa.f 1).c),.bool ((aa.f 2).b),.map aa.m],true⟩,⟨af,0,[.bool has,.string txt],true⟩,⟨ae,0,[.pointer none],true⟩]) kg (show Pl [⟨b1,0,[.bool has,.string txt],true⟩,⟨ac,0,[.int .i16 (IntKind.i16.wrap v),.int .i32 ((aa.f 0).n),.slice ((aa.f 1).A) ((aa.f 1).l) ((aa.f 1).c),.bool ((aa.f 2).b),.map aa.m],true⟩,⟨af,0,[.bool has,.string txt],true⟩,⟨ae,0,[.pointer none],true⟩] [⟨b1,0,[.bool has,.string txt],true⟩,⟨ac,0,[.int .i16 (IntKind.i16.wrap v),.int .i32 ((aa.f 0).n),.slice ((aa.f 1).A) ((aa.f 1).l) ((aa.f 1).c),.bool ((aa.f 2).b),.map aa.m],true⟩,⟨af,0,[.bool has,.string txt],true⟩,⟨ae,0,[.pointer none],true⟩] from ⟨rfl,rfl,⟨rfl,rfl,⟨rfl,rfl,⟨rfl,rfl,trivial⟩⟩⟩⟩)).pk (env':=[(19,.v (.slice am (((([]:Bs) ++ [by8 0,by8 0,by8 0,by8 0] ++ be 2 57 ++ be 2 (IntKind.i16.wrap v) ++ be 4 num ++ be 2 (-1) ++ [by8 0]) ++ qaa (IntKind.i16.wrap v) aa).length) ao)),(16,.p 3 0),(17,.v (.iface 63 (.pointer (some ⟨ac,0,none⟩)))),(18,.v (.int .i32 num))])
   refine qaj [4] [] [(6,.v (.slice am (((([]:Bs) ++ [by8 0,by8 0,by8 0,by8 0] ++ be 2 57 ++ be 2 (IntKind.i16.wrap v) ++ be 4 num ++ be 2 (-1) ++ [by8 0]) ++ qaa (IntKind.i16.wrap v) aa).length) ao))] aW kh fun rb ki=>?_
   refine qae (qab ?_)
   refine wp_ret ?_
   refine qaB ki aW.cells (v:=.slice am (((([]:Bs) ++ [by8 0,by8 0,by8 0,by8 0] ++ be 2 57 ++ be 2 (IntKind.i16.wrap v) ++ be 4 num ++ be 2 (-1) ++ [by8 0]) ++ qaa (IntKind.i16.wrap v) aa).length) ao) kz ?_
   refine ⟨_,rfl,fun rc kj=>?_⟩
   have km:=(EnvOk.places (tb':=[⟨b1,0,[.bool has,.string txt],true⟩,⟨ac,0,[.int .i16 (IntKind.i16.wrap v),.int .i32 ((aa.f 0).n),.slice ((aa.f 1).A) ((aa.f 1).l) ((aa.f 1).c),.bool ((aa.f 2).b),.map aa.m],true⟩,⟨af,0,[.bool has,.string txt],true⟩,⟨ae,0,[.pointer none],true⟩]) kj (show Pl [⟨b1,0,[.bool has,.string txt],true⟩,⟨ac,0,[.int .i16 (IntKind.i16.wrap v),.int .i32 ((aa.f 0).n),.slice ((aa.f 1).A) ((aa.f 1).l) ((aa.f 1).c),.bool ((aa.f 2).b),.map aa.m],true⟩] [⟨b1,0,[.bool has,.string txt],true⟩,⟨ac,0,[.int .i16 (IntKind.i16.wrap v),.int .i32 ((aa.f 0).n),.slice ((aa.f 1).A) ((aa.f 1).l) ((aa.f 1).c),.bool ((aa.f 2).b),.map aa.m],true⟩,⟨af,0,[.bool has,.string txt],true⟩,⟨ae,0,[.pointer none],true⟩] from ⟨rfl,rfl,⟨rfl,rfl,trivial⟩⟩)).pk (env':=[(25,.v (.slice am (((([]:Bs) ++ [by8 0,by8 0,by8 0,by8 0] ++ be 2 57 ++ be 2 (IntKind.i16.wrap v) ++ be 4 num ++ be 2 (-1) ++ [by8 0]) ++ qaa (IntKind.i16.wrap v) aa).length) ao)),(21,.v (.agg #[.bool has,.string txt])),(23,.v (.iface 63 (.pointer (some ⟨ac,0,none⟩)))),(24,.v (.int .i32 num))])
   refine qaj [5,6] [] [(8,.v (.slice am (((([]:Bs) ++ [by8 0,by8 0,by8 0,by8 0] ++ be 2 57 ++ be 2 (IntKind.i16.wrap v) ++ be 4 num ++ be 2 (-1) ++ [by8 0]) ++ qaa (IntKind.i16.wrap v) aa).length) ao)),(9,.v (.bool true))] aW km fun re ko=>?_
   refine qae (qab ?_)
   refine wp_ret ?_
   refine qaB ko aW.cells (v:=.tuple #[.slice am (((([]:Bs) ++ [by8 0,by8 0,by8 0,by8 0] ++ be 2 57 ++ be 2 (IntKind.i16.wrap v) ++ be 4 num ++ be 2 (-1) ++ [by8 0]) ++ qaa (IntKind.i16.wrap v) aa).length) ao,.bool true]) kz ?_
   have kp:be 4 (IntKind.i32.wrap (((((([]:Bs) ++ [by8 0,by8 0,by8 0,by8 0] ++ be 2 57 ++ be 2 (IntKind.i16.wrap v) ++ be 4 num ++ be 2 (-1) ++ [by8 0]) ++ qaa (IntKind.i16.wrap v) aa).length) - 4:Nat):Int)) ++ ((([]:Bs) ++ [by8 0,by8 0,by8 0,by8 0] ++ be 2 57 ++ be 2 (IntKind.i16.wrap v) ++ be 4 num ++ be 2 (-1) ++ [by8 0]) ++ qaa (IntKind.i16.wrap v) aa).drop 4 = (qa1 57 (IntKind.i16.wrap v) num has (sb txt) (decide ((IntKind.i16.wrap v) ≥ 0)) (qaa (IntKind.i16.wrap v) aa)):=qcp (R:=outB 57 (IntKind.i16.wrap v) num has (sb txt) (decide ((IntKind.i16.wrap v) ≥ 0)) (qaa (IntKind.i16.wrap v) aa)) (by simp [outB,qdJ,qbC,aJ,bk])
   exact qcq aW (k:=0) rfl (kp.trans (by rw [ba])) (by simp only [List.length_append,List.length_cons,List.length_nil]; omega)
  refine (qbi dJ (t:=24) (A:=am) (m:=(((([]:Bs) ++ [by8 0,by8 0,by8 0,by8 0] ++ be 2 57 ++ be 2 (IntKind.i16.wrap v) ++ be 4 num ++ be 2 (-1) ++ [by8 0]) ++ qaa (IntKind.i16.wrap v) aa).length)) (cp:=ao) (q:=4) (d:=55) (j:=4) kz (e:=5) (bytes:=1) kz (rfl) (by first | omega | (simp only [List.length_append,List.length_cons,List.length_nil]; omega)) fun rf kq=>?_)
  refine ⟨fun _=>bp,?_⟩
  refine qaY [4,5] [(1,.v (.slice am (((([]:Bs) ++ [by8 0,by8 0,by8 0,by8 0] ++ be 2 57 ++ be 2 (IntKind.i16.wrap v) ++ be 4 num ++ be 2 (-1) ++ [by8 0]) ++ qaa (IntKind.i16.wrap v) aa).length) ao)),(52,.v (.slice am (((([]:Bs) ++ [by8 0,by8 0,by8 0,by8 0] ++ be 2 57 ++ be 2 (IntKind.i16.wrap v) ++ be 4 num ++ be 2 (-1) ++ [by8 0]) ++ qaa (IntKind.i16.wrap v) aa).length) ao)),(57,.v (.int .i32 (IntKind.i32.wrap (((((([]:Bs) ++ [by8 0,by8 0,by8 0,by8 0] ++ be 2 57 ++ be 2 (IntKind.i16.wrap v) ++ be 4 num ++ be 2 (-1) ++ [by8 0]) ++ qaa (IntKind.i16.wrap v) aa).length) - 4:Nat):Int))))] 2 (qac qai) (fun _ h=>h.cells) bp kq fun rg ku=>?_
  refine qaL (i:=1) kz (qbn ku (t:=24) (A:=am) (m:=((([]:Bs) ++ [by8 0,by8 0,by8 0,by8 0] ++ be 2 57 ++ be 2 (IntKind.i16.wrap v) ++ be 4 num ++ be 2 (-1) ++ [by8 0]) ++ qaa (IntKind.i16.wrap v) aa).length) (cp:=ao) (q:=0) (d:=53) (j:=0) kz (e:=5) (size:=1) (bytes:=1) kz (rfl) (by omega) fun rh kv=>?_)
  refine ⟨fun _=>bp,?_⟩
  refine qaL (i:=6) kz (qal kv (f:=133) (vs:=[.slice am 0 ao,.int .i32 (IntKind.i32.wrap (((((([]:Bs) ++ [by8 0,by8 0,by8 0,by8 0] ++ be 2 57 ++ be 2 (IntKind.i16.wrap v) ++ be 4 num ++ be 2 (-1) ++ [by8 0]) ++ qaa (IntKind.i16.wrap v) aa).length) - 4:Nat):Int))]) (d:=58) kz Tryz.call133 (qbs (IntKind.i32.wrap (((((([]:Bs) ++ [by8 0,by8 0,by8 0,by8 0] ++ be 2 57 ++ be 2 (IntKind.i16.wrap v) ++ be 4 num ++ be 2 (-1) ++ [by8 0]) ++ qaa (IntKind.i16.wrap v) aa).length) - 4:Nat):Int)) am ao ((([]:Bs) ++ [by8 0,by8 0,by8 0,by8 0] ++ be 2 57 ++ be 2 (IntKind.i16.wrap v) ++ be 4 num ++ be 2 (-1) ++ [by8 0]) ++ qaa (IntKind.i16.wrap v) aa) _ (cr.own 0 _ rfl) (by simp only [List.length_append,List.length_cons,List.length_nil]; omega)) ?_)
  rintro e_ ri ⟨rfl,kw,dL⟩
  refine ⟨_,rfl,fun rj kx=>?_⟩
  have aX:WOk _ _ _ _ [⟨am,ao,5,1,((([]:Bs) ++ [by8 0,by8 0,by8 0,by8 0] ++ be 2 57 ++ be 2 (IntKind.i16.wrap v) ++ be 4 num ++ be 2 (-1) ++ [by8 0]) ++ qaa (IntKind.i16.wrap v) aa).length,bc (be 4 (IntKind.i32.wrap (((((([]:Bs) ++ [by8 0,by8 0,by8 0,by8 0] ++ be 2 57 ++ be 2 (IntKind.i16.wrap v) ++ be 4 num ++ be 2 (-1) ++ [by8 0]) ++ qaa (IntKind.i16.wrap v) aa).length) - 4:Nat):Int)) ++ ((([]:Bs) ++ [by8 0,by8 0,by8 0,by8 0] ++ be 2 57 ++ be 2 (IntKind.i16.wrap v) ++ be 4 num ++ be 2 (-1) ++ [by8 0]) ++ qaa (IntKind.i16.wrap v) aa).drop 4)⟩]:=cr.grow (k:=0) (r':=⟨am,ao,5,1,((([]:Bs) ++ [by8 0,by8 0,by8 0,by8 0] ++ be 2 57 ++ be 2 (IntKind.i16.wrap v) ++ be 4 num ++ be 2 (-1) ++ [by8 0]) ++ qaa (IntKind.i16.wrap v) aa).length,bc (be 4 (IntKind.i32.wrap (((((([]:Bs) ++ [by8 0,by8 0,by8 0,by8 0] ++ be 2 57 ++ be 2 (IntKind.i16.wrap v) ++ be 4 num ++ be 2 (-1) ++ [by8 0]) ++ qaa (IntKind.i16.wrap v) aa).length) - 4:Nat):Int)) ++ ((([]:Bs) ++ [by8 0,by8 0,by8 0,by8 0] ++ be 2 57 ++ be 2 (IntKind.i16.wrap v) ++ be 4 num ++ be 2 (-1) ++ [by8 0]) ++ qaa (IntKind.i16.wrap v) aa).drop 4)⟩) rfl dL kw (fun g' hg'=>.inl hg')
  have ky:=Fr.grow [⟨b1,0,[.bool has,.string txt],true⟩,⟨ac,0,[.int .i16 (IntKind.i16.wrap v),.int .i32 ((aa.f 0).n),.slice ((aa.f 1).A) ((aa.f 1).l) ((aa.f 1).c),.bool ((aa.f 2).b),.map aa.m],true⟩,⟨af,0,[.bool has,.string txt],true⟩,⟨ae,0,[.pointer none],true⟩] (k:=0) (rs:=[brow am ao 5 ((([]:Bs) ++ [by8 0,by8 0,by8 0,by8 0] ++ be 2 57 ++ be 2 (IntKind.i16.wrap v) ++ be 4 num ++ be 2 (-1) ++ [by8 0]) ++ qaa (IntKind.i16.wrap v) aa)]) (r':=⟨am,ao,5,1,((([]:Bs) ++ [by8 0,by8 0,by8 0,by8 0] ++ be 2 57 ++ be 2 (IntKind.i16.wrap v) ++ be 4 num ++ be 2 (-1) ++ [by8 0]) ++ qaa (IntKind.i16.wrap v) aa).length,bc (be 4 (IntKind.i32.wrap (((((([]:Bs) ++ [by8 0,by8 0,by8 0,by8 0] ++ be 2 57 ++ be 2 (IntKind.i16.wrap v) ++ be 4 num ++ be 2 (-1) ++ [by8 0]) ++ qaa (IntKind.i16.wrap v) aa).length) - 4:Nat):Int)) ++ ((([]:Bs) ++ [by8 0,by8 0,by8 0,by8 0] ++ be 2 57 ++ be 2 (IntKind.i16.wrap v) ++ be 4 num ++ be 2 (-1) ++ [by8 0]) ++ qaa (IntKind.i16.wrap v) aa).drop 4)⟩) rfl dL (fun g' hg'=>.inl hg')
  have kA:=TT.ofW ky aX
  refine ⟨fun _=>kA,?_⟩
  refine qaT kz ?_ _
  refine qab ?_
  refine qaq [(8,.v (.slice am (((([]:Bs) ++ [by8 0,by8 0,by8 0,by8 0] ++ be 2 57 ++ be 2 (IntKind.i16.wrap v) ++ be 4 num ++ be 2 (-1) ++ [by8 0]) ++ qaa (IntKind.i16.wrap v) aa).length) ao))] aX kx fun rl kB=>?_
  refine wp_ret ?_
  refine qaB kB aX.cells (v:=.slice am (((([]:Bs) ++ [by8 0,by8 0,by8 0,by8 0] ++ be 2 57 ++ be 2 (IntKind.i16.wrap v) ++ be 4 num ++ be 2 (-1) ++ [by8 0]) ++ qaa (IntKind.i16.wrap v) aa).length) ao) kz ?_
  refine ⟨_,rfl,fun rm kC=>?_⟩
  have kD:=(EnvOk.places (tb':=[⟨b1,0,[.bool has,.string txt],true⟩,⟨ac,0,[.int .i16 (IntKind.i16.wrap v),.int .i32 ((aa.f 0).n),.slice ((aa.f 1).A) ((aa.f 1).l) ((aa.f 1).c),.bool ((aa.f 2).b),.map aa.m],true⟩,⟨af,0,[.bool has,.string txt],true⟩,⟨ae,0,[.pointer none],true⟩]) kC (show Pl [⟨b1,0,[.bool has,.string txt],true⟩,⟨ac,0,[.int .i16 (IntKind.i16.wrap v),.int .i32 ((aa.f 0).n),.slice ((aa.f 1).A) ((aa.f 1).l) ((aa.f 1).c),.bool ((aa.f 2).b),.map aa.m],true⟩,⟨af,0,[.bool has,.string txt],true⟩,⟨ae,0,[.pointer none],true⟩] [⟨b1,0,[.bool has,.string txt],true⟩,⟨ac,0,[.int .i16 (IntKind.i16.wrap v),.int .i32 ((aa.f 0).n),.slice ((aa.f 1).A) ((aa.f 1).l) ((aa.f 1).c),.bool ((aa.f 2).b),.map aa.m],true⟩,⟨af,0,[.bool has,.string txt],true⟩,⟨ae,0,[.pointer none],true⟩] from ⟨rfl,rfl,⟨rfl,rfl,⟨rfl,rfl,⟨rfl,rfl,trivial⟩⟩⟩⟩)).pk (env':=[(19,.v (.slice am (((([]:Bs) ++ [by8 0,by8 0,by8 0,by8 0] ++ be 2 57 ++ be 2 (IntKind.i16.wrap v) ++ be 4 num ++ be 2 (-1) ++ [by8 0]) ++ qaa (IntKind.i16.wrap v) aa).length) ao)),(16,.p 3 0),(17,.v (.iface 63 (.pointer (some ⟨ac,0,none⟩)))),(18,.v (.int .i32 num))])
  refine qaj [4] [] [(6,.v (.slice am (((([]:Bs) ++ [by8 0,by8 0,by8 0,by8 0] ++ be 2 57 ++ be 2 (IntKind.i16.wrap v) ++ be 4 num ++ be 2 (-1) ++ [by8 0]) ++ qaa (IntKind.i16.wrap v) aa).length) ao))] aX kD fun rn kE=>?_
  refine qae (qab ?_)
  refine wp_ret ?_
  refine qaB kE aX.cells (v:=.slice am (((([]:Bs) ++ [by8 0,by8 0,by8 0,by8 0] ++ be 2 57 ++ be 2 (IntKind.i16.wrap v) ++ be 4 num ++ be 2 (-1) ++ [by8 0]) ++ qaa (IntKind.i16.wrap v) aa).length) ao) kz ?_
  refine ⟨_,rfl,fun ro kF=>?_⟩
  have kG:=(EnvOk.places (tb':=[⟨b1,0,[.bool has,.string txt],true⟩,⟨ac,0,[.int .i16 (IntKind.i16.wrap v),.int .i32 ((aa.f 0).n),.slice ((aa.f 1).A) ((aa.f 1).l) ((aa.f 1).c),.bool ((aa.f 2).b),.map aa.m],true⟩,⟨af,0,[.bool has,.string txt],true⟩,⟨ae,0,[.pointer none],true⟩]) kF (show Pl [⟨b1,0,[.bool has,.string txt],true⟩,⟨ac,0,[.int .i16 (IntKind.i16.wrap v),.int .i32 ((aa.f 0).n),.slice ((aa.f 1).A) ((aa.f 1).l) ((aa.f 1).c),.bool ((aa.f 2).b),.map aa.m],true⟩] [⟨b1,0,[.bool has,.string txt],true⟩,⟨ac,0,[.int .i16 (IntKind.i16.wrap v),.int .i32 ((aa.f 0).n),.slice ((aa.f 1).A) ((aa.f 1).l) ((aa.f 1).c),.bool ((aa.f 2).b),.map aa.m],true⟩,⟨af,0,[.bool has,.string txt],true⟩,⟨ae,0,[.pointer none],true⟩] from ⟨rfl,rfl,⟨rfl,rfl,trivial⟩⟩)).pk (env':=[(25,.v (.slice am (((([]:Bs) ++ [by8 0,by8 0,by8 0,by8 0] ++ be 2 57 ++ be 2 (IntKind.i16.wrap v) ++ be 4 num ++ be 2 (-1) ++ [by8 0]) ++ qaa (IntKind.i16.wrap v) aa).length) ao)),(21,.v (.agg #[.bool has,.string txt])),(23,.v (.iface 63 (.pointer (some ⟨ac,0,none⟩)))),(24,.v (.int .i32 num))])
  refine qaj [5,6] [] [(8,.v (.slice am (((([]:Bs) ++ [by8 0,by8 0,by8 0,by8 0] ++ be 2 57 ++ be 2 (IntKind.i16.wrap v) ++ be 4 num ++ be 2 (-1) ++ [by8 0]) ++ qaa (IntKind.i16.wrap v) aa).length) ao)),(9,.v (.bool true))] aX kG fun rp kH=>?_
  refine qae (qab ?_)
  refine wp_ret ?_
  refine qaB kH aX.cells (v:=.tuple #[.slice am (((([]:Bs) ++ [by8 0,by8 0,by8 0,by8 0] ++ be 2 57 ++ be 2 (IntKind.i16.wrap v) ++ be 4 num ++ be 2 (-1) ++ [by8 0]) ++ qaa (IntKind.i16.wrap v) aa).length) ao,.bool true]) kz ?_
  have kI:be 4 (IntKind.i32.wrap (((((([]:Bs) ++ [by8 0,by8 0,by8 0,by8 0] ++ be 2 57 ++ be 2 (IntKind.i16.wrap v) ++ be 4 num ++ be 2 (-1) ++ [by8 0]) ++ qaa (IntKind.i16.wrap v) aa).length) - 4:Nat):Int)) ++ ((([]:Bs) ++ [by8 0,by8 0,by8 0,by8 0] ++ be 2 57 ++ be 2 (IntKind.i16.wrap v) ++ be 4 num ++ be 2 (-1) ++ [by8 0]) ++ qaa (IntKind.i16.wrap v) aa).drop 4 = (qa1 57 (IntKind.i16.wrap v) num has (sb txt) (decide ((IntKind.i16.wrap v) ≥ 0)) (qaa (IntKind.i16.wrap v) aa)):=qcp (R:=outB 57 (IntKind.i16.wrap v) num has (sb txt) (decide ((IntKind.i16.wrap v) ≥ 0)) (qaa (IntKind.i16.wrap v) aa)) (by simp [outB,qdJ,qbC,aJ,bk])
  exact qcq aX (k:=0) rfl (kI.trans (by rw [ba])) (by simp only [List.length_append,List.length_cons,List.length_nil]; omega)
 have mA:=of_decide_eq_false bk
 refine wp_skip ?_
 refine qab ?_
 refine qad [0,1,2,3] kz ?_
 refine qaj [0,1] [2,3] [(49,.v (.iface 63 (.pointer (some ⟨ac,0,none⟩)))),(50,.v (.slice aB ((([]:Bs) ++ [by8 0,by8 0,by8 0,by8 0] ++ be 2 57 ++ be 2 (IntKind.i16.wrap v) ++ be 4 num ++ be 2 (-1)).length) aC))] az cG fun rq kJ=>?_
 have kK:=(qaS _ ((((((((aP.trans aQ).trans bX).trans bY).trans bZ).trans cd).trans cg).trans cm).trans cq).step immM ((((((((aP.trans aQ).trans bX).trans bY).trans bZ).trans cd).trans cg).trans cm).trans cq).to' cJ)
 have dX:=az.strImm (G:=F) 1 rfl
 have hk_:=qaS _ (Step.refl _ Nil) nilM (fun b o h_ _=>qfS h_) kK
 refine qam (qcE kJ (t := 63) (v := (.pointer (some ⟨ac, 0, none⟩))) (v' := (.pointer (some ⟨ac, 0, none⟩))) (name := "AppendTo") (f := 235) (vs := [.slice aB ((([] : Bs) ++ [by8 0, by8 0, by8 0, by8 0] ++ be 2 57 ++ be 2 (IntKind.i16.wrap v) ++ be 4 num ++ be 2 (-1)).length) aC]) (d := 51) kz (fun _ => by kernel_rfl) Tryz.call235 (qby (IntKind.i16.wrap v) aa ac 0 aB aC (([] : Bs) ++ [by8 0, by8 0, by8 0, by8 0] ++ be 2 57 ++ be 2 (IntKind.i16.wrap v) ++ be 4 num ++ be 2 (-1)) _ _ dX hk_ (qfQ 0 rfl) (az.own 0 _ rfl) (by first | omega | (simp only [List.length_append, List.length_cons, List.length_nil, be_length, qbC]; omega) | (simp; omega))) ?_)
 rintro e_ rt ⟨ap,ar,rfl,kL,dM,dN⟩
 refine ⟨_,rfl,fun ru kM=>?_⟩
 have dO:WOk _ _ _ _ [brow ap ar 5 ((([]:Bs) ++ [by8 0,by8 0,by8 0,by8 0] ++ be 2 57 ++ be 2 (IntKind.i16.wrap v) ++ be 4 num ++ be 2 (-1)) ++ qaa (IntKind.i16.wrap v) aa)]:=az.grow (k:=0) rfl dM kL dN
 have mB:=Fr.grow [⟨b1,0,[.bool has,.string txt],true⟩,⟨ac,0,[.int .i16 (IntKind.i16.wrap v),.int .i32 ((aa.f 0).n),.slice ((aa.f 1).A) ((aa.f 1).l) ((aa.f 1).c),.bool ((aa.f 2).b),.map aa.m],true⟩,⟨af,0,[.bool has,.string txt],true⟩,⟨ae,0,[.pointer none],true⟩] (k:=0) (rs:=[brow aB aC 5 (([]:Bs) ++ [by8 0,by8 0,by8 0,by8 0] ++ be 2 57 ++ be 2 (IntKind.i16.wrap v) ++ be 4 num ++ be 2 (-1))]) (r':=(brow ap ar 5 ((([]:Bs) ++ [by8 0,by8 0,by8 0,by8 0] ++ be 2 57 ++ be 2 (IntKind.i16.wrap v) ++ be 4 num ++ be 2 (-1)) ++ qaa (IntKind.i16.wrap v) aa))) rfl dM dN
 refine qaj [3] [] [(1,.v (.slice ap (((([]:Bs) ++ [by8 0,by8 0,by8 0,by8 0] ++ be 2 57 ++ be 2 (IntKind.i16.wrap v) ++ be 4 num ++ be 2 (-1)) ++ qaa (IntKind.i16.wrap v) aa).length) ar))] dO kM fun rv kN=>?_
 refine qae (qab ?_)
 refine qbe 7 kz dO fun rx mC cu bq=>?_
 refine qaY [0,2] [(1,.v (.slice ap (((([]:Bs) ++ [by8 0,by8 0,by8 0,by8 0] ++ be 2 57 ++ be 2 (IntKind.i16.wrap v) ++ be 4 num ++ be 2 (-1)) ++ qaa (IntKind.i16.wrap v) aa).length) ar)),(52,.v (.slice ap (((([]:Bs) ++ [by8 0,by8 0,by8 0,by8 0] ++ be 2 57 ++ be 2 (IntKind.i16.wrap v) ++ be 4 num ++ be 2 (-1)) ++ qaa (IntKind.i16.wrap v) aa).length) ar)),(54,.v (.slice ap (((([]:Bs) ++ [by8 0,by8 0,by8 0,by8 0] ++ be 2 57 ++ be 2 (IntKind.i16.wrap v) ++ be 4 num ++ be 2 (-1)) ++ qaa (IntKind.i16.wrap v) aa).length) ar))] 5 (qac qai) (fun _ h=>h.cells) bq kN fun ry dP=>?_
 refine qeo (i:=1) (j:=3) kz ?_ ?_
 ·
  refine (qbn dP (t:=24) (A:=ap) (m:=((([]:Bs) ++ [by8 0,by8 0,by8 0,by8 0] ++ be 2 57 ++ be 2 (IntKind.i16.wrap v) ++ be 4 num ++ be 2 (-1)) ++ qaa (IntKind.i16.wrap v) aa).length) (cp:=ar) (q:=0) (d:=53) (j:=0) kz (e:=5) (size:=1) (bytes:=1) kz (rfl) (by omega) fun rz kO=>?_)
  refine ⟨fun _=>bq,?_⟩
  refine qaL (i:=3) kz (qbi kO (t:=24) (A:=ap) (m:=(((([]:Bs) ++ [by8 0,by8 0,by8 0,by8 0] ++ be 2 57 ++ be 2 (IntKind.i16.wrap v) ++ be 4 num ++ be 2 (-1)) ++ qaa (IntKind.i16.wrap v) aa).length)) (cp:=ar) (q:=4) (d:=55) (j:=4) kz (e:=5) (bytes:=1) kz (rfl) (by first | omega | (simp only [List.length_append,List.length_cons,List.length_nil]; omega)) fun rA kP=>?_)
  refine ⟨fun _=>bq,?_⟩
  refine qaY [4,5] [(1,.v (.slice ap (((([]:Bs) ++ [by8 0,by8 0,by8 0,by8 0] ++ be 2 57 ++ be 2 (IntKind.i16.wrap v) ++ be 4 num ++ be 2 (-1)) ++ qaa (IntKind.i16.wrap v) aa).length) ar)),(53,.v (.slice ap 0 ar)),(57,.v (.int .i32 (IntKind.i32.wrap (((((([]:Bs) ++ [by8 0,by8 0,by8 0,by8 0] ++ be 2 57 ++ be 2 (IntKind.i16.wrap v) ++ be 4 num ++ be 2 (-1)) ++ qaa (IntKind.i16.wrap v) aa).length) - 4:Nat):Int))))] 1 (qac qai) (fun _ h=>h.cells) bq kP fun rB kQ=>?_
  refine qaL (i:=6) kz (qal kQ (f:=133) (vs:=[.slice ap 0 ar,.int .i32 (IntKind.i32.wrap (((((([]:Bs) ++ [by8 0,by8 0,by8 0,by8 0] ++ be 2 57 ++ be 2 (IntKind.i16.wrap v) ++ be 4 num ++ be 2 (-1)) ++ qaa (IntKind.i16.wrap v) aa).length) - 4:Nat):Int))]) (d:=58) kz Tryz.call133 (qbs (IntKind.i32.wrap (((((([]:Bs) ++ [by8 0,by8 0,by8 0,by8 0] ++ be 2 57 ++ be 2 (IntKind.i16.wrap v) ++ be 4 num ++ be 2 (-1)) ++ qaa (IntKind.i16.wrap v) aa).length) - 4:Nat):Int)) ap ar ((([]:Bs) ++ [by8 0,by8 0,by8 0,by8 0] ++ be 2 57 ++ be 2 (IntKind.i16.wrap v) ++ be 4 num ++ be 2 (-1)) ++ qaa (IntKind.i16.wrap v) aa) _ (cu.own 0 _ rfl) (by simp only [List.length_append,List.length_cons,List.length_nil]; omega)) ?_)
  rintro e_ rC ⟨rfl,kR,dQ⟩
  refine ⟨_,rfl,fun rD kS=>?_⟩
  have aY:WOk _ _ _ _ [⟨ap,ar,5,1,((([]:Bs) ++ [by8 0,by8 0,by8 0,by8 0] ++ be 2 57 ++ be 2 (IntKind.i16.wrap v) ++ be 4 num ++ be 2 (-1)) ++ qaa (IntKind.i16.wrap v) aa).length,bc (be 4 (IntKind.i32.wrap (((((([]:Bs) ++ [by8 0,by8 0,by8 0,by8 0] ++ be 2 57 ++ be 2 (IntKind.i16.wrap v) ++ be 4 num ++ be 2 (-1)) ++ qaa (IntKind.i16.wrap v) aa).length) - 4:Nat):Int)) ++ ((([]:Bs) ++ [by8 0,by8 0,by8 0,by8 0] ++ be 2 57 ++ be 2 (IntKind.i16.wrap v) ++ be 4 num ++ be 2 (-1)) ++ qaa (IntKind.i16.wrap v) aa).drop 4)⟩]:=cu.grow (k:=0) (r':=⟨ap,ar,5,1,((([]:Bs) ++ [by8 0,by8 0,by8 0,by8 0] ++ be 2 57 ++ be 2 (IntKind.i16.wrap v) ++ be 4 num ++ be 2 (-1)) ++ qaa (IntKind.i16.wrap v) aa).length,bc (be 4 (IntKind.i32.wrap (((((([]:Bs) ++ [by8 0,by8 0,by8 0,by8 0] ++ be 2 57 ++ be 2 (IntKind.i16.wrap v) ++ be 4 num ++ be 2 (-1)) ++ qaa (IntKind.i16.wrap v) aa).length) - 4:Nat):Int)) ++ ((([]:Bs) ++ [by8 0,by8 0,by8 0,by8 0] ++ be 2 57 ++ be 2 (IntKind.i16.wrap v) ++ be 4 num ++ be 2 (-1)) ++ qaa (IntKind.i16.wrap v) aa).drop 4)⟩) rfl dQ kR (fun g' hg'=>.inl hg')
  have kT:=Fr.grow [⟨b1,0,[.bool has,.string txt],true⟩,⟨ac,0,[.int .i16 (IntKind.i16.wrap v),.int .i32 ((aa.f 0).n),.slice ((aa.f 1).A) ((aa.f 1).l) ((aa.f 1).c),.bool ((aa.f 2).b),.map aa.m],true⟩,⟨af,0,[.bool has,.string txt],true⟩,⟨ae,0,[.pointer none],true⟩] (k:=0) (rs:=[brow ap ar 5 ((([]:Bs) ++ [by8 0,by8 0,by8 0,by8 0] ++ be 2 57 ++ be 2 (IntKind.i16.wrap v) ++ be 4 num ++ be 2 (-1)) ++ qaa (IntKind.i16.wrap v) aa)]) (r':=⟨ap,ar,5,1,((([]:Bs) ++ [by8 0,by8 0,by8 0,by8 0] ++ be 2 57 ++ be 2 (IntKind.i16.wrap v) ++ be 4 num ++ be 2 (-1)) ++ qaa (IntKind.i16.wrap v) aa).length,bc (be 4 (IntKind.i32.wrap (((((([]:Bs) ++ [by8 0,by8 0,by8 0,by8 0] ++ be 2 57 ++ be 2 (IntKind.i16.wrap v) ++ be 4 num ++ be 2 (-1)) ++ qaa (IntKind.i16.wrap v) aa).length) - 4:Nat):Int)) ++ ((([]:Bs) ++ [by8 0,by8 0,by8 0,by8 0] ++ be 2 57 ++ be 2 (IntKind.i16.wrap v) ++ be 4 num ++ be 2 (-1)) ++ qaa (IntKind.i16.wrap v) aa).drop 4)⟩) rfl dQ (fun g' hg'=>.inl hg')
  have kU:=TT.ofW kT aY
  refine ⟨fun _=>kU,?_⟩
  refine qaT kz ?_ _
  refine qab ?_
  refine qaq [(8,.v (.slice ap (((([]:Bs) ++ [by8 0,by8 0,by8 0,by8 0] ++ be 2 57 ++ be 2 (IntKind.i16.wrap v) ++ be 4 num ++ be 2 (-1)) ++ qaa (IntKind.i16.wrap v) aa).length) ar))] aY kS fun rE kV=>?_
  refine wp_ret ?_
  refine qaB kV aY.cells (v:=.slice ap (((([]:Bs) ++ [by8 0,by8 0,by8 0,by8 0] ++ be 2 57 ++ be 2 (IntKind.i16.wrap v) ++ be 4 num ++ be 2 (-1)) ++ qaa (IntKind.i16.wrap v) aa).length) ar) kz ?_
  refine ⟨_,rfl,fun rF kW=>?_⟩
  have kX:=(EnvOk.places (tb':=[⟨b1,0,[.bool has,.string txt],true⟩,⟨ac,0,[.int .i16 (IntKind.i16.wrap v),.int .i32 ((aa.f 0).n),.slice ((aa.f 1).A) ((aa.f 1).l) ((aa.f 1).c),.bool ((aa.f 2).b),.map aa.m],true⟩,⟨af,0,[.bool has,.string txt],true⟩,⟨ae,0,[.pointer none],true⟩]) kW (show Pl [⟨b1,0,[.bool has,.string txt],true⟩,⟨ac,0,[.int .i16 (IntKind.i16.wrap v),.int .i32 ((aa.f 0).n),.slice ((aa.f 1).A) ((aa.f 1).l) ((aa.f 1).c),.bool ((aa.f 2).b),.map aa.m],true⟩,⟨af,0,[.bool has,.string txt],true⟩,⟨ae,0,[.pointer none],true⟩] [⟨b1,0,[.bool has,.string txt],true⟩,⟨ac,0,[.int .i16 (IntKind.i16.wrap v),.int .i32 ((aa.f 0).n),.slice ((aa.f 1).A) ((aa.f 1).l) ((aa.f 1).c),.bool ((aa.f 2).b),.map aa.m],true⟩,⟨af,0,[.bool has,.string txt],true⟩,⟨ae,0,[.pointer none],true⟩] from ⟨rfl,rfl,⟨rfl,rfl,⟨rfl,rfl,⟨rfl,rfl,trivial⟩⟩⟩⟩)).pk (env':=[(19,.v (.slice ap (((([]:Bs) ++ [by8 0,by8 0,by8 0,by8 0] ++ be 2 57 ++ be 2 (IntKind.i16.wrap v) ++ be 4 num ++ be 2 (-1)) ++ qaa (IntKind.i16.wrap v) aa).length) ar)),(16,.p 3 0),(17,.v (.iface 63 (.pointer (some ⟨ac,0,none⟩)))),(18,.v (.int .i32 num))])
  refine qaj [4] [] [(6,.v (.slice ap (((([]:Bs) ++ [by8 0,by8 0,by8 0,by8 0] ++ be 2 57 ++ be 2 (IntKind.i16.wrap v) ++ be 4 num ++ be 2 (-1)) ++ qaa (IntKind.i16.wrap v) aa).length) ar))] aY kX fun rG kY=>?_
  refine qae (qab ?_)
  refine wp_ret ?_
  refine qaB kY aY.cells (v:=.slice ap (((([]:Bs) ++ [by8 0,by8 0,by8 0,by8 0] ++ be 2 57 ++ be 2 (IntKind.i16.wrap v) ++ be 4 num ++ be 2 (-1)) ++ qaa (IntKind.i16.wrap v) aa).length) ar) kz ?_
  refine ⟨_,rfl,fun rH kZ=>?_⟩
  have k5:=(EnvOk.places (tb':=[⟨b1,0,[.bool has,.string txt],true⟩,⟨ac,0,[.int .i16 (IntKind.i16.wrap v),.int .i32 ((aa.f 0).n),.slice ((aa.f 1).A) ((aa.f 1).l) ((aa.f 1).c),.bool ((aa.f 2).b),.map aa.m],true⟩,⟨af,0,[.bool has,.string txt],true⟩,⟨ae,0,[.pointer none],true⟩]) kZ (show Pl [⟨b1,0,[.bool has,.string txt],true⟩,⟨ac,0,[.int .i16 (IntKind.i16.wrap v),.int .i32 ((aa.f 0).n),.slice ((aa.f 1).A) ((aa.f 1).l) ((aa.f 1).c),.bool ((aa.f 2).b),.map aa.m],true⟩] [⟨b1,0,[.bool has,.string txt],true⟩,⟨ac,0,[.int .i16 (IntKind.i16.wrap v),.int .i32 ((aa.f 0).n),.slice ((aa.f 1).A) ((aa.f 1).l) ((aa.f 1).c),.bool ((aa.f 2).b),.map aa.m],true⟩,⟨af,0,[.bool has,.string txt],true⟩,⟨ae,0,[.pointer none],true⟩] from ⟨rfl,rfl,⟨rfl,rfl,trivial⟩⟩)).pk (env':=[(25,.v (.slice ap (((([]:Bs) ++ [by8 0,by8 0,by8 0,by8 0] ++ be 2 57 ++ be 2 (IntKind.i16.wrap v) ++ be 4 num ++ be 2 (-1)) ++ qaa (IntKind.i16.wrap v) aa).length) ar)),(21,.v (.agg #[.bool has,.string txt])),(23,.v (.iface 63 (.pointer (some ⟨ac,0,none⟩)))),(24,.v (.int .i32 num))])
  refine qaj [5,6] [] [(8,.v (.slice ap (((([]:Bs) ++ [by8 0,by8 0,by8 0,by8 0] ++ be 2 57 ++ be 2 (IntKind.i16.wrap v) ++ be 4 num ++ be 2 (-1)) ++ qaa (IntKind.i16.wrap v) aa).length) ar)),(9,.v (.bool true))] aY k5 fun rI k6=>?_
  refine qae (qab ?_)
  refine wp_ret ?_
  refine qaB k6 aY.cells (v:=.tuple #[.slice ap (((([]:Bs) ++ [by8 0,by8 0,by8 0,by8 0] ++ be 2 57 ++ be 2 (IntKind.i16.wrap v) ++ be 4 num ++ be 2 (-1)) ++ qaa (IntKind.i16.wrap v) aa).length) ar,.bool true]) kz ?_
  have k7:be 4 (IntKind.i32.wrap (((((([]:Bs) ++ [by8 0,by8 0,by8 0,by8 0] ++ be 2 57 ++ be 2 (IntKind.i16.wrap v) ++ be 4 num ++ be 2 (-1)) ++ qaa (IntKind.i16.wrap v) aa).length) - 4:Nat):Int)) ++ ((([]:Bs) ++ [by8 0,by8 0,by8 0,by8 0] ++ be 2 57 ++ be 2 (IntKind.i16.wrap v) ++ be 4 num ++ be 2 (-1)) ++ qaa (IntKind.i16.wrap v) aa).drop 4 = (qa1 57 (IntKind.i16.wrap v) num has (sb txt) (decide ((IntKind.i16.wrap v) ≥ 0)) (qaa (IntKind.i16.wrap v) aa)):=qcp (R:=outB 57 (IntKind.i16.wrap v) num has (sb txt) (decide ((IntKind.i16.wrap v) ≥ 0)) (qaa (IntKind.i16.wrap v) aa)) (by simp [outB,qdJ,qbC,aJ,bk])
  exact qcq aY (k:=0) rfl (k7.trans (by rw [ba])) (by simp only [List.length_append,List.length_cons,List.length_nil]; omega)
 refine (qbi dP (t:=24) (A:=ap) (m:=(((([]:Bs) ++ [by8 0,by8 0,by8 0,by8 0] ++ be 2 57 ++ be 2 (IntKind.i16.wrap v) ++ be 4 num ++ be 2 (-1)) ++ qaa (IntKind.i16.wrap v) aa).length)) (cp:=ar) (q:=4) (d:=55) (j:=4) kz (e:=5) (bytes:=1) kz (rfl) (by first | omega | (simp only [List.length_append,List.length_cons,List.length_nil]; omega)) fun rJ k8=>?_)
 refine ⟨fun _=>bq,?_⟩
 refine qaY [4,5] [(1,.v (.slice ap (((([]:Bs) ++ [by8 0,by8 0,by8 0,by8 0] ++ be 2 57 ++ be 2 (IntKind.i16.wrap v) ++ be 4 num ++ be 2 (-1)) ++ qaa (IntKind.i16.wrap v) aa).length) ar)),(52,.v (.slice ap (((([]:Bs) ++ [by8 0,by8 0,by8 0,by8 0] ++ be 2 57 ++ be 2 (IntKind.i16.wrap v) ++ be 4 num ++ be 2 (-1)) ++ qaa (IntKind.i16.wrap v) aa).length) ar)),(57,.v (.int .i32 (IntKind.i32.wrap (((((([]:Bs) ++ [by8 0,by8 0,by8 0,by8 0] ++ be 2 57 ++ be 2 (IntKind.i16.wrap v) ++ be 4 num ++ be 2 (-1)) ++ qaa (IntKind.i16.wrap v) aa).length) - 4:Nat):Int))))] 2 (qac qai) (fun _ h=>h.cells) bq k8 fun rK k9=>?_
 refine qaL (i:=1) kz (qbn k9 (t:=24) (A:=ap) (m:=((([]:Bs) ++ [by8 0,by8 0,by8 0,by8 0] ++ be 2 57 ++ be 2 (IntKind.i16.wrap v) ++ be 4 num ++ be 2 (-1)) ++ qaa (IntKind.i16.wrap v) aa).length) (cp:=ar) (q:=0) (d:=53) (j:=0) kz (e:=5) (size:=1) (bytes:=1) kz (rfl) (by omega) fun rL la=>?_)
 refine ⟨fun _=>bq,?_⟩
 refine qaL (i:=6) kz (qal la (f:=133) (vs:=[.slice ap 0 ar,.int .i32 (IntKind.i32.wrap (((((([]:Bs) ++ [by8 0,by8 0,by8 0,by8 0] ++ be 2 57 ++ be 2 (IntKind.i16.wrap v) ++ be 4 num ++ be 2 (-1)) ++ qaa (IntKind.i16.wrap v) aa).length) - 4:Nat):Int))]) (d:=58) kz Tryz.call133 (qbs (IntKind.i32.wrap (((((([]:Bs) ++ [by8 0,by8 0,by8 0,by8 0] ++ be 2 57 ++ be 2 (IntKind.i16.wrap v) ++ be 4 num ++ be 2 (-1)) ++ qaa (IntKind.i16.wrap v) aa).length) - 4:Nat):Int)) ap ar ((([]:Bs) ++ [by8 0,by8 0,by8 0,by8 0] ++ be 2 57 ++ be 2 (IntKind.i16.wrap v) ++ be 4 num ++ be 2 (-1)) ++ qaa (IntKind.i16.wrap v) aa) _ (cu.own 0 _ rfl) (by simp only [List.length_append,List.length_cons,List.length_nil]; omega)) ?_)
 rintro e_ rM ⟨rfl,lb,dR⟩
 refine ⟨_,rfl,fun rN lc=>?_⟩
 have aZ:WOk _ _ _ _ [⟨ap,ar,5,1,((([]:Bs) ++ [by8 0,by8 0,by8 0,by8 0] ++ be 2 57 ++ be 2 (IntKind.i16.wrap v) ++ be 4 num ++ be 2 (-1)) ++ qaa (IntKind.i16.wrap v) aa).length,bc (be 4 (IntKind.i32.wrap (((((([]:Bs) ++ [by8 0,by8 0,by8 0,by8 0] ++ be 2 57 ++ be 2 (IntKind.i16.wrap v) ++ be 4 num ++ be 2 (-1)) ++ qaa (IntKind.i16.wrap v) aa).length) - 4:Nat):Int)) ++ ((([]:Bs) ++ [by8 0,by8 0,by8 0,by8 0] ++ be 2 57 ++ be 2 (IntKind.i16.wrap v) ++ be 4 num ++ be 2 (-1)) ++ qaa (IntKind.i16.wrap v) aa).drop 4)⟩]:=cu.grow (k:=0) (r':=⟨ap,ar,5,1,((([]:Bs) ++ [by8 0,by8 0,by8 0,by8 0] ++ be 2 57 ++ be 2 (IntKind.i16.wrap v) ++ be 4 num ++ be 2 (-1)) ++ qaa (IntKind.i16.wrap v) aa).length,bc (be 4 (IntKind.i32.wrap (((((([]:Bs) ++ [by8 0,by8 0,by8 0,by8 0] ++ be 2 57 ++ be 2 (IntKind.i16.wrap v) ++ be 4 num ++ be 2 (-1)) ++ qaa (IntKind.i16.wrap v) aa).length) - 4:Nat):Int)) ++ ((([]:Bs) ++ [by8 0,by8 0,by8 0,by8 0] ++ be 2 57 ++ be 2 (IntKind.i16.wrap v) ++ be 4 num ++ be 2 (-1)) ++ qaa (IntKind.i16.wrap v) aa).drop 4)⟩) rfl dR lb (fun g' hg'=>.inl hg')
 have ld:=Fr.grow [⟨b1,0,[.bool has,.string txt],true⟩,⟨ac,0,[.int .i16 (IntKind.i16.wrap v),.int .i32 ((aa.f 0).n),.slice ((aa.f 1).A) ((aa.f 1).l) ((aa.f 1).c),.bool ((aa.f 2).b),.map aa.m],true⟩,⟨af,0,[.bool has,.string txt],true⟩,⟨ae,0,[.pointer none],true⟩] (k:=0) (rs:=[brow ap ar 5 ((([]:Bs) ++ [by8 0,by8 0,by8 0,by8 0] ++ be 2 57 ++ be 2 (IntKind.i16.wrap v) ++ be 4 num ++ be 2 (-1)) ++ qaa (IntKind.i16.wrap v) aa)]) (r':=⟨ap,ar,5,1,((([]:Bs) ++ [by8 0,by8 0,by8 0,by8 0] ++ be 2 57 ++ be 2 (IntKind.i16.wrap v) ++ be 4 num ++ be 2 (-1)) ++ qaa (IntKind.i16.wrap v) aa).length,bc (be 4 (IntKind.i32.wrap (((((([]:Bs) ++ [by8 0,by8 0,by8 0,by8 0] ++ be 2 57 ++ be 2 (IntKind.i16.wrap v) ++ be 4 num ++ be 2 (-1)) ++ qaa (IntKind.i16.wrap v) aa).length) - 4:Nat):Int)) ++ ((([]:Bs) ++ [by8 0,by8 0,by8 0,by8 0] ++ be 2 57 ++ be 2 (IntKind.i16.wrap v) ++ be 4 num ++ be 2 (-1)) ++ qaa (IntKind.i16.wrap v) aa).drop 4)⟩) rfl dR (fun g' hg'=>.inl hg')
 have lf:=TT.ofW ld aZ
 refine ⟨fun _=>lf,?_⟩
 refine qaT kz ?_ _
 refine qab ?_
 refine qaq [(8,.v (.slice ap (((([]:Bs) ++ [by8 0,by8 0,by8 0,by8 0] ++ be 2 57 ++ be 2 (IntKind.i16.wrap v) ++ be 4 num ++ be 2 (-1)) ++ qaa (IntKind.i16.wrap v) aa).length) ar))] aZ lc fun rO lg=>?_
 refine wp_ret ?_
 refine qaB lg aZ.cells (v:=.slice ap (((([]:Bs) ++ [by8 0,by8 0,by8 0,by8 0] ++ be 2 57 ++ be 2 (IntKind.i16.wrap v) ++ be 4 num ++ be 2 (-1)) ++ qaa (IntKind.i16.wrap v) aa).length) ar) kz ?_
 refine ⟨_,rfl,fun rP lh=>?_⟩
 have li:=(EnvOk.places (tb':=[⟨b1,0,[.bool has,.string txt],true⟩,⟨ac,0,[.int .i16 (IntKind.i16.wrap v),.int .i32 ((aa.f 0).n),.slice ((aa.f 1).A) ((aa.f 1).l) ((aa.f 1).c),.bool ((aa.f 2).b),.map aa.m],true⟩,⟨af,0,[.bool has,.string txt],true⟩,⟨ae,0,[.pointer none],true⟩]) lh (show Pl [⟨b1,0,[.bool has,.string txt],true⟩,⟨ac,0,[.int .i16 (IntKind.i16.wrap v),.int .i32 ((aa.f 0).n),.slice ((aa.f 1).A) ((aa.f 1).l) ((aa.f 1).c),.bool ((aa.f 2).b),.map aa.m],true⟩,⟨af,0,[.bool has,.string txt],true⟩,⟨ae,0,[.pointer none],true⟩] [⟨b1,0,[.bool has,.string txt],true⟩,⟨ac,0,[.int .i16 (IntKind.i16.wrap v),.int .i32 ((aa.f 0).n),.slice ((aa.f 1).A) ((aa.f 1).l) ((aa.f 1).c),.bool ((aa.f 2).b),.map aa.m],true⟩,⟨af,0,[.bool has,.string txt],true⟩,⟨ae,0,[.pointer none],true⟩] from ⟨rfl,rfl,⟨rfl,rfl,⟨rfl,rfl,⟨rfl,rfl,trivial⟩⟩⟩⟩)).pk (env':=[(19,.v (.slice ap (((([]:Bs) ++ [by8 0,by8 0,by8 0,by8 0] ++ be 2 57 ++ be 2 (IntKind.i16.wrap v) ++ be 4 num ++ be 2 (-1)) ++ qaa (IntKind.i16.wrap v) aa).length) ar)),(16,.p 3 0),(17,.v (.iface 63 (.pointer (some ⟨ac,0,none⟩)))),(18,.v (.int .i32 num))])
 refine qaj [4] [] [(6,.v (.slice ap (((([]:Bs) ++ [by8 0,by8 0,by8 0,by8 0] ++ be 2 57 ++ be 2 (IntKind.i16.wrap v) ++ be 4 num ++ be 2 (-1)) ++ qaa (IntKind.i16.wrap v) aa).length) ar))] aZ li fun rQ lj=>?_
 refine qae (qab ?_)
 refine wp_ret ?_
 refine qaB lj aZ.cells (v:=.slice ap (((([]:Bs) ++ [by8 0,by8 0,by8 0,by8 0] ++ be 2 57 ++ be 2 (IntKind.i16.wrap v) ++ be 4 num ++ be 2 (-1)) ++ qaa (IntKind.i16.wrap v) aa).length) ar) kz ?_
 refine ⟨_,rfl,fun rR lm=>?_⟩
 have ln:=(EnvOk.places (tb':=[⟨b1,0,[.bool has,.string txt],true⟩,⟨ac,0,[.int .i16 (IntKind.i16.wrap v),.int .i32 ((aa.f 0).n),.slice ((aa.f 1).A) ((aa.f 1).l) ((aa.f 1).c),.bool ((aa.f 2).b),.map aa.m],true⟩,⟨af,0,[.bool has,.string txt],true⟩,⟨ae,0,[.pointer none],true⟩]) lm (show Pl [⟨b1,0,[.bool has,.string txt],true⟩,⟨ac,0,[.int .i16 (IntKind.i16.wrap v),.int .i32 ((aa.f 0).n),.slice ((aa.f 1).A) ((aa.f 1).l) ((aa.f 1).c),.bool ((aa.f 2).b),.map aa.m],true⟩] [⟨b1,0,[.bool has,.string txt],true⟩,⟨ac,0,[.int .i16 (IntKind.i16.wrap v),.int .i32 ((aa.f 0).n),.slice ((aa.f 1).A) ((aa.f 1).l) ((aa.f 1).c),.bool ((aa.f 2).b),.map aa.m],true⟩,⟨af,0,[.bool has,.string txt],true⟩,⟨ae,0,[.pointer none],true⟩] from ⟨rfl,rfl,⟨rfl,rfl,trivial⟩⟩)).pk (env':=[(25,.v (.slice ap (((([]:Bs) ++ [by8 0,by8 0,by8 0,by8 0] ++ be 2 57 ++ be 2 (IntKind.i16.wrap v) ++ be 4 num ++ be 2 (-1)) ++ qaa (IntKind.i16.wrap v) aa).length) ar)),(21,.v (.agg #[.bool has,.string txt])),(23,.v (.iface 63 (.pointer (some ⟨ac,0,none⟩)))),(24,.v (.int .i32 num))])
 refine qaj [5,6] [] [(8,.v (.slice ap (((([]:Bs) ++ [by8 0,by8 0,by8 0,by8 0] ++ be 2 57 ++ be 2 (IntKind.i16.wrap v) ++ be 4 num ++ be 2 (-1)) ++ qaa (IntKind.i16.wrap v) aa).length) ar)),(9,.v (.bool true))] aZ ln fun rS lp=>?_
 refine qae (qab ?_)
 refine wp_ret ?_
 refine qaB lp aZ.cells (v:=.tuple #[.slice ap (((([]:Bs) ++ [by8 0,by8 0,by8 0,by8 0] ++ be 2 57 ++ be 2 (IntKind.i16.wrap v) ++ be 4 num ++ be 2 (-1)) ++ qaa (IntKind.i16.wrap v) aa).length) ar,.bool true]) kz ?_
 have lq:be 4 (IntKind.i32.wrap (((((([]:Bs) ++ [by8 0,by8 0,by8 0,by8 0] ++ be 2 57 ++ be 2 (IntKind.i16.wrap v) ++ be 4 num ++ be 2 (-1)) ++ qaa (IntKind.i16.wrap v) aa).length) - 4:Nat):Int)) ++ ((([]:Bs) ++ [by8 0,by8 0,by8 0,by8 0] ++ be 2 57 ++ be 2 (IntKind.i16.wrap v) ++ be 4 num ++ be 2 (-1)) ++ qaa (IntKind.i16.wrap v) aa).drop 4 = (qa1 57 (IntKind.i16.wrap v) num has (sb txt) (decide ((IntKind.i16.wrap v) ≥ 0)) (qaa (IntKind.i16.wrap v) aa)):=qcp (R:=outB 57 (IntKind.i16.wrap v) num has (sb txt) (decide ((IntKind.i16.wrap v) ≥ 0)) (qaa (IntKind.i16.wrap v) aa)) (by simp [outB,qdJ,qbC,aJ,bk])
 exact qcq aZ (k:=0) rfl (lq.trans (by rw [ba])) (by simp only [List.length_append,List.length_cons,List.length_nil]; omega)
theorem qcU (has:Bool) (txt:ByteArray) (num v:Int) (T:Tree) (B:Bs) {A2:Option Addr} {c2:Nat} {w:World} {F:Nat → Nat → Prop} (hB:qah (IntKind.i16.wrap v) T = B) (hs_:Octs w F A2 c2 B) (hc:qa0 T) (hkey:T.ranged) (htx:txt.size ≤ 32767) (hroom:txt.size + B.length + 64 ≤ 1099511627776) :
  Calls Tryz.prog 28 #[.agg #[.bool has,.string txt],.int .i32 num,.int .i64 v,.slice A2 B.length c2] w (fun e w'=>∃ A c,e = .returned (.tuple #[.slice A (qa1 57 (IntKind.i16.wrap v) num has (sb txt) (decide ((IntKind.i16.wrap v) ≥ 0)) B).length c,.bool true]) ∧ w'.ownsRow w.heap.size 5 1 (.slice A (qa1 57 (IntKind.i16.wrap v) num has (sb txt) (decide ((IntKind.i16.wrap v) ≥ 0)) B).length c) (qa1 57 (IntKind.i16.wrap v) num has (sb txt) (decide ((IntKind.i16.wrap v) ≥ 0)) B).length (bc (qa1 57 (IntKind.i16.wrap v) num has (sb txt) (decide ((IntKind.i16.wrap v) ≥ 0)) B)) ∧ Step w w' Nil):=by
 subst hB
 exact qc4 has txt num v T hs_ hc hkey htx hroom
end Go.Proofs.YtogokkkdfcgncaaGreatDoor.ME
namespace Go.Proofs.YtogokkkdfcgncaaGreatDoor.ME
open Go
open Go.RowKit
set_option linter.unusedVariables false
set_option linter.unusedSimpArgs false
set_option maxRecDepth 20000
section
variable {P:Program} {ops:Array Oper} {Q:Exit → Act → World → Prop} {n:Nat} {tb:Tb} {env:Env} {rs:List Rw} {w0:World} {M:Nat → Nat → Prop} {a:Act} {w:World}
theorem qfu {i d:Nat} {src dst e:TypeId} {s:ByteArray} {N:Act → World → Prop} (hW:WOk w0 M w tb rs) (hE:EnvOk n tb env a) (hsm:s.size ≤ 1099511627776)
  (K:∀ b c a' w',Fr w tb rs w' tb rs → WOk w0 M w' tb rs → (∀ G,Octs w' (Imm G w0 w' tb rs) (some ⟨b,0,none⟩) c (sb s)) → EnvOk n tb ((d,.v (.slice (some ⟨b,0,none⟩) (sb s).length c)) :: env) a' → N a' w')
  (h:qjO tb env ops n i = some (src,dst,.string s,d):=by kernel_rfl) (hs:P.underlying src = some .string:=by kernel_rfl) (hd:P.underlying dst = some (.slice e):=by kernel_rfl) (he:P.underlying e = some (.int .u8):=by kernel_rfl):wpOp P ops Q i N a w:=by
 unfold qjO at h
 split at h
 ·rename_i src' dst' x d' hop
  split at h
  ·rename_i v hx
   simp only [Option.some.injEq,Prod.mk.injEq] at h
   obtain ⟨rfl,rfl,rfl,rfl⟩:=h
   have hdn:=(qbb hE hop).choose_spec.2.2.2.1
   have hrun:=Lib.run_convert_string_bytes (P:=P) w src' dst' e s hs hd he
   have hst:Step w (Lib.bytesWorld w e s) Nil:=⟨rfl,rfl,by rw [Lib.bytesWorld_size]; omega,fun b hb=>by rw [Lib.bytesWorld_at_old w e s b hb]; exact Keeps.refl _ _⟩
   have hlen:(sb s).length = s.size:=qd6 s
   have e1:=(qaO hE hx).1
   refine qaV hE hop (v:=.slice (some ⟨w.heap.size,0,none⟩) (sb s).length (grownCap w s.size 0 e)) (w':=Lib.bytesWorld w e s) (fun o' ho'=>?_) (K w.heap.size _ _ _ (Fr.nil tb rs hst) (hW.next_nil hst) (fun G=>?_) (hE.put hdn (.v _) trivial))
   ·unfold execOp
    rw [ho']
    simp only [SV.val] at e1
    simp only [e1,Sem.run_bind,hrun,Result.andThen_ok,Sem.run_pure,hlen]
   refine ⟨by rw [hlen]; exact grownCap_ge w s.size 0 e,by rw [hlen]; exact hsm,fun h=>(by cases h),fun ad hA _=>?_⟩
   obtain rfl:=Option.some.inj hA
   refine ⟨w.heap.size,0,rfl,fun q hq=>⟨rfl,fun j v hj=>?_⟩⟩
   have hj0:j = 0:=by
    cases j with
    | zero=>rfl
    | succ j=>simp at hj
   subst hj0
   simp only [List.getElem?_cons_zero,Option.some.injEq] at hj
   subst hj
   have h2:(Lib.bytesWorld w e s).heap.size = w.heap.size + 1:=Lib.bytesWorld_size w e s
   refine ⟨⟨.inr hW.step.size,by rw [h2]; exact Nat.lt_succ_self _,fun ha=>?_⟩,?_⟩
   ·have:=hW.act_live ha
    exact absurd this (Nat.lt_irrefl _)
   rw [Nat.zero_add,Nat.mul_one,Nat.add_zero,Lib.bytesWorld_cell w e s q (by rw [← hlen]; exact hq)]
   rfl
  cases h
 cases h
end
theorem qda (w:World):Calls Tryz.prog 26 #[] w (qcl w (.int .i64 2)):=by
 refine enter (n:=4) Tryz.func26 rfl Tryz.ntmps26 kz fun a hE=>?_
 have hW:=WOk.start w Nil
 refine qaq [] hW hE fun a1 hE2=>?_
 refine qad [0,1,2,3] kz ?_
 refine qam (qa5 hE2 (f:=57) (vs:=[]) (d:=1) (n':=3) kz Tryz.call57 Tryz.func57 rfl Tryz.ntmps57 kz fun a3 hE4=>?_)
 refine qaq [] hW hE4 fun a5 hE6=>?_
 refine qad [0] kz ?_
 refine qam (qa9 hW hE6 (d:=1) (cs:=[.int .i16 0,.int .i32 0,.slice none 0 0,.bool false,.map none]) kz fun b7 a8 w9 aA aB aC ab ac=>?_)
 refine qae (qab ?_)
 refine qad [0] kz ?_
 refine qam (qa5 ac (f:=97) (vs:=[.pointer (some ⟨b7,0,none⟩)]) (d:=2) (n':=5) kz Tryz.call97 Tryz.func97 rfl Tryz.ntmps97 kz fun aE ae=>?_)
 have af:=ae.recast 0 (.v (.pointer (some ⟨b7,0,none⟩))) (.p 0 0) rfl rfl (Nat.le_of_ble_eq_true (n:=1) rfl)
 refine qar [0,1,2,3] kz ?_
 refine qaj [0,1,2] [3] [(4,.p 0 1)] ab af fun aF ag=>?_
 refine qam (qaJ ab ag (oi:=0) (cs:=[.int .i16 0,.int .i32 60000,.slice none 0 0,.bool false,.map none]) kz fun aG aD aa ah=>?_)
 refine qae ?_
 refine qb3 ah aa.cells (v:=.tuple #[]) kz ?_
 refine ⟨_,rfl,fun aH ai=>?_⟩
 have aj:=(EnvOk.places (tb':=[⟨b7,0,[.int .i16 0,.int .i32 60000,.slice none 0 0,.bool false,.map none],true⟩]) ai (show Pl [⟨b7,0,[.int .i16 0,.int .i32 0,.slice none 0 0,.bool false,.map none],true⟩] [⟨b7,0,[.int .i16 0,.int .i32 60000,.slice none 0 0,.bool false,.map none],true⟩] from ⟨rfl,rfl,trivial⟩)).pk (env':=[(2,.v (.tuple #[])),(1,.p 0 0)])
 refine qae (qab ?_)
 refine qaq [(0,.p 0 0)] aa aj fun aI ak=>?_
 refine wp_ret ?_
 refine qaB ak aa.cells (v:=.pointer (some ⟨b7,0,none⟩)) kz ?_
 refine ⟨_,rfl,fun aJ al=>?_⟩
 have am:=(EnvOk.places (tb':=[⟨b7,0,[.int .i16 0,.int .i32 60000,.slice none 0 0,.bool false,.map none],true⟩]) al (show Pl [] [⟨b7,0,[.int .i16 0,.int .i32 60000,.slice none 0 0,.bool false,.map none],true⟩] from trivial)).pk (env':=[(1,.v (.pointer (some ⟨b7,0,none⟩)))])
 have ao:=am.recast 1 (.v (.pointer (some ⟨b7,0,none⟩))) (.p 0 0) rfl rfl (Nat.le_of_ble_eq_true (n:=1) rfl)
 have ap:=ao.pick (ks:=[1]) (env':=[(1,.p 0 0)]) kz
 refine qam (qa5 ap (f:=58) (vs:=[.pointer (some ⟨b7,0,none⟩)]) (d:=2) (n':=3) kz Tryz.call58 Tryz.func58 rfl Tryz.ntmps58 kz fun aK ar=>?_)
 have au:=ar.recast 0 (.v (.pointer (some ⟨b7,0,none⟩))) (.p 0 0) rfl rfl (Nat.le_of_ble_eq_true (n:=1) rfl)
 refine qaq [] aa au fun aL av=>?_
 refine qaq [(2,.v (.int .i16 2))] aa av fun aM aw=>?_
 refine wp_ret ?_
 refine qaB aw aa.cells (v:=.int .i16 2) kz ?_
 refine ⟨_,rfl,fun aN ax=>?_⟩
 have ay:=(EnvOk.places (tb':=[⟨b7,0,[.int .i16 0,.int .i32 60000,.slice none 0 0,.bool false,.map none],true⟩]) ax (show Pl [⟨b7,0,[.int .i16 0,.int .i32 60000,.slice none 0 0,.bool false,.map none],true⟩] [⟨b7,0,[.int .i16 0,.int .i32 60000,.slice none 0 0,.bool false,.map none],true⟩] from ⟨rfl,rfl,trivial⟩)).pk (env':=[(2,.v (.int .i16 2)),(1,.p 0 0)])
 refine qaj [2,3] [] [(0,.v (.int .i64 2))] aa ay fun aO az=>?_
 refine qae (qab ?_)
 refine wp_ret ?_
 refine qaB az aa.cells (v:=.int .i64 2) kz ?_
 exact ⟨rfl,aa.step⟩
theorem qcu:depths sUpdateFeaturesRequestF ≤ 8:=by simp [sUpdateFeaturesRequestF,Fld.depth.depths,Fld.depth]
theorem qck (A:Option Addr) (c:Nat) (v:Int) (w:World):Calls Tryz.prog 19 #[.agg #[.slice A sUpdateFeaturesRequestF.length c,.int .i64 qaf],.int .i64 v] w (qcl w (.bool (decide (v ≥ qaf)))):=by
 refine enter (n:=14) Tryz.func19 rfl Tryz.ntmps19 kz fun a hE=>?_
 have hW:=WOk.start w Nil
 refine qad [0,1] kz ?_
 refine qam (qbc hW hE (d:=2) (cs:=[.slice A sUpdateFeaturesRequestF.length c,.int .i64 qaf]) kz fun b1 a2 w3 hb4 hz5 hF6 hW7 hE8=>?_)
 refine qaj [1] [] [(1,.v (.int .i64 v)),(2,.p 0 0)] hW7 hE8 fun a9 aa=>?_
 refine qae (qab ?_)
 refine qad [0,1,2,3,4,5,6,7,8,9] kz ?_
 refine qaj [0,1,2,3] [4,5,6,7,8,9] [(1,.v (.int .i64 v)),(2,.p 0 0),(8,.v (.bool (decide (qaf ≥ 0))))] hW7 aa fun ag ab=>?_
 have ac:(decide (qaf ≥ 0)) = true:=by decide
 have ae:=ab.cast (env':=[(1,.v (.int .i64 v)),(2,.p 0 0),(8,.v (.bool true))]) (by rw [ac])
 refine qaj [4,5,6,7,8,9] [] [(4,.v (.bool (decide (v ≥ qaf))))] hW7 ae fun ah af=>?_
 refine qae (qab ?_)
 refine wp_ret ?_
 refine qaB af hW7.cells (v:=.bool (decide (v ≥ qaf))) kz ?_
 exact ⟨rfl,hW7.step⟩
set_option maxHeartbeats 4000000 in
theorem qcV (x:Int) (hx:0 ≤ x) (hx':x < 256) (has:Bool) (txt:ByteArray) (htl:txt.size ≤ 1048576) (num:Int) (ct:List Value) (t:Tree) (w:World) (F:Nat → Nat → Prop) (ht:TreeR w F ct t) (hroom1:(qa4 8 sUpdateFeaturesRequestF qaf (Int.tmod x (2 + 1)) t).length + 1048700 ≤ 1099511627776) (hcan:qa0 (fitT (Int.tmod x (2 + 1)) 8 sUpdateFeaturesRequestF t)) (hkey:Tree.ranged (fitT (Int.tmod x (2 + 1)) 8 sUpdateFeaturesRequestF t)) (hfr:(qa1 57 (IntKind.i16.wrap (Int.tmod x (2 + 1))) num has (sb txt) (decide ((IntKind.i16.wrap (Int.tmod x (2 + 1))) ≥ 0)) (qa4 8 sUpdateFeaturesRequestF qaf (Int.tmod x (2 + 1)) t)) = (qa1 57 (Int.tmod x (2 + 1)) num has (sb txt) (decide ((Int.tmod x (2 + 1)) ≥ qaf)) (qa4 8 sUpdateFeaturesRequestF qaf (Int.tmod x (2 + 1)) t))) (hpure:qah (IntKind.i16.wrap (Int.tmod x (2 + 1))) (fitT (Int.tmod x (2 + 1)) 8 sUpdateFeaturesRequestF t) = qa4 8 sUpdateFeaturesRequestF qaf (Int.tmod x (2 + 1)) t) :
  Calls Tryz.prog 6 #[.int .u8 x,.agg #[.bool has,.string txt],.int .i32 num,.agg ct.toArray] w (qcl w (.bool true)):=by
 obtain ⟨n1,s2,b3,l4,u5,A6,c7,A8,c9,aX,aY,db,rfl,rfl,dc,de,ef,eg⟩:=ht.open_
 have cU:=dc.small
 have cV:=de.small
 refine enter (n:=63) Tryz.func6 rfl Tryz.ntmps6 kz fun a hE=>?_
 have hW:=WOk.start w Nil
 refine qad [0,1,2] kz ?_
 refine qam (qbc hW hE (d:=5) (cs:=[.bool has,.string txt]) kz fun df eh ei dg dh di cu cv=>?_)
 refine qam (qbc cu cv (d:=7) (cs:=[.int .i64 n1,.slice A6 s2.length c7,.bool b3,.slice A8 l4.length c9,.slice aX u5.length aY]) kz fun dj ej ek dl dp dq aD cw=>?_)
 refine qaj [2] [] [(0,.v (.int .u8 x)),(2,.v (.int .i32 num)),(5,.p 0 0),(7,.p 1 0)] aD cw fun em cz=>?_
 refine qae (qab ?_)
 refine wp_seq ?_
 refine qad [0,1,2,3,4,5,6,7] kz ?_
 refine qaj [0] [1,2,3,4,5,6,7] [(0,.v (.int .u8 x)),(2,.v (.int .i32 num)),(5,.p 0 0),(7,.p 1 0),(15,.v (.agg #[.bool has,.string txt]))] aD cz fun eo cA=>?_
 refine qam (qal cA (f:=10) (vs:=[.agg #[.bool has,.string txt]]) (d:=16) kz Tryz.call10 (qlK _ _ htl _) ?_)
 rintro e_ ep ⟨rfl,aZ⟩
 refine ⟨_,rfl,fun eu cB=>?_⟩
 have ap:=aD.next_nil aZ
 have dr:=aD.frN aZ
 refine qaj [2,3,4] [5,6,7] [(0,.v (.int .u8 x)),(2,.v (.int .i32 num)),(5,.p 0 0),(7,.p 1 0),(18,.v (.bool false)),(19,.v (.agg #[.int .i64 n1,.slice A6 s2.length c7,.bool b3,.slice A8 l4.length c9,.slice aX u5.length aY]))] ap cB fun ev cC=>?_
 refine qam (qal cC (f:=11) (vs:=[.agg #[.int .i64 n1,.slice A6 s2.length c7,.bool b3,.slice A8 l4.length c9,.slice aX u5.length aY]]) (d:=20) kz Tryz.call11 (qlJ _ _ _ _ (ht.move ap.step nilM ap.imm)) ?_)
 rintro e_ ew ⟨cW,rfl,ba⟩
 refine ⟨_,rfl,fun ey cD=>?_⟩
 have ao:=ap.next_nil ba
 have dt:=ap.frN ba
 refine qaj [6,7] [] [(0,.v (.int .u8 x)),(2,.v (.int .i32 num)),(5,.p 0 0),(7,.p 1 0),(22,.v (.bool (!cW)))] ao cD fun ez aS=>?_
 refine qae (qab ?_)
 refine qaw aS (b:=!cW) kz (fun cE=>?_) (fun cE=>?_)
 ·
  refine qaq [(8,.v (.bool true))] ao aS fun eB cG=>?_
  refine wp_ret ?_
  refine qaA ?_
  refine qaB cG ao.cells (v:=.bool true) kz ?_
  exact ⟨rfl,ao.step⟩
 refine wp_skip ?_
 refine qab ?_
 refine qad [0,1] kz ?_
 refine qam (qal aS (f:=26) (vs:=[]) (d:=23) kz Tryz.call26 (qda _) ?_)
 rintro e_ du ⟨rfl,bd⟩
 refine ⟨_,rfl,fun eC cH=>?_⟩
 have ar:=ao.next_nil bd
 have dv:=ao.frN bd
 refine qaj [1] [] [(0,.v (.int .u8 x)),(2,.v (.int .i32 num)),(5,.p 0 0),(7,.p 1 0),(9,.v (.int .i64 2))] ar cH fun eD cI=>?_
 refine qae (qab ?_)
 refine wp_seq ?_
 refine qaq [(0,.v (.int .u8 x)),(2,.v (.int .i32 num)),(5,.p 0 0),(7,.p 1 0),(9,.v (.int .i64 2)),(25,.v (.bool false))] ar cI fun eE bf=>?_
 refine qat bf (b:=false) kz rfl ?_
 refine wp_skip ?_
 refine qab ?_
 refine qad [0,1,2,3,4,5,6] kz ?_
 refine qam (qal bf (f:=27) (vs:=[]) (d:=26) kz Tryz.call27 (qc9 _ (Imm F w du [⟨df,0,[.bool has,.string txt],true⟩,⟨dj,0,[.int .i64 n1,.slice A6 s2.length c7,.bool b3,.slice A8 l4.length c9,.slice aX u5.length aY],true⟩] [])) ?_)
 rintro e_ eF ⟨aT,aU,rfl,cJ,aV⟩
 obtain ⟨cK,dw,dx⟩:=cJ.move (Step.refl _ Nil) nilM (ar.laid (G:=F) aV)
 refine ⟨_,rfl,fun eG cL=>?_⟩
 have aW:=ar.next_nil aV
 have dy:=ar.frN aV
 refine qaj [1,2] [3,4,5,6] [(2,.v (.int .i32 num)),(5,.p 0 0),(7,.p 1 0),(26,.v (.agg #[.slice aT sUpdateFeaturesRequestF.length aU,.int .i64 qaf])),(27,.v (.int .u8 x)),(28,.v (.int .i64 2))] aW cL fun eH cM=>?_
 refine qam (qal cM (f:=14) (vs:=[.int .u8 x,.int .i64 2]) (d:=29) kz Tryz.call14 (qjX x 2 hx hx' (by decide) (by decide) _) ?_)
 rintro e_ eI ⟨rfl,bg⟩
 refine ⟨_,rfl,fun eJ cN=>?_⟩
 have cO:=aW.next_nil bg
 have aE:=aW.frN bg
 refine qam (qa9 cO cN (d:=10) (cs:=[.slice none 0 0,.int .i64 0]) kz fun eK eL eM dz dA aF cP bh=>?_)
 refine qam (qaJ cP bh (oi:=2) (cs:=[.slice aT sUpdateFeaturesRequestF.length aU,.int .i64 qaf]) kz fun dB ah aa bi=>?_)
 refine qaj [6] [] [(2,.v (.int .i32 num)),(5,.p 0 0),(7,.p 1 0),(10,.p 2 0),(11,.v (.int .i64 (Int.tmod x (2 + 1))))] aa bi fun dC bj=>?_
 refine qae (qab ?_)
 refine wp_seq ?_
 refine qaq [(2,.v (.int .i32 num)),(5,.p 0 0),(7,.p 1 0),(10,.p 2 0),(11,.v (.int .i64 (Int.tmod x (2 + 1)))),(33,.v (.bool (decide ((txt.size:Int) > 32767))))] aa bj fun dD au=>?_
 refine qaw au (b:=decide ((txt.size:Int) > 32767)) kz (fun av=>?_) (fun av=>?_)
 ·
  have cX:=of_decide_eq_true av
  refine qaq [(8,.v (.bool true))] aa au fun dE bk=>?_
  refine wp_ret ?_
  refine qaA ?_
  refine qaB bk aa.cells (v:=.bool true) kz ?_
  exact ⟨rfl,aa.step⟩
 have cY:=of_decide_eq_false av
 refine wp_skip ?_
 refine qab ?_
 refine qad [0,1,2,3,4] kz ?_
 refine qaj [0,1,2] [3,4] [(2,.v (.int .i32 num)),(5,.p 0 0),(10,.p 2 0),(11,.v (.int .i64 (Int.tmod x (2 + 1)))),(34,.v (.agg #[.slice aT sUpdateFeaturesRequestF.length aU,.int .i64 qaf])),(35,.v (.int .i64 (Int.tmod x (2 + 1)))),(36,.v (.agg #[.int .i64 n1,.slice A6 s2.length c7,.bool b3,.slice A8 l4.length c9,.slice aX u5.length aY]))] aa au fun dF bn=>?_
 refine qam (qal bn (f:=15) (vs:=[.agg #[.slice aT sUpdateFeaturesRequestF.length aU,.int .i64 qaf],.int .i64 (Int.tmod x (2 + 1)),.agg #[.int .i64 n1,.slice A6 s2.length c7,.bool b3,.slice A8 l4.length c9,.slice aX u5.length aY]]) (d:=37) kz Tryz.call15 (qls _ _ sUpdateFeaturesRequestF qaf (Int.tmod x (2 + 1)) _ (Tree.mk n1 s2 b3 l4 u5) _ _ ⟨cK,(dw.move ((aE.trans aF).trans ah).step immM ((aE.trans aF).trans ah).to'),(fun i_ x_ h_=>((dx i_ x_ h_).move ((aE.trans aF).trans ah).step immM ((aE.trans aF).trans ah).to'))⟩ qcu (ht.move aa.step nilM aa.imm) (Nat.le_trans (Nat.le_add_right _ _) hroom1)) ?_)
 rintro e_ dG ⟨ab,ac,rfl,bo,bp⟩
 refine ⟨_,rfl,fun dH bq=>?_⟩
 obtain ⟨ai,cZ⟩:=aa.frFresh bp (brow ab ac 5 (qa4 8 sUpdateFeaturesRequestF qaf (Int.tmod x (2 + 1)) (Tree.mk n1 s2 b3 l4 u5))) (Nat.le_refl _) bo
 refine qaj [4] [] [(2,.v (.int .i32 num)),(5,.p 0 0),(10,.p 2 0),(11,.v (.int .i64 (Int.tmod x (2 + 1)))),(12,.v (.slice ab ((qa4 8 sUpdateFeaturesRequestF qaf (Int.tmod x (2 + 1)) (Tree.mk n1 s2 b3 l4 u5)).length) ac))] ai bq fun dI bt=>?_
 refine qae (qab ?_)
 refine qad [0,1,2,3,4,5,6,7,8,9] kz ?_
 refine qaj [0,1,2,3] [4,5,6,7,8,9] [(2,.v (.int .i32 num)),(5,.p 0 0),(10,.p 2 0),(11,.v (.int .i64 (Int.tmod x (2 + 1)))),(12,.v (.slice ab ((qa4 8 sUpdateFeaturesRequestF qaf (Int.tmod x (2 + 1)) (Tree.mk n1 s2 b3 l4 u5)).length) ac)),(39,.v (.agg #[.bool has,.string txt])),(40,.v (.int .i32 num)),(41,.v (.int .i64 (Int.tmod x (2 + 1)))),(42,.v (.slice ab ((qa4 8 sUpdateFeaturesRequestF qaf (Int.tmod x (2 + 1)) (Tree.mk n1 s2 b3 l4 u5)).length) ac))] ai bt fun dJ bu=>?_
 refine qam (qal bu (f:=28) (vs:=[.agg #[.bool has,.string txt],.int .i32 num,.int .i64 (Int.tmod x (2 + 1)),.slice ab ((qa4 8 sUpdateFeaturesRequestF qaf (Int.tmod x (2 + 1)) (Tree.mk n1 s2 b3 l4 u5)).length) ac]) (d:=43) kz Tryz.call28 (qcU has txt num (Int.tmod x (2 + 1)) _ (qa4 8 sUpdateFeaturesRequestF qaf (Int.tmod x (2 + 1)) (Tree.mk n1 s2 b3 l4 u5)) hpure (qcn (ai.own 0 _ rfl) (by first | omega | (rw [qbj]; decide) | (simp only [be_length]; exact Nat.le_trans (qa3 _) (by decide)) | (have:=hroom; omega) | (have:=hmade; omega) | (simp only [List.length_append,List.length_nil]; omega)) (F:=fun _ _=>True) (fun _ _ _=>trivial)) hcan hkey (by omega) (by first | omega | (have:=hroom1; omega))) ?_)
 rintro e_ dK ⟨aw,ax,rfl,aG,bw⟩
 rw [hfr] at aG
 rw [hfr]
 refine ⟨_,rfl,fun dL bx=>?_⟩
 have hfl:=qji (key:=57) (v:=(Int.tmod x (2 + 1))) (num:=num) (has:=has) (txt:=sb txt) (flex:=decide ((Int.tmod x (2 + 1)) ≥ qaf)) (body:=(qa4 8 sUpdateFeaturesRequestF qaf (Int.tmod x (2 + 1)) (Tree.mk n1 s2 b3 l4 u5)))
 have hsl:=qbC txt
 obtain ⟨aH,c5⟩:=ai.frFresh bw (brow aw ax 5 (qa1 57 (Int.tmod x (2 + 1)) num has (sb txt) (decide ((Int.tmod x (2 + 1)) ≥ qaf)) (qa4 8 sUpdateFeaturesRequestF qaf (Int.tmod x (2 + 1)) (Tree.mk n1 s2 b3 l4 u5)))) (Nat.le_refl _) aG
 refine qaj [5,6,7,8,9] [] [(2,.v (.int .i32 num)),(5,.p 0 0),(10,.p 2 0),(11,.v (.int .i64 (Int.tmod x (2 + 1)))),(12,.v (.slice ab ((qa4 8 sUpdateFeaturesRequestF qaf (Int.tmod x (2 + 1)) (Tree.mk n1 s2 b3 l4 u5)).length) ac)),(13,.v (.slice aw ((qa1 57 (Int.tmod x (2 + 1)) num has (sb txt) (decide ((Int.tmod x (2 + 1)) ≥ qaf)) (qa4 8 sUpdateFeaturesRequestF qaf (Int.tmod x (2 + 1)) (Tree.mk n1 s2 b3 l4 u5))).length) ax)),(14,.v (.bool true))] aH bx fun dM bz=>?_
 refine qae (qab ?_)
 refine qbe 17 kz aH fun dN da ay bA=>?_
 refine qaY [0,1,2,3,4,5,6,7,8,10,11,13] [(47,.v (.bool true)),(48,.v (.slice aw ((qa1 57 (Int.tmod x (2 + 1)) num has (sb txt) (decide ((Int.tmod x (2 + 1)) ≥ qaf)) (qa4 8 sUpdateFeaturesRequestF qaf (Int.tmod x (2 + 1)) (Tree.mk n1 s2 b3 l4 u5))).length) ax)),(49,.v (.int .i64 (Int.tmod x (2 + 1)))),(50,.v (.int .i32 num)),(52,.v (.bool has)),(54,.v (.string txt)),(56,.v (.agg #[.slice aT sUpdateFeaturesRequestF.length aU,.int .i64 qaf])),(57,.v (.int .i64 (Int.tmod x (2 + 1)))),(59,.v (.slice ab ((qa4 8 sUpdateFeaturesRequestF qaf (Int.tmod x (2 + 1)) (Tree.mk n1 s2 b3 l4 u5)).length) ac))] 6 (qac qai) (fun _ h=>h.cells) bA bz fun dO aI=>?_
 refine qeo (i:=9) (j:=12) kz ?_ ?_
 ·
  refine (qfu (d:=55) (src:=9) (dst:=24) (e:=5) (s:=txt) ay aI (by omega) fun cQ cR dP dQ aj az bB bC=>?_)
  have bD:=bB F
  have bE:=TT.ofW aj az
  refine ⟨fun _=>bE,?_⟩
  refine qaL (i:=12) kz (qal bC (f:=19) (vs:=[.agg #[.slice aT sUpdateFeaturesRequestF.length aU,.int .i64 qaf],.int .i64 (Int.tmod x (2 + 1))]) (d:=58) kz Tryz.call19 (qck _ _ _ _) ?_)
  rintro e_ dR ⟨rfl,aJ⟩
  refine ⟨_,rfl,fun dS bF=>?_⟩
  have aA:=az.next_nil aJ
  have ae:=az.frN aJ
  have bG:=TT.ofW (aj.trans ae) aA
  refine ⟨fun _=>bG,?_⟩
  refine qaL (i:=14) kz (qal bF (f:=18) (vs:=[.int .i64 57,.int .i64 (Int.tmod x (2 + 1)),.int .i32 num,.bool has,.slice (some ⟨cQ,0,none⟩) ((sb txt).length) cR,.bool (decide ((Int.tmod x (2 + 1)) ≥ qaf)),.slice ab ((qa4 8 sUpdateFeaturesRequestF qaf (Int.tmod x (2 + 1)) (Tree.mk n1 s2 b3 l4 u5)).length) ac]) (d:=60) kz Tryz.call18 (qkn 57 (Int.tmod x (2 + 1)) num has (decide ((Int.tmod x (2 + 1)) ≥ qaf)) _ _ (sb txt) _ _ (qa4 8 sUpdateFeaturesRequestF qaf (Int.tmod x (2 + 1)) (Tree.mk n1 s2 b3 l4 u5)) _ (fun _ _=>True) ((bD.move ae.step immM ae.to').move (Step.refl _ Nil) nilM allF) (qcn (aA.own 0 _ rfl) (by first | omega | (rw [qbj]; decide) | (simp only [be_length]; exact Nat.le_trans (qa3 _) (by decide)) | (have:=hroom; omega) | (have:=hmade; omega) | (simp only [List.length_append,List.length_nil]; omega)) (F:=fun _ _=>True) (fun _ _ _=>trivial)) (by first | omega | (have:=hroom1; simp only [qbC]; omega))) ?_)
  rintro e_ dT ⟨bH,bI,rfl,bJ,bK⟩
  refine ⟨_,rfl,fun dU bL=>?_⟩
  obtain ⟨af,aK⟩:=aA.frFresh bK (brow bH bI 5 (qa1 57 (Int.tmod x (2 + 1)) num has (sb txt) (decide ((Int.tmod x (2 + 1)) ≥ qaf)) (qa4 8 sUpdateFeaturesRequestF qaf (Int.tmod x (2 + 1)) (Tree.mk n1 s2 b3 l4 u5)))) (Nat.le_refl _) bJ
  have bM:=TT.ofW ((aj.trans ae).trans aK) af
  refine ⟨fun _=>bM,?_⟩
  refine qaL (i:=15) kz (qal bL (f:=17) (vs:=[.slice aw ((qa1 57 (Int.tmod x (2 + 1)) num has (sb txt) (decide ((Int.tmod x (2 + 1)) ≥ qaf)) (qa4 8 sUpdateFeaturesRequestF qaf (Int.tmod x (2 + 1)) (Tree.mk n1 s2 b3 l4 u5))).length) ax,.slice bH ((qa1 57 (Int.tmod x (2 + 1)) num has (sb txt) (decide ((Int.tmod x (2 + 1)) ≥ qaf)) (qa4 8 sUpdateFeaturesRequestF qaf (Int.tmod x (2 + 1)) (Tree.mk n1 s2 b3 l4 u5))).length) bI]) (d:=61) kz Tryz.call17 (qkM _ _ _ _ (qa1 57 (Int.tmod x (2 + 1)) num has (sb txt) (decide ((Int.tmod x (2 + 1)) ≥ qaf)) (qa4 8 sUpdateFeaturesRequestF qaf (Int.tmod x (2 + 1)) (Tree.mk n1 s2 b3 l4 u5))) (qa1 57 (Int.tmod x (2 + 1)) num has (sb txt) (decide ((Int.tmod x (2 + 1)) ≥ qaf)) (qa4 8 sUpdateFeaturesRequestF qaf (Int.tmod x (2 + 1)) (Tree.mk n1 s2 b3 l4 u5))) _ _ (qcn (af.own 1 _ rfl) (by first | omega | (rw [qbj]; decide) | (simp only [be_length]; exact Nat.le_trans (qa3 _) (by decide)) | (have:=hroom; omega) | (have:=hmade; omega) | (simp only [List.length_append,List.length_nil]; omega)) (F:=fun _ _=>True) (fun _ _ _=>trivial)) (qcn (af.own 2 _ rfl) (by first | omega | (rw [qbj]; decide) | (simp only [be_length]; exact Nat.le_trans (qa3 _) (by decide)) | (have:=hroom; omega) | (have:=hmade; omega) | (simp only [List.length_append,List.length_nil]; omega)) (F:=fun _ _=>True) (fun _ _ _=>trivial))) ?_)
  rintro e_ dV ⟨rfl,aL⟩
  refine ⟨_,rfl,fun dW bN=>?_⟩
  have ak:=af.next_nil aL
  have bO:=af.frN aL
  have aM:=TT.ofW (((aj.trans ae).trans aK).trans bO) ak
  refine ⟨fun _=>aM,?_⟩
  refine qaY [16] [(62,.v (.bool (decide ((qa1 57 (Int.tmod x (2 + 1)) num has (sb txt) (decide ((Int.tmod x (2 + 1)) ≥ qaf)) (qa4 8 sUpdateFeaturesRequestF qaf (Int.tmod x (2 + 1)) (Tree.mk n1 s2 b3 l4 u5))) = qa1 57 (Int.tmod x (2 + 1)) num has (sb txt) (decide ((Int.tmod x (2 + 1)) ≥ qaf)) (qa4 8 sUpdateFeaturesRequestF qaf (Int.tmod x (2 + 1)) (Tree.mk n1 s2 b3 l4 u5))))))] 1 (qac qai) (fun _ h=>h.cells) aM bN fun dX bP=>?_
  refine qaL (i:=17) kz (qb4 [8] ak.cells bP (env':=[(8,.v (.bool (decide ((qa1 57 (Int.tmod x (2 + 1)) num has (sb txt) (decide ((Int.tmod x (2 + 1)) ≥ qaf)) (qa4 8 sUpdateFeaturesRequestF qaf (Int.tmod x (2 + 1)) (Tree.mk n1 s2 b3 l4 u5))) = qa1 57 (Int.tmod x (2 + 1)) num has (sb txt) (decide ((Int.tmod x (2 + 1)) ≥ qaf)) (qa4 8 sUpdateFeaturesRequestF qaf (Int.tmod x (2 + 1)) (Tree.mk n1 s2 b3 l4 u5))))))]) kz fun dY bQ=>?_)
  refine ⟨fun h=>absurd rfl h,?_⟩
  refine qaT kz ?_ _
  refine qab ?_
  refine wp_ret ?_
  refine qaB bQ ak.cells (v:=.bool (decide ((qa1 57 (Int.tmod x (2 + 1)) num has (sb txt) (decide ((Int.tmod x (2 + 1)) ≥ qaf)) (qa4 8 sUpdateFeaturesRequestF qaf (Int.tmod x (2 + 1)) (Tree.mk n1 s2 b3 l4 u5))) = qa1 57 (Int.tmod x (2 + 1)) num has (sb txt) (decide ((Int.tmod x (2 + 1)) ≥ qaf)) (qa4 8 sUpdateFeaturesRequestF qaf (Int.tmod x (2 + 1)) (Tree.mk n1 s2 b3 l4 u5))))) kz ?_
  exact ⟨by simp,ak.step⟩
 refine (qal aI (f:=19) (vs:=[.agg #[.slice aT sUpdateFeaturesRequestF.length aU,.int .i64 qaf],.int .i64 (Int.tmod x (2 + 1))]) (d:=58) kz Tryz.call19 (qck _ _ _ _) ?_)
 rintro e_ dZ ⟨rfl,aN⟩
 refine ⟨_,rfl,fun d5 bR=>?_⟩
 have aO:=ay.next_nil aN
 have al:=ay.frN aN
 have bS:=TT.ofW al aO
 refine ⟨fun _=>bS,?_⟩
 refine qaL (i:=9) kz (qfu (d:=55) (src:=9) (dst:=24) (e:=5) (s:=txt) aO bR (by omega) fun cS cT d6 d7 aB aC bT bU=>?_)
 have bV:=bT F
 have bW:=TT.ofW (al.trans aB) aC
 refine ⟨fun _=>bW,?_⟩
 refine qaL (i:=14) kz (qal bU (f:=18) (vs:=[.int .i64 57,.int .i64 (Int.tmod x (2 + 1)),.int .i32 num,.bool has,.slice (some ⟨cS,0,none⟩) ((sb txt).length) cT,.bool (decide ((Int.tmod x (2 + 1)) ≥ qaf)),.slice ab ((qa4 8 sUpdateFeaturesRequestF qaf (Int.tmod x (2 + 1)) (Tree.mk n1 s2 b3 l4 u5)).length) ac]) (d:=60) kz Tryz.call18 (qkn 57 (Int.tmod x (2 + 1)) num has (decide ((Int.tmod x (2 + 1)) ≥ qaf)) _ _ (sb txt) _ _ (qa4 8 sUpdateFeaturesRequestF qaf (Int.tmod x (2 + 1)) (Tree.mk n1 s2 b3 l4 u5)) _ (fun _ _=>True) (bV.move (Step.refl _ Nil) nilM allF) (qcn (aC.own 0 _ rfl) (by first | omega | (rw [qbj]; decide) | (simp only [be_length]; exact Nat.le_trans (qa3 _) (by decide)) | (have:=hroom; omega) | (have:=hmade; omega) | (simp only [List.length_append,List.length_nil]; omega)) (F:=fun _ _=>True) (fun _ _ _=>trivial)) (by first | omega | (have:=hroom1; simp only [qbC]; omega))) ?_)
 rintro e_ d8 ⟨bX,bY,rfl,bZ,b8⟩
 refine ⟨_,rfl,fun d9 cd=>?_⟩
 obtain ⟨ag,aP⟩:=aC.frFresh b8 (brow bX bY 5 (qa1 57 (Int.tmod x (2 + 1)) num has (sb txt) (decide ((Int.tmod x (2 + 1)) ≥ qaf)) (qa4 8 sUpdateFeaturesRequestF qaf (Int.tmod x (2 + 1)) (Tree.mk n1 s2 b3 l4 u5)))) (Nat.le_refl _) bZ
 have ce:=TT.ofW ((al.trans aB).trans aP) ag
 refine ⟨fun _=>ce,?_⟩
 refine qaL (i:=15) kz (qal cd (f:=17) (vs:=[.slice aw ((qa1 57 (Int.tmod x (2 + 1)) num has (sb txt) (decide ((Int.tmod x (2 + 1)) ≥ qaf)) (qa4 8 sUpdateFeaturesRequestF qaf (Int.tmod x (2 + 1)) (Tree.mk n1 s2 b3 l4 u5))).length) ax,.slice bX ((qa1 57 (Int.tmod x (2 + 1)) num has (sb txt) (decide ((Int.tmod x (2 + 1)) ≥ qaf)) (qa4 8 sUpdateFeaturesRequestF qaf (Int.tmod x (2 + 1)) (Tree.mk n1 s2 b3 l4 u5))).length) bY]) (d:=61) kz Tryz.call17 (qkM _ _ _ _ (qa1 57 (Int.tmod x (2 + 1)) num has (sb txt) (decide ((Int.tmod x (2 + 1)) ≥ qaf)) (qa4 8 sUpdateFeaturesRequestF qaf (Int.tmod x (2 + 1)) (Tree.mk n1 s2 b3 l4 u5))) (qa1 57 (Int.tmod x (2 + 1)) num has (sb txt) (decide ((Int.tmod x (2 + 1)) ≥ qaf)) (qa4 8 sUpdateFeaturesRequestF qaf (Int.tmod x (2 + 1)) (Tree.mk n1 s2 b3 l4 u5))) _ _ (qcn (ag.own 1 _ rfl) (by first | omega | (rw [qbj]; decide) | (simp only [be_length]; exact Nat.le_trans (qa3 _) (by decide)) | (have:=hroom; omega) | (have:=hmade; omega) | (simp only [List.length_append,List.length_nil]; omega)) (F:=fun _ _=>True) (fun _ _ _=>trivial)) (qcn (ag.own 2 _ rfl) (by first | omega | (rw [qbj]; decide) | (simp only [be_length]; exact Nat.le_trans (qa3 _) (by decide)) | (have:=hroom; omega) | (have:=hmade; omega) | (simp only [List.length_append,List.length_nil]; omega)) (F:=fun _ _=>True) (fun _ _ _=>trivial))) ?_)
 rintro e_ ea ⟨rfl,aQ⟩
 refine ⟨_,rfl,fun eb cg=>?_⟩
 have am:=ag.next_nil aQ
 have cm:=ag.frN aQ
 have aR:=TT.ofW (((al.trans aB).trans aP).trans cm) am
 refine ⟨fun _=>aR,?_⟩
 refine qaY [16] [(62,.v (.bool (decide ((qa1 57 (Int.tmod x (2 + 1)) num has (sb txt) (decide ((Int.tmod x (2 + 1)) ≥ qaf)) (qa4 8 sUpdateFeaturesRequestF qaf (Int.tmod x (2 + 1)) (Tree.mk n1 s2 b3 l4 u5))) = qa1 57 (Int.tmod x (2 + 1)) num has (sb txt) (decide ((Int.tmod x (2 + 1)) ≥ qaf)) (qa4 8 sUpdateFeaturesRequestF qaf (Int.tmod x (2 + 1)) (Tree.mk n1 s2 b3 l4 u5))))))] 1 (qac qai) (fun _ h=>h.cells) aR cg fun ec cq=>?_
 refine qaL (i:=17) kz (qb4 [8] am.cells cq (env':=[(8,.v (.bool (decide ((qa1 57 (Int.tmod x (2 + 1)) num has (sb txt) (decide ((Int.tmod x (2 + 1)) ≥ qaf)) (qa4 8 sUpdateFeaturesRequestF qaf (Int.tmod x (2 + 1)) (Tree.mk n1 s2 b3 l4 u5))) = qa1 57 (Int.tmod x (2 + 1)) num has (sb txt) (decide ((Int.tmod x (2 + 1)) ≥ qaf)) (qa4 8 sUpdateFeaturesRequestF qaf (Int.tmod x (2 + 1)) (Tree.mk n1 s2 b3 l4 u5))))))]) kz fun ee cr=>?_)
 refine ⟨fun h=>absurd rfl h,?_⟩
 refine qaT kz ?_ _
 refine qab ?_
 refine wp_ret ?_
 refine qaB cr am.cells (v:=.bool (decide ((qa1 57 (Int.tmod x (2 + 1)) num has (sb txt) (decide ((Int.tmod x (2 + 1)) ≥ qaf)) (qa4 8 sUpdateFeaturesRequestF qaf (Int.tmod x (2 + 1)) (Tree.mk n1 s2 b3 l4 u5))) = qa1 57 (Int.tmod x (2 + 1)) num has (sb txt) (decide ((Int.tmod x (2 + 1)) ≥ qaf)) (qa4 8 sUpdateFeaturesRequestF qaf (Int.tmod x (2 + 1)) (Tree.mk n1 s2 b3 l4 u5))))) kz ?_
 exact ⟨by simp,am.step⟩
theorem qcF (x:Int) (hx:0 ≤ x ∧ x ≤ 255) (has:Bool) (txt:ByteArray) (num:Int) (ct:List Value) (t:Tree) (w:World) (F:Nat → Nat → Prop) (htl:txt.size ≤ 1048576) (hnum:-2147483648 ≤ num ∧ num ≤ 2147483647) (ht:TreeR w F ct t) (hsz:t.size ≤ 8388608):Calls Tryz.prog 6 #[.int .u8 x,.agg #[.bool has,.string txt],.int .i32 num,.agg ct.toArray] w (qcl w (.bool true)):=by
 obtain ⟨g0,g1⟩:=qlm (m:=2 + 1) hx.1 hx.2 (by decide) (by decide)
 have hp:qah (IntKind.i16.wrap (Int.tmod x (2 + 1))) (fitT (Int.tmod x (2 + 1)) 8 sUpdateFeaturesRequestF t) = qa4 8 sUpdateFeaturesRequestF qaf (Int.tmod x (2 + 1)) t:=by rw [qgk g0 g1]; exact qcP (Int.tmod x (2 + 1)) g0 g1 t
 have h1:=qiT 8 sUpdateFeaturesRequestF qaf (Int.tmod x (2 + 1)) t
 have h2:qgV sUpdateFeaturesRequestF ≤ 131000:=by decide +kernel
 have h3:=Nat.mul_le_mul h2 hsz
 exact qcV x hx.1 (by omega) has txt htl num ct t w F ht (by omega) (qcD (Int.tmod x (2 + 1)) t) (qhS _ _ _ _ ht.ranged) (by rw [qgk g0 g1]; rfl) hp
end Go.Proofs.YtogokkkdfcgncaaGreatDoor.ME